import PyProof.Rows.All
import Wide.All
import OpenK.AllK
import Wide.FinOn
import Wide.BytesFacts
import PySem.Challenge.RW_xn0018_01
set_option Elab.async false
section
open PySem PySem.W PySem.Calls PySem.Spec PyProof.Rows
set_option Elab.async false
set_option linter.unusedVariables false
namespace Mine

/-- plain data -/
inductive D where
  | none
  | bool (b : Bool)
  | int (i : Int)
  | str (s : Str)
  | bytes (b : Array UInt8)
  | list (xs : List D)
  | tup (xs : List D)
  | dic (es : List (Str × D))
  | opq (v : Value)
  | tab (C H : Addr)
  | tabf (C : Addr) (xs : List D)

noncomputable abbrev Vis := Addr → Obj → Prop

/-- value v bears datum d, by the objects that V shows -/
inductive Holds (P : Params) (V : Vis) : Value → D → Prop where
  | none : Holds P V .none .none
  | bool {b} : Holds P V (.bool b) (.bool b)
  | int {i t} : Holds P V (.int i t) (.int i)
  | str {s t} : Holds P V (.str s t) (.str s)
  | bytes {b t} : Holds P V (.bytes b t) (.bytes b)
  | opq {v} : Holds P V v (.opq v)
  | list {a : Addr} {vs : Array Value} {n : Nat} {ds : List D} (hv : V a { cls := .type "list", data := .seq vs n }) (hl : vs.size = ds.length)
      (hi : ∀ (i : Nat) (v : Value) (d : D), vs[i]? = some v → ds[i]? = some d → Holds P V v d) : Holds P V (.ref a) (.list ds)
  | tup {a : Addr} {vs : Array Value} {n : Nat} {ds : List D} (hv : V a { cls := .type "tuple", data := .seq vs n }) (hl : vs.size = ds.length)
      (hi : ∀ (i : Nat) (v : Value) (d : D), vs[i]? = some v → ds[i]? = some d → Holds P V v d) : Holds P V (.ref a) (.tup ds)
  | dic {a : Addr} {o : Obj} {es : Array DictEntry} {n : Nat} {ds : List (Str × D)} (hs : (a == sysModules) = false) (hv : V a o) (hx : o.ExactDict) (hd : o.data = .dict es n) (hl : es.size = ds.length)
      (hk : ∀ (i : Nat) (e : DictEntry) (d : Str × D), es[i]? = some e → ds[i]? = some d → (∃ t, e.key = .str d.1 t) ∧ e.hash = PyData.keyHash P d.1)
      (hi : ∀ (i : Nat) (e : DictEntry) (d : Str × D), es[i]? = some e → ds[i]? = some d → Holds P V e.val d.2) : Holds P V (.ref a) (.dic ds)

  | tab {x dx C H : Addr} {od : Obj} (hx : V x (instObj C dx)) (hd : V dx od) (hl : lookIn (Str.ofString "_headers") od = some (some (.ref H)))
      (hn : ∀ name, name ≠ Str.ofString "_headers" → lookIn name od = some none) : Holds P V (.ref x) (.tab C H)
  | tabf {x dx C H : Addr} {od : Obj} {vs : Array Value} {n : Nat} {ds : List D} (hx : V x (instObj C dx)) (hd : V dx od) (hl : lookIn (Str.ofString "_headers") od = some (some (.ref H)))
      (hn : ∀ name, name ≠ Str.ofString "_headers" → lookIn name od = some none) (hv : V H { cls := .type "list", data := .seq vs n }) (hz : vs.size = ds.length)
      (hi : ∀ (i : Nat) (v : Value) (d : D), vs[i]? = some v → ds[i]? = some d → Holds P V v d) : Holds P V (.ref x) (.tabf C ds)

theorem len0 {α : Type} {l : List α} (h : l.length = 0) : l = [] := List.length_eq_zero_iff.mp h
theorem lenS {α : Type} {n : Nat} {l : List α} (h : l.length = n + 1) : ∃ a t, l = a :: t ∧ t.length = n := by
  cases l with
  | nil => cases h
  | cons a t => exact ⟨a, t, rfl, Nat.succ.inj h⟩
theorem len1 {α : Type} {l : List α} (h : l.length = 1) : ∃ a, l = [a] := by
  obtain ⟨a, t, e, h1⟩ := lenS h
  exact ⟨a, by rw [e, len0 h1]⟩
theorem len2 {α : Type} {l : List α} (h : l.length = 2) : ∃ a b, l = [a, b] := by
  obtain ⟨a, t, e, h1⟩ := lenS h
  obtain ⟨b, e1⟩ := len1 h1
  exact ⟨a, b, by rw [e, e1]⟩
theorem len3 {α : Type} {l : List α} (h : l.length = 3) : ∃ a b c, l = [a, b, c] := by
  obtain ⟨a, t, e, h1⟩ := lenS h
  obtain ⟨b, c, e1⟩ := len2 h1
  exact ⟨a, b, c, by rw [e, e1]⟩
theorem len5 {α : Type} {l : List α} (h : l.length = 5) : ∃ a b c d e, l = [a, b, c, d, e] := by
  obtain ⟨a, t, e, h1⟩ := lenS h
  obtain ⟨b, t1, e1, h2⟩ := lenS h1
  obtain ⟨c, d, f, e2⟩ := len3 h2
  exact ⟨a, b, c, d, f, by rw [e, e1, e2]⟩
theorem len6 {α : Type} {l : List α} (h : l.length = 6) : ∃ a b c d e f, l = [a, b, c, d, e, f] := by
  obtain ⟨a, t, e, h1⟩ := lenS h
  obtain ⟨b, c, d, f, g, e1⟩ := len5 h1
  exact ⟨a, b, c, d, f, g, by rw [e, e1]⟩

/-! what a value that bears a datum is -/
theorem holds_int {P : Params} {V : Vis} {v : Value} {i : Int} (h : Holds P V v (.int i)) : ∃ t, v = .int i t := by cases h; exact ⟨_, rfl⟩
theorem holds_str {P : Params} {V : Vis} {v : Value} {x : Str} (h : Holds P V v (.str x)) : ∃ t, v = .str x t := by cases h; exact ⟨_, rfl⟩
theorem holds_bytes {P : Params} {V : Vis} {v : Value} {x : Array UInt8} (h : Holds P V v (.bytes x)) : ∃ t, v = .bytes x t := by cases h; exact ⟨_, rfl⟩
theorem holds_bool {P : Params} {V : Vis} {v : Value} {b : Bool} (h : Holds P V v (.bool b)) : v = .bool b := by cases h; rfl
theorem holds_none {P : Params} {V : Vis} {v : Value} (h : Holds P V v .none) : v = .none := by cases h; rfl
theorem holds_opq {P : Params} {V : Vis} {v x : Value} (h : Holds P V v (.opq x)) : v = x := by cases h; rfl
theorem holds_list {P : Params} {V : Vis} {v : Value} {ds : List D} (h : Holds P V v (.list ds)) : ∃ a vs n, v = .ref a ∧ V a { cls := .type "list", data := .seq vs n } ∧ vs.size = ds.length ∧
    ∀ (i : Nat) (v : Value) (d : D), vs[i]? = some v → ds[i]? = some d → Holds P V v d := by
  cases h with
  | list hv hl hi => exact ⟨_, _, _, rfl, hv, hl, hi⟩

theorem Holds.mono {P : Params} {V V' : Vis} (hV : ∀ a o, V a o → V' a o) {v : Value} {d : D} (h : Holds P V v d) : Holds P V' v d := by
  induction h with
  | none => exact .none
  | bool => exact .bool
  | int => exact .int
  | str => exact .str
  | bytes => exact .bytes
  | opq => exact .opq
  | list hv hl _ ih => exact .list (hV _ _ hv) hl ih
  | tup hv hl _ ih => exact .tup (hV _ _ hv) hl ih
  | dic hs hv hx hd hl hk _ ih => exact .dic hs (hV _ _ hv) hx hd hl hk ih
  | tab hx hd hl hn => exact .tab (hV _ _ hx) (hV _ _ hd) hl hn
  | tabf hx hd hl hn hv hz _ ih => exact .tabf (hV _ _ hx) (hV _ _ hd) hl hn (hV _ _ hv) hz ih

/-- what X does not hide of a heap -/
noncomputable def vis (X : Addr → Prop) (h : Heap) : Vis := fun b o => h.get? b = some o ∧ ¬ X b

/-- the heap grows, the tokens too; nothing that stood turns -/
noncomputable def Keeps (s s' : Shared) : Prop := ∃ h' tk, s' = { s with heap := h', toks := tk } ∧ (∀ b o, s.heap.get? b = some o → h'.get? b = some o) ∧ s.toks ≤ tk

noncomputable def NoE : Value → Shared → Prop := fun _ _ => False

theorem noE {α : Type} {M : Model} {A : Around} {t : Sem α} {Q : α → Shared → Prop} {E : Value → Shared → Prop} {s : Shared} (h : wpAny M A t Q NoE s) : wpAny M A t Q E s :=
  wpAny_mono h (fun _ _ x => x) fun _ _ x => x.elim
theorem noE' {α : Type} {M : Model} {A : Around} {t : Sem α} {Q Q' : α → Shared → Prop} {E : Value → Shared → Prop} {s : Shared} (h : wpAny M A t Q NoE s) (hq : ∀ a s', Q a s' → Q' a s') : wpAny M A t Q' E s :=
  wpAny_mono h hq fun _ _ x => x.elim

noncomputable def VarAt (env : Env) (h : Heap) (x : Str) (v : Value) : Prop :=
  (env.kindOf x = some .local ∧ ∃ m, h.Ns env.locals m ∧ m x = some v) ∨
  ((env.kindOf x = some .cell ∨ env.kindOf x = some .free) ∧ ∃ c, env.cells.lookup x = some c ∧ h.IsCell c (some v))

structure Cx where
  A : Around
  env : Env
  X : Addr → Prop
  pr : Addr → Obj → Prop
  s0 : Shared
  cw : Bool

noncomputable abbrev Rho := Str → Option D
noncomputable abbrev Mus := List (Addr × List D)
noncomputable def upd (ρ : Rho) (x : Str) (d : D) : Rho := fun y => if y = x then some d else ρ y
noncomputable def Le (ρ' ρ : Rho) : Prop := ∀ x d, ρ' x = some d → ρ x = some d
noncomputable def rho0 : Rho := fun _ => none

/-- a list that may still turn -/
noncomputable def MuIs (P : Params) (V : Vis) (h : Heap) (a : Addr) (ds : List D) : Prop :=
  ∃ vs : Array Value, h.PlainList a vs ∧ vs.size = ds.length ∧ ∀ (i : Nat) (v : Value) (d : D), vs[i]? = some v → ds[i]? = some d → Holds P V v d

structure MuOk (cx : Cx) (a : Addr) : Prop where
  x : cx.X a
  nl : a ≠ cx.env.locals
  np : ∀ o, ¬ cx.pr a o
  nc : ∀ y c, cx.env.cells.lookup y = some c → c ≠ a

structure St (P : Params) (hb : Heap) (cx : Cx) (ρ : Rho) (mus : Mus) (s : Shared) : Prop where
  sh : ∃ h tk, s = { cx.s0 with heap := h, toks := tk }
  tok : 0 < s.toks
  tk0 : cx.s0.toks ≤ s.toks
  live : ∀ b, cx.X b → ∃ o, s.heap.get? b = some o
  pres : ∀ b o, cx.pr b o → s.heap.get? b = some o
  base : ∀ b o, hb.get? b = some o → s.heap.get? b = some o ∧ ¬ cx.X b
  nsx : ∃ m, s.heap.Ns cx.env.locals m
  fk : cx.env.scope.kind = .function
  fg : cx.env.globals = mainGlobals
  fb : cx.env.builtins = builtinsNs
  lx : cx.X cx.env.locals
  lp : ∀ o, ¬ cx.pr cx.env.locals o
  cel : ∀ x c, cx.env.cells.lookup x = some c → cx.X c ∧ c ≠ cx.env.locals ∧ ∃ v, s.heap.IsCell c v
  cwr : cx.cw = true → ∀ x c, cx.env.cells.lookup x = some c → (∀ o, ¬ cx.pr c o) ∧ ∀ y, cx.env.cells.lookup y = some c → y = x
  vars : ∀ x d, ρ x = some d → ∃ v, VarAt cx.env s.heap x v ∧ Holds P (vis cx.X s.heap) v d
  muo : ∀ p ∈ mus, MuOk cx p.1
  mui : ∀ p ∈ mus, MuIs P (vis cx.X s.heap) s.heap p.1 p.2
  mnd : (mus.map (·.1)).Nodup

theorem vis_keeps {X : Addr → Prop} {h h' : Heap} (k : ∀ b o, h.get? b = some o → h'.get? b = some o) : ∀ a o, vis X h a o → vis X h' a o := fun a o v => ⟨k a o v.1, v.2⟩
theorem vis_but {X : Addr → Prop} {h h' : Heap} (k : ∀ b o, ¬ X b → h.get? b = some o → h'.get? b = some o) : ∀ a o, vis X h a o → vis X h' a o := fun a o v => ⟨k a o v.2 v.1, v.2⟩
theorem vis_less {X X' : Addr → Prop} {h : Heap} (k : ∀ b, X' b → X b) : ∀ a o, vis X h a o → vis X' h a o := fun _ _ v => ⟨v.1, fun q => v.2 (k _ q)⟩

theorem VarAt.keeps {env : Env} {h h' : Heap} {x : Str} {v : Value} (k : ∀ b o, h.get? b = some o → h'.get? b = some o) (V : VarAt env h x v) : VarAt env h' x v := by
  rcases V with ⟨a, m, hn, hm⟩ | ⟨a, c, hc, hi⟩
  · exact .inl ⟨a, m, hn.at' fun o e => k _ o e, hm⟩
  · exact .inr ⟨a, c, hc, hi.keeps k⟩

theorem MuIs.mono {P : Params} {V V' : Vis} {h h' : Heap} {a : Addr} {ds : List D} (m : MuIs P V h a ds) (hV : ∀ a o, V a o → V' a o) (k : ∀ o, h.get? a = some o → h'.get? a = some o) : MuIs P V' h' a ds := by
  obtain ⟨vs, p, l, q⟩ := m
  exact ⟨vs, p.at k, l, fun i v d a b => (q i v d a b).mono hV⟩

section
variable {P : Params} {hb : Heap} {cx : Cx} {ρ : Rho} {mus : Mus} {s s' : Shared}

theorem keeps_refl : Keeps s s := ⟨s.heap, s.toks, rfl, fun _ _ e => e, Nat.le_refl _⟩
theorem keeps_tok {t : Nat} (h : s.toks ≤ t := by omega) : Keeps s { s with toks := t } := ⟨s.heap, t, rfl, fun _ _ e => e, h⟩
theorem keeps_trans {s₁ s₂ s₃ : Shared} (a : Keeps s₁ s₂) (b : Keeps s₂ s₃) : Keeps s₁ s₃ := by
  obtain ⟨h, tk, rfl, k, u⟩ := a
  obtain ⟨h', tk', rfl, k', u'⟩ := b
  exact ⟨h', tk', rfl, fun b o e => k' b o (k b o e), Nat.le_trans u u'⟩
theorem keeps_push {o : Obj} : Keeps s { s with heap := s.heap.push o } := ⟨_, s.toks, rfl, fun _ _ e => Heap.get?_push_of_some _ e, Nat.le_refl _⟩
theorem keeps_get (k : Keeps s s') : ∀ b o, s.heap.get? b = some o → s'.heap.get? b = some o := by
  obtain ⟨h, tk, rfl, k, _⟩ := k; exact k
theorem keeps_toks (k : Keeps s s') : s.toks ≤ s'.toks := by
  obtain ⟨h, tk, rfl, k, u⟩ := k; exact u
/-- the tokens only grow -/
theorem up {α : Type} {M : Model} {A : Around} {t : Sem α} {Q : α → Shared → Prop} {s : Shared} (h : wpAny M A t (fun v s' => PySem.Keeps s s' ∧ Q v s') NoE s) : wpAny M A t (fun v s' => Keeps s s' ∧ Q v s') NoE s :=
  wpAny_mono (wpAny_toks h) (fun v s' x => ⟨by obtain ⟨u, ⟨h', tk, e, k⟩, _⟩ := x; subst e; exact ⟨h', tk, rfl, k, u⟩, x.2.2⟩) fun _ _ x => x.2

theorem St.keeps (S : St P hb cx ρ mus s) (k : Keeps s s') : St P hb cx ρ mus s' := by
  obtain ⟨h, tk, rfl, k, u⟩ := k
  have hv := vis_keeps (X := cx.X) k
  exact {
    sh := by obtain ⟨h₁, t₁, e⟩ := S.sh; exact ⟨h, tk, by rw [e]⟩
    tok := Nat.lt_of_lt_of_le S.tok u
    tk0 := Nat.le_trans S.tk0 u
    live := fun b hx => by obtain ⟨o, e⟩ := S.live b hx; exact ⟨o, k b o e⟩
    pres := fun b o e => k b o (S.pres b o e)
    base := fun b o e => ⟨k b o (S.base b o e).1, (S.base b o e).2⟩
    nsx := by obtain ⟨m, hm⟩ := S.nsx; exact ⟨m, hm.at' fun o e => k _ o e⟩
    fk := S.fk
    fg := S.fg
    fb := S.fb
    lx := S.lx
    lp := S.lp
    cel := fun x c e => by obtain ⟨a, b, v, hv⟩ := S.cel x c e; exact ⟨a, b, v, hv.keeps k⟩
    cwr := S.cwr
    vars := fun x d e => by obtain ⟨v, a, b⟩ := S.vars x d e; exact ⟨v, a.keeps k, b.mono hv⟩
    muo := S.muo
    mui := fun p hp => (S.mui p hp).mono hv fun o e => k _ o e
    mnd := S.mnd }

theorem St.forget {ρ' : Rho} (S : St P hb cx ρ mus s) (h : ∀ x d, ρ' x = some d → ρ x = some d) : St P hb cx ρ' mus s := { S with vars := fun x d e => S.vars x d (h x d e) }
theorem St.dropMus (S : St P hb cx ρ mus s) : St P hb cx ρ [] s := { S with muo := (fun _ h => (nomatch h)), mui := (fun _ h => (nomatch h)), mnd := .nil }
end

section
variable (prog : Program) (w : World) (hb : Heap)

/-- a pure expression's datum -/
structure Ev (cx : Cx) (ρ : Rho) (mus : Mus) (e : Expr) (d : D) : Prop where
  run : ∀ s, St w.params hb cx ρ mus s → wpAny (model prog w) cx.A (eval e cx.env) (fun v s' => Keeps s s' ∧ Holds w.params (vis cx.X s'.heap) v d) NoE s

/-- a pure test -/
structure Et (cx : Cx) (ρ : Rho) (mus : Mus) (e : Expr) (b : Bool) : Prop where
  run : ∀ s, St w.params hb cx ρ mus s → wpAny (model prog w) cx.A (isTrue e cx.env (eval e cx.env)) (fun v s' => Keeps s s' ∧ v = b) NoE s

/-- statements -/
structure Ex (cx : Cx) (ρ : Rho) (mus : Mus) (st : List Stmt) (R : Flow → Shared → Prop) : Prop where
  run : ∀ s, St w.params hb cx ρ mus s → wpAny (model prog w) cx.A (execs st cx.env) R NoE s

structure Room (k : Nat) (A : Around) : Prop where
  hh : A.handled = none
  dp : A.depth + k ≤ 900
  un : A.units + 10 * k ≤ 9000

/-- a pure def -/
structure Fn (k : Nat) (f : Value) (args : List D) (r : D) : Prop where
  run : ∀ (A : Around) (X : Addr → Prop) (s : Shared) (vs : List Value), Room k A → (∀ b, X b → ∃ o, s.heap.get? b = some o) → (∀ b o, hb.get? b = some o → s.heap.get? b = some o ∧ ¬ X b) → 0 < s.toks →
    vs.length = args.length → (∀ (i : Nat) (v : Value) (d : D), vs[i]? = some v → args[i]? = some d → Holds w.params (vis X s.heap) v d) →
    wpAny (model prog w) A (call f vs) (fun v s' => Keeps s s' ∧ Holds w.params (vis X s'.heap) v r) NoE s
end

section
variable {prog : Program} {w : World} {hb : Heap} {cx : Cx} {ρ : Rho} {mus : Mus}

theorem Ev.val {e : Expr} {d : D} (h : Ev prog w hb cx ρ mus e d) {s : Shared} (S : St w.params hb cx ρ mus s) {Q : Value → Shared → Prop} {E : Value → Shared → Prop}
    (hq : ∀ v s', St w.params hb cx ρ mus s' → Keeps s s' → Holds w.params (vis cx.X s'.heap) v d → Q v s') : wpAny (model prog w) cx.A (eval e cx.env) Q E s :=
  noE' (h.run s S) fun v s' x => hq v s' (S.keeps x.1) x.1 x.2

theorem ev_int {i : Int} {k : Nat} {pos : Pos} : Ev prog w hb cx ρ mus (.Constant (.int i) k pos) (.int i) := .mk fun _ _ => wpAny_Constant_int ⟨keeps_tok, .int⟩
theorem ev_str {x : Str} {k : Nat} {pos : Pos} : Ev prog w hb cx ρ mus (.Constant (.str x) k pos) (.str x) := .mk fun _ _ => wpAny_Constant_str ⟨keeps_tok, .str⟩
theorem ev_none {k : Nat} {pos : Pos} : Ev prog w hb cx ρ mus (.Constant .none k pos) .none := .mk fun _ _ => wpAny_Constant_none ⟨keeps_refl, .none⟩
theorem ev_bool {b : Bool} {k : Nat} {pos : Pos} : Ev prog w hb cx ρ mus (.Constant (.bool b) k pos) (.bool b) := .mk fun _ _ => wpAny_Constant_bool ⟨keeps_refl, .bool⟩

theorem ev_name {x : Str} {pos : Pos} {d : D} (hx : ρ x = some d) (hd : (x == ("__debug__" : Str)) = false := by decide) (hn : (x == ("__classdict__" : Str)) = false := by decide) : Ev prog w hb cx ρ mus (.Name x pos) d := .mk fun s S => by
  obtain ⟨v, V, H⟩ := S.vars x d hx
  refine wpAny_Name ?_ hd
  rcases V with ⟨a, m, hns, hm⟩ | ⟨a | a, c, hc, hi⟩
  · exact wpAny_loadName_local S.fk a hns hm ⟨keeps_refl, H⟩
  · exact wpAny_loadName_cell S.fk a hc hi ⟨keeps_refl, H⟩
  · exact wpAny_loadName_free S.fk a hc hi ⟨keeps_refl, H⟩ hn

/-- a name of the module -/
theorem ev_global {x : Str} {pos : Pos} {mg : Str → Option Value} {v : Value} (hg : hb.Ns mainGlobals mg) (hv : mg x = some v) (hx : cx.env.kindOf x = some .globalImplicit)
    (hd : (x == ("__debug__" : Str)) = false := by decide) : Ev prog w hb cx ρ mus (.Name x pos) (.opq v) := .mk fun s S =>
  Name_function_global S.fk hx (loadGlobal_global (by rw [S.fg]; exact hg.at' fun o e => (S.base _ o e).1) hv ⟨keeps_refl, .opq⟩) hd
theorem ev_builtin {x : Str} {pos : Pos} {mg mb : Str → Option Value} {v : Value} (hg : hb.Ns mainGlobals mg) (hm : mg x = none) (hbl : hb.Ns builtinsNs mb) (hv : mb x = some v) (hx : cx.env.kindOf x = some .globalImplicit)
    (hd : (x == ("__debug__" : Str)) = false := by decide) : Ev prog w hb cx ρ mus (.Name x pos) (.opq v) := .mk fun s S =>
  Name_function_global S.fk hx (loadGlobal_builtin (by rw [S.fg]; exact hg.at' fun o e => (S.base _ o e).1) hm (by rw [S.fb]; exact hbl.at' fun o e => (S.base _ o e).1) hv ⟨keeps_refl, .opq⟩) hd

/-- an operator on two data -/
structure Op2 (prog : Program) (w : World) (t : Value → Value → Sem Value) (a b r : D) : Prop where
  run : ∀ (A : Around) (X : Addr → Prop) (s : Shared) (va vb : Value), Room 1 A → (∀ b, X b → ∃ o, s.heap.get? b = some o) → Holds w.params (vis X s.heap) va a → Holds w.params (vis X s.heap) vb b →
    wpAny (model prog w) A (t va vb) (fun v s' => Keeps s s' ∧ Holds w.params (vis X s'.heap) v r) NoE s
structure Op1 (prog : Program) (w : World) (t : Value → Sem Value) (a r : D) : Prop where
  run : ∀ (A : Around) (X : Addr → Prop) (s : Shared) (va : Value), Room 1 A → (∀ b, X b → ∃ o, s.heap.get? b = some o) → Holds w.params (vis X s.heap) va a →
    wpAny (model prog w) A (t va) (fun v s' => Keeps s s' ∧ Holds w.params (vis X s'.heap) v r) NoE s
/-- the truth of a datum -/
structure Tru (prog : Program) (w : World) (a : D) (b : Bool) : Prop where
  run : ∀ (A : Around) (X : Addr → Prop) (s : Shared) (va : Value), Room 1 A → (∀ b, X b → ∃ o, s.heap.get? b = some o) → Holds w.params (vis X s.heap) va a →
    wpAny (model prog w) A (truthy va) (fun v s' => Keeps s s' ∧ v = b) NoE s

theorem ev_bin {l r : Expr} {op : Operator} {pos : Pos} {a b d : D} (hA : Room 1 cx.A) (hl : Ev prog w hb cx ρ mus l a) (hr : Ev prog w hb cx ρ mus r b) (ho : Op2 prog w (binaryOp op) a b d) :
    Ev prog w hb cx ρ mus (.BinOp l op r pos) d := .mk fun s S =>
  wpAny_BinOp (hl.val S fun va s₁ S₁ k₁ h₁ => hr.val S₁ fun vb s₂ S₂ k₂ h₂ => wpAny_mono (ho.run cx.A cx.X s₂ va vb hA S₂.live (h₁.mono (vis_keeps (keeps_get k₂))) h₂)
    (fun v s₃ x => ⟨keeps_trans k₁ (keeps_trans k₂ x.1), x.2⟩) fun _ _ x => x)

theorem ev_cmp {l r : Expr} {op : CmpOp} {pos : Pos} {a b d : D} (hA : Room 1 cx.A) (hl : Ev prog w hb cx ρ mus l a) (hr : Ev prog w hb cx ρ mus r b) (ho : Op2 prog w (compareOp op) a b d)
    (hm : behindInMarks op r = false := by with_unfolding_all rfl) : Ev prog w hb cx ρ mus (.Compare l [op] [r] pos) d := .mk fun s S =>
  wpAny_Compare1 (hl.val S fun va s₁ S₁ k₁ h₁ => hr.val S₁ fun vb s₂ S₂ k₂ h₂ => wpAny_mono (ho.run cx.A cx.X s₂ va vb hA S₂.live (h₁.mono (vis_keeps (keeps_get k₂))) h₂)
    (fun v s₃ x => ⟨keeps_trans k₁ (keeps_trans k₂ x.1), x.2⟩) fun _ _ x => x) hm

theorem ev_un {x : Expr} {op : UnaryOp} {pos : Pos} {a d : D} (hA : Room 1 cx.A) (hx : Ev prog w hb cx ρ mus x a) (ho : Op1 prog w (unaryOp op) a d) : Ev prog w hb cx ρ mus (.UnaryOp op x pos) d := .mk fun s S =>
  wpAny_UnaryOp (hx.val S fun va s₁ S₁ k₁ h₁ => wpAny_mono (ho.run cx.A cx.X s₁ va hA S₁.live h₁) (fun v s₃ x => ⟨keeps_trans k₁ x.1, x.2⟩) fun _ _ x => x)

theorem ev_ifexp {t a b : Expr} {pos : Pos} {c : Bool} {d : D} (ht : Et prog w hb cx ρ mus t c) (h1 : c = true → Ev prog w hb cx ρ mus a d) (h2 : c = false → Ev prog w hb cx ρ mus b d) :
    Ev prog w hb cx ρ mus (.IfExp t a b pos) d := .mk fun s S =>
  wpAny_IfExp (wpAny_mono (ht.run s S) (fun v s₁ x => by
    obtain ⟨k, rfl⟩ := x
    cases v with
    | true => exact wpAny_mono ((h1 rfl).run s₁ (S.keeps k)) (fun _ _ y => ⟨keeps_trans k y.1, y.2⟩) fun _ _ y => y
    | false => exact wpAny_mono ((h2 rfl).run s₁ (S.keeps k)) (fun _ _ y => ⟨keeps_trans k y.1, y.2⟩) fun _ _ y => y) fun _ _ y => y)
end
end Mine
end

section
open PySem PySem.W PySem.Calls PySem.Spec PyProof.Rows
set_option Elab.async false
set_option linter.unusedVariables false
namespace Mine

section
variable {prog : Program} {w : World}

theorem pkeeps_tok {s : Shared} {t : Nat} : PySem.Keeps s { s with toks := t } := ⟨s.heap, t, rfl, fun _ _ e => e⟩

theorem op_add_int {a b : Int} : Op2 prog w (binaryOp .Add) (.int a) (.int b) (.int (a + b)) := by
  refine ⟨?_⟩; intro A X s va vb hA hX ha hb; obtain ⟨_, rfl⟩ := holds_int ha; obtain ⟨_, rfl⟩ := holds_int hb; exact P.add_int ⟨keeps_tok, .int⟩
theorem op_sub_int {a b : Int} : Op2 prog w (binaryOp .Sub) (.int a) (.int b) (.int (a - b)) := by
  refine ⟨?_⟩; intro A X s va vb hA hX ha hb; obtain ⟨_, rfl⟩ := holds_int ha; obtain ⟨_, rfl⟩ := holds_int hb; exact P.sub_int ⟨keeps_tok, .int⟩
theorem op_mod_int {a b : Int} (h : b ≠ 0) : Op2 prog w (binaryOp .Mod) (.int a) (.int b) (.int (a.fmod b)) := by
  refine ⟨?_⟩; intro A X s va vb hA hX ha hb; obtain ⟨_, rfl⟩ := holds_int ha; obtain ⟨_, rfl⟩ := holds_int hb; exact mod_int' h ⟨keeps_tok, .int⟩
theorem op_fdiv_int {a b : Int} (h : b ≠ 0) (hp : Builtin.divisionGoesByPylong a b = false) : Op2 prog w (binaryOp .FloorDiv) (.int a) (.int b) (.int (a.fdiv b)) := by
  refine ⟨?_⟩; intro A X s va vb hA hX ha hb; obtain ⟨_, rfl⟩ := holds_int ha; obtain ⟨_, rfl⟩ := holds_int hb; exact floordiv_int h ⟨keeps_tok, .int⟩ (.inl hp)
theorem op_pow_int {a b : Int} (hn : 0 ≤ b) (hsz : (Builtin.Int.intBits a : Int) * b ≤ 2 ^ 27) : Op2 prog w (binaryOp .Pow) (.int a) (.int b) (.int (a ^ b.toNat)) := by
  refine ⟨?_⟩; intro A X s va vb hA hX ha hb; obtain ⟨_, rfl⟩ := holds_int ha; obtain ⟨_, rfl⟩ := holds_int hb; exact pow_int hn hsz ⟨keeps_tok, .int⟩
theorem op_add_str {a b : Str} (h : a.length + b.length ≤ sizeLine) : Op2 prog w (binaryOp .Add) (.str a) (.str b) (.str (a ++ b)) := by
  refine ⟨?_⟩; intro A X s va vb hA hX ha hb; obtain ⟨_, rfl⟩ := holds_str ha; obtain ⟨_, rfl⟩ := holds_str hb; exact up (SB.add (fun t' k => ⟨pkeeps_tok, .str⟩) h)
theorem op_mul_str {a : Str} {n : Int} (h : MulOk a n) : Op2 prog w (binaryOp .Mult) (.str a) (.int n) (.str (Txt.mul a n)) := by
  refine ⟨?_⟩; intro A X s va vb hA hX ha hb; obtain ⟨_, rfl⟩ := holds_str ha; obtain ⟨_, rfl⟩ := holds_int hb; exact up (SB.mul h (fun t' k => ⟨pkeeps_tok, .str⟩))
theorem op_neg_int {a : Int} : Op1 prog w (unaryOp .USub) (.int a) (.int (-a)) := by
  refine ⟨?_⟩; intro A X s va hA hX ha; obtain ⟨_, rfl⟩ := holds_int ha; exact P.neg_int ⟨keeps_tok, .int⟩
theorem op_lt {a b : Int} : Op2 prog w (compareOp .Lt) (.int a) (.int b) (.bool (decide (a < b))) := by
  refine ⟨?_⟩; intro A X s va vb hA hX ha hb; obtain ⟨_, rfl⟩ := holds_int ha; obtain ⟨_, rfl⟩ := holds_int hb; exact P.lt_int ⟨keeps_refl, .bool⟩
theorem op_le {a b : Int} : Op2 prog w (compareOp .LtE) (.int a) (.int b) (.bool (decide (a ≤ b))) := by
  refine ⟨?_⟩; intro A X s va vb hA hX ha hb; obtain ⟨_, rfl⟩ := holds_int ha; obtain ⟨_, rfl⟩ := holds_int hb; exact P.le_int ⟨keeps_refl, .bool⟩
theorem op_gt {a b : Int} : Op2 prog w (compareOp .Gt) (.int a) (.int b) (.bool (decide (a > b))) := by
  refine ⟨?_⟩; intro A X s va vb hA hX ha hb; obtain ⟨_, rfl⟩ := holds_int ha; obtain ⟨_, rfl⟩ := holds_int hb; exact P.gt_int ⟨keeps_refl, .bool⟩
theorem op_ge {a b : Int} : Op2 prog w (compareOp .GtE) (.int a) (.int b) (.bool (decide (a ≥ b))) := by
  refine ⟨?_⟩; intro A X s va vb hA hX ha hb; obtain ⟨_, rfl⟩ := holds_int ha; obtain ⟨_, rfl⟩ := holds_int hb; exact P.ge_int ⟨keeps_refl, .bool⟩
theorem op_eq {a b : Int} : Op2 prog w (compareOp .Eq) (.int a) (.int b) (.bool (a == b)) := by
  refine ⟨?_⟩; intro A X s va vb hA hX ha hb; obtain ⟨_, rfl⟩ := holds_int ha; obtain ⟨_, rfl⟩ := holds_int hb; exact P.eq_int ⟨keeps_refl, .bool⟩
theorem op_ne {a b : Int} : Op2 prog w (compareOp .NotEq) (.int a) (.int b) (.bool (a != b)) := by
  refine ⟨?_⟩; intro A X s va vb hA hX ha hb; obtain ⟨_, rfl⟩ := holds_int ha; obtain ⟨_, rfl⟩ := holds_int hb; exact P.ne_int ⟨keeps_refl, .bool⟩
theorem op_eq_str {a b : Str} : Op2 prog w (compareOp .Eq) (.str a) (.str b) (.bool (a.cps.toList == b.cps.toList)) := by
  refine ⟨?_⟩; intro A X s va vb hA hX ha hb; obtain ⟨_, rfl⟩ := holds_str ha; obtain ⟨_, rfl⟩ := holds_str hb; exact P.eq_str ⟨keeps_refl, .bool⟩
theorem op_ne_str {a b : Str} : Op2 prog w (compareOp .NotEq) (.str a) (.str b) (.bool (a.cps.toList != b.cps.toList)) := by
  refine ⟨?_⟩; intro A X s va vb hA hX ha hb; obtain ⟨_, rfl⟩ := holds_str ha; obtain ⟨_, rfl⟩ := holds_str hb; exact P.ne_str ⟨keeps_refl, .bool⟩
theorem op_in_str {a b : Str} : Op2 prog w (compareOp .In) (.str a) (.str b) (.bool (Txt.contains b a)) := by
  refine ⟨?_⟩; intro A X s va vb hA hX ha hb; obtain ⟨_, rfl⟩ := holds_str ha; obtain ⟨_, rfl⟩ := holds_str hb; exact SB.contains ⟨keeps_refl, .bool⟩

theorem keep_vis {P : Params} {X : Addr → Prop} {s s' : Shared} {v : Value} {d : D} (h : Holds P (vis X s.heap) v d) (k : Keeps s s') : Holds P (vis X s'.heap) v d := h.mono (vis_keeps (keeps_get k))
theorem fresh_not {X : Addr → Prop} {s : Shared} (hX : ∀ b, X b → ∃ o, s.heap.get? b = some o) : ¬ X s.heap.objs.size := fun h => by
  obtain ⟨o, e⟩ := hX _ h
  exact Nat.lt_irrefl _ (Heap.lt_size e)

theorem vis_push {X : Addr → Prop} {s : Shared} (hX : ∀ b, X b → ∃ o, s.heap.get? b = some o) {o : Obj} (hf : o.isFreed = false) : vis X (s.heap.push o) s.heap.objs.size o :=
  ⟨Heap.get?_push_size _ hf, fresh_not hX⟩

theorem op_add_list {a b : List D} (hz : a.length + b.length ≤ sizeLine) : Op2 prog w (binaryOp .Add) (.list a) (.list b) (.list (a ++ b)) := by
  refine ⟨?_⟩; intro A X s va vb hA hX ha hb
  obtain ⟨l, vs, n, rfl, hv, hl, hi⟩ := holds_list ha
  obtain ⟨l2, vs2, n2, rfl, hv2, hl2, hi2⟩ := holds_list hb
  refine P.add_list hv.1 hv2.1 ⟨keeps_push, .list (n := 0) (vis_push hX rfl) (by simp [hl, hl2]) ?_⟩ (by omega)
  intro i v d hv' hd'
  have kk : ∀ a o, vis X s.heap a o → vis X (s.heap.push { cls := .type "list", data := .seq (vs ++ vs2) }) a o := vis_keeps fun _ _ e => Heap.get?_push_of_some _ e
  by_cases h : i < vs.size
  · rw [Array.getElem?_append_left h] at hv'
    rw [List.getElem?_append_left (by omega)] at hd'
    exact (hi i v d hv' hd').mono kk
  · rw [Array.getElem?_append_right (by omega)] at hv'
    rw [List.getElem?_append_right (by omega)] at hd'
    exact (hi2 _ v d hv' (by rw [hl]; exact hd')).mono kk

/-- the truth of a bool -/
theorem tru_bool {b : Bool} : Tru prog w (.bool b) b := by
  refine ⟨?_⟩; intro A X s va hA hX ha; obtain rfl := holds_bool ha; exact wpAny_truthy_bool ⟨keeps_refl, rfl⟩

/-- an int among ints -/
theorem any_eq_ints {P : Params} {V : Vis} {k : Int} : ∀ {vs : List Value} {ns : List Int}, vs.length = ns.length → (∀ (i : Nat) (v : Value) (d : D), vs[i]? = some v → (ns.map D.int)[i]? = some d → Holds P V v d) →
    (vs.any fun y => match y with | .int i _ => i == k | _ => false) = ns.contains k
  | [], [], _, _ => rfl
  | v :: vs, n :: ns, hl, h => by
    have h0 := h 0 v (.int n) rfl rfl
    cases h0
    have ih := any_eq_ints (k := k) (vs := vs) (ns := ns) (by simpa using hl) fun i v d a b => h (i + 1) v d (by simpa using a) (by simpa using b)
    simp only [List.any_cons, List.contains_cons, ih]
    rw [Bool.beq_comm (a := k)]
theorem ints_all {P : Params} {V : Vis} {vs : Array Value} {ns : List Int} (hl : vs.size = ns.length) (h : ∀ (i : Nat) (v : Value) (d : D), vs[i]? = some v → (ns.map D.int)[i]? = some d → Holds P V v d) : ∀ y ∈ vs, ∃ a t, y = Value.int a t := fun y hy => by
  obtain ⟨i, hi, rfl⟩ := Array.getElem_of_mem hy
  have hd : (ns.map D.int)[i]? = some (.int ns[i]) := by simp [show i < ns.length by omega]
  have := h i vs[i] _ (by simp [hi]) hd
  generalize vs[i] = v at this
  cases this
  exact ⟨_, _, rfl⟩
theorem op_notin_ints {k : Int} {ns : List Int} : Op2 prog w (compareOp .NotIn) (.int k) (.list (ns.map .int)) (.bool (!ns.contains k)) := by
  refine ⟨?_⟩; intro A X s va vb hA hX ha hb
  obtain ⟨t, rfl⟩ := holds_int ha
  obtain ⟨l, vs, n, rfl, hv, hl, hi⟩ := holds_list hb
  have hl' : vs.size = ns.length := by simpa using hl
  have hall := ints_all hl' hi
  refine PySem.SeqRoads2.notIn_list (fun y => match y with | .int i _ => i == k | _ => false) (fun y hy => ?_) hv.1 ⟨keeps_refl, ?_⟩
  · obtain ⟨a, u, rfl⟩ := hall y hy
    exact PySem.MeetsSeq.EqGives.int a k u t
  · rw [← Array.any_toList, any_eq_ints (P := w.params) (V := vis X s.heap) (by simpa using hl') (fun i v d a b => hi i v d (by simpa using a) b)]; exact .bool

/-- a dict's answer at a text -/
noncomputable def dfind (k : Str) : List (Str × D) → Option D
  | [] => none
  | e :: r => if e.1 == k then some e.2 else dfind k r

theorem dic_find {P : Params} {V : Vis} {k : Str} : ∀ {es : List DictEntry} {ds : List (Str × D)}, es.length = ds.length →
    (∀ (i : Nat) (e : DictEntry) (d : Str × D), es[i]? = some e → ds[i]? = some d → (∃ t, e.key = .str d.1 t) ∧ e.hash = PyData.keyHash P d.1) →
    (∀ (i : Nat) (e : DictEntry) (d : Str × D), es[i]? = some e → ds[i]? = some d → Holds P V e.val d.2) →
    match (es.find? fun e => Value.isStrOf k e.key).map (·.val), dfind k ds with
    | some v, some d => Holds P V v d
    | none, none => True
    | _, _ => False
  | [], [], _, _, _ => trivial
  | e :: es, d :: ds, hl, hk, hi => by
    obtain ⟨⟨t, ht⟩, _⟩ := hk 0 e d rfl rfl
    have h0 := hi 0 e d rfl rfl
    have ih := dic_find (k := k) (es := es) (ds := ds) (by simpa using hl) (fun i e d a b => hk (i + 1) e d (by simpa using a) (by simpa using b)) (fun i e d a b => hi (i + 1) e d (by simpa using a) (by simpa using b))
    have hb : Value.isStrOf k e.key = (d.1 == k) := by rw [ht]; rfl
    cases hc : d.1 == k with
    | true => simp [List.find?_cons, dfind, hb, hc]; exact h0
    | false => simp only [List.find?_cons, dfind, hb, hc, Bool.false_eq_true, if_false]; exact ih
theorem dic_map {X : Addr → Prop} {s : Shared} {a : Addr} {o : Obj} {es : Array DictEntry} {n : Nat} {ds : List (Str × D)} (hv : vis X s.heap a o) (hx : o.ExactDict) (hd : o.data = .dict es n)
    (hl : es.size = ds.length) (hk : ∀ (i : Nat) (e : DictEntry) (d : Str × D), es[i]? = some e → ds[i]? = some d → (∃ t, e.key = .str d.1 t) ∧ e.hash = PyData.keyHash w.params d.1) :
    s.heap.MapOf (strKind prog w) a (fun k => findBy Value.isStrOf es k) :=
  ⟨_, es, n, hv.1, hx, hd, fun e he => by
    obtain ⟨i, hi, rfl⟩ := Array.getElem_of_mem he
    obtain ⟨⟨t, ht⟩, hh⟩ := hk i es[i] ds[i] (by simp [hi]) (by simp [show i < ds.length by omega])
    exact ⟨ds[i].1, by rw [ht]; exact strKind_is prog w _ t, hh⟩, fun _ => rfl⟩
theorem findBy_eq {es : Array DictEntry} {k : Str} : findBy Value.isStrOf es k = (es.toList.find? fun e => Value.isStrOf k e.key).map (·.val) := by
  unfold findBy
  rw [← Array.find?_toList]

theorem op_notin_dic {k : Str} {ds : List (Str × D)} : Op2 prog w (compareOp .NotIn) (.str k) (.dic ds) (.bool (!(dfind k ds).isSome)) := by
  refine ⟨?_⟩; intro A X s va vb hA hX ha hb
  obtain ⟨t, rfl⟩ := holds_str ha
  cases hb with
  | dic hs hv hx hdd hl hk hi =>
  rename_i a o es n
  refine wpAny_notIn_of (strKind_is prog w k t) hs (dic_map hv hx hdd hl hk) ⟨keeps_tok, ?_⟩
  have h := dic_find (k := k) (es := es.toList) (ds := ds) (by simpa using hl) (fun i e d a b => hk i e d (by simpa using a) b) (fun i e d a b => hi i e d (by simpa using a) b)
  rw [← findBy_eq] at h
  cases h1 : findBy Value.isStrOf es k <;> cases h2 : dfind k ds <;> rw [h1, h2] at h
  · exact .bool
  · exact h.elim
  · exact h.elim
  · exact .bool
end
end Mine
end

section
open PySem PySem.W PySem.Calls PySem.Spec PyProof.Rows
set_option Elab.async false
set_option linter.unusedVariables false
namespace Mine

section
variable (prog : Program) (w : World) (hb : Heap)
noncomputable def HoldsL (P : Params) (V : Vis) (vs : List Value) (ds : List D) : Prop := vs.length = ds.length ∧ ∀ (i : Nat) (v : Value) (d : D), vs[i]? = some v → ds[i]? = some d → Holds P V v d
/-- several expressions -/
structure EvL (cx : Cx) (ρ : Rho) (mus : Mus) (es : List Expr) (ds : List D) : Prop where
  run : ∀ pos s, St w.params hb cx ρ mus s → wpAny (model prog w) cx.A (spliced (backTo pos (starEach es cx.env))) (fun vs s' => Keeps s s' ∧ HoldsL w.params (vis cx.X s'.heap) vs ds) NoE s
/-- a chain of and, or -/
structure EtA (cx : Cx) (ρ : Rho) (mus : Mus) (op : BoolOp) (es : List Expr) (b : Bool) : Prop where
  run : ∀ s, St w.params hb cx ρ mus s → wpAny (model prog w) cx.A (allTrue op es cx.env) (fun v s' => Keeps s s' ∧ v = b) NoE s
end

theorem HoldsL.nil {P : Params} {V : Vis} : HoldsL P V [] [] := ⟨rfl, fun _ _ _ h => by simp at h⟩
theorem HoldsL.cons {P : Params} {V : Vis} {v : Value} {d : D} {vs : List Value} {ds : List D} (h : Holds P V v d) (t : HoldsL P V vs ds) : HoldsL P V (v :: vs) (d :: ds) :=
  ⟨by simp [t.1], fun i v' d' a b => by
    cases i with
    | zero => simp at a b; subst a b; exact h
    | succ i => exact t.2 i v' d' (by simpa using a) (by simpa using b)⟩
theorem HoldsL.mono {P : Params} {V V' : Vis} {vs : List Value} {ds : List D} (t : HoldsL P V vs ds) (k : ∀ a o, V a o → V' a o) : HoldsL P V' vs ds := ⟨t.1, fun i v d a b => (t.2 i v d a b).mono k⟩
theorem HoldsL.list {P : Params} {V : Vis} {vs : List Value} {ds : List D} (t : HoldsL P V vs ds) {a : Addr} {n : Nat} (hv : V a { cls := .type "list", data := .seq vs.toArray n }) : Holds P V (.ref a) (.list ds) :=
  .list hv (by simpa using t.1) fun i v d a b => t.2 i v d (by simpa using a) b
theorem HoldsL.tup {P : Params} {V : Vis} {vs : List Value} {ds : List D} (t : HoldsL P V vs ds) {a : Addr} {n : Nat} (hv : V a { cls := .type "tuple", data := .seq vs.toArray n }) : Holds P V (.ref a) (.tup ds) :=
  .tup hv (by simpa using t.1) fun i v d a b => t.2 i v d (by simpa using a) b

section
variable {prog : Program} {w : World} {hb : Heap} {cx : Cx} {ρ : Rho} {mus : Mus}

theorem starEach_ns {e : Expr} {es : List Expr} {env : Env} (h : isStarred e = false) : starEach (e :: es) env = (false, eval e env) :: starEach es env := by
  cases e <;> first | rfl | cases h
theorem evl_nil : EvL prog w hb cx ρ mus [] [] := .mk fun pos s S => spliced_nil ⟨keeps_refl, .nil⟩
theorem evl_cons {e : Expr} {es : List Expr} {d : D} {ds : List D} (h : Ev prog w hb cx ρ mus e d) (t : EvL prog w hb cx ρ mus es ds)
    (hst : isStarred e = false := by rfl) : EvL prog w hb cx ρ mus (e :: es) (d :: ds) := .mk fun pos s S => by
  rw [starEach_ns hst]
  show wpAny _ _ (spliced ((false, eval e cx.env) :: backTo pos (starEach es cx.env))) _ _ _
  refine spliced_cons (h.val S fun v s₁ S₁ k₁ h₁ => wpAny_mono (t.run pos s₁ S₁) (fun vs s₂ x => ⟨keeps_trans k₁ x.1, .cons (keep_vis h₁ x.1) x.2⟩) fun _ _ x => x)

theorem ev_list {es : List Expr} {ds : List D} {pos : Pos} (h : EvL prog w hb cx ρ mus es ds) (hz : ds.length ≤ sizeLine := by ((try simp only [List.length_cons, List.length_nil, Nat.zero_add]); decide)) : Ev prog w hb cx ρ mus (.List es pos) (.list ds) := .mk fun s S =>
  wpAny_List (wpAny_mono (h.run pos s S) (fun vs s₁ x => ⟨by rw [x.2.1]; exact hz, keeps_trans x.1 keeps_push, (x.2.mono (vis_keeps fun _ _ e => Heap.get?_push_of_some _ e)).list (n := 0) (vis_push (S.keeps x.1).live rfl)⟩) fun _ _ x => x)
theorem ev_tup {es : List Expr} {ds : List D} {k : Nat} {pos : Pos} (h : EvL prog w hb cx ρ mus es ds) (hz : ds.length ≤ sizeLine := by ((try simp only [List.length_cons, List.length_nil, Nat.zero_add]); decide)) : Ev prog w hb cx ρ mus (.Tuple es k pos) (.tup ds) := .mk fun s S =>
  wpAny_Tuple (wpAny_mono (h.run pos s S) (fun vs s₁ x => ⟨by rw [x.2.1]; exact hz, keeps_trans x.1 keeps_push, (x.2.mono (vis_keeps fun _ _ e => Heap.get?_push_of_some _ e)).tup (n := 0) (vis_push (S.keeps x.1).live rfl)⟩) fun _ _ x => x)

theorem ev_list0 {pos : Pos} : Ev prog w hb cx ρ mus (.List [] pos) (.list []) := ev_list evl_nil

/-- an item by its place -/
theorem ev_sub {value slice : Expr} {pos : Pos} {a b d : D} (hA : Room 1 cx.A) (hl : Ev prog w hb cx ρ mus value a) (hr : Ev prog w hb cx ρ mus slice b) (ho : Op2 prog w (subscriptTail value slice) a b d) :
    Ev prog w hb cx ρ mus (.Subscript value slice pos) d := .mk fun s S =>
  Subscript_ (hl.val S fun va s₁ S₁ k₁ h₁ => hr.val S₁ fun vb s₂ S₂ k₂ h₂ => wpAny_mono (ho.run cx.A cx.X s₂ va vb hA S₂.live (keep_vis h₁ k₂) h₂)
    (fun v s₃ x => ⟨keeps_trans k₁ (keeps_trans k₂ x.1), x.2⟩) fun _ _ x => x)

noncomputable def SubPlain (slice : Expr) : Prop := ∀ o i, subscripted slice false o i = operate [o, i] (getItem o i)

theorem op_item {value slice : Expr} {ds : List D} {k : Nat} {d : D} (hx : ds[k]? = some d) (hk : k < 2 ^ 62) (hs : SubPlain slice) : Op2 prog w (subscriptTail value slice) (.list ds) (.int k) d := by
  refine ⟨?_⟩; intro A X s va vb hA hX ha hb
  obtain ⟨l, vs, n, rfl, hv, hl, hi⟩ := holds_list ha
  obtain ⟨t, rfl⟩ := holds_int hb
  have hlt : k < ds.length := by
    rcases Nat.lt_or_ge k ds.length with h | h
    · exact h
    · rw [List.getElem?_eq_none h] at hx; cases hx
  have hq : vs[k]? = some vs[k] := by simp [show k < vs.size by omega]
  have hL : s.heap.IsList l vs := ⟨_, hv.1, rfl, n, rfl⟩
  exact tail_any hL.typeIs slot_list_getitem.lookup (wpAny_getItem_list hL (by omega) (by omega) (by simpa using hq) ⟨keeps_refl, hi k _ d hq hx⟩) (hs _ _)
theorem op_item_neg1 {value slice : Expr} {ds : List D} {d : D} (hx : ds[ds.length - 1]? = some d) (hz : ds.length ≤ sizeLine) (hs : SubPlain slice) : Op2 prog w (subscriptTail value slice) (.list ds) (.int (-1)) d := by
  refine ⟨?_⟩; intro A X s va vb hA hX ha hb
  obtain ⟨l, vs, n, rfl, hv, hl, hi⟩ := holds_list ha
  obtain ⟨t, rfl⟩ := holds_int hb
  have hlt : ds.length - 1 < ds.length := by
    rcases Nat.lt_or_ge (ds.length - 1) ds.length with h | h
    · exact h
    · rw [List.getElem?_eq_none h] at hx; cases hx
  have hL : s.heap.IsList l vs := ⟨_, hv.1, rfl, n, rfl⟩
  have hq : vs[ds.length - 1]? = some vs[ds.length - 1] := by simp [show ds.length - 1 < vs.size by omega]
  exact tail_any hL.typeIs slot_list_getitem.lookup (wpAny_getItem_list_neg hL (by omega) (by omega) (by decide) (by rw [show ((-1 : Int) + (vs.size : Int)).toNat = ds.length - 1 by omega]; exact hq) ⟨keeps_refl, hi _ _ d hq hx⟩) (hs _ _)
theorem op_item_str {value slice : Expr} {x : Str} {i : Int} (hr : fitsSsize i = true) (hin : (Txt.charAt x i).isSome = true) (hs : SubPlain slice) : Op2 prog w (subscriptTail value slice) (.str x) (.int i) (.str (Txt.item x i)) := by
  refine ⟨?_⟩; intro A X s va vb hA hX ha hb
  obtain ⟨_, rfl⟩ := holds_str ha
  obtain ⟨_, rfl⟩ := holds_int hb
  exact tail_any (typeIs_str s _ _) F.slot_str_getitem.lookup (SB.getItem hr hin ⟨keeps_tok, .str⟩) (hs _ _)
theorem op_item_dic {value slice : Expr} {k : Str} {ds : List (Str × D)} {d : D} (hf : dfind k ds = some d) (hs : SubPlain slice) : Op2 prog w (subscriptTail value slice) (.dic ds) (.str k) d := by
  refine ⟨?_⟩; intro A X s va vb hA hX ha hb
  obtain ⟨t, rfl⟩ := holds_str hb
  cases ha with
  | dic hss hv hx hdd hl hk hi =>
  rename_i a o es n
  have h := dic_find (k := k) (es := es.toList) (ds := ds) (by simpa using hl) (fun i e d a b => hk i e d (by simpa using a) b) (fun i e d a b => hi i e d (by simpa using a) b)
  rw [← findBy_eq, hf] at h
  cases h1 : findBy Value.isStrOf es k <;> rw [h1] at h
  · exact h.elim
  · have hm := dic_map (prog := prog) (w := w) hv hx hdd hl hk
    exact tail_any hm.typeIs slot_dict_getitem.lookup (wpAny_getItem_of (strKind_is prog w k _) hm h1 ⟨keeps_tok, h⟩) (hs _ _)

/-! tests -/
theorem et_cmp {l r : Expr} {op : CmpOp} {pos : Pos} {a b : D} {c : Bool} (hA : Room 1 cx.A) (hl : Ev prog w hb cx ρ mus l a) (hr : Ev prog w hb cx ρ mus r b) (ho : Op2 prog w (compareOp op) a b (.bool c))
    (hm : behindInMarks op r = false := by with_unfolding_all rfl) : Et prog w hb cx ρ mus (.Compare l [op] [r] pos) c := .mk fun s S =>
  wpAny_isTrue_Compare1 (hl.val S fun va s₁ S₁ k₁ h₁ => hr.val S₁ fun vb s₂ S₂ k₂ h₂ => wpAny_mono (ho.run cx.A cx.X s₂ va vb hA S₂.live (keep_vis h₁ k₂) h₂)
    (fun v s₃ x => by
      obtain ⟨k₃, hv⟩ := x
      obtain rfl := holds_bool hv
      exact wpAny_truthy_bool ⟨keeps_trans k₁ (keeps_trans k₂ k₃), rfl⟩) fun _ _ x => x) hm
theorem et_val {e : Expr} {d : D} {c : Bool} (hA : Room 1 cx.A) (h : Ev prog w hb cx ρ mus e d) (ht : Tru prog w d c) (he : ∀ whole, isTrue e cx.env whole = (do let v ← whole; standAt e.pos; holding [v] (truthy v)) := by intro _; rfl) :
    Et prog w hb cx ρ mus e c := .mk fun s S =>
  wpAny_isTrue_value (h.val S fun v s₁ S₁ k₁ h₁ => wpAny_mono (ht.run cx.A cx.X s₁ v hA S₁.live h₁) (fun b s₂ x => ⟨keeps_trans k₁ x.1, x.2⟩) fun _ _ x => x) (he _)
theorem et_not {e : Expr} {pos : Pos} {c : Bool} (h : Et prog w hb cx ρ mus e c) : Et prog w hb cx ρ mus (.UnaryOp .Not e pos) (!c) := .mk fun s S =>
  wpAny_isTrue_Not (wpAny_mono (h.run s S) (fun b s₁ x => ⟨x.1, by rw [x.2]⟩) fun _ _ x => x)
theorem et_bool {es : List Expr} {op : BoolOp} {pos : Pos} {c : Bool} (h : EtA prog w hb cx ρ mus op es c) : Et prog w hb cx ρ mus (.BoolOp op es pos) c := .mk fun s S => wpAny_isTrue_BoolOp (h.run s S)
theorem eta_nil {op : BoolOp} : EtA prog w hb cx ρ mus op [] (op == .And) := .mk fun s S => wpAny_pure ⟨keeps_refl, rfl⟩
theorem eta_and {e : Expr} {es : List Expr} {b c : Bool} (h : Et prog w hb cx ρ mus e b) (t : b = true → EtA prog w hb cx ρ mus .And es c) (ht : b = false → c = false) : EtA prog w hb cx ρ mus .And (e :: es) c := .mk fun s S =>
  wpAny_allTrue_And_cons (wpAny_mono (h.run s S) (fun v s₁ x => by
    obtain ⟨k, rfl⟩ := x
    cases v with
    | true => exact wpAny_mono ((t rfl).run s₁ (S.keeps k)) (fun _ _ y => ⟨keeps_trans k y.1, y.2⟩) fun _ _ y => y
    | false => exact ⟨k, (ht rfl).symm⟩) fun _ _ y => y)
theorem eta_or {e : Expr} {es : List Expr} {b c : Bool} (h : Et prog w hb cx ρ mus e b) (t : b = false → EtA prog w hb cx ρ mus .Or es c) (ht : b = true → c = true) : EtA prog w hb cx ρ mus .Or (e :: es) c := .mk fun s S =>
  wpAny_allTrue_Or_cons (wpAny_mono (h.run s S) (fun v s₁ x => by
    obtain ⟨k, rfl⟩ := x
    cases v with
    | false => exact wpAny_mono ((t rfl).run s₁ (S.keeps k)) (fun _ _ y => ⟨keeps_trans k y.1, y.2⟩) fun _ _ y => y
    | true => exact ⟨k, (ht rfl).symm⟩) fun _ _ y => y)
/-- a < b < c -/
theorem et_chain {l m r : Expr} {o1 o2 : CmpOp} {pos : Pos} {a b c : D} {x y : Bool} (hA : Room 1 cx.A) (hl : Ev prog w hb cx ρ mus l a) (hm : Ev prog w hb cx ρ mus m b) (hr : Ev prog w hb cx ρ mus r c)
    (h1 : Op2 prog w (compareOp o1) a b (.bool x)) (h2 : Op2 prog w (compareOp o2) b c (.bool y)) (hk : lastMarks [o1, o2] [m, r] = false := by with_unfolding_all rfl) :
    Et prog w hb cx ρ mus (.Compare l [o1, o2] [m, r] pos) (x && y) := by
  refine ⟨?_⟩; intro s S
  refine isTrue_chain (hl.val S fun va s₁ S₁ k₁ ha => test_link (hm.val S₁ fun vb s₂ S₂ k₂ hb => wpAny_mono (h1.run cx.A cx.X s₂ va vb hA S₂.live (keep_vis ha k₂) hb) (fun v s₃ z => ?_) fun _ _ z => z)) hk
  obtain ⟨k₃, hv⟩ := z
  obtain rfl := holds_bool hv
  refine wpAny_truthy_bool ?_
  cases x with
  | false => exact ⟨keeps_trans k₁ (keeps_trans k₂ k₃), rfl⟩
  | true =>
    refine test_last (hr.val (S₂.keeps k₃) fun vc s₄ S₄ k₄ hc => wpAny_mono (h2.run cx.A cx.X s₄ vb vc hA S₄.live (keep_vis (keep_vis hb k₃) k₄) hc) (fun v s₅ z => ?_) fun _ _ z => z)
    obtain ⟨k₅, hv⟩ := z
    obtain rfl := holds_bool hv
    exact wpAny_truthy_bool ⟨keeps_trans k₁ (keeps_trans k₂ (keeps_trans k₃ (keeps_trans k₄ k₅))), by simp⟩

/-! calls -/
theorem evargs {e : Expr} {es : List Expr} {ds : List D} (h : EvL prog w hb cx ρ mus (e :: es) ds) {f : Value} {pos : Pos} {s : Shared} (S : St w.params hb cx ρ mus s) {Q : Args → Shared → Prop} {E : Value → Shared → Prop}
    (hst : isStarred e = false)
    (hq : ∀ vs s', St w.params hb cx ρ mus s' → Keeps s s' → HoldsL w.params (vis cx.X s'.heap) vs ds → Q ⟨vs, []⟩ s') : wpAny (model prog w) cx.A (evalArgs f true (backTo pos (starEach (e :: es) cx.env)) []) Q E s := by
  have h' := h.run pos s S
  rw [starEach_ns hst] at h' ⊢
  exact evalArgs_plain (noE' h' fun vs s' x => hq vs s' (S.keeps x.1) x.1 x.2)

/-- a call of a def of the text, by its name -/
theorem ev_call {x : Str} {np pos : Pos} {e : Expr} {es : List Expr} {ds : List D} {r : D} {k : Nat} {a : Addr} {o : Obj} {fd : FuncData} (hA : Room k cx.A)
    (hf : Ev prog w hb cx ρ mus (.Name x np) (.opq (.ref a))) (ho : hb.get? a = some o) (hd : o.data = .func fd) (ha : EvL prog w hb cx ρ mus (e :: es) ds) (hfn : Fn prog w hb k (.ref a) ds r)
    (hst : isStarred e = false := by rfl) : Ev prog w hb cx ρ mus (.Call (.Name x np) (e :: es) [] pos) r := .mk fun s S => by
  refine wpAny_Call_Name_kw (hf.val S fun v s₁ S₁ k₁ h₁ => ?_)
  obtain rfl := holds_opq h₁
  show wpAny _ _ (callWith pos (.ref a) [] (backTo pos (starEach (e :: es) cx.env)) []) _ _ _
  refine callWith_function (o := o) (fd := fd) (evargs ha S₁ hst fun vs s₂ S₂ k₂ h₂ => ⟨⟨(S₂.base a o ho).1, hd⟩, ?_⟩)
  exact wpAny_mono (hfn.run cx.A cx.X s₂ vs hA S₂.live S₂.base S₂.tok h₂.1 h₂.2) (fun v s₃ x => ⟨keeps_trans k₁ (keeps_trans k₂ x.1), x.2⟩) fun _ _ x => x
theorem ev_call0 {x : Str} {np pos : Pos} {r : D} {k : Nat} {a : Addr} {o : Obj} {fd : FuncData} (hA : Room k cx.A)
    (hf : Ev prog w hb cx ρ mus (.Name x np) (.opq (.ref a))) (ho : hb.get? a = some o) (hd : o.data = .func fd) (hfn : Fn prog w hb k (.ref a) [] r) : Ev prog w hb cx ρ mus (.Call (.Name x np) [] [] pos) r := .mk fun s S => by
  refine wpAny_Call_Name_kw (hf.val S fun v s₁ S₁ k₁ h₁ => ?_)
  obtain rfl := holds_opq h₁
  show wpAny _ _ (callWith pos (.ref a) [] [] []) _ _ _
  refine callWith_function (o := o) (fd := fd) (PySem.evalArgs_none ⟨⟨(S₁.base a o ho).1, hd⟩, ?_⟩)
  exact wpAny_mono (hfn.run cx.A cx.X s₁ [] hA S₁.live S₁.base S₁.tok rfl fun i v d h => by simp at h) (fun v s₃ x => ⟨keeps_trans k₁ x.1, x.2⟩) fun _ _ x => x
/-- a call of a built-in -/
theorem ev_callb {x : Str} {np pos : Pos} {e : Expr} {es : List Expr} {ds : List D} {r : D} {k : Nat} {id : String} (hA : Room k cx.A)
    (hf : Ev prog w hb cx ρ mus (.Name x np) (.opq (.builtin id))) (ha : EvL prog w hb cx ρ mus (e :: es) ds) (hfn : Fn prog w hb k (.builtin id) ds r)
    (hst : isStarred e = false := by rfl) (hp : ∀ pos, (backTo pos (starEach (e :: es) cx.env)).any (·.1) = false := by intro _; rfl) :
    Ev prog w hb cx ρ mus (.Call (.Name x np) (e :: es) [] pos) r := .mk fun s S => by
  refine wpAny_Call_Name_kw (hf.val S fun v s₁ S₁ k₁ h₁ => ?_)
  obtain rfl := holds_opq h₁
  show wpAny _ _ (callWith pos (.builtin id) [] (backTo pos (starEach (e :: es) cx.env)) []) _ _ _
  refine callWith_builtin (hp pos) (evargs ha S₁ hst fun vs s₂ S₂ k₂ h₂ => ?_)
  exact wpAny_mono (hfn.run cx.A cx.X s₂ vs hA S₂.live S₂.base S₂.tok h₂.1 h₂.2) (fun v s₃ x => ⟨keeps_trans k₁ (keeps_trans k₂ x.1), x.2⟩) fun _ _ x => x

theorem fn_len_list {ds : List D} (hz : ds.length ≤ sizeLine) : Fn prog w hb 1 (.builtin "len") [.list ds] (.int ds.length) := by
  refine ⟨?_⟩; intro A X s vs hA hX hbs htk hl hv
  obtain ⟨v, rfl⟩ := len1 hl
  · have h := hv 0 v _ rfl rfl
    obtain ⟨_, _, _, rfl, hv', hl', hi'⟩ := holds_list h
    · rw [sizeLine_eq] at hz
      exact call_len_list ⟨_, hv'.1, rfl, _, rfl⟩ (by omega) ⟨keeps_tok, by rw [hl']; exact .int⟩
theorem fn_len_str {x : Str} (hz : x.length ≤ sizeLine) : Fn prog w hb 1 (.builtin "len") [.str x] (.int x.length) := by
  refine ⟨?_⟩; intro A X s vs hA hX hbs htk hl hv
  obtain ⟨v, rfl⟩ := len1 hl
  · have h := hv 0 v _ rfl rfl
    obtain ⟨_, rfl⟩ := holds_str h
    exact P.len_str (by rw [sizeLine_eq] at hz; omega) ⟨keeps_tok, .int⟩

/-! statements -/
theorem ns_same {h : Heap} {a : Addr} {m m' : Str → Option Value} (x : h.Ns a m) (y : h.Ns a m') : m = m' := by
  obtain ⟨o, es, ep, e, d, _, f⟩ := x
  obtain ⟨o', es', ep', e', d', _, f'⟩ := y
  rw [e] at e'
  cases e'
  rw [d] at d'
  cases d'
  funext z
  rw [← f, ← f']
theorem St.store {s : Shared} {x : Str} {v : Value} {d : D} {h' : Heap} {m : Str → Option Value} (S : St w.params hb cx ρ mus s) (hk : cx.env.kindOf x = some .local) (H : Holds w.params (vis cx.X s.heap) v d) (hm : s.heap.Ns cx.env.locals m)
    (hn : h'.Ns cx.env.locals (fun y => if y = x then some v else m y)) (hs : Heap.SameBut cx.env.locals s.heap h') (tk : Nat) (htk : s.toks ≤ tk := by omega) : St w.params hb cx (upd ρ x d) mus { s with heap := h', toks := tk } := by
  have hvis : ∀ a o, vis cx.X s.heap a o → vis cx.X h' a o := vis_but fun b o nb e => (hs.2 b fun q => nb (q ▸ S.lx)).trans e
  exact {
    sh := by obtain ⟨h, t, e⟩ := S.sh; exact ⟨h', tk, by rw [e]⟩
    tok := Nat.lt_of_lt_of_le S.tok htk
    tk0 := Nat.le_trans S.tk0 htk
    live := fun b hx => by
      by_cases hb' : b = cx.env.locals
      · subst hb'; obtain ⟨o, _, _, e, _⟩ := hn; exact ⟨o, e⟩
      · obtain ⟨o, e⟩ := S.live b hx; exact ⟨o, (hs.2 b hb').trans e⟩
    pres := fun b o e => (hs.2 b fun q => S.lp o (q ▸ e)).trans (S.pres b o e)
    base := fun b o e => ⟨(hs.2 b fun q => (S.base b o e).2 (q ▸ S.lx)).trans (S.base b o e).1, (S.base b o e).2⟩
    nsx := ⟨_, hn⟩
    fk := S.fk
    fg := S.fg
    fb := S.fb
    lx := S.lx
    lp := S.lp
    cel := fun y c e => by obtain ⟨a, b, v', hv⟩ := S.cel y c e; exact ⟨a, b, v', hv.sameBut hs b⟩
    cwr := S.cwr
    vars := fun y d' e => by
      unfold upd at e
      split at e
      · rename_i q
        subst q
        cases e
        exact ⟨v, .inl ⟨hk, _, hn, by simp⟩, H.mono hvis⟩
      · rename_i q
        obtain ⟨v', V, H'⟩ := S.vars y d' e
        refine ⟨v', ?_, H'.mono hvis⟩
        rcases V with ⟨a, m', hn', hm'⟩ | ⟨a, c, hc, hi⟩
        · refine .inl ⟨a, _, hn, ?_⟩
          rw [if_neg q]
          rw [← hm', ns_same hm hn']
        · exact .inr ⟨a, c, hc, hi.sameBut hs (S.cel y c hc).2.1⟩
    muo := S.muo
    mui := fun p hp => (S.mui p hp).mono hvis fun o e => (hs.2 _ (S.muo p hp).nl).trans e
    mnd := S.mnd }
end
end Mine
end

section
open PySem PySem.W PySem.Calls PySem.Spec PyProof.Rows
set_option Elab.async false
set_option linter.unusedVariables false
namespace Mine
theorem upd_same {ρ : Rho} {x : Str} {d : D} : upd ρ x d x = some d := by simp [upd]
theorem upd_ne {ρ : Rho} {x y : Str} {d e : D} (h : x ≠ y) (k : ρ x = some d) : upd ρ y e x = some d := by simp [upd, h, k]
/-- names with their data -/
noncomputable def asc (l : List (Str × D)) : Rho := fun x => l.lookup x
theorem asc_same {l : List (Str × D)} {x : Str} {d : D} : asc ((x, d) :: l) x = some d := by simp [asc]
theorem asc_ne {l : List (Str × D)} {x y : Str} {d e : D} (h : x ≠ y) (k : asc l x = some d) : asc ((y, e) :: l) x = some d := by
  unfold asc at *
  rw [List.lookup_cons, show (x == y) = false from by simpa using h]; exact k
theorem le_nil {ρ : Rho} : Le (asc []) ρ := fun x d h => by cases h
theorem le_cons {ρ : Rho} {l : List (Str × D)} {x : Str} {d : D} (h : ρ x = some d) (t : Le (asc l) ρ) : Le (asc ((x, d) :: l)) ρ := fun y e k => by
  unfold asc at k
  rw [List.lookup_cons] at k
  split at k
  · rename_i q
    cases k
    rw [beq_iff_eq.mp q]; exact h
  · exact t y e k


section
variable {prog : Program} {w : World} {hb : Heap} {cx : Cx} {ρ : Rho} {mus : Mus} {R : Flow → Shared → Prop}

theorem ex_nil (h : ∀ s, St w.params hb cx ρ mus s → R .next s) : Ex prog w hb cx ρ mus [] R := .mk fun s S => wpAny_execs_nil (h s S)

theorem hp_fn (h : cx.env.scope.kind = .function) : (cx.env.scope.kind == .class || (cx.env.scope.kind == .module && cx.env.locals != cx.env.globals)) = false := by rw [h]; rfl

theorem ex_assign {x : Str} {px pos : Pos} {e : Expr} {d : D} {rest : List Stmt} (he : Ev prog w hb cx ρ mus e d) (hk : cx.env.kindOf x = some .local)
    (hr : Ex prog w hb cx (upd ρ x d) mus rest R) (hs : swapsWith e (some (.Name x px)) pos.line cx.env = pure false := by rfl) : Ex prog w hb cx ρ mus (.Assign [.Name x px] e pos :: rest) R := .mk fun s S => by
  refine wpAny_execs_cons (wpAny_Assign_Name (he.val S fun v s₁ S₁ k₁ h₁ => ?_) hs)
  obtain ⟨m, hm⟩ := S₁.nsx
  exact wpAny_storeName_local hk hm (fun h' hn hs' => hr.run _ (S₁.store hk h₁ hm hn hs' _)) (hp_fn S₁.fk)

theorem St.storeCell {s : Shared} {x : Str} {v : Value} {d : D} {h' : Heap} {c : Addr} (S : St w.params hb cx ρ mus s) (hw : cx.cw = true) (hk : cx.env.kindOf x = some .cell) (H : Holds w.params (vis cx.X s.heap) v d)
    (hc : cx.env.cells.lookup x = some c) (hn : h'.IsCell c (some v)) (hs : Heap.SameBut c s.heap h') : St w.params hb cx (upd ρ x d) mus { s with heap := h' } := by
  obtain ⟨cX, cL, v₀, cI⟩ := S.cel x c hc
  obtain ⟨cP, cU⟩ := S.cwr hw x c hc
  have hvis : ∀ a o, vis cx.X s.heap a o → vis cx.X h' a o := vis_but fun b o nb e => (hs.2 b fun q => nb (q ▸ cX)).trans e
  obtain ⟨m, hm⟩ := S.nsx
  have hm' := hm.sameBut hs (Ne.symm cL)
  exact {
    sh := by obtain ⟨h, t, e⟩ := S.sh; exact ⟨h', t, by rw [e]⟩
    tok := S.tok
    tk0 := S.tk0
    live := fun b hx => by
      by_cases hb' : b = c
      · subst hb'; obtain ⟨o, e, _⟩ := hn; exact ⟨o, e⟩
      · obtain ⟨o, e⟩ := S.live b hx; exact ⟨o, (hs.2 b hb').trans e⟩
    pres := fun b o e => (hs.2 b fun q => cP o (q ▸ e)).trans (S.pres b o e)
    base := fun b o e => ⟨(hs.2 b fun q => (S.base b o e).2 (q ▸ cX)).trans (S.base b o e).1, (S.base b o e).2⟩
    nsx := ⟨_, hm'⟩
    fk := S.fk
    fg := S.fg
    fb := S.fb
    lx := S.lx
    lp := S.lp
    cel := fun y c' e => by
      obtain ⟨a, b, v', hv⟩ := S.cel y c' e
      by_cases q : c' = c
      · subst q; exact ⟨a, b, _, hn⟩
      · exact ⟨a, b, v', hv.sameBut hs q⟩
    cwr := S.cwr
    vars := fun y d' e => by
      unfold upd at e
      split at e
      · rename_i q
        subst q
        cases e
        exact ⟨v, .inr ⟨.inl hk, c, hc, hn⟩, H.mono hvis⟩
      · rename_i q
        obtain ⟨v', V, H'⟩ := S.vars y d' e
        refine ⟨v', ?_, H'.mono hvis⟩
        rcases V with ⟨a, m', hn', hm'⟩ | ⟨a, c', hc', hi⟩
        · exact .inl ⟨a, m', hn'.sameBut hs (Ne.symm cL), hm'⟩
        · refine .inr ⟨a, c', hc', hi.sameBut hs fun z => q ?_⟩
          subst z
          exact cU y hc'
    muo := S.muo
    mui := fun p hp => (S.mui p hp).mono hvis fun o e => (hs.2 _ fun q => (S.muo p hp).nc x c hc q.symm).trans e
    mnd := S.mnd }

theorem ex_assign_cell {x : Str} {px pos : Pos} {e : Expr} {d : D} {rest : List Stmt} (he : Ev prog w hb cx ρ mus e d) (hw : cx.cw = true) (hk : cx.env.kindOf x = some .cell) {c : Addr} (hc : cx.env.cells.lookup x = some c)
    (hr : Ex prog w hb cx (upd ρ x d) mus rest R) (hs : swapsWith e (some (.Name x px)) pos.line cx.env = pure false := by rfl) : Ex prog w hb cx ρ mus (.Assign [.Name x px] e pos :: rest) R := .mk fun s S => by
  refine wpAny_execs_cons (wpAny_Assign_Name (he.val S fun v s₁ S₁ k₁ h₁ => ?_) hs)
  obtain ⟨_, _, v₀, cI⟩ := S₁.cel x c hc
  exact wpAny_storeName_cell S₁.fk hk hc cI fun h' hn hs' => hr.run _ (S₁.storeCell hw hk h₁ hc hn hs')

theorem ex_return {e : Expr} {d : D} {pos : Pos} {rest : List Stmt} (he : Ev prog w hb cx ρ mus e d) (hR : ∀ v s, St w.params hb cx ρ mus s → Holds w.params (vis cx.X s.heap) v d → R (.ret v) s) :
    Ex prog w hb cx ρ mus (.Return (some e) pos :: rest) R := .mk fun s S => wpAny_execs_cons (wpAny_Return_some (he.val S fun v s₁ S₁ k₁ h₁ => hR v s₁ S₁ h₁))

/-- what follows a block -/
noncomputable def Then (prog : Program) (w : World) (cx : Cx) (rest : List Stmt) (R : Flow → Shared → Prop) : Flow → Shared → Prop := fun f s => match f with
  | .next => wpAny (model prog w) cx.A (execs rest cx.env) R NoE s
  | f => R f s
theorem then_nil {rest : List Stmt} (h : Ex prog w hb cx ρ mus rest R) : Ex prog w hb cx ρ mus [] (Then prog w cx rest R) := ex_nil fun s S => h.run s S

theorem ex_if {t : Expr} {body orelse rest : List Stmt} {pos : Pos} {c : Bool} (ht : Et prog w hb cx ρ mus t c) (h1 : c = true → Ex prog w hb cx ρ mus body (Then prog w cx rest R)) (h2 : c = false → Ex prog w hb cx ρ mus orelse (Then prog w cx rest R)) :
    Ex prog w hb cx ρ mus (.If t body orelse pos :: rest) R := .mk fun s S => by
  refine wpAny_execs_cons (wpAny_If (wpAny_mono (ht.run s S) (fun v s₁ x => ?_) fun _ _ x => x))
  obtain ⟨k, rfl⟩ := x
  cases v with
  | true => exact wpAny_mono ((h1 rfl).run s₁ (S.keeps k)) (fun f _ y => by cases f <;> exact y) fun _ _ y => y
  | false => exact wpAny_mono ((h2 rfl).run s₁ (S.keeps k)) (fun f _ y => by cases f <;> exact y) fun _ _ y => y

/-- an expression alone -/
theorem ex_expr {e : Expr} {d : D} {pos : Pos} {rest : List Stmt} (he : Ev prog w hb cx ρ mus e d) (hr : Ex prog w hb cx ρ mus rest R) (hi : interactive cx.env = false := by rfl) (hs : swapsWith e none pos.line cx.env = pure false := by rfl) :
    Ex prog w hb cx ρ mus (.Expr e pos :: rest) R := .mk fun s S => wpAny_execs_cons (wpAny_Expr_any (he.val S fun v s₁ S₁ _ _ => hr.run s₁ S₁) hi hs)

/-! a def: entering it -/
/-- the state's relation to the state ahead of the call -/
noncomputable def Back (P : Params) (X : Addr → Prop) (s0 : Shared) (r : D) : Flow → Shared → Prop := fun f s' => Keeps s0 s' ∧ Holds P (vis X s'.heap) (match f with | .ret v => v | _ => .none) r

theorem back_ret {X : Addr → Prop} {s : Shared} {v : Value} {d : D} (S : St w.params hb cx ρ mus s) (H : Holds w.params (vis cx.X s.heap) v d) (hX : ∀ b, X b → cx.X b) (hp : ∀ b o, cx.s0.heap.get? b = some o → cx.pr b o) :
    Back w.params X cx.s0 d (.ret v) s := by
  obtain ⟨h, tk, e⟩ := S.sh
  refine ⟨⟨h, tk, e, fun b o q => ?_, ?_⟩, H.mono (vis_less hX)⟩
  rotate_left
  · have := S.tk0; rw [e] at this; exact this
  have := S.pres b o (hp b o q)
  rw [e] at this; exact this
theorem back_none {X : Addr → Prop} {s : Shared} (S : St w.params hb cx ρ mus s) (hp : ∀ b o, cx.s0.heap.get? b = some o → cx.pr b o) : Back w.params X cx.s0 .none .next s := by
  obtain ⟨h, tk, e⟩ := S.sh
  refine ⟨⟨h, tk, e, fun b o q => ?_, ?_⟩, .none⟩
  rotate_left
  · have := S.tk0; rw [e] at this; exact this
  have := S.pres b o (hp b o q)
  rw [e] at this; exact this


theorem ex_ret {e : Expr} {X : Addr → Prop} {r : D} {pos : Pos} {rest : List Stmt} {s0 : Shared} (he : Ev prog w hb cx ρ mus e r) (hX : ∀ b, X b → cx.X b) (hp : ∀ b o, cx.s0.heap.get? b = some o → cx.pr b o) (hs : cx.s0 = s0 := by rfl) :
    Ex prog w hb cx ρ mus (.Return (some e) pos :: rest) (Back w.params X s0 r) := by
  subst hs
  exact ex_return he fun v s' S' H => back_ret S' H hX hp

/-- the frame of a call: A, the def, its address, the hidden, the state ahead -/
noncomputable abbrev cxOf (A : Around) (fd : FuncData) (a : Addr) (X : Addr → Prop) (s : Shared) : Cx :=
  { A := A.deeper (callEnv fd s.heap.objs.size a), env := callEnv fd s.heap.objs.size a, X := fun b => b = s.heap.objs.size ∨ X b, pr := fun b o => s.heap.get? b = some o, s0 := s, cw := true }

theorem Room.deeper {k : Nat} {A : Around} (h : Room (k + 1) A) (env : Env) : Room k (A.deeper env) := ⟨h.hh, by have := h.dp; show A.depth + 1 + k ≤ 900; omega, by have := h.un; show A.units + 3 + 10 * k ≤ 9000; omega⟩
theorem Room.le {k k' : Nat} {A : Around} (h : Room k A) (e : k' ≤ k) : Room k' A := ⟨h.hh, by have := h.dp; omega, by have := h.un; omega⟩

theorem zip_find : ∀ {ps : List Str} {ds : List D} {x : Str} {d : D}, ps.length = ds.length → (ps.zip ds).lookup x = some d → ∃ i, i < ds.length ∧ ps[i]? = some x ∧ ds[i]? = some d
  | p :: ps, e :: ds, x, d, hl, h => by
    rw [List.zip_cons_cons, List.lookup_cons] at h
    split at h
    · rename_i q
      cases h
      exact ⟨0, by simp, by simp [beq_iff_eq.mp q], rfl⟩
    · obtain ⟨i, hi, h1, h2⟩ := zip_find (by simpa using hl) h
      exact ⟨i + 1, by simpa using hi, by simpa using h1, by simpa using h2⟩
  | [], [], _, _, _, h => by simp at h
theorem lookup_of_mem {α : Type} : ∀ {l : List (Str × α)} {x : Str} {v : α}, (l.map (·.1)).Nodup → (x, v) ∈ l → l.lookup x = some v
  | (k, u) :: r, x, v, hn, hm => by
    rw [List.map_cons, List.nodup_cons] at hn
    rw [List.lookup_cons]
    rcases List.mem_cons.mp hm with q | q
    · cases q; simp
    · split
      · rename_i e
        have e' := beq_iff_eq.mp e
        exact absurd (List.mem_map.mpr ⟨_, q, e'⟩) hn.1
      · exact lookup_of_mem hn.2 q
theorem lookup_rev_zip {ps : List Str} {vs : List Value} {x : Str} {v : Value} {i : Nat} (hn : ps.Nodup) (hl : vs.length = ps.length) (h1 : ps[i]? = some x) (h2 : vs[i]? = some v) : (ps.zip vs).reverse.lookup x = some v := by
  refine lookup_of_mem ?_ ?_
  · rw [List.map_reverse, List.map_fst_zip (by omega)]
    exact List.pairwise_reverse.mpr (hn.imp Ne.symm)
  · rw [List.mem_reverse]
    refine List.mem_of_getElem? (i := i) ?_
    rw [List.getElem?_zip_eq_some]; exact ⟨h1, h2⟩
theorem fn_intro {a : Addr} {o : Obj} {fd : FuncData} {body : List Stmt} {ps : List Str} {ds : List D} {r : D} {k : Nat} (ho : hb.get? a = some o) (hdata : o.data = .func fd) (hlim : hb.NoLimit) (hcd : hb.CodeRec fd.code fd.qualname)
    (hbody : fd.body = .stmts body) (hbind : ∀ (s : Shared) (vs : List Value), (∀ b o, hb.get? b = some o → s.heap.get? b = some o) → vs.length = ps.length → BindsTo s fd ⟨vs, []⟩ (ps.zip vs))
    (hcell : ∀ x ∈ fd.scope.names, x.2 ≠ .cell) (hloc : ∀ x ∈ ps, fd.scope.names.lookup x = some .local) (hps : ps.length = ds.length) (hnd : ps.Nodup)
    (hcl : fd.closure = []) (hfg : fd.globals = mainGlobals) (hfb : fd.builtins = builtinsNs)
    (h : ∀ (A : Around) (X : Addr → Prop) (s : Shared), Room (k + 1) A → Ex prog w hb (cxOf A fd a X s) (asc (ps.zip ds)) [] body (Back w.params X s r))
    (hco : fd.scope.isCoroutine = false := by rfl) (hgen : fd.scope.isGenerator = false := by rfl) (hk : fd.scope.kind = .function := by rfl) :
    Fn prog w hb (k + 1) (.ref a) ds r := by
  refine ⟨?_⟩; intro A X s vs hA hX hbs htk hl hv
  have hlt : A.depth < recursionLimit := by have := hA.dp; show A.depth < 1000; omega
  refine wpAny_call (codeAny_call_def (fd := fd) (body := body) (binds := ps.zip vs) hlt (hbs a o ho).1 hdata (hlim.keeps fun b o e => (hbs b o e).1) (hcd.keeps fun b o e => (hbs b o e).1) hbody
    (hbind s vs (fun b o e => (hbs b o e).1) (by rw [hl, hps])) hcell (fun x hx => hloc x.1 (List.of_mem_zip hx).1) (fun h₀ hns hkeep => ?_) hco hgen hk)
  refine noE' ((h A X s hA).run { s with heap := h₀, toks := s.toks + (ps.zip vs).length } ?_) fun f s' x => x
  have hnL : s.heap.get? s.heap.objs.size = none := by
    cases e : s.heap.get? s.heap.objs.size with
    | none => rfl
    | some o => exact absurd (Heap.lt_size e) (Nat.lt_irrefl _)
  have hXL : ¬ X s.heap.objs.size := fresh_not hX
  have hvis : ∀ a o, vis X s.heap a o → vis (fun b => b = s.heap.objs.size ∨ X b) h₀ a o := fun b o q => ⟨hkeep b o q.1, fun z => by
    rcases z with z | z
    · have := q.1; rw [z, hnL] at this; cases this
    · exact q.2 z⟩
  have hcells : (callEnv fd s.heap.objs.size a).cells = [] := hcl
  exact {
    sh := ⟨h₀, _, rfl⟩
    tok := Nat.lt_of_lt_of_le htk (Nat.le_add_right _ _)
    tk0 := Nat.le_add_right _ _
    live := fun b hx => by
      rcases hx with rfl | hx
      · obtain ⟨o, _, _, e, _⟩ := hns; exact ⟨o, e⟩
      · obtain ⟨o, e⟩ := hX b hx; exact ⟨o, hkeep b o e⟩
    pres := fun b o e => hkeep b o e
    base := fun b o e => ⟨hkeep b o (hbs b o e).1, fun z => by
      rcases z with z | z
      · have := (hbs b o e).1; rw [z, hnL] at this; cases this
      · exact (hbs b o e).2 z⟩
    nsx := ⟨_, hns⟩
    fk := hk
    fg := hfg
    fb := hfb
    lx := .inl rfl
    lp := fun o e => by have e' : s.heap.get? s.heap.objs.size = some o := e; rw [hnL] at e'; cases e'
    cel := fun x c e => by have e' : (callEnv fd s.heap.objs.size a).cells.lookup x = some c := e; rw [hcells] at e'; cases e'
    cwr := fun _ x c e => by have e' : (callEnv fd s.heap.objs.size a).cells.lookup x = some c := e; rw [hcells] at e'; cases e'
    vars := fun x d e => by
      have e' : (ps.zip ds).lookup x = some d := e
      obtain ⟨i, hi, h1, h2⟩ := zip_find hps e'
      have hi' : i < vs.length := by rw [hl]; omega
      refine ⟨vs[i], .inl ⟨?_, _, hns, ?_⟩, (hv i vs[i] d (by simp [hi']) h2).mono hvis⟩
      · exact hloc x (List.mem_of_getElem? h1)
      · exact lookup_rev_zip hnd (by rw [hl, hps]) h1 (by simp [hi'])
    muo := fun _ h => nomatch h
    mui := fun _ h => nomatch h
    mnd := .nil }
end
end Mine
end

section
open PySem PySem.W PySem.Calls PySem.Spec PyProof.Rows
set_option Elab.async false
set_option linter.unusedVariables false
namespace Mine

/-- an iterator over a list owns no tuple -/
structure Lot (target : Expr) : Prop where
  run : ∀ {prog : Program} {w : World} {A : Around} {Q : Unit → Shared → Prop} {E : Value → Shared → Prop} {s : Shared} {I l : Addr} {i : Nat} {v : Value}, s.heap.IsListIter I l i → Q () s → wpAny (model prog w) A (letOwnedTupleGo target (.ref I) v) Q E s
theorem lot_name {x : Str} {px : Pos} : Lot (.Name x px) := ⟨fun _ h => wpAny_pure h⟩
theorem lot_tup {es : List Expr} {k : Nat} {pos : Pos} : Lot (.Tuple es k pos) := ⟨fun {_ _ _ _ _ _ _ _ _ v} hit h => by
  cases v with
  | ref a => exact wpAny_letOwnedTupleGo_listiter hit h
  | _ => exact wpAny_pure h⟩

section
variable {prog : Program} {w : World} {hb : Heap} {cx : Cx} {ρ : Rho} {mus : Mus} {R : Flow → Shared → Prop}

/-- from a wider context back to a narrower one, the heap having turned at most what the narrower does not see -/
theorem St.drop {X' : Addr → Prop} {pr' : Addr → Obj → Prop} {s s₀ : Shared} {ρ₀ : Rho} {mus₀ : Mus} (S₀ : St w.params hb cx ρ₀ mus₀ s₀) (S : St w.params hb { cx with X := X', pr := pr' } ρ mus s)
    (hX : ∀ b, cx.X b → X' b) (hp : ∀ b o, cx.pr b o → pr' b o) (hm : ∀ p ∈ mus, MuOk cx p.1) {h' : Heap} {tk : Nat}
    (k : ∀ b o, (cx.X b ∨ ¬ X' b ∨ cx.pr b o) → s.heap.get? b = some o → h'.get? b = some o) (htk : s.toks ≤ tk := by exact Nat.le_refl _) : St w.params hb cx ρ mus { s with heap := h', toks := tk } := by
  have hvis : ∀ a o, vis X' s.heap a o → vis cx.X h' a o := fun b o q => ⟨k b o (.inr (.inl q.2)) q.1, fun z => q.2 (hX b z)⟩
  have hv : ∀ x v, VarAt cx.env s.heap x v → VarAt cx.env h' x v := fun x v V => by
    rcases V with ⟨a, m, hn, hm⟩ | ⟨a, c, hc, hi⟩
    · exact .inl ⟨a, m, hn.at' fun o e => k _ o (.inl S₀.lx) e, hm⟩
    · obtain ⟨o, ho, hd⟩ := hi
      exact .inr ⟨a, c, hc, o, k c o (.inl (S₀.cel x c hc).1) ho, hd⟩
  exact {
    sh := by obtain ⟨h, t, e⟩ := S.sh; exact ⟨h', tk, by rw [e]⟩
    tok := Nat.lt_of_lt_of_le S.tok htk
    tk0 := Nat.le_trans S.tk0 htk
    live := fun b hx => by obtain ⟨o, e⟩ := S.live b (hX b hx); exact ⟨o, k b o (.inl hx) e⟩
    pres := fun b o e => k b o (.inr (.inr e)) (S.pres b o (hp b o e))
    base := fun b o e => ⟨k b o (.inr (.inl (S.base b o e).2)) (S.base b o e).1, fun z => (S.base b o e).2 (hX b z)⟩
    nsx := by obtain ⟨m, hm⟩ := S.nsx; exact ⟨m, hm.at' fun o e => k _ o (.inl S₀.lx) e⟩
    fk := S.fk
    fg := S.fg
    fb := S.fb
    lx := S₀.lx
    lp := S₀.lp
    cel := fun x c e => by
      obtain ⟨a, b, _⟩ := S₀.cel x c e
      obtain ⟨_, _, v, o, ho, hd⟩ := S.cel x c e
      exact ⟨a, b, v, o, k c o (.inl a) ho, hd⟩
    cwr := S₀.cwr
    vars := fun x d e => by obtain ⟨v, a, b⟩ := S.vars x d e; exact ⟨v, hv x v a, b.mono hvis⟩
    muo := hm
    mui := fun p hp' => (S.mui p hp').mono hvis fun o e => k _ o (.inl (hm p hp').x) e
    mnd := S.mnd }

theorem get_fresh {h : Heap} : h.get? h.objs.size = none := by
  cases e : h.get? h.objs.size with
  | none => rfl
  | some o => exact absurd (Heap.lt_size e) (Nat.lt_irrefl _)

/-- the context of a loop's turn: the iterator is hidden and stands -/
noncomputable abbrev cxI (cx : Cx) (I : Addr) (it : Obj) (h : Heap) : Cx :=
  { cx with X := fun b => b = I ∨ cx.X b, pr := fun b o => cx.pr b o ∨ (h.get? b = some o ∧ ¬ (b = I ∨ cx.X b)) ∨ (b = I ∧ o = it) }

/-- hide a new object and hold it fast; all that is seen now stands -/
theorem St.hideNew {s : Shared} (S : St w.params hb cx ρ mus s) (I : Addr) (it : Obj) (hI : s.heap.get? I = some it) (hn : ¬ cx.X I) (hp : ∀ o, ¬ cx.pr I o) (hnb : hb.get? I = none)
    (hv : ∀ x d, ρ x = some d → ∃ v, VarAt cx.env s.heap x v ∧ Holds w.params (vis (fun b => b = I ∨ cx.X b) s.heap) v d)
    (hmu : ∀ p ∈ mus, MuIs w.params (vis (fun b => b = I ∨ cx.X b) s.heap) s.heap p.1 p.2) :
    St w.params hb (cxI cx I it s.heap) ρ mus s := {
  sh := S.sh
  tok := S.tok
  tk0 := S.tk0
  live := fun b hx => by
    rcases hx with rfl | hx
    · exact ⟨it, hI⟩
    · exact S.live b hx
  pres := fun b o e => by
    rcases e with e | ⟨e, _⟩ | ⟨rfl, rfl⟩
    · exact S.pres b o e
    · exact e
    · exact hI
  base := fun b o e => ⟨(S.base b o e).1, fun z => by
    rcases z with rfl | z
    · rw [hnb] at e; cases e
    · exact (S.base b o e).2 z⟩
  nsx := S.nsx
  fk := S.fk
  fg := S.fg
  fb := S.fb
  lx := .inr S.lx
  lp := fun o e => by
    rcases e with e | ⟨_, e⟩ | ⟨e, _⟩
    · exact S.lp o e
    · exact e (.inr S.lx)
    · exact hn (e ▸ S.lx)
  cel := fun x c e => by obtain ⟨a, b, c'⟩ := S.cel x c e; exact ⟨.inr a, b, c'⟩
  cwr := fun hw x c e => by
    obtain ⟨a, b⟩ := S.cwr hw x c e
    refine ⟨fun o z => ?_, b⟩
    rcases z with z | ⟨_, z⟩ | ⟨z, _⟩
    · exact a o z
    · exact z (.inr (S.cel x c e).1)
    · exact hn (z ▸ (S.cel x c e).1)
  vars := hv
  muo := fun p hp' => by
    have M := S.muo p hp'
    refine ⟨.inr M.x, M.nl, fun o z => ?_, M.nc⟩
    rcases z with z | ⟨_, z⟩ | ⟨z, _⟩
    · exact M.np o z
    · exact z (.inr M.x)
    · exact hn (z ▸ M.x)
  mui := hmu
  mnd := S.mnd }

/-- a turn's end -/
noncomputable def Turn (P : Params) (hb : Heap) (cx : Cx) (ρ : Rho) (mus : Mus) (R : Flow → Shared → Prop) : Flow → Shared → Prop := fun f s => match f with
  | .next => St P hb cx ρ mus s
  | .cont => St P hb cx ρ mus s
  | .brk => False
  | .ret v => R (.ret v) s


/-- what the loop's target does with an item -/
structure AsgOk (prog : Program) (w : World) (hb : Heap) (cx : Cx) (target : Expr) (d : D) (ρ ρ' : Rho) : Prop where
  run : ∀ (X' : Addr → Prop) (pr' : Addr → Obj → Prop) (mus : Mus) (s : Shared) (v : Value), (∀ b, cx.X b → X' b) → St w.params hb { cx with X := X', pr := pr' } ρ mus s → Holds w.params (vis X' s.heap) v d →
    wpAny (model prog w) cx.A (assign target cx.env v) (fun _ s' => St w.params hb { cx with X := X', pr := pr' } ρ' mus s') NoE s

theorem asg_name {x : Str} {px : Pos} {d : D} (hk : cx.env.kindOf x = some .local) : AsgOk prog w hb cx (.Name x px) d ρ (upd ρ x d) := .mk fun X' pr' mus s v hX S H => by
  obtain ⟨m, hm⟩ := S.nsx
  exact wpAny_assign_Name (wpAny_storeName_local hk hm (fun h' hn hs' => S.store hk H hm hn hs' _) (hp_fn S.fk))

theorem ex_for {target iter : Expr} {body rest : List Stmt} {pos : Pos} {ds : List D} (hh : cx.A.handled = none) (ρs ρt : Nat → Rho) (muss : Nat → Mus) (hi : Ev prog w hb cx ρ mus iter (.list ds))
    (h0 : Le (ρs 0) ρ) (hm0 : muss 0 = mus) (hm : ∀ i, (muss i).map (·.1) = mus.map (·.1))
    (ha : ∀ i d, ds[i]? = some d → AsgOk prog w hb cx target d (ρs i) (ρt i))
    (turn : ∀ i d X' pr', ds[i]? = some d → (∀ b, cx.X b → X' b) → (∀ b o, cx.pr b o → pr' b o) →
      Ex prog w hb { cx with X := X', pr := pr' } (ρt i) (muss i) body (Turn w.params hb { cx with X := X', pr := pr' } (ρs (i + 1)) (muss (i + 1)) R))
    (hr : Ex prog w hb cx (ρs ds.length) (muss ds.length) rest R)
    (hs : ∀ x, foldedSetIterable iter cx.env x = pure x := by intro _; rfl) (ht : Lot target := by first | exact lot_name | exact lot_tup) :
    Ex prog w hb cx ρ mus (.For target iter body [] pos :: rest) R := .mk fun s S => by
  refine wpAny_execs_cons (wpAny_For (hi.val S fun v s₁ S₁ k₁ H₁ => ?_) hs)
  obtain ⟨l, vs, n, rfl, hv, hl, hit⟩ := holds_list H₁
  have hL : s₁.heap.IsList l vs := ⟨_, hv.1, rfl, n, rfl⟩
  refine wpAny_pyIter_list hL ?_
  -- the iterator
  generalize hI : s₁.heap.objs.size = I
  have hIf : s₁.heap.get? I = none := hI ▸ get_fresh
  have hIX : ¬ cx.X I := hI ▸ fresh_not S₁.live
  have hIp : ∀ o, ¬ cx.pr I o := fun o e => by have := S₁.pres I o e; rw [hIf] at this; cases this
  have hIb : hb.get? I = none := by
    cases e : hb.get? I with
    | none => rfl
    | some o => have := (S₁.base I o e).1; rw [hIf] at this; cases this
  let it (i : Nat) : Obj := { cls := .type "list_iterator", data := .fields #[.ref l, .int i 0] }
  generalize hh2 : s₁.heap.push (it 0) = h₂
  have kp : ∀ b o, s₁.heap.get? b = some o → h₂.get? b = some o := fun b o e => hh2 ▸ Heap.get?_push_of_some _ e
  have S₂ : St w.params hb cx ρ mus { s₁ with heap := h₂ } := S₁.keeps ⟨h₂, s₁.toks, rfl, kp, Nat.le_refl _⟩
  have hgI : h₂.get? I = some (it 0) := by rw [← hh2, ← hI]; exact Heap.get?_push_size _ rfl
  -- what is seen ahead of the iterator
  have hvI : ∀ a o, vis cx.X s₁.heap a o → vis (fun b => b = I ∨ cx.X b) h₂ a o := fun a o q => ⟨kp a o q.1, fun z => by
    rcases z with rfl | z
    · have := q.1; rw [hIf] at this; cases this
    · exact q.2 z⟩
  have hgL : vis (fun b => b = I ∨ cx.X b) h₂ l { cls := .type "list", data := .seq vs n } := hvI _ _ hv
  have hlI : l ≠ I := fun e => hgL.2 (.inl e)
  -- the invariant
  let XI : Addr → Prop := fun b => b = I ∨ cx.X b
  let prI : Addr → Obj → Prop := fun b o => cx.pr b o ∨ (h₂.get? b = some o ∧ ¬ XI b)
  let Inv : Nat → Shared → Prop := fun i s' => St w.params hb { cx with X := XI, pr := prI } (ρs i) (muss i) s' ∧ s'.heap.IsListIter I l i
  have hMu : ∀ i, ∀ p ∈ muss i, MuOk cx p.1 := fun i p hp => by
    have : p.1 ∈ mus.map (·.1) := hm i ▸ List.mem_map_of_mem hp
    obtain ⟨q, hq, e⟩ := List.mem_map.mp this
    exact e ▸ S.muo q hq
  have start : Inv 0 { s₁ with heap := h₂ } := by
    refine ⟨?_, ⟨_, hgI, rfl, rfl⟩⟩
    have Sx := (S₂.forget h0).hideNew I (it 0) hgI hIX hIp hIb (fun x d e => by
        obtain ⟨v', V, H'⟩ := S₁.vars x d (h0 x d e)
        exact ⟨v', V.keeps kp, H'.mono hvI⟩) (fun p hp => (S₁.mui p hp).mono hvI fun o e => kp _ o e)
    rw [hm0]
    exact { Sx with
      pres := fun b o e => Sx.pres b o (e.elim .inl fun e => .inr (.inl e))
      lp := fun o e => Sx.lp o (e.elim .inl fun e => .inr (.inl e))
      cwr := fun hw x c e => ⟨fun o z => (Sx.cwr hw x c e).1 o (z.elim .inl fun z => .inr (.inl z)), (Sx.cwr hw x c e).2⟩
      muo := fun p hp => ⟨(Sx.muo p hp).x, (Sx.muo p hp).nl, fun o z => (Sx.muo p hp).np o (z.elim .inl fun z => .inr (.inl z)), (Sx.muo p hp).nc⟩ }
  have see : ∀ {i : Nat} {s' : Shared}, St w.params hb { cx with X := XI, pr := prI } (ρs i) (muss i) s' → ∀ a o, vis XI h₂ a o → vis XI s'.heap a o := fun S' a o q => ⟨S'.pres a o (.inr ⟨q.1, q.2⟩), q.2⟩
  -- the iterator turns alone
  have step : ∀ {i : Nat} {s' : Shared} {h' : Heap}, Inv i s' → h'.IsListIter I l (i + 1) → Heap.SameBut I s'.heap h' → ∃ io, h'.get? I = some io ∧ St w.params hb { cx with X := XI, pr := fun b o => prI b o ∨ (b = I ∧ o = io) } (ρs i) (muss i) { s' with heap := h' } := by
    intro i s' h' J hit' hsb
    obtain ⟨io, hio, hc, hd⟩ := id hit'
    refine ⟨io, hio, ?_⟩
    obtain ⟨S', J'⟩ := J
    have kk : ∀ b o, b ≠ I → s'.heap.get? b = some o → h'.get? b = some o := fun b o nb e => (hsb.2 b nb).trans e
    have hLI : cx.env.locals ≠ I := fun e => hIX (e ▸ S.lx)
    have hCI : ∀ x c, cx.env.cells.lookup x = some c → c ≠ I := fun x c e z => hIX (z ▸ (S.cel x c e).1)
    have hvis : ∀ a o, vis XI s'.heap a o → vis XI h' a o := fun b o q => ⟨kk b o (fun e => q.2 (.inl e)) q.1, q.2⟩
    exact {
      sh := by obtain ⟨h, t, e⟩ := S'.sh; exact ⟨h', t, by rw [e]⟩
      tok := S'.tok
      tk0 := S'.tk0
      live := fun b hx => by
        by_cases hbI : b = I
        · subst hbI; exact ⟨io, hio⟩
        · obtain ⟨o, e⟩ := S'.live b hx; exact ⟨o, kk b o hbI e⟩
      pres := fun b o e => by
        rcases e with e | ⟨rfl, rfl⟩
        · refine kk b o (fun z => ?_) (S'.pres b o e)
          subst z
          rcases e with e | ⟨_, e⟩
          · exact hIp o e
          · exact e (.inl rfl)
        · exact hio
      base := fun b o e => ⟨kk b o (fun z => (S'.base b o e).2 (.inl z)) (S'.base b o e).1, (S'.base b o e).2⟩
      nsx := by obtain ⟨m, hm⟩ := S'.nsx; exact ⟨m, hm.at' fun o e => kk _ o hLI e⟩
      fk := S'.fk
      fg := S'.fg
      fb := S'.fb
      lx := S'.lx
      lp := fun o e => by
        rcases e with e | ⟨e, _⟩
        · exact S'.lp o e
        · exact hLI e
      cel := fun x c e => by
        obtain ⟨a, b, v, o, ho, hd⟩ := S'.cel x c e
        exact ⟨a, b, v, o, kk c o (hCI x c e) ho, hd⟩
      cwr := fun hw x c e => ⟨fun o z => by
        rcases z with z | ⟨z, _⟩
        · exact (S'.cwr hw x c e).1 o z
        · exact hCI x c e z, (S'.cwr hw x c e).2⟩
      vars := fun x d e => by
        obtain ⟨v, V, H⟩ := S'.vars x d e
        refine ⟨v, ?_, H.mono hvis⟩
        rcases V with ⟨a, m, hn, hm⟩ | ⟨a, c, hc, o, ho, hd⟩
        · exact .inl ⟨a, m, hn.at' fun o e => kk _ o hLI e, hm⟩
        · exact .inr ⟨a, c, hc, o, kk c o (hCI x c hc) ho, hd⟩
      muo := fun p hp => ⟨(S'.muo p hp).x, (S'.muo p hp).nl, fun o z => by
        rcases z with z | ⟨z, _⟩
        · exact (S'.muo p hp).np o z
        · exact hIX (z ▸ (hMu i p hp).x), (S'.muo p hp).nc⟩
      mui := fun p hp => (S'.mui p hp).mono hvis fun o e => kk _ o (fun z => hIX (z ▸ (hMu i p hp).x)) e
      mnd := S'.mnd }
  have hsz : vs.size = ds.length := hl
  refine codeAny_forLoop_any (fun k s' => ∃ i, k = ds.length + 1 - i ∧ i ≤ ds.length ∧ Inv i s') ?_ (ds.length + 1) ⟨0, rfl, Nat.zero_le _, start⟩
  rintro k s' ⟨i, rfl, hile, J⟩
  have Ls : s'.heap.IsList l vs := ⟨_, (see J.1 _ _ hgL).1, rfl, n, rfl⟩
  by_cases hlt : i < ds.length
  · have hx : vs[i]? = some vs[i] := by simp [show i < vs.size by omega]
    have hd : ds[i]? = some ds[i] := by simp [hlt]
    refine noE' (wpAny_pyNext_list_item (E := NoE) J.2 Ls hx fun h' hit' hsb => ?_) fun _ _ x => x
    refine ht.run hit' ?_
    obtain ⟨io, hio, S'⟩ := step J hit' hsb
    have Hi : Holds w.params (vis XI h') vs[i] ds[i] := (hit i vs[i] ds[i] hx hd).mono fun a o q => by
      have q' := see J.1 a o (hvI a o q)
      exact ⟨(hsb.2 a fun e => q'.2 (.inl e)).trans q'.1, q'.2⟩
    refine noE' ((ha i ds[i] hd).run XI _ (muss i) _ vs[i] (fun b z => .inr z) S' Hi) fun _ s₃ S₃ => ?_
    refine noE' ((turn i ds[i] XI _ hd (fun b z => .inr z) (fun b o z => .inl (.inl z))).run s₃ S₃) fun f s₄ T => ?_
    have close : St w.params hb { cx with X := XI, pr := fun b o => prI b o ∨ (b = I ∧ o = io) } (ρs (i + 1)) (muss (i + 1)) s₄ → ∃ m, m < ds.length + 1 - i ∧ ∃ j, m = ds.length + 1 - j ∧ j ≤ ds.length ∧ Inv j s₄ := fun S₄ => by
      refine ⟨ds.length + 1 - (i + 1), by omega, i + 1, rfl, hlt, ?_, ?_⟩
      · exact { S₄ with
          pres := fun b o e => S₄.pres b o (.inl e)
          lp := fun o e => S₄.lp o (.inl e)
          cwr := fun hw x c e => ⟨fun o z => (S₄.cwr hw x c e).1 o (.inl z), (S₄.cwr hw x c e).2⟩
          muo := fun p hp => ⟨(S₄.muo p hp).x, (S₄.muo p hp).nl, fun o z => (S₄.muo p hp).np o (.inl z), (S₄.muo p hp).nc⟩ }
      · obtain ⟨io', hio', hc', hd'⟩ := hit'
        rw [hio] at hio'
        cases hio'
        exact ⟨io, S₄.pres I io (.inr ⟨rfl, rfl⟩), hc', hd'⟩
    cases f with
    | next => exact close T
    | cont => exact close T
    | brk => exact T.elim
    | ret v => exact T
  · have hie : i = ds.length := by omega
    subst hie
    refine noE' (wpAny_pyNext_list_end (E := NoE) hh J.2 Ls (by simp [hsz]) fun h' he => ?_) fun _ _ x => x
    refine wpAny_execs_nil ?_
    refine hr.run _ (St.drop S J.1 (fun b z => .inr z) (fun b o z => .inl z) (hMu _) (h' := h') fun b o q e => he b o (fun z => ?_) e)
    subst z
    rcases q with q | q | q
    · exact hIX q
    · exact q (.inl rfl)
    · exact hIp o q
end
end Mine
end

section
open PySem PySem.W PySem.Calls PySem.Spec PyProof.Rows
set_option Elab.async false
set_option linter.unusedVariables false
namespace Mine

section
variable (prog : Program) (w : World) (hb : Heap)
/-- a comprehension's tests -/
structure EtAll (cx : Cx) (ρ : Rho) (ifs : List Expr) (b : Bool) : Prop where
  run : ∀ s, St w.params hb cx ρ [] s → wpAny (model prog w) cx.A (forIn ifs true fun c r => if r = true then do let ok ← isTrue c cx.env (eval c cx.env); pure (ForInStep.yield ok) else pure (ForInStep.yield r))
    (fun ok s' => ok = b ∧ Keeps s s') NoE s
end

section
variable {prog : Program} {w : World} {hb : Heap} {cx : Cx} {ρ : Rho} {mus : Mus} {R : Flow → Shared → Prop}

theorem etall_nil : EtAll prog w hb cx ρ [] true := .mk fun s S => wpAny_pure ⟨rfl, keeps_refl⟩
theorem etall_one {c : Expr} {b : Bool} (h : Et prog w hb cx ρ [] c b) : EtAll prog w hb cx ρ [c] b := .mk fun s S => by
  simp only [List.forIn_cons, List.forIn_nil, if_true]
  exact wpAny_bind (wpAny_bind (wpAny_mono (h.run s S) (fun v s' x => wpAny_pure (wpAny_pure ⟨x.2, x.1⟩)) fun _ _ x => x))

/-- the context within a comprehension -/
noncomputable abbrev cxC (cx : Cx) (scope : Scope) (cl : List (Str × Addr)) (C : Addr) (X' : Addr → Prop) (pr' : Addr → Obj → Prop) (s₀ : Shared) : Cx :=
  { A := cx.A, env := compEnvC scope cl C cx.env, X := X', pr := pr', s0 := s₀, cw := false }

structure CompSc (cx : Cx) (scope : Scope) (cl : List (Str × Addr)) : Prop where
  clos : closureFor scope cx.env = pure cl
  cell : ∀ y ∈ scope.names, y.2 ≠ .cell
  kind : scope.kind = .function
  names : ∀ y ∈ scope.names, y.2 = .local → scope.names.lookup y.1 = some .local
  sub : ∀ x c, cl.lookup x = some c → cx.env.cells.lookup x = some c

/-- what a comprehension's block sees of the frame around it -/
noncomputable def Capt (cx : Cx) (scope : Scope) (cl : List (Str × Addr)) (ρ ρc : Rho) : Prop :=
  ∀ x d, ρc x = some d → ρ x = some d ∧ cx.env.kindOf x ≠ some .local ∧ (∃ c, cl.lookup x = some c) ∧ ((relabel scope cx.env).names.lookup x = some .cell ∨ (relabel scope cx.env).names.lookup x = some .free)

theorem St.hide1 {s s' : Shared} {C : Addr} (S : St w.params hb cx ρ mus s) (k : Keeps s s') (hC : s.heap.get? C = none) (al : ∃ o, s'.heap.get? C = some o) : St w.params hb { cx with X := fun b => b = C ∨ cx.X b } ρ mus s' := by
  have kk := keeps_get k
  have S' := S.keeps k
  have hv : ∀ a o, vis cx.X s.heap a o → vis (fun b => b = C ∨ cx.X b) s'.heap a o := fun a o q => ⟨kk a o q.1, fun z => by
    rcases z with rfl | z
    · have := q.1; rw [hC] at this; cases this
    · exact q.2 z⟩
  exact {
    sh := S'.sh
    tok := S'.tok
    tk0 := S'.tk0
    live := fun b hx => by
      rcases hx with rfl | hx
      · exact al
      · exact S'.live b hx
    pres := S'.pres
    base := fun b o e => ⟨(S'.base b o e).1, fun z => by
      rcases z with rfl | z
      · have := (S.base b o e).1; rw [hC] at this; cases this
      · exact (S'.base b o e).2 z⟩
    nsx := S'.nsx
    fk := S.fk
    fg := S.fg
    fb := S.fb
    lx := .inr S.lx
    lp := S.lp
    cel := fun x c e => by obtain ⟨a, b⟩ := S'.cel x c e; exact ⟨.inr a, b⟩
    cwr := S.cwr
    vars := fun x d e => by obtain ⟨v, a, b⟩ := S.vars x d e; exact ⟨v, a.keeps kk, b.mono hv⟩
    muo := fun p hp => ⟨.inr (S.muo p hp).x, (S.muo p hp).nl, (S.muo p hp).np, (S.muo p hp).nc⟩
    mui := fun p hp => (S.mui p hp).mono hv fun o e => kk _ o e
    mnd := S.mnd }
theorem HoldsL.snoc {P : Params} {V : Vis} {vs : List Value} {ds : List D} {v : Value} {d : D} (t : HoldsL P V vs ds) (h : Holds P V v d) : HoldsL P V (vs ++ [v]) (ds ++ [d]) :=
  ⟨by simp [t.1], fun i v' d' a b => by
    have hl := t.1
    rcases Nat.lt_trichotomy i vs.length with q | q | q
    · rw [List.getElem?_append_left q] at a
      rw [List.getElem?_append_left (by omega)] at b
      exact t.2 i v' d' a b
    · subst q
      rw [List.getElem?_append_right (Nat.le_refl _)] at a
      rw [List.getElem?_append_right (by omega), hl] at b
      simp at a b
      subst a b; exact h
    · rw [List.getElem?_eq_none (by simp; omega)] at a; cases a⟩

theorem compLoop_tests_any {A : Around} {s : Shared} {R : Result → Shared → Prop} {elt target iter : Expr} {ifs : List Expr} {scope : Scope} {pos : Pos} {it acc : Value} {env : Env} (I : Nat → Shared → Prop)
    (turn : ∀ n s, I n s → wpAny (model prog w) A (pyNext it) (fun r s₁ => match r with
      | none => R (.ok .next) s₁
      | some v => wpAny (model prog w) A (letOwnedTupleGo target it v) (fun _ s₁' => wpAny (model prog w) A (assign target env v) (fun _ s₂ =>
          wpAny (model prog w) A (forIn ifs true fun c r => if r = true then do let ok ← isTrue c env (eval c env); pure (ForInStep.yield ok) else pure (ForInStep.yield r)) (fun ok s₃ =>
            if ok = true then wpAny (model prog w) A (eval elt env) (fun x s₄ =>
              wpAny (model prog w) A (call (.builtin "list.append") [acc, x]) (fun _ s₅ => ∃ m, m < n ∧ I m s₅) (notedBy (model prog w) A env fun e s' => R (.error e) s') s₄) (notedBy (model prog w) A env fun e s' => R (.error e) s') s₃
            else ∃ m, m < n ∧ I m s₃) (notedBy (model prog w) A env fun e s' => R (.error e) s') s₂) (notedBy (model prog w) A env fun e s' => R (.error e) s') s₁') (notedBy (model prog w) A env fun e s' => R (.error e) s') s₁) (notedBy (model prog w) A env fun e s' => R (.error e) s') s)
    (n : Nat) (h : I n s) :
    codeAny (model prog w) A (.compLoop (.ListComp elt [⟨target, iter, ifs, 0⟩] scope pos) 0 it acc env) R s := by
  refine codeAny_loop rfl I (fun n s hI => ?_) n h
  show wpAny _ A ((compTurn (.ListComp elt [⟨target, iter, ifs, 0⟩] scope pos) 0 it acc env).onRaise (fun x => do noteFrame x env; theTreesLotGoes x)) _ _ s
  refine wpAny_noted ?_
  rw [compTurn_list]
  refine wpAny_bind (wpAny_standAt (wpAny_bind (wpAny_mono (turn n s hI) (fun r s₁ h₁ => ?_) fun _ _ h' => h')))
  cases r with
  | none => exact wpAny_pure h₁
  | some v =>
    refine wpAny_bind (wpAny_mono h₁ (fun _ s₁' h₁' => ?_) fun _ _ h' => h')
    refine wpAny_bind (wpAny_mono h₁' (fun _ s₂ h₂ => wpAny_bind (wpAny_mono h₂ (fun ok s₃ h₃ => ?_) fun _ _ h' => h')) fun _ _ h' => h')
    cases ok with
    | false => exact wpAny_pure ⟨rfl, h₃⟩
    | true =>
      exact wpAny_bind (wpAny_bind (wpAny_mono h₃ (fun x s₄ h₄ => wpAny_bind (wpAny_mono h₄ (fun _ s₅ h₅ => wpAny_pure (wpAny_pure ⟨rfl, h₅⟩)) fun _ _ h' => h')) fun _ _ h' => h'))

theorem comp_core {elt target iter : Expr} {ifs : List Expr} {scope : Scope} {cl : List (Str × Addr)} {pos : Pos} {ds : List D} {RR : Value → Addr → Result → Shared → Prop} {E : Value → Shared → Prop}
    (hh : cx.A.handled = none) (ρc : Rho) (ρt : D → Rho) (g : D → Option D) (hi : Ev prog w hb cx ρ mus iter (.list ds)) (hsc : CompSc cx scope cl) (hcap : Capt cx scope cl ρ ρc)
    (ha : ∀ d ∈ ds, ∀ C X' pr' s₀, AsgOk prog w hb (cxC cx scope cl C X' pr' s₀) target d ρc (ρt d))
    (htest : ∀ d ∈ ds, ∀ C X' pr' s₀, EtAll prog w hb (cxC cx scope cl C X' pr' s₀) (ρt d) ifs (g d).isSome)
    (helt : ∀ d ∈ ds, ∀ e, g d = some e → ∀ C X' pr' s₀, Ev prog w hb (cxC cx scope cl C X' pr' s₀) (ρt d) [] elt e)
    (hle : ∀ d ∈ ds, Le ρc (ρt d)) (hz : ds.length ≤ sizeLine) {s : Shared} (S : St w.params hb cx ρ mus s)
    (hRR : ∀ D C s' m, St w.params hb { cx with X := fun b => b = C ∨ cx.X b } ρ mus s' → Keeps s s' → s'.heap.Ns C m → s.heap.get? C = none → ¬ cx.X C → (∀ o, ¬ cx.pr C o) →
      Holds w.params (vis (fun b => b = C ∨ cx.X b) s'.heap) (.ref D) (.list (ds.filterMap g)) → RR (.ref D) C (.ok .next) s')
    (ht : Lot target := by first | exact lot_name | exact lot_tup) :
    wpAny (model prog w) cx.A (eval iter cx.env) (fun x s₁ => wpAny (model prog w) cx.A (pyIter x) (fun it s₂ => wpAny (model prog w) cx.A (newList []) (fun acc s₃ =>
      wpAny (model prog w) cx.A (newFunctionEnv scope cx.env.globals cl [] cx.env.qual none .none (some cx.env)) (fun cenv s₄ =>
        codeAny (model prog w) cx.A (.compStart (.ListComp elt [⟨target, iter, ifs, 0⟩] scope pos) 0 it acc { cenv with scope := relabel scope cx.env }) (RR acc cenv.locals) s₄) E s₃) E s₂) E s₁) E s := by
  refine hi.val S fun v s₁ S₁ k₁ H₁ => ?_
  obtain ⟨l, vs, n, rfl, hv, hl, hit⟩ := holds_list H₁
  have hL : s₁.heap.IsList l vs := ⟨_, hv.1, rfl, n, rfl⟩
  refine wpAny_pyIter_list hL ?_
  -- three new things: the iterator, the list, the block's names
  generalize hI : s₁.heap.objs.size = I
  let it (i : Nat) : Obj := { cls := .type "list_iterator", data := .fields #[.ref l, .int i 0] }
  generalize hh2 : s₁.heap.push (it 0) = h₂
  have sz2 : h₂.objs.size = I + 1 := by rw [← hh2, Heap.size_push, hI]
  refine wpAny_newObj_type (wpAny_newFunctionEnv hsc.cell (by intro y hy; simp at hy) (fun h₄ hns hsb => ?_) hsc.kind)
  dsimp only at hns hsb ⊢
  generalize hD : h₂.objs.size = D at hns hsb ⊢
  generalize hh3 : h₂.push { cls := .type "list", dict := none, data := .seq ([] : List Value).toArray } = h₃ at hns hsb ⊢
  generalize hC : h₃.objs.size = C at hns hsb ⊢
  have sz3 : C = I + 2 := by rw [← hC, ← hh3, Heap.size_push, sz2]
  have sz2' : D = I + 1 := by rw [← hD, sz2]
  have fresh : ∀ a, I ≤ a → s₁.heap.get? a = none := fun a h => by
    cases e : s₁.heap.get? a with
    | none => rfl
    | some o => exact absurd (Heap.lt_size e) (by rw [hI]; exact Nat.not_lt.mpr h)
  have fI := fresh I (Nat.le_refl _)
  have fD := fresh D (by omega)
  have fC := fresh C (by omega)
  have nDC : D ≠ C := by omega
  have nIC : I ≠ C := by omega
  have nID : I ≠ D := by omega
  have kp : ∀ b o, s₁.heap.get? b = some o → h₄.get? b = some o := fun b o e => by
    have e2 : h₂.get? b = some o := hh2 ▸ Heap.get?_push_of_some _ e
    have e3 : h₃.get? b = some o := hh3 ▸ Heap.get?_push_of_some _ e2
    refine hsb.extBut b o (fun z => ?_) (Heap.get?_push_of_some _ e3)
    rw [z, fC] at e; cases e
  have gI : h₄.get? I = some (it 0) := by
    have e2 : h₂.get? I = some (it 0) := by rw [← hh2, ← hI]; exact Heap.get?_push_size _ rfl
    have e3 : h₃.get? I = some (it 0) := hh3 ▸ Heap.get?_push_of_some _ e2
    exact hsb.extBut I _ nIC (Heap.get?_push_of_some _ e3)
  have gD : h₄.PlainList D #[] := by
    have e3 : h₃.get? D = some { cls := .type "list", dict := none, data := .seq ([] : List Value).toArray } := by rw [← hh3, ← hD]; exact Heap.get?_push_size _ rfl
    exact ⟨0, hsb.extBut D _ nDC (Heap.get?_push_of_some _ e3)⟩
  have notX : ∀ a, s₁.heap.get? a = none → ¬ cx.X a := fun a e x => by obtain ⟨o, q⟩ := S₁.live a x; rw [e] at q; cases q
  have notP : ∀ a, s₁.heap.get? a = none → ∀ o, ¬ cx.pr a o := fun a e o x => by have := S₁.pres a o x; rw [e] at this; cases this
  have notB : ∀ a, s₁.heap.get? a = none → hb.get? a = none := fun a e => by
    cases q : hb.get? a with
    | none => rfl
    | some o => have := (S₁.base a o q).1; rw [e] at this; cases this
  -- the block's context
  let X1 : Addr → Prop := fun b => b = C ∨ cx.X b
  let X3 : Addr → Prop := fun b => b = I ∨ b = D ∨ b = C ∨ cx.X b
  let pr3 : Addr → Obj → Prop := fun b o => h₄.get? b = some o ∧ b ≠ I ∧ b ≠ D ∧ b ≠ C
  let s4 : Shared := { s₁ with heap := h₄, toks := s₁.toks + ([] : List (Str × Value)).length }
  have hv1 : ∀ a o, vis cx.X s₁.heap a o → vis X3 h₄ a o := fun a o q => ⟨kp a o q.1, fun z => by
    rcases z with rfl | rfl | rfl | z
    · have := q.1; rw [fI] at this; cases this
    · have := q.1; rw [fD] at this; cases this
    · have := q.1; rw [fC] at this; cases this
    · exact q.2 z⟩
  have gL : vis X3 h₄ l { cls := .type "list", data := .seq vs n } := hv1 _ _ hv
  let cc : Cx := cxC cx scope cl C X3 pr3 s4
  -- the invariant
  let Inv : Nat → Shared → Prop := fun i s' => St w.params hb cc ρc [] s' ∧ s'.heap.IsListIter I l i ∧ ∃ ys : Array Value, s'.heap.PlainList D ys ∧ ys.size ≤ i ∧ HoldsL w.params (vis X3 s'.heap) ys.toList ((ds.take i).filterMap g)
  have cells : ∀ x c, cl.lookup x = some c → cx.X c ∧ ∃ v, s₁.heap.IsCell c v := fun x c e => by
    obtain ⟨a, _, b⟩ := S₁.cel x c (hsc.sub x c e); exact ⟨a, b⟩
  have st0 : St w.params hb cc ρc [] s4 := {
    sh := ⟨h₄, _, rfl⟩
    tok := S₁.tok
    tk0 := Nat.le_refl _
    live := fun b hx => by
      rcases hx with rfl | rfl | rfl | hx
      · exact ⟨_, gI⟩
      · obtain ⟨k, e⟩ := gD; exact ⟨_, e⟩
      · obtain ⟨o, _, _, e, _⟩ := hns; exact ⟨o, e⟩
      · obtain ⟨o, e⟩ := S₁.live b hx; exact ⟨o, kp b o e⟩
    pres := fun b o e => e.1
    base := fun b o e => by
      have q := hv1 b o (S₁.base b o e)
      exact ⟨q.1, q.2⟩
    nsx := ⟨_, hns⟩
    fk := hsc.kind
    fg := S₁.fg
    fb := S₁.fb
    lx := .inr (.inr (.inl rfl))
    lp := fun o e => e.2.2.2 rfl
    cel := fun x c e => by
      obtain ⟨a, v, b⟩ := cells x c e
      refine ⟨.inr (.inr (.inr a)), fun z => ?_, v, b.keeps kp⟩
      obtain ⟨o, ho, _⟩ := b
      have z' : c = C := z
      rw [z', fC] at ho; cases ho
    cwr := fun h => by cases h
    vars := fun x d e => by
      obtain ⟨r, nk, ⟨c, hc⟩, kk⟩ := hcap x d e
      obtain ⟨v', V, H'⟩ := S₁.vars x d r
      rcases V with ⟨a, _⟩ | ⟨_, c', hc', hi⟩
      · exact absurd a nk
      · rw [hsc.sub x c hc] at hc'
        cases hc'
        exact ⟨v', .inr ⟨kk, c, hc, hi.keeps kp⟩, H'.mono hv1⟩
    muo := fun _ h => nomatch h
    mui := fun _ h => nomatch h
    mnd := .nil }
  have start : Inv 0 s4 := ⟨st0, ⟨_, gI, rfl, rfl⟩, #[], gD, Nat.le_refl _, by simpa using HoldsL.nil⟩
  have see : ∀ {ρ' : Rho} {s' : Shared}, St w.params hb cc ρ' [] s' → ∀ a o, vis X3 h₄ a o → vis X3 s'.heap a o := fun S' a o q => ⟨S'.pres a o ⟨q.1, fun z => q.2 (.inl z), fun z => q.2 (.inr (.inl z)), fun z => q.2 (.inr (.inr (.inl z)))⟩, q.2⟩
  have hLC : ∀ x c, cl.lookup x = some c → c ≠ I ∧ c ≠ D := fun x c e => by
    obtain ⟨_, v, o, ho, _⟩ := cells x c e
    exact ⟨fun z => by (rw [z, fI] at ho; cases ho), fun z => by (rw [z, fD] at ho; cases ho)⟩
  -- I or D turns; what it is now is held fast
  have turnOne : ∀ {ρ' : Rho} {s' : Shared} {h' : Heap} {tk : Nat} (a : Addr), (a = I ∨ a = D) → St w.params hb cc ρ' [] s' → (∀ b o, b ≠ a → s'.heap.get? b = some o → h'.get? b = some o) → (∃ o, h'.get? a = some o) → s'.toks = tk → St w.params hb cc ρ' [] { s' with heap := h', toks := tk } := by
    intro ρ' s' h' tk a haa S' kk al htk
    subst htk
    have aC : C ≠ a := by rcases haa with z | z; exact z ▸ Ne.symm nIC; exact z ▸ Ne.symm nDC
    have aX : X3 a := by rcases haa with z | z; exact .inl z; exact .inr (.inl z)
    have hvis : ∀ b o, vis X3 s'.heap b o → vis X3 h' b o := fun b o q => ⟨kk b o (fun e => q.2 (e ▸ aX)) q.1, q.2⟩
    have aCl : ∀ x c, cl.lookup x = some c → c ≠ a := fun x c e => by rcases haa with z | z; exact z ▸ (hLC x c e).1; exact z ▸ (hLC x c e).2
    exact {
      sh := by obtain ⟨h, t, e⟩ := S'.sh; exact ⟨h', s'.toks, by rw [e]⟩
      tok := S'.tok
      tk0 := S'.tk0
      live := fun b hx => by
        by_cases hbI : b = a
        · subst hbI; exact al
        · obtain ⟨o, e⟩ := S'.live b hx; exact ⟨o, kk b o hbI e⟩
      pres := fun b o e => kk b o (fun z => by rcases haa with q | q; exact e.2.1 (z.trans q); exact e.2.2.1 (z.trans q)) (S'.pres b o e)
      base := fun b o e => ⟨kk b o (fun z => (S'.base b o e).2 (z ▸ aX)) (S'.base b o e).1, (S'.base b o e).2⟩
      nsx := by obtain ⟨m, hm⟩ := S'.nsx; exact ⟨m, hm.at' fun o e => kk _ o aC e⟩
      fk := S'.fk
      fg := S'.fg
      fb := S'.fb
      lx := S'.lx
      lp := S'.lp
      cel := fun x c e => by
        obtain ⟨a', b, v, o, ho, hd⟩ := S'.cel x c e
        exact ⟨a', b, v, o, kk c o (aCl x c e) ho, hd⟩
      cwr := S'.cwr
      vars := fun x d e => by
        obtain ⟨v, V, H⟩ := S'.vars x d e
        refine ⟨v, ?_, H.mono hvis⟩
        rcases V with ⟨a', m, hn, hm⟩ | ⟨a', c, hc, o, ho, hd⟩
        · exact .inl ⟨a', m, hn.at' fun o e => kk _ o aC e, hm⟩
        · exact .inr ⟨a', c, hc, o, kk c o (aCl x c hc) ho, hd⟩
      muo := fun _ h => nomatch h
      mui := fun _ h => nomatch h
      mnd := .nil }
  have hsz : vs.size = ds.length := hl
  have loop : codeAny (model prog w) cx.A (.compLoop (.ListComp elt [⟨target, iter, ifs, 0⟩] scope pos) 0 (.ref I) (.ref D) (compEnvC scope cl C cx.env)) (RR (.ref D) C) s4 := by
    refine compLoop_tests_any (fun k s' => ∃ i, k = ds.length + 1 - i ∧ i ≤ ds.length ∧ Inv i s') ?_ (ds.length + 1) ⟨0, rfl, Nat.zero_le _, start⟩
    rintro k s' ⟨i, rfl, hile, S', J', ys, hys, hyi, hyh⟩
    have Ls : s'.heap.IsList l vs := ⟨_, (see S' _ _ gL).1, rfl, n, rfl⟩
    by_cases hlt : i < ds.length
    · have hx : vs[i]? = some vs[i] := by simp [show i < vs.size by omega]
      have hd : ds[i]? = some ds[i] := by simp [hlt]
      have hmem : ds[i] ∈ ds := List.getElem_mem hlt
      refine noE' (wpAny_pyNext_list_item (E := NoE) J' Ls hx fun h' hit' hsb' => ?_) fun _ _ x => x
      refine ht.run hit' ?_
      have S₅ := turnOne (tk := s'.toks) I (.inl rfl) S' (fun b o nb e => (hsb'.2 b nb).trans e) (by obtain ⟨o, e, _⟩ := hit'; exact ⟨o, e⟩) rfl
      have hys₅ : h'.PlainList D ys := hys.at fun o e => (hsb'.2 D (Ne.symm nID)).trans e
      have hyh₅ : HoldsL w.params (vis X3 h') ys.toList ((ds.take i).filterMap g) := hyh.mono (vis_but fun b o nb e => (hsb'.2 b fun q => nb (.inl q)).trans e)
      -- within a turn the two stand fast
      obtain ⟨io, gio, hio⟩ := id hit'
      obtain ⟨dn, gdo⟩ := id hys₅
      let pr5 : Addr → Obj → Prop := fun b o => h'.get? b = some o ∧ b ≠ C
      have S₆ : St w.params hb { cc with X := X3, pr := pr5 } ρc [] { s' with heap := h' } := { S₅ with
        pres := fun b o e => e.1
        lp := fun o e => e.2 rfl
        cwr := fun h => by cases h
        muo := fun _ h => nomatch h }
      have Hi : Holds w.params (vis X3 h') vs[i] ds[i] := (hit i vs[i] ds[i] hx hd).mono fun a o q => by
        have q' := see S' a o (hv1 a o q)
        exact ⟨(hsb'.2 a fun e => q'.2 (.inl e)).trans q'.1, q'.2⟩
      refine noE' ((ha ds[i] hmem C X3 pr3 s4).run X3 pr5 [] _ vs[i] (fun b z => z) S₆ Hi) fun _ s₇ S₇ => ?_
      refine noE' ((htest ds[i] hmem C X3 pr5 s4).run s₇ S₇) fun ok s₈ x => ?_
      obtain ⟨rfl, k₈⟩ := x
      have S₈ := S₇.keeps k₈
      have back : ∀ {s₉ : Shared} {ρ' : Rho}, Le ρc ρ' → St w.params hb { cc with X := X3, pr := pr5 } ρ' [] s₉ → St w.params hb cc ρc [] s₉ := fun le S₉ => { S₉.forget le with
        pres := fun b o e => S₉.pres b o ⟨by
          have := S'.pres b o e
          exact (hsb'.2 b e.2.1).trans this, e.2.2.2⟩
        lp := fun o e => e.2.2.2 rfl
        cwr := fun h => by cases h
        muo := fun _ h => nomatch h }
      have stay : ∀ {s₉ : Shared} {ρ' : Rho}, St w.params hb { cc with X := X3, pr := pr5 } ρ' [] s₉ → s₉.heap.IsListIter I l (i + 1) ∧ s₉.heap.PlainList D ys ∧ HoldsL w.params (vis X3 s₉.heap) ys.toList ((ds.take i).filterMap g) := fun S₉ =>
        ⟨⟨io, S₉.pres I io ⟨gio, nIC⟩, hio⟩, ⟨dn, S₉.pres D _ ⟨gdo, nDC⟩⟩, hyh₅.mono fun a o q => ⟨S₉.pres a o ⟨q.1, fun z => q.2 (.inr (.inr (.inl z)))⟩, q.2⟩⟩
      have tk : (ds.take (i + 1)).filterMap g = (ds.take i).filterMap g ++ (g ds[i]).toList := by
        rw [List.take_add_one, hd, List.filterMap_append]
        cases hgd : g ds[i] <;> simp [hgd]
      cases hg : g ds[i] with
      | none =>
        simp only [Option.isSome_none, Bool.false_eq_true, if_false]
        exact ⟨ds.length + 1 - (i + 1), by omega, i + 1, rfl, hlt, back (hle _ hmem) S₈, (stay S₈).1, ys, (stay S₈).2.1, by omega, by rw [tk, hg]; simpa using (stay S₈).2.2⟩
      | some e =>
        simp only [Option.isSome_some, if_true]
        refine noE' ((helt ds[i] hmem e hg C X3 pr5 s4).run s₈ S₈) fun y s₉ x => ?_
        have S₉ := S₈.keeps x.1
        refine noE' (wpAny_list_append_plain (E := NoE) (stay S₉).2.1 (fun h₁₀ hp hs => ?_) (by omega)) fun _ _ x => x
        have kk : ∀ b o, b ≠ D → s₉.heap.get? b = some o → h₁₀.get? b = some o := fun b o nb e => (hs.2 b nb).trans e
        have vv : ∀ a o, vis X3 s₉.heap a o → vis X3 h₁₀ a o := vis_but fun b o nb e => kk b o (fun q => nb (.inr (.inl q))) e
        refine ⟨ds.length + 1 - (i + 1), by omega, i + 1, rfl, hlt, turnOne (tk := s₉.toks) D (.inr rfl) (back (hle _ hmem) S₉) kk (by obtain ⟨k, e⟩ := hp; exact ⟨_, e⟩) rfl, ?_, ys.push y, hp, by rw [Array.size_push]; omega, ?_⟩
        · obtain ⟨o, ho, r⟩ := (stay S₉).1
          exact ⟨o, kk I o nID ho, r⟩
        · rw [tk, hg, Array.toList_push]
          exact ((stay S₉).2.2.mono vv).snoc (x.2.mono vv)
    · have hie : i = ds.length := by omega
      subst hie
      refine noE' (wpAny_pyNext_list_end (E := NoE) hh J' Ls (by simp [hsz]) fun h' he => ?_) fun _ _ x => x
      have kf : Keeps s₁ { s' with heap := h' } := by
        obtain ⟨h, t, e⟩ := S'.sh
        refine ⟨h', t, by rw [e], fun b o q => ?_, by have := S'.tk0; rw [e] at this; exact this⟩
        have q4 := kp b o q
        have nI : b ≠ I := fun z => by rw [z, fI] at q; cases q
        have nD : b ≠ D := fun z => by rw [z, fD] at q; cases q
        have nC : b ≠ C := fun z => by rw [z, fC] at q; cases q
        exact he b o nI (S'.pres b o ⟨q4, nI, nD, nC⟩)
      obtain ⟨mC, hmC⟩ := S'.nsx
      have hmC' : h'.Ns C mC := hmC.at' fun o e => he C o (Ne.symm nIC) e
      have nn : ∀ a, s₁.heap.get? a = none → s.heap.get? a = none := fun a e => by
        cases q : s.heap.get? a with
        | none => rfl
        | some o => have := keeps_get k₁ a o q; rw [e] at this; cases this
      refine hRR D C _ mC (S₁.hide1 kf fC (by obtain ⟨o, _, _, e, _⟩ := hmC'; exact ⟨o, e⟩)) (keeps_trans k₁ kf) hmC' (nn C fC) (notX C fC) (notP C fC) ?_
      obtain ⟨dn, gdo⟩ := hys
      rw [List.take_length] at hyh
      refine (HoldsL.list (a := D) (n := dn) (hyh.mono (V' := vis (fun b => b = C ∨ cx.X b) h') fun a o q => ⟨he a o (fun z => q.2 (.inl z)) q.1, fun z => q.2 ?_⟩) ⟨?_, ?_⟩)
      · rcases z with z | z
        · exact .inr (.inr (.inl z))
        · exact .inr (.inr (.inr z))
      · exact he D _ (Ne.symm nID) gdo
      · intro z
        rcases z with z | z
        · exact nDC z
        · exact notX D fD z
  refine codeAny_compStart_list loop ?_
  refine noE' (E := _) (wpAny_pyIter_listiter (E := NoE) (l := l) (i := 0) ⟨_, gI, rfl, rfl⟩ ?_) fun _ _ x => x
  exact loop
end
end Mine
end

section
open PySem PySem.W PySem.Calls PySem.Spec PyProof.Rows
set_option Elab.async false
set_option linter.unusedVariables false
namespace Mine

section
variable {prog : Program} {w : World} {hb : Heap} {cx : Cx} {ρ : Rho} {mus : Mus} {R : Flow → Shared → Prop}

theorem ev_comp {elt target iter : Expr} {ifs : List Expr} {scope : Scope} {cl : List (Str × Addr)} {pos : Pos} {ds : List D}
    (hh : cx.A.handled = none) (ρc : Rho) (ρt : D → Rho) (g : D → Option D) (hi : Ev prog w hb cx ρ mus iter (.list ds)) (hsc : CompSc cx scope cl) (hcap : Capt cx scope cl ρ ρc)
    (ha : ∀ d ∈ ds, ∀ C X' pr' s₀, AsgOk prog w hb (cxC cx scope cl C X' pr' s₀) target d ρc (ρt d))
    (htest : ∀ d ∈ ds, ∀ C X' pr' s₀, EtAll prog w hb (cxC cx scope cl C X' pr' s₀) (ρt d) ifs (g d).isSome)
    (helt : ∀ d ∈ ds, ∀ e, g d = some e → ∀ C X' pr' s₀, Ev prog w hb (cxC cx scope cl C X' pr' s₀) (ρt d) [] elt e)
    (hle : ∀ d ∈ ds, Le ρc (ρt d)) (hz : ds.length ≤ sizeLine)
    (hs : ∀ x, foldedSetIterable iter cx.env x = pure x := by intro _; rfl) (ht : Lot target := by first | exact lot_name | exact lot_tup) :
    Ev prog w hb cx ρ mus (.ListComp elt [⟨target, iter, ifs, 0⟩] scope pos) (.list (ds.filterMap g)) := .mk fun s S => by
  rw [eval_ListComp]
  refine wpAny_comprehension_free (use := none) rfl hs hsc.clos hsc.kind hsc.names
    (comp_core (RR := fun acc C r s' => compPost (model prog w) cx.A NoE none (fun v s'' => Keeps s s'' ∧ Holds w.params (vis cx.X s''.heap) v (.list (ds.filterMap g))) acc C r s') hh ρc ρt g hi hsc hcap ha htest helt hle hz S (fun D C s' m S' k hm hf hX hp H => ?_) ht)
  refine ⟨m, hm, fun h' hs' => ⟨?_, ?_⟩⟩
  · obtain ⟨h, tk, e, kk, u⟩ := k
    refine ⟨h', tk, by rw [e], fun b o q => (hs'.2 b fun z => ?_).trans ?_, u⟩
    · rw [z, hf] at q; cases q
    · have := kk b o q; rw [e]; exact this
  · exact H.mono fun a o q => ⟨(hs'.2 a fun z => q.2 (.inl z)).trans q.1, fun z => q.2 (.inr z)⟩

theorem ex_assign_comp {elt target iter : Expr} {ifs : List Expr} {scope : Scope} {cl : List (Str × Addr)} {pos spos py : Pos} {y : Str} {ds : List D} {rest : List Stmt}
    (hh : cx.A.handled = none) (ρc : Rho) (ρt : D → Rho) (g : D → Option D) (hi : Ev prog w hb cx ρ mus iter (.list ds)) (hsc : CompSc cx scope cl) (hcap : Capt cx scope cl ρ ρc)
    (ha : ∀ d ∈ ds, ∀ C X' pr' s₀, AsgOk prog w hb (cxC cx scope cl C X' pr' s₀) target d ρc (ρt d))
    (htest : ∀ d ∈ ds, ∀ C X' pr' s₀, EtAll prog w hb (cxC cx scope cl C X' pr' s₀) (ρt d) ifs (g d).isSome)
    (helt : ∀ d ∈ ds, ∀ e, g d = some e → ∀ C X' pr' s₀, Ev prog w hb (cxC cx scope cl C X' pr' s₀) (ρt d) [] elt e)
    (hle : ∀ d ∈ ds, Le ρc (ρt d)) (hz : ds.length ≤ sizeLine) (hy : cx.env.kindOf y = some .local)
    (hr : Ex prog w hb cx (upd ρ y (.list (ds.filterMap g))) mus rest R)
    (hsw : swapsWith (.ListComp elt [⟨target, iter, ifs, 0⟩] scope pos) (some (.Name y py)) spos.line cx.env = pure true := by rfl)
    (hs : ∀ x, foldedSetIterable iter cx.env x = pure x := by intro _; rfl) (ht : Lot target := by first | exact lot_name | exact lot_tup) :
    Ex prog w hb cx ρ mus (.Assign [.Name y py] (.ListComp elt [⟨target, iter, ifs, 0⟩] scope pos) spos :: rest) R := .mk fun s S => by
  refine wpAny_execs_cons ?_
  rw [exec_Assign_Name_used _ _ _ _ hsw]
  refine wpAny_bind (wpAny_standAt (wpAny_bind ?_))
  show wpAny _ cx.A (do let _ ← comprehension (.ListComp elt [⟨target, iter, ifs, 0⟩] scope pos) scope cx.env _ (newList []) false (eval iter cx.env) (some (assign (.Name y py) cx.env))) _ _ s
  refine wpAny_bind (wpAny_mono (wpAny_comprehension_free (use := some (assign (.Name y py) cx.env)) (Q := fun _ s' => wpAny (model prog w) cx.A (execs rest cx.env) R NoE s') rfl hs hsc.clos hsc.kind hsc.names
    (comp_core (RR := fun acc C r s' => compPost (model prog w) cx.A NoE (some (assign (.Name y py) cx.env)) (fun _ s' => wpAny (model prog w) cx.A (execs rest cx.env) R NoE s') acc C r s') hh ρc ρt g hi hsc hcap ha htest helt hle hz S (fun D C s' m S' k hm hf hX hp H => ?_) ht)) (fun _ s' hq => wpAny_pure (wpAny_pure hq)) fun _ _ e => e)
  show wpAny _ cx.A (assign (.Name y py) cx.env (.ref D)) _ _ _
  obtain ⟨mL, hmL⟩ := S'.nsx
  have hLC : cx.env.locals ≠ C := fun z => hX (z ▸ S.lx)
  refine wpAny_assign_Name (wpAny_storeName_local hy hmL (fun h₂ hn₂ hs₂ => ?_) (hp_fn S.fk))
  refine ⟨m, hm.sameBut hs₂ (Ne.symm hLC), fun h₃ hs₃ => ?_⟩
  have S₂ := S'.store hy H hmL hn₂ hs₂ (s'.toks + 1)
  refine hr.run _ (St.drop S S₂ (fun b z => .inr z) (fun b o z => z) (fun p hp' => S.muo p hp') (h' := h₃) fun b o q e => (hs₃.2 b fun z => ?_).trans e)
  subst z
  rcases q with q | q | q
  · exact hX q
  · exact q (.inl rfl)
  · exact hp o q
end
end Mine
end

section
open PySem PySem.W PySem.Calls PySem.Spec PyProof.Rows
set_option Elab.async false
set_option linter.unusedVariables false
namespace Mine
noncomputable def dicD (l : List (Str × Str)) : D := .dic (l.map fun x => (x.1, .str x.2))

section
variable {prog : Program} {w : World} {hb : Heap} {cx : Cx} {ρ : Rho} {mus : Mus} {R : Flow → Shared → Prop}

/-! while -/
theorem ex_while {test : Expr} {body rest : List Stmt} {pos : Pos} (ρs : Nat → Rho) (n : Nat) (h0 : Le (ρs 0) ρ) (ht : ∀ i, i < n → Et prog w hb cx (ρs i) mus test true)
    (turn : ∀ i, i < n → Ex prog w hb cx (ρs i) mus body (Turn w.params hb cx (ρs (i + 1)) mus R)) (hend : Et prog w hb cx (ρs n) mus test false) (hr : Ex prog w hb cx (ρs n) mus rest R) :
    Ex prog w hb cx ρ mus (.While test body [] pos :: rest) R := .mk fun s S => by
  refine wpAny_execs_cons (wpAny_While ?_)
  refine codeAny_whileLoop (fun k s' => ∃ i, k = n + 1 - i ∧ i ≤ n ∧ St w.params hb cx (ρs i) mus s') ?_ (n + 1) ⟨0, rfl, Nat.zero_le _, S.forget h0⟩
  rintro k s' ⟨i, rfl, hile, S'⟩
  by_cases hlt : i < n
  · refine noE' ((ht i hlt).run s' S') fun b s₁ x => ?_
    obtain ⟨k₁, rfl⟩ := x
    refine noE' ((turn i hlt).run s₁ (S'.keeps k₁)) fun f s₂ T => ?_
    cases f with
    | next => exact ⟨n + 1 - (i + 1), by omega, i + 1, rfl, hlt, T⟩
    | cont => exact ⟨n + 1 - (i + 1), by omega, i + 1, rfl, hlt, T⟩
    | brk => exact T.elim
    | ret v => exact T
  · have : i = n := by omega
    subst this
    refine noE' (hend.run s' S') fun b s₁ x => ?_
    obtain ⟨k₁, rfl⟩ := x
    exact wpAny_execs_nil (hr.run s₁ (S'.keeps k₁))

/-! dicts of texts -/
structure EvPr (prog : Program) (w : World) (hb : Heap) (cx : Cx) (ρ : Rho) (mus : Mus) (ps : List (Sem Value × Sem Value)) (ds : List (Str × Str)) : Prop where
  run : ∀ s, St w.params hb cx ρ mus s → wpAny (model prog w) cx.A (evalPairs ps) (fun vs s' => Keeps s s' ∧ ∃ ts : List (Tok × Tok), ts.length = ds.length ∧ vs = (ds.zip ts).map fun x => (.str x.1.1 x.2.1, .str x.1.2 x.2.2)) NoE s
theorem evpr_nil : EvPr prog w hb cx ρ mus [] [] := .mk fun s S => evalPairs_nil ⟨keeps_refl, [], rfl, rfl⟩
theorem evpr_cons {x y : Str} {k1 k2 : Nat} {p1 p2 pos : Pos} {ps : List (Sem Value × Sem Value)} {ds : List (Str × Str)} (t : EvPr prog w hb cx ρ mus ps ds) :
    EvPr prog w hb cx ρ mus ((eval (.Constant (.str x) k1 p1) cx.env, do let z ← eval (.Constant (.str y) k2 p2) cx.env; standAt pos; pure z) :: ps) ((x, y) :: ds) := .mk fun s S => by
  refine evalPairs_cons (wpAny_Constant_str (wpAny_bind (wpAny_Constant_str (wpAny_bind (wpAny_standAt (wpAny_pure ?_))))))
  have k1 : Keeps s { s with toks := s.toks + 1 + 1 } := keeps_tok
  refine wpAny_mono (t.run _ (S.keeps k1)) (fun vs s' z => ?_) fun _ _ x => x
  obtain ⟨k, ts, hl, rfl⟩ := z
  exact ⟨keeps_trans k1 k, (s.toks, s.toks + 1) :: ts, by simp [hl], rfl⟩

theorem merged_nodup {K : Type} [DecidableEq K] : ∀ (kvs acc : List (K × Value)), ((acc ++ kvs).map (·.1)).Nodup → merged acc kvs = acc ++ kvs
  | [], acc, _ => by simp [merged]
  | kv :: r, acc, h => by
    have hn : acc.any (fun x => x.1 = kv.1) = false := by
      rw [List.any_eq_false]
      intro x hx e
      rw [List.map_append, List.nodup_append] at h
      exact h.2.2 x.1 (List.mem_map_of_mem hx) kv.1 (by simp) (by simpa using e)
    have e1 : stored acc kv.1 kv.2 = acc ++ [kv] := by unfold stored; rw [hn]; simp
    have ih := merged_nodup r (acc ++ [kv]) (by simpa using h)
    show merged (stored acc kv.1 kv.2) r = _
    rw [e1, ih]; simp

theorem pairs_get {knd : PySem.KeyKind prog w Str} : ∀ {es : List DictEntry} {kvs : List (Str × Value)}, Pairs knd es kvs → es.length = kvs.length ∧ ∀ (i : Nat) e kv, es[i]? = some e → kvs[i]? = some kv → knd.is kv.1 e.key = true ∧ e.val = kv.2
  | _, _, .nil => ⟨rfl, fun i e kv h => by simp at h⟩
  | _, _, .cons h1 h2 t => by
    obtain ⟨a, b⟩ := pairs_get t
    refine ⟨by simp [a], fun i e kv p q => ?_⟩
    cases i with
    | zero => simp at p q; subst p q; exact ⟨h1, h2⟩
    | succ i => exact b i e kv (by simpa using p) (by simpa using q)

theorem keys_app {ds : List (Str × Str)} {ts : List (Tok × Tok)} (h : ts.length = ds.length) : ((ds.zip ts).map fun x => (x.1.1, Value.str x.1.2 x.2.2)).map (·.1) = ds.map (·.1) := by
  rw [List.map_map]
  show (ds.zip ts).map (fun x => x.1.1) = _
  rw [show (fun x : (Str × Str) × (Tok × Tok) => x.1.1) = (·.1) ∘ (·.1) from rfl, ← List.map_map, List.map_fst_zip (by omega)]

theorem carries_of {ds : List (Str × Str)} : ∀ {ts : List (Tok × Tok)}, ts.length = ds.length → Carries (strKind prog w) ((ds.zip ts).map fun x => (Value.str x.1.1 x.2.1, Value.str x.1.2 x.2.2)) ((ds.zip ts).map fun x => (x.1.1, Value.str x.1.2 x.2.2)) := by
  induction ds with
  | nil => intro ts h; simp [Carries]
  | cons d ds ih =>
    intro ts h
    cases ts with
    | nil => simp at h
    | cons t ts => exact ⟨strKind_is prog w _ _, rfl, ih (by simpa using h)⟩

theorem holds_dic {X : Addr → Prop} {h : Heap} {a : Addr} {ds : List (Str × Str)} {ts : List (Tok × Tok)} (hl : ts.length = ds.length) (hm : h.DictOf (strKind prog w) a ((ds.zip ts).map fun x => (x.1.1, Value.str x.1.2 x.2.2)))
    (hs : (a == sysModules) = false) (hX : ¬ X a) : Holds w.params (vis X h) (.ref a) (.dic (ds.map fun x => (x.1, .str x.2))) := by
  obtain ⟨o, es, ep, ho, hx, hd, hk, hp, _⟩ := hm
  obtain ⟨h1, h2⟩ := pairs_get hp
  have get : ∀ (i : Nat) (e : DictEntry) (d : Str × D), es[i]? = some e → (ds.map fun x => (x.1, D.str x.2))[i]? = some d → ∃ z t, ds[i]? = some z ∧ ts[i]? = some t ∧ d = (z.1, D.str z.2) ∧ (strKind prog w).is z.1 e.key = true ∧ e.val = .str z.2 t.2 := by
    intro i e d he hd'
    simp only [List.getElem?_map, Option.map_eq_some_iff] at hd'
    obtain ⟨z, hz, rfl⟩ := hd'
    have hi : i < ds.length := by
      rcases Nat.lt_or_ge i ds.length with q | q
      · exact q
      · rw [List.getElem?_eq_none q] at hz; cases hz
    have ht : ts[i]? = some ts[i] := by simp [show i < ts.length by omega]
    refine ⟨z, ts[i], hz, ht, rfl, ?_⟩
    exact h2 i e (z.1, .str z.2 ts[i].2) (by simpa using he) (by rw [List.getElem?_map, (List.getElem?_zip_eq_some (z := (z, ts[i]))).mpr ⟨hz, ht⟩]; rfl)
  refine .dic hs ⟨ho, hX⟩ hx hd (by have := h1; simp at this; simp; omega) (fun i e d he hd' => ?_) fun i e d he hd' => ?_
  · obtain ⟨z, t, _, _, rfl, hi, _⟩ := get i e d he hd'
    obtain ⟨k, hk1, hk2⟩ := hk e (Array.mem_of_getElem? he)
    have hkz : k = z.1 := (strKind prog w).inj _ _ _ hk1 hi
    refine ⟨?_, by rw [hk2, hkz]; rfl⟩
    exact Value.isStrOf_shape hi
  · obtain ⟨z, t, _, _, rfl, _, hv⟩ := get i e d he hd'
    rw [hv]; exact .str

theorem ne_sys {n b : Nat} (h : 2 ≤ b) (h' : b < n) : (n == sysModules) = false := by
  have : sysModules = 1 := rfl
  simp only [beq_eq_false_iff_ne, ne_eq]
  rw [this]
  omega
theorem ev_dict {keys : List (Option Expr)} {values : List Expr} {pos : Pos} {ps : List (Sem Value × Sem Value)} {ds : List (Str × Str)}
    (hshape : (evalEachOpt keys cx.env).zip ((evalEach values cx.env).map fun v => do let x ← v; standAt pos; pure x) = ps.map fun p => (some p.1, p.2)) (h0 : ps ≠ []) (hlen : ps.length ≤ 15)
    (h : EvPr prog w hb cx ρ mus ps ds) (hn : (ds.map (·.1)).Nodup) {b : Nat} {o : Obj} (hbig : 2 ≤ b) (hbo : hb.get? b = some o) : Ev prog w hb cx ρ mus (.Dict keys values pos) (dicD ds) := .mk fun s S => by
  refine wpAny_Dict_pairs (knd := strKind prog w) hshape h0 hlen ?_
  have kp : Keeps s { s with heap := s.heap.push { cls := .type "dict", data := .dict #[] } } := keeps_push
  refine wpAny_mono (h.run _ (S.keeps kp)) (fun vs s₁ x => ?_) fun _ _ x => x
  obtain ⟨k, ts, hl, rfl⟩ := x
  have hkeys := keys_app (ts := ts) hl
  refine ⟨_, carries_of hl, ?_, fun h' hm hs => ?_⟩
  · exact (Heap.DictOf.new s.heap).keep (keeps_get k)
  · rw [merged_nodup _ [] (by rw [List.nil_append, hkeys]; exact hn), List.nil_append] at hm
    have fr : s.heap.get? s.heap.objs.size = none := get_fresh
    obtain ⟨h₁, tk, e, kk, u⟩ := keeps_trans kp k
    refine ⟨⟨h', _, by rw [e], fun b' o' q => (hs.2 b' fun z => ?_).trans (keeps_get k b' o' (keeps_get kp b' o' q)), ?_⟩, holds_dic hl hm ?_ (fresh_not S.live)⟩
    · rw [z, fr] at q; cases q
    · exact Nat.le_trans u (Nat.le_add_right _ _)
    · exact ne_sys hbig (Heap.lt_size (S.base b o hbo).1)
theorem ev_dict0 {pos : Pos} {b : Nat} {o : Obj} (hbig : 2 ≤ b) (hbo : hb.get? b = some o) : Ev prog w hb cx ρ mus (.Dict [] [] pos) (dicD []) := .mk fun s S => by
  refine wpAny_Dict_empty ⟨keeps_push, ?_⟩
  have := holds_dic (prog := prog) (w := w) (X := cx.X) (ds := []) (ts := []) rfl (Heap.DictOf.new (knd := strKind prog w) s.heap) (ne_sys hbig (Heap.lt_size (S.base b o hbo).1)) (fresh_not S.live)
  exact this

/-! slices -/
theorem ev_slice_from {x : Str} {xp p pos : Pos} {e : Expr} {ds : List D} {k : Nat} (hv : Ev prog w hb cx ρ mus (.Name x xp) (.list ds)) (he : Ev prog w hb cx ρ mus e (.int k)) (hz : ds.length ≤ sizeLine) :
    Ev prog w hb cx ρ mus (.Subscript (.Name x xp) (.Slice (some e) none none p) pos) (.list (ds.drop k)) := .mk fun s S => by
  refine wpAny_Subscript_list_slice (hv.val S fun v s₁ S₁ k₁ h₁ => ?_)
  rw [evalPart_some]
  refine he.val S₁ fun i s₂ S₂ k₂ h₂ => ?_
  rw [evalPart_none]
  refine wpAny_pure ?_
  obtain ⟨t, rfl⟩ := holds_int h₂
  have h₁' := keep_vis h₁ k₂
  obtain ⟨l, vs, n, rfl, hv, hl, hi⟩ := holds_list h₁'
  refine ⟨l, vs, _, _, rfl, ⟨_, hv.1, rfl, n, rfl⟩, by omega, .int _ _, .none, ?_, ?_⟩
  · exact keeps_trans (keeps_trans k₁ k₂) (keeps_trans keeps_push (keeps_push (s := { s₂ with heap := _ })))
  · rw [slicePick_from' vs k]
    have hg : Heap.get? ((s₂.heap.push { cls := .type "slice", data := .fields #[.int k t, .none, .none] }).push { cls := .type "list", data := .seq (vs.toList.drop k).toArray }) (s₂.heap.objs.size + 1) = some { cls := .type "list", data := .seq (vs.toList.drop k).toArray } := by
      have := Heap.get?_push_size (s₂.heap.push { cls := .type "slice", data := .fields #[.int k t, .none, .none] }) (o := { cls := .type "list", data := .seq (vs.toList.drop k).toArray }) rfl
      rw [Heap.size_push] at this; exact this
    refine .list (n := 0) ⟨hg, fun z => ?_⟩ (by simp [hl]) fun i v d a b => ?_
    · obtain ⟨o, q⟩ := S₂.live _ z
      exact absurd (Heap.lt_size q) (Nat.not_lt.mpr (Nat.le_succ _))
    · refine (hi (k + i) v d (by simpa using a) (by simpa using b)).mono (vis_keeps fun b o q => Heap.get?_push_of_some _ (Heap.get?_push_of_some _ q))

noncomputable def sTake (x : Str) (k : Nat) : Str := ⟨(x.cps.toList.take k).toArray⟩
noncomputable def sDrop (x : Str) (k : Nat) : Str := ⟨(x.cps.toList.drop k).toArray⟩
theorem slice_post {x : Str} {t : Tok} {l u : Option (Int × Tok)} {r : List Nat} {s : Shared} {Q : Value → Shared → Prop} (hp : (slicePicked x l u none).filterMap (x.cps[·]?) = r) (hfull : (slicePicked x l u none).length = x.length → r = x.cps.toList)
    (hz : r.length ≤ sizeLine) (h : ∀ t' k, Q (.str ⟨r.toArray⟩ t') { s with toks := k }) : (sliceMade x t l u none).post Q s := by
  unfold sliceMade
  split
  · rename_i c
    have c' : (slicePicked x l u none).length = x.length := by simpa using c
    have := hfull c'
    have h' := h t s.toks
    rw [this] at h'
    exact h'
  · rw [hp]
    exact ⟨hz, h _ _⟩

theorem ev_str_take {x : Str} {xp p pos : Pos} {e : Expr} {a : Str} {k : Nat} (hv : Ev prog w hb cx ρ mus (.Name x xp) (.str a)) (he : Ev prog w hb cx ρ mus e (.int k)) (hk : k ≤ a.length) (hz : a.length ≤ sizeLine) :
    Ev prog w hb cx ρ mus (.Subscript (.Name x xp) (.Slice none (some e) none p) pos) (.str (sTake a k)) := .mk fun s S => by
  refine up ?_
  refine wpAny_Subscript_str_slice (hv.val S fun v s₁ S₁ k₁ h₁ => ?_)
  rw [evalPart_none]
  refine wpAny_pure ?_
  rw [evalPart_some]
  refine he.val S₁ fun i s₂ S₂ k₂ h₂ => ?_
  obtain ⟨t, rfl⟩ := holds_int h₂
  obtain ⟨t', rfl⟩ := holds_str h₁
  have e1 : slicePicked a none (some ((k : Int), t)) none = (List.range k).map fun j => 0 + j := by
    show Builtin.Str.strSliceIndices none (some (k : Int)) 1 a.length = _
    rw [StrLaws.sliceIdx_none_lo]
    have := StrLaws.strSliceIndices_plain (a := 0) (b := k) (len := a.length) (Nat.zero_le _) hk
    simpa using this
  have e2 : (slicePicked a none (some ((k : Int), t)) none).filterMap (a.cps[·]?) = a.cps.toList.take k := by
    rw [e1]
    have := StrLaws.picks a.cps.toList k 0 (by simpa [Str.length] using hk)
    simpa using this
  refine ⟨a, t', none, some ((k : Int), t), rfl, rfl, rfl, slice_post e2 ?_ ?_ fun t' k' => ⟨?_, .str⟩⟩
  · intro h
    rw [e1] at h
    simp only [List.length_map, List.length_range] at h
    rw [h]; exact List.take_of_length_le (by simp [Str.length])
  · have : (a.cps.toList.take k).length ≤ a.length := by simp [Str.length]; omega
    omega
  · obtain ⟨h, tk, e, kk, _⟩ := keeps_trans k₁ (keeps_trans k₂ (keeps_push (s := s₂) (o := { cls := .type "slice", data := .fields #[.none, .int k t, .none] })))
    exact ⟨_, k', by rw [show s₂ = { s with heap := s₂.heap, toks := s₂.toks } from by obtain ⟨h, tk, e, _⟩ := keeps_trans k₁ k₂; rw [e]], fun b o q => Heap.get?_push_of_some _ (keeps_get (keeps_trans k₁ k₂) b o q)⟩
theorem ev_str_drop {x : Str} {xp p pos : Pos} {e : Expr} {a : Str} {k : Nat} (hv : Ev prog w hb cx ρ mus (.Name x xp) (.str a)) (he : Ev prog w hb cx ρ mus e (.int k)) (hk : k ≤ a.length) (hz : a.length ≤ sizeLine) :
    Ev prog w hb cx ρ mus (.Subscript (.Name x xp) (.Slice (some e) none none p) pos) (.str (sDrop a k)) := .mk fun s S => by
  refine up ?_
  refine wpAny_Subscript_str_slice (hv.val S fun v s₁ S₁ k₁ h₁ => ?_)
  rw [evalPart_some]
  refine he.val S₁ fun i s₂ S₂ k₂ h₂ => ?_
  rw [evalPart_none]
  refine wpAny_pure ?_
  obtain ⟨t, rfl⟩ := holds_int h₂
  obtain ⟨t', rfl⟩ := holds_str h₁
  have e1 : slicePicked a (some ((k : Int), t)) none none = (List.range (a.length - k)).map fun j => k + j := by
    show Builtin.Str.strSliceIndices (some (k : Int)) none 1 a.length = _
    rw [StrLaws.sliceIdx_none_hi]
    exact StrLaws.strSliceIndices_plain hk (Nat.le_refl _)
  have e2 : (slicePicked a (some ((k : Int), t)) none none).filterMap (a.cps[·]?) = a.cps.toList.drop k := by
    rw [e1]
    have := StrLaws.picks a.cps.toList (a.length - k) k (by simp [Str.length] at hk ⊢; omega)
    rw [List.take_of_length_le (by simp [Str.length])] at this
    simpa using this
  refine ⟨a, t', some ((k : Int), t), none, rfl, rfl, rfl, slice_post e2 ?_ ?_ fun t' k' => ⟨?_, .str⟩⟩
  · intro h
    rw [e1] at h
    simp only [List.length_map, List.length_range] at h
    have : k = 0 ∨ a.length = 0 := by omega
    rcases this with rfl | h0
    · simp
    · simp [Str.length] at h0; simp [h0]
  · have : (a.cps.toList.drop k).length ≤ a.length := by simp [Str.length]
    omega
  · exact ⟨_, k', by rw [show s₂ = { s with heap := s₂.heap, toks := s₂.toks } from by obtain ⟨h, tk, e, _⟩ := keeps_trans k₁ k₂; rw [e]], fun b o q => Heap.get?_push_of_some _ (keeps_get (keeps_trans k₁ k₂) b o q)⟩

/-! text.replace -/
theorem ev_replace {o : Expr} {apos p1 p2 pos : Pos} {k1 k2 : Nat} {x y z : Str} (ho : Ev prog w hb cx ρ mus o (.str x)) (hyz : (y == z) = false) (hz : x.length + (x.length + 1) * z.length ≤ 16777216)
    (hbase : attributeBase o "replace" cx.env (eval o cx.env) = eval o cx.env := by rfl) (hline : (apos.endLine == pos.line) = true := by rfl) :
    Ev prog w hb cx ρ mus (.Call (.Attribute o "replace" apos) [.Constant (.str y) k1 p1, .Constant (.str z) k2 p2] [] pos) (.str (Txt.replace x y z)) := .mk fun s S => by
  refine up (Call_method2 hbase rfl hline (ho.val S fun v s₁ S₁ k₁ h₁ => ?_))
  obtain ⟨t, rfl⟩ := holds_str h₁
  refine ⟨"str", "str.replace", F.plainAttrs_str, F.slot_str_replace, F.type_str_replace, typeIs_str _ _ _, (fun _ e => nomatch e), ?_⟩
  refine callWith_builtin rfl (evalArgs_plain (spliced_cons (wpAny_Constant_str (spliced_cons (wpAny_Constant_str (spliced_nil ?_))))))
  have h0 := S₁.tok
  refine SC.replace (Nat.ne_of_gt h0) (Nat.succ_ne_zero _) (Nat.ne_of_lt (Nat.lt_succ_self _)) hyz hz fun t' k' => ⟨?_, .str⟩
  exact ⟨s₁.heap, k', by rw [show s₁ = { s with heap := s₁.heap, toks := s₁.toks } from by obtain ⟨h, tk, e, _⟩ := k₁; rw [e]], fun b o q => keeps_get k₁ b o q⟩
end
end Mine
end

section
open PySem PySem.W PySem.Calls PySem.Spec PyProof.Rows
set_option Elab.async false
set_option linter.unusedVariables false
namespace Mine

/-! the program's defs, read out of the row -/
noncomputable def defAt (n : Nat) : Stmt := (PySem.Challenge.pw_xn0018_01.main.body)[n]?.getD (.Pass ⟨0, 0, 0, 0⟩)
noncomputable def dArgs : Stmt → Arguments
  | .FunctionDef _ a _ _ _ _ _ _ _ _ => a
  | _ => ⟨[], [], none, [], [], none, []⟩
noncomputable def dBody : Stmt → List Stmt
  | .FunctionDef _ _ b _ _ _ _ _ _ _ => b
  | _ => []
noncomputable def dScope : Stmt → Scope
  | .FunctionDef _ _ _ _ _ _ s _ _ _ => s
  | _ => ⟨.function, [], false, false, []⟩

/-- a def of the text stands in the heap -/
structure DefIs (hb : Heap) (mg : Str → Option Value) (nm : Str) (st : Stmt) (a : Addr) (dV : Value) (nme qual : Str) (kV doc pm cdv ct : Value) (an : Option Addr) : Prop where
  name : mg nm = some (.ref a)
  obj : ∃ o, hb.get? a = some o ∧ o.data = .func (fnOf nme qual (dArgs st) (dBody st) (dScope st) dV kV doc pm an cdv ct)
  code : hb.CodeRec cdv qual

/-- what stands below the law: the module's names and the built-ins' -/
structure Mod (hb : Heap) (mg mb : Str → Option Value) : Prop where
  g : hb.Ns mainGlobals mg
  b : hb.Ns builtinsNs mb
  lim : hb.NoLimit
  big : ∃ (b : Nat) (o : Obj), 2 ≤ b ∧ hb.get? b = some o
  bi : ∀ x, x ≠ "__name__" → mb x = bootBuiltins x

section
variable {prog : Program} {w : World} {hb : Heap} {cx : Cx} {ρ ρ' : Rho} {mus : Mus} {R : Flow → Shared → Prop}
theorem ev_eq {e : Expr} {d d' : D} (h : d = d') (x : Ev prog w hb cx ρ mus e d) : Ev prog w hb cx ρ mus e d' := h ▸ x
theorem turn_end (h : Le ρ' ρ) : Ex prog w hb cx ρ mus [] (Turn w.params hb cx ρ' mus R) := ex_nil fun s S => S.forget h
end

noncomputable def nats (l : List Nat) : D := .list (l.map fun (n : Nat) => .int n)
noncomputable def kidsD (K : List (List Nat)) : D := .list (K.map nats)
noncomputable def kidsOf (K : List (List Nat)) (p : Nat) : List Nat := K.getD p []
theorem getD_of {l : List Nat} {i q : Nat} (h : l[i]? = some q) : l.getD i 0 = q := by simp [h]
theorem take_next {l : List Nat} {i q : Nat} (h : l[i]? = some q) : l.take (i + 1) = l.take i ++ [q] := by rw [List.take_add_one, h]; rfl
theorem nats_app {a b : List Nat} : D.list (a.map (fun (n : Nat) => D.int n) ++ b.map fun (n : Nat) => D.int n) = nats (a ++ b) := by simp [nats]
theorem take_flat_le {α : Type} {g : Nat → List α} {l : List Nat} (i : Nat) : ((l.take i).flatMap g).length ≤ (l.flatMap g).length := by
  conv => rhs; rw [← List.take_append_drop i l, List.flatMap_append, List.length_append]
  omega
noncomputable def lastL (K : List (List Nat)) : Nat → Nat → List Nat
  | 0, _ => []
  | f + 1, p => ((kidsOf K p).flatMap (lastL K f)) ++ [p]
/-- every kid stands behind its place -/
noncomputable def Wk (K : List (List Nat)) : Prop := K.length ≤ 7 ∧ ∀ p, ∀ q ∈ kidsOf K p, p < q ∧ q < K.length

local macro_rules | `(tactic| walk_at "var") => `(tactic| first | exact upd_same | exact asc_same | (apply upd_ne (by decide); walk_at "var") | (apply asc_ne (by decide); walk_at "var") | (with_unfolding_all exact asc_same))
local macro_rules | `(tactic| walk_at "le") => `(tactic| first | exact le_nil | (refine le_cons ?_ ?_; (walk_at "var"); (walk_at "le")))

section
variable {prog : Program} {w : World} {hb : Heap} {mg mb : Str → Option Value}

theorem last_fn {aL : Addr} {nme qual : Str} {kV doc pm cdv ct : Value} {an : Option Addr} (M : Mod hb mg mb) (D : DefIs hb mg "_law_last" (defAt 21) aL .none nme qual kV doc pm cdv ct an)
    {K : List (List Nat)} (hK : Wk K) (hz : ∀ f p, (lastL K f p).length ≤ 1000) : ∀ f p, p < K.length → K.length - p ≤ f → Fn prog w hb (f + 1) (.ref aL) [.int p, kidsD K] (nats (lastL K f p)) := by
  intro f
  induction f with
  | zero => intro p h1 h2; omega
  | succ f ih =>
    intro p h1 h2
    obtain ⟨o, ho, hd⟩ := D.obj
    refine fn_intro (body := dBody (defAt 21)) (ps := [Str.ofString "place", Str.ofString "kids"]) ho hd M.lim D.code rfl ?_ (show ∀ x ∈ (dScope (defAt 21)).names, x.2 ≠ .cell from by decide)
      (show ∀ x ∈ [Str.ofString "place", Str.ofString "kids"], (dScope (defAt 21)).names.lookup x = some .local from by decide) rfl (by decide) rfl rfl rfl ?_
    · intro s vs _ hl
      obtain ⟨v1, v2, rfl⟩ := len2 hl
      exact BindsTo.of_eq rfl
    · intro A X s hA
      show Ex prog w hb _ (asc [(Str.ofString "place", .int p), (Str.ofString "kids", kidsD K)]) _ _ _
      have hA1 : Room 1 (cxOf A (fnOf nme qual (dArgs (defAt 21)) (dBody (defAt 21)) (dScope (defAt 21)) .none kV doc pm an cdv ct) aL X s).A := (hA.deeper _).le (by omega)
      have hAf : Room (f + 1) (cxOf A (fnOf nme qual (dArgs (defAt 21)) (dBody (defAt 21)) (dScope (defAt 21)) .none kV doc pm an cdv ct) aL X s).A := hA.deeper _
      refine ex_assign ev_list0 rfl ?_
      refine ex_for (ds := (kidsOf K p).map fun (n : Nat) => .int n) hA.hh
        (fun i => asc [(Str.ofString "places", nats (((kidsOf K p).take i).flatMap (lastL K f))), (Str.ofString "place", .int p), (Str.ofString "kids", kidsD K)])
        (fun i => upd (asc [(Str.ofString "places", nats (((kidsOf K p).take i).flatMap (lastL K f))), (Str.ofString "place", .int p), (Str.ofString "kids", kidsD K)]) (Str.ofString "kid") (.int ((kidsOf K p).getD i 0 : Nat)))
        (fun _ => []) ?_ (by walk_at "le") rfl (fun _ => rfl) ?_ ?_ ?_
      · refine ev_sub hA1 (ev_name (by walk_at "var")) (ev_name (by walk_at "var")) (op_item (k := p) ?_ (by have := hK.1; omega) (fun _ _ => rfl))
        simp [h1, nats, kidsOf]
      · intro i d hd
        simp only [List.getElem?_map, Option.map_eq_some_iff] at hd
        obtain ⟨q, hq, rfl⟩ := hd
        rw [getD_of hq]
        exact asg_name rfl
      · intro i d X' pr' hd hX hp
        simp only [List.getElem?_map, Option.map_eq_some_iff] at hd
        obtain ⟨q, hq, rfl⟩ := hd
        obtain ⟨q1, q2⟩ := hK.2 p q (List.mem_of_getElem? hq)
        rw [getD_of hq]
        refine ex_assign (ev_eq ?_ (ev_bin hA1 (ev_name (by walk_at "var")) (ev_call hAf (ev_global M.g D.name rfl) ho hd (evl_cons (ev_name (by walk_at "var")) (evl_cons (ev_name (by walk_at "var")) evl_nil)) (ih q q2 (by omega))) (op_add_list ?_))) rfl (turn_end (by walk_at "le"))
        · rw [take_next hq, List.flatMap_append, nats_app]; simp
        · have a1 := hz (f + 1) p
          have a2 := hz f q
          have a3 := take_flat_le (g := lastL K f) (l := kidsOf K p) i
          simp only [lastL, List.length_append, List.length_cons, List.length_nil] at a1
          rw [sizeLine_eq]
          simp only [List.length_map]
          omega
      · refine ex_return (ev_eq ?_ (ev_bin hA1 (ev_name (by walk_at "var")) (ev_list (evl_cons (ev_name (by walk_at "var")) evl_nil)) (op_add_list ?_))) fun v s' S' H => back_ret S' H (fun b h => .inr h) (fun b o e => e)
        · rw [List.length_map, List.take_length]; simp [nats, lastL]
        · have a1 := hz (f + 1) p
          simp only [lastL, List.length_append, List.length_cons, List.length_nil] at a1
          rw [sizeLine_eq]
          simp only [List.length_map, List.take_length, List.length_cons, List.length_nil]
          omega
end
end Mine
end

section
open PySem PySem.W PySem.Calls PySem.Spec PyProof.Rows
set_option Elab.async false
set_option linter.unusedVariables false
namespace Mine
local macro_rules | `(tactic| walk_at "var") => `(tactic| first | exact upd_same | exact asc_same | (apply upd_ne (by decide); walk_at "var") | (apply asc_ne (by decide); walk_at "var") | (with_unfolding_all exact asc_same))
local macro_rules | `(tactic| walk_at "le") => `(tactic| first | exact le_nil | (refine le_cons ?_ ?_; (walk_at "var"); (walk_at "le")))

/-! the names that the escapes write -/
noncomputable def tabOf : Nat → List (Str × Str)
  | 2 => [(Str.ofString "&", Str.ofString "amp;"), (Str.ofString "<", Str.ofString "lt;"), (Str.ofString ">", Str.ofString "gt;")]
  | 3 => [(Str.ofString "&", Str.ofString "amp;"), (Str.ofString ">", Str.ofString "gt;"), (Str.ofString "\"", Str.ofString "quot;")]
  | 4 => [(Str.ofString "&", Str.ofString "amp;"), (Str.ofString "<", Str.ofString "lt;"), (Str.ofString "\"", Str.ofString "quot;"), (Str.ofString "\t", Str.ofString "#x9;")]
  | _ => []
noncomputable def namesD : D := .list [dicD (tabOf 0), dicD (tabOf 1), dicD (tabOf 2), dicD (tabOf 3), dicD (tabOf 4)]

theorem compSc0 {cx : Cx} {scope : Scope} (hcl : closureFor scope cx.env = pure []) (h1 : ∀ y ∈ scope.names, y.2 ≠ .cell) (h2 : scope.kind = .function) (h3 : ∀ y ∈ scope.names, y.2 = .local → scope.names.lookup y.1 = some .local) : CompSc cx scope [] :=
  ⟨hcl, h1, h2, h3, fun x c h => by cases h⟩
theorem capt0 {cx : Cx} {scope : Scope} {cl : List (Str × Addr)} {ρ : Rho} : Capt cx scope cl ρ (asc []) := fun x d h => by cases h

noncomputable def pickI (p : Int → Bool) : D → Option D
  | .int i => if p i then some (.int i) else none
  | _ => none
theorem pick_nats (p : Int → Bool) : ∀ l : List Nat, (l.map fun (n : Nat) => D.int n).filterMap (pickI p) = (l.filter fun (n : Nat) => p n).map fun (n : Nat) => D.int n
  | [] => rfl
  | n :: l => by
    have ih := pick_nats p l
    cases h : p (n : Int) with
    | true => simp [pickI, h, ih]
    | false => simp [pickI, h, ih]

section
variable {prog : Program} {w : World} {hb : Heap} {mg mb : Str → Option Value}

theorem ev_dict3 {cx : Cx} {ρ : Rho} {mus : Mus} {x1 x2 x3 y1 y2 y3 : Str} {a1 a2 a3 b1 b2 b3 : Nat} {p1 p2 p3 q1 q2 q3 pos : Pos} (hn : [x1, x2, x3].Nodup) {b : Nat} {o : Obj} (hbig : 2 ≤ b) (hbo : hb.get? b = some o) :
    Ev prog w hb cx ρ mus (.Dict [some (.Constant (.str x1) a1 p1), some (.Constant (.str x2) a2 p2), some (.Constant (.str x3) a3 p3)] [.Constant (.str y1) b1 q1, .Constant (.str y2) b2 q2, .Constant (.str y3) b3 q3] pos) (dicD [(x1, y1), (x2, y2), (x3, y3)]) := by
  have h := evpr_cons (prog := prog) (w := w) (hb := hb) (cx := cx) (ρ := ρ) (mus := mus) (x := x1) (y := y1) (k1 := a1) (k2 := b1) (p1 := p1) (p2 := q1) (pos := pos) (evpr_cons (x := x2) (y := y2) (k1 := a2) (k2 := b2) (p1 := p2) (p2 := q2) (pos := pos) (evpr_cons (x := x3) (y := y3) (k1 := a3) (k2 := b3) (p1 := p3) (p2 := q3) (pos := pos) evpr_nil))
  refine ev_dict (ds := [(x1, y1), (x2, y2), (x3, y3)]) ?_ ?_ ?_ h hn hbig hbo
  · simp only [evalEachOpt, evalOpt, evalEach, List.map_cons, List.map_nil, List.zip_cons_cons, List.zip_nil_left]
  · simp
  · simp
theorem ev_dict4 {cx : Cx} {ρ : Rho} {mus : Mus} {x1 x2 x3 x4 y1 y2 y3 y4 : Str} {a1 a2 a3 a4 b1 b2 b3 b4 : Nat} {p1 p2 p3 p4 q1 q2 q3 q4 pos : Pos} (hn : [x1, x2, x3, x4].Nodup) {b : Nat} {o : Obj} (hbig : 2 ≤ b) (hbo : hb.get? b = some o) :
    Ev prog w hb cx ρ mus (.Dict [some (.Constant (.str x1) a1 p1), some (.Constant (.str x2) a2 p2), some (.Constant (.str x3) a3 p3), some (.Constant (.str x4) a4 p4)] [.Constant (.str y1) b1 q1, .Constant (.str y2) b2 q2, .Constant (.str y3) b3 q3, .Constant (.str y4) b4 q4] pos)
      (dicD [(x1, y1), (x2, y2), (x3, y3), (x4, y4)]) := by
  have h := evpr_cons (prog := prog) (w := w) (hb := hb) (cx := cx) (ρ := ρ) (mus := mus) (x := x1) (y := y1) (k1 := a1) (k2 := b1) (p1 := p1) (p2 := q1) (pos := pos) (evpr_cons (x := x2) (y := y2) (k1 := a2) (k2 := b2) (p1 := p2) (p2 := q2) (pos := pos) (evpr_cons (x := x3) (y := y3) (k1 := a3) (k2 := b3) (p1 := p3) (p2 := q3) (pos := pos) (evpr_cons (x := x4) (y := y4) (k1 := a4) (k2 := b4) (p1 := p4) (p2 := q4) (pos := pos) evpr_nil)))
  refine ev_dict (ds := [(x1, y1), (x2, y2), (x3, y3), (x4, y4)]) ?_ ?_ ?_ h hn hbig hbo
  · simp only [evalEachOpt, evalOpt, evalEach, List.map_cons, List.map_nil, List.zip_cons_cons, List.zip_nil_left]
  · simp
  · simp

theorem names_fn {aL : Addr} {nme qual : Str} {kV doc pm cdv ct : Value} {an : Option Addr} (M : Mod hb mg mb) (D : DefIs hb mg "_law_names" (defAt 18) aL .none nme qual kV doc pm cdv ct an) :
    Fn prog w hb 2 (.ref aL) [] namesD := by
  obtain ⟨o, ho, hd⟩ := D.obj
  obtain ⟨b, ob, hb2, hbo⟩ := M.big
  refine fn_intro (body := dBody (defAt 18)) (ps := []) ho hd M.lim D.code rfl ?_ (show ∀ x ∈ (dScope (defAt 18)).names, x.2 ≠ .cell from by decide) (fun x h => nomatch h) rfl (by decide) rfl rfl rfl ?_
  · intro s vs _ hl
    obtain rfl := len0 hl
    exact BindsTo.of_eq rfl
  · intro A X s hA
    show Ex prog w hb _ (asc []) _ _ _
    refine ex_ret ?_ (fun b h => .inr h) (fun b o e => e)
    refine ev_list (ds := [dicD (tabOf 0), dicD (tabOf 1), dicD (tabOf 2), dicD (tabOf 3), dicD (tabOf 4)]) ?_ (by decide)
    refine evl_cons ?_ (evl_cons ?_ (evl_cons ?_ (evl_cons ?_ (evl_cons ?_ evl_nil))))
    · exact ev_dict0 hb2 hbo
    · exact ev_dict0 hb2 hbo
    · exact ev_dict3 (by decide) hb2 hbo
    · exact ev_dict3 (by decide) hb2 hbo
    · exact ev_dict4 (by decide) hb2 hbo
end
end Mine
end

section
open PySem PySem.W PySem.Calls PySem.Spec PyProof.Rows
set_option Elab.async false
set_option linter.unusedVariables false
namespace Mine
local macro_rules | `(tactic| walk_at "var") => `(tactic| first | exact upd_same | exact asc_same | (apply upd_ne (by decide); walk_at "var") | (apply asc_ne (by decide); walk_at "var") | (with_unfolding_all exact asc_same))
local macro_rules | `(tactic| walk_at "le") => `(tactic| first | exact le_nil | (refine le_cons ?_ ?_; (walk_at "var"); (walk_at "le")))

/-! how a sign is written -/
noncomputable def knows (sign : Str) (h : Nat) : Bool := (dfind sign ((tabOf h).map fun x => (x.1, D.str x.2))).isSome
noncomputable def firstOf (sign : Str) : List Nat → Nat
  | [] => 0
  | h :: t => if knows sign h then 0 else firstOf sign t + 1
noncomputable def ones (l : List Nat) : Nat := (l.filter fun (n : Nat) => (n : Int) == 1).length
noncomputable def laters (l : List Nat) : Nat := (l.filter fun (n : Nat) => decide ((n : Int) > 1)).length
noncomputable def aheadOf (sign : Str) (over : List Nat) : Int :=
  if sign.cps.toList == (Str.ofString "\"").cps.toList then 2 ^ ones over - 2 ^ ones (over.drop (firstOf sign over))
  else if sign.cps.toList == (Str.ofString "\\").cps.toList then 2 ^ ones over - 1 else 0
noncomputable def lookS (k : Str) : List (Str × Str) → Str
  | [] => Str.empty
  | e :: r => if e.1 == k then e.2 else lookS k r
noncomputable def writtenS (sign : Str) (over : List Nat) : Str :=
  if firstOf sign over = over.length then Txt.mul (Str.ofString "\\") (aheadOf sign over) ++ sign
  else Txt.mul (Str.ofString "\\") (aheadOf sign over) ++ Str.ofString "&" ++ Txt.mul (Str.ofString "amp;") (laters (over.drop (firstOf sign over + 1))) ++ lookS sign (tabOf (over.getD (firstOf sign over) 0))

theorem firstOf_le (sign : Str) : ∀ l, firstOf sign l ≤ l.length
  | [] => Nat.le_refl _
  | h :: t => by
    have := firstOf_le sign t
    unfold firstOf
    split
    · omega
    · simp; omega
theorem firstOf_ahead (sign : Str) : ∀ l i h, i < firstOf sign l → l[i]? = some h → knows sign h = false
  | [], i, h, a, b => by cases b
  | k :: t, i, h, a, b => by
    unfold firstOf at a
    split at a
    · omega
    · rename_i q
      cases i with
      | zero => simp at b; subst b; simpa using q
      | succ i => exact firstOf_ahead sign t i h (by omega) (by simpa using b)
theorem firstOf_at (sign : Str) : ∀ l h, l[firstOf sign l]? = some h → knows sign h = true
  | [], h, b => by cases b
  | k :: t, h, b => by
    unfold firstOf at b
    split at b
    · rename_i q
      simp at b; subst b; exact q
    · exact firstOf_at sign t h (by simpa using b)
theorem knows_look {k : Str} {l : List (Str × Str)} (h : (dfind k (l.map fun x => (x.1, D.str x.2))).isSome = true) : dfind k (l.map fun x => (x.1, D.str x.2)) = some (.str (lookS k l)) := by
  induction l with
  | nil => cases h
  | cons e r ih =>
    simp only [List.map_cons, dfind, lookS] at h ⊢
    split
    · rfl
    · rename_i q
      simp only [q] at h
      exact ih (by simpa using h)

theorem mul_ok {x : Str} {n : Int} (hx : x.length ≤ 4) (h0 : -128 ≤ n) (hn : n ≤ 128) : MulOk x n := by
  have hq : n.toNat ≤ 128 := by omega
  have hp : x.length * n.toNat ≤ 512 := Nat.mul_le_mul hx hq
  refine ⟨by simp; omega, fun h1 _ h => ?_, fun h1 _ => ?_⟩
  · have : (2 ^ 63 - 1 : Int) / 128 ≤ (2 ^ 63 - 1) / n := by
      rw [Int.le_ediv_iff_mul_le (by omega)]
      have : (2 ^ 63 - 1 : Int) / 128 * n ≤ (2 ^ 63 - 1 : Int) / 128 * 128 := Int.mul_le_mul_of_nonneg_left hn (by decide)
      have e : (2 ^ 63 - 1 : Int) / 128 * 128 ≤ 2 ^ 63 - 1 := by decide
      omega
    have e : (2 ^ 63 - 1 : Int) / 128 > 4 := by decide
    omega
  · show decide (_ > sizeLine) = false
    rw [sizeLine_eq]; simp; omega
theorem foldl_cat (c : Array Nat) : ∀ (n : Nat) (acc : Array Nat), ((List.replicate n c).foldl (· ++ ·) acc).toList = acc.toList ++ (List.replicate n c.toList).flatten
  | 0, acc => by simp
  | n + 1, acc => by
    rw [List.replicate_succ, List.foldl_cons, foldl_cat c n, Array.toList_append, List.replicate_succ, List.flatten_cons, List.append_assoc]
theorem mul_cps (x : Str) (n : Int) : (Txt.mul x n).cps.toList = (List.replicate n.toNat x.cps.toList).flatten := by
  unfold Txt.mul
  split
  · have : n.toNat = 0 := by omega
    rw [this]; rfl
  · split
    · rename_i h
      simp only [Bool.or_eq_true, beq_iff_eq] at h
      rcases h with rfl | h
      · simp
      · have : x.cps.toList = [] := by
          have : x.cps.size = 0 := h
          exact List.length_eq_zero_iff.mp (by simpa using this)
        rw [this]; simp
    · rw [foldl_cat]; rfl
theorem mul_len {x : Str} {n : Int} (hx : x.length ≤ 4) (hn : n ≤ 128) : (Txt.mul x n).length ≤ 512 := by
  have e := congrArg List.length (mul_cps x n)
  simp only [Array.length_toList, List.length_flatten, List.map_replicate, List.sum_replicate_nat] at e
  show (Txt.mul x n).cps.size ≤ 512
  rw [e]
  have hq : n.toNat ≤ 128 := by omega
  have : n.toNat * x.cps.size ≤ 128 * 4 := Nat.mul_le_mul hq hx
  exact this

theorem lookS_len (k : Str) : ∀ h, h < 5 → (lookS k (tabOf h)).length ≤ 5 := by
  have key : ∀ (l : List (Str × Str)), (∀ x ∈ l, x.2.length ≤ 5) → (lookS k l).length ≤ 5 := fun l => by
    induction l with
    | nil => intro _; exact Nat.zero_le _
    | cons e r ih =>
      intro h
      unfold lookS
      split
      · exact h e (by simp)
      · exact ih fun x hx => h x (by simp [hx])
  intro h hh
  refine key _ ?_
  match h, hh with
  | 0, _ | 1, _ | 2, _ | 3, _ | 4, _ => decide

section
variable {prog : Program} {w : World} {hb : Heap} {mg mb : Str → Option Value} {cx : Cx} {ρ : Rho} {mus : Mus}
theorem et_eq {e : Expr} {b b' : Bool} (h : b = b') (x : Et prog w hb cx ρ mus e b) : Et prog w hb cx ρ mus e b' := h ▸ x
theorem eta_one {e : Expr} {b : Bool} (h : Et prog w hb cx ρ mus e b) : EtA prog w hb cx ρ mus .And [e] b := by
  refine eta_and h (fun q => ?_) (fun q => q)
  subst q; exact eta_nil
theorem eta_oneo {e : Expr} {b : Bool} (h : Et prog w hb cx ρ mus e b) : EtA prog w hb cx ρ mus .Or [e] b := by
  refine eta_or h (fun q => ?_) (fun q => q)
  subst q; exact eta_nil

theorem ex_ret2 {e : Expr} {X : Addr → Prop} {r : D} {pos : Pos} {rest rest2 : List Stmt} {s0 : Shared} (he : Ev prog w hb cx ρ mus e r) (hX : ∀ b, X b → cx.X b) (hp : ∀ b o, cx.s0.heap.get? b = some o → cx.pr b o) (hs : cx.s0 = s0 := by rfl) :
    Ex prog w hb cx ρ mus (.Return (some e) pos :: rest) (Then prog w cx rest2 (Back w.params X s0 r)) := by
  subst hs
  exact ex_return he fun v s S' H => back_ret S' H hX hp
/-- a block that only goes on -/
noncomputable def Nx (P : Params) (hb : Heap) (cx : Cx) (ρ : Rho) (mus : Mus) : Flow → Shared → Prop := fun f s => match f with
  | .next => St P hb cx ρ mus s
  | _ => False
theorem nx_end {ρ ρ' : Rho} {mus : Mus} (h : Le ρ' ρ) : Ex prog w hb cx ρ mus [] (Nx w.params hb cx ρ' mus) := ex_nil fun s S => S.forget h
/-- an if whose two ways meet again -/
theorem ex_if_meet {R : Flow → Shared → Prop} {t : Expr} {body orelse rest : List Stmt} {pos : Pos} {c : Bool} {ρ' : Rho} {mus' : Mus} (ht : Et prog w hb cx ρ mus t c) (h1 : c = true → Ex prog w hb cx ρ mus body (Nx w.params hb cx ρ' mus')) (h2 : c = false → Ex prog w hb cx ρ mus orelse (Nx w.params hb cx ρ' mus'))
    (hr : Ex prog w hb cx ρ' mus' rest R) : Ex prog w hb cx ρ mus (.If t body orelse pos :: rest) R :=
  ex_if ht (fun q => .mk fun s S => noE' ((h1 q).run s S) fun f s' n => by cases f <;> first | exact hr.run s' n | exact n.elim)
    (fun q => .mk fun s S => noE' ((h2 q).run s S) fun f s' n => by cases f <;> first | exact hr.run s' n | exact n.elim)

/-- [x for x in l if test] over whole numbers -/
theorem ev_pick {x : Str} {px py : Pos} {iter tst : Expr} {scope : Scope} {pos : Pos} {l : List Nat} (hh : cx.A.handled = none) (p : Int → Bool) (hi : Ev prog w hb cx ρ mus iter (nats l))
    (hsc : CompSc cx scope [])
    (hk : ∀ C X' pr' s₀, (cxC cx scope [] C X' pr' s₀).env.kindOf x = some .local)
    (htst : ∀ (n : Nat) C X' pr' s₀, Et prog w hb (cxC cx scope [] C X' pr' s₀) (upd (asc []) x (.int n)) [] tst (p n)) (hz : l.length ≤ sizeLine)
    (hs : ∀ x, foldedSetIterable iter cx.env x = pure x := by intro _; rfl) (hd : (x == ("__debug__" : Str)) = false := by decide) (hn : (x == ("__classdict__" : Str)) = false := by decide) :
    Ev prog w hb cx ρ mus (.ListComp (.Name x px) [⟨.Name x py, iter, [tst], 0⟩] scope pos) (nats (l.filter fun (n : Nat) => p n)) := by
  refine ev_eq ?_ (ev_comp (ds := l.map fun (n : Nat) => D.int n) hh (asc []) (fun d => upd (asc []) x d) (pickI p) hi hsc capt0 ?_ ?_ ?_ ?_ ?_ hs)
  · rw [pick_nats]; rfl
  · intro d hd' C X' pr' s₀
    exact asg_name (hk _ _ _ _)
  · intro d hd' C X' pr' s₀
    obtain ⟨n, _, rfl⟩ := List.mem_map.mp hd'
    refine etall_one (et_eq ?_ (htst n C X' pr' s₀))
    cases h : p n <;> simp [pickI, h]
  · intro d hd' e he C X' pr' s₀
    obtain ⟨n, _, rfl⟩ := List.mem_map.mp hd'
    cases h : p n <;> simp [pickI, h] at he
    subst he
    exact ev_name upd_same hd hn
  · intro d hd'; exact le_nil
  · rw [List.length_map]; exact hz

theorem written_fn {aL aN : Addr} {nme qual : Str} {kV doc pm cdv ct : Value} {an : Option Addr} (M : Mod hb mg mb) (Df : DefIs hb mg "_law_written" (defAt 19) aL .none nme qual kV doc pm cdv ct an)
    {sign : Str} {over : List Nat} (ho7 : over.length ≤ 7) (h5 : ∀ n ∈ over, n < 5) (hs : sign.length ≤ 1) (hlen : mg "len" = none) :
    Fn prog w hb 3 (.ref aL) [.str sign, nats over, namesD] (.str (writtenS sign over)) := by
  obtain ⟨o, ho, hd⟩ := Df.obj
  refine fn_intro (body := dBody (defAt 19)) (ps := [Str.ofString "sign", Str.ofString "over", Str.ofString "names"]) ho hd M.lim Df.code rfl ?_ (show ∀ x ∈ (dScope (defAt 19)).names, x.2 ≠ .cell from by decide)
      (show ∀ x ∈ [Str.ofString "sign", Str.ofString "over", Str.ofString "names"], (dScope (defAt 19)).names.lookup x = some .local from by decide) rfl (by decide) rfl rfl rfl ?_
  · intro s vs _ hl
    obtain ⟨v1, v2, v3, rfl⟩ := len3 hl
    exact BindsTo.of_eq rfl
  · intro A X s hA
    show Ex prog w hb _ (asc [(Str.ofString "sign", .str sign), (Str.ofString "over", nats over), (Str.ofString "names", namesD)]) _ _ _
    have hA1 : Room 1 (cxOf A (fnOf nme qual (dArgs (defAt 19)) (dBody (defAt 19)) (dScope (defAt 19)) .none kV doc pm an cdv ct) aL X s).A := (hA.deeper _).le (by omega)
    have hlenb : mb "len" = some (.builtin "len") := (M.bi _ (by decide)).trans rfl
    refine ex_assign ev_int rfl ?_
    have hf := firstOf_le sign over
    have hitem : ∀ i h, over[i]? = some h → (over.map fun (n : Nat) => D.int n)[i]? = some (D.int (h : Nat)) := fun i h q => by rw [List.getElem?_map, q]; rfl
    have hname : ∀ h, h < 5 → ([dicD (tabOf 0), dicD (tabOf 1), dicD (tabOf 2), dicD (tabOf 3), dicD (tabOf 4)] : List D)[h]? = some (dicD (tabOf h)) := fun h q => by
      match h, q with
      | 0, _ => rfl
      | 1, _ => rfl
      | 2, _ => rfl
      | 3, _ => rfl
      | 4, _ => rfl
    have hsl : over.length ≤ sizeLine := by rw [sizeLine_eq]; omega
    refine ex_while (fun i => asc [(Str.ofString "first", .int (i : Nat)), (Str.ofString "sign", .str sign), (Str.ofString "over", nats over), (Str.ofString "names", namesD)]) (firstOf sign over) (by walk_at "le") ?_ ?_ ?_ ?_
    · intro i hi
      have hq : over[i]? = some over[i] := by simp [show i < over.length by omega]
      have h5' := h5 over[i] (List.getElem_mem _)
      have hk := firstOf_ahead sign over i _ hi hq
      refine et_bool ?_
      refine eta_and (et_cmp hA1 (ev_name (by walk_at "var")) (ev_callb hA1 (ev_builtin M.g hlen M.b hlenb rfl) (evl_cons (ev_name (by walk_at "var")) evl_nil) (fn_len_list (ds := over.map fun (n : Nat) => D.int n) (by rw [List.length_map]; exact hsl))) op_lt) (fun _ => eta_one ?_) ?_
      · refine et_eq ?_ (et_cmp hA1 (ev_name (by walk_at "var")) (ev_sub hA1 (ev_name (by walk_at "var")) (ev_sub hA1 (ev_name (by walk_at "var")) (ev_name (by walk_at "var")) (op_item (hitem i _ hq) (by omega) (fun _ _ => rfl))) (op_item (hname over[i] h5') (by omega) (fun _ _ => rfl))) op_notin_dic)
        show (!knows sign over[i]) = true
        rw [hk]; rfl
      · intro h
        simp at h; omega
    · intro i hi
      refine ex_assign (ev_eq ?_ (ev_bin hA1 (ev_name (by walk_at "var")) ev_int op_add_int)) rfl (turn_end (by walk_at "le"))
      rfl
    · by_cases hfl : firstOf sign over = over.length
      · refine et_bool ?_
        refine eta_and (et_cmp hA1 (ev_name (by walk_at "var")) (ev_callb hA1 (ev_builtin M.g hlen M.b hlenb rfl) (evl_cons (ev_name (by walk_at "var")) evl_nil) (fn_len_list (ds := over.map fun (n : Nat) => D.int n) (by rw [List.length_map]; exact hsl))) op_lt) ?_ (fun _ => rfl)
        intro h
        simp at h; omega
      · have hq : over[firstOf sign over]? = some over[firstOf sign over] := by simp [show firstOf sign over < over.length by omega]
        have h5' := h5 over[firstOf sign over] (List.getElem_mem _)
        have hk := firstOf_at sign over _ hq
        refine et_bool ?_
        refine eta_and (et_cmp hA1 (ev_name (by walk_at "var")) (ev_callb hA1 (ev_builtin M.g hlen M.b hlenb rfl) (evl_cons (ev_name (by walk_at "var")) evl_nil) (fn_len_list (ds := over.map fun (n : Nat) => D.int n) (by rw [List.length_map]; exact hsl))) op_lt) (fun _ => eta_one ?_) (fun _ => rfl)
        refine et_eq ?_ (et_cmp hA1 (ev_name (by walk_at "var")) (ev_sub hA1 (ev_name (by walk_at "var")) (ev_sub hA1 (ev_name (by walk_at "var")) (ev_name (by walk_at "var")) (op_item (hitem _ _ hq) (by omega) (fun _ _ => rfl))) (op_item (hname over[firstOf sign over] h5') (by omega) (fun _ _ => rfl))) op_notin_dic)
        show (!knows sign over[firstOf sign over]) = false
        rw [hk]; rfl
    · have hpow : ∀ l : List Nat, l.length ≤ 7 → (Builtin.Int.intBits 2 : Int) * ((ones l : Nat) : Int) ≤ 2 ^ 27 := fun l h => by
        have h1 : ones l ≤ l.length := List.length_filter_le _ _
        have h2 : (Builtin.Int.intBits 2 : Int) = 2 := by decide
        rw [h2]; omega
      have hdrop : ∀ k, (over.drop k).length ≤ 7 := fun k => by rw [List.length_drop]; omega
      have hsl' : ∀ k, (over.drop k).length ≤ sizeLine := fun k => by have := hdrop k; rw [sizeLine_eq]; omega
      have hfl : ∀ (l : List Nat) (p : Nat → Bool), l.length ≤ sizeLine → ((l.filter p).map fun (n : Nat) => D.int n).length ≤ sizeLine := fun l p h => by
        have := List.length_filter_le p l
        rw [List.length_map]; omega
      refine ex_assign (d := .int (ones over : Nat)) (ev_eq ?_ (ev_callb hA1 (ev_builtin M.g hlen M.b hlenb rfl) (evl_cons (ev_pick hA.hh (fun i => i == 1) (ev_name (by walk_at "var")) (compSc0 rfl (by decide) rfl (by decide)) (fun _ _ _ _ => rfl) (fun n C X' pr' s₀ => et_cmp hA1 (ev_name (by walk_at "var")) ev_int op_eq) hsl) evl_nil) (fn_len_list (hfl _ _ hsl)))) rfl ?_
      · rw [List.length_map]; rfl
      refine ex_assign ev_int rfl ?_
      refine ex_if_meet (mus' := []) (ρ' := asc [(Str.ofString "ahead", .int (if sign.cps.toList == (Str.ofString "\\").cps.toList then 2 ^ ones over - 1 else 0)), (Str.ofString "quotings", .int (ones over : Nat)), (Str.ofString "first", .int (firstOf sign over : Nat)), (Str.ofString "sign", .str sign), (Str.ofString "over", nats over), (Str.ofString "names", namesD)])
        (et_cmp hA1 (ev_name (by walk_at "var")) ev_str op_eq_str) (fun h => ?_) (fun h => ?_) ?_
      · refine ex_assign (ev_eq ?_ (ev_bin hA1 (ev_bin hA1 ev_int (ev_name (by walk_at "var")) (op_pow_int (Int.natCast_nonneg _) (hpow _ ho7))) ev_int op_sub_int)) rfl (nx_end (by walk_at "le"))
        rw [if_pos h]; rfl
      · rw [if_neg (by rw [h]; exact Bool.false_ne_true)]
        exact nx_end (by walk_at "le")
      refine ex_if_meet (mus' := []) (ρ' := asc [(Str.ofString "ahead", .int (aheadOf sign over)), (Str.ofString "first", .int (firstOf sign over : Nat)), (Str.ofString "sign", .str sign), (Str.ofString "over", nats over), (Str.ofString "names", namesD)])
        (et_cmp hA1 (ev_name (by walk_at "var")) ev_str op_eq_str) (fun h => ?_) (fun h => ?_) ?_
      · refine ex_assign (ev_eq ?_ (ev_bin hA1 (ev_bin hA1 ev_int (ev_name (by walk_at "var")) (op_pow_int (Int.natCast_nonneg _) (hpow _ ho7)))
          (ev_bin hA1 ev_int (ev_callb hA1 (ev_builtin M.g hlen M.b hlenb rfl) (evl_cons (ev_pick (l := over.drop (firstOf sign over)) hA.hh (fun i => i == 1) (ev_eq ?_ (ev_slice_from (ev_name (by walk_at "var")) (ev_name (by walk_at "var")) ?_)) (compSc0 rfl (by decide) rfl (by decide)) (fun _ _ _ _ => rfl) (fun n C X' pr' s₀ => et_cmp hA1 (ev_name (by walk_at "var")) ev_int op_eq) (hsl' _)) evl_nil) (fn_len_list (hfl _ _ (hsl' _)))) (op_pow_int (Int.natCast_nonneg _) ?_)) op_sub_int)) rfl (nx_end (by walk_at "le"))
        · rw [List.length_map, aheadOf, if_pos h]; rfl
        · rw [← List.map_drop]; rfl
        · rw [List.length_map]; exact hsl
        · rw [List.length_map]; exact hpow _ (hdrop _)
      · have e : aheadOf sign over = (if sign.cps.toList == (Str.ofString "\\").cps.toList then 2 ^ ones over - 1 else 0) := by simp only [aheadOf, h, Bool.false_eq_true, if_false]
        rw [e]
        exact nx_end (by walk_at "le")
      have h1 : ∀ l : List Nat, ones l ≤ l.length := fun l => List.length_filter_le _ _
      have hah : aheadOf sign over ≤ 128 := by
        have p7 : ∀ k, k ≤ 7 → (2 : Int) ^ k ≤ 128 := fun k hk => by
          match k, hk with
          | 0, _ | 1, _ | 2, _ | 3, _ | 4, _ | 5, _ | 6, _ | 7, _ => decide
        have a := p7 (ones over) (Nat.le_trans (h1 _) ho7)
        have b : (0 : Int) < 2 ^ ones (over.drop (firstOf sign over)) := Int.pow_pos (by decide)
        unfold aheadOf
        split
        · omega
        · split <;> omega
      have hahl : -128 ≤ aheadOf sign over := by
        have p7 : ∀ k, k ≤ 7 → (2 : Int) ^ k ≤ 128 := fun k hk => by
          match k, hk with
          | 0, _ | 1, _ | 2, _ | 3, _ | 4, _ | 5, _ | 6, _ | 7, _ => decide
        have a := p7 (ones (over.drop (firstOf sign over))) (Nat.le_trans (h1 _) (hdrop _))
        have b : (0 : Int) < 2 ^ ones over := Int.pow_pos (by decide)
        unfold aheadOf
        split
        · omega
        · split <;> omega
      have hmul : ∀ (x : Str) (n : Int), x.length ≤ 4 → -128 ≤ n → n ≤ 128 → MulOk x n := fun x n => mul_ok
      have hlenm : ∀ (x : Str) (n : Int), x.length ≤ 4 → n ≤ 128 → (Txt.mul x n).length ≤ 512 := fun x n => mul_len
      have hlenw : firstOf sign over = over.length → writtenS sign over = Txt.mul (Str.ofString "\\") (aheadOf sign over) ++ sign := fun h => by unfold writtenS; rw [if_pos h]
      have happ := Str.length_append
      have hs1 : sizeLine = 16777216 := sizeLine_eq
      refine ex_if (et_cmp hA1 (ev_name (by walk_at "var")) (ev_callb hA1 (ev_builtin M.g hlen M.b hlenb rfl) (evl_cons (ev_name (by walk_at "var")) evl_nil) (fn_len_list (ds := over.map fun (n : Nat) => D.int n) (by rw [List.length_map]; exact hsl))) op_eq) (fun h => ?_) (fun h => ?_)
      · have hE : firstOf sign over = over.length := by simp at h; omega
        refine ex_ret2 (ev_eq ?_ (ev_bin hA1 (ev_bin hA1 ev_str (ev_name (by walk_at "var")) (op_mul_str (hmul _ _ (by decide) hahl hah))) (ev_name (by walk_at "var")) (op_add_str ?_))) (fun b h => .inr h) (fun b o e => e)
        · rw [hlenw hE]
        · have := hlenm (Str.ofString "\\") (aheadOf sign over) (by decide) hah
          omega
      refine then_nil ?_
      have hlt : firstOf sign over < over.length := by simp at h; omega
      have hq : over[firstOf sign over]? = some over[firstOf sign over] := by simp [hlt]
      have h5' := h5 over[firstOf sign over] (List.getElem_mem _)
      have hk := firstOf_at sign over _ hq
      refine ex_assign (d := .int (laters (over.drop (firstOf sign over + 1)) : Nat)) (ev_eq ?_ (ev_callb hA1 (ev_builtin M.g hlen M.b hlenb rfl) (evl_cons (ev_pick (l := over.drop (firstOf sign over + 1)) hA.hh (fun i => decide (i > 1)) (ev_eq ?_ (ev_slice_from (k := firstOf sign over + 1) (ev_name (by walk_at "var")) (ev_eq ?_ (ev_bin hA1 (ev_name (by walk_at "var")) ev_int op_add_int)) ?_)) (compSc0 rfl (by decide) rfl (by decide)) (fun _ _ _ _ => rfl) (fun n C X' pr' s₀ => et_cmp hA1 (ev_name (by walk_at "var")) ev_int op_gt) (hsl' _)) evl_nil) (fn_len_list (hfl _ _ (hsl' _))))) rfl ?_
      · rw [List.length_map]; rfl
      · rw [← List.map_drop]; rfl
      · rfl
      · rw [List.length_map]; exact hsl
      have hl1 : laters (over.drop (firstOf sign over + 1)) ≤ 7 := Nat.le_trans (List.length_filter_le _ _) (hdrop _)
      refine ex_ret (ev_eq ?_ (ev_bin hA1 (ev_bin hA1 (ev_bin hA1 (ev_bin hA1 ev_str (ev_name (by walk_at "var")) (op_mul_str (hmul _ _ (by decide) hahl hah))) ev_str (op_add_str ?_)) (ev_bin hA1 ev_str (ev_name (by walk_at "var")) (op_mul_str (hmul _ _ (by decide) (by omega) (by omega)))) (op_add_str ?_))
        (ev_sub hA1 (ev_sub hA1 (ev_name (by walk_at "var")) (ev_sub hA1 (ev_name (by walk_at "var")) (ev_name (by walk_at "var")) (op_item (hitem _ _ hq) (by omega) (fun _ _ => rfl))) (op_item (hname over[firstOf sign over] h5') (by omega) (fun _ _ => rfl))) (ev_name (by walk_at "var")) (op_item_dic (knows_look hk) (fun _ _ => rfl))) (op_add_str ?_))) (fun b h => .inr h) (fun b o e => e)
      · unfold writtenS
        rw [if_neg (by omega), getD_of hq]
      · have := hlenm (Str.ofString "\\") (aheadOf sign over) (by decide) hah
        have e : (Str.ofString "&").length = 1 := by decide
        omega
      · have := hlenm (Str.ofString "\\") (aheadOf sign over) (by decide) hah
        have := hlenm (Str.ofString "amp;") (laters (over.drop (firstOf sign over + 1))) (by decide) (by omega)
        have e : (Str.ofString "&").length = 1 := by decide
        rw [happ]
        omega
      · have := hlenm (Str.ofString "\\") (aheadOf sign over) (by decide) hah
        have := hlenm (Str.ofString "amp;") (laters (over.drop (firstOf sign over + 1))) (by decide) (by omega)
        have e : (Str.ofString "&").length = 1 := by decide
        have := lookS_len sign over[firstOf sign over] h5'
        rw [happ, happ]
        omega
end
end Mine
end

section
open PySem PySem.W PySem.Calls PySem.Spec PyProof.Rows
set_option Elab.async false
set_option linter.unusedVariables false
namespace Mine

theorem bindL_not {kindOf : Str → Option NameKind} : ∀ {l : List (Str × Value)} {m : Str → Option Value} {x : Str}, (∀ y ∈ l, y.1 ≠ x) → bindL kindOf l m x = m x
  | [], _, _, _ => rfl
  | (n, v) :: r, m, x, h => by
    have hn : n ≠ x := h (n, v) (by simp)
    unfold bindL
    rw [bindL_not fun y hy => h y (by simp [hy])]
    split
    · simp [Ne.symm hn]
    · rfl
theorem bindL_mem {kindOf : Str → Option NameKind} : ∀ {l : List (Str × Value)} {m : Str → Option Value} {x : Str} {v : Value}, (l.map (·.1)).Nodup → (x, v) ∈ l → kindOf x = some .local → bindL kindOf l m x = some v
  | (n, u) :: r, m, x, v, hn, hm, hk => by
    rw [List.map_cons, List.nodup_cons] at hn
    rcases List.mem_cons.mp hm with e | e
    · cases e
      unfold bindL
      rw [bindL_not fun y hy z => hn.1 (List.mem_map.mpr ⟨y, hy, z⟩), if_pos hk]; simp
    · unfold bindL; exact bindL_mem hn.2 e hk
theorem bindC_not {kindOf : Str → Option NameKind} : ∀ {l : List (Str × Value)} {m : Str → Option Value} {x : Str}, (∀ y ∈ l, y.1 ≠ x) → bindC kindOf l m x = m x
  | [], _, _, _ => rfl
  | (n, v) :: r, m, x, h => by
    have hn : n ≠ x := h (n, v) (by simp)
    unfold bindC
    rw [bindC_not fun y hy => h y (by simp [hy])]
    split
    · rfl
    · simp [Ne.symm hn]
theorem bindC_mem {kindOf : Str → Option NameKind} : ∀ {l : List (Str × Value)} {m : Str → Option Value} {x : Str} {v : Value}, (l.map (·.1)).Nodup → (x, v) ∈ l → kindOf x ≠ some .local → bindC kindOf l m x = some v
  | (n, u) :: r, m, x, v, hn, hm, hk => by
    rw [List.map_cons, List.nodup_cons] at hn
    rcases List.mem_cons.mp hm with e | e
    · cases e
      unfold bindC
      rw [bindC_not fun y hy z => hn.1 (List.mem_map.mpr ⟨y, hy, z⟩), if_neg hk]; simp
    · unfold bindC; exact bindC_mem hn.2 e hk

section
variable {prog : Program} {w : World} {hb : Heap} {cx : Cx} {ρ : Rho} {mus : Mus} {R : Flow → Shared → Prop}

/-- the frame of a call of a def with cells -/
noncomputable abbrev cxOfC (A : Around) (fd : FuncData) (a : Addr) (X : Addr → Prop) (s : Shared) : Cx :=
  { A := A.deeper (callEnvC fd s.heap.objs.size a), env := callEnvC fd s.heap.objs.size a, X := fun b => b = s.heap.objs.size ∨ (∃ n, (callEnvC fd s.heap.objs.size a).cells.lookup n = some b) ∨ X b, pr := fun b o => s.heap.get? b = some o, s0 := s, cw := true }

theorem fn_introC {a : Addr} {o : Obj} {fd : FuncData} {body : List Stmt} {ps : List Str} {ds : List D} {r : D} {k : Nat} (ho : hb.get? a = some o) (hdata : o.data = .func fd) (hlim : hb.NoLimit) (hcd : hb.CodeRec fd.code fd.qualname)
    (hbody : fd.body = .stmts body) (hbind : ∀ (vs : List Value), vs.length = ps.length → bindArgs fd ⟨vs, []⟩ = pure (ps.zip vs))
    (hkind : ∀ (n : Nat) x, x ∈ ps → fd.scope.names.lookup x = some .local ∨ (fd.scope.names.lookup x = some .cell ∧ ((cellsFrom n fd.scope.names []).lookup x).isSome = true))
    (hps : ps.length = ds.length) (hnd : ps.Nodup)
    (hcl : fd.closure = []) (hfg : fd.globals = mainGlobals) (hfb : fd.builtins = builtinsNs)
    (h : ∀ (A : Around) (X : Addr → Prop) (s : Shared), Room (k + 1) A → Ex prog w hb (cxOfC A fd a X s) (asc (ps.zip ds)) [] body (Back w.params X s r))
    (hco : fd.scope.isCoroutine = false := by rfl) (hgen : fd.scope.isGenerator = false := by rfl) (hk : fd.scope.kind = .function := by rfl) :
    Fn prog w hb (k + 1) (.ref a) ds r := by
  refine ⟨?_⟩; intro A X s vs hA hX hbs htk hl hv
  have hlt : A.depth < recursionLimit := by have := hA.dp; show A.depth < 1000; omega
  have hlim' := hlim.keeps fun b o e => (hbs b o e).1
  refine wpAny_call (codeAny_call_function hlt (hbs a o ho).1 hdata hco hgen hbody (hcd.keeps fun b o e => (hbs b o e).1) ?_)
  rw [hbind vs (by rw [hl, hps]), hcl]
  refine wpAny_pure (wpAny_mono (wpAny_toks (wpAny_newFunctionEnv_cells (E := NoE) (Q := fun env s' => env = callEnvC fd s.heap.objs.size a ∧ InCallC s env.locals (bindL env.kindOf (ps.zip vs) fun _ => none) env.cells (bindC env.kindOf (ps.zip vs) fun _ => none) s') hk (fun x hx => hkind _ x.1 (List.of_mem_zip hx).1) fun env he s' x => ⟨he, x⟩)) (fun env s' q => ?_) fun _ _ x => x.2.elim)
  obtain ⟨u, rfl, x⟩ := q
  refine ⟨hlim'.keeps x.toInCall.keep, codeAny_func ?_⟩
  refine noE' ((h A X s hA).run s' ?_) fun f s' x => x
  have hnL : s.heap.get? s.heap.objs.size = none := get_fresh
  have hnone : ∀ b, s.heap.objs.size ≤ b → s.heap.get? b = none := fun b hb' => by
    cases e : s.heap.get? b with
    | none => rfl
    | some o => exact absurd (Heap.lt_size e) (Nat.not_lt.mpr hb')
  have hab : ∀ n c, (callEnvC fd s.heap.objs.size a).cells.lookup n = some c → s.heap.objs.size < c := fun n c e => x.above n c (mem_of_lookup e)
  have hXo : ∀ b o, s.heap.get? b = some o → ¬ X b → ¬ (b = s.heap.objs.size ∨ (∃ n, (callEnvC fd s.heap.objs.size a).cells.lookup n = some b) ∨ X b) := fun b o e nx z => by
    rcases z with z | ⟨n, z⟩ | z
    · rw [z, hnL] at e; cases e
    · have := hnone b (Nat.le_of_lt (hab n b z)); rw [this] at e; cases e
    · exact nx z
  have hvis : ∀ a' o, vis X s.heap a' o → vis (fun b => b = s.heap.objs.size ∨ (∃ n, (callEnvC fd s.heap.objs.size a).cells.lookup n = some b) ∨ X b) s'.heap a' o := fun b o q => ⟨x.toInCall.keep b o q.1, hXo b o q.1 q.2⟩
  have hkeys : ((ps.zip vs).map (·.1)).Nodup := by rw [List.map_fst_zip (by omega)]; exact hnd
  exact {
    sh := x.toInCall.same
    tok := Nat.lt_of_lt_of_le htk u
    tk0 := u
    live := fun b hx => by
      rcases hx with rfl | ⟨n, hx⟩ | hx
      · obtain ⟨o, _, _, e, _⟩ := x.toInCall.ns; exact ⟨o, e⟩
      · obtain ⟨o, e, _⟩ := x.cell n b hx; exact ⟨o, e⟩
      · obtain ⟨o, e⟩ := hX b hx; exact ⟨o, x.toInCall.keep b o e⟩
    pres := fun b o e => x.toInCall.keep b o e
    base := fun b o e => ⟨x.toInCall.keep b o (hbs b o e).1, hXo b o (hbs b o e).1 (hbs b o e).2⟩
    nsx := ⟨_, x.toInCall.ns⟩
    fk := hk
    fg := hfg
    fb := hfb
    lx := .inl rfl
    lp := fun o e => by have e' : s.heap.get? s.heap.objs.size = some o := e; rw [hnL] at e'; cases e'
    cel := fun n c e => ⟨.inr (.inl ⟨n, e⟩), Nat.ne_of_gt (hab n c e), _, x.cell n c e⟩
    cwr := fun _ n c e => ⟨fun o z => (by have z0 : s.heap.get? c = some o := z; rw [hnone c (Nat.le_of_lt (hab n c e))] at z0; cases z0), fun y hy => name_of_addr x.apart (mem_of_lookup hy) (mem_of_lookup e)⟩
    vars := fun n d e => by
      have e' : (ps.zip ds).lookup n = some d := e
      obtain ⟨i, hi, h1, h2⟩ := zip_find hps e'
      have hi' : i < vs.length := by rw [hl]; omega
      have hmem : (n, vs[i]) ∈ ps.zip vs := List.mem_of_getElem? (i := i) (by rw [List.getElem?_zip_eq_some]; exact ⟨h1, by simp [hi']⟩)
      refine ⟨vs[i], ?_, (hv i vs[i] d (by simp [hi']) h2).mono hvis⟩
      rcases hkind (s.heap.objs.size + 1) n (List.mem_of_getElem? h1) with hloc | ⟨hcel, hs⟩
      · exact .inl ⟨hloc, _, x.toInCall.ns, bindL_mem hkeys hmem hloc⟩
      · obtain ⟨c, hc⟩ := Option.isSome_iff_exists.mp hs
        have hc' : (callEnvC fd s.heap.objs.size a).cells.lookup n = some c := hc
        have := x.cell n c hc'
        rw [bindC_mem hkeys hmem (by show fd.scope.names.lookup n ≠ some .local; rw [hcel]; decide)] at this
        exact .inr ⟨.inl hcel, c, hc', this⟩
    muo := fun _ h => nomatch h
    mui := fun _ h => nomatch h
    mnd := .nil }

end
end Mine
end

section
open PySem PySem.W PySem.Calls PySem.Spec PyProof.Rows
set_option Elab.async false
set_option linter.unusedVariables false
namespace Mine

section
/-- several targets, one after another -/
structure AsgL (prog : Program) (w : World) (hb : Heap) (cx : Cx) (es : List Expr) (ds : List D) (ρ ρ' : Rho) : Prop where
  len : (assignEach es cx.env).length = ds.length
  star : (assignEach es cx.env).findIdx? (·.1) = none
  run : ∀ (X' : Addr → Prop) (pr' : Addr → Obj → Prop) (mus : Mus) (s : Shared) (vs : List Value), (∀ b, cx.X b → X' b) → St w.params hb { cx with X := X', pr := pr' } ρ mus s → HoldsL w.params (vis X' s.heap) vs ds →
    wpAny (model prog w) cx.A (assignInOrder ((assignEach es cx.env).map (·.2)) vs) (fun _ s' => St w.params hb { cx with X := X', pr := pr' } ρ' mus s') NoE s

variable {prog : Program} {w : World} {hb : Heap} {cx : Cx} {ρ ρ' : Rho} {mus : Mus} {R : Flow → Shared → Prop}

theorem asgl_nil : AsgL prog w hb cx [] [] ρ ρ := ⟨rfl, rfl, fun X' pr' mus s vs hX S H => by
  match vs, H.1 with
  | [], _ => exact wpAny_pure S⟩
theorem asgl_cons {x : Str} {px : Pos} {d : D} {es : List Expr} {ds : List D} (hk : cx.env.kindOf x = some .local) (t : AsgL prog w hb cx es ds (upd ρ x d) ρ') : AsgL prog w hb cx (.Name x px :: es) (d :: ds) ρ ρ' := by
  refine ⟨?_, ?_, fun X' pr' mus s vs hX S H => ?_⟩
  · simp [assignEach, t.len]
  · have := t.star
    rw [show assignEach (.Name x px :: es) cx.env = (false, assign (.Name x px) cx.env) :: assignEach es cx.env from by simp [assignEach], List.findIdx?_cons]
    simp [this]
  · match vs, H with
    | [], H => exact absurd H.1 (by simp)
    | v :: vs, H =>
      obtain ⟨m, hm⟩ := S.nsx
      have hv : Holds w.params (vis X' s.heap) v d := H.2 0 v d rfl rfl
      refine wpAny_bind (wpAny_holding (wpAny_assign_Name (wpAny_storeName_local hk hm (fun h' hn hs' => ?_) (hp_fn S.fk))))
      have hvis : ∀ a o, vis X' s.heap a o → vis X' h' a o := vis_but fun b o nb e => (hs'.2 b fun q => nb (q ▸ S.lx)).trans e
      exact t.run X' pr' mus _ vs hX (S.store hk hv hm hn hs' _) ⟨by have := H.1; simpa using this, fun i v d a b => (H.2 (i + 1) v d (by simpa using a) (by simpa using b)).mono hvis⟩

theorem asg_tup {es : List Expr} {ds : List D} {k : Nat} {pos : Pos} (hh : cx.A.handled = none) (h : AsgL prog w hb cx es ds ρ ρ') : AsgOk prog w hb cx (.Tuple es k pos) (.tup ds) ρ ρ' := .mk fun X' pr' mus s v hX S H => by
  cases H with
  | tup hv hl hi =>
  rename_i a vs n
  refine wpAny_assign_Tuple hh (t := a) (items := vs) ⟨_, hv.1, rfl, n, rfl⟩ (h.len.trans hl.symm) h.star fun h' he => ?_
  have k : Keeps s { s with heap := h' } := ⟨h', s.toks, rfl, fun b o e => he b o (Nat.ne_of_lt (Heap.lt_size e)) e, Nat.le_refl _⟩
  exact h.run X' pr' mus _ vs.toList hX (S.keeps k) ⟨by simpa using hl, fun i v d a b => keep_vis (hi i v d (by simpa using a) b) k⟩

/-! sum -/
noncomputable def preS (l : List Int) (n : Nat) : Int := (l.take n).sum
theorem fn_sum {l : List Int} (hs : ∀ x ∈ l, -(2 ^ 31) ≤ x ∧ x ≤ 2 ^ 31) (hz : l.length ≤ 2 ^ 31) : Fn prog w hb 1 (.builtin "sum") [.list (l.map .int)] (.int l.sum) := by
  refine ⟨?_⟩; intro A X s vs hA hX hbs htk hl hv
  obtain ⟨v, rfl⟩ := len1 hl
  · have h := hv 0 v _ rfl rfl
    obtain ⟨a, vs, n, rfl, hv', hl', hi'⟩ := holds_list h
    · skip
      have hsz : vs.size = l.length := by simpa using hl'
      have tok : ∀ i, ∃ t : Tok, ∀ v : Value, vs[i]? = some v → v = Value.int (l.getD i 0) t := fun i => by
        by_cases hlt : i < vs.size
        · have hd : (l.map D.int)[i]? = some (.int l[i]) := by simp [show i < l.length by omega]
          have := hi' i vs[i] _ (by simp [hlt]) hd
          have hg : l.getD i 0 = l[i] := by simp [show i < l.length by omega]
          generalize he : vs[i] = v at this
          obtain ⟨t, rfl⟩ := holds_int this
          refine ⟨t, fun v hv => ?_⟩
          rw [Array.getElem?_eq_getElem hlt, he] at hv
          cases hv
          rw [hg]
        · exact ⟨0, fun v hv => by rw [Array.getElem?_eq_none (by omega)] at hv; cases hv⟩
      obtain ⟨xs, hx, hat, hxs⟩ : ∃ xs : Array (Int × Tok), vs = intItems xs ∧ (∀ i, i < l.length → numAt xs i = l.getD i 0) ∧ xs.size = l.length := by
        refine ⟨((List.range vs.size).map fun i => (l.getD i 0, (tok i).choose)).toArray, ?_, fun i hi => ?_, by simp [hsz]⟩
        · apply Array.ext
          · simp [intItems]
          · intro i h1 h2
            have := (tok i).choose_spec vs[i] (by simp [h1])
            rw [this]
            simp [intItems]
        · simp [numAt, hsz, hi]
      have hsum : ∀ n, n ≤ l.length → preSum (numAt xs) n = (l.take n).sum := fun n => by
        induction n with
        | zero => intro _; rfl
        | succ n ih =>
          intro h
          rw [preSum, ih (by omega), hat n (by omega), List.take_succ_eq_append_getElem (by omega), List.sum_append]
          simp [show n < l.length by omega]
      have hb : ∀ n, n ≤ l.length → -(2 ^ 31 * (n : Int)) ≤ (l.take n).sum ∧ (l.take n).sum ≤ 2 ^ 31 * (n : Int) := fun n => by
        induction n with
        | zero => intro _; simp
        | succ n ih =>
          intro h
          obtain ⟨a, b⟩ := ih (by omega)
          obtain ⟨c, d⟩ := hs l[n] (List.getElem_mem _)
          rw [List.take_succ_eq_append_getElem (by omega), List.sum_append]
          simp only [List.sum_cons, List.sum_nil]
          omega
      subst hx
      refine up (sum_intList (xs := xs) hA.hh ⟨_, hv'.1, rfl, n, rfl⟩ (fun j hj => ?_) fun h' tk t' hk => ⟨⟨h', tk, rfl, hk⟩, ?_⟩)
      · rw [hat j (by omega), hsum (j + 1) (by omega)]
        obtain ⟨a1, a2⟩ := hb (j + 1) (by omega)
        have e : l.getD j 0 = l[j] := by simp [show j < l.length by omega]
        obtain ⟨c, d⟩ := hs l[j] (List.getElem_mem _)
        rw [e]
        unfold InLong
        omega
      · rw [hxs, hsum _ (Nat.le_refl _), List.take_length]; exact .int
end
end Mine
end

section
open PySem PySem.W PySem.Calls PySem.Spec PyProof.Rows
set_option Elab.async false
set_option linter.unusedVariables false
namespace Mine

section
variable {prog : Program} {w : World} {hb : Heap} {cx : Cx} {ρ ρ' : Rho} {mus : Mus} {R : Flow → Shared → Prop}

/-- an expression whose value is a new list -/
structure NewL (prog : Program) (w : World) (hb : Heap) (cx : Cx) (ρ : Rho) (mus : Mus) (e : Expr) (ds : List D) : Prop where
  run : ∀ s, St w.params hb cx ρ mus s → wpAny (model prog w) cx.A (eval e cx.env) (fun v s' => Keeps s s' ∧ ∃ a, v = .ref a ∧ s.heap.get? a = none ∧ MuIs w.params (vis (fun b => b = a ∨ cx.X b) s'.heap) s'.heap a ds) NoE s

theorem newl_empty {pos : Pos} : NewL prog w hb cx ρ mus (.List [] pos) [] := .mk fun s S => by
  refine wpAny_List (wpAny_mono ((evl_nil (prog := prog) (w := w) (hb := hb) (cx := cx) (ρ := ρ) (mus := mus)).run pos s S) (fun vs s₁ x => ?_) fun _ _ x => x)
  have h0 : vs = [] := List.length_eq_zero_iff.mp x.2.1
  subst h0
  refine ⟨Nat.zero_le _, keeps_trans x.1 keeps_push, _, rfl, ?_, #[], ⟨0, Heap.get?_push_size _ rfl⟩, rfl, fun i v d a => by simp at a⟩
  cases e : s.heap.get? s₁.heap.objs.size with
  | none => rfl
  | some o => have := keeps_get x.1 _ _ e; rw [get_fresh] at this; cases this

theorem foldl_catV (c : Array Value) : ∀ (n : Nat) (acc : Array Value), ((List.replicate n c).foldl (· ++ ·) acc).toList = acc.toList ++ (List.replicate n c.toList).flatten
  | 0, acc => by simp
  | n + 1, acc => by
    rw [List.replicate_succ, List.foldl_cons, foldl_catV c n, Array.toList_append, List.replicate_succ, List.flatten_cons, List.append_assoc]

theorem raw_mul {A : Around} {s : Shared} {E : Value → Shared → Prop} {l : Addr} {items : Array Value} {k : Nat} {x : Int} {u : Tok} {Q : Value → Shared → Prop}
    (hl : s.heap.get? l = some { cls := .type "list", dict := none, data := .seq items k, slots := #[] })
    (hlo : -(2 ^ 63 : Int) ≤ x) (hhi : x < 2 ^ 63) (hsz : items.size * x.toNat ≤ 2 ^ 24)
    (h : Q (.ref s.heap.objs.size) { s with heap := s.heap.push { cls := .type "list", data := .seq (List.foldl (fun x1 x2 => x1 ++ x2) #[] (List.replicate (if items.isEmpty = true then 0 else x.toNat) items)) } }) :
    wpAny (model prog w) A (binaryOp .Mult (.ref l) (.int x u)) Q E s :=
  wpAny_binaryOp_repeat_ref (T := "list") (U := "int") (by decide) ⟨_, hl, rfl⟩ (fun s' => typeIs_int s' x u) noFill_list_mul F.fills_int_mul F.slot_int_rmul repeat_list F.slot_int_index.lookup
    (call_meets F.slot_int_rmul (typeIs_int s x u) F.entry_int_rmul (F.args_int_rmul_2 _ _) (int___rmul___int_list x u l items k)
      ⟨hl, rfl, ⟨_, hl, rfl⟩, call_meets F.slot_list_mul ⟨_, hl, rfl⟩ F.entry_list_mul (F.args_list_mul_2 _ _)
        (AutoListH.list___mul___list_int_3 l items k x u (by simp [Builtin.List.listFitsIndex]; omega) (by omega) (by simp [Builtin.List.listTooLong, sizeLine]; omega))
        ⟨hl, h⟩⟩)

/-- [i] * n -/
theorem newl_mul {e1 e2 : Expr} {lp pos : Pos} {i : Int} {n : Nat} (h1 : Ev prog w hb cx ρ mus (.List [e1] lp) (.list [.int i])) (h2 : Ev prog w hb cx ρ mus e2 (.int n)) (hn : n ≤ 1000) :
    NewL prog w hb cx ρ mus (.BinOp (.List [e1] lp) .Mult e2 pos) (List.replicate n (.int i)) := .mk fun s S =>
  wpAny_BinOp (h1.val S fun va s₁ S₁ k₁ H₁ => h2.val S₁ fun vb s₂ S₂ k₂ H₂ => by
    have H₁' := keep_vis H₁ k₂
    obtain ⟨u, rfl⟩ := holds_int H₂
    obtain ⟨l, vs, k, rfl, hv, hl, hi⟩ := holds_list H₁'
    have hsz : vs.size = 1 := by simpa using hl
    have hx : vs[0]? = some vs[0] := by simp [hsz]
    have h0 := hi 0 vs[0] (.int i) hx rfl
    obtain ⟨t0, ht0⟩ : ∃ t, vs[0] = .int i t := by
      exact holds_int h0
    refine raw_mul hv.1 (by omega) (by omega) (by rw [hsz]; simp; omega) ?_
    have hemp : vs.isEmpty = false := by simp [Array.isEmpty, hsz]
    refine ⟨keeps_trans (keeps_trans k₁ k₂) keeps_push, _, rfl, ?_, _, ⟨0, Heap.get?_push_size _ rfl⟩, ?_, ?_⟩
    · cases e : s.heap.get? s₂.heap.objs.size with
      | none => rfl
      | some o => have := keeps_get (keeps_trans k₁ k₂) _ _ e; rw [get_fresh] at this; cases this
    · rw [hemp]
      have e := congrArg List.length (foldl_catV vs n #[])
      rw [Array.length_toList] at e
      simp only [Bool.false_eq_true, if_false, Int.toNat_natCast, List.length_replicate]
      refine e.trans ?_
      rw [List.length_append, List.length_flatten, List.map_replicate, List.sum_replicate_nat]
      simp [hsz]
    · intro j v d a b
      have hd : d = .int i := List.eq_of_mem_replicate (List.mem_of_getElem? b)
      subst hd
      rw [← Array.getElem?_toList, hemp] at a
      simp only [Bool.false_eq_true, if_false, Int.toNat_natCast] at a
      rw [foldl_catV] at a
      have hm := List.mem_of_getElem? a
      simp only [List.nil_append, List.mem_flatten, List.mem_replicate] at hm
      obtain ⟨l', ⟨_, rfl⟩, hm⟩ := hm
      have hl1 : vs.toList = [vs[0]] := by
        apply List.ext_getElem
        · simp [hsz]
        · intro q q1 q2
          have : q = 0 := by simp at q2; exact q2
          subst this; simp
      rw [hl1] at hm
      have : v = vs[0] := by simpa using hm
      rw [this, ht0]; exact .int)

theorem St.addMu {s s' : Shared} (S : St w.params hb cx ρ mus s) (k : Keeps s s') {a : Addr} {ds : List D} (hn : s.heap.get? a = none) (hm : MuIs w.params (vis (fun b => b = a ∨ cx.X b) s'.heap) s'.heap a ds) :
    St w.params hb { cx with X := fun b => b = a ∨ cx.X b } ρ ((a, ds) :: mus) s' := by
  have al : ∃ o, s'.heap.get? a = some o := by obtain ⟨vs, ⟨n, e⟩, _⟩ := hm; exact ⟨_, e⟩
  have S' := S.hide1 k hn al
  exact { S' with
    muo := fun p hp => by
      rcases List.mem_cons.mp hp with rfl | hp
      · refine ⟨.inl rfl, fun e => ?_, fun o e => ?_, fun y c e z => ?_⟩
        · obtain ⟨m, o, _, _, e', _⟩ := S.nsx
          have hh : s.heap.get? a = some o := by rw [show a = cx.env.locals from e]; exact e'
          rw [hn] at hh; cases hh
        · have := S.pres a o e; rw [hn] at this; cases this
        · obtain ⟨_, _, v, o, e', _⟩ := S.cel y c e
          rw [z, hn] at e'; cases e'
      · exact S'.muo p hp
    mui := fun p hp => by
      rcases List.mem_cons.mp hp with rfl | hp
      · exact hm
      · exact S'.mui p hp
    mnd := by
      rw [List.map_cons, List.nodup_cons]
      refine ⟨fun h => ?_, S'.mnd⟩
      obtain ⟨q, hq, e⟩ := List.mem_map.mp h
      obtain ⟨vs, ⟨n, e'⟩, _⟩ := S.mui q hq
      rw [e, hn] at e'; cases e' }

theorem ex_assign_new {x : Str} {px pos : Pos} {e : Expr} {ds : List D} {rest : List Stmt} (he : NewL prog w hb cx ρ mus e ds) (hk : cx.env.kindOf x = some .local)
    (hr : ∀ a, ¬ cx.X a → Ex prog w hb { cx with X := fun b => b = a ∨ cx.X b } (upd ρ x (.opq (.ref a))) ((a, ds) :: mus) rest R) (hs : swapsWith e (some (.Name x px)) pos.line cx.env = pure false := by rfl) :
    Ex prog w hb cx ρ mus (.Assign [.Name x px] e pos :: rest) R := .mk fun s S => by
  refine wpAny_execs_cons (wpAny_Assign_Name (noE' (he.run s S) fun v s₁ x => ?_) hs)
  obtain ⟨k, a, rfl, hn, hm⟩ := x
  have hna : ¬ cx.X a := fun z => by obtain ⟨o, e⟩ := S.live a z; rw [hn] at e; cases e
  have S₁ := S.addMu k hn hm
  obtain ⟨m, hm'⟩ := S₁.nsx
  exact wpAny_storeName_local hk hm' (fun h' hn' hs' => (hr a hna).run _ (S₁.store hk .opq hm' hn' hs' _)) (hp_fn S.fk)
theorem ex_assign_new_cell {x : Str} {px pos : Pos} {e : Expr} {ds : List D} {rest : List Stmt} (he : NewL prog w hb cx ρ mus e ds) (hw : cx.cw = true) (hk : cx.env.kindOf x = some .cell) {c : Addr} (hc : cx.env.cells.lookup x = some c)
    (hr : ∀ a, ¬ cx.X a → Ex prog w hb { cx with X := fun b => b = a ∨ cx.X b } (upd ρ x (.opq (.ref a))) ((a, ds) :: mus) rest R) (hs : swapsWith e (some (.Name x px)) pos.line cx.env = pure false := by rfl) :
    Ex prog w hb cx ρ mus (.Assign [.Name x px] e pos :: rest) R := .mk fun s S => by
  refine wpAny_execs_cons (wpAny_Assign_Name (noE' (he.run s S) fun v s₁ x => ?_) hs)
  obtain ⟨k, a, rfl, hn, hm⟩ := x
  have hna : ¬ cx.X a := fun z => by obtain ⟨o, e⟩ := S.live a z; rw [hn] at e; cases e
  have S₁ := S.addMu k hn hm
  obtain ⟨_, _, v₀, cI⟩ := S₁.cel x c hc
  exact wpAny_storeName_cell S₁.fk hk hc cI fun h' hn' hs' => (hr a hna).run _ (S₁.storeCell hw hk .opq hc hn' hs')

/-- one mutable list turns -/
theorem St.turnMu {s : Shared} {pre post : Mus} {a : Addr} {ds ds' : List D} {h' : Heap} (S : St w.params hb cx ρ (pre ++ (a, ds) :: post) s) (hs : Heap.SameBut a s.heap h') (hm : MuIs w.params (vis cx.X s.heap) h' a ds') :
    St w.params hb cx ρ (pre ++ (a, ds') :: post) { s with heap := h' } := by
  have M := S.muo (a, ds) (by simp)
  have aX : cx.X a := M.x
  have hvis : ∀ b o, vis cx.X s.heap b o → vis cx.X h' b o := vis_but fun b o nb e => (hs.2 b fun q => nb (q ▸ aX)).trans e
  have nL : cx.env.locals ≠ a := fun e => M.nl e.symm
  have nd := S.mnd
  rw [List.map_append, List.map_cons] at nd
  have old : ∀ p ∈ pre ++ post, p.1 ≠ a := fun p hp e => by
    rw [List.nodup_append] at nd
    obtain ⟨_, n2, n3⟩ := nd
    rw [List.nodup_cons] at n2
    rcases List.mem_append.mp hp with hp | hp
    · exact n3 p.1 (List.mem_map_of_mem hp) a (by simp) e
    · exact n2.1 (List.mem_map.mpr ⟨p, hp, e⟩)
  exact {
    sh := by obtain ⟨h, t, e⟩ := S.sh; exact ⟨h', t, by rw [e]⟩
    tok := S.tok
    tk0 := S.tk0
    live := fun b hx => by
      by_cases hb' : b = a
      · subst hb'; obtain ⟨vs, ⟨n, e⟩, _⟩ := hm; exact ⟨_, e⟩
      · obtain ⟨o, e⟩ := S.live b hx; exact ⟨o, (hs.2 b hb').trans e⟩
    pres := fun b o e => (hs.2 b fun q => M.np o (q ▸ e)).trans (S.pres b o e)
    base := fun b o e => ⟨(hs.2 b fun q => (S.base b o e).2 (q ▸ aX)).trans (S.base b o e).1, (S.base b o e).2⟩
    nsx := by obtain ⟨m, hn⟩ := S.nsx; exact ⟨m, hn.at' fun o e => (hs.2 _ nL).trans e⟩
    fk := S.fk
    fg := S.fg
    fb := S.fb
    lx := S.lx
    lp := S.lp
    cel := fun y c e => by obtain ⟨a', b, v', hv⟩ := S.cel y c e; exact ⟨a', b, v', hv.sameBut hs (M.nc y c e)⟩
    cwr := S.cwr
    vars := fun y d' e => by
      obtain ⟨v', V, H'⟩ := S.vars y d' e
      refine ⟨v', ?_, H'.mono hvis⟩
      rcases V with ⟨q, m', hn', hm'⟩ | ⟨q, c', hc', hi⟩
      · exact .inl ⟨q, m', hn'.at' fun o e => (hs.2 _ nL).trans e, hm'⟩
      · exact .inr ⟨q, c', hc', hi.sameBut hs (M.nc y c' hc')⟩
    muo := fun p hp => by
      rcases List.mem_append.mp hp with hp | hp
      · exact S.muo p (by simp [hp])
      · rcases List.mem_cons.mp hp with rfl | hp
        · exact ⟨M.x, M.nl, M.np, M.nc⟩
        · exact S.muo p (by simp [hp])
    mui := fun p hp => by
      rcases List.mem_append.mp hp with hp' | hp'
      · exact (S.mui p (by simp [hp'])).mono hvis fun o e => (hs.2 _ (old p (by simp [hp']))).trans e
      · rcases List.mem_cons.mp hp' with rfl | hp'
        · exact hm.mono hvis fun _ e => e
        · exact (S.mui p (by simp [hp'])).mono hvis fun o e => (hs.2 _ (old p (by simp [hp']))).trans e
    mnd := by rw [List.map_append, List.map_cons]; exact nd }

/-- base.append(arg) -/
theorem ex_append {base arg : Expr} {apos cpos pos : Pos} {a : Addr} {d : D} {ds : List D} {pre post : Mus} {rest : List Stmt} (hm : mus = pre ++ (a, ds) :: post) (hbv : Ev prog w hb cx ρ mus base (.opq (.ref a))) (ha : Ev prog w hb cx ρ mus arg d)
    (hz : ds.length ≤ sizeLine) (hr : Ex prog w hb cx ρ (pre ++ (a, ds ++ [d]) :: post) rest R) (hst : isStarred arg = false := by rfl)
    (hbase : attributeBase base "append" cx.env (eval base cx.env) = eval base cx.env := by rfl) (hline : (apos.endLine == cpos.line) = true := by rfl)
    (hi : interactive cx.env = false := by rfl) (hsw : swapsWith (.Call (.Attribute base "append" apos) [arg] [] cpos) none pos.line cx.env = pure false := by rfl) :
    Ex prog w hb cx ρ mus (.Expr (.Call (.Attribute base "append" apos) [arg] [] cpos) pos :: rest) R := .mk fun s S => by
  subst hm
  refine wpAny_execs_cons (wpAny_Expr_any (Call_method1 hbase (starEach_ns hst) hline (hbv.val S fun v s₁ S₁ k₁ h₁ => ?_)) hi hsw)
  obtain rfl := holds_opq h₁
  obtain ⟨vs₁, ⟨n₁, e₁⟩, _⟩ := S₁.mui (a, ds) (by simp)
  refine ⟨"list", "list.append", F.plainAttrs_list, F.slot_list_append, F.type_list_append, ⟨_, e₁, rfl⟩, (fun b e => by cases e; exact ⟨_, e₁, rfl⟩), ?_⟩
  refine callWith_builtin rfl (evalArgs_plain (spliced_cons (ha.val S₁ fun v s₂ S₂ k₂ h₂ => spliced_nil ?_)))
  obtain ⟨vs, hp, hl, hv⟩ := S₂.mui (a, ds) (by simp)
  have hl' : vs.size = ds.length := hl
  refine wpAny_list_append_plain hp (fun h' hp' hs' => ?_) (by omega)
  refine hr.run _ (S₂.turnMu hs' ⟨vs.push v, hp', by simp [hl'], fun i u e a' b => ?_⟩)
  have := HoldsL.snoc (P := w.params) (V := vis cx.X s₂.heap) (vs := vs.toList) (ds := ds) ⟨by simpa using hl', fun i v d a b => hv i v d (by simpa using a) b⟩ h₂
  exact this.2 i u e (by rw [← Array.toList_push, Array.getElem?_toList]; exact a') b
end
end Mine
end

section
open PySem PySem.W PySem.Calls PySem.Spec PyProof.Rows
set_option Elab.async false
set_option linter.unusedVariables false
namespace Mine

section
variable {prog : Program} {w : World} {hb : Heap} {cx : Cx} {ρ ρ' : Rho} {mus : Mus} {R : Flow → Shared → Prop}

theorem setItem_plain {A : Around} {s : Shared} {E : Value → Shared → Prop} {l : Addr} {items : Array Value} {k : Int} {t : Tok} {v : Value} {Q : Unit → Shared → Prop} (hl : s.heap.PlainList l items) (h0 : 0 ≤ k) (hfit : k < 2 ^ 63) (hn : k < items.size)
    (hQ : ∀ h', h'.PlainList l (items.setIfInBounds k.toNat v) → Heap.SameBut l s.heap h' → Q () { s with heap := h' }) :
    wpAny (model prog w) A (setItem (.ref l) (.int k t) v) Q E s := by
  obtain ⟨n, ho⟩ := hl
  have hL : s.heap.IsList l items := ⟨_, ho, rfl, n, rfl⟩
  unfold setItem
  try with_reducible refine wpAny_holding ?_
  first | refine wpAny_bind (wpAny_pure ?_) | skip
  refine wpAny_bind (wpAny_sequenceKey hL.typeIs (by decide) ?_)
  refine wpAny_bind (wpAny_callSpecial?_slot (name := Str.ofString "__setitem__") hL.typeIs slot_list_setitem
    (wpAny_call_entry slot_list_setitem hL.typeIs entry_list_setitem ?_ (args_list_setitem _ _ _)))
  show wpAny _ _ (Builtin.List.listSubscript? (.int k t) >>= _) _ _ s
  refine wpAny_bind (wpAny_listSubscript_int (fitsIndex_of h0 hfit) ?_)
  clear hfit
  obtain ⟨j, rfl⟩ := Int.eq_ofNat_of_zero_le h0
  have hj : j < items.size := by omega
  have hx' : items[j]? = some items[j] := Array.getElem?_eq_getElem hj
  show wpAny _ _ ((seqItemAt l j >>= fun r => pure (r.map (j, ·))) >>= _) _ _ s
  refine wpAny_bind (wpAny_bind (wpAny_seqItemAt ho rfl (wpAny_pure ?_)))
  rw [hx']
  show wpAny _ _ (setSeqItemAt l j v >>= _) _ _ s
  have hfin : (s.heap.update l (Obj.mapSeq (·.setIfInBounds j v))).PlainList l (items.setIfInBounds j v) := by
    by_cases hc : items.size = (items.setIfInBounds j v).size
    · refine ⟨n, ?_⟩
      rw [Heap.get?_update_self _ ho (by simp [Obj.mapSeq, Obj.isFreed])]
      simp [Obj.mapSeq]
    · exact absurd (by simp) hc
  refine wpAny_bind (wpAny_setSeqItemAt ho rfl ?_)
  first
    | exact wpAny_bind (wpAny_pure (wpAny_pure ⟨.none, rfl, wpAny_pure (hQ _ hfin (Heap.SameBut.update ..))⟩))
    | exact wpAny_pure ⟨.none, rfl, wpAny_pure (hQ _ hfin (Heap.SameBut.update ..))⟩

/-- base[i] = value -/
theorem ex_setitem {base ix value : Expr} {spos pos : Pos} {a : Addr} {d : D} {j : Nat} {ds : List D} {pre post : Mus} {rest : List Stmt} (hm : mus = pre ++ (a, ds) :: post) (hbv : Ev prog w hb cx ρ mus base (.opq (.ref a)))
    (hi : Ev prog w hb cx ρ mus ix (.int j)) (ha : Ev prog w hb cx ρ mus value d) (hj : j < ds.length) (hz : ds.length ≤ sizeLine)
    (hr : Ex prog w hb cx ρ (pre ++ (a, ds.set j d) :: post) rest R)
    (hsw : swapsWith value (some (.Subscript base ix spos)) pos.line cx.env = pure false := by rfl) :
    Ex prog w hb cx ρ mus (.Assign [.Subscript base ix spos] value pos :: rest) R := .mk fun s S => by
  subst hm
  refine wpAny_execs_cons (wpAny_Assign_Subscript (ha.val S fun v s₁ S₁ k₁ h₁ => hbv.val S₁ fun bv s₂ S₂ k₂ h₂ => hi.val S₂ fun iv s₃ S₃ k₃ h₃ => ?_) hsw)
  obtain rfl := holds_opq h₂
  obtain ⟨_, rfl⟩ := holds_int h₃
  have h₁' := keep_vis (keep_vis h₁ k₂) k₃
  obtain ⟨vs, hp, hl, hv⟩ := S₃.mui (a, ds) (by simp)
  have hl' : vs.size = ds.length := hl
  rw [sizeLine_eq] at hz
  refine setItem_plain hp (by omega) (by omega) (by omega) fun h' hp' hs' => ?_
  rw [Int.toNat_natCast] at hp'
  refine hr.run _ (S₃.turnMu hs' ⟨_, hp', by simp [hl'], fun i u e a' b => ?_⟩)
  by_cases hij : i = j
  · subst hij
    rw [Array.getElem?_setIfInBounds_self_of_lt (by omega)] at a'
    rw [List.getElem?_set_self hj] at b
    cases a'; cases b; exact h₁'
  · rw [Array.getElem?_setIfInBounds_ne (Ne.symm hij)] at a'
    rw [List.getElem?_set_ne (Ne.symm hij)] at b
    exact hv i u e a' b

/-- a mutable list turns no more -/
theorem ex_freeze {x : Str} {a : Addr} {ds : List D} {pre post : Mus} {rest : List Stmt} (hm : mus = pre ++ (a, ds) :: post) (hx : ρ x = some (.opq (.ref a)))
    (hr : Ex prog w hb { cx with X := fun b => cx.X b ∧ b ≠ a } (upd ρ x (.list ds)) (pre ++ post) rest R) : Ex prog w hb cx ρ mus rest R := .mk fun s S => by
  subst hm
  have M := S.muo (a, ds) (by simp)
  have hvis : ∀ b o, vis cx.X s.heap b o → vis (fun b => cx.X b ∧ b ≠ a) s.heap b o := fun b o q => ⟨q.1, fun z => q.2 z.1⟩
  have nd := S.mnd
  rw [List.map_append, List.map_cons] at nd
  have nd2 := List.nodup_append.mp nd
  have old : ∀ p ∈ pre ++ post, p.1 ≠ a := fun p hp e => by
    obtain ⟨_, n2, n3⟩ := nd2
    rw [List.nodup_cons] at n2
    rcases List.mem_append.mp hp with hp | hp
    · exact n3 p.1 (List.mem_map_of_mem hp) a (by simp) e
    · exact n2.1 (List.mem_map.mpr ⟨p, hp, e⟩)
  have up : ∀ p ∈ pre ++ post, p ∈ pre ++ (a, ds) :: post := fun p hp => by
    rcases List.mem_append.mp hp with hp | hp <;> simp [hp]
  refine hr.run s {
    sh := S.sh
    tok := S.tok
    tk0 := S.tk0
    live := fun b hx => S.live b hx.1
    pres := S.pres
    base := fun b o e => ⟨(S.base b o e).1, fun z => (S.base b o e).2 z.1⟩
    nsx := S.nsx
    fk := S.fk
    fg := S.fg
    fb := S.fb
    lx := ⟨S.lx, fun e => M.nl e.symm⟩
    lp := S.lp
    cel := fun y c e => by obtain ⟨q, b, c'⟩ := S.cel y c e; exact ⟨⟨q, M.nc y c e⟩, b, c'⟩
    cwr := S.cwr
    vars := fun y d e => by
      unfold upd at e
      split at e
      · rename_i q
        subst q
        cases e
        obtain ⟨v, V, H⟩ := S.vars y _ hx
        refine ⟨v, V, ?_⟩
        cases H
        obtain ⟨vs, ⟨n, hp⟩, hl, hv⟩ := S.mui (a, ds) (by simp)
        exact .list (n := n) ⟨hp, fun z => z.2 rfl⟩ hl fun i v d a' b => (hv i v d a' b).mono hvis
      · obtain ⟨v, V, H⟩ := S.vars y d e
        exact ⟨v, V, H.mono hvis⟩
    muo := fun p hp => by
      have := S.muo p (up p hp)
      exact ⟨⟨this.x, old p hp⟩, this.nl, this.np, this.nc⟩
    mui := fun p hp => (S.mui p (up p hp)).mono hvis fun _ e => e
    mnd := by
      rw [List.map_append]
      rw [List.nodup_append]
      obtain ⟨n1, n2, n3⟩ := nd2
      rw [List.nodup_cons] at n2
      exact ⟨n1, n2.2, fun p hp q hq => n3 p hp q (by simp [hq])⟩ }

/-- a, b = value -/
theorem ex_assign_tup {es : List Expr} {k : Nat} {tpos pos : Pos} {value : Expr} {ds : List D} {rest : List Stmt} (hh : cx.A.handled = none) (hv : Ev prog w hb cx ρ mus value (.tup ds)) (h : AsgL prog w hb cx es ds ρ ρ')
    (hr : Ex prog w hb cx ρ' mus rest R)
    (hs : swapsWithSole [.Tuple es k tpos] value pos.line cx.env = pure false := by rfl) (hw : swappedStores [.Tuple es k tpos] value cx.env = pure none := by rfl) :
    Ex prog w hb cx ρ mus (.Assign [.Tuple es k tpos] value pos :: rest) R := .mk fun s S => by
  refine wpAny_execs_cons (Assign_Tuple (hv.val S fun v s₁ S₁ k₁ h₁ => ?_) hs hw)
  refine noE' ((asg_tup (k := k) (pos := tpos) hh h).run cx.X cx.pr mus s₁ v (fun _ z => z) S₁ h₁) fun _ s₂ S₂ => ?_
  exact hr.run s₂ S₂
end
end Mine
end

section
open PySem PySem.W PySem.Calls PySem.Spec PyProof.Rows
set_option Elab.async false
set_option linter.unusedVariables false
namespace Mine

section
variable {prog : Program} {w : World} {hb : Heap} {cx : Cx} {ρ : Rho} {mus : Mus} {R : Flow → Shared → Prop}

/-- a def whose last parameters take their defaults -/
theorem fn_introD {a : Addr} {o : Obj} {fd : FuncData} {body : List Stmt} {ps : List Str} {ds dds : List D} {dvs : List Value} {r : D} {k : Nat} (ho : hb.get? a = some o) (hdata : o.data = .func fd) (hlim : hb.NoLimit) (hcd : hb.CodeRec fd.code fd.qualname)
    (hbody : fd.body = .stmts body) (hbind : ∀ (s : Shared) (vs : List Value), (∀ b o, hb.get? b = some o → s.heap.get? b = some o) → vs.length + dvs.length = ps.length → BindsTo s fd ⟨vs, []⟩ (ps.zip (vs ++ dvs)))
    (hcell : ∀ x ∈ fd.scope.names, x.2 ≠ .cell) (hloc : ∀ x ∈ ps, fd.scope.names.lookup x = some .local) (hps : ps.length = ds.length + dds.length) (hdl : dvs.length = dds.length) (hnd : ps.Nodup)
    (hdv : ∀ P V, HoldsL P V dvs dds)
    (hcl : fd.closure = []) (hfg : fd.globals = mainGlobals) (hfb : fd.builtins = builtinsNs)
    (h : ∀ (A : Around) (X : Addr → Prop) (s : Shared), Room (k + 1) A → Ex prog w hb (cxOf A fd a X s) (asc (ps.zip (ds ++ dds))) [] body (Back w.params X s r))
    (hco : fd.scope.isCoroutine = false := by rfl) (hgen : fd.scope.isGenerator = false := by rfl) (hk : fd.scope.kind = .function := by rfl) :
    Fn prog w hb (k + 1) (.ref a) ds r := by
  refine ⟨?_⟩; intro A X s vs hA hX hbs htk hl hv
  have hlt : A.depth < recursionLimit := by have := hA.dp; show A.depth < 1000; omega
  have hall : HoldsL w.params (vis X s.heap) (vs ++ dvs) (ds ++ dds) := ⟨by simp [hl, hdl], fun i v d a b => by
    by_cases c : i < vs.length
    · rw [List.getElem?_append_left c] at a
      rw [List.getElem?_append_left (by omega)] at b
      exact hv i v d a b
    · rw [List.getElem?_append_right (by omega)] at a
      rw [List.getElem?_append_right (by omega)] at b
      rw [hl] at a
      exact (hdv _ _).2 _ v d a b⟩
  refine wpAny_call (codeAny_call_def (fd := fd) (body := body) (binds := ps.zip (vs ++ dvs)) hlt (hbs a o ho).1 hdata (hlim.keeps fun b o e => (hbs b o e).1) (hcd.keeps fun b o e => (hbs b o e).1) hbody
    (hbind s vs (fun b o e => (hbs b o e).1) (by rw [hl, hdl, hps])) hcell (fun x hx => hloc x.1 (List.of_mem_zip hx).1) (fun h₀ hns hkeep => ?_) hco hgen hk)
  refine noE' ((h A X s hA).run { s with heap := h₀, toks := s.toks + (ps.zip (vs ++ dvs)).length } ?_) fun f s' x => x
  have hnL : s.heap.get? s.heap.objs.size = none := get_fresh
  have hvis : ∀ a o, vis X s.heap a o → vis (fun b => b = s.heap.objs.size ∨ X b) h₀ a o := fun b o q => ⟨hkeep b o q.1, fun z => by
    rcases z with z | z
    · have := q.1; rw [z, hnL] at this; cases this
    · exact q.2 z⟩
  have hcells : (callEnv fd s.heap.objs.size a).cells = [] := hcl
  exact {
    sh := ⟨h₀, _, rfl⟩
    tok := Nat.lt_of_lt_of_le htk (Nat.le_add_right _ _)
    tk0 := Nat.le_add_right _ _
    live := fun b hx => by
      rcases hx with rfl | hx
      · obtain ⟨o, _, _, e, _⟩ := hns; exact ⟨o, e⟩
      · obtain ⟨o, e⟩ := hX b hx; exact ⟨o, hkeep b o e⟩
    pres := fun b o e => hkeep b o e
    base := fun b o e => ⟨hkeep b o (hbs b o e).1, fun z => by
      rcases z with z | z
      · have := (hbs b o e).1; rw [z, hnL] at this; cases this
      · exact (hbs b o e).2 z⟩
    nsx := ⟨_, hns⟩
    fk := hk
    fg := hfg
    fb := hfb
    lx := .inl rfl
    lp := fun o e => by have e' : s.heap.get? s.heap.objs.size = some o := e; rw [hnL] at e'; cases e'
    cel := fun x c e => by have e' : (callEnv fd s.heap.objs.size a).cells.lookup x = some c := e; rw [hcells] at e'; cases e'
    cwr := fun _ x c e => by have e' : (callEnv fd s.heap.objs.size a).cells.lookup x = some c := e; rw [hcells] at e'; cases e'
    vars := fun x d e => by
      have e' : (ps.zip (ds ++ dds)).lookup x = some d := e
      obtain ⟨i, hi, h1, h2⟩ := zip_find (by rw [hps, List.length_append]) e'
      have hi' : i < (vs ++ dvs).length := by rw [hall.1]; exact hi
      refine ⟨(vs ++ dvs)[i], .inl ⟨?_, _, hns, ?_⟩, (hall.2 i (vs ++ dvs)[i] d (by simp [hi']) h2).mono hvis⟩
      · exact hloc x (List.mem_of_getElem? h1)
      · exact lookup_rev_zip hnd (by rw [hall.1, hps, List.length_append]) h1 (List.getElem?_eq_getElem hi')
    muo := fun _ h => nomatch h
    mui := fun _ h => nomatch h
    mnd := .nil }
end
end Mine
end

section
open PySem PySem.W PySem.Calls PySem.Spec PyProof.Rows
set_option Elab.async false
set_option linter.unusedVariables false
namespace Mine

/-- what is known of the class -/
structure Hdr (hb : Heap) (K : Frag) (C : Addr) : Prop where
  inK : K.In hb
  ga : findIn K (.ref C) "__getattribute__" = some (some (.builtin "object.__getattribute__"))
  gk : findIn K (.ref C) "__getattr__" = some none
  hd : hasDictIn K C = true
  at_ : findIn K (.ref C) "_headers" = some none

section
variable {prog : Program} {w : World} {hb : Heap} {cx : Cx} {ρ ρ' : Rho} {mus : Mus} {R : Flow → Shared → Prop} {K : Frag} {C : Addr}

theorem tab_inst {P : Params} {X : Addr → Prop} {h : Heap} {v : Value} {H : Addr} (hv : Holds P (vis X h) v (.tab C H)) :
    ∃ x dx od, v = .ref x ∧ InstAt h x (instObj C dx) C (some od) ∧ lookIn (Str.ofString "_headers") od = some (some (.ref H)) ∧ (∀ name, name ≠ Str.ofString "_headers" → lookIn name od = some none) := by
  cases hv with
  | tab hx hd hl hn => exact ⟨_, _, _, rfl, ⟨hx.1, rfl, rfl, hd.1⟩, hl, hn⟩
theorem tabf_inst {P : Params} {X : Addr → Prop} {h : Heap} {v : Value} {ds : List D} (hv : Holds P (vis X h) v (.tabf C ds)) :
    ∃ x dx od H, v = .ref x ∧ InstAt h x (instObj C dx) C (some od) ∧ lookIn (Str.ofString "_headers") od = some (some (.ref H)) ∧ (∀ name, name ≠ Str.ofString "_headers" → lookIn name od = some none) ∧ Holds P (vis X h) (.ref H) (.list ds) := by
  cases hv with
  | tabf hx hd hl hn hv hz hi => exact ⟨_, _, _, _, rfl, ⟨hx.1, rfl, rfl, hd.1⟩, hl, hn, .list hv hz hi⟩

theorem ev_headers {x : Str} {np pos : Pos} {H : Addr} (hc : Hdr hb K C) (hx : Ev prog w hb cx ρ mus (.Name x np) (.tab C H)) : Ev prog w hb cx ρ mus (.Attribute (.Name x np) (Str.ofString "_headers") pos) (.opq (.ref H)) := .mk fun s S => by
  refine Attribute_name (hx.val S fun v s₁ S₁ k₁ h₁ => ?_)
  obtain ⟨x', dx, od, rfl, I, hl, hn⟩ := tab_inst h₁
  exact get_value (hc.inK.keeps fun b o e => (S₁.base b o e).1) I hc.ga (findObj_own hc.hd hc.at_ rfl hl) rfl ⟨keeps_trans k₁ keeps_tok, .opq⟩
theorem ev_headersf {x : Str} {np pos : Pos} {ds : List D} (hc : Hdr hb K C) (hx : Ev prog w hb cx ρ mus (.Name x np) (.tabf C ds)) : Ev prog w hb cx ρ mus (.Attribute (.Name x np) (Str.ofString "_headers") pos) (.list ds) := .mk fun s S => by
  refine Attribute_name (hx.val S fun v s₁ S₁ k₁ h₁ => ?_)
  obtain ⟨x', dx, od, H, rfl, I, hl, hn, hL⟩ := tabf_inst h₁
  exact get_value (hc.inK.keeps fun b o e => (S₁.base b o e).1) I hc.ga (findObj_own hc.hd hc.at_ rfl hl) rfl ⟨keeps_trans k₁ keeps_tok, hL⟩

/-- a method without arguments, of the frozen table -/
theorem ev_meth0 {x name : Str} {np apos pos : Pos} {ds : List D} {r : D} {k : Nat} {f : Addr} {o : Obj} {fd : FuncData} (hA : Room k cx.A) (hc : Hdr hb K C) (hx : Ev prog w hb cx ρ mus (.Name x np) (.tabf C ds))
    (hf : findIn K (.ref C) name = some (some (.ref f))) (ht : typeIn K (.ref f) = some (.type "function")) (hnm : name ≠ Str.ofString "_headers") (ho : hb.get? f = some o) (hd : o.data = .func fd)
    (hfn : Fn prog w hb k (.ref f) [.tabf C ds] r)
    (pl : Sem Bool) (he : eval (.Call (.Attribute (.Name x np) name apos) [] [] pos) cx.env = (do
      let ov ← eval (.Name x np) cx.env
      standAt apos.atName
      let (f, first) ← holding [ov] (getMethod ov name pl)
      callWith pos f first (backTo pos (starEach [] cx.env)) (backToKw pos (keywordEach [] cx.env))) := by rfl) :
    Ev prog w hb cx ρ mus (.Call (.Attribute (.Name x np) name apos) [] [] pos) r := .mk fun s S => by
  refine methodCall_KW (pl := pl) (hx.val S fun v s₁ S₁ k₁ h₁ => ?_) he
  obtain ⟨x', dx, od, H, rfl, I, hl, hn, hL⟩ := tabf_inst h₁
  refine method_fn (hc.inK.keeps fun b o e => (S₁.base b o e).1) I hc.ga hc.gk hf ht (by show (lookIn name od).map _ = _; rw [hn name hnm]; rfl) ?_
  show wpAny _ _ (callWith pos (.ref f) [.ref x'] [] []) _ _ _
  refine callWith_function (o := o) (fd := fd) (PySem.evalArgs_none ⟨⟨(S₁.base f o ho).1, hd⟩, ?_⟩)
  exact wpAny_mono (hfn.run cx.A cx.X s₁ [.ref x'] hA S₁.live S₁.base S₁.tok rfl fun i v d a b => by
    cases i with
    | zero => simp at a b; subst a b; exact h₁
    | succ i => simp at a) (fun v s₃ x => ⟨keeps_trans k₁ x.1, x.2⟩) fun _ _ x => x

/-- a mutable list turns no more: the state -/
theorem St.freeze {s : Shared} {x : Str} {a : Addr} {ds : List D} {d d' : D} {pre post : Mus} (S : St w.params hb cx ρ (pre ++ (a, ds) :: post) s) (hx : ρ x = some d)
    (hv : ∀ v, Holds w.params (vis cx.X s.heap) v d → MuIs w.params (vis cx.X s.heap) s.heap a ds → Holds w.params (vis (fun b => cx.X b ∧ b ≠ a) s.heap) v d') :
    St w.params hb { cx with X := fun b => cx.X b ∧ b ≠ a } (upd ρ x d') (pre ++ post) s := by
  have M := S.muo (a, ds) (by simp)
  have hvis : ∀ b o, vis cx.X s.heap b o → vis (fun b => cx.X b ∧ b ≠ a) s.heap b o := fun b o q => ⟨q.1, fun z => q.2 z.1⟩
  have nd := S.mnd
  rw [List.map_append, List.map_cons] at nd
  have nd2 := List.nodup_append.mp nd
  have old : ∀ p ∈ pre ++ post, p.1 ≠ a := fun p hp e => by
    obtain ⟨_, n2, n3⟩ := nd2
    rw [List.nodup_cons] at n2
    rcases List.mem_append.mp hp with hp | hp
    · exact n3 p.1 (List.mem_map_of_mem hp) a (by simp) e
    · exact n2.1 (List.mem_map.mpr ⟨p, hp, e⟩)
  have up : ∀ p ∈ pre ++ post, p ∈ pre ++ (a, ds) :: post := fun p hp => by
    rcases List.mem_append.mp hp with hp | hp <;> simp [hp]
  exact {
    sh := S.sh
    tok := S.tok
    tk0 := S.tk0
    live := fun b hx => S.live b hx.1
    pres := S.pres
    base := fun b o e => ⟨(S.base b o e).1, fun z => (S.base b o e).2 z.1⟩
    nsx := S.nsx
    fk := S.fk
    fg := S.fg
    fb := S.fb
    lx := ⟨S.lx, fun e => M.nl e.symm⟩
    lp := S.lp
    cel := fun y c e => by obtain ⟨q, b, c'⟩ := S.cel y c e; exact ⟨⟨q, M.nc y c e⟩, b, c'⟩
    cwr := S.cwr
    vars := fun y d e => by
      unfold upd at e
      split at e
      · rename_i q
        subst q
        cases e
        obtain ⟨v, V, H⟩ := S.vars y _ hx
        exact ⟨v, V, hv v H (S.mui (a, ds) (by simp))⟩
      · obtain ⟨v, V, H⟩ := S.vars y d e
        exact ⟨v, V, H.mono hvis⟩
    muo := fun p hp => by
      have := S.muo p (up p hp)
      exact ⟨⟨this.x, old p hp⟩, this.nl, this.np, this.nc⟩
    mui := fun p hp => (S.mui p (up p hp)).mono hvis fun _ e => e
    mnd := by
      rw [List.map_append]
      rw [List.nodup_append]
      obtain ⟨n1, n2, n3⟩ := nd2
      rw [List.nodup_cons] at n2
      exact ⟨n1, n2.2, fun p hp q hq => n3 p hp q (by simp [hq])⟩ }

theorem tab_freeze {P : Params} {X : Addr → Prop} {h : Heap} {v : Value} {H : Addr} {ds : List D} (hv : Holds P (vis X h) v (.tab C H)) (hm : MuIs P (vis X h) h H ds) : Holds P (vis (fun b => X b ∧ b ≠ H) h) v (.tabf C ds) := by
  have hvis : ∀ b o, vis X h b o → vis (fun b => X b ∧ b ≠ H) h b o := fun b o q => ⟨q.1, fun z => q.2 z.1⟩
  obtain ⟨vs, ⟨n, hp⟩, hl, hi⟩ := hm
  cases hv with
  | tab hx hd hll hn => exact .tabf (n := n) (hvis _ _ hx) (hvis _ _ hd) hll hn ⟨hp, fun z => z.2 rfl⟩ hl fun i v d a b => (hi i v d a b).mono hvis

/-- the table turns no more -/
theorem ex_freeze_tab {x : Str} {H : Addr} {ds : List D} {pre post : Mus} {rest : List Stmt} (hm : mus = pre ++ (H, ds) :: post) (hx : ρ x = some (.tab C H))
    (hr : Ex prog w hb { cx with X := fun b => cx.X b ∧ b ≠ H } (upd ρ x (.tabf C ds)) (pre ++ post) rest R) : Ex prog w hb cx ρ mus rest R := .mk fun s S => by
  subst hm
  exact hr.run s (S.freeze hx fun v h m => tab_freeze h m)

/-- a text that the table tells -/
theorem ev_thaw {x : Str} {H : Addr} {ds : List D} {pre post : Mus} {e : Expr} {t : Str} (hm : mus = pre ++ (H, ds) :: post) (hx : ρ x = some (.tab C H))
    (he : Ev prog w hb { cx with X := fun b => cx.X b ∧ b ≠ H } (upd ρ x (.tabf C ds)) (pre ++ post) e (.str t)) : Ev prog w hb cx ρ mus e (.str t) := .mk fun s S => by
  subst hm
  refine wpAny_mono (he.run s (S.freeze hx fun v h m => tab_freeze h m)) (fun v s' q => ⟨q.1, ?_⟩) fun _ _ q => q
  obtain ⟨_, rfl⟩ := holds_str q.2
  exact .str
end
end Mine
end

section
open PySem PySem.W PySem.Calls PySem.Spec PyProof.Rows
set_option Elab.async false
set_option linter.unusedVariables false
namespace Mine

/-- a pure def called with keywords -/
structure FnK (prog : Program) (w : World) (hb : Heap) (k : Nat) (f : Value) (args : List D) (ks : List Str) (kd : List D) (r : D) : Prop where
  run : ∀ (A : Around) (X : Addr → Prop) (s : Shared) (vs kvs : List Value), Room k A → (∀ b, X b → ∃ o, s.heap.get? b = some o) → (∀ b o, hb.get? b = some o → s.heap.get? b = some o ∧ ¬ X b) → 0 < s.toks →
    HoldsL w.params (vis X s.heap) vs args → HoldsL w.params (vis X s.heap) kvs kd →
    wpAny (model prog w) A (call f vs (ks.zip kvs)) (fun v s' => Keeps s s' ∧ Holds w.params (vis X s'.heap) v r) NoE s

section
variable {prog : Program} {w : World} {hb : Heap} {cx : Cx} {ρ : Rho} {mus : Mus} {R : Flow → Shared → Prop} {K : Frag} {C : Addr}

theorem fn_introK {a : Addr} {o : Obj} {fd : FuncData} {body : List Stmt} {ps : List Str} {ds dds : List D} {ks : List Str} {r : D} {k : Nat} (ho : hb.get? a = some o) (hdata : o.data = .func fd) (hlim : hb.NoLimit) (hcd : hb.CodeRec fd.code fd.qualname)
    (hbody : fd.body = .stmts body) (hbind : ∀ (s : Shared) (vs dvs : List Value), (∀ b o, hb.get? b = some o → s.heap.get? b = some o) → vs.length = ds.length → dvs.length = dds.length → BindsTo s fd ⟨vs, ks.zip dvs⟩ (ps.zip (vs ++ dvs)))
    (hcell : ∀ x ∈ fd.scope.names, x.2 ≠ .cell) (hloc : ∀ x ∈ ps, fd.scope.names.lookup x = some .local) (hps : ps.length = ds.length + dds.length) (hnd : ps.Nodup)
    (hcl : fd.closure = []) (hfg : fd.globals = mainGlobals) (hfb : fd.builtins = builtinsNs)
    (h : ∀ (A : Around) (X : Addr → Prop) (s : Shared), Room (k + 1) A → Ex prog w hb (cxOf A fd a X s) (asc (ps.zip (ds ++ dds))) [] body (Back w.params X s r))
    (hco : fd.scope.isCoroutine = false := by rfl) (hgen : fd.scope.isGenerator = false := by rfl) (hk : fd.scope.kind = .function := by rfl) :
    FnK prog w hb (k + 1) (.ref a) ds ks dds r := by
  refine ⟨?_⟩; intro A X s vs dvs hA hX hbs htk hvL hdv
  have hl := hvL.1
  have hv := hvL.2
  have hdl := hdv.1
  have hlt : A.depth < recursionLimit := by have := hA.dp; show A.depth < 1000; omega
  have hall : HoldsL w.params (vis X s.heap) (vs ++ dvs) (ds ++ dds) := ⟨by simp [hl, hdl], fun i v d a b => by
    by_cases c : i < vs.length
    · rw [List.getElem?_append_left c] at a
      rw [List.getElem?_append_left (by omega)] at b
      exact hv i v d a b
    · rw [List.getElem?_append_right (by omega)] at a
      rw [List.getElem?_append_right (by omega)] at b
      rw [hl] at a
      exact hdv.2 _ v d a b⟩
  refine wpAny_call (codeAny_call_def (fd := fd) (body := body) (binds := ps.zip (vs ++ dvs)) hlt (hbs a o ho).1 hdata (hlim.keeps fun b o e => (hbs b o e).1) (hcd.keeps fun b o e => (hbs b o e).1) hbody
    (hbind s vs dvs (fun b o e => (hbs b o e).1) hl hdl) hcell (fun x hx => hloc x.1 (List.of_mem_zip hx).1) (fun h₀ hns hkeep => ?_) hco hgen hk)
  refine noE' ((h A X s hA).run { s with heap := h₀, toks := s.toks + (ps.zip (vs ++ dvs)).length } ?_) fun f s' x => x
  have hnL : s.heap.get? s.heap.objs.size = none := get_fresh
  have hvis : ∀ a o, vis X s.heap a o → vis (fun b => b = s.heap.objs.size ∨ X b) h₀ a o := fun b o q => ⟨hkeep b o q.1, fun z => by
    rcases z with z | z
    · have := q.1; rw [z, hnL] at this; cases this
    · exact q.2 z⟩
  have hcells : (callEnv fd s.heap.objs.size a).cells = [] := hcl
  exact {
    sh := ⟨h₀, _, rfl⟩
    tok := Nat.lt_of_lt_of_le htk (Nat.le_add_right _ _)
    tk0 := Nat.le_add_right _ _
    live := fun b hx => by
      rcases hx with rfl | hx
      · obtain ⟨o, _, _, e, _⟩ := hns; exact ⟨o, e⟩
      · obtain ⟨o, e⟩ := hX b hx; exact ⟨o, hkeep b o e⟩
    pres := fun b o e => hkeep b o e
    base := fun b o e => ⟨hkeep b o (hbs b o e).1, fun z => by
      rcases z with z | z
      · have := (hbs b o e).1; rw [z, hnL] at this; cases this
      · exact (hbs b o e).2 z⟩
    nsx := ⟨_, hns⟩
    fk := hk
    fg := hfg
    fb := hfb
    lx := .inl rfl
    lp := fun o e => by have e' : s.heap.get? s.heap.objs.size = some o := e; rw [hnL] at e'; cases e'
    cel := fun x c e => by have e' : (callEnv fd s.heap.objs.size a).cells.lookup x = some c := e; rw [hcells] at e'; cases e'
    cwr := fun _ x c e => by have e' : (callEnv fd s.heap.objs.size a).cells.lookup x = some c := e; rw [hcells] at e'; cases e'
    vars := fun x d e => by
      have e' : (ps.zip (ds ++ dds)).lookup x = some d := e
      obtain ⟨i, hi, h1, h2⟩ := zip_find (by rw [hps, List.length_append]) e'
      have hi' : i < (vs ++ dvs).length := by rw [hall.1]; exact hi
      refine ⟨(vs ++ dvs)[i], .inl ⟨?_, _, hns, ?_⟩, (hall.2 i (vs ++ dvs)[i] d (by simp [hi']) h2).mono hvis⟩
      · exact hloc x (List.mem_of_getElem? h1)
      · exact lookup_rev_zip hnd (by rw [hall.1, hps, List.length_append]) h1 (List.getElem?_eq_getElem hi')
    muo := fun _ h => nomatch h
    mui := fun _ h => nomatch h
    mnd := .nil }

/-- several keyword values -/
structure EvKs (prog : Program) (w : World) (hb : Heap) (cx : Cx) (ρ : Rho) (mus : Mus) (ts : List (Sem Value)) (ds : List D) : Prop where
  run : ∀ s, St w.params hb cx ρ mus s → wpAny (model prog w) cx.A (evalAll ts) (fun vs s' => Keeps s s' ∧ HoldsL w.params (vis cx.X s'.heap) vs ds) NoE s
theorem evks_nil : EvKs prog w hb cx ρ mus [] [] := .mk fun s S => wpAny_evalAll_nil ⟨keeps_refl, .nil⟩
theorem evks_cons {e : Expr} {p : Pos} {ts : List (Sem Value)} {d : D} {ds : List D} (he : Ev prog w hb cx ρ mus e d) (t : EvKs prog w hb cx ρ mus ts ds) :
    EvKs prog w hb cx ρ mus ((do let v ← eval e cx.env; standAt p; pure v) :: ts) (d :: ds) := .mk fun s S => by
  refine wpAny_evalAll_cons (wpAny_bind (he.val S fun v s₁ S₁ k₁ h₁ => wpAny_bind (wpAny_standAt (wpAny_pure ?_))))
  exact noE' (t.run s₁ S₁) fun vs s₂ q => ⟨keeps_trans k₁ q.1, .cons (keep_vis h₁ q.1) q.2⟩

theorem inst_any {P : Params} {X : Addr → Prop} {h : Heap} {v : Value} {d : D} (hv : Holds P (vis X h) v d) (hd : (∃ H, d = .tab C H) ∨ (∃ ds, d = .tabf C ds)) :
    ∃ x dx od, v = .ref x ∧ InstAt h x (instObj C dx) C (some od) ∧ (∀ name, name ≠ Str.ofString "_headers" → lookIn name od = some none) := by
  rcases hd with ⟨H, rfl⟩ | ⟨ds, rfl⟩
  · obtain ⟨x, dx, od, e, I, _, hn⟩ := tab_inst hv; exact ⟨x, dx, od, e, I, hn⟩
  · obtain ⟨x, dx, od, H, e, I, _, hn, _⟩ := tabf_inst hv; exact ⟨x, dx, od, e, I, hn⟩

/-- a method with arguments and keywords -/
theorem ev_methK {x name : Str} {np apos pos : Pos} {dT : D} {r : D} {k : Nat} {f : Addr} {o : Obj} {fd : FuncData} {e : Expr} {es : List Expr} {kws : List Keyword} {ds kd : List D} {ks : List Str} (hA : Room k cx.A) (hc : Hdr hb K C) (hx : Ev prog w hb cx ρ mus (.Name x np) dT)
    (hT : (∃ H, dT = .tab C H) ∨ (∃ ds, dT = .tabf C ds))
    (hf : findIn K (.ref C) name = some (some (.ref f))) (ht : typeIn K (.ref f) = some (.type "function")) (hnm : name ≠ Str.ofString "_headers") (ho : hb.get? f = some o) (hd : o.data = .func fd)
    (ha : EvL prog w hb cx ρ mus (e :: es) ds) (hk : EvKs prog w hb cx ρ mus ((backToKw pos (keywordEach kws cx.env)).map (·.2)) kd)
    (hall : (backToKw pos (keywordEach kws cx.env)).all (·.1.isSome) = true) (hks : (backToKw pos (keywordEach kws cx.env)).filterMap (·.1) = ks)
    (hfn : FnK prog w hb k (.ref f) (dT :: ds) ks kd r) (hst : isStarred e = false := by rfl)
    (pl : Sem Bool) (he : eval (.Call (.Attribute (.Name x np) name apos) (e :: es) kws pos) cx.env = (do
      let ov ← eval (.Name x np) cx.env
      standAt apos.atName
      let (f, first) ← holding [ov] (getMethod ov name pl)
      callWith pos f first (backTo pos (starEach (e :: es) cx.env)) (backToKw pos (keywordEach kws cx.env))) := by rfl) :
    Ev prog w hb cx ρ mus (.Call (.Attribute (.Name x np) name apos) (e :: es) kws pos) r := .mk fun s S => by
  refine methodCall_KW (pl := pl) (hx.val S fun v s₁ S₁ k₁ h₁ => ?_) he
  obtain ⟨x', dx, od, rfl, I, hn⟩ := inst_any h₁ hT
  refine method_fn (hc.inK.keeps fun b o e => (S₁.base b o e).1) I hc.ga hc.gk hf ht (by show (lookIn name od).map _ = _; rw [hn name hnm]; rfl) ?_
  show wpAny _ _ (callWith pos (.ref f) [.ref x'] (backTo pos (starEach (e :: es) cx.env)) (backToKw pos (keywordEach kws cx.env))) _ _ _
  refine callWith_function_kw (o := o) (fd := fd) ?_
  have ha' := ha.run pos s₁ S₁
  rw [starEach_ns hst] at ha' ⊢
  refine evalArgs_kw hall (noE' ha' fun vs s₂ q => ?_)
  have S₂ := S₁.keeps q.1
  refine noE' (hk.run s₂ S₂) fun kvs s₃ q3 => ?_
  have S₃ := S₂.keeps q3.1
  refine ⟨⟨(S₃.base f o ho).1, hd⟩, ?_⟩
  rw [hks]
  refine noE' (hfn.run cx.A cx.X s₃ (.ref x' :: vs) kvs hA S₃.live S₃.base S₃.tok (.cons (keep_vis (keep_vis h₁ q.1) q3.1) (q.2.mono (vis_keeps (keeps_get q3.1)))) q3.2) fun v s₄ q4 => ⟨keeps_trans k₁ (keeps_trans q.1 (keeps_trans q3.1 q4.1)), q4.2⟩
end
end Mine
end

section
open PySem PySem.W PySem.Calls PySem.Spec PyProof.Rows
set_option Elab.async false
set_option linter.unusedVariables false
namespace Mine

section
variable {prog : Program} {w : World} {hb : Heap} {cx : Cx} {ρ ρ' : Rho} {mus mus' : Mus} {R : Flow → Shared → Prop}

/-- a hidden thing I turns; what it is now is held fast -/
theorem St.turnHid {s' : Shared} {h' h₂ : Heap} {I : Addr} {io : Obj} (hIX : ¬ cx.X I) (hIp : ∀ o, ¬ cx.pr I o) (hl : cx.env.locals ≠ I) (hcl : ∀ x c, cx.env.cells.lookup x = some c → c ≠ I) (hmu : ∀ p ∈ mus, p.1 ≠ I)
    (S' : St w.params hb { cx with X := fun b => b = I ∨ cx.X b, pr := fun b o => cx.pr b o ∨ (h₂.get? b = some o ∧ ¬ (b = I ∨ cx.X b)) } ρ mus s')
    (kk : ∀ b o, b ≠ I → s'.heap.get? b = some o → h'.get? b = some o) (hio : h'.get? I = some io) :
    St w.params hb { cx with X := fun b => b = I ∨ cx.X b, pr := fun b o => (cx.pr b o ∨ (h₂.get? b = some o ∧ ¬ (b = I ∨ cx.X b))) ∨ (b = I ∧ o = io) } ρ mus { s' with heap := h' } := by
  have hvis : ∀ a o, vis (fun b => b = I ∨ cx.X b) s'.heap a o → vis (fun b => b = I ∨ cx.X b) h' a o := fun b o q => ⟨kk b o (fun e => q.2 (.inl e)) q.1, q.2⟩
  exact {
    sh := by obtain ⟨h, t, e⟩ := S'.sh; exact ⟨h', t, by rw [e]⟩
    tok := S'.tok
    tk0 := S'.tk0
    live := fun b hx => by
      by_cases hbI : b = I
      · subst hbI; exact ⟨io, hio⟩
      · obtain ⟨o, e⟩ := S'.live b hx; exact ⟨o, kk b o hbI e⟩
    pres := fun b o e => by
      rcases e with e | ⟨rfl, rfl⟩
      · refine kk b o (fun z => ?_) (S'.pres b o e)
        subst z
        rcases e with e | ⟨_, e⟩
        · exact hIp o e
        · exact e (.inl rfl)
      · exact hio
    base := fun b o e => ⟨kk b o (fun z => (S'.base b o e).2 (.inl z)) (S'.base b o e).1, (S'.base b o e).2⟩
    nsx := by obtain ⟨m, hm⟩ := S'.nsx; exact ⟨m, hm.at' fun o e => kk _ o hl e⟩
    fk := S'.fk
    fg := S'.fg
    fb := S'.fb
    lx := S'.lx
    lp := fun o e => by
      rcases e with e | ⟨e, _⟩
      · exact S'.lp o e
      · exact hl e
    cel := fun x c e => by
      obtain ⟨a, b, v, o, ho, hd⟩ := S'.cel x c e
      exact ⟨a, b, v, o, kk c o (hcl x c e) ho, hd⟩
    cwr := fun hw x c e => ⟨fun o z => by
      rcases z with z | ⟨z, _⟩
      · exact (S'.cwr hw x c e).1 o z
      · exact hcl x c e z, (S'.cwr hw x c e).2⟩
    vars := fun x d e => by
      obtain ⟨v, V, H⟩ := S'.vars x d e
      refine ⟨v, ?_, H.mono hvis⟩
      rcases V with ⟨a, m, hn, hm⟩ | ⟨a, c, hc, o, ho, hd⟩
      · exact .inl ⟨a, m, hn.at' fun o e => kk _ o hl e, hm⟩
      · exact .inr ⟨a, c, hc, o, kk c o (hcl x c hc) ho, hd⟩
    muo := fun p hp => ⟨(S'.muo p hp).x, (S'.muo p hp).nl, fun o z => by
      rcases z with z | ⟨z, _⟩
      · exact (S'.muo p hp).np o z
      · exact hmu p hp z, (S'.muo p hp).nc⟩
    mui := fun p hp => (S'.mui p hp).mono hvis fun o e => kk _ o (hmu p hp) e
    mnd := S'.mnd }

theorem holds_dictAt {P : Params} {X : Addr → Prop} {s : Shared} {a : Addr} {ds : List (Str × D)} (hP : P = w.params) (hv : Holds P (vis X s.heap) (.ref a) (.dic ds)) (hn : (ds.map (·.1)).Nodup) :
    ∃ o ep kvs, (a == sysModules) = false ∧ vis X s.heap a o ∧ (∀ h : Heap, h.get? a = some o → h.DictAt (strKind prog w) a kvs ep) ∧ kvs.length = ds.length ∧
      ∀ (i : Nat) kv d, kvs[i]? = some kv → ds[i]? = some d → kv.1 = d.1 ∧ Holds P (vis X s.heap) kv.2 d.2 := by
  subst hP
  cases hv with
  | dic hs hv hx hd hl hk hi =>
  rename_i o es n
  refine ⟨o, n, (es.toList.zip ds).map fun x => (x.2.1, x.1.val), hs, hv, fun h hg => ⟨o, es, hg, hx, hd, ?_, ?_, ?_⟩, by simp [hl], ?_⟩
  · intro e he
    obtain ⟨i, hi', rfl⟩ := Array.getElem_of_mem he
    obtain ⟨⟨t, ht⟩, hh⟩ := hk i es[i] ds[i] (by simp [hi']) (by simp [show i < ds.length by omega])
    exact ⟨ds[i].1, by rw [ht]; exact strKind_is prog w _ t, hh⟩
  · have key : ∀ (l : List DictEntry) (ds : List (Str × D)), l.length = ds.length → (∀ (i : Nat) (e : DictEntry) (d : Str × D), l[i]? = some e → ds[i]? = some d → ∃ t, e.key = .str d.1 t) → Pairs (strKind prog w) l ((l.zip ds).map fun x => (x.2.1, x.1.val)) := by
      intro l
      induction l with
      | nil => intro ds _ _; exact .nil
      | cons e l ih =>
        intro ds hl h
        match ds, hl, h with
        | d :: ds, hl, h =>
          obtain ⟨t, ht⟩ := h 0 e d rfl rfl
          exact .cons (by rw [ht]; exact strKind_is prog w _ t) rfl (ih ds (by simpa using hl) fun i e d a b => h (i + 1) e d (by simpa using a) (by simpa using b))
    exact key es.toList ds (by simpa using hl) fun i e d a b => (hk i e d (by simpa using a) b).1
  · rw [List.map_map]
    have : (es.toList.zip ds).map ((fun x => x.1) ∘ fun x => (x.2.1, x.1.val)) = ds.map (·.1) := by
      rw [show ((fun x : Str × Value => x.1) ∘ fun x : DictEntry × (Str × D) => (x.2.1, x.1.val)) = (·.1) ∘ (·.2) from rfl, ← List.map_map, List.map_snd_zip (by simp [hl])]
    rw [this]; exact hn
  · intro i kv d a b
    rw [List.getElem?_map] at a
    obtain ⟨x, hx', rfl⟩ := Option.map_eq_some_iff.mp a
    obtain ⟨h1, h2⟩ := List.getElem?_zip_eq_some.mp hx'
    rw [b] at h2
    cases h2
    exact ⟨rfl, hi i x.1 x.2 (by simpa using h1) b⟩
end
end Mine
end

section
open PySem PySem.W PySem.Calls PySem.Spec PyProof.Rows
set_option Elab.async false
set_option linter.unusedVariables false
namespace Mine

section
variable {prog : Program} {w : World} {hb : Heap} {cx : Cx} {ρ ρt ρe : Rho} {mus mus' : Mus} {R : Flow → Shared → Prop}

/-- for k, v in x.items(): over one pair -/
theorem ex_for_items1 {x : Str} {np apos ipos tpos pos : Pos} {es : List Expr} {k : Nat} {body rest : List Stmt} {key : Str} {d : D} (hh : cx.A.handled = none) (hx : Ev prog w hb cx ρ mus (.Name x np) (.dic [(key, d)]))
    (hasg : AsgL prog w hb cx es [.str key, d] ρ ρt)
    (turn : ∀ X' pr', (∀ b, cx.X b → X' b) → (∀ b o, cx.pr b o → pr' b o) → Ex prog w hb { cx with X := X', pr := pr' } ρt mus body (Turn w.params hb { cx with X := X', pr := pr' } ρe mus' R))
    (hmm : mus'.map (·.1) = mus.map (·.1)) (hr : Ex prog w hb cx ρe mus' rest R)
    (hs : ∀ y, foldedSetIterable (.Call (.Attribute (.Name x np) "items" apos) [] [] ipos) cx.env y = pure y := by intro _; rfl)
    (hbase : attributeBase (.Name x np) "items" cx.env (eval (.Name x np) cx.env) = eval (.Name x np) cx.env := by rfl) (hline : (apos.endLine == ipos.line) = true := by rfl) :
    Ex prog w hb cx ρ mus (.For (.Tuple es k tpos) (.Call (.Attribute (.Name x np) "items" apos) [] [] ipos) body [] pos :: rest) R := .mk fun s S => by
  refine wpAny_execs_cons (wpAny_For (Call_method0 hbase hline (hx.val S fun v s₁ S₁ k₁ H₁ => ?_)) hs)
  obtain ⟨dA, rfl⟩ : ∃ a, v = .ref a := by cases H₁; exact ⟨_, rfl⟩
  obtain ⟨o, ep, kvs, hsys, hv, hat, hkl, hki⟩ := holds_dictAt (prog := prog) rfl H₁ (by simp)
  obtain ⟨v0, hkv, hvd⟩ : ∃ v0 : Value, kvs = [(key, v0)] ∧ Holds w.params (vis cx.X s₁.heap) v0 d := by
    match kvs, hkl, hki with
    | [kv], _, hki =>
      obtain ⟨a, b⟩ := hki 0 kv (key, d) rfl rfl
      exact ⟨kv.2, by rw [← show kv.1 = key from a], b⟩
  subst hkv
  have hD₁ := hat s₁.heap hv.1
  have ho := hD₁
  obtain ⟨o', es', ho', hex, _⟩ := ho
  refine ⟨"dict", "dict.items", F.plainAttrs_dict, F.slot_dict_items, F.type_dict_items, hD₁.dictOf.typeIs, (fun a e => by cases e; exact ⟨_, ho', hex.2.1⟩), ?_⟩
  refine callWith_builtin rfl (PySem.evalArgs_none (call_meetsIn F.slot_dict_items hD₁.dictOf.typeIs F.entry_dict_items (F.args_dict_items_1 _) (meets_dict_items (strKind prog w) dA hsys) ⟨⟨_, hD₁.dictOf⟩, ?_⟩))
  -- the view and the iterator
  generalize hV : s₁.heap.objs.size = Vw
  have kv1 : ∀ b o, s₁.heap.get? b = some o → (s₁.heap.push { cls := .type "dict_items", data := .fields #[.ref dA] }).get? b = some o := fun b o e => Heap.get?_push_of_some _ e
  have SV : St w.params hb cx ρ mus { s₁ with heap := s₁.heap.push { cls := .type "dict_items", data := .fields #[.ref dA] } } := S₁.keeps keeps_push
  have hVw : (s₁.heap.push { cls := .type "dict_items", data := .fields #[.ref dA] }).IsItemsView Vw dA := ⟨_, hV ▸ Heap.get?_push_size _ rfl, rfl, rfl⟩
  generalize hs2 : ({ s₁ with heap := s₁.heap.push { cls := .type "dict_items", data := .fields #[.ref dA] } } : Shared) = s₂ at SV
  have hh2 : s₂.heap = s₁.heap.push { cls := .type "dict_items", data := .fields #[.ref dA] } := by rw [← hs2]
  show wpAny (model prog w) cx.A (pyIter (.ref Vw)) _ _ s₂
  have hv2 : vis cx.X s₂.heap dA o := ⟨by rw [hh2]; exact kv1 _ _ hv.1, hv.2⟩
  have hD₂ := hat s₂.heap hv2.1
  refine wpAny_pyIter_items (hh2 ▸ hVw) hD₂ ?_
  generalize hI : s₂.heap.objs.size = I
  have hIf : s₂.heap.get? I = none := hI ▸ get_fresh
  have hIX : ¬ cx.X I := hI ▸ fresh_not SV.live
  have hIp : ∀ o, ¬ cx.pr I o := fun o e => by have := SV.pres I o e; rw [hIf] at this; cases this
  have hIb : hb.get? I = none := by
    cases e : hb.get? I with
    | none => rfl
    | some o => have := (SV.base I o e).1; rw [hIf] at this; cases this
  let it0 : Obj := { cls := .type "dict_itemiterator", data := .fields #[.none, .bool false, .ref dA, .int 0 0, .int 1 0, .int ep 0, .none, .none] }
  show codeAny (model prog w) cx.A (.forLoop (.Tuple es k tpos) (.ref I) body [] cx.env) _ { s₂ with heap := s₂.heap.push it0 }
  generalize hh3 : s₂.heap.push it0 = h₃
  have kp : ∀ b o, s₂.heap.get? b = some o → h₃.get? b = some o := fun b o e => hh3 ▸ Heap.get?_push_of_some _ e
  have S₃ : St w.params hb cx ρ mus { s₂ with heap := h₃ } := SV.keeps ⟨h₃, s₂.toks, rfl, kp, Nat.le_refl _⟩
  have hgI : h₃.get? I = some it0 := by rw [← hh3, ← hI]; exact Heap.get?_push_size _ rfl
  have hvI : ∀ a o, vis cx.X s₂.heap a o → vis (fun b => b = I ∨ cx.X b) h₃ a o := fun a o q => ⟨kp a o q.1, fun z => by
    rcases z with rfl | z
    · have := q.1; rw [hIf] at this; cases this
    · exact q.2 z⟩
  have hgD : vis (fun b => b = I ∨ cx.X b) h₃ dA o := hvI _ _ hv2
  have hdI : dA ≠ I := fun e => hgD.2 (.inl e)
  let XI : Addr → Prop := fun b => b = I ∨ cx.X b
  let prI : Addr → Obj → Prop := fun b o => cx.pr b o ∨ (h₃.get? b = some o ∧ ¬ (b = I ∨ cx.X b))
  have hLI : cx.env.locals ≠ I := fun e => hIX (e ▸ S.lx)
  have hCI : ∀ x c, cx.env.cells.lookup x = some c → c ≠ I := fun x c e z => hIX (z ▸ (S.cel x c e).1)
  have hMI : ∀ p ∈ mus, p.1 ≠ I := fun p hp z => hIX (z ▸ (S.muo p hp).x)
  have hMu' : ∀ p ∈ mus', MuOk cx p.1 := fun p hp => by
    have : p.1 ∈ mus.map (·.1) := hmm ▸ List.mem_map_of_mem hp
    obtain ⟨q, hq, e⟩ := List.mem_map.mp this
    exact e ▸ S.muo q hq
  have start : St w.params hb { cx with X := XI, pr := prI } ρ mus { s₂ with heap := h₃ } := by
    have Sx := S₃.hideNew I it0 hgI hIX hIp hIb (fun x d e => by
        obtain ⟨v', V, H'⟩ := SV.vars x d e
        exact ⟨v', V.keeps kp, H'.mono hvI⟩) (fun p hp => (SV.mui p hp).mono hvI fun o e => kp _ o e)
    exact { Sx with
      pres := fun b o e => Sx.pres b o (e.elim .inl fun e => .inr (.inl e))
      lp := fun o e => Sx.lp o (e.elim .inl fun e => .inr (.inl e))
      cwr := fun hw x c e => ⟨fun o z => (Sx.cwr hw x c e).1 o (z.elim .inl fun z => .inr (.inl z)), (Sx.cwr hw x c e).2⟩
      muo := fun p hp => ⟨(Sx.muo p hp).x, (Sx.muo p hp).nl, fun o z => (Sx.muo p hp).np o (z.elim .inl fun z => .inr (.inl z)), (Sx.muo p hp).nc⟩ }
  have see : ∀ {ρ' : Rho} {m' : Mus} {s' : Shared}, St w.params hb { cx with X := XI, pr := prI } ρ' m' s' → ∀ a o, vis XI h₃ a o → vis XI s'.heap a o := fun S' a o q => ⟨S'.pres a o (.inr ⟨q.1, q.2⟩), q.2⟩
  refine codeAny_forLoop_any (fun n s' => (n = 2 ∧ St w.params hb { cx with X := XI, pr := prI } ρ mus s' ∧ IsItemIter s'.heap I dA 0 1 ep .none .none) ∨ (n = 1 ∧ St w.params hb { cx with X := XI, pr := prI } ρe mus' s' ∧ ∃ a b, IsItemIter s'.heap I dA 1 1 ep a b)) ?_ 2 (.inl ⟨rfl, start, hgI⟩)
  rintro n s' (⟨rfl, S', J⟩ | ⟨rfl, S', a', b', J⟩)
  · have hDs := hat s'.heap (see S' _ _ hgD).1
    refine noE' (wpAny_pyNext_items_item (E := NoE) (kvs := [(key, v0)]) (k := key) (v := v0) (i := 0) J hDs rfl fun ky h' hky hout hT hsz hk' => ?_) fun _ _ z => z
    generalize hTn : s'.heap.objs.size = T at hout hT
    refine wpAny_letOwnedTupleGo_items hout fun h'' hin hsb => ?_
    have kk : ∀ b o, b ≠ I → s'.heap.get? b = some o → h''.get? b = some o := fun b o nb e => (hsb.2 b nb).trans (hk' b o nb e)
    obtain ⟨io, hio, hioe⟩ : ∃ io, h''.get? I = some io ∧ ∀ h : Heap, h.get? I = some io → ∃ a b, IsItemIter h I dA 1 1 ep a b := ⟨_, hin, fun h e => ⟨_, _, e⟩⟩
    have S'' := S'.turnHid (h' := h'') hIX hIp hLI hCI hMI kk hio
    have hTf : s'.heap.get? T = none := hTn ▸ get_fresh
    have hTI : T ≠ I := fun z => by rw [z] at hTf; have j : s'.heap.get? I = _ := J; rw [hTf] at j; cases j
    have hT'' : h''.get? T = some { cls := .type "tuple", data := .seq #[ky, v0] } := (hsb.2 T hTI).trans hT
    have hTX : ¬ XI T := fun z => by
      obtain ⟨o, e⟩ := S'.live T z
      rw [hTf] at e; cases e
    have Hv0 : Holds w.params (vis XI h'') v0 d := hvd.mono fun a o q => by
      have q1 : vis cx.X s₂.heap a o := ⟨by rw [hh2]; exact kv1 _ _ q.1, q.2⟩
      have q2 := see S' a o (hvI a o q1)
      exact ⟨kk a o (fun e => q2.2 (.inl e)) q2.1, q2.2⟩
    obtain ⟨tk, rfl⟩ : ∃ t, ky = .str key t := Value.isStrOf_shape hky
    have HT : Holds w.params (vis XI h'') (.ref T) (.tup [.str key, d]) := .tup (n := 0) ⟨hT'', hTX⟩ rfl fun i v e a b => by
      match i, a, b with
      | 0, a, b => simp at a b; subst a b; exact .str
      | 1, a, b => simp at a b; subst a b; exact Hv0
      | i + 2, a, b => simp at b
    refine noE' ((asg_tup (k := k) (pos := tpos) hh hasg).run XI _ mus _ (.ref T) (fun b z => .inr z) S'' HT) fun _ s₄ S₄ => ?_
    refine noE' ((turn XI _ (fun b z => .inr z) (fun b o z => .inl (.inl z))).run s₄ S₄) fun f s₅ Tn => ?_
    have close : St w.params hb { cx with X := XI, pr := fun b o => prI b o ∨ (b = I ∧ o = io) } ρe mus' s₅ → ∃ m, m < 2 ∧ ((m = 2 ∧ St w.params hb { cx with X := XI, pr := prI } ρ mus s₅ ∧ IsItemIter s₅.heap I dA 0 1 ep .none .none) ∨ (m = 1 ∧ St w.params hb { cx with X := XI, pr := prI } ρe mus' s₅ ∧ ∃ a b, IsItemIter s₅.heap I dA 1 1 ep a b)) := fun S₅ => by
      refine ⟨1, by omega, .inr ⟨rfl, ?_, hioe _ (S₅.pres I io (.inr ⟨rfl, rfl⟩))⟩⟩
      exact { S₅ with
        pres := fun b o e => S₅.pres b o (.inl e)
        lp := fun o e => S₅.lp o (.inl e)
        cwr := fun hw x c e => ⟨fun o z => (S₅.cwr hw x c e).1 o (.inl z), (S₅.cwr hw x c e).2⟩
        muo := fun p hp => ⟨(S₅.muo p hp).x, (S₅.muo p hp).nl, fun o z => (S₅.muo p hp).np o (.inl z), (S₅.muo p hp).nc⟩ }
    cases f with
    | next => exact close Tn
    | cont => exact close Tn
    | brk => exact Tn.elim
    | ret v => exact Tn
  · have hDs := hat s'.heap (see S' _ _ hgD).1
    refine noE' (wpAny_pyNext_items_end (E := NoE) (kvs := [(key, v0)]) (i := 1) hh J hDs rfl fun h' he => ?_) fun _ _ z => z
    refine wpAny_execs_nil ?_
    refine hr.run _ (St.drop S S' (fun b z => .inr z) (fun b o z => .inl z) hMu' (h' := h') fun b o q e => he b o (fun z => ?_) e)
    subst z
    rcases q with q | q | q
    · exact hIX q
    · exact q (.inl rfl)
    · exact hIp o q
end
end Mine
end

section
open PySem PySem.W PySem.Calls PySem.Spec PyProof.Rows
set_option Elab.async false
set_option linter.unusedVariables false
namespace Mine
section
variable {prog : Program} {w : World} {A : Around} {E : Value → Shared → Prop} {s : Shared}
theorem nsSet_new {d : Addr} {name : Str} {v : Value} {Q : Unit → Shared → Prop} (D : s.heap.get? d = some { cls := .type "dict", data := .dict #[] })
    (hQ : ∀ h', h'.get? d = some { cls := .type "dict", data := .dict #[⟨PyData.keyHash w.params name, .str name s.toks, v⟩] 1 } → Heap.SameBut d s.heap h' → Q () { s with heap := h', toks := s.toks + 1 }) :
    wpAny (model prog w) A (nsSet d name v) Q E s := by
  unfold nsSet
  refine wpAny_bind (wpAny_bind (wpAny_askSetting (wpAny_pure (wpAny_bind (wpAny_mkText (wpAny_bind (wpAny_loadPart D ?_)))))))
  dsimp only
  rw [aRefKeyMayBeTheName_at, if_neg (by simp)]
  refine wpAny_updatePart (f := Obj.putName name (PyData.keyHash w.params name) (.str name s.toks) v) D ?_
  refine hQ _ ?_ (Heap.SameBut.update ..)
  have e := putName_dict name (PyData.keyHash w.params name) (.str name s.toks) v [] 0
  have e2 : Obj.putName name (PyData.keyHash w.params name) (.str name s.toks) v { cls := .type "dict", data := .dict #[] } = { cls := .type "dict", data := .dict #[⟨PyData.keyHash w.params name, .str name s.toks, v⟩] 1 } := e
  rw [Heap.get?_update_self _ D (by show Obj.isFreed (Obj.putName _ _ _ _ _) = false; rw [e2]; rfl)]
  exact congrArg some e2

theorem osa_new {K : Frag} {C x dx : Addr} {name : Str} {tk0 : Tok} {v : Value} {R : Result → Shared → Prop} (X : K.In s.heap) (hx : s.heap.get? x = some (instObj C dx)) (D : s.heap.get? dx = some { cls := .type "dict", data := .dict #[] })
    (hp : plainOver K C = true) (ht : takerIn K C name = some none) (hh : hasDictIn K C = true)
    (hQ : ∀ h', (∃ u, h'.get? dx = some { cls := .type "dict", data := .dict #[⟨PyData.keyHash w.params name, .str name u, v⟩] 1 }) → Heap.SameBut dx s.heap h' → R (.ok (.ret .none)) { s with heap := h', toks := s.toks + 1 }) :
    codeAny (model prog w) A (.call (.builtin "object.__setattr__") ⟨[.ref x, .str name tk0, v], []⟩) R s := by
  have I : InstAt s.heap x (instObj C dx) C (some { cls := .type "dict", data := .dict #[] }) := ⟨hx, rfl, rfl, D⟩
  refine osa_open X I hp ht fun b => ?_
  obtain ⟨cd, hc, hd'⟩ := any_some hh
  refine wpAny_bind (wpAny_pure (wpAny_bind (wpAny_bind (wpAny_loadPart hx (wpAny_bind ((looks_clsIn X hc).here ?_))))))
  rw [hd']
  refine wpAny_pure (a := some dx) (wpAny_bind (wpAny_pure (wpAny_bind ?_)))
  refine nsSet_new D fun h' hD' hsb => ?_
  refine wpAny_bind (wpAny_lookBehind hD' (pastItsLine_dict (by rw [sizeLine_eq]; simp)) ?_)
  exact wpAny_pure (hQ h' ⟨_, hD'⟩ hsb)
theorem setattr_new {K : Frag} {C x dx : Addr} {name : Str} {v : Value} {Q : Unit → Shared → Prop} (X : K.In s.heap) (hx : s.heap.get? x = some (instObj C dx)) (D : s.heap.get? dx = some { cls := .type "dict", data := .dict #[] })
    (hs : findIn K (.ref C) "__setattr__" = some (some (.builtin "object.__setattr__"))) (hp : plainOver K C = true) (ht : takerIn K C name = some none) (hh : hasDictIn K C = true)
    (hQ : ∀ h', (∃ u, h'.get? dx = some { cls := .type "dict", data := .dict #[⟨PyData.keyHash w.params name, .str name u, v⟩] 1 }) → Heap.SameBut dx s.heap h' → Q () { s with heap := h', toks := s.toks + 1 + 1 }) :
    wpAny (model prog w) A (setAttr (.ref x) name v) Q E s := by
  have I : InstAt s.heap x (instObj C dx) C (some { cls := .type "dict", data := .dict #[] }) := ⟨hx, rfl, rfl, D⟩
  exact set_plain X I hs (osa_new (s := { s with toks := s.toks + 1 }) X hx D hp ht hh hQ)
end
end Mine
end

section
open PySem PySem.W PySem.Calls PySem.Spec PyProof.Rows
set_option Elab.async false
set_option linter.unusedVariables false
namespace Mine

/-- all stands but the list H -/
noncomputable def KeepM (H : Addr) (s s' : Shared) : Prop := ∃ h' tk, s' = { s with heap := h', toks := tk } ∧ (∀ b o, b ≠ H → s.heap.get? b = some o → h'.get? b = some o) ∧ s.toks ≤ tk

/-- a def that turns the list H -/
structure FnM (prog : Program) (w : World) (hb : Heap) (k : Nat) (f : Value) (args : List D) (ks : List Str) (kd : List D) (H : Addr) (ds ds' : List D) (r : D) : Prop where
  run : ∀ (A : Around) (X : Addr → Prop) (s : Shared) (vs kvs : List Value), Room k A → (∀ b, X b → ∃ o, s.heap.get? b = some o) → (∀ b o, hb.get? b = some o → s.heap.get? b = some o ∧ ¬ X b) → 0 < s.toks →
    X H → MuIs w.params (vis X s.heap) s.heap H ds → HoldsL w.params (vis X s.heap) vs args → HoldsL w.params (vis X s.heap) kvs kd →
    wpAny (model prog w) A (call f vs (ks.zip kvs)) (fun v s' => KeepM H s s' ∧ MuIs w.params (vis X s'.heap) s'.heap H ds' ∧ Holds w.params (vis X s'.heap) v r) NoE s

noncomputable def BackM (P : Params) (X : Addr → Prop) (s0 : Shared) (H : Addr) (ds' : List D) (r : D) : Flow → Shared → Prop := fun f s' =>
  KeepM H s0 s' ∧ MuIs P (vis X s'.heap) s'.heap H ds' ∧ Holds P (vis X s'.heap) (match f with | .ret v => v | _ => .none) r

noncomputable abbrev cxM (A : Around) (fd : FuncData) (a : Addr) (X : Addr → Prop) (s : Shared) (H L : Addr) : Cx :=
  { A := A.deeper (callEnv fd L a), env := callEnv fd L a, X := fun b => b = L ∨ X b, pr := fun b o => s.heap.get? b = some o ∧ b ≠ H, s0 := s, cw := true }

section
variable {prog : Program} {w : World} {hb : Heap} {cx : Cx} {ρ : Rho} {mus : Mus} {R : Flow → Shared → Prop}

theorem back_retM {X : Addr → Prop} {s : Shared} {H : Addr} {ds' : List D} {v : Value} {d : D} (S : St w.params hb cx ρ mus s) (Hd : Holds w.params (vis cx.X s.heap) v d) (hm : (H, ds') ∈ mus) (hX : ∀ b, X b → cx.X b)
    (hp : ∀ b o, b ≠ H → cx.s0.heap.get? b = some o → cx.pr b o) : BackM w.params X cx.s0 H ds' d (.ret v) s := by
  obtain ⟨h, tk, e⟩ := S.sh
  refine ⟨⟨h, tk, e, fun b o nb q => ?_, ?_⟩, (S.mui _ hm).mono (vis_less hX) fun _ e => e, Hd.mono (vis_less hX)⟩
  · have := S.pres b o (hp b o nb q)
    rw [e] at this; exact this
  · have := S.tk0; rw [e] at this; exact this
theorem back_noneM {X : Addr → Prop} {s : Shared} {H : Addr} {ds' : List D} (S : St w.params hb cx ρ mus s) (hm : (H, ds') ∈ mus) (hX : ∀ b, X b → cx.X b)
    (hp : ∀ b o, b ≠ H → cx.s0.heap.get? b = some o → cx.pr b o) : BackM w.params X cx.s0 H ds' .none .next s := by
  obtain ⟨h, tk, e⟩ := S.sh
  refine ⟨⟨h, tk, e, fun b o nb q => ?_, ?_⟩, (S.mui _ hm).mono (vis_less hX) fun _ e => e, .none⟩
  · have := S.pres b o (hp b o nb q)
    rw [e] at this; exact this
  · have := S.tk0; rw [e] at this; exact this

theorem fn_introM {a H : Addr} {o : Obj} {fd : FuncData} {body : List Stmt} {ps ks : List Str} {ds kd das mds mds' : List D} {r : D} {k : Nat} (ho : hb.get? a = some o) (hdata : o.data = .func fd) (hlim : hb.NoLimit) (hcd : hb.CodeRec fd.code fd.qualname)
    (hbody : fd.body = .stmts body)
    (hbind : ∀ (s : Shared) (vs kvs : List Value) (A : Around) (E : Value → Shared → Prop) (Q : List (Str × Value) → Shared → Prop), (∀ b o, hb.get? b = some o → s.heap.get? b = some o) → vs.length = ds.length → kvs.length = kd.length →
      (∀ h' tk xs, (∀ b o, s.heap.get? b = some o → h'.get? b = some o) → s.toks ≤ tk →
        (∀ X : Addr → Prop, (∀ b, X b → ∃ o, s.heap.get? b = some o) → HoldsL w.params (vis X s.heap) vs ds → HoldsL w.params (vis X s.heap) kvs kd → HoldsL w.params (vis X h') xs das) → Q (ps.zip xs) { s with heap := h', toks := tk }) →
      wpAny (model prog w) A (bindArgs fd ⟨vs, ks.zip kvs⟩) Q E s)
    (hcell : ∀ x ∈ fd.scope.names, x.2 ≠ .cell) (hloc : ∀ x ∈ ps, fd.scope.names.lookup x = some .local) (hps : ps.length = das.length) (hnd : ps.Nodup)
    (hcl : fd.closure = []) (hfg : fd.globals = mainGlobals) (hfb : fd.builtins = builtinsNs)
    (h : ∀ (A : Around) (X : Addr → Prop) (s : Shared) (L : Addr), Room (k + 1) A → X H → Ex prog w hb (cxM A fd a X s H L) (asc (ps.zip das)) [(H, mds)] body (BackM w.params X s H mds' r))
    (hco : fd.scope.isCoroutine = false := by rfl) (hgen : fd.scope.isGenerator = false := by rfl) (hk : fd.scope.kind = .function := by rfl) :
    FnM prog w hb (k + 1) (.ref a) ds ks kd H mds mds' r := by
  refine ⟨?_⟩; intro A X s vs kvs hA hX hbs htk hXH hmu hvs hkvs
  have hlt : A.depth < recursionLimit := by have := hA.dp; show A.depth < 1000; omega
  have hlim' := hlim.keeps fun b o e => (hbs b o e).1
  refine wpAny_call (codeAny_call_function hlt (hbs a o ho).1 hdata hco hgen hbody (hcd.keeps fun b o e => (hbs b o e).1) ?_)
  refine hbind s vs kvs _ _ _ (fun b o e => (hbs b o e).1) hvs.1 hkvs.1 fun h' tk xs kp htk' hxs => ?_
  have hxl := hxs X hX hvs hkvs
  refine wpAny_newFunctionEnv (s := { s with heap := h', toks := tk }) hcell (fun x hx => hloc x.1 (List.of_mem_zip hx).1) (fun h₀ hns hsb => ⟨(hlim'.keeps kp).fresh _ hsb, codeAny_func ?_⟩) hk
  have hkeep : ∀ b o, h'.get? b = some o → h₀.get? b = some o := fun b o e => hsb.extBut b o (Nat.ne_of_lt (Heap.lt_size e)) (Heap.get?_push_of_some _ e)
  have hnL : h'.get? h'.objs.size = none := get_fresh
  have hlow : ∀ b o, s.heap.get? b = some o → b ≠ h'.objs.size := fun b o e z => by have := kp b o e; rw [z, hnL] at this; cases this
  have hvis' : ∀ a o, vis X s.heap a o → vis (fun b => b = h'.objs.size ∨ X b) h₀ a o := fun b o q => ⟨hkeep b o (kp b o q.1), fun z => by
    rcases z with z | z
    · exact hlow b o q.1 z
    · exact q.2 z⟩
  have hvis2 : ∀ a o, vis X h' a o → vis (fun b => b = h'.objs.size ∨ X b) h₀ a o := fun b o q => ⟨hkeep b o q.1, fun z => by
    rcases z with z | z
    · have := q.1; rw [z, hnL] at this; cases this
    · exact q.2 z⟩
  refine noE' ((h A X s h'.objs.size hA hXH).run { s with heap := h₀, toks := tk + (ps.zip xs).length } ?_) fun f s' x => x
  have hcells : (callEnv fd h'.objs.size a).cells = [] := hcl
  exact {
    sh := ⟨h₀, _, rfl⟩
    tok := Nat.lt_of_lt_of_le htk (Nat.le_trans htk' (Nat.le_add_right _ _))
    tk0 := Nat.le_trans htk' (Nat.le_add_right _ _)
    live := fun b hx => by
      rcases hx with rfl | hx
      · obtain ⟨o, _, _, e, _⟩ := hns; exact ⟨o, e⟩
      · obtain ⟨o, e⟩ := hX b hx; exact ⟨o, hkeep b o (kp b o e)⟩
    pres := fun b o e => hkeep b o (kp b o e.1)
    base := fun b o e => ⟨hkeep b o (kp b o (hbs b o e).1), fun z => by
      rcases z with z | z
      · exact hlow b o (hbs b o e).1 z
      · exact (hbs b o e).2 z⟩
    nsx := ⟨_, hns⟩
    fk := hk
    fg := hfg
    fb := hfb
    lx := .inl rfl
    lp := fun o e => hlow _ o e.1 rfl
    cel := fun x c e => by have e' : (callEnv fd h'.objs.size a).cells.lookup x = some c := e; rw [hcells] at e'; cases e'
    cwr := fun _ x c e => by have e' : (callEnv fd h'.objs.size a).cells.lookup x = some c := e; rw [hcells] at e'; cases e'
    vars := fun x d e => by
      have e' : (ps.zip das).lookup x = some d := e
      obtain ⟨i, hi, h1, h2⟩ := zip_find hps e'
      have hi' : i < xs.length := by rw [hxl.1]; exact hi
      refine ⟨xs[i], .inl ⟨?_, _, hns, ?_⟩, (hxl.2 i xs[i] d (by simp [hi']) h2).mono hvis2⟩
      · exact hloc x (List.mem_of_getElem? h1)
      · exact lookup_rev_zip hnd (by rw [hxl.1, hps]) h1 (List.getElem?_eq_getElem hi')
    muo := fun p hp => by
      obtain rfl := List.mem_singleton.mp hp
      obtain ⟨oH, eH⟩ := hX H hXH
      exact ⟨.inr hXH, fun z => hlow H oH eH z, fun o e => e.2 rfl, fun y c e => by have e' : (callEnv fd h'.objs.size a).cells.lookup y = some c := e; rw [hcells] at e'; cases e'⟩
    mui := fun p hp => by
      obtain rfl := List.mem_singleton.mp hp
      exact hmu.mono hvis' fun o e => hkeep _ o (kp _ o e)
    mnd := by simp }
end
end Mine
end

section
open PySem PySem.W PySem.Calls PySem.Spec PyProof.Rows
set_option Elab.async false
set_option linter.unusedVariables false
namespace Mine

section
variable {prog : Program} {w : World} {hb : Heap} {cx : Cx} {ρ : Rho} {mus : Mus} {R : Flow → Shared → Prop} {K : Frag} {C : Addr}

/-- one mutable list turns, the heap grows -/
theorem St.turnMuG {s : Shared} {pre post : Mus} {a : Addr} {ds ds' : List D} {h' : Heap} {tk : Nat} (S : St w.params hb cx ρ (pre ++ (a, ds) :: post) s) (hs : ∀ b o, b ≠ a → s.heap.get? b = some o → h'.get? b = some o) (htk : s.toks ≤ tk) (hm : MuIs w.params (vis cx.X h') h' a ds') :
    St w.params hb cx ρ (pre ++ (a, ds') :: post) { s with heap := h', toks := tk } := by
  have M := S.muo (a, ds) (by simp)
  have aX : cx.X a := M.x
  have hvis : ∀ b o, vis cx.X s.heap b o → vis cx.X h' b o := fun b o q => ⟨hs b o (fun z => q.2 (z ▸ aX)) q.1, q.2⟩
  have nL : cx.env.locals ≠ a := fun e => M.nl e.symm
  have nd := S.mnd
  rw [List.map_append, List.map_cons] at nd
  have old : ∀ p ∈ pre ++ post, p.1 ≠ a := fun p hp e => by
    rw [List.nodup_append] at nd
    obtain ⟨_, n2, n3⟩ := nd
    rw [List.nodup_cons] at n2
    rcases List.mem_append.mp hp with hp | hp
    · exact n3 p.1 (List.mem_map_of_mem hp) a (by simp) e
    · exact n2.1 (List.mem_map.mpr ⟨p, hp, e⟩)
  exact {
    sh := by obtain ⟨h, t, e⟩ := S.sh; exact ⟨h', tk, by rw [e]⟩
    tok := Nat.lt_of_lt_of_le S.tok htk
    tk0 := Nat.le_trans S.tk0 htk
    live := fun b hx => by
      by_cases hb' : b = a
      · subst hb'; obtain ⟨vs, ⟨n, e⟩, _⟩ := hm; exact ⟨_, e⟩
      · obtain ⟨o, e⟩ := S.live b hx; exact ⟨o, hs b o hb' e⟩
    pres := fun b o e => hs b o (fun q => M.np o (q ▸ e)) (S.pres b o e)
    base := fun b o e => ⟨hs b o (fun q => (S.base b o e).2 (q ▸ aX)) (S.base b o e).1, (S.base b o e).2⟩
    nsx := by obtain ⟨m, hn⟩ := S.nsx; exact ⟨m, hn.at' fun o e => hs _ o nL e⟩
    fk := S.fk
    fg := S.fg
    fb := S.fb
    lx := S.lx
    lp := S.lp
    cel := fun y c e => by obtain ⟨a', b, v', o, ho, hd⟩ := S.cel y c e; exact ⟨a', b, v', o, hs c o (M.nc y c e) ho, hd⟩
    cwr := S.cwr
    vars := fun y d' e => by
      obtain ⟨v', V, H'⟩ := S.vars y d' e
      refine ⟨v', ?_, H'.mono hvis⟩
      rcases V with ⟨q, m', hn', hm'⟩ | ⟨q, c', hc', o, ho, hd⟩
      · exact .inl ⟨q, m', hn'.at' fun o e => hs _ o nL e, hm'⟩
      · exact .inr ⟨q, c', hc', o, hs c' o (M.nc y c' hc') ho, hd⟩
    muo := fun p hp => by
      rcases List.mem_append.mp hp with hp | hp
      · exact S.muo p (by simp [hp])
      · rcases List.mem_cons.mp hp with rfl | hp
        · exact ⟨M.x, M.nl, M.np, M.nc⟩
        · exact S.muo p (by simp [hp])
    mui := fun p hp => by
      rcases List.mem_append.mp hp with hp' | hp'
      · exact (S.mui p (by simp [hp'])).mono hvis fun o e => hs _ o (old p (by simp [hp'])) e
      · rcases List.mem_cons.mp hp' with rfl | hp'
        · exact hm
        · exact (S.mui p (by simp [hp'])).mono hvis fun o e => hs _ o (old p (by simp [hp'])) e
    mnd := by rw [List.map_append, List.map_cons]; exact nd }

/-- x = y + f(...), where f turns a list -/
theorem ex_assign_addM {x y : Str} {px py fp cpos bpos pos : Pos} {fn : Str} {e : Expr} {es : List Expr} {rest : List Stmt} {a b : Str} {fa H : Addr} {o : Obj} {fd : FuncData} {k : Nat} {ds mds mds' : List D} {pre post : Mus} (hA : Room k cx.A) (hA1 : Room 1 cx.A)
    (hm : mus = pre ++ (H, mds) :: post) (hy : Ev prog w hb cx ρ mus (.Name y py) (.str a)) (hf : Ev prog w hb cx ρ mus (.Name fn fp) (.opq (.ref fa))) (ho : hb.get? fa = some o) (hd : o.data = .func fd)
    (ha : EvL prog w hb cx ρ mus (e :: es) ds) (hfn : FnM prog w hb k (.ref fa) ds [] [] H mds mds' (.str b)) (hz : a.length + b.length ≤ sizeLine) (hk : cx.env.kindOf x = some .local)
    (hr : Ex prog w hb cx (upd ρ x (.str (a ++ b))) (pre ++ (H, mds') :: post) rest R) (hst : isStarred e = false := by rfl)
    (hs : swapsWith (.BinOp (.Name y py) .Add (.Call (.Name fn fp) (e :: es) [] cpos) bpos) (some (.Name x px)) pos.line cx.env = pure false := by rfl) :
    Ex prog w hb cx ρ mus (.Assign [.Name x px] (.BinOp (.Name y py) .Add (.Call (.Name fn fp) (e :: es) [] cpos) bpos) pos :: rest) R := .mk fun s S => by
  subst hm
  refine wpAny_execs_cons (wpAny_Assign_Name (wpAny_BinOp (hy.val S fun va s₁ S₁ k₁ h₁ => ?_)) hs)
  obtain ⟨_, rfl⟩ := holds_str h₁
  refine wpAny_Call_Name_kw (hf.val S₁ fun v s₂ S₂ k₂ h₂ => ?_)
  obtain rfl := holds_opq h₂
  show wpAny _ _ (callWith cpos (.ref fa) [] (backTo cpos (starEach (e :: es) cx.env)) []) _ _ _
  refine callWith_function (o := o) (fd := fd) (evargs ha S₂ hst fun vs s₃ S₃ k₃ h₃ => ⟨⟨(S₃.base fa o ho).1, hd⟩, ?_⟩)
  have M := S₃.muo (H, mds) (by simp)
  refine noE' (hfn.run cx.A cx.X s₃ vs [] hA S₃.live S₃.base S₃.tok M.x (S₃.mui (H, mds) (by simp)) h₃ .nil) fun v s₄ q => ?_
  obtain ⟨⟨h', tk, rfl, hkp, htk⟩, hmu, hv⟩ := q
  obtain ⟨_, rfl⟩ := holds_str hv
  have S₄ := S₃.turnMuG hkp htk hmu
  refine noE' ((op_add_str (prog := prog) hz).run cx.A cx.X { s₃ with heap := h', toks := tk } _ _ hA1 S₄.live .str .str) fun v s₅ q => ?_
  have S₅ := S₄.keeps q.1
  obtain ⟨m, hm'⟩ := S₅.nsx
  exact wpAny_storeName_local hk hm' (fun h'' hn hs' => hr.run _ (S₅.store hk q.2 hm' hn hs' _)) (hp_fn S.fk)

/-- obj.name(..., k=...) alone, where the method turns a list -/
theorem ex_methM {x name : Str} {np apos cpos pos : Pos} {dT : D} {r : D} {k : Nat} {f H : Addr} {o : Obj} {fd : FuncData} {e : Expr} {es : List Expr} {kws : List Keyword} {ds kd mds mds' : List D} {ks : List Str} {pre post : Mus} {rest : List Stmt} (hA : Room k cx.A)
    (hc : Hdr hb K C) (hm : mus = pre ++ (H, mds) :: post) (hx : Ev prog w hb cx ρ mus (.Name x np) dT) (hT : (∃ H, dT = .tab C H) ∨ (∃ ds, dT = .tabf C ds))
    (hf : findIn K (.ref C) name = some (some (.ref f))) (ht : typeIn K (.ref f) = some (.type "function")) (hnm : name ≠ Str.ofString "_headers") (ho : hb.get? f = some o) (hd : o.data = .func fd)
    (ha : EvL prog w hb cx ρ mus (e :: es) ds) (hk : EvKs prog w hb cx ρ mus ((backToKw cpos (keywordEach kws cx.env)).map (·.2)) kd)
    (hall : (backToKw cpos (keywordEach kws cx.env)).all (·.1.isSome) = true) (hks : (backToKw cpos (keywordEach kws cx.env)).filterMap (·.1) = ks)
    (hfn : FnM prog w hb k (.ref f) (dT :: ds) ks kd H mds mds' r) (hr : Ex prog w hb cx ρ (pre ++ (H, mds') :: post) rest R) (hst : isStarred e = false := by rfl)
    (pl : Sem Bool) (he : eval (.Call (.Attribute (.Name x np) name apos) (e :: es) kws cpos) cx.env = (do
      let ov ← eval (.Name x np) cx.env
      standAt apos.atName
      let (f, first) ← holding [ov] (getMethod ov name pl)
      callWith cpos f first (backTo cpos (starEach (e :: es) cx.env)) (backToKw cpos (keywordEach kws cx.env))) := by rfl)
    (hi : interactive cx.env = false := by rfl) (hsw : swapsWith (.Call (.Attribute (.Name x np) name apos) (e :: es) kws cpos) none pos.line cx.env = pure false := by rfl) :
    Ex prog w hb cx ρ mus (.Expr (.Call (.Attribute (.Name x np) name apos) (e :: es) kws cpos) pos :: rest) R := .mk fun s S => by
  subst hm
  refine wpAny_execs_cons (wpAny_Expr_any (methodCall_KW (pl := pl) (hx.val S fun v s₁ S₁ k₁ h₁ => ?_) he) hi hsw)
  obtain ⟨x', dx, od, rfl, I, hn⟩ := inst_any h₁ hT
  refine method_fn (hc.inK.keeps fun b o e => (S₁.base b o e).1) I hc.ga hc.gk hf ht (by show (lookIn name od).map _ = _; rw [hn name hnm]; rfl) ?_
  show wpAny _ _ (callWith cpos (.ref f) [.ref x'] (backTo cpos (starEach (e :: es) cx.env)) (backToKw cpos (keywordEach kws cx.env))) _ _ _
  refine callWith_function_kw (o := o) (fd := fd) ?_
  have ha' := ha.run cpos s₁ S₁
  rw [starEach_ns hst] at ha' ⊢
  refine evalArgs_kw hall (noE' ha' fun vs s₂ q => ?_)
  have S₂ := S₁.keeps q.1
  refine noE' (hk.run s₂ S₂) fun kvs s₃ q3 => ?_
  have S₃ := S₂.keeps q3.1
  refine ⟨⟨(S₃.base f o ho).1, hd⟩, ?_⟩
  rw [hks]
  have M := S₃.muo (H, mds) (by simp)
  refine noE' (hfn.run cx.A cx.X s₃ (.ref x' :: vs) kvs hA S₃.live S₃.base S₃.tok M.x (S₃.mui (H, mds) (by simp)) (.cons (keep_vis (keep_vis h₁ q.1) q3.1) (q.2.mono (vis_keeps (keeps_get q3.1)))) q3.2) fun v s₄ q4 => ?_
  obtain ⟨⟨h', tk, rfl, hkp, htk⟩, hmu, hv⟩ := q4
  exact hr.run _ (S₃.turnMuG hkp htk hmu)
end
end Mine
end

section
open PySem PySem.W PySem.Calls PySem.Spec PyProof.Rows
set_option Elab.async false
set_option linter.unusedVariables false
namespace Mine

section
variable {prog : Program} {w : World} {hb : Heap} {cx : Cx} {ρ : Rho} {mus : Mus} {R : Flow → Shared → Prop}

theorem newl_ifexp {t a b : Expr} {pos : Pos} {ds : List D} (ht : Et prog w hb cx ρ mus t false) (h2 : NewL prog w hb cx ρ mus b ds) : NewL prog w hb cx ρ mus (.IfExp t a b pos) ds := .mk fun s S =>
  wpAny_IfExp (wpAny_mono (ht.run s S) (fun v s₁ x => by
    obtain ⟨k, rfl⟩ := x
    refine noE' (h2.run s₁ (S.keeps k)) fun v s₂ q => ?_
    obtain ⟨k2, a, rfl, hn, hm⟩ := q
    refine ⟨keeps_trans k k2, a, rfl, ?_, hm⟩
    cases e : s.heap.get? a with
    | none => rfl
    | some o => have := keeps_get k a o e; rw [hn] at this; cases this) fun _ _ y => y)

theorem ev_type_mu {x : Str} {np pos : Pos} {e : Expr} {a : Addr} {ds : List D} (hf : Ev prog w hb cx ρ mus (.Name x np) (.opq (.type "type"))) (he : Ev prog w hb cx ρ mus e (.opq (.ref a))) (hm : (a, ds) ∈ mus) (hst : isStarred e = false := by rfl) :
    Ev prog w hb cx ρ mus (.Call (.Name x np) [e] [] pos) (.opq (.type "list")) := .mk fun s S => by
  refine wpAny_Call_Name_kw (hf.val S fun v s₁ S₁ k₁ h₁ => ?_)
  obtain rfl := holds_opq h₁
  show wpAny _ _ (callWith pos (.type "type") [] (backTo pos (starEach [e] cx.env)) []) _ _ _
  rw [starEach_ns hst]
  refine PySem.callWith_type rfl (evalArgs_plain (spliced_cons (he.val S₁ fun v s₂ S₂ k₂ h₂ => spliced_nil ?_)))
  obtain rfl := holds_opq h₂
  obtain ⟨vs, ⟨n, e1⟩, _⟩ := S₂.mui (a, ds) hm
  exact call_type_of ⟨_, e1, rfl⟩ (by decide) ⟨keeps_trans k₁ k₂, .opq⟩

/-- a loop over a list that may turn and is empty -/
theorem ex_for_empty {target iter : Expr} {body rest : List Stmt} {pos : Pos} {a : Addr} (hh : cx.A.handled = none) (hi : Ev prog w hb cx ρ mus iter (.opq (.ref a))) (hm : (a, []) ∈ mus) (hr : Ex prog w hb cx ρ mus rest R)
    (hs : ∀ x, foldedSetIterable iter cx.env x = pure x := by intro _; rfl) : Ex prog w hb cx ρ mus (.For target iter body [] pos :: rest) R := .mk fun s S => by
  refine wpAny_execs_cons (wpAny_For (hi.val S fun v s₁ S₁ k₁ H₁ => ?_) hs)
  obtain rfl := holds_opq H₁
  obtain ⟨vs, ⟨n, e1⟩, hl, _⟩ := S₁.mui (a, []) hm
  have hL : s₁.heap.IsList a vs := ⟨_, e1, rfl, n, rfl⟩
  have hz : vs.size = 0 := hl
  refine wpAny_pyIter_list hL ?_
  have hI : (s₁.heap.push { cls := .type "list_iterator", data := .fields #[.ref a, .int 0 0] }).IsListIter s₁.heap.objs.size a 0 := ⟨_, Heap.get?_push_size _ rfl, rfl, rfl⟩
  have kp : ∀ b o, s₁.heap.get? b = some o → (s₁.heap.push { cls := .type "list_iterator", data := .fields #[.ref a, .int 0 0] }).get? b = some o := fun b o e => Heap.get?_push_of_some _ e
  refine codeAny_forLoop_any (fun k s' => s' = { s₁ with heap := s₁.heap.push { cls := .type "list_iterator", data := .fields #[.ref a, .int 0 0] } }) ?_ 0 rfl
  rintro k s' rfl
  refine noE' (wpAny_pyNext_list_end (E := NoE) (items := vs) hh hI ⟨_, kp _ _ e1, rfl, n, rfl⟩ (by simp [hz]) fun h' he => ?_) fun _ _ x => x
  refine wpAny_execs_nil (hr.run _ (S₁.keeps ⟨h', s₁.toks, rfl, fun b o e => he b o (Nat.ne_of_lt (Heap.lt_size e)) (kp b o e), Nat.le_refl _⟩))
end
end Mine
end

section
open PySem PySem.W PySem.Calls PySem.Spec PyProof.Rows
set_option Elab.async false
set_option linter.unusedVariables false
namespace Mine

/-- what is known of the class for setting -/
structure HdrSet (K : Frag) (C : Addr) : Prop where
  sa : findIn K (.ref C) "__setattr__" = some (some (.builtin "object.__setattr__"))
  po : plainOver K C = true
  tk : takerIn K C "_headers" = some none

section
variable {prog : Program} {w : World} {hb : Heap} {cx : Cx} {ρ : Rho} {mus : Mus} {R : Flow → Shared → Prop} {K : Frag} {C : Addr}

/-- a hidden object turns -/
theorem St.turnX {s : Shared} {h' : Heap} {d : Addr} {nd : Obj} {tk : Nat} (S : St w.params hb cx ρ mus s) (hX : cx.X d) (hl : cx.env.locals ≠ d) (hcl : ∀ x c, cx.env.cells.lookup x = some c → c ≠ d) (hmu : ∀ p ∈ mus, p.1 ≠ d)
    (kk : ∀ b o, b ≠ d → s.heap.get? b = some o → h'.get? b = some o) (hd : h'.get? d = some nd) (htk : s.toks ≤ tk) :
    St w.params hb { cx with pr := fun b o => (cx.pr b o ∧ b ≠ d) ∨ (b = d ∧ o = nd) } ρ mus { s with heap := h', toks := tk } := by
  have hvis : ∀ a o, vis cx.X s.heap a o → vis cx.X h' a o := fun b o q => ⟨kk b o (fun e => q.2 (e ▸ hX)) q.1, q.2⟩
  exact {
    sh := by obtain ⟨h, t, e⟩ := S.sh; exact ⟨h', tk, by rw [e]⟩
    tok := Nat.lt_of_lt_of_le S.tok htk
    tk0 := Nat.le_trans S.tk0 htk
    live := fun b hx => by
      by_cases hb' : b = d
      · subst hb'; exact ⟨nd, hd⟩
      · obtain ⟨o, e⟩ := S.live b hx; exact ⟨o, kk b o hb' e⟩
    pres := fun b o e => by
      rcases e with ⟨e, nb⟩ | ⟨rfl, rfl⟩
      · exact kk b o nb (S.pres b o e)
      · exact hd
    base := fun b o e => ⟨kk b o (fun z => (S.base b o e).2 (z ▸ hX)) (S.base b o e).1, (S.base b o e).2⟩
    nsx := by obtain ⟨m, hm⟩ := S.nsx; exact ⟨m, hm.at' fun o e => kk _ o hl e⟩
    fk := S.fk
    fg := S.fg
    fb := S.fb
    lx := S.lx
    lp := fun o e => by
      rcases e with ⟨e, _⟩ | ⟨e, _⟩
      · exact S.lp o e
      · exact hl e
    cel := fun x c e => by
      obtain ⟨a, b, v, o, ho, hd⟩ := S.cel x c e
      exact ⟨a, b, v, o, kk c o (hcl x c e) ho, hd⟩
    cwr := fun hw x c e => ⟨fun o z => by
      rcases z with ⟨z, _⟩ | ⟨z, _⟩
      · exact (S.cwr hw x c e).1 o z
      · exact hcl x c e z, (S.cwr hw x c e).2⟩
    vars := fun x d' e => by
      obtain ⟨v, V, H⟩ := S.vars x d' e
      refine ⟨v, ?_, H.mono hvis⟩
      rcases V with ⟨a, m, hn, hm⟩ | ⟨a, c, hc, o, ho, hd⟩
      · exact .inl ⟨a, m, hn.at' fun o e => kk _ o hl e, hm⟩
      · exact .inr ⟨a, c, hc, o, kk c o (hcl x c hc) ho, hd⟩
    muo := fun p hp => ⟨(S.muo p hp).x, (S.muo p hp).nl, fun o z => by
      rcases z with ⟨z, _⟩ | ⟨z, _⟩
      · exact (S.muo p hp).np o z
      · exact hmu p hp z, (S.muo p hp).nc⟩
    mui := fun p hp => (S.mui p hp).mono hvis fun o e => kk _ o (hmu p hp) e
    mnd := S.mnd }

noncomputable def tabDict (P : Params) (u : Tok) (v : Value) : Obj := { cls := .type "dict", data := .dict #[⟨PyData.keyHash P (Str.ofString "_headers"), .str (Str.ofString "_headers") u, v⟩] 1 }

/-- self._headers = value, on a new object -/
theorem ex_setattr_new {y z : Str} {yp apos zp pos : Pos} {x dx : Addr} {v : Value} {rest : List Stmt} (hc : Hdr hb K C) (hs : HdrSet K C) (hx : cx.pr x (instObj C dx)) (hd : cx.pr dx { cls := .type "dict", data := .dict #[] }) (hX : cx.X dx) (hl : cx.env.locals ≠ dx)
    (hcl : cx.env.cells = []) (hmu : ∀ p ∈ mus, p.1 ≠ dx) (hy : Ev prog w hb cx ρ mus (.Name y yp) (.opq (.ref x))) (hz : Ev prog w hb cx ρ mus (.Name z zp) (.opq v))
    (hr : ∀ u, Ex prog w hb { cx with pr := fun b o => (cx.pr b o ∧ b ≠ dx) ∨ (b = dx ∧ o = tabDict w.params u v) } ρ mus rest R)
    (hsw : swapsWith (.Name z zp) (some (.Attribute (.Name y yp) (Str.ofString "_headers") apos)) pos.line cx.env = pure false := by rfl) :
    Ex prog w hb cx ρ mus (.Assign [.Attribute (.Name y yp) (Str.ofString "_headers") apos] (.Name z zp) pos :: rest) R := .mk fun s S => by
  refine wpAny_execs_cons (plainObj_wpAny_Assign_Attribute (hz.val S fun v₁ s₁ S₁ k₁ h₁ => hy.val S₁ fun v₂ s₂ S₂ k₂ h₂ => ?_) hsw)
  obtain rfl := holds_opq h₁
  obtain rfl := holds_opq h₂
  refine setattr_new (hc.inK.keeps fun b o e => (S₂.base b o e).1) (S₂.pres _ _ hx) (S₂.pres _ _ hd) hs.sa hs.po hs.tk hc.hd fun h' hu hsb => ?_
  obtain ⟨u, hu⟩ := hu
  exact (hr u).run _ (S₂.turnX hX hl (fun x c e => by rw [hcl] at e; cases e) hmu (fun b o nb e => (hsb.2 b nb).trans e) hu (by show s₂.toks ≤ s₂.toks + 1 + 1; omega))
end
end Mine
end

section
open PySem PySem.W PySem.Calls PySem.Spec PyProof.Rows
set_option Elab.async false
set_option linter.unusedVariables false
namespace Mine

section
variable {prog : Program} {w : World} {hb : Heap} {cx : Cx} {ρ : Rho} {mus : Mus} {R : Flow → Shared → Prop}

theorem St.hides {s s' : Shared} {Z : Addr → Prop} (S : St w.params hb cx ρ mus s) (k : Keeps s s') (hZ : ∀ a, Z a → s.heap.get? a = none ∧ ∃ o, s'.heap.get? a = some o) : St w.params hb { cx with X := fun b => Z b ∨ cx.X b } ρ mus s' := by
  have kk := keeps_get k
  have S' := S.keeps k
  have hv : ∀ a o, vis cx.X s.heap a o → vis (fun b => Z b ∨ cx.X b) s'.heap a o := fun a o q => ⟨kk a o q.1, fun z => by
    rcases z with z | z
    · have := q.1; rw [(hZ a z).1] at this; cases this
    · exact q.2 z⟩
  exact {
    sh := S'.sh
    tok := S'.tok
    tk0 := S'.tk0
    live := fun b hx => by
      rcases hx with hx | hx
      · exact (hZ b hx).2
      · exact S'.live b hx
    pres := S'.pres
    base := fun b o e => ⟨(S'.base b o e).1, fun z => by
      rcases z with z | z
      · have := (S.base b o e).1; rw [(hZ b z).1] at this; cases this
      · exact (S'.base b o e).2 z⟩
    nsx := S'.nsx
    fk := S.fk
    fg := S.fg
    fb := S.fb
    lx := .inr S.lx
    lp := S.lp
    cel := fun x c e => by obtain ⟨a, b⟩ := S'.cel x c e; exact ⟨.inr a, b⟩
    cwr := S.cwr
    vars := fun x d e => by obtain ⟨v, a, b⟩ := S.vars x d e; exact ⟨v, a.keeps kk, b.mono hv⟩
    muo := fun p hp => ⟨.inr (S.muo p hp).x, (S.muo p hp).nl, (S.muo p hp).np, (S.muo p hp).nc⟩
    mui := fun p hp => (S.mui p hp).mono hv fun o e => kk _ o e
    mnd := S.mnd }

theorem St.addMus {s s' : Shared} {Z : Addr → Prop} (S : St w.params hb cx ρ mus s) (k : Keeps s s') {l : Mus} (hZ : ∀ a, Z a → s.heap.get? a = none ∧ ∃ o, s'.heap.get? a = some o) (hl : ∀ p ∈ l, Z p.1)
    (hm : ∀ p ∈ l, MuIs w.params (vis (fun b => Z b ∨ cx.X b) s'.heap) s'.heap p.1 p.2) (hn : (l.map (·.1)).Nodup) :
    St w.params hb { cx with X := fun b => Z b ∨ cx.X b } ρ (l ++ mus) s' := by
  have S' := S.hides k hZ
  exact { S' with
    muo := fun p hp => by
      rcases List.mem_append.mp hp with hp | hp
      · have hf := (hZ _ (hl p hp)).1
        refine ⟨.inl (hl p hp), fun e => ?_, fun o e => ?_, fun y c e z => ?_⟩
        · obtain ⟨m, o, _, _, e', _⟩ := S.nsx
          have hh : s.heap.get? p.1 = some o := by rw [show p.1 = cx.env.locals from e]; exact e'
          rw [hf] at hh; cases hh
        · have := S.pres p.1 o e; rw [hf] at this; cases this
        · obtain ⟨_, _, v, o, e', _⟩ := S.cel y c e
          rw [z, hf] at e'; cases e'
      · exact S'.muo p hp
    mui := fun p hp => by
      rcases List.mem_append.mp hp with hp | hp
      · exact hm p hp
      · exact S'.mui p hp
    mnd := by
      rw [List.map_append, List.nodup_append]
      refine ⟨hn, S'.mnd, fun a ha b hb' e => ?_⟩
      subst e
      obtain ⟨p, hp, e1⟩ := List.mem_map.mp ha
      obtain ⟨q, hq, e2⟩ := List.mem_map.mp hb'
      obtain ⟨vs, ⟨n, e'⟩, _⟩ := S.mui q hq
      have hf := (hZ _ (hl p hp)).1
      rw [e1, ← e2, e'] at hf; cases hf }

end
end Mine
end

section
open PySem PySem.W PySem.Calls PySem.Spec PyProof.Rows
set_option Elab.async false
set_option linter.unusedVariables false
namespace Mine

section
variable {prog : Program} {w : World} {hb : Heap} {cx : Cx} {ρ : Rho} {mus : Mus} {R : Flow → Shared → Prop}

/-- the list of new lists, and the new lists -/
noncomputable def newLs (D : Addr) (bs : List Addr) : Mus := (D, bs.map fun b => .opq (.ref b)) :: bs.map fun b => (b, [])

theorem comp_lists {x : Str} {px lpos : Pos} {iter : Expr} {scope : Scope} {cl : List (Str × Addr)} {pos : Pos} {ds : List D} {RR : Value → Addr → Result → Shared → Prop} {E : Value → Shared → Prop}
    (hh : cx.A.handled = none) (hi : Ev prog w hb cx ρ mus iter (.list ds)) (hsc : CompSc cx scope cl)
    (hkx : ∀ C, (compEnvC scope cl C cx.env).kindOf x = some .local) (hz : ds.length ≤ sizeLine) {s : Shared} (S : St w.params hb cx ρ mus s)
    (hRR : ∀ D C s' m bs, bs.length = ds.length → (C :: D :: bs).Nodup → (∀ b ∈ C :: D :: bs, s.heap.get? b = none) → Keeps s s' → s'.heap.Ns C m →
      s'.heap.PlainList D (bs.map Value.ref).toArray → (∀ b ∈ bs, s'.heap.PlainList b #[]) → RR (.ref D) C (.ok .next) s') :
    wpAny (model prog w) cx.A (eval iter cx.env) (fun x_1 s₁ => wpAny (model prog w) cx.A (pyIter x_1) (fun it s₂ => wpAny (model prog w) cx.A (newList []) (fun acc s₃ =>
      wpAny (model prog w) cx.A (newFunctionEnv scope cx.env.globals cl [] cx.env.qual none .none (some cx.env)) (fun cenv s₄ =>
        codeAny (model prog w) cx.A (.compStart (.ListComp (.List [] lpos) [⟨.Name x px, iter, [], 0⟩] scope pos) 0 it acc { cenv with scope := relabel scope cx.env }) (RR acc cenv.locals) s₄) E s₃) E s₂) E s₁) E s := by
  refine hi.val S fun v s₁ S₁ k₁ H₁ => ?_
  obtain ⟨l, vs, n, rfl, hv, hl, hit⟩ := holds_list H₁
  have hL : s₁.heap.IsList l vs := ⟨_, hv.1, rfl, n, rfl⟩
  refine wpAny_pyIter_list hL ?_
  -- three new things: the iterator, the list, the block's names
  generalize hI : s₁.heap.objs.size = I
  let it (i : Nat) : Obj := { cls := .type "list_iterator", data := .fields #[.ref l, .int i 0] }
  generalize hh2 : s₁.heap.push (it 0) = h₂
  have sz2 : h₂.objs.size = I + 1 := by rw [← hh2, Heap.size_push, hI]
  refine wpAny_newObj_type (wpAny_newFunctionEnv hsc.cell (by intro y hy; simp at hy) (fun h₄ hns hsb => ?_) hsc.kind)
  dsimp only at hns hsb ⊢
  generalize hD : h₂.objs.size = D at hns hsb ⊢
  generalize hh3 : h₂.push { cls := .type "list", dict := none, data := .seq ([] : List Value).toArray } = h₃ at hns hsb ⊢
  generalize hC : h₃.objs.size = C at hns hsb ⊢
  have sz3 : C = I + 2 := by rw [← hC, ← hh3, Heap.size_push, sz2]
  have sz2' : D = I + 1 := by rw [← hD, sz2]
  have fresh : ∀ a, I ≤ a → s₁.heap.get? a = none := fun a h => by
    cases e : s₁.heap.get? a with
    | none => rfl
    | some o => exact absurd (Heap.lt_size e) (by rw [hI]; exact Nat.not_lt.mpr h)
  have fI := fresh I (Nat.le_refl _)
  have fD := fresh D (by omega)
  have fC := fresh C (by omega)
  have nDC : D ≠ C := by omega
  have nIC : I ≠ C := by omega
  have nID : I ≠ D := by omega
  have kp : ∀ b o, s₁.heap.get? b = some o → h₄.get? b = some o := fun b o e => by
    have e2 : h₂.get? b = some o := hh2 ▸ Heap.get?_push_of_some _ e
    have e3 : h₃.get? b = some o := hh3 ▸ Heap.get?_push_of_some _ e2
    refine hsb.extBut b o (fun z => ?_) (Heap.get?_push_of_some _ e3)
    rw [z, fC] at e; cases e
  have gI : h₄.get? I = some (it 0) := by
    have e2 : h₂.get? I = some (it 0) := by rw [← hh2, ← hI]; exact Heap.get?_push_size _ rfl
    have e3 : h₃.get? I = some (it 0) := hh3 ▸ Heap.get?_push_of_some _ e2
    exact hsb.extBut I _ nIC (Heap.get?_push_of_some _ e3)
  have gD : h₄.PlainList D #[] := by
    have e3 : h₃.get? D = some { cls := .type "list", dict := none, data := .seq ([] : List Value).toArray } := by rw [← hh3, ← hD]; exact Heap.get?_push_size _ rfl
    exact ⟨0, hsb.extBut D _ nDC (Heap.get?_push_of_some _ e3)⟩
  have notX : ∀ a, s₁.heap.get? a = none → ¬ cx.X a := fun a e x => by obtain ⟨o, q⟩ := S₁.live a x; rw [e] at q; cases q
  have notP : ∀ a, s₁.heap.get? a = none → ∀ o, ¬ cx.pr a o := fun a e o x => by have := S₁.pres a o x; rw [e] at this; cases this
  have notB : ∀ a, s₁.heap.get? a = none → hb.get? a = none := fun a e => by
    cases q : hb.get? a with
    | none => rfl
    | some o => have := (S₁.base a o q).1; rw [e] at this; cases this
  -- the block's context
  let X1 : Addr → Prop := fun b => b = C ∨ cx.X b
  let X3 : Addr → Prop := fun b => b = I ∨ b = D ∨ b = C ∨ cx.X b
  let pr3 : Addr → Obj → Prop := fun b o => h₄.get? b = some o ∧ b ≠ I ∧ b ≠ D ∧ b ≠ C
  let s4 : Shared := { s₁ with heap := h₄, toks := s₁.toks + ([] : List (Str × Value)).length }
  have hv1 : ∀ a o, vis cx.X s₁.heap a o → vis X3 h₄ a o := fun a o q => ⟨kp a o q.1, fun z => by
    rcases z with rfl | rfl | rfl | z
    · have := q.1; rw [fI] at this; cases this
    · have := q.1; rw [fD] at this; cases this
    · have := q.1; rw [fC] at this; cases this
    · exact q.2 z⟩
  have gL : vis X3 h₄ l { cls := .type "list", data := .seq vs n } := hv1 _ _ hv
  let cc : Cx := cxC cx scope cl C X3 pr3 s4
  let ρc : Rho := rho0
  let ccp (pr : Addr → Obj → Prop) : Cx := { cc with pr := pr }
  -- the invariant
  let Inv : Nat → Shared → Prop := fun i s' => (∃ pr, St w.params hb (ccp pr) ρc [] s') ∧ (∀ b o, h₄.get? b = some o → b ≠ I → b ≠ D → b ≠ C → s'.heap.get? b = some o) ∧ s'.heap.IsListIter I l i ∧
    ∃ bs : List Addr, s'.heap.PlainList D (bs.map Value.ref).toArray ∧ bs.length = i ∧ bs.Nodup ∧ ∀ b ∈ bs, s'.heap.PlainList b #[] ∧ h₄.get? b = none
  have cells : ∀ x c, cl.lookup x = some c → cx.X c ∧ ∃ v, s₁.heap.IsCell c v := fun x c e => by
    obtain ⟨a, _, b⟩ := S₁.cel x c (hsc.sub x c e); exact ⟨a, b⟩
  have st0 : St w.params hb cc ρc [] s4 := {
    sh := ⟨h₄, _, rfl⟩
    tok := S₁.tok
    tk0 := Nat.le_refl _
    live := fun b hx => by
      rcases hx with rfl | rfl | rfl | hx
      · exact ⟨_, gI⟩
      · obtain ⟨k, e⟩ := gD; exact ⟨_, e⟩
      · obtain ⟨o, _, _, e, _⟩ := hns; exact ⟨o, e⟩
      · obtain ⟨o, e⟩ := S₁.live b hx; exact ⟨o, kp b o e⟩
    pres := fun b o e => e.1
    base := fun b o e => by
      have q := hv1 b o (S₁.base b o e)
      exact ⟨q.1, q.2⟩
    nsx := ⟨_, hns⟩
    fk := hsc.kind
    fg := S₁.fg
    fb := S₁.fb
    lx := .inr (.inr (.inl rfl))
    lp := fun o e => e.2.2.2 rfl
    cel := fun x c e => by
      obtain ⟨a, v, b⟩ := cells x c e
      refine ⟨.inr (.inr (.inr a)), fun z => ?_, v, b.keeps kp⟩
      obtain ⟨o, ho, _⟩ := b
      have z' : c = C := z
      rw [z', fC] at ho; cases ho
    cwr := fun h => by cases h
    vars := fun x d e => by cases e
    muo := fun _ h => nomatch h
    mui := fun _ h => nomatch h
    mnd := .nil }
  have start : Inv 0 s4 := ⟨⟨pr3, st0⟩, fun b o e _ _ _ => e, ⟨_, gI, rfl, rfl⟩, [], gD, rfl, .nil, fun b hb' => nomatch hb'⟩
  have hLC : ∀ x c, cl.lookup x = some c → c ≠ I ∧ c ≠ D := fun x c e => by
    obtain ⟨_, v, o, ho, _⟩ := cells x c e
    exact ⟨fun z => by (rw [z, fI] at ho; cases ho), fun z => by (rw [z, fD] at ho; cases ho)⟩
  -- I or D turns; all that stands then is held fast
  have turnOne : ∀ {ρ' : Rho} {pr : Addr → Obj → Prop} {s' : Shared} {h' : Heap} (a : Addr), (a = I ∨ a = D) → St w.params hb (ccp pr) ρ' [] s' → (∀ b o, b ≠ a → s'.heap.get? b = some o → h'.get? b = some o) → (∃ o, h'.get? a = some o) →
      St w.params hb (ccp fun b o => h'.get? b = some o ∧ b ≠ C) ρ' [] { s' with heap := h' } := by
    intro ρ' pr s' h' a haa S' kk al
    have aC : C ≠ a := by rcases haa with z | z; exact z ▸ Ne.symm nIC; exact z ▸ Ne.symm nDC
    have aX : X3 a := by rcases haa with z | z; exact .inl z; exact .inr (.inl z)
    have hvis : ∀ b o, vis X3 s'.heap b o → vis X3 h' b o := fun b o q => ⟨kk b o (fun e => q.2 (e ▸ aX)) q.1, q.2⟩
    have aCl : ∀ x c, cl.lookup x = some c → c ≠ a := fun x c e => by rcases haa with z | z; exact z ▸ (hLC x c e).1; exact z ▸ (hLC x c e).2
    exact {
      sh := by obtain ⟨h, t, e⟩ := S'.sh; exact ⟨h', s'.toks, by rw [e]⟩
      tok := S'.tok
      tk0 := S'.tk0
      live := fun b hx => by
        by_cases hbI : b = a
        · subst hbI; exact al
        · obtain ⟨o, e⟩ := S'.live b hx; exact ⟨o, kk b o hbI e⟩
      pres := fun b o e => e.1
      base := fun b o e => ⟨kk b o (fun z => (S'.base b o e).2 (z ▸ aX)) (S'.base b o e).1, (S'.base b o e).2⟩
      nsx := by obtain ⟨m, hm⟩ := S'.nsx; exact ⟨m, hm.at' fun o e => kk _ o aC e⟩
      fk := S'.fk
      fg := S'.fg
      fb := S'.fb
      lx := S'.lx
      lp := fun o e => e.2 rfl
      cel := fun x c e => by
        obtain ⟨a', b, v, o, ho, hd⟩ := S'.cel x c e
        exact ⟨a', b, v, o, kk c o (aCl x c e) ho, hd⟩
      cwr := fun h => by cases h
      vars := fun x d e => by
        obtain ⟨v, V, H⟩ := S'.vars x d e
        refine ⟨v, ?_, H.mono hvis⟩
        rcases V with ⟨a', m, hn, hm⟩ | ⟨a', c, hc, o, ho, hd⟩
        · exact .inl ⟨a', m, hn.at' fun o e => kk _ o aC e, hm⟩
        · exact .inr ⟨a', c, hc, o, kk c o (aCl x c hc) ho, hd⟩
      muo := fun _ h => nomatch h
      mui := fun _ h => nomatch h
      mnd := .nil }
  have hsz : vs.size = ds.length := hl
  have nl : l ≠ I ∧ l ≠ D ∧ l ≠ C := ⟨fun z => gL.2 (.inl z), fun z => gL.2 (.inr (.inl z)), fun z => gL.2 (.inr (.inr (.inl z)))⟩
  have gC4 : ∃ o, h₄.get? C = some o := by obtain ⟨o, _, _, e, _⟩ := hns; exact ⟨o, e⟩
  have loop : codeAny (model prog w) cx.A (.compLoop (.ListComp (.List [] lpos) [⟨.Name x px, iter, [], 0⟩] scope pos) 0 (.ref I) (.ref D) (compEnvC scope cl C cx.env)) (RR (.ref D) C) s4 := by
    refine compLoop_tests_any (fun k s' => ∃ i, k = ds.length + 1 - i ∧ i ≤ ds.length ∧ Inv i s') ?_ (ds.length + 1) ⟨0, rfl, Nat.zero_le _, start⟩
    rintro k s' ⟨i, rfl, hile, ⟨pr, S'⟩, kp', J', bs, hys, hyi, hyn, hyb⟩
    have Ls : s'.heap.IsList l vs := ⟨_, kp' _ _ gL.1 nl.1 nl.2.1 nl.2.2, rfl, n, rfl⟩
    have nb4 : ∀ b ∈ bs, b ≠ I ∧ b ≠ D ∧ b ≠ C := fun b hb' => by
      have q := (hyb b hb').2
      refine ⟨fun z => ?_, fun z => ?_, fun z => ?_⟩
      · rw [z, gI] at q; cases q
      · obtain ⟨k, e⟩ := gD; rw [z, e] at q; cases q
      · obtain ⟨o, e⟩ := gC4; rw [z, e] at q; cases q
    by_cases hlt : i < ds.length
    · have hx : vs[i]? = some vs[i] := by simp [show i < vs.size by omega]
      have hd : ds[i]? = some ds[i] := by simp [hlt]
      refine noE' (wpAny_pyNext_list_item (E := NoE) J' Ls hx fun h' hit' hsb' => ?_) fun _ _ x => x
      refine (lot_name (x := x) (px := px)).run hit' ?_
      have S₅ := turnOne (h' := h') I (.inl rfl) S' (fun b o nb e => (hsb'.2 b nb).trans e) (by obtain ⟨o, e, _⟩ := hit'; exact ⟨o, e⟩)
      have hys₅ : h'.PlainList D (bs.map Value.ref).toArray := hys.at fun o e => (hsb'.2 D (Ne.symm nID)).trans e
      obtain ⟨io, gio, hio⟩ := id hit'
      obtain ⟨dn, gdo⟩ := id hys₅
      have Hi : Holds w.params (vis X3 h') vs[i] ds[i] := (hit i vs[i] ds[i] hx hd).mono fun a o q => by
        have q4 := hv1 a o q
        have q' := kp' a o q4.1 (fun z => q4.2 (.inl z)) (fun z => q4.2 (.inr (.inl z))) (fun z => q4.2 (.inr (.inr (.inl z))))
        exact ⟨(hsb'.2 a fun e => q4.2 (.inl e)).trans q', q4.2⟩
      refine noE' ((asg_name (px := px) (d := ds[i]) (cx := ccp fun b o => h'.get? b = some o ∧ b ≠ C) (hkx C)).run X3 _ [] _ vs[i] (fun b z => z) S₅ Hi) fun _ s₇ S₇ => ?_
      refine noE' ((etall_nil (prog := prog) (hb := hb) (cx := ccp fun b o => h'.get? b = some o ∧ b ≠ C) (ρ := upd ρc x ds[i])).run s₇ S₇) fun ok s₈ q => ?_
      obtain ⟨rfl, k₈⟩ := q
      have S₈ := S₇.keeps k₈
      simp only [if_true]
      refine noE' ((newl_empty (prog := prog) (hb := hb) (pos := lpos) (cx := ccp fun b o => h'.get? b = some o ∧ b ≠ C) (ρ := upd ρc x ds[i]) (mus := [])).run s₈ S₈) fun y s₉ q => ?_
      obtain ⟨k₉, b₉, rfl, hb₉, vs₉, p₉, z₉, _⟩ := q
      have S₉ := S₈.keeps k₉
      have hz0 : vs₉ = #[] := Array.size_eq_zero_iff.mp z₉
      subst hz0
      have gD₉ : s₉.heap.PlainList D (bs.map Value.ref).toArray := ⟨dn, S₉.pres D _ ⟨gdo, nDC⟩⟩
      refine noE' (wpAny_list_append_plain (E := NoE) gD₉ (fun h₁₀ hp hs => ?_) (by rw [List.size_toArray, List.length_map]; omega)) fun _ _ x => x
      have kk : ∀ b o, b ≠ D → s₉.heap.get? b = some o → h₁₀.get? b = some o := fun b o nb e => (hs.2 b nb).trans e
      have n7 : ∀ b o, h'.get? b = some o → b ≠ C → b ≠ D → h₁₀.get? b = some o := fun b o e nc nd => kk b o nd (S₉.pres b o ⟨e, nc⟩)
      have n8 : ∀ b o, h'.get? b = some o → b ≠ C → s₈.heap.get? b = some o := fun b o e nc => S₈.pres b o ⟨e, nc⟩
      have nD₉ : b₉ ≠ D := fun z => by have := n8 D _ gdo nDC; rw [← z, hb₉] at this; cases this
      refine ⟨ds.length + 1 - (i + 1), by omega, i + 1, rfl, hlt, ⟨_, (turnOne (h' := h₁₀) D (.inr rfl) S₉ kk (by obtain ⟨k, e⟩ := hp; exact ⟨_, e⟩)).forget (fun y d e => by cases e)⟩, ?_, ?_, bs ++ [b₉], ?_, ?_, ?_, ?_⟩
      · intro b o e n1 n2 n3
        exact n7 b o ((hsb'.2 b n1).trans (kp' b o e n1 n2 n3)) n3 n2
      · exact ⟨io, n7 I io gio nIC nID, hio⟩
      · rw [List.map_append]
        simpa using hp
      · rw [List.length_append, hyi]; rfl
      · rw [List.nodup_append]
        refine ⟨hyn, by simp, fun a ha b hb' e => ?_⟩
        rw [List.mem_singleton] at hb'
        subst hb'; subst e
        obtain ⟨k, e⟩ := (hyb a ha).1
        have := n8 a _ ((hsb'.2 a (nb4 a ha).1).trans e) (nb4 a ha).2.2
        rw [hb₉] at this; cases this
      · intro b hb'
        rcases List.mem_append.mp hb' with hb' | hb'
        · obtain ⟨k, e⟩ := (hyb b hb').1
          exact ⟨⟨k, n7 b _ ((hsb'.2 b (nb4 b hb').1).trans e) (nb4 b hb').2.2 (nb4 b hb').2.1⟩, (hyb b hb').2⟩
        · rw [List.mem_singleton] at hb'
          subst hb'
          refine ⟨p₉.at fun o e => kk _ o nD₉ e, ?_⟩
          cases q : h₄.get? b with
          | none => rfl
          | some o =>
            exfalso
            by_cases e1 : b = I
            · have := n8 I io gio nIC; rw [← e1, hb₉] at this; cases this
            · by_cases e3 : b = C
              · obtain ⟨m, hm⟩ := S₈.nsx
                obtain ⟨o', _, _, e', _⟩ := hm
                have e' : s₈.heap.get? C = some o' := e'
                rw [← e3, hb₉] at e'; cases e'
              · have := n8 b o ((hsb'.2 b e1).trans (kp' b o q e1 nD₉ e3)) e3
                rw [hb₉] at this; cases this
    · have hie : i = ds.length := by omega
      refine noE' (wpAny_pyNext_list_end (E := NoE) hh J' Ls (by simp [hsz]; omega) fun h' he => ?_) fun _ _ x => x
      have kf : Keeps s₁ { s' with heap := h' } := by
        obtain ⟨h, t, e⟩ := S'.sh
        refine ⟨h', t, by rw [e], fun b o q => ?_, by have := S'.tk0; rw [e] at this; exact this⟩
        have q4 := kp b o q
        have nI : b ≠ I := fun z => by rw [z, fI] at q; cases q
        have nD : b ≠ D := fun z => by rw [z, fD] at q; cases q
        have nC : b ≠ C := fun z => by rw [z, fC] at q; cases q
        exact he b o nI (kp' b o q4 nI nD nC)
      obtain ⟨mC, hmC⟩ := S'.nsx
      have hmC' : h'.Ns C mC := hmC.at' fun o e => he C o (Ne.symm nIC) e
      have nn : ∀ a, s₁.heap.get? a = none → s.heap.get? a = none := fun a e => by
        cases q : s.heap.get? a with
        | none => rfl
        | some o => have := keeps_get k₁ a o q; rw [e] at this; cases this
      have n4 : ∀ b, h₄.get? b = none → s₁.heap.get? b = none := fun b e => by
        cases q : s₁.heap.get? b with
        | none => rfl
        | some o => have := kp b o q; rw [e] at this; cases this
      refine hRR D C _ mC bs (hyi.trans hie) ?_ ?_ (keeps_trans k₁ kf) hmC' (hys.at fun o e => he D o (Ne.symm nID) e) fun b hb' => (hyb b hb').1.at fun o e => he b o (nb4 b hb').1 e
      · rw [List.nodup_cons, List.nodup_cons]
        refine ⟨fun h => ?_, fun h => (nb4 D h).2.1 rfl, hyn⟩
        rcases List.mem_cons.mp h with z | h
        · exact nDC z.symm
        · exact (nb4 C h).2.2 rfl
      · intro b hb'
        rcases List.mem_cons.mp hb' with rfl | hb'
        · exact nn _ fC
        · rcases List.mem_cons.mp hb' with rfl | hb'
          · exact nn _ fD
          · exact nn _ (n4 b (hyb b hb').2)
  refine codeAny_compStart_list loop ?_
  refine noE' (E := _) (wpAny_pyIter_listiter (E := NoE) (l := l) (i := 0) ⟨_, gI, rfl, rfl⟩ ?_) fun _ _ x => x
  exact loop
end
end Mine
end

section
open PySem PySem.W PySem.Calls PySem.Spec PyProof.Rows
set_option Elab.async false
set_option linter.unusedVariables false
namespace Mine

section
variable {prog : Program} {w : World} {hb : Heap} {cx : Cx} {ρ : Rho} {mus : Mus} {R : Flow → Shared → Prop}

theorem newLs_fst (D : Addr) (bs : List Addr) : (newLs D bs).map (·.1) = D :: bs := by
  simp [newLs, Function.comp_def]

/-- `y = [[] for x in iter]` -/
theorem ex_assign_lists {x y : Str} {px py lpos spos : Pos} {iter : Expr} {scope : Scope} {cl : List (Str × Addr)} {pos : Pos} {ds : List D} {rest : List Stmt}
    (hh : cx.A.handled = none) (hi : Ev prog w hb cx ρ mus iter (.list ds)) (hsc : CompSc cx scope cl)
    (hkx : ∀ C, (compEnvC scope cl C cx.env).kindOf x = some .local) (hz : ds.length ≤ sizeLine) (hy : cx.env.kindOf y = some .local)
    (hr : ∀ D bs, bs.length = ds.length → (D :: bs).Nodup → (∀ b ∈ D :: bs, ¬ cx.X b) → Ex prog w hb { cx with X := fun b => b ∈ D :: bs ∨ cx.X b } (upd ρ y (.opq (.ref D))) (newLs D bs ++ mus) rest R)
    (hsw : swapsWith (.ListComp (.List [] lpos) [⟨.Name x px, iter, [], 0⟩] scope pos) (some (.Name y py)) spos.line cx.env = pure true := by rfl)
    (hs : ∀ x, foldedSetIterable iter cx.env x = pure x := by intro _; rfl) :
    Ex prog w hb cx ρ mus (.Assign [.Name y py] (.ListComp (.List [] lpos) [⟨.Name x px, iter, [], 0⟩] scope pos) spos :: rest) R := .mk fun s S => by
  refine wpAny_execs_cons ?_
  rw [exec_Assign_Name_used _ _ _ _ hsw]
  refine wpAny_bind (wpAny_standAt (wpAny_bind ?_))
  show wpAny _ cx.A (do let _ ← comprehension (.ListComp (.List [] lpos) [⟨.Name x px, iter, [], 0⟩] scope pos) scope cx.env _ (newList []) false (eval iter cx.env) (some (assign (.Name y py) cx.env))) _ _ s
  refine wpAny_bind (wpAny_mono (wpAny_comprehension_free (use := some (assign (.Name y py) cx.env)) (Q := fun _ s' => wpAny (model prog w) cx.A (execs rest cx.env) R NoE s') rfl hs hsc.clos hsc.kind hsc.names
    (comp_lists (RR := fun acc C r s' => compPost (model prog w) cx.A NoE (some (assign (.Name y py) cx.env)) (fun _ s' => wpAny (model prog w) cx.A (execs rest cx.env) R NoE s') acc C r s') hh hi hsc hkx hz S (fun D C s' m bs hbl hnd hfr k hm hD hbs => ?_))) (fun _ s' hq => wpAny_pure (wpAny_pure hq)) fun _ _ e => e)
  show wpAny _ cx.A (assign (.Name y py) cx.env (.ref D)) _ _ _
  have notX : ∀ b ∈ C :: D :: bs, ¬ cx.X b := fun b hb' z => by obtain ⟨o, e⟩ := S.live b z; rw [hfr b hb'] at e; cases e
  have notP : ∀ b ∈ C :: D :: bs, ∀ o, ¬ cx.pr b o := fun b hb' o z => by have e := S.pres b o z; rw [hfr b hb'] at e; cases e
  have alive : ∀ b ∈ D :: bs, ∃ o, s'.heap.get? b = some o := fun b hb' => by
    rcases List.mem_cons.mp hb' with rfl | hb'
    · obtain ⟨k, e⟩ := hD; exact ⟨_, e⟩
    · obtain ⟨k, e⟩ := hbs b hb'; exact ⟨_, e⟩
  have aliveC : ∃ o, s'.heap.get? C = some o := by obtain ⟨o, _, _, e, _⟩ := hm; exact ⟨o, e⟩
  have hm0 : ∀ (Z : Addr → Prop), ∀ p ∈ newLs D bs, MuIs w.params (vis (fun b => Z b ∨ cx.X b) s'.heap) s'.heap p.1 p.2 := fun Z p hp => by
    rcases List.mem_cons.mp hp with rfl | hp
    · refine ⟨_, hD, by simp, fun i v d a b => ?_⟩
      have a' : bs[i]?.map Value.ref = some v := by simpa using a
      have b' : bs[i]?.map (fun b => Mine.D.opq (.ref b)) = some d := by simpa using b
      cases q : bs[i]? with
      | none => rw [q] at a'; cases a'
      | some c => rw [q] at a' b'; cases a'; cases b'; exact .opq
    · obtain ⟨b, hb', rfl⟩ := List.mem_map.mp hp
      exact ⟨#[], hbs b hb', rfl, fun i v d a => by simp at a⟩
  have mem : ∀ p ∈ newLs D bs, p.1 ∈ D :: bs := fun p hp => by rw [← newLs_fst]; exact List.mem_map_of_mem hp
  have hnd' : ((newLs D bs).map (·.1)).Nodup := by rw [newLs_fst]; exact (List.nodup_cons.mp hnd).2
  have S₀ := S.addMus (Z := fun b => b ∈ D :: bs) (l := newLs D bs) k (fun a h => ⟨hfr a (List.mem_cons_of_mem _ h), alive a h⟩) mem (hm0 _) hnd'
  have S₁ := S.addMus (Z := fun b => b = C ∨ b ∈ D :: bs) (l := newLs D bs) k (fun a h => by
    rcases h with rfl | h
    · exact ⟨hfr _ (List.mem_cons_self ..), aliveC⟩
    · exact ⟨hfr a (List.mem_cons_of_mem _ h), alive a h⟩) (fun p hp => .inr (mem p hp)) (hm0 _) hnd'
  obtain ⟨mL, hmL⟩ := S₁.nsx
  have hLC : cx.env.locals ≠ C := fun z => notX C (List.mem_cons_self ..) (z ▸ S.lx)
  refine wpAny_assign_Name (wpAny_storeName_local hy hmL (fun h₂ hn₂ hs₂ => ?_) (hp_fn S.fk))
  refine ⟨m, hm.sameBut hs₂ (Ne.symm hLC), fun h₃ hs₃ => ?_⟩
  have S₂ := S₁.store (d := .opq (.ref D)) hy .opq hmL hn₂ hs₂ (s'.toks + 1)
  refine (hr D bs hbl (List.nodup_cons.mp hnd).2 fun b hb' => notX b (List.mem_cons_of_mem _ hb')).run _ (St.drop S₀ S₂ (fun b z => ?_) (fun b o z => z) (fun p hp' => S₀.muo p hp') (h' := h₃) fun b o q e => (hs₃.2 b fun z => ?_).trans e)
  · rcases z with z | z
    · exact .inl (.inr z)
    · exact .inr z
  · subst z
    rcases q with q | q | q
    · rcases q with q | q
      · exact (List.nodup_cons.mp hnd).1 q
      · exact notX b (List.mem_cons_self ..) q
    · exact q (.inl (.inl rfl))
    · exact notP b (List.mem_cons_self ..) o q
end
end Mine
end

section
open PySem PySem.W PySem.Calls PySem.Spec PyProof.Rows
set_option Elab.async false
set_option linter.unusedVariables false
namespace Mine

section
variable {prog : Program} {w : World} {hb : Heap} {cx : Cx} {ρ : Rho} {mus : Mus} {R : Flow → Shared → Prop}

theorem ex_for_range {x : Str} {px rp rpos : Pos} {e : Expr} {body rest : List Stmt} {pos : Pos} {N : Nat} (hh : cx.A.handled = none) (ρs : Nat → Rho) (muss : Nat → Mus) (hf : Ev prog w hb cx ρ mus (.Name (Str.ofString "range") rp) (.opq (.type "range")))
    (hi : Ev prog w hb cx ρ mus e (.int N)) (hN : N < 2 ^ 60) (hkx : cx.env.kindOf x = some .local)
    (h0 : Le (ρs 0) ρ) (hm0 : muss 0 = mus) (hm : ∀ i, (muss i).map (·.1) = mus.map (·.1))
    (turn : ∀ i X' pr', i < N → (∀ b, cx.X b → X' b) → (∀ b o, cx.pr b o → pr' b o) →
      Ex prog w hb { cx with X := X', pr := pr' } (upd (ρs i) x (.int i)) (muss i) body (Turn w.params hb { cx with X := X', pr := pr' } (ρs (i + 1)) (muss (i + 1)) R))
    (hr : Ex prog w hb cx (ρs N) (muss N) rest R)
    (hst : isStarred e = false := by rfl)
    (hs : ∀ y, foldedSetIterable (.Call (.Name (Str.ofString "range") rp) [e] [] rpos) cx.env y = pure y := by intro _; rfl) :
    Ex prog w hb cx ρ mus (.For (.Name x px) (.Call (.Name (Str.ofString "range") rp) [e] [] rpos) body [] pos :: rest) R := .mk fun s S => by
  refine wpAny_execs_cons (wpAny_For (wpAny_Call_Name_kw (hf.val S fun v s₀ S₀ k₀ H₀ => ?_)) hs)
  cases H₀
  show wpAny _ _ (callWith rpos (.type "range") [] (backTo rpos (starEach [e] cx.env)) []) _ _ _
  rw [starEach_ns hst]
  refine PySem.callWith_type rfl (Calls.evalArgs_plain (Calls.spliced_cons (hi.val S₀ fun v sA SA kA HA => Calls.spliced_nil ?_)))
  cases HA
  rename_i tN
  refine call_range_1 ?_
  refine wpAny_pyIter_range (IsRange.new ..) (small_one (by decide) (by decide) (by omega) (by omega)) ?_
  have hsize : Builtin.Range.rangeSize 0 (N : Int) 1 = (N : Int) := by rw [rangeSize_one]; split <;> omega
  rw [hsize]
  generalize hs1 : ({ sA with heap := sA.heap.push { cls := .type "range", data := .fields #[.int 0 sA.toks, .int (N : Int) tN, .int 1 (sA.toks + 1)] }, toks := sA.toks + 1 + 1 } : Shared) = s₁
  have kA' : Keeps sA s₁ := by subst hs1; exact ⟨_, _, rfl, fun b o e => Heap.get?_push_of_some _ e, by show sA.toks ≤ sA.toks + 1 + 1; omega⟩
  have S₁ := SA.keeps kA'
  -- the iterator
  generalize hI : s₁.heap.objs.size = I
  have hIf : s₁.heap.get? I = none := hI ▸ get_fresh
  have hIX : ¬ cx.X I := hI ▸ fresh_not S₁.live
  have hIp : ∀ o, ¬ cx.pr I o := fun o e => by have := S₁.pres I o e; rw [hIf] at this; cases this
  have hIb : hb.get? I = none := by
    cases e : hb.get? I with
    | none => rfl
    | some o => have := (S₁.base I o e).1; rw [hIf] at this; cases this
  let it (i : Nat) : Obj := { cls := .type "range_iterator", data := .fields #[rawInt (i : Int), rawInt ((N : Int) - (i : Int)), rawInt 1] }
  generalize hh2 : s₁.heap.push (it 0) = h₂
  have kp : ∀ b o, s₁.heap.get? b = some o → h₂.get? b = some o := fun b o e => hh2 ▸ Heap.get?_push_of_some _ e
  have S₂ : St w.params hb cx ρ mus { s₁ with heap := h₂ } := S₁.keeps ⟨h₂, s₁.toks, rfl, kp, Nat.le_refl _⟩
  have hgI : h₂.get? I = some (it 0) := by rw [← hh2, ← hI]; exact Heap.get?_push_size _ rfl
  -- what is seen ahead of the iterator
  have hvI : ∀ a o, vis cx.X s₁.heap a o → vis (fun b => b = I ∨ cx.X b) h₂ a o := fun a o q => ⟨kp a o q.1, fun z => by
    rcases z with rfl | z
    · have := q.1; rw [hIf] at this; cases this
    · exact q.2 z⟩
  -- the invariant
  let XI : Addr → Prop := fun b => b = I ∨ cx.X b
  let prI : Addr → Obj → Prop := fun b o => cx.pr b o ∨ (h₂.get? b = some o ∧ ¬ XI b)
  let Inv : Nat → Shared → Prop := fun i s' => St w.params hb { cx with X := XI, pr := prI } (ρs i) (muss i) s' ∧ IsRangeIter s'.heap I (i : Int) ((N : Int) - (i : Int)) 1
  have hMu : ∀ i, ∀ p ∈ muss i, MuOk cx p.1 := fun i p hp => by
    have : p.1 ∈ mus.map (·.1) := hm i ▸ List.mem_map_of_mem hp
    obtain ⟨q, hq, e⟩ := List.mem_map.mp this
    exact e ▸ S.muo q hq
  have start : Inv 0 { s₁ with heap := h₂ } := by
    refine ⟨?_, hgI⟩
    have Sx := (S₂.forget h0).hideNew I (it 0) hgI hIX hIp hIb (fun x d e => by
        obtain ⟨v', V, H'⟩ := S₁.vars x d (h0 x d e)
        exact ⟨v', V.keeps kp, H'.mono hvI⟩) (fun p hp => (S₁.mui p hp).mono hvI fun o e => kp _ o e)
    rw [hm0]
    exact { Sx with
      pres := fun b o e => Sx.pres b o (e.elim .inl fun e => .inr (.inl e))
      lp := fun o e => Sx.lp o (e.elim .inl fun e => .inr (.inl e))
      cwr := fun hw x c e => ⟨fun o z => (Sx.cwr hw x c e).1 o (z.elim .inl fun z => .inr (.inl z)), (Sx.cwr hw x c e).2⟩
      muo := fun p hp => ⟨(Sx.muo p hp).x, (Sx.muo p hp).nl, fun o z => (Sx.muo p hp).np o (z.elim .inl fun z => .inr (.inl z)), (Sx.muo p hp).nc⟩ }
  have see : ∀ {i : Nat} {s' : Shared}, St w.params hb { cx with X := XI, pr := prI } (ρs i) (muss i) s' → ∀ a o, vis XI h₂ a o → vis XI s'.heap a o := fun S' a o q => ⟨S'.pres a o (.inr ⟨q.1, q.2⟩), q.2⟩
  -- the iterator turns alone
  have step : ∀ {i : Nat} {s' : Shared} {h' : Heap}, Inv i s' → IsRangeIter h' I ((i + 1 : Nat) : Int) ((N : Int) - ((i + 1 : Nat) : Int)) 1 → Heap.SameBut I s'.heap h' → ∃ io, h'.get? I = some io ∧ St w.params hb { cx with X := XI, pr := fun b o => prI b o ∨ (b = I ∧ o = io) } (ρs i) (muss i) { s' with heap := h' } := by
    intro i s' h' J hit' hsb
    obtain ⟨io, hio⟩ : ∃ io, h'.get? I = some io := ⟨_, hit'⟩
    refine ⟨io, hio, ?_⟩
    obtain ⟨S', J'⟩ := J
    have kk : ∀ b o, b ≠ I → s'.heap.get? b = some o → h'.get? b = some o := fun b o nb e => (hsb.2 b nb).trans e
    have hLI : cx.env.locals ≠ I := fun e => hIX (e ▸ S.lx)
    have hCI : ∀ x c, cx.env.cells.lookup x = some c → c ≠ I := fun x c e z => hIX (z ▸ (S.cel x c e).1)
    have hvis : ∀ a o, vis XI s'.heap a o → vis XI h' a o := fun b o q => ⟨kk b o (fun e => q.2 (.inl e)) q.1, q.2⟩
    exact {
      sh := by obtain ⟨h, t, e⟩ := S'.sh; exact ⟨h', t, by rw [e]⟩
      tok := S'.tok
      tk0 := S'.tk0
      live := fun b hx => by
        by_cases hbI : b = I
        · subst hbI; exact ⟨io, hio⟩
        · obtain ⟨o, e⟩ := S'.live b hx; exact ⟨o, kk b o hbI e⟩
      pres := fun b o e => by
        rcases e with e | ⟨rfl, rfl⟩
        · refine kk b o (fun z => ?_) (S'.pres b o e)
          subst z
          rcases e with e | ⟨_, e⟩
          · exact hIp o e
          · exact e (.inl rfl)
        · exact hio
      base := fun b o e => ⟨kk b o (fun z => (S'.base b o e).2 (.inl z)) (S'.base b o e).1, (S'.base b o e).2⟩
      nsx := by obtain ⟨m, hm⟩ := S'.nsx; exact ⟨m, hm.at' fun o e => kk _ o hLI e⟩
      fk := S'.fk
      fg := S'.fg
      fb := S'.fb
      lx := S'.lx
      lp := fun o e => by
        rcases e with e | ⟨e, _⟩
        · exact S'.lp o e
        · exact hLI e
      cel := fun x c e => by
        obtain ⟨a, b, v, o, ho, hd⟩ := S'.cel x c e
        exact ⟨a, b, v, o, kk c o (hCI x c e) ho, hd⟩
      cwr := fun hw x c e => ⟨fun o z => by
        rcases z with z | ⟨z, _⟩
        · exact (S'.cwr hw x c e).1 o z
        · exact hCI x c e z, (S'.cwr hw x c e).2⟩
      vars := fun x d e => by
        obtain ⟨v, V, H⟩ := S'.vars x d e
        refine ⟨v, ?_, H.mono hvis⟩
        rcases V with ⟨a, m, hn, hm⟩ | ⟨a, c, hc, o, ho, hd⟩
        · exact .inl ⟨a, m, hn.at' fun o e => kk _ o hLI e, hm⟩
        · exact .inr ⟨a, c, hc, o, kk c o (hCI x c hc) ho, hd⟩
      muo := fun p hp => ⟨(S'.muo p hp).x, (S'.muo p hp).nl, fun o z => by
        rcases z with z | ⟨z, _⟩
        · exact (S'.muo p hp).np o z
        · exact hIX (z ▸ (hMu i p hp).x), (S'.muo p hp).nc⟩
      mui := fun p hp => (S'.mui p hp).mono hvis fun o e => kk _ o (fun z => hIX (z ▸ (hMu i p hp).x)) e
      mnd := S'.mnd }
  have hgoal : s₁.heap.push { cls := .type "range_iterator", data := .fields #[rawInt 0, rawInt (N : Int), rawInt 1] } = h₂ := by rw [← hh2]; simp [it]
  rw [hgoal]
  refine codeAny_forLoop_any (fun k s' => ∃ i, k = N + 1 - i ∧ i ≤ N ∧ Inv i s') ?_ (N + 1) ⟨0, rfl, Nat.zero_le _, start⟩
  rintro k s' ⟨i, rfl, hile, J⟩
  by_cases hlt : i < N
  · refine noE' (wpAny_pyNext_range_item (E := NoE) J.2 (by omega) fun h' hit₀ hsb => ?_) fun _ _ x => x
    have hit' : IsRangeIter h' I ((i + 1 : Nat) : Int) ((N : Int) - ((i + 1 : Nat) : Int)) 1 := by
      have e1 : ((i + 1 : Nat) : Int) = (i : Int) + 1 := by omega
      have e2 : (N : Int) - ((i : Int) + 1) = (N : Int) - (i : Int) - 1 := by omega
      rw [e1, e2]; exact hit₀
    show wpAny _ _ (letOwnedTupleGo (.Name x px) _ _) _ _ _
    refine wpAny_pure ?_
    obtain ⟨io, hio, S''⟩ := step J hit' hsb
    have S' := S''.keeps (s' := { s' with heap := h', toks := s'.toks + 1 }) ⟨h', s'.toks + 1, rfl, fun b o e => e, by show s'.toks ≤ _; omega⟩
    refine noE' ((asg_name (px := px) (d := .int i) (cx := { cx with X := XI, pr := fun b o => prI b o ∨ (b = I ∧ o = io) }) hkx).run XI _ (muss i) _ (.int i s'.toks) (fun b z => z) S' .int) fun _ s₃ S₃ => ?_
    refine noE' ((turn i XI _ hlt (fun b z => .inr z) (fun b o z => .inl (.inl z))).run s₃ S₃) fun f s₄ T => ?_
    have close : St w.params hb { cx with X := XI, pr := fun b o => prI b o ∨ (b = I ∧ o = io) } (ρs (i + 1)) (muss (i + 1)) s₄ → ∃ m, m < N + 1 - i ∧ ∃ j, m = N + 1 - j ∧ j ≤ N ∧ Inv j s₄ := fun S₄ => by
      refine ⟨N + 1 - (i + 1), by omega, i + 1, rfl, hlt, ?_, ?_⟩
      · exact { S₄ with
          pres := fun b o e => S₄.pres b o (.inl e)
          lp := fun o e => S₄.lp o (.inl e)
          cwr := fun hw x c e => ⟨fun o z => (S₄.cwr hw x c e).1 o (.inl z), (S₄.cwr hw x c e).2⟩
          muo := fun p hp => ⟨(S₄.muo p hp).x, (S₄.muo p hp).nl, fun o z => (S₄.muo p hp).np o (.inl z), (S₄.muo p hp).nc⟩ }
      · have q : h'.get? I = some io := hio
        have q2 : h'.get? I = some _ := hit'
        rw [q2] at q
        cases q
        exact S₄.pres I _ (.inr ⟨rfl, rfl⟩)
    cases f with
    | next => exact close T
    | cont => exact close T
    | brk => exact T.elim
    | ret v => exact T
  · have hie : i = N := by omega
    subst hie
    refine noE' (wpAny_pyNext_range_end (E := NoE) hh J.2 (by omega) fun h' he => ?_) fun _ _ x => x
    refine wpAny_execs_nil ?_
    refine hr.run _ (St.drop S J.1 (fun b z => .inr z) (fun b o z => .inl z) (hMu _) (h' := h') fun b o q e => he b o (fun z => ?_) e)
    subst z
    rcases q with q | q | q
    · exact hIX q
    · exact q (.inl rfl)
    · exact hIp o q
end
end Mine
end

section
open PySem PySem.W PySem.Calls PySem.Spec PyProof.Rows
set_option Elab.async false
set_option linter.unusedVariables false
namespace Mine

theorem canLayAll0_strs : ∀ xs : List Str, (∀ x ∈ xs, PyData.strOk x = true) → PyData.canLayAll0 (xs.map PyData.str) = true
  | [], _ => rfl
  | x :: r, h => by simp [PyData.canLayAll0, PyData.canLay0, canLayAll0_strs r fun y hy => h y (List.mem_cons_of_mem _ hy), h x (List.mem_cons_self ..)]
theorem depthAll_strs : ∀ xs : List Str, PyData.depthAll (xs.map PyData.str) = 0
  | [] => rfl
  | _ :: r => by simp [PyData.depthAll, PyData.depth, depthAll_strs r]
theorem shaped_strs (xs : List Str) (h : ∀ x ∈ xs, PyData.strOk x = true) : SeqAt.shaped (.list (xs.map PyData.str)) = true := by
  simp [SeqAt.shaped, PyData.canLay0, PyData.depth, canLayAll0_strs xs h, depthAll_strs]
theorem sameAll_strs : ∀ xs ys : List Str, PySem.Spec.sameAll (xs.map PyData.str) (ys.map PyData.str) = decide (xs = ys)
  | [], [] => by simp [PySem.Spec.sameAll]
  | [], _ :: _ => by simp [PySem.Spec.sameAll]
  | _ :: _, [] => by simp [PySem.Spec.sameAll]
  | a :: r, b :: t => by
    simp only [List.map_cons, PySem.Spec.sameAll, PySem.Spec.same, sameAll_strs r t]
    by_cases h : a = b <;> by_cases h' : r = t <;> simp [h, h']

section
variable {prog : Program} {w : World}
theorem carried_strs {P : Params} {V : Vis} : ∀ (vs : List Value) (xs : List Str), vs.length = (xs.map D.str).length → (∀ (i : Nat) (v : Value) (d : D), vs[i]? = some v → (xs.map D.str)[i]? = some d → Holds P V v d) → CarriedAll vs (xs.map PyData.str)
  | [], [], _, _ => .nil
  | [], _ :: _, h, _ => by simp at h
  | _ :: _, [], h, _ => by simp at h
  | v :: vs, x :: xs, h, hi => by
    have h0 := hi 0 v (.str x) rfl rfl
    cases h0
    exact .cons (.str _ _) (carried_strs vs xs (by simpa using h) fun i v d a b => hi (i + 1) v d (by simpa using a) (by simpa using b))

theorem op_ne_strs {xs ys : List Str} (h1 : ∀ x ∈ xs, PyData.strOk x = true) (h2 : ∀ x ∈ ys, PyData.strOk x = true) : Op2 prog w (compareOp .NotEq) (.list (xs.map .str)) (.list (ys.map .str)) (.bool (!decide (xs = ys))) := by
  refine ⟨?_⟩; intro A X s va vb hA hX ha hb
  obtain ⟨a, vs, n, rfl, hv, hl, hi⟩ := holds_list ha
  obtain ⟨b, us, m, rfl, hv', hl', hi'⟩ := holds_list hb
  exact ne_dataH_same (reads_newData (ys := vs.toList) ⟨_, hv.1, rfl, n, rfl⟩ (carried_strs vs.toList xs (by simpa using hl) fun i v d p q => hi i v d (by simpa using p) q))
    (reads_newData (ys := us.toList) ⟨_, hv'.1, rfl, m, rfl⟩ (carried_strs us.toList ys (by simpa using hl') fun i v d p q => hi' i v d (by simpa using p) q)) (shaped_strs _ h1) (shaped_strs _ h2) (by have := hA.un; show A.units + 64 < cLine; unfold cLine; omega)
    (SeqAt.noMix_of_shape (.list .str) rfl _ _ (list_map_has fun _ => rfl) (list_map_has fun _ => rfl)) (by simp only [PySem.Spec.same]; rw [sameAll_strs]; exact ⟨keeps_refl, .bool⟩)
end
end Mine
end

section
open PySem PySem.W PySem.Calls PySem.Spec PyProof.Rows
set_option Elab.async false
set_option linter.unusedVariables false
namespace Mine

section
variable {prog : Program} {w : World}
theorem ints_are {P : Params} {V : Vis} : ∀ (vs : List Value) (xs : List Int), vs.length = (xs.map D.int).length → (∀ (i : Nat) (v : Value) (d : D), vs[i]? = some v → (xs.map D.int)[i]? = some d → Holds P V v d) → IntsAre vs xs
  | [], [], _, _ => .nil
  | [], _ :: _, h, _ => by simp at h
  | _ :: _, [], h, _ => by simp at h
  | v :: vs, x :: xs, h, hi => by
    have h0 := hi 0 v (.int x) rfl rfl
    cases h0
    exact .cons _ _ (ints_are vs xs (by simpa using h) fun i v d a b => hi (i + 1) v d (by simpa using a) (by simpa using b))

theorem op_eq_ints {xs ys : List Int} : Op2 prog w (compareOp .Eq) (.list (xs.map .int)) (.list (ys.map .int)) (.bool (decide (xs = ys))) := by
  refine ⟨?_⟩; intro A X s va vb hA hX ha hb
  obtain ⟨a, vs, n, rfl, hv, hl, hi⟩ := holds_list ha
  obtain ⟨b, us, m, rfl, hv', hl', hi'⟩ := holds_list hb
  exact eq_intsK (vs := vs.toList) (us := us.toList) ⟨_, hv.1, rfl, n, rfl⟩ (ints_are vs.toList xs (by simpa using hl) fun i v d p q => hi i v d (by simpa using p) q)
    ⟨_, hv'.1, rfl, m, rfl⟩ (ints_are us.toList ys (by simpa using hl') fun i v d p q => hi' i v d (by simpa using p) q) (by have := hA.un; show A.units + 64 < cLine; unfold cLine; omega) ⟨keeps_refl, .bool⟩
end
end Mine
end

section
open PySem PySem.W PySem.Calls PySem.Spec PyProof.Rows
set_option Elab.async false
set_option linter.unusedVariables false
namespace Mine

section
variable {prog : Program} {w : World} {hb : Heap} {cx : Cx} {ρ : Rho} {mus : Mus}

theorem ev_list_take {x : Str} {xp p pos : Pos} {e : Expr} {ds : List D} {k : Nat} (hv : Ev prog w hb cx ρ mus (.Name x xp) (.list ds)) (he : Ev prog w hb cx ρ mus e (.int k)) (hz : ds.length ≤ sizeLine) :
    Ev prog w hb cx ρ mus (.Subscript (.Name x xp) (.Slice none (some e) none p) pos) (.list (ds.take k)) := .mk fun s S => by
  refine wpAny_Subscript_list_slice (hv.val S fun v s₁ S₁ k₁ h₁ => wpAny_evalPart_none ?_)
  rw [evalPart_some]
  refine he.val S₁ fun i s₂ S₂ k₂ h₂ => ?_
  obtain ⟨t, rfl⟩ := holds_int h₂
  have h₁' := keep_vis h₁ k₂
  obtain ⟨l, vs, n, rfl, hv, hl, hi⟩ := holds_list h₁'
  refine ⟨l, vs, _, _, rfl, ⟨_, hv.1, rfl, n, rfl⟩, by omega, .none, .int _ _, ?_, ?_⟩
  · exact keeps_trans (keeps_trans k₁ k₂) (keeps_trans keeps_push (keeps_push (s := { s₂ with heap := _ })))
  · rw [slicePick_upto' vs k]
    have hg : Heap.get? ((s₂.heap.push { cls := .type "slice", data := .fields #[.none, .int k t, .none] }).push { cls := .type "list", data := .seq (vs.toList.take k).toArray }) (s₂.heap.objs.size + 1) = some { cls := .type "list", data := .seq (vs.toList.take k).toArray } := by
      have := Heap.get?_push_size (s₂.heap.push { cls := .type "slice", data := .fields #[.none, .int k t, .none] }) (o := { cls := .type "list", data := .seq (vs.toList.take k).toArray }) rfl
      rw [Heap.size_push] at this; exact this
    refine .list (n := 0) ⟨hg, fun z => ?_⟩ (by simp [hl]) fun i v d a b => ?_
    · obtain ⟨o, q⟩ := S₂.live _ z
      exact absurd (Heap.lt_size q) (Nat.not_lt.mpr (Nat.le_succ _))
    · have a' : (vs.toList.take k)[i]? = some v := by simpa using a
      rw [List.getElem?_take] at a' b
      split at a'
      · rename_i c
        rw [if_pos c] at b
        refine (hi i v d (by simpa using a') b).mono (vis_keeps fun b o q => Heap.get?_push_of_some _ (Heap.get?_push_of_some _ q))
      · cases a'
end
end Mine
end

section
open PySem PySem.W PySem.Calls PySem.Spec PyProof.Rows
set_option Elab.async false
set_option linter.unusedVariables false
namespace Mine
local macro_rules | `(tactic| walk_at "var") => `(tactic| first | exact upd_same | exact asc_same | (apply upd_ne (by decide); walk_at "var") | (apply asc_ne (by decide); walk_at "var") | (with_unfolding_all exact asc_same))
local macro_rules | `(tactic| walk_at "le") => `(tactic| first | exact le_nil | (refine le_cons ?_ ?_; (walk_at "var"); (walk_at "le")))

structure Row where
  sign : Str
  over : List Nat
  shell : Int

noncomputable def rowD (r : Row) : D := .tup [.str r.sign, nats r.over, .int r.shell]
noncomputable def rowsD (l : List Row) : D := .list (l.map rowD)
noncomputable def strsD (l : List Str) : D := .list (l.map D.str)
noncomputable def seenOf (h p : Nat) (above : List Nat) (shell : Int) : Int := if h = 1 ∧ shell < 0 ∧ 3 ∉ above ∧ 4 ∉ above then p else shell
noncomputable def rowsL (K : List (List Nat)) (H : List Nat) (S : List Str) : Nat → Nat → List Nat → Int → List Row
  | 0, _, _, _ => []
  | f + 1, p, above, shell =>
    let h := H.getD p 0
    let here := h :: above
    let seen := seenOf h p above shell
    let mid := [⟨Str.ofString "(", here, seen⟩, ⟨S.getD p Str.empty, here, seen⟩] ++ ((kidsOf K p).flatMap fun q => rowsL K H S f q here seen) ++ [⟨Str.ofString ")", here, seen⟩]
    if h = 1 then [⟨Str.ofString "k", above, shell⟩, ⟨Str.ofString "=", above, shell⟩, ⟨Str.ofString "\"", above, seen⟩] ++ mid ++ [⟨Str.ofString "\"", above, seen⟩] else mid

section
variable {prog : Program} {w : World} {hb : Heap} {mg mb : Str → Option Value} {cx : Cx} {ρ : Rho} {mus : Mus}

theorem nats_ints (l : List Nat) : nats l = .list ((l.map fun (n : Nat) => (n : Int)).map .int) := by simp [nats]
theorem op_notin_nats {k : Nat} {l : List Nat} : Op2 prog w (compareOp .NotIn) (.int k) (nats l) (.bool (!l.contains k)) := by
  have h : (l.map fun (n : Nat) => (n : Int)).contains (k : Int) = l.contains k := by
    rw [Bool.eq_iff_iff]; simp only [List.contains_iff_mem, List.mem_map]
    exact ⟨fun ⟨a, h, e⟩ => by rw [← Int.ofNat.inj e]; exact h, fun h => ⟨k, h, rfl⟩⟩
  rw [nats_ints, ← h]; exact op_notin_ints

set_option maxHeartbeats 4000000 in
theorem rows_fn {aL : Addr} {nme qual : Str} {kV doc pm cdv ct : Value} {an : Option Addr} (M : Mod hb mg mb) (Df : DefIs hb mg "_law_rows" (defAt 20) aL .none nme qual kV doc pm cdv ct an)
    {K : List (List Nat)} {H : List Nat} {S : List Str} (hK : Wk K) (hH : H.length = K.length) (hS : S.length = K.length) (hz : ∀ f p a s, (rowsL K H S f p a s).length ≤ 1000) :
    ∀ f p above shell, p < K.length → K.length - p ≤ f → above.length + f ≤ 1000 → Fn prog w hb (f + 1) (.ref aL) [.int p, kidsD K, nats H, strsD S, nats above, .int shell] (rowsD (rowsL K H S f p above shell)) := by
  intro f
  induction f with
  | zero => intro p above shell h1 h2; omega
  | succ f ih =>
    intro p above shell h1 h2 h3
    obtain ⟨o, ho, hd⟩ := Df.obj
    refine fn_intro (body := dBody (defAt 20)) (ps := [Str.ofString "place", Str.ofString "kids", Str.ofString "hands", Str.ofString "signs", Str.ofString "above", Str.ofString "shell"]) ho hd M.lim Df.code rfl ?_ (show ∀ x ∈ (dScope (defAt 20)).names, x.2 ≠ .cell from by decide)
      (show ∀ x ∈ [Str.ofString "place", Str.ofString "kids", Str.ofString "hands", Str.ofString "signs", Str.ofString "above", Str.ofString "shell"], (dScope (defAt 20)).names.lookup x = some .local from by decide) rfl (by decide) rfl rfl rfl ?_
    · intro s vs _ hl
      obtain ⟨v1, v2, v3, v4, v5, v6, rfl⟩ := len6 hl
      exact BindsTo.of_eq rfl
    · intro A X s hA
      let base : List (Str × D) := [(Str.ofString "place", .int p), (Str.ofString "kids", kidsD K), (Str.ofString "hands", nats H), (Str.ofString "signs", strsD S), (Str.ofString "above", nats above), (Str.ofString "shell", .int shell)]
      show Ex prog w hb _ (asc [(Str.ofString "place", .int p), (Str.ofString "kids", kidsD K), (Str.ofString "hands", nats H), (Str.ofString "signs", strsD S), (Str.ofString "above", nats above), (Str.ofString "shell", .int shell)]) _ _ _
      have hA1 : Room 1 (cxOf A (fnOf nme qual (dArgs (defAt 20)) (dBody (defAt 20)) (dScope (defAt 20)) .none kV doc pm an cdv ct) aL X s).A := (hA.deeper _).le (by omega)
      have hAf : Room (f + 1) (cxOf A (fnOf nme qual (dArgs (defAt 20)) (dBody (defAt 20)) (dScope (defAt 20)) .none kV doc pm an cdv ct) aL X s).A := hA.deeper _
      have hs1 : sizeLine = 16777216 := sizeLine_eq
      have hK7 := hK.1
      have hHp : H[p]? = some H[p] := by simp [show p < H.length by omega]
      have hHd : H.getD p 0 = H[p] := getD_of hHp
      have hHi : (H.map fun (n : Nat) => D.int n)[p]? = some (.int (H[p] : Nat)) := by rw [List.getElem?_map, hHp]; rfl
      have hSp : S[p]? = some S[p] := by simp [show p < S.length by omega]
      have hSd : S.getD p Str.empty = S[p] := by simp [show p < S.length by omega]
      have hSi : (S.map D.str)[p]? = some (.str S[p]) := by rw [List.getElem?_map, hSp]; rfl
      have eH : ∀ {ρ : Rho} {X' pr'} {q1 q2 q3 : Pos}, ρ (Str.ofString "hands") = some (nats H) → ρ (Str.ofString "place") = some (.int p) → Ev prog w hb { cxOf A (fnOf nme qual (dArgs (defAt 20)) (dBody (defAt 20)) (dScope (defAt 20)) .none kV doc pm an cdv ct) aL X s with X := X', pr := pr' } ρ [] (.Subscript (.Name "hands" q1) (.Name "place" q2) q3) (.int (H[p] : Nat)) := fun a b =>
        ev_sub hA1 (ev_name a) (ev_name b) (op_item hHi (by omega) (fun _ _ => rfl))
      -- here
      refine ex_assign (d := nats (H[p] :: above)) (ev_eq ?_ (ev_bin hA1 (ev_list (evl_cons (eH (by walk_at "var") (by walk_at "var")) evl_nil)) (ev_name (by walk_at "var")) (op_add_list ?_))) rfl ?_
      · simp [nats]
      · simp; omega
      refine ex_assign (ev_name (by walk_at "var")) rfl ?_
      refine ex_if_meet (mus' := []) (c := decide (H[p] = 1 ∧ shell < 0 ∧ 3 ∉ above ∧ 4 ∉ above)) (ρ' := asc [(Str.ofString "seen", .int (seenOf H[p] p above shell)), (Str.ofString "here", nats (H[p] :: above)), (Str.ofString "place", .int p), (Str.ofString "kids", kidsD K), (Str.ofString "hands", nats H), (Str.ofString "signs", strsD S), (Str.ofString "above", nats above), (Str.ofString "shell", .int shell)]) ?_ (fun h => ?_) (fun h => ?_) ?_
      · refine et_bool ?_
        refine eta_and (et_cmp hA1 (eH (by walk_at "var") (by walk_at "var")) ev_int op_eq) (fun q1 => ?_) (fun q => ?_)
        refine eta_and (et_cmp hA1 (ev_name (by walk_at "var")) ev_int op_lt) (fun q2 => ?_) (fun q => ?_)
        refine eta_and (et_cmp hA1 ev_int (ev_name (by walk_at "var")) (op_notin_nats (k := 3))) (fun q3 => ?_) (fun q => ?_)
        refine eta_one (et_eq ?_ (et_cmp hA1 ev_int (ev_name (by walk_at "var")) (op_notin_nats (k := 4))))
        · simp only [beq_iff_eq] at q1
          simp only [decide_eq_true_eq] at q2
          have q1' : H[p] = 1 := by omega
          have q3' : 3 ∉ above := by simpa using q3
          simp [q1', q2, q3']
        · simp only [decide_eq_false_iff_not]
          intro z
          have q3' : 3 ∈ above := by simpa using q
          exact z.2.2.1 q3'
        · simp only [decide_eq_false_iff_not] at q ⊢
          intro z; exact q z.2.1
        · simp only [decide_eq_false_iff_not]
          intro z
          simp [z.1] at q
      · refine ex_assign (ev_name (by walk_at "var")) rfl (nx_end ?_)
        have e : seenOf H[p] p above shell = p := by unfold seenOf; rw [if_pos (by simpa using h)]
        rw [e]; walk_at "le"
      · have e : seenOf H[p] p above shell = shell := by unfold seenOf; rw [if_neg (by simpa using h)]
        rw [e]; exact nx_end (by walk_at "le")
      generalize hsn : seenOf H[p] p above shell = seen
      have hrow : ∀ {ρ : Rho} {X' : Addr → Prop} {pr' : Addr → Obj → Prop} {e : Expr} {x y : Str} {k : Nat} {q1 q2 q3 : Pos} {sg : Str} {ov : List Nat} {sh : Int}, Ev prog w hb { cxOf A (fnOf nme qual (dArgs (defAt 20)) (dBody (defAt 20)) (dScope (defAt 20)) .none kV doc pm an cdv ct) aL X s with X := X', pr := pr' } ρ [] e (.str sg) →
          Ev prog w hb { cxOf A (fnOf nme qual (dArgs (defAt 20)) (dBody (defAt 20)) (dScope (defAt 20)) .none kV doc pm an cdv ct) aL X s with X := X', pr := pr' } ρ [] (.Name x q1) (nats ov) → Ev prog w hb { cxOf A (fnOf nme qual (dArgs (defAt 20)) (dBody (defAt 20)) (dScope (defAt 20)) .none kV doc pm an cdv ct) aL X s with X := X', pr := pr' } ρ [] (.Name y q2) (.int sh) →
          isStarred e = false → Ev prog w hb { cxOf A (fnOf nme qual (dArgs (defAt 20)) (dBody (defAt 20)) (dScope (defAt 20)) .none kV doc pm an cdv ct) aL X s with X := X', pr := pr' } ρ [] (.Tuple [e, .Name x q1, .Name y q2] k q3) (rowD ⟨sg, ov, sh⟩) := fun a b c d => ev_tup (evl_cons a (evl_cons b (evl_cons c evl_nil)) d)
      refine ex_assign (ev_list (evl_cons (hrow ev_str (ev_name (by walk_at "var")) (ev_name (by walk_at "var")) rfl) (evl_cons (hrow (ev_sub hA1 (ev_name (by walk_at "var")) (ev_name (by walk_at "var")) (op_item hSi (by omega) (fun _ _ => rfl))) (ev_name (by walk_at "var")) (ev_name (by walk_at "var")) rfl) evl_nil))) rfl ?_
      let rec_ (q : Nat) : List Row := rowsL K H S f q (H[p] :: above) seen
      let mid (i : Nat) : List Row := [⟨Str.ofString "(", H[p] :: above, seen⟩, ⟨S[p], H[p] :: above, seen⟩] ++ ((kidsOf K p).take i).flatMap rec_
      have hbig := hz (f + 1) p above shell
      have hfull : rowsL K H S (f + 1) p above shell = if H[p] = 1 then [⟨Str.ofString "k", above, shell⟩, ⟨Str.ofString "=", above, shell⟩, ⟨Str.ofString "\"", above, seen⟩] ++ (mid (kidsOf K p).length ++ [⟨Str.ofString ")", H[p] :: above, seen⟩]) ++ [⟨Str.ofString "\"", above, seen⟩] else mid (kidsOf K p).length ++ [⟨Str.ofString ")", H[p] :: above, seen⟩] := by
        simp only [rowsL, hHd, hSd, hsn, mid, List.take_length, rec_]
      have hmidl : ∀ i, (mid i).length + 1 ≤ 1000 := fun i => by
        have a3 := take_flat_le (g := rec_) (l := kidsOf K p) i
        have a4 : (mid (kidsOf K p).length).length + 1 ≤ 1000 := by
          rw [hfull] at hbig
          split at hbig <;> simp only [List.length_append, List.length_cons, List.length_nil] at hbig <;> omega
        simp only [mid, List.length_append, List.length_cons, List.length_nil, List.take_length] at a4 ⊢
        omega
      have hrapp : ∀ a b : List Row, D.list (a.map rowD ++ b.map rowD) = rowsD (a ++ b) := fun a b => by simp [rowsD]
      refine ex_for (ds := (kidsOf K p).map fun (n : Nat) => .int n) hA.hh
        (fun i => asc [(Str.ofString "rows", rowsD (mid i)), (Str.ofString "seen", .int seen), (Str.ofString "here", nats (H[p] :: above)), (Str.ofString "place", .int p), (Str.ofString "kids", kidsD K), (Str.ofString "hands", nats H), (Str.ofString "signs", strsD S), (Str.ofString "above", nats above), (Str.ofString "shell", .int shell)])
        (fun i => upd (asc [(Str.ofString "rows", rowsD (mid i)), (Str.ofString "seen", .int seen), (Str.ofString "here", nats (H[p] :: above)), (Str.ofString "place", .int p), (Str.ofString "kids", kidsD K), (Str.ofString "hands", nats H), (Str.ofString "signs", strsD S), (Str.ofString "above", nats above), (Str.ofString "shell", .int shell)]) (Str.ofString "kid") (.int ((kidsOf K p).getD i 0 : Nat)))
        (fun _ => []) ?_ (by walk_at "le") rfl (fun _ => rfl) ?_ ?_ ?_
      · refine ev_sub hA1 (ev_name (by walk_at "var")) (ev_name (by walk_at "var")) (op_item (k := p) ?_ (by omega) (fun _ _ => rfl))
        simp [h1, nats, kidsOf]
      · intro i d hd
        simp only [List.getElem?_map, Option.map_eq_some_iff] at hd
        obtain ⟨q, hq, rfl⟩ := hd
        rw [getD_of hq]
        exact asg_name rfl
      · intro i d X' pr' hd' hX hp
        simp only [List.getElem?_map, Option.map_eq_some_iff] at hd'
        obtain ⟨q, hq, rfl⟩ := hd'
        obtain ⟨q1, q2⟩ := hK.2 p q (List.mem_of_getElem? hq)
        rw [getD_of hq]
        refine ex_assign (ev_eq ?_ (ev_bin hA1 (ev_name (by walk_at "var")) (ev_call hAf (ev_global M.g Df.name rfl) ho hd
          (evl_cons (ev_name (by walk_at "var")) (evl_cons (ev_name (by walk_at "var")) (evl_cons (ev_name (by walk_at "var")) (evl_cons (ev_name (by walk_at "var")) (evl_cons (ev_name (by walk_at "var")) (evl_cons (ev_name (by walk_at "var")) evl_nil))))))
          (ih q (H[p] :: above) seen q2 (by omega) (by simp only [List.length_cons]; omega))) (op_add_list ?_))) rfl (turn_end (by walk_at "le"))
        · rw [hrapp]
          show rowsD (mid i ++ rec_ q) = rowsD (mid (i + 1))
          simp only [mid, take_next hq, List.flatMap_append, List.append_assoc, List.flatMap_cons, List.flatMap_nil, List.append_nil]
        · have a1 := hz f q (H[p] :: above) seen
          have a2 := hmidl i
          rw [List.length_map, List.length_map]; omega
      rw [List.length_map]
      have hlast := hmidl (kidsOf K p).length
      refine ex_assign (d := rowsD (mid (kidsOf K p).length ++ [⟨Str.ofString ")", H[p] :: above, seen⟩])) (ev_eq ?_ (ev_bin hA1 (ev_name (by walk_at "var")) (ev_list (evl_cons (hrow ev_str (ev_name (by walk_at "var")) (ev_name (by walk_at "var")) rfl) evl_nil)) (op_add_list ?_))) rfl ?_
      · simp [rowsD]
      · rw [List.length_map]; simp only [List.length_cons, List.length_nil]; omega
      refine ex_if_meet (mus' := []) (ρ' := asc [(Str.ofString "rows", rowsD (rowsL K H S (f + 1) p above shell))]) (et_cmp hA1 (eH (by walk_at "var") (by walk_at "var")) ev_int op_eq) (fun h => ?_) (fun h => ?_) ?_
      · have h1' : H[p] = 1 := by simp at h; omega
        refine ex_assign (ev_eq ?_ (ev_bin hA1 (ev_bin hA1 (ev_list (evl_cons (hrow ev_str (ev_name (by walk_at "var")) (ev_name (by walk_at "var")) rfl) (evl_cons (hrow ev_str (ev_name (by walk_at "var")) (ev_name (by walk_at "var")) rfl) (evl_cons (hrow ev_str (ev_name (by walk_at "var")) (ev_name (by walk_at "var")) rfl) evl_nil)))) (ev_name (by walk_at "var")) (op_add_list ?_)) (ev_list (evl_cons (hrow ev_str (ev_name (by walk_at "var")) (ev_name (by walk_at "var")) rfl) evl_nil)) (op_add_list ?_))) rfl (nx_end (by walk_at "le"))
        · rw [hfull, if_pos h1']; simp [rowsD]
        · simp only [List.length_map, List.length_append, List.length_cons, List.length_nil]; omega
        · simp only [List.length_map, List.length_append, List.length_cons, List.length_nil]; omega
      · have h1' : ¬ H[p] = 1 := by simp at h; omega
        rw [hfull, if_neg h1']
        exact nx_end (by walk_at "le")
      exact ex_ret (ev_name (by walk_at "var")) (fun b h => .inr h) (fun b o e => e)
end
end Mine
end

section
open PySem PySem.W PySem.Calls PySem.Spec PyProof.Rows
set_option Elab.async false
set_option linter.unusedVariables false
namespace Mine
local macro_rules | `(tactic| walk_at "var") => `(tactic| first | exact upd_same | exact asc_same | (apply upd_ne (by decide); walk_at "var") | (apply asc_ne (by decide); walk_at "var") | (with_unfolding_all exact asc_same))
local macro_rules | `(tactic| walk_at "le") => `(tactic| first | exact le_nil | (refine le_cons ?_ ?_; (walk_at "var"); (walk_at "le")))

structure Brk where
  spot : Int
  worth : Int
  fin : Int
noncomputable def brkD (b : Brk) : D := .tup [.int b.spot, .int b.worth, .int b.fin]
noncomputable def brksD (l : List Brk) : D := .list (l.map brkD)
noncomputable def toBrk : D → Brk
  | .tup [.int a, .int b, .int c] => ⟨a, b, c⟩
  | _ => ⟨0, 0, 0⟩
theorem toBrk_brkD (b : Brk) : toBrk (brkD b) = b := rfl
noncomputable def counts (cut : Int) (b : Brk) : Bool := decide (b.spot < cut) && (decide (b.fin < 0) || decide (cut < b.fin))
noncomputable def depthOf (brs : List Brk) (cut : Int) : Int := ((brs.filter (counts cut)).map (·.worth)).sum

theorem brk_filter (brs : List Brk) (p : Brk → Bool) (f : Brk → D) : (brs.map brkD).filterMap (fun d => if p (toBrk d) then some (f (toBrk d)) else none) = (brs.filter p).map f := by
  induction brs with
  | nil => rfl
  | cons b r ih =>
    rw [List.map_cons, List.filterMap_cons, List.filter_cons, toBrk_brkD]
    by_cases h : p b = true
    · rw [if_pos h, if_pos h, ih]; rfl
    · rw [if_neg h, if_neg h, ih]

section
variable {prog : Program} {w : World} {hb : Heap} {mg mb : Str → Option Value} {cx : Cx} {ρ : Rho} {mus : Mus}

theorem capt1 {scope : Scope} {cl : List (Str × Addr)} {x : Str} {d : D} {c : Addr} (h1 : ρ x = some d) (h2 : cx.env.kindOf x ≠ some .local) (h3 : cl.lookup x = some c)
    (h4 : (relabel scope cx.env).names.lookup x = some .cell ∨ (relabel scope cx.env).names.lookup x = some .free) : Capt cx scope cl ρ (asc [(x, d)]) := fun y e h => by
  unfold asc at h
  rw [List.lookup_cons] at h
  split at h
  · rename_i q
    cases h
    rw [beq_iff_eq.mp q]
    exact ⟨h1, h2, ⟨c, h3⟩, h4⟩
  · cases h

theorem depth_fn {aL : Addr} {nme qual : Str} {kV doc pm cdv ct : Value} {an : Option Addr} (M : Mod hb mg mb) (Df : DefIs hb mg "_law_depth" (defAt 23) aL .none nme qual kV doc pm cdv ct an)
    {brs : List Brk} {cut : Int} (hz : brs.length ≤ 1000) (hw : ∀ b ∈ brs, -1 ≤ b.worth ∧ b.worth ≤ 1) (hsum : mg "sum" = none) :
    Fn prog w hb 2 (.ref aL) [brksD brs, .int cut] (.int (depthOf brs cut)) := by
  obtain ⟨o, ho, hd⟩ := Df.obj
  refine fn_introC (body := dBody (defAt 23)) (ps := [Str.ofString "brackets", Str.ofString "cut"]) ho hd M.lim Df.code rfl ?_ ?_ rfl (by decide) rfl rfl rfl ?_
  · intro vs hl
    obtain ⟨v1, v2, rfl⟩ := len2 hl
    exact rfl
  · intro n x hx
    simp only [List.mem_cons, List.not_mem_nil, or_false] at hx
    rcases hx with rfl | rfl
    · exact .inl rfl
    · exact .inr ⟨rfl, rfl⟩
  · intro A X s hA
    show Ex prog w hb _ (asc [(Str.ofString "brackets", brksD brs), (Str.ofString "cut", .int cut)]) _ _ _
    have hA1 : Room 1 (cxOfC A (fnOf nme qual (dArgs (defAt 23)) (dBody (defAt 23)) (dScope (defAt 23)) .none kV doc pm an cdv ct) aL X s).A := (hA.deeper _).le (by omega)
    have hsumb : mb "sum" = some (.builtin "sum") := (M.bi _ (by decide)).trans rfl
    have hs1 : sizeLine = 16777216 := sizeLine_eq
    refine ex_ret (ev_callb hA1 (ev_builtin M.g hsum M.b hsumb rfl) (evl_cons (ev_eq ?_ (ev_comp (ds := brs.map brkD) (cl := [(Str.ofString "cut", s.heap.objs.size + 1)]) hA.hh (asc [(Str.ofString "cut", .int cut)])
      (fun d => upd (upd (upd (asc [(Str.ofString "cut", .int cut)]) (Str.ofString "spot") (.int (toBrk d).spot)) (Str.ofString "worth") (.int (toBrk d).worth)) (Str.ofString "end") (.int (toBrk d).fin))
      (fun d => if counts cut (toBrk d) then some (.int (toBrk d).worth) else none) (ev_name (by walk_at "var")) ⟨rfl, by decide, rfl, by decide, ?_⟩ ?_ ?_ ?_ ?_ ?_ ?_)) evl_nil) (fn_sum (l := (brs.filter (counts cut)).map (·.worth)) ?_ ?_)) (fun b h => .inr (.inr h)) (fun b o e => e)
    · rw [brk_filter brs (counts cut) (fun b => .int b.worth), List.map_map]; rfl
    · exact fun x c h => h
    · exact capt1 (c := s.heap.objs.size + 1) (by walk_at "var") (show some NameKind.cell ≠ some .local from by decide) rfl (.inl rfl)
    · intro d hd C X' pr' s₀
      obtain ⟨b, _, rfl⟩ := List.mem_map.mp hd
      exact asg_tup hA.hh (asgl_cons rfl (asgl_cons rfl (asgl_cons rfl asgl_nil)))
    · intro d hd C X' pr' s₀
      obtain ⟨b, _, rfl⟩ := List.mem_map.mp hd
      have e0 : (if counts cut (toBrk (brkD b)) then some (D.int (toBrk (brkD b)).worth) else none).isSome = counts cut b := by
        rw [toBrk_brkD]; cases h : counts cut b <;> rfl
      rw [e0]
      refine etall_one ?_
      refine et_bool ?_
      refine eta_and (et_cmp hA1 (ev_name (by walk_at "var")) (ev_name (by walk_at "var")) op_lt) (fun q1 => eta_one ?_) (fun q => ?_)
      · have e1 : counts cut b = (decide (b.fin < 0) || decide (cut < b.fin)) := by
          have q1' : decide (b.spot < cut) = true := q1
          unfold counts; rw [q1']; rfl
        rw [e1]
        refine et_bool ?_
        refine eta_or (et_cmp hA1 (ev_name (by walk_at "var")) ev_int op_lt) (fun q2 => eta_oneo ?_) (fun q2 => ?_)
        · have q2' : decide (b.fin < 0) = false := q2
          rw [q2', Bool.false_or]
          exact et_cmp hA1 (ev_name (by walk_at "var")) (ev_name (by walk_at "var")) op_lt
        · have q2' : decide (b.fin < 0) = true := q2
          rw [q2']; rfl
      · have q1' : decide (b.spot < cut) = false := q
        unfold counts; rw [q1']; rfl
    · intro d hd e he C X' pr' s₀
      obtain ⟨b, _, rfl⟩ := List.mem_map.mp hd
      rw [toBrk_brkD] at he
      split at he
      · cases he
        exact ev_name (by walk_at "var")
      · cases he
    · intro d hd
      obtain ⟨b, _, rfl⟩ := List.mem_map.mp hd
      walk_at "le"
    · rw [List.length_map]; omega
    · intro x hx
      simp only [List.mem_map, List.mem_filter] at hx
      obtain ⟨b, hb', rfl⟩ := hx
      have := hw b hb'.1
      omega
    · rw [List.length_map]
      have := List.length_filter_le (counts cut) brs
      omega
end
end Mine
end

section
open PySem PySem.W PySem.Calls PySem.Spec PyProof.Rows
set_option Elab.async false
set_option linter.unusedVariables false
namespace Mine
local macro_rules | `(tactic| walk_at "var") => `(tactic| first | exact upd_same | exact asc_same | (apply upd_ne (by decide); walk_at "var") | (apply asc_ne (by decide); walk_at "var") | (with_unfolding_all exact asc_same))
local macro_rules | `(tactic| walk_at "le") => `(tactic| first | exact le_nil | (refine le_cons ?_ ?_; (walk_at "var"); (walk_at "le")))

structure Pl where
  text : Str
  brs : List Brk
  ends : List Int

noncomputable def isS (x : Str) (y : String) : Bool := x.cps.toList == (Str.ofString y).cps.toList
noncomputable def brOpen (r : Row) (n : Nat) : List Brk := if isS r.sign "(" then [⟨n, 1, r.shell⟩] else []
noncomputable def brShut (r : Row) (n : Nat) : List Brk := if isS r.sign ")" then [⟨n, -1, r.shell⟩] else []
noncomputable def setEnd (l : List Int) (sh : Int) (n : Nat) : List Int := if 0 ≤ sh then l.set sh.toNat n else l
noncomputable def plStep (p : Pl) (r : Row) : Pl :=
  ⟨p.text ++ writtenS r.sign r.over, (p.brs ++ brOpen r p.text.length) ++ brShut r p.text.length, setEnd p.ends r.shell (p.text ++ writtenS r.sign r.over).length⟩
noncomputable def plOf (rows : List Row) (count : Nat) : Pl := rows.foldl plStep ⟨Str.empty, [], List.replicate count 0⟩
noncomputable def finBrk (ends : List Int) (b : Brk) : Brk := ⟨b.spot, b.worth, if 0 ≤ b.fin then ends.getD b.fin.toNat 0 else -1⟩
noncomputable def brksOf (p : Pl) : List Brk := p.brs.map (finBrk p.ends)
noncomputable def intsD (l : List Int) : D := .list (l.map .int)

structure RowOk (count : Nat) (r : Row) : Prop where
  s1 : r.sign.length ≤ 1
  o7 : r.over.length ≤ 7
  o5 : ∀ n ∈ r.over, n < 5
  sh : r.shell < count

theorem ahead_le {sign : Str} {over : List Nat} (h : over.length ≤ 7) : aheadOf sign over ≤ 128 := by
  have p7 : ∀ k, k ≤ 7 → (2 : Int) ^ k ≤ 128 := fun k hk => by
    match k, hk with
    | 0, _ | 1, _ | 2, _ | 3, _ | 4, _ | 5, _ | 6, _ | 7, _ => decide
  have a := p7 (ones over) (Nat.le_trans (List.length_filter_le _ _) h)
  have b : (0 : Int) < 2 ^ ones (over.drop (firstOf sign over)) := Int.pow_pos (by decide)
  unfold aheadOf
  split
  · omega
  · split <;> omega
theorem getD_lt {l : List Nat} (h : ∀ n ∈ l, n < 5) (i : Nat) : l.getD i 0 < 5 := by
  by_cases hi : i < l.length
  · rw [getD_of (q := l[i]) (by simp [hi])]; exact h _ (List.getElem_mem _)
  · simp [List.getElem?_eq_none (Nat.le_of_not_lt hi)]
theorem written_len {sign : Str} {over : List Nat} (h7 : over.length ≤ 7) (h5 : ∀ n ∈ over, n < 5) (h1 : sign.length ≤ 1) : (writtenS sign over).length ≤ 1100 := by
  have a := mul_len (x := Str.ofString "\\") (by decide) (ahead_le (sign := sign) h7)
  have hl : laters (over.drop (firstOf sign over + 1)) ≤ 7 := Nat.le_trans (List.length_filter_le _ _) (by rw [List.length_drop]; omega)
  have b := mul_len (x := Str.ofString "amp;") (n := laters (over.drop (firstOf sign over + 1))) (by decide) (by omega)
  have c := lookS_len sign (over.getD (firstOf sign over) 0) (getD_lt h5 _)
  have d : (Str.ofString "&").length = 1 := by decide
  unfold writtenS
  split
  · rw [Str.length_append]; omega
  · rw [Str.length_append, Str.length_append, Str.length_append]; omega
theorem pl_text {count : Nat} : ∀ {rows : List Row} {p : Pl}, (∀ r ∈ rows, RowOk count r) → (rows.foldl plStep p).text.length ≤ p.text.length + 1100 * rows.length
  | [], p, _ => by simp
  | r :: rows, p, h => by
    have ih := pl_text (rows := rows) (p := plStep p r) (fun x hx => h x (by simp [hx]))
    have hr := h r (by simp)
    have := written_len hr.o7 hr.o5 hr.s1
    have e : (plStep p r).text.length = p.text.length + (writtenS r.sign r.over).length := Str.length_append _ _
    rw [List.foldl_cons, List.length_cons]
    omega
theorem pl_ends : ∀ {rows : List Row} {p : Pl}, (rows.foldl plStep p).ends.length = p.ends.length
  | [], p => rfl
  | r :: rows, p => by
    rw [List.foldl_cons, pl_ends]
    unfold plStep setEnd
    split <;> simp
theorem pl_brs : ∀ {rows : List Row} {p : Pl}, (rows.foldl plStep p).brs.length ≤ p.brs.length + 2 * rows.length
  | [], p => by simp
  | r :: rows, p => by
    have ih := pl_brs (rows := rows) (p := plStep p r)
    have e : (plStep p r).brs.length ≤ p.brs.length + 2 := by
      unfold plStep brOpen brShut
      simp only [List.length_append]
      split <;> split <;> simp
    rw [List.foldl_cons, List.length_cons]
    omega
theorem pl_fin {count : Nat} : ∀ {rows : List Row} {p : Pl}, (∀ r ∈ rows, RowOk count r) → (∀ b ∈ p.brs, b.fin < count) → ∀ b ∈ (rows.foldl plStep p).brs, b.fin < count
  | [], p, _, h => h
  | r :: rows, p, h, hb => by
    refine pl_fin (rows := rows) (p := plStep p r) (fun x hx => h x (by simp [hx])) fun b hm => ?_
    have hr := (h r (by simp)).sh
    unfold plStep brOpen brShut at hm
    simp only [List.mem_append] at hm
    rcases hm with (hm | hm) | hm
    · exact hb b hm
    · split at hm
      · simp only [List.mem_cons, List.not_mem_nil, or_false] at hm; subst hm; exact hr
      · cases hm
    · split at hm
      · simp only [List.mem_cons, List.not_mem_nil, or_false] at hm; subst hm; exact hr
      · cases hm
theorem pl_next {rows : List Row} {i : Nat} {r : Row} {count : Nat} (h : rows[i]? = some r) : plOf (rows.take (i + 1)) count = plStep (plOf (rows.take i) count) r := by
  unfold plOf
  rw [List.take_add_one, h, List.foldl_append]; rfl

section
variable {prog : Program} {w : World} {hb : Heap} {mg mb : Str → Option Value} {cx : Cx} {ρ : Rho} {mus : Mus}

set_option maxHeartbeats 4000000 in
theorem placed_fn {aL : Addr} {nme qual : Str} {kV doc pm cdv ct : Value} {an : Option Addr} (M : Mod hb mg mb) (Df : DefIs hb mg "_law_placed" (defAt 22) aL .none nme qual kV doc pm cdv ct an)
    {aN : Addr} {nme1 qual1 : Str} {kV1 doc1 pm1 cdv1 ct1 : Value} {an1 : Option Addr} (Dn : DefIs hb mg "_law_names" (defAt 18) aN .none nme1 qual1 kV1 doc1 pm1 cdv1 ct1 an1)
    {aW : Addr} {nme2 qual2 : Str} {kV2 doc2 pm2 cdv2 ct2 : Value} {an2 : Option Addr} (Dw : DefIs hb mg "_law_written" (defAt 19) aW .none nme2 qual2 kV2 doc2 pm2 cdv2 ct2 an2)
    {rows : List Row} {count : Nat} (hr : ∀ r ∈ rows, RowOk count r) (hz : rows.length ≤ 1000) (hc : count ≤ 1000) (hlen : mg "len" = none) :
    Fn prog w hb 4 (.ref aL) [rowsD rows, .int count] (.tup [.str (plOf rows count).text, brksD (brksOf (plOf rows count))]) := by
  obtain ⟨o, ho, hd⟩ := Df.obj
  obtain ⟨oN, hoN, hdN⟩ := Dn.obj
  obtain ⟨oW, hoW, hdW⟩ := Dw.obj
  refine fn_introC (body := dBody (defAt 22)) (ps := [Str.ofString "rows", Str.ofString "count"]) ho hd M.lim Df.code rfl ?_ ?_ rfl (by decide) rfl rfl rfl ?_
  · intro vs hl
    obtain ⟨v1, v2, rfl⟩ := len2 hl
    exact rfl
  · intro n x hx
    simp only [List.mem_cons, List.not_mem_nil, or_false] at hx
    rcases hx with rfl | rfl
    · exact .inl rfl
    · exact .inl rfl
  · intro A X s hA
    show Ex prog w hb _ (asc [(Str.ofString "rows", rowsD rows), (Str.ofString "count", .int count)]) _ _ _
    have hA1 : Room 1 (cxOfC A (fnOf nme qual (dArgs (defAt 22)) (dBody (defAt 22)) (dScope (defAt 22)) .none kV doc pm an cdv ct) aL X s).A := (hA.deeper _).le (by omega)
    have hA2 : Room 2 (cxOfC A (fnOf nme qual (dArgs (defAt 22)) (dBody (defAt 22)) (dScope (defAt 22)) .none kV doc pm an cdv ct) aL X s).A := (hA.deeper _).le (by omega)
    have hA3 : Room 3 (cxOfC A (fnOf nme qual (dArgs (defAt 22)) (dBody (defAt 22)) (dScope (defAt 22)) .none kV doc pm an cdv ct) aL X s).A := (hA.deeper _).le (by omega)
    have hlenb : mb "len" = some (.builtin "len") := (M.bi _ (by decide)).trans rfl
    have hs1 : sizeLine = 16777216 := sizeLine_eq
    refine ex_assign (ev_call0 hA2 (ev_global M.g Dn.name rfl) hoN hdN (names_fn M Dn)) rfl ?_
    refine ex_assign ev_str rfl ?_
    refine ex_assign_new newl_empty rfl fun aB hnB => ?_
    refine ex_assign_new_cell (c := s.heap.objs.size + 1) (newl_mul (i := 0) (n := count) (ev_list (evl_cons ev_int evl_nil)) (ev_name (by walk_at "var")) hc) rfl rfl rfl fun aE hnE => ?_
    let P (i : Nat) : Pl := plOf (rows.take i) count
    let rowAt (i : Nat) : Row := rows.getD i ⟨Str.empty, [], -1⟩
    refine ex_for (ds := rows.map rowD) hA.hh
      (fun i => asc [(Str.ofString "text", .str (P i).text), (Str.ofString "brackets", .opq (.ref aB)), (Str.ofString "ends", .opq (.ref aE)), (Str.ofString "names", namesD)])
      (fun i => upd (upd (upd (asc [(Str.ofString "text", .str (P i).text), (Str.ofString "brackets", .opq (.ref aB)), (Str.ofString "ends", .opq (.ref aE)), (Str.ofString "names", namesD)]) (Str.ofString "sign") (.str (rowAt i).sign)) (Str.ofString "over") (nats (rowAt i).over)) (Str.ofString "shell") (.int (rowAt i).shell))
      (fun i => [(aE, (P i).ends.map .int), (aB, (P i).brs.map brkD)]) (ev_name (by walk_at "var")) ?_ ?_ (fun _ => rfl) ?_ ?_ ?_
    · walk_at "le"
    · show [(aE, (List.replicate count (0 : Int)).map D.int), (aB, [])] = _
      rw [List.map_replicate]
    · intro i d hd
      simp only [List.getElem?_map, Option.map_eq_some_iff] at hd
      obtain ⟨r, hq, rfl⟩ := hd
      have e : rowAt i = r := by simp [rowAt, hq]
      rw [e]
      exact asg_tup hA.hh (asgl_cons rfl (asgl_cons rfl (asgl_cons rfl asgl_nil)))
    · intro i d X' pr' hd hX hp
      simp only [List.getElem?_map, Option.map_eq_some_iff] at hd
      obtain ⟨r, hq, rfl⟩ := hd
      have e : rowAt i = r := by simp [rowAt, hq]
      have hn : P (i + 1) = plStep (P i) r := pl_next hq
      have hro := hr r (List.mem_of_getElem? hq)
      have htake : (rows.take i).length ≤ rows.length := by rw [List.length_take]; omega
      have htl : (P i).text.length ≤ 1100000 := by
        have := pl_text (count := count) (rows := rows.take i) (p := ⟨Str.empty, [], List.replicate count 0⟩) (fun r h => hr r (List.mem_of_mem_take h))
        have e0 : Str.empty.length = 0 := rfl
        show (List.foldl plStep _ (rows.take i)).text.length ≤ _
        simp only [e0] at this
        omega
      have hel : (P i).ends.length = count := (pl_ends (rows := rows.take i)).trans (by simp)
      have hbl : (P i).brs.length ≤ 2000 := by
        have := pl_brs (rows := rows.take i) (p := ⟨Str.empty, [], List.replicate count 0⟩)
        show (List.foldl plStep _ (rows.take i)).brs.length ≤ _
        simp only [List.length_nil] at this
        omega
      have hwl := written_len hro.o7 hro.o5 hro.s1
      rw [e, hn]
      generalize P i = p at htl hel hbl
      let ρ1 : Rho := asc [(Str.ofString "text", .str p.text), (Str.ofString "brackets", .opq (.ref aB)), (Str.ofString "ends", .opq (.ref aE)), (Str.ofString "names", namesD), (Str.ofString "sign", .str r.sign), (Str.ofString "over", nats r.over), (Str.ofString "shell", .int r.shell)]
      have len1 : ∀ {cx : Cx} {ρ : Rho} {mus : Mus} {x : Str} {k q1 q2 : Pos} {y : Str}, Room 1 cx.A → cx.env.kindOf "len" = some .globalImplicit → ρ x = some (.str y) → y.length ≤ sizeLine → (x == ("__debug__" : Str)) = false → (x == ("__classdict__" : Str)) = false → Ev prog w hb cx ρ mus (.Call (.Name "len" k) [.Name x q1] [] q2) (.int y.length) := fun a b c d e f =>
        ev_callb a (ev_builtin M.g hlen M.b hlenb b) (evl_cons (ev_name c e f) evl_nil) (fn_len_str d)
      have hbo : (p.brs ++ brOpen r p.text.length).length ≤ 2001 := by
        rw [List.length_append]
        unfold brOpen
        split <;> simp <;> omega
      -- the opening sign
      refine ex_if_meet (mus' := [(aE, p.ends.map .int), (aB, (p.brs ++ brOpen r p.text.length).map brkD)]) (ρ' := ρ1) (et_cmp hA1 (ev_name (by walk_at "var")) ev_str op_eq_str) (fun h => ?_) (fun h => ?_) ?_
      · have eb : brOpen r p.text.length = [⟨p.text.length, 1, r.shell⟩] := by unfold brOpen isS; rw [if_pos h]
        rw [eb, List.map_append]
        refine ex_append (pre := [(aE, p.ends.map .int)]) (post := []) (d := brkD ⟨p.text.length, 1, r.shell⟩) rfl (ev_name (by walk_at "var")) (ev_tup (evl_cons (len1 hA1 rfl (by walk_at "var") (by omega) (by decide) (by decide)) (evl_cons ev_int (evl_cons (ev_name (by walk_at "var")) evl_nil)))) (by rw [List.length_map]; omega) (nx_end (by walk_at "le"))
      · have eb : brOpen r p.text.length = [] := by unfold brOpen isS; rw [if_neg (by rw [h]; decide)]
        rw [eb, List.append_nil]
        exact nx_end (by walk_at "le")
      -- the shutting sign
      refine ex_if_meet (mus' := [(aE, p.ends.map .int), (aB, (p.brs ++ brOpen r p.text.length ++ brShut r p.text.length).map brkD)]) (ρ' := ρ1) (et_cmp hA1 (ev_name (by walk_at "var")) ev_str op_eq_str) (fun h => ?_) (fun h => ?_) ?_
      · have eb : brShut r p.text.length = [⟨p.text.length, -1, r.shell⟩] := by unfold brShut isS; rw [if_pos h]
        rw [eb, List.map_append (l₁ := p.brs ++ _)]
        refine ex_append (pre := [(aE, p.ends.map .int)]) (post := []) (d := brkD ⟨p.text.length, -1, r.shell⟩) rfl (ev_name (by walk_at "var")) (ev_tup (evl_cons (len1 hA1 rfl (by walk_at "var") (by omega) (by decide) (by decide)) (evl_cons (ev_un hA1 ev_int op_neg_int) (evl_cons (ev_name (by walk_at "var")) evl_nil)))) (by rw [List.length_map]; omega) (nx_end (by walk_at "le"))
      · have eb : brShut r p.text.length = [] := by unfold brShut isS; rw [if_neg (by rw [h]; decide)]
        rw [eb, List.append_nil]
        exact nx_end (by walk_at "le")
      refine ex_assign (ev_bin hA1 (ev_name (by walk_at "var")) (ev_call hA3 (ev_global M.g Dw.name rfl) hoW hdW (evl_cons (ev_name (by walk_at "var")) (evl_cons (ev_name (by walk_at "var")) (evl_cons (ev_name (by walk_at "var")) evl_nil))) (written_fn (aN := aN) M Dw hro.o7 hro.o5 hro.s1 hlen)) (op_add_str (by omega))) rfl ?_
      refine ex_if_meet (mus' := [(aE, (plStep p r).ends.map .int), (aB, (plStep p r).brs.map brkD)]) (ρ' := asc [(Str.ofString "text", .str (plStep p r).text), (Str.ofString "brackets", .opq (.ref aB)), (Str.ofString "ends", .opq (.ref aE)), (Str.ofString "names", namesD)]) (et_cmp hA1 (ev_name (by walk_at "var")) ev_int op_ge) (fun h => ?_) (fun h => ?_) (turn_end (by walk_at "le"))
      · have h' : 0 ≤ r.shell := by simpa using h
        have hsh := hro.sh
        have es : (plStep p r).ends.map D.int = (p.ends.map D.int).set r.shell.toNat (.int ((p.text ++ writtenS r.sign r.over).length : Nat)) := by
          show (setEnd p.ends r.shell _).map D.int = _
          unfold setEnd
          rw [if_pos h', List.map_set]
        rw [es]
        refine ex_setitem (pre := []) (post := [(aB, (plStep p r).brs.map brkD)]) (j := r.shell.toNat) rfl (ev_name (by walk_at "var")) (ev_eq ?_ (ev_name (by walk_at "var")))
          (len1 hA1 rfl (by walk_at "var") (by rw [Str.length_append]; omega) (by decide) (by decide)) (by rw [List.length_map]; omega) (by rw [List.length_map]; omega) (nx_end (by walk_at "le"))
        rw [Int.toNat_of_nonneg h']
      · have h' : ¬ 0 ≤ r.shell := by simpa using h
        have es : (plStep p r).ends = p.ends := by
          show setEnd p.ends r.shell _ = _
          unfold setEnd
          rw [if_neg h']
        rw [es]
        exact nx_end (by walk_at "le")
    · have hPn : P (rows.map rowD).length = plOf rows count := by
        show plOf (rows.take _) count = _
        rw [List.length_map, List.take_length]
      rw [hPn]
      have hel : (plOf rows count).ends.length = count := (pl_ends (rows := rows)).trans (by simp)
      have hbl : (plOf rows count).brs.length ≤ 2000 := by
        have := pl_brs (rows := rows) (p := ⟨Str.empty, [], List.replicate count 0⟩)
        show (List.foldl plStep _ rows).brs.length ≤ _
        simp only [List.length_nil] at this
        omega
      have hfin : ∀ b ∈ (plOf rows count).brs, b.fin < count := pl_fin hr (fun b hb => nomatch hb)
      generalize plOf rows count = p at hel hbl hfin
      refine ex_freeze (x := "brackets") (pre := [(aE, p.ends.map .int)]) (post := []) (ds := p.brs.map brkD) rfl (by walk_at "var") ?_
      refine ex_freeze (x := "ends") (pre := []) (post := []) (ds := p.ends.map .int) rfl (by walk_at "var") ?_
      refine ex_ret (ev_tup (evl_cons (ev_name (by walk_at "var")) (evl_cons (ev_eq ?_ (ev_comp (ds := p.brs.map brkD) (cl := [(Str.ofString "ends", s.heap.objs.size + 1)]) hA.hh (asc [(Str.ofString "ends", intsD p.ends)])
        (fun d => upd (upd (upd (asc [(Str.ofString "ends", intsD p.ends)]) (Str.ofString "spot") (.int (toBrk d).spot)) (Str.ofString "worth") (.int (toBrk d).worth)) (Str.ofString "shell") (.int (toBrk d).fin))
        (fun d => some (brkD (finBrk p.ends (toBrk d)))) (ev_name (by walk_at "var")) ⟨rfl, by decide, rfl, by decide, ?_⟩ ?_ ?_ ?_ ?_ ?_ ?_)) evl_nil))) ?_ ?_
      · simp [brksD, brksOf, toBrk_brkD, Function.comp_def]
      · exact fun x c h => h
      · exact capt1 (c := s.heap.objs.size + 1) (by walk_at "var") (show some NameKind.cell ≠ some .local from by decide) rfl (.inl rfl)
      · intro d hd C X' pr' s₀
        obtain ⟨b, _, rfl⟩ := List.mem_map.mp hd
        exact asg_tup hA.hh (asgl_cons rfl (asgl_cons rfl (asgl_cons rfl asgl_nil)))
      · intro d hd C X' pr' s₀
        exact etall_nil
      · intro d hd e he C X' pr' s₀
        obtain ⟨b, hm, rfl⟩ := List.mem_map.mp hd
        cases he
        rw [toBrk_brkD]
        have hf := hfin b hm
        refine ev_tup (evl_cons (ev_name (by walk_at "var")) (evl_cons (ev_name (by walk_at "var")) (evl_cons (ev_ifexp (et_cmp hA1 (ev_name (by walk_at "var")) ev_int op_ge) (fun h => ?_) (fun h => ?_)) evl_nil)))
        · have h' : 0 ≤ b.fin := by simpa using h
          have hlt : b.fin.toNat < p.ends.length := by omega
          have hi : (p.ends.map D.int)[b.fin.toNat]? = some (.int (p.ends.getD b.fin.toNat 0)) := by
            rw [List.getElem?_map]; simp [hlt]
          refine ev_eq (congrArg D.int (show p.ends.getD b.fin.toNat 0 = (finBrk p.ends b).fin from (if_pos h').symm)) (ev_sub hA1 (ev_name (by walk_at "var")) (ev_eq ?_ (ev_name (by walk_at "var"))) (op_item hi (by omega) (fun _ _ => rfl)))
          rw [Int.toNat_of_nonneg h']
        · have h' : ¬ 0 ≤ b.fin := by simpa using h
          exact ev_eq (congrArg D.int (show (-1 : Int) = (finBrk p.ends b).fin from (if_neg h').symm)) (ev_un hA1 ev_int op_neg_int)
      · intro d hd
        obtain ⟨b, _, rfl⟩ := List.mem_map.mp hd
        walk_at "le"
      · rw [List.length_map]; omega
      · intro b h
        exact ⟨⟨.inr (.inr (.inr (.inr h))), fun e => hnB (.inr (.inr (e ▸ h)))⟩, fun e => hnE (.inr (.inr (.inr (e ▸ h))))⟩
      · exact fun b o e => e
end
end Mine
end

section
open PySem PySem.W PySem.Calls PySem.Spec PyProof.Rows
set_option Elab.async false
set_option linter.unusedVariables false
namespace Mine
local macro_rules | `(tactic| walk_at "var") => `(tactic| first | exact upd_same | exact asc_same | (apply upd_ne (by decide); walk_at "var") | (apply asc_ne (by decide); walk_at "var") | (with_unfolding_all exact asc_same))
local macro_rules | `(tactic| walk_at "le") => `(tactic| first | exact le_nil | (refine le_cons ?_ ?_; (walk_at "var"); (walk_at "le")))

noncomputable def ofL (l : List Nat) : Str := ⟨l.toArray⟩
theorem ofL_cps (x : Str) : ofL x.cps.toList = x := rfl
theorem cps_ofL (l : List Nat) : (ofL l).cps.toList = l := rfl
theorem len_ofL (l : List Nat) : (ofL l).length = l.length := by simp [ofL, Str.length]
theorem app_ofL (a b : List Nat) : ofL a ++ ofL b = ofL (a ++ b) := by
  have e : (ofL a ++ ofL b).cps.toList = (ofL (a ++ b)).cps.toList := by rw [Str.cps_append, Array.toList_append]; rfl
  rw [← ofL_cps (ofL a ++ ofL b), e]; rfl

/-- every c becomes z -/
noncomputable def swp (c : Nat) (z : List Nat) (l : List Nat) : List Nat := l.flatMap fun k => if k = c then z else [k]
theorem swp_app (c : Nat) (z a b : List Nat) : swp c z (a ++ b) = swp c z a ++ swp c z b := List.flatMap_append
theorem swp_flat (c : Nat) (z : List Nat) (f : Nat → List Nat) (l : List Nat) : swp c z (l.flatMap f) = l.flatMap fun k => swp c z (f k) := by
  unfold swp; rw [List.flatMap_assoc]
theorem swp_free (c : Nat) (z : List Nat) : ∀ l : List Nat, c ∉ l → swp c z l = l
  | [], _ => rfl
  | k :: r, h => by
    have h1 : ¬ k = c := fun e => h (e ▸ List.mem_cons_self ..)
    have h2 : c ∉ r := fun m => h (List.mem_cons_of_mem _ m)
    show (if k = c then z else [k]) ++ swp c z r = _
    rw [if_neg h1, swp_free c z r h2]; rfl
theorem swp_join (c : Nat) (z : Str) : ∀ parts : List Str, (∀ p ∈ parts, c ∉ p.cps.toList) → swp c z.cps.toList (Str.join ⟨#[c]⟩ parts).cps.toList = (Str.join z parts).cps.toList
  | [], _ => rfl
  | [p], h => swp_free c _ _ (h p (List.mem_singleton.mpr rfl))
  | p :: q :: r, h => by
    have ih := swp_join c z (q :: r) fun a ha => h a (List.mem_cons_of_mem _ ha)
    show swp c z.cps.toList (p ++ ⟨#[c]⟩ ++ Str.join ⟨#[c]⟩ (q :: r)).cps.toList = (p ++ z ++ Str.join z (q :: r)).cps.toList
    simp only [Str.cps_append, Array.toList_append]
    rw [swp_app, swp_app, ih, swp_free c _ _ (h p (List.mem_cons_self ..))]
    congr 2
    show (if c = c then z.cps.toList else [c]) ++ [] = _
    rw [if_pos rfl, List.append_nil]
theorem rep_swp (l : List Nat) (c : Nat) (z : Str) : Txt.replace (ofL l) ⟨#[c]⟩ z = ofL (swp c z.cps.toList l) := by
  have e : (Txt.replace (ofL l) ⟨#[c]⟩ z).cps.toList = swp c z.cps.toList l := by
    rw [StrLaws.replace_one, ← swp_join c z _ (StrLaws.split_free _ c), StrLaws.join_split]; rfl
  rw [← ofL_cps (Txt.replace _ _ _), e]
theorem len_flat {f : Nat → List Nat} {n : Nat} (h : ∀ k, (f k).length ≤ n) : ∀ l : List Nat, (l.flatMap f).length ≤ n * l.length
  | [] => Nat.zero_le _
  | k :: r => by
    have := len_flat h r
    have := h k
    rw [List.flatMap_cons, List.length_append, List.length_cons, Nat.mul_succ]
    omega

section
variable {prog : Program} {w : World} {hb : Heap} {mg mb : Str → Option Value} {cx : Cx} {ρ : Rho} {mus : Mus} {R : Flow → Shared → Prop}

/-- if c in x: x = x.replace(c, z) -/
theorem ex_swap {x c z : Str} {k : Nat} {l : List Nat} {a1 a2 a3 : Nat} {p1 p2 p3 p4 p5 p6 p7 p8 p9 p10 p11 : Pos} {rest : List Stmt} (hA : Room 1 cx.A) (hc : c = ⟨#[k]⟩) (hcz : (c == z) = false) (hρ : ρ x = some (.str (ofL l))) (hk : cx.env.kindOf x = some .local)
    (hz : l.length + (l.length + 1) * z.length ≤ 16777216) (hr : Ex prog w hb cx (upd ρ x (.str (ofL (swp k z.cps.toList l)))) mus rest R)
    (hline : (p7.endLine == p10.line) = true := by rfl)
    (hd : (x == ("__debug__" : Str)) = false := by decide) (hn : (x == ("__classdict__" : Str)) = false := by decide) :
    Ex prog w hb cx ρ mus (.If (.Compare (.Constant (.str c) a1 p1) [.In] [.Name x p2] p3) [.Assign [.Name x p4] (.Call (.Attribute (.Name x p5) "replace" p7) [.Constant (.str c) a2 p8, .Constant (.str z) a3 p9] [] p10) p11] [] p6 :: rest) R := by
  refine ex_if_meet (ρ' := upd ρ x (.str (ofL (swp k z.cps.toList l)))) (et_cmp hA ev_str (ev_name hρ hd hn) op_in_str) (fun h => ?_) (fun h => ?_) hr
  · refine ex_assign (ev_eq ?_ (ev_replace (ev_name hρ hd hn) hcz (by rw [len_ofL]; exact hz) rfl hline)) hk (nx_end fun _ _ e => e)
    subst hc
    rw [rep_swp]
  · refine nx_end fun y d e => ?_
    subst hc
    have h' : k ∉ l := by
      have := StrLaws.found_one (ofL l) k
      have h2 : Txt.contains (ofL l) ⟨#[k]⟩ = false := h
      unfold Txt.contains at h2
      rw [h2] at this
      rw [cps_ofL] at this
      exact of_decide_eq_false this.symm
    rw [swp_free _ _ _ h'] at e
    unfold upd at e
    split at e
    · rename_i q
      rw [q, hρ]; exact e
    · exact e

theorem ex_try {body rest : List Stmt} {h₀ : ExceptHandler} {hs : List ExceptHandler} {pos : Pos} (h : Ex prog w hb cx ρ mus body (Then prog w cx rest R)) : Ex prog w hb cx ρ mus (.Try body (h₀ :: hs) [] [] pos :: rest) R := .mk fun s S =>
  wpAny_execs_cons (wpAny_Try_except (noE' (h.run s S) fun f s' q => by
    cases f with
    | next => exact wpAny_execs_nil q
    | cont => exact q
    | brk => exact q
    | ret v => exact q))
end

noncomputable def swps : List (Nat × List Nat) → List Nat → List Nat
  | [], l => l
  | p :: r, l => swps r (swp p.1 p.2 l)
noncomputable def okP : List (Nat × List Nat) → Bool
  | [] => true
  | p :: r => decide (1 ≤ p.2.length) && decide (p.2.length ≤ 6) && r.all (fun q => !p.2.contains q.1) && okP r
theorem swps_free : ∀ (ps : List (Nat × List Nat)) (l : List Nat), (∀ p ∈ ps, p.1 ∉ l) → swps ps l = l
  | [], _, _ => rfl
  | p :: r, l, h => by
    show swps r (swp p.1 p.2 l) = l
    rw [swp_free _ _ _ (h p (by simp))]; exact swps_free r l fun q hq => h q (by simp [hq])
theorem swps_app : ∀ (ps : List (Nat × List Nat)) (a b : List Nat), swps ps (a ++ b) = swps ps a ++ swps ps b
  | [], _, _ => rfl
  | p :: r, a, b => by
    show swps r (swp p.1 p.2 (a ++ b)) = swps r (swp p.1 p.2 a) ++ swps r (swp p.1 p.2 b)
    rw [swp_app, swps_app r]
theorem swps_nil : ∀ (ps : List (Nat × List Nat)), swps ps [] = []
  | [] => rfl
  | p :: r => swps_nil r
theorem swps_id (ps : List (Nat × List Nat)) : ∀ l : List Nat, swps ps l = l.flatMap fun k => swps ps [k]
  | [] => swps_nil ps
  | k :: r => by
    rw [List.flatMap_cons, ← swps_id ps r, ← swps_app]; rfl
theorem swps_one : ∀ (ps : List (Nat × List Nat)), okP ps = true → ∀ k, swps ps [k] = match ps.find? (fun p => p.1 == k) with | some p => p.2 | none => [k]
  | [], _, _ => rfl
  | p :: r, h, k => by
    simp only [okP, Bool.and_eq_true, decide_eq_true_eq, List.all_eq_true] at h
    show swps r (swp p.1 p.2 [k]) = _
    rw [show swp p.1 p.2 [k] = if k = p.1 then p.2 else [k] by simp [swp], List.find?_cons]
    by_cases e : k = p.1
    · rw [if_pos e, show (p.1 == k) = true by simp [e]]
      refine swps_free r p.2 fun q hq hm => ?_
      have := h.1.2 q hq
      simp [hm] at this
    · rw [if_neg e, show (p.1 == k) = false by simp [Ne.symm e], swps_one r h.2]
theorem swps_len {ps : List (Nat × List Nat)} (h : okP ps = true) (l : List Nat) : (swps ps l).length ≤ 6 * l.length := by
  rw [swps_id]
  refine len_flat (fun k => ?_) l
  rw [swps_one ps h]
  split
  · rename_i p hp
    have hm := List.mem_of_find?_eq_some hp
    clear hp
    induction ps with
    | nil => cases hm
    | cons q r ih =>
      simp only [okP, Bool.and_eq_true, decide_eq_true_eq] at h
      rcases List.mem_cons.mp hm with rfl | hm
      · exact h.1.1.2
      · exact ih h.2 hm
  · simp

noncomputable def escTab : Nat → List (Nat × List Nat)
  | 2 => [(38, [38, 97, 109, 112, 59]), (60, [38, 108, 116, 59]), (62, [38, 103, 116, 59])]
  | 3 => [(38, [38, 97, 109, 112, 59]), (62, [38, 103, 116, 59]), (34, [38, 113, 117, 111, 116, 59])]
  | 4 => [(38, [38, 97, 109, 112, 59]), (60, [38, 108, 116, 59]), (34, [38, 113, 117, 111, 116, 59]), (9, [38, 35, 120, 57, 59]), (10, [38, 35, 120, 65, 59]), (13, [38, 35, 120, 68, 59])]
  | _ => []
noncomputable def escL (h : Nat) (l : List Nat) : List Nat := swps (escTab h) l

section
variable {prog : Program} {w : World} {hb : Heap} {mg mb : Str → Option Value}

theorem esc2_fn {aL : Addr} {nme qual : Str} {kV doc pm cdv ct : Value} {an : Option Addr} (M : Mod hb mg mb) (Df : DefIs hb mg "_escape_cdata" (defAt 13) aL .none nme qual kV doc pm cdv ct an)
    {l : List Nat} (hl : l.length ≤ 100000) : Fn prog w hb 2 (.ref aL) [.str (ofL l)] (.str (ofL (escL 2 l))) := by
  obtain ⟨o, ho, hd⟩ := Df.obj
  refine fn_intro (body := dBody (defAt 13)) (ps := [Str.ofString "text"]) ho hd M.lim Df.code rfl ?_ (show ∀ x ∈ (dScope (defAt 13)).names, x.2 ≠ .cell from by decide)
      (show ∀ x ∈ [Str.ofString "text"], (dScope (defAt 13)).names.lookup x = some .local from by decide) rfl (by decide) rfl rfl rfl ?_
  · intro s vs _ hl
    obtain ⟨v1, rfl⟩ := len1 hl
    exact BindsTo.of_eq rfl
  · intro A X s hA
    show Ex prog w hb _ (asc [(Str.ofString "text", .str (ofL l))]) _ _ _
    have hA1 : Room 1 (cxOf A (fnOf nme qual (dArgs (defAt 13)) (dBody (defAt 13)) (dScope (defAt 13)) .none kV doc pm an cdv ct) aL X s).A := (hA.deeper _).le (by omega)
    refine ex_try ?_
    have hb : ∀ j, okP ((escTab 2).take j) = true → (swps ((escTab 2).take j) l).length ≤ 600000 := fun j hj => by have := swps_len hj l; omega
    have b0 := hb 0 (by decide)
    refine ex_swap (k := 38) hA1 rfl (by decide) (by walk_at "var") rfl (by
      rw [show (Str.ofString "&amp;").length = 5 from by decide]
      have e : ∀ l' : List Nat, l'.length ≤ 600000 → l'.length + (l'.length + 1) * 5 ≤ 16777216 := fun l' h => by omega
      exact e _ b0) ?_
    have b1 := hb 1 (by decide)
    refine ex_swap (k := 60) hA1 rfl (by decide) (by walk_at "var") rfl (by
      rw [show (Str.ofString "&lt;").length = 4 from by decide]
      have e : ∀ l' : List Nat, l'.length ≤ 600000 → l'.length + (l'.length + 1) * 4 ≤ 16777216 := fun l' h => by omega
      exact e _ b1) ?_
    have b2 := hb 2 (by decide)
    refine ex_swap (k := 62) hA1 rfl (by decide) (by walk_at "var") rfl (by
      rw [show (Str.ofString "&gt;").length = 4 from by decide]
      have e : ∀ l' : List Nat, l'.length ≤ 600000 → l'.length + (l'.length + 1) * 4 ≤ 16777216 := fun l' h => by omega
      exact e _ b2) ?_
    exact ex_ret2 (ev_name (by walk_at "var")) (fun b h => .inr h) (fun b o e => e)

theorem esc3_fn {aL : Addr} {nme qual : Str} {kV doc pm cdv ct : Value} {an : Option Addr} (M : Mod hb mg mb) (Df : DefIs hb mg "_escape_attrib_html" (defAt 14) aL .none nme qual kV doc pm cdv ct an)
    {l : List Nat} (hl : l.length ≤ 100000) : Fn prog w hb 2 (.ref aL) [.str (ofL l)] (.str (ofL (escL 3 l))) := by
  obtain ⟨o, ho, hd⟩ := Df.obj
  refine fn_intro (body := dBody (defAt 14)) (ps := [Str.ofString "text"]) ho hd M.lim Df.code rfl ?_ (show ∀ x ∈ (dScope (defAt 14)).names, x.2 ≠ .cell from by decide)
      (show ∀ x ∈ [Str.ofString "text"], (dScope (defAt 14)).names.lookup x = some .local from by decide) rfl (by decide) rfl rfl rfl ?_
  · intro s vs _ hl
    obtain ⟨v1, rfl⟩ := len1 hl
    exact BindsTo.of_eq rfl
  · intro A X s hA
    show Ex prog w hb _ (asc [(Str.ofString "text", .str (ofL l))]) _ _ _
    have hA1 : Room 1 (cxOf A (fnOf nme qual (dArgs (defAt 14)) (dBody (defAt 14)) (dScope (defAt 14)) .none kV doc pm an cdv ct) aL X s).A := (hA.deeper _).le (by omega)
    refine ex_try ?_
    have hb : ∀ j, okP ((escTab 3).take j) = true → (swps ((escTab 3).take j) l).length ≤ 600000 := fun j hj => by have := swps_len hj l; omega
    have b0 := hb 0 (by decide)
    refine ex_swap (k := 38) hA1 rfl (by decide) (by walk_at "var") rfl (by
      rw [show (Str.ofString "&amp;").length = 5 from by decide]
      have e : ∀ l' : List Nat, l'.length ≤ 600000 → l'.length + (l'.length + 1) * 5 ≤ 16777216 := fun l' h => by omega
      exact e _ b0) ?_
    have b1 := hb 1 (by decide)
    refine ex_swap (k := 62) hA1 rfl (by decide) (by walk_at "var") rfl (by
      rw [show (Str.ofString "&gt;").length = 4 from by decide]
      have e : ∀ l' : List Nat, l'.length ≤ 600000 → l'.length + (l'.length + 1) * 4 ≤ 16777216 := fun l' h => by omega
      exact e _ b1) ?_
    have b2 := hb 2 (by decide)
    refine ex_swap (k := 34) hA1 rfl (by decide) (by walk_at "var") rfl (by
      rw [show (Str.ofString "&quot;").length = 6 from by decide]
      have e : ∀ l' : List Nat, l'.length ≤ 600000 → l'.length + (l'.length + 1) * 6 ≤ 16777216 := fun l' h => by omega
      exact e _ b2) ?_
    exact ex_ret2 (ev_name (by walk_at "var")) (fun b h => .inr h) (fun b o e => e)

theorem esc4_fn {aL : Addr} {nme qual : Str} {kV doc pm cdv ct : Value} {an : Option Addr} (M : Mod hb mg mb) (Df : DefIs hb mg "_escape_attrib_c14n" (defAt 15) aL .none nme qual kV doc pm cdv ct an)
    {l : List Nat} (hl : l.length ≤ 100000) : Fn prog w hb 2 (.ref aL) [.str (ofL l)] (.str (ofL (escL 4 l))) := by
  obtain ⟨o, ho, hd⟩ := Df.obj
  refine fn_intro (body := dBody (defAt 15)) (ps := [Str.ofString "text"]) ho hd M.lim Df.code rfl ?_ (show ∀ x ∈ (dScope (defAt 15)).names, x.2 ≠ .cell from by decide)
      (show ∀ x ∈ [Str.ofString "text"], (dScope (defAt 15)).names.lookup x = some .local from by decide) rfl (by decide) rfl rfl rfl ?_
  · intro s vs _ hl
    obtain ⟨v1, rfl⟩ := len1 hl
    exact BindsTo.of_eq rfl
  · intro A X s hA
    show Ex prog w hb _ (asc [(Str.ofString "text", .str (ofL l))]) _ _ _
    have hA1 : Room 1 (cxOf A (fnOf nme qual (dArgs (defAt 15)) (dBody (defAt 15)) (dScope (defAt 15)) .none kV doc pm an cdv ct) aL X s).A := (hA.deeper _).le (by omega)
    refine ex_try ?_
    have hb : ∀ j, okP ((escTab 4).take j) = true → (swps ((escTab 4).take j) l).length ≤ 600000 := fun j hj => by have := swps_len hj l; omega
    have b0 := hb 0 (by decide)
    refine ex_swap (k := 38) hA1 rfl (by decide) (by walk_at "var") rfl (by
      rw [show (Str.ofString "&amp;").length = 5 from by decide]
      have e : ∀ l' : List Nat, l'.length ≤ 600000 → l'.length + (l'.length + 1) * 5 ≤ 16777216 := fun l' h => by omega
      exact e _ b0) ?_
    have b1 := hb 1 (by decide)
    refine ex_swap (k := 60) hA1 rfl (by decide) (by walk_at "var") rfl (by
      rw [show (Str.ofString "&lt;").length = 4 from by decide]
      have e : ∀ l' : List Nat, l'.length ≤ 600000 → l'.length + (l'.length + 1) * 4 ≤ 16777216 := fun l' h => by omega
      exact e _ b1) ?_
    have b2 := hb 2 (by decide)
    refine ex_swap (k := 34) hA1 rfl (by decide) (by walk_at "var") rfl (by
      rw [show (Str.ofString "&quot;").length = 6 from by decide]
      have e : ∀ l' : List Nat, l'.length ≤ 600000 → l'.length + (l'.length + 1) * 6 ≤ 16777216 := fun l' h => by omega
      exact e _ b2) ?_
    have b3 := hb 3 (by decide)
    refine ex_swap (k := 9) hA1 rfl (by decide) (by walk_at "var") rfl (by
      rw [show (Str.ofString "&#x9;").length = 5 from by decide]
      have e : ∀ l' : List Nat, l'.length ≤ 600000 → l'.length + (l'.length + 1) * 5 ≤ 16777216 := fun l' h => by omega
      exact e _ b3) ?_
    have b4 := hb 4 (by decide)
    refine ex_swap (k := 10) hA1 rfl (by decide) (by walk_at "var") rfl (by
      rw [show (Str.ofString "&#xA;").length = 5 from by decide]
      have e : ∀ l' : List Nat, l'.length ≤ 600000 → l'.length + (l'.length + 1) * 5 ≤ 16777216 := fun l' h => by omega
      exact e _ b4) ?_
    have b5 := hb 5 (by decide)
    refine ex_swap (k := 13) hA1 rfl (by decide) (by walk_at "var") rfl (by
      rw [show (Str.ofString "&#xD;").length = 5 from by decide]
      have e : ∀ l' : List Nat, l'.length ≤ 600000 → l'.length + (l'.length + 1) * 5 ≤ 16777216 := fun l' h => by omega
      exact e _ b5) ?_
    exact ex_ret2 (ev_name (by walk_at "var")) (fun b h => .inr h) (fun b o e => e)
end
end Mine
end

section
open PySem PySem.W PySem.Calls PySem.Spec PyProof.Rows
set_option Elab.async false
set_option linter.unusedVariables false
namespace Mine
open Sre

noncomputable def m0 (code text : Array Nat) (groups pos lim : Nat) (must : Bool) : M :=
  { code, text, lim, start := pos, pc := (header code).2, pos, handed := pos, marks := Array.replicate (2 * groups) none, mustAdvance := must,
    seen := if (header code).2 == 0 then {} else ({} : Sre.Seen).add 14 }
theorem forSearch_eq (code text : Array Nat) (groups pos lim : Nat) (must : Bool) : forSearch code text groups pos lim must =
    if pos > lim || lim - pos < (header code).1 then (m0 code text groups pos lim must).say false
    else M.attemptFrom { m0 code text groups pos lim must with lastStart := if (header code).1 > 1 && !((header code).2 != 0 && code.getD 2 0 &&& 5 != 0) then max pos (lim - ((header code).1 - 1)) else lim } pos true := rfl

noncomputable def numsOf : Stmt → Array Nat
  | .Assign _ (.Call _ (_ :: _ :: .List es _ :: _) _ _) _ => (es.map fun e => match e with | .Constant (.int i) _ _ => i.toNat | _ => 0).toArray
  | _ => #[]
noncomputable def quotCode : Array Nat := numsOf (defAt 3)
noncomputable def nameCode : Array Nat := numsOf (defAt 7)
noncomputable def valueCode : Array Nat := numsOf (defAt 8)

/-- signs that no header refuses -/
noncomputable def fine (c : Nat) : Prop := (c = 9 ∨ 32 ≤ c) ∧ c < 127
theorem inSet_name {c : Nat} (h : 32 ≤ c) (h' : c < 127) (seen : Sre.Seen) : ∃ seen', inSet nameCode c nameCode.size 5 true seen = .ok (false, seen') := by
  refine ⟨((seen.add 22).add 16).add 0, ?_⟩
  show (if ((0 : Nat) ≤ c && c ≤ 31) = true then _ else _) = _
  rw [if_neg (by simp; omega)]
  show (if (c == 127) = true then _ else _) = _
  rw [if_neg (by simp; omega)]
  rfl
theorem inSet_value {c : Nat} (h : fine c) (seen : Sre.Seen) : ∃ seen', inSet valueCode c valueCode.size 5 true seen = .ok (false, seen') := by
  refine ⟨(seen.add 9).add 0, ?_⟩
  have key : ∀ c : Fin 127, (c.1 = 9 ∨ 32 ≤ c.1) → (c.1 < 256 && (valueCode.getD (5 + (1 + c.1 / 32)) 0).testBit (c.1 % 32)) = false := by decide +kernel
  have k := key ⟨c, h.2⟩ h.1
  show (if (decide (c < 256) && (valueCode.getD (5 + (1 + c / 32)) 0).testBit (c % 32)) = true then _ else _) = _
  rw [k, if_neg Bool.false_ne_true]
  rfl

theorem admitted_none {m : M} (hn : ∀ s, s < m.lim → ∀ seen, ∃ seen', inSet m.code (m.text.getD s 0) m.code.size 5 true seen = .ok (false, seen')) : ∀ (fuel s : Nat) (seen : Sre.Seen), ∃ seen', M.admitted m fuel s seen = .ok (none, seen')
  | 0, _, seen => ⟨seen, rfl⟩
  | fuel + 1, s, seen => by
    unfold M.admitted
    by_cases h : s ≥ m.lim
    · rw [if_pos h]; exact ⟨seen, rfl⟩
    · rw [if_neg h]
      obtain ⟨seen', e⟩ := hn s (by omega) seen
      rw [e]
      exact admitted_none hn fuel (s + 1) seen'

theorem say_ends {m : M} (ho : m.outcome = none) (hfr : m.frames = []) : (M.runFor 4 (m.say false)).outcome = some .failed := by
  have e1 : (m.say false).outcome = none := ho
  have e2 : ((m.say false).step).outcome = some .failed := by
    unfold M.step
    rw [e1]
    show (match (m.say false).answer, (m.say false).frames with | some yes, [] => _ | some yes, f :: rest => _ | none, _ => _ : M).outcome = _
    rw [show (m.say false).frames = [] from hfr]
    rfl
  show (if (m.say false).outcome.isSome = true then _ else M.runFor 3 (m.say false).step).outcome = _
  rw [e1]
  show (M.runFor 3 (m.say false).step).outcome = _
  show (if (m.say false).step.outcome.isSome = true then (m.say false).step else _).outcome = _
  rw [e2]
  exact e2
theorem from_none {m : M} (hf : m.hasFirstSet = true) (hn : ∀ s, s < m.lim → ∀ seen, ∃ seen', inSet m.code (m.text.getD s 0) m.code.size 5 true seen = .ok (false, seen')) (ho : m.outcome = none) (hfr : m.frames = []) (s : Nat) (first : Bool) :
    (M.runFor 4 (m.attemptFrom s first)).outcome = some .failed := by
  unfold M.attemptFrom
  rw [hf]
  obtain ⟨seen', e⟩ := admitted_none hn (m.lim + 1 - s) s m.seen
  rw [e]
  exact say_ends ho hfr

/-- a search by a first set that nothing meets -/
theorem search_none {code text : Array Nat} (hf : ((match ops[code.getD 0 0]? with | some .INFO => true | _ => false) && code.getD 2 0 == 4) = true)
    (hn : ∀ s, s < text.size → ∀ seen, ∃ seen', inSet code (text.getD s 0) code.size 5 true seen = .ok (false, seen')) :
    (M.runFor 4 (forSearch code text 0 0 text.size false)).outcome = some .failed := by
  rw [forSearch_eq]
  split
  · exact say_ends rfl rfl
  · refine from_none ?_ ?_ rfl rfl 0 true
    · exact hf
    · exact hn
end Mine
end

section
open PySem PySem.W PySem.Calls PySem.Spec PyProof.Rows
set_option Elab.async false
set_option linter.unusedVariables false
namespace Mine
open Sre
set_option maxRecDepth 10000

/-- the machine at work on the quoted texts -/
noncomputable def Qm (text : Array Nat) (start pc pos handed : Nat) (out : Bool) (loops : Array Sre.Loop) (inner : Option Nat) (frames : List Sre.Frame) (weight : Nat) (answer : Option Bool) (seen : Sre.Seen) : M :=
  { code := quotCode, text, lim := text.size, start, lastStart := text.size, wholeText := false, mustAdvance := false, pc, pos, handed, outermost := out, marks := #[], lastmark := -1, lastindex := -1,
    loops, inner, frames, weight, answer, seen, outcome := none }
noncomputable def KP : Sre.Kept := { lastmark := -1, lastindex := -1, whole := true, marks := #[] }
noncomputable def F0 (s : Nat) (first : Bool) : Sre.Frame := { wait := .nextStart, pc := 9, pos := s, outermost := first }
noncomputable def PM (p : Nat) (out : Bool) (count : Int) : Sre.Frame := { wait := .possMore, pc := 11, pos := p, outermost := out, count, kept := KP, loop := 0 }
noncomputable def NB (alt p : Nat) : Sre.Frame := { wait := .nextBranch, pc := alt, pos := p, outermost := false, kept := KP }
noncomputable def L1 : Array Sre.Loop := #[{ pc := 0, outer := none }]

variable {text : Array Nat} {start pos handed p s : Nat} {out first : Bool} {loops : Array Sre.Loop} {inner : Option Nat} {frames : List Sre.Frame} {weight : Nat} {seen : Sre.Seen} {count : Int}

theorem q_lit9 (h : p < text.size) (hc : text.getD p 0 = 34) : (Qm text start 9 p handed out loops inner frames weight none seen).step = Qm text start 11 (p + 1) handed out loops inner frames weight none (seen.add 16) := by
  show (if p ≥ text.size then _ else (match (Except.ok (text.getD p 0 == 34, seen.add 16) : Except String (Bool × Sre.Seen)) with | .error why => _ | .ok (false, seen) => _ | .ok (true, seen) => _) : M) = _
  rw [if_neg (by omega), hc]
  rfl
theorem q_lit9' (h : ¬ (p < text.size ∧ text.getD p 0 = 34)) : (Qm text start 9 p handed out loops inner frames weight none seen).step = Qm text start 9 p handed out loops inner frames weight (some false) (seen.add 16) := by
  show (if p ≥ text.size then _ else (match (Except.ok (text.getD p 0 == 34, seen.add 16) : Except String (Bool × Sre.Seen)) with | .error why => _ | .ok (false, seen) => _ | .ok (true, seen) => _) : M) = _
  by_cases hp : p ≥ text.size
  · rw [if_pos hp]; rfl
  · rw [if_neg hp, show (text.getD p 0 == 34) = false from by
      have : text.getD p 0 ≠ 34 := fun e => h ⟨by omega, e⟩
      simpa using this]
    rfl

theorem q_poss {fs : List Sre.Frame} : (Qm text start 11 p handed out #[] none fs 1 none seen).step = Qm text start 15 p p false L1 (some 0) (PM p out 0 :: fs) 2 none (seen.add 28) := by rfl
theorem q_branch {fs : List Sre.Frame} : (Qm text start 15 p handed false L1 (some 0) fs 2 none seen).step = Qm text start 17 p p false L1 (some 0) (NB 16 p :: fs) 3 none (seen.add 7) := by rfl
theorem q_in (h : p < text.size) (h1 : text.getD p 0 ≠ 34) (h2 : text.getD p 0 ≠ 92) : ∃ seen', (Qm text start 17 p handed out loops inner frames weight none seen).step = Qm text start 25 (p + 1) handed out loops inner frames weight none seen' := by
  have e : accepts quotCode 17 (text.getD p 0) (seen.add 13) = .ok (true, ((((seen.add 13).add 21).add 16).add 16).add 0) := by
    show (if (text.getD p 0 == 34) = true then _ else _) = _
    rw [if_neg (by simpa using h1)]
    show (if (text.getD p 0 == 92) = true then _ else _) = _
    rw [if_neg (by simpa using h2)]
    rfl
  refine ⟨((((seen.add 13).add 21).add 16).add 16).add 0, ?_⟩
  show (if p ≥ text.size then _ else (match accepts quotCode 17 (text.getD p 0) (seen.add 13) with | .error why => _ | .ok (false, seen) => _ | .ok (true, seen) => _) : M) = _
  rw [if_neg (by omega), e]
  rfl
theorem q_in' (h : ¬ (p < text.size ∧ text.getD p 0 ≠ 34 ∧ text.getD p 0 ≠ 92)) : ∃ seen', (Qm text start 17 p handed out loops inner frames weight none seen).step = Qm text start 17 p handed out loops inner frames weight (some false) seen' := by
  by_cases hp : p ≥ text.size
  · refine ⟨seen.add 13, ?_⟩
    show (if p ≥ text.size then _ else _ : M) = _
    rw [if_pos hp]; rfl
  · have e : ∃ seen', accepts quotCode 17 (text.getD p 0) (seen.add 13) = .ok (false, seen') := by
      by_cases h1 : text.getD p 0 = 34
      · refine ⟨((seen.add 13).add 21).add 16, ?_⟩
        show (if (text.getD p 0 == 34) = true then _ else _) = _
        rw [if_pos (by simpa using h1)]; rfl
      · refine ⟨(((seen.add 13).add 21).add 16).add 16, ?_⟩
        have h2 : text.getD p 0 = 92 := by
          by_cases h2 : text.getD p 0 = 92
          · exact h2
          · exact absurd ⟨by omega, h1, h2⟩ h
        show (if (text.getD p 0 == 34) = true then _ else _) = _
        rw [if_neg (by simpa using h1)]
        show (if (text.getD p 0 == 92) = true then _ else _) = _
        rw [if_pos (by simpa using h2)]; rfl
    obtain ⟨seen', e⟩ := e
    refine ⟨seen', ?_⟩
    show (if p ≥ text.size then _ else (match accepts quotCode 17 (text.getD p 0) (seen.add 13) with | .error why => _ | .ok (false, seen) => _ | .ok (true, seen) => _) : M) = _
    rw [if_neg hp, e]
    rfl
theorem q_jump25 : (Qm text start 25 p handed out loops inner frames weight none seen).step = Qm text start 34 p handed out loops inner frames weight none (seen.add 15) := by rfl
theorem q_jump31 : (Qm text start 31 p handed out loops inner frames weight none seen).step = Qm text start 34 p handed out loops inner frames weight none (seen.add 15) := by rfl
theorem q_succ34 : (Qm text start 34 p handed false loops inner frames weight none seen).step = Qm text start 34 p p false loops inner frames weight (some true) (seen.add 1) := by rfl
theorem q_nb_yes {a pc : Nat} {fs : List Sre.Frame} : (Qm text start pc pos handed out loops inner (NB a p :: fs) 3 (some true) seen).step = Qm text start a p handed false loops inner fs 2 (some true) seen := by rfl
theorem q_pm_yes {pc h : Nat} {fs : List Sre.Frame} (hc : 0 ≤ count) (hh : p ≠ h) : (Qm text start pc pos h false L1 (some 0) (PM p out count :: fs) 2 (some true) seen).step = Qm text start 15 h h false L1 (some 0) (PM h out (count + 1) :: fs) 2 none seen := by
  show (if (count + 1 : Int) < ((0 : Nat) : Int) then _ else if ((decide ((count + 1 : Int) < ((4294967295 : Nat) : Int)) || true) && (some p != some h)) = true then _ else _ : M) = _
  rw [if_neg (by omega), if_pos (by simp [hh])]
  rfl
theorem q_nb16_no {pc : Nat} {fs : List Sre.Frame} : (Qm text start pc pos handed out L1 (some 0) (NB 16 p :: fs) 3 (some false) seen).step = Qm text start 28 p p false L1 (some 0) (NB 27 p :: fs) 3 none seen := by rfl
theorem q_nb27_no {pc : Nat} {fs : List Sre.Frame} : (Qm text start pc pos handed out L1 (some 0) (NB 27 p :: fs) 3 (some false) seen).step = Qm text start 27 p handed false L1 (some 0) fs 2 (some false) seen := by rfl
theorem q_lit28 (h : p < text.size) (hc : text.getD p 0 = 92) : (Qm text start 28 p handed out loops inner frames weight none seen).step = Qm text start 30 (p + 1) handed out loops inner frames weight none (seen.add 16) := by
  show (if p ≥ text.size then _ else (match (Except.ok (text.getD p 0 == 92, seen.add 16) : Except String (Bool × Sre.Seen)) with | .error why => _ | .ok (false, seen) => _ | .ok (true, seen) => _) : M) = _
  rw [if_neg (by omega), hc]
  rfl
theorem q_lit28' (h : ¬ (p < text.size ∧ text.getD p 0 = 92)) : (Qm text start 28 p handed out loops inner frames weight none seen).step = Qm text start 28 p handed out loops inner frames weight (some false) (seen.add 16) := by
  show (if p ≥ text.size then _ else (match (Except.ok (text.getD p 0 == 92, seen.add 16) : Except String (Bool × Sre.Seen)) with | .error why => _ | .ok (false, seen) => _ | .ok (true, seen) => _) : M) = _
  by_cases hp : p ≥ text.size
  · rw [if_pos hp]; rfl
  · rw [if_neg hp, show (text.getD p 0 == 92) = false from by
      have : text.getD p 0 ≠ 92 := fun e => h ⟨by omega, e⟩
      simpa using this]
    rfl
theorem q_any (h : p < text.size) (hc : text.getD p 0 ≠ 10) : (Qm text start 30 p handed out loops inner frames weight none seen).step = Qm text start 31 (p + 1) handed out loops inner frames weight none (seen.add 2) := by
  show (if p ≥ text.size then _ else (match (Except.ok (text.getD p 0 != 10, seen.add 2) : Except String (Bool × Sre.Seen)) with | .error why => _ | .ok (false, seen) => _ | .ok (true, seen) => _) : M) = _
  rw [if_neg (by omega), show (text.getD p 0 != 10) = true from by simpa using hc]
  rfl
theorem q_any' (h : ¬ (p < text.size ∧ text.getD p 0 ≠ 10)) : (Qm text start 30 p handed out loops inner frames weight none seen).step = Qm text start 30 p handed out loops inner frames weight (some false) (seen.add 2) := by
  show (if p ≥ text.size then _ else (match (Except.ok (text.getD p 0 != 10, seen.add 2) : Except String (Bool × Sre.Seen)) with | .error why => _ | .ok (false, seen) => _ | .ok (true, seen) => _) : M) = _
  by_cases hp : p ≥ text.size
  · rw [if_pos hp]; rfl
  · rw [if_neg hp, show (text.getD p 0 != 10) = false from by
      have : text.getD p 0 = 10 := by
        by_cases e : text.getD p 0 = 10
        · exact e
        · exact absurd ⟨by omega, e⟩ h
      simpa using this]
    rfl
theorem q_pm_no {pc h : Nat} {fs : List Sre.Frame} (hc : 0 ≤ count) : (Qm text start pc pos h false L1 (some 0) (PM p out count :: fs) 2 (some false) seen).step = Qm text start 35 p p out #[] none fs 1 none seen := by
  show (if (count : Int) < ((0 : Nat) : Int) then _ else if ((decide ((count : Int) < ((4294967295 : Nat) : Int)) || true) && (some p != some p)) = true then _ else _ : M) = _
  rw [if_neg (by omega), if_neg (by simp)]
  rfl
theorem q_lit35 (h : p < text.size) (hc : text.getD p 0 = 34) : (Qm text start 35 p handed out loops inner frames weight none seen).step = Qm text start 37 (p + 1) handed out loops inner frames weight none (seen.add 16) := by
  show (if p ≥ text.size then _ else (match (Except.ok (text.getD p 0 == 34, seen.add 16) : Except String (Bool × Sre.Seen)) with | .error why => _ | .ok (false, seen) => _ | .ok (true, seen) => _) : M) = _
  rw [if_neg (by omega), hc]
  rfl
theorem q_lit35' (h : ¬ (p < text.size ∧ text.getD p 0 = 34)) : (Qm text start 35 p handed out loops inner frames weight none seen).step = Qm text start 35 p handed out loops inner frames weight (some false) (seen.add 16) := by
  show (if p ≥ text.size then _ else (match (Except.ok (text.getD p 0 == 34, seen.add 16) : Except String (Bool × Sre.Seen)) with | .error why => _ | .ok (false, seen) => _ | .ok (true, seen) => _) : M) = _
  by_cases hp : p ≥ text.size
  · rw [if_pos hp]; rfl
  · rw [if_neg hp, show (text.getD p 0 == 34) = false from by
      have : text.getD p 0 ≠ 34 := fun e => h ⟨by omega, e⟩
      simpa using this]
    rfl
theorem q_succ37 : (Qm text start 37 p handed out loops inner frames weight none seen).step = Qm text start 37 p p out loops inner frames weight (some true) (seen.add 1) := by
  cases out <;> rfl
theorem q_f0_yes {pc : Nat} : (Qm text start pc pos handed out loops inner [F0 s first] 1 (some true) seen).step = Qm text start 9 s handed first loops inner [] 0 (some true) seen := by rfl
theorem q_f0_no {pc : Nat} (h : s < text.size) : (Qm text start pc pos handed out loops inner [F0 s first] 1 (some false) seen).step = Qm text (s + 1) 9 (s + 1) (s + 1) false loops inner [F0 (s + 1) false] 1 none seen := by
  show (if s < text.size then _ else _ : M) = _
  rw [if_pos h]
  rfl
theorem q_f0_end {pc : Nat} (h : ¬ s < text.size) : (Qm text start pc pos handed out loops inner [F0 s first] 1 (some false) seen).step = Qm text start 9 s handed first loops inner [] 0 (some false) seen := by
  show (if s < text.size then _ else _ : M) = _
  rw [if_neg h]
  rfl
theorem q_end {pc : Nat} {b : Bool} : (Qm text start pc pos handed out loops inner [] weight (some b) seen).step = { Qm text start pc pos handed out loops inner [] weight (some b) seen with outcome := some (if b then .matched else .failed) } := by rfl
end Mine
end

section
open PySem PySem.W PySem.Calls PySem.Spec PyProof.Rows
set_option Elab.async false
set_option linter.unusedVariables false
namespace Mine
open Sre
set_option maxRecDepth 10000

noncomputable def Rch (k : Nat) (m m' : M) : Prop := ∃ n, n ≤ k ∧ M.runFor n m = m'
theorem runFor_out {m : M} (h : m.outcome.isSome = true) : ∀ n, M.runFor n m = m
  | 0 => rfl
  | n + 1 => by show (if m.outcome.isSome = true then m else _) = m; rw [if_pos h]
theorem runFor_add : ∀ (a b : Nat) (m : M), M.runFor (a + b) m = M.runFor b (M.runFor a m)
  | 0, b, m => by rw [Nat.zero_add]; rfl
  | a + 1, b, m => by
    rw [show a + 1 + b = (a + b) + 1 by omega]
    show (if m.outcome.isSome = true then m else M.runFor (a + b) m.step) = M.runFor b (if m.outcome.isSome = true then m else M.runFor a m.step)
    split
    · rename_i h; exact (runFor_out h b).symm
    · exact runFor_add a b m.step
theorem rch_refl {k : Nat} {m : M} : Rch k m m := ⟨0, Nat.zero_le _, rfl⟩
theorem rch_step {k : Nat} {m m₁ m' : M} (ho : m.outcome = none) (hs : m.step = m₁) (h : Rch k m₁ m') : Rch (k + 1) m m' := by
  obtain ⟨n, hn, e⟩ := h
  refine ⟨n + 1, by omega, ?_⟩
  show (if m.outcome.isSome = true then m else M.runFor n m.step) = m'
  rw [ho, hs]; exact e
theorem rch_trans {a b : Nat} {m₁ m₂ m₃ : M} (h : Rch a m₁ m₂) (h' : Rch b m₂ m₃) : Rch (a + b) m₁ m₃ := by
  obtain ⟨n, hn, e⟩ := h
  obtain ⟨n', hn', e'⟩ := h'
  exact ⟨n + n', by omega, by rw [runFor_add, e, e']⟩
theorem rch_le {a b : Nat} {m₁ m₂ : M} (h : Rch a m₁ m₂) (hb : a ≤ b) : Rch b m₁ m₂ := by
  obtain ⟨n, hn, e⟩ := h
  exact ⟨n, by omega, e⟩

/-- how far behind an opening quote the quoted text ends -/
noncomputable def closesN : List Nat → Option Nat
  | [] => none
  | c :: r => if c = 34 then some 1 else if c = 92 then (match r with | [] => none | d :: r' => if d = 10 then none else (closesN r').map (· + 2)) else (closesN r).map (· + 1)
noncomputable def findQ : List Nat → Option (Nat × Nat)
  | [] => none
  | c :: r => match (if c = 34 then closesN r else none) with
    | some k => some (0, k + 1)
    | none => (findQ r).map fun x => (x.1 + 1, x.2 + 1)

theorem drop_cons {text : Array Nat} {p c : Nat} {r : List Nat} (h : text.toList.drop p = c :: r) : p < text.size ∧ text.getD p 0 = c ∧ text.toList.drop (p + 1) = r := by
  have hp : p < text.size := by
    rcases Nat.lt_or_ge p text.size with q | q
    · exact q
    · rw [List.drop_eq_nil_of_le (by simpa using q)] at h; cases h
  rw [List.drop_eq_getElem_cons (by simpa using hp)] at h
  injection h with h1 h2
  refine ⟨hp, ?_, h2⟩
  simp only [Array.getD_eq_getD_getElem?, Array.getElem?_eq_getElem hp, Option.getD_some]
  simpa using h1
theorem drop_nil {text : Array Nat} {p : Nat} (h : text.toList.drop p = []) : ¬ p < text.size := by
  rw [List.drop_eq_nil_iff] at h
  simp at h; omega

variable {text : Array Nat} {start pos handed p s : Nat} {out first : Bool} {loops : Array Sre.Loop} {inner : Option Nat} {frames : List Sre.Frame} {weight : Nat} {seen : Sre.Seen} {count : Int}

/-- no further turn from p: the loop is left -/
theorem leave {fs : List Sre.Frame} (h : ¬ (p < text.size ∧ text.getD p 0 ≠ 34 ∧ text.getD p 0 ≠ 92)) (h2 : ¬ (p < text.size ∧ text.getD p 0 = 92)) (hc : 0 ≤ count) :
    ∃ seen', Rch 6 (Qm text start 15 p p false L1 (some 0) (PM p out count :: fs) 2 none seen) (Qm text start 35 p p out #[] none fs 1 none seen') := by
  obtain ⟨s1, e1⟩ := q_in' (text := text) (start := start) (p := p) (handed := p) (out := false) (loops := L1) (inner := some 0) (frames := NB 16 p :: PM p out count :: fs) (weight := 3) (seen := seen.add 7) h
  exact ⟨_, rch_step rfl q_branch (rch_step rfl e1 (rch_step rfl q_nb16_no (rch_step rfl (q_lit28' h2) (rch_step rfl q_nb27_no (rch_step rfl (q_pm_no hc) rch_refl)))))⟩
theorem leave92 {fs : List Sre.Frame} (h : p < text.size) (h2 : text.getD p 0 = 92) (h3 : ¬ (p + 1 < text.size ∧ text.getD (p + 1) 0 ≠ 10)) (hc : 0 ≤ count) :
    ∃ seen', Rch 7 (Qm text start 15 p p false L1 (some 0) (PM p out count :: fs) 2 none seen) (Qm text start 35 p p out #[] none fs 1 none seen') := by
  obtain ⟨s1, e1⟩ := q_in' (text := text) (start := start) (p := p) (handed := p) (out := false) (loops := L1) (inner := some 0) (frames := NB 16 p :: PM p out count :: fs) (weight := 3) (seen := seen.add 7) (fun q => q.2.2 h2)
  exact ⟨_, rch_step rfl q_branch (rch_step rfl e1 (rch_step rfl q_nb16_no (rch_step rfl (q_lit28 h h2) (rch_step rfl (q_any' h3) (rch_step rfl q_nb27_no (rch_step rfl (q_pm_no hc) rch_refl))))))⟩
theorem turn1 {fs : List Sre.Frame} (h : p < text.size) (h1 : text.getD p 0 ≠ 34) (h2 : text.getD p 0 ≠ 92) (hc : 0 ≤ count) :
    ∃ seen', Rch 6 (Qm text start 15 p p false L1 (some 0) (PM p out count :: fs) 2 none seen) (Qm text start 15 (p + 1) (p + 1) false L1 (some 0) (PM (p + 1) out (count + 1) :: fs) 2 none seen') := by
  obtain ⟨s1, e1⟩ := q_in (text := text) (start := start) (p := p) (handed := p) (out := false) (loops := L1) (inner := some 0) (frames := NB 16 p :: PM p out count :: fs) (weight := 3) (seen := seen.add 7) h h1 h2
  exact ⟨_, rch_step rfl q_branch (rch_step rfl e1 (rch_step rfl q_jump25 (rch_step rfl q_succ34 (rch_step rfl q_nb_yes (rch_step rfl (q_pm_yes hc (by omega)) rch_refl)))))⟩
theorem turn2 {fs : List Sre.Frame} (h : p < text.size) (h2 : text.getD p 0 = 92) (h3 : p + 1 < text.size) (h4 : text.getD (p + 1) 0 ≠ 10) (hc : 0 ≤ count) :
    ∃ seen', Rch 9 (Qm text start 15 p p false L1 (some 0) (PM p out count :: fs) 2 none seen) (Qm text start 15 (p + 2) (p + 2) false L1 (some 0) (PM (p + 2) out (count + 1) :: fs) 2 none seen') := by
  obtain ⟨s1, e1⟩ := q_in' (text := text) (start := start) (p := p) (handed := p) (out := false) (loops := L1) (inner := some 0) (frames := NB 16 p :: PM p out count :: fs) (weight := 3) (seen := seen.add 7) (fun q => q.2.2 h2)
  exact ⟨_, rch_step rfl q_branch (rch_step rfl e1 (rch_step rfl q_nb16_no (rch_step rfl (q_lit28 h h2) (rch_step rfl (q_any h3 h4) (rch_step rfl q_jump31 (rch_step rfl q_succ34 (rch_step rfl q_nb_yes (rch_step rfl (q_pm_yes hc (by omega)) rch_refl))))))))⟩

theorem loopC (fs : List Sre.Frame) : ∀ (n : Nat) (l : List Nat), l.length ≤ n → ∀ (p : Nat) (count : Int) (seen : Sre.Seen), text.toList.drop p = l → 0 ≤ count →
    match closesN l with
    | some k => ∃ seen', Rch (9 * l.length + 9) (Qm text start 15 p p false L1 (some 0) (PM p out count :: fs) 2 none seen) (Qm text start 37 (p + k) (p + k) out #[] none fs 1 (some true) seen')
    | none => ∃ pos' seen', Rch (9 * l.length + 9) (Qm text start 15 p p false L1 (some 0) (PM p out count :: fs) 2 none seen) (Qm text start 35 pos' pos' out #[] none fs 1 (some false) seen') := by
  intro n
  induction n with
  | zero =>
    intro l hl p count seen hd hc
    have : l = [] := List.length_eq_zero_iff.mp (by omega)
    subst this
    have hp := drop_nil hd
    obtain ⟨s1, r1⟩ := leave (text := text) (start := start) (p := p) (out := out) (fs := fs) (seen := seen) (fun q => hp q.1) (fun q => hp q.1) hc
    exact ⟨p, _, rch_le (rch_trans r1 (rch_step rfl (q_lit35' fun q => hp q.1) (rch_refl (k := 0)))) (by simp)⟩
  | succ n ih =>
    intro l hl p count seen hd hc
    match l, hl, hd with
    | [], hl, hd =>
      have hp := drop_nil hd
      obtain ⟨s1, r1⟩ := leave (text := text) (start := start) (p := p) (out := out) (fs := fs) (seen := seen) (fun q => hp q.1) (fun q => hp q.1) hc
      exact ⟨p, _, rch_le (rch_trans r1 (rch_step rfl (q_lit35' fun q => hp q.1) (rch_refl (k := 0)))) (by simp)⟩
    | c :: r, hl, hd =>
      obtain ⟨hp, hcp, hr⟩ := drop_cons hd
      by_cases h34 : c = 34
      · have e : closesN (c :: r) = some 1 := by unfold closesN; rw [if_pos h34]
        rw [e]
        subst h34
        obtain ⟨s1, r1⟩ := leave (text := text) (start := start) (p := p) (out := out) (fs := fs) (seen := seen) (fun q => q.2.1 hcp) (fun q => by rw [hcp] at q; omega) hc
        exact ⟨_, rch_le (rch_trans r1 (rch_step rfl (q_lit35 hp hcp) (rch_step rfl q_succ37 (rch_refl (k := 0))))) (by simp)⟩
      by_cases h92 : c = 92
      · match r, hr, hl with
        | [], hr, hl =>
          have e : closesN [c] = none := by unfold closesN; rw [if_neg h34, if_pos h92]
          rw [e]
          subst h92
          obtain ⟨s1, r1⟩ := leave92 (text := text) (start := start) (p := p) (out := out) (fs := fs) (seen := seen) hp hcp (fun q => drop_nil hr q.1) hc
          exact ⟨p, _, rch_le (rch_trans r1 (rch_step rfl (q_lit35' fun q => by rw [hcp] at q; omega) (rch_refl (k := 0)))) (by simp)⟩
        | d :: r', hr, hl =>
          obtain ⟨hp1, hdp, hr'⟩ := drop_cons hr
          by_cases h10 : d = 10
          · have e : closesN (c :: d :: r') = none := by unfold closesN; rw [if_neg h34, if_pos h92]; simp [h10]
            rw [e]
            subst h92
            obtain ⟨s1, r1⟩ := leave92 (text := text) (start := start) (p := p) (out := out) (fs := fs) (seen := seen) hp hcp (fun q => q.2 (hdp.trans h10)) hc
            exact ⟨p, _, rch_le (rch_trans r1 (rch_step rfl (q_lit35' fun q => by rw [hcp] at q; omega) (rch_refl (k := 0)))) (by simp)⟩
          · have e : closesN (c :: d :: r') = (closesN r').map (· + 2) := by
              conv => lhs; unfold closesN
              rw [if_neg h34, if_pos h92]; simp [h10]
            rw [e]
            subst h92
            obtain ⟨s1, r1⟩ := turn2 (text := text) (start := start) (p := p) (out := out) (fs := fs) (seen := seen) hp hcp hp1 (fun q => h10 (hdp.symm.trans q)) hc
            have IH := ih r' (by simp at hl; omega) (p + 2) (count + 1) s1 hr' (by omega)
            cases hq : closesN r' with
            | none =>
              rw [hq] at IH
              obtain ⟨pos', s2, r2⟩ := IH
              exact ⟨pos', s2, rch_le (rch_trans r1 r2) (by simp; omega)⟩
            | some k =>
              rw [hq] at IH
              obtain ⟨s2, r2⟩ := IH
              rw [show p + 2 + k = p + (k + 2) by omega] at r2
              exact ⟨s2, rch_le (rch_trans r1 r2) (by simp; omega)⟩
      · have e : closesN (c :: r) = (closesN r).map (· + 1) := by
          conv => lhs; unfold closesN
          rw [if_neg h34, if_neg h92]
        rw [e]
        obtain ⟨s1, r1⟩ := turn1 (text := text) (start := start) (p := p) (out := out) (fs := fs) (seen := seen) hp (fun q => h34 (hcp.symm.trans q)) (fun q => h92 (hcp.symm.trans q)) hc
        have IH := ih r (by simp at hl; omega) (p + 1) (count + 1) s1 hr (by omega)
        cases hq : closesN r with
        | none =>
          rw [hq] at IH
          obtain ⟨pos', s2, r2⟩ := IH
          exact ⟨pos', s2, rch_le (rch_trans r1 r2) (by simp; omega)⟩
        | some k =>
          rw [hq] at IH
          obtain ⟨s2, r2⟩ := IH
          rw [show p + 1 + k = p + (k + 1) by omega] at r2
          exact ⟨s2, rch_le (rch_trans r1 r2) (by simp; omega)⟩
end Mine
end

section
open PySem PySem.W PySem.Calls PySem.Spec PyProof.Rows
set_option Elab.async false
set_option linter.unusedVariables false
namespace Mine
open Sre
set_option maxRecDepth 10000

variable {text : Array Nat}

/-- what a search from s comes to -/
noncomputable def Found (text : Array Nat) (s : Nat) (r : Option (Nat × Nat)) (m : M) : Prop := match r with
  | some (a, b) => m.outcome = some .matched ∧ m.start = s + a ∧ m.handed = s + b
  | none => m.outcome = some .failed

theorem search_from : ∀ (l : List Nat) (s : Nat) (first : Bool) (seen : Sre.Seen), text.toList.drop s = l → s ≤ text.size →
    ∃ m, Rch ((l.length + 1) * (9 * text.size + 40)) (Qm text s 9 s s first #[] none [F0 s first] 1 none seen) m ∧ Found text s (findQ l) m := by
  intro l
  induction l with
  | nil =>
    intro s first seen hd hs
    have hp := drop_nil hd
    exact ⟨_, rch_le (rch_step rfl (q_lit9' fun q => hp q.1) (rch_step rfl (q_f0_end hp) (rch_step rfl q_end (rch_refl (k := 0))))) (by simp), rfl⟩
  | cons c r ih =>
    intro s first seen hd hs
    obtain ⟨hp, hcp, hr⟩ := drop_cons hd
    have hlen : r.length ≤ text.size := by
      have := congrArg List.length hr
      rw [List.length_drop] at this
      simp at this; omega
    -- what follows a failure at s
    have next : ∀ {k pc pos h out} {sn : Sre.Seen}, k ≤ 9 * text.size + 30 → Rch k (Qm text s 9 s s first #[] none [F0 s first] 1 none seen) (Qm text s pc pos h out #[] none [F0 s first] 1 (some false) sn) →
        (match (if c = 34 then closesN r else none) with | some k => some (0, k + 1) | none => (findQ r).map fun x => (x.1 + 1, x.2 + 1)) = (findQ r).map (fun x => (x.1 + 1, x.2 + 1)) →
        ∃ m, Rch (((c :: r).length + 1) * (9 * text.size + 40)) (Qm text s 9 s s first #[] none [F0 s first] 1 none seen) m ∧ Found text s (findQ (c :: r)) m := by
      intro k pc pos h out sn hk R e
      obtain ⟨m, R', Fd⟩ := ih (s + 1) false sn hr (by omega)
      refine ⟨m, rch_le (rch_trans R (rch_step rfl (q_f0_no hp) R')) ?_, ?_⟩
      · rw [List.length_cons, Nat.add_mul (r.length + 1) 1]
        omega
      · show Found text s (match (if c = 34 then closesN r else none) with | some k => some (0, k + 1) | none => (findQ r).map fun x => (x.1 + 1, x.2 + 1)) m
        rw [e]
        cases hq : findQ r with
        | none => rw [hq] at Fd; exact Fd
        | some x =>
          rw [hq] at Fd
          obtain ⟨f1, f2, f3⟩ := Fd
          exact ⟨f1, by rw [f2]; show s + 1 + x.1 = s + (x.1 + 1); omega, by rw [f3]; show s + 1 + x.2 = s + (x.2 + 1); omega⟩
    by_cases h34 : c = 34
    · subst h34
      have L := loopC (text := text) (start := s) (out := first) [F0 s first] r.length r (Nat.le_refl _) (s + 1) 0 ((seen.add 16).add 28) hr (Int.le_refl 0)
      cases hq : closesN r with
      | some k =>
        rw [hq] at L
        obtain ⟨s2, r2⟩ := L
        refine ⟨_, rch_le (rch_step rfl (q_lit9 hp hcp) (rch_step rfl q_poss (rch_trans r2 (rch_step rfl q_f0_yes (rch_step rfl q_end (rch_refl (k := 0))))))) ?_, ?_⟩
        · rw [List.length_cons, Nat.add_mul (r.length + 1) 1]
          have : 0 ≤ (r.length + 1) * (9 * text.size + 40) := Nat.zero_le _
          omega
        · show Found text s (match (if (34 : Nat) = 34 then closesN r else none) with | some k => some (0, k + 1) | none => (findQ r).map fun x => (x.1 + 1, x.2 + 1)) _
          rw [if_pos rfl, hq]
          exact ⟨rfl, rfl, by show s + 1 + k = s + (k + 1); omega⟩
      | none =>
        rw [hq] at L
        obtain ⟨pos', s2, r2⟩ := L
        refine next (k := 9 * r.length + 9 + 2) (by omega) (rch_le (rch_step rfl (q_lit9 hp hcp) (rch_step rfl q_poss r2)) (Nat.le_refl _)) ?_
        rw [if_pos rfl, hq]
    · refine next (k := 1) (by omega) (rch_step rfl (q_lit9' fun q => h34 (hcp.symm.trans q.2)) rch_refl) ?_
      rw [if_neg h34]

theorem findQ_short : ∀ {l : List Nat}, l.length < 2 → findQ l = none
  | [], _ => rfl
  | [c], _ => by
    show (match (if c = 34 then closesN [] else none) with | some k => some (0, k + 1) | none => (findQ []).map fun x => (x.1 + 1, x.2 + 1)) = none
    split
    · rename_i k e
      split at e
      · cases e
      · cases e
    · rfl
  | _ :: _ :: _, h => by simp at h; omega

theorem quot_search {start : Nat} (hs : start ≤ text.size) : ∃ m, Rch ((text.size + 1) * (9 * text.size + 40) + 4) (forSearch quotCode text 0 start text.size false) m ∧ Found text start (findQ (text.toList.drop start)) m := by
  rw [forSearch_eq]
  split
  · rename_i h
    have h2 : (header quotCode).1 = 2 := rfl
    rw [h2] at h
    simp only [Bool.or_eq_true, decide_eq_true_eq] at h
    have hl : (text.toList.drop start).length < 2 := by rw [List.length_drop]; simp; omega
    refine ⟨_, ⟨4, by omega, rfl⟩, ?_⟩
    rw [findQ_short hl]
    exact say_ends rfl rfl
  · obtain ⟨m, R, Fd⟩ := search_from (text := text) (text.toList.drop start) start true (({} : Sre.Seen).add 14) rfl hs
    refine ⟨m, rch_le (a := ((text.toList.drop start).length + 1) * (9 * text.size + 40)) ?_ ?_, Fd⟩
    · exact R
    · have : (text.toList.drop start).length ≤ text.size := by rw [List.length_drop]; simp
      have := Nat.mul_le_mul_right (9 * text.size + 40) (show (text.toList.drop start).length + 1 ≤ text.size + 1 by omega)
      omega
end Mine
end

section
open PySem PySem.W PySem.Calls PySem.Spec PyProof.Rows
open PySem.Builtin.Re
set_option Elab.async false
set_option linter.unusedVariables false
namespace Mine
set_option maxRecDepth 10000

section
variable {Md : Model} {A : Around} {E : Value → Shared → Prop} {s : Shared}

theorem drive {Q : Sre.M → Shared → Prop} : ∀ (T n : Nat) (m : Sre.M), n ≤ 4 * T → 1 ≤ T → (Sre.M.runFor n m).outcome.isSome = true → Q (Sre.M.runFor n m) s → wpAny Md A (reDrive T m) Q E s
  | 0, n, m, _, h1, _, _ => by omega
  | T + 1, n, m, hn, _, ho, hq => by
    show wpAny Md A (if (Sre.M.runFor reTurnSteps m).outcome.isSome = true then pure (Sre.M.runFor reTurnSteps m) else do rule "sre.turn"; reDrive T (Sre.M.runFor reTurnSteps m)) Q E s
    by_cases h4 : n ≤ 4
    · have e : Sre.M.runFor 4 m = Sre.M.runFor n m := by
        rw [show 4 = n + (4 - n) by omega, runFor_add, runFor_out ho]
      rw [show reTurnSteps = 4 from rfl, e, if_pos ho]
      exact wpAny_pure hq
    · have e : Sre.M.runFor n m = Sre.M.runFor (n - 4) (Sre.M.runFor 4 m) := by
        rw [← runFor_add]; congr 1; omega
      rw [show reTurnSteps = 4 from rfl]
      split
      · rename_i h
        rw [e, runFor_out h] at hq
        exact wpAny_pure hq
      · rw [e] at ho hq
        exact wpAny_bind (wpAny_rule (drive T (n - 4) _ (by omega) (by omega) ho hq))

theorem rules_only {f : Nat → PUnit → Sem (ForInStep PUnit)} (hf : ∀ i u s (Q : ForInStep PUnit → Shared → Prop), Q (.yield ⟨⟩) s → wpAny Md A (f i u) Q E s) {Q : PUnit → Shared → Prop} : ∀ (l : List Nat) (s : Shared), Q ⟨⟩ s → wpAny Md A (forIn l ⟨⟩ f) Q E s
  | [], s, h => by rw [List.forIn_nil]; exact wpAny_pure h
  | i :: l, s, h => by
    rw [List.forIn_cons]
    exact wpAny_bind (hf i ⟨⟩ s _ (rules_only hf l s h))
theorem run_to_end {k : Nat} {m m' : Sre.M} {Q : Option Sre.M → Shared → Prop} (R : Rch k m m') (hk : k ≤ 2 ^ 60) (h : (m'.outcome = some .matched ∧ Q (some m') s) ∨ (m'.outcome = some .failed ∧ Q none s)) : wpAny Md A (reRunToEnd m) Q E s := by
  obtain ⟨n, hn, rfl⟩ := R
  unfold reRunToEnd
  have ho : (Sre.M.runFor n m).outcome.isSome = true := by rcases h with ⟨h, _⟩ | ⟨h, _⟩ <;> rw [h] <;> rfl
  refine wpAny_bind (drive (2 ^ 64) n m (by omega) (by omega) ho ?_)
  refine wpAny_bind (rules_only (fun i u s Q hq => ?_) _ _ ?_)
  · split
    · exact wpAny_bind (wpAny_rule (wpAny_pure hq))
    · exact wpAny_pure hq
  · rcases h with ⟨h, hq⟩ | ⟨h, hq⟩
    · rw [h]; exact wpAny_pure hq
    · rw [h]; exact wpAny_pure hq
end
end Mine
end

section
open PySem PySem.W PySem.Calls PySem.Spec PyProof.Rows
set_option Elab.async false
set_option linter.unusedVariables false
set_option maxRecDepth 100000
namespace Mine
theorem slot_bytes_join : Slot "bytes" "join" "bytes.join" :=
  .of (owner := "bytes") (n := "join") (by rw [typeLookup_type, builtinLookup_eq_fast]; kernel_rfl) (by decide +kernel) (by decide +kernel) (by decide +kernel)
    (by first | exact .inl (by decide +kernel) | exact .inr (by decide +kernel)) (by rw [isSubtype_type]; kernel_rfl)
theorem entry_bytes_join : entryFor table "bytes.join" = some Builtin.«bytes.join» := entryFor_of_tree (by kernel_rfl)
theorem args_bytes_join (a b : Value) : argsOk "bytes.join" ⟨[a, b], []⟩ := by unfold argsOk; kernel_rfl
theorem slot_bytes_count : Slot "bytes" "count" "bytes.count" :=
  .of (owner := "bytes") (n := "count") (by rw [typeLookup_type, builtinLookup_eq_fast]; kernel_rfl) (by decide +kernel) (by decide +kernel) (by decide +kernel)
    (by first | exact .inl (by decide +kernel) | exact .inr (by decide +kernel)) (by rw [isSubtype_type]; kernel_rfl)
theorem entry_bytes_count : entryFor table "bytes.count" = some Builtin.«bytes.count» := entryFor_of_tree (by kernel_rfl)
theorem args_bytes_count (a b : Value) : argsOk "bytes.count" ⟨[a, b], []⟩ := by unfold argsOk; kernel_rfl
theorem type_bytes_count : typeOf (.builtin "bytes.count") = pure (.type "method_descriptor") := by show builtinType _ = _; rw [builtinType_eq_fast]; kernel_rfl
theorem slot_re_sub : Slot "re.Pattern" "sub" "re.Pattern.sub" :=
  .of (owner := "re.Pattern") (n := "sub") (by rw [typeLookup_type, builtinLookup_eq_fast]; kernel_rfl) (by decide +kernel) (by decide +kernel) (by decide +kernel)
    (by first | exact .inl (by decide +kernel) | exact .inr (by decide +kernel)) (by rw [isSubtype_type]; kernel_rfl)
theorem entry_re_sub : entryFor table "re.Pattern.sub" = some Builtin.«re.Pattern.sub» := entryFor_of_tree (by kernel_rfl)
theorem args_re_sub (a b c : Value) : argsOk "re.Pattern.sub" ⟨[a, b, c], []⟩ := by unfold argsOk; kernel_rfl
theorem type_re_sub : typeOf (.builtin "re.Pattern.sub") = pure (.type "method_descriptor") := by show builtinType _ = _; rw [builtinType_eq_fast]; kernel_rfl
theorem slot_re_search : Slot "re.Pattern" "search" "re.Pattern.search" :=
  .of (owner := "re.Pattern") (n := "search") (by rw [typeLookup_type, builtinLookup_eq_fast]; kernel_rfl) (by decide +kernel) (by decide +kernel) (by decide +kernel)
    (by first | exact .inl (by decide +kernel) | exact .inr (by decide +kernel)) (by rw [isSubtype_type]; kernel_rfl)
theorem entry_re_search : entryFor table "re.Pattern.search" = some Builtin.«re.Pattern.search» := entryFor_of_tree (by kernel_rfl)
theorem args_re_search (a b : Value) : argsOk "re.Pattern.search" ⟨[a, b], []⟩ := by unfold argsOk; kernel_rfl
theorem type_re_search : typeOf (.builtin "re.Pattern.search") = pure (.type "method_descriptor") := by show builtinType _ = _; rw [builtinType_eq_fast]; kernel_rfl
theorem entry_re_loop : entryFor table "re.Pattern.sub.loop" = some Builtin.«re.Pattern.sub.loop» := entryFor_of_tree (by kernel_rfl)
theorem plain_re_loop : plainId "re.Pattern.sub.loop" = true := by decide +kernel
theorem plainAttrs_re : PlainAttrs "re.Pattern" :=
  ⟨⟨"object.__getattribute__", by rw [typeLookup_type, builtinLookup_eq_fast]; kernel_rfl, by decide +kernel⟩, by rw [typeLookup_type, builtinLookup_eq_fast]; kernel_rfl⟩
theorem plainAttrs_bytes : PlainAttrs "bytes" :=
  ⟨⟨"bytes.__getattribute__", by rw [typeLookup_type, builtinLookup_eq_fast]; kernel_rfl, by decide +kernel⟩, by rw [typeLookup_type, builtinLookup_eq_fast]; kernel_rfl⟩
end Mine
end

section
open PySem PySem.W PySem.Calls PySem.Spec PyProof.Rows
open PySem.Builtin.Re
set_option Elab.async false
set_option linter.unusedVariables false
namespace Mine
set_option maxRecDepth 10000

noncomputable def BytesAre (vs : List Value) (ps : List (Array UInt8)) : Prop := vs.length = ps.length ∧ ∀ (i : Nat) (v : Value) (p : Array UInt8), vs[i]? = some v → ps[i]? = some p → ∃ t, v = .bytes p t

section
variable {Md : Model} {A : Around} {E : Value → Shared → Prop} {s : Shared}
theorem forIn_inv {β : Type} {f : Nat → β → Sem (ForInStep β)} (Inv : Nat → β → Prop) (n : Nat) (hf : ∀ i b (Q : ForInStep β → Shared → Prop), i < n → Inv i b → (∀ b', Inv (i + 1) b' → Q (.yield b') s) → wpAny Md A (f i b) Q E s) {Q : β → Shared → Prop} :
    ∀ (k i : Nat) (b : β), i + k = n → Inv i b → (∀ b', Inv n b' → Q b' s) → wpAny Md A (forIn (List.range' i k) b f) Q E s
  | 0, i, b, hk, hi, hq => by
    rw [List.range'_zero, List.forIn_nil]
    have : i = n := by omega
    subst this
    exact wpAny_pure (hq b hi)
  | k + 1, i, b, hk, hi, hq => by
    rw [List.range'_succ, List.forIn_cons]
    refine wpAny_bind (hf i b _ (by omega) hi fun b' hb' => ?_)
    exact forIn_inv Inv n hf k (i + 1) b' (by omega) hb' hq
theorem take_quiet {id : String} {b : Array UInt8} {t : Tok} : Builtin.Bytes.takeBufferQuiet? id (.bytes b t) 0 = pure (some (b, none)) := by
  unfold Builtin.Bytes.takeBufferQuiet? Builtin.Bytes.takeBuffer?
  rw [KBy.special_eq KBy.look_buffer, KBy.own_buffer]
  have e : Builtin.Bytes.buffer? id (.bytes b t) (full := (0 : Int) == Builtin.Bytes.fullReadOnly) = pure (some b) := KBy.buffer_eq
  rw [e]
  rfl
theorem joinLetGo_ok {keep : List Value} {Q : Unit → Shared → Prop} : ∀ (taken : List (Value × Option Value)), (∀ p ∈ taken, p.2 = none) → Q () s → wpAny Md A (Builtin.Bytes.joinLetGo taken keep) Q E s
  | [], _, h => by rw [Builtin.Bytes.joinLetGo]; exact wpAny_pure h
  | (x, w) :: rest, hw, h => by
    have : w = none := hw (x, w) (by simp)
    subst this
    show wpAny _ _ (letGo [x] _ >>= fun _ => Builtin.Bytes.joinLetGo rest keep) _ _ _
    exact wpAny_bind (wpAny_letGo (joinLetGo_ok rest (fun p hp => hw p (by simp [hp])) h))
end

theorem joined_go : ∀ (ps : List (Array UInt8)) (k : Nat) (acc : Array UInt8), ((ps.zipIdx k).foldl (fun (out : Array UInt8) (x : Array UInt8 × Nat) => (if x.2 > 0 then out ++ (#[] : Array UInt8) else out) ++ x.1) acc).toList = acc.toList ++ (ps.map (·.toList)).flatten
  | [], k, acc => by simp
  | p :: ps, k, acc => by
    rw [List.zipIdx_cons, List.foldl_cons, joined_go ps (k + 1)]
    simp
theorem joined_list (ps : List (Array UInt8)) : (Builtin.Bytes.joined #[] ps).toList = (ps.map (·.toList)).flatten := by
  exact (joined_go ps 0 #[]).trans (by simp)

section
variable {prog : Program} {w : World} {A : Around} {E : Value → Shared → Prop} {s : Shared}
open Builtin.Bytes in
theorem join_bytes {L : Addr} {vs : Array Value} {n : Nat} {ps : List (Array UInt8)} {t : Tok} {Q : Value → Shared → Prop} (hl : s.heap.get? L = some { cls := .type "list", data := .seq vs n }) (hb : BytesAre vs.toList ps)
    (hz : (ps.map (·.size)).sum ≤ 16777216) (h : ∀ t' k, Q (.bytes (joined #[] ps) t') { s with toks := k }) : wpAny (model prog w) A (call (.builtin "bytes.join") [.bytes #[] t, .ref L]) Q E s := by
  refine wpAny_call_entry slot_bytes_join (typeIs_bytes s _ t) entry_bytes_join ?_ (args_bytes_join _ _)
  unfold Builtin.«bytes.join» joinM
  refine wpAny_bind (wpAny_of_eq (show selfAndOne _ _ = pure (Value.bytes #[] t, Value.ref L) from rfl) ?_)
  show wpAny _ _ (joinItems (.ref L) >>= _) _ _ _
  refine wpAny_bind ?_
  unfold joinItems
  refine wpAny_bind (wpAny_typeOf ⟨_, hl, rfl⟩ ?_)
  rw [if_pos (by decide)]
  refine wpAny_pure (wpAny_bind (wpAny_seqItems hl rfl ?_))
  have one : ∀ x p, vs = #[x] → ps = [p] → ∃ t', x = .bytes p t' := fun x p e1 e2 => by
    subst e1; subst e2
    exact hb.2 0 x p rfl rfl
  obtain ⟨l⟩ := vs
  have hbl : l.length = ps.length := hb.1
  have hbv := hb.2
  have hsz : l.length ≤ sizeLine + l.length := by omega
  rcases l with _ | ⟨x, _ | ⟨y, r⟩⟩
  rotate_left
  · show wpAny _ _ (typeOf x >>= _) _ _ _
    match ps, hbl with
    | [p], _ =>
      obtain ⟨t', rfl⟩ := one x p rfl rfl
      refine wpAny_bind (wpAny_typeOf (typeIs_bytes s _ _) ?_)
      rw [if_pos (by decide)]
      refine wpAny_bind (wpAny_rule (wpAny_pure ⟨_, rfl, ?_⟩))
      have e : joined #[] [p] = p := by simp [joined]
      have := h t' s.toks
      rw [e] at this
      exact this
  all_goals
    show wpAny _ _ (forIn [:Array.size _] ((#[] : Array (Array UInt8)), ([] : List (Value × Option Value))) _ >>= _) _ _ _
    rw [Std.Legacy.Range.forIn_eq_forIn_range']
    refine wpAny_bind (forIn_inv (fun i (b : Array (Array UInt8) × List (Value × Option Value)) => b.1.toList = ps.take i ∧ ∀ p ∈ b.2, p.2 = none ∧ p.1.onHeap = false) ps.length ?_ _ 0 _ ?_ ?_ ?_)
    · intro i b Q' hi hI hQ
      obtain ⟨parts, taken⟩ := b
      obtain ⟨hp, ht⟩ := hI
      refine wpAny_bind (wpAny_seqItems hl rfl ?_)
      dsimp only
      rw [if_neg (by
        simp only [Bool.or_eq_true, List.any_eq_true]
        rintro (h | ⟨p, hp, h⟩)
        · exact absurd h (by decide)
        · rw [(ht p hp).2] at h; cases h)]
      have h9 := hb.1
      obtain ⟨tv, hv⟩ := hbv i _ ps[i] (List.getElem?_eq_getElem (by omega)) (List.getElem?_eq_getElem hi)
      have hx : ∀ arr : Array Value, arr.toList[i]? = some (.bytes ps[i] tv) → arr.getD i Value.none = Value.bytes ps[i] tv := fun arr e => by
        rw [Array.getElem?_toList] at e
        simp only [Array.getD_eq_getD_getElem?, e, Option.getD_some]
      rw [hx]
      rotate_left
      · rw [← hv]; exact List.getElem?_eq_getElem (by omega)
      refine wpAny_bind (wpAny_holding (wpAny_of_eq take_quiet ?_))
      dsimp only
      refine wpAny_bind (wpAny_seqItems hl rfl ?_)
      dsimp only
      rw [if_neg (by simp)]
      refine wpAny_pure (hQ _ ⟨?_, ?_⟩)
      · rw [Array.toList_push, hp, List.take_add_one, List.getElem?_eq_getElem hi]; rfl
      · intro p hp'
        rcases List.mem_append.mp hp' with hp' | hp'
        · exact ht p hp'
        · simp only [List.mem_cons, List.not_mem_nil, or_false] at hp'
          subst hp'
          exact ⟨rfl, rfl⟩
    · simp only [Std.Legacy.Range.size, Nat.sub_zero, Nat.add_sub_cancel, Nat.div_one, Nat.zero_add]
      exact hbl
    · exact ⟨rfl, fun p hp => nomatch hp⟩
    · rintro ⟨parts, taken⟩ ⟨hp, ht⟩
      rw [List.take_length] at hp
      dsimp only
      refine wpAny_bind (wpAny_of_eq (show payload (Value.bytes #[] t) = pure #[] from rfl) ?_)
      have hsum : ∀ (ps : List (Array UInt8)) (a : Nat), ps.foldl (fun x1 x2 => x1 + x2.size) a = a + (ps.map (·.size)).sum := fun ps => by
        induction ps with
        | nil => intro a; simp
        | cons p r ih => intro a; rw [List.foldl_cons, ih]; simp; omega
      have hlong : tooLong (Array.foldl (fun x1 x2 => x1 + x2.size) ((#[] : Array UInt8).size * (parts.size - 1)) parts) = false := by
        rw [← Array.foldl_toList, hp, hsum]
        show decide (_ > sizeLine) = false
        rw [sizeLine_eq]
        simp; omega
      rw [if_neg (by rw [hlong]; decide)]
      have hj : (joined #[] ps).size = (ps.map (·.size)).sum := by
        rw [← Array.length_toList, joined_list, List.length_flatten, List.map_map]
        rfl
      show wpAny _ _ (Kind.bytes.new (joined #[] parts.toList) >>= _) _ _ _
      rw [hp]
      refine wpAny_bind (wpAny_mkBytes ?_ (by rw [hj, sizeLine_eq]; exact hz))
      refine wpAny_bind (wpAny_holding (wpAny_point ?_))
      refine wpAny_bind (joinLetGo_ok taken (fun p hp => (ht p hp).1) ?_)
      exact wpAny_pure ⟨_, rfl, h _ _⟩
end
end Mine
end

section
open PySem PySem.W PySem.Calls PySem.Spec PyProof.Rows
open PySem.Builtin.Re
set_option Elab.async false
set_option linter.unusedVariables false
namespace Mine
set_option maxRecDepth 10000

noncomputable def subQ : Nat → List Nat → List Nat
  | 0, l => l
  | f + 1, l => match findQ l with
    | none => l
    | some (a, b) => l.take a ++ subQ f (l.drop b)
theorem closesN_le : ∀ (n : Nat) (l : List Nat), l.length ≤ n → ∀ k, closesN l = some k → 1 ≤ k ∧ k ≤ l.length := by
  intro n
  induction n with
  | zero =>
    intro l hl k h
    have : l = [] := List.length_eq_zero_iff.mp (by omega)
    subst this; cases h
  | succ n ih =>
    intro l hl k h
    match l, hl, h with
    | c :: r, hl, h =>
      simp only [List.length_cons] at hl ⊢
      unfold closesN at h
      split at h
      · cases h; omega
      · split at h
        · match r, hl, h with
          | d :: r', hl, h =>
            simp only [List.length_cons] at hl ⊢
            dsimp only at h
            split at h
            · cases h
            · simp only [Option.map_eq_some_iff] at h
              obtain ⟨k', hk', rfl⟩ := h
              have := ih r' (by omega) k' hk'
              omega
        · simp only [Option.map_eq_some_iff] at h
          obtain ⟨k', hk', rfl⟩ := h
          have := ih r (by omega) k' hk'
          omega
theorem findQ_le : ∀ (l : List Nat) (a b : Nat), findQ l = some (a, b) → a < b ∧ b ≤ l.length
  | [], a, b, h => by cases h
  | c :: r, a, b, h => by
    have e : findQ (c :: r) = match (if c = 34 then closesN r else none) with | some k => some (0, k + 1) | none => (findQ r).map fun x => (x.1 + 1, x.2 + 1) := rfl
    rw [e] at h
    split at h
    · rename_i k hk
      cases h
      split at hk
      · have := closesN_le _ r (Nat.le_refl _) k hk
        simp; omega
      · cases hk
    · simp only [Option.map_eq_some_iff] at h
      obtain ⟨x, hx, e⟩ := h
      cases e
      have := findQ_le r x.1 x.2 hx
      simp; omega

noncomputable def toN (p : Array UInt8) : List Nat := p.toList.map (·.toNat)
theorem toN_slice (b : Array UInt8) (x y : Nat) : toN (((b.map (·.toNat)).extract x y).map (·.toUInt8)) = ((toN b).drop x).take (y - x) := by
  unfold toN
  have e2 : ((fun x : UInt8 => x.toNat) ∘ fun x : Nat => x.toUInt8) ∘ (fun x : UInt8 => x.toNat) = fun x : UInt8 => x.toNat := by
    funext x; simp
  rw [Array.toList_map, Array.toList_extract, Array.toList_map, List.map_map, List.extract_eq_take_drop, List.map_take, List.map_drop, List.map_map, e2]

noncomputable def catB (ps : List (Array UInt8)) : List Nat := (ps.map toN).flatten
theorem catB_snoc (ps : List (Array UInt8)) (p : Array UInt8) : catB (ps ++ [p]) = catB ps ++ toN p := by simp [catB]
theorem catB_joined (ps : List (Array UInt8)) : toN (Builtin.Bytes.joined #[] ps) = catB ps := by
  unfold toN catB
  rw [joined_list, List.map_flatten, List.map_map]; rfl
theorem BytesAre.snoc {vs : List Value} {ps : List (Array UInt8)} (h : BytesAre vs ps) (p : Array UInt8) (t : Tok) : BytesAre (vs ++ [.bytes p t]) (ps ++ [p]) :=
  ⟨by simp [h.1], fun i v q a b => by
    have hl := h.1
    rcases Nat.lt_trichotomy i vs.length with c | c | c
    · rw [List.getElem?_append_left c] at a
      rw [List.getElem?_append_left (by omega)] at b
      exact h.2 i v q a b
    · subst c
      rw [List.getElem?_append_right (Nat.le_refl _)] at a
      rw [List.getElem?_append_right (by omega), hl] at b
      simp at a b
      subst a b; exact ⟨t, rfl⟩
    · rw [List.getElem?_eq_none (by simp; omega)] at a; cases a⟩

/-- a compiled pattern stands at a -/
structure PatAt (h : Heap) (a c : Addr) (code : Array Nat) (kind : Nat) : Prop where
  obj : ∃ v0 v1 v3 v4, h.get? a = some { cls := .type "re.Pattern", data := .fields #[v0, v1, .int 0 0, v3, v4, .ref c, .int kind 0] }
  codes : ∃ cls ws, h.get? c = some { cls := cls, data := .seq ws } ∧ (ws.map reRawOf).map (·.toNat) = code
theorem PatAt.keeps {h h' : Heap} {a c : Addr} {code : Array Nat} {kind : Nat} (P : PatAt h a c code kind) (k : ∀ b o, h.get? b = some o → h'.get? b = some o) : PatAt h' a c code kind := by
  obtain ⟨⟨v0, v1, v3, v4, e⟩, cls, ws, e2, e3⟩ := P
  exact ⟨⟨v0, v1, v3, v4, k _ _ e⟩, cls, ws, k _ _ e2, e3⟩

section
variable {prog : Program} {w : World} {A : Around} {E : Value → Shared → Prop} {s : Shared}

theorem text_bytes {b : Array UInt8} {t : Tok} : reTextOf (.bytes b t) = pure (b.map (·.toNat), 1) := by
  unfold reTextOf
  rw [show asStr? (.bytes b t) = pure none from rfl, pure_bind]
  show (Builtin.Bytes.bufferQuiet? "_sre" (.bytes b t) >>= _) = _
  rw [KBy.quiet_eq, pure_bind]
theorem no_coll {b : Array UInt8} {t : Tok} {k : Nat} : reNoCollectionInside (.bytes b t) k = pure () := by
  unfold reNoCollectionInside
  rw [KBy.isInstance_eq]
  split <;> rfl
theorem whole_target {Md : Model} {a c : Addr} {b : Array UInt8} {t : Tok} {code : Array Nat} {Q : ReTarget → Shared → Prop} (P : PatAt s.heap a c code 1)
    (h : Q { pattern := .ref a, string := .bytes b t, code := code, text := b.map (·.toNat), kind := 1, groups := 0, pos := 0, lim := (b.map (·.toNat)).size } s) : wpAny Md A (reWholeTarget (.ref a) (.bytes b t)) Q E s := by
  obtain ⟨⟨v0, v1, v3, v4, e⟩, cls, ws, e2, e3⟩ := P
  unfold reWholeTarget
  refine wpAny_bind (wpAny_fieldsOf e rfl ?_)
  refine wpAny_bind (wpAny_of_eq text_bytes ?_)
  dsimp only
  show wpAny _ _ (reNoCollectionInside (.bytes b t) 1 >>= _) _ _ _
  refine wpAny_bind (wpAny_of_eq no_coll ?_)
  refine wpAny_bind ?_
  refine wpAny_bind (wpAny_seqItems e2 rfl (wpAny_pure (wpAny_pure ?_)))
  show Q { pattern := .ref a, string := .bytes b t, code := (ws.map reRawOf).map (·.toNat), text := b.map (·.toNat), kind := 1, groups := 0, pos := 0, lim := (b.map (·.toNat)).size } s
  rw [e3]
  exact h
end
end Mine
end

section
open PySem PySem.W PySem.Calls PySem.Spec PyProof.Rows
open PySem.Builtin.Re
set_option Elab.async false
set_option linter.unusedVariables false
namespace Mine
set_option maxRecDepth 10000

section
variable {prog : Program} {w : World} {A : Around} {E : Value → Shared → Prop} {s : Shared}

theorem push_plain {Md : Model} {L : Addr} {vs : Array Value} {x : Value} {Q : Unit → Shared → Prop} (hl : s.heap.PlainList L vs) (hz : vs.size ≤ sizeLine) (hQ : ∀ h', h'.PlainList L (vs.push x) → Heap.SameBut L s.heap h' → Q () { s with heap := h' }) :
    wpAny Md A (updateSeq L (·.push x)) Q E s := by
  obtain ⟨n, ho⟩ := hl
  refine wpAny_updateSeq ho rfl (hQ _ ⟨n + 1, ?_⟩ (Heap.SameBut.update ..)) hz (by simp; omega)
  rw [Heap.get?_update_self _ ho (by rw [Obj.mapSeq_push_plain]; rfl), Obj.mapSeq_push_plain]

theorem slice_bytes {Md : Model} {text : Array Nat} {x y : Nat} {Q : Value → Shared → Prop} (hz : text.size ≤ 16777216) (h : Q (.bytes ((text.extract x y).map (·.toUInt8)) s.toks) { s with toks := s.toks + 1 }) : wpAny Md A (reSlice text 1 x y) Q E s := by
  show wpAny _ _ (mkBytes _) _ _ _
  refine wpAny_mkBytes h ?_
  rw [sizeLine_eq, Array.size_map, Array.size_extract]
  omega

noncomputable def loopArgs (a : Addr) (b : Array UInt8) (t tr : Tok) (n done : Nat) (must : Bool) (L : Addr) : PySem.Args :=
  ⟨[.ref a, .bytes b t, .bytes #[] tr, rawInt 0, rawInt 0, rawInt n, rawInt done, rawInt done, .bool must, .ref L, .bool false], []⟩

theorem sub_loop {a c L : Addr} {b : Array UInt8} {t tr : Tok} (hb : b.size ≤ 1000000) (hLa : L ≠ a) (hLc : L ≠ c) {R : Result → Shared → Prop} : ∀ (f : Nat) (s : Shared) (n done : Nat) (vs : Array Value) (ps : List (Array UInt8)),
    b.size + 1 - done ≤ f → done ≤ b.size → PatAt s.heap a c quotCode 1 → s.heap.PlainList L vs → BytesAre vs.toList ps → vs.size ≤ 2 * done → (ps.map (·.size)).sum ≤ done →
    (∀ h' tk t' r, (∀ b o, b ≠ L → s.heap.get? b = some o → h'.get? b = some o) → toN r = catB ps ++ subQ f ((toN b).drop done) → R (.ok (.ret (.bytes r t'))) { s with heap := h', toks := tk }) →
    codeAny (model prog w) A (.builtin "re.Pattern.sub.loop" (loopArgs a b t tr n done false L)) R s := by
  intro f
  induction f with
  | zero => intro s n done vs ps h1 h2; omega
  | succ f ih =>
    intro s n done vs ps h1 h2 P hL hB hvs hps hR
    refine codeAny_builtin entry_re_loop ?_
    rw [Around.under_plainId plain_re_loop _]
    show wpAny _ A.in1 (reWholeTarget (.ref a) (.bytes b t) >>= _) _ _ s
    refine wpAny_bind (whole_target P ?_)
    have htext : (b.map (·.toNat)).toList = toN b := by unfold toN; rw [Array.toList_map]
    have hts : (b.map (·.toNat)).size = b.size := by simp
    obtain ⟨m, Rm, Fd⟩ := quot_search (text := b.map (·.toNat)) (start := done) (by rw [hts]; exact h2)
    rw [htext] at Fd
    have hk : ((b.map (·.toNat)).size + 1) * (9 * (b.map (·.toNat)).size + 40) + 4 ≤ 2 ^ 60 := by
      rw [hts]
      have : (b.size + 1) * (9 * b.size + 40) ≤ 1000001 * 9000040 := Nat.mul_le_mul (by omega) (by omega)
      omega
    have hlit : reLiteralCannotBeTurned (.bytes #[] tr) = pure () := by
      unfold reLiteralCannotBeTurned
      rw [show asStr? (.bytes #[] tr) = pure none from rfl, pure_bind, KBy.isInstance_eq]
      rfl
    have h00 : ((0 : Int) == 0) = true := rfl
    have h0n : ((0 : Int) != 0 && decide ((n : Int) ≥ 0)) = false := rfl
    dsimp only
    simp only [h00, h0n, if_true, Bool.false_eq_true, if_false, hlit, pure_bind, Int.toNat_natCast]
    refine wpAny_bind (run_to_end Rm hk ?_)
    have hlb : (toN b).length = b.size := by simp [toN]
    have hsl : ∀ x y, (((b.map (·.toNat)).extract x y).map (·.toUInt8)).size ≤ y - x := fun x y => by
      rw [Array.size_map, Array.size_extract]; omega
    cases hq : findQ ((toN b).drop done) with
    | none =>
      rw [hq] at Fd
      refine .inr ⟨Fd, ?_⟩
      have hsub : subQ (f + 1) ((toN b).drop done) = (toN b).drop done := by
        show (match findQ ((toN b).drop done) with | none => (toN b).drop done | some (a, b') => _) = _
        rw [hq]
      dsimp only
      have he : ((b.map (·.toNat)).extract 0 0).map (·.toUInt8) = #[] := by simp
      have tail : ∀ (s' : Shared) (vs' : Array Value) (ps' : List (Array UInt8)), (∃ h' tk, s' = { s with heap := h', toks := tk }) → (∀ b o, b ≠ L → s.heap.get? b = some o → s'.heap.get? b = some o) → s'.heap.PlainList L vs' → BytesAre vs'.toList ps' →
          (ps'.map (·.size)).sum ≤ b.size → catB ps' = catB ps ++ (toN b).drop done →
          wpAny (model prog w) A.in1 (do
            let joiner ← reSlice (Array.map (fun x => x.toNat) b) 1 0 0
            let __do_lift ← seqItems? (Value.ref L)
            if (__do_lift.getD #[]).isEmpty = true then ret joiner
            else do
              let __do_lift ← call (Value.builtin (if (1 == 0) = true then "str.join" else "bytes.join")) [joiner, Value.ref L]
              ret __do_lift)
            (fun fin s' => match fin with | .done f => R (.ok f) s' | .again c' => c'.quiet = true ∧ codeAny (model prog w) A c' R s') (fun e s' => R (.error e) s') s' := by
        intro s' vs' ps' hs' hk' hL' hB' hp' hc'
        obtain ⟨h1', tk1, rfl⟩ := hs'
        refine wpAny_bind (slice_bytes (by rw [hts]; omega) ?_)
        obtain ⟨k, hL2⟩ := id hL'
        refine wpAny_bind (wpAny_seqItems (s := { s with heap := h1', toks := tk1 + 1 }) hL2 rfl ?_)
        rw [Option.getD_some, he]
        split
        · rename_i hemp
          have hps : ps' = [] := by
            have h0 : vs'.toList.length = 0 := by simpa [Array.isEmpty] using hemp
            exact List.length_eq_zero_iff.mp (by rw [← hB'.1, h0])
          refine wpAny_pure (hR h1' _ _ #[] hk' ?_)
          rw [hsub, ← hc', hps]; rfl
        · refine wpAny_bind (join_bytes (s := { s with heap := h1', toks := tk1 + 1 }) hL2 hB' (by omega) fun t' k' => ?_)
          refine wpAny_pure (hR h1' _ _ _ hk' ?_)
          rw [catB_joined, hc', hsub]
      split
      · rename_i hlt
        refine wpAny_bind (slice_bytes (by rw [hts]; omega) ?_)
        refine wpAny_bind (push_plain (s := { s with toks := s.toks + 1 }) hL (by rw [sizeLine_eq]; omega) fun h₂ hL₂ hs₂ => ?_)
        refine tail _ _ (ps ++ [((b.map (·.toNat)).extract done (b.map (·.toNat)).size).map (·.toUInt8)]) ⟨h₂, _, rfl⟩ (fun b o nb e => (hs₂.2 b nb).trans e) hL₂ ?_ ?_ ?_
        · rw [Array.toList_push]; exact hB.snoc _ _
        · have := hsl done (b.map (·.toNat)).size
          simp only [List.map_append, List.sum_append, List.map_cons, List.map_nil, List.sum_cons, List.sum_nil]
          omega
        · rw [catB_snoc, toN_slice]
          congr 1
          rw [List.take_of_length_le (by rw [List.length_drop, hlb]; omega)]
      · rename_i hlt
        refine tail s vs ps ⟨s.heap, s.toks, rfl⟩ (fun _ _ _ e => e) hL hB (by omega) ?_
        rw [List.drop_eq_nil_of_le (by rw [hlb]; omega)]; simp
    | some x =>
      obtain ⟨i, j⟩ := x
      rw [hq] at Fd
      obtain ⟨f1, f2, f3⟩ := Fd
      refine .inl ⟨f1, ?_⟩
      have hij := findQ_le _ _ _ hq
      rw [List.length_drop, hlb] at hij
      have hsub : subQ (f + 1) ((toN b).drop done) = ((toN b).drop done).take i ++ subQ f ((toN b).drop (done + j)) := by
        show (match findQ ((toN b).drop done) with | none => (toN b).drop done | some (a, b') => _) = _
        rw [hq]
        show _ ++ subQ f (List.drop j _) = _
        rw [List.drop_drop]
      dsimp only
      have tail : ∀ (s' : Shared) (vs' : Array Value) (ps' : List (Array UInt8)), (∃ h' tk, s' = { s with heap := h', toks := tk }) → (∀ b o, b ≠ L → s.heap.get? b = some o → s'.heap.get? b = some o) → s'.heap.PlainList L vs' → BytesAre vs'.toList ps' → vs'.size ≤ 2 * done + 1 →
          (ps'.map (·.size)).sum ≤ done + i → catB ps' = catB ps ++ ((toN b).drop done).take i →
          wpAny (model prog w) A.in1 (if (Value.bytes #[] tr != Value.none) = true then do
            updateSeq L fun x => x.push (Value.bytes #[] tr)
            again (Code.builtin "re.Pattern.sub.loop" { pos := [Value.ref a, Value.bytes b t, Value.bytes #[] tr, rawInt 0, rawInt 0, rawInt (↑n + 1), rawInt ↑m.handed, rawInt ↑m.handed, Value.bool (m.handed == m.start), Value.ref L, Value.bool false] })
          else again (Code.builtin "re.Pattern.sub.loop" { pos := [Value.ref a, Value.bytes b t, Value.bytes #[] tr, rawInt 0, rawInt 0, rawInt (↑n + 1), rawInt ↑m.handed, rawInt ↑m.handed, Value.bool (m.handed == m.start), Value.ref L, Value.bool false] }))
            (fun fin s' => match fin with | .done f => R (.ok f) s' | .again c' => c'.quiet = true ∧ codeAny (model prog w) A c' R s') (fun e s' => R (.error e) s') s' := by
        intro s' vs' ps' hs' hk' hL' hB' hv' hp' hc'
        obtain ⟨h1', tk1, rfl⟩ := hs'
        rw [if_pos (show (Value.bytes #[] tr != Value.none) = true from rfl), f3, f2]
        refine wpAny_bind (push_plain hL' (by rw [sizeLine_eq]; omega) fun h₂ hL₂ hs₂ => ?_)
        refine wpAny_pure ⟨plainId_quiet plain_re_loop _, ?_⟩
        have hne : (done + j == done + i) = false := by simp; omega
        rw [hne]
        have kk : ∀ b o, b ≠ L → s.heap.get? b = some o → h₂.get? b = some o := fun b o nb e => (hs₂.2 b nb).trans (hk' b o nb e)
        have P₂ : PatAt h₂ a c quotCode 1 := by
          obtain ⟨⟨v0, v1, v3, v4, e⟩, cls, ws, e2, e3⟩ := P
          exact ⟨⟨v0, v1, v3, v4, kk _ _ (Ne.symm hLa) e⟩, cls, ws, kk _ _ (Ne.symm hLc) e2, e3⟩
        refine ih _ (n + 1) (done + j) (vs'.push (.bytes #[] tr)) (ps' ++ [#[]]) (by omega) (by omega) P₂ hL₂ ?_ ?_ ?_ ?_
        · rw [Array.toList_push]; exact hB'.snoc _ _
        · rw [Array.size_push]; omega
        · simp; omega
        · intro h' tk t' r hk₃ hr
          refine hR h' tk t' r (fun b o nb e => hk₃ b o nb (kk b o nb e)) ?_
          rw [hr, catB_snoc, hc', hsub]
          simp [toN]
      split
      · rename_i hlt
        refine wpAny_bind (slice_bytes (by rw [hts]; omega) ?_)
        refine wpAny_bind (push_plain (s := { s with toks := s.toks + 1 }) hL (by rw [sizeLine_eq]; omega) fun h₂ hL₂ hs₂ => ?_)
        refine tail _ _ (ps ++ [((b.map (·.toNat)).extract done m.start).map (·.toUInt8)]) ⟨h₂, _, rfl⟩ (fun b o nb e => (hs₂.2 b nb).trans e) hL₂ ?_ ?_ ?_ ?_
        · rw [Array.toList_push]; exact hB.snoc _ _
        · rw [Array.size_push]; omega
        · have := hsl done m.start
          simp only [List.map_append, List.sum_append, List.map_cons, List.map_nil, List.sum_cons, List.sum_nil]
          omega
        · rw [catB_snoc, toN_slice]
          congr 2
          omega
      · rename_i hlt
        refine tail s vs ps ⟨s.heap, s.toks, rfl⟩ (fun _ _ _ e => e) hL hB (by omega) (by omega) ?_
        have : i = 0 := by omega
        subst this
        simp
end
end Mine
end

section
open PySem PySem.W PySem.Calls PySem.Spec PyProof.Rows
open PySem.Builtin.Re
set_option Elab.async false
set_option linter.unusedVariables false
namespace Mine
set_option maxRecDepth 10000
noncomputable def bytesOf (l : List Nat) : Array UInt8 := (l.map (·.toUInt8)).toArray
theorem bytesOf_toN (r : Array UInt8) : bytesOf (toN r) = r := by
  have e : (fun x : Nat => x.toUInt8) ∘ (fun x : UInt8 => x.toNat) = id := by funext x; simp
  simp [bytesOf, toN, e]
theorem look_call : typeLookup (.type "bytes") "__call__" = pure none := by rw [typeLookup_type, builtinLookup_eq_fast]; kernel_rfl

section
variable {prog : Program} {w : World} {A : Around} {E : Value → Shared → Prop} {s : Shared}
theorem call_sub {a c : Addr} {b : Array UInt8} {t tr : Tok} {Q : Value → Shared → Prop} (hb : b.size ≤ 1000000) (P : PatAt s.heap a c quotCode 1)
    (h : ∀ h' tk t', (∀ b o, s.heap.get? b = some o → h'.get? b = some o) → Q (.bytes (bytesOf (subQ (b.size + 1) (toN b))) t') { s with heap := h', toks := tk }) : wpAny (model prog w) A (call (.builtin "re.Pattern.sub") [.ref a, .bytes #[] tr, .bytes b t]) Q E s := by
  obtain ⟨v0, v1, v3, v4, e⟩ := P.obj
  obtain ⟨cls, ws, e2, _⟩ := P.codes
  refine wpAny_call (codeAny_call_builtin slot_re_sub.plain entry_re_sub (slot_re_sub.check _ _ _ _ _ _ _ _ ⟨_, e, rfl⟩ (args_re_sub _ _ _) ?_))
  unfold Builtin.«re.Pattern.sub» reSubstitute
  refine wpAny_bind (wpAny_of_eq (show reNamed "re.Pattern.sub" "sub" ["repl", "string", "count"] 2 [.bytes #[] tr, .bytes b t] [] = pure [some (.bytes #[] tr), some (.bytes b t), none] from rfl) ?_)
  dsimp only
  refine wpAny_bind (wpAny_pure ?_)
  rw [KBy.special_eq look_call]
  refine wpAny_bind (wpAny_pure ?_)
  show wpAny _ _ (Builtin.Bytes.bufferQuiet? "re.Pattern.sub" (.bytes #[] tr) >>= _) _ _ _
  refine wpAny_bind (wpAny_of_eq KBy.quiet_eq ?_)
  have hc : (!(#[] : Array UInt8).contains 92) = true := by simp
  have h01 : ((0 : Int) == 1) = false := rfl
  dsimp only
  simp only [hc, Option.isSome_none, Bool.false_eq_true, if_false, if_true, pure_bind, h01]
  refine wpAny_bind (wpAny_holding (whole_target P ?_))
  refine wpAny_bind (wpAny_newList ?_ (Nat.zero_le _))
  refine wpAny_pure ⟨plainId_quiet plain_re_loop _, ?_⟩
  have hLn : s.heap.get? s.heap.objs.size = none := get_fresh
  have hLa : s.heap.objs.size ≠ a := fun q => by rw [q, e] at hLn; cases hLn
  have hLc : s.heap.objs.size ≠ c := fun q => by rw [q, e2] at hLn; cases hLn
  have kp : ∀ x o, s.heap.get? x = some o → (s.heap.push { cls := .type "list", data := .seq ([] : List Value).toArray }).get? x = some o := fun x o q => Heap.get?_push_of_some _ q
  refine sub_loop (c := c) (L := s.heap.objs.size) hb hLa hLc (b.size + 1) { s with heap := s.heap.push { cls := .type "list", data := .seq ([] : List Value).toArray } } 0 0 #[] [] (by omega) (Nat.zero_le _) (P.keeps kp) ⟨0, Heap.get?_push_size _ rfl⟩ ⟨rfl, fun i v p q => by simp at q⟩ (Nat.le_refl _) (Nat.le_refl _) ?_
  intro h' tk t' r hk hr
  have := h h' tk t' fun x o q => hk x o (fun z => by rw [z, hLn] at q; cases q) (kp x o q)
  have hr' : r = bytesOf (subQ (b.size + 1) (toN b)) := by
    rw [← bytesOf_toN r, hr]; simp [catB]
  rw [hr']
  exact this
end
end Mine
end

section
open PySem PySem.W PySem.Calls PySem.Spec PyProof.Rows
open PySem.Builtin.Re
set_option Elab.async false
set_option linter.unusedVariables false
namespace Mine
set_option maxRecDepth 10000

section
variable {prog : Program} {w : World} {A : Around} {E : Value → Shared → Prop} {s : Shared}
theorem call_search {a c : Addr} {x : Str} {t : Tok} {code : Array Nat} {Q : Value → Shared → Prop} (hx : x.cps.size ≤ 1000000) (P : PatAt s.heap a c code 0)
    (hf : ((match Sre.ops[code.getD 0 0]? with | some .INFO => true | _ => false) && code.getD 2 0 == 4) = true)
    (hn : ∀ i, i < x.cps.size → ∀ seen, ∃ seen', Sre.inSet code (x.cps.getD i 0) code.size 5 true seen = .ok (false, seen'))
    (h : Q .none s) : wpAny (model prog w) A (call (.builtin "re.Pattern.search") [.ref a, .str x t]) Q E s := by
  obtain ⟨⟨v0, v1, v3, v4, e⟩, cls, ws, e2, e3⟩ := P
  refine wpAny_call_entry slot_re_search ⟨_, e, rfl⟩ entry_re_search ?_ (args_re_search _ _)
  unfold Builtin.«re.Pattern.search» reTarget
  refine wpAny_bind ?_
  refine wpAny_bind (wpAny_of_eq (show reNamed "re.Pattern.search" "search" ["string", "pos", "endpos"] 1 [.str x t] [] = pure [some (.str x t), none, none] from rfl) ?_)
  dsimp only
  refine wpAny_bind (wpAny_pure (wpAny_bind (wpAny_pure ?_)))
  refine wpAny_bind (wpAny_fieldsOf e rfl ?_)
  refine wpAny_bind (wpAny_of_eq (show reTextOf (.str x t) = pure (x.cps, 0) from rfl) ?_)
  dsimp only
  show wpAny _ _ (reNoCollectionInside (.str x t) 0 >>= _) _ _ _
  refine wpAny_bind (wpAny_of_eq (show reNoCollectionInside (.str x t) 0 = pure () from rfl) ?_)
  refine wpAny_bind ?_
  refine wpAny_bind (wpAny_seqItems e2 rfl (wpAny_pure (wpAny_pure ?_)))
  have hl : min ((2 ^ 63 - 1 : Int).toNat) x.cps.size = x.cps.size := by omega
  show wpAny _ _ (reRunToEnd (Sre.forSearch ((ws.map reRawOf).map (·.toNat)) x.cps 0 (min (0 : Int).toNat x.cps.size) (min ((2 ^ 63 - 1 : Int).toNat) x.cps.size) false) >>= _) _ _ _
  rw [e3, hl, show min (0 : Int).toNat x.cps.size = 0 by simp]
  refine wpAny_bind (run_to_end (m' := Sre.M.runFor 4 (Sre.forSearch code x.cps 0 0 x.cps.size false)) ⟨4, Nat.le_refl _, rfl⟩ (by omega) (.inr ⟨search_none hf hn, ?_⟩))
  exact wpAny_pure ⟨_, rfl, h⟩
end
end Mine
end

section
open PySem PySem.W PySem.Calls PySem.Spec PyProof.Rows
set_option Elab.async false
set_option linter.unusedVariables false
namespace Mine
set_option maxRecDepth 10000
theorem codec_arg {u : Tok} : Builtin.Str.codecArg "str.encode" "encode" "'encoding'" (some (Value.str (Str.ofString "utf-8") u)) = pure (some (Str.ofString "utf-8")) := by
  have h1 : ((Str.ofString "utf-8").cps.any (· ≥ 128)) = false := by decide +kernel
  have h2 : ((Str.ofString "utf-8").cps.contains 0) = false := by decide +kernel
  unfold Builtin.Str.codecArg
  show (pure (Str.ofString "utf-8") >>= _) = _
  rw [pure_bind]
  rw [h1, h2]
  rfl
theorem forIn_two {Md : Model} {A : Around} {E : Value → Shared → Prop} {s : Shared} {α β : Type} {f : α → β → Sem (ForInStep β)} {b0 b1 : β} (h1 : ∀ i (Q : ForInStep β → Shared → Prop), Q (.yield b1) s → wpAny Md A (f i b0) Q E s) (h2 : ∀ i (Q : ForInStep β → Shared → Prop), Q (.done b1) s → wpAny Md A (f i b1) Q E s)
    {Q : β → Shared → Prop} (hq : Q b1 s) : ∀ l : List α, l ≠ [] → wpAny Md A (forIn l b0 f) Q E s
  | [], h => absurd rfl h
  | [a], _ => by
    rw [List.forIn_cons]
    refine wpAny_bind (h1 a _ ?_)
    dsimp only
    rw [List.forIn_nil]
    exact wpAny_pure hq
  | a :: b :: l, _ => by
    rw [List.forIn_cons]
    refine wpAny_bind (h1 a _ ?_)
    dsimp only
    rw [List.forIn_cons]
    exact wpAny_bind (h2 b _ (wpAny_pure hq))

theorem utf8_ascii (l : List Nat) (h : ∀ c ∈ l, c < 128) : ∀ acc : Array UInt8, (l.foldl (fun acc y => acc ++ (Builtin._codecs.utf8Codec.bytesOf y).toArray) acc) = acc ++ bytesOf l := by
  induction l with
  | nil => intro acc; simp [bytesOf]
  | cons c r ih =>
    intro acc
    rw [List.foldl_cons, ih (fun x hx => h x (by simp [hx]))]
    have e : Builtin._codecs.utf8Codec.bytesOf c = [c.toUInt8] := by
      show Str.utf8Of c = _
      unfold Str.utf8Of
      rw [if_pos (h c (by simp))]
    rw [e]
    apply Array.toList_inj.mp
    simp [bytesOf]
theorem not_bad (l : List Nat) (h : ∀ c ∈ l, c < 128) : ∀ c ∈ l, Builtin._codecs.utf8Codec.bad c = false := fun c hc => by
  show Str.isSurrogate c = false
  unfold Str.isSurrogate
  have := h c hc
  simp; omega

section
variable {prog : Program} {w : World} {A : Around} {E : Value → Shared → Prop} {s : Shared}
theorem call_encode {x : Str} {t u : Tok} {Q : Value → Shared → Prop} (ha : ∀ c ∈ x.cps.toList, c < 128) (hz : x.cps.size ≤ 1000000)
    (h : Q (.bytes (bytesOf x.cps.toList) s.toks) { s with toks := s.toks + 1 }) : wpAny (model prog w) A (call (.builtin "str.encode") [.str x t, .str (Str.ofString "utf-8") u]) Q E s := by
  refine wpAny_call_entry PySem.F.slot_str_encode (typeIs_str s _ t) PySem.F.entry_str_encode ?_ (PySem.F.args_str_encode_2 _ _)
  unfold Builtin.«str.encode»
  refine wpAny_bind (wpAny_of_eq (show Builtin.Str.strSelf { pos := [Value.str x t, Value.str (Str.ofString "utf-8") u] } = pure (.str x t, x, [Value.str (Str.ofString "utf-8") u]) from rfl) ?_)
  refine wpAny_bind (wpAny_of_eq (show Builtin.Str.bindOptional "str.encode" "encode" 0 ["encoding", "errors"] [Value.str (Str.ofString "utf-8") u] [] = pure [some (Value.str (Str.ofString "utf-8") u), none] from rfl) ?_)
  dsimp only
  refine wpAny_bind (wpAny_of_eq codec_arg ?_)
  refine wpAny_bind (wpAny_of_eq (show Builtin.Str.codecArg "str.encode" "encode" "'errors'" none = pure none from rfl) ?_)
  rw [show (some (Str.ofString "utf-8")).getD (Str.ofString "utf-8") = Str.ofString "utf-8" from rfl, encodeRoad_utf8]
  refine wpAny_bind (wpAny_bind ?_)
  unfold Builtin._codecs.encodeNarrow
  dsimp only
  rw [Std.Legacy.Range.forIn_eq_forIn_range']
  have hfin : Q (.bytes (bytesOf x.cps.toList) s.toks) { s with toks := s.toks + 1 } := h
  have hsz : (bytesOf x.cps.toList).size ≤ sizeLine := by
    rw [sizeLine_eq]
    simp [bytesOf]; omega
  refine wpAny_bind ?_
  by_cases h0 : x.length = 0
  · have hx : x.cps.toList = [] := List.length_eq_zero_iff.mp (by rw [Array.length_toList]; exact h0)
    rw [show (List.range' ([:x.length] : Std.Legacy.Range).start ([:x.length] : Std.Legacy.Range).size ([:x.length] : Std.Legacy.Range).step) = [] by simp [Std.Legacy.Range.size, h0]]
    rw [List.forIn_nil]
    refine wpAny_pure (wpAny_pure (wpAny_mkBytes (wpAny_pure ⟨_, rfl, ?_⟩) (Nat.zero_le _)))
    rw [hx] at hfin
    exact hfin
  · have hpos : 0 < x.cps.size := Nat.pos_of_ne_zero h0
    refine forIn_two (b1 := (x.cps.size, bytesOf x.cps.toList, ({} : Builtin._codecs.Faults))) (fun i Q' hq => ?_) (fun i Q' hq => ?_) ?_ _ ?_
    · dsimp only
      rw [if_neg (by simp)]
      rw [Array.getElem?_eq_getElem hpos]
      dsimp only
      have hnb : Builtin._codecs.utf8Codec.bad x.cps[0] = false := not_bad _ ha _ (by simp)
      rw [hnb, if_pos (by rfl)]
      have hrest : x.cps.extract 0 x.cps.size = x.cps := by simp
      have hfind : Array.findIdx? Builtin._codecs.utf8Codec.bad x.cps = none := by
        rw [Array.findIdx?_eq_none_iff]
        intro c hc
        exact not_bad _ ha c (by simpa using hc)
      refine wpAny_pure ?_
      rw [hrest, hfind, Option.getD_none, hrest, Nat.zero_add]
      rw [← Array.foldl_toList, utf8_ascii _ ha]
      simpa using hq
    · dsimp only
      rw [if_neg (by omega)]
      rw [Array.getElem?_eq_none (Nat.le_refl _)]
      exact wpAny_pure hq
    · exact wpAny_pure (wpAny_mkBytes (wpAny_pure ⟨_, rfl, hfin⟩) hsz)
    · simp [Std.Legacy.Range.size]; omega
end
end Mine
end

section
open PySem PySem.W PySem.Calls PySem.Spec PyProof.Rows
set_option Elab.async false
set_option linter.unusedVariables false
namespace Mine
set_option maxRecDepth 10000
theorem occ_one (b : Array UInt8) (c : UInt8) : (Builtin.Bytes.occurrences b #[c] 0 b.size).length = b.toList.count c := by
  unfold Builtin.Bytes.occurrences
  have key : ∀ n, n ≤ b.size → ∀ st, st = ((List.range n).map (· + 0)).foldl (fun (acc : List Nat × Nat) (i : Nat) => if i ≥ acc.2 && b.extract i (i + (#[c] : Array UInt8).size) == #[c] then (i :: acc.1, i + (#[c] : Array UInt8).size) else acc) ([], 0) →
      st.1.length = (b.toList.take n).count c ∧ st.2 ≤ n := by
    intro n
    induction n with
    | zero => intro _ st h; subst h; exact ⟨rfl, Nat.le_refl _⟩
    | succ n ih =>
      intro hn st h
      rw [List.range_succ, List.map_append, List.foldl_append] at h
      obtain ⟨a1, a2⟩ := ih (by omega) _ rfl
      generalize ((List.range n).map (· + 0)).foldl (fun (acc : List Nat × Nat) (i : Nat) => if i ≥ acc.2 && b.extract i (i + (#[c] : Array UInt8).size) == #[c] then (i :: acc.1, i + (#[c] : Array UInt8).size) else acc) ([], 0) = s0 at h a1 a2
      have hn' : n < b.toList.length := by rw [Array.length_toList]; omega
      have hb : b.extract n (n + (#[c] : Array UInt8).size) = #[b[n]] := by
        apply Array.toList_inj.mp
        rw [Array.toList_extract, List.extract_eq_take_drop, List.drop_eq_getElem_cons hn']
        simp
      simp only [List.map_cons, List.map_nil, List.foldl_cons, List.foldl_nil, Nat.add_zero, hb] at h
      rw [List.take_succ_eq_append_getElem hn', List.count_append]
      by_cases hc : b[n] = c
      · rw [if_pos (by simp [hc, a2])] at h
        subst h
        simp [a1, hc]
      · rw [if_neg (by simp [hc])] at h
        subst h
        simp [a1, hc]; omega
  have hs : b.size + 1 - (0 + (#[c] : Array UInt8).size) = b.size := by simp
  have := (key b.size (Nat.le_refl _) _ rfl).1
  rw [show b.toList.take b.size = b.toList from List.take_of_length_le (by simp)] at this
  dsimp only
  rw [hs, List.length_reverse]
  exact this

section
variable {prog : Program} {w : World} {A : Around} {E : Value → Shared → Prop} {s : Shared}
theorem call_count {b : Array UInt8} {c : UInt8} {t u : Tok} {Q : Value → Shared → Prop}
    (h : ∀ t' k, Q (.int (b.toList.count c : Nat) t') { s with toks := k }) : wpAny (model prog w) A (call (.builtin "bytes.count") [.bytes b t, .bytes #[c] u]) Q E s := by
  refine wpAny_call_entry slot_bytes_count (typeIs_bytes s _ t) entry_bytes_count ?_ (args_bytes_count _ _)
  unfold Builtin.«bytes.count» Builtin.Bytes.countM
  refine wpAny_bind ?_
  unfold Builtin.Bytes.searchArgs
  refine wpAny_bind (wpAny_of_eq (show selfAndSome _ "count" 1 3 { pos := [Value.bytes b t, Value.bytes #[c] u] } = pure (.bytes b t, [Value.bytes #[c] u]) from rfl) ?_)
  dsimp only
  refine wpAny_bind (wpAny_of_eq (show Builtin.Bytes.bound? _ = pure none from rfl) ?_)
  refine wpAny_bind (wpAny_of_eq (show Builtin.Bytes.bound? _ = pure none from rfl) ?_)
  refine wpAny_bind (wpAny_of_eq KBy.buffer_eq ?_)
  dsimp only
  refine wpAny_pure ?_
  have hw : Builtin.Bytes.window b.size none none = (0, (b.size : Int)) := by
    unfold Builtin.Bytes.window
    simp
    omega
  rw [hw]
  dsimp only
  by_cases h0 : b.size = 0
  · rw [if_pos (by simp [h0])]
    dsimp only
    have hb : b.toList = [] := List.length_eq_zero_iff.mp (by rw [Array.length_toList]; exact h0)
    have h' := h s.toks (s.toks + 1)
    rw [hb] at h'
    exact wpAny_bind (wpAny_mkInt (wpAny_pure ⟨_, rfl, h'⟩))
  · rw [if_neg (by simp; omega)]
    dsimp only
    rw [if_neg (by simp)]
    have h' := h s.toks (s.toks + 1)
    rw [← occ_one] at h'
    refine wpAny_bind (wpAny_mkInt (wpAny_pure ⟨_, rfl, ?_⟩))
    exact h'
end
end Mine
end

section
open PySem PySem.W PySem.Calls PySem.Spec PyProof.Rows
set_option Elab.async false
set_option linter.unusedVariables false
namespace Mine
local macro_rules | `(tactic| walk_at "var") => `(tactic| first | exact upd_same | exact asc_same | (apply upd_ne (by decide); walk_at "var") | (apply asc_ne (by decide); walk_at "var") | (with_unfolding_all exact asc_same))
local macro_rules | `(tactic| walk_at "le") => `(tactic| first | exact le_nil | (refine le_cons ?_ ?_; (walk_at "var"); (walk_at "le")))

section
variable {prog : Program} {w : World} {hb : Heap} {mg mb : Str → Option Value} {cx : Cx} {ρ : Rho} {mus : Mus}

theorem ev_bytes {x : List UInt8} {k : Nat} {pos : Pos} : Ev prog w hb cx ρ mus (.Constant (.bytes x) k pos) (.bytes x.toArray) := .mk fun _ _ => Constant_bytes ⟨keeps_tok, .bytes⟩

theorem ev_encode {o : Expr} {x : Str} {apos p1 pos : Pos} {k1 : Nat} (ho : Ev prog w hb cx ρ mus o (.str x)) (ha : ∀ c ∈ x.cps.toList, c < 128) (hz : x.cps.size ≤ 1000000)
    (hbase : attributeBase o "encode" cx.env (eval o cx.env) = eval o cx.env := by rfl) (hline : (apos.endLine == pos.line) = true := by rfl) :
    Ev prog w hb cx ρ mus (.Call (.Attribute o "encode" apos) [.Constant (.str (Str.ofString "utf-8")) k1 p1] [] pos) (.bytes (bytesOf x.cps.toList)) := .mk fun s S => by
  refine Call_method1 hbase rfl hline (ho.val S fun v s₁ S₁ k₁ h₁ => ?_)
  obtain ⟨t, rfl⟩ := holds_str h₁
  refine ⟨"str", "str.encode", PySem.F.plainAttrs_str, PySem.F.slot_str_encode, PySem.F.type_str_encode, typeIs_str _ _ _, (fun _ e => nomatch e), ?_⟩
  refine callWith_builtin rfl (evalArgs_plain (spliced_cons (wpAny_Constant_str (spliced_nil ?_))))
  exact call_encode (s := { s₁ with toks := s₁.toks + 1 }) ha hz ⟨keeps_trans k₁ (keeps_trans keeps_tok (keeps_tok (s := { s₁ with toks := s₁.toks + 1 }))), .bytes⟩

theorem ev_count {o : Expr} {b : Array UInt8} {c : UInt8} {apos p1 pos : Pos} {k1 : Nat} (ho : Ev prog w hb cx ρ mus o (.bytes b))
    (hbase : attributeBase o "count" cx.env (eval o cx.env) = eval o cx.env := by rfl) (hline : (apos.endLine == pos.line) = true := by rfl) :
    Ev prog w hb cx ρ mus (.Call (.Attribute o "count" apos) [.Constant (.bytes [c]) k1 p1] [] pos) (.int (b.toList.count c : Nat)) := .mk fun s S => by
  refine up (Call_method1 hbase rfl hline (ho.val S fun v s₁ S₁ k₁ h₁ => ?_))
  obtain ⟨t, rfl⟩ := holds_bytes h₁
  refine ⟨"bytes", "bytes.count", plainAttrs_bytes, slot_bytes_count, type_bytes_count, typeIs_bytes _ _ _, (fun _ e => nomatch e), ?_⟩
  refine callWith_builtin rfl (evalArgs_plain (spliced_cons (Constant_bytes (spliced_nil ?_))))
  refine call_count (s := { s₁ with toks := s₁.toks + 1 }) fun t' k => ⟨?_, .int⟩
  obtain ⟨h, tk, e, kk, _⟩ := k₁
  exact ⟨s₁.heap, k, by rw [e], fun b o q => keeps_get ⟨h, tk, e, kk, by assumption⟩ b o q⟩

theorem ev_subq {x : Str} {np apos p1 pos : Pos} {k1 : Nat} {e : Expr} {a c : Addr} {b : Array UInt8} (ho : Ev prog w hb cx ρ mus (.Name x np) (.opq (.ref a))) (hP : PatAt hb a c quotCode 1) (he : Ev prog w hb cx ρ mus e (.bytes b)) (hz : b.size ≤ 1000000)
    (hst : isStarred e = false := by rfl)
    (hbase : attributeBase (.Name x np) "sub" cx.env (eval (.Name x np) cx.env) = eval (.Name x np) cx.env := by rfl) (hline : (apos.endLine == pos.line) = true := by rfl) :
    Ev prog w hb cx ρ mus (.Call (.Attribute (.Name x np) "sub" apos) [.Constant (.bytes []) k1 p1, e] [] pos) (.bytes (bytesOf (subQ (b.size + 1) (toN b)))) := .mk fun s S => by
  have hstar : starEach [.Constant (.bytes []) k1 p1, e] cx.env = [(false, eval (.Constant (.bytes []) k1 p1) cx.env), (false, eval e cx.env)] := by
    rw [starEach_ns rfl, starEach_ns hst]; rfl
  refine up (Call_method2 hbase hstar hline (ho.val S fun v s₁ S₁ k₁ h₁ => ?_))
  obtain rfl := holds_opq h₁
  have P := hP.keeps fun b o e => (S₁.base b o e).1
  obtain ⟨v0, v1, v3, v4, e1⟩ := P.obj
  refine ⟨"re.Pattern", "re.Pattern.sub", plainAttrs_re, slot_re_sub, type_re_sub, ⟨_, e1, rfl⟩, (fun b e => by cases e; exact ⟨_, e1, rfl⟩), ?_⟩
  have kt : Keeps s₁ { s₁ with toks := s₁.toks + 1 } := keeps_tok
  refine callWith_builtin rfl (evalArgs_plain (spliced_cons (Constant_bytes (spliced_cons (he.val (S₁.keeps kt) fun v₂ s₂ S₂ k₂ h₂ => spliced_nil ?_)))))
  obtain ⟨_, rfl⟩ := holds_bytes h₂
  refine call_sub hz (hP.keeps fun b o e => (S₂.base b o e).1) fun h' tk t' hk => ⟨?_, .bytes⟩
  obtain ⟨h2, tk2, e2, kk, _⟩ := keeps_trans k₁ (keeps_trans kt k₂)
  exact ⟨h', tk, by rw [e2], fun b o q => hk b o (by rw [e2]; exact kk b o q)⟩

/-- what _paren_depth answers at bytes -/
noncomputable def parens (l : List Nat) : Int := ((subQ (l.length + 1) l).count 40 : Nat) - ((subQ (l.length + 1) l).count 41 : Nat)
theorem count_bytesOf (l : List Nat) (hl : ∀ c ∈ l, c < 256) (c : UInt8) : (bytesOf l).toList.count c = l.count c.toNat := by
  induction l with
  | nil => rfl
  | cons x r ih =>
    have ih' := ih fun c hc => hl c (by simp [hc])
    have hx := hl x (by simp)
    have e : (x.toUInt8 == c) = (x == c.toNat) := by
      rw [Bool.eq_iff_iff, beq_iff_eq, beq_iff_eq]
      constructor
      · intro h; rw [← h]; simp; omega
      · intro h; rw [h]; simp
    have e2 : (bytesOf (x :: r)).toList = x.toUInt8 :: (bytesOf r).toList := by simp [bytesOf]
    rw [e2, List.count_cons, List.count_cons, ih', e]
theorem subQ_mem : ∀ (f : Nat) (l : List Nat), ∀ c ∈ subQ f l, c ∈ l
  | 0, _, _, h => h
  | f + 1, l, c, h => by
    have e : subQ (f + 1) l = match findQ l with | none => l | some (a, b) => l.take a ++ subQ f (l.drop b) := rfl
    rw [e] at h
    split at h
    · exact h
    · rcases List.mem_append.mp h with h | h
      · exact List.mem_of_mem_take h
      · exact List.mem_of_mem_drop (subQ_mem f _ c h)
theorem toN_lt (b : Array UInt8) : ∀ c ∈ toN b, c < 256 := fun c hc => by
  obtain ⟨x, _, rfl⟩ := List.mem_map.mp hc
  exact x.toNat_lt

theorem paren_core {A : Around} {X : Addr → Prop} {s : Shared} {fd : FuncData} {aL : Addr} {b : Array UInt8} {d : Int} {k : Nat} {aQ cQ : Addr} (hb1 : Room (k + 1 + 1) A) (M : Mod hb mg mb) (hq : mg "_quoted" = some (.ref aQ)) (hP : PatAt hb aQ cQ quotCode 1) (hz : b.size ≤ 1000000)
    (hsc : fd.scope = dScope (defAt 4)) :
    Ex prog w hb (cxOf A fd aL X s) (asc [(Str.ofString "data", .bytes b), (Str.ofString "depth", .int d)]) [] (dBody (defAt 4)) (Back w.params X s (.int (d + parens (toN b)))) := by
  obtain ⟨n1, n2, n3, n4, sc, n6, n7, n8, n9, n10, n11, n12, n13, n14, n15⟩ := fd
  have hsc' : sc = dScope (defAt 4) := hsc
  subst hsc'
  have hA1 : Room 1 (A.deeper (callEnv ⟨n1, n2, n3, n4, dScope (defAt 4), n6, n7, n8, n9, n10, n11, n12, n13, n14, n15⟩ s.heap.objs.size aL)) := (hb1.deeper _).le (by omega)
  have hlen : (toN b).length = b.size := by simp [toN]
  refine ex_assign (ev_subq (ev_global M.g hq rfl) hP (ev_name (by walk_at "var")) hz) rfl ?_
  refine ex_ret (ev_eq ?_ (ev_bin hA1 (ev_bin hA1 (ev_name (by walk_at "var")) (ev_count (ev_name (by walk_at "var"))) op_add_int) (ev_count (ev_name (by walk_at "var"))) op_sub_int)) (fun b h => .inr h) (fun b o e => e)
  have hm : ∀ c ∈ subQ (b.size + 1) (toN b), c < 256 := fun c hc => toN_lt b c (subQ_mem _ _ c hc)
  rw [count_bytesOf _ hm, count_bytesOf _ hm]
  unfold parens
  rw [hlen]
  congr 1
  show d + ((List.count 40 _ : Nat) : Int) - ((List.count 41 _ : Nat) : Int) = _
  omega

theorem paren_fn2 {aL T : Addr} {nme qual : Str} {kV doc pm cdv ct : Value} {an : Option Addr} (M : Mod hb mg mb) (Df : DefIs hb mg "_paren_depth" (defAt 4) aL (.ref T) nme qual kV doc pm cdv ct an)
    {tk : Tok} {cT : Value} {nT : Nat} (hT : hb.get? T = some { cls := cT, data := .seq #[.int 0 tk] nT })
    {aQ cQ : Addr} (hq : mg "_quoted" = some (.ref aQ)) (hP : PatAt hb aQ cQ quotCode 1) {b : Array UInt8} {d : Int} (hz : b.size ≤ 1000000) : Fn prog w hb 2 (.ref aL) [.bytes b, .int d] (.int (d + parens (toN b))) := by
  obtain ⟨o, ho, hd⟩ := Df.obj
  refine fn_intro (body := dBody (defAt 4)) (ps := [Str.ofString "data", Str.ofString "depth"]) ho hd M.lim Df.code rfl ?_ (show ∀ x ∈ (dScope (defAt 4)).names, x.2 ≠ .cell from by decide)
      (show ∀ x ∈ [Str.ofString "data", Str.ofString "depth"], (dScope (defAt 4)).names.lookup x = some .local from by decide) rfl (by decide) rfl rfl rfl ?_
  · intro s vs hk hl
    obtain ⟨v1, v2, rfl⟩ := len2 hl
    exact BindsTo.of_defaults rfl (hk T _ hT) rfl rfl rfl
  · intro A X s hA
    exact paren_core hA M hq hP hz rfl

theorem paren_fn1 {aL T : Addr} {nme qual : Str} {kV doc pm cdv ct : Value} {an : Option Addr} (M : Mod hb mg mb) (Df : DefIs hb mg "_paren_depth" (defAt 4) aL (.ref T) nme qual kV doc pm cdv ct an)
    {tk : Tok} {cT : Value} {nT : Nat} (hT : hb.get? T = some { cls := cT, data := .seq #[.int 0 tk] nT })
    {aQ cQ : Addr} (hq : mg "_quoted" = some (.ref aQ)) (hP : PatAt hb aQ cQ quotCode 1) {b : Array UInt8} (hz : b.size ≤ 1000000) : Fn prog w hb 2 (.ref aL) [.bytes b] (.int (parens (toN b))) := by
  obtain ⟨o, ho, hd⟩ := Df.obj
  have h0 : (0 : Int) + parens (toN b) = parens (toN b) := by omega
  rw [← h0]
  refine fn_introD (body := dBody (defAt 4)) (ps := [Str.ofString "data", Str.ofString "depth"]) (dvs := [.int 0 tk]) (dds := [.int 0]) ho hd M.lim Df.code rfl ?_ (show ∀ x ∈ (dScope (defAt 4)).names, x.2 ≠ .cell from by decide)
      (show ∀ x ∈ [Str.ofString "data", Str.ofString "depth"], (dScope (defAt 4)).names.lookup x = some .local from by decide) rfl rfl (by decide) (fun P V => .cons .int .nil) rfl rfl rfl ?_
  · intro s vs hk hl
    obtain ⟨v1, rfl⟩ := len1 (show vs.length = 1 by simpa using hl)
    exact BindsTo.of_defaults rfl (hk T _ hT) rfl rfl rfl
  · intro A X s hA
    exact paren_core hA M hq hP hz rfl
end
end Mine
end

section
open PySem PySem.W PySem.Calls PySem.Spec PyProof.Rows
set_option Elab.async false
set_option linter.unusedVariables false
namespace Mine
local macro_rules | `(tactic| walk_at "var") => `(tactic| first | exact upd_same | exact asc_same | (apply upd_ne (by decide); walk_at "var") | (apply asc_ne (by decide); walk_at "var") | (with_unfolding_all exact asc_same))
local macro_rules | `(tactic| walk_at "le") => `(tactic| first | exact le_nil | (refine le_cons ?_ ?_; (walk_at "var"); (walk_at "le")))

noncomputable def clsBody : Stmt → List Stmt
  | .ClassDef _ _ _ b _ _ _ _ _ _ _ => b
  | _ => []
noncomputable def methAt (n : Nat) : Stmt := (clsBody (defAt 10))[n]?.getD (.Pass ⟨0, 0, 0, 0⟩)
structure MethIs (hb : Heap) (st : Stmt) (a : Addr) (dV : Value) (nme qual : Str) (kV doc pm cdv ct : Value) (an : Option Addr) : Prop where
  obj : ∃ o, hb.get? a = some o ∧ o.data = .func (fnOf nme qual (dArgs st) (dBody st) (dScope st) dV kV doc pm an cdv ct)
  code : hb.CodeRec cdv qual
noncomputable def hdD (l : List (Str × Str)) : List D := l.map fun x => .tup [.str x.1, .str x.2]
noncomputable def toHd : D → Str × Str
  | .tup [.str a, .str b] => (a, b)
  | _ => (Str.empty, Str.empty)

section
variable {prog : Program} {w : World} {hb : Heap} {mg mb : Str → Option Value} {K : Frag} {C : Addr}

theorem values_fn {f : Addr} {nme qual : Str} {kV doc pm cdv ct : Value} {an : Option Addr} (M : Mod hb mg mb) (hc : Hdr hb K C) (Df : MethIs hb (methAt 10) f .none nme qual kV doc pm cdv ct an)
    {hs : List (Str × Str)} (hz : hs.length ≤ 1000) : Fn prog w hb 2 (.ref f) [.tabf C (hdD hs)] (.list (hs.map fun x => .str x.2)) := by
  obtain ⟨o, ho, hd⟩ := Df.obj
  refine fn_intro (body := dBody (methAt 10)) (ps := [Str.ofString "self"]) ho hd M.lim Df.code rfl ?_ (show ∀ x ∈ (dScope (methAt 10)).names, x.2 ≠ .cell from by decide)
      (show ∀ x ∈ [Str.ofString "self"], (dScope (methAt 10)).names.lookup x = some .local from by decide) rfl (by decide) rfl rfl rfl ?_
  · intro s vs _ hl
    obtain ⟨v1, rfl⟩ := len1 hl
    exact BindsTo.of_eq rfl
  · intro A X s hA
    show Ex prog w hb _ (asc [(Str.ofString "self", .tabf C (hdD hs))]) _ _ _
    refine ex_ret (ev_eq ?_ (ev_comp (ds := hdD hs) (cl := []) hA.hh (asc []) (fun d => upd (upd (asc []) (Str.ofString "k") (.str (toHd d).1)) (Str.ofString "v") (.str (toHd d).2)) (fun d => some (.str (toHd d).2))
      (ev_headersf hc (ev_name (by walk_at "var"))) (compSc0 rfl (by decide) rfl (by decide)) capt0 ?_ ?_ ?_ ?_ ?_)) (fun b h => .inr h) (fun b o e => e)
    · simp [hdD, toHd, Function.comp_def]
    · intro d hd C' X' pr' s₀
      obtain ⟨b, _, rfl⟩ := List.mem_map.mp hd
      exact asg_tup hA.hh (asgl_cons rfl (asgl_cons rfl asgl_nil))
    · intro d hd C' X' pr' s₀; exact etall_nil
    · intro d hd e he C' X' pr' s₀
      cases he
      exact ev_name (by walk_at "var")
    · intro d hd; exact le_nil
    · rw [sizeLine_eq]; simp [hdD]; omega

theorem keys_fn {f : Addr} {nme qual : Str} {kV doc pm cdv ct : Value} {an : Option Addr} (M : Mod hb mg mb) (hc : Hdr hb K C) (Df : MethIs hb (methAt 9) f .none nme qual kV doc pm cdv ct an)
    {hs : List (Str × Str)} (hz : hs.length ≤ 1000) : Fn prog w hb 2 (.ref f) [.tabf C (hdD hs)] (.list (hs.map fun x => .str x.1)) := by
  obtain ⟨o, ho, hd⟩ := Df.obj
  refine fn_intro (body := dBody (methAt 9)) (ps := [Str.ofString "self"]) ho hd M.lim Df.code rfl ?_ (show ∀ x ∈ (dScope (methAt 9)).names, x.2 ≠ .cell from by decide)
      (show ∀ x ∈ [Str.ofString "self"], (dScope (methAt 9)).names.lookup x = some .local from by decide) rfl (by decide) rfl rfl rfl ?_
  · intro s vs _ hl
    obtain ⟨v1, rfl⟩ := len1 hl
    exact BindsTo.of_eq rfl
  · intro A X s hA
    show Ex prog w hb _ (asc [(Str.ofString "self", .tabf C (hdD hs))]) _ _ _
    refine ex_ret (ev_eq ?_ (ev_comp (ds := hdD hs) (cl := []) hA.hh (asc []) (fun d => upd (upd (asc []) (Str.ofString "k") (.str (toHd d).1)) (Str.ofString "v") (.str (toHd d).2)) (fun d => some (.str (toHd d).1))
      (ev_headersf hc (ev_name (by walk_at "var"))) (compSc0 rfl (by decide) rfl (by decide)) capt0 ?_ ?_ ?_ ?_ ?_)) (fun b h => .inr h) (fun b o e => e)
    · simp [hdD, toHd, Function.comp_def]
    · intro d hd C' X' pr' s₀
      obtain ⟨b, _, rfl⟩ := List.mem_map.mp hd
      exact asg_tup hA.hh (asgl_cons rfl (asgl_cons rfl asgl_nil))
    · intro d hd C' X' pr' s₀; exact etall_nil
    · intro d hd e he C' X' pr' s₀
      cases he
      exact ev_name (by walk_at "var")
    · intro d hd; exact le_nil
    · rw [sizeLine_eq]; simp [hdD]; omega
end
end Mine
end

section
open PySem PySem.W PySem.Calls PySem.Spec PyProof.Rows
set_option Elab.async false
set_option linter.unusedVariables false
namespace Mine
local macro_rules | `(tactic| walk_at "var") => `(tactic| first | exact upd_same | exact asc_same | (apply upd_ne (by decide); walk_at "var") | (apply asc_ne (by decide); walk_at "var") | (with_unfolding_all exact asc_same))
local macro_rules | `(tactic| walk_at "le") => `(tactic| first | exact le_nil | (refine le_cons ?_ ?_; (walk_at "var"); (walk_at "le")))

section
variable {prog : Program} {w : World} {hb : Heap} {mg mb : Str → Option Value} {K : Frag} {C : Addr} {cx : Cx} {ρ : Rho} {mus : Mus}

theorem ev_fmt {e : Expr} {x : Str} {pos : Pos} (he : Ev prog w hb cx ρ mus e (.str x)) (hz : x.length ≤ sizeLine) : Ev prog w hb cx ρ mus (.FormattedValue e 115 none pos) (.str x) := .mk fun s S => by
  refine up (wpAny_FormattedValue_s (he.val S fun v s₁ S₁ k₁ h₁ => ?_))
  obtain ⟨_, rfl⟩ := holds_str h₁
  obtain ⟨h, tk, e, kk, _⟩ := k₁
  refine habitSame_str (fun t' tk' => formatField_str (fun t'' tk'' => ⟨⟨s₁.heap, tk'', by rw [e], fun b o q => by rw [e]; exact kk b o q⟩, .str⟩) hz) hz
/-- the parts of a text, joined -/
structure EvJ (prog : Program) (w : World) (hb : Heap) (cx : Cx) (ρ : Rho) (mus : Mus) (es : List Expr) (acc out : Str) : Prop where
  run : ∀ s, St w.params hb cx ρ mus s → wpAny (model prog w) cx.A (joinParts acc (evalEach es cx.env)) (fun v s' => Keeps s s' ∧ Holds w.params (vis cx.X s'.heap) v (.str out)) NoE s
theorem evj_nil {acc : Str} (hz : acc.length ≤ sizeLine) : EvJ prog w hb cx ρ mus [] acc acc := .mk fun s S => joinParts_nil ⟨keeps_tok, .str⟩ hz
theorem evj_cons {e : Expr} {es : List Expr} {acc y out : Str} (he : Ev prog w hb cx ρ mus e (.str y)) (hz : (acc ++ y).length ≤ sizeLine) (t : EvJ prog w hb cx ρ mus es (acc ++ y) out) : EvJ prog w hb cx ρ mus (e :: es) acc out := .mk fun s S => by
  show wpAny _ _ (joinParts acc (eval e cx.env :: evalEach es cx.env)) _ _ _
  refine joinParts_cons (he.val S fun v s₁ S₁ k₁ h₁ => ?_)
  obtain ⟨_, rfl⟩ := holds_str h₁
  exact ⟨hz, noE' (t.run s₁ S₁) fun v s₂ q => ⟨keeps_trans k₁ q.1, q.2⟩⟩
theorem ev_joined {e1 e2 : Expr} {es : List Expr} {pos : Pos} {out : Str} (h : EvJ prog w hb cx ρ mus (e1 :: e2 :: es) Str.empty out) : Ev prog w hb cx ρ mus (.JoinedStr (e1 :: e2 :: es) pos) (.str out) := .mk fun s S =>
  JoinedStr_many (h.run s S)

theorem op_isnot_none {x : Str} : Op2 prog w (compareOp .IsNot) (.str x) .none (.bool true) := by
  refine ⟨?_⟩; intro A X s va vb hA hX ha hb
  obtain ⟨_, rfl⟩ := holds_str ha
  obtain rfl := holds_none hb
  exact isNot_none ⟨keeps_refl, .bool⟩
theorem op_isnot_none' : Op2 prog w (compareOp .IsNot) .none .none (.bool false) := by
  refine ⟨?_⟩; intro A X s va vb hA hX ha hb
  obtain rfl := holds_none ha
  obtain rfl := holds_none hb
  exact isNot_none ⟨keeps_refl, .bool⟩
theorem op_is_none {x : Str} : Op2 prog w (compareOp .Is) (.str x) .none (.bool false) := by
  refine ⟨?_⟩; intro A X s va vb hA hX ha hb
  obtain ⟨_, rfl⟩ := holds_str ha
  obtain rfl := holds_none hb
  exact is_none ⟨keeps_refl, .bool⟩
theorem tru_int {i : Int} : Tru prog w (.int i) (i != 0) := by
  refine ⟨?_⟩; intro A X s va hA hX ha; obtain ⟨_, rfl⟩ := holds_int ha; exact P.truthy_int ⟨keeps_refl, rfl⟩

noncomputable def esc1L (l : List Nat) : List Nat := swps [(92, [92, 92]), (34, [92, 34])] l
noncomputable def paramS (p : Str) (l : List Nat) : Str := p ++ Str.ofString "=\"" ++ ofL (esc1L l) ++ Str.ofString "\""

theorem fparam_fn {f T : Addr} {nme qual : Str} {kV doc pm cdv ct : Value} {an : Option Addr} (M : Mod hb mg mb) (Df : DefIs hb mg "_formatparam" (defAt 9) f (.ref T) nme qual kV doc pm cdv ct an)
    {tk : Tok} {cT : Value} {nT : Nat} (hT : hb.get? T = some { cls := cT, data := .seq #[.none, .int 1 tk] nT }) (hlen : mg "len" = none)
    {p : Str} {l : List Nat} (hp : p.length ≤ 1000) (hl : l.length ≤ 100000) (h0 : l ≠ []) : Fn prog w hb 2 (.ref f) [.str p, .str (ofL l)] (.str (paramS p l)) := by
  obtain ⟨o, ho, hd⟩ := Df.obj
  refine fn_introD (body := dBody (defAt 9)) (ps := [Str.ofString "param", Str.ofString "value", Str.ofString "quote"]) (dvs := [.int 1 tk]) (dds := [.int 1]) ho hd M.lim Df.code rfl ?_ (show ∀ x ∈ (dScope (defAt 9)).names, x.2 ≠ .cell from by decide)
      (show ∀ x ∈ [Str.ofString "param", Str.ofString "value", Str.ofString "quote"], (dScope (defAt 9)).names.lookup x = some .local from by decide) rfl rfl (by decide) (fun P V => .cons .int .nil) rfl rfl rfl ?_
  · intro s vs hk hl
    obtain ⟨v1, v2, rfl⟩ := len2 (show vs.length = 2 by simpa using hl)
    exact BindsTo.of_defaults rfl (hk T _ hT) rfl rfl rfl
  · intro A X s hA
    show Ex prog w hb _ (asc [(Str.ofString "param", .str p), (Str.ofString "value", .str (ofL l)), (Str.ofString "quote", .int 1)]) _ _ _
    have hA1 : Room 1 (cxOf A (fnOf nme qual (dArgs (defAt 9)) (dBody (defAt 9)) (dScope (defAt 9)) (.ref T) kV doc pm an cdv ct) f X s).A := (hA.deeper _).le (by omega)
    have hlenb : mb "len" = some (.builtin "len") := (M.bi _ (by decide)).trans rfl
    have hll : (ofL l).length = l.length := len_ofL l
    have hpos : 0 < l.length := List.length_pos_iff.mpr h0
    refine ex_if (c := true) ?_ (fun _ => ?_) (fun h => nomatch h)
    · refine et_bool ?_
      refine eta_and (et_cmp hA1 (ev_name (by walk_at "var")) ev_none op_isnot_none) (fun _ => eta_one ?_) (fun h => nomatch h)
      refine et_eq ?_ (et_cmp hA1 (ev_callb hA1 (ev_builtin M.g hlen M.b hlenb rfl) (evl_cons (ev_name (by walk_at "var")) evl_nil) (fn_len_str (by rw [hll, sizeLine_eq]; omega))) ev_int op_gt)
      rw [hll]
      simp; omega
    refine ex_if (c := true) ?_ (fun _ => ?_) (fun h => nomatch h)
    · refine et_bool ?_
      refine eta_or (b := true) (et_val hA1 (ev_name (by walk_at "var")) (tru_int (i := 1))) (fun h => nomatch h) (fun _ => rfl)
    have l1 : (swps [(92, [92, 92])] l).length ≤ 6 * l.length := swps_len (by decide) l
    have l2 : (swps [(92, [92, 92]), (34, [92, 34])] l).length ≤ 6 * l.length := swps_len (by decide) l
    refine ex_assign (d := .str (ofL (esc1L l))) (ev_eq ?_ (ev_replace (ev_replace (ev_name (by walk_at "var")) (by decide) (by rw [hll, show (Str.ofString "\\\\").length = 2 from by decide]; omega)) (by decide) ?_)) rfl ?_
    · rw [show (Str.ofString "\\") = ⟨#[92]⟩ from by decide, show (Str.ofString "\"") = ⟨#[34]⟩ from by decide, rep_swp, rep_swp]
      rfl
    · rw [show (Str.ofString "\\") = ⟨#[92]⟩ from by decide, rep_swp, len_ofL, show (Str.ofString "\\\"").length = 2 from by decide]
      have l1' : (swp 92 (Str.ofString "\\\\").cps.toList l).length ≤ 6 * l.length := l1
      omega
    have hle : (ofL (esc1L l)).length ≤ 1000000 := by
      rw [len_ofL]
      have l2' : (esc1L l).length ≤ 6 * l.length := l2
      omega
    refine ex_return (d := .str (paramS p l)) ?_ fun v s' S' H => back_ret S' H (fun b h => .inr h) (fun b o e => e)
    have hs1 : sizeLine = 16777216 := sizeLine_eq
    have he1 : (Str.ofString "=\"").length = 2 := by decide
    have he2 : (Str.ofString "\"").length = 1 := by decide
    have emp : ∀ d : Str, Str.empty ++ d = d := fun d => KPc.empty_app d
    have hle0 : (Str.empty ++ p).length ≤ 1000 := by rw [emp]; exact hp
    refine ev_eq ?_ (ev_joined (out := Str.empty ++ p ++ Str.ofString "=\"" ++ ofL (esc1L l) ++ Str.ofString "\"") ?_)
    · rw [emp]; rfl
    refine evj_cons (ev_fmt (ev_name (by walk_at "var")) (by omega)) (by omega) ?_
    refine evj_cons ev_str (by rw [Str.length_append, he1]; omega) ?_
    refine evj_cons (ev_fmt (ev_name (by walk_at "var")) (by omega)) (by rw [Str.length_append, Str.length_append, he1]; omega) ?_
    refine evj_cons ev_str (by rw [Str.length_append, Str.length_append, Str.length_append, he1, he2]; omega) ?_
    exact evj_nil (by rw [Str.length_append, Str.length_append, Str.length_append, he1, he2]; omega)
end
end Mine
end

section
open PySem PySem.W PySem.Calls PySem.Spec PyProof.Rows
set_option Elab.async false
set_option linter.unusedVariables false
namespace Mine
local macro_rules | `(tactic| walk_at "var") => `(tactic| first | exact upd_same | exact asc_same | (apply upd_ne (by decide); walk_at "var") | (apply asc_ne (by decide); walk_at "var") | (with_unfolding_all exact asc_same))
local macro_rules | `(tactic| walk_at "le") => `(tactic| first | exact le_nil | (refine le_cons ?_ ?_; (walk_at "var"); (walk_at "le")))

section
variable {prog : Program} {w : World} {hb : Heap} {mg mb : Str → Option Value} {K : Frag} {C : Addr} {cx : Cx} {ρ : Rho} {mus : Mus}

theorem op_is_type {a b : String} : Op2 prog w (compareOp .Is) (.opq (.type a)) (.opq (.type b)) (.bool (Value.type a == Value.type b)) := by
  refine ⟨?_⟩; intro A X s va vb hA hX ha hb
  obtain rfl := holds_opq ha
  obtain rfl := holds_opq hb
  exact wpAny_is_plain rfl ⟨keeps_refl, .bool⟩
theorem op_isnot_type {a b : String} : Op2 prog w (compareOp .IsNot) (.opq (.type a)) (.opq (.type b)) (.bool (!(Value.type a == Value.type b))) := by
  refine ⟨?_⟩; intro A X s va vb hA hX ha hb
  obtain rfl := holds_opq ha
  obtain rfl := holds_opq hb
  exact wpAny_isNot_plain rfl ⟨keeps_refl, .bool⟩
theorem tru_none : Tru prog w .none false := by
  refine ⟨?_⟩; intro A X s va hA hX ha; obtain rfl := holds_none ha
  exact truthy_none ⟨keeps_refl, rfl⟩
theorem ev_type_str {x : Str} {np pos : Pos} {e : Expr} {y : Str} (hf : Ev prog w hb cx ρ mus (.Name x np) (.opq (.type "type"))) (he : Ev prog w hb cx ρ mus e (.str y)) (hst : isStarred e = false := by rfl) :
    Ev prog w hb cx ρ mus (.Call (.Name x np) [e] [] pos) (.opq (.type "str")) := .mk fun s S => by
  refine wpAny_Call_Name_kw (hf.val S fun v s₁ S₁ k₁ h₁ => ?_)
  obtain rfl := holds_opq h₁
  show wpAny _ _ (callWith pos (.type "type") [] (backTo pos (starEach [e] cx.env)) []) _ _ _
  rw [starEach_ns hst]
  refine PySem.callWith_type rfl (evalArgs_plain (spliced_cons (he.val S₁ fun v s₂ S₂ k₂ h₂ => spliced_nil ?_)))
  obtain ⟨t, rfl⟩ := holds_str h₂
  exact call_type_of (typeIs_str s₂ y t) (by decide) ⟨keeps_trans k₁ k₂, .opq⟩

theorem ev_search {x : Str} {np apos pos : Pos} {e : Expr} {a c : Addr} {y : Str} {code : Array Nat} (ho : Ev prog w hb cx ρ mus (.Name x np) (.opq (.ref a))) (hP : PatAt hb a c code 0) (he : Ev prog w hb cx ρ mus e (.str y)) (hz : y.cps.size ≤ 1000000)
    (hf : ((match Sre.ops[code.getD 0 0]? with | some .INFO => true | _ => false) && code.getD 2 0 == 4) = true)
    (hn : ∀ i, i < y.cps.size → ∀ seen, ∃ seen', Sre.inSet code (y.cps.getD i 0) code.size 5 true seen = .ok (false, seen'))
    (hst : isStarred e = false := by rfl)
    (hbase : attributeBase (.Name x np) "search" cx.env (eval (.Name x np) cx.env) = eval (.Name x np) cx.env := by rfl) (hline : (apos.endLine == pos.line) = true := by rfl) :
    Ev prog w hb cx ρ mus (.Call (.Attribute (.Name x np) "search" apos) [e] [] pos) .none := .mk fun s S => by
  refine Call_method1 hbase (starEach_ns hst) hline (ho.val S fun v s₁ S₁ k₁ h₁ => ?_)
  obtain rfl := holds_opq h₁
  have P := hP.keeps fun b o e => (S₁.base b o e).1
  obtain ⟨v0, v1, v3, v4, e1⟩ := P.obj
  refine ⟨"re.Pattern", "re.Pattern.search", plainAttrs_re, slot_re_search, type_re_search, ⟨_, e1, rfl⟩, (fun b e => by cases e; exact ⟨_, e1, rfl⟩), ?_⟩
  refine callWith_builtin rfl (evalArgs_plain (spliced_cons (he.val S₁ fun v₂ s₂ S₂ k₂ h₂ => spliced_nil ?_)))
  obtain ⟨_, rfl⟩ := holds_str h₂
  exact call_search hz (hP.keeps fun b o e => (S₂.base b o e).1) hf hn ⟨keeps_trans k₁ k₂, .none⟩

/-- what stands of the two tests -/
structure Tests (hb : Heap) (mg mb : Str → Option Value) : Prop where
  n : ∃ a c, mg "_name_disallowed_re" = some (.ref a) ∧ PatAt hb a c nameCode 0
  v : ∃ a c, mg "_value_disallowed_re" = some (.ref a) ∧ PatAt hb a c valueCode 0
  ty : mg "type" = none
  st : mg "str" = none

noncomputable def allFine (x : Str) : Prop := ∀ c ∈ x.cps.toList, fine c
noncomputable def allName (x : Str) : Prop := ∀ c ∈ x.cps.toList, 32 ≤ c ∧ c < 127
theorem name_inSet {x : Str} (h : allName x) : ∀ i, i < x.cps.size → ∀ seen, ∃ seen', Sre.inSet nameCode (x.cps.getD i 0) nameCode.size 5 true seen = .ok (false, seen') := fun i hi seen => by
  have hm : x.cps.getD i 0 ∈ x.cps.toList := by
    rw [Array.getD_eq_getD_getElem?, Array.getElem?_eq_getElem hi]; simp
  obtain ⟨a, b⟩ := h _ hm
  exact inSet_name a b seen
theorem value_inSet {x : Str} (h : allFine x) : ∀ i, i < x.cps.size → ∀ seen, ∃ seen', Sre.inSet valueCode (x.cps.getD i 0) valueCode.size 5 true seen = .ok (false, seen') := fun i hi seen => by
  have hm : x.cps.getD i 0 ∈ x.cps.toList := by
    rw [Array.getD_eq_getD_getElem?, Array.getElem?_eq_getElem hi]; simp
  exact inSet_value (h _ hm) seen

theorem convert_fn {f : Addr} {nme qual : Str} {kV doc pm cdv ct : Value} {an : Option Addr} (M : Mod hb mg mb) (Df : MethIs hb (methAt 1) f .none nme qual kV doc pm cdv ct an) (T : Tests hb mg mb)
    {dT : D} {x : Str} {b : Bool} (hx : (b = true → allName x) ∧ (b = false → allFine x)) (hz : x.cps.size ≤ 1000000) : FnK prog w hb 2 (.ref f) [dT, .str x] [Str.ofString "name"] [.bool b] (.str x) := by
  obtain ⟨o, ho, hd⟩ := Df.obj
  obtain ⟨an', cn, hn1, hn2⟩ := T.n
  obtain ⟨av, cv, hv1, hv2⟩ := T.v
  refine fn_introK (body := dBody (methAt 1)) (ps := [Str.ofString "self", Str.ofString "value", Str.ofString "name"]) ho hd M.lim Df.code rfl ?_ (show ∀ x ∈ (dScope (methAt 1)).names, x.2 ≠ .cell from by decide)
      (show ∀ x ∈ [Str.ofString "self", Str.ofString "value", Str.ofString "name"], (dScope (methAt 1)).names.lookup x = some .local from by decide) rfl (by decide) rfl rfl rfl ?_
  · intro s vs dvs _ hl hl2
    obtain ⟨v1, v2, rfl⟩ := len2 hl
    obtain ⟨v3, rfl⟩ := len1 hl2
    exact BindsTo.of_eq rfl
  · intro A X s hA
    show Ex prog w hb _ (asc [(Str.ofString "self", dT), (Str.ofString "value", .str x), (Str.ofString "name", .bool b)]) _ _ _
    have hA1 : Room 1 (cxOf A (fnOf nme qual (dArgs (methAt 1)) (dBody (methAt 1)) (dScope (methAt 1)) .none kV doc pm an cdv ct) f X s).A := (hA.deeper _).le (by omega)
    have htb : mb "type" = some (.type "type") := (M.bi _ (by decide)).trans rfl
    have hsb : mb "str" = some (.type "str") := (M.bi _ (by decide)).trans rfl
    refine ex_if (c := true) ?_ (fun _ => ?_) (fun h => nomatch h)
    · refine et_eq ?_ (et_cmp hA1 (ev_type_str (ev_builtin M.g T.ty M.b htb rfl) (ev_name (by walk_at "var"))) (ev_builtin M.g T.st M.b hsb rfl) op_is_type)
      decide
    cases b with
    | true =>
      refine ex_assign (ev_ifexp (c := true) (d := .opq (.ref an')) (et_val hA1 (ev_name (by walk_at "var")) tru_bool) (fun _ => ev_global M.g hn1 rfl) (fun h => nomatch h)) rfl ?_
      refine ex_if (c := false) (et_val hA1 (ev_search (ev_name (by walk_at "var")) hn2 (ev_name (by walk_at "var")) hz (by decide +kernel) (name_inSet (hx.1 rfl))) tru_none) (fun h => nomatch h) (fun _ => then_nil ?_)
      exact ex_ret2 (ev_name (by walk_at "var")) (fun b h => .inr h) (fun b o e => e)
    | false =>
      refine ex_assign (ev_ifexp (c := false) (d := .opq (.ref av)) (et_val hA1 (ev_name (by walk_at "var")) tru_bool) (fun h => nomatch h) (fun _ => ev_global M.g hv1 rfl)) rfl ?_
      refine ex_if (c := false) (et_val hA1 (ev_search (ev_name (by walk_at "var")) hv2 (ev_name (by walk_at "var")) hz (by decide +kernel) (value_inSet (hx.2 rfl))) tru_none) (fun h => nomatch h) (fun _ => then_nil ?_)
      exact ex_ret2 (ev_name (by walk_at "var")) (fun b h => .inr h) (fun b o e => e)
end
end Mine
end

section
open PySem PySem.W PySem.Calls PySem.Spec PyProof.Rows
set_option Elab.async false
set_option linter.unusedVariables false
namespace Mine
local macro_rules | `(tactic| walk_at "var") => `(tactic| first | exact upd_same | exact asc_same | (apply upd_ne (by decide); walk_at "var") | (apply asc_ne (by decide); walk_at "var") | (with_unfolding_all exact asc_same))
local macro_rules | `(tactic| walk_at "le") => `(tactic| first | exact le_nil | (refine le_cons ?_ ?_; (walk_at "var"); (walk_at "le")))

section
variable {prog : Program} {w : World} {A : Around} {E : Value → Shared → Prop} {s : Shared}
theorem addh_binds {nme qual : Str} {kV doc pm cdv ct : Value} {an : Option Addr} {v1 v2 v3 kv : Value} {Q : List (Str × Value) → Shared → Prop}
    (h : ∀ h' u, (∀ b o, s.heap.get? b = some o → h'.get? b = some o) → h'.get? s.heap.objs.size = some { cls := .type "dict", data := .dict #[⟨PyData.keyHash w.params (Str.ofString "k"), .str (Str.ofString "k") u, kv⟩] 1 } →
      Q [(Str.ofString "self", v1), (Str.ofString "_name", v2), (Str.ofString "_value", v3), (Str.ofString "_params", .ref s.heap.objs.size)] { s with heap := h', toks := s.toks + 1 }) :
    wpAny (model prog w) A (bindArgs (fnOf nme qual (dArgs (methAt 16)) (dBody (methAt 16)) (dScope (methAt 16)) .none kV doc pm an cdv ct) ⟨[v1, v2, v3], [(Str.ofString "k", kv)]⟩) Q E s := by
  have e : bindArgs (fnOf nme qual (dArgs (methAt 16)) (dBody (methAt 16)) (dScope (methAt 16)) .none kV doc pm an cdv ct) ⟨[v1, v2, v3], [(Str.ofString "k", kv)]⟩ =
      (alloc { cls := .type "dict", data := .dict #[] } >>= fun d => forIn [(Str.ofString "k", kv)] PUnit.unit (fun x _ => nsSet d x.1 x.2 >>= fun _ => pure (ForInStep.yield PUnit.unit)) >>= fun _ =>
        pure [(Str.ofString "self", v1), (Str.ofString "_name", v2), (Str.ofString "_value", v3), (Str.ofString "_params", Value.ref d)]) := by
    rfl
  rw [e]
  refine wpAny_bind (wpAny_alloc ?_)
  have D : (s.heap.push { cls := .type "dict", data := .dict #[] }).get? s.heap.objs.size = some { cls := .type "dict", data := .dict #[] } := Heap.get?_push_size _ rfl
  rw [List.forIn_cons]
  refine wpAny_bind (wpAny_bind (wpAny_bind (nsSet_new (s := { s with heap := s.heap.push { cls := .type "dict", data := .dict #[] } }) D fun h' hD hs => wpAny_pure ?_)))
  dsimp only
  rw [List.forIn_nil]
  refine wpAny_pure (wpAny_pure (h h' _ (fun b o q => (hs.2 b (Nat.ne_of_lt (Heap.lt_size q))).trans (Heap.get?_push_of_some _ q)) hD))
end
end Mine
end

section
open PySem PySem.W PySem.Calls PySem.Spec PyProof.Rows
set_option Elab.async false
set_option linter.unusedVariables false
namespace Mine
local macro_rules | `(tactic| walk_at "var") => `(tactic| first | exact upd_same | exact asc_same | (apply upd_ne (by decide); walk_at "var") | (apply asc_ne (by decide); walk_at "var") | (with_unfolding_all exact asc_same))
local macro_rules | `(tactic| walk_at "le") => `(tactic| first | exact le_nil | (refine le_cons ?_ ?_; (walk_at "var"); (walk_at "le")))

section
variable {prog : Program} {w : World} {hb : Heap} {mg mb : Str → Option Value} {K : Frag} {C : Addr} {cx : Cx} {ρ : Rho} {mus : Mus}

/-- sep.join(parts) with one part -/
theorem ev_join1 {sep x : Str} {e : Expr} {apos p1 pos : Pos} {k1 : Nat} (he : Ev prog w hb cx ρ mus e (.list [.str x])) (hz : x.length ≤ 1000000) (hs : sep.length ≤ 1000) (hst : isStarred e = false := by rfl)
    (hbase : attributeBase (.Constant (.str sep) k1 p1) "join" cx.env (eval (.Constant (.str sep) k1 p1) cx.env) = eval (.Constant (.str sep) k1 p1) cx.env := by rfl) (hline : (apos.endLine == pos.line) = true := by rfl) :
    Ev prog w hb cx ρ mus (.Call (.Attribute (.Constant (.str sep) k1 p1) "join" apos) [e] [] pos) (.str x) := .mk fun s S => by
  have kt : Keeps s { s with toks := s.toks + 1 } := keeps_tok
  refine up (Call_method1 hbase (starEach_ns hst) hline (wpAny_Constant_str (SB.join (he.val (S.keeps kt) fun v s₂ S₂ k₂ h₂ => ?_))))
  obtain ⟨h2, tk2, e2, kk, _⟩ := keeps_trans kt k₂
  obtain ⟨D, vs, n, rfl, hv, hl, hi⟩ := holds_list h₂
  have h1 : vs.size = 1 := hl
  have e0 : vs[0]? = some vs[0] := by simp [h1]
  have h0 := hi 0 _ _ e0 rfl
  obtain ⟨t, ht⟩ : ∃ t, vs[0] = .str x t := by
    exact holds_str h0
  have hvs : vs = (strValues [(x, t)]).toArray := by
    apply Array.ext
    · simp [h1, strValues]
    · intro i a b
      have : i = 0 := by omega
      subst this
      rw [ht]; rfl
  refine ⟨D, [(x, t)], rfl, ⟨_, hv.1, rfl, n, by rw [← hvs]⟩, [x], rfl, ?_, fun t' k => ?_⟩
  · show (!decide (_ > sizeLine)) = true
    rw [sizeLine_eq]
    simp; omega
  · refine ⟨⟨s₂.heap, k, by rw [e2], fun b o q => by rw [e2]; exact kk b o q⟩, ?_⟩
    have e3 : Txt.join sep [x] = x := by
      show Builtin.Str.glued sep [x] = x
      rw [StrLaws.glued_eq_join]; rfl
    rw [e3]; exact .str
end
end Mine
end

section
open PySem PySem.W PySem.Calls PySem.Spec PyProof.Rows
set_option Elab.async false
set_option linter.unusedVariables false
namespace Mine
local macro_rules | `(tactic| walk_at "var") => `(tactic| first | exact upd_same | exact asc_same | (apply upd_ne (by decide); walk_at "var") | (apply asc_ne (by decide); walk_at "var") | (with_unfolding_all exact asc_same))
local macro_rules | `(tactic| walk_at "le") => `(tactic| first | exact le_nil | (refine le_cons ?_ ?_; (walk_at "var"); (walk_at "le")))

section
variable {prog : Program} {w : World} {hb : Heap} {mg mb : Str → Option Value} {K : Frag} {C : Addr}

theorem ex_end_noneM {cx : Cx} {ρ : Rho} {mus : Mus} {X : Addr → Prop} {H : Addr} {ds' : List D} {s0 : Shared} (hm : (H, ds') ∈ mus) (hX : ∀ b, X b → cx.X b) (hp : ∀ b o, b ≠ H → cx.s0.heap.get? b = some o → cx.pr b o) (hs : cx.s0 = s0 := by rfl) :
    Ex prog w hb cx ρ mus [] (BackM w.params X s0 H ds' .none) := by
  subst hs
  exact ex_nil fun s S => back_noneM S hm hX hp

set_option maxHeartbeats 4000000 in
theorem addh_fn {f fC fP T H : Addr} {nme qual : Str} {kV doc pm cdv ct : Value} {an : Option Addr} {nme1 qual1 : Str} {kV1 doc1 pm1 cdv1 ct1 : Value} {an1 : Option Addr} {nme2 qual2 : Str} {kV2 doc2 pm2 cdv2 ct2 : Value} {an2 : Option Addr}
    (M : Mod hb mg mb) (hc : Hdr hb K C) (Ts : Tests hb mg mb) (hlen : mg "len" = none)
    (Df : MethIs hb (methAt 16) f .none nme qual kV doc pm cdv ct an)
    (Dc : MethIs hb (methAt 1) fC .none nme1 qual1 kV1 doc1 pm1 cdv1 ct1 an1) (hfc : findIn K (.ref C) "_convert_string_type" = some (some (.ref fC))) (htc : typeIn K (.ref fC) = some (.type "function"))
    (Dp : DefIs hb mg "_formatparam" (defAt 9) fP (.ref T) nme2 qual2 kV2 doc2 pm2 cdv2 ct2 an2) {tk : Tok} {cT : Value} {nT : Nat} (hT : hb.get? T = some { cls := cT, data := .seq #[.none, .int 1 tk] nT })
    {hs : List (Str × Str)} {nm : Str} {l : List Nat} (hnm : allName nm) (hnz : nm.cps.size ≤ 1000) (hl : ∀ c ∈ l, fine c) (hlz : l.length ≤ 100000) (hl0 : l ≠ []) (hhs : hs.length ≤ 1000) :
    FnM prog w hb 3 (.ref f) [.tab C H, .str nm, .none] [Str.ofString "k"] [.str (ofL l)] H (hdD hs) (hdD (hs ++ [(nm, paramS (Str.ofString "k") l)])) .none := by
  obtain ⟨o, ho, hd⟩ := Df.obj
  obtain ⟨oC, hoC, hdC⟩ := Dc.obj
  obtain ⟨oP, hoP, hdP⟩ := Dp.obj
  obtain ⟨bg, obg, hbg, hbo⟩ := M.big
  refine fn_introM (body := dBody (methAt 16)) (ps := [Str.ofString "self", Str.ofString "_name", Str.ofString "_value", Str.ofString "_params"]) (das := [.tab C H, .str nm, .none, .dic [(Str.ofString "k", .str (ofL l))]]) ho hd M.lim Df.code rfl ?_ (show ∀ x ∈ (dScope (methAt 16)).names, x.2 ≠ .cell from by decide)
      (show ∀ x ∈ [Str.ofString "self", Str.ofString "_name", Str.ofString "_value", Str.ofString "_params"], (dScope (methAt 16)).names.lookup x = some .local from by decide) rfl (by decide) rfl rfl rfl ?_
  · intro s vs kvs A E Q hk hl1 hl2 hq
    obtain ⟨v1, v2, v3, rfl⟩ := len3 hl1
    obtain ⟨kv, rfl⟩ := len1 hl2
    · skip
      refine addh_binds fun h' u hk' hD => hq h' _ [v1, v2, v3, .ref s.heap.objs.size] hk' (Nat.le_succ _) fun X hX hv hkv => ?_
      have hvis : ∀ a o, vis X s.heap a o → vis X h' a o := vis_keeps hk'
      have h1 := (hv.2 0 v1 _ rfl rfl).mono hvis
      have h2 := (hv.2 1 v2 _ rfl rfl).mono hvis
      have h3 := (hv.2 2 v3 _ rfl rfl).mono hvis
      have h4 := (hkv.2 0 kv _ rfl rfl).mono hvis
      refine .cons h1 (.cons h2 (.cons h3 (.cons ?_ .nil)))
      refine .dic (ne_sys hbg (Heap.lt_size (hk bg obg hbo))) ⟨hD, fresh_not hX⟩ ⟨rfl, rfl, rfl⟩ rfl rfl (fun i e d a b => ?_) fun i e d a b => ?_
      · match i, a, b with
        | 0, a, b => simp at a b; subst a b; exact ⟨⟨u, rfl⟩, rfl⟩
        | i + 1, a, b => simp at b
      · match i, a, b with
        | 0, a, b => simp at a b; subst a b; exact h4
        | i + 1, a, b => simp at b
  · intro A X s L hA hXH
    show Ex prog w hb _ (asc [(Str.ofString "self", .tab C H), (Str.ofString "_name", .str nm), (Str.ofString "_value", .none), (Str.ofString "_params", .dic [(Str.ofString "k", .str (ofL l))])]) _ _ _
    have hA1 : Room 1 (cxM A (fnOf nme qual (dArgs (methAt 16)) (dBody (methAt 16)) (dScope (methAt 16)) .none kV doc pm an cdv ct) f X s H L).A := (hA.deeper _).le (by omega)
    have hA2 : Room 2 (cxM A (fnOf nme qual (dArgs (methAt 16)) (dBody (methAt 16)) (dScope (methAt 16)) .none kV doc pm an cdv ct) f X s H L).A := (hA.deeper _).le (by omega)
    have hkn : allName (Str.ofString "k") := by
      intro c hc'
      have : (Str.ofString "k").cps.toList = [107] := by decide
      rw [this] at hc'
      simp at hc'; omega
    have hfine : allFine (ofL l) := fun c hc' => hl c hc'
    have hsz : (ofL l).cps.size ≤ 100000 := by
      have := len_ofL l
      show (ofL l).length ≤ _
      omega
    refine ex_assign_new newl_empty rfl fun aP hnP => ?_
    refine ex_if (c := false) (et_cmp hA1 (ev_name (by walk_at "var")) ev_none op_isnot_none') (fun h => nomatch h) (fun _ => then_nil ?_)
    refine ex_for_items1 (ρe := asc [(Str.ofString "self", .tab C H), (Str.ofString "_name", .str nm), (Str.ofString "parts", .opq (.ref aP))]) (mus' := [(aP, [.str (paramS (Str.ofString "k") l)]), (H, hdD hs)]) hA.hh (ev_name (by walk_at "var")) (asgl_cons rfl (asgl_cons rfl asgl_nil)) ?_ rfl ?_
    · intro X' pr' hX' hpr'
      refine ex_assign (ev_methK hA2 hc (ev_name (by walk_at "var")) (.inl ⟨H, rfl⟩) hfc htc (by decide) hoC hdC (evl_cons (ev_name (by walk_at "var")) evl_nil) (evks_cons ev_bool evks_nil) rfl rfl (convert_fn M Dc Ts ⟨fun _ => hkn, fun h => nomatch h⟩ (by decide)) rfl _) rfl ?_
      refine ex_if (c := false) (et_cmp hA1 (ev_name (by walk_at "var")) ev_none op_is_none) (fun h => nomatch h) (fun _ => ?_)
      refine ex_assign (ev_methK hA2 hc (ev_name (by walk_at "var")) (.inl ⟨H, rfl⟩) hfc htc (by decide) hoC hdC (evl_cons (ev_name (by walk_at "var")) evl_nil) (evks_cons ev_bool evks_nil) rfl rfl (convert_fn M Dc Ts ⟨(fun h => nomatch h), fun _ => hfine⟩ (by omega)) rfl _) rfl ?_
      refine ex_append (pre := []) (post := [(H, hdD hs)]) rfl (ev_name (by walk_at "var")) (ev_call hA2 (ev_global M.g Dp.name rfl) hoP hdP (evl_cons (ev_eq ?_ (ev_replace (ev_name (by walk_at "var")) (by decide) (by decide))) (evl_cons (ev_name (by walk_at "var")) evl_nil)) (fparam_fn M Dp hT hlen (by decide) hlz hl0)) (Nat.zero_le _) (then_nil (turn_end (by walk_at "le")))
      · refine congrArg D.str ?_
        rw [show (Str.ofString "_") = ⟨#[95]⟩ from by decide, show (Str.ofString "k") = ofL [107] from by decide, rep_swp]
        rfl
    refine ex_freeze (x := "parts") (a := aP) (ds := [.str (paramS (Str.ofString "k") l)]) (pre := []) (post := [(H, hdD hs)]) rfl (by walk_at "var") ?_
    have hpl : (paramS (Str.ofString "k") l).length ≤ 1000000 := by
      have l2 : (esc1L l).length ≤ 6 * l.length := swps_len (by decide) l
      unfold paramS
      rw [Str.length_append, Str.length_append, Str.length_append, len_ofL]
      have e1 : (Str.ofString "=\"").length = 2 := by decide
      have e2 : (Str.ofString "\"").length = 1 := by decide
      have e3 : (Str.ofString "k").length = 1 := by decide
      omega
    have hds : hdD (hs ++ [(nm, paramS (Str.ofString "k") l)]) = hdD hs ++ [.tup [.str nm, .str (paramS (Str.ofString "k") l)]] := by simp [hdD]
    rw [hds]
    refine ex_append (a := H) (pre := []) (post := []) rfl (ev_headers hc (ev_name (by walk_at "var"))) (ev_tup (evl_cons (ev_methK hA2 hc (ev_name (by walk_at "var")) (.inl ⟨H, rfl⟩) hfc htc (by decide) hoC hdC (evl_cons (ev_name (by walk_at "var")) evl_nil) (evks_cons ev_bool evks_nil) rfl rfl (convert_fn M Dc Ts ⟨fun _ => hnm, (fun h => nomatch h)⟩ (by omega)) rfl _)
      (evl_cons (ev_join1 (ev_name (by walk_at "var")) hpl (by decide)) evl_nil))) (by rw [sizeLine_eq]; simp [hdD]; omega) (ex_end_noneM (by simp) (fun b h => ⟨.inr (.inr h), fun e => hnP (.inr (e ▸ h))⟩) (fun b o nb e => ⟨e, nb⟩))
end
end Mine
end

section
open PySem PySem.W PySem.Calls PySem.Spec PyProof.Rows
set_option Elab.async false
set_option linter.unusedVariables false
namespace Mine
local macro_rules | `(tactic| walk_at "var") => `(tactic| first | exact upd_same | exact asc_same | (apply upd_ne (by decide); walk_at "var") | (apply asc_ne (by decide); walk_at "var") | (with_unfolding_all exact asc_same))
local macro_rules | `(tactic| walk_at "le") => `(tactic| first | exact le_nil | (refine le_cons ?_ ?_; (walk_at "var"); (walk_at "le")))

noncomputable def wrapL (h : Nat) (l : List Nat) : List Nat := if h = 1 then [107, 61, 34] ++ esc1L l ++ [34] else escL h l
noncomputable def letterS (p : Nat) : Str := Txt.item (Str.ofString "abcdefg") p
noncomputable def signL (S : List Str) (p : Nat) : List Nat := (S.getD p Str.empty).cps.toList
noncomputable def madeT (K : List (List Nat)) (H : List Nat) (S : List Str) : Nat → Nat → List Nat
  | 0, _ => []
  | f + 1, p => wrapL (H.getD p 0) ([40] ++ signL S p ++ (kidsOf K p).flatMap (madeT K H S f) ++ [41])
noncomputable def insideT (K : List (List Nat)) (H : List Nat) (S : List Str) (f p : Nat) : List Nat := [40] ++ signL S p ++ (kidsOf K p).flatMap (madeT K H S f) ++ [41]
noncomputable def hdrsT (K : List (List Nat)) (H : List Nat) (S : List Str) : Nat → Nat → List (Str × Str)
  | 0, _ => []
  | f + 1, p => (kidsOf K p).flatMap (hdrsT K H S f) ++ (if H.getD p 0 = 1 then [(letterS p, ofL (madeT K H S (f + 1) p))] else [])

theorem flat_len_le {α : Type} {g : Nat → List α} {l : List Nat} {q : Nat} (h : q ∈ l) : (g q).length ≤ (l.flatMap g).length := by
  induction l with
  | nil => cases h
  | cons x r ih =>
    rw [List.flatMap_cons, List.length_append]
    rcases List.mem_cons.mp h with rfl | h
    · omega
    · have := ih h; omega

theorem param_ofL (l : List Nat) : paramS (Str.ofString "k") l = ofL (wrapL 1 l) := by
  unfold paramS wrapL
  rw [if_pos rfl, show (Str.ofString "k") = ofL [107] from by decide, show (Str.ofString "=\"") = ofL [61, 34] from by decide, show (Str.ofString "\"") = ofL [34] from by decide, app_ofL, app_ofL, app_ofL]
  rfl
theorem letter_name : ∀ p : Nat, p < 7 → allName (letterS p) ∧ (letterS p).cps.size ≤ 1000 ∧ (Txt.charAt (Str.ofString "abcdefg") p).isSome = true ∧ fitsSsize (p : Int) = true := by
  have key : ∀ p : Fin 7, ((letterS p.1).cps.toList.all fun c => decide (32 ≤ c ∧ c < 127)) = true ∧ (letterS p.1).cps.size ≤ 1000 ∧ (Txt.charAt (Str.ofString "abcdefg") p.1).isSome = true ∧ fitsSsize (p.1 : Int) = true := by decide +kernel
  intro p hp
  obtain ⟨a, b⟩ := key ⟨p, hp⟩
  exact ⟨fun c hc => by simpa using List.all_eq_true.mp a c hc, b⟩
/-- the escapes and the table's class stand -/
structure Mk (hb : Heap) (mg mb : Str → Option Value) (K : Frag) (C : Addr) : Prop where
  hc : Hdr hb K C
  ts : Tests hb mg mb
  len : mg "len" = none
  add : ∃ f nme qual kV doc pm cdv ct an, MethIs hb (methAt 16) f .none nme qual kV doc pm cdv ct an ∧ findIn K (.ref C) "add_header" = some (some (.ref f)) ∧ typeIn K (.ref f) = some (.type "function")
  conv : ∃ f nme qual kV doc pm cdv ct an, MethIs hb (methAt 1) f .none nme qual kV doc pm cdv ct an ∧ findIn K (.ref C) "_convert_string_type" = some (some (.ref f)) ∧ typeIn K (.ref f) = some (.type "function")
  vals : ∃ f nme qual kV doc pm cdv ct an, MethIs hb (methAt 10) f .none nme qual kV doc pm cdv ct an ∧ findIn K (.ref C) "values" = some (some (.ref f)) ∧ typeIn K (.ref f) = some (.type "function")
  fpar : ∃ f T nme qual kV doc pm cdv ct an tk cT nT, DefIs hb mg "_formatparam" (defAt 9) f (.ref T) nme qual kV doc pm cdv ct an ∧ hb.get? T = some { cls := cT, data := .seq #[.none, .int 1 tk] nT }
  e2 : ∃ f nme qual kV doc pm cdv ct an, DefIs hb mg "_escape_cdata" (defAt 13) f .none nme qual kV doc pm cdv ct an
  e3 : ∃ f nme qual kV doc pm cdv ct an, DefIs hb mg "_escape_attrib_html" (defAt 14) f .none nme qual kV doc pm cdv ct an
  e4 : ∃ f nme qual kV doc pm cdv ct an, DefIs hb mg "_escape_attrib_c14n" (defAt 15) f .none nme qual kV doc pm cdv ct an

section
variable {prog : Program} {w : World} {hb : Heap} {mg mb : Str → Option Value} {K : Frag} {C : Addr}

theorem ex_ret3 {cx : Cx} {ρ : Rho} {mus : Mus} {e : Expr} {X : Addr → Prop} {H : Addr} {ds' : List D} {r : D} {pos : Pos} {rest rest2 : List Stmt} {s0 : Shared} (he : Ev prog w hb cx ρ mus e r) (hm : (H, ds') ∈ mus) (hX : ∀ b, X b → cx.X b) (hp : ∀ b o, b ≠ H → cx.s0.heap.get? b = some o → cx.pr b o) (hs : cx.s0 = s0 := by rfl) :
    Ex prog w hb cx ρ mus (.Return (some e) pos :: rest) (Then prog w cx rest2 (BackM w.params X s0 H ds' r)) := by
  subst hs
  exact ex_return he fun v s' S' h => back_retM S' h hm hX hp
theorem ex_ret4 {cx : Cx} {ρ : Rho} {mus : Mus} {e : Expr} {X : Addr → Prop} {H : Addr} {ds' : List D} {r : D} {pos : Pos} {rest : List Stmt} {s0 : Shared} (he : Ev prog w hb cx ρ mus e r) (hm : (H, ds') ∈ mus) (hX : ∀ b, X b → cx.X b) (hp : ∀ b o, b ≠ H → cx.s0.heap.get? b = some o → cx.pr b o) (hs : cx.s0 = s0 := by rfl) :
    Ex prog w hb cx ρ mus (.Return (some e) pos :: rest) (BackM w.params X s0 H ds' r) := by
  subst hs
  exact ex_return he fun v s' S' h => back_retM S' h hm hX hp

set_option maxHeartbeats 4000000 in
theorem made_fn {aL Ht : Addr} {nme qual : Str} {kV doc pm cdv ct : Value} {an : Option Addr} (M : Mod hb mg mb) (Y : Mk hb mg mb K C) (Df : DefIs hb mg "_law_made" (defAt 17) aL .none nme qual kV doc pm cdv ct an)
    {Kd : List (List Nat)} {H : List Nat} {S : List Str} (hK : Wk Kd) (hH : H.length = Kd.length) (hS : S.length = Kd.length) (hz : ∀ f p, (insideT Kd H S f p).length ≤ 100000) (hfi : ∀ f p, ∀ c ∈ insideT Kd H S f p, fine c) :
    ∀ f p hs, p < Kd.length → Kd.length - p ≤ f → hs.length + (hdrsT Kd H S f p).length ≤ 1000 → FnM prog w hb (f + 4) (.ref aL) [.int p, kidsD Kd, nats H, strsD S, .tab C Ht] [] [] Ht (hdD hs) (hdD (hs ++ hdrsT Kd H S f p)) (.str (ofL (madeT Kd H S f p))) := by
  intro f
  induction f with
  | zero => intro p hs h1 h2; omega
  | succ f ih =>
    intro p hs h1 h2 h3
    obtain ⟨o, ho, hd⟩ := Df.obj
    refine fn_introM (body := dBody (defAt 17)) (ps := [Str.ofString "place", Str.ofString "kids", Str.ofString "hands", Str.ofString "signs", Str.ofString "table"]) (das := [.int p, kidsD Kd, nats H, strsD S, .tab C Ht]) ho hd M.lim Df.code rfl ?_ (show ∀ x ∈ (dScope (defAt 17)).names, x.2 ≠ .cell from by decide)
      (show ∀ x ∈ [Str.ofString "place", Str.ofString "kids", Str.ofString "hands", Str.ofString "signs", Str.ofString "table"], (dScope (defAt 17)).names.lookup x = some .local from by decide) rfl (by decide) rfl rfl rfl ?_
    · intro s vs kvs A E Q hk hl1 hl2 hq
      obtain ⟨v1, v2, v3, v4, v5, rfl⟩ := len5 hl1
      obtain rfl := len0 hl2
      exact BindsTo.of_eq rfl _ _ _ _ (hq s.heap s.toks [v1, v2, v3, v4, v5] (fun _ _ e => e) (Nat.le_refl _) fun X hX hv hkv => hv)
    · intro A X s L hA hXH
      show Ex prog w hb _ (asc [(Str.ofString "place", .int p), (Str.ofString "kids", kidsD Kd), (Str.ofString "hands", nats H), (Str.ofString "signs", strsD S), (Str.ofString "table", .tab C Ht)]) _ _ _
      have hAr : Room (f + 4) (cxM A (fnOf nme qual (dArgs (defAt 17)) (dBody (defAt 17)) (dScope (defAt 17)) .none kV doc pm an cdv ct) aL X s Ht L).A := hA.deeper _
      have hA1 := hAr.le (k' := 1) (by omega)
      have hA2 := hAr.le (k' := 2) (by omega)
      have hA3 := hAr.le (k' := 3) (by omega)
      have hs1 : sizeLine = 16777216 := sizeLine_eq
      have hK7 := hK.1
      have hHp : H[p]? = some H[p] := by simp [show p < H.length by omega]
      have hHd : H.getD p 0 = H[p] := getD_of hHp
      have hHi : (H.map fun (n : Nat) => D.int n)[p]? = some (.int (H[p] : Nat)) := by rw [List.getElem?_map, hHp]; rfl
      have hSp : S[p]? = some S[p] := by simp [show p < S.length by omega]
      have hSd : signL S p = S[p].cps.toList := by simp [signL, show p < S.length by omega]
      have hSi : (S.map D.str)[p]? = some (.str S[p]) := by rw [List.getElem?_map, hSp]; rfl
      have hSS : S[p] = ofL (signL S p) := by rw [hSd]; rfl
      let txt (i : Nat) : List Nat := [40] ++ signL S p ++ ((kidsOf Kd p).take i).flatMap (madeT Kd H S f)
      let hdr (i : Nat) : List (Str × Str) := hs ++ ((kidsOf Kd p).take i).flatMap (hdrsT Kd H S f)
      have hzp := hz f p
      have htxt : ∀ i, (txt i).length + 1 ≤ 100000 := fun i => by
        have a := take_flat_le (g := madeT Kd H S f) (l := kidsOf Kd p) i
        simp only [insideT, List.length_append, List.length_cons, List.length_nil] at hzp
        simp only [txt, List.length_append, List.length_cons, List.length_nil]
        omega
      have hflat : hs.length + ((kidsOf Kd p).flatMap (hdrsT Kd H S f)).length + (if H[p] = 1 then 1 else 0) ≤ 1000 := by
        have e : hdrsT Kd H S (f + 1) p = (kidsOf Kd p).flatMap (hdrsT Kd H S f) ++ (if H[p] = 1 then [(letterS p, ofL (madeT Kd H S (f + 1) p))] else []) := by rw [← hHd]; rfl
        rw [e, List.length_append] at h3
        split <;> rename_i hq1 <;> simp only [hq1, if_true, if_false, List.length_cons, List.length_nil] at h3 <;> omega
      refine ex_assign (d := .str (ofL (txt 0))) (ev_eq ?_ (ev_bin hA1 ev_str (ev_sub hA1 (ev_name (by walk_at "var")) (ev_name (by walk_at "var")) (op_item hSi (by omega) (fun _ _ => rfl))) (op_add_str ?_))) rfl ?_
      · rw [hSS, show (Str.ofString "(") = ofL [40] from by decide, app_ofL]
        simp [txt]
      · have := htxt 0
        rw [hSS, len_ofL, show (Str.ofString "(").length = 1 from by decide]
        simp only [txt, List.length_append, List.length_cons, List.length_nil, List.take_zero, List.flatMap_nil] at this
        omega
      refine ex_for (ds := (kidsOf Kd p).map fun (n : Nat) => .int n) hA.hh
        (fun i => asc [(Str.ofString "inside", .str (ofL (txt i))), (Str.ofString "place", .int p), (Str.ofString "kids", kidsD Kd), (Str.ofString "hands", nats H), (Str.ofString "signs", strsD S), (Str.ofString "table", .tab C Ht)])
        (fun i => upd (asc [(Str.ofString "inside", .str (ofL (txt i))), (Str.ofString "place", .int p), (Str.ofString "kids", kidsD Kd), (Str.ofString "hands", nats H), (Str.ofString "signs", strsD S), (Str.ofString "table", .tab C Ht)]) (Str.ofString "kid") (.int ((kidsOf Kd p).getD i 0 : Nat)))
        (fun i => [(Ht, hdD (hdr i))]) ?_ (by walk_at "le") (by simp [hdr]) (fun _ => rfl) ?_ ?_ ?_
      · refine ev_sub hA1 (ev_name (by walk_at "var")) (ev_name (by walk_at "var")) (op_item (k := p) ?_ (by omega) (fun _ _ => rfl))
        simp [h1, nats, kidsOf]
      · intro i d hd
        simp only [List.getElem?_map, Option.map_eq_some_iff] at hd
        obtain ⟨q, hq, rfl⟩ := hd
        rw [getD_of hq]
        exact asg_name rfl
      · intro i d X' pr' hd' hX hp
        simp only [List.getElem?_map, Option.map_eq_some_iff] at hd'
        obtain ⟨q, hq, rfl⟩ := hd'
        obtain ⟨q1, q2⟩ := hK.2 p q (List.mem_of_getElem? hq)
        rw [getD_of hq]
        have hnt : txt (i + 1) = txt i ++ madeT Kd H S f q := by simp only [txt, take_next hq, List.flatMap_append, List.append_assoc, List.flatMap_cons, List.flatMap_nil, List.append_nil]
        have hnh : hdr (i + 1) = hdr i ++ hdrsT Kd H S f q := by simp only [hdr, take_next hq, List.flatMap_append, List.append_assoc, List.flatMap_cons, List.flatMap_nil, List.append_nil]
        have hh5 : (hdr i).length + (hdrsT Kd H S f q).length ≤ 1000 := by
          have a := take_flat_le (g := hdrsT Kd H S f) (l := kidsOf Kd p) (i + 1)
          have b : (hdr (i + 1)).length = (hdr i).length + (hdrsT Kd H S f q).length := by rw [hnh, List.length_append]
          simp only [hdr, List.length_append] at b ⊢
          split at hflat <;> omega
        rw [hnt, hnh, ← app_ofL (txt i) (madeT Kd H S f q)]
        refine ex_assign_addM (pre := []) (post := []) hAr hA1 rfl (ev_name (by walk_at "var")) (ev_global M.g Df.name rfl) ho hd (evl_cons (ev_name (by walk_at "var")) (evl_cons (ev_name (by walk_at "var")) (evl_cons (ev_name (by walk_at "var")) (evl_cons (ev_name (by walk_at "var")) (evl_cons (ev_name (by walk_at "var")) evl_nil)))))
          (ih q (hdr i) q2 (by omega) hh5) ?_ rfl (turn_end (by walk_at "le"))
        have := htxt (i + 1)
        rw [hnt, List.length_append] at this
        rw [len_ofL, len_ofL]; omega
      rw [List.length_map]
      have hlast := htxt (kidsOf Kd p).length
      have hins : txt (kidsOf Kd p).length ++ [41] = insideT Kd H S f p := by simp only [txt, insideT, List.take_length]
      have hhl : hdr (kidsOf Kd p).length = hs ++ (kidsOf Kd p).flatMap (hdrsT Kd H S f) := by simp only [hdr, List.take_length]
      refine ex_assign (d := .str (ofL (insideT Kd H S f p))) (ev_eq ?_ (ev_bin hA1 (ev_name (by walk_at "var")) ev_str (op_add_str ?_))) rfl ?_
      · rw [show (Str.ofString ")") = ofL [41] from by decide, app_ofL, hins]
      · rw [len_ofL, show (Str.ofString ")").length = 1 from by decide]; omega
      rw [hhl]
      have hmade : madeT Kd H S (f + 1) p = wrapL H[p] (insideT Kd H S f p) := by rw [← hHd]; rfl
      have hhd : hdrsT Kd H S (f + 1) p = (kidsOf Kd p).flatMap (hdrsT Kd H S f) ++ (if H[p] = 1 then [(letterS p, ofL (madeT Kd H S (f + 1) p))] else []) := by rw [← hHd]; rfl
      have hne : insideT Kd H S f p ≠ [] := by simp [insideT]
      have eH : ∀ {ρ : Rho} {m : Mus} {q1 q2 q3 : Pos}, ρ (Str.ofString "hands") = some (nats H) → ρ (Str.ofString "place") = some (.int p) → Ev prog w hb (cxM A (fnOf nme qual (dArgs (defAt 17)) (dBody (defAt 17)) (dScope (defAt 17)) .none kV doc pm an cdv ct) aL X s Ht L) ρ m (.Subscript (.Name "hands" q1) (.Name "place" q2) q3) (.int (H[p] : Nat)) := fun a b =>
        ev_sub hA1 (ev_name a) (ev_name b) (op_item hHi (by omega) (fun _ _ => rfl))
      generalize hinsd : insideT Kd H S f p = ins at hmade hne hzp
      have hfine : ∀ c ∈ ins, fine c := hinsd ▸ hfi f p
      obtain ⟨f2, m1, m2, m3, m4, m5, m6, m7, m8, E2⟩ := Y.e2
      obtain ⟨f3, r1, r2, r3, r4, r5, r6, r7, r8, E3⟩ := Y.e3
      obtain ⟨f4, t1, t2, t3, t4, t5, t6, t7, t8, E4⟩ := Y.e4
      obtain ⟨o2, ho2, hd2⟩ := E2.obj
      obtain ⟨o3, ho3, hd3⟩ := E3.obj
      obtain ⟨o4, ho4, hd4⟩ := E4.obj
      -- a quoted parameter
      refine ex_if (et_cmp hA1 (eH (by walk_at "var") (by walk_at "var")) ev_int op_eq) (fun h => ?_) (fun h => then_nil ?_)
      · have h1' : H[p] = 1 := by simp at h; omega
        obtain ⟨fA, b1, b2, b3, b4, b5, b6, b7, b8, EA, hfA, htA⟩ := Y.add
        obtain ⟨fC, c1, c2, c3, c4, c5, c6, c7, c8, EC, hfC, htC⟩ := Y.conv
        obtain ⟨fV, g1, g2, g3, g4, g5, g6, g7, g8, EV, hfV, htV⟩ := Y.vals
        obtain ⟨fP, T, d1, d2, d3, d4, d5, d6, d7, d8, tk, cT, nT, EP, hT⟩ := Y.fpar
        obtain ⟨oA, hoA, hdA⟩ := EA.obj
        obtain ⟨oV, hoV, hdV⟩ := EV.obj
        obtain ⟨ln1, ln2, ln3, ln4⟩ := letter_name p (by omega)
        rw [if_pos h1'] at hflat
        have hlen1 : (hs ++ (kidsOf Kd p).flatMap (hdrsT Kd H S f)).length ≤ 999 := by rw [List.length_append]; omega
        have hmf : ofL (madeT Kd H S (f + 1) p) = paramS (Str.ofString "k") ins := by rw [hmade, h1', param_ofL]
        have hfin : hs ++ hdrsT Kd H S (f + 1) p = (hs ++ (kidsOf Kd p).flatMap (hdrsT Kd H S f)) ++ [(letterS p, paramS (Str.ofString "k") ins)] := by rw [hhd, if_pos h1', hmf, List.append_assoc]
        rw [hfin, hmf]
        generalize hs ++ (kidsOf Kd p).flatMap (hdrsT Kd H S f) = hh at hlen1
        refine ex_methM (H := Ht) (pre := []) (post := []) (ks := [Str.ofString "k"]) hA3 Y.hc rfl (ev_name (by walk_at "var")) (.inl ⟨Ht, rfl⟩) hfA htA (by decide) hoA hdA
          (evl_cons (ev_sub hA1 ev_str (ev_name (by walk_at "var")) (op_item_str ln4 ln3 (fun _ _ => rfl))) (evl_cons ev_none evl_nil)) (evks_cons (ev_name (by walk_at "var")) evks_nil) rfl rfl
          (addh_fn M Y.hc Y.ts Y.len EA EC hfC htC EP hT ln1 ln2 hfine hzp hne (by omega)) ?_ rfl _
        refine ex_ret3 (ev_thaw (x := "table") (H := Ht) (pre := []) (post := []) rfl (by walk_at "var") (ev_sub hA1 (ev_meth0 hA2 Y.hc (ev_name (by walk_at "var")) hfV htV (by decide) hoV hdV (values_fn M Y.hc EV ?_) _) ?_ (op_item_neg1 ?_ ?_ (fun _ _ => rfl)))) (List.Mem.head _) (fun b h => .inr h) (fun b o nb e => ⟨e, nb⟩)
        · rw [List.length_append]; simp; omega
        · first | exact ev_un hA1 ev_int op_neg_int | exact ev_int
        · simp
        · rw [hs1]; simp; omega
      have n1 : H[p] ≠ 1 := by simp at h; omega
      rw [hhd, if_neg n1, List.append_nil]
      have hw : wrapL H[p] ins = escL H[p] ins := by unfold wrapL; rw [if_neg n1]
      rw [hmade, hw]
      refine ex_if (et_cmp hA1 (eH (by walk_at "var") (by walk_at "var")) ev_int op_eq) (fun h => ?_) (fun h => then_nil ?_)
      · have h1' : H[p] = 2 := by simp at h; omega
        rw [h1']
        exact ex_ret3 (ev_call hA2 (ev_global M.g E2.name rfl) ho2 hd2 (evl_cons (ev_name (by walk_at "var")) evl_nil) (esc2_fn M E2 hzp)) (by simp) (fun b h => .inr h) (fun b o nb e => ⟨e, nb⟩)
      have n2 : H[p] ≠ 2 := by simp at h; omega
      refine ex_if (et_cmp hA1 (eH (by walk_at "var") (by walk_at "var")) ev_int op_eq) (fun h => ?_) (fun h => then_nil ?_)
      · have h1' : H[p] = 3 := by simp at h; omega
        rw [h1']
        exact ex_ret3 (ev_call hA2 (ev_global M.g E3.name rfl) ho3 hd3 (evl_cons (ev_name (by walk_at "var")) evl_nil) (esc3_fn M E3 hzp)) (by simp) (fun b h => .inr h) (fun b o nb e => ⟨e, nb⟩)
      have n3 : H[p] ≠ 3 := by simp at h; omega
      refine ex_if (et_cmp hA1 (eH (by walk_at "var") (by walk_at "var")) ev_int op_eq) (fun h => ?_) (fun h => then_nil ?_)
      · have h1' : H[p] = 4 := by simp at h; omega
        rw [h1']
        exact ex_ret3 (ev_call hA2 (ev_global M.g E4.name rfl) ho4 hd4 (evl_cons (ev_name (by walk_at "var")) evl_nil) (esc4_fn M E4 hzp)) (by simp) (fun b h => .inr h) (fun b o nb e => ⟨e, nb⟩)
      have n4 : H[p] ≠ 4 := by simp at h; omega
      have hid : escL H[p] ins = ins := by
        unfold escL escTab
        split
        · exact absurd (by assumption) n2
        · exact absurd (by assumption) n3
        · exact absurd (by assumption) n4
        · rfl
      rw [hid]
      exact ex_ret4 (ev_name (by walk_at "var")) (by simp) (fun b h => .inr h) (fun b o nb e => ⟨e, nb⟩)
end
end Mine
end

section
open PySem PySem.W PySem.Calls PySem.Spec PyProof.Rows
set_option Elab.async false
set_option linter.unusedVariables false
namespace Mine
local macro_rules | `(tactic| walk_at "var") => `(tactic| first | exact upd_same | exact asc_same | (apply upd_ne (by decide); walk_at "var") | (apply asc_ne (by decide); walk_at "var") | (with_unfolding_all exact asc_same))
local macro_rules | `(tactic| walk_at "le") => `(tactic| first | exact le_nil | (refine le_cons ?_ ?_; (walk_at "var"); (walk_at "le")))

/-- what __init__ leaves -/
noncomputable def IPost (P : Params) (s2 : Shared) (dx : Addr) : Flow → Shared → Prop := fun f s' => f = .next ∧ ∃ aH u h' tk, s' = { s2 with heap := h', toks := tk } ∧ s2.toks ≤ tk ∧ (∀ b o, b ≠ dx → s2.heap.get? b = some o → h'.get? b = some o) ∧
  h'.get? dx = some (tabDict P u (.ref aH)) ∧ s2.heap.get? aH = none ∧ h'.PlainList aH #[]

noncomputable abbrev cxJ (A : Around) (fd : FuncData) (a : Addr) (X : Addr → Prop) (s : Shared) (dx : Addr) : Cx :=
  { A := A.deeper (callEnv fd s.heap.objs.size a), env := callEnv fd s.heap.objs.size a, X := fun b => b = s.heap.objs.size ∨ b = dx ∨ X b, pr := fun b o => s.heap.get? b = some o, s0 := s, cw := true }

section
variable {prog : Program} {w : World} {hb : Heap} {mg mb : Str → Option Value} {K : Frag} {C : Addr}

theorem init_body {A : Around} {X : Addr → Prop} {s : Shared} {fI T x dx : Addr} {nme qual : Str} {kV doc pm cdv ct : Value} {an : Option Addr} (M : Mod hb mg mb) (hc : Hdr hb K C) (hs : HdrSet K C) (hty : mg "type" = none) (hli : mg "list" = none)
    (hA : Room 2 A) (hx : s.heap.get? x = some (instObj C dx)) (hd : s.heap.get? dx = some { cls := .type "dict", data := .dict #[] }) :
    Ex prog w hb (cxJ A (fnOf nme qual (dArgs (methAt 0)) (dBody (methAt 0)) (dScope (methAt 0)) (.ref T) kV doc pm an cdv ct) fI X s dx) (asc [(Str.ofString "self", .opq (.ref x)), (Str.ofString "headers", .none)]) [] (dBody (methAt 0)) (IPost w.params s dx) := by
  have hA1 : Room 1 (cxJ A (fnOf nme qual (dArgs (methAt 0)) (dBody (methAt 0)) (dScope (methAt 0)) (.ref T) kV doc pm an cdv ct) fI X s dx).A := (hA.deeper _).le (by omega)
  have htb : mb "type" = some (.type "type") := (M.bi _ (by decide)).trans rfl
  have hlb : mb "list" = some (.type "list") := (M.bi _ (by decide)).trans rfl
  have hne : s.heap.objs.size ≠ dx := fun e => by have := hd; rw [← e, get_fresh] at this; cases this
  refine ex_assign_new (newl_ifexp (et_cmp hA1 (ev_name (by walk_at "var")) ev_none op_isnot_none') newl_empty) rfl fun aH hnH => ?_
  refine ex_if (c := false) ?_ (fun h => nomatch h) (fun _ => then_nil ?_)
  · refine et_eq ?_ (et_cmp hA1 (ev_type_mu (ev_builtin M.g hty M.b htb rfl) (ev_name (by walk_at "var")) (List.Mem.head _)) (ev_builtin M.g hli M.b hlb rfl) op_isnot_type)
    decide
  refine ex_setattr_new (dx := dx) hc hs hx hd (.inr (.inr (.inl rfl))) hne rfl (fun p hp => ?_) (ev_name (by walk_at "var")) (ev_name (by walk_at "var")) fun u => ?_
  · obtain rfl := List.mem_singleton.mp hp
    exact fun e => hnH (.inr (.inl e))
  refine ex_if (c := true) (et_val hA1 ev_bool tru_bool) (fun _ => ?_) (fun h => nomatch h)
  refine ex_for_empty hA.hh (ev_name (by walk_at "var")) (List.Mem.head _) (then_nil ?_)
  refine ex_nil fun s' S => ?_
  obtain ⟨h, tk, e⟩ := S.sh
  have e' : s' = { s with heap := h, toks := tk } := e
  subst e'
  have np := (S.muo (aH, []) (List.Mem.head _)).np
  obtain ⟨vs, hp, hl, _⟩ := S.mui (aH, []) (List.Mem.head _)
  have hvs : vs = #[] := Array.eq_empty_of_size_eq_zero hl
  subst hvs
  refine ⟨rfl, aH, u, h, tk, rfl, S.tk0, fun b o nb q => S.pres b o (.inl ⟨q, nb⟩), S.pres dx _ (.inr ⟨rfl, rfl⟩), ?_, hp⟩
  cases q : s.heap.get? aH with
  | none => rfl
  | some o => exact absurd (.inl ⟨q, fun z => hnH (.inr (.inl z))⟩) (np o)
end
end Mine
end

section
open PySem PySem.W PySem.Calls PySem.Spec PyProof.Rows
set_option Elab.async false
set_option linter.unusedVariables false
namespace Mine

section
variable {prog : Program} {w : World} {hb : Heap} {mg mb : Str → Option Value} {K : Frag} {C : Addr}

theorem tabDict_look (P : Params) (u : Tok) (v : Value) : lookIn (Str.ofString "_headers") (tabDict P u v) = some (some v) ∧ ∀ name, name ≠ Str.ofString "_headers" → lookIn name (tabDict P u v) = some none := by
  refine ⟨?_, fun name hn => ?_⟩
  · unfold lookIn tabDict
    simp [Value.isStr]
  · unfold lookIn tabDict
    have : (Str.ofString "_headers" == name) = false := by simpa using Ne.symm hn
    simp [Value.isStr, this, DictEntry.refKey]

theorem make_tab {fI T : Addr} {nme qual : Str} {kV doc pm cdv ct : Value} {an : Option Addr} (M : Mod hb mg mb) (hc : Hdr hb K C) (hs : HdrSet K C) (hty : mg "type" = none) (hli : mg "list" = none)
    (hm : makesIn K C = true) (hi : findIn K (.ref C) "__init__" = some (some (.ref fI))) (hf : typeIn K (.ref fI) = some (.type "function")) (Df : MethIs hb (methAt 0) fI (.ref T) nme qual kV doc pm cdv ct an)
    {cT : Value} {nT : Nat} (hT : hb.get? T = some { cls := cT, data := .seq #[.none] nT })
    {A : Around} {X : Addr → Prop} {s : Shared} (hA : Room 3 A) (hX : ∀ b, X b → ∃ o, s.heap.get? b = some o) (hbs : ∀ b o, hb.get? b = some o → s.heap.get? b = some o ∧ ¬ X b) (htk : 0 < s.toks) :
    wpAny (model prog w) A (call (.ref C) []) (fun v s' => Keeps s s' ∧ ∃ H, s.heap.get? H = none ∧ Holds w.params (vis (fun b => b = H ∨ X b) s'.heap) v (.tab C H) ∧ s'.heap.PlainList H #[]) NoE s := by
  obtain ⟨o, ho, hd⟩ := Df.obj
  obtain ⟨h, g, dr, t, os⟩ := s
  have XK : K.In h := hc.inK.keeps fun b o e => (hbs b o e).1
  refine wpAny_call (make_core (makes_of XK hm) (looks_findIn XK hi) (fun self => bind_fn XK self hf) (.inl rfl) ?_)
  have kp : ∀ b o, h.get? b = some o → ((h.push emptyDict).push (instObj C h.objs.size)).get? b = some o := fun b o e => Heap.get?_push_of_some _ (Heap.get?_push_of_some _ e)
  have hx : ((h.push emptyDict).push (instObj C h.objs.size)).get? (h.objs.size + 1) = some (instObj C h.objs.size) := by
    have := Heap.get?_push_size (h.push emptyDict) (o := instObj C h.objs.size) rfl
    rw [Heap.size_push] at this; exact this
  have hdx : ((h.push emptyDict).push (instObj C h.objs.size)).get? h.objs.size = some emptyDict := Heap.get?_push_of_some _ (Heap.get?_push_size _ rfl)
  have hb2 : ∀ b o, hb.get? b = some o → ((h.push emptyDict).push (instObj C h.objs.size)).get? b = some o := fun b o e => kp b o (hbs b o e).1
  have hA' : Room 2 (A.under (.builtin "type.__call__" ⟨.ref C :: [], []⟩)) := ⟨hA.hh, by
    have := hA.dp
    show A.depth + 1 + 2 ≤ 900
    omega, by
    have := hA.un
    show A.units + 1 + 10 * 2 ≤ 9000
    omega⟩
  generalize hh2 : (h.push emptyDict).push (instObj C h.objs.size) = h2 at kp hx hdx hb2
  refine codeAny_call_def (fd := fnOf nme qual (dArgs (methAt 0)) (dBody (methAt 0)) (dScope (methAt 0)) (.ref T) kV doc pm an cdv ct) (body := dBody (methAt 0)) (binds := [(Str.ofString "self", .ref (h.objs.size + 1)), (Str.ofString "headers", .none)])
    (by have := hA'.dp; show _ < 1000; omega) (hb2 _ _ ho) hd (M.lim.keeps hb2) (Df.code.keeps hb2) rfl (BindsTo.of_defaults rfl (hb2 T _ hT) rfl rfl rfl)
    (show ∀ x ∈ (dScope (methAt 0)).names, x.2 ≠ .cell from by decide) (show ∀ x ∈ [(Str.ofString "self", Value.ref (h.objs.size + 1)), (Str.ofString "headers", Value.none)], (dScope (methAt 0)).names.lookup x.1 = some .local from fun x hx => by
      simp only [List.mem_cons, List.not_mem_nil, or_false] at hx
      rcases hx with rfl | rfl <;> rfl) (fun h₀ hns hkeep => ?_)
  refine noE' ((init_body (X := X) (s := { heap := h2, gens := g, drawn := dr, toks := t, os := os }) M hc hs hty hli hA' hx hdx).run _ ?_) fun f s' q => ?_
  · have hnL : h2.get? h2.objs.size = none := get_fresh
    have hnd : h.get? h.objs.size = none := get_fresh
    have hnX : ¬ X h.objs.size := fresh_not (s := ⟨h, g, dr, t, os⟩) hX
    exact {
      sh := ⟨h₀, _, rfl⟩
      tok := Nat.lt_of_lt_of_le htk (Nat.le_add_right _ _)
      tk0 := Nat.le_add_right _ _
      live := fun b hx' => by
        rcases hx' with rfl | rfl | hx'
        · obtain ⟨o, _, _, e, _⟩ := hns; exact ⟨o, e⟩
        · exact ⟨_, hkeep _ _ hdx⟩
        · obtain ⟨o, e⟩ := hX b hx'; exact ⟨o, hkeep b o (kp b o e)⟩
      pres := fun b o e => hkeep b o e
      base := fun b o e => ⟨hkeep b o (hb2 b o e), fun z => by
        rcases z with z | z | z
        · have := hb2 b o e; rw [z, hnL] at this; cases this
        · have := (hbs b o e).1; rw [z] at this; rw [show (⟨h, g, dr, t, os⟩ : Shared).heap.get? h.objs.size = none from hnd] at this; cases this
        · exact (hbs b o e).2 z⟩
      nsx := ⟨_, hns⟩
      fk := rfl
      fg := rfl
      fb := rfl
      lx := .inl rfl
      lp := fun o e => by have e' : h2.get? h2.objs.size = some o := e; rw [hnL] at e'; cases e'
      cel := fun x c e => by cases e
      cwr := fun _ x c e => by cases e
      vars := fun y d e => by
        have e' : [(Str.ofString "self", D.opq (.ref (h.objs.size + 1))), (Str.ofString "headers", D.none)].lookup y = some d := e
        rw [List.lookup_cons] at e'
        split at e'
        · rename_i q
          cases e'
          rw [beq_iff_eq.mp q]
          exact ⟨_, .inl ⟨rfl, _, hns, rfl⟩, .opq⟩
        · rw [List.lookup_cons] at e'
          split at e'
          · rename_i q
            cases e'
            rw [beq_iff_eq.mp q]
            exact ⟨_, .inl ⟨rfl, _, hns, rfl⟩, .none⟩
          · cases e'
      muo := fun _ h => nomatch h
      mui := fun _ h => nomatch h
      mnd := .nil }
  · obtain ⟨rfl, aH, u, h', tk, rfl, htk', hk', hdx', hfr, hp⟩ := q
    have hnd : h.get? h.objs.size = none := get_fresh
    have hnx : h.get? (h.objs.size + 1) = none := by
      cases e : h.get? (h.objs.size + 1) with
      | none => rfl
      | some o => exact absurd (Heap.lt_size e) (Nat.not_lt.mpr (Nat.le_succ _))
    have notX : ∀ b, h.get? b = none → ¬ X b := fun b e z => by obtain ⟨o, q⟩ := hX b z; have q' : h.get? b = some o := q; rw [e] at q'; cases q'
    have hneq : h.objs.size + 1 ≠ h.objs.size := by omega
    obtain ⟨l1, l2⟩ := tabDict_look w.params u (.ref aH)
    refine ⟨rfl, ⟨h', tk, rfl, fun b o e => hk' b o (fun z => by rw [z] at e; have e' : h.get? h.objs.size = some o := e; rw [hnd] at e'; cases e') (kp b o e), htk'⟩, aH, ?_, ?_, hp⟩
    · cases e : h.get? aH with
      | none => rfl
      | some o => have := kp aH o e; rw [show h2.get? aH = none from hfr] at this; cases this
    · refine .tab (dx := h.objs.size) (od := tabDict w.params u (.ref aH)) ⟨hk' _ _ hneq hx, fun z => ?_⟩ ⟨hdx', fun z => ?_⟩ l1 l2
      · rcases z with z | z
        · have := hx; rw [z, show h2.get? aH = none from hfr] at this; cases this
        · exact notX _ hnx z
      · rcases z with z | z
        · have := hdx; rw [z, show h2.get? aH = none from hfr] at this; cases this
        · exact notX _ hnd z
end
end Mine
end

section
open PySem PySem.W PySem.Calls PySem.Spec PyProof.Rows
set_option Elab.async false
set_option linter.unusedVariables false
namespace Mine

section
variable {prog : Program} {w : World} {hb : Heap} {mg mb : Str → Option Value} {K : Frag} {C : Addr} {cx : Cx} {ρ : Rho} {mus : Mus} {R : Flow → Shared → Prop}

/-- the statement `x = Headers()` -/
theorem ex_assign_newtab {x n : Str} {px np cpos pos : Pos} {rest : List Stmt} {fI T : Addr} {nme qual : Str} {kV doc pm cdv ct : Value} {an : Option Addr} (M : Mod hb mg mb) (hc : Hdr hb K C) (hs : HdrSet K C) (hty : mg "type" = none) (hli : mg "list" = none)
    (hm : makesIn K C = true) (hkp : keepIn K (.ref C) = true) (hi : findIn K (.ref C) "__init__" = some (some (.ref fI))) (hft : typeIn K (.ref fI) = some (.type "function")) (Df : MethIs hb (methAt 0) fI (.ref T) nme qual kV doc pm cdv ct an)
    {cT : Value} {nT : Nat} (hT : hb.get? T = some { cls := cT, data := .seq #[.none] nT })
    (hA : Room 3 cx.A) (hf : Ev prog w hb cx ρ mus (.Name n np) (.opq (.ref C))) (hk : cx.env.kindOf x = some .local)
    (hr : ∀ H, ¬ cx.X H → Ex prog w hb { cx with X := fun b => b = H ∨ cx.X b } (upd ρ x (.tab C H)) ((H, []) :: mus) rest R)
    (hsw : swapsWith (.Call (.Name n np) [] [] cpos) (some (.Name x px)) pos.line cx.env = pure false := by rfl) :
    Ex prog w hb cx ρ mus (.Assign [.Name x px] (.Call (.Name n np) [] [] cpos) pos :: rest) R := .mk fun s S => by
  refine wpAny_execs_cons (wpAny_Assign_Name (wpAny_Call_Name_kw (hf.val S fun v s₁ S₁ k₁ h₁ => ?_)) hsw)
  obtain rfl := holds_opq h₁
  refine callWith_K0 (env := cx.env) (first := []) (hc.inK.keeps fun b o e => (S₁.base b o e).1) hkp ?_
  refine noE' (make_tab M hc hs hty hli hm hi hft Df hT hA S₁.live S₁.base S₁.tok) fun v s₂ q => ?_
  obtain ⟨k, H, hn, hv, hp⟩ := q
  have hna : ¬ cx.X H := fun z => by obtain ⟨o, e⟩ := S₁.live H z; rw [hn] at e; cases e
  have S₂ := S₁.addMu (ds := []) k hn ⟨#[], hp, rfl, fun i v d a => by simp at a⟩
  obtain ⟨m, hm'⟩ := S₂.nsx
  exact wpAny_storeName_local hk hm' (fun h' hn' hs' => (hr H hna).run _ (S₂.store hk hv hm' hn' hs' _)) (hp_fn S₂.fk)
end
end Mine
end

section
open PySem PySem.W PySem.Calls PySem.Spec PyProof.Rows
set_option Elab.async false
set_option linter.unusedVariables false
namespace Mine

/-- lists that may turn, hung in a list -/
noncomputable def newK (L : Addr) (bs : List Addr) (cs : List (List D)) : Mus := (L, bs.map fun b => .opq (.ref b)) :: bs.zip cs
theorem newK_fst {L : Addr} {bs : List Addr} {cs : List (List D)} (h : bs.length = cs.length) : (newK L bs cs).map (·.1) = L :: bs := by
  unfold newK
  rw [List.map_cons, List.map_fst_zip (by omega)]
theorem newLs_eq {L : Addr} {bs : List Addr} : newLs L bs = newK L bs (bs.map fun _ => []) := by
  unfold newLs newK
  congr 1
  induction bs with
  | nil => rfl
  | cons b r ih => simp only [List.map_cons, List.zip_cons_cons, ← ih]
theorem newK_split {L : Addr} {bs : List Addr} {cs : List (List D)} {j : Nat} {b : Addr} {c c' : List D} (hb : bs[j]? = some b) (hc : cs[j]? = some c) :
    newK L bs cs = ((L, bs.map fun b => .opq (.ref b)) :: (bs.zip cs).take j) ++ (b, c) :: (bs.zip cs).drop (j + 1) ∧
    newK L bs (cs.set j c') = ((L, bs.map fun b => .opq (.ref b)) :: (bs.zip cs).take j) ++ (b, c') :: (bs.zip cs).drop (j + 1) := by
  have hz : (bs.zip cs)[j]? = some (b, c) := List.getElem?_zip_eq_some.mpr ⟨hb, hc⟩
  have hj : j < (bs.zip cs).length := by
    rcases Nat.lt_or_ge j (bs.zip cs).length with h | h
    · exact h
    · rw [List.getElem?_eq_none h] at hz; cases hz
  have e0 : (bs.zip cs)[j] = (b, c) := by rw [List.getElem?_eq_getElem hj] at hz; exact Option.some.inj hz
  have e1 : bs.zip (cs.set j c') = (bs.zip cs).set j (b, c') := by
    apply List.ext_getElem?
    intro i
    rw [List.getElem?_set]
    by_cases h : j = i
    · subst h
      rw [if_pos rfl, if_pos hj]
      have hj2 : j < cs.length := by rw [List.length_zip] at hj; omega
      exact List.getElem?_zip_eq_some.mpr ⟨hb, by rw [List.getElem?_set, if_pos rfl, if_pos hj2]⟩
    · rw [if_neg h]
      apply Option.ext
      intro p
      rw [List.getElem?_zip_eq_some, List.getElem?_zip_eq_some, List.getElem?_set, if_neg h]
  refine ⟨?_, ?_⟩
  · unfold newK
    rw [List.cons_append]
    congr 1
    rw [← e0, ← List.drop_eq_getElem_cons hj, List.take_append_drop]
  · unfold newK
    rw [List.cons_append, e1, List.set_eq_take_append_cons_drop, if_pos hj]

section
variable {prog : Program} {w : World} {hb : Heap} {cx : Cx} {ρ : Rho} {mus : Mus} {R : Flow → Shared → Prop}

/-- an item of a list that may turn -/
theorem ev_sub_mu {value slice : Expr} {pos : Pos} {a : Addr} {d : D} {ds : List D} {k : Nat} (hv : Ev prog w hb cx ρ mus value (.opq (.ref a))) (hm : (a, ds) ∈ mus) (hi : Ev prog w hb cx ρ mus slice (.int k))
    (hx : ds[k]? = some d) (hz : ds.length ≤ sizeLine) (hs : SubPlain slice) :
    Ev prog w hb cx ρ mus (.Subscript value slice pos) d := .mk fun s S =>
  Subscript_ (hv.val S fun va s₁ S₁ k₁ h₁ => hi.val S₁ fun vb s₂ S₂ k₂ h₂ => by
    obtain rfl := holds_opq h₁
    obtain ⟨_, rfl⟩ := holds_int h₂
    obtain ⟨vs, hp, hl, hit⟩ := S₂.mui (a, ds) hm
    have hl' : vs.size = ds.length := hl
    have hlt : k < ds.length := by
      rcases Nat.lt_or_ge k ds.length with h | h
      · exact h
      · rw [List.getElem?_eq_none h] at hx; cases hx
    rw [sizeLine_eq] at hz
    obtain ⟨n, e⟩ := id hp
    have hL : s₂.heap.IsList a vs := ⟨_, e, rfl, n, rfl⟩
    have hq : vs[k]? = some vs[k] := by simp [show k < vs.size by omega]
    exact tail_any hL.typeIs slot_list_getitem.lookup (wpAny_getItem_list hL (by omega) (by omega) (by simpa using hq) ⟨keeps_trans k₁ k₂, hit k _ d hq hx⟩) (hs _ _))

/-- lists hung in a list turn no more -/
theorem ex_freeze_lists {x : Str} {L : Addr} {bs : List Addr} {cs : List (List D)} {pre post : Mus} {rest : List Stmt} (hl : bs.length = cs.length) (hm : mus = pre ++ newK L bs cs ++ post) (hx : ρ x = some (.opq (.ref L)))
    (hr : Ex prog w hb { cx with X := fun b => cx.X b ∧ b ∉ L :: bs } (upd ρ x (.list (cs.map .list))) (pre ++ post) rest R) : Ex prog w hb cx ρ mus rest R := .mk fun s S => by
  subst hm
  have hfst := newK_fst (L := L) hl
  have Mz : ∀ b ∈ L :: bs, MuOk cx b := fun b hb' => by
    rw [← hfst] at hb'
    obtain ⟨p, hp, rfl⟩ := List.mem_map.mp hb'
    exact S.muo p (by simp [hp])
  have hvis : ∀ b o, vis cx.X s.heap b o → vis (fun b => cx.X b ∧ b ∉ L :: bs) s.heap b o := fun b o q => ⟨q.1, fun z => q.2 z.1⟩
  have nd := S.mnd
  rw [List.map_append, List.map_append, hfst] at nd
  have nd1 := List.nodup_append.mp nd
  have nd2 := List.nodup_append.mp nd1.1
  have old : ∀ p ∈ pre ++ post, p.1 ∉ L :: bs := fun p hp e => by
    rcases List.mem_append.mp hp with hp | hp
    · exact nd2.2.2 p.1 (List.mem_map_of_mem hp) p.1 e rfl
    · exact nd1.2.2 p.1 (List.mem_append_right _ e) p.1 (List.mem_map_of_mem hp) rfl
  have up : ∀ p ∈ pre ++ post, p ∈ pre ++ newK L bs cs ++ post := fun p hp => by
    rcases List.mem_append.mp hp with hp | hp <;> simp [hp]
  refine hr.run s {
    sh := S.sh
    tok := S.tok
    tk0 := S.tk0
    live := fun b hx => S.live b hx.1
    pres := S.pres
    base := fun b o e => ⟨(S.base b o e).1, fun z => (S.base b o e).2 z.1⟩
    nsx := S.nsx
    fk := S.fk
    fg := S.fg
    fb := S.fb
    lx := ⟨S.lx, fun e => (Mz _ e).nl rfl⟩
    lp := S.lp
    cel := fun y c e => by obtain ⟨q, b, c'⟩ := S.cel y c e; exact ⟨⟨q, fun z => (Mz _ z).nc y c e rfl⟩, b, c'⟩
    cwr := S.cwr
    vars := fun y d e => by
      unfold upd at e
      split at e
      · rename_i q
        subst q
        cases e
        obtain ⟨v, V, H⟩ := S.vars y _ hx
        refine ⟨v, V, ?_⟩
        cases H
        obtain ⟨vs, ⟨n, hp⟩, hl2, hv⟩ := S.mui (L, bs.map fun b => .opq (.ref b)) (by simp [newK])
        have hl3 : vs.size = bs.length := by simpa using hl2
        refine .list (n := n) ⟨hp, fun z => z.2 (List.mem_cons_self ..)⟩ (by simp [hl3, hl]) fun i v d a' b => ?_
        have hi : i < cs.length := by
          rcases Nat.lt_or_ge i cs.length with h | h
          · exact h
          · rw [List.getElem?_eq_none (by simpa using h)] at b; cases b
        have hbi : bs[i]? = some bs[i] := by simp [show i < bs.length by omega]
        have hci : cs[i]? = some cs[i] := by simp [hi]
        rw [List.getElem?_map, hci] at b
        cases b
        have h1 := hv i v (.opq (.ref bs[i])) a' (by rw [List.getElem?_map, hbi]; rfl)
        cases h1
        have hmem : (bs[i], cs[i]) ∈ bs.zip cs := List.mem_of_getElem? (List.getElem?_zip_eq_some.mpr ⟨hbi, hci⟩)
        obtain ⟨us, ⟨k, hq⟩, hul, hu⟩ := S.mui (bs[i], cs[i]) (by simp [newK, hmem])
        exact .list (n := k) ⟨hq, fun z => z.2 (List.mem_cons_of_mem _ (List.getElem_mem _))⟩ hul fun i v d a b => (hu i v d a b).mono hvis
      · obtain ⟨v, V, H⟩ := S.vars y d e
        exact ⟨v, V, H.mono hvis⟩
    muo := fun p hp => by
      have := S.muo p (up p hp)
      exact ⟨⟨this.x, old p hp⟩, this.nl, this.np, this.nc⟩
    mui := fun p hp => (S.mui p (up p hp)).mono hvis fun _ e => e
    mnd := by
      rw [List.map_append, List.nodup_append]
      exact ⟨nd2.1, nd1.2.1, fun a ha b hb' => nd1.2.2 a (List.mem_append_left _ ha) b hb'⟩ }
end
end Mine
end

section
open PySem PySem.W PySem.Calls PySem.Spec PyProof.Rows
set_option Elab.async false
set_option linter.unusedVariables false
namespace Mine

/-! what the law builds, in plain data -/
noncomputable def numsL (script : List Int) : List Nat := (([4497, 6771, 3464] ++ script.take 4).map fun (i : Int) => (i.fmod 1000000).toNat)
noncomputable def upOf (ns : List Nat) (i : Nat) : Nat := ns.getD i 0 / 40 % (i + 1)
noncomputable def signsT : Str := ⟨#[40, 41, 92, 38, 60, 62, 9, 97]⟩
noncomputable def signOf (n : Nat) : Str := Txt.item signsT (n / 5 % 8 : Nat)
noncomputable def kidsAt (ns : List Nat) (i : Nat) : List (List Nat) := (List.range ns.length).map fun p => (List.range i).filter fun q => upOf ns q == p + 1
noncomputable def rootsAt (ns : List Nat) (i : Nat) : List Nat := (List.range i).filter fun q => upOf ns q == 0
noncomputable def handsN (ns : List Nat) : List Nat := ns.map (· % 5)
noncomputable def signsN (ns : List Nat) : List Str := ns.map signOf
noncomputable def kidsN (ns : List Nat) : List (List Nat) := kidsAt ns ns.length
noncomputable def rootsN (ns : List Nat) : List Nat := rootsAt ns ns.length

theorem nums_len (script : List Int) : (numsL script).length ≤ 7 := by
  unfold numsL
  simp only [List.length_map, List.length_append, List.length_take, List.length_cons, List.length_nil]
  omega
theorem nums_lt (script : List Int) : ∀ n ∈ numsL script, n < 1000000 := fun n hn => by
  unfold numsL at hn
  obtain ⟨i, _, rfl⟩ := List.mem_map.mp hn
  have h1 : 0 ≤ i.fmod 1000000 := Int.fmod_nonneg_of_pos i (by decide)
  have h2 : i.fmod 1000000 < 1000000 := Int.fmod_lt_of_pos i (by decide)
  omega

theorem upOf_le (ns : List Nat) (i : Nat) : upOf ns i ≤ i := by
  unfold upOf
  exact Nat.le_of_lt_succ (Nat.mod_lt _ (Nat.succ_pos i))

theorem roots_next (ns : List Nat) (i : Nat) : rootsAt ns (i + 1) = if upOf ns i = 0 then rootsAt ns i ++ [i] else rootsAt ns i := by
  unfold rootsAt
  rw [List.range_succ, List.filter_append]
  by_cases h : upOf ns i = 0 <;> simp [h]
theorem kids_len (ns : List Nat) (i : Nat) : (kidsAt ns i).length = ns.length := by simp [kidsAt]
theorem kids_at {ns : List Nat} {i p : Nat} (hp : p < ns.length) : (kidsAt ns i)[p]? = some ((List.range i).filter fun q => upOf ns q == p + 1) := by
  unfold kidsAt
  rw [List.getElem?_map, List.getElem?_range hp]; rfl
theorem kids_next (ns : List Nat) (i : Nat) : kidsAt ns (i + 1) = if upOf ns i = 0 then kidsAt ns i else (kidsAt ns i).set (upOf ns i - 1) (((List.range i).filter fun q => upOf ns q == upOf ns i) ++ [i]) := by
  apply List.ext_getElem?
  intro p
  by_cases hp : p < ns.length
  · rw [kids_at hp, List.range_succ, List.filter_append]
    by_cases h : upOf ns i = 0
    · rw [if_pos h, kids_at hp]
      simp [h]
    · rw [if_neg h, List.getElem?_set]
      by_cases e : upOf ns i - 1 = p
      · have e' : upOf ns i = p + 1 := by omega
        rw [if_pos e, if_pos (by rw [kids_len]; omega)]
        simp [e']
      · have e' : upOf ns i ≠ p + 1 := by omega
        rw [if_neg e, kids_at hp]
        simp [e']
  · have h1 : (kidsAt ns (i + 1))[p]? = none := List.getElem?_eq_none (by rw [kids_len]; omega)
    rw [h1]
    symm
    apply List.getElem?_eq_none
    split
    · rw [kids_len]; omega
    · rw [List.length_set, kids_len]; omega

noncomputable def modI : D → Option D
  | .int i => some (.int (i.fmod (10 ^ 6)))
  | _ => none
theorem ints_mod (l : List Int) : (l.map D.int).filterMap modI = (l.map fun i => (i.fmod 1000000).toNat).map fun (n : Nat) => D.int n := by
  rw [List.filterMap_map, List.map_map]
  rw [show ((modI ∘ D.int) : Int → Option D) = some ∘ fun i => D.int ((i.fmod 1000000).toNat : Nat) from ?_]
  · rw [List.filterMap_eq_map]; rfl
  · funext i
    have h1 : 0 ≤ i.fmod 1000000 := Int.fmod_nonneg_of_pos i (by decide)
    show some (D.int (i.fmod (10 ^ 6))) = some (D.int ((i.fmod 1000000).toNat : Nat))
    rw [Int.toNat_of_nonneg h1]; rfl

theorem sign_ok (n : Nat) : (Txt.charAt signsT (n / 5 % 8 : Nat)).isSome = true ∧ fitsSsize ((n / 5 % 8 : Nat) : Int) = true ∧ (signOf n).length ≤ 1 := by
  have key : ∀ k : Fin 8, (Txt.charAt signsT (k.1 : Nat)).isSome = true ∧ fitsSsize ((k.1 : Nat) : Int) = true ∧ (Txt.item signsT (k.1 : Nat)).length ≤ 1 := by decide +kernel
  exact key ⟨n / 5 % 8, Nat.mod_lt _ (by decide)⟩

section
variable {prog : Program} {w : World} {hb : Heap} {cx : Cx} {ρ ρ' : Rho} {mus : Mus} {R : Flow → Shared → Prop}
theorem ex_less {st : List Stmt} (h : Le ρ' ρ) (x : Ex prog w hb cx ρ' mus st R) : Ex prog w hb cx ρ mus st R := .mk fun s S => x.run s (S.forget h)
theorem op_fdiv_nat {a b : Nat} (hb : 0 < b) (ha : a < 2 ^ 28) (hb2 : b < 2 ^ 28) : Op2 prog w (binaryOp .FloorDiv) (.int a) (.int b) (.int ((a / b : Nat) : Int)) := by
  have h := op_fdiv_int (prog := prog) (w := w) (a := (a : Int)) (b := (b : Int)) (by omega) (by
    unfold Builtin.divisionGoesByPylong
    have h1 : (b : Int).natAbs.log2 < 28 := (Nat.log2_lt (by omega)).mpr (by omega)
    have h2 : ((b : Int) == 0) = false := by rw [beq_eq_false_iff_ne]; omega
    simp only [h2, Bool.false_eq_true, if_false, Bool.and_eq_false_iff, decide_eq_false_iff_not]
    left; omega)
  have e : ((a : Int)).fdiv (b : Int) = ((a / b : Nat) : Int) := by
    rw [Int.fdiv_eq_ediv_of_nonneg _ (by omega)]; rfl
  rw [e] at h; exact h
theorem op_mod_nat {a b : Nat} (hb : 0 < b) : Op2 prog w (binaryOp .Mod) (.int a) (.int b) (.int ((a % b : Nat) : Int)) := by
  have h := op_mod_int (prog := prog) (w := w) (a := (a : Int)) (b := (b : Int)) (by omega)
  have e : ((a : Int)).fmod (b : Int) = ((a % b : Nat) : Int) := by
    rw [Int.fmod_eq_emod_of_nonneg _ (by omega)]; rfl
  rw [e] at h; exact h
end
end Mine
end

section
open PySem PySem.W PySem.Calls PySem.Spec PyProof.Rows
set_option Elab.async false
set_option linter.unusedVariables false
namespace Mine
local macro_rules | `(tactic| walk_at "var") => `(tactic| first | exact upd_same | exact asc_same | (apply upd_ne (by decide); walk_at "var") | (apply asc_ne (by decide); walk_at "var") | (with_unfolding_all exact asc_same))
local macro_rules | `(tactic| walk_at "le") => `(tactic| first | exact le_nil | (refine le_cons ?_ ?_; (walk_at "var"); (walk_at "le")))

/-- the law's frame -/
noncomputable abbrev cxW (A : Around) (nm : Str) (L a : Addr) (cd : Value) (X : Addr → Prop) (pr : Addr → Obj → Prop) (s0 : Shared) : Cx :=
  { A := A, env := envOfC nm (dScope (defAt 24)) L a cd, X := X, pr := pr, s0 := s0, cw := true }

section
variable {prog : Program} {w : World} {hb : Heap} {mg mb : Str → Option Value} {R : Flow → Shared → Prop}

theorem turn_end2 {cx : Cx} {ρ ρ' : Rho} {mus mus' : Mus} (e : mus = mus') (h : Le ρ' ρ) : Ex prog w hb cx ρ mus [] (Turn w.params hb cx ρ' mus' R) := e ▸ turn_end h

set_option maxHeartbeats 4000000 in
theorem law_a {A : Around} {nm : Str} {L a : Addr} {cd : Value} {X : Addr → Prop} {pr : Addr → Obj → Prop} {s0 : Shared} (hA1 : Room 1 A) (M : Mod hb mg mb) (hlen : mg "len" = none) (hrange : mg "range" = none)
    {script : List Int} (hsc : script.length ≤ 1000)
    (hr : ∀ X', Ex prog w hb (cxW A nm L a cd X' pr s0) (asc [(Str.ofString "numbers", nats (numsL script)), (Str.ofString "kids", kidsD (kidsN (numsL script))), (Str.ofString "roots", nats (rootsN (numsL script))),
      (Str.ofString "hands", nats (handsN (numsL script))), (Str.ofString "signs", strsD (signsN (numsL script)))]) [] ((dBody (defAt 24)).drop 6) R) :
    Ex prog w hb (cxW A nm L a cd X pr s0) (asc [(Str.ofString "script", .list (script.map .int))]) [] (dBody (defAt 24)) R := by
  have hlenb : mb "len" = some (.builtin "len") := (M.bi _ (by decide)).trans rfl
  have hrangeb : mb "range" = some (.type "range") := (M.bi _ (by decide)).trans rfl
  have hs1 : sizeLine = 16777216 := sizeLine_eq
  generalize hns : numsL script = ns at hr
  have hn7 : ns.length ≤ 7 := hns ▸ nums_len script
  have hnl : ∀ n ∈ ns, n < 1000000 := hns ▸ nums_lt script
  refine ex_assign_comp (ds := ([4497, 6771, 3464] ++ script.take 4).map D.int) (cl := []) hA1.hh (asc []) (fun d => upd (asc []) (Str.ofString "number") d)
    modI ?_ (compSc0 rfl (by decide) rfl (by decide)) capt0 ?_ ?_ ?_ ?_ ?_ rfl ?_
  · refine ev_eq ?_ (ev_bin hA1 (ev_list (evl_cons ev_int (evl_cons ev_int (evl_cons ev_int evl_nil)))) (ev_list_take (k := 4) (ev_name (by walk_at "var")) ev_int (by rw [List.length_map]; omega)) (op_add_list ?_))
    · rw [List.map_append, List.map_take]; rfl
    · simp only [List.length_take, List.length_map, List.length_cons, List.length_nil]; omega
  · intro d hd C X' pr' s₀
    exact asg_name rfl
  · intro d hd C X' pr' s₀
    obtain ⟨i, _, rfl⟩ := List.mem_map.mp hd
    exact etall_nil
  · intro d hd e he C X' pr' s₀
    obtain ⟨i, _, rfl⟩ := List.mem_map.mp hd
    cases he
    exact ev_bin hA1 (ev_name upd_same) (ev_bin hA1 ev_int ev_int (op_pow_int (by decide) (by decide))) (op_mod_int (by decide))
  · intro d hd; exact le_nil
  · simp only [List.length_map, List.length_append, List.length_take, List.length_cons, List.length_nil]; omega
  rw [ints_mod]
  have ens : ((([4497, 6771, 3464] : List Int) ++ script.take 4).map fun (i : Int) => (i.fmod 1000000).toNat) = ns := hns
  rw [ens]
  -- kids
  refine ex_assign_lists (ds := ns.map fun (n : Nat) => D.int n) (cl := []) hA1.hh (ev_name (by walk_at "var")) (compSc0 rfl (by decide) rfl (by decide)) (fun C => rfl) (by rw [List.length_map]; omega) rfl fun D' bs hbl hnd hnX => ?_
  rw [List.length_map] at hbl
  rw [List.append_nil, newLs_eq]
  refine ex_assign_new newl_empty rfl fun aR hnR => ?_
  refine ex_assign_new_cell (c := L + 1) newl_empty rfl rfl rfl fun aH hnH => ?_
  refine ex_assign_new newl_empty rfl fun aS hnS => ?_
  let ks (i : Nat) : List (List D) := (kidsAt ns i).map fun l => l.map fun (n : Nat) => D.int n
  let mu (i : Nat) : Mus := (aS, ((ns.take i).map signOf).map D.str) :: (aH, ((ns.take i).map (· % 5)).map fun (n : Nat) => D.int n) :: (aR, (rootsAt ns i).map fun (n : Nat) => D.int n) :: newK D' bs (ks i)
  have hkl : ∀ i, bs.length = (ks i).length := fun i => by simp only [ks, List.length_map, kids_len]; exact hbl
  let ρl : Rho := asc [(Str.ofString "signs", .opq (.ref aS)), (Str.ofString "hands", .opq (.ref aH)), (Str.ofString "roots", .opq (.ref aR)), (Str.ofString "kids", .opq (.ref D')), (Str.ofString "numbers", nats ns)]
  refine ex_for_range (N := ns.length) hA1.hh (fun _ => ρl) mu (ev_builtin M.g hrange M.b hrangeb rfl) (ev_eq ?_ (ev_callb hA1 (ev_builtin M.g hlen M.b hlenb rfl) (evl_cons (ev_name (by walk_at "var")) evl_nil) (fn_len_list (ds := ns.map fun (n : Nat) => D.int n) (by rw [List.length_map]; omega)))) (by omega) rfl (by walk_at "le") ?_ ?_ ?_ ?_
  · rw [List.length_map]
  · show mu 0 = _
    have e : ks 0 = bs.map fun _ => ([] : List D) := by
      apply List.ext_getElem?
      intro p
      rw [List.getElem?_map, List.getElem?_map]
      by_cases hp : p < ns.length
      · rw [kids_at hp, List.getElem?_eq_getElem (show p < bs.length by omega)]; rfl
      · rw [List.getElem?_eq_none (show bs.length ≤ p by omega), List.getElem?_eq_none (by rw [kids_len]; omega)]; rfl
    simp only [mu, e]
    rfl
  · intro i
    simp only [mu, List.map_cons, newK_fst (hkl i), newK_fst (show bs.length = (bs.map fun _ => ([] : List D)).length by simp)]
  · intro i X' pr' hi hX hp
    have hni : ns[i]? = some ns[i] := by simp [hi]
    have hnd' : ns.getD i 0 = ns[i] := getD_of hni
    have hil : ns[i] < 1000000 := hnl _ (List.getElem_mem hi)
    have eN : ∀ {ρ : Rho} {m : Mus} {q1 q2 q3 : Pos}, ρ (Str.ofString "numbers") = some (nats ns) → ρ (Str.ofString "place") = some (.int i) → Ev prog w hb (cxW A nm L a cd X' pr' s0) ρ m (.Subscript (.Name "numbers" q1) (.Name "place" q2) q3) (.int (ns[i] : Nat)) := fun a b =>
      ev_sub hA1 (ev_name a) (ev_name b) (op_item (by rw [List.getElem?_map, hni]; rfl) (by omega) (fun _ _ => rfl))
    have hup : upOf ns i = ns[i] / 40 % (i + 1) := by unfold upOf; rw [hnd']
    have hul := upOf_le ns i
    have tk1 : (ns.take (i + 1)).map (· % 5) = (ns.take i).map (· % 5) ++ [ns[i] % 5] := by rw [List.take_add_one, hni, List.map_append]; rfl
    have tk2 : (ns.take (i + 1)).map signOf = (ns.take i).map signOf ++ [signOf ns[i]] := by rw [List.take_add_one, hni, List.map_append]; rfl
    have hst := sign_ok ns[i]
    have hrl : (rootsAt ns i).length ≤ i := by unfold rootsAt; exact Nat.le_trans (List.length_filter_le _ _) (by simp)
    refine ex_append (a := aH) (ds := ((ns.take i).map (· % 5)).map fun (n : Nat) => D.int n) (pre := [(aS, ((ns.take i).map signOf).map D.str)]) (post := (aR, (rootsAt ns i).map fun (n : Nat) => D.int n) :: newK D' bs (ks i)) rfl (ev_name (by walk_at "var")) (ev_bin hA1 (eN (by walk_at "var") (by walk_at "var")) ev_int (op_mod_nat (b := 5) (by decide))) (by simp; omega) ?_
    refine ex_append (a := aS) (ds := ((ns.take i).map signOf).map D.str) (pre := []) rfl (ev_name (by walk_at "var")) (ev_sub hA1 ev_str (ev_bin hA1 (ev_bin hA1 (eN (by walk_at "var") (by walk_at "var")) ev_int (op_fdiv_nat (b := 5) (by decide) (by omega) (by decide))) ev_int (op_mod_nat (b := 8) (by decide))) (op_item_str hst.2.1 hst.1 (fun _ _ => rfl))) (by simp; omega) ?_
    refine ex_assign (d := .int (upOf ns i : Nat)) (ev_eq ?_ (ev_bin hA1 (ev_bin hA1 (eN (by walk_at "var") (by walk_at "var")) ev_int (op_fdiv_nat (b := 40) (by decide) (by omega) (by decide))) (ev_bin hA1 (ev_name (by walk_at "var")) ev_int op_add_int) (op_mod_nat (b := i + 1) (by omega)))) rfl ?_
    · rw [hup]
    have hmu : mu (i + 1) = (aS, ((ns.take i).map signOf).map D.str ++ [D.str (signOf ns[i])]) :: (aH, (((ns.take i).map (· % 5)).map fun (n : Nat) => D.int n) ++ [D.int ((ns[i] % 5 : Nat) : Int)]) :: (aR, (rootsAt ns (i + 1)).map fun (n : Nat) => D.int n) :: newK D' bs (ks (i + 1)) := by
      simp only [mu, tk1, tk2, List.map_append, List.map_cons, List.map_nil]
    refine ex_if (et_cmp hA1 (ev_name (by walk_at "var")) ev_int op_eq) (fun h => ?_) (fun h => ?_)
    · have h0 : upOf ns i = 0 := by simp at h; omega
      have er : rootsAt ns (i + 1) = rootsAt ns i ++ [i] := by rw [roots_next, if_pos h0]
      have ek : ks (i + 1) = ks i := by simp only [ks]; rw [kids_next, if_pos h0]
      refine ex_append (a := aR) (ds := (rootsAt ns i).map fun (n : Nat) => D.int n) (pre := [(aS, ((ns.take i).map signOf).map D.str ++ [D.str (signOf ns[i])]), (aH, (((ns.take i).map (· % 5)).map fun (n : Nat) => D.int n) ++ [D.int ((ns[i] % 5 : Nat) : Int)])]) (post := newK D' bs (ks i)) rfl (ev_name (by walk_at "var")) (ev_name (by walk_at "var")) (by rw [List.length_map]; omega) (then_nil (turn_end2 ?_ (by walk_at "le")))
      rw [hmu, er, ek, List.map_append]; rfl
    · have h0 : upOf ns i ≠ 0 := by simp at h; omega
      have er : rootsAt ns (i + 1) = rootsAt ns i := by rw [roots_next, if_neg h0]
      have hj : upOf ns i - 1 < bs.length := by omega
      have hbj : bs[upOf ns i - 1]? = some bs[upOf ns i - 1] := by simp [hj]
      have hcj : (ks i)[upOf ns i - 1]? = some (((List.range i).filter fun q => upOf ns q == upOf ns i - 1 + 1).map fun (n : Nat) => D.int n) := by
        simp only [ks]
        rw [List.getElem?_map, kids_at (by omega)]; rfl
      have e1 : upOf ns i - 1 + 1 = upOf ns i := by omega
      rw [e1] at hcj
      have ek : ks (i + 1) = (ks i).set (upOf ns i - 1) ((((List.range i).filter fun q => upOf ns q == upOf ns i).map fun (n : Nat) => D.int n) ++ [D.int (i : Nat)]) := by
        simp only [ks]; rw [kids_next, if_neg h0, List.map_set, List.map_append]; rfl
      have sp := newK_split (L := D') (c' := (((List.range i).filter fun q => upOf ns q == upOf ns i).map fun (n : Nat) => D.int n) ++ [D.int (i : Nat)]) hbj hcj
      have hflt : ((List.range i).filter fun q => upOf ns q == upOf ns i).length ≤ i := Nat.le_trans (List.length_filter_le _ _) (by simp)
      refine ex_append (a := bs[upOf ns i - 1]) (ds := ((List.range i).filter fun q => upOf ns q == upOf ns i).map fun (n : Nat) => D.int n)
        (pre := [(aS, ((ns.take i).map signOf).map D.str ++ [D.str (signOf ns[i])]), (aH, (((ns.take i).map (· % 5)).map fun (n : Nat) => D.int n) ++ [D.int ((ns[i] % 5 : Nat) : Int)]), (aR, (rootsAt ns i).map fun (n : Nat) => D.int n)] ++ ((D', bs.map fun b => .opq (.ref b)) :: (bs.zip (ks i)).take (upOf ns i - 1))) (post := (bs.zip (ks i)).drop (upOf ns i - 1 + 1)) ?_
        (ev_sub_mu (a := D') (ds := bs.map fun b => .opq (.ref b)) (k := upOf ns i - 1) (ev_name (by walk_at "var")) ?_ (ev_eq ?_ (ev_bin hA1 (ev_name (by walk_at "var")) ev_int op_sub_int)) (by rw [List.getElem?_map, hbj]; rfl) (by rw [List.length_map]; omega) (fun _ _ => rfl)) (ev_name (by walk_at "var")) (by rw [List.length_map]; omega) (then_nil (turn_end2 ?_ (by walk_at "le")))
      · rw [List.append_assoc, ← sp.1]; rfl
      · simp [newK]
      · congr 1; omega
      · rw [hmu, er, ek, sp.2, List.append_assoc]; rfl
  · have hd5 : dBody (defAt 24) = dBody (defAt 24) := rfl
    have hS : ((ns.take ns.length).map signOf).map D.str = (signsN ns).map D.str := by rw [List.take_length]; rfl
    have hH : (((ns.take ns.length).map (· % 5)).map fun (n : Nat) => D.int n) = (handsN ns).map fun (n : Nat) => D.int n := by rw [List.take_length]; rfl
    refine ex_freeze (x := "signs") (a := aS) (pre := []) (post := (aH, ((ns.take ns.length).map (· % 5)).map fun (n : Nat) => D.int n) :: (aR, (rootsAt ns ns.length).map fun (n : Nat) => D.int n) :: newK D' bs (ks ns.length)) rfl (by walk_at "var") ?_
    refine ex_freeze (x := "hands") (a := aH) (pre := []) (post := (aR, (rootsAt ns ns.length).map fun (n : Nat) => D.int n) :: newK D' bs (ks ns.length)) rfl (by walk_at "var") ?_
    refine ex_freeze (x := "roots") (a := aR) (pre := []) (post := newK D' bs (ks ns.length)) rfl (by walk_at "var") ?_
    refine ex_freeze_lists (x := "kids") (L := D') (bs := bs) (cs := ks ns.length) (pre := []) (post := []) (hkl _) (by rw [List.append_nil]) (by walk_at "var") ?_
    rw [hS, hH]
    have hK : D.list ((ks ns.length).map D.list) = kidsD (kidsN ns) := by simp only [ks, List.map_map]; rfl
    rw [hK]
    exact ex_less (by walk_at "le") (hr _)
end
end Mine
end

section
open PySem PySem.W PySem.Calls PySem.Spec PyProof.Rows
set_option Elab.async false
set_option linter.unusedVariables false
namespace Mine
local macro_rules | `(tactic| walk_at "var") => `(tactic| first | exact upd_same | exact asc_same | (apply upd_ne (by decide); walk_at "var") | (apply asc_ne (by decide); walk_at "var") | (with_unfolding_all exact asc_same))
local macro_rules | `(tactic| walk_at "le") => `(tactic| first | exact le_nil | (refine le_cons ?_ ?_; (walk_at "var"); (walk_at "le")))

/-- the class can be called -/
structure NewTab (hb : Heap) (mg : Str → Option Value) (K : Frag) (C : Addr) : Prop where
  hs : HdrSet K C
  ty : mg "type" = none
  li : mg "list" = none
  mks : makesIn K C = true
  kp : keepIn K (.ref C) = true
  nm : mg "Headers" = some (.ref C)
  ini : ∃ f T nme qual kV doc pm cdv ct an cT nT, MethIs hb (methAt 0) f (.ref T) nme qual kV doc pm cdv ct an ∧ hb.get? T = some { cls := cT, data := .seq #[.none] nT } ∧ findIn K (.ref C) "__init__" = some (some (.ref f)) ∧ typeIn K (.ref f) = some (.type "function")
  keys : ∃ f nme qual kV doc pm cdv ct an, MethIs hb (methAt 9) f .none nme qual kV doc pm cdv ct an ∧ findIn K (.ref C) "keys" = some (some (.ref f)) ∧ typeIn K (.ref f) = some (.type "function")

/-- the law's own helpers stand -/
structure Helps (hb : Heap) (mg : Str → Option Value) : Prop where
  made : ∃ f nme qual kV doc pm cdv ct an, DefIs hb mg "_law_made" (defAt 17) f .none nme qual kV doc pm cdv ct an
  names : ∃ f nme qual kV doc pm cdv ct an, DefIs hb mg "_law_names" (defAt 18) f .none nme qual kV doc pm cdv ct an
  written : ∃ f nme qual kV doc pm cdv ct an, DefIs hb mg "_law_written" (defAt 19) f .none nme qual kV doc pm cdv ct an
  rows : ∃ f nme qual kV doc pm cdv ct an, DefIs hb mg "_law_rows" (defAt 20) f .none nme qual kV doc pm cdv ct an
  last : ∃ f nme qual kV doc pm cdv ct an, DefIs hb mg "_law_last" (defAt 21) f .none nme qual kV doc pm cdv ct an
  placed : ∃ f nme qual kV doc pm cdv ct an, DefIs hb mg "_law_placed" (defAt 22) f .none nme qual kV doc pm cdv ct an
  depth : ∃ f nme qual kV doc pm cdv ct an, DefIs hb mg "_law_depth" (defAt 23) f .none nme qual kV doc pm cdv ct an
  paren : ∃ f T nme qual kV doc pm cdv ct an tk cT nT, DefIs hb mg "_paren_depth" (defAt 4) f (.ref T) nme qual kV doc pm cdv ct an ∧ hb.get? T = some { cls := cT, data := .seq #[.int 0 tk] nT }
  quoted : ∃ a c, mg "_quoted" = some (.ref a) ∧ PatAt hb a c quotCode 1
  range : mg "range" = none
  sum : mg "sum" = none

/-! what the law makes of the numbers -/
noncomputable def textI (ns : List Nat) (k : Nat) : List Nat := ((rootsN ns).take k).flatMap (madeT (kidsN ns) (handsN ns) (signsN ns) ns.length)
noncomputable def rowsI (ns : List Nat) (k : Nat) : List Row := ((rootsN ns).take k).flatMap fun r => rowsL (kidsN ns) (handsN ns) (signsN ns) ns.length r [] (-1)
noncomputable def hdrsI (ns : List Nat) (k : Nat) : List (Str × Str) := ((rootsN ns).take k).flatMap (hdrsT (kidsN ns) (handsN ns) (signsN ns) ns.length)
noncomputable def isHdr (ns : List Nat) (p : Nat) : Bool := (handsN ns).getD p 0 == 1
noncomputable def lettersOf (ns : List Nat) (l : List Nat) : List Str := (l.filter (isHdr ns)).map letterS
noncomputable def lettersI (ns : List Nat) (k : Nat) : List Str := ((rootsN ns).take k).flatMap fun r => lettersOf ns (lastL (kidsN ns) ns.length r)

noncomputable def pickH (ns : List Nat) : D → Option D
  | .int i => if isHdr ns i.toNat then some (.str (letterS i.toNat)) else none
  | _ => none
theorem pick_letters (ns : List Nat) : ∀ l : List Nat, (l.map fun (n : Nat) => D.int n).filterMap (pickH ns) = (lettersOf ns l).map D.str
  | [] => rfl
  | n :: l => by
    have ih := pick_letters ns l
    have e : pickH ns (.int (n : Nat)) = if isHdr ns n then some (.str (letterS n)) else none := rfl
    rw [List.map_cons, List.filterMap_cons, e]
    unfold lettersOf at ih ⊢
    cases h : isHdr ns n with
    | true => simp [h, ih]
    | false => simp [h, ih]

/-- the bounds of what is built -/
structure Fits (ns : List Nat) : Prop where
  n7 : ns.length ≤ 7
  wk : Wk (kidsN ns)
  rts : ∀ r ∈ rootsN ns, r < ns.length
  rl : (rootsN ns).length ≤ 7
  last : ∀ f p, (lastL (kidsN ns) f p).length ≤ 1000
  lastIn : ∀ f p, p < ns.length → ∀ x ∈ lastL (kidsN ns) f p, x < ns.length
  rows : ∀ f p a s, (rowsL (kidsN ns) (handsN ns) (signsN ns) f p a s).length ≤ 1000
  ins : ∀ f p, (insideT (kidsN ns) (handsN ns) (signsN ns) f p).length ≤ 100000
  fin : ∀ f p, ∀ c ∈ insideT (kidsN ns) (handsN ns) (signsN ns) f p, fine c
  text : (textI ns (rootsN ns).length).length ≤ 1000000
  rowsLen : (rowsI ns (rootsN ns).length).length ≤ 1000
  hdrs : (hdrsI ns (rootsN ns).length).length ≤ 1000
  lets : (lettersI ns (rootsN ns).length).length ≤ 1000

theorem one_cell {y : Str} {c0 : Addr} {cells : List (Str × Addr)} (h : cells.lookup y = some c0) : ∀ x c, [(y, c0)].lookup x = some c → cells.lookup x = some c := fun x c e => by
  rw [List.lookup_cons] at e
  split at e
  · rename_i q
    cases e
    rw [beq_iff_eq.mp q]; exact h
  · cases e
theorem flat_take {α : Type} {g : Nat → List α} {l : List Nat} (i : Nat) : ((l.take i).flatMap g).length ≤ ((l.take l.length).flatMap g).length := by
  rw [List.take_length]; exact take_flat_le i

section
variable {prog : Program} {w : World} {hb : Heap} {mg mb : Str → Option Value} {K : Frag} {C : Addr} {R : Flow → Shared → Prop}

set_option maxHeartbeats 4000000 in
theorem law_b {A : Around} {nm : Str} {L a : Addr} {cd : Value} {X : Addr → Prop} {pr : Addr → Obj → Prop} {s0 : Shared} (hA : Room 20 A) (M : Mod hb mg mb) (Y : Mk hb mg mb K C) (T : NewTab hb mg K C) (Z : Helps hb mg)
    {ns : List Nat} (F : Fits ns)
    (hr : ∀ X' H, Ex prog w hb (cxW A nm L a cd X' pr s0) (asc [(Str.ofString "text", .str (ofL (textI ns (rootsN ns).length))), (Str.ofString "rows", rowsD (rowsI ns (rootsN ns).length)), (Str.ofString "letters", strsD (lettersI ns (rootsN ns).length)),
      (Str.ofString "table", .tab C H), (Str.ofString "numbers", nats ns)]) [(H, hdD (hdrsI ns (rootsN ns).length))] ((dBody (defAt 24)).drop 11) R) :
    Ex prog w hb (cxW A nm L a cd X pr s0) (asc [(Str.ofString "numbers", nats ns), (Str.ofString "kids", kidsD (kidsN ns)), (Str.ofString "roots", nats (rootsN ns)),
      (Str.ofString "hands", nats (handsN ns)), (Str.ofString "signs", strsD (signsN ns))]) [] ((dBody (defAt 24)).drop 6) R := by
  have hA1 := hA.le (k' := 1) (by omega)
  have hs1 : sizeLine = 16777216 := sizeLine_eq
  obtain ⟨fI, T0, i1, i2, i3, i4, i5, i6, i7, i8, cT, nT, EI, hT, hfI, htI⟩ := T.ini
  obtain ⟨fM, m1, m2, m3, m4, m5, m6, m7, m8, EM⟩ := Z.made
  obtain ⟨fR, r1, r2, r3, r4, r5, r6, r7, r8, ER⟩ := Z.rows
  obtain ⟨fL, l1, l2, l3, l4, l5, l6, l7, l8, EL⟩ := Z.last
  obtain ⟨oM, hoM, hdM⟩ := EM.obj
  obtain ⟨oR, hoR, hdR⟩ := ER.obj
  obtain ⟨oL, hoL, hdL⟩ := EL.obj
  refine ex_assign_newtab M Y.hc T.hs T.ty T.li T.mks T.kp hfI htI EI hT (hA.le (by omega)) (ev_global M.g T.nm rfl) rfl fun H hH => ?_
  refine ex_assign ev_str rfl ?_
  refine ex_assign ev_list0 rfl ?_
  refine ex_assign ev_list0 rfl ?_
  let ρl (i : Nat) : Rho := asc [(Str.ofString "text", .str (ofL (textI ns i))), (Str.ofString "rows", rowsD (rowsI ns i)), (Str.ofString "letters", strsD (lettersI ns i)), (Str.ofString "table", .tab C H),
    (Str.ofString "numbers", nats ns), (Str.ofString "kids", kidsD (kidsN ns)), (Str.ofString "hands", nats (handsN ns)), (Str.ofString "signs", strsD (signsN ns))]
  have hKl : (kidsN ns).length = ns.length := kids_len ns _
  refine ex_for (ds := (rootsN ns).map fun (n : Nat) => .int n) hA.hh ρl (fun i => upd (ρl i) (Str.ofString "root") (.int ((rootsN ns).getD i 0 : Nat))) (fun i => [(H, hdD (hdrsI ns i))])
    (ev_name (by walk_at "var")) (by walk_at "le") rfl (fun _ => rfl) ?_ ?_ ?_
  · intro i d hd
    simp only [List.getElem?_map, Option.map_eq_some_iff] at hd
    obtain ⟨q, hq, rfl⟩ := hd
    rw [getD_of hq]
    exact asg_name rfl
  · intro i d X' pr' hd' hX hp
    simp only [List.getElem?_map, Option.map_eq_some_iff] at hd'
    obtain ⟨q, hq, rfl⟩ := hd'
    have hqr := F.rts q (List.mem_of_getElem? hq)
    rw [getD_of hq]
    have et : textI ns (i + 1) = textI ns i ++ madeT (kidsN ns) (handsN ns) (signsN ns) ns.length q := by simp only [textI, take_next hq, List.flatMap_append, List.flatMap_cons, List.flatMap_nil, List.append_nil]
    have er : rowsI ns (i + 1) = rowsI ns i ++ rowsL (kidsN ns) (handsN ns) (signsN ns) ns.length q [] (-1) := by simp only [rowsI, take_next hq, List.flatMap_append, List.flatMap_cons, List.flatMap_nil, List.append_nil]
    have eh : hdrsI ns (i + 1) = hdrsI ns i ++ hdrsT (kidsN ns) (handsN ns) (signsN ns) ns.length q := by simp only [hdrsI, take_next hq, List.flatMap_append, List.flatMap_cons, List.flatMap_nil, List.append_nil]
    have el : lettersI ns (i + 1) = lettersI ns i ++ lettersOf ns (lastL (kidsN ns) ns.length q) := by simp only [lettersI, take_next hq, List.flatMap_append, List.flatMap_cons, List.flatMap_nil, List.append_nil]
    have bt : (textI ns (i + 1)).length ≤ 1000000 := Nat.le_trans (flat_take _) F.text
    have br : (rowsI ns (i + 1)).length ≤ 1000 := Nat.le_trans (flat_take _) F.rowsLen
    have bh : (hdrsI ns (i + 1)).length ≤ 1000 := Nat.le_trans (flat_take _) F.hdrs
    have bl : (lettersI ns (i + 1)).length ≤ 1000 := Nat.le_trans (flat_take _) F.lets
    have hn7 := F.n7
    rw [et, List.length_append] at bt
    rw [er, List.length_append] at br
    rw [eh, List.length_append] at bh
    rw [el, List.length_append] at bl
    have hz1 := F.last ns.length q
    have hlin := F.lastIn ns.length q hqr
    refine ex_assign_addM (pre := []) (post := []) (mds' := hdD (hdrsI ns (i + 1))) (hA.le (k' := ns.length + 4) (by omega)) hA1 rfl (ev_name (by walk_at "var")) (ev_global M.g EM.name rfl) hoM hdM
      (evl_cons (ev_name (by walk_at "var")) (evl_cons (ev_name (by walk_at "var")) (evl_cons (ev_name (by walk_at "var")) (evl_cons (ev_name (by walk_at "var")) (evl_cons (ev_name (by walk_at "var")) evl_nil)))))
      (by rw [eh]; exact made_fn M Y EM F.wk (by rw [hKl]; simp [handsN]) (by rw [hKl]; simp [signsN]) F.ins F.fin ns.length q (hdrsI ns i) (by omega) (by omega) (by omega)) (by rw [len_ofL, len_ofL]; omega) rfl ?_
    have hta : ofL (textI ns i) ++ ofL (madeT (kidsN ns) (handsN ns) (signsN ns) ns.length q) = ofL (textI ns (i + 1)) := by rw [app_ofL, et]
    rw [hta]
    refine ex_assign (d := rowsD (rowsI ns (i + 1))) (ev_eq ?_ (ev_bin hA1 (ev_name (by walk_at "var")) (ev_call (hA.le (k' := ns.length + 1) (by omega)) (ev_global M.g ER.name rfl) hoR hdR
      (evl_cons (ev_name (by walk_at "var")) (evl_cons (ev_name (by walk_at "var")) (evl_cons (ev_name (by walk_at "var")) (evl_cons (ev_name (by walk_at "var")) (evl_cons ev_list0 (evl_cons (by first | exact ev_int | exact ev_un hA1 ev_int op_neg_int) evl_nil))))))
      (rows_fn M ER F.wk (by rw [hKl]; simp [handsN]) (by rw [hKl]; simp [signsN]) F.rows ns.length q [] (-1) (by omega) (by omega) (by simp; omega))) (op_add_list ?_))) rfl ?_
    · rw [er]; simp [rowsD]
    · rw [List.length_map, List.length_map]; omega
    refine ex_assign (d := strsD (lettersI ns (i + 1))) (ev_eq ?_ (ev_bin hA1 (ev_name (by walk_at "var")) (ev_comp (ds := (lastL (kidsN ns) ns.length q).map fun (n : Nat) => D.int n) (cl := [(Str.ofString "hands", L + 1)]) hA.hh (asc [(Str.ofString "hands", nats (handsN ns))])
      (fun d => upd (asc [(Str.ofString "hands", nats (handsN ns))]) (Str.ofString "one") d) (pickH ns)
      (ev_call (hA.le (k' := ns.length + 1) (by omega)) (ev_global M.g EL.name rfl) hoL hdL (evl_cons (ev_name (by walk_at "var")) (evl_cons (ev_name (by walk_at "var")) evl_nil)) (last_fn M EL F.wk F.last ns.length q (by omega) (by omega)))
      ⟨rfl, by decide, rfl, by decide, one_cell rfl⟩ (capt1 (c := L + 1) (by walk_at "var") (show some NameKind.cell ≠ some .local from by decide) rfl (.inl rfl)) ?_ ?_ ?_ ?_ ?_) (op_add_list ?_))) rfl ?_
    · rw [el, pick_letters]; simp [strsD]
    · intro d hd C' X'' pr'' s₀
      exact asg_name rfl
    · intro d hd C' X'' pr'' s₀
      obtain ⟨x, hx, rfl⟩ := List.mem_map.mp hd
      have hxl := hlin x hx
      have hHl : x < (handsN ns).length := by simp [handsN]; exact hxl
      have hHx : (handsN ns)[x]? = some (handsN ns)[x] := by simp [hHl]
      have e0 : (pickH ns (.int (x : Nat))).isSome = isHdr ns x := by
        show (if isHdr ns x then some (D.str (letterS x)) else none).isSome = _
        cases isHdr ns x <;> rfl
      rw [e0]
      refine etall_one (et_eq ?_ (et_cmp hA1 (ev_sub hA1 (ev_name (by walk_at "var")) (ev_name upd_same) (op_item (d := .int ((handsN ns)[x] : Nat)) (by rw [List.getElem?_map, hHx]; rfl) (by omega) (fun _ _ => rfl))) ev_int op_eq))
      unfold isHdr
      rw [getD_of hHx, Bool.eq_iff_iff, beq_iff_eq, beq_iff_eq]; omega
    · intro d hd e he C' X'' pr'' s₀
      obtain ⟨x, hx, rfl⟩ := List.mem_map.mp hd
      have hxl := hlin x hx
      have e0 : pickH ns (.int (x : Nat)) = if isHdr ns x then some (D.str (letterS x)) else none := rfl
      rw [e0] at he
      split at he
      · cases he
        obtain ⟨ln1, ln2, ln3, ln4⟩ := letter_name x (by omega)
        exact ev_sub hA1 ev_str (ev_name upd_same) (op_item_str ln4 ln3 (fun _ _ => rfl))
      · cases he
    · intro d hd; walk_at "le"
    · rw [List.length_map]; omega
    · rw [List.length_map, pick_letters, List.length_map]; omega
    exact turn_end (by walk_at "le")
  · rw [List.length_map]
    exact ex_less (by walk_at "le") (hr _ H)
end
end Mine
end

section
open PySem PySem.W PySem.Calls PySem.Spec PyProof.Rows
set_option Elab.async false
set_option linter.unusedVariables false
namespace Mine
local macro_rules | `(tactic| walk_at "var") => `(tactic| first | exact upd_same | exact asc_same | (apply upd_ne (by decide); walk_at "var") | (apply asc_ne (by decide); walk_at "var") | (with_unfolding_all exact asc_same))
local macro_rules | `(tactic| walk_at "le") => `(tactic| first | exact le_nil | (refine le_cons ?_ ?_; (walk_at "var"); (walk_at "le")))

noncomputable def brksN (ns : List Nat) : List Brk := brksOf (plOf (rowsI ns (rootsN ns).length) ns.length)
noncomputable def textN (ns : List Nat) : List Nat := textI ns (rootsN ns).length
noncomputable def across (cut : Nat) (b : Brk) : Bool := decide (b.spot ≤ (cut : Int)) && decide ((cut : Int) < b.fin)

/-- what the law asks -/
structure Tells (ns : List Nat) : Prop where
  rowOk : ∀ r ∈ rowsI ns (rootsN ns).length, RowOk ns.length r
  due : (plOf (rowsI ns (rootsN ns).length) ns.length).text = ofL (textN ns)
  keys : (hdrsI ns (rootsN ns).length).map (·.1) = lettersI ns (rootsN ns).length
  sok : ∀ x ∈ lettersI ns (rootsN ns).length, PyData.strOk x = true
  asc : ∀ c ∈ textN ns, c < 128
  brl : (brksN ns).length ≤ 1000
  worth : ∀ b ∈ brksN ns, -1 ≤ b.worth ∧ b.worth ≤ 1
  net : ∀ cut, cut ≤ (textN ns).length → parens ((textN ns).take cut) = depthOf (brksN ns) cut
  behind : ∀ cut, cut ≤ (textN ns).length → (brksN ns).filter (across cut) = [] → depthOf (brksN ns) cut + parens ((textN ns).drop cut) = depthOf (brksN ns) (textN ns).length

theorem toN_bytesOf (l : List Nat) (h : ∀ c ∈ l, c < 128) : toN (bytesOf l) = l := by
  unfold toN bytesOf
  simp only [List.map_map]
  refine (List.map_congr_left fun c hc => ?_).trans (List.map_id l)
  have := h c hc
  show (c.toUInt8).toNat = c
  simp; omega
theorem len_bytesOf (l : List Nat) : (bytesOf l).size = l.length := by simp [bytesOf]
noncomputable def spotI (cut : Nat) : D → Option D
  | .tup [.int a, .int b, .int c] => if across cut ⟨a, b, c⟩ then some (.int a) else none
  | _ => none
theorem pick_spots (cut : Nat) : ∀ l : List Brk, (l.map brkD).filterMap (spotI cut) = ((l.filter (across cut)).map (·.spot)).map D.int
  | [] => rfl
  | b :: l => by
    have ih := pick_spots cut l
    have e : spotI cut (brkD b) = if across cut b then some (.int b.spot) else none := rfl
    rw [List.map_cons, List.filterMap_cons, e]
    cases h : across cut b with
    | true => simp [h, ih]
    | false => simp [h, ih]

section
variable {prog : Program} {w : World} {hb : Heap} {mg mb : Str → Option Value} {K : Frag} {C : Addr}

theorem op_mod_nat' {a b : Nat} {d : D} (e : d = .int (b : Nat)) (hb : 0 < b) : Op2 prog w (binaryOp .Mod) (.int a) d (.int ((a % b : Nat) : Int)) := e ▸ op_mod_nat hb
/-- the law's answer -/
noncomputable abbrev Yes (w : World) (s0 : Shared) : Flow → Shared → Prop := Back w.params (fun _ => False) s0 (.bool true)

set_option maxHeartbeats 4000000 in
theorem law_c {A : Around} {nm : Str} {L a : Addr} {cd : Value} {X : Addr → Prop} {pr : Addr → Obj → Prop} {s0 : Shared} {H : Addr} (hA : Room 20 A) (M : Mod hb mg mb) (Y : Mk hb mg mb K C) (T : NewTab hb mg K C) (Z : Helps hb mg)
    {ns : List Nat} (hnl : ∀ n ∈ ns, n < 1000000) (F : Fits ns) (Q : Tells ns) (hpr : ∀ b o, s0.heap.get? b = some o → pr b o) :
    Ex prog w hb (cxW A nm L a cd X pr s0) (asc [(Str.ofString "text", .str (ofL (textI ns (rootsN ns).length))), (Str.ofString "rows", rowsD (rowsI ns (rootsN ns).length)), (Str.ofString "letters", strsD (lettersI ns (rootsN ns).length)),
      (Str.ofString "table", .tab C H), (Str.ofString "numbers", nats ns)]) [(H, hdD (hdrsI ns (rootsN ns).length))] ((dBody (defAt 24)).drop 11) (Yes w s0) := by
  have hA1 := hA.le (k' := 1) (by omega)
  have hA2 := hA.le (k' := 2) (by omega)
  have hs1 : sizeLine = 16777216 := sizeLine_eq
  have hlenb : mb "len" = some (.builtin "len") := (M.bi _ (by decide)).trans rfl
  obtain ⟨fN, n1, n2, n3, n4, n5, n6, n7, n8, EN⟩ := Z.names
  obtain ⟨fW, w1, w2, w3, w4, w5, w6, w7, w8, EW⟩ := Z.written
  obtain ⟨fP, p1, p2, p3, p4, p5, p6, p7, p8, EP⟩ := Z.placed
  obtain ⟨fD, d1, d2, d3, d4, d5, d6, d7, d8, ED⟩ := Z.depth
  obtain ⟨fQ, T1, q1, q2, q3, q4, q5, q6, q7, q8, tk, cT, nT, EQ, hT⟩ := Z.paren
  obtain ⟨aQ, cQ, hq, hP⟩ := Z.quoted
  obtain ⟨fK, k1, k2, k3, k4, k5, k6, k7, k8, EK, hfK, htK⟩ := T.keys
  obtain ⟨oP, hoP, hdP⟩ := EP.obj
  obtain ⟨oD, hoD, hdDd⟩ := ED.obj
  obtain ⟨oQ, hoQ, hdQ⟩ := EQ.obj
  obtain ⟨oK, hoK, hdK⟩ := EK.obj
  have hn7 := F.n7
  have htl : (textN ns).length ≤ 1000000 := F.text
  have hdue := Q.due
  have hbr : brksOf (plOf (rowsI ns (rootsN ns).length) ns.length) = brksN ns := rfl
  refine ex_freeze_tab (x := "table") (H := H) (pre := []) (post := []) rfl (by walk_at "var") ?_
  refine ex_assign_tup (ds := [.str (ofL (textN ns)), brksD (brksN ns)]) hA.hh (ev_eq ?_ (ev_call (hA.le (k' := 4) (by omega)) (ev_global M.g EP.name rfl) hoP hdP
    (evl_cons (ev_name (by walk_at "var")) (evl_cons (ev_eq ?_ (ev_callb hA1 (ev_builtin M.g Y.len M.b hlenb rfl) (evl_cons (ev_name (by walk_at "var")) evl_nil) (fn_len_list (ds := ns.map fun (n : Nat) => D.int n) (by rw [List.length_map]; omega)))) evl_nil))
    (placed_fn M EP EN EW Q.rowOk F.rowsLen (show ns.length ≤ 1000 by omega) Y.len))) (asgl_cons rfl (asgl_cons rfl asgl_nil)) ?_
  · rw [hdue, hbr]
  · rw [List.length_map]
  have hso : ∀ l : List Nat, l.length ≤ 1000000 → (ofL l).cps.size ≤ 1000000 := fun l h => by show l.toArray.size ≤ _; simpa using h
  have htd : (textN ns).length ≤ sizeLine := by omega
  have hst : (ofL (textN ns)).length ≤ sizeLine := by rw [len_ofL]; exact htd
  have hkeys : Fn prog w hb 2 (.ref fK) [.tabf C (hdD (hdrsI ns (rootsN ns).length))] (strsD (lettersI ns (rootsN ns).length)) := by
    have h := keys_fn (prog := prog) (w := w) M Y.hc EK F.hdrs
    have e : ((hdrsI ns (rootsN ns).length).map fun x => D.str x.1) = (lettersI ns (rootsN ns).length).map D.str := by rw [← Q.keys, List.map_map]; rfl
    rw [e] at h; exact h
  -- the two texts and the names are the same
  refine ex_if (c := false) (et_bool (eta_or (b := false) (et_eq ?_ (et_cmp hA1 (ev_name (by walk_at "var")) (ev_name (by walk_at "var")) op_ne_str)) (fun _ => eta_oneo (et_eq ?_ (et_cmp hA1 (ev_meth0 hA2 Y.hc (ev_name (by walk_at "var")) hfK htK (by decide) hoK hdK hkeys _) (ev_name (by walk_at "var")) (op_ne_strs Q.sok Q.sok)))) (fun h => nomatch h))) (fun h => nomatch h) (fun _ => then_nil ?_)
  · show ((textI ns (rootsN ns).length) != textN ns) = false
    simp [textN]
  · simp
  have hdep : ∀ cut : Nat, Fn prog w hb 2 (.ref fD) [brksD (brksN ns), .int cut] (.int (depthOf (brksN ns) cut)) := fun cut => depth_fn M ED Q.brl Q.worth Z.sum
  have hpar1 : ∀ l : List Nat, l.length ≤ 1000000 → (∀ c ∈ l, c < 128) → Fn prog w hb 2 (.ref fQ) [.bytes (bytesOf l)] (.int (parens l)) := fun l h1 h2 => by
    have := paren_fn1 (prog := prog) (w := w) M EQ hT hq hP (b := bytesOf l) (by rw [len_bytesOf]; exact h1)
    rw [toN_bytesOf l h2] at this; exact this
  have hpar2 : ∀ (l : List Nat) (d : Int), l.length ≤ 1000000 → (∀ c ∈ l, c < 128) → Fn prog w hb 2 (.ref fQ) [.bytes (bytesOf l), .int d] (.int (d + parens l)) := fun l d h1 h2 => by
    have := paren_fn2 (prog := prog) (w := w) M EQ hT hq hP (b := bytesOf l) (d := d) (by rw [len_bytesOf]; exact h1)
    rw [toN_bytesOf l h2] at this; exact this
  refine ex_assign (d := .int (depthOf (brksN ns) (textN ns).length)) (ev_call hA2 (ev_global M.g ED.name rfl) hoD hdDd (evl_cons (ev_name (by walk_at "var")) (evl_cons (ev_eq ?_ (ev_callb hA1 (ev_builtin M.g Y.len M.b hlenb rfl) (evl_cons (ev_name (by walk_at "var")) evl_nil) (fn_len_str hst))) evl_nil)) (hdep _)) rfl ?_
  · rw [len_ofL]
  have hwhole : parens (textN ns) = depthOf (brksN ns) (textN ns).length := by
    have := Q.net _ (Nat.le_refl _)
    rw [List.take_length] at this; exact this
  refine ex_if (c := false) (et_eq ?_ (et_cmp hA1 (ev_call hA2 (ev_global M.g EQ.name rfl) hoQ hdQ (evl_cons (ev_encode (ev_name (by walk_at "var")) (by rw [cps_ofL]; exact Q.asc) (hso _ htl)) evl_nil) (hpar1 (textN ns) htl Q.asc)) (ev_name (by walk_at "var")) op_ne)) (fun h => nomatch h) (fun _ => then_nil ?_)
  · rw [hwhole]; simp
  let ρl : Rho := asc [(Str.ofString "whole", .int (depthOf (brksN ns) (textN ns).length)), (Str.ofString "due", .str (ofL (textN ns))), (Str.ofString "brackets", brksD (brksN ns)), (Str.ofString "text", .str (ofL (textN ns)))]
  refine ex_for (ds := ns.map fun (n : Nat) => .int n) hA.hh (fun _ => ρl) (fun i => upd ρl (Str.ofString "number") (.int (ns.getD i 0 : Nat))) (fun _ => []) (ev_name (by walk_at "var")) (by walk_at "le") rfl (fun _ => rfl) ?_ ?_ ?_
  · intro i d hd
    simp only [List.getElem?_map, Option.map_eq_some_iff] at hd
    obtain ⟨q, hq, rfl⟩ := hd
    rw [getD_of hq]
    exact asg_name rfl
  · intro i d X' pr' hd' hX hp
    simp only [List.getElem?_map, Option.map_eq_some_iff] at hd'
    obtain ⟨n, hn, rfl⟩ := hd'
    have hn6 := hnl n (List.mem_of_getElem? hn)
    rw [getD_of hn]
    generalize hcut : n / 280 % ((textN ns).length + 1) = cut
    have hcl : cut ≤ (textN ns).length := by rw [← hcut]; exact Nat.le_of_lt_succ (Nat.mod_lt _ (Nat.succ_pos _))
    have htk : ((textN ns).take cut).length ≤ 1000000 := by rw [List.length_take]; omega
    have hdk : ((textN ns).drop cut).length ≤ 1000000 := by rw [List.length_drop]; omega
    have hta : ∀ c ∈ (textN ns).take cut, c < 128 := fun c hc => Q.asc c (List.mem_of_mem_take hc)
    have hda : ∀ c ∈ (textN ns).drop cut, c < 128 := fun c hc => Q.asc c (List.mem_of_mem_drop hc)
    have hcs : cut ≤ (ofL (textN ns)).length := by rw [len_ofL]; exact hcl
    refine ex_assign_cell (c := L + 1 + 1) (d := .int (cut : Nat)) (ev_eq ?_ (ev_bin hA1 (ev_bin hA1 (ev_name (by walk_at "var")) ev_int (op_fdiv_nat (b := 280) (by decide) (by omega) (by decide))) (ev_bin hA1 (ev_callb hA1 (ev_builtin M.g Y.len M.b hlenb rfl) (evl_cons (ev_name (by walk_at "var")) evl_nil) (fn_len_str hst)) ev_int op_add_int) (op_mod_nat' (b := (textN ns).length + 1) ?_ (by omega)))) rfl rfl rfl ?_
    · rw [← hcut]
    · rw [len_ofL]; rfl
    refine ex_assign (d := .int (((n % 10 : Nat) : Int) - 4)) (ev_bin hA1 (ev_bin hA1 (ev_name (by walk_at "var")) ev_int (op_mod_nat (b := 10) (by decide))) ev_int op_sub_int) rfl ?_
    generalize ((n % 10 : Nat) : Int) - 4 = dp
    refine ex_assign (d := .int (dp + depthOf (brksN ns) cut)) (ev_bin hA1 (ev_name (by walk_at "var")) (ev_call hA2 (ev_global M.g ED.name rfl) hoD hdDd (evl_cons (ev_name (by walk_at "var")) (evl_cons (ev_name (by walk_at "var")) evl_nil)) (hdep cut)) op_add_int) rfl ?_
    refine ex_if (c := false) (et_eq ?_ (et_cmp hA1 (ev_call hA2 (ev_global M.g EQ.name rfl) hoQ hdQ (evl_cons (ev_encode (ev_eq (d := .str (sTake (ofL (textN ns)) cut)) (d' := .str (ofL ((textN ns).take cut))) rfl (ev_str_take (ev_name (by walk_at "var")) (ev_name (by walk_at "var")) hcs hst)) (by rw [cps_ofL]; exact hta) (hso _ htk)) (evl_cons (ev_name (by walk_at "var")) evl_nil)) (hpar2 ((textN ns).take cut) dp htk hta)) (ev_name (by walk_at "var")) op_ne)) (fun h => nomatch h) (fun _ => then_nil ?_)
    · rw [Q.net cut hcl]; simp
    refine ex_if (c := decide ((((brksN ns).filter (across cut)).map (·.spot)) = [])) (et_cmp hA1 (ev_eq ?_ (ev_comp (ds := (brksN ns).map brkD) (cl := [(Str.ofString "cut", L + 1 + 1)]) hA.hh (asc [(Str.ofString "cut", .int cut)])
      (fun d => upd (upd (upd (asc [(Str.ofString "cut", .int cut)]) (Str.ofString "spot") (.int (toBrk d).spot)) (Str.ofString "worth") (.int (toBrk d).worth)) (Str.ofString "end") (.int (toBrk d).fin))
      (spotI cut) (ev_name (by walk_at "var")) ⟨rfl, by decide, rfl, by decide, one_cell rfl⟩ (capt1 (c := L + 1 + 1) (by walk_at "var") (show some NameKind.cell ≠ some .local from by decide) rfl (.inl rfl)) ?_ ?_ ?_ ?_ ?_)) ev_list0 (op_eq_ints (ys := []))) (fun h => ?_) (fun h => then_nil ?_)
    · rw [pick_spots]
    · intro d hd C' X'' pr'' s₀
      obtain ⟨b, _, rfl⟩ := List.mem_map.mp hd
      exact asg_tup hA.hh (asgl_cons rfl (asgl_cons rfl (asgl_cons rfl asgl_nil)))
    · intro d hd C' X'' pr'' s₀
      obtain ⟨b, _, rfl⟩ := List.mem_map.mp hd
      have e0 : (spotI cut (brkD b)).isSome = (decide (b.spot ≤ (cut : Int)) && decide ((cut : Int) < b.fin)) := by
        show (if across cut b then some (D.int b.spot) else none).isSome = _
        unfold across
        cases (decide (b.spot ≤ (cut : Int)) && decide ((cut : Int) < b.fin)) <;> rfl
      rw [e0]
      exact etall_one (et_chain hA1 (ev_name (by walk_at "var")) (ev_name (by walk_at "var")) (ev_name (by walk_at "var")) op_le op_lt)
    · intro d hd e he C' X'' pr'' s₀
      obtain ⟨b, _, rfl⟩ := List.mem_map.mp hd
      have e0 : spotI cut (brkD b) = if across cut b then some (D.int b.spot) else none := rfl
      rw [e0] at he
      split at he
      · cases he
        exact ev_name (by walk_at "var")
      · cases he
    · intro d hd
      obtain ⟨b, _, rfl⟩ := List.mem_map.mp hd
      walk_at "le"
    · rw [List.length_map]; have := Q.brl; omega
    · have hnil : (brksN ns).filter (across cut) = [] := List.map_eq_nil_iff.mp (of_decide_eq_true h)
      have hbeh := Q.behind cut hcl hnil
      refine ex_if (c := false) (et_eq ?_ (et_cmp hA1 (ev_call hA2 (ev_global M.g EQ.name rfl) hoQ hdQ (evl_cons (ev_encode (ev_eq (d := .str (sDrop (ofL (textN ns)) cut)) (d' := .str (ofL ((textN ns).drop cut))) rfl (ev_str_drop (ev_name (by walk_at "var")) (ev_name (by walk_at "var")) hcs hst)) (by rw [cps_ofL]; exact hda) (hso _ hdk)) (evl_cons (ev_name (by walk_at "var")) evl_nil)) (hpar2 ((textN ns).drop cut) (dp + depthOf (brksN ns) cut) hdk hda)) (ev_bin hA1 (ev_name (by walk_at "var")) (ev_name (by walk_at "var")) op_add_int) op_ne)) (fun h => nomatch h) (fun _ => then_nil (then_nil (turn_end (by walk_at "le"))))
      rw [Int.add_assoc, hbeh]; simp
    · exact turn_end (by walk_at "le")
  · exact ex_ret ev_bool (fun b h => h.elim) hpr
end
end Mine
end

section
open PySem PySem.W PySem.Calls PySem.Spec PyProof.Rows
set_option Elab.async false
set_option linter.unusedVariables false
namespace Mine

/-! what the hands make of one sign -/
noncomputable def stepH (h : Nat) (l : List Nat) : List Nat := if h = 1 then esc1L l else escL h l
noncomputable def appH : List Nat → List Nat → List Nat
  | [], l => l
  | h :: t, l => appH t (stepH h l)
theorem stepH_app (h : Nat) (a b : List Nat) : stepH h (a ++ b) = stepH h a ++ stepH h b := by
  unfold stepH esc1L escL
  split <;> exact swps_app _ a b
theorem stepH_nil (h : Nat) : stepH h [] = [] := by
  unfold stepH esc1L escL
  split <;> exact swps_nil _
theorem stepH_cons (h c : Nat) (l : List Nat) : stepH h (c :: l) = stepH h [c] ++ stepH h l := stepH_app h [c] l
theorem appH_app : ∀ (o a b : List Nat), appH o (a ++ b) = appH o a ++ appH o b
  | [], a, b => rfl
  | h :: t, a, b => by
    show appH t (stepH h (a ++ b)) = appH t (stepH h a) ++ appH t (stepH h b)
    rw [stepH_app, appH_app t]
theorem appH_nil : ∀ o : List Nat, appH o [] = []
  | [] => rfl
  | h :: t => by
    show appH t (stepH h []) = []
    rw [stepH_nil, appH_nil t]
theorem appH_flat {α : Type} (o : List Nat) (f : α → List Nat) : ∀ l : List α, appH o (l.flatMap f) = l.flatMap fun x => appH o (f x)
  | [] => appH_nil o
  | x :: l => by rw [List.flatMap_cons, appH_app, appH_flat o f l, List.flatMap_cons]

noncomputable def wrL (c : Nat) (o : List Nat) : List Nat := (writtenS (ofL [c]) o).cps.toList
noncomputable def lookL (c h : Nat) : List Nat := (lookS (ofL [c]) (tabOf h)).cps.toList
noncomputable def knowL (c h : Nat) : Bool := knows (ofL [c]) h
noncomputable def ampL : List Nat := [97, 109, 112, 59]
noncomputable def tailL (c : Nat) : List Nat → List Nat
  | [] => [c]
  | h :: t => if knowL c h then 38 :: ((List.replicate (laters t) ampL).flatten ++ lookL c h) else tailL c t
noncomputable def headN (c : Nat) (o : List Nat) : Nat := (aheadOf (ofL [c]) o).toNat

theorem tail_written (c : Nat) : ∀ o : List Nat, tailL c o = if firstOf (ofL [c]) o = o.length then [c] else 38 :: ((List.replicate (laters (o.drop (firstOf (ofL [c]) o + 1))) ampL).flatten ++ lookL c (o.getD (firstOf (ofL [c]) o) 0))
  | [] => rfl
  | h :: t => by
    have ih := tail_written c t
    unfold tailL firstOf
    by_cases k : knowL c h = true
    · have k' : knows (ofL [c]) h = true := k
      rw [if_pos k, if_pos k', if_neg (by simp)]
      simp
    · have k' : ¬ knows (ofL [c]) h = true := k
      rw [if_neg k, if_neg k', ih]
      by_cases e : firstOf (ofL [c]) t = t.length
      · rw [if_pos e, if_pos (by simp [e])]
      · rw [if_neg e, if_neg (by simpa using e)]
        simp
theorem wr_eq (c : Nat) (o : List Nat) : wrL c o = List.replicate (headN c o) 92 ++ tailL c o := by
  have hb : (List.replicate (headN c o) (Str.ofString "\\").cps.toList).flatten = List.replicate (headN c o) 92 := by
    rw [show (Str.ofString "\\").cps.toList = [92] from by decide]
    induction headN c o with
    | zero => rfl
    | succ n ih => rw [List.replicate_succ, List.flatten_cons, ih]; rfl
  rw [tail_written]
  unfold wrL writtenS
  split
  · rw [Str.cps_append, Array.toList_append, mul_cps]
    exact congrArg (· ++ [c]) hb
  · rw [Str.cps_append, Str.cps_append, Str.cps_append, Array.toList_append, Array.toList_append, Array.toList_append, mul_cps, mul_cps]
    rw [show (Str.ofString "&").cps.toList = [38] from by decide, show (Str.ofString "amp;").cps.toList = ampL from by decide, Int.toNat_natCast]
    rw [show (List.replicate (aheadOf (ofL [c]) o).toNat (Str.ofString "\\").cps.toList).flatten = List.replicate (headN c o) 92 from hb]
    simp only [List.append_assoc]
    rfl

/-- signs that no hand touches -/
noncomputable def inert : List Nat := [97, 109, 112, 59, 108, 116, 103, 113, 117, 111, 35, 120, 57]
noncomputable def midS : List Nat := [40, 41, 38, 60, 62, 9, 97, 107, 61]
theorem step_inert : ∀ h, h < 5 → ∀ c ∈ inert, stepH h [c] = [c] := by
  have key : ∀ h : Fin 5, ∀ c ∈ inert, stepH h.1 [c] = [c] := by decide +kernel
  exact fun h hh => key ⟨h, hh⟩
theorem step_mid : ∀ h, h < 5 → ∀ c ∈ midS, stepH h [c] = if knowL c h then 38 :: lookL c h else [c] := by
  have key : ∀ h : Fin 5, ∀ c ∈ midS, stepH h.1 [c] = if knowL c h.1 then 38 :: lookL c h.1 else [c] := by decide +kernel
  exact fun h hh => key ⟨h, hh⟩
theorem step_quo : ∀ h, h < 5 → stepH h [34] = if h = 1 then [92, 34] else if knowL 34 h then 38 :: lookL 34 h else [34] := by
  have key : ∀ h : Fin 5, stepH h.1 [34] = if h.1 = 1 then [92, 34] else if knowL 34 h.1 then 38 :: lookL 34 h.1 else [34] := by decide +kernel
  exact fun h hh => key ⟨h, hh⟩
theorem step_bsl : ∀ h, h < 5 → stepH h [92] = if h = 1 then [92, 92] else [92] := by
  have key : ∀ h : Fin 5, stepH h.1 [92] = if h.1 = 1 then [92, 92] else [92] := by decide +kernel
  exact fun h hh => key ⟨h, hh⟩
theorem know_bsl : ∀ h, h < 5 → knowL 92 h = false := by
  have key : ∀ h : Fin 5, knowL 92 h.1 = false := by decide +kernel
  exact fun h hh => key ⟨h, hh⟩
theorem know_one : ∀ c ∈ [34, 40, 41, 38, 60, 62, 9, 97, 107, 61], knowL c 1 = false := by decide +kernel
theorem look_inert : ∀ h, h < 5 → ∀ c ∈ [34, 38, 60, 62, 9], knowL c h = true → ∀ x ∈ lookL c h, x ∈ inert := by
  have key : ∀ h : Fin 5, ∀ c ∈ [34, 38, 60, 62, 9], knowL c h.1 = true → ∀ x ∈ lookL c h.1, x ∈ inert := by decide +kernel
  exact fun h hh => key ⟨h, hh⟩
theorem know_some : ∀ h, h < 5 → ∀ c ∈ [34, 40, 41, 38, 60, 62, 9, 97, 107, 61], knowL c h = true → c ∈ [34, 38, 60, 62, 9] := by
  have key : ∀ h : Fin 5, ∀ c ∈ [34, 40, 41, 38, 60, 62, 9, 97, 107, 61], knowL c h.1 = true → c ∈ [34, 38, 60, 62, 9] := by decide +kernel
  exact fun h hh => key ⟨h, hh⟩
theorem step_amp : ∀ h, h < 5 → stepH h [38] = if 1 < h then 38 :: ampL else [38] := by
  have key : ∀ h : Fin 5, stepH h.1 [38] = if 1 < h.1 then 38 :: ampL else [38] := by decide +kernel
  exact fun h hh => key ⟨h, hh⟩

theorem amp_inert : ∀ c ∈ ampL, c ∈ inert := by decide
theorem stepH_inert {h : Nat} (hh : h < 5) : ∀ {l : List Nat}, (∀ c ∈ l, c ∈ inert) → stepH h l = l
  | [], _ => stepH_nil h
  | c :: l, hl => by rw [stepH_cons, step_inert h hh c (hl c (by simp)), stepH_inert hh fun x hx => hl x (by simp [hx])]; rfl

theorem ones_cons (h : Nat) (t : List Nat) : ones (h :: t) = if h = 1 then ones t + 1 else ones t := by
  unfold ones
  rw [List.filter_cons]
  by_cases e : h = 1
  · subst e; simp
  · have : (((h : Nat) : Int) == 1) = false := by rw [beq_eq_false_iff_ne]; omega
    rw [this, if_neg e]; simp
theorem laters_cons (h : Nat) (t : List Nat) : laters (h :: t) = if 1 < h then laters t + 1 else laters t := by
  unfold laters
  rw [List.filter_cons]
  by_cases e : 1 < h
  · have : decide (((h : Nat) : Int) > 1) = true := by rw [decide_eq_true_eq]; omega
    rw [this, if_pos e]; simp
  · have : decide (((h : Nat) : Int) > 1) = false := by rw [decide_eq_false_iff_not]; omega
    rw [this, if_neg e]; simp

theorem app_bsl : ∀ {o : List Nat}, (∀ h ∈ o, h < 5) → ∀ m, appH o (List.replicate m 92) = List.replicate (m * 2 ^ ones o) 92
  | [], _, m => by simp [appH, ones]
  | h :: t, ho, m => by
    have hh := ho h (by simp)
    have ih := app_bsl (o := t) (fun x hx => ho x (by simp [hx]))
    have e : ∀ k, stepH h (List.replicate k 92) = List.replicate (k * (if h = 1 then 2 else 1)) 92 := fun k => by
      induction k with
      | zero => simp [stepH_nil]
      | succ k ihk =>
        rw [List.replicate_succ, stepH_cons, step_bsl h hh, ihk]
        split
        · rw [show (k + 1) * 2 = k * 2 + 1 + 1 by omega, List.replicate_succ, List.replicate_succ]; rfl
        · rw [show (k + 1) * 1 = k * 1 + 1 by omega, List.replicate_succ]; rfl
    show appH t (stepH h (List.replicate m 92)) = _
    rw [e, ih, ones_cons]
    split
    · rw [Nat.pow_succ]; congr 1; rw [Nat.mul_assoc, Nat.mul_comm 2]
    · rw [Nat.mul_one]
theorem app_amp : ∀ {o : List Nat}, (∀ h ∈ o, h < 5) → ∀ {x : List Nat}, (∀ c ∈ x, c ∈ inert) → appH o (38 :: x) = 38 :: ((List.replicate (laters o) ampL).flatten ++ x)
  | [], _, x, _ => rfl
  | h :: t, ho, x, hx => by
    have hh := ho h (by simp)
    have ih : ∀ {x : List Nat}, (∀ c ∈ x, c ∈ inert) → appH t (38 :: x) = 38 :: ((List.replicate (laters t) ampL).flatten ++ x) := app_amp (o := t) (fun x hx => ho x (by simp [hx]))
    show appH t (stepH h (38 :: x)) = _
    rw [stepH_cons, stepH_inert hh hx, step_amp h hh, laters_cons]
    split
    · rw [List.cons_append, ih (x := ampL ++ x) (fun c hc => by
        rcases List.mem_append.mp hc with hc | hc
        · exact amp_inert c hc
        · exact hx c hc)]
      rw [List.replicate_succ', List.flatten_append, List.append_assoc]
      simp
    · exact ih hx
/-- the signs between -/
theorem app_mid {c : Nat} (hc : c ∈ midS) : ∀ {o : List Nat}, (∀ h ∈ o, h < 5) → appH o [c] = tailL c o
  | [], _ => rfl
  | h :: t, ho => by
    have hh := ho h (by simp)
    have ih := app_mid hc (o := t) (fun x hx => ho x (by simp [hx]))
    show appH t (stepH h [c]) = _
    rw [step_mid h hh c hc]
    unfold tailL
    split
    · rename_i k
      have hc' := know_some h hh c (List.mem_cons_of_mem _ hc) k
      rw [app_amp (fun x hx => ho x (by simp [hx])) (look_inert h hh c hc' k)]
    · exact ih
theorem drop_first (c : Nat) (h : Nat) (t : List Nat) : (h :: t).drop (firstOf (ofL [c]) (h :: t)) = if knowL c h then h :: t else t.drop (firstOf (ofL [c]) t) := by
  show (h :: t).drop (if knows (ofL [c]) h then 0 else firstOf (ofL [c]) t + 1) = if knows (ofL [c]) h then _ else _
  split <;> rfl
theorem ones_drop (l : List Nat) (k : Nat) : ones (l.drop k) ≤ ones l := by
  unfold ones
  exact (List.Sublist.filter _ (List.drop_sublist k l)).length_le
theorem app_quo : ∀ {o : List Nat}, (∀ h ∈ o, h < 5) → ∀ m, appH o (List.replicate m 92 ++ [34]) = List.replicate ((m + 1) * 2 ^ ones o - 2 ^ ones (o.drop (firstOf (ofL [34]) o))) 92 ++ tailL 34 o
  | [], _, m => by simp [appH, ones, tailL]
  | h :: t, ho, m => by
    have hh := ho h (by simp)
    have ht : ∀ x ∈ t, x < 5 := fun x hx => ho x (by simp [hx])
    have ih := app_quo (o := t) ht
    have e1 := app_bsl (o := [h]) (fun x hx => ho x (by simp at hx; simp [hx])) m
    have e1' : stepH h (List.replicate m 92) = List.replicate (m * 2 ^ ones [h]) 92 := e1
    have hle := ones_drop t (firstOf (ofL [34]) t)
    show appH t (stepH h (List.replicate m 92 ++ [34])) = _
    rw [stepH_app, e1', step_quo h hh, drop_first, ones_cons, ones_cons]
    unfold tailL
    by_cases e : h = 1
    · subst e
      have k1 : knowL 34 1 = false := know_one 34 (by decide)
      rw [if_pos rfl, if_pos rfl, if_pos rfl, k1]
      simp only [Bool.false_eq_true, if_false]
      have e2 : List.replicate (m * 2 ^ (ones [] + 1)) 92 ++ [92, 34] = List.replicate (2 * m + 1) 92 ++ [34] := by
        rw [show ones [] = 0 from rfl, show m * 2 ^ (0 + 1) = 2 * m by omega, List.replicate_succ', List.append_assoc]; rfl
      rw [e2, ih]
      congr 2
      rw [Nat.pow_succ, show (2 * m + 1 + 1) = (m + 1) * 2 by omega, Nat.mul_assoc, Nat.mul_comm 2]
    · rw [if_neg e, if_neg e, if_neg e]
      have e2 : m * 2 ^ ones [] = m := by rw [show ones [] = 0 from rfl]; omega
      rw [e2]
      by_cases k : knowL 34 h = true
      · rw [if_pos k, if_pos k, if_pos k, appH_app, app_bsl ht, app_amp ht (look_inert h hh 34 (by decide) k), ones_cons, if_neg e]
        congr 2
        rw [Nat.succ_mul]; omega
      · rw [if_neg k, if_neg k, if_neg k, ih]

/-- the signs that are told -/
noncomputable def allS : List Nat := [34, 40, 41, 92, 38, 60, 62, 9, 97, 107, 61]
theorem ahead_quo (o : List Nat) : aheadOf (ofL [34]) o = 2 ^ ones o - 2 ^ ones (o.drop (firstOf (ofL [34]) o)) := by
  unfold aheadOf
  rw [if_pos (by decide)]
theorem ahead_bsl (o : List Nat) : aheadOf (ofL [92]) o = 2 ^ ones o - 1 := by
  unfold aheadOf
  rw [if_neg (by decide), if_pos (by decide)]
theorem ahead_mid : ∀ c ∈ midS, ∀ o : List Nat, aheadOf (ofL [c]) o = 0 := by
  intro c hc o
  have h : ∀ c ∈ midS, ((ofL [c]).cps.toList == (Str.ofString "\"").cps.toList) = false ∧ ((ofL [c]).cps.toList == (Str.ofString "\\").cps.toList) = false := by decide +kernel
  unfold aheadOf
  rw [(h c hc).1, (h c hc).2]; rfl
theorem tail_bsl : ∀ {o : List Nat}, (∀ h ∈ o, h < 5) → tailL 92 o = [92]
  | [], _ => rfl
  | h :: t, ho => by
    unfold tailL
    rw [know_bsl h (ho h (by simp))]
    exact tail_bsl fun x hx => ho x (by simp [hx])
theorem pow_nat (a : Nat) : ((2 : Int) ^ a) = ((2 ^ a : Nat) : Int) := by simp
theorem mid_of : ∀ c ∈ allS, c ≠ 34 → c ≠ 92 → c ∈ midS := by decide
theorem app_sign {c : Nat} (hc : c ∈ allS) {o : List Nat} (ho : ∀ h ∈ o, h < 5) : appH o [c] = wrL c o := by
  rw [wr_eq]
  unfold headN
  by_cases e1 : c = 34
  · subst e1
    have := app_quo ho 0
    rw [List.replicate_zero, List.nil_append] at this
    rw [this, ahead_quo, pow_nat, pow_nat]
    congr 2
    have := Nat.pow_le_pow_right (show 0 < 2 by decide) (ones_drop o (firstOf (ofL [34]) o))
    omega
  · by_cases e2 : c = 92
    · subst e2
      have := app_bsl ho 1
      have this' : appH o [92] = List.replicate (1 * 2 ^ ones o) 92 := this
      rw [this', ahead_bsl, tail_bsl ho, pow_nat]
      have hp : 0 < 2 ^ ones o := Nat.pow_pos (by decide)
      have e : (((2 ^ ones o : Nat) : Int) - 1).toNat = 2 ^ ones o - 1 := by omega
      rw [e, show [92] = List.replicate 1 92 from rfl, List.replicate_append_replicate]
      congr 1; omega
    · have hm : c ∈ midS := mid_of c hc e1 e2
      rw [app_mid hm ho, ahead_mid c hm]; rfl
end Mine
end

section
open PySem PySem.W PySem.Calls PySem.Spec PyProof.Rows
set_option Elab.async false
set_option linter.unusedVariables false
namespace Mine

theorem know_of : ∀ c ∈ allS, c ≠ 92 → c ∈ [34, 40, 41, 38, 60, 62, 9, 97, 107, 61] := by decide
theorem tail_mem {c : Nat} (hc : c ∈ allS) : ∀ {o : List Nat}, (∀ h ∈ o, h < 5) → ∀ x ∈ tailL c o, x = 38 ∨ x ∈ inert ∨ x = c
  | [], _, x, hx => .inr (.inr (List.mem_singleton.mp hx))
  | h :: t, ho, x, hx => by
    have hh := ho h (by simp)
    unfold tailL at hx
    split at hx
    · rename_i k
      rcases List.mem_cons.mp hx with hx | hx
      · exact .inl hx
      · rcases List.mem_append.mp hx with hx | hx
        · obtain ⟨l, hl, hx⟩ := List.mem_flatten.mp hx
          rw [List.eq_of_mem_replicate hl] at hx
          exact .inr (.inl (amp_inert x hx))
        · by_cases e : c = 92
          · subst e; rw [know_bsl h hh] at k; cases k
          · have hc' : c ∈ [34, 40, 41, 38, 60, 62, 9, 97, 107, 61] := know_of c hc e
            exact .inr (.inl (look_inert h hh c (know_some h hh c hc' k) k x hx))
    · exact tail_mem hc (fun y hy => ho y (by simp [hy])) x hx
theorem wr_mem {c : Nat} (hc : c ∈ allS) {o : List Nat} (ho : ∀ h ∈ o, h < 5) : ∀ x ∈ wrL c o, x = 92 ∨ x = 38 ∨ x ∈ inert ∨ x = c := fun x hx => by
  rw [wr_eq] at hx
  rcases List.mem_append.mp hx with hx | hx
  · exact .inl (List.eq_of_mem_replicate hx)
  · exact .inr (tail_mem hc ho x hx)
theorem inert_ok : ∀ x ∈ inert, x ≠ 34 ∧ x ≠ 40 ∧ x ≠ 41 ∧ x ≠ 92 ∧ 32 ≤ x ∧ x < 127 := by decide
theorem allS_ok : ∀ x ∈ allS, (x = 9 ∨ 32 ≤ x) ∧ x < 127 := by decide
theorem wr_fine {c : Nat} (hc : c ∈ allS) {o : List Nat} (ho : ∀ h ∈ o, h < 5) : ∀ x ∈ wrL c o, fine x := fun x hx => by
  rcases wr_mem hc ho x hx with rfl | rfl | h | rfl
  · exact ⟨.inr (by decide), by decide⟩
  · exact ⟨.inr (by decide), by decide⟩
  · have := inert_ok x h; exact ⟨.inr this.2.2.2.2.1, this.2.2.2.2.2⟩
  · exact allS_ok x hc
theorem wr_noq {c : Nat} (hc : c ∈ allS) (h34 : c ≠ 34) {o : List Nat} (ho : ∀ h ∈ o, h < 5) : 34 ∉ wrL c o := fun hx => by
  rcases wr_mem hc ho 34 hx with h | h | h | h
  · cases h
  · cases h
  · exact (inert_ok 34 h).1 rfl
  · exact h34 h.symm
theorem wr_nob {c : Nat} (hc : c ∈ allS) (h40 : c ≠ 40) (h41 : c ≠ 41) {o : List Nat} (ho : ∀ h ∈ o, h < 5) : 40 ∉ wrL c o ∧ 41 ∉ wrL c o := by
  refine ⟨fun hx => ?_, fun hx => ?_⟩
  · rcases wr_mem hc ho 40 hx with h | h | h | h
    · cases h
    · cases h
    · exact (inert_ok 40 h).2.1 rfl
    · exact h40 h.symm
  · rcases wr_mem hc ho 41 hx with h | h | h | h
    · cases h
    · cases h
    · exact (inert_ok 41 h).2.2.1 rfl
    · exact h41 h.symm
theorem know_par : ∀ h, h < 5 → knowL 40 h = false ∧ knowL 41 h = false := by
  have key : ∀ h : Fin 5, knowL 40 h.1 = false ∧ knowL 41 h.1 = false := by decide +kernel
  exact fun h hh => key ⟨h, hh⟩
theorem tail_free {c : Nat} : ∀ {o : List Nat}, (∀ h ∈ o, knowL c h = false) → tailL c o = [c]
  | [], _ => rfl
  | h :: t, ho => by
    unfold tailL
    rw [ho h (by simp)]
    exact tail_free fun x hx => ho x (by simp [hx])
theorem wr_open {o : List Nat} (ho : ∀ h ∈ o, h < 5) : wrL 40 o = [40] := by
  rw [wr_eq, tail_free fun h hh => (know_par h (ho h hh)).1]
  unfold headN
  rw [ahead_mid 40 (by decide)]; rfl
theorem wr_shut {o : List Nat} (ho : ∀ h ∈ o, h < 5) : wrL 41 o = [41] := by
  rw [wr_eq, tail_free fun h hh => (know_par h (ho h hh)).2]
  unfold headN
  rw [ahead_mid 41 (by decide)]; rfl
theorem know_quo : knowL 34 0 = false ∧ knowL 34 2 = false ∧ knowL 34 3 = true ∧ knowL 34 4 = true := by decide +kernel
theorem wr_quo {o : List Nat} (ho : ∀ h ∈ o, h = 0 ∨ h = 2) : wrL 34 o = [34] := by
  have hk : ∀ h ∈ o, knowL 34 h = false := fun h hh => by
    rcases ho h hh with rfl | rfl
    · exact know_quo.1
    · exact know_quo.2.1
  have h5 : ∀ h ∈ o, h < 5 := fun h hh => by rcases ho h hh with rfl | rfl <;> decide
  have h1 : ones o = 0 := by
    clear hk h5
    induction o with
    | nil => rfl
    | cons h t ih =>
      rw [ones_cons, if_neg (by rcases ho h (by simp) with rfl | rfl <;> decide)]
      exact ih fun x hx => ho x (by simp [hx])
  rw [wr_eq, tail_free hk]
  unfold headN
  rw [ahead_quo, h1]
  have : ones (o.drop (firstOf (ofL [34]) o)) = 0 := by have := ones_drop o (firstOf (ofL [34]) o); omega
  rw [this]; rfl
theorem tail_noq : ∀ {o : List Nat}, (∀ h ∈ o, h < 5) → (3 ∈ o ∨ 4 ∈ o) → 34 ∉ tailL 34 o
  | [], _, h => by rcases h with h | h <;> cases h
  | h :: t, ho, hq => fun hx => by
    have hh := ho h (by simp)
    unfold tailL at hx
    split at hx
    · rename_i k
      rcases List.mem_cons.mp hx with hx | hx
      · cases hx
      · rcases List.mem_append.mp hx with hx | hx
        · obtain ⟨l, hl, hx⟩ := List.mem_flatten.mp hx
          rw [List.eq_of_mem_replicate hl] at hx
          exact (inert_ok 34 (amp_inert 34 hx)).1 rfl
        · exact (inert_ok 34 (look_inert h hh 34 (by decide) k 34 hx)).1 rfl
    · rename_i k
      have n3 : h ≠ 3 := fun e => k (e ▸ know_quo.2.2.1)
      have n4 : h ≠ 4 := fun e => k (e ▸ know_quo.2.2.2)
      refine tail_noq (fun x hx => ho x (by simp [hx])) ?_ hx
      rcases hq with hq | hq
      · exact .inl (by simpa [Ne.symm n3] using hq)
      · exact .inr (by simpa [Ne.symm n4] using hq)
theorem wr_hid {o : List Nat} (ho : ∀ h ∈ o, h < 5) (hq : 3 ∈ o ∨ 4 ∈ o) : 34 ∉ wrL 34 o := fun hx => by
  rw [wr_eq] at hx
  rcases List.mem_append.mp hx with hx | hx
  · have := List.eq_of_mem_replicate hx; cases this
  · exact tail_noq ho hq hx

/-! the rows of a tree -/
noncomputable def wrR (r : Row) : List Nat := (writtenS r.sign r.over).cps.toList
theorem wrR_sign {c : Nat} {o : List Nat} {s : Int} : wrR ⟨ofL [c], o, s⟩ = wrL c o := rfl
noncomputable def sgnS : List Nat := [40, 41, 92, 38, 60, 62, 9, 97]
theorem sgn_all : ∀ c ∈ sgnS, c ∈ allS := by decide

structure TreeOk (K : List (List Nat)) (H : List Nat) (S : List Str) : Prop where
  wk : Wk K
  h5 : ∀ p, H.getD p 0 < 5
  sg : ∀ p, p < K.length → ∃ c ∈ sgnS, S.getD p Str.empty = ofL [c]
  bare : ∀ p, K.length ≤ p → H.getD p 0 = 0 ∧ S.getD p Str.empty = Str.empty

variable {K : List (List Nat)} {H : List Nat} {S : List Str}
theorem sgnStr : Str.ofString "(" = ofL [40] ∧ Str.ofString ")" = ofL [41] ∧ Str.ofString "k" = ofL [107] ∧ Str.ofString "=" = ofL [61] ∧ Str.ofString "\"" = ofL [34] := by decide
theorem kids_out (hK : Wk K) {p : Nat} (hp : K.length ≤ p) : kidsOf K p = [] := by
  unfold kidsOf
  simp [List.getElem?_eq_none hp]

/-- the rows within a nest -/
noncomputable def midR (K : List (List Nat)) (H : List Nat) (S : List Str) (f p : Nat) (here : List Nat) (seen : Int) : List Row :=
  [⟨ofL [40], here, seen⟩, ⟨S.getD p Str.empty, here, seen⟩] ++ ((kidsOf K p).flatMap fun q => rowsL K H S f q here seen) ++ [⟨ofL [41], here, seen⟩]
theorem rows_eq (f p : Nat) (above : List Nat) (shell : Int) : rowsL K H S (f + 1) p above shell =
    if H.getD p 0 = 1 then [⟨ofL [107], above, shell⟩, ⟨ofL [61], above, shell⟩, ⟨ofL [34], above, seenOf 1 p above shell⟩] ++ midR K H S f p (1 :: above) (seenOf 1 p above shell) ++ [⟨ofL [34], above, seenOf 1 p above shell⟩]
    else midR K H S f p (H.getD p 0 :: above) shell := by
  obtain ⟨s1, s2, s3, s4, s5⟩ := sgnStr
  unfold rowsL midR
  simp only [s1, s2, s3, s4, s5]
  by_cases h : H.getD p 0 = 1
  · rw [if_pos h, if_pos h, h]
  · rw [if_neg h, if_neg h]
    have e : seenOf (H.getD p 0) p above shell = shell := by unfold seenOf; rw [if_neg fun z => h z.1]
    rw [e]

theorem made_rows (T : TreeOk K H S) : ∀ f p above shell, p < K.length → (∀ h ∈ above, h < 5) → appH above (madeT K H S f p) = (rowsL K H S f p above shell).flatMap wrR := by
  intro f
  induction f with
  | zero => intro p above shell hp ho; exact appH_nil above
  | succ f ih =>
    intro p above shell hp ho
    have h5 := T.h5 p
    obtain ⟨c, hc, hs⟩ := T.sg p hp
    have mid : ∀ h, h < 5 → ∀ seen, appH (h :: above) (insideT K H S f p) = (midR K H S f p (h :: above) seen).flatMap wrR := by
      intro h hh seen
      have ho' : ∀ x ∈ h :: above, x < 5 := fun x hx => by
        rcases List.mem_cons.mp hx with rfl | hx
        · exact hh
        · exact ho x hx
      unfold insideT midR
      rw [hs]
      have hsl : signL S p = [c] := by unfold signL; rw [hs]; rfl
      rw [hsl, appH_app, appH_app, appH_app, appH_flat, app_sign (c := 40) (by decide) ho', app_sign (c := 41) (by decide) ho', app_sign (sgn_all c hc) ho']
      rw [List.flatMap_append, List.flatMap_append, List.flatMap_assoc]
      have e : (kidsOf K p).flatMap (fun x => appH (h :: above) (madeT K H S f x)) = (kidsOf K p).flatMap fun x => (rowsL K H S f x (h :: above) seen).flatMap wrR := by
        refine congrArg List.flatten (List.map_congr_left fun q hq => ?_)
        exact ih q (h :: above) seen (T.wk.2 p q hq).2 ho'
      rw [e]
      simp only [List.flatMap_cons, List.flatMap_nil, List.append_nil, wrR_sign]
    have em : madeT K H S (f + 1) p = wrapL (H.getD p 0) (insideT K H S f p) := rfl
    rw [rows_eq, em]
    by_cases h : H.getD p 0 = 1
    · rw [if_pos h, h]
      have ew : wrapL 1 (insideT K H S f p) = [107] ++ [61] ++ [34] ++ stepH 1 (insideT K H S f p) ++ [34] := rfl
      have e1 : appH above (stepH 1 (insideT K H S f p)) = appH (1 :: above) (insideT K H S f p) := rfl
      rw [ew, appH_app, appH_app, appH_app, appH_app, e1, mid 1 (by decide) (seenOf 1 p above shell), app_sign (c := 107) (by decide) ho, app_sign (c := 61) (by decide) ho, app_sign (c := 34) (by decide) ho]
      rw [List.flatMap_append, List.flatMap_append]
      simp only [List.flatMap_cons, List.flatMap_nil, List.append_nil, wrR_sign, List.append_assoc]
    · rw [if_neg h]
      have ew : wrapL (H.getD p 0) (insideT K H S f p) = stepH (H.getD p 0) (insideT K H S f p) := by unfold wrapL stepH; rw [if_neg h, if_neg h]
      rw [ew]
      exact mid _ h5 shell
end Mine
end

section
open PySem PySem.W PySem.Calls PySem.Spec PyProof.Rows
set_option Elab.async false
set_option linter.unusedVariables false
namespace Mine

/-! the places -/
theorem nodup_flat {α β : Type} {g : α → List β} : ∀ {l : List α}, (∀ q ∈ l, (g q).Nodup) → l.Nodup → (∀ q ∈ l, ∀ r ∈ l, ∀ x, x ∈ g q → x ∈ g r → q = r) → (l.flatMap g).Nodup
  | [], _, _, _ => .nil
  | q :: l, h1, h2, h3 => by
    rw [List.flatMap_cons, List.nodup_append]
    rw [List.nodup_cons] at h2
    refine ⟨h1 q (by simp), nodup_flat (fun r hr => h1 r (by simp [hr])) h2.2 (fun r hr t ht => h3 r (by simp [hr]) t (by simp [ht])), fun x hx y hy e => ?_⟩
    subst e
    obtain ⟨r, hr, hx'⟩ := List.mem_flatMap.mp hy
    have := h3 q (by simp) r (by simp [hr]) x hx hx'
    exact h2.1 (this ▸ hr)
theorem nodup_len : ∀ {n : Nat} {l : List Nat}, l.Nodup → (∀ x ∈ l, x < n) → l.length ≤ n
  | 0, l, _, h => by
    match l, h with
    | [], _ => exact Nat.le_refl _
    | x :: r, h => exact absurd (h x (by simp)) (Nat.not_lt_zero _)
  | n + 1, l, hn, h => by
    have h1 := nodup_len (n := n) (hn.erase n) fun x hx => by
      have hx' := (hn.mem_erase_iff).mp hx
      have := h x hx'.2
      have := hx'.1
      omega
    rw [List.length_erase] at h1
    split at h1 <;> omega

variable {ns : List Nat}
noncomputable def parN (ns : List Nat) : Nat → Nat
  | 0 => 0
  | x + 1 => upOf ns x
noncomputable def itr (ns : List Nat) : Nat → Nat → Nat
  | 0, y => y
  | k + 1, y => parN ns (itr ns k y)
theorem par_le (y : Nat) : parN ns y ≤ y := by
  cases y with
  | zero => exact Nat.le_refl _
  | succ x => exact Nat.le_succ_of_le (upOf_le ns x)
theorem itr_le : ∀ k y, itr ns k y ≤ y
  | 0, y => Nat.le_refl _
  | k + 1, y => Nat.le_trans (par_le _) (itr_le k y)
theorem itr_add : ∀ a b y, itr ns (a + b) y = itr ns b (itr ns a y)
  | a, 0, y => rfl
  | a, b + 1, y => by
    show parN ns (itr ns (a + b) y) = parN ns (itr ns b (itr ns a y))
    rw [itr_add]
theorem uniq_le {x q r u k j : Nat} (h1 : itr ns k (x + 1) = q + 1) (h2 : itr ns (k + j) (x + 1) = r + 1) (hq : upOf ns q = u) (hr : upOf ns r = u) : q = r := by
  rw [itr_add, h1] at h2
  cases j with
  | zero => exact Nat.succ.inj h2
  | succ i =>
    rw [show i + 1 = 1 + i by omega, itr_add] at h2
    have e : itr ns 1 (q + 1) = u := hq
    rw [e] at h2
    have := itr_le (ns := ns) i u
    have := upOf_le ns r
    omega
theorem uniq {x q r u k j : Nat} (h1 : itr ns k (x + 1) = q + 1) (h2 : itr ns j (x + 1) = r + 1) (hq : upOf ns q = u) (hr : upOf ns r = u) : q = r := by
  rcases Nat.le_total k j with h | h
  · obtain ⟨i, rfl⟩ := Nat.exists_eq_add_of_le h
    exact uniq_le h1 h2 hq hr
  · obtain ⟨i, rfl⟩ := Nat.exists_eq_add_of_le h
    exact (uniq_le h2 h1 hr hq).symm

theorem kidsOf_eq (p : Nat) : kidsOf (kidsN ns) p = (List.range ns.length).filter fun q => upOf ns q == p + 1 := by
  by_cases hp : p < ns.length
  · unfold kidsOf kidsN
    simp [kids_at hp]
  · have h1 : kidsOf (kidsN ns) p = [] := by
      unfold kidsOf
      have e : (kidsN ns)[p]? = none := List.getElem?_eq_none (by unfold kidsN; rw [kids_len]; omega)
      simp [e]
    rw [h1]
    symm
    rw [List.filter_eq_nil_iff]
    intro q hq
    have := List.mem_range.mp hq
    have := upOf_le ns q
    simp; omega
theorem kids_mem {p q : Nat} (h : q ∈ kidsOf (kidsN ns) p) : q < ns.length ∧ upOf ns q = p + 1 := by
  rw [kidsOf_eq] at h
  obtain ⟨h1, h2⟩ := List.mem_filter.mp h
  exact ⟨List.mem_range.mp h1, by simpa using h2⟩
theorem kidsN_len : (kidsN ns).length = ns.length := kids_len ns _
theorem wk_N (h7 : ns.length ≤ 7) : Wk (kidsN ns) := ⟨by rw [kidsN_len]; exact h7, fun p q hq => by
  obtain ⟨h1, h2⟩ := kids_mem hq
  have := upOf_le ns q
  rw [kidsN_len]
  exact ⟨by omega, h1⟩⟩
theorem tree_N (h7 : ns.length ≤ 7) : TreeOk (kidsN ns) (handsN ns) (signsN ns) := by
  refine ⟨wk_N h7, fun p => ?_, fun p hp => ?_, fun p hp => ?_⟩
  · by_cases hp : p < ns.length
    · have : (handsN ns)[p]? = some (ns[p] % 5) := by simp [handsN, hp]
      rw [getD_of this]
      exact Nat.mod_lt _ (by decide)
    · have : (handsN ns)[p]? = none := List.getElem?_eq_none (by simp [handsN]; omega)
      simp [this]
  · rw [kidsN_len] at hp
    have : (signsN ns)[p]? = some (signOf ns[p]) := by simp [signsN, hp]
    have e : (signsN ns).getD p Str.empty = signOf ns[p] := by simp [this]
    rw [e]
    have key : ∀ k : Fin 8, ∃ c ∈ sgnS, Txt.item signsT (k.1 : Nat) = ofL [c] := by decide +kernel
    exact key ⟨ns[p] / 5 % 8, Nat.mod_lt _ (by decide)⟩
  · rw [kidsN_len] at hp
    have e1 : (handsN ns)[p]? = none := List.getElem?_eq_none (by simp [handsN]; omega)
    have e2 : (signsN ns)[p]? = none := List.getElem?_eq_none (by simp [signsN]; omega)
    simp [e1, e2]

theorem last_anc : ∀ f p x, x ∈ lastL (kidsN ns) f p → ∃ k, itr ns k (x + 1) = p + 1
  | 0, p, x, h => by cases h
  | f + 1, p, x, h => by
    unfold lastL at h
    rcases List.mem_append.mp h with h | h
    · obtain ⟨q, hq, hx⟩ := List.mem_flatMap.mp h
      obtain ⟨k, e⟩ := last_anc f q x hx
      refine ⟨k + 1, ?_⟩
      show parN ns (itr ns k (x + 1)) = p + 1
      rw [e]
      exact (kids_mem hq).2
    · rw [List.mem_singleton] at h
      subst h
      exact ⟨0, rfl⟩
theorem last_lt : ∀ f p, p < ns.length → ∀ x ∈ lastL (kidsN ns) f p, x < ns.length
  | 0, p, hp, x, h => by cases h
  | f + 1, p, hp, x, h => by
    unfold lastL at h
    rcases List.mem_append.mp h with h | h
    · obtain ⟨q, hq, hx⟩ := List.mem_flatMap.mp h
      exact last_lt f q (kids_mem hq).1 x hx
    · rw [List.mem_singleton] at h
      subst h; exact hp
theorem last_nodup : ∀ f p, (lastL (kidsN ns) f p).Nodup
  | 0, p => .nil
  | f + 1, p => by
    unfold lastL
    rw [List.nodup_append]
    refine ⟨nodup_flat (fun q _ => last_nodup f q) ?_ fun q hq r hr x hx hx' => ?_, by simp, fun x hx y hy e => ?_⟩
    · rw [kidsOf_eq]
      exact List.nodup_range.filter _
    · obtain ⟨k, e1⟩ := last_anc f q x hx
      obtain ⟨j, e2⟩ := last_anc f r x hx'
      exact uniq e1 e2 (kids_mem hq).2 (kids_mem hr).2
    · rw [List.mem_singleton] at hy
      subst e; subst hy
      obtain ⟨q, hq, hx'⟩ := List.mem_flatMap.mp hx
      obtain ⟨k, e⟩ := last_anc f q x hx'
      have h1 := itr_le (ns := ns) k (x + 1)
      have h2 := (kids_mem hq).2
      have h3 := upOf_le ns q
      omega
theorem last_out (f : Nat) {p : Nat} (hp : ns.length ≤ p) : (lastL (kidsN ns) f p).length ≤ 1 := by
  cases f with
  | zero => exact Nat.zero_le _
  | succ f =>
    have : kidsOf (kidsN ns) p = [] := by
      rw [kidsOf_eq, List.filter_eq_nil_iff]
      intro q hq
      have := List.mem_range.mp hq
      have := upOf_le ns q
      simp; omega
    unfold lastL
    rw [this]; simp
theorem last_len (h7 : ns.length ≤ 7) (f p : Nat) : (lastL (kidsN ns) f p).length ≤ 7 := by
  by_cases hp : p < ns.length
  · exact Nat.le_trans (nodup_len (last_nodup f p) (last_lt f p hp)) h7
  · have := last_out (ns := ns) f (p := p) (by omega); omega
theorem roots_mem {r : Nat} (h : r ∈ rootsN ns) : r < ns.length ∧ upOf ns r = 0 := by
  obtain ⟨h1, h2⟩ := List.mem_filter.mp h
  exact ⟨List.mem_range.mp h1, by simpa using h2⟩
noncomputable def placesN (ns : List Nat) : List Nat := (rootsN ns).flatMap (lastL (kidsN ns) ns.length)
theorem places_nodup : (placesN ns).Nodup := by
  refine nodup_flat (fun q _ => last_nodup _ q) ?_ fun q hq r hr x hx hx' => ?_
  · exact List.nodup_range.filter _
  · obtain ⟨k, e1⟩ := last_anc _ q x hx
    obtain ⟨j, e2⟩ := last_anc _ r x hx'
    exact uniq e1 e2 (roots_mem hq).2 (roots_mem hr).2
theorem places_lt : ∀ x ∈ placesN ns, x < ns.length := fun x hx => by
  obtain ⟨q, hq, hx'⟩ := List.mem_flatMap.mp hx
  exact last_lt _ q (roots_mem hq).1 x hx'
theorem places_len : (placesN ns).length ≤ ns.length := nodup_len places_nodup places_lt

theorem flat_mul {α β : Type} {a : Nat → List α} {b : Nat → List β} {c : Nat} : ∀ {l : List Nat}, (∀ q ∈ l, (a q).length ≤ c * (b q).length) → (l.flatMap a).length ≤ c * (l.flatMap b).length
  | [], _ => Nat.zero_le _
  | q :: l, h => by
    have h1 := h q (by simp)
    have h2 := flat_mul (a := a) (b := b) (c := c) (l := l) fun r hr => h r (by simp [hr])
    rw [List.flatMap_cons, List.flatMap_cons, List.length_append, List.length_append, Nat.mul_add]
    omega
theorem rows_len {K : List (List Nat)} {H : List Nat} {S : List Str} : ∀ f p above shell, (rowsL K H S f p above shell).length ≤ 7 * (lastL K f p).length
  | 0, p, above, shell => Nat.zero_le _
  | f + 1, p, above, shell => by
    have h : ∀ here seen, (midR K H S f p here seen).length ≤ 7 * ((kidsOf K p).flatMap (lastL K f)).length + 3 := fun here seen => by
      unfold midR
      have := flat_mul (a := fun q => rowsL K H S f q here seen) (b := lastL K f) (c := 7) (l := kidsOf K p) fun q _ => rows_len f q here seen
      simp only [List.length_append, List.length_cons, List.length_nil]
      omega
    rw [rows_eq]
    unfold lastL
    split
    · have := h (1 :: above) (seenOf 1 p above shell)
      simp only [List.length_append, List.length_cons, List.length_nil]
      omega
    · have := h (H.getD p 0 :: above) shell
      simp only [List.length_append, List.length_cons, List.length_nil]
      omega
theorem hdrs_len {K : List (List Nat)} {H : List Nat} {S : List Str} : ∀ f p, (hdrsT K H S f p).length ≤ 1 * (lastL K f p).length
  | 0, p => Nat.zero_le _
  | f + 1, p => by
    have := flat_mul (a := hdrsT K H S f) (b := lastL K f) (c := 1) (l := kidsOf K p) fun q _ => hdrs_len f q
    unfold hdrsT lastL
    simp only [List.length_append, List.length_cons, List.length_nil]
    split <;> simp only [List.length_cons, List.length_nil] <;> omega

/-! the rows keep their bounds -/
structure RowIs (n : Nat) (r : Row) : Prop where
  sg : ∃ c ∈ allS, r.sign = ofL [c]
  ov : ∀ h ∈ r.over, h < 5
  sh : r.shell < n
theorem rowIs_len {n : Nat} {r : Row} (h : RowIs n r) : r.sign.length ≤ 1 := by
  obtain ⟨c, _, e⟩ := h.sg
  rw [e, len_ofL]; simp
theorem rows_is {K : List (List Nat)} {H : List Nat} {S : List Str} (T : TreeOk K H S) {n : Nat} (hn : K.length ≤ n) : ∀ f p above (shell : Int), p < K.length → (∀ h ∈ above, h < 5) → shell < (n : Int) → (∀ r ∈ rowsL K H S f p above shell, RowIs n r ∧ r.over.length ≤ above.length + (K.length - p))
  | 0, p, above, shell, hp, ho, hs => fun r hr => by cases hr
  | f + 1, p, above, shell, hp, ho, hs => by
    obtain ⟨c, hc, es⟩ := T.sg p hp
    have hq : ∀ x ∈ kidsOf K p, x < K.length := fun x hx => (T.wk.2 p x hx).2
    have mid : ∀ h seen, h < 5 → seen < (n : Int) → ∀ r ∈ midR K H S f p (h :: above) seen, RowIs n r ∧ r.over.length ≤ above.length + (K.length - p) := fun h seen hh hs' r hr => by
      have ho' : ∀ x ∈ h :: above, x < 5 := fun x hx => by
        rcases List.mem_cons.mp hx with rfl | hx
        · exact hh
        · exact ho x hx
      unfold midR at hr
      rw [es] at hr
      simp only [List.mem_append, List.mem_cons, List.not_mem_nil, or_false] at hr
      rcases hr with ((rfl | rfl) | hr) | rfl
      · exact ⟨⟨⟨40, by decide, rfl⟩, ho', hs'⟩, by simp; omega⟩
      · exact ⟨⟨⟨c, sgn_all c hc, rfl⟩, ho', hs'⟩, by simp; omega⟩
      · obtain ⟨q, hq', hr⟩ := List.mem_flatMap.mp hr
        have := rows_is T hn f q (h :: above) seen (hq q hq') ho' hs' r hr
        have hpq := (T.wk.2 p q hq').1
        exact ⟨this.1, by have := this.2; simp at this; omega⟩
      · exact ⟨⟨⟨41, by decide, rfl⟩, ho', hs'⟩, by simp; omega⟩
    have hseen : seenOf 1 p above shell < (n : Int) := by
      unfold seenOf
      split <;> omega
    intro r hr
    rw [rows_eq] at hr
    split at hr
    · simp only [List.mem_append, List.mem_cons, List.not_mem_nil, or_false] at hr
      rcases hr with ((rfl | rfl | rfl) | hr) | rfl
      · exact ⟨⟨⟨107, by decide, rfl⟩, ho, hs⟩, by simp⟩
      · exact ⟨⟨⟨61, by decide, rfl⟩, ho, hs⟩, by simp⟩
      · exact ⟨⟨⟨34, by decide, rfl⟩, ho, hseen⟩, by simp⟩
      · exact mid 1 _ (by decide) hseen r hr
      · exact ⟨⟨⟨34, by decide, rfl⟩, ho, hseen⟩, by simp⟩
    · exact mid _ _ (T.h5 p) hs r hr
end Mine
end

section
open PySem PySem.W PySem.Calls PySem.Spec PyProof.Rows
set_option Elab.async false
set_option linter.unusedVariables false
namespace Mine
variable {ns : List Nat}

theorem made_rows0 (h7 : ns.length ≤ 7) (f : Nat) {p : Nat} (hp : p < ns.length) : madeT (kidsN ns) (handsN ns) (signsN ns) f p = (rowsL (kidsN ns) (handsN ns) (signsN ns) f p [] (-1)).flatMap wrR :=
  made_rows (tree_N h7) f p [] (-1) (by rw [kidsN_len]; exact hp) (fun _ h => nomatch h)
theorem rowsN_is (h7 : ns.length ≤ 7) (f : Nat) {p : Nat} (hp : p < ns.length) : ∀ r ∈ rowsL (kidsN ns) (handsN ns) (signsN ns) f p [] (-1), RowIs ns.length r ∧ r.over.length ≤ 7 := fun r hr => by
  have := rows_is (tree_N h7) (n := ns.length) (by rw [kidsN_len]; exact Nat.le_refl _) f p [] (-1) (by rw [kidsN_len]; exact hp) (fun _ h => nomatch h) (by omega) r hr
  refine ⟨this.1, ?_⟩
  have h := this.2
  rw [kidsN_len] at h
  simp at h; omega
theorem flat_le {α β : Type} {g : α → List β} {c : Nat} : ∀ {l : List α}, (∀ x ∈ l, (g x).length ≤ c) → (l.flatMap g).length ≤ c * l.length
  | [], _ => Nat.zero_le _
  | x :: l, h => by
    have h1 := h x (by simp)
    have h2 := flat_le (g := g) (c := c) (l := l) fun r hr => h r (by simp [hr])
    rw [List.flatMap_cons, List.length_append, List.length_cons, Nat.mul_succ]
    omega
theorem wrR_len {n : Nat} {r : Row} (h : RowIs n r) (h7 : r.over.length ≤ 7) : (wrR r).length ≤ 1100 := by
  have := written_len h7 h.ov (rowIs_len h)
  exact this
theorem made_len (h7 : ns.length ≤ 7) (f : Nat) {p : Nat} (hp : p < ns.length) : (madeT (kidsN ns) (handsN ns) (signsN ns) f p).length ≤ 7700 * (lastL (kidsN ns) f p).length := by
  rw [made_rows0 h7 f hp]
  have h1 := flat_le (g := wrR) (c := 1100) (l := rowsL (kidsN ns) (handsN ns) (signsN ns) f p [] (-1)) fun r hr => wrR_len (rowsN_is h7 f hp r hr).1 (rowsN_is h7 f hp r hr).2
  have h2 := rows_len (K := kidsN ns) (H := handsN ns) (S := signsN ns) f p [] (-1)
  omega
theorem made_fine (h7 : ns.length ≤ 7) (f : Nat) {p : Nat} (hp : p < ns.length) : ∀ c ∈ madeT (kidsN ns) (handsN ns) (signsN ns) f p, fine c := fun x hx => by
  rw [made_rows0 h7 f hp] at hx
  obtain ⟨r, hr, hx⟩ := List.mem_flatMap.mp hx
  have h := (rowsN_is h7 f hp r hr).1
  obtain ⟨c, hc, e⟩ := h.sg
  have e2 : wrR r = wrL c r.over := by unfold wrR wrL; rw [e]
  rw [e2] at hx
  exact wr_fine hc h.ov x hx
theorem sub_len (h7 : ns.length ≤ 7) (f p : Nat) : ((kidsOf (kidsN ns) p).flatMap (lastL (kidsN ns) f)).length ≤ 7 := by
  have := last_len h7 (f + 1) p
  unfold lastL at this
  rw [List.length_append] at this
  omega
theorem ins_len (h7 : ns.length ≤ 7) (f p : Nat) : (insideT (kidsN ns) (handsN ns) (signsN ns) f p).length ≤ 100000 := by
  have h1 := flat_mul (a := madeT (kidsN ns) (handsN ns) (signsN ns) f) (b := lastL (kidsN ns) f) (c := 7700) (l := kidsOf (kidsN ns) p) fun q hq => made_len h7 f (kids_mem hq).1
  have h2 := sub_len h7 f p
  have h3 : (signL (signsN ns) p).length ≤ 1 := by
    unfold signL
    by_cases hp : p < ns.length
    · obtain ⟨c, _, e⟩ := (tree_N h7).sg p (by rw [kidsN_len]; exact hp)
      rw [e]; simp [ofL]
    · rw [((tree_N h7).bare p (by rw [kidsN_len]; omega)).2]; decide
  unfold insideT
  simp only [List.length_append, List.length_cons, List.length_nil]
  omega
theorem ins_fine (h7 : ns.length ≤ 7) (f p : Nat) : ∀ c ∈ insideT (kidsN ns) (handsN ns) (signsN ns) f p, fine c := fun x hx => by
  unfold insideT at hx
  simp only [List.mem_append, List.mem_singleton] at hx
  rcases hx with ((rfl | hx) | hx) | rfl
  · exact ⟨.inr (by decide), by decide⟩
  · unfold signL at hx
    by_cases hp : p < ns.length
    · obtain ⟨c, hc, e⟩ := (tree_N h7).sg p (by rw [kidsN_len]; exact hp)
      rw [e] at hx
      have : x = c := by simpa [ofL] using hx
      subst this
      exact allS_ok x (sgn_all x hc)
    · rw [((tree_N h7).bare p (by rw [kidsN_len]; omega)).2] at hx
      cases hx
  · obtain ⟨q, hq, hx⟩ := List.mem_flatMap.mp hx
    exact made_fine h7 f (kids_mem hq).1 x hx
  · exact ⟨.inr (by decide), by decide⟩

theorem fits (h7 : ns.length ≤ 7) : Fits ns where
  n7 := h7
  wk := wk_N h7
  rts := fun r hr => (roots_mem hr).1
  rl := by
    have h : (rootsN ns).length ≤ ns.length := by
      unfold rootsN rootsAt
      exact Nat.le_trans (List.length_filter_le _ _) (by simp)
    omega
  last := fun f p => Nat.le_trans (last_len h7 f p) (by decide)
  lastIn := fun f p hp => last_lt f p hp
  rows := fun f p a s => by
    have h1 := rows_len (K := kidsN ns) (H := handsN ns) (S := signsN ns) f p a s
    have h2 := last_len h7 f p
    omega
  ins := ins_len h7
  fin := ins_fine h7
  text := by
    unfold textI
    rw [List.take_length]
    have h1 := flat_mul (a := madeT (kidsN ns) (handsN ns) (signsN ns) ns.length) (b := lastL (kidsN ns) ns.length) (c := 7700) (l := rootsN ns) fun q hq => made_len h7 _ (roots_mem hq).1
    have h2 := places_len (ns := ns)
    unfold placesN at h2
    omega
  rowsLen := by
    unfold rowsI
    rw [List.take_length]
    have h1 := flat_mul (a := fun r => rowsL (kidsN ns) (handsN ns) (signsN ns) ns.length r [] (-1)) (b := lastL (kidsN ns) ns.length) (c := 7) (l := rootsN ns) fun q hq => rows_len _ q _ _
    have h2 := places_len (ns := ns)
    unfold placesN at h2
    omega
  hdrs := by
    unfold hdrsI
    rw [List.take_length]
    have h1 := flat_mul (a := hdrsT (kidsN ns) (handsN ns) (signsN ns) ns.length) (b := lastL (kidsN ns) ns.length) (c := 1) (l := rootsN ns) fun q hq => hdrs_len _ q
    have h2 := places_len (ns := ns)
    unfold placesN at h2
    omega
  lets := by
    unfold lettersI
    rw [List.take_length]
    have h1 := flat_mul (a := fun r => lettersOf ns (lastL (kidsN ns) ns.length r)) (b := lastL (kidsN ns) ns.length) (c := 1) (l := rootsN ns) fun q hq => by
      unfold lettersOf
      rw [List.length_map]
      have := List.length_filter_le (isHdr ns) (lastL (kidsN ns) ns.length q)
      omega
    have h2 := places_len (ns := ns)
    unfold placesN at h2
    omega

/-! the names in the table -/
theorem hdrs_letters (f : Nat) : ∀ p, (hdrsT (kidsN ns) (handsN ns) (signsN ns) f p).map (·.1) = lettersOf ns (lastL (kidsN ns) f p) := by
  induction f with
  | zero => intro p; rfl
  | succ f ih =>
    intro p
    unfold hdrsT lastL lettersOf
    rw [List.map_append, List.filter_append, List.map_append]
    congr 1
    · generalize kidsOf (kidsN ns) p = l
      induction l with
      | nil => rfl
      | cons q l ihl =>
        rw [List.flatMap_cons, List.map_append, List.flatMap_cons, List.filter_append, List.map_append, ihl, ih q]; rfl
    · have e : isHdr ns p = ((handsN ns).getD p 0 == 1) := rfl
      by_cases h : (handsN ns).getD p 0 = 1
      · rw [if_pos h, List.filter_cons, e, h]; rfl
      · rw [if_neg h, List.filter_cons, e, beq_eq_false_iff_ne.mpr h]; rfl
theorem keysN : (hdrsI ns (rootsN ns).length).map (·.1) = lettersI ns (rootsN ns).length := by
  unfold hdrsI lettersI
  rw [List.take_length]
  generalize rootsN ns = l
  induction l with
  | nil => rfl
  | cons q l ih => rw [List.flatMap_cons, List.map_append, List.flatMap_cons, ih, hdrs_letters]
theorem letters_ok (h7 : ns.length ≤ 7) : ∀ x ∈ lettersI ns (rootsN ns).length, PyData.strOk x = true := fun x hx => by
  unfold lettersI lettersOf at hx
  rw [List.take_length] at hx
  obtain ⟨r, hr, hx⟩ := List.mem_flatMap.mp hx
  obtain ⟨p, hp, rfl⟩ := List.mem_map.mp hx
  have hp' := last_lt _ r (roots_mem hr).1 p (List.mem_filter.mp hp).1
  have key : ∀ k : Fin 7, PyData.strOk (letterS k.1) = true := by decide +kernel
  exact key ⟨p, by omega⟩
theorem rowOkN (h7 : ns.length ≤ 7) : ∀ r ∈ rowsI ns (rootsN ns).length, RowOk ns.length r ∧ RowIs ns.length r := fun r hr => by
  unfold rowsI at hr
  rw [List.take_length] at hr
  obtain ⟨p, hp, hr⟩ := List.mem_flatMap.mp hr
  have := rowsN_is h7 _ (roots_mem hp).1 r hr
  exact ⟨⟨rowIs_len this.1, this.2, this.1.ov, this.1.sh⟩, this.1⟩
theorem text_rows (h7 : ns.length ≤ 7) : textN ns = (rowsI ns (rootsN ns).length).flatMap wrR := by
  unfold textN textI rowsI
  rw [List.take_length, List.flatMap_assoc]
  refine congrArg List.flatten (List.map_congr_left fun q hq => ?_)
  exact made_rows0 h7 _ (roots_mem hq).1
theorem text_asc (h7 : ns.length ≤ 7) : ∀ c ∈ textN ns, c < 128 := fun x hx => by
  unfold textN textI at hx
  rw [List.take_length] at hx
  obtain ⟨q, hq, hx⟩ := List.mem_flatMap.mp hx
  have := (made_fine h7 _ (roots_mem hq).1 x hx).2
  omega
theorem pl_text_eq : ∀ (rows : List Row) (p : Pl), (rows.foldl plStep p).text.cps.toList = p.text.cps.toList ++ rows.flatMap wrR
  | [], p => by simp
  | r :: rows, p => by
    have e : (plStep p r).text.cps.toList = p.text.cps.toList ++ wrR r := by
      show (p.text ++ writtenS r.sign r.over).cps.toList = _
      rw [Str.cps_append, Array.toList_append]; rfl
    rw [List.foldl_cons, pl_text_eq rows, e, List.flatMap_cons, List.append_assoc]
theorem dueN (h7 : ns.length ≤ 7) : (plOf (rowsI ns (rootsN ns).length) ns.length).text = ofL (textN ns) := by
  rw [← ofL_cps (plOf _ _).text]
  unfold plOf
  rw [pl_text_eq, text_rows h7]; rfl
end Mine
end

section
open PySem PySem.W PySem.Calls PySem.Spec PyProof.Rows
set_option Elab.async false
set_option linter.unusedVariables false
namespace Mine

/-! what the quoted texts leave -/
noncomputable def stripQ (l : List Nat) : List Nat := subQ (l.length + 1) l
noncomputable def netN (l : List Nat) : Int := (l.count 40 : Nat) - (l.count 41 : Nat)
theorem parens_net (l : List Nat) : parens l = netN (stripQ l) := rfl
theorem net_app (a b : List Nat) : netN (a ++ b) = netN a + netN b := by
  unfold netN
  rw [List.count_append, List.count_append]; omega
theorem net_none {l : List Nat} (h1 : 40 ∉ l) (h2 : 41 ∉ l) : netN l = 0 := by
  unfold netN
  rw [List.count_eq_zero.mpr h1, List.count_eq_zero.mpr h2]; rfl
theorem subQ_succ (f : Nat) (l : List Nat) : subQ (f + 1) l = match findQ l with | none => l | some (a, b) => l.take a ++ subQ f (l.drop b) := rfl
theorem subQ_fuel : ∀ (n f : Nat) (l : List Nat), l.length ≤ n → l.length < f → subQ f l = stripQ l
  | n, 0, l, _, h => by omega
  | n, f + 1, l, hn, h => by
    unfold stripQ
    rw [subQ_succ, subQ_succ]
    cases hq : findQ l with
    | none => rfl
    | some ab =>
      obtain ⟨a, b⟩ := ab
      have hb := findQ_le l a b hq
      have hd : (l.drop b).length < l.length := by rw [List.length_drop]; omega
      show l.take a ++ subQ f (l.drop b) = l.take a ++ subQ l.length (l.drop b)
      match n, hn with
      | 0, hn => omega
      | n + 1, hn => rw [subQ_fuel n f (l.drop b) (by omega) (by omega), subQ_fuel n l.length (l.drop b) (by omega) hd]
theorem strip_none {l : List Nat} (h : findQ l = none) : stripQ l = l := by
  unfold stripQ
  rw [subQ_succ, h]
theorem strip_some {l : List Nat} {a b : Nat} (h : findQ l = some (a, b)) : stripQ l = l.take a ++ stripQ (l.drop b) := by
  have hb := findQ_le l a b h
  unfold stripQ
  rw [subQ_succ, h]
  show l.take a ++ subQ l.length (l.drop b) = _
  rw [subQ_fuel _ l.length (l.drop b) (Nat.le_refl _) (by rw [List.length_drop]; omega)]; rfl
theorem findQ_cons (c : Nat) (r : List Nat) : findQ (c :: r) = match (if c = 34 then closesN r else none) with | some k => some (0, k + 1) | none => (findQ r).map fun (x : Nat × Nat) => (x.1 + 1, x.2 + 1) := rfl
theorem findQ_ne {c : Nat} {r : List Nat} (h : c ≠ 34) : findQ (c :: r) = (findQ r).map fun (x : Nat × Nat) => (x.1 + 1, x.2 + 1) := by rw [findQ_cons, if_neg h]
theorem findQ_hit {r : List Nat} {k : Nat} (h : closesN r = some k) : findQ (34 :: r) = some (0, k + 1) := by rw [findQ_cons, if_pos rfl, h]
theorem findQ_miss {r : List Nat} (h : closesN r = none) : findQ (34 :: r) = (findQ r).map fun (x : Nat × Nat) => (x.1 + 1, x.2 + 1) := by rw [findQ_cons, if_pos rfl, h]
theorem findQ_free : ∀ {a : List Nat} (l : List Nat), 34 ∉ a → findQ (a ++ l) = (findQ l).map fun (x : Nat × Nat) => (x.1 + a.length, x.2 + a.length)
  | [], l, _ => by
    show findQ l = _
    cases findQ l <;> rfl
  | c :: a, l, h => by
    have h1 : c ≠ 34 := fun e => h (e ▸ List.mem_cons_self ..)
    have ih := findQ_free (a := a) l fun m => h (List.mem_cons_of_mem _ m)
    rw [List.cons_append, findQ_ne h1, ih, Option.map_map]
    rfl
theorem strip_free {a : List Nat} (l : List Nat) (h : 34 ∉ a) : stripQ (a ++ l) = a ++ stripQ l := by
  have e := findQ_free l h
  cases hq : findQ l with
  | none =>
    rw [hq] at e
    rw [strip_none e, strip_none hq]
  | some ab =>
    obtain ⟨x, y⟩ := ab
    rw [hq] at e
    have hb := findQ_le l x y hq
    rw [strip_some e, strip_some hq]
    rw [List.take_append, List.drop_append, List.take_of_length_le (by show a.length ≤ x + a.length; omega), List.drop_of_length_le (by show a.length ≤ y + a.length; omega), List.append_assoc, List.nil_append]
    rw [show (x, y).1 + a.length - a.length = x by simp, show (x, y).2 + a.length - a.length = y by simp]

/-- a text that may stand between quotes -/
inductive TokQ : List Nat → Prop where
  | nil : TokQ []
  | one {c : Nat} {r : List Nat} (h1 : c ≠ 34) (h2 : c ≠ 92) (t : TokQ r) : TokQ (c :: r)
  | two {d : Nat} {r : List Nat} (h : d = 34 ∨ d = 92) (t : TokQ r) : TokQ (92 :: d :: r)
theorem closes_one {c : Nat} {r : List Nat} (h1 : c ≠ 34) (h2 : c ≠ 92) : closesN (c :: r) = (closesN r).map (· + 1) := by
  conv => lhs; unfold closesN
  rw [if_neg h1, if_neg h2]
theorem closes_two {d : Nat} {r : List Nat} (h : d = 34 ∨ d = 92) : closesN (92 :: d :: r) = (closesN r).map (· + 2) := by
  conv => lhs; unfold closesN
  have : d ≠ 10 := by omega
  simp [this]
theorem tok_closes {b : List Nat} (h : TokQ b) (l : List Nat) : closesN (b ++ 34 :: l) = some (b.length + 1) := by
  induction h with
  | nil =>
    show closesN (34 :: l) = _
    unfold closesN; simp
  | one h1 h2 t ih => rw [List.cons_append, closes_one h1 h2, ih]; rfl
  | two h t ih => rw [List.cons_append, List.cons_append, closes_two h, ih]; rfl
theorem tok_take {b : List Nat} (h : TokQ b) : ∀ j, closesN (b.take j) = none ∧ findQ (b.take j) = none := by
  induction h with
  | nil => intro j; simp [closesN, findQ]
  | @one c r h1 h2 t ih =>
    intro j
    cases j with
    | zero => exact ⟨rfl, rfl⟩
    | succ j =>
      obtain ⟨a, b⟩ := ih j
      rw [List.take_succ_cons]
      refine ⟨by rw [closes_one h1 h2, a]; rfl, ?_⟩
      rw [findQ_ne h1, b]; rfl
  | @two d r h t ih =>
    intro j
    match j with
    | 0 => exact ⟨rfl, rfl⟩
    | 1 => exact ⟨by rw [List.take_succ_cons, List.take_zero]; rfl, by rw [List.take_succ_cons, List.take_zero]; rfl⟩
    | j + 2 =>
      obtain ⟨a, b⟩ := ih j
      rw [List.take_succ_cons, List.take_succ_cons]
      refine ⟨by rw [closes_two h, a]; rfl, ?_⟩
      rw [findQ_ne (by decide)]
      by_cases e : d = 34
      · subst e; rw [findQ_miss a, b]; rfl
      · rw [findQ_ne e, b]; rfl
theorem strip_quoted {b : List Nat} (h : TokQ b) (l : List Nat) : stripQ (34 :: b ++ [34] ++ l) = stripQ l := by
  have e0 : 34 :: b ++ [34] ++ l = 34 :: (b ++ 34 :: l) := by simp
  have e : findQ (34 :: (b ++ 34 :: l)) = some (0, b.length + 1 + 1) := by
    exact findQ_hit (tok_closes h l)
  rw [e0, strip_some e, List.take_zero, List.nil_append]
  congr 1
  rw [List.drop_succ_cons, List.drop_append, List.drop_of_length_le (by omega), List.nil_append, show b.length + 1 - b.length = 1 by omega]; rfl
theorem strip_within {b : List Nat} (h : TokQ b) (j : Nat) : stripQ ((34 :: b).take j) = (34 :: b).take j := by
  refine strip_none ?_
  cases j with
  | zero => rfl
  | succ j =>
    obtain ⟨x, y⟩ := tok_take h j
    rw [List.take_succ_cons]
    rw [findQ_miss x, y]; rfl
theorem tok_app {a b : List Nat} (h : TokQ a) (h' : TokQ b) : TokQ (a ++ b) := by
  induction h with
  | nil => exact h'
  | one h1 h2 t ih => exact .one h1 h2 ih
  | two h t ih => exact .two h ih
theorem tok_plain : ∀ {a : List Nat}, (∀ c ∈ a, c ≠ 34 ∧ c ≠ 92) → TokQ a
  | [], _ => .nil
  | c :: a, h => .one (h c (by simp)).1 (h c (by simp)).2 (tok_plain fun x hx => h x (by simp [hx]))
theorem step1_one (c : Nat) : stepH 1 [c] = if c = 92 then [92, 92] else if c = 34 then [92, 34] else [c] := by
  unfold stepH esc1L
  rw [if_pos rfl, swps_one _ (by decide)]
  by_cases h1 : c = 92
  · subst h1; rfl
  · by_cases h2 : c = 34
    · subst h2; rfl
    · rw [if_neg h1, if_neg h2]
      simp [List.find?_cons, Ne.symm h1, Ne.symm h2]
theorem tok_esc1 : ∀ l : List Nat, TokQ (stepH 1 l)
  | [] => by rw [stepH_nil]; exact .nil
  | c :: l => by
    rw [stepH_cons, step1_one]
    refine tok_app ?_ (tok_esc1 l)
    split
    · exact .two (.inr rfl) .nil
    · split
      · exact .two (.inl rfl) .nil
      · exact .one (by assumption) (by assumption) .nil
theorem step2_one (c : Nat) (h1 : c ≠ 34) (h2 : c ≠ 92) : ∀ x ∈ stepH 2 [c], x ≠ 34 ∧ x ≠ 92 := by
  intro x hx
  unfold stepH escL at hx
  rw [if_neg (by decide), swps_one _ (by decide)] at hx
  split at hx
  · rename_i p hp
    have hm := List.mem_of_find?_eq_some hp
    have key : ∀ p ∈ escTab 2, ∀ x ∈ p.2, x ≠ 34 ∧ x ≠ 92 := by decide
    exact key p hm x hx
  · rw [List.mem_singleton] at hx
    subst hx; exact ⟨h1, h2⟩
theorem tok_step {h : Nat} (hh : h = 0 ∨ h = 2) {l : List Nat} (t : TokQ l) : TokQ (stepH h l) := by
  rcases hh with rfl | rfl
  · have e : stepH 0 l = l := rfl
    rw [e]; exact t
  · induction t with
    | nil => rw [stepH_nil]; exact .nil
    | one h1 h2 t ih => rw [stepH_cons]; exact tok_app (tok_plain (step2_one _ h1 h2)) ih
    | @two d r h t ih =>
      have e : stepH 2 (92 :: d :: r) = [92, d] ++ stepH 2 r := by
        rw [stepH_cons, stepH_cons 2 d, step_bsl 2 (by decide)]
        rcases h with rfl | rfl
        · have : stepH 2 [34] = [34] := by decide +kernel
          rw [this]; rfl
        · rw [step_bsl 2 (by decide)]; rfl
      rw [e]
      exact .two h ih
theorem tok_appH : ∀ {o : List Nat}, (∀ h ∈ o, h = 0 ∨ h = 2) → ∀ {l : List Nat}, TokQ l → TokQ (appH o l)
  | [], _, l, t => t
  | h :: o, ho, l, t => tok_appH (o := o) (fun x hx => ho x (by simp [hx])) (tok_step (ho h (by simp)) t)
end Mine
end

section
open PySem PySem.W PySem.Calls PySem.Spec PyProof.Rows
set_option Elab.async false
set_option linter.unusedVariables false
namespace Mine

/-! brackets by rows -/
noncomputable def rawS : Nat → List Row → List Brk
  | _, [] => []
  | a, r :: rs => (brOpen r a ++ brShut r a) ++ rawS (a + (wrR r).length) rs
noncomputable def txtR (rs : List Row) : List Nat := rs.flatMap wrR
theorem rawS_app : ∀ (a : Nat) (x y : List Row), rawS a (x ++ y) = rawS a x ++ rawS (a + (txtR x).length) y
  | a, [], y => rfl
  | a, r :: x, y => by
    have e : (txtR (r :: x)).length = (wrR r).length + (txtR x).length := by unfold txtR; rw [List.flatMap_cons, List.length_append]
    show (brOpen r a ++ brShut r a) ++ rawS (a + (wrR r).length) (x ++ y) = ((brOpen r a ++ brShut r a) ++ rawS (a + (wrR r).length) x) ++ _
    rw [rawS_app, e, List.append_assoc, Nat.add_assoc]
    simp only [List.append_assoc]
theorem step_len (p : Pl) (r : Row) : (plStep p r).text.length = p.text.length + (wrR r).length := Str.length_append _ _
theorem pl_raw : ∀ (rows : List Row) (p : Pl), (rows.foldl plStep p).brs = p.brs ++ rawS p.text.length rows
  | [], p => by simp [rawS]
  | r :: rows, p => by
    rw [List.foldl_cons, pl_raw rows, step_len]
    show (p.brs ++ brOpen r p.text.length) ++ brShut r p.text.length ++ _ = _
    simp only [rawS, List.append_assoc]
theorem pl_len : ∀ (rows : List Row) (p : Pl), (rows.foldl plStep p).text.length = p.text.length + (txtR rows).length
  | [], p => rfl
  | r :: rows, p => by
    rw [List.foldl_cons, pl_len rows, step_len]
    unfold txtR
    rw [List.flatMap_cons, List.length_append]; omega
theorem ends_other : ∀ (rows : List Row) (p : Pl) (q : Nat), (∀ r ∈ rows, r.shell ≠ (q : Int)) → (rows.foldl plStep p).ends.getD q 0 = p.ends.getD q 0
  | [], p, q, _ => rfl
  | r :: rows, p, q, h => by
    rw [List.foldl_cons, ends_other rows _ q fun x hx => h x (by simp [hx])]
    show (setEnd p.ends r.shell _).getD q 0 = _
    unfold setEnd
    split
    · have : r.shell.toNat ≠ q := fun e => h r (by simp) (by omega)
      simp [List.getElem?_set, this]
    · rfl
theorem ends_last {rows : List Row} {p : Pl} {q : Nat} (h0 : rows ≠ []) (h : ∀ r ∈ rows, r.shell = (q : Int)) (hq : q < p.ends.length) : (rows.foldl plStep p).ends.getD q 0 = ((p.text.length + (txtR rows).length : Nat) : Int) := by
  rw [← pl_len]
  obtain ⟨l, r, rfl⟩ : ∃ l r, rows = l ++ [r] := ⟨rows.dropLast, rows.getLast h0, (List.dropLast_concat_getLast h0).symm⟩
  rw [List.foldl_append]
  show (setEnd (l.foldl plStep p).ends r.shell ((l.foldl plStep p).text ++ writtenS r.sign r.over).length).getD q 0 = ((plStep (l.foldl plStep p) r).text.length : Nat)
  have hl : (l.foldl plStep p).ends.length = p.ends.length := pl_ends
  have hs : r.shell = (q : Int) := h r (by simp)
  unfold setEnd
  rw [if_pos (by omega), hs]
  simp [List.getElem?_set, hl, hq]
  rfl

/-! segments -/
inductive Seg where
  | out (r : Row)
  | inn (p : Nat) (rs : List Row)
noncomputable def Seg.rows : Seg → List Row
  | .out r => [r]
  | .inn _ rs => rs
noncomputable def segsR (l : List Seg) : List Row := l.flatMap Seg.rows
noncomputable def segsP : List Seg → List Nat
  | [] => []
  | .out _ :: t => segsP t
  | .inn p _ :: t => p :: segsP t
noncomputable def segL (s : Seg) : Nat := (txtR s.rows).length
inductive SegOk (n : Nat) : Seg → Prop where
  | out {r : Row} (h : RowIs n r) (hs : r.shell = -1) (hq : 34 ∉ wrR r) : SegOk n (.out r)
  | inn {p : Nat} {q r : Row} {rest : List Row} {body : List Nat} (hp : p < n) (hr : ∀ x ∈ q :: r :: rest, RowIs n x ∧ x.shell = (p : Int)) (ht : txtR (q :: r :: rest) = 34 :: body ++ [34]) (hb : TokQ body) (hq : wrR q = [34]) (ho : r.sign = ofL [40]) :
      SegOk n (.inn p (q :: r :: rest))
noncomputable def segB (a : Nat) : Seg → List Brk
  | .out r => (brOpen r a ++ brShut r a).map fun b => ⟨b.spot, b.worth, -1⟩
  | .inn p rs => (rawS a rs).map fun b => ⟨b.spot, b.worth, ((a + (txtR rs).length : Nat) : Int)⟩
noncomputable def brsS : Nat → List Seg → List Brk
  | _, [] => []
  | a, s :: t => segB a s ++ brsS (a + segL s) t
noncomputable def EndsAt (E : List Int) : Nat → List Seg → Prop
  | _, [] => True
  | a, s :: t => (∀ p rs, s = .inn p rs → E.getD p 0 = ((a + segL s : Nat) : Int)) ∧ EndsAt E (a + segL s) t

theorem raw_shell {x : Int} : ∀ {rs : List Row} {a : Nat}, (∀ r ∈ rs, r.shell = x) → ∀ b ∈ rawS a rs, b.fin = x
  | [], a, _, b, hb => by cases hb
  | r :: rs, a, h, b, hb => by
    have hr := h r (by simp)
    unfold rawS brOpen brShut at hb
    simp only [List.mem_append] at hb
    rcases hb with (hb | hb) | hb
    · split at hb
      · rw [List.mem_singleton] at hb; subst hb; exact hr
      · cases hb
    · split at hb
      · rw [List.mem_singleton] at hb; subst hb; exact hr
      · cases hb
    · exact raw_shell (fun y hy => h y (by simp [hy])) b hb
theorem raw_one (a : Nat) (r : Row) : rawS a [r] = brOpen r a ++ brShut r a := by simp [rawS]
theorem brs_segs {n : Nat} {E : List Int} : ∀ {l : List Seg} {a : Nat}, (∀ s ∈ l, SegOk n s) → EndsAt E a l → (rawS a (segsR l)).map (finBrk E) = brsS a l
  | [], a, _, _ => rfl
  | s :: t, a, h, hE => by
    have ih := brs_segs (l := t) (a := a + segL s) (fun x hx => h x (by simp [hx])) hE.2
    have hs := h s (by simp)
    have e : segsR (s :: t) = s.rows ++ segsR t := by unfold segsR; rw [List.flatMap_cons]
    rw [e, rawS_app, List.map_append]
    show _ ++ (rawS (a + segL s) (segsR t)).map (finBrk E) = segB a s ++ _
    rw [ih]
    congr 1
    cases hs with
    | out hr hsh hq =>
      rename_i r
      show (rawS a [r]).map (finBrk E) = (brOpen r a ++ brShut r a).map _
      rw [raw_one]
      refine List.map_congr_left fun b hb => ?_
      have hf : b.fin = -1 := raw_shell (rs := [r]) (a := a) (x := -1) (by simpa using hsh) b (by rw [raw_one]; exact hb)
      unfold finBrk
      rw [if_neg (by omega)]
    | inn hp hr ht hb hq ho =>
      rename_i p q r rest body
      refine List.map_congr_left fun b hb => ?_
      have hf : b.fin = (p : Int) := raw_shell (x := (p : Int)) (fun y hy => (hr y hy).2) b hb
      have h1 := hE.1 p _ rfl
      unfold finBrk
      rw [if_pos (by omega), hf, Int.toNat_natCast, h1]; rfl
theorem shells_of {n : Nat} : ∀ {l : List Seg}, (∀ s ∈ l, SegOk n s) → ∀ r ∈ segsR l, r.shell = -1 ∨ ∃ p ∈ segsP l, r.shell = (p : Int)
  | [], _, r, hr => by cases hr
  | s :: t, h, r, hr => by
    have ih := shells_of (l := t) fun x hx => h x (by simp [hx])
    have hs := h s (by simp)
    have e : segsR (s :: t) = s.rows ++ segsR t := by unfold segsR; rw [List.flatMap_cons]
    rw [e] at hr
    cases hs with
    | out h1 hsh hq =>
      rcases List.mem_append.mp hr with hr | hr
      · have : r = _ := List.mem_singleton.mp hr
        subst this
        exact .inl hsh
      · exact ih r hr
    | inn hp h1 ht hb hq ho =>
      rcases List.mem_append.mp hr with hr | hr
      · exact .inr ⟨_, List.mem_cons_self .., (h1 r hr).2⟩
      · rcases ih r hr with h | ⟨p, hp, h⟩
        · exact .inl h
        · exact .inr ⟨p, List.mem_cons_of_mem _ hp, h⟩
theorem ends_segs {n : Nat} : ∀ {l : List Seg} {p : Pl}, (∀ s ∈ l, SegOk n s) → (segsP l).Nodup → p.ends.length = n → EndsAt ((segsR l).foldl plStep p).ends p.text.length l
  | [], p, _, _, _ => trivial
  | s :: t, p, h, hn, hl => by
    have hs := h s (by simp)
    have ht' : ∀ x ∈ t, SegOk n x := fun x hx => h x (by simp [hx])
    have e : segsR (s :: t) = s.rows ++ segsR t := by unfold segsR; rw [List.flatMap_cons]
    have el : (s.rows.foldl plStep p).text.length = p.text.length + segL s := pl_len _ _
    have eE : (s.rows.foldl plStep p).ends.length = n := pl_ends.trans hl
    rw [e, List.foldl_append]
    have hn' : (segsP t).Nodup := by
      cases s with
      | out r => exact hn
      | inn q rs => exact (List.nodup_cons.mp hn).2
    have ih := ends_segs (l := t) (p := s.rows.foldl plStep p) ht' hn' eE
    rw [el] at ih
    refine ⟨fun q rs es => ?_, ih⟩
    subst es
    have hnq := (List.nodup_cons.mp hn).1
    rw [ends_other]
    · cases hs with
      | inn hp hr ht hb hq ho => exact ends_last (by simp [Seg.rows]) (fun x hx => (hr x hx).2) (by omega)
    · intro r hr e2
      rcases shells_of ht' r hr with h3 | ⟨p', hp', h3⟩
      · omega
      · have : p' = q := by omega
        exact hnq (this ▸ hp')
theorem brks_segs {n : Nat} {l : List Seg} (h : ∀ s ∈ l, SegOk n s) (hn : (segsP l).Nodup) : brksOf (plOf (segsR l) n) = brsS 0 l := by
  have hE := ends_segs (p := ⟨Str.empty, [], List.replicate n 0⟩) h hn (by simp)
  have h0 : (⟨Str.empty, [], List.replicate n 0⟩ : Pl).text.length = 0 := rfl
  rw [h0] at hE
  unfold brksOf plOf
  rw [pl_raw, List.nil_append, h0]
  exact brs_segs h hE

/-! their sums -/
noncomputable def sumW (l : List Brk) : Int := (l.map (·.worth)).sum
theorem sumW_app (a b : List Brk) : sumW (a ++ b) = sumW a + sumW b := by unfold sumW; rw [List.map_append, List.sum_append]
theorem depth_app (a b : List Brk) (x : Int) : depthOf (a ++ b) x = depthOf a x + depthOf b x := by
  unfold depthOf; rw [List.filter_append, List.map_append, List.sum_append]
theorem isS_iff {r : Row} {n : Nat} (h : RowIs n r) : (isS r.sign "(" = true ↔ r.sign = ofL [40]) ∧ (isS r.sign ")" = true ↔ r.sign = ofL [41]) := by
  obtain ⟨c, hc, e⟩ := h.sg
  rw [e]
  have key : ∀ c ∈ allS, (isS (ofL [c]) "(" = true ↔ ofL [c] = ofL [40]) ∧ (isS (ofL [c]) ")" = true ↔ ofL [c] = ofL [41]) := by decide +kernel
  exact key c hc
/-- one row: what it tells of a place -/
inductive RowCase (r : Row) (a : Nat) : Prop where
  | opn (w : wrR r = [40]) (b : brOpen r a ++ brShut r a = [⟨a, 1, r.shell⟩])
  | sht (w : wrR r = [41]) (b : brOpen r a ++ brShut r a = [⟨a, -1, r.shell⟩])
  | non (w1 : 40 ∉ wrR r) (w2 : 41 ∉ wrR r) (b : brOpen r a ++ brShut r a = [])
theorem ofL_inj {a b : List Nat} (h : ofL a = ofL b) : a = b := congrArg (fun x : Str => x.cps.toList) h
theorem row_case {n : Nat} {r : Row} (h : RowIs n r) (a : Nat) : RowCase r a := by
  obtain ⟨i1, i2⟩ := isS_iff h
  obtain ⟨c, hc, e⟩ := h.sg
  have ew : wrR r = wrL c r.over := by unfold wrR wrL; rw [e]
  by_cases h40 : c = 40
  · subst h40
    have b1 := i1.mpr e
    have b2 : ¬ isS r.sign ")" = true := fun z => by
      have := ofL_inj (e.symm.trans (i2.mp z)); cases this
    refine .opn (by rw [ew, wr_open h.ov]) ?_
    unfold brOpen brShut
    rw [if_pos b1, if_neg b2]; rfl
  · by_cases h41 : c = 41
    · subst h41
      have b1 : ¬ isS r.sign "(" = true := fun z => by
        have := ofL_inj (e.symm.trans (i1.mp z)); cases this
      refine .sht (by rw [ew, wr_shut h.ov]) ?_
      unfold brOpen brShut
      rw [if_neg b1, if_pos (i2.mpr e)]; rfl
    · have b1 : ¬ isS r.sign "(" = true := fun z => by
        have := ofL_inj (e.symm.trans (i1.mp z)); injection this with this _; exact h40 this
      have b2 : ¬ isS r.sign ")" = true := fun z => by
        have := ofL_inj (e.symm.trans (i2.mp z)); injection this with this _; exact h41 this
      have hn := wr_nob hc h40 h41 h.ov
      refine .non (ew ▸ hn.1) (ew ▸ hn.2) ?_
      unfold brOpen brShut
      rw [if_neg b1, if_neg b2]; rfl
theorem net_sub {l m : List Nat} (h1 : 40 ∉ l) (h2 : 41 ∉ l) (h : ∀ x ∈ m, x ∈ l) : netN m = 0 := net_none (fun z => h1 (h _ z)) (fun z => h2 (h _ z))
/-- the sum of one row's brackets ahead of x -/
theorem row_sum {n : Nat} {r : Row} (h : RowIs n r) (a : Nat) (x : Int) : sumW ((brOpen r a ++ brShut r a).filter fun b => decide (b.spot < x)) = netN ((wrR r).take (x - a).toNat) := by
  cases row_case h a with
  | opn w b =>
    rw [w, b]
    by_cases hx : (a : Int) < x
    · rw [List.filter_cons, if_pos (by simpa using hx)]
      obtain ⟨k, hk⟩ : ∃ k, (x - a).toNat = k + 1 := ⟨(x - a).toNat - 1, by omega⟩
      rw [hk, List.take_succ_cons, List.take_nil]; rfl
    · rw [List.filter_cons, if_neg (by simpa using hx), show (x - a).toNat = 0 by omega]; rfl
  | sht w b =>
    rw [w, b]
    by_cases hx : (a : Int) < x
    · rw [List.filter_cons, if_pos (by simpa using hx)]
      obtain ⟨k, hk⟩ : ∃ k, (x - a).toNat = k + 1 := ⟨(x - a).toNat - 1, by omega⟩
      rw [hk, List.take_succ_cons, List.take_nil]; rfl
    · rw [List.filter_cons, if_neg (by simpa using hx), show (x - a).toNat = 0 by omega]; rfl
  | non w1 w2 b =>
    rw [b, net_sub w1 w2 fun x hx => List.mem_of_mem_take hx]; rfl
theorem raw_net {n : Nat} (x : Int) : ∀ {rs : List Row} {a : Nat}, (∀ r ∈ rs, RowIs n r) → sumW ((rawS a rs).filter fun b => decide (b.spot < x)) = netN ((txtR rs).take (x - a).toNat)
  | [], a, _ => by simp [rawS, txtR, sumW, netN]
  | r :: rs, a, h => by
    have ih := raw_net x (rs := rs) (a := a + (wrR r).length) fun y hy => h y (by simp [hy])
    have e : txtR (r :: rs) = wrR r ++ txtR rs := by unfold txtR; rw [List.flatMap_cons]
    show sumW (((brOpen r a ++ brShut r a) ++ rawS (a + (wrR r).length) rs).filter _) = _
    rw [List.filter_append, sumW_app, ih, row_sum (h r (by simp)), e, List.take_append, net_app]
    congr 3
    omega
end Mine
end

section
open PySem PySem.W PySem.Calls PySem.Spec PyProof.Rows
set_option Elab.async false
set_option linter.unusedVariables false
namespace Mine

theorem strip_nil : stripQ [] = [] := rfl
theorem seg_text (s : Seg) (t : List Seg) : txtR (segsR (s :: t)) = txtR s.rows ++ txtR (segsR t) := by
  unfold txtR segsR; rw [List.flatMap_cons, List.flatMap_append]
theorem depth_out {x : Int} : ∀ l : List Brk, depthOf (l.map fun b => ⟨b.spot, b.worth, -1⟩) x = sumW (l.filter fun b => decide (b.spot < x))
  | [] => rfl
  | b :: l => by
    have ih := depth_out (x := x) l
    unfold depthOf sumW at *
    rw [List.map_cons, List.filter_cons, List.filter_cons]
    have e : counts x ⟨b.spot, b.worth, -1⟩ = decide (b.spot < x) := by unfold counts; simp
    rw [e]
    split <;> simp [ih]
theorem depth_inn {x y : Int} (hy : 0 ≤ y) : ∀ l : List Brk, depthOf (l.map fun b => ⟨b.spot, b.worth, y⟩) x = if x < y then sumW (l.filter fun b => decide (b.spot < x)) else 0
  | [] => by simp [depthOf, sumW]
  | b :: l => by
    have ih := depth_inn (x := x) hy l
    unfold depthOf sumW at *
    rw [List.map_cons, List.filter_cons, List.filter_cons]
    have e : counts x ⟨b.spot, b.worth, y⟩ = (decide (b.spot < x) && decide (x < y)) := by
      unfold counts
      have : decide (y < 0) = false := by rw [decide_eq_false_iff_not]; omega
      simp [this]
    rw [e]
    by_cases h : x < y
    · rw [if_pos h] at ih ⊢
      simp only [h, decide_true, Bool.and_true]
      split <;> simp [ih]
    · rw [if_neg h] at ih ⊢
      simp only [h, decide_false, Bool.and_false, Bool.false_eq_true, if_false]
      exact ih

/-- the front of a text -/
theorem front {n : Nat} (x : Int) : ∀ {l : List Seg} {a : Nat}, (∀ s ∈ l, SegOk n s) → parens ((txtR (segsR l)).take (x - a).toNat) = depthOf (brsS a l) x
  | [], a, _ => by
    show parens (([] : List Nat).take _) = _
    rw [List.take_nil]; rfl
  | s :: t, a, h => by
    have ih := front x (l := t) (a := a + segL s) fun y hy => h y (by simp [hy])
    have hs := h s (by simp)
    rw [seg_text, List.take_append]
    show _ = depthOf (segB a s ++ brsS (a + segL s) t) x
    rw [depth_app, ← ih]
    have e1 : (x - ((a + segL s : Nat) : Int)).toNat = (x - a).toNat - segL s := by omega
    rw [e1]
    cases hs with
    | out hr hsh hq =>
      rename_i r
      have er : txtR (Seg.out r).rows = wrR r := by simp [txtR, Seg.rows]
      have es : segL (Seg.out r) = (wrR r).length := by unfold segL; rw [er]
      rw [er, es, parens_net, strip_free _ (fun z => hq (List.mem_of_mem_take z)), net_app, ← parens_net]
      congr 1
      show _ = depthOf ((brOpen r a ++ brShut r a).map _) x
      rw [depth_out, row_sum hr]
    | inn hp hr ht hb hq ho =>
      rename_i p q r rest body
      have er : txtR (Seg.inn p (q :: r :: rest)).rows = 34 :: body ++ [34] := ht
      have es : segL (Seg.inn p (q :: r :: rest)) = body.length + 2 := by unfold segL; rw [er]; simp
      have el : (34 :: body ++ [34]).length = body.length + 2 := by simp
      have hd : depthOf (segB a (Seg.inn p (q :: r :: rest))) x = if x < ((a + (body.length + 2) : Nat) : Int) then netN ((34 :: body ++ [34]).take (x - a).toNat) else 0 := by
        show depthOf ((rawS a (q :: r :: rest)).map fun b => ⟨b.spot, b.worth, ((a + (txtR (q :: r :: rest)).length : Nat) : Int)⟩) x = _
        rw [depth_inn (by omega), raw_net x (fun y hy => (hr y hy).1), ht, el]
      rw [hd, es, er]
      by_cases hx : x < ((a + (body.length + 2) : Nat) : Int)
      · have z0 : (x - a).toNat - (body.length + 2) = 0 := by omega
        rw [if_pos hx, el, z0, List.take_zero, List.append_nil]
        have e2 : (34 :: body ++ [34]).take (x - a).toNat = (34 :: body).take (x - a).toNat := by
          have z1 : (x - a).toNat - (34 :: body).length = 0 := by rw [List.length_cons]; omega
          rw [List.take_append, z1, List.take_zero, List.append_nil]
        rw [e2, parens_net, strip_within hb]
        show _ = _ + netN (stripQ [])
        rw [strip_nil]
        show _ = _ + (0 : Int)
        omega
      · rw [if_neg hx, List.take_of_length_le (by simp; omega), parens_net, strip_quoted hb, Int.zero_add, ← parens_net]
        rw [el]
/-- what is behind a cut -/
theorem behind {n : Nat} (x : Int) : ∀ {l : List Seg} {a : Nat}, (∀ s ∈ l, SegOk n s) → ((brsS a l).filter fun b => decide (b.spot ≤ x) && decide (x < b.fin)) = [] →
    parens ((txtR (segsR l)).take (x - a).toNat) + parens ((txtR (segsR l)).drop (x - a).toNat) = parens (txtR (segsR l))
  | [], a, _, _ => by
    show parens (([] : List Nat).take _) + parens (([] : List Nat).drop _) = _
    rw [List.take_nil, List.drop_nil]; rfl
  | s :: t, a, h, hf => by
    have hf' : ((segB a s ++ brsS (a + segL s) t).filter fun b => decide (b.spot ≤ x) && decide (x < b.fin)) = [] := hf
    rw [List.filter_append, List.append_eq_nil_iff] at hf'
    have ih := behind x (l := t) (a := a + segL s) (fun y hy => h y (by simp [hy])) hf'.2
    have hs := h s (by simp)
    have e1 : (x - ((a + segL s : Nat) : Int)).toNat = (x - a).toNat - segL s := by omega
    rw [e1] at ih
    rw [seg_text, List.take_append, List.drop_append]
    cases hs with
    | out hr hsh hq =>
      rename_i r
      have er : txtR (Seg.out r).rows = wrR r := by simp [txtR, Seg.rows]
      have es : segL (Seg.out r) = (wrR r).length := by unfold segL; rw [er]
      rw [es] at ih
      rw [er]
      have p1 : ∀ y, parens ((wrR r).take (x - a).toNat ++ y) = netN ((wrR r).take (x - a).toNat) + parens y := fun y => by
        rw [parens_net, strip_free _ (fun z => hq (List.mem_of_mem_take z)), net_app, ← parens_net]
      have p2 : ∀ y, parens ((wrR r).drop (x - a).toNat ++ y) = netN ((wrR r).drop (x - a).toNat) + parens y := fun y => by
        rw [parens_net, strip_free _ (fun z => hq (List.mem_of_mem_drop z)), net_app, ← parens_net]
      have p3 : ∀ y, parens (wrR r ++ y) = netN (wrR r) + parens y := fun y => by
        rw [parens_net, strip_free _ hq, net_app, ← parens_net]
      have p4 : netN (wrR r) = netN ((wrR r).take (x - a).toNat) + netN ((wrR r).drop (x - a).toNat) := by rw [← net_app, List.take_append_drop]
      rw [p1, p2, p3, p4, ← ih]; omega
    | inn hp hr ht hb hq ho =>
      rename_i p q r rest body
      have er : txtR (Seg.inn p (q :: r :: rest)).rows = 34 :: body ++ [34] := ht
      have es : segL (Seg.inn p (q :: r :: rest)) = body.length + 2 := by unfold segL; rw [er]; simp
      have el : (34 :: body ++ [34]).length = body.length + 2 := by simp
      have p3 : ∀ y, parens (34 :: body ++ [34] ++ y) = parens y := fun y => by rw [parens_net, strip_quoted hb, ← parens_net]
      rw [es] at ih
      rw [er, el]
      by_cases h0 : (x - a).toNat = 0
      · rw [h0] at ih ⊢
        rw [show (0 : Nat) - (body.length + 2) = 0 by omega, List.take_zero, List.take_zero, List.drop_zero, List.drop_zero]
        have : parens [] = 0 := rfl
        rw [List.append_nil, this, Int.zero_add]
      · by_cases hx : x < ((a + (body.length + 2) : Nat) : Int)
        · exfalso
          have hspot : (⟨((a + 1 : Nat) : Int), 1, ((a + (txtR (q :: r :: rest)).length : Nat) : Int)⟩ : Brk) ∈ segB a (Seg.inn p (q :: r :: rest)) := by
            show _ ∈ (rawS a (q :: r :: rest)).map _
            refine List.mem_map.mpr ⟨⟨((a + 1 : Nat) : Int), 1, r.shell⟩, ?_, rfl⟩
            show _ ∈ (brOpen q a ++ brShut q a) ++ ((brOpen r (a + (wrR q).length) ++ brShut r (a + (wrR q).length)) ++ rawS (a + (wrR q).length + (wrR r).length) rest)
            refine List.mem_append_right _ (List.mem_append_left _ (List.mem_append_left _ ?_))
            have b1 := ((isS_iff (hr r (by simp)).1).1).mpr ho
            unfold brOpen
            rw [if_pos b1, hq]; exact List.mem_singleton.mpr rfl
          have := List.filter_eq_nil_iff.mp hf'.1 _ hspot
          apply this
          have e3 : (txtR (q :: r :: rest)).length = body.length + 2 := by rw [ht]; simp
          rw [e3]
          simp only [Bool.and_eq_true, decide_eq_true_eq]
          omega
        · rw [List.take_of_length_le (by simp; omega), List.drop_of_length_le (by simp; omega), p3, p3, List.nil_append]
          exact ih
end Mine
end

section
open PySem PySem.W PySem.Calls PySem.Spec PyProof.Rows
set_option Elab.async false
set_option linter.unusedVariables false
namespace Mine
variable {K : List (List Nat)} {H : List Nat} {S : List Str}

/-! the segments of a tree -/
noncomputable def inR (K : List (List Nat)) (H : List Nat) (S : List Str) (f p : Nat) (above : List Nat) : List Row :=
  [⟨ofL [34], above, (p : Int)⟩] ++ midR K H S f p (1 :: above) (p : Int) ++ [⟨ofL [34], above, (p : Int)⟩]
noncomputable def segsT (K : List (List Nat)) (H : List Nat) (S : List Str) : Nat → Nat → List Nat → List Seg
  | 0, _, _ => []
  | f + 1, p, above =>
    let mid := [.out ⟨ofL [40], H.getD p 0 :: above, -1⟩, .out ⟨S.getD p Str.empty, H.getD p 0 :: above, -1⟩] ++ ((kidsOf K p).flatMap fun q => segsT K H S f q (H.getD p 0 :: above)) ++ [.out ⟨ofL [41], H.getD p 0 :: above, -1⟩]
    if H.getD p 0 = 1 then
      if 3 ∉ above ∧ 4 ∉ above then [.out ⟨ofL [107], above, -1⟩, .out ⟨ofL [61], above, -1⟩, .inn p (inR K H S f p above)]
      else [.out ⟨ofL [107], above, -1⟩, .out ⟨ofL [61], above, -1⟩, .out ⟨ofL [34], above, -1⟩] ++ mid ++ [.out ⟨ofL [34], above, -1⟩]
    else mid
noncomputable def midG (K : List (List Nat)) (H : List Nat) (S : List Str) (f p : Nat) (here : List Nat) : List Seg :=
  [.out ⟨ofL [40], here, -1⟩, .out ⟨S.getD p Str.empty, here, -1⟩] ++ ((kidsOf K p).flatMap fun q => segsT K H S f q here) ++ [.out ⟨ofL [41], here, -1⟩]
theorem segs_eq (f p : Nat) (above : List Nat) : segsT K H S (f + 1) p above =
    if H.getD p 0 = 1 then
      if 3 ∉ above ∧ 4 ∉ above then [.out ⟨ofL [107], above, -1⟩, .out ⟨ofL [61], above, -1⟩, .inn p (inR K H S f p above)]
      else [.out ⟨ofL [107], above, -1⟩, .out ⟨ofL [61], above, -1⟩, .out ⟨ofL [34], above, -1⟩] ++ midG K H S f p (1 :: above) ++ [.out ⟨ofL [34], above, -1⟩]
    else midG K H S f p (H.getD p 0 :: above) := by
  unfold segsT midG
  by_cases h : H.getD p 0 = 1
  · simp only [h, if_true]
  · simp only [h, if_false]
theorem segsR_app (a b : List Seg) : segsR (a ++ b) = segsR a ++ segsR b := List.flatMap_append
theorem segsR_cons (s : Seg) (t : List Seg) : segsR (s :: t) = s.rows ++ segsR t := by unfold segsR; rw [List.flatMap_cons]
theorem segsR_nil : segsR [] = [] := rfl
theorem segsR_flat (f : Nat → List Seg) : ∀ l : List Nat, segsR (l.flatMap f) = l.flatMap fun q => segsR (f q)
  | [] => rfl
  | q :: l => by rw [List.flatMap_cons, segsR_app, segsR_flat f l, List.flatMap_cons]
theorem segs_rows : ∀ f p above, segsR (segsT K H S f p above) = rowsL K H S f p above (-1)
  | 0, p, above => rfl
  | f + 1, p, above => by
    have ih : ∀ here, segsR (midG K H S f p here) = midR K H S f p here (-1) := fun here => by
      unfold midG midR
      rw [segsR_app, segsR_app, segsR_flat]
      have e : ((kidsOf K p).flatMap fun q => segsR (segsT K H S f q here)) = (kidsOf K p).flatMap fun q => rowsL K H S f q here (-1) := congrArg List.flatten (List.map_congr_left fun q _ => segs_rows f q here)
      rw [e]; rfl
    rw [rows_eq, segs_eq]
    by_cases h : H.getD p 0 = 1
    · rw [if_pos h, if_pos h]
      by_cases h2 : 3 ∉ above ∧ 4 ∉ above
      · have es : seenOf 1 p above (-1) = (p : Int) := by unfold seenOf; rw [if_pos ⟨rfl, by decide, h2.1, h2.2⟩]
        rw [if_pos h2, es]
        simp only [segsR_cons, segsR_nil, Seg.rows, inR, List.append_assoc, List.cons_append, List.nil_append, List.append_nil]
      · have es : seenOf 1 p above (-1) = -1 := by
          unfold seenOf
          rw [if_neg fun z => h2 ⟨z.2.2.1, z.2.2.2⟩]
        rw [if_neg h2, es, segsR_app, segsR_app, ih]; rfl
    · rw [if_neg h, if_neg h, ih]

theorem mid_rows (T : TreeOk K H S) (f p : Nat) (here : List Nat) (seen : Int) (hp : p < K.length) (ho : ∀ x ∈ here, x < 5) : appH here (insideT K H S f p) = txtR (midR K H S f p here seen) := by
  obtain ⟨c, hc, hs⟩ := T.sg p hp
  unfold insideT midR txtR
  rw [hs]
  have hsl : signL S p = [c] := by unfold signL; rw [hs]; rfl
  rw [hsl, appH_app, appH_app, appH_app, appH_flat, app_sign (c := 40) (by decide) ho, app_sign (c := 41) (by decide) ho, app_sign (sgn_all c hc) ho]
  rw [List.flatMap_append, List.flatMap_append, List.flatMap_assoc]
  have e : (kidsOf K p).flatMap (fun x => appH here (madeT K H S f x)) = (kidsOf K p).flatMap fun x => (rowsL K H S f x here seen).flatMap wrR := by
    refine congrArg List.flatten (List.map_congr_left fun q hq => ?_)
    exact made_rows T f q here seen (T.wk.2 p q hq).2 ho
  rw [e]
  simp only [List.flatMap_cons, List.flatMap_nil, List.append_nil, wrR_sign]
/-- within a seen header all rows are its own -/
theorem rows_shell : ∀ f p above (x : Int), 0 ≤ x → ∀ r ∈ rowsL K H S f p above x, r.shell = x
  | 0, p, above, x, hx, r, hr => by cases hr
  | f + 1, p, above, x, hx, r, hr => by
    have mid : ∀ here, ∀ r ∈ midR K H S f p here x, r.shell = x := fun here r hr => by
      unfold midR at hr
      simp only [List.mem_append, List.mem_cons, List.not_mem_nil, or_false] at hr
      rcases hr with ((rfl | rfl) | hr) | rfl
      · rfl
      · rfl
      · obtain ⟨q, _, hr⟩ := List.mem_flatMap.mp hr
        exact rows_shell f q here x hx r hr
      · rfl
    have es : seenOf 1 p above x = x := by unfold seenOf; rw [if_neg fun z => by omega]
    rw [rows_eq, es] at hr
    split at hr
    · simp only [List.mem_append, List.mem_cons, List.not_mem_nil, or_false] at hr
      rcases hr with ((rfl | rfl | rfl) | hr) | rfl
      · rfl
      · rfl
      · rfl
      · exact mid _ r hr
      · rfl
    · exact mid _ r hr
theorem mid_shell (f p : Nat) (here : List Nat) (x : Int) (hx : 0 ≤ x) : ∀ r ∈ midR K H S f p here x, r.shell = x := fun r hr => by
  unfold midR at hr
  simp only [List.mem_append, List.mem_cons, List.not_mem_nil, or_false] at hr
  rcases hr with ((rfl | rfl) | hr) | rfl
  · rfl
  · rfl
  · obtain ⟨q, _, hr⟩ := List.mem_flatMap.mp hr
    exact rows_shell f q here x hx r hr
  · rfl
theorem mid_is (T : TreeOk K H S) {n : Nat} (hn : K.length ≤ n) (f p : Nat) (here : List Nat) (x : Int) (hp : p < K.length) (ho : ∀ h ∈ here, h < 5) (hx : x < (n : Int)) : ∀ r ∈ midR K H S f p here x, RowIs n r := fun r hr => by
  obtain ⟨c, hc, es⟩ := T.sg p hp
  unfold midR at hr
  rw [es] at hr
  simp only [List.mem_append, List.mem_cons, List.not_mem_nil, or_false] at hr
  rcases hr with ((rfl | rfl) | hr) | rfl
  · exact ⟨⟨40, by decide, rfl⟩, ho, hx⟩
  · exact ⟨⟨c, sgn_all c hc, rfl⟩, ho, hx⟩
  · obtain ⟨q, hq, hr⟩ := List.mem_flatMap.mp hr
    exact (rows_is T hn f q here x (T.wk.2 p q hq).2 ho hx r hr).1
  · exact ⟨⟨41, by decide, rfl⟩, ho, hx⟩

/-- an outer row -/
theorem out_ok {n c : Nat} {o : List Nat} (hc : c ∈ allS) (h34 : c ≠ 34) (ho : ∀ h ∈ o, h < 5) : SegOk n (.out ⟨ofL [c], o, -1⟩) :=
  .out ⟨⟨c, hc, rfl⟩, ho, by show (-1 : Int) < n; omega⟩ rfl (by rw [wrR_sign]; exact wr_noq hc h34 ho)
theorem segs_ok (T : TreeOk K H S) {n : Nat} (hn : K.length ≤ n) : ∀ f p above, p < K.length → (∀ h ∈ above, h < 5) → (1 ∈ above → 3 ∈ above ∨ 4 ∈ above) → ∀ s ∈ segsT K H S f p above, SegOk n s
  | 0, p, above, hp, ho, h1, s, hs => by cases hs
  | f + 1, p, above, hp, ho, h1, s, hs => by
    obtain ⟨c, hc, es⟩ := T.sg p hp
    have hc34 : c ≠ 34 := fun e => by subst e; revert hc; decide
    have mid : ∀ h, h < 5 → (1 ∈ h :: above → 3 ∈ h :: above ∨ 4 ∈ h :: above) → ∀ s ∈ midG K H S f p (h :: above), SegOk n s := fun h hh h1' s hs => by
      have ho' : ∀ x ∈ h :: above, x < 5 := fun x hx => by
        rcases List.mem_cons.mp hx with rfl | hx
        · exact hh
        · exact ho x hx
      unfold midG at hs
      rw [es] at hs
      simp only [List.mem_append, List.mem_cons, List.not_mem_nil, or_false] at hs
      rcases hs with ((rfl | rfl) | hs) | rfl
      · exact out_ok (by decide) (by decide) ho'
      · exact out_ok (sgn_all c hc) hc34 ho'
      · obtain ⟨q, hq, hs⟩ := List.mem_flatMap.mp hs
        exact segs_ok T hn f q (h :: above) (T.wk.2 p q hq).2 ho' h1' s hs
      · exact out_ok (by decide) (by decide) ho'
    rw [segs_eq] at hs
    split at hs
    · rename_i h
      split at hs
      · rename_i h2
        simp only [List.mem_cons, List.not_mem_nil, or_false] at hs
        rcases hs with rfl | rfl | rfl
        · exact out_ok (by decide) (by decide) ho
        · exact out_ok (by decide) (by decide) ho
        · have n1 : 1 ∉ above := fun z => by
            rcases h1 z with z | z
            · exact h2.1 z
            · exact h2.2 z
          have h02 : ∀ h ∈ above, h = 0 ∨ h = 2 := fun h hh => by
            have a := ho h hh
            have b : h ≠ 1 := fun e => n1 (e ▸ hh)
            have c : h ≠ 3 := fun e => h2.1 (e ▸ hh)
            have d : h ≠ 4 := fun e => h2.2 (e ▸ hh)
            omega
          have ho1 : ∀ x ∈ 1 :: above, x < 5 := fun x hx => by
            rcases List.mem_cons.mp hx with rfl | hx
            · decide
            · exact ho x hx
          have hpn : (p : Int) < (n : Int) := by omega
          have em := mid_rows T f p (1 :: above) (p : Int) hp ho1
          have hw : wrR ⟨ofL [34], above, (p : Int)⟩ = [34] := by rw [wrR_sign]; exact wr_quo h02
          have hq1 : RowIs n ⟨ofL [34], above, (p : Int)⟩ := ⟨⟨34, by decide, rfl⟩, ho, hpn⟩
          have hshape : inR K H S f p above = ⟨ofL [34], above, (p : Int)⟩ :: ⟨ofL [40], 1 :: above, (p : Int)⟩ :: (⟨S.getD p Str.empty, 1 :: above, (p : Int)⟩ :: ((kidsOf K p).flatMap fun q => rowsL K H S f q (1 :: above) (p : Int)) ++ [⟨ofL [41], 1 :: above, (p : Int)⟩] ++ [⟨ofL [34], above, (p : Int)⟩]) := by
            unfold inR midR
            simp only [List.append_assoc, List.cons_append, List.nil_append]
          have hrow : ∀ x ∈ inR K H S f p above, RowIs n x ∧ x.shell = (p : Int) := fun x hx => by
            unfold inR at hx
            simp only [List.mem_append, List.mem_cons, List.not_mem_nil, or_false] at hx
            rcases hx with (rfl | hx) | rfl
            · exact ⟨hq1, rfl⟩
            · exact ⟨mid_is T hn f p _ _ hp ho1 hpn x hx, mid_shell f p _ _ (by omega) x hx⟩
            · exact ⟨hq1, rfl⟩
          have htext : txtR (inR K H S f p above) = 34 :: appH above (stepH 1 (insideT K H S f p)) ++ [34] := by
            unfold inR txtR
            rw [List.flatMap_append, List.flatMap_append]
            have e1 : (midR K H S f p (1 :: above) (p : Int)).flatMap wrR = appH above (stepH 1 (insideT K H S f p)) := em.symm
            rw [e1]
            simp only [List.flatMap_cons, List.flatMap_nil, List.append_nil, hw]
            rfl
          rw [hshape] at hrow htext ⊢
          exact .inn (by omega) hrow htext (tok_appH h02 (tok_esc1 _)) hw rfl
      · rename_i h2
        have hid : 3 ∈ above ∨ 4 ∈ above := by
          by_cases h3 : 3 ∈ above
          · exact .inl h3
          · by_cases h4 : 4 ∈ above
            · exact .inr h4
            · exact absurd ⟨h3, h4⟩ h2
        have hq : SegOk n (.out ⟨ofL [34], above, -1⟩) := .out ⟨⟨34, by decide, rfl⟩, ho, by show (-1 : Int) < n; omega⟩ rfl (by rw [wrR_sign]; exact wr_hid ho hid)
        simp only [List.mem_append, List.mem_cons, List.not_mem_nil, or_false] at hs
        rcases hs with ((rfl | rfl | rfl) | hs) | rfl
        · exact out_ok (by decide) (by decide) ho
        · exact out_ok (by decide) (by decide) ho
        · exact hq
        · exact mid 1 (by decide) (fun _ => by rcases hid with z | z <;> simp [z]) s hs
        · exact hq
    · rename_i h
      refine mid _ (T.h5 p) (fun z => ?_) s hs
      have z' : 1 ∈ above := by
        rcases List.mem_cons.mp z with e | z
        · exact absurd e.symm h
        · exact z
      rcases h1 z' with z | z
      · exact .inl (List.mem_cons_of_mem _ z)
      · exact .inr (List.mem_cons_of_mem _ z)

theorem segsP_app : ∀ a b : List Seg, segsP (a ++ b) = segsP a ++ segsP b
  | [], b => rfl
  | .out r :: a, b => segsP_app a b
  | .inn p rs :: a, b => by
    show p :: segsP (a ++ b) = p :: segsP a ++ segsP b
    rw [segsP_app]; rfl
theorem segsP_flat (f : Nat → List Seg) : ∀ l : List Nat, segsP (l.flatMap f) = l.flatMap fun q => segsP (f q)
  | [] => rfl
  | q :: l => by rw [List.flatMap_cons, segsP_app, segsP_flat f l, List.flatMap_cons]
theorem sub_flat {a b : Nat → List Nat} : ∀ {l : List Nat}, (∀ q ∈ l, (a q).Sublist (b q)) → (l.flatMap a).Sublist (l.flatMap b)
  | [], _ => List.Sublist.refl _
  | q :: l, h => by
    rw [List.flatMap_cons, List.flatMap_cons]
    exact (h q (by simp)).append (sub_flat fun r hr => h r (by simp [hr]))
theorem segs_sub : ∀ f p above, (segsP (segsT K H S f p above)).Sublist (lastL K f p)
  | 0, p, above => List.Sublist.refl _
  | f + 1, p, above => by
    have mid : ∀ here, (segsP (midG K H S f p here)).Sublist (lastL K (f + 1) p) := fun here => by
      unfold midG lastL
      rw [segsP_app, segsP_app, segsP_flat]
      show ([] ++ _ ++ []).Sublist _
      rw [List.nil_append, List.append_nil]
      exact (sub_flat fun q _ => segs_sub f q here).trans (List.sublist_append_left _ _)
    rw [segs_eq]
    split
    · split
      · show [p].Sublist _
        unfold lastL
        exact List.sublist_append_right _ _
      · rw [segsP_app, segsP_app]
        show ([] ++ _ ++ []).Sublist _
        rw [List.nil_append, List.append_nil]
        exact mid _
    · exact mid _

variable {ns : List Nat}
noncomputable def segsN (ns : List Nat) : List Seg := (rootsN ns).flatMap fun r => segsT (kidsN ns) (handsN ns) (signsN ns) ns.length r []
theorem segsN_rows : segsR (segsN ns) = rowsI ns (rootsN ns).length := by
  unfold segsN rowsI
  rw [segsR_flat, List.take_length]
  exact congrArg List.flatten (List.map_congr_left fun q _ => segs_rows _ q [])
theorem segsN_ok (h7 : ns.length ≤ 7) : ∀ s ∈ segsN ns, SegOk ns.length s := fun s hs => by
  obtain ⟨r, hr, hs⟩ := List.mem_flatMap.mp hs
  exact segs_ok (tree_N h7) (by rw [kidsN_len]; exact Nat.le_refl _) _ r [] (by rw [kidsN_len]; exact (roots_mem hr).1) (fun _ h => nomatch h) (fun h => nomatch h) s hs
theorem segsN_nodup : (segsP (segsN ns)).Nodup := by
  unfold segsN
  rw [segsP_flat]
  exact List.Nodup.sublist (sub_flat fun q _ => segs_sub _ q []) places_nodup
theorem brksN_eq (h7 : ns.length ≤ 7) : brksN ns = brsS 0 (segsN ns) := by
  unfold brksN
  rw [← segsN_rows]
  exact brks_segs (segsN_ok h7) segsN_nodup
theorem textN_eq (h7 : ns.length ≤ 7) : textN ns = txtR (segsR (segsN ns)) := by
  rw [segsN_rows]; exact text_rows h7
theorem raw_worth : ∀ {rs : List Row} {a : Nat}, ∀ b ∈ rawS a rs, -1 ≤ b.worth ∧ b.worth ≤ 1
  | [], a, b, hb => by cases hb
  | r :: rs, a, b, hb => by
    unfold rawS brOpen brShut at hb
    simp only [List.mem_append] at hb
    rcases hb with (hb | hb) | hb
    · split at hb
      · rw [List.mem_singleton] at hb; subst hb; exact ⟨by show (-1 : Int) ≤ 1; decide, by show (1 : Int) ≤ 1; decide⟩
      · cases hb
    · split at hb
      · rw [List.mem_singleton] at hb; subst hb; exact ⟨by show (-1 : Int) ≤ -1; decide, by show (-1 : Int) ≤ 1; decide⟩
      · cases hb
    · exact raw_worth b hb

theorem tells (h7 : ns.length ≤ 7) : Tells ns where
  rowOk := fun r hr => (rowOkN h7 r hr).1
  due := dueN h7
  keys := keysN
  sok := letters_ok h7
  asc := text_asc h7
  brl := by
    have h1 := pl_brs (rows := rowsI ns (rootsN ns).length) (p := ⟨Str.empty, [], List.replicate ns.length 0⟩)
    have h2 := flat_mul (a := fun r => rowsL (kidsN ns) (handsN ns) (signsN ns) ns.length r [] (-1)) (b := lastL (kidsN ns) ns.length) (c := 7) (l := rootsN ns) fun q hq => rows_len _ q _ _
    have h3 := places_len (ns := ns)
    unfold placesN at h3
    have h4 : (rowsI ns (rootsN ns).length).length ≤ 49 := by unfold rowsI; rw [List.take_length]; omega
    unfold brksN brksOf plOf
    rw [List.length_map]
    simp only [List.length_nil] at h1
    omega
  worth := fun b hb => by
    unfold brksN brksOf plOf at hb
    obtain ⟨b', hb', rfl⟩ := List.mem_map.mp hb
    rw [pl_raw, List.nil_append] at hb'
    exact raw_worth b' hb'
  net := fun cut hc => by
    have := front (cut : Int) (a := 0) (segsN_ok h7)
    rw [← textN_eq h7, ← brksN_eq h7, show ((cut : Int) - ((0 : Nat) : Int)).toNat = cut by omega] at this
    exact this
  behind := fun cut hc hf => by
    have h1 := front (cut : Int) (a := 0) (segsN_ok h7)
    have h2 := front ((textN ns).length : Int) (a := 0) (segsN_ok h7)
    have h3 := behind (cut : Int) (a := 0) (segsN_ok h7) (by rw [← brksN_eq h7]; exact hf)
    rw [← textN_eq h7, show ((cut : Int) - ((0 : Nat) : Int)).toNat = cut by omega] at h1 h3
    rw [← textN_eq h7, show (((textN ns).length : Int) - ((0 : Nat) : Int)).toNat = (textN ns).length by omega, List.take_length] at h2
    rw [← brksN_eq h7] at h1 h2
    rw [← h1, ← h2]; exact h3
end Mine
end

section
open PySem PySem.W PySem.Calls PySem.Spec PyProof.Rows
set_option Elab.async false
set_option linter.unusedVariables false
namespace Mine

section
variable {prog : Program} {w : World} {hb : Heap} {mg mb : Str → Option Value} {K : Frag} {C : Addr}

theorem law_all {A : Around} {nm : Str} {L a : Addr} {cd : Value} {X : Addr → Prop} {pr : Addr → Obj → Prop} {s0 : Shared} (hA : Room 20 A) (M : Mod hb mg mb) (Y : Mk hb mg mb K C) (T : NewTab hb mg K C) (Z : Helps hb mg)
    {script : List Int} (hsc : script.length ≤ 1000) (hpr : ∀ b o, s0.heap.get? b = some o → pr b o) :
    Ex prog w hb (cxW A nm L a cd X pr s0) (asc [(Str.ofString "script", .list (script.map .int))]) [] (dBody (defAt 24)) (Yes w s0) :=
  law_a (hA.le (by omega)) M Y.len Z.range hsc fun X' => law_b hA M Y T Z (fits (nums_len script)) fun X'' H => law_c hA M Y T Z (nums_lt script) (fits (nums_len script)) (tells (nums_len script)) hpr
end
end Mine
end

section
open PySem PySem.W PySem.Calls PySem.Spec PyProof.Rows
set_option Elab.async false
set_option linter.unusedVariables false
namespace Mine

section
variable {M : Model} {A : Around} {E : Value → Shared → Prop} {s : Shared}
/-- a frame with cells and one argument: a token is spent -/
theorem newEnv_one {scope : Scope} {globals : Addr} {n : Str} {v : Value} {qual : Str} {func : Option Addr} {code : Value} {builtins : Addr} {Q : Env → Shared → Prop}
    (hk : scope.kind = .function) (hl : scope.names.lookup n = some .local)
    (hQ : ∀ h', h'.Ns s.heap.objs.size (fun y => if y = n then some v else none) → (∀ b o, s.heap.get? b = some o → h'.get? b = some o) → CellsOk h' (s.heap.objs.size + 1) (cellsFrom (s.heap.objs.size + 1) scope.names []) →
      Q (newEnv scope s.heap.objs.size globals (cellsFrom (s.heap.objs.size + 1) scope.names []) qual func code none builtins) { s with heap := h', toks := s.toks + 1 }) :
    wpAny M A (newFunctionEnv scope globals [] [(n, v)] qual func code none builtins) Q E s := by
  unfold newFunctionEnv
  simp only [Option.isSome_none, Bool.false_eq_true, if_false]
  refine wpAny_bind (wpAny_alloc (wpAny_bind (wpAny_layCells _ (fun name kind cells => by cases hkc : kind == NameKind.cell <;> simp [hkc]) _ _ _ _ ?_)))
  generalize hf : ({ cls := .type "frame", data := .dict #[] } : Obj) = fr
  have ok := cellsFrom_ok scope.names (s.heap.push fr) (s.heap.objs.size + 1) [] ⟨fun _ _ hm => (nomatch hm), .nil⟩ (by rw [Heap.size_push]; exact Nat.le_refl _)
  have hsz : (s.heap.push fr).objs.size = s.heap.objs.size + 1 := Heap.size_push ..
  rw [hsz] at ok
  have hns : (pushCells (s.heap.push fr) scope.names).Ns s.heap.objs.size fun _ => none := by
    subst hf
    exact (Heap.Ns.new s.heap (.type "frame")).keeps (pushCells_keeps _ _)
  have hkp : ∀ b o, s.heap.get? b = some o → (pushCells (s.heap.push fr) scope.names).get? b = some o := fun b o e => pushCells_keeps _ _ b o (Heap.get?_push_of_some _ e)
  rw [List.forIn_cons]
  rw [show ({ s with heap := s.heap.push fr } : Shared).heap.objs.size = s.heap.objs.size + 1 from hsz]
  refine wpAny_bind (wpAny_bind (wpAny_bind (wpAny_storeName_local (m := fun _ => none) hl hns (fun h' hn' hs' => wpAny_pure ?_) (by show (scope.kind == .class || (scope.kind == .module && _)) = false; rw [hk]; rfl))))
  dsimp only
  rw [List.forIn_nil]
  refine wpAny_pure (wpAny_pure ?_)
  have hnL : s.heap.get? s.heap.objs.size = none := get_fresh
  refine hQ h' hn' (fun b o e => (hs'.2 b fun z => ?_).trans (hkp b o e)) ⟨fun k c hm => ?_, ok.apart⟩
  · rw [z] at e
    have e' : s.heap.get? s.heap.objs.size = some o := e
    rw [hnL] at e'; cases e'
  · obtain ⟨a, b⟩ := ok.empty k c hm
    exact ⟨a.sameBut hs' (Nat.ne_of_gt (Nat.lt_of_succ_le b)), b⟩
end

section
variable {prog : Program} {w : World} {mg mb : Str → Option Value} {K : Frag} {C : Addr}

theorem law_run {A : Around} {s : Shared} (hA : Room 21 A) (M : Mod s.heap mg mb) (Y : Mk s.heap mg mb K C) (T : NewTab s.heap mg K C) (Z : Helps s.heap mg)
    {fa : Addr} {o : Obj} {nme qual : Str} {kV doc pm cd ct : Value} {an : Option Addr} (ho : s.heap.get? fa = some o) (hd : o.data = .func (fnOf nme qual (dArgs (defAt 24)) (dBody (defAt 24)) (dScope (defAt 24)) .none kV doc pm an cd ct))
    (hcd : s.heap.CodeRec cd qual) {script : List Int} (hsc : script.length ≤ 1000) {v : Value} (hv : Holds w.params (vis (fun _ => False) s.heap) v (.list (script.map .int))) :
    wpAny (model prog w) A (call (.ref fa) [v]) (fun r s' => Keeps s s' ∧ Holds w.params (vis (fun _ => False) s'.heap) r (.bool true)) NoE s := by
  have hlt : A.depth < recursionLimit := by have := hA.dp; show A.depth < 1000; omega
  refine wpAny_call (codeAny_call_function hlt ho hd rfl rfl rfl hcd ?_)
  show wpAny _ _ (bindArgs (fnOf nme qual (dArgs (defAt 24)) (dBody (defAt 24)) (dScope (defAt 24)) .none kV doc pm an cd ct) ⟨[v], []⟩) _ _ _
  rw [show bindArgs (fnOf nme qual (dArgs (defAt 24)) (dBody (defAt 24)) (dScope (defAt 24)) .none kV doc pm an cd ct) ⟨[v], []⟩ = pure [(Str.ofString "script", v)] from rfl]
  refine wpAny_pure (newEnv_one (n := Str.ofString "script") rfl rfl fun h' hn hkp ok => ?_)
  refine ⟨M.lim.keeps hkp, codeAny_func ?_⟩
  generalize hL : s.heap.objs.size = L at hn ok
  have hnone : ∀ b, L ≤ b → s.heap.get? b = none := fun b hb' => by
    cases e : s.heap.get? b with
    | none => rfl
    | some o => exact absurd (Heap.lt_size e) (by rw [hL]; exact Nat.not_lt.mpr hb')
  have hA' : Room 20 (A.deeper (newEnv (dScope (defAt 24)) L mainGlobals (cellsFrom (L + 1) (dScope (defAt 24)).names []) (qual ++ ".<locals>.") (some fa) cd none builtinsNs)) := hA.deeper _
  let X : Addr → Prop := fun b => b = L ∨ (∃ n, (cellsFrom (L + 1) (dScope (defAt 24)).names []).lookup n = some b)
  let pr : Addr → Obj → Prop := fun b o => s.heap.get? b = some o
  have hX : ∀ b, X b → L ≤ b := fun b hb' => by
    rcases hb' with rfl | ⟨n, e⟩
    · exact Nat.le_refl _
    · have := (ok.empty n b (mem_of_lookup e)).2; omega
  have hbase : ∀ b o, s.heap.get? b = some o → h'.get? b = some o ∧ ¬ X b := fun b o e => ⟨hkp b o e, fun z => by rw [hnone b (hX b z)] at e; cases e⟩
  have st : St w.params s.heap (cxW (A.deeper (newEnv (dScope (defAt 24)) L mainGlobals (cellsFrom (L + 1) (dScope (defAt 24)).names []) (qual ++ ".<locals>.") (some fa) cd none builtinsNs)) qual L fa cd X pr s) (asc [(Str.ofString "script", .list (script.map .int))]) [] { s with heap := h', toks := s.toks + 1 } := {
    sh := ⟨h', _, rfl⟩
    tok := Nat.succ_pos _
    tk0 := Nat.le_succ _
    live := fun b hx => by
      rcases hx with rfl | ⟨n, e⟩
      · obtain ⟨o, _, _, e, _⟩ := hn; exact ⟨o, e⟩
      · obtain ⟨o, e', _⟩ := (ok.empty n b (mem_of_lookup e)).1; exact ⟨o, e'⟩
    pres := fun b o e => hkp b o e
    base := hbase
    nsx := ⟨_, hn⟩
    fk := rfl
    fg := rfl
    fb := rfl
    lx := .inl rfl
    lp := fun o e => by have e' : s.heap.get? L = some o := e; rw [hnone L (Nat.le_refl _)] at e'; cases e'
    cel := fun x c e => by
      have e' : (cellsFrom (L + 1) (dScope (defAt 24)).names []).lookup x = some c := e
      have h1 := ok.empty x c (mem_of_lookup e')
      exact ⟨.inr ⟨x, e'⟩, Nat.ne_of_gt (Nat.lt_of_succ_le h1.2), _, h1.1⟩
    cwr := fun _ x c e => by
      have e' : (cellsFrom (L + 1) (dScope (defAt 24)).names []).lookup x = some c := e
      have h1 := ok.empty x c (mem_of_lookup e')
      refine ⟨fun o z => ?_, fun y hy => name_of_addr ok.apart (mem_of_lookup hy) (mem_of_lookup e')⟩
      have z' : s.heap.get? c = some o := z
      have h2 := h1.2
      rw [hnone c (by omega)] at z'; cases z'
    vars := fun x d e => by
      have e' : [(Str.ofString "script", D.list (script.map .int))].lookup x = some d := e
      rw [List.lookup_cons] at e'
      split at e'
      · rename_i q
        cases e'
        rw [beq_iff_eq.mp q]
        exact ⟨v, .inl ⟨rfl, _, hn, by simp⟩, hv.mono fun a o q => hbase a o q.1⟩
      · cases e'
    muo := fun _ h => nomatch h
    mui := fun _ h => nomatch h
    mnd := .nil }
  have run := (law_all (prog := prog) (nm := qual) (L := L) (a := fa) (cd := cd) (X := X) (pr := pr) (s0 := s) hA' M Y T Z hsc (fun b o e => e)).run _ st
  exact noE' run fun f s' q => q
end
end Mine
end

section
open PySem PySem.W PySem.Calls PySem.Spec PyProof.Rows
open PySem.Builtin.Re
set_option Elab.async false
set_option linter.unusedVariables false
namespace Mine

/-! what is read out of the written heap -/
noncomputable def nsV (K : Frag) (x : Str) : Option (Option Value) := match K.lookup mainGlobals with
  | some ⟨_, _, .dict es _, _⟩ => some (nsFind es x)
  | _ => none
noncomputable def adrOf (v : Option (Option Value)) : Addr := match v with
  | some (some (.ref a)) => a
  | _ => 0
noncomputable def refOf : Value → Addr
  | .ref a => a
  | _ => 0
noncomputable def obOf (K : Frag) (a : Addr) : Obj := (K.lookup a).getD { cls := .none }
noncomputable def fdOf (K : Frag) (a : Addr) : FuncData := match (obOf K a).data with
  | .func fd => fd
  | _ => fnOf "" "" ⟨[], [], none, [], [], none, []⟩ [] ⟨.function, [], false, false, []⟩ .none .none .none .none none .none .none
noncomputable def fldOf (K : Frag) (a : Addr) : Array Value := match (obOf K a).data with
  | .fields vs => vs
  | _ => #[]
noncomputable def seqOf (K : Frag) (a : Addr) : Array Value × Nat := match (obOf K a).data with
  | .seq vs n => (vs, n)
  | _ => (#[], 0)
noncomputable def tokOf : Value → Nat
  | .int _ t => t
  | _ => 0
theorem mg_of {K : Frag} {h : Heap} {mg : Str → Option Value} {x : Str} {r : Option Value} (X : K.In h) (N : h.Ns mainGlobals mg) (e : nsV K x = some r) : mg x = r := by
  unfold nsV at e
  split at e
  · rename_i oc od es n sl ho
    obtain ⟨o, es', ep, e1, e2, _, f⟩ := N
    have := X _ _ ho
    rw [this] at e1
    cases e1
    cases e2
    rw [← f]; exact Option.some.inj e
  · cases e

/-- a def stands at a -/
structure FnAt (K : Frag) (a : Addr) (st : Stmt) (dV : Value) : Prop where
  at_ : K.lookup a = some (obOf K a)
  fn : (obOf K a).data = .func (fnOf (fdOf K a).name (fdOf K a).qualname (dArgs st) (dBody st) (dScope st) dV (fdOf K a).kwdefaults (fdOf K a).doc (fdOf K a).pyModule (fdOf K a).annotations (fdOf K a).code (fdOf K a).closureTuple)
  code : codeIn K (fdOf K a).code (fdOf K a).qualname = true
structure DefK (K : Frag) (nm : Str) (st : Stmt) (dV : Value) : Prop where
  name : nsV K nm = some (some (.ref (adrOf (nsV K nm))))
  fn : FnAt K (adrOf (nsV K nm)) st dV
structure PatK (K : Frag) (nm : Str) (code : Array Nat) (kind : Nat) : Prop where
  name : nsV K nm = some (some (.ref (adrOf (nsV K nm))))
  obj : K.lookup (adrOf (nsV K nm)) = some { cls := .type "re.Pattern", data := .fields #[(fldOf K (adrOf (nsV K nm))).getD 0 .none, (fldOf K (adrOf (nsV K nm))).getD 1 .none, .int 0 0, (fldOf K (adrOf (nsV K nm))).getD 3 .none, (fldOf K (adrOf (nsV K nm))).getD 4 .none, .ref (refOf ((fldOf K (adrOf (nsV K nm))).getD 5 .none)), .int kind 0] }
  codes : K.lookup (refOf ((fldOf K (adrOf (nsV K nm))).getD 5 .none)) = some { cls := (obOf K (refOf ((fldOf K (adrOf (nsV K nm))).getD 5 .none))).cls, data := .seq (seqOf K (refOf ((fldOf K (adrOf (nsV K nm))).getD 5 .none))).1 }
  same : (((seqOf K (refOf ((fldOf K (adrOf (nsV K nm))).getD 5 .none))).1.map reRawOf).map (·.toNat)) = code
noncomputable def clsK (K : Frag) : Addr := adrOf (nsV K "Headers")
structure MethK (K : Frag) (nm : Str) (st : Stmt) (dV : Value) : Prop where
  name : findIn K (.ref (clsK K)) nm = some (some (.ref (adrOf (findIn K (.ref (clsK K)) nm))))
  ty : typeIn K (.ref (adrOf (findIn K (.ref (clsK K)) nm))) = some (.type "function")
  fn : FnAt K (adrOf (findIn K (.ref (clsK K)) nm)) st dV
noncomputable def dfl (K : Frag) (a : Addr) : Addr := refOf (fdOf K a).defaults

structure KFacts (K : Frag) : Prop where
  big : K.lookup mainGlobals = some (obOf K mainGlobals)
  nLen : nsV K "len" = some none
  nRange : nsV K "range" = some none
  nSum : nsV K "sum" = some none
  nType : nsV K "type" = some none
  nList : nsV K "list" = some none
  nStr : nsV K "str" = some none
  made : DefK K "_law_made" (defAt 17) .none
  names : DefK K "_law_names" (defAt 18) .none
  written : DefK K "_law_written" (defAt 19) .none
  rows : DefK K "_law_rows" (defAt 20) .none
  last : DefK K "_law_last" (defAt 21) .none
  placed : DefK K "_law_placed" (defAt 22) .none
  depth : DefK K "_law_depth" (defAt 23) .none
  e2 : DefK K "_escape_cdata" (defAt 13) .none
  e3 : DefK K "_escape_attrib_html" (defAt 14) .none
  e4 : DefK K "_escape_attrib_c14n" (defAt 15) .none
  paren : DefK K "_paren_depth" (defAt 4) (.ref (dfl K (adrOf (nsV K "_paren_depth"))))
  parenD : K.lookup (dfl K (adrOf (nsV K "_paren_depth"))) = some { cls := (obOf K (dfl K (adrOf (nsV K "_paren_depth")))).cls, data := .seq #[.int 0 (tokOf ((seqOf K (dfl K (adrOf (nsV K "_paren_depth")))).1.getD 0 .none))] (seqOf K (dfl K (adrOf (nsV K "_paren_depth")))).2 }
  fpar : DefK K "_formatparam" (defAt 9) (.ref (dfl K (adrOf (nsV K "_formatparam"))))
  fparD : K.lookup (dfl K (adrOf (nsV K "_formatparam"))) = some { cls := (obOf K (dfl K (adrOf (nsV K "_formatparam")))).cls, data := .seq #[.none, .int 1 (tokOf ((seqOf K (dfl K (adrOf (nsV K "_formatparam")))).1.getD 1 .none))] (seqOf K (dfl K (adrOf (nsV K "_formatparam")))).2 }
  quo : PatK K "_quoted" quotCode 1
  pn : PatK K "_name_disallowed_re" nameCode 0
  pv : PatK K "_value_disallowed_re" valueCode 0
  cName : nsV K "Headers" = some (some (.ref (clsK K)))
  ga : findIn K (.ref (clsK K)) "__getattribute__" = some (some (.builtin "object.__getattribute__"))
  gk : findIn K (.ref (clsK K)) "__getattr__" = some none
  hd : hasDictIn K (clsK K) = true
  at_ : findIn K (.ref (clsK K)) "_headers" = some none
  sa : findIn K (.ref (clsK K)) "__setattr__" = some (some (.builtin "object.__setattr__"))
  po : plainOver K (clsK K) = true
  tk : takerIn K (clsK K) "_headers" = some none
  mks : makesIn K (clsK K) = true
  kp : keepIn K (.ref (clsK K)) = true
  mInit : MethK K "__init__" (methAt 0) (.ref (dfl K (adrOf (findIn K (.ref (clsK K)) "__init__"))))
  mInitD : K.lookup (dfl K (adrOf (findIn K (.ref (clsK K)) "__init__"))) = some { cls := (obOf K (dfl K (adrOf (findIn K (.ref (clsK K)) "__init__")))).cls, data := .seq #[.none] (seqOf K (dfl K (adrOf (findIn K (.ref (clsK K)) "__init__")))).2 }
  mConv : MethK K "_convert_string_type" (methAt 1) .none
  mKeys : MethK K "keys" (methAt 9) .none
  mVals : MethK K "values" (methAt 10) .none
  mAdd : MethK K "add_header" (methAt 16) .none

section
variable {K : Frag} {h : Heap} {mg mb : Str → Option Value}
theorem def_of (X : K.In h) (N : h.Ns mainGlobals mg) {nm : Str} {st : Stmt} {dV : Value} (D : DefK K nm st dV) : ∃ nme qual kV doc pm cdv ct an, DefIs h mg nm st (adrOf (nsV K nm)) dV nme qual kV doc pm cdv ct an :=
  ⟨_, _, _, _, _, _, _, _, mg_of X N D.name, ⟨_, X _ _ D.fn.at_, D.fn.fn⟩, codeRec_of X D.fn.code⟩
theorem meth_of (X : K.In h) {nm : Str} {st : Stmt} {dV : Value} (D : MethK K nm st dV) : ∃ nme qual kV doc pm cdv ct an, MethIs h st (adrOf (findIn K (.ref (clsK K)) nm)) dV nme qual kV doc pm cdv ct an :=
  ⟨_, _, _, _, _, _, _, _, ⟨_, X _ _ D.fn.at_, D.fn.fn⟩, codeRec_of X D.fn.code⟩
theorem def_of0 (X : K.In h) (N : h.Ns mainGlobals mg) {nm : Str} {st : Stmt} (D : DefK K nm st .none) : ∃ f nme qual kV doc pm cdv ct an, DefIs h mg nm st f .none nme qual kV doc pm cdv ct an := ⟨_, def_of X N D⟩
theorem meth_of0 (X : K.In h) {nm : Str} {st : Stmt} (D : MethK K nm st .none) : ∃ f nme qual kV doc pm cdv ct an, MethIs h st f .none nme qual kV doc pm cdv ct an ∧ findIn K (.ref (clsK K)) nm = some (some (.ref f)) ∧ typeIn K (.ref f) = some (.type "function") := by
  obtain ⟨a, b, c, d, e, f, g, i, q⟩ := meth_of X D
  exact ⟨_, a, b, c, d, e, f, g, i, q, D.name, D.ty⟩
theorem pat_of (X : K.In h) (N : h.Ns mainGlobals mg) {nm : Str} {code : Array Nat} {kind : Nat} (D : PatK K nm code kind) : ∃ a c, mg nm = some (.ref a) ∧ PatAt h a c code kind :=
  ⟨_, _, mg_of X N D.name, ⟨⟨_, _, _, _, X _ _ D.obj⟩, ⟨_, _, X _ _ D.codes, D.same⟩⟩⟩

theorem ofString_inj {x y : String} (h : Str.ofString x = Str.ofString y) : x = y := by
  rw [Str.ofString_eq_toList, Str.ofString_eq_toList] at h
  have h0 := congrArg (fun s : Str => s.cps.toList) h
  have h1 : x.toList.map Char.toNat = y.toList.map Char.toNat := h0
  have h2 : x.toList = y.toList := (List.map_inj_right (fun a b e => Char.toNat_inj.mp e)).mp h1
  exact String.toList_inj.mp h2
theorem facts_mod (F : KFacts K) (X : K.In h) (N : h.Ns mainGlobals mg) (B : h.Ns builtinsNs mb) (lim : h.NoLimit) (bi : ∀ x : Str, x ≠ "__name__" → mb x = bootBuiltins x) : Mod h mg mb :=
  ⟨N, B, lim, ⟨mainGlobals, _, by decide, X _ _ F.big⟩, fun x hx => bi (Str.ofString x) fun z => hx (ofString_inj z)⟩
theorem facts_mk (F : KFacts K) (X : K.In h) (N : h.Ns mainGlobals mg) : Mk h mg mb K (clsK K) where
  hc := ⟨X, F.ga, F.gk, F.hd, F.at_⟩
  ts := ⟨pat_of X N F.pn, pat_of X N F.pv, mg_of X N F.nType, mg_of X N F.nStr⟩
  len := mg_of X N F.nLen
  add := meth_of0 X F.mAdd
  conv := meth_of0 X F.mConv
  vals := meth_of0 X F.mVals
  fpar := by obtain ⟨a, b, c, d, e, f, g, i, q⟩ := def_of X N F.fpar; exact ⟨_, _, a, b, c, d, e, f, g, i, _, _, _, q, X _ _ F.fparD⟩
  e2 := def_of0 X N F.e2
  e3 := def_of0 X N F.e3
  e4 := def_of0 X N F.e4
theorem facts_tab (F : KFacts K) (X : K.In h) (N : h.Ns mainGlobals mg) : NewTab h mg K (clsK K) where
  hs := ⟨F.sa, F.po, F.tk⟩
  ty := mg_of X N F.nType
  li := mg_of X N F.nList
  mks := F.mks
  kp := F.kp
  nm := mg_of X N F.cName
  ini := by obtain ⟨a, b, c, d, e, f, g, i, q⟩ := meth_of X F.mInit; exact ⟨_, _, a, b, c, d, e, f, g, i, _, _, q, X _ _ F.mInitD, F.mInit.name, F.mInit.ty⟩
  keys := meth_of0 X F.mKeys
theorem facts_help (F : KFacts K) (X : K.In h) (N : h.Ns mainGlobals mg) : Helps h mg where
  made := def_of0 X N F.made
  names := def_of0 X N F.names
  written := def_of0 X N F.written
  rows := def_of0 X N F.rows
  last := def_of0 X N F.last
  placed := def_of0 X N F.placed
  depth := def_of0 X N F.depth
  paren := by obtain ⟨a, b, c, d, e, f, g, i, q⟩ := def_of X N F.paren; exact ⟨_, _, a, b, c, d, e, f, g, i, _, _, _, q, X _ _ F.parenD⟩
  quoted := pat_of X N F.quo
  range := mg_of X N F.nRange
  sum := mg_of X N F.nSum

theorem list_obj {P : Params} {l : Addr} {vs : List Value} {d : WData} (hL : h.IsList l vs.toArray) (w : Well P h (.ref l) d) : ∃ n, h.get? l = some { cls := .type "list", data := .seq vs.toArray n } := by
  obtain ⟨o, ho, hc, n, hd⟩ := hL
  cases w with
  | bytearray e => rw [ho] at e; cases e; simp at hc
  | list e _ => rw [ho] at e; cases e; cases hd; exact ⟨_, ho⟩
  | tuple e _ => rw [ho] at e; cases e; simp at hc
  | dict e _ => rw [ho] at e; cases e; simp at hc
  | set e _ _ _ => rw [ho] at e; cases e; simp at hc
  | frozenset e _ _ _ => rw [ho] at e; cases e; simp at hc
  | obj e _ _ _ => rw [ho] at e; cases e; simp at hc
/-- the script's list -/
theorem script_holds {P : Params} {l : Addr} : ∀ {vs : List Value} {xs : List Int}, h.IsList l vs.toArray → IntsAre vs xs → (∃ n, h.get? l = some { cls := .type "list", data := .seq vs.toArray n }) → Holds P (vis (fun _ => False) h) (.ref l) (.list (xs.map .int)) := by
  intro vs xs hL hI hn
  obtain ⟨n, hn⟩ := hn
  have key : ∀ {vs : List Value} {xs : List Int}, IntsAre vs xs → vs.length = xs.length ∧ ∀ (i : Nat) (v : Value) (d : D), vs[i]? = some v → (xs.map D.int)[i]? = some d → Holds P (vis (fun _ => False) h) v d := by
    intro vs xs hI
    induction hI with
    | nil => exact ⟨rfl, fun i v d a => by simp at a⟩
    | cons x t _ ih =>
      refine ⟨by simp [ih.1], fun i v d a b => ?_⟩
      cases i with
      | zero => simp at a b; subst a b; exact .int
      | succ i => exact ih.2 i v d (by simpa using a) (by simpa using b)
  obtain ⟨k1, k2⟩ := key hI
  exact .list (n := n) ⟨hn, fun z => z⟩ (by simp [k1]) fun i v d a b => k2 i v d (by simpa using a) b
end
end Mine
end

section
open PySem PySem.W PySem.Calls PySem.Spec PyProof.Rows
set_option Elab.async false
set_option linter.unusedVariables false
set_option maxRecDepth 100000
set_option maxHeartbeats 8000000
namespace Mine

/-! what the top leaves, as far as it is asked (written by KGen) -/
noncomputable def heapK (P : Params) : Frag := [
  (3, { cls := Value.type "dict", data := Data.dict #[{ hash := PyData.keyHash P (Str.ofString "__name__"), key := Value.str (Str.ofString "__name__") 165, val := Value.str (Str.ofString "law_xn0018_01") 639 }, { hash := PyData.keyHash P (Str.ofString "__doc__"), key := Value.str (Str.ofString "__doc__") 166, val := Value.none }, { hash := PyData.keyHash P (Str.ofString "__package__"), key := Value.str (Str.ofString "__package__") 167, val := Value.none }, { hash := PyData.keyHash P (Str.ofString "__loader__"), key := Value.str (Str.ofString "__loader__") 168, val := Value.builtin "__main__.__loader__#opaque" }, { hash := PyData.keyHash P (Str.ofString "__spec__"), key := Value.str (Str.ofString "__spec__") 169, val := Value.none }, { hash := PyData.keyHash P (Str.ofString "__annotations__"), key := Value.str (Str.ofString "__annotations__") 170, val := Value.ref 6 }, { hash := PyData.keyHash P (Str.ofString "__builtins__"), key := Value.str (Str.ofString "__builtins__") 171, val := Value.ref 4 }, { hash := PyData.keyHash P (Str.ofString "__file__"), key := Value.str (Str.ofString "__file__") 173, val := Value.str (Str.ofString "/claim/cut.py") 172 }, { hash := PyData.keyHash P (Str.ofString "__cached__"), key := Value.str (Str.ofString "__cached__") 174, val := Value.none }, { hash := PyData.keyHash P (Str.ofString "_sre"), key := Value.str (Str.ofString "_sre") 275, val := Value.ref 12 }, { hash := PyData.keyHash P (Str.ofString "_wall"), key := Value.str (Str.ofString "_wall") 288, val := Value.ref 38 }, { hash := PyData.keyHash P (Str.ofString "_quoted"), key := Value.str (Str.ofString "_quoted") 334, val := Value.ref 43 }, { hash := PyData.keyHash P (Str.ofString "_paren_depth"), key := Value.str (Str.ofString "_paren_depth") 343, val := Value.ref 51 }, { hash := PyData.keyHash P (Str.ofString "tspecials"), key := Value.str (Str.ofString "tspecials") 379, val := Value.ref 56 }, { hash := PyData.keyHash P (Str.ofString "_name_disallowed_re"), key := Value.str (Str.ofString "_name_disallowed_re") 405, val := Value.ref 61 }, { hash := PyData.keyHash P (Str.ofString "_value_disallowed_re"), key := Value.str (Str.ofString "_value_disallowed_re") 439, val := Value.ref 66 }, { hash := PyData.keyHash P (Str.ofString "_formatparam"), key := Value.str (Str.ofString "_formatparam") 449, val := Value.ref 74 }, { hash := PyData.keyHash P (Str.ofString "Headers"), key := Value.str (Str.ofString "Headers") 608, val := Value.ref 197 }, { hash := PyData.keyHash P (Str.ofString "_raise_serialization_error"), key := Value.str (Str.ofString "_raise_serialization_error") 617, val := Value.ref 208 }, { hash := PyData.keyHash P (Str.ofString "_escape_cdata"), key := Value.str (Str.ofString "_escape_cdata") 624, val := Value.ref 215 }, { hash := PyData.keyHash P (Str.ofString "_escape_attrib_html"), key := Value.str (Str.ofString "_escape_attrib_html") 631, val := Value.ref 222 }, { hash := PyData.keyHash P (Str.ofString "_escape_attrib_c14n"), key := Value.str (Str.ofString "_escape_attrib_c14n") 638, val := Value.ref 229 }, { hash := PyData.keyHash P (Str.ofString "_law_made"), key := Value.str (Str.ofString "_law_made") 653, val := Value.ref 236 }, { hash := PyData.keyHash P (Str.ofString "_law_names"), key := Value.str (Str.ofString "_law_names") 659, val := Value.ref 243 }, { hash := PyData.keyHash P (Str.ofString "_law_written"), key := Value.str (Str.ofString "_law_written") 665, val := Value.ref 248 }, { hash := PyData.keyHash P (Str.ofString "_law_rows"), key := Value.str (Str.ofString "_law_rows") 681, val := Value.ref 255 }, { hash := PyData.keyHash P (Str.ofString "_law_last"), key := Value.str (Str.ofString "_law_last") 691, val := Value.ref 262 }, { hash := PyData.keyHash P (Str.ofString "_law_placed"), key := Value.str (Str.ofString "_law_placed") 697, val := Value.ref 267 }, { hash := PyData.keyHash P (Str.ofString "_law_depth"), key := Value.str (Str.ofString "_law_depth") 703, val := Value.ref 272 }, { hash := PyData.keyHash P (Str.ofString "law"), key := Value.str (Str.ofString "law") 709, val := Value.ref 277 }] 30 }),
  (42, { cls := Value.type "tuple", data := Data.seq #[Value.int 14 0, Value.int 8 0, Value.int 1 0, Value.int 2 0, Value.int 4294967295 0, Value.int 1 0, Value.int 1 0, Value.int 34 0, Value.int 0 0, Value.int 16 0, Value.int 34 0, Value.int 28 0, Value.int 22 0, Value.int 0 0, Value.int 4294967295 0, Value.int 7 0, Value.int 11 0, Value.int 13 0, Value.int 7 0, Value.int 21 0, Value.int 16 0, Value.int 34 0, Value.int 16 0, Value.int 92 0, Value.int 0 0, Value.int 15 0, Value.int 8 0, Value.int 6 0, Value.int 16 0, Value.int 92 0, Value.int 2 0, Value.int 15 0, Value.int 2 0, Value.int 0 0, Value.int 1 0, Value.int 16 0, Value.int 34 0, Value.int 1 0] }),
  (43, { cls := Value.type "re.Pattern", data := Data.fields #[Value.bytes #[34, 40, 63, 58, 91, 94, 34, 92, 92, 93, 124, 92, 92, 46, 41, 42, 43, 34] 292, Value.int 0 333, Value.int 0 0, Value.none, Value.none, Value.ref 42, Value.int 1 0] }),
  (44, { cls := Value.type "tuple", data := Data.seq #[Value.int 0 335] }),
  (50, { cls := Value.type "code", data := Data.fields #[Value.str (Str.ofString "_paren_depth") 336, Value.str (Str.ofString "_paren_depth") 337, Value.str (Str.ofString "/claim/cut.py") 338, Value.int 7 0, Value.int 2 0, Value.int 0 0, Value.int 0 0, Value.int 3 0, Value.ref 45, Value.bool true, Value.int 276 0, Value.ref 46, Value.none, Value.ref 47, Value.ref 48, Value.ref 49, Value.int 341 0, Value.int 7 0, Value.str (Str.ofString "/claim/cut.py") 342] }),
  (51, { cls := Value.type "function", data := Data.func { name := Str.ofString "_paren_depth", qualname := Str.ofString "_paren_depth", params := Mine.dArgs (Mine.defAt 4), body := FuncBody.stmts (Mine.dBody (Mine.defAt 4)), scope := Mine.dScope (Mine.defAt 4), globals := 3, closure := [], defaults := Value.ref 44, kwdefaults := Value.none, pyModule := Value.str (Str.ofString "cpy313.imaplib") 289, code := Value.ref 50 } }),
  (60, { cls := Value.type "tuple", data := Data.seq #[Value.int 14 0, Value.int 10 0, Value.int 4 0, Value.int 1 0, Value.int 1 0, Value.int 22 0, Value.int 0 0, Value.int 31 0, Value.int 16 0, Value.int 127 0, Value.int 0 0, Value.int 13 0, Value.int 7 0, Value.int 22 0, Value.int 0 0, Value.int 31 0, Value.int 16 0, Value.int 127 0, Value.int 0 0, Value.int 1 0] }),
  (61, { cls := Value.type "re.Pattern", data := Data.fields #[Value.str (Str.ofString "[\\x00-\\x1F\\x7F]") 381, Value.int 32 404, Value.int 0 0, Value.none, Value.none, Value.ref 60, Value.int 0 0] }),
  (65, { cls := Value.type "tuple", data := Data.seq #[Value.int 14 0, Value.int 14 0, Value.int 4 0, Value.int 1 0, Value.int 1 0, Value.int 9 0, Value.int 4294966783 0, Value.int 0 0, Value.int 0 0, Value.int 2147483648 0, Value.int 0 0, Value.int 0 0, Value.int 0 0, Value.int 0 0, Value.int 0 0, Value.int 13 0, Value.int 11 0, Value.int 9 0, Value.int 4294966783 0, Value.int 0 0, Value.int 0 0, Value.int 2147483648 0, Value.int 0 0, Value.int 0 0, Value.int 0 0, Value.int 0 0, Value.int 0 0, Value.int 1 0] }),
  (66, { cls := Value.type "re.Pattern", data := Data.fields #[Value.str (Str.ofString "[\\x00-\\x08\\x0A-\\x1F\\x7F]") 407, Value.int 32 438, Value.int 0 0, Value.none, Value.none, Value.ref 65, Value.int 0 0] }),
  (67, { cls := Value.type "tuple", data := Data.seq #[Value.none, Value.int 1 440] }),
  (73, { cls := Value.type "code", data := Data.fields #[Value.str (Str.ofString "_formatparam") 441, Value.str (Str.ofString "_formatparam") 442, Value.str (Str.ofString "/claim/cut.py") 443, Value.int 14 0, Value.int 3 0, Value.int 0 0, Value.int 0 0, Value.int 3 0, Value.ref 68, Value.bool true, Value.int 276 0, Value.ref 69, Value.none, Value.ref 70, Value.ref 71, Value.ref 72, Value.int 447 0, Value.int 14 0, Value.str (Str.ofString "/claim/cut.py") 448] }),
  (74, { cls := Value.type "function", data := Data.func { name := Str.ofString "_formatparam", qualname := Str.ofString "_formatparam", params := Mine.dArgs (Mine.defAt 9), body := FuncBody.stmts (Mine.dBody (Mine.defAt 9)), scope := Mine.dScope (Mine.defAt 9), globals := 3, closure := [], defaults := Value.ref 67, kwdefaults := Value.none, pyModule := Value.str (Str.ofString "cpy313.wsgiref.headers") 344, code := Value.ref 73 } }),
  (82, { cls := Value.type "tuple", data := Data.seq #[Value.none] }),
  (88, { cls := Value.type "code", data := Data.fields #[Value.str (Str.ofString "__init__") 462, Value.str (Str.ofString "Headers.__init__") 463, Value.str (Str.ofString "/claim/cut.py") 464, Value.int 25 0, Value.int 2 0, Value.int 0 0, Value.int 0 0, Value.int 3 0, Value.ref 83, Value.bool true, Value.int 276 0, Value.ref 84, Value.none, Value.ref 85, Value.ref 86, Value.ref 87, Value.int 469 0, Value.int 25 0, Value.str (Str.ofString "/claim/cut.py") 470] }),
  (89, { cls := Value.type "function", data := Data.func { name := Str.ofString "__init__", qualname := Str.ofString "Headers.__init__", params := Mine.dArgs (Mine.methAt 0), body := FuncBody.stmts (Mine.dBody (Mine.methAt 0)), scope := Mine.dScope (Mine.methAt 0), globals := 3, closure := [], defaults := Value.ref 82, kwdefaults := Value.none, pyModule := Value.str (Str.ofString "cpy313.wsgiref.headers") 344, code := Value.ref 88 } }),
  (95, { cls := Value.type "code", data := Data.fields #[Value.str (Str.ofString "_convert_string_type") 472, Value.str (Str.ofString "Headers._convert_string_type") 473, Value.str (Str.ofString "/claim/cut.py") 474, Value.int 35 0, Value.int 2 0, Value.int 0 0, Value.int 1 0, Value.int 3 0, Value.ref 90, Value.bool true, Value.int 276 0, Value.ref 91, Value.none, Value.ref 92, Value.ref 93, Value.ref 94, Value.int 479 0, Value.int 35 0, Value.str (Str.ofString "/claim/cut.py") 480] }),
  (96, { cls := Value.type "function", data := Data.func { name := Str.ofString "_convert_string_type", qualname := Str.ofString "Headers._convert_string_type", params := Mine.dArgs (Mine.methAt 1), body := FuncBody.stmts (Mine.dBody (Mine.methAt 1)), scope := Mine.dScope (Mine.methAt 1), globals := 3, closure := [], defaults := Value.none, kwdefaults := Value.none, pyModule := Value.str (Str.ofString "cpy313.wsgiref.headers") 344, code := Value.ref 95 } }),
  (148, { cls := Value.type "code", data := Data.fields #[Value.str (Str.ofString "keys") 539, Value.str (Str.ofString "Headers.keys") 540, Value.str (Str.ofString "/claim/cut.py") 541, Value.int 70 0, Value.int 1 0, Value.int 0 0, Value.int 0 0, Value.int 3 0, Value.ref 145, Value.bool true, Value.int 276 0, Value.ref 146, Value.none, Value.none, Value.none, Value.ref 147, Value.int 542 0, Value.int 70 0, Value.str (Str.ofString "/claim/cut.py") 543] }),
  (149, { cls := Value.type "function", data := Data.func { name := Str.ofString "keys", qualname := Str.ofString "Headers.keys", params := Mine.dArgs (Mine.methAt 9), body := FuncBody.stmts (Mine.dBody (Mine.methAt 9)), scope := Mine.dScope (Mine.methAt 9), globals := 3, closure := [], defaults := Value.none, kwdefaults := Value.none, pyModule := Value.str (Str.ofString "cpy313.wsgiref.headers") 344, code := Value.ref 148 } }),
  (153, { cls := Value.type "code", data := Data.fields #[Value.str (Str.ofString "values") 545, Value.str (Str.ofString "Headers.values") 546, Value.str (Str.ofString "/claim/cut.py") 547, Value.int 73 0, Value.int 1 0, Value.int 0 0, Value.int 0 0, Value.int 3 0, Value.ref 150, Value.bool true, Value.int 276 0, Value.ref 151, Value.none, Value.none, Value.none, Value.ref 152, Value.int 548 0, Value.int 73 0, Value.str (Str.ofString "/claim/cut.py") 549] }),
  (154, { cls := Value.type "function", data := Data.func { name := Str.ofString "values", qualname := Str.ofString "Headers.values", params := Mine.dArgs (Mine.methAt 10), body := FuncBody.stmts (Mine.dBody (Mine.methAt 10)), scope := Mine.dScope (Mine.methAt 10), globals := 3, closure := [], defaults := Value.none, kwdefaults := Value.none, pyModule := Value.str (Str.ofString "cpy313.wsgiref.headers") 344, code := Value.ref 153 } }),
  (193, { cls := Value.type "code", data := Data.fields #[Value.str (Str.ofString "add_header") 587, Value.str (Str.ofString "Headers.add_header") 588, Value.str (Str.ofString "/claim/cut.py") 589, Value.int 91 0, Value.int 3 0, Value.int 0 0, Value.int 0 0, Value.int 11 0, Value.ref 188, Value.bool true, Value.int 276 0, Value.ref 189, Value.none, Value.ref 190, Value.ref 191, Value.ref 192, Value.int 597 0, Value.int 91 0, Value.str (Str.ofString "/claim/cut.py") 598] }),
  (194, { cls := Value.type "function", data := Data.func { name := Str.ofString "add_header", qualname := Str.ofString "Headers.add_header", params := Mine.dArgs (Mine.methAt 16), body := FuncBody.stmts (Mine.dBody (Mine.methAt 16)), scope := Mine.dScope (Mine.methAt 16), globals := 3, closure := [], defaults := Value.none, kwdefaults := Value.none, pyModule := Value.str (Str.ofString "cpy313.wsgiref.headers") 344, code := Value.ref 193 } }),
  (196, { cls := Value.type "dict", data := Data.dict #[{ hash := PyData.keyHash P (Str.ofString "__module__"), key := Value.str (Str.ofString "__module__") 457, val := Value.str (Str.ofString "cpy313.wsgiref.headers") 344 }, { hash := PyData.keyHash P (Str.ofString "__firstlineno__"), key := Value.str (Str.ofString "__firstlineno__") 461, val := Value.int 23 460 }, { hash := PyData.keyHash P (Str.ofString "__init__"), key := Value.str (Str.ofString "__init__") 471, val := Value.ref 89 }, { hash := PyData.keyHash P (Str.ofString "_convert_string_type"), key := Value.str (Str.ofString "_convert_string_type") 481, val := Value.ref 96 }, { hash := PyData.keyHash P (Str.ofString "__len__"), key := Value.str (Str.ofString "__len__") 488, val := Value.ref 103 }, { hash := PyData.keyHash P (Str.ofString "__setitem__"), key := Value.str (Str.ofString "__setitem__") 497, val := Value.ref 110 }, { hash := PyData.keyHash P (Str.ofString "__delitem__"), key := Value.str (Str.ofString "__delitem__") 503, val := Value.ref 115 }, { hash := PyData.keyHash P (Str.ofString "__getitem__"), key := Value.str (Str.ofString "__getitem__") 511, val := Value.ref 122 }, { hash := PyData.keyHash P (Str.ofString "__contains__"), key := Value.str (Str.ofString "__contains__") 519, val := Value.ref 129 }, { hash := PyData.keyHash P (Str.ofString "get_all"), key := Value.str (Str.ofString "get_all") 527, val := Value.ref 136 }, { hash := PyData.keyHash P (Str.ofString "get"), key := Value.str (Str.ofString "get") 538, val := Value.ref 144 }, { hash := PyData.keyHash P (Str.ofString "keys"), key := Value.str (Str.ofString "keys") 544, val := Value.ref 149 }, { hash := PyData.keyHash P (Str.ofString "values"), key := Value.str (Str.ofString "values") 550, val := Value.ref 154 }, { hash := PyData.keyHash P (Str.ofString "items"), key := Value.str (Str.ofString "items") 557, val := Value.ref 161 }, { hash := PyData.keyHash P (Str.ofString "__repr__"), key := Value.str (Str.ofString "__repr__") 564, val := Value.ref 168 }, { hash := PyData.keyHash P (Str.ofString "__str__"), key := Value.str (Str.ofString "__str__") 570, val := Value.ref 173 }, { hash := PyData.keyHash P (Str.ofString "__bytes__"), key := Value.str (Str.ofString "__bytes__") 577, val := Value.ref 180 }, { hash := PyData.keyHash P (Str.ofString "setdefault"), key := Value.str (Str.ofString "setdefault") 586, val := Value.ref 187 }, { hash := PyData.keyHash P (Str.ofString "add_header"), key := Value.str (Str.ofString "add_header") 599, val := Value.ref 194 }, { hash := PyData.keyHash P (Str.ofString "__static_attributes__"), key := Value.str (Str.ofString "__static_attributes__") 601, val := Value.ref 195 }, { hash := PyData.keyHash P (Str.ofString "__dict__"), key := Value.str (Str.ofString "__dict__") 603, val := Value.ref 198 }, { hash := PyData.keyHash P (Str.ofString "__weakref__"), key := Value.str (Str.ofString "__weakref__") 605, val := Value.ref 199 }, { hash := PyData.keyHash P (Str.ofString "__doc__"), key := Value.str (Str.ofString "__doc__") 606, val := Value.none }] 4 }),
  (197, { cls := Value.type "type", data := Data.cls { name := Str.ofString "Headers", bases := [Value.type "object"], mro := [Value.ref 197, Value.type "object"], ns := 196, qualname := Str.ofString "Headers" }, slots := #[none, none, some (Value.str (Str.ofString "Headers") 450), some (Value.str (Str.ofString "Headers") 458), some (Value.builtin "object.__new__"), some (Value.bool true)] }),
  (214, { cls := Value.type "code", data := Data.fields #[Value.str (Str.ofString "_escape_cdata") 618, Value.str (Str.ofString "_escape_cdata") 619, Value.str (Str.ofString "/claim/cut.py") 620, Value.int 107 0, Value.int 1 0, Value.int 0 0, Value.int 0 0, Value.int 3 0, Value.ref 209, Value.bool true, Value.int 276 0, Value.ref 210, Value.none, Value.ref 211, Value.ref 212, Value.ref 213, Value.int 622 0, Value.int 107 0, Value.str (Str.ofString "/claim/cut.py") 623] }),
  (215, { cls := Value.type "function", data := Data.func { name := Str.ofString "_escape_cdata", qualname := Str.ofString "_escape_cdata", params := Mine.dArgs (Mine.defAt 13), body := FuncBody.stmts (Mine.dBody (Mine.defAt 13)), scope := Mine.dScope (Mine.defAt 13), globals := 3, closure := [], defaults := Value.none, kwdefaults := Value.none, pyModule := Value.str (Str.ofString "cpy313.xml.etree.ElementTree") 609, code := Value.ref 214 } }),
  (221, { cls := Value.type "code", data := Data.fields #[Value.str (Str.ofString "_escape_attrib_html") 625, Value.str (Str.ofString "_escape_attrib_html") 626, Value.str (Str.ofString "/claim/cut.py") 627, Value.int 118 0, Value.int 1 0, Value.int 0 0, Value.int 0 0, Value.int 3 0, Value.ref 216, Value.bool true, Value.int 276 0, Value.ref 217, Value.none, Value.ref 218, Value.ref 219, Value.ref 220, Value.int 629 0, Value.int 118 0, Value.str (Str.ofString "/claim/cut.py") 630] }),
  (222, { cls := Value.type "function", data := Data.func { name := Str.ofString "_escape_attrib_html", qualname := Str.ofString "_escape_attrib_html", params := Mine.dArgs (Mine.defAt 14), body := FuncBody.stmts (Mine.dBody (Mine.defAt 14)), scope := Mine.dScope (Mine.defAt 14), globals := 3, closure := [], defaults := Value.none, kwdefaults := Value.none, pyModule := Value.str (Str.ofString "cpy313.xml.etree.ElementTree") 609, code := Value.ref 221 } }),
  (228, { cls := Value.type "code", data := Data.fields #[Value.str (Str.ofString "_escape_attrib_c14n") 632, Value.str (Str.ofString "_escape_attrib_c14n") 633, Value.str (Str.ofString "/claim/cut.py") 634, Value.int 129 0, Value.int 1 0, Value.int 0 0, Value.int 0 0, Value.int 3 0, Value.ref 223, Value.bool true, Value.int 276 0, Value.ref 224, Value.none, Value.ref 225, Value.ref 226, Value.ref 227, Value.int 636 0, Value.int 129 0, Value.str (Str.ofString "/claim/cut.py") 637] }),
  (229, { cls := Value.type "function", data := Data.func { name := Str.ofString "_escape_attrib_c14n", qualname := Str.ofString "_escape_attrib_c14n", params := Mine.dArgs (Mine.defAt 15), body := FuncBody.stmts (Mine.dBody (Mine.defAt 15)), scope := Mine.dScope (Mine.defAt 15), globals := 3, closure := [], defaults := Value.none, kwdefaults := Value.none, pyModule := Value.str (Str.ofString "cpy313.xml.etree.ElementTree") 609, code := Value.ref 228 } }),
  (235, { cls := Value.type "code", data := Data.fields #[Value.str (Str.ofString "_law_made") 641, Value.str (Str.ofString "_law_made") 642, Value.str (Str.ofString "/claim/cut.py") 643, Value.int 147 0, Value.int 5 0, Value.int 0 0, Value.int 0 0, Value.int 3 0, Value.ref 230, Value.bool true, Value.int 276 0, Value.ref 231, Value.none, Value.ref 232, Value.ref 233, Value.ref 234, Value.int 651 0, Value.int 147 0, Value.str (Str.ofString "/claim/cut.py") 652] }),
  (236, { cls := Value.type "function", data := Data.func { name := Str.ofString "_law_made", qualname := Str.ofString "_law_made", params := Mine.dArgs (Mine.defAt 17), body := FuncBody.stmts (Mine.dBody (Mine.defAt 17)), scope := Mine.dScope (Mine.defAt 17), globals := 3, closure := [], defaults := Value.none, kwdefaults := Value.none, pyModule := Value.str (Str.ofString "law_xn0018_01") 639, code := Value.ref 235 } }),
  (242, { cls := Value.type "code", data := Data.fields #[Value.str (Str.ofString "_law_names") 654, Value.str (Str.ofString "_law_names") 655, Value.str (Str.ofString "/claim/cut.py") 656, Value.int 162 0, Value.int 0 0, Value.int 0 0, Value.int 0 0, Value.int 3 0, Value.ref 237, Value.bool true, Value.int 276 0, Value.ref 238, Value.none, Value.ref 239, Value.ref 240, Value.ref 241, Value.int 657 0, Value.int 162 0, Value.str (Str.ofString "/claim/cut.py") 658] }),
  (243, { cls := Value.type "function", data := Data.func { name := Str.ofString "_law_names", qualname := Str.ofString "_law_names", params := Mine.dArgs (Mine.defAt 18), body := FuncBody.stmts (Mine.dBody (Mine.defAt 18)), scope := Mine.dScope (Mine.defAt 18), globals := 3, closure := [], defaults := Value.none, kwdefaults := Value.none, pyModule := Value.str (Str.ofString "law_xn0018_01") 639, code := Value.ref 242 } }),
  (247, { cls := Value.type "code", data := Data.fields #[Value.str (Str.ofString "_law_written") 660, Value.str (Str.ofString "_law_written") 661, Value.str (Str.ofString "/claim/cut.py") 662, Value.int 164 0, Value.int 3 0, Value.int 0 0, Value.int 0 0, Value.int 3 0, Value.ref 244, Value.bool true, Value.int 276 0, Value.ref 245, Value.none, Value.none, Value.none, Value.ref 246, Value.int 663 0, Value.int 164 0, Value.str (Str.ofString "/claim/cut.py") 664] }),
  (248, { cls := Value.type "function", data := Data.func { name := Str.ofString "_law_written", qualname := Str.ofString "_law_written", params := Mine.dArgs (Mine.defAt 19), body := FuncBody.stmts (Mine.dBody (Mine.defAt 19)), scope := Mine.dScope (Mine.defAt 19), globals := 3, closure := [], defaults := Value.none, kwdefaults := Value.none, pyModule := Value.str (Str.ofString "law_xn0018_01") 639, code := Value.ref 247 } }),
  (254, { cls := Value.type "code", data := Data.fields #[Value.str (Str.ofString "_law_rows") 666, Value.str (Str.ofString "_law_rows") 667, Value.str (Str.ofString "/claim/cut.py") 668, Value.int 178 0, Value.int 6 0, Value.int 0 0, Value.int 0 0, Value.int 3 0, Value.ref 249, Value.bool true, Value.int 276 0, Value.ref 250, Value.none, Value.ref 251, Value.ref 252, Value.ref 253, Value.int 679 0, Value.int 178 0, Value.str (Str.ofString "/claim/cut.py") 680] }),
  (255, { cls := Value.type "function", data := Data.func { name := Str.ofString "_law_rows", qualname := Str.ofString "_law_rows", params := Mine.dArgs (Mine.defAt 20), body := FuncBody.stmts (Mine.dBody (Mine.defAt 20)), scope := Mine.dScope (Mine.defAt 20), globals := 3, closure := [], defaults := Value.none, kwdefaults := Value.none, pyModule := Value.str (Str.ofString "law_xn0018_01") 639, code := Value.ref 254 } }),
  (261, { cls := Value.type "code", data := Data.fields #[Value.str (Str.ofString "_law_last") 682, Value.str (Str.ofString "_law_last") 683, Value.str (Str.ofString "/claim/cut.py") 684, Value.int 190 0, Value.int 2 0, Value.int 0 0, Value.int 0 0, Value.int 3 0, Value.ref 256, Value.bool true, Value.int 276 0, Value.ref 257, Value.none, Value.ref 258, Value.ref 259, Value.ref 260, Value.int 689 0, Value.int 190 0, Value.str (Str.ofString "/claim/cut.py") 690] }),
  (262, { cls := Value.type "function", data := Data.func { name := Str.ofString "_law_last", qualname := Str.ofString "_law_last", params := Mine.dArgs (Mine.defAt 21), body := FuncBody.stmts (Mine.dBody (Mine.defAt 21)), scope := Mine.dScope (Mine.defAt 21), globals := 3, closure := [], defaults := Value.none, kwdefaults := Value.none, pyModule := Value.str (Str.ofString "law_xn0018_01") 639, code := Value.ref 261 } }),
  (266, { cls := Value.type "code", data := Data.fields #[Value.str (Str.ofString "_law_placed") 692, Value.str (Str.ofString "_law_placed") 693, Value.str (Str.ofString "/claim/cut.py") 694, Value.int 195 0, Value.int 2 0, Value.int 0 0, Value.int 0 0, Value.int 3 0, Value.ref 263, Value.bool true, Value.int 276 0, Value.ref 264, Value.none, Value.none, Value.none, Value.ref 265, Value.int 695 0, Value.int 195 0, Value.str (Str.ofString "/claim/cut.py") 696] }),
  (267, { cls := Value.type "function", data := Data.func { name := Str.ofString "_law_placed", qualname := Str.ofString "_law_placed", params := Mine.dArgs (Mine.defAt 22), body := FuncBody.stmts (Mine.dBody (Mine.defAt 22)), scope := Mine.dScope (Mine.defAt 22), globals := 3, closure := [], defaults := Value.none, kwdefaults := Value.none, pyModule := Value.str (Str.ofString "law_xn0018_01") 639, code := Value.ref 266 } }),
  (271, { cls := Value.type "code", data := Data.fields #[Value.str (Str.ofString "_law_depth") 698, Value.str (Str.ofString "_law_depth") 699, Value.str (Str.ofString "/claim/cut.py") 700, Value.int 209 0, Value.int 2 0, Value.int 0 0, Value.int 0 0, Value.int 3 0, Value.ref 268, Value.bool true, Value.int 276 0, Value.ref 269, Value.none, Value.none, Value.none, Value.ref 270, Value.int 701 0, Value.int 209 0, Value.str (Str.ofString "/claim/cut.py") 702] }),
  (272, { cls := Value.type "function", data := Data.func { name := Str.ofString "_law_depth", qualname := Str.ofString "_law_depth", params := Mine.dArgs (Mine.defAt 23), body := FuncBody.stmts (Mine.dBody (Mine.defAt 23)), scope := Mine.dScope (Mine.defAt 23), globals := 3, closure := [], defaults := Value.none, kwdefaults := Value.none, pyModule := Value.str (Str.ofString "law_xn0018_01") 639, code := Value.ref 271 } })]
noncomputable def adrsK : List Addr := [3, 42, 43, 44, 50, 51, 60, 61, 65, 66, 67, 73, 74, 82, 88, 89, 95, 96, 148, 149, 153, 154, 193, 194, 196, 197, 214, 215, 221, 222, 228, 229, 235, 236, 242, 243, 247, 248, 254, 255, 261, 262, 266, 267, 271, 272]
theorem heapK_adrs (P : Params) : adrsK = (heapK P).map (·.1) := by kernel_rfl
theorem kfacts (P : Params) : KFacts (heapK P) := by
  constructor
  all_goals first
    | exact ⟨by kernel_rfl, ⟨by kernel_rfl, by kernel_rfl, by kernel_rfl⟩⟩
    | exact ⟨by kernel_rfl, by kernel_rfl, by kernel_rfl, by kernel_rfl⟩
    | exact ⟨by kernel_rfl, by kernel_rfl, ⟨by kernel_rfl, by kernel_rfl, by kernel_rfl⟩⟩
    | kernel_rfl

/-! the top -/
noncomputable abbrev theProg : Program := PySem.Challenge.pw_xn0018_01
noncomputable def keepL : List Nat := [0, 1, 2, 5, 10, 11, 12, 13, 14, 15, 16, 17, 18, 19, 20, 21, 22, 23, 24]
noncomputable def viewQ : Program := { theProg with main := { theProg.main with body := keepL.filterMap fun i => theProg.main.body[i]? } }
noncomputable def looseL : List Str := [Str.ofString "_quoted", Str.ofString "_paren_depth", Str.ofString "tspecials", Str.ofString "_name_disallowed_re", Str.ofString "_value_disallowed_re", Str.ofString "_formatparam"]
noncomputable def hookK : Hook := kHook heapK adrsK heapK_adrs
theorem top_left : LeftO theProg viewQ looseL (fun s => xlAt viewQ [] s && recOk (RowW.records PySem.Challenge.rw_xn0018_01.row.toRowW) s) (Hook.obs hookK) (Hook.val hookK) 3172 := by
  intro w
  unfold openEnds topFrom fencedOpening
  rw [PySem.W.Fast.te14364793385576792824, PySem.W.Fast.te14082659384304107361, PySem.W.Fast.te10274390034422433532, PySem.W.Fast.te14289696077712309145, PySem.W.Fast.te1435165496053646825, PySem.W.Fast.te4187177175401517315]
  kernel_rfl
end Mine
end

open PySem PySem.W PySem.Calls PySem.Spec PyProof.Rows
set_option Elab.async false
set_option linter.unusedVariables false
namespace Mine
theorem said0 : OpenLaw.wellSaid PySem.Challenge.rw_xn0018_01 = true := by
  rw [PySem.W.Fast.te9446332074065402090]
  kernel_rfl
end Mine
set_option maxRecDepth 100000 in
set_option maxHeartbeats 8000000 in
theorem PySem.Challenge.cw_xn0018_01_holds : PySem.Challenge.rw_xn0018_01.Holds := by
  refine holds_law Mine.said0 fun said => ?_
  refine holds_open (q := Mine.viewQ) (loose := Mine.looseL) (Xt := fun s => xlAt Mine.viewQ [] s && recOk (RowW.records PySem.Challenge.rw_xn0018_01.row.toRowW) s) (XP := XL Mine.viewQ []) (Yf := Hook.obs Mine.hookK) (Ya := Hook.val Mine.hookK) (YP := Hook.says Mine.hookK) (N := 3172)
    Mine.top_left (Hook.of Mine.hookK) (Hook.keeps Mine.hookK) (fun s e => xl_of s (Bool.and_eq_true_iff.mp e).1) XL.keeps (by rfl) (by rfl) (by rfl) (fun s e => recFacts_of (Bool.and_eq_true_iff.mp e).2) (by rfl) said (by decide +kernel) ⟨rfl, rfl, rfl, rfl, rfl, by decide +kernel⟩ ?hw ?hc
  case hw => w_witness2
  case hc =>
    intro w s₀ s₁ mg mb G Y fa o pm cd doc dV kV ho hd hcd hD hmg hg args vals as hpre hlay hrd hwl hlo
    have KX : (Mine.heapK w.params).In s₁.heap := Y
    have T := G.T
    clear G Y
    wrow_args hpre hlay hrd hwl hlo
    rename_i xs hs hlay0 hL1 hr1 hl2 w4 w3 l vs w0 hL ra w1 r0 hI hr hcond hcond'
    have hdV := Dflts.none hD rfl
    subst hdV
    have hobj := Mine.list_obj hL w1
    have hv := Mine.script_holds (P := w.params) hL hI hobj
    have room : Mine.Room 21 callerA := ⟨rfl, by decide, by decide⟩
    have hlen : xs.length ≤ 1000 := by omega
    have KF := Mine.kfacts w.params
    refine Mine.noE' (Mine.law_run (prog := PySem.Challenge.rw_xn0018_01.row.prog) (nme := Str.ofString "law") (qual := Str.ofString "law") (an := none) (ct := .none) room (Mine.facts_mod KF KX T.g T.b T.nolimit T.builtins) (Mine.facts_mk KF KX T.g) (Mine.facts_tab KF KX T.g) (Mine.facts_help KF KX T.g) ho hd hcd hlen hv) fun r s' q => ?_
    obtain ⟨⟨h', tk, rfl, hkeep, _⟩, hb⟩ := q
    cases hb
    exact GoodW.toG ⟨.inl ⟨.bool true, .bool true, [], rfl, fun _ => rfl, .bool true, by kernel_rfl, fun _ => ⟨.nil, fun _ ha => nomatch ha⟩⟩, hkeep, rfl, hg⟩
