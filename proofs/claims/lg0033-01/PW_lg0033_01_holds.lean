import PyProof.Rows.All
import Wide.All
import OpenK.AllK
import Wide.FinOn
import KE.KSortTup
import PySem.Challenge.RW_lg0033_01

set_option Elab.async false
local macro_rules | `(tactic| walk_at "n") => `(tactic| first
  | decide
  | with_reducible rfl
  | with_reducible assumption
  | with_reducible exact Nat.le_refl _
  | with_reducible exact Nat.zero_le _
  | with_reducible exact Nat.le_succ _
  | with_reducible exact Nat.zero_lt_succ _
  | with_reducible exact Nat.le_add_right _ _
  | with_reducible exact Nat.le_of_lt (by assumption)
  | with_reducible exact Nat.le_of_lt_succ (by assumption)
  | with_reducible exact Nat.lt_of_succ_lt (by assumption)
  | with_reducible exact Nat.lt_of_le_of_lt (by assumption) (by decide)
  | with_reducible exact Nat.lt_of_lt_of_le (by assumption) (by decide)
  | with_reducible exact Nat.le_trans (by assumption) (by decide)
  | with_reducible exact Nat.le_of_not_lt (by assumption)
  | with_reducible exact Nat.lt_of_not_le (by assumption)
  | with_reducible exact Nat.lt_succ_of_le (by assumption)
  | with_reducible exact Nat.lt_of_le_of_lt (by assumption) (by assumption)
  | with_reducible exact Nat.lt_of_lt_of_le (by assumption) (by assumption)
  | with_reducible exact Nat.le_trans (by assumption) (by assumption)
  | with_reducible exact Nat.le_antisymm (by assumption) (by assumption)
  | lia | omega)

noncomputable section
set_option genSizeOf false
set_option genInjectivity false
set_option Elab.async false
set_option linter.unusedVariables false
namespace Mine
open PySem PySem.Calls PyProof.Rows PySem.W

inductive D where
  | int (i : Int) | bool (b : Bool) | none | tup (l : List D) | fl (l : List D) | raw (v : Value) | lam (fd : FuncData) | objAt (a : Addr)

/- what a datum may rest on -/
def Dat (o : Obj) : Prop := (∃ xs n, o.data = .seq xs n) ∨ (∃ fd, o.data = .func fd) ∨ (o.cls = .type "code" ∧ ∃ vs, o.data = .fields vs) ∨ (o.cls = .type "object" ∧ ∀ es ep, o.data ≠ .dict es ep)

def CodeAtQ (h : Heap) (cv : Value) (q : Str) : Prop := ∃ c o vs t, cv = .ref c ∧ h.get? c = some o ∧ o.cls = .type "code" ∧ o.data = .fields vs ∧ vs[1]? = some (.str q t)
theorem CodeAtQ.rec {h : Heap} {cv : Value} {q : Str} (x : CodeAtQ h cv q) : h.CodeRec cv q := let ⟨c, o, vs, t, a, b, _, d, e⟩ := x; ⟨c, o, vs, t, a, b, d, e⟩

mutual
def Rd (X : List Addr) (h : Heap) (v : Value) : D → Prop
  | .int i => ∃ t, v = .int i t
  | .bool b => v = .bool b
  | .none => v = .none
  | .tup l => ∃ a vs, v = .ref a ∧ a ∉ X ∧ h.IsTuple a vs ∧ RdL X h vs.toList l
  | .fl l => ∃ a vs n, v = .ref a ∧ a ∉ X ∧ IsL h a vs n ∧ RdL X h vs.toList l
  | .raw u => v = u
  | .lam fd => ∃ q o c, v = .ref q ∧ q ∉ X ∧ h.get? q = some o ∧ o.data = .func fd ∧ fd.code = .ref c ∧ c ∉ X ∧ CodeAtQ h fd.code fd.qualname
  | .objAt a => v = .ref a ∧ a ∉ X ∧ ∃ o, h.get? a = some o ∧ o.cls = .type "object" ∧ ∀ es ep, o.data ≠ .dict es ep
def RdL (X : List Addr) (h : Heap) (vs : List Value) : List D → Prop
  | [] => vs = []
  | d :: ds => ∃ v vs', vs = v :: vs' ∧ Rd X h v d ∧ RdL X h vs' ds
end

/- data is stable: same contents outside X, exclusion set may change if harmless -/
def Stay (X X' : List Addr) (h h' : Heap) : Prop := ∀ a o, a ∉ X → h.get? a = some o → Dat o → a ∉ X' ∧ h'.get? a = some o

mutual
theorem Rd.stay {X X' : List Addr} {h h' : Heap} (S : Stay X X' h h') : ∀ (d : D) (v : Value), Rd X h v d → Rd X' h' v d
  | .int _, v, r => r
  | .bool _, v, r => r
  | .none, v, r => r
  | .raw _, v, r => r
  | .tup l, v, ⟨a, vs, e, hx, ⟨o, ho, hc, hd⟩, hl⟩ => ⟨a, vs, e, (S a o hx ho (.inl ⟨vs, hd⟩)).1, ⟨o, (S a o hx ho (.inl ⟨vs, hd⟩)).2, hc, hd⟩, RdL.stay S l _ hl⟩
  | .fl l, v, ⟨a, vs, n, e, hx, ho, hl⟩ => ⟨a, vs, n, e, (S a _ hx ho (.inl ⟨vs, n, rfl⟩)).1, (S a _ hx ho (.inl ⟨vs, n, rfl⟩)).2, RdL.stay S l _ hl⟩
  | .lam fd, v, ⟨q, o, c, e, hx, ho, hd, hc, hcx, c', o', vs, t, e1, e2, e3, e4, e5⟩ => by
    rw [hc] at e1; cases e1
    exact ⟨q, o, c, e, (S q o hx ho (.inr (.inl ⟨fd, hd⟩))).1, (S q o hx ho (.inr (.inl ⟨fd, hd⟩))).2, hd, hc, (S c o' hcx e2 (.inr (.inr (.inl ⟨e3, vs, e4⟩)))).1, c, o', vs, t, hc, (S c o' hcx e2 (.inr (.inr (.inl ⟨e3, vs, e4⟩)))).2, e3, e4, e5⟩
  | .objAt a, v, ⟨e, hx, o, ho, hc⟩ => ⟨e, (S a o hx ho (.inr (.inr (.inr hc)))).1, o, (S a o hx ho (.inr (.inr (.inr hc)))).2, hc⟩
theorem RdL.stay {X X' : List Addr} {h h' : Heap} (S : Stay X X' h h') : ∀ (l : List D) (vs : List Value), RdL X h vs l → RdL X' h' vs l
  | [], _, r => r
  | d :: ds, vs, ⟨v, vs', e, h1, h2⟩ => ⟨v, vs', e, Rd.stay S d v h1, RdL.stay S ds vs' h2⟩
end

/- a function's table of the code it makes -/
def TabOk (q : Str) (P : Addr) (X : List Addr) (h : Heap) : Prop := ∃ ps, h.get? P = some (tabObj ps) ∧ TriplesOk ps.toList ∧ ∀ pos cv, codeAmong pos ps.toList = some cv → ∃ c', cv = .ref c' ∧ c' ∉ X ∧ CodeAtQ h cv q
theorem TabOk.stay {q : Str} {P : Addr} {X X' : List Addr} {h h' : Heap} (x : TabOk q P X h) (hP : ∀ o, h.get? P = some o → h'.get? P = some o) (st : Stay X X' h h') : TabOk q P X' h' := by
  obtain ⟨ps, h1, h2, h3⟩ := x
  refine ⟨ps, hP _ h1, h2, fun pos cv e => ?_⟩
  obtain ⟨c', e', hx, c, o, vs, t, a, b, d, f, r⟩ := h3 pos cv e
  rw [e'] at a; cases a
  have := st c' o hx b (.inr (.inr (.inl ⟨d, vs, f⟩)))
  exact ⟨c', e', this.1, c', o, vs, t, e', this.2, d, f, r⟩

theorem RdL.length {X : List Addr} {h : Heap} : ∀ {l : List D} {vs : List Value}, RdL X h vs l → vs.length = l.length
  | [], _, r => by cases r; rfl
  | _ :: ds, _, ⟨v, vs', e, _, h2⟩ => by subst e; simp [RdL.length h2]

theorem RdL.get {X : List Addr} {h : Heap} : ∀ {l : List D} {vs : List Value} {i : Nat} {d : D}, RdL X h vs l → l[i]? = some d → ∃ v, vs[i]? = some v ∧ Rd X h v d
  | [], _, i, d, _, e => by simp at e
  | x :: ds, _, 0, d, ⟨v, vs', e, h1, h2⟩, hd => by
    subst e; simp at hd; subst hd; exact ⟨v, by simp, h1⟩
  | x :: ds, _, i+1, d, ⟨v, vs', e, h1, h2⟩, hd => by
    subst e; simp at hd ⊢; exact RdL.get h2 hd

theorem RdL.set {X : List Addr} {h : Heap} {d : D} {v : Value} : ∀ {l : List D} {vs : List Value} {i : Nat}, RdL X h vs l → Rd X h v d → RdL X h (vs.set i v) (l.set i d)
  | [], _, i, r, _ => by cases r; simp [RdL]
  | x :: ds, _, 0, ⟨v', vs', e, h1, h2⟩, hd => by subst e; exact ⟨v, vs', by simp, hd, h2⟩
  | x :: ds, _, i+1, ⟨v', vs', e, h1, h2⟩, hd => by subst e; exact ⟨v', vs'.set i v, by simp, h1, RdL.set h2 hd⟩

theorem RdL.append {X : List Addr} {h : Heap} : ∀ {l l' : List D} {vs vs' : List Value}, RdL X h vs l → RdL X h vs' l' → RdL X h (vs ++ vs') (l ++ l')
  | [], _, _, _, r, r' => by cases r; exact r'
  | _ :: ds, _, _, _, ⟨v, vs1, e, h1, h2⟩, r' => by subst e; exact ⟨v, _, rfl, h1, RdL.append h2 r'⟩

theorem RdL.one {X : List Addr} {h : Heap} {v : Value} {d : D} (r : Rd X h v d) : RdL X h [v] [d] := ⟨v, [], rfl, r, rfl⟩

theorem RdL.cons {X : List Addr} {h : Heap} {v : Value} {d : D} {vs : List Value} {ds : List D} (r : Rd X h v d) (r' : RdL X h vs ds) : RdL X h (v :: vs) (d :: ds) := ⟨v, vs, rfl, r, r'⟩

theorem RdL.drop {X : List Addr} {h : Heap} : ∀ {l : List D} {vs : List Value} (i : Nat), RdL X h vs l → RdL X h (vs.drop i) (l.drop i)
  | [], _, i, r => by cases r; simp [RdL]
  | _ :: ds, _, 0, r => r
  | _ :: ds, _, i+1, ⟨v, vs', e, h1, h2⟩ => by subst e; simpa using RdL.drop i h2
theorem RdL.take {X : List Addr} {h : Heap} : ∀ {l : List D} {vs : List Value} (i : Nat), RdL X h vs l → RdL X h (vs.take i) (l.take i)
  | [], _, i, r => by cases r; simp [RdL]
  | _ :: ds, _, 0, r => by simp [RdL]
  | _ :: ds, _, i+1, ⟨v, vs', e, h1, h2⟩ => by subst e; exact ⟨v, vs'.take i, by simp, h1, RdL.take i h2⟩
theorem RdL.reverse {X : List Addr} {h : Heap} : ∀ {l : List D} {vs : List Value}, RdL X h vs l → RdL X h vs.reverse l.reverse
  | [], _, r => by cases r; simp [RdL]
  | _ :: ds, _, ⟨v, vs', e, h1, h2⟩ => by subst e; simpa using RdL.append (RdL.reverse h2) (RdL.one h1)

abbrev Ls := List (Addr × List D)
abbrev Rho := List (Str × D)
def keys (ls : Ls) : List Addr := ls.map (·.1)

structure Nx (Z : List Addr) (s s' : Shared) : Prop where
  keep : ∀ a o, s.heap.get? a = some o → a ∉ Z → s'.heap.get? a = some o
  gens : s'.gens = s.gens
  os : s'.os = s.os

theorem Nx.refl (Z : List Addr) (s : Shared) : Nx Z s s := ⟨fun _ _ h _ => h, rfl, rfl⟩
theorem Nx.trans {Z Z' : List Addr} {s s1 s2 : Shared} (x : Nx Z s s1) (y : Nx Z' s1 s2) (hz : ∀ a ∈ Z', a ∈ Z ∨ s.heap.get? a = Option.none) : Nx Z s s2 :=
  ⟨fun a o h hn => y.keep a o (x.keep a o h hn) (fun hm => (hz a hm).elim hn fun hl => by rw [h] at hl; cases hl),
    y.gens.trans x.gens, y.os.trans x.os⟩

structure Cx where
  prog : Program
  w : World
  G : Heap
  tabs : List (Addr × Addr)
  qual : Addr → Str
  s0 : Shared
  X0 : List Addr
  Z0 : List Addr
  env : Env
  C : List Addr

namespace Cx
abbrev M (c : Cx) : Model := model c.prog c.w
def own (c : Cx) (ls : Ls) : List Addr := c.env.locals :: (c.C ++ keys ls)
def X (c : Cx) (ls : Ls) : List Addr := c.own ls ++ c.X0
end Cx

def InEnv (env : Env) (m : Str → Option Value) (h : Heap) (x : Str) (v : Value) : Prop :=
  (env.kindOf x = some .local ∧ m x = some v) ∨ (∃ ca, (env.kindOf x = some .cell ∨ (env.kindOf x = some .free ∧ (x == ("__classdict__" : Str)) = false)) ∧ env.cells.lookup x = some ca ∧ h.IsCell ca (some v))

structure Fm (c : Cx) (ls : Ls) (s : Shared) : Prop where
  top : ∀ a o, c.G.get? a = some o → s.heap.get? a = some o
  nx : Nx c.Z0 c.s0 s
  mine : ∀ a ∈ c.own ls, (a ∈ c.Z0 ∨ c.s0.heap.get? a = none) ∧ c.G.get? a = none ∧ ∃ o, s.heap.get? a = some o
  apart : (c.own ls).Nodup
  old : ∀ a ∈ c.X0, ∃ o, s.heap.get? a = some o
  sub : ∀ a ∈ c.Z0, a ∈ c.X0
  tabs : ∀ q ∈ c.tabs, q.2 ∈ c.Z0 ∧ c.G.get? q.2 = none ∧ q.2 ∉ c.own ls
  grown : ∀ q ∈ c.tabs, TabOk (c.qual q.2) q.2 (c.X ls) s.heap

structure St (c : Cx) (ρ : Rho) (ls : Ls) (s : Shared) : Prop where
  fm : Fm c ls s
  fn : c.env.scope.kind = .function
  inj : ∀ x y ca, c.env.cells.lookup x = some ca → c.env.cells.lookup y = some ca → x = y
  cells : ∀ ca ∈ c.C, ∃ v, s.heap.IsCell ca v
  names : ∃ m, s.heap.Ns c.env.locals m ∧ ∀ x d, ρ.lookup x = some d → ∃ v, Rd (c.X ls) s.heap v d ∧ InEnv c.env m s.heap x v
  lists : ∀ p ∈ ls, ∃ vs n, IsL s.heap p.1 vs n ∧ RdL (c.X ls) s.heap vs.toList p.2

def Room (k : Nat) (A : Around) : Prop := A.depth + k < recursionLimit ∧ A.units + 20 * k < cLine ∧ A.handled = Option.none

theorem Room.mono {k k' : Nat} {A : Around} (h : Room k A) (hk : k' ≤ k) : Room k' A := by
  unfold Room at *; exact ⟨by walk_at "n", by walk_at "n", h.2.2⟩
theorem Room.in1 {k : Nat} {A : Around} (h : Room (k+1) A) : Room k A.in1 := by
  unfold Room at *; simp only [Around.in1]; exact ⟨by walk_at "n", by walk_at "n", h.2.2⟩
theorem Room.deeper {k : Nat} {A : Around} {env : Env} (h : Room (k+1) A) : Room k (A.deeper env) := by
  unfold Room at *; simp only [Around.deeper]; exact ⟨by walk_at "n", by walk_at "n", h.2.2⟩
theorem Room.d {k : Nat} {A : Around} (h : Room k A) : A.depth < recursionLimit := by unfold Room at h; walk_at "n"
theorem Room.h {k : Nat} {A : Around} (h : Room k A) : A.handled = Option.none := h.2.2

def No : Value → Shared → Prop := fun _ _ => False
inductive Post (c : Cx) (ρ : Rho) (ls : Ls) (h : Heap) (P : D → Ls → Prop) (v : Value) (s' : Shared) : Prop where
  | mk (d : D) (ls' : Ls) (k : keys ls' = keys ls) (S : St c ρ ls' s') (st : Stay (c.X ls) (c.X ls) h s'.heap) (r : Rd (c.X ls) s'.heap v d) (p : P d ls') : Post c ρ ls h P v s'
inductive PostB (c : Cx) (ρ : Rho) (ls : Ls) (h : Heap) (P : Bool → Ls → Prop) (b : Bool) (s' : Shared) : Prop where
  | mk (ls' : Ls) (k : keys ls' = keys ls) (S : St c ρ ls' s') (st : Stay (c.X ls) (c.X ls) h s'.heap) (p : P b ls') : PostB c ρ ls h P b s'
inductive PostL (c : Cx) (ρ : Rho) (ls : Ls) (h : Heap) (P : List D → Ls → Prop) (v : List Value) (s' : Shared) : Prop where
  | mk (d : List D) (ls' : Ls) (k : keys ls' = keys ls) (S : St c ρ ls' s') (st : Stay (c.X ls) (c.X ls) h s'.heap) (r : RdL (c.X ls) s'.heap v d) (p : P d ls') : PostL c ρ ls h P v s'

/- expressions: the value read as data, lists changed in place -/
def Ev (c : Cx) (k : Nat) (t : Sem Value) (ρ : Rho) (ls : Ls) (P : D → Ls → Prop) : Prop :=
  ∀ A s, Room k A → St c ρ ls s → wpAny c.M A t (Post c ρ ls s.heap P) No s

def EvB (c : Cx) (k : Nat) (t : Sem Bool) (ρ : Rho) (ls : Ls) (P : Bool → Ls → Prop) : Prop :=
  ∀ A s, Room k A → St c ρ ls s → wpAny c.M A t (PostB c ρ ls s.heap P) No s

def EvL (c : Cx) (k : Nat) (t : Sem (List Value)) (ρ : Rho) (ls : Ls) (P : List D → Ls → Prop) : Prop :=
  ∀ A s, Room k A → St c ρ ls s → wpAny c.M A t (PostL c ρ ls s.heap P) No s

inductive Fl where
  | next | brk | cont | ret (d : D)

def FlR (X : List Addr) (h : Heap) : Flow → Fl → Prop
  | .next, .next => True
  | .brk, .brk => True
  | .cont, .cont => True
  | .ret v, .ret d => Rd X h v d
  | _, _ => False

inductive PostX (c : Cx) (P : Fl → Rho → Ls → Prop) (f : Flow) (s' : Shared) : Prop where
  | mk (fl : Fl) (ρ' : Rho) (ls' : Ls) (S : St c ρ' ls' s') (r : FlR (c.X ls') s'.heap f fl) (p : P fl ρ' ls') : PostX c P f s'
def Ex (c : Cx) (k : Nat) (t : Sem Flow) (ρ : Rho) (ls : Ls) (P : Fl → Rho → Ls → Prop) : Prop :=
  ∀ A s, Room k A → St c ρ ls s → wpAny c.M A t (PostX c P) No s

theorem Cx.X_keys {c : Cx} {ls ls' : Ls} (h : keys ls' = keys ls) : c.X ls' = c.X ls := by unfold Cx.X Cx.own; rw [h]
theorem Cx.own_keys {c : Cx} {ls ls' : Ls} (h : keys ls' = keys ls) : c.own ls' = c.own ls := by unfold Cx.own; rw [h]

theorem Stay.refl (X : List Addr) (h : Heap) : Stay X X h h := fun _ _ hx e _ => ⟨hx, e⟩
theorem Stay.trans {X X' X'' : List Addr} {h h' h'' : Heap} (x : Stay X X' h h') (y : Stay X' X'' h' h'') : Stay X X'' h h'' :=
  fun a o hx e q => y a o (x a o hx e q).1 (x a o hx e q).2 q
theorem Stay.but {X : List Addr} {h h' : Heap} {a : Addr} (hs : Heap.SameBut a h h') (ha : a ∈ X) : Stay X X h h' :=
  fun b o hx e _ => ⟨hx, (hs.2 b fun q => hx (q ▸ ha)).trans e⟩

def Keep (h h' : Heap) : Prop := ∀ a o, h.get? a = some o → h'.get? a = some o
theorem Keep.stay {X : List Addr} {h h' : Heap} (k : Keep h h') : Stay X X h h' := fun a o hx e _ => ⟨hx, k a o e⟩
theorem Keep.push (h : Heap) (o : Obj) : Keep h (h.push o) := fun _ _ e => Heap.get?_push_of_some o e
theorem Keep.refl (h : Heap) : Keep h h := fun _ _ e => e
theorem Keep.ext {h h' : Heap} (x : Heap.ExtBut h.objs.size h h') : Keep h h' := fun a o e => x a o (Nat.ne_of_lt (Heap.lt_size e)) e

theorem Fm.ext {c : Cx} {ls : Ls} {s s' : Shared} (F : Fm c ls s) (hk : Keep s.heap s'.heap) (hg : s'.gens = s.gens) (ho : s'.os = s.os) : Fm c ls s' where
  top := fun a o' e => hk _ _ (F.top a o' e)
  nx := ⟨fun a o' e hn => hk _ _ (F.nx.keep a o' e hn), hg.trans F.nx.gens, ho.trans F.nx.os⟩
  mine := fun a ha => ⟨(F.mine a ha).1, (F.mine a ha).2.1, let ⟨o, e⟩ := (F.mine a ha).2.2; ⟨o, hk _ _ e⟩⟩
  apart := F.apart
  old := fun a ha => let ⟨o, e⟩ := F.old a ha; ⟨o, hk _ _ e⟩
  sub := F.sub
  tabs := F.tabs
  grown := fun q hq => (F.grown q hq).stay (fun o e => hk _ _ e) hk.stay

theorem Fm.touch {c : Cx} {ls : Ls} {s s' : Shared} {a : Addr} (F : Fm c ls s) (ha : a ∈ c.own ls) (hs : Heap.SameBut a s.heap s'.heap) (hl : ∃ o, s'.heap.get? a = some o) (hnf : ∀ o vs, s.heap.get? a = some o → o.data ≠ .fields vs) (hg : s'.gens = s.gens) (ho : s'.os = s.os) : Fm c ls s' where
  top := fun b o e => (hs.2 b (fun q => by rw [q] at e; rw [(F.mine a ha).2.1] at e; cases e)).trans (F.top b o e)
  nx := ⟨fun b o e hn => (hs.2 b (fun q => by
      rcases (F.mine a ha).1 with hz | hl
      · exact hn (q ▸ hz)
      · rw [q] at e; rw [hl] at e; cases e)).trans (F.nx.keep b o e hn), hg.trans F.nx.gens, ho.trans F.nx.os⟩
  mine := fun b hb => ⟨(F.mine b hb).1, (F.mine b hb).2.1, by
    by_cases q : b = a
    · subst q; exact hl
    · obtain ⟨o, e⟩ := (F.mine b hb).2.2; exact ⟨o, (hs.2 b q).trans e⟩⟩
  apart := F.apart
  old := fun b hb => by
    by_cases q : b = a
    · subst q; exact hl
    · obtain ⟨o, e⟩ := F.old b hb; exact ⟨o, (hs.2 b q).trans e⟩
  sub := F.sub
  tabs := F.tabs
  grown := fun q hq => (F.grown q hq).stay (fun o e => (hs.2 q.2 (fun e' => (F.tabs q hq).2.2 (e' ▸ ha))).trans e) (Stay.but hs (List.mem_append_left _ ha))

theorem Fm.keys {c : Cx} {ls ls' : Ls} {s : Shared} (F : Fm c ls s) (h : keys ls' = keys ls) : Fm c ls' s :=
  ⟨F.top, F.nx, by rw [Cx.own_keys h]; exact F.mine, by rw [Cx.own_keys h]; exact F.apart, F.old, F.sub, by rw [Cx.own_keys h]; exact F.tabs, by rw [Cx.X_keys h]; exact F.grown⟩

theorem InEnv.keep {env : Env} {m : Str → Option Value} {h h' : Heap} {x : Str} {v : Value} (H : InEnv env m h x v) (k : ∀ ca, env.cells.lookup x = some ca → h.IsCell ca (some v) → h'.IsCell ca (some v)) : InEnv env m h' x v :=
  H.imp id fun ⟨ca, h1, h2, h3⟩ => ⟨ca, h1, h2, k ca h2 h3⟩

theorem St.ext {c : Cx} {ρ : Rho} {ls : Ls} {s s' : Shared} (S : St c ρ ls s) (hk : Keep s.heap s'.heap) (hg : s'.gens = s.gens) (ho : s'.os = s.os) : St c ρ ls s' where
  fm := S.fm.ext hk hg ho
  fn := S.fn
  inj := S.inj
  cells := fun ca hc => let ⟨v, e⟩ := S.cells ca hc; ⟨v, e.keeps hk⟩
  names := by
    obtain ⟨m, hm, hn⟩ := S.names
    refine ⟨m, hm.keeps hk, fun x d hx => ?_⟩
    obtain ⟨v, r, i⟩ := hn x d hx
    exact ⟨v, Rd.stay hk.stay _ _ r, i.keep fun ca _ e => e.keeps hk⟩
  lists := fun p hp => by
    obtain ⟨vs, n, h1, h3⟩ := S.lists p hp
    exact ⟨vs, n, hk _ _ h1, RdL.stay hk.stay _ _ h3⟩

theorem St.same {c : Cx} {ρ : Rho} {ls : Ls} {s s' : Shared} (S : St c ρ ls s) (hh : s'.heap = s.heap) (hg : s'.gens = s.gens) (ho : s'.os = s.os) : St c ρ ls s' := S.ext (by rw [hh]; exact Keep.refl _) hg ho

end Mine
end

noncomputable section
set_option genSizeOf false
set_option genInjectivity false
set_option Elab.async false
set_option linter.unusedVariables false
namespace Mine
open PySem PySem.Calls PyProof.Rows PySem.W

/- in-place replacement of a name -/
def upd : Rho → Str → D → Rho
  | [], x, d => [(x, d)]
  | (y, e) :: r, x, d => if x == y then (y, d) :: r else (y, e) :: upd r x d

theorem lookup_upd (ρ : Rho) (x : Str) (d : D) (y : Str) : (upd ρ x d).lookup y = if y == x then some d else ρ.lookup y := by
  induction ρ with
  | nil => simp [upd, List.lookup]; split <;> simp_all
  | cons p r ih =>
    obtain ⟨z, e⟩ := p
    unfold upd
    by_cases h : (x == z) = true
    · have hz : x = z := by simpa using h
      subst hz
      simp only [h, if_true, List.lookup_cons]
      by_cases h2 : (y == x) = true
      · simp [h2]
      · simp [h2]
    · simp only [h, if_false, List.lookup_cons, Bool.false_eq_true]
      by_cases h3 : (y == z) = true
      · have : ¬ (y == x) = true := by
          intro h4
          have e1 : y = z := by simpa using h3
          have e2 : y = x := by simpa using h4
          subst e1; subst e2; exact h (by simp)
        simp [h3, this]
      · simp only [h3]; exact ih

def Ext (ρ ρ' : Rho) : Prop := ∀ x d, ρ.lookup x = some d → ρ'.lookup x = some d
theorem Ext.refl (ρ : Rho) : Ext ρ ρ := fun _ _ h => h
theorem Ext.nil (ρ : Rho) : Ext [] ρ := fun _ _ h => nomatch h
theorem Ext.cons {ρ ρ' : Rho} {x : Str} {d : D} (h : ρ'.lookup x = some d) (r : Ext ρ ρ') : Ext ((x, d) :: ρ) ρ' := fun y e hy => by
  rw [List.lookup_cons] at hy
  by_cases q : (y == x) = true
  · simp only [q] at hy; cases hy
    have : y = x := by simpa using q
    rw [this]; exact h
  · simp only [q] at hy; exact r y e hy

theorem St.forget {c : Cx} {ρ : Rho} {ls : Ls} {ρ' : Rho} {s : Shared} (S : St c ρ ls s) (h : Ext ρ' ρ) : St c ρ' ls s :=
  { S with names := let ⟨m, hm, hn⟩ := S.names; ⟨m, hm, fun x d hx => hn x d (h x d hx)⟩ }

theorem Cx.loc_own {c : Cx} {ls : Ls} : c.env.locals ∈ c.own ls := List.mem_cons_self
theorem Cx.cell_own {c : Cx} {ls : Ls} {a : Addr} (h : a ∈ c.C) : a ∈ c.own ls := List.mem_cons_of_mem _ (List.mem_append_left _ h)
theorem Cx.key_own {c : Cx} {ls : Ls} {a : Addr} (h : a ∈ keys ls) : a ∈ c.own ls := List.mem_cons_of_mem _ (List.mem_append_right _ h)
theorem Cx.own_X {c : Cx} {ls : Ls} {a : Addr} (h : a ∈ c.own ls) : a ∈ c.X ls := List.mem_append_left _ h

theorem ne_of_dict_cell {h : Heap} {a b : Addr} {m : Str → Option Value} {v : Option Value} (x : h.Ns a m) (y : h.IsCell b v) : a ≠ b := by
  rintro rfl
  obtain ⟨o, h1, h2⟩ := y
  obtain ⟨o', es, ep, h3, h4, _⟩ := x
  rw [h1] at h3; cases h3; rw [h2] at h4; cases h4
theorem ne_of_list_cell {h : Heap} {a b : Addr} {vs : Array Value} {v : Option Value} (x : h.IsList a vs) (y : h.IsCell b v) : a ≠ b := by
  rintro rfl
  obtain ⟨o, h1, h2⟩ := y
  obtain ⟨o', h3, _, n, h4⟩ := x
  rw [h1] at h3; cases h3; rw [h2] at h4; cases h4

theorem St.storeL {c : Cx} {ρ : Rho} {ls : Ls} {s : Shared} {x : Str} {v : Value} {d : D} {h' : Heap} {tk : Nat} {m : Str → Option Value} (S : St c ρ ls s) (hl : c.env.kindOf x = some .local)
    (r : Rd (c.X ls) s.heap v d) (hm : s.heap.Ns c.env.locals m) (hmn : ∀ x d, ρ.lookup x = some d → ∃ v, Rd (c.X ls) s.heap v d ∧ InEnv c.env m s.heap x v)
    (hn : h'.Ns c.env.locals (fun y => if y = x then some v else m y)) (hs : Heap.SameBut c.env.locals s.heap h') : St c (upd ρ x d) ls { s with heap := h', toks := tk } where
  fm := S.fm.touch Cx.loc_own hs (let ⟨o, _, _, e, _⟩ := hn; ⟨o, e⟩) (fun o vs e q => by obtain ⟨o', es, ep, e', hd, _⟩ := hm; rw [e] at e'; cases e'; rw [q] at hd; cases hd) rfl rfl
  fn := S.fn
  inj := S.inj
  cells := fun ca hc => let ⟨w, e⟩ := S.cells ca hc; ⟨w, e.sameBut hs (ne_of_dict_cell hm e).symm⟩
  names := by
    refine ⟨_, hn, fun y e hy => ?_⟩
    rw [lookup_upd] at hy
    have st : Stay (c.X ls) (c.X ls) s.heap h' := Stay.but hs (Cx.own_X Cx.loc_own)
    by_cases h : (y == x) = true
    · rw [if_pos h] at hy; cases hy
      have e : y = x := by simpa using h
      subst e
      exact ⟨v, Rd.stay st _ _ r, .inl ⟨hl, by simp⟩⟩
    · rw [if_neg h] at hy
      obtain ⟨u, ru, hi⟩ := hmn y e hy
      refine ⟨u, Rd.stay st _ _ ru, ?_⟩
      rcases hi with ⟨h1, h2⟩ | ⟨ca, h1, h2, h3⟩
      · exact .inl ⟨h1, by show (if y = x then some v else m y) = some u; rw [if_neg (fun q => h (by simp [q]))]; exact h2⟩
      · exact .inr ⟨ca, h1, h2, h3.sameBut hs (ne_of_dict_cell hm h3).symm⟩
  lists := fun p hp => by
    obtain ⟨vs, n, h1, h2⟩ := S.lists p hp
    have hne : p.1 ≠ c.env.locals := fun q => by
      have := (List.nodup_cons.mp S.fm.apart).1
      exact this (List.mem_append_right _ (q ▸ List.mem_map_of_mem hp))
    exact ⟨vs, n, (hs.2 _ hne).trans h1, RdL.stay (Stay.but hs (Cx.own_X Cx.loc_own)) _ _ h2⟩

theorem St.storeC {c : Cx} {ρ : Rho} {ls : Ls} {s : Shared} {x : Str} {v : Value} {d : D} {h' : Heap} {ca : Addr} (S : St c ρ ls s) (hl : c.env.kindOf x = some .cell) (hc : c.env.cells.lookup x = some ca) (hca : ca ∈ c.C)
    (r : Rd (c.X ls) s.heap v d) (hn : h'.IsCell ca (some v)) (hs : Heap.SameBut ca s.heap h') : St c (upd ρ x d) ls { s with heap := h' } where
  fm := S.fm.touch (Cx.cell_own hca) hs (let ⟨o, e, _⟩ := hn; ⟨o, e⟩) (fun o vs e q => by obtain ⟨w, o', e', hd⟩ := S.cells ca hca; rw [e] at e'; cases e'; rw [q] at hd; cases hd) rfl rfl
  fn := S.fn
  inj := S.inj
  cells := fun cb hb => by
    by_cases e : cb = ca
    · subst e; exact ⟨_, hn⟩
    · obtain ⟨w, hw⟩ := S.cells cb hb; exact ⟨w, hw.sameBut hs e⟩
  names := by
    obtain ⟨m, hm, hmn⟩ := S.names
    obtain ⟨w, hw⟩ := S.cells ca hca
    refine ⟨m, hm.sameBut hs (ne_of_dict_cell hm hw), fun y e hy => ?_⟩
    rw [lookup_upd] at hy
    have st : Stay (c.X ls) (c.X ls) s.heap h' := Stay.but hs (Cx.own_X (Cx.cell_own hca))
    by_cases h : (y == x) = true
    · rw [if_pos h] at hy; cases hy
      have e : y = x := by simpa using h
      subst e
      exact ⟨v, Rd.stay st _ _ r, .inr ⟨ca, .inl hl, hc, hn⟩⟩
    · rw [if_neg h] at hy
      obtain ⟨u, ru, hi⟩ := hmn y e hy
      refine ⟨u, Rd.stay st _ _ ru, hi.keep fun cb hcb h3 => h3.sameBut hs fun q => h ?_⟩
      subst q; simp [S.inj y x cb hcb hc]
  lists := fun p hp => by
    obtain ⟨vs, n, h1, h2⟩ := S.lists p hp
    obtain ⟨w, hw⟩ := S.cells ca hca
    exact ⟨vs, n, (hs.2 _ (ne_of_list_cell h1.isList hw)).trans h1, RdL.stay (Stay.but hs (Cx.own_X (Cx.cell_own hca))) _ _ h2⟩

/- replace the contents of one list -/
def lset : Ls → Addr → List D → Ls
  | [], _, _ => []
  | (b, ys) :: r, a, xs => if b = a then (b, xs) :: lset r a xs else (b, ys) :: lset r a xs
theorem keys_lset (ls : Ls) (a : Addr) (xs : List D) : keys (lset ls a xs) = keys ls := by
  induction ls with
  | nil => rfl
  | cons p r ih => obtain ⟨b, ys⟩ := p; unfold lset; split <;> simp [keys] at ih ⊢ <;> exact ih
theorem mem_lset {ls : Ls} {a : Addr} {xs : List D} {p : Addr × List D} (h : p ∈ lset ls a xs) : (p.1 = a ∧ p.2 = xs) ∨ (p.1 ≠ a ∧ p ∈ ls) := by
  induction ls with
  | nil => cases h
  | cons q r ih =>
    obtain ⟨b, ys⟩ := q
    unfold lset at h
    split at h
    · rename_i e
      rcases List.mem_cons.mp h with h | h
      · subst h; exact .inl ⟨e, rfl⟩
      · exact (ih h).imp id fun ⟨x, y⟩ => ⟨x, .tail _ y⟩
    · rename_i e
      rcases List.mem_cons.mp h with h | h
      · subst h; exact .inr ⟨e, .head _⟩
      · exact (ih h).imp id fun ⟨x, y⟩ => ⟨x, .tail _ y⟩

theorem ne_of_dict_list {h : Heap} {a b : Addr} {m : Str → Option Value} {vs : Array Value} (x : h.Ns a m) (y : h.IsList b vs) : a ≠ b := by
  rintro rfl
  obtain ⟨o, h1, _, n, h2⟩ := y
  obtain ⟨o', es, ep, h3, h4, _⟩ := x
  rw [h1] at h3; cases h3; rw [h2] at h4; cases h4

theorem St.setList {c : Cx} {ρ : Rho} {ls : Ls} {s s' : Shared} {a : Addr} {vs ws : Array Value} {xs ys : List D} (S : St c ρ ls s) (ha : (a, xs) ∈ ls) (ho : s.heap.IsList a vs)
    {n : Nat} (hn : IsL s'.heap a ws n) (hs : Heap.SameBut a s.heap s'.heap) (hr : RdL (c.X ls) s.heap ws.toList ys) (hg : s'.gens = s.gens) (hos : s'.os = s.os) : St c ρ (lset ls a ys) s' := by
  have hk : a ∈ keys ls := List.mem_map_of_mem (f := (·.1)) ha
  have st : Stay (c.X ls) (c.X ls) s.heap s'.heap := Stay.but hs (Cx.own_X (Cx.key_own hk))
  have hX : c.X (lset ls a ys) = c.X ls := Cx.X_keys (keys_lset ..)
  exact {
    fm := (S.fm.touch (Cx.key_own hk) hs ⟨_, hn⟩ (fun o vs e q => by obtain ⟨o', e', _, n', hd⟩ := ho; rw [e] at e'; cases e'; rw [q] at hd; cases hd) hg hos).keys (keys_lset ..)
    fn := S.fn
    inj := S.inj
    cells := fun ca hc => let ⟨w, e⟩ := S.cells ca hc; ⟨w, e.sameBut hs (ne_of_list_cell ho e).symm⟩
    names := by
      obtain ⟨m, hm, hmn⟩ := S.names
      refine ⟨m, hm.sameBut hs (ne_of_dict_list hm ho), fun y e hy => ?_⟩
      obtain ⟨u, ru, hi⟩ := hmn y e hy
      exact ⟨u, by rw [hX]; exact Rd.stay st _ _ ru, hi.keep fun cb hcb h3 => h3.sameBut hs (ne_of_list_cell ho h3).symm⟩
    lists := fun p hp => by
      rw [hX]
      rcases mem_lset hp with ⟨h1, h2⟩ | ⟨h1, h2⟩
      · rw [h1, h2]; exact ⟨ws, n, hn, RdL.stay st _ _ hr⟩
      · obtain ⟨us, n', h3, h4⟩ := S.lists p h2
        exact ⟨us, n', (hs.2 _ h1).trans h3, RdL.stay st _ _ h4⟩ }

end Mine
end

noncomputable section
set_option genSizeOf false
set_option genInjectivity false
set_option Elab.async false
set_option linter.unusedVariables false
namespace Mine
open PySem PySem.Calls PyProof.Rows PySem.W

def Op1 (c : Cx) (k : Nat) (f : Value → Sem Value) (d : D) (ρ : Rho) (ls : Ls) (P : D → Ls → Prop) : Prop :=
  ∀ A s v, Room k A → St c ρ ls s → Rd (c.X ls) s.heap v d → wpAny c.M A (f v) (Post c ρ ls s.heap P) No s
def Op2 (c : Cx) (k : Nat) (f : Value → Value → Sem Value) (d1 d2 : D) (ρ : Rho) (ls : Ls) (P : D → Ls → Prop) : Prop :=
  ∀ A s v1 v2, Room k A → St c ρ ls s → Rd (c.X ls) s.heap v1 d1 → Rd (c.X ls) s.heap v2 d2 → wpAny c.M A (f v1 v2) (Post c ρ ls s.heap P) No s

abbrev EvK (c : Cx) (k : Nat) (t : Sem Value) (ρ : Rho) (F : D → D → Ls → Prop) : D → Ls → Prop := fun d1 ls1 => Ev c k t ρ ls1 (F d1)
abbrev Op1K (c : Cx) (k : Nat) (f : Value → Sem Value) (ρ : Rho) (P : D → Ls → Prop) : D → Ls → Prop := fun d ls => Op1 c k f d ρ ls P
abbrev Op2K (c : Cx) (k : Nat) (f : Value → Value → Sem Value) (ρ : Rho) (P : D → Ls → Prop) : D → D → Ls → Prop := fun d1 d2 ls2 => Op2 c k f d1 d2 ρ ls2 P

theorem Post.into {c : Cx} {ρ : Rho} {ls ls1 : Ls} {h h1 : Heap} {P : D → Ls → Prop} {v : Value} {s' : Shared} (k1 : keys ls1 = keys ls) (st : Stay (c.X ls) (c.X ls) h h1)
    (p : Post c ρ ls1 h1 P v s') : Post c ρ ls h P v s' := by
  obtain ⟨d, ls', k2, S, st2, r, hp⟩ := p
  rw [Cx.X_keys k1] at st2 r
  exact ⟨d, ls', k2.trans k1, S, st.trans st2, r, hp⟩

theorem Ev.mono {c : Cx} {k : Nat} {t : Sem Value} {ρ : Rho} {ls : Ls} {P P' : D → Ls → Prop} (h : Ev c k t ρ ls P) (hp : ∀ d ls', P d ls' → P' d ls') : Ev c k t ρ ls P' :=
  fun A s hA S => wpAny_mono (h A s hA S) (fun v s' ⟨d, ls', a, b, e, f, g⟩ => ⟨d, ls', a, b, e, f, hp d ls' g⟩) (fun _ _ x => x)
theorem Ex.mono {c : Cx} {k : Nat} {t : Sem Flow} {ρ : Rho} {ls : Ls} {P P' : Fl → Rho → Ls → Prop} (h : Ex c k t ρ ls P) (hp : ∀ f ρ' ls', P f ρ' ls' → P' f ρ' ls') : Ex c k t ρ ls P' :=
  fun A s hA S => wpAny_mono (h A s hA S) (fun v s' ⟨fl, ρ', ls', a, b, e⟩ => ⟨fl, ρ', ls', a, b, hp _ _ _ e⟩) (fun _ _ x => x)

section
variable {c : Cx} {k : Nat} {ρ : Rho} {ls : Ls} {P : D → Ls → Prop}

theorem Ev_int {i kk pos} (h : P (.int i) ls) : Ev c k (eval (.Constant (.int i) kk pos) c.env) ρ ls P :=
  fun A s hA S => wpAny_Constant_int ⟨.int i, ls, rfl, S.same rfl rfl rfl, Stay.refl _ _, ⟨_, rfl⟩, h⟩
theorem Ev_none {kk pos} (h : P .none ls) : Ev c k (eval (.Constant .none kk pos) c.env) ρ ls P :=
  fun A s hA S => wpAny_pure ⟨.none, ls, rfl, S, Stay.refl _ _, rfl, h⟩
theorem Ev_bool {b kk pos} (h : P (.bool b) ls) : Ev c k (eval (.Constant (.bool b) kk pos) c.env) ρ ls P :=
  fun A s hA S => wpAny_pure ⟨.bool b, ls, rfl, S, Stay.refl _ _, rfl, h⟩

theorem St.name {s : Shared} {A : Around} {x : Str} {d : D} {Q : Value → Shared → Prop} {E : Value → Shared → Prop} (S : St c ρ ls s) (hx : ρ.lookup x = some d) (h : ∀ v, Rd (c.X ls) s.heap v d → Q v s) :
    wpAny c.M A (loadName c.env x) Q E s := by
  obtain ⟨m, hm, hn⟩ := S.names
  obtain ⟨v, r, hi⟩ := hn x d hx
  rcases hi with ⟨h1, h2⟩ | ⟨ca, h1 | h1, h2, h3⟩
  · exact wpAny_loadName_local S.fn h1 hm h2 (h v r)
  · exact wpAny_loadName_cell S.fn h1 h2 h3 (h v r)
  · exact wpAny_loadName_free S.fn h1.1 h2 h3 (h v r) h1.2

theorem Ev_name {x pos} {d : D} (hx : ρ.lookup x = some d) (h : P d ls) (hd : (x == ("__debug__" : Str)) = false := by decide) : Ev c k (eval (.Name x pos) c.env) ρ ls P :=
  fun A s hA S => wpAny_Name (S.name hx fun v r => ⟨d, ls, rfl, S, Stay.refl _ _, r, h⟩) hd

def Gl (G : Heap) (x : Str) (v : Value) : Prop := ∃ mg mb, G.Ns mainGlobals mg ∧ G.Ns builtinsNs mb ∧ (mg x = some v ∨ (mg x = Option.none ∧ mb x = some v))

theorem Ev_glob {x pos} {v : Value} (hv : Gl c.G x v) (hg : c.env.globals = mainGlobals) (hb : c.env.builtins = builtinsNs) (hx : c.env.kindOf x = some .globalImplicit) (h : P (.raw v) ls) (hd : (x == ("__debug__" : Str)) = false := by decide) :
    Ev c k (eval (.Name x pos) c.env) ρ ls P := fun A s hA S => by
  obtain ⟨mg, mb, h1, h2, h3⟩ := hv
  have g1 : s.heap.Ns c.env.globals mg := by rw [hg]; exact h1.keeps S.fm.top
  have g2 : s.heap.Ns c.env.builtins mb := by rw [hb]; exact h2.keeps S.fm.top
  refine Name_function_global S.fn hx ?_ hd
  rcases h3 with h3 | ⟨h3, h4⟩
  · exact loadGlobal_global g1 h3 ⟨.raw v, ls, rfl, S, Stay.refl _ _, rfl, h⟩
  · exact loadGlobal_builtin g1 h3 g2 h4 ⟨.raw v, ls, rfl, S, Stay.refl _ _, rfl, h⟩

theorem Ev_bin {l op r pos} (h : Ev c k (eval l c.env) ρ ls (EvK c k (eval r c.env) ρ (Op2K c k (binaryOp op) ρ P))) :
    Ev c k (eval (.BinOp l op r pos) c.env) ρ ls P := fun A s hA S => by
  refine wpAny_BinOp (wpAny_mono (h A s hA S) ?_ fun _ _ x => x)
  rintro v1 s1 ⟨d1, ls1, k1, S1, st1, r1, h1⟩
  refine wpAny_mono (h1 A s1 hA S1) ?_ fun _ _ x => x
  rintro v2 s2 ⟨d2, ls2, k2, S2, st2, r2, h2⟩
  have e1 := Cx.X_keys (c := c) k1
  have e2 := Cx.X_keys (c := c) (k2.trans k1)
  rw [e1] at st2 r2
  refine wpAny_mono (h2 A s2 v1 v2 hA S2 (by rw [e2]; exact Rd.stay st2 _ _ r1) (by rw [e2]; exact r2)) (fun v s' p => ?_) fun _ _ x => x
  exact p.into (k2.trans k1) (st1.trans st2)

theorem Ev_cmp {l op r pos} (h : Ev c k (eval l c.env) ρ ls (EvK c k (eval r c.env) ρ (Op2K c k (compareOp op) ρ P)))
    (hm : behindInMarks op r = false := by with_unfolding_all rfl) :
    Ev c k (eval (.Compare l [op] [r] pos) c.env) ρ ls P := fun A s hA S => by
  refine wpAny_Compare1 (wpAny_mono (h A s hA S) ?_ fun _ _ x => x) hm
  rintro v1 s1 ⟨d1, ls1, k1, S1, st1, r1, h1⟩
  refine wpAny_mono (h1 A s1 hA S1) ?_ fun _ _ x => x
  rintro v2 s2 ⟨d2, ls2, k2, S2, st2, r2, h2⟩
  have e1 := Cx.X_keys (c := c) k1
  have e2 := Cx.X_keys (c := c) (k2.trans k1)
  rw [e1] at st2 r2
  refine wpAny_mono (h2 A s2 v1 v2 hA S2 (by rw [e2]; exact Rd.stay st2 _ _ r1) (by rw [e2]; exact r2)) (fun v s' p => ?_) fun _ _ x => x
  exact p.into (k2.trans k1) (st1.trans st2)

/- integer answers -/
theorem Op2_int {f : Value → Value → Sem Value} {a b r : Int} (hf : ∀ A s t u E (Q : Value → Shared → Prop), Q (.int r s.toks) { s with toks := s.toks + 1 } → wpAny c.M A (f (.int a t) (.int b u)) Q E s)
    (h : P (.int r) ls) : Op2 c k f (.int a) (.int b) ρ ls P := by
  rintro A s v1 v2 hA S ⟨t, rfl⟩ ⟨u, rfl⟩
  exact hf A s t u _ _ ⟨.int r, ls, rfl, S.same rfl rfl rfl, Stay.refl _ _, ⟨_, rfl⟩, h⟩
theorem Op2_intb {f : Value → Value → Sem Value} {a b : Int} {r : Bool} (hf : ∀ A s t u E (Q : Value → Shared → Prop), Q (.bool r) s → wpAny c.M A (f (.int a t) (.int b u)) Q E s)
    (h : P (.bool r) ls) : Op2 c k f (.int a) (.int b) ρ ls P := by
  rintro A s v1 v2 hA S ⟨t, rfl⟩ ⟨u, rfl⟩
  exact hf A s t u _ _ ⟨.bool r, ls, rfl, S, Stay.refl _ _, rfl, h⟩

variable {a b : Int}
theorem Op2_add (h : P (.int (a + b)) ls) : Op2 c k (binaryOp .Add) (.int a) (.int b) ρ ls P := Op2_int (fun _ _ _ _ _ _ q => add_int q) h
theorem Op2_sub (h : P (.int (a - b)) ls) : Op2 c k (binaryOp .Sub) (.int a) (.int b) ρ ls P := Op2_int (fun _ _ _ _ _ _ q => sub_int' q) h
theorem Op2_mul (hm : IntMulOk a b) (h : P (.int (a * b)) ls) : Op2 c k (binaryOp .Mult) (.int a) (.int b) ρ ls P := Op2_int (fun _ _ _ _ _ _ q => mul_int q hm) h
theorem Op2_div (hb : b ≠ 0) (h : P (.int (a.fdiv b)) ls) (hp : Builtin.divisionGoesByPylong a b = false) : Op2 c k (binaryOp .FloorDiv) (.int a) (.int b) ρ ls P := Op2_int (fun _ _ _ _ _ _ q => floordiv_int hb q (.inl hp)) h
theorem Op2_mod (hb : b ≠ 0) (h : P (.int (a.fmod b)) ls) : Op2 c k (binaryOp .Mod) (.int a) (.int b) ρ ls P := Op2_int (fun _ _ _ _ _ _ q => mod_int' hb q) h
theorem Op2_shr (hb : 0 ≤ b) (h : P (.int (a.fdiv (2 ^ b.toNat))) ls) : Op2 c k (binaryOp .RShift) (.int a) (.int b) ρ ls P := Op2_int (fun _ _ _ _ _ _ q => rshift_int hb q) h
theorem Op2_lt (h : P (.bool (decide (a < b))) ls) : Op2 c k (compareOp .Lt) (.int a) (.int b) ρ ls P := Op2_intb (fun _ _ _ _ _ _ q => lt_int q) h
theorem Op2_le (h : P (.bool (decide (a ≤ b))) ls) : Op2 c k (compareOp .LtE) (.int a) (.int b) ρ ls P := Op2_intb (fun _ _ _ _ _ _ q => le_int q) h
theorem Op2_gt (h : P (.bool (decide (b < a))) ls) : Op2 c k (compareOp .Gt) (.int a) (.int b) ρ ls P := Op2_intb (fun _ _ _ _ _ _ q => gt_int q) h
theorem Op2_ge (h : P (.bool (decide (b ≤ a))) ls) : Op2 c k (compareOp .GtE) (.int a) (.int b) ρ ls P := Op2_intb (fun _ _ _ _ _ _ q => ge_int q) h
theorem Op2_eq (h : P (.bool (a == b)) ls) : Op2 c k (compareOp .Eq) (.int a) (.int b) ρ ls P := Op2_intb (fun _ _ _ _ _ _ q => eq_int q) h
theorem Op2_ne (h : P (.bool (a != b)) ls) : Op2 c k (compareOp .NotEq) (.int a) (.int b) ρ ls P := Op2_intb (fun _ _ _ _ _ _ q => ne_int q) h

end
end Mine
end

noncomputable section
set_option genSizeOf false
set_option genInjectivity false
set_option Elab.async false
set_option linter.unusedVariables false
namespace Mine
open PySem PySem.Calls PyProof.Rows PySem.W

theorem PostB.into {c : Cx} {ρ : Rho} {ls ls1 : Ls} {h h1 : Heap} {P : Bool → Ls → Prop} {b : Bool} {s' : Shared} (k1 : keys ls1 = keys ls) (st : Stay (c.X ls) (c.X ls) h h1)
    (p : PostB c ρ ls1 h1 P b s') : PostB c ρ ls h P b s' := by
  obtain ⟨ls', k2, S, st2, hp⟩ := p
  rw [Cx.X_keys k1] at st2
  exact ⟨ls', k2.trans k1, S, st.trans st2, hp⟩
def Op1B (c : Cx) (k : Nat) (f : Value → Sem Bool) (d : D) (ρ : Rho) (ls : Ls) (P : Bool → Ls → Prop) : Prop :=
  ∀ A s v, Room k A → St c ρ ls s → Rd (c.X ls) s.heap v d → wpAny c.M A (f v) (PostB c ρ ls s.heap P) No s

section
variable {c : Cx} {k : Nat} {ρ : Rho} {ls : Ls} {P : D → Ls → Prop} {PB : Bool → Ls → Prop}

abbrev BoolK (PB : Bool → Ls → Prop) : D → Ls → Prop := fun d ls3 => ∃ b, d = .bool b ∧ PB b ls3
abbrev NotK (PB : Bool → Ls → Prop) : Bool → Ls → Prop := fun b ls' => PB (!b) ls'
abbrev AndK (c : Cx) (k : Nat) (t : Sem Bool) (ρ : Rho) (PB : Bool → Ls → Prop) : Bool → Ls → Prop := fun b ls1 => (b = false → PB false ls1) ∧ (b = true → EvB c k t ρ ls1 PB)
abbrev OrK (c : Cx) (k : Nat) (t : Sem Bool) (ρ : Rho) (PB : Bool → Ls → Prop) : Bool → Ls → Prop := fun b ls1 => (b = true → PB true ls1) ∧ (b = false → EvB c k t ρ ls1 PB)
abbrev Op1BK (c : Cx) (k : Nat) (f : Value → Sem Bool) (ρ : Rho) (PB : Bool → Ls → Prop) : D → Ls → Prop := fun d ls1 => Op1B c k f d ρ ls1 PB
abbrev IfK (c : Cx) (k : Nat) (t1 t2 : Sem Value) (ρ : Rho) (P : D → Ls → Prop) : Bool → Ls → Prop := fun b ls1 => (b = true → Ev c k t1 ρ ls1 P) ∧ (b = false → Ev c k t2 ρ ls1 P)
abbrev ConsK (PL : List D → Ls → Prop) (d : D) : List D → Ls → Prop := fun ds ls2 => PL (d :: ds) ls2
abbrev TupK (P : D → Ls → Prop) : List D → Ls → Prop := fun ds ls' => ds.length ≤ sizeLine ∧ P (.tup ds) ls'
abbrev FlK (P : D → Ls → Prop) : List D → Ls → Prop := fun ds ls' => ds.length ≤ sizeLine ∧ P (.fl ds) ls'

/- chaining after an expression -/
theorem EvB.of_cmp {l op r pos whole} (h : Ev c k (eval l c.env) ρ ls (EvK c k (eval r c.env) ρ (Op2K c k (compareOp op) ρ (BoolK PB))))
    (hm : behindInMarks op r = false := by with_unfolding_all rfl) :
    EvB c k (isTrue (.Compare l [op] [r] pos) c.env whole) ρ ls PB := fun A s hA S => by
  refine wpAny_isTrue_Compare1 ?_ hm
  refine wpAny_mono (h A s hA S) ?_ fun _ _ x => x
  rintro v1 s1 ⟨d1, ls1, k1, S1, st1, r1, h1⟩
  refine wpAny_mono (h1 A s1 hA S1) ?_ fun _ _ x => x
  rintro v2 s2 ⟨d2, ls2, k2, S2, st2, r2, h2⟩
  have e1 := Cx.X_keys (c := c) k1
  have e2 := Cx.X_keys (c := c) (k2.trans k1)
  rw [e1] at st2 r2
  refine wpAny_mono (h2 A s2 v1 v2 hA S2 (by rw [e2]; exact Rd.stay st2 _ _ r1) (by rw [e2]; exact r2)) (fun v s' p => ?_) fun _ _ x => x
  obtain ⟨d, ls3, k3, S3, st3, r3, b, rfl, hb⟩ := p.into (k2.trans k1) (st1.trans st2)
  cases r3
  exact wpAny_truthy_bool ⟨ls3, k3, S3, st3, hb⟩

theorem EvB.not {x pos whole} (h : EvB c k (isTrue x c.env (eval x c.env)) ρ ls (NotK PB)) : EvB c k (isTrue (.UnaryOp .Not x pos) c.env whole) ρ ls PB := fun A s hA S => by
  show wpAny _ _ (do return !(← isTrue x c.env (eval x c.env))) _ _ _
  exact wpAny_bind (wpAny_mono (h A s hA S) (fun b s' ⟨l, k, S, st, p⟩ => wpAny_pure ⟨l, k, S, st, p⟩) fun _ _ x => x)

theorem EvB.and2 {x y pos whole} (h : EvB c k (isTrue x c.env (eval x c.env)) ρ ls (AndK c k (isTrue y c.env (eval y c.env)) ρ PB)) :
    EvB c k (isTrue (.BoolOp .And [x, y] pos) c.env whole) ρ ls PB := fun A s hA S => by
  show wpAny _ _ (allTrue .And [x, y] c.env) _ _ _
  refine wpAny_bind (wpAny_mono (h A s hA S) ?_ fun _ _ x => x)
  rintro b s1 ⟨ls1, k1, S1, st1, h1, h2⟩
  cases b with
  | false => exact wpAny_pure ⟨ls1, k1, S1, st1, h1 rfl⟩
  | true =>
    refine wpAny_bind (wpAny_mono (h2 rfl A s1 hA S1) ?_ fun _ _ x => x)
    rintro b s2 p
    have p' := PostB.into k1 st1 p
    cases b <;> exact wpAny_pure p'

theorem EvB.or2 {x y pos whole} (h : EvB c k (isTrue x c.env (eval x c.env)) ρ ls (OrK c k (isTrue y c.env (eval y c.env)) ρ PB)) :
    EvB c k (isTrue (.BoolOp .Or [x, y] pos) c.env whole) ρ ls PB := fun A s hA S => by
  show wpAny _ _ (allTrue .Or [x, y] c.env) _ _ _
  refine wpAny_bind (wpAny_mono (h A s hA S) ?_ fun _ _ x => x)
  rintro b s1 ⟨ls1, k1, S1, st1, h1, h2⟩
  cases b with
  | true => exact wpAny_pure ⟨ls1, k1, S1, st1, h1 rfl⟩
  | false =>
    refine wpAny_bind (wpAny_mono (h2 rfl A s1 hA S1) ?_ fun _ _ x => x)
    rintro b s2 p
    have p' := PostB.into k1 st1 p
    cases b <;> exact wpAny_pure p'

theorem EvB.or4 {x y z u pos whole} (h : EvB c k (isTrue x c.env (eval x c.env)) ρ ls (OrK c k (isTrue (.BoolOp .Or [y, z, u] pos) c.env whole) ρ PB)) :
    EvB c k (isTrue (.BoolOp .Or [x, y, z, u] pos) c.env whole) ρ ls PB := fun A s hA S => by
  show wpAny _ _ (allTrue .Or [x, y, z, u] c.env) _ _ _
  refine wpAny_bind (wpAny_mono (h A s hA S) ?_ fun _ _ x => x)
  rintro b s1 ⟨ls1, k1, S1, st1, h1, h2⟩
  cases b with
  | true => exact wpAny_pure ⟨ls1, k1, S1, st1, h1 rfl⟩
  | false =>
    refine wpAny_mono (h2 rfl A s1 hA S1) ?_ fun _ _ x => x
    rintro b s2 p
    exact PostB.into k1 st1 p
theorem EvB.or3 {x y z pos whole} (h : EvB c k (isTrue x c.env (eval x c.env)) ρ ls (OrK c k (isTrue (.BoolOp .Or [y, z] pos) c.env whole) ρ PB)) :
    EvB c k (isTrue (.BoolOp .Or [x, y, z] pos) c.env whole) ρ ls PB := fun A s hA S => by
  show wpAny _ _ (allTrue .Or [x, y, z] c.env) _ _ _
  refine wpAny_bind (wpAny_mono (h A s hA S) ?_ fun _ _ x => x)
  rintro b s1 ⟨ls1, k1, S1, st1, h1, h2⟩
  cases b with
  | true => exact wpAny_pure ⟨ls1, k1, S1, st1, h1 rfl⟩
  | false =>
    refine wpAny_mono (h2 rfl A s1 hA S1) ?_ fun _ _ x => x
    rintro b s2 p
    exact PostB.into k1 st1 p

theorem EvB.plain {e : Expr} (h : Ev c k (eval e c.env) ρ ls (Op1BK c k truthy ρ PB))
    (he : ∀ whole, isTrue e c.env whole = (do let v ← whole; standAt e.pos; holding [v] (truthy v)) := by intro _; rfl) : EvB c k (isTrue e c.env (eval e c.env)) ρ ls PB := fun A s hA S => by
  refine isTrue_plain ?_ (he _)
  refine wpAny_mono (h A s hA S) ?_ fun _ _ x => x
  rintro v1 s1 ⟨d1, ls1, k1, S1, st1, r1, h1⟩
  refine wpAny_mono (h1 A s1 v1 hA S1 (by rw [Cx.X_keys k1]; exact r1)) (fun b s' p => ?_) fun _ _ x => x
  exact PostB.into k1 st1 p

theorem Op1B_bool {b : Bool} (h : PB b ls) : Op1B c k truthy (.bool b) ρ ls PB := by
  rintro A s v hA S rfl
  exact wpAny_truthy_bool ⟨ls, rfl, S, Stay.refl _ _, h⟩

/- an expression whose data is a list, frozen or mutable -/
def LsOf (ls : Ls) (d : D) (xs : List D) : Prop := d = .fl xs ∨ ∃ a, d = .raw (.ref a) ∧ (a, xs) ∈ ls

theorem LsOf.get {s : Shared} {v : Value} {d : D} {xs : List D} (L : LsOf ls d xs) (S : St c ρ ls s) (r : Rd (c.X ls) s.heap v d) :
    ∃ a vs, v = .ref a ∧ s.heap.IsList a vs ∧ RdL (c.X ls) s.heap vs.toList xs := by
  rcases L with rfl | ⟨a, rfl, hm⟩
  · obtain ⟨a, vs, n, e, _, h1, h2⟩ := r; exact ⟨a, vs, e, h1.isList, h2⟩
  · obtain ⟨vs, n, h1, h2⟩ := S.lists _ hm; exact ⟨a, vs, r, h1.isList, h2⟩
theorem LsOf.getL {s : Shared} {v : Value} {d : D} {xs : List D} (L : LsOf ls d xs) (S : St c ρ ls s) (r : Rd (c.X ls) s.heap v d) :
    ∃ a vs n, v = .ref a ∧ IsL s.heap a vs n ∧ RdL (c.X ls) s.heap vs.toList xs := by
  rcases L with rfl | ⟨a, rfl, hm⟩
  · obtain ⟨a, vs, n, e, _, h1, h2⟩ := r; exact ⟨a, vs, n, e, h1, h2⟩
  · obtain ⟨vs, n, h1, h2⟩ := S.lists _ hm; exact ⟨a, vs, n, r, h1, h2⟩

theorem sz_lt {X : List Addr} {h : Heap} {vs : Array Value} {xs : List D} (r : RdL X h vs.toList xs) (hb : xs.length < 2 ^ 62) : (vs.size : Int) < 2 ^ 63 := by
  have := r.length; simp at this; walk_at "n"

theorem Op1B_list {d : D} {xs : List D} (L : LsOf ls d xs) (hb : xs.length < 2 ^ 62) (h : PB (!xs.isEmpty) ls) : Op1B c k truthy d ρ ls PB := by
  rintro A s v hA S r
  obtain ⟨a, vs, rfl, hl, hr⟩ := L.get S r
  refine wpAny_truthy_list hl (sz_lt hr hb) ⟨ls, rfl, S.same rfl rfl rfl, Stay.refl _ _, ?_⟩
  have : vs.isEmpty = xs.isEmpty := by
    have hz : vs.size = xs.length := by have := hr.length; simpa using this
    unfold Array.isEmpty
    cases xs with
    | nil => rw [hz]; rfl
    | cons x r => rw [hz]; simp
  rw [this]; exact h

theorem Ev_ifexp {test body orelse pos} (h : EvB c k (isTrue test c.env (eval test c.env)) ρ ls (IfK c k (eval body c.env) (eval orelse c.env) ρ P)) :
    Ev c k (eval (.IfExp test body orelse pos) c.env) ρ ls P := fun A s hA S => by
  refine IfExp_ (wpAny_mono (h A s hA S) ?_ fun _ _ x => x)
  rintro b s1 ⟨ls1, k1, S1, st1, h1, h2⟩
  cases b with
  | true => exact wpAny_mono (h1 rfl A s1 hA S1) (fun v s2 p => Post.into k1 st1 p) fun _ _ x => x
  | false => exact wpAny_mono (h2 rfl A s1 hA S1) (fun v s2 p => Post.into k1 st1 p) fun _ _ x => x

/- element lists -/
def Evs (c : Cx) (k : Nat) (ts : Sem (List Value)) (ρ : Rho) (ls : Ls) (P : List D → Ls → Prop) : Prop :=
  ∀ A s, Room k A → St c ρ ls s → wpAny c.M A ts (PostL c ρ ls s.heap P) No s

abbrev EvsK (c : Cx) (k : Nat) (ts : Sem (List Value)) (ρ : Rho) (F : D → List D → Ls → Prop) : D → Ls → Prop := fun d ls1 => Evs c k ts ρ ls1 (F d)
theorem Evs_nil {PL : List D → Ls → Prop} {pos} (h : PL [] ls) : Evs c k (spliced (backTo pos (starEach [] c.env))) ρ ls PL :=
  fun A s hA S => spliced_none ⟨[], ls, rfl, S, Stay.refl _ _, rfl, h⟩
theorem Evs_cons {PL : List D → Ls → Prop} {e rest pos} (h : Ev c k (eval e c.env) ρ ls (EvsK c k (spliced (backTo pos (starEach rest c.env))) ρ (ConsK PL)))
    (he : starEach (e :: rest) c.env = (false, eval e c.env) :: starEach rest c.env := by rfl) : Evs c k (spliced (backTo pos (starEach (e :: rest) c.env))) ρ ls PL := fun A s hA S => by
  refine spliced_more ?_ he
  refine wpAny_mono (h A s hA S) ?_ fun _ _ x => x
  rintro v1 s1 ⟨d1, ls1, k1, S1, st1, r1, h1⟩
  refine wpAny_mono (h1 A s1 hA S1) ?_ fun _ _ x => x
  rintro vs s2 ⟨ds, ls2, k2, S2, st2, r2, h2⟩
  rw [Cx.X_keys k1] at st2 r2
  exact ⟨d1 :: ds, ls2, k2.trans k1, S2, st1.trans st2, RdL.cons (Rd.stay st2 _ _ r1) r2, h2⟩

theorem St.live {s : Shared} (S : St c ρ ls s) {a : Addr} (h : a ∈ c.X ls) : ∃ o, s.heap.get? a = some o := by
  rcases List.mem_append.mp h with h | h
  · exact (S.fm.mine a h).2.2
  · exact S.fm.old a h
theorem St.fresh {s : Shared} (S : St c ρ ls s) : s.heap.objs.size ∉ c.X ls := fun h => by
  obtain ⟨o, e⟩ := S.live h
  exact Nat.lt_irrefl _ (Heap.lt_size e)

theorem newList_ {M : Model} {A : Around} {E : Value → Shared → Prop} {s : Shared} {vs : List Value} {Q : Value → Shared → Prop} (h : Q (.ref s.heap.objs.size) { s with heap := s.heap.push { cls := .type "list", data := .seq vs.toArray } }) (hsz : vs.length ≤ sizeLine) :
    wpAny M A (newList vs) Q E s := wpAny_newObj_type h (by show vs.toArray.size ≤ sizeLine; rw [List.size_toArray]; exact hsz)
theorem newTuple_ {M : Model} {A : Around} {E : Value → Shared → Prop} {s : Shared} {vs : List Value} {Q : Value → Shared → Prop} (h : Q (.ref s.heap.objs.size) { s with heap := s.heap.push { cls := .type "tuple", data := .seq vs.toArray } }) (hsz : vs.length ≤ sizeLine) :
    wpAny M A (newTuple vs) Q E s := wpAny_newObj_type h (by show vs.toArray.size ≤ sizeLine; rw [List.size_toArray]; exact hsz)

theorem St.newT {s : Shared} {vs : List Value} {ds : List D} (S : St c ρ ls s) (r : RdL (c.X ls) s.heap vs ds) :
    Rd (c.X ls) (s.heap.push { cls := .type "tuple", data := .seq vs.toArray }) (.ref s.heap.objs.size) (.tup ds) :=
  ⟨_, vs.toArray, rfl, S.fresh, ⟨_, Heap.get?_push_size _ rfl, rfl, 0, rfl⟩, by simpa using RdL.stay (Keep.push _ _).stay _ _ r⟩
theorem St.newF {s : Shared} {vs : List Value} {ds : List D} (S : St c ρ ls s) (r : RdL (c.X ls) s.heap vs ds) :
    Rd (c.X ls) (s.heap.push { cls := .type "list", data := .seq vs.toArray }) (.ref s.heap.objs.size) (.fl ds) :=
  ⟨_, vs.toArray, 0, rfl, S.fresh, Heap.get?_push_size _ rfl, by simpa using RdL.stay (Keep.push _ _).stay _ _ r⟩

theorem Ev_tuple {elts kk pos} (h : Evs c k (spliced (backTo pos (starEach elts c.env))) ρ ls (TupK P)) : Ev c k (eval (.Tuple elts kk pos) c.env) ρ ls P := fun A s hA S => by
  refine Tuple_ (wpAny_mono (h A s hA S) ?_ fun _ _ x => x)
  rintro vs s1 ⟨ds, ls1, k1, S1, st1, r1, hl, h1⟩
  rw [← r1.length] at hl
  refine newTuple_ ⟨.tup ds, ls1, k1, S1.ext (Keep.push _ _) rfl rfl, st1.trans (Keep.push _ _).stay, ?_, h1⟩ hl
  rw [← Cx.X_keys (c := c) k1] at r1 ⊢; exact S1.newT r1
theorem Ev_list {elts pos} (h : Evs c k (spliced (backTo pos (starEach elts c.env))) ρ ls (FlK P)) : Ev c k (eval (.List elts pos) c.env) ρ ls P := fun A s hA S => by
  refine List_ (wpAny_mono (h A s hA S) ?_ fun _ _ x => x)
  rintro vs s1 ⟨ds, ls1, k1, S1, st1, r1, hl, h1⟩
  rw [← r1.length] at hl
  refine newList_ ⟨.fl ds, ls1, k1, S1.ext (Keep.push _ _) rfl rfl, st1.trans (Keep.push _ _).stay, ?_, h1⟩ hl
  rw [← Cx.X_keys (c := c) k1] at r1 ⊢; exact S1.newF r1
end
end Mine
end

noncomputable section
set_option genSizeOf false
set_option genInjectivity false
set_option Elab.async false
set_option linter.unusedVariables false
namespace Mine
open PySem PySem.Calls PyProof.Rows PySem.W

theorem setItem_exact {prog : Program} {w : World} {A : Around} {E : Value → Shared → Prop} {s : Shared} {l : Addr} {items : Array Value} {n : Nat} {k : Int} {t : Tok} {v : Value} {Q : Unit → Shared → Prop} (hx : IsL s.heap l items n)
    (h0 : 0 ≤ k) (hfit : k < 2 ^ 63) (hn : k < items.size)
    (hQ : Q () { s with heap := s.heap.update l (Obj.mapSeq (·.setIfInBounds k.toNat v)) }) :
    wpAny (model prog w) A (setItem (.ref l) (.int k t) v) Q E s := by
  have hl := hx.isList
  unfold setItem
  refine wpAny_holding ?_
  refine wpAny_bind (wpAny_sequenceKey hl.typeIs (by decide) ?_)
  refine wpAny_bind (wpAny_callSpecial?_slot (name := Str.ofString "__setitem__") hl.typeIs slot_list_setitem
    (wpAny_call_entry slot_list_setitem hl.typeIs entry_list_setitem ?_ (args_list_setitem _ _ _)))
  show wpAny _ _ (Builtin.List.listSubscript? (.int k t) >>= _) _ _ s
  refine wpAny_bind (wpAny_listSubscript_int (fitsIndex_of h0 hfit) ?_)
  obtain ⟨j, rfl⟩ := Int.eq_ofNat_of_zero_le h0
  have hj : j < items.size := by walk_at "n"
  show wpAny _ _ ((seqItemAt l j >>= fun r => pure (r.map (j, ·))) >>= _) _ _ s
  refine wpAny_bind (wpAny_bind (wpAny_seqItemAt hx rfl (wpAny_pure ?_)))
  rw [Array.getElem?_eq_getElem hj]
  show wpAny _ _ (setSeqItemAt l j v >>= _) _ _ s
  refine wpAny_bind (wpAny_setSeqItemAt hx rfl ?_)
  first
    | exact wpAny_bind (wpAny_pure (wpAny_pure ⟨.none, rfl, wpAny_pure hQ⟩))
    | exact wpAny_pure ⟨.none, rfl, wpAny_pure hQ⟩

section
variable {c : Cx} {k : Nat} {ρ : Rho} {ls : Ls} {P : D → Ls → Prop} {PB : Bool → Ls → Prop} {PF : Fl → Rho → Ls → Prop}

theorem Ev_sub {value slice pos} (h : Ev c k (eval value c.env) ρ ls (EvK c k (eval slice c.env) ρ (Op2K c k (subscriptTail value slice) ρ P))) :
    Ev c k (eval (.Subscript value slice pos) c.env) ρ ls P := fun A s hA S => by
  refine Subscript_ (wpAny_mono (h A s hA S) ?_ fun _ _ x => x)
  rintro v1 s1 ⟨d1, ls1, k1, S1, st1, r1, h1⟩
  refine wpAny_mono (h1 A s1 hA S1) ?_ fun _ _ x => x
  rintro v2 s2 ⟨d2, ls2, k2, S2, st2, r2, h2⟩
  have e1 := Cx.X_keys (c := c) k1
  have e2 := Cx.X_keys (c := c) (k2.trans k1)
  rw [e1] at st2 r2
  refine wpAny_mono (h2 A s2 v1 v2 hA S2 (by rw [e2]; exact Rd.stay st2 _ _ r1) (by rw [e2]; exact r2)) (fun v s' p => ?_) fun _ _ x => x
  exact p.into (k2.trans k1) (st1.trans st2)

theorem Op2_item {value slice : Expr} {d dx : D} {xs : List D} {i : Int} (L : LsOf ls d xs) (h0 : 0 ≤ i) (hx : xs[i.toNat]? = some dx) (hb : xs.length < 2 ^ 62) (h : P dx ls)
    (hs : ∀ o i, subscripted slice false o i = operate [o, i] (getItem o i) := by intro _ _; with_unfolding_all rfl) :
    Op2 c k (subscriptTail value slice) d (.int i) ρ ls P := by
  rintro A s v1 v2 hA S r1 ⟨t, rfl⟩
  obtain ⟨a, vs, rfl, hl, hr⟩ := L.get S r1
  obtain ⟨v, hv, rv⟩ := hr.get hx
  have hi : i < 2 ^ 63 := by
    have := (List.getElem?_eq_some_iff.mp hx).1
    walk_at "n"
  refine kba_turn (value' := .Name "x" default) (fun _ => rfl) ?_
  refine subscriptTail_builtin hl.typeIs slot_list_getitem.lookup ?_ (hs _ _) (fun _ => rfl)
  exact wpAny_getItem_list hl h0 hi (by simpa using hv) ⟨dx, ls, rfl, S, Stay.refl _ _, rv, h⟩

theorem Op2_itemT {value slice : Expr} {dx : D} {xs : List D} {i : Int} (h0 : 0 ≤ i) (hx : xs[i.toNat]? = some dx) (hb : xs.length < 2 ^ 62) (h : P dx ls)
    (hs : ∀ o i, subscripted slice false o i = operate [o, i] (getItem o i) := by intro _ _; with_unfolding_all rfl) :
    Op2 c k (subscriptTail value slice) (.tup xs) (.int i) ρ ls P := by
  rintro A s v1 v2 hA S ⟨a, vs, rfl, _, hl, hr⟩ ⟨t, rfl⟩
  obtain ⟨v, hv, rv⟩ := hr.get hx
  have hlen := hr.length
  have hlt := (List.getElem?_eq_some_iff.mp hx).1
  simp at hlen
  have hj : seqIndex? i vs.size = some i.toNat := by
    unfold seqIndex?
    simp; walk_at "n"
  refine kba_turn (value' := .Name "x" default) (fun _ => rfl) ?_
  refine subscriptTail_builtin hl.typeIs slot_tuple_getitem.lookup ?_ (hs _ _) (fun _ => rfl)
  exact getItem_tuple hl (by walk_at "n") (by walk_at "n") hj (by simpa using hv) ⟨dx, ls, rfl, S, Stay.refl _ _, rv, h⟩

def StoreOk (c : Cx) (x : Str) : Prop := c.env.kindOf x = some .local ∨ (c.env.kindOf x = some .cell ∧ ∃ ca, c.env.cells.lookup x = some ca ∧ ca ∈ c.C)

theorem St.store {A : Around} {s : Shared} {x : Str} {v : Value} {d : D} {E : Value → Shared → Prop} {Q : Unit → Shared → Prop} (S : St c ρ ls s) (hk : StoreOk c x) (r : Rd (c.X ls) s.heap v d)
    (h : ∀ s', St c (upd ρ x d) ls s' → Stay (c.X ls) (c.X ls) s.heap s'.heap → Q () s') : wpAny c.M A (storeName c.env x v) Q E s := by
  rcases hk with hk | ⟨hk, ca, hc, hca⟩
  · obtain ⟨m, hm, hmn⟩ := S.names
    exact wpAny_storeName_local hk hm (fun h' hn hs => h _ (S.storeL hk r hm hmn hn hs) (Stay.but hs (Cx.own_X Cx.loc_own))) (by rw [S.fn]; rfl)
  · obtain ⟨w, hw⟩ := S.cells ca hca
    exact wpAny_storeName_cell S.fn hk hc hw (fun h' hn hs => h _ (S.storeC hk hc hca r hn hs) (Stay.but hs (Cx.own_X (Cx.cell_own hca))))

abbrev StoreK (x : Str) (ρ : Rho) (PF : Fl → Rho → Ls → Prop) : D → Ls → Prop := fun d ls' => PF .next (upd ρ x d) ls'
abbrev RetK (ρ : Rho) (PF : Fl → Rho → Ls → Prop) : D → Ls → Prop := fun d ls' => PF (.ret d) ρ ls'
abbrev IfX (c : Cx) (k : Nat) (body orelse : List Stmt) (ρ : Rho) (P1 P2 : Fl → Rho → Ls → Prop) : Bool → Ls → Prop := fun b ls1 => (b = true → Ex c k (execs body c.env) ρ ls1 P1) ∧ (b = false → Ex c k (execs orelse c.env) ρ ls1 P2)
theorem Ex_nil (h : PF .next ρ ls) : Ex c k (execs [] c.env) ρ ls PF := fun A s hA S => wpAny_execs_nil ⟨.next, ρ, ls, S, trivial, h⟩

def Seq (c : Cx) (k : Nat) (rest : List Stmt) (PF : Fl → Rho → Ls → Prop) : Fl → Rho → Ls → Prop
  | .next, ρ, ls => Ex c k (execs rest c.env) ρ ls PF
  | f, ρ, ls => PF f ρ ls

theorem Ex_cons {st rest} (h : Ex c k (exec st c.env) ρ ls (Seq c k rest PF)) : Ex c k (execs (st :: rest) c.env) ρ ls PF := fun A s hA S => by
  refine wpAny_execs_cons (wpAny_mono (h A s hA S) ?_ fun _ _ x => x)
  rintro f s1 ⟨fl, ρ1, ls1, S1, hf, h1⟩
  cases f <;> cases fl <;> simp only [FlR] at hf
  · exact h1 A s1 hA S1
  · exact ⟨.brk, ρ1, ls1, S1, trivial, h1⟩
  · exact ⟨.cont, ρ1, ls1, S1, trivial, h1⟩
  · exact ⟨.ret _, ρ1, ls1, S1, hf, h1⟩

theorem Ex_assign {x pos' value pos} (hk : StoreOk c x) (h : Ev c k (eval value c.env) ρ ls (StoreK x ρ PF))
    (hs : swapsWith value (some (.Name x pos')) pos.line c.env = pure false := by rfl) : Ex c k (exec (.Assign [.Name x pos'] value pos) c.env) ρ ls PF := fun A s hA S => by
  refine wpAny_Assign_Name (wpAny_mono (h A s hA S) ?_ fun _ _ x => x) hs
  rintro v s1 ⟨d, ls1, k1, S1, st1, r1, h1⟩
  refine S1.store hk (by rw [Cx.X_keys k1]; exact r1) fun s' S' _ => ⟨.next, _, ls1, S', trivial, h1⟩

theorem Ex_ret {e pos} (h : Ev c k (eval e c.env) ρ ls (RetK ρ PF)) : Ex c k (exec (.Return (some e) pos) c.env) ρ ls PF := fun A s hA S => by
  refine wpAny_Return_some (wpAny_mono (h A s hA S) ?_ fun _ _ x => x)
  rintro v s1 ⟨d, ls1, k1, S1, st1, r1, h1⟩
  exact ⟨.ret d, ρ, ls1, S1, by rw [Cx.X_keys k1]; exact r1, h1⟩

theorem Ex_if {test body orelse pos} (h : EvB c k (isTrue test c.env (eval test c.env)) ρ ls (IfX c k body orelse ρ PF PF)) :
    Ex c k (exec (.If test body orelse pos) c.env) ρ ls PF := fun A s hA S => by
  refine wpAny_If (wpAny_mono (h A s hA S) ?_ fun _ _ x => x)
  rintro b s1 ⟨ls1, k1, S1, st1, h1, h2⟩
  cases b with
  | true => exact h1 rfl A s1 hA S1
  | false => exact h2 rfl A s1 hA S1

theorem Ex_break {pos} (h : PF .brk ρ ls) : Ex c k (exec (.Break pos) c.env) ρ ls PF := fun A s hA S => by
  show wpAny _ _ (do standAt pos; pure Flow.brk) _ _ _
  exact wpAny_bind (wpAny_standAt (wpAny_pure ⟨.brk, ρ, ls, S, trivial, h⟩))
theorem Ex_cont {pos} (h : PF .cont ρ ls) : Ex c k (exec (.Continue pos) c.env) ρ ls PF := fun A s hA S => by
  show wpAny _ _ (do standAt pos; pure Flow.cont) _ _ _
  exact wpAny_bind (wpAny_standAt (wpAny_pure ⟨.cont, ρ, ls, S, trivial, h⟩))

/- after one turn of a loop -/
def Turn (I : Nat → Rho → Ls → Prop) (n : Nat) (PF : Fl → Rho → Ls → Prop) : Fl → Rho → Ls → Prop
  | .next, ρ, ls => ∃ m ρ0, m < n ∧ Ext ρ0 ρ ∧ I m ρ0 ls
  | .cont, ρ, ls => ∃ m ρ0, m < n ∧ Ext ρ0 ρ ∧ I m ρ0 ls
  | .brk, ρ, ls => PF .next ρ ls
  | .ret d, ρ, ls => PF (.ret d) ρ ls

theorem Ex_while {test body orelse pos} (I : Nat → Rho → Ls → Prop)
    (h : ∀ n ρ ls, I n ρ ls → EvB c k (isTrue test c.env (eval test c.env)) ρ ls (IfX c k body orelse ρ (Turn I n PF) PF))
    (n : Nat) (ρ0 : Rho) (he : Ext ρ0 ρ) (hI : I n ρ0 ls) : Ex c k (exec (.While test body orelse pos) c.env) ρ ls PF := fun A s hA S => by
  refine wpAny_While (codeAny_whileLoop (fun n s => ∃ ρ ls, I n ρ ls ∧ St c ρ ls s) ?_ n ⟨ρ0, ls, hI, S.forget he⟩)
  rintro n s1 ⟨ρ1, ls1, hI1, S1⟩
  refine wpAny_mono (h n ρ1 ls1 hI1 A s1 hA S1) ?_ (fun _ _ x => x.elim)
  rintro b s2 ⟨ls2, k2, S2, st2, h1, h2⟩
  cases b with
  | true =>
    refine wpAny_mono (h1 rfl A s2 hA S2) ?_ (fun _ _ x => x.elim)
    rintro f s3 ⟨fl, ρ3, ls3, S3, hf, h3⟩
    cases f <;> cases fl <;> simp only [FlR] at hf
    · obtain ⟨m, ρ0, hm, he, hi⟩ := h3; exact ⟨m, hm, ρ0, ls3, hi, S3.forget he⟩
    · exact ⟨.next, ρ3, ls3, S3, trivial, h3⟩
    · obtain ⟨m, ρ0, hm, he, hi⟩ := h3; exact ⟨m, hm, ρ0, ls3, hi, S3.forget he⟩
    · exact ⟨.ret _, ρ3, ls3, S3, hf, h3⟩
  | false =>
    refine wpAny_mono (h2 rfl A s2 hA S2) ?_ (fun _ _ x => x.elim)
    rintro f s3 p; exact p

/- `o[i] = value` on a mutable list -/
theorem Ex_setitem {o i pos' value pos} (h : Ev c k (eval value c.env) ρ ls (fun d ls1 => Ev c k (eval o c.env) ρ ls1 (fun od ls2 => Ev c k (eval i c.env) ρ ls2 (fun id ls3 =>
      ∃ a xs j, od = .raw (.ref a) ∧ id = .int j ∧ (a, xs) ∈ ls3 ∧ 0 ≤ j ∧ j < xs.length ∧ xs.length < 2 ^ 62 ∧ PF .next ρ (lset ls3 a (xs.set j.toNat d))))))
    (hs : swapsWith value (some (.Subscript o i pos')) pos.line c.env = pure false := by rfl) : Ex c k (exec (.Assign [.Subscript o i pos'] value pos) c.env) ρ ls PF := fun A s hA S => by
  refine wpAny_Assign_Subscript (wpAny_mono (h A s hA S) ?_ fun _ _ x => x) hs
  rintro v1 s1 ⟨d1, ls1, k1, S1, st1, r1, h1⟩
  refine wpAny_mono (h1 A s1 hA S1) ?_ fun _ _ x => x
  rintro v2 s2 ⟨d2, ls2, k2, S2, st2, r2, h2⟩
  refine wpAny_mono (h2 A s2 hA S2) ?_ fun _ _ x => x
  rintro v3 s3 ⟨d3, ls3, k3, S3, st3, r3, a, xs, j, rfl, rfl, hm, h0, hj, hb, hp⟩
  cases r2
  obtain ⟨t, rfl⟩ := r3
  obtain ⟨vs, n, hl, hr⟩ := S3.lists _ hm
  have hlen := hr.length
  simp at hlen
  have e1 := Cx.X_keys (c := c) k1
  have e2 := Cx.X_keys (c := c) (k2.trans k1)
  have e3 := Cx.X_keys (c := c) (k3.trans (k2.trans k1))
  rw [e1] at st2
  rw [e2] at st3
  rw [e3] at hr
  refine setItem_exact hl h0 (by walk_at "n") (by walk_at "n") ?_
  refine ⟨.next, ρ, _, S3.setList hm hl.isList (hl.update _) (Heap.SameBut.update ..) (ys := xs.set j.toNat d1) ?_ rfl rfl, trivial, hp⟩
  rw [e3]
  simpa using RdL.set hr (Rd.stay (st2.trans st3) _ _ r1)

end
end Mine
end

noncomputable section
set_option genSizeOf false
set_option genInjectivity false
set_option Elab.async false
set_option linter.unusedVariables false
namespace Mine
open PySem PySem.Calls PyProof.Rows PySem.W

structure Hp (G : Heap) (tabs : List (Addr × Addr)) (qual : Addr → Str) (X : List Addr) (ml : Ls) (s : Shared) : Prop where
  top : Keep G s.heap
  live : ∀ a ∈ X, ∃ o, s.heap.get? a = some o
  tab : ∀ q ∈ tabs, q.2 ∈ X ∧ G.get? q.2 = Option.none ∧ q.2 ∉ keys ml
  grown : ∀ q ∈ tabs, TabOk (qual q.2) q.2 X s.heap
  mine : ∀ a ∈ keys ml, a ∈ X ∧ G.get? a = Option.none
  apart : (keys ml).Nodup
  lists : ∀ p ∈ ml, ∃ vs n, IsL s.heap p.1 vs n ∧ RdL X s.heap vs.toList p.2

def RdK (X : List Addr) (h : Heap) (kvs : List (Str × Value)) (kws : List (Str × D)) : Prop := kvs.map (·.1) = kws.map (·.1) ∧ RdL X h (kvs.map (·.2)) (kws.map (·.2))

inductive FnPost (tabs : List (Addr × Addr)) (qual : Addr → Str) (X : List Addr) (ml : Ls) (s : Shared) (P : D → Ls → Prop) (r : Result) (s' : Shared) : Prop where
  | mk (v : Value) (d : D) (ml' : Ls) (hr : r = .ok (.ret v)) (k : keys ml' = keys ml) (l : ∀ p ∈ ml', ∃ vs n, IsL s'.heap p.1 vs n ∧ RdL X s'.heap vs.toList p.2) (nx : Nx (tabs.map (·.2) ++ keys ml) s s') (t : ∀ q ∈ tabs, TabOk (qual q.2) q.2 X s'.heap) (rd : Rd X s'.heap v d) (p : P d ml') : FnPost tabs qual X ml s P r s'

structure Gx where
  prog : Program
  w : World
  G : Heap
  tabs : List (Addr × Addr)
  qual : Addr → Str

def Fn (g : Gx) (k : Nat) (f : Value) (args : List D) (kws : List (Str × D)) (ml : Ls) (P : D → Ls → Prop) : Prop :=
  ∀ A s X vs kvs, Room k A → Hp g.G g.tabs g.qual X ml s → RdL X s.heap vs args → RdK X s.heap kvs kws → codeAny (model g.prog g.w) A (.call f ⟨vs, kvs⟩) (FnPost g.tabs g.qual X ml s P) s

theorem Fn.mono {g : Gx} {k : Nat} {f : Value} {args : List D} {kws : List (Str × D)} {ml : Ls} {P P' : D → Ls → Prop} (h : Fn g k f args kws ml P) (hp : ∀ d ml', P d ml' → P' d ml') : Fn g k f args kws ml P' :=
  fun A s X vs kvs hA H r r' => codeAny_mono (h A s X vs kvs hA H r r') fun _ _ ⟨v, d, ml', a, b, c, e, f, g, i⟩ => ⟨v, d, ml', a, b, c, e, f, g, hp _ _ i⟩
theorem Fn.room {g : Gx} {k k' : Nat} {f : Value} {args : List D} {kws : List (Str × D)} {ml : Ls} {P : D → Ls → Prop} (h : Fn g k f args kws ml P) (hk : k ≤ k') : Fn g k' f args kws ml P :=
  fun A s X vs kvs hA => h A s X vs kvs (hA.mono hk)

def cxOf (fd : FuncData) (f : Addr) (g : Gx) (s0 : Shared) (X0 : List Addr) (ml : Ls) : Cx :=
  { prog := g.prog, w := g.w, G := g.G, tabs := g.tabs, qual := g.qual, s0 := s0, X0 := X0, Z0 := g.tabs.map (·.2) ++ keys ml, env := callEnvC fd s0.heap.objs.size f,
    C := (cellsFrom (s0.heap.objs.size + 1) fd.scope.names []).map (·.2) }

theorem bindL_at (kd : Str → Option NameKind) : ∀ (binds : List (Str × Value)) (m : Str → Option Value) (x : Str) (v : Value), (binds.map (·.1)).Nodup → (x, v) ∈ binds → kd x = some .local → bindL kd binds m x = some v := by
  have out : ∀ (binds : List (Str × Value)) (m : Str → Option Value) (x : Str), x ∉ binds.map (·.1) → bindL kd binds m x = m x := by
    intro binds
    induction binds with
    | nil => intro m x _; rfl
    | cons p r ih =>
      obtain ⟨n, u⟩ := p
      intro m x hx
      simp at hx
      unfold bindL
      rw [ih _ _ (by simpa using hx.2)]
      by_cases h : kd n = some .local
      · rw [if_pos h]; exact if_neg hx.1
      · rw [if_neg h]
  intro binds
  induction binds with
  | nil => intro m x v _ h; cases h
  | cons p r ih =>
    obtain ⟨n, u⟩ := p
    intro m x v hnd hm hk
    simp only [List.map_cons, List.nodup_cons] at hnd
    unfold bindL
    rcases List.mem_cons.mp hm with e | e
    · cases e
      rw [out _ _ _ hnd.1, if_pos hk]
      exact if_pos rfl
    · exact ih _ x v hnd.2 e hk

theorem bindC_at (kd : Str → Option NameKind) : ∀ (binds : List (Str × Value)) (m : Str → Option Value) (x : Str) (v : Value), (binds.map (·.1)).Nodup → (x, v) ∈ binds → kd x ≠ some .local → bindC kd binds m x = some v := by
  have out : ∀ (binds : List (Str × Value)) (m : Str → Option Value) (x : Str), x ∉ binds.map (·.1) → bindC kd binds m x = m x := by
    intro binds
    induction binds with
    | nil => intro m x _; rfl
    | cons p r ih =>
      obtain ⟨n, u⟩ := p
      intro m x hx
      simp at hx
      unfold bindC
      rw [ih _ _ (by simpa using hx.2)]
      by_cases h : kd n = some .local
      · rw [if_pos h]
      · rw [if_neg h]; exact if_neg hx.1
  intro binds
  induction binds with
  | nil => intro m x v _ h; cases h
  | cons p r ih =>
    obtain ⟨n, u⟩ := p
    intro m x v hnd hm hk
    simp only [List.map_cons, List.nodup_cons] at hnd
    unfold bindC
    rcases List.mem_cons.mp hm with e | e
    · cases e
      rw [out _ _ _ hnd.1, if_neg hk]
      exact if_pos rfl
    · exact ih _ x v hnd.2 e hk

/- the names bound at entry -/
def RdB (X : List Addr) (h : Heap) (binds : List (Str × Value)) (ρ : Rho) : Prop := binds.map (·.1) = ρ.map (·.1) ∧ RdL X h (binds.map (·.2)) (ρ.map (·.2))

theorem RdB.at {X : List Addr} {h : Heap} : ∀ {binds : List (Str × Value)} {ρ : Rho} {x : Str} {d : D}, RdB X h binds ρ → ρ.lookup x = some d → ∃ v, (x, v) ∈ binds ∧ Rd X h v d
  | [], [], x, d, _, e => by cases e
  | [], _ :: _, _, _, r, _ => by have := r.1; simp at this
  | _ :: _, [], _, _, r, _ => by have := r.1; simp at this
  | (n, v) :: bs, (y, e) :: ρ, x, d, ⟨r1, v', vs', q, r2, r3⟩, hx => by
    simp at r1 q
    obtain ⟨rfl, r1⟩ := r1
    obtain ⟨rfl, rfl⟩ := q
    rw [List.lookup_cons] at hx
    by_cases hxn : (x == n) = true
    · have : x = n := by simpa using hxn
      subst this
      simp only [hxn] at hx
      cases hx
      exact ⟨v, .head _, r2⟩
    · simp only [hxn] at hx
      obtain ⟨u, h1, h2⟩ := RdB.at (binds := bs) ⟨r1, r3⟩ hx
      exact ⟨u, .tail _ h1, h2⟩

def Fl.val : Fl → D
  | .ret d => d
  | _ => .none

/- the frame's state at its start -/
theorem St_enter {g : Gx} {fa : Addr} {fd : FuncData} {ml : Ls} {ρ0 : Rho} {s s' : Shared} {X : List Addr} {binds : List (Str × Value)} (H : Hp g.G g.tabs g.qual X ml s) (hρ : RdB X s.heap binds ρ0) (hnd : (ρ0.map (·.1)).Nodup)
    (hkind : ∀ n, ∀ x ∈ ρ0.map (·.1), fd.scope.names.lookup x = some .local ∨ (fd.scope.names.lookup x = some .cell ∧ ((cellsFrom n fd.scope.names []).lookup x).isSome = true))
    (hcl : ∀ n, ∀ ca ∈ (cellsFrom n fd.scope.names []).map (·.2), ∃ y, (cellsFrom n fd.scope.names []).lookup y = some ca) (hk : fd.scope.kind = .function)
    (x : InCallC s (callEnvC fd s.heap.objs.size fa).locals (bindL (callEnvC fd s.heap.objs.size fa).kindOf binds fun _ => none) (callEnvC fd s.heap.objs.size fa).cells (bindC (callEnvC fd s.heap.objs.size fa).kindOf binds fun _ => none) s') :
    St (cxOf fd fa g s X ml) ρ0 ml s' := by
  obtain ⟨h1, tk, e1⟩ := x.toInCall.same
  have hLnone : s.heap.get? s.heap.objs.size = Option.none := by
    cases e : s.heap.get? s.heap.objs.size with
    | none => rfl
    | some o => exact absurd (Heap.lt_size e) (Nat.lt_irrefl _)
  have big : ∀ b : Nat, s.heap.objs.size ≤ b → s.heap.get? b = Option.none := fun b hb => by
    cases e : s.heap.get? b with
    | none => rfl
    | some o => exact absurd (Heap.lt_size e) (Nat.not_lt.mpr hb)
  have bigG : ∀ b : Nat, s.heap.objs.size ≤ b → g.G.get? b = Option.none := fun b hb => by
    cases e : g.G.get? b with
    | none => rfl
    | some o => have := H.top _ _ e; rw [big b hb] at this; cases this
  have hC : ∀ ca ∈ (cxOf fd fa g s X ml).C, s.heap.objs.size < ca := fun ca hca => by
    obtain ⟨⟨y, ca'⟩, hm, rfl⟩ := List.mem_map.mp hca
    exact x.above y _ hm
  have hlt : ∀ a ∈ keys ml, a < s.heap.objs.size := fun a ha => let ⟨o, e⟩ := H.live a (H.mine a ha).1; Heap.lt_size e
  have stX : Stay X ((cxOf fd fa g s X ml).X ml) s.heap s'.heap := fun b o hb e _ => by
    refine ⟨fun hin => ?_, x.toInCall.keep _ _ e⟩
    rcases List.mem_append.mp hin with hin | hin
    · rcases List.mem_cons.mp hin with rfl | hin
      · exact Nat.lt_irrefl _ (Heap.lt_size e)
      · rcases List.mem_append.mp hin with hin | hin
        · exact Nat.lt_irrefl _ (Nat.lt_trans (hC b hin) (Heap.lt_size e))
        · exact hb (H.mine b hin).1
    · exact hb hin
  exact {
    fm := {
      top := fun a o e => x.toInCall.keep _ _ (H.top a o e)
      nx := ⟨fun a o e _ => x.toInCall.keep a o e, by rw [e1]; rfl, by rw [e1]; rfl⟩
      mine := by
        intro a ha
        rcases List.mem_cons.mp ha with rfl | ha
        · exact ⟨.inr hLnone, bigG _ (Nat.le_refl _), let ⟨o, _, _, e, _⟩ := x.toInCall.ns; ⟨o, e⟩⟩
        · rcases List.mem_append.mp ha with ha | ha
          · have := Nat.le_of_lt (hC a ha)
            obtain ⟨y, hy⟩ := hcl _ a ha
            exact ⟨.inr (big a this), bigG a this, let ⟨o, e, _⟩ := x.cell y a hy; ⟨o, e⟩⟩
          · obtain ⟨o, e⟩ := H.live a (H.mine a ha).1
            exact ⟨.inl (List.mem_append_right _ ha), (H.mine a ha).2, o, x.toInCall.keep _ _ e⟩
      apart := by
        refine List.nodup_cons.mpr ⟨fun ha => ?_, List.nodup_append.mpr ⟨?_, H.apart, ?_⟩⟩
        · rcases List.mem_append.mp ha with ha | ha
          · exact Nat.lt_irrefl _ (hC _ ha)
          · exact Nat.lt_irrefl _ (hlt _ ha)
        · exact List.Pairwise.map _ (fun _ _ h => h) x.apart
        · intro a ha b hb e
          subst e
          exact Nat.lt_irrefl _ (Nat.lt_trans (hC a ha) (hlt a hb))
      old := fun a ha => let ⟨o, e⟩ := H.live a ha; ⟨o, x.toInCall.keep _ _ e⟩
      sub := by
        intro a ha
        rcases List.mem_append.mp ha with ha | ha
        · obtain ⟨q, hq, rfl⟩ := List.mem_map.mp ha; exact (H.tab q hq).1
        · exact (H.mine a ha).1
      tabs := by
        intro q hq
        refine ⟨List.mem_append_left _ (List.mem_map_of_mem hq), (H.tab q hq).2.1, fun ha => ?_⟩
        obtain ⟨o, e⟩ := H.live _ (H.tab q hq).1
        have hl := Heap.lt_size e
        rcases List.mem_cons.mp ha with e | ha
        · exact Nat.lt_irrefl _ (e ▸ hl)
        · rcases List.mem_append.mp ha with ha | ha
          · exact Nat.lt_irrefl _ (Nat.lt_trans (hC _ ha) hl)
          · exact (H.tab q hq).2.2 ha
      grown := fun q hq => (H.grown q hq).stay (fun o e => x.toInCall.keep _ _ e) stX }
    fn := hk
    inj := fun y z ca hy hz => name_of_addr x.apart (mem_of_lookup hy) (mem_of_lookup hz)
    cells := fun ca hca => let ⟨y, hy⟩ := hcl _ ca hca; ⟨_, x.cell y ca hy⟩
    names := by
      refine ⟨_, x.toInCall.ns, fun y d hy => ?_⟩
      obtain ⟨v, hm, rv⟩ := hρ.at hy
      have stX : Stay X ((cxOf fd fa g s X ml).X ml) s.heap s'.heap := fun b o hb e _ => by
        refine ⟨fun hin => ?_, x.toInCall.keep _ _ e⟩
        rcases List.mem_append.mp hin with hin | hin
        · rcases List.mem_cons.mp hin with rfl | hin
          · exact Nat.lt_irrefl _ (Heap.lt_size e)
          · rcases List.mem_append.mp hin with hin | hin
            · exact Nat.lt_irrefl _ (Nat.lt_trans (hC b hin) (Heap.lt_size e))
            · exact hb (H.mine b hin).1
        · exact hb hin
      refine ⟨v, Rd.stay stX _ _ rv, ?_⟩
      have hmem : y ∈ ρ0.map (·.1) := hρ.1 ▸ List.mem_map_of_mem (f := (·.1)) hm
      rcases hkind (s.heap.objs.size + 1) y hmem with hl | ⟨hl, hs⟩
      · exact .inl ⟨hl, bindL_at _ _ _ _ _ (hρ.1 ▸ hnd) hm hl⟩
      · obtain ⟨ca, hca⟩ := Option.isSome_iff_exists.mp hs
        refine .inr ⟨ca, .inl hl, hca, ?_⟩
        have := x.cell y ca hca
        rwa [bindC_at _ _ _ y v (hρ.1 ▸ hnd) hm (by show fd.scope.names.lookup y ≠ _; rw [hl]; simp)] at this
    lists := by
      intro p hp
      obtain ⟨vs, n, h1, h2⟩ := H.lists p hp
      have stX : Stay X ((cxOf fd fa g s X ml).X ml) s.heap s'.heap := fun b o hb e _ => by
        refine ⟨fun hin => ?_, x.toInCall.keep _ _ e⟩
        rcases List.mem_append.mp hin with hin | hin
        · rcases List.mem_cons.mp hin with rfl | hin
          · exact Nat.lt_irrefl _ (Heap.lt_size e)
          · rcases List.mem_append.mp hin with hin | hin
            · exact Nat.lt_irrefl _ (Nat.lt_trans (hC b hin) (Heap.lt_size e))
            · exact hb (H.mine b hin).1
        · exact hb hin
      exact ⟨vs, n, x.toInCall.keep _ _ h1, RdL.stay stX _ _ h2⟩ }

theorem Fn_def {g : Gx} {k : Nat} {fa : Addr} {o : Obj} {fd : FuncData} {body : List Stmt} {args : List D} {kws : List (Str × D)} {ml : Ls} {P : D → Ls → Prop} (ρ0 : Rho)
    (ho : g.G.get? fa = some o) (hdata : o.data = .func fd) (hlim : g.G.NoLimit) (hcd : g.G.CodeRec fd.code fd.qualname) (hbody : fd.body = .stmts body) (hclo : fd.closure = [])
    (hbind : ∀ s X vs kvs, Keep g.G s.heap → (∀ a ∈ X, ∃ o, s.heap.get? a = some o) → RdL X s.heap vs args → RdK X s.heap kvs kws → ∃ binds, BindsTo s fd ⟨vs, kvs⟩ binds ∧ RdB X s.heap binds ρ0)
    (hnd : (ρ0.map (·.1)).Nodup)
    (hkind : ∀ n, ∀ x ∈ ρ0.map (·.1), fd.scope.names.lookup x = some .local ∨ (fd.scope.names.lookup x = some .cell ∧ ((cellsFrom n fd.scope.names []).lookup x).isSome = true))
    (hcl : ∀ n, ∀ ca ∈ (cellsFrom n fd.scope.names []).map (·.2), ∃ y, (cellsFrom n fd.scope.names []).lookup y = some ca)
    (h : ∀ s0 X0, Ex (cxOf fd fa g s0 X0 ml) k (execs body (cxOf fd fa g s0 X0 ml).env) ρ0 ml (fun fl ρ' ls' => ∃ extra ml', ls' = extra ++ ml' ∧ keys ml' = keys ml ∧ P fl.val ml'))
    (hco : fd.scope.isCoroutine = false := by rfl) (hgen : fd.scope.isGenerator = false := by rfl) (hk : fd.scope.kind = .function := by rfl) :
    Fn g (k+1) (.ref fa) args kws ml P := by
  intro A s X vs kvs hA H r rk
  obtain ⟨binds, hb, hρ⟩ := hbind s X vs kvs H.top H.live r rk
  refine codeAny_call_function hA.d (H.top _ _ ho) hdata hco hgen hbody (hcd.keeps H.top) ?_
  refine hb _ _ _ _ ?_
  rw [hclo]
  refine wpAny_newFunctionEnv_cells hk ?_ fun env he s' x => ?_
  · intro y hy
    exact hkind _ _ (hρ.1 ▸ List.mem_map_of_mem hy)
  subst he
  refine ⟨(hlim.keeps H.top).keeps x.toInCall.keep, codeAny_func ?_⟩
  have S : St (cxOf fd fa g s X ml) ρ0 ml s' := St_enter H hρ hnd hkind hcl hk x
  refine wpAny_mono (h s X _ s' hA.deeper S) ?_ (fun _ _ x => x.elim)
  rintro f s2 ⟨fl, ρ2, ls2, S2, hf, extra, ml', rfl, hkeys, hp⟩
  have stX : Stay ((cxOf fd fa g s X ml).X (extra ++ ml')) X s2.heap s2.heap := fun b o hb e _ => ⟨fun hin => hb (List.mem_append_right _ hin), e⟩
  refine ⟨_, fl.val, ml', rfl, hkeys, fun p hp => ?_, S2.fm.nx, fun q hq => (S2.fm.grown q hq).stay (fun o e => e) stX, ?_, hp⟩
  · obtain ⟨vs, n, h1, h2⟩ := S2.lists p (List.mem_append_right _ hp)
    exact ⟨vs, n, h1, RdL.stay stX _ _ h2⟩
  · cases f <;> cases fl <;> simp only [FlR] at hf
    · rfl
    · rfl
    · rfl
    · exact Rd.stay stX _ _ hf

end Mine
end

noncomputable section
set_option genSizeOf false
set_option genInjectivity false
set_option Elab.async false
set_option linter.unusedVariables false
namespace Mine
open PySem PySem.Calls PyProof.Rows PySem.W

def Cx.gx (c : Cx) : Gx := ⟨c.prog, c.w, c.G, c.tabs, c.qual⟩

def mset (ls ml : Ls) : Ls := ls.map fun p => (p.1, (ml.lookup p.1).getD p.2)
theorem keys_mset (ls ml : Ls) : keys (mset ls ml) = keys ls := by unfold mset keys; simp [List.map_map, Function.comp_def]
theorem mset_nil (ls : Ls) : mset ls [] = ls := by unfold mset; simp
theorem mset_one (ls : Ls) (a : Addr) (xs : List D) : mset ls [(a, xs)] = lset ls a xs := by
  induction ls with
  | nil => rfl
  | cons p r ih =>
    obtain ⟨b, ys⟩ := p
    show (b, (List.lookup b [(a, xs)]).getD ys) :: mset r [(a, xs)] = lset ((b, ys) :: r) a xs
    rw [ih]
    show _ = (if b = a then (b, xs) :: lset r a xs else (b, ys) :: lset r a xs)
    rw [List.lookup_cons]
    by_cases h : b = a
    · subst h; simp
    · have : (b == a) = false := by simpa using h
      simp only [this, h, if_false, List.lookup_nil, Option.getD_none]

theorem lookup_mem {ml : Ls} {a : Addr} {ys : List D} (h : ml.lookup a = some ys) : (a, ys) ∈ ml := by
  induction ml with
  | nil => cases h
  | cons p r ih =>
    obtain ⟨b, zs⟩ := p
    rw [List.lookup_cons] at h
    by_cases e : (a == b) = true
    · simp only [e] at h; cases h
      have : a = b := by simpa using e
      subst this; exact .head _
    · simp only [e] at h; exact .tail _ (ih h)
theorem lookup_none {ml : Ls} {a : Addr} (h : ml.lookup a = Option.none) : a ∉ keys ml := by
  induction ml with
  | nil => intro x; cases x
  | cons p r ih =>
    obtain ⟨b, zs⟩ := p
    rw [List.lookup_cons] at h
    by_cases e : (a == b) = true
    · simp only [e] at h; cases h
    · simp only [e] at h
      intro hx
      rcases List.mem_cons.mp hx with q | q
      · exact e (by simp [q])
      · exact ih h q

theorem ne_of_tab_cell {h : Heap} {a b : Addr} {v : Option Value} {q : Str} {X : List Addr} (x : TabOk q a X h) (y : h.IsCell b v) : a ≠ b := by
  rintro rfl
  obtain ⟨o, h1, h2⟩ := y
  obtain ⟨ps, h3, _⟩ := x
  rw [h1] at h3; cases h3; cases h2

section
variable {c : Cx} {k : Nat} {ρ : Rho} {ls : Ls} {P : D → Ls → Prop} {PB : Bool → Ls → Prop} {PF : Fl → Rho → Ls → Prop}

theorem St.hp {s : Shared} {ml : Ls} (S : St c ρ ls s) (hsub : ∀ p ∈ ml, p ∈ ls) (hnd : (keys ml).Nodup) : Hp c.G c.tabs c.qual (c.X ls) ml s where
  top := S.fm.top
  live := fun a ha => S.live ha
  tab := fun q hq => ⟨List.mem_append_right _ (S.fm.sub _ (S.fm.tabs q hq).1), (S.fm.tabs q hq).2.1, fun hk => (S.fm.tabs q hq).2.2 (Cx.key_own (by
    obtain ⟨p, hp, e⟩ := List.mem_map.mp hk
    exact e ▸ List.mem_map_of_mem (hsub p hp)))⟩
  grown := S.fm.grown
  mine := fun a ha => by
    obtain ⟨p, hp, rfl⟩ := List.mem_map.mp ha
    have : p.1 ∈ c.own ls := Cx.key_own (List.mem_map_of_mem (hsub p hp))
    exact ⟨Cx.own_X this, (S.fm.mine _ this).2.1⟩
  apart := hnd
  lists := fun p hp => S.lists p (hsub p hp)

theorem St.back {s s' : Shared} {ml ml' : Ls} (S : St c ρ ls s) (hsub : ∀ p ∈ ml, p ∈ ls) (hnd : (keys ml).Nodup) (hk : keys ml' = keys ml)
    (hl : ∀ p ∈ ml', ∃ vs n, IsL s'.heap p.1 vs n ∧ RdL (c.X ls) s'.heap vs.toList p.2) (nx : Nx (c.tabs.map (·.2) ++ keys ml) s s') (gr : ∀ q ∈ c.tabs, TabOk (c.qual q.2) q.2 (c.X ls) s'.heap) :
    St c ρ (mset ls ml') s' ∧ Stay (c.X ls) (c.X ls) s.heap s'.heap := by
  have hX : c.X (mset ls ml') = c.X ls := Cx.X_keys (keys_mset ..)
  have hown : c.own (mset ls ml') = c.own ls := Cx.own_keys (keys_mset ..)
  have kml : ∀ a ∈ keys ml, a ∈ keys ls := fun a ha => by
    obtain ⟨p, hp, rfl⟩ := List.mem_map.mp ha
    exact List.mem_map_of_mem (hsub p hp)
  have inX : ∀ a ∈ c.tabs.map (·.2) ++ keys ml, a ∈ c.X ls := fun a ha => by
    rcases List.mem_append.mp ha with ha | ha
    · obtain ⟨q, hq, rfl⟩ := List.mem_map.mp ha
      exact List.mem_append_right _ (S.fm.sub _ (S.fm.tabs q hq).1)
    · exact Cx.own_X (Cx.key_own (kml a ha))
  have st : Stay (c.X ls) (c.X ls) s.heap s'.heap := fun b o hb e _ => ⟨hb, nx.keep b o e fun h => hb (inX b h)⟩
  have alive : ∀ a, (∃ o, s.heap.get? a = some o) → ∃ o, s'.heap.get? a = some o := fun a ⟨o, e⟩ => by
    by_cases h : a ∈ c.tabs.map (·.2) ++ keys ml
    · rcases List.mem_append.mp h with ha | ha
      · obtain ⟨q, hq, rfl⟩ := List.mem_map.mp ha
        obtain ⟨ps, e, _⟩ := gr q hq; exact ⟨_, e⟩
      · rw [← hk] at ha
        obtain ⟨p, hp, rfl⟩ := List.mem_map.mp ha
        obtain ⟨vs, n, h1, _⟩ := hl p hp; exact ⟨_, h1⟩
    · exact ⟨o, nx.keep a o e h⟩
  have notab : ∀ a ∈ c.own ls, a ∉ c.tabs.map (·.2) := fun a ha h => by
    obtain ⟨q, hq, rfl⟩ := List.mem_map.mp h
    exact (S.fm.tabs q hq).2.2 ha
  have nd := List.nodup_cons.mp S.fm.apart
  have hLn : c.env.locals ∉ c.tabs.map (·.2) ++ keys ml := fun h => by
    rcases List.mem_append.mp h with h | h
    · exact notab _ Cx.loc_own h
    · exact nd.1 (List.mem_append_right _ (kml _ h))
  have cellkeep : ∀ ca v, s.heap.IsCell ca v → s'.heap.IsCell ca v := fun ca v hc => by
    obtain ⟨o, ho, hd⟩ := id hc
    refine ⟨o, nx.keep _ _ ho fun h => ?_, hd⟩
    rcases List.mem_append.mp h with h | h
    · obtain ⟨q, hq, rfl⟩ := List.mem_map.mp h
      exact ne_of_tab_cell (S.fm.grown q hq) hc rfl
    · obtain ⟨p, hp, rfl⟩ := List.mem_map.mp h
      obtain ⟨vs, n, h1, _⟩ := S.lists p (hsub p hp)
      exact ne_of_list_cell h1.isList hc rfl
  refine ⟨{
    fm := {
      top := fun a o e => nx.keep _ _ (S.fm.top a o e) fun h => by
        rcases List.mem_append.mp h with h | h
        · obtain ⟨q, hq, rfl⟩ := List.mem_map.mp h
          rw [(S.fm.tabs q hq).2.1] at e; cases e
        · rw [(S.fm.mine _ (Cx.key_own (kml a h))).2.1] at e; cases e
      nx := S.fm.nx.trans nx fun a ha => by
        rcases List.mem_append.mp ha with h | h
        · obtain ⟨q, hq, rfl⟩ := List.mem_map.mp h
          exact .inl (S.fm.tabs q hq).1
        · exact (S.fm.mine _ (Cx.key_own (kml a h))).1
      mine := by rw [hown]; exact fun a ha => ⟨(S.fm.mine a ha).1, (S.fm.mine a ha).2.1, alive a (S.fm.mine a ha).2.2⟩
      apart := by rw [hown]; exact S.fm.apart
      old := fun a ha => alive a (S.fm.old a ha)
      sub := S.fm.sub
      tabs := by rw [hown]; exact S.fm.tabs
      grown := by rw [hX]; exact gr }
    fn := S.fn
    inj := S.inj
    cells := fun ca hca => let ⟨v, hv⟩ := S.cells ca hca; ⟨v, cellkeep _ _ hv⟩
    names := by
      obtain ⟨m, hm, hmn⟩ := S.names
      refine ⟨m, ?_, fun x d hx => ?_⟩
      · obtain ⟨o, es, ep, h1, h2⟩ := hm
        exact ⟨o, es, ep, nx.keep _ _ h1 hLn, h2⟩
      · obtain ⟨v, r, i⟩ := hmn x d hx
        exact ⟨v, by rw [hX]; exact Rd.stay st _ _ r, i.keep fun ca _ h => cellkeep _ _ h⟩
    lists := by
      intro p hp
      rw [hX]
      obtain ⟨q, hq, rfl⟩ := List.mem_map.mp hp
      simp only
      cases hlk : ml'.lookup q.1 with
      | some ys => exact hl (q.1, ys) (lookup_mem hlk)
      | none =>
        have := lookup_none hlk
        obtain ⟨vs, n, h1, h2⟩ := S.lists q hq
        refine ⟨vs, n, nx.keep _ _ h1 fun h => ?_, RdL.stay st _ _ h2⟩
        rcases List.mem_append.mp h with h | h
        · exact notab _ (Cx.key_own (List.mem_map_of_mem hq)) h
        · rw [hk] at this; exact this h }, st⟩

theorem St.call {A : Around} {s : Shared} {f : Value} {vs : List Value} {kvs : List (Str × Value)} {ds : List D} {kws : List (Str × D)} {ml : Ls} {Pf : D → Ls → Prop} (S : St c ρ ls s) (hA : Room k A)
    (F : Fn c.gx k f ds kws ml Pf) (hsub : ∀ p ∈ ml, p ∈ ls) (hnd : (keys ml).Nodup) (r : RdL (c.X ls) s.heap vs ds) (rk : RdK (c.X ls) s.heap kvs kws)
    (h : ∀ d ml', keys ml' = keys ml → Pf d ml' → P d (mset ls ml')) : wpAny c.M A (call f vs kvs) (Post c ρ ls s.heap P) No s := by
  refine wpAny_call (codeAny_mono (F A s _ vs kvs hA (S.hp hsub hnd) r rk) ?_)
  rintro _ s' ⟨v, d, ml', rfl, hk, hl, nx, gr, rv, hp⟩
  obtain ⟨S', st⟩ := S.back hsub hnd hk hl nx gr
  exact ⟨d, _, keys_mset .., S', st, rv, h d ml' hk hp⟩

def CallF (c : Cx) (k : Nat) (f : Value) (ds : List D) (kws : List (Str × D)) (ls : Ls) (P : D → Ls → Prop) : Prop :=
  ∃ ml Pf, Fn c.gx k f ds kws ml Pf ∧ (∀ p ∈ ml, p ∈ ls) ∧ (keys ml).Nodup ∧ ∀ d ml', keys ml' = keys ml → Pf d ml' → P d (mset ls ml')

theorem CallF.zero {f : Value} {ds : List D} {kws : List (Str × D)} (F : Fn c.gx k f ds kws [] (fun d ml' => P d ls)) : CallF c k f ds kws ls P := by
  refine ⟨[], _, F, (fun _ h => nomatch h), List.nodup_nil, ?_⟩
  intro d ml' hk hp
  cases ml' with
  | nil => rw [mset_nil]; exact hp
  | cons p r => simp [keys] at hk
theorem CallF.one {f : Value} {ds : List D} {kws : List (Str × D)} (a : Addr) (xs : List D) (hm : (a, xs) ∈ ls) (F : Fn c.gx k f ds kws [(a, xs)] (fun d ml' => ∀ ys, ml' = [(a, ys)] → P d (lset ls a ys))) : CallF c k f ds kws ls P := by
  refine ⟨[(a, xs)], _, F, ?_, (by simp [keys]), ?_⟩
  · intro p h
    cases h with
    | head => exact hm
    | tail _ h => cases h
  · intro d ml' hk hp
    match ml', hk with
    | [(b, ys)], hk =>
      have : b = a := by simpa [keys] using hk
      subst this
      rw [mset_one]; exact hp ys rfl

end
end Mine
end

noncomputable section
set_option genSizeOf false
set_option genInjectivity false
set_option Elab.async false
set_option linter.unusedVariables false
namespace Mine
open PySem PySem.Calls PyProof.Rows PySem.W

mutual
def D.py : D → PyData
  | .int i => .int i
  | .bool b => .bool b
  | .none => .none
  | .tup l => .tuple (pys l)
  | .fl l => .list (pys l)
  | .raw _ => .none
  | .lam _ => .none
  | .objAt _ => .none
def pys : List D → List PyData
  | [] => []
  | d :: r => d.py :: pys r
end
mutual
def D.plain : D → Bool
  | .raw _ => false
  | .lam _ => false
  | .objAt _ => false
  | .tup l => plains l
  | .fl l => plains l
  | _ => true
def plains : List D → Bool
  | [] => true
  | d :: r => d.plain && plains r
end

mutual
theorem Rd.reads {X : List Addr} {h : Heap} : ∀ (d : D) (v : Value), Rd X h v d → d.plain = true → ∃ as, Reads h v d.py as
  | .int _, v, ⟨t, e⟩, _ => by subst e; exact ⟨_, .int _ _⟩
  | .bool _, v, e, _ => by cases e; exact ⟨_, .bool _⟩
  | .none, v, e, _ => by cases e; exact ⟨_, .none⟩
  | .raw _, v, _, p => by simp [D.plain] at p
  | .lam _, v, _, p => by simp [D.plain] at p
  | .objAt _, v, _, p => by simp [D.plain] at p
  | .tup l, v, ⟨a, vs, e, hx, ⟨o, ho, hc, n, hd⟩, hl⟩, p => by
    subst e
    obtain ⟨as, ra⟩ := RdL.reads l _ hl (by simpa [D.plain] using p)
    exact ⟨_, .tuple ho hc hd ra⟩
  | .fl l, v, ⟨a, vs, n, e, hx, ho, hl⟩, p => by
    subst e
    obtain ⟨as, ra⟩ := RdL.reads l _ hl (by simpa [D.plain] using p)
    exact ⟨_, .list ho rfl rfl ra⟩
theorem RdL.reads {X : List Addr} {h : Heap} : ∀ (l : List D) (vs : List Value), RdL X h vs l → plains l = true → ∃ as, ReadsAll h vs (pys l) as
  | [], _, r, _ => by cases r; exact ⟨_, .nil⟩
  | d :: ds, vs, ⟨v, vs', e, h1, h2⟩, p => by
    subst e
    simp only [plains, Bool.and_eq_true] at p
    obtain ⟨as, r1⟩ := Rd.reads d v h1 p.1
    obtain ⟨bs, r2⟩ := RdL.reads ds vs' h2 p.2
    exact ⟨_, .cons r1 r2⟩
end

mutual
theorem D.canLay : ∀ d : D, d.plain = true → d.py.canLay0 = true
  | .int _, _ => rfl
  | .bool _, _ => rfl
  | .none, _ => rfl
  | .raw _, p => by simp [D.plain] at p
  | .lam _, p => by simp [D.plain] at p
  | .objAt _, p => by simp [D.plain] at p
  | .tup l, p => by simpa [D.py, PyData.canLay0] using pys_canLay l (by simpa [D.plain] using p)
  | .fl l, p => by simpa [D.py, PyData.canLay0] using pys_canLay l (by simpa [D.plain] using p)
theorem pys_canLay : ∀ l : List D, plains l = true → PyData.canLayAll0 (pys l) = true
  | [], _ => rfl
  | d :: r, p => by
    simp only [plains, Bool.and_eq_true] at p
    simp [pys, PyData.canLayAll0, D.canLay d p.1, pys_canLay r p.2]
end

/- depth bounded -/
def D.ok (d : D) : Prop := d.plain = true ∧ d.py.depth ≤ 10

/- a datum of a list or a plain thing, as PyData -/
def PyOf (ls : Ls) (d : D) (p : PyData) : Prop := (d.plain = true ∧ p = d.py) ∨ ∃ a xs, d = .raw (.ref a) ∧ (a, xs) ∈ ls ∧ plains xs = true ∧ p = .list (pys xs)

theorem PyOf.of {ls : Ls} {d : D} (h : d.plain = true) : PyOf ls d d.py := .inl ⟨h, rfl⟩
theorem PyOf.ls {ls : Ls} {d : D} {xs : List D} (L : LsOf ls d xs) (h : plains xs = true) : PyOf ls d (.list (pys xs)) := by
  rcases L with rfl | ⟨a, rfl, hm⟩
  · exact .inl ⟨by simpa [D.plain] using h, rfl⟩
  · exact .inr ⟨a, xs, rfl, hm, h, rfl⟩
theorem PyOf.canLay {ls : Ls} {d : D} {p : PyData} (h : PyOf ls d p) : p.canLay0 = true := by
  rcases h with ⟨h, rfl⟩ | ⟨a, xs, rfl, _, h, rfl⟩
  · exact D.canLay d h
  · simpa [PyData.canLay0] using pys_canLay xs h

section
variable {c : Cx} {k : Nat} {ρ : Rho} {ls : Ls} {P : D → Ls → Prop} {PB : Bool → Ls → Prop}

theorem PyOf.reads {s : Shared} {v : Value} {d : D} {p : PyData} (h : PyOf ls d p) (S : St c ρ ls s) (r : Rd (c.X ls) s.heap v d) : ∃ as, Reads s.heap v p as := by
  rcases h with ⟨h, rfl⟩ | ⟨a, xs, rfl, hm, h, rfl⟩
  · exact Rd.reads d v r h
  · obtain ⟨vs, n, h1, h2⟩ := S.lists _ hm
    cases r
    obtain ⟨o, ho, hc, n, hd⟩ := h1.isList
    obtain ⟨as, ra⟩ := RdL.reads xs _ h2 h
    exact ⟨_, .list ho hc hd ra⟩

theorem Op2_eqD {d1 d2 : D} {p1 p2 : PyData} (h1 : PyOf ls d1 p1) (h2 : PyOf ls d2 p2) (z1 : p1.depth ≤ 10) (h : P (.bool (PyData.eqv p1 p2)) ls) : Op2 c (k+1) (compareOp .Eq) d1 d2 ρ ls P := by
  rintro A s v1 v2 hA S r1 r2
  obtain ⟨as, ra⟩ := h1.reads S r1
  obtain ⟨bs, rb⟩ := h2.reads S r2
  refine SeqAt.compareEq_reads ra rb h1.canLay h2.canLay ?_ ⟨.bool _, ls, rfl, S, Stay.refl _ _, rfl, h⟩
  have := hA.2.1
  have := Nat.min_le_left p1.depth p2.depth
  walk_at "n"
theorem Op2_neD {d1 d2 : D} {p1 p2 : PyData} (h1 : PyOf ls d1 p1) (h2 : PyOf ls d2 p2) (z1 : p1.depth ≤ 10) (h : P (.bool (!PyData.eqv p1 p2)) ls) : Op2 c (k+1) (compareOp .NotEq) d1 d2 ρ ls P := by
  rintro A s v1 v2 hA S r1 r2
  obtain ⟨as, ra⟩ := h1.reads S r1
  obtain ⟨bs, rb⟩ := h2.reads S r2
  refine SeqAt.compareNe_reads ra rb h1.canLay h2.canLay ?_ ⟨.bool _, ls, rfl, S, Stay.refl _ _, rfl, h⟩
  have := hA.2.1
  have := Nat.min_le_left p1.depth p2.depth
  walk_at "n"
end

/- what `<` says, at any state -/
def LtD (u : Nat) (d1 d2 : D) (b : Bool) : Prop :=
  ∀ (prog : Program) (w : World) (A : Around) (E : Value → Shared → Prop) (s : Shared) (X : List Addr) (v1 v2 : Value) (Q : Value → Shared → Prop),
    A.units + u < cLine → Rd X s.heap v1 d1 → Rd X s.heap v2 d2 → Q (.bool b) s → wpAny (model prog w) A (richCompare .Lt v1 v2) Q E s

theorem LtD.int (a b : Int) : LtD 0 (.int a) (.int b) (decide (a < b)) := by
  rintro prog w A E s X v1 v2 Q hu ⟨t, rfl⟩ ⟨t', rfl⟩ h
  exact lt_int h
theorem LtD.mono {u u' : Nat} {d1 d2 : D} {b : Bool} (h : LtD u d1 d2 b) (hu : u ≤ u') : LtD u' d1 d2 b :=
  fun prog w A E s X v1 v2 Q hA => h prog w A E s X v1 v2 Q (by walk_at "n")

inductive Lex (u : Nat) : List D → List D → Bool → Prop where
  | nn : Lex u [] [] false
  | nc {y ys} : Lex u [] (y :: ys) true
  | cn {x xs} : Lex u (x :: xs) [] false
  | eq {x y xs ys b} : x.ok → y.ok → PyData.eqv x.py y.py = true → Lex u xs ys b → Lex u (x :: xs) (y :: ys) b
  | ne {x y xs ys b} : x.ok → y.ok → PyData.eqv x.py y.py = false → LtD u x y b → Lex u (x :: xs) (y :: ys) b

theorem eqBool_D {prog : Program} {w : World} {A : Around} {E : Value → Shared → Prop} {s : Shared} {X : List Addr} {v1 v2 : Value} {x y : D} {Q : Bool → Shared → Prop} (hx : x.ok) (hy : y.ok) (hu : A.units + 10 < cLine)
    (r1 : Rd X s.heap v1 x) (r2 : Rd X s.heap v2 y) (h : Q (PyData.eqv x.py y.py) s) : wpAny (model prog w) A (eqBool v1 v2) Q E s := by
  obtain ⟨as, ra⟩ := Rd.reads x v1 r1 hx.1
  obtain ⟨bs, rb⟩ := Rd.reads y v2 r2 hy.1
  refine SeqAt.eqBoolOverData prog w A E s v1 v2 _ _ as bs Q ra rb (D.canLay x hx.1) (D.canLay y hy.1) ?_ h
  have := hx.2
  have := Nat.min_le_left x.py.depth y.py.depth
  walk_at "n"

theorem LtD.tup {u : Nat} {xs ys : List D} {b : Bool} (L : Lex u xs ys b) (h10 : 10 ≤ u) : LtD (u + 1) (.tup xs) (.tup ys) b := by
  rintro prog w A E s X v1 v2 Q hu ⟨a1, vs1, rfl, _, hl1, r1⟩ ⟨a2, vs2, rfl, _, hl2, r2⟩ h
  refine wpAny_richCompare_same_room (T := "tuple") hl1.typeIs hl2.typeIs F.slot_tuple_lt ?_ (by walk_at "n")
  refine wpAny_call_entry F.slot_tuple_lt hl1.typeIs F.entry_tuple_lt ?_ (F.args_tuple_lt_2 _ _)
  obtain ⟨o1, ho1, hc1, n1, hd1⟩ := id hl1
  obtain ⟨o2, ho2, hc2, n2, hd2⟩ := id hl2
  show wpAny _ _ (isInstance (.ref a2) (.type "tuple") >>= _) _ _ s
  refine wpAny_bind (wpAny_isInstance hl2.typeIs isSubtype_tuple_tuple ?_)
  simp only [Bool.not_true, Bool.false_eq_true, if_false]
  refine wpAny_bind (wpAny_tupleItemsOf ho1 hd1 ?_)
  refine wpAny_bind (wpAny_tupleItemsOf ho2 hd2 ?_)
  refine wpAny_bind ?_
  refine wpAny_forIn_list _
    (fun rest r s' => r.1 = none ∧ s' = s ∧ ∃ xs' ys' vs ws, rest = List.zip vs ws ∧ RdL X s.heap vs xs' ∧ RdL X s.heap ws ys' ∧ Lex u xs' ys' b ∧ vs1.size + ws.length = vs2.size + vs.length)
    _ ?_ ?_ _ _ ⟨rfl, rfl, xs, ys, vs1.toList, vs2.toList, rfl, r1, r2, L, by simp; walk_at "n"⟩
  · rintro ⟨p, q⟩ rest r s' ⟨hr, rfl, xs', ys', vs, ws, hz, hx, hy, L', hlen⟩
    match vs, ws, hz, hx, hy, hlen with
    | v :: vs', w' :: ws', hz, hx, hy, hlen =>
      simp only [List.zip_cons_cons, List.cons.injEq, Prod.mk.injEq] at hz
      obtain ⟨⟨rfl, rfl⟩, rfl⟩ := hz
      cases L' with
      | nn => simp [RdL] at hx
      | nc => simp [RdL] at hx
      | cn => simp [RdL] at hy
      | @eq x y xs ys b ox oy he L' =>
        obtain ⟨_, _, e, h1, h2⟩ := hx
        obtain ⟨_, _, e', h1', h2'⟩ := hy
        cases e; cases e'
        refine wpAny_bind (eqBool_D ox oy (by show A.units + 1 + 10 < _; walk_at "n") h1 h1' ?_)
        rw [he]
        simp only [Bool.not_true, Bool.false_eq_true, if_false]
        exact wpAny_pure ⟨rfl, rfl, xs, ys, vs', ws', rfl, h2, h2', L', by simp at hlen; walk_at "n"⟩
      | @ne x y xs ys b ox oy he hlt =>
        obtain ⟨_, _, e, h1, h2⟩ := hx
        obtain ⟨_, _, e', h1', h2'⟩ := hy
        cases e; cases e'
        refine wpAny_bind (eqBool_D ox oy (by show A.units + 1 + 10 < _; walk_at "n") h1 h1' ?_)
        rw [he]
        simp only [Bool.not_false, if_true]
        refine wpAny_bind (wpAny_rule (wpAny_bind ?_))
        refine hlt prog w A.in1 E s' X _ _ _ (by show A.units + 1 + u < _; walk_at "n") h1 h1' ?_
        refine wpAny_bind (wpAny_pure (wpAny_pure ?_))
        exact wpAny_pure ⟨_, rfl, by simp, h⟩
    | [], _, hz, _, _, _ => simp at hz
    | _ :: _, [], hz, _, _, _ => simp at hz
  · rintro r s' ⟨hr, rfl, xs', ys', vs, ws, hz, hx, hy, L', hlen⟩
    rw [hr]
    have hq : decide (vs1.size < vs2.size) = b := by
      cases L' with
      | nn => cases hx; cases hy; simp at hlen; simp; walk_at "n"
      | nc => cases hx; obtain ⟨_, _, rfl, _⟩ := hy; simp at hlen; simp; walk_at "n"
      | cn => cases hy; obtain ⟨_, _, rfl, _⟩ := hx; simp at hlen; simp; walk_at "n"
      | eq => obtain ⟨_, _, rfl, _⟩ := hx; obtain ⟨_, _, rfl, _⟩ := hy; simp at hz
      | ne => obtain ⟨_, _, rfl, _⟩ := hx; obtain ⟨_, _, rfl, _⟩ := hy; simp at hz
    subst hq
    exact wpAny_pure ⟨_, rfl, by simp [Builtin.Tuple.tupleCompareSizes], h⟩

end Mine
end

noncomputable section
set_option genSizeOf false
set_option genInjectivity false
set_option Elab.async false
set_option linter.unusedVariables false
namespace Mine
open PySem PySem.Calls PyProof.Rows PySem.W

def Cx.re (c : Cx) (s0 : Shared) (X0 Z0 : List Addr) : Cx := { c with s0 := s0, X0 := X0, Z0 := Z0 }

def FS (a : Addr) (h : Heap) : Prop := ∃ o, h.get? a = some o ∧ o.cls ≠ .type "code" ∧ ((∃ vs, o.data = .fields vs) ∨ ∃ xs n, o.data = .seq xs n)

structure Tch (J : List Addr) (s s' : Shared) : Prop where
  keep : ∀ a o, a ∉ J → s.heap.get? a = some o → s'.heap.get? a = some o
  fs : ∀ a ∈ J, FS a s'.heap
  gens : s'.gens = s.gens
  os : s'.os = s.os

def Jok (c : Cx) (J : List Addr) : Prop := ∀ j ∈ J, c.s0.heap.get? j = none ∧ c.G.get? j = none ∧ j ∉ c.X0

section
variable {c : Cx} {k : Nat} {ρ : Rho} {ls : Ls} {P : D → Ls → Prop} {PB : Bool → Ls → Prop} {PF : Fl → Rho → Ls → Prop}

theorem St.s0_live {s : Shared} (S : St c ρ ls s) {a : Addr} (h : s.heap.get? a = none) : c.s0.heap.get? a = none := by
  cases e : c.s0.heap.get? a with
  | none => rfl
  | some o =>
    by_cases hz : a ∈ c.Z0
    · obtain ⟨o', e'⟩ := S.fm.old a (S.fm.sub a hz); rw [h] at e'; cases e'
    · have := S.fm.nx.keep a o e hz; rw [h] at this; cases this

theorem St.jok {s : Shared} {J : List Addr} (S : St c ρ ls s) (h : ∀ j ∈ J, s.heap.get? j = none) : Jok c J := fun j hj => by
  refine ⟨S.s0_live (h j hj), ?_, fun hz => ?_⟩
  · cases e : c.G.get? j with
    | none => rfl
    | some o => have := S.fm.top j o e; rw [h j hj] at this; cases this
  · obtain ⟨o', e'⟩ := S.fm.old j hz; rw [h j hj] at e'; cases e'

theorem St.off {s : Shared} {J : List Addr} (S : St c ρ ls s) (h : ∀ j ∈ J, s.heap.get? j = none) : ∀ j ∈ J, j ∉ c.own ls := fun j hj ho => by
  obtain ⟨_, _, o, e⟩ := S.fm.mine j ho; rw [h j hj] at e; cases e

/- a wider exclusion set, behind new objects -/
theorem St.widen {s s' : Shared} {J : List Addr} (S : St c ρ ls s) (hk : Keep s.heap s'.heap) (hg : s'.gens = s.gens) (ho : s'.os = s.os) (hJ : ∀ j ∈ J, (s.heap.get? j = none ∨ ∃ o vs, s.heap.get? j = some o ∧ o.data = .fields vs ∧ o.cls ≠ .type "code" ∧ o.cls ≠ .type "object") ∧ ∃ o, s'.heap.get? j = some o) :
    St (c.re c.s0 (J ++ c.X0) c.Z0) ρ ls s' ∧ Stay (c.X ls) ((c.re c.s0 (J ++ c.X0) c.Z0).X ls) s.heap s'.heap := by
  have F := S.fm.ext hk hg ho
  have st : Stay (c.X ls) ((c.re c.s0 (J ++ c.X0) c.Z0).X ls) s.heap s'.heap := fun a o hx e hd => by
    refine ⟨fun hin => ?_, hk a o e⟩
    rcases List.mem_append.mp hin with h | h
    · exact hx (List.mem_append_left _ h)
    · rcases List.mem_append.mp h with h | h
      · rcases (hJ a h).1 with q | ⟨o', vs, q, q', q2, q3⟩
        · rw [q] at e; cases e
        · rw [q] at e; cases e
          rcases hd with ⟨xs, n, hd⟩ | ⟨fd, hd⟩ | hd | hd
          · rw [q'] at hd; cases hd
          · rw [q'] at hd; cases hd
          · exact q2 hd.1
          · exact q3 hd.1
      · exact hx (List.mem_append_right _ h)
  refine ⟨?_, st⟩
  exact {
    fm := ⟨F.top, F.nx, F.mine, F.apart, fun a ha => by
      rcases List.mem_append.mp ha with h | h
      · exact (hJ a h).2
      · exact F.old a h, fun a ha => List.mem_append_right _ (F.sub a ha), F.tabs, fun q hq => (S.fm.grown q hq).stay (fun o e => hk _ _ e) st⟩
    fn := S.fn
    inj := S.inj
    cells := fun ca hc => let ⟨v, e⟩ := S.cells ca hc; ⟨v, e.keeps hk⟩
    names := by
      obtain ⟨m, hm, hn⟩ := S.names
      refine ⟨m, hm.keeps hk, fun x d hx => ?_⟩
      obtain ⟨v, r, i⟩ := hn x d hx
      exact ⟨v, Rd.stay st _ _ r, i.keep fun ca _ e => e.keeps hk⟩
    lists := fun p hp => by
      obtain ⟨vs, n, h1, h3⟩ := S.lists p hp
      exact ⟨vs, n, hk _ _ h1, RdL.stay st _ _ h3⟩ }

theorem St.narrow {s : Shared} {X0 : List Addr} (S : St (c.re c.s0 X0 c.Z0) ρ ls s) (hX : ∀ a ∈ c.X0, a ∈ X0) (hs : ∀ a ∈ c.Z0, a ∈ c.X0) : St c ρ ls s := by
  have F := S.fm
  have st : Stay ((c.re c.s0 X0 c.Z0).X ls) (c.X ls) s.heap s.heap := fun a o hx e _ => ⟨fun hin => hx (by
    rcases List.mem_append.mp hin with h | h
    · exact List.mem_append_left _ h
    · exact List.mem_append_right _ (hX a h)), e⟩
  exact {
    fm := ⟨F.top, F.nx, F.mine, F.apart, fun a ha => F.old a (hX a ha), hs, F.tabs, fun q hq => (F.grown q hq).stay (fun o e => e) st⟩
    fn := S.fn
    inj := S.inj
    cells := S.cells
    names := by
      obtain ⟨m, hm, hn⟩ := S.names
      refine ⟨m, hm, fun x d hx => ?_⟩
      obtain ⟨v, r, i⟩ := hn x d hx
      exact ⟨v, Rd.stay st _ _ r, i⟩
    lists := fun p hp => by
      obtain ⟨vs, n, h1, h3⟩ := S.lists p hp
      exact ⟨vs, n, h1, RdL.stay st _ _ h3⟩ }

/- the loop's end: the iterators are let go -/
theorem St.tchEnd {s s' : Shared} {J : List Addr} (S : St (c.re c.s0 (J ++ c.X0) c.Z0) ρ ls s) (keep : ∀ a o, a ∉ J → s.heap.get? a = some o → s'.heap.get? a = some o) (hg : s'.gens = s.gens) (hos : s'.os = s.os) (hsub : ∀ a ∈ c.Z0, a ∈ c.X0)
    (hJ : Jok c J) (hf : ∀ j ∈ J, FS j s.heap) (ho : ∀ j ∈ J, j ∉ c.own ls) : St c ρ ls s' ∧ Stay ((c.re c.s0 (J ++ c.X0) c.Z0).X ls) (c.X ls) s.heap s'.heap := by
  have F := S.fm
  have st : Stay ((c.re c.s0 (J ++ c.X0) c.Z0).X ls) (c.X ls) s.heap s'.heap := fun a o hx e _ => ⟨fun hin => hx (by
    rcases List.mem_append.mp hin with h | h
    · exact List.mem_append_left _ h
    · exact List.mem_append_right _ (List.mem_append_right _ h)), keep a o (fun hj => hx (List.mem_append_right _ (List.mem_append_left _ hj))) e⟩
  have kown : ∀ a ∈ c.own ls, ∀ o, s.heap.get? a = some o → s'.heap.get? a = some o := fun a ha o e => keep a o (fun hj => ho a hj ha) e
  have kcell : ∀ ca v, s.heap.IsCell ca v → s'.heap.IsCell ca v := fun ca v hc => by
    obtain ⟨o, e, hd⟩ := hc
    refine ⟨o, keep ca o (fun hj => ?_) e, hd⟩
    obtain ⟨o', e', _, h'⟩ := hf ca hj
    rw [e] at e'; cases e'
    rcases h' with ⟨vs, h'⟩ | ⟨xs, n, h'⟩ <;> rw [hd] at h' <;> cases h'
  refine ⟨{
    fm := {
      top := fun a o e => keep a o (fun hj => by rw [(hJ a hj).2.1] at e; cases e) (F.top a o e)
      nx := ⟨fun a o e hn => keep a o (fun hj => by rw [(hJ a hj).1] at e; cases e) (F.nx.keep a o e hn), hg.trans F.nx.gens, hos.trans F.nx.os⟩
      mine := fun a ha => ⟨(F.mine a ha).1, (F.mine a ha).2.1, let ⟨o, e⟩ := (F.mine a ha).2.2; ⟨o, kown a ha o e⟩⟩
      apart := F.apart
      old := fun a ha => by
        obtain ⟨o, e⟩ := F.old a (List.mem_append_right _ ha)
        exact ⟨o, keep a o (fun hj => (hJ a hj).2.2 ha) e⟩
      sub := hsub
      tabs := F.tabs
      grown := fun q hq => (F.grown q hq).stay (fun o e => keep _ _ (fun hj => (hJ _ hj).2.2 (hsub _ (F.tabs q hq).1)) e) st }
    fn := S.fn
    inj := S.inj
    cells := fun ca hc => let ⟨v, e⟩ := S.cells ca hc; ⟨v, kcell _ _ e⟩
    names := by
      obtain ⟨m, hm, hn⟩ := S.names
      refine ⟨m, ?_, fun x d hx => ?_⟩
      · obtain ⟨o, es, ep, h1, h2⟩ := hm
        exact ⟨o, es, ep, kown _ Cx.loc_own _ h1, h2⟩
      · obtain ⟨v, r, i⟩ := hn x d hx
        exact ⟨v, Rd.stay st _ _ r, i.keep fun ca _ e => kcell _ _ e⟩
    lists := fun p hp => by
      obtain ⟨vs, n, h1, h3⟩ := S.lists p hp
      exact ⟨vs, n, kown _ (Cx.key_own (List.mem_map_of_mem hp)) _ h1, RdL.stay st _ _ h3⟩ }, st⟩

theorem St.tch {s s' : Shared} {J : List Addr} (S : St (c.re c.s0 (J ++ c.X0) c.Z0) ρ ls s) (T : Tch J s s') (hsub : ∀ a ∈ c.Z0, a ∈ c.X0) (hJ : Jok c J) (hf : ∀ j ∈ J, FS j s.heap) (ho : ∀ j ∈ J, j ∉ c.own ls) :
    St (c.re c.s0 (J ++ c.X0) c.Z0) ρ ls s' ∧ Stay ((c.re c.s0 (J ++ c.X0) c.Z0).X ls) ((c.re c.s0 (J ++ c.X0) c.Z0).X ls) s.heap s'.heap := by
  have F := S.fm
  have st : Stay ((c.re c.s0 (J ++ c.X0) c.Z0).X ls) ((c.re c.s0 (J ++ c.X0) c.Z0).X ls) s.heap s'.heap := fun a o hx e _ => ⟨hx, T.keep a o (fun hj => hx (List.mem_append_right _ (List.mem_append_left _ hj))) e⟩
  have kown : ∀ a ∈ c.own ls, ∀ o, s.heap.get? a = some o → s'.heap.get? a = some o := fun a ha o e => T.keep a o (fun hj => ho a hj ha) e
  have kcell : ∀ ca v, s.heap.IsCell ca v → s'.heap.IsCell ca v := fun ca v hc => by
    obtain ⟨o, e, hd⟩ := hc
    refine ⟨o, T.keep ca o (fun hj => ?_) e, hd⟩
    obtain ⟨o', e', _, h'⟩ := hf ca hj
    rw [e] at e'; cases e'
    rcases h' with ⟨vs, h'⟩ | ⟨xs, n, h'⟩ <;> rw [hd] at h' <;> cases h'
  refine ⟨{
    fm := {
      top := fun a o e => T.keep a o (fun hj => by have e' : c.G.get? a = some o := e; rw [(hJ a hj).2.1] at e'; cases e') (F.top a o e)
      nx := ⟨fun a o e hn => T.keep a o (fun hj => by have e' : c.s0.heap.get? a = some o := e; rw [(hJ a hj).1] at e'; cases e') (F.nx.keep a o e hn), T.gens.trans F.nx.gens, T.os.trans F.nx.os⟩
      mine := fun a ha => ⟨(F.mine a ha).1, (F.mine a ha).2.1, let ⟨o, e⟩ := (F.mine a ha).2.2; ⟨o, kown a ha o e⟩⟩
      apart := F.apart
      old := fun a ha => by
        by_cases hj : a ∈ J
        · obtain ⟨o, e, _⟩ := T.fs a hj; exact ⟨o, e⟩
        · obtain ⟨o, e⟩ := F.old a ha; exact ⟨o, T.keep a o hj e⟩
      sub := F.sub
      tabs := F.tabs
      grown := fun q hq => (F.grown q hq).stay (fun o e => T.keep _ _ (fun hj => (hJ _ hj).2.2 (hsub _ (F.tabs q hq).1)) e) st }
    fn := S.fn
    inj := S.inj
    cells := fun ca hc => let ⟨v, e⟩ := S.cells ca hc; ⟨v, kcell _ _ e⟩
    names := by
      obtain ⟨m, hm, hn⟩ := S.names
      refine ⟨m, ?_, fun x d hx => ?_⟩
      · obtain ⟨o, es, ep, h1, h2⟩ := hm
        exact ⟨o, es, ep, kown _ Cx.loc_own _ h1, h2⟩
      · obtain ⟨v, r, i⟩ := hn x d hx
        exact ⟨v, Rd.stay st _ _ r, i.keep fun ca _ e => kcell _ _ e⟩
    lists := fun p hp => by
      obtain ⟨vs, n, h1, h3⟩ := S.lists p hp
      exact ⟨vs, n, kown _ (Cx.key_own (List.mem_map_of_mem hp)) _ h1, RdL.stay st _ _ h3⟩ }, st⟩

/- start over from here: what stands now and is not the frame's own stays -/
def Cx.here (c : Cx) (ls : Ls) (s : Shared) : Cx := c.re s (c.own ls ++ c.X0) (c.tabs.map (·.2) ++ c.own ls)

theorem St.base {s : Shared} (S : St c ρ ls s) : St (c.here ls s) ρ ls s := by
  have F := S.fm
  have st : Stay (c.X ls) ((c.here ls s).X ls) s.heap s.heap := fun a o hx e _ => ⟨fun hin => hx (by
    rcases List.mem_append.mp hin with h | h
    · exact List.mem_append_left _ h
    · exact h), e⟩
  exact {
    fm := ⟨F.top, Nx.refl _ _, fun a ha => ⟨.inl (List.mem_append_right _ ha), (F.mine a ha).2⟩, F.apart, fun a ha => S.live ha, fun a ha => by
      rcases List.mem_append.mp ha with h | h
      · obtain ⟨q, hq, rfl⟩ := List.mem_map.mp h
        exact List.mem_append_right _ (F.sub _ (F.tabs q hq).1)
      · exact List.mem_append_left _ h, fun q hq => ⟨List.mem_append_left _ (List.mem_map_of_mem hq), (F.tabs q hq).2⟩, fun q hq => (F.grown q hq).stay (fun o e => e) st⟩
    fn := S.fn
    inj := S.inj
    cells := S.cells
    names := by
      obtain ⟨m, hm, hn⟩ := S.names
      refine ⟨m, hm, fun x d hx => ?_⟩
      obtain ⟨v, r, i⟩ := hn x d hx
      exact ⟨v, Rd.stay st _ _ r, i⟩
    lists := fun p hp => by
      obtain ⟨vs, n, h1, h3⟩ := S.lists p hp
      exact ⟨vs, n, h1, RdL.stay st _ _ h3⟩ }

theorem St.unbase {s s' : Shared} {ρ' : Rho} {ls' : Ls} (S : St c ρ ls s) (S' : St (c.here ls s) ρ' ls' s') : St c ρ' ls' s' := by
  have F := S.fm
  have F' := S'.fm
  have st : Stay ((c.here ls s).X ls') (c.X ls') s'.heap s'.heap := fun a o hx e _ => ⟨fun hin => hx (by
    rcases List.mem_append.mp hin with h | h
    · exact List.mem_append_left _ h
    · exact List.mem_append_right _ (List.mem_append_right _ h)), e⟩
  exact {
    fm := ⟨F'.top, F.nx.trans F'.nx fun a ha => by
      rcases List.mem_append.mp ha with h | h
      · obtain ⟨q, hq, rfl⟩ := List.mem_map.mp h
        exact .inl (F.tabs q hq).1
      · exact (F.mine a h).1, fun a ha => ⟨by
        rcases (F'.mine a ha).1 with h | h
        · rcases List.mem_append.mp h with h | h
          · obtain ⟨q, hq, rfl⟩ := List.mem_map.mp h
            exact .inl (F.tabs q hq).1
          · exact (F.mine a h).1
        · exact .inr (S.s0_live h), (F'.mine a ha).2⟩, F'.apart, fun a ha => F'.old a (List.mem_append_right _ ha), F.sub, fun q hq => ⟨(F.tabs q hq).1, (F'.tabs q hq).2⟩, fun q hq => (F'.grown q hq).stay (fun o e => e) st⟩
    fn := S'.fn
    inj := S'.inj
    cells := S'.cells
    names := by
      obtain ⟨m, hm, hn⟩ := S'.names
      refine ⟨m, hm, fun x d hx => ?_⟩
      obtain ⟨v, r, i⟩ := hn x d hx
      exact ⟨v, Rd.stay st _ _ r, i⟩
    lists := fun p hp => by
      obtain ⟨vs, n, h1, h3⟩ := S'.lists p hp
      exact ⟨vs, n, h1, RdL.stay st _ _ h3⟩ }

/- what could be read at the start of a base can be read later -/
theorem St.later {s' : Shared} {ρ' : Rho} {ls' : Ls} {X : List Addr} (S' : St c ρ' ls' s') (hX : ∀ a ∈ c.X0, a ∈ X) : Stay X (c.X ls') c.s0.heap s'.heap := fun a o hx e _ => by
  have F' := S'.fm
  have hz : a ∉ c.Z0 := fun h => hx (hX a (F'.sub a h))
  refine ⟨fun hin => ?_, F'.nx.keep a o e hz⟩
  rcases List.mem_append.mp hin with h | h
  · rcases (F'.mine a h).1 with h | h
    · exact hz h
    · rw [e] at h; cases h
  · exact hx (hX a h)

end
end Mine
end

noncomputable section
set_option genSizeOf false
set_option genInjectivity false
set_option Elab.async false
set_option linter.unusedVariables false
namespace Mine
open PySem PySem.Calls PyProof.Rows PySem.W

structure Wk (c : Cx) (J : List Addr) (I : Addr) (dv : Value) (dd : D) (OK : Ls → Prop) (xs : List D) (target : Expr) (W : Nat → Heap → Prop) (Fin : Heap → Prop) : Prop where
  frame : ∀ i h h', W i h → (∀ a ∈ J, ∀ o, h.get? a = some o → h'.get? a = some o) → W i h'
  fs : ∀ i h, W i h → ∀ a ∈ J, FS a h
  self : ∀ A i s, W i s.heap → wpAny c.M A (pyIter (.ref I)) (fun r s' => r = .ref I ∧ s' = s) No s
  next : ∀ A i ρ ls s x, Room 2 A → St c ρ ls s → OK ls → Rd (c.X ls) s.heap dv dd → W i s.heap → xs[i]? = some x →
    wpAny c.M A (pyNext (.ref I)) (fun r s1 => ∃ v, r = some v ∧ wpAny c.M A (letOwnedTupleGo target (.ref I) v) (fun _ s' => Tch J s s' ∧ Rd (c.X ls) s'.heap v x ∧ W (i + 1) s'.heap) No s1) No s
  stop : ∀ A i ρ ls s, Room 2 A → St c ρ ls s → OK ls → Rd (c.X ls) s.heap dv dd → W i s.heap → xs[i]? = none →
    wpAny c.M A (pyNext (.ref I)) (fun r s' => r = none ∧ (∀ a o, a ∉ J → s.heap.get? a = some o → s'.heap.get? a = some o) ∧ s'.gens = s.gens ∧ s'.os = s.os ∧ Fin s'.heap) No s

def Asg (c : Cx) (k : Nat) (t : Expr) (d : D) (ρ ρ' : Rho) : Prop :=
  ∀ A s ls v, Room k A → St c ρ ls s → Rd (c.X ls) s.heap v d → wpAny c.M A (assign t c.env v) (fun _ s' => St c ρ' ls s' ∧ Stay (c.X ls) (c.X ls) s.heap s'.heap) No s

def LoopP (I : Nat → Rho → Ls → Prop) (i : Nat) (PF : Fl → Rho → Ls → Prop) : Fl → Rho → Ls → Prop
  | .next, ρ, ls => ∃ ρ0, Ext ρ0 ρ ∧ I (i + 1) ρ0 ls
  | .cont, ρ, ls => ∃ ρ0, Ext ρ0 ρ ∧ I (i + 1) ρ0 ls
  | .brk, ρ, ls => PF .next ρ ls
  | .ret d, ρ, ls => PF (.ret d) ρ ls

section
variable {c : Cx} {k : Nat} {ρ : Rho} {ls : Ls} {P : D → Ls → Prop} {PB : Bool → Ls → Prop} {PF : Fl → Rho → Ls → Prop}

theorem Stay.sub {X X' : List Addr} {h : Heap} (hX : ∀ a ∈ X', a ∈ X) : Stay X X' h h := fun a o hx e _ => ⟨fun h' => hx (hX a h'), e⟩

/- the loop's state between turns -/
structure LS (c : Cx) (J : List Addr) (dv : Value) (dd : D) (W : Nat → Heap → Prop) (i : Nat) (ρ : Rho) (ls : Ls) (s : Shared) : Prop where
  st : St c ρ ls s
  w : W i s.heap
  rd : Rd (c.X ls) s.heap dv dd
  off : ∀ j ∈ J, j ∉ c.own ls

/- a turn's own work, told from a fresh base, keeps the loop's state -/
theorem LS.keep {J : List Addr} {I : Addr} {dv : Value} {dd : D} {OK : Ls → Prop} {xs : List D} {target : Expr} {W : Nat → Heap → Prop} {Fin : Heap → Prop} {i : Nat} {s s' : Shared} {ρ' : Rho} {ls' : Ls}
    (L : LS c J dv dd W i ρ ls s) (hJ : ∀ j ∈ J, j ∉ c.Z0) (hk : Wk c J I dv dd OK xs target W Fin) (S' : St (c.here ls s) ρ' ls' s') : LS c J dv dd W i ρ' ls' s' := by
  have hkeep : ∀ a ∈ J, ∀ o, s.heap.get? a = some o → s'.heap.get? a = some o := fun a ha o e => S'.fm.nx.keep a o e fun hz => by
    rcases List.mem_append.mp hz with h | h
    · obtain ⟨q, hq, rfl⟩ := List.mem_map.mp h
      exact hJ _ ha (L.st.fm.tabs q hq).1
    · exact L.off a ha h
  refine ⟨L.st.unbase S', hk.frame i _ _ L.w hkeep, ?_, fun j hj ho => ?_⟩
  · have r1 := Rd.stay (S'.later (X := (c.here ls s).X ls) fun a ha => List.mem_append_right _ ha) _ _ (Rd.stay (Stay.sub (X := c.X ls) fun a ha => by
      rcases List.mem_append.mp ha with h | h
      · exact List.mem_append_left _ h
      · exact h) _ _ L.rd)
    exact Rd.stay (Stay.sub fun a ha => by
      rcases List.mem_append.mp ha with h | h
      · exact List.mem_append_left _ h
      · exact List.mem_append_right _ (List.mem_append_right _ h)) _ _ r1
  · rcases (S'.fm.mine j ho).1 with h | h
    · rcases List.mem_append.mp h with h | h
      · obtain ⟨q, hq, rfl⟩ := List.mem_map.mp h
        exact hJ _ hj (L.st.fm.tabs q hq).1
      · exact L.off j hj h
    · obtain ⟨o, e, _⟩ := hk.fs i _ L.w j hj
      rw [show (c.here ls s).s0.heap = s.heap from rfl, e] at h; cases h

theorem No_noted {M : Model} {A : Around} {env : Env} {E : Value → Shared → Prop} : ∀ v s, No v s → notedBy M A env E v s := fun _ _ x => x.elim

theorem LS.loop {J : List Addr} {I : Addr} {dv : Value} {dd : D} {OK : Ls → Prop} {xs : List D} {target : Expr} {W : Nat → Heap → Prop} {Fin : Heap → Prop} {s : Shared} {body : List Stmt} {A : Around}
    (Inv : Nat → Rho → Ls → Prop) (hA : Room (k+2) A) (hsub : ∀ a ∈ c.Z0, a ∈ c.X0) (hJ : Jok c J) (hk : Wk (c.re c.s0 (J ++ c.X0) c.Z0) J I dv dd OK xs target W Fin) (hok : ∀ i ρ ls, Inv i ρ ls → OK ls)
    (turn : ∀ i x ρ1 ls1, xs[i]? = some x → Inv i ρ1 ls1 → ∀ s0 X0 Z0, ∃ ρ2, Asg (c.re s0 X0 Z0) k target x ρ1 ρ2 ∧ Ex (c.re s0 X0 Z0) k (execs body c.env) ρ2 ls1 (LoopP Inv i PF))
    (i0 : Nat) (h0 : Inv i0 ρ ls) (L : LS (c.re c.s0 (J ++ c.X0) c.Z0) J dv dd W i0 ρ ls s) (hi : i0 ≤ xs.length) :
    codeAny c.M A (.forLoop target (.ref I) body [] c.env) (fun r s' => ∃ f fl ρ' ls', r = .ok f ∧ St c ρ' ls' s' ∧ FlR (c.X ls') s'.heap f fl ∧ ((fl = .next ∧ Inv xs.length ρ' ls' ∧ Fin s'.heap) ∨ PF fl ρ' ls')) s := by
  refine codeAny_forLoop_any (fun n s => ∃ i ρ ls, n = xs.length - i ∧ i ≤ xs.length ∧ Inv i ρ ls ∧ LS (c.re c.s0 (J ++ c.X0) c.Z0) J dv dd W i ρ ls s) ?_ _ ⟨i0, ρ, ls, rfl, hi, h0, L⟩
  rintro n s1 ⟨i, ρ1, ls1, rfl, hi, hI, L1⟩
  cases hx : xs[i]? with
  | none =>
    refine wpAny_mono (hk.stop A i ρ1 ls1 s1 (hA.mono (by walk_at "n")) L1.st (hok i _ _ hI) L1.rd L1.w hx) ?_ No_noted
    rintro r s2 ⟨rfl, hkeep, hg, hos, hF⟩
    have hi' : i = xs.length := by
      have := List.getElem?_eq_none_iff.mp hx; walk_at "n"
    subst hi'
    obtain ⟨S2, _⟩ := L1.st.tchEnd hkeep hg hos hsub hJ (hk.fs _ _ L1.w) L1.off
    exact wpAny_execs_nil ⟨.next, .next, ρ1, ls1, rfl, S2, trivial, .inl ⟨rfl, hI, hF⟩⟩
  | some x =>
    refine wpAny_mono (hk.next A i ρ1 ls1 s1 x (hA.mono (by walk_at "n")) L1.st (hok i _ _ hI) L1.rd L1.w hx) ?_ No_noted
    rintro r s2 ⟨v, rfl, hgo⟩
    refine wpAny_mono hgo ?_ No_noted
    rintro _ s3 ⟨T, rv, hW⟩
    obtain ⟨S3, st3⟩ := L1.st.tch T hsub hJ (hk.fs _ _ L1.w) L1.off
    have L3 : LS (c.re c.s0 (J ++ c.X0) c.Z0) J dv dd W (i+1) ρ1 ls1 s3 := ⟨S3, hW, Rd.stay st3 _ _ L1.rd, L1.off⟩
    obtain ⟨ρ2, ha, hb⟩ := turn i x ρ1 ls1 hx hI s3 (c.own ls1 ++ (J ++ c.X0)) (c.tabs.map (·.2) ++ c.own ls1)
    have rv' : Rd (((c.re c.s0 (J ++ c.X0) c.Z0).here ls1 s3).X ls1) s3.heap v x := Rd.stay (Stay.sub fun a ha => by
      rcases List.mem_append.mp ha with h | h
      · exact List.mem_append_left _ h
      · exact h) _ _ rv
    refine wpAny_mono (ha A s3 ls1 v (hA.mono (by walk_at "n")) S3.base rv') ?_ No_noted
    rintro _ s4 ⟨S4, st4⟩
    refine wpAny_mono (hb A s4 (hA.mono (by walk_at "n")) S4) ?_ No_noted
    rintro f s5 ⟨fl, ρ5, ls5, S5, hf, h5⟩
    have L5 := L3.keep (fun j hj hz => (hJ j hj).2.2 (hsub _ hz)) hk S5
    have S5' : St c ρ5 ls5 s5 := L5.st.narrow (fun a ha => List.mem_append_right _ ha) hsub
    have hlt : i < xs.length := (List.getElem?_eq_some_iff.mp hx).1
    cases f <;> cases fl <;> simp only [FlR] at hf
    · obtain ⟨ρ0, he, h5⟩ := h5; exact ⟨xs.length - (i+1), by walk_at "n", i+1, ρ0, ls5, rfl, by walk_at "n", h5, { L5 with st := L5.st.forget he }⟩
    · exact ⟨.next, .next, ρ5, ls5, rfl, S5', trivial, .inr h5⟩
    · obtain ⟨ρ0, he, h5⟩ := h5; exact ⟨xs.length - (i+1), by walk_at "n", i+1, ρ0, ls5, rfl, by walk_at "n", h5, { L5 with st := L5.st.forget he }⟩
    · refine ⟨_, .ret _, ρ5, ls5, rfl, S5', ?_, .inr h5⟩
      exact Rd.stay (Stay.sub fun a ha => by
        rcases List.mem_append.mp ha with h | h
        · exact List.mem_append_left _ h
        · exact List.mem_append_right _ (List.mem_append_right _ (List.mem_append_right _ h))) _ _ hf

/- the head of a loop: the source, and its iterator -/
def EvI (c : Cx) (k : Nat) (iter target : Expr) (xs : List D) (OK : Ls → Prop) (ρ : Rho) (ls : Ls) (P : Ls → Prop) : Prop :=
  ∀ A s, Room k A → St c ρ ls s → wpAny c.M A (eval iter c.env) (fun v s1 => wpAny c.M A (pyIter v) (fun r s2 => ∃ ls1 J I dv dd W Fin, r = .ref I ∧ keys ls1 = keys ls ∧ Jok c J ∧
    LS (c.re c.s0 (J ++ c.X0) c.Z0) J dv dd W 0 ρ ls1 s2 ∧ Stay (c.X ls) ((c.re c.s0 (J ++ c.X0) c.Z0).X ls1) s.heap s2.heap ∧ (∀ c' : Cx, (∀ j ∈ J, j ∈ c'.X0) → Wk c' J I dv dd OK xs target W Fin) ∧ P ls1) No s1) No s

theorem Ex_for {target iter : Expr} {body : List Stmt} {pos : Pos} (xs : List D) (OK : Ls → Prop) (Inv : Nat → Rho → Ls → Prop)
    (ρ0 : Rho) (he : Ext ρ0 ρ) (h : EvI c (k+2) iter target xs OK ρ ls (fun ls1 => Inv 0 ρ0 ls1)) (hok : ∀ i ρ ls, Inv i ρ ls → OK ls)
    (turn : ∀ i x ρ1 ls1, xs[i]? = some x → Inv i ρ1 ls1 → ∀ s0 X0 Z0, ∃ ρ2, Asg (c.re s0 X0 Z0) k target x ρ1 ρ2 ∧ Ex (c.re s0 X0 Z0) k (execs body c.env) ρ2 ls1 (LoopP Inv i PF))
    (fin : ∀ ρ1 ls1, Inv xs.length ρ1 ls1 → PF .next ρ1 ls1)
    (hs : ∀ x, foldedSetIterable iter c.env x = pure x := by intro _; rfl) :
    Ex c (k+2) (exec (.For target iter body [] pos) c.env) ρ ls PF := fun A s hA S => by
  refine wpAny_For (wpAny_mono (h A s hA S) ?_ fun _ _ x => x) hs
  rintro v s1 h1
  refine wpAny_mono h1 ?_ fun _ _ x => x
  rintro r s2 ⟨ls1, J, I, dv, dd, W, Fin, rfl, k1, hJ, L, _, hk, h0⟩
  refine codeAny_mono (LS.loop (c := c) (PF := PF) Inv hA S.fm.sub hJ (hk (c.re c.s0 (J ++ c.X0) c.Z0) fun j hj => List.mem_append_left _ hj) hok turn 0 h0 { L with st := L.st.forget he } (Nat.zero_le _)) ?_
  rintro r s3 ⟨f, fl, ρ', ls', rfl, S3, hf, h3⟩
  rcases h3 with ⟨rfl, h3, _⟩ | h3
  · exact ⟨.next, ρ', ls', S3, hf, fin _ _ h3⟩
  · exact ⟨fl, ρ', ls', S3, hf, h3⟩

/- new iterators -/
theorem EvI.fresh {A : Around} {s : Shared} {s2 : Shared} {J : List Addr} {dv : Value} {dd : D} {W : Nat → Heap → Prop} (S : St c ρ ls s) (r : Rd (c.X ls) s.heap dv dd)
    (hkeep : Keep s.heap s2.heap) (hg : s2.gens = s.gens) (ho : s2.os = s.os) (hJ : ∀ j ∈ J, s.heap.get? j = none ∧ ∃ o, s2.heap.get? j = some o) (hW : W 0 s2.heap) :
    Jok c J ∧ LS (c.re c.s0 (J ++ c.X0) c.Z0) J dv dd W 0 ρ ls s2 ∧ Stay (c.X ls) ((c.re c.s0 (J ++ c.X0) c.Z0).X ls) s.heap s2.heap := by
  obtain ⟨S2, st⟩ := S.widen (J := J) hkeep hg ho fun j hj => ⟨.inl (hJ j hj).1, (hJ j hj).2⟩
  exact ⟨S.jok fun j hj => (hJ j hj).1, ⟨S2, hW, Rd.stay st _ _ r, S.off fun j hj => (hJ j hj).1⟩, st⟩

def isTup : Expr → Bool
  | .Tuple .. => true
  | .List .. => true
  | _ => false

theorem letGo_list {M : Model} {A : Around} {s : Shared} {target : Expr} {I l : Addr} {i : Nat} {v : Value} {Q : Unit → Shared → Prop} {E : Value → Shared → Prop} (hit : s.heap.IsListIter I l i) (h : Q () s) :
    wpAny M A (letOwnedTupleGo target (.ref I) v) Q E s := by
  have key : ∀ T, wpAny M A (do
      let o ← load I
      match o.cls, o.data with
      | .type n, .fields vs =>
        if ["enumerate", "zip", "dict_itemiterator", "dict_reverseitemiterator", "odict_iterator", "itertools.zip_longest", "itertools.pairwise"].contains n && vs[0]? == some (rawInt T) then
          rule "for.unpacks-the-owned-tuple"
          updateField I 0 .none
      | _, _ => pure ()) Q E s := fun T => by
    obtain ⟨o, ho, hc, hd⟩ := hit
    refine wpAny_bind (wpAny_load ho ?_)
    rw [hc, hd]
    show wpAny _ A (if (["enumerate", "zip", "dict_itemiterator", "dict_reverseitemiterator", "odict_iterator", "itertools.zip_longest", "itertools.pairwise"].contains "list_iterator" &&
        (#[.ref l, .int i 0] : Array Value)[0]? == some (rawInt T)) = true then _ else _) Q E s
    rw [if_neg (by
      intro h
      rw [show (["enumerate", "zip", "dict_itemiterator", "dict_reverseitemiterator", "odict_iterator", "itertools.zip_longest", "itertools.pairwise"].contains "list_iterator") = false from by decide, Bool.false_and] at h
      cases h)]
    exact wpAny_pure h
  unfold letOwnedTupleGo
  split
  · split
    · rename_i hp; cases hp; exact key _
    · exact wpAny_pure h
  · split
    · rename_i hp; cases hp; exact key _
    · exact wpAny_pure h
  · exact wpAny_pure h

theorem Wk.list {I : Addr} {l : Addr} {dd : D} {OK : Ls → Prop} {xs : List D} {target : Expr} {c : Cx} (hOK : ∀ ls, OK ls → LsOf ls dd xs) (hI : I ∈ c.X0) :
    Wk c [I] I (.ref l) dd OK xs target (fun i h => h.IsListIter I l i) (fun _ => True) where
  self := fun A i s hW => wpAny_pyIter_listiter hW ⟨rfl, rfl⟩
  frame := fun i h h' ⟨o, e, r⟩ hk => ⟨o, hk I (.head _) o e, r⟩
  fs := fun i h ⟨o, e, hc, hd⟩ a ha => by rw [List.mem_singleton.mp ha]; exact ⟨o, e, by rw [hc]; simp, .inl ⟨_, hd⟩⟩
  next := fun A i ρ ls s x hA S hok r hW hx => by
    obtain ⟨a, vs, e, hl, hr⟩ := (hOK ls hok).get S r
    cases e
    obtain ⟨v, hv, rv⟩ := hr.get hx
    refine wpAny_pyNext_list_item hW hl (by simpa using hv) fun h' hit' hs' => ⟨v, rfl, letGo_list (i := i+1) hit' ⟨⟨fun a o ha e => (hs'.2 a fun q => ha (q ▸ .head _)).trans e, fun a ha => ?_, rfl, rfl⟩, ?_, hit'⟩⟩
    · rw [List.mem_singleton.mp ha]
      obtain ⟨o, e, hc, hd⟩ := hit'
      exact ⟨o, e, by rw [hc]; simp, .inl ⟨_, hd⟩⟩
    · exact Rd.stay (Stay.but hs' (List.mem_append_right _ hI)) _ _ rv
  stop := fun A i ρ ls s hA S hok r hW hx => by
    obtain ⟨a, vs, e, hl, hr⟩ := (hOK ls hok).get S r
    cases e
    have hz := hr.length
    simp at hz
    have hn : vs[i]? = none := by
      have := List.getElem?_eq_none_iff.mp hx
      simp; walk_at "n"
    exact wpAny_pyNext_list_end hA.h hW hl hn fun h' he => ⟨rfl, fun a o ha e => he a o (fun q => ha (q ▸ .head _)) e, rfl, rfl, trivial⟩

/- a loop over a list -/
theorem EvI_list {iter target : Expr} {xs : List D} {Pl : Ls → Prop} (d : D) (h : Ev c k (eval iter c.env) ρ ls (fun d' ls1 => d' = d ∧ LsOf ls1 d xs ∧ Pl ls1)) : EvI c k iter target xs (fun ls => LsOf ls d xs) ρ ls Pl := fun A s hA S => by
  refine wpAny_mono (h A s hA S) ?_ fun _ _ x => x
  rintro v s1 ⟨d', ls1, k1, S1, st1, r1, rfl, hL, hp⟩
  rw [← Cx.X_keys (c := c) k1] at r1
  obtain ⟨l, vs, rfl, hl, hr⟩ := hL.get S1 r1
  refine wpAny_pyIter_list hl ?_
  obtain ⟨hJ, L, st⟩ := EvI.fresh (A := A) (J := [s1.heap.objs.size]) (W := fun i h => h.IsListIter s1.heap.objs.size l i) (s2 := { s1 with heap := s1.heap.push { cls := .type "list_iterator", data := .fields #[.ref l, .int 0 0] } }) S1 r1 (Keep.push _ _) rfl rfl
    (fun j hj => by
      rw [List.mem_singleton.mp hj]
      exact ⟨Heap.get?_none_of_le (Nat.le_refl _), _, Heap.get?_push_size _ rfl⟩) ⟨_, Heap.get?_push_size _ rfl, rfl, rfl⟩
  rw [Cx.X_keys k1] at st
  exact ⟨ls1, _, _, .ref l, d', _, _, rfl, k1, hJ, L, by rw [show (c.re c.s0 ([s1.heap.objs.size] ++ c.X0) c.Z0).X ls1 = (c.re c.s0 ([s1.heap.objs.size] ++ c.X0) c.Z0).X ls1 from rfl]; exact st1.trans st, fun c' hX => Wk.list (fun _ h => h) (hX _ (.head _)), hp⟩

end
end Mine
end

noncomputable section
set_option genSizeOf false
set_option genInjectivity false
set_option Elab.async false
set_option linter.unusedVariables false
namespace Mine
open PySem PySem.Calls PyProof.Rows PySem.W

section
variable {c : Cx} {k : Nat} {ρ : Rho} {ls : Ls} {P : D → Ls → Prop} {PB : Bool → Ls → Prop} {PF : Fl → Rho → Ls → Prop}

inductive PostA (c : Cx) (ρ : Rho) (ls : Ls) (h : Heap) (P : List D → List (Str × D) → Ls → Prop) (a : Args) (s' : Shared) : Prop where
  | mk (ds : List D) (kds : List (Str × D)) (ls' : Ls) (k : keys ls' = keys ls) (S : St c ρ ls' s') (st : Stay (c.X ls) (c.X ls) h s'.heap) (r : RdL (c.X ls) s'.heap a.pos ds) (rk : RdK (c.X ls) s'.heap a.kw kds) (p : P ds kds ls') : PostA c ρ ls h P a s'
def EvArgs (c : Cx) (k : Nat) (args : List (Bool × Sem Value)) (kws : List (Option Str × Sem Value)) (ρ : Rho) (ls : Ls) (P : List D → List (Str × D) → Ls → Prop) : Prop :=
  ∀ A s f, Room k A → St c ρ ls s → wpAny c.M A (evalArgs f true args kws) (PostA c ρ ls s.heap P) No s

def EvKs (c : Cx) (k : Nat) (pos : Pos) (kws : List Keyword) (ρ : Rho) (ls : Ls) (P : List D → Ls → Prop) : Prop :=
  Evs c k (evalAll ((backToKw pos (keywordEach kws c.env)).map (·.2))) ρ ls P

abbrev EvKsK (c : Cx) (k : Nat) (pos : Pos) (kws : List Keyword) (ρ : Rho) (F : D → List D → Ls → Prop) : D → Ls → Prop := fun d ls1 => EvKs c k pos kws ρ ls1 (F d)
abbrev PlainK (PA : List D → List (Str × D) → Ls → Prop) : List D → Ls → Prop := fun ds ls1 => PA ds [] ls1
abbrev KwK (c : Cx) (k : Nat) (pos : Pos) (kws : List Keyword) (ρ : Rho) (ns : List Str) (PA : List D → List (Str × D) → Ls → Prop) : List D → Ls → Prop := fun ds ls1 => EvKs c k pos kws ρ ls1 (fun kds ls2 => kds.length = ns.length ∧ PA ds (ns.zip kds) ls2)
theorem EvKs_nil {PL : List D → Ls → Prop} {pos} (h : PL [] ls) : EvKs c k pos [] ρ ls PL :=
  fun A s hA S => wpAny_pure ⟨[], ls, rfl, S, Stay.refl _ _, rfl, h⟩
theorem EvKs_cons {PL : List D → Ls → Prop} {pos kp} {n : Option Str} {e : Expr} {rest : List Keyword} (h : Ev c k (eval e c.env) ρ ls (EvKsK c k pos rest ρ (ConsK PL))) :
    EvKs c k pos (⟨n, e, kp⟩ :: rest) ρ ls PL := fun A s hA S => by
  show wpAny _ _ (do let v ← (do let v ← eval e c.env; standAt pos; pure v); return v :: (← holding [v] (evalAll ((backToKw pos (keywordEach rest c.env)).map (·.2))))) _ _ _
  refine wpAny_bind (wpAny_bind (wpAny_mono (h A s hA S) ?_ fun _ _ x => x))
  rintro v1 s1 ⟨d1, ls1, k1, S1, st1, r1, h1⟩
  refine wpAny_bind (wpAny_standAt (wpAny_pure (wpAny_bind (wpAny_holding (wpAny_mono (h1 A s1 hA S1) ?_ fun _ _ x => x)))))
  rintro vs s2 ⟨ds, ls2, k2, S2, st2, r2, h2⟩
  rw [Cx.X_keys k1] at st2 r2
  exact wpAny_pure ⟨d1 :: ds, ls2, k2.trans k1, S2, st1.trans st2, RdL.cons (Rd.stay st2 _ _ r1) r2, h2⟩

theorem EvArgs_nil {pos} {PA : List D → List (Str × D) → Ls → Prop} (h : PA [] [] ls) : EvArgs c k (backTo pos (starEach [] c.env)) (backToKw pos (keywordEach [] c.env)) ρ ls PA :=
  fun A s f hA S => PyProof.Rows.evalArgs_none ⟨[], [], ls, rfl, S, Stay.refl _ _, rfl, ⟨rfl, rfl⟩, h⟩
theorem EvArgs_plain {pos} {e : Expr} {rest : List Expr} {PA : List D → List (Str × D) → Ls → Prop} (h : Evs c k (spliced (backTo pos (starEach (e :: rest) c.env))) ρ ls (PlainK PA))
    (he : starEach (e :: rest) c.env = (false, eval e c.env) :: starEach rest c.env := by rfl) :
    EvArgs c k (backTo pos (starEach (e :: rest) c.env)) (backToKw pos (keywordEach [] c.env)) ρ ls PA := fun A s f hA S => by
  have h2 := h A s hA S
  rw [he] at h2 ⊢
  refine evalArgs_plain (wpAny_mono h2 ?_ fun _ _ x => x)
  rintro vs s2 ⟨ds, ls2, k2, S2, st2, r2, hp⟩
  exact ⟨ds, [], ls2, k2, S2, st2, r2, ⟨rfl, rfl⟩, hp⟩
theorem EvArgs_kw {pos} {e : Expr} {rest : List Expr} {kws : List Keyword} {PA : List D → List (Str × D) → Ls → Prop} (ns : List Str)
    (h : Evs c k (spliced (backTo pos (starEach (e :: rest) c.env))) ρ ls (KwK c k pos kws ρ ns PA))
    (hns : (backToKw pos (keywordEach kws c.env)).filterMap (·.1) = ns := by rfl)
    (he : starEach (e :: rest) c.env = (false, eval e c.env) :: starEach rest c.env := by rfl)
    (hall : (backToKw pos (keywordEach kws c.env)).all (·.1.isSome) = true := by rfl) :
    EvArgs c k (backTo pos (starEach (e :: rest) c.env)) (backToKw pos (keywordEach kws c.env)) ρ ls PA := fun A s f hA S => by
  have h2 := h A s hA S
  rw [he] at h2 ⊢
  refine evalArgs_kwB hall (wpAny_mono h2 ?_ fun _ _ x => x)
  rintro vs s1 ⟨ds, ls1, k1, S1, st1, r1, h1⟩
  refine wpAny_mono (h1 A s1 hA S1) ?_ fun _ _ x => x
  rintro kvs s2 ⟨kds, ls2, k2, S2, st2, r2, hlen, hp⟩
  rw [Cx.X_keys k1] at st2 r2
  have hl := r2.length
  refine ⟨ds, ns.zip kds, ls2, k2.trans k1, S2, st1.trans st2, RdL.stay st2 _ _ r1, ?_, hp⟩
  rw [hns]
  refine ⟨?_, ?_⟩
  · rw [List.map_fst_zip (by walk_at "n"), List.map_fst_zip (by walk_at "n")]
  · rw [List.map_snd_zip (by walk_at "n"), List.map_snd_zip (by walk_at "n")]; exact r2

def CallB (c : Cx) (k : Nat) (d : D) (ds : List D) (kds : List (Str × D)) (ρ : Rho) (ls : Ls) (P : D → Ls → Prop) : Prop :=
  ∀ A s v vs kvs, Room k A → St c ρ ls s → Rd (c.X ls) s.heap v d → RdL (c.X ls) s.heap vs ds → RdK (c.X ls) s.heap kvs kds → wpAny c.M A (call v vs kvs) (Post c ρ ls s.heap P) No s

def Cbl (c : Cx) (d : D) : Prop := (∃ fa o fd, d = .raw (.ref fa) ∧ c.G.get? fa = some o ∧ o.data = .func fd) ∨ (∃ fd, d = .lam fd) ∨ ∃ id, d = .raw (.builtin id)

abbrev CallK (c : Cx) (k : Nat) (d : D) (ρ : Rho) (P : D → Ls → Prop) : List D → List (Str × D) → Ls → Prop := fun ds kds ls1 => CallB c k d ds kds ρ ls1 P
abbrev CblK (c : Cx) (k : Nat) (pos : Pos) (args : List Expr) (kws : List Keyword) (ρ : Rho) (P : D → Ls → Prop) : D → Ls → Prop := fun d ls0 => Cbl c d ∧ EvArgs c k (backTo pos (starEach args c.env)) (backToKw pos (keywordEach kws c.env)) ρ ls0 (CallK c k d ρ P)
abbrev TypeK (c : Cx) (k : Nat) (ts : Sem (List Value)) (ρ : Rho) (P : D → Ls → Prop) : D → Ls → Prop := fun d ls0 => ∃ T, d = .raw (.type T) ∧ Evs c k ts ρ ls0 (fun ds ls1 => CallB c k (.raw (.type T)) ds [] ρ ls1 P)
abbrev MethK (c : Cx) (k : Nat) (id : String) (d : D) (ρ : Rho) (P : D → Ls → Prop) : List D → List (Str × D) → Ls → Prop := fun ds kds ls1 => CallB c k (.raw (.builtin id)) (d :: ds) kds ρ ls1 P
abbrev LstK (c : Cx) (k : Nat) (pos : Pos) (args : List Expr) (id : String) (ρ : Rho) (P : D → Ls → Prop) : D → Ls → Prop := fun d ls0 => ∃ xs, LsOf ls0 d xs ∧ EvArgs c k (backTo pos (starEach args c.env)) (backToKw pos (keywordEach [] c.env)) ρ ls0 (MethK c k id d ρ P)

/- a call behind its callee -/
theorem callWith_D {A : Around} {s : Shared} {v : Value} {d : D} {pos : Pos} {args : List (Bool × Sem Value)} {kws : List (Option Str × Sem Value)} (S : St c ρ ls s) (hA : Room k A) (r : Rd (c.X ls) s.heap v d) (hc : Cbl c d)
    (h : EvArgs c k args kws ρ ls (CallK c k d ρ P)) (hplain : args.any (·.1) = false) (hkw : kws.any (·.1.isNone) = false) :
    wpAny c.M A (callWith pos v [] args kws) (Post c ρ ls s.heap P) No s := by
  have fin : ∀ (a : Args) (s2 : Shared), PostA c ρ ls s.heap (CallK c k d ρ P) a s2 →
      wpAny c.M A (call v ([] ++ a.pos) a.kw) (Post c ρ ls s.heap P) No s2 := by
    rintro a s2 ⟨ds, kds, ls2, k2, S2, st2, r2, rk, hp⟩
    have r' := Rd.stay st2 _ _ r
    rw [← Cx.X_keys (c := c) k2] at r2 rk r'
    exact wpAny_mono (hp A s2 v a.pos a.kw hA S2 r' r2 rk) (fun v s3 p => Post.into k2 st2 p) fun _ _ x => x
  rcases hc with ⟨fa, o, fd, rfl, ho, hd⟩ | ⟨fd, rfl⟩ | ⟨id, rfl⟩
  · cases r
    refine callWith_function_kw (o := o) (fd := fd) (wpAny_mono (h A s _ hA S) ?_ fun _ _ x => x)
    rintro a s2 ha
    refine ⟨?_, fin a s2 ha⟩
    obtain ⟨_, _, _, _, S2, _⟩ := ha
    exact ⟨S2.fm.top _ _ ho, hd⟩
  · obtain ⟨q, o, cc, rfl, hx, ho, hd, _⟩ := id r
    refine callWith_function_kw (o := o) (fd := fd) (wpAny_mono (h A s _ hA S) ?_ fun _ _ x => x)
    rintro a s2 ha
    refine ⟨?_, fin a s2 ha⟩
    obtain ⟨_, _, _, _, _, st2, _⟩ := ha
    exact ⟨(st2 q o hx ho (.inr (.inl ⟨fd, hd⟩))).2, hd⟩
  · cases r
    exact callWith_builtin_kwB hplain hkw (wpAny_mono (h A s _ hA S) (fun a s2 ha => fin a s2 ha) fun _ _ x => x)

/- a call by name -/
theorem Ev_callN {x p pos} {args : List Expr} {kws : List Keyword}
    (hn : Ev c k (eval (.Name x p) c.env) ρ ls (CblK c k pos args kws ρ P))
    (hplain : (backTo pos (starEach args c.env)).any (·.1) = false := by rfl) (hkw : (backToKw pos (keywordEach kws c.env)).any (·.1.isNone) = false := by rfl) :
    Ev c k (eval (.Call (.Name x p) args kws pos) c.env) ρ ls P := fun A s hA S => by
  refine wpAny_Call_Name_kw (wpAny_mono (hn A s hA S) ?_ fun _ _ x => x)
  rintro v s1 ⟨d, ls1, k1, S1, st1, r1, hc, h1⟩
  rw [← Cx.X_keys (c := c) k1] at r1
  exact wpAny_mono (callWith_D S1 hA r1 hc h1 hplain hkw) (fun v s3 p => Post.into k1 st1 p) fun _ _ x => x

/- a call of a type, by name, of one or more arguments -/
/- functions of the text -/
theorem CallF.callB {fa : Addr} {ds : List D} {kds : List (Str × D)} (h : CallF c k (.ref fa) ds kds ls P) : CallB c k (.raw (.ref fa)) ds kds ρ ls P := by
  rintro A s v vs kvs hA S rfl r rk
  obtain ⟨ml, Pf, F, hsub, hnd, hp⟩ := h
  exact S.call hA F hsub hnd r rk hp

/- a method of a list -/
theorem Ev_meth {o : Expr} {name : Str} {apos pos : Pos} {args : List Expr} (id : String) (slot : Slot "list" name id) (hty : typeOf (.builtin id) = pure (.type "method_descriptor"))
    (h : Ev c k (eval o c.env) ρ ls (LstK c k pos args id ρ P))
    (hbase : attributeBase o name c.env (eval o c.env) = eval o c.env := by rfl)
    (hfew : ((backTo pos (starEach args c.env)).all (fun x => !x.1) && (backToKw pos (keywordEach [] c.env)).all (fun x => x.1.isSome)
      && decide (args.length + ([] : List Keyword).length + (if ([] : List Keyword).isEmpty then 0 else 1) < 30)) = true := by rfl)
    (hline : (apos.endLine == pos.line) = true := by rfl) (hplain : (backTo pos (starEach args c.env)).any (·.1) = false := by rfl) :
    Ev c k (eval (.Call (.Attribute o name apos) args [] pos) c.env) ρ ls P := fun A s hA S => by
  refine wpAny_Call_method_lateS hbase hfew hline (wpAny_mono (h A s hA S) ?_ fun _ _ x => x)
  rintro v s1 ⟨d, ls1, k1, S1, st1, r1, xs, hL, h1⟩
  rw [← Cx.X_keys (c := c) k1] at r1
  obtain ⟨a, vs, n, rfl, hl, hr⟩ := hL.getL S1 r1
  refine ⟨"list", id, F.plainAttrs_list, slot, hty, hl.isList.typeIs, fun b e => by cases e; exact ⟨_, hl, rfl⟩, ?_⟩
  refine callWith_builtin hplain (wpAny_mono (h1 A s1 _ hA S1) ?_ fun _ _ x => x)
  rintro ar s2 ⟨ds, kds, ls2, k2, S2, st2, r2, rk, hp⟩
  have r' := Rd.stay st2 _ _ r1
  rw [← Cx.X_keys (c := c) k2] at r2 rk r'
  refine wpAny_mono (hp A s2 (.builtin id) (.ref a :: ar.pos) ar.kw hA S2 rfl (RdL.cons r' r2) rk) (fun v s3 p => ?_) fun _ _ x => x
  rw [Cx.X_keys k1] at st2
  exact Post.into (k2.trans k1) (st1.trans st2) p
end
end Mine
end

noncomputable section
set_option genSizeOf false
set_option genInjectivity false
set_option Elab.async false
set_option linter.unusedVariables false
namespace Mine
open PySem PySem.Calls PyProof.Rows PySem.W

section
variable {c : Cx} {k : Nat} {ρ : Rho} {ls : Ls} {P : D → Ls → Prop} {PB : Bool → Ls → Prop} {PF : Fl → Rho → Ls → Prop}

theorem RdK.nil {X : List Addr} {h : Heap} {kvs : List (Str × Value)} (r : RdK X h kvs []) : kvs = [] := by
  have := r.1
  cases kvs with
  | nil => rfl
  | cons _ _ => simp at this

theorem sz_line {X : List Addr} {h : Heap} {vs : Array Value} {xs : List D} (r : RdL X h vs.toList xs) (hb : xs.length < 2 ^ 20) : vs.size ≤ sizeLine ∧ vs.size < 2 ^ 20 := by
  have := r.length; simp at this; rw [sizeLine_eq]; walk_at "n"

/- a list changed in place -/
theorem St.upd {s : Shared} {a : Addr} {vs : Array Value} {n : Nat} {xs ys : List D} {d : D} {v : Value} {tk : Nat} (S : St c ρ ls s) (hm : (a, xs) ∈ ls) (hl : IsL s.heap a vs n) (f : Array Value → Array Value)
    (hr : RdL (c.X ls) s.heap (f vs).toList ys) (rv : Rd (c.X ls) s.heap v d) (h : P d (lset ls a ys)) : Post c ρ ls s.heap P v { s with heap := s.heap.update a (Obj.mapSeq f), toks := tk } := by
  have st : Stay (c.X ls) (c.X ls) s.heap (s.heap.update a (Obj.mapSeq f)) := Stay.but (Heap.SameBut.update ..) (Cx.own_X (Cx.key_own (List.mem_map_of_mem (f := (·.1)) hm)))
  exact ⟨d, lset ls a ys, keys_lset .., S.setList hm hl.isList (hl.update f) (Heap.SameBut.update ..) hr rfl rfl, st, Rd.stay st _ _ rv, h⟩

theorem CallB_append {a : Addr} {xs : List D} {dx : D} (hm : (a, xs) ∈ ls) (hb : xs.length < 2 ^ 20) (h : P .none (lset ls a (xs ++ [dx]))) : CallB c k (.raw (.builtin "list.append")) [.raw (.ref a), dx] [] ρ ls P := by
  rintro A s v vs kvs hA S rfl ⟨_, _, rfl, rfl, v1, _, rfl, r1, rfl⟩ rk
  cases rk.nil
  obtain ⟨ws, n, hl, hr⟩ := S.lists _ hm
  refine call_meets F.slot_list_append ⟨_, hl, rfl⟩ F.entry_list_append (F.args_list_append_2 _ _) (list_append a ws n v1 (sz_line hr hb).1) ⟨hl, ?_⟩
  exact S.upd (d := .none) hm hl (·.push v1) (by simpa using hr.append (RdL.one r1)) rfl h

theorem CallB_extend {a : Addr} {xs ys : List D} {d : D} (hm : (a, xs) ∈ ls) (hL : LsOf ls d ys) (hb : xs.length < 2 ^ 20) (hb' : ys.length < 2 ^ 20) (h : P .none (lset ls a (xs ++ ys))) : CallB c k (.raw (.builtin "list.extend")) [.raw (.ref a), d] [] ρ ls P := by
  rintro A s v vs kvs hA S rfl ⟨_, _, rfl, rfl, v1, _, rfl, r1, rfl⟩ rk
  cases rk.nil
  obtain ⟨ws, n, hl, hr⟩ := S.lists _ hm
  obtain ⟨b, us, n2, rfl, hl2, hr2⟩ := hL.getL S r1
  have z1 := sz_line hr hb
  have z2 := sz_line hr2 hb'
  refine call_meets F.slot_list_extend ⟨_, hl, rfl⟩ F.entry_list_extend (F.args_list_extend_2 _ _) (AutoSeq1.list_extend_list_list_0 a ws n b us n2 ?_ z1.1 (by rw [sizeLine_eq]; walk_at "n")) ⟨hl, hl2, ?_⟩
  · simp only [Bool.and_eq_true, not_and]
    intro _
    unfold Builtin.List.listTooLong
    simp only [decide_eq_true_eq]
    rw [sizeLine_eq]
    walk_at "n"
  · exact S.upd (d := .none) hm hl (· ++ us) (by simpa using hr.append hr2) rfl h

theorem CallB_pop {a : Addr} {xs : List D} {dx : D} (hm : (a, xs ++ [dx]) ∈ ls) (hb : xs.length < 2 ^ 19) (h : P dx (lset ls a xs)) : CallB c k (.raw (.builtin "list.pop")) [.raw (.ref a)] [] ρ ls P := by
  rintro A s v vs kvs hA S rfl ⟨_, _, rfl, rfl, rfl⟩ rk
  cases rk.nil
  obtain ⟨ws, n, hl, hr⟩ := S.lists _ hm
  have hz := hr.length
  simp at hz
  obtain ⟨y, hy, ry⟩ := hr.get (i := xs.length) (d := dx) (by simp)
  have hy' : ws[ws.size - 1]? = some y := by rw [hz]; simpa using hy
  refine call_meets F.slot_list_pop ⟨_, hl, rfl⟩ F.entry_list_pop (F.args_list_pop_1 _) (MeetsSeq.list_pop_last a ws n y hy' (by rw [sizeLine_eq]; walk_at "n")) ⟨hl, ?_⟩
  refine S.upd hm hl (fun xs => xs.eraseIdxIfInBounds (ws.size - 1)) ?_ ry h
  have e : (ws.eraseIdxIfInBounds (ws.size - 1)).toList = ws.toList.take xs.length := by
    rw [Array.eraseIdxIfInBounds_eq]
    rw [dif_pos (by walk_at "n")]
    rw [Array.toList_eraseIdx, hz]
    rw [List.eraseIdx_eq_take_drop_succ]
    simp [hz]
  rw [e]
  simpa using RdL.take xs.length hr

theorem CallB_pop0 {a : Addr} {xs : List D} {dx : D} (hm : (a, dx :: xs) ∈ ls) (hb : xs.length < 2 ^ 19) (h : P dx (lset ls a xs)) : CallB c k (.raw (.builtin "list.pop")) [.raw (.ref a), .int 0] [] ρ ls P := by
  rintro A s v vs kvs hA S rfl ⟨_, _, rfl, rfl, v1, _, rfl, ⟨t, rfl⟩, rfl⟩ rk
  cases rk.nil
  obtain ⟨ws, n, hl, hr⟩ := S.lists _ hm
  have hz := hr.length
  simp at hz
  obtain ⟨y, hy, ry⟩ := hr.get (i := 0) (d := dx) (by simp)
  refine call_meets F.slot_list_pop ⟨_, hl, rfl⟩ F.entry_list_pop (F.args_list_pop_2 _ _) (MeetsSeq.list_pop_at a ws n 0 t 0 y (by rfl) (by unfold seqIndex?; rw [hz]; simp) (by simpa using hy) (by rw [sizeLine_eq]; walk_at "n")) ⟨hl, ?_⟩
  refine S.upd hm hl (fun xs => xs.eraseIdxIfInBounds 0) ?_ ry h
  have e : (ws.eraseIdxIfInBounds 0).toList = ws.toList.drop 1 := by
    rw [Array.eraseIdxIfInBounds_eq]
    rw [dif_pos (by walk_at "n")]
    rw [Array.toList_eraseIdx]
    rw [List.eraseIdx_eq_take_drop_succ]
    simp
  rw [e]
  simpa using RdL.drop 1 hr

set_option maxRecDepth 100000 in
theorem CallB_insert {a : Addr} {xs : List D} {i : Nat} {dx : D} (hm : (a, xs) ∈ ls) (hi : i ≤ xs.length) (hb : xs.length < 2 ^ 20) (h : P .none (lset ls a (xs.take i ++ dx :: xs.drop i))) :
    CallB c k (.raw (.builtin "list.insert")) [.raw (.ref a), .int i, dx] [] ρ ls P := by
  rintro A s v vs kvs hA S rfl ⟨_, _, rfl, rfl, v1, _, rfl, ⟨t, rfl⟩, v2, _, rfl, r2, rfl⟩ rk
  cases rk.nil
  obtain ⟨ws, n, hl, hr⟩ := S.lists _ hm
  have hz := hr.length
  rw [Array.length_toList] at hz
  generalize hx : (i : Int) = x
  have hf : Builtin.List.listFitsIndex x = true := by
    unfold Builtin.List.listFitsIndex
    simp only [Bool.and_eq_true, decide_eq_true_eq]
    constructor <;> walk_at "n"
  have hn : ¬ (!Builtin.List.listFitsIndex x) = true := by rw [hf]; decide
  have g := AutoSeq1.list_insert_list_int_val_1 a ws n x t v2 hn (sz_line hr hb).1
  refine call_meets F.slot_list_insert ⟨_, hl, rfl⟩ F.entry_list_insert (F.args_list_insert_3 _ _ _) g ⟨hl, ?_⟩
  refine S.upd (d := .none) hm hl _ ?_ rfl h
  have e : ((fun xs : Array Value => have k := if x < 0 then (x + (xs.size : Int)).toNat else min x.toNat xs.size; (xs.extract 0 k).push v2 ++ xs.extract k) ws).toList = ws.toList.take i ++ v2 :: ws.toList.drop i := by
    have h0 : ¬ (x < 0) := by walk_at "n"
    have hz' : ws.size = xs.length := hz
    have h1 : min x.toNat ws.size = i := by
      have : x.toNat = i := by walk_at "n"
      rw [this]; walk_at "n"
    simp only [h0, if_false, h1]
    simp
    exact List.take_of_length_le (by simp)
  rw [e]
  exact (RdL.take i hr).append (RdL.cons r2 (RdL.drop i hr))

theorem CallB_len {d : D} {xs : List D} (hL : LsOf ls d xs) (hb : xs.length < 2 ^ 20) (h : P (.int xs.length) ls) : CallB c k (.raw (.builtin "len")) [d] [] ρ ls P := by
  rintro A s v vs kvs hA S rfl ⟨v1, _, rfl, r1, rfl⟩ rk
  cases rk.nil
  obtain ⟨a, ws, n, rfl, hl, hr⟩ := hL.getL S r1
  have hz := hr.length
  simp at hz
  refine len_list hl.isList (by walk_at "n") ?_
  rw [hz]
  exact ⟨.int xs.length, ls, rfl, S.same rfl rfl rfl, Stay.refl _ _, ⟨_, rfl⟩, h⟩

theorem Op2_concat {d1 d2 : D} {xs ys : List D} (h1 : LsOf ls d1 xs) (h2 : LsOf ls d2 ys) (hb : xs.length + ys.length < 2 ^ 20) (h : P (.fl (xs ++ ys)) ls) : Op2 c k (binaryOp .Add) d1 d2 ρ ls P := by
  rintro A s v1 v2 hA S r1 r2
  obtain ⟨a, ws, n, rfl, hl, hr⟩ := h1.getL S r1
  obtain ⟨b, us, n2, rfl, hl2, hr2⟩ := h2.getL S r2
  have z1 := hr.length
  have z2 := hr2.length
  simp at z1 z2
  refine PySem.P.add_list hl hl2 ?_ (by rw [sizeLine_eq]; walk_at "n")
  refine ⟨.fl (xs ++ ys), ls, rfl, S.ext (Keep.push _ _) rfl rfl, (Keep.push _ _).stay, ?_, h⟩
  have := S.newF (vs := ws.toList ++ us.toList) (ds := xs ++ ys) (hr.append hr2)
  rw [show (ws.toList ++ us.toList).toArray = ws ++ us by simp] at this
  exact this

theorem Op2_inT {d : D} {xs : List D} {i : Int} (hp : plains xs = true) (hd : PyData.depthAll (pys xs) ≤ 3) (h : P (.bool ((pys xs).any fun y => PyData.eqv y (.int i))) ls) : Op2 c (k+1) (compareOp .In) (.int i) (.tup xs) ρ ls P := by
  rintro A s v1 v2 hA S ⟨t, rfl⟩ r2
  obtain ⟨as, ra⟩ := Rd.reads (.tup xs) v2 r2 (by simpa [D.plain] using hp)
  refine SeqAt.in_tuple_reads ra (.int i t) ?_ ?_ ?_ ⟨.bool _, ls, rfl, S, Stay.refl _ _, rfl, h⟩
  · first | exact pys_canLay xs hp | simpa [PyData.canLay0] using pys_canLay xs hp
  · rfl
  · have := hA.2.1
    have := Nat.min_le_left (PyData.depthAll (pys xs)) (PyData.int i).depth
    walk_at "n"

theorem Op1_neg {i : Int} (h : P (.int (-i)) ls) : Op1 c k (unaryOp .USub) (.int i) ρ ls P := by
  rintro A s v hA S ⟨t, rfl⟩
  exact neg_int ⟨.int (-i), ls, rfl, S.same rfl rfl rfl, Stay.refl _ _, ⟨_, rfl⟩, h⟩

end
end Mine
end

noncomputable section
set_option genSizeOf false
set_option genInjectivity false
set_option Elab.async false
set_option linter.unusedVariables false
namespace Mine
open PySem PySem.Calls PyProof.Rows PySem.W

section
variable {c : Cx} {k : Nat} {ρ : Rho} {ls : Ls} {P : D → Ls → Prop} {PB : Bool → Ls → Prop} {PF : Fl → Rho → Ls → Prop}

theorem Ev_un {op x pos} (h : Ev c k (eval x c.env) ρ ls (Op1K c k (unaryOp op) ρ P)) : Ev c k (eval (.UnaryOp op x pos) c.env) ρ ls P := fun A s hA S => by
  refine wpAny_UnaryOp (wpAny_mono (h A s hA S) ?_ fun _ _ x => x)
  rintro v1 s1 ⟨d1, ls1, k1, S1, st1, r1, h1⟩
  refine wpAny_mono (h1 A s1 v1 hA S1 (by rw [Cx.X_keys k1]; exact r1)) (fun v s' p => ?_) fun _ _ x => x
  exact Post.into k1 st1 p

abbrev NextK (ρ : Rho) (PF : Fl → Rho → Ls → Prop) : D → Ls → Prop := fun _ ls' => PF .next ρ ls'
theorem Ex_expr {e pos} (h : Ev c k (eval e c.env) ρ ls (NextK ρ PF)) (hi : interactive c.env = false := by rfl) (hs : swapsWith e none pos.line c.env = pure false := by rfl) :
    Ex c k (exec (.Expr e pos) c.env) ρ ls PF := fun A s hA S => by
  refine wpAny_Expr_any (wpAny_mono (h A s hA S) ?_ fun _ _ x => x) hi hs
  rintro v s1 ⟨d, ls1, k1, S1, st1, r1, h1⟩
  exact ⟨.next, ρ, ls1, S1, trivial, h1⟩

theorem Ex_aug {x pos' value pos} {a b : Int} (hk : StoreOk c x) (hx : ρ.lookup x = some (.int a)) (h : Ev c k (eval value c.env) ρ ls (fun d ls' => d = .int b ∧ PF .next (upd ρ x (.int (a + b))) ls')) :
    Ex c k (exec (.AugAssign (.Name x pos') .Add value pos) c.env) ρ ls PF := fun A s hA S => by
  refine wpAny_AugAssign_Name (S.name hx fun v r => ?_)
  obtain ⟨t, rfl⟩ := r
  refine wpAny_mono (h A s hA S) ?_ fun _ _ x => x
  rintro v s1 ⟨d, ls1, k1, S1, st1, r1, rfl, h1⟩
  obtain ⟨u, rfl⟩ := r1
  refine wpAny_iadd_int ?_
  refine (S1.same (s' := { s1 with toks := s1.toks + 1 }) rfl rfl rfl).store (d := .int (a + b)) hk ⟨_, rfl⟩ fun s' S' _ => ⟨.next, _, ls1, S', trivial, h1⟩

theorem Op2_isNone {d : D} (b : Bool) (hd : (d = .none ∧ b = true) ∨ ((∃ l, d = .fl l) ∨ (∃ l, d = .tup l) ∨ (∃ fd, d = .lam fd) ∨ (∃ a, d = .raw (.ref a)) ∨ (∃ i, d = .int i)) ∧ b = false) (h : P (.bool b) ls) : Op2 c k (compareOp .Is) d .none ρ ls P := by
  rintro A s v1 v2 hA S r1 rfl
  have fin : Post c ρ ls s.heap P (.bool b) s := ⟨.bool b, ls, rfl, S, Stay.refl _ _, rfl, h⟩
  rcases hd with ⟨rfl, rfl⟩ | ⟨hd, rfl⟩
  · cases r1; exact wpAny_is_plain rfl fin
  · have : (∃ a, v1 = .ref a) ∨ ∃ i t, v1 = .int i t := by
      rcases hd with ⟨l, rfl⟩ | ⟨l, rfl⟩ | ⟨fd, rfl⟩ | ⟨a, rfl⟩ | ⟨i, rfl⟩
      · obtain ⟨a, _, _, rfl, _⟩ := r1; exact .inl ⟨a, rfl⟩
      · obtain ⟨a, _, rfl, _⟩ := r1; exact .inl ⟨a, rfl⟩
      · obtain ⟨a, _, _, rfl, _⟩ := r1; exact .inl ⟨a, rfl⟩
      · cases r1; exact .inl ⟨a, rfl⟩
      · obtain ⟨t, rfl⟩ := r1; exact .inr ⟨i, t, rfl⟩
    rcases this with ⟨a, rfl⟩ | ⟨i, t, rfl⟩
    · exact wpAny_is_plain rfl fin
    · exact wpAny_is_plain rfl fin

theorem Op2_isObj {d : D} {a : Addr} (b : Bool) (hd : (d = .objAt a ∧ b = true) ∨ ((∃ l, d = .tup l) ∧ b = false)) (h : P (.bool b) ls) : Op2 c k (compareOp .Is) d (.objAt a) ρ ls P := by
  rintro A s v1 v2 hA S r1 ⟨rfl, hx, o, ho, hc, hnd⟩
  have fin : Post c ρ ls s.heap P (.bool b) s := ⟨.bool b, ls, rfl, S, Stay.refl _ _, rfl, h⟩
  rcases hd with ⟨rfl, rfl⟩ | ⟨⟨l, rfl⟩, rfl⟩
  · obtain ⟨rfl, _⟩ := r1; exact wpAny_is_ref_self fin
  · obtain ⟨q, vs, rfl, _, ⟨o', ho', hc', _⟩, _⟩ := r1
    have hne : q ≠ a := by rintro rfl; rw [ho] at ho'; cases ho'; rw [hc] at hc'; simp at hc'
    show wpAny _ _ (do return Value.bool (← isSame (.ref q) (.ref a))) _ _ s
    refine wpAny_bind ?_
    show wpAny _ _ (if (q == a) = true then pure true else _) _ _ s
    rw [if_neg (by simpa using hne)]
    refine wpAny_bind (wpAny_load ho' (wpAny_bind (wpAny_load ho ?_)))
    split
    · rename_i _ h2 _ _; rw [hc] at h2; simp at h2
    · exact wpAny_pure (wpAny_pure fin)

/- slices -/
inductive PostP (c : Cx) (ρ : Rho) (ls : Ls) (h : Heap) (P : Option Int → Ls → Prop) (v : Value) (s' : Shared) : Prop where
  | mk (i : Option Int) (ls' : Ls) (k : keys ls' = keys ls) (S : St c ρ ls' s') (st : Stay (c.X ls) (c.X ls) h s'.heap) (r : IsPart v i) (p : P i ls') : PostP c ρ ls h P v s'
def Part (c : Cx) (k : Nat) (x : Option Expr) (ρ : Rho) (ls : Ls) (P : Option Int → Ls → Prop) : Prop :=
  ∀ A s, Room k A → St c ρ ls s → wpAny c.M A (evalPart x c.env) (PostP c ρ ls s.heap P) No s
theorem Part_none {PP : Option Int → Ls → Prop} (h : PP none ls) : Part c k none ρ ls PP := fun A s hA S => wpAny_pure ⟨none, ls, rfl, S, Stay.refl _ _, .none, h⟩
theorem Part_some {e : Expr} {PP : Option Int → Ls → Prop} (h : Ev c k (eval e c.env) ρ ls (fun d ls' => ∃ i, d = .int i ∧ PP (some i) ls')) : Part c k (some e) ρ ls PP := fun A s hA S => by
  refine wpAny_mono (h A s hA S) ?_ fun _ _ x => x
  rintro v s1 ⟨d, ls1, k1, S1, st1, r1, i, rfl, h1⟩
  obtain ⟨t, rfl⟩ := r1
  exact ⟨some i, ls1, k1, S1, st1, .int i t, h1⟩

theorem pick_rd {X : List Addr} {h : Heap} {vs : Array Value} {xs : List D} (r : RdL X h vs.toList xs) : ∀ (is : List Nat), (∀ i ∈ is, i < xs.length) → RdL X h (is.filterMap (vs[·]?)) (is.filterMap (xs[·]?))
  | [], _ => rfl
  | i :: is, hi => by
    have hz := r.length
    rw [Array.length_toList] at hz
    have h1 : i < xs.length := hi i (.head _)
    have h2 : i < vs.size := by walk_at "n"
    have e1 : xs[i]? = some xs[i] := List.getElem?_eq_getElem h1
    have e2 : vs[i]? = some vs[i] := by simp [h2]
    obtain ⟨v, hv, rv⟩ := r.get e1
    have : vs[i] = v := by simpa [h2] using hv
    rw [List.filterMap_cons, List.filterMap_cons, e1, e2]
    simp only
    exact RdL.cons (this ▸ rv) (pick_rd r is fun j hj => hi j (.tail _ hj))

/- the picked items of a slice: none below the start, no step -/
theorem pick_upto {X : List Addr} {h : Heap} {vs : Array Value} {xs : List D} (r : RdL X h vs.toList xs) (i : Int) (hi : 0 ≤ i) : RdL X h (slicePick vs none (some i) none).toList (xs.take i.toNat) := by
  obtain ⟨b, rfl⟩ := Int.eq_ofNat_of_zero_le hi
  have : slicePick vs none (some (b : Int)) none = (vs.toList.take b).toArray := slicePick_upto' vs b
  rw [this]
  simpa using RdL.take b r
theorem slicePick_rev (items : Array Value) : (slicePick items none none (some (-1))).toList = items.toList.reverse := by
  unfold slicePick
  rw [krv_bounds]
  simp only
  rw [krv_sliceRange, krv_range]
  rw [List.filterMap_reverse]
  simp [krv_all]
theorem pick_rev {X : List Addr} {h : Heap} {vs : Array Value} {xs : List D} (r : RdL X h vs.toList xs) : RdL X h (slicePick vs none none (some (-1))).toList xs.reverse := by
  rw [slicePick_rev]; exact r.reverse

theorem Ev_slice {value : Expr} {lower upper step : Option Expr} {p pos : Pos} {xs ys : List D} 
    (h : Ev c k (eval value c.env) ρ ls (fun d ls1 => Part c k lower ρ ls1 (fun lo ls2 => Part c k upper ρ ls2 (fun hi ls3 => Part c k step ρ ls3 (fun st ls4 => LsOf ls4 d xs ∧ xs.length < 2 ^ 20 ∧ st ≠ some 0 ∧
      (∀ X h (vs : Array Value), RdL X h vs.toList xs → RdL X h (slicePick vs lo hi st).toList ys) ∧ P (.fl ys) ls4))))) :
    Ev c k (eval (.Subscript value (.Slice lower upper step p) pos) c.env) ρ ls P := fun A s hA S => by
  refine Subscript_ (wpAny_mono (h A s hA S) ?_ fun _ _ x => x)
  rintro v1 s1 ⟨d1, ls1, k1, S1, st1, r1, h1⟩
  refine wpAny_Slice (wpAny_mono (h1 A s1 hA S1) ?_ fun _ _ x => x)
  rintro vl s2 ⟨lo, ls2, k2, S2, st2, p2, h2⟩
  refine wpAny_mono (h2 A s2 hA S2) ?_ fun _ _ x => x
  rintro vu s3 ⟨hi, ls3, k3, S3, st3, p3, h3⟩
  refine wpAny_mono (h3 A s3 hA S3) ?_ fun _ _ x => x
  rintro vs s4 ⟨st, ls4, k4, S4, st4, p4, hL, hb, hst, hpick, hp⟩
  have e1 := Cx.X_keys (c := c) k1
  have e2 := Cx.X_keys (c := c) (k2.trans k1)
  have e3 := Cx.X_keys (c := c) (k3.trans (k2.trans k1))
  have kk := k4.trans (k3.trans (k2.trans k1))
  have e4 := Cx.X_keys (c := c) kk
  rw [e1] at st2
  rw [e2] at st3
  rw [e3] at st4
  have stt := st2.trans (st3.trans st4)
  have r4 := Rd.stay stt _ _ r1
  rw [← e4] at r4
  obtain ⟨a, ws, n, rfl, hl, hr⟩ := hL.getL S4 r4
  have S5 := S4.ext (s' := { s4 with heap := s4.heap.push { cls := .type "slice", data := .fields #[vl, vu, vs] } }) (Keep.push _ _) rfl rfl
  have hl5 := hl.push { cls := .type "slice", data := .fields #[vl, vu, vs] }
  have hr5 := RdL.stay (Keep.push s4.heap { cls := .type "slice", data := .fields #[vl, vu, vs] }).stay _ _ hr
  have fin : wpAny c.M A (getItem (.ref a) (.ref s4.heap.objs.size)) (Post c ρ ls s.heap P) No { s4 with heap := s4.heap.push { cls := .type "slice", data := .fields #[vl, vu, vs] } } := by
    refine wpAny_getItem_list_slice hl5.isList (Heap.IsSliceOf.new ..) p2 p3 p4 hst ?_ (sz_line hr hb).1
    refine ⟨.fl ys, ls4, kk, S5.ext (Keep.push _ _) rfl rfl, (st1.trans stt).trans ((Keep.push _ _).stay.trans (Keep.push _ _).stay), ?_, hp⟩
    have := S5.newF (hpick _ _ _ hr5)
    rw [Array.toArray_toList, e4] at this
    exact this
  have hT := hl5.isList.typeIs (s := { s4 with heap := s4.heap.push { cls := .type "slice", data := .fields #[vl, vu, vs] } })
  unfold subscriptTail
  refine wpAny_bind ?_
  rw [getitemInPython_of_ne hT.not_modules]
  refine wpAny_bind (wpAny_specialOf hT slot_list_getitem.lookup ?_)
  have fin2 : wpAny c.M A (subscripted (.Slice lower upper step p) false (.ref a) (.ref s4.heap.objs.size)) (fun r s₃ => wpAny c.M A (letTemporaryGo value (.ref a) r >>= fun _ => pure r) (Post c ρ ls s.heap P) No s₃) No
      { s4 with heap := s4.heap.push { cls := .type "slice", data := .fields #[vl, vu, vs] } } := by
    have w : wpAny c.M A (getItem (.ref a) (.ref s4.heap.objs.size)) (fun r s₃ => wpAny c.M A (letTemporaryGo value (.ref a) r >>= fun _ => pure r) (Post c ρ ls s.heap P) No s₃) No _ := wpAny_mono fin (fun r s₃ h₃ => wpAny_bind (wpAny_letTemporaryGo (base := value) (o := .ref a) (r := r) (wpAny_pure h₃))) fun _ _ x => x
    cases step with
    | none => exact wpAny_operating w
    | some e => exact wpAny_operating w
  first
    | exact wpAny_pure (wpAny_bind fin2)
    | exact wpAny_bind (wpAny_pure (wpAny_bind fin2))
    | exact wpAny_bind fin2

/- targets -/
theorem Asg_name {x p} {d : D} (hk : StoreOk c x) : Asg c k (.Name x p) d ρ (upd ρ x d) := fun A s ls v hA S r =>
  wpAny_assign_Name (S.store hk r fun s' S' st => ⟨S', st⟩)

def nm (q : Str × Pos) : Expr := .Name q.1 q.2
def updAll : Rho → List (Str × Pos) → List D → Rho
  | ρ, q :: r, d :: ds => updAll (upd ρ q.1 d) r ds
  | ρ, _, _ => ρ

theorem assignEach_names : ∀ (ns : List (Str × Pos)), (assignEach (ns.map nm) c.env).length = ns.length ∧ (assignEach (ns.map nm) c.env).findIdx? (·.1) = none
  | [] => ⟨rfl, rfl⟩
  | q :: r => by
    obtain ⟨h1, h2⟩ := assignEach_names r
    show ((false, assign (nm q) c.env) :: assignEach (r.map nm) c.env).length = _ ∧ ((false, assign (nm q) c.env) :: assignEach (r.map nm) c.env).findIdx? (·.1) = none
    exact ⟨by simp [h1], by simp [List.findIdx?_cons, h2]⟩

theorem assign_names : ∀ (ns : List (Str × Pos)) (ds : List D) (vs : List Value) (ρ : Rho) (A : Around) (s : Shared), (∀ q ∈ ns, StoreOk c q.1) → ns.length = ds.length → Room k A → St c ρ ls s → RdL (c.X ls) s.heap vs ds →
    wpAny c.M A (assignInOrder ((assignEach (ns.map nm) c.env).map (·.2)) vs) (fun _ s' => St c (updAll ρ ns ds) ls s' ∧ Stay (c.X ls) (c.X ls) s.heap s'.heap) No s
  | [], [], vs, ρ, A, s, _, _, hA, S, r => by cases r; exact wpAny_pure ⟨S, Stay.refl _ _⟩
  | [], _ :: _, _, _, _, _, _, hl, _, _, _ => by simp at hl
  | _ :: _, [], _, _, _, _, _, hl, _, _, _ => by simp at hl
  | q :: el, d :: ds, vs, ρ, A, s, h, hl, hA, S, ⟨v, vs', e, r1, r2⟩ => by
    subst e
    show wpAny _ _ (do holding vs' (assign (.Name q.1 q.2) c.env v); assignInOrder ((assignEach (el.map nm) c.env).map (·.2)) vs') _ _ _
    refine wpAny_bind (wpAny_holding (wpAny_mono (Asg_name (k := k) (h q (.head _)) A s ls v hA S r1) ?_ fun _ _ x => x))
    rintro _ s1 ⟨S1, st1⟩
    refine wpAny_mono (assign_names el ds vs' (upd ρ q.1 d) A s1 (fun q hq => h q (.tail _ hq)) (by simpa using hl) hA S1 (RdL.stay st1 _ _ r2)) ?_ fun _ _ x => x
    rintro _ s2 ⟨S2, st2⟩
    exact ⟨S2, st1.trans st2⟩

theorem Asg_tup (ns : List (Str × Pos)) {x1 pos} {ds : List D} (h : ∀ q ∈ ns, StoreOk c q.1) (hl : ns.length = ds.length) : Asg c k (.Tuple (ns.map nm) x1 pos) (.tup ds) ρ (updAll ρ ns ds) := fun A s ls v hA S r => by
  obtain ⟨a, vs, rfl, hx, ht, hr⟩ := r
  have hz := hr.length
  rw [Array.length_toList] at hz
  obtain ⟨h1, h2⟩ := assignEach_names (c := c) ns
  refine wpAny_assign_Tuple hA.h ht (by rw [h1, hl, hz]) h2 fun h' he => ?_
  have kp : Keep s.heap h' := Keep.ext he
  refine wpAny_mono (assign_names ns ds vs.toList ρ A { s with heap := h' } h hl hA (S.ext kp rfl rfl) (RdL.stay kp.stay _ _ hr)) ?_ fun _ _ x => x
  rintro _ s2 ⟨S2, st2⟩
  exact ⟨S2, kp.stay.trans st2⟩
theorem Asg_tup2 {x y px py x1 pos} {d e : D} (hx : StoreOk c x) (hy : StoreOk c y) : Asg c k (.Tuple [.Name x px, .Name y py] x1 pos) (.tup [d, e]) ρ (upd (upd ρ x d) y e) :=
  Asg_tup [(x, px), (y, py)] (by simp; exact ⟨hx, hy⟩) rfl
theorem Asg_tup3 {x y z px py pz x1 pos} {d e f : D} (hx : StoreOk c x) (hy : StoreOk c y) (hz : StoreOk c z) : Asg c k (.Tuple [.Name x px, .Name y py, .Name z pz] x1 pos) (.tup [d, e, f]) ρ (upd (upd (upd ρ x d) y e) z f) :=
  Asg_tup [(x, px), (y, py), (z, pz)] (by simp; exact ⟨hx, hy, hz⟩) rfl

/- an assignment to a tuple of names -/
theorem Ex_assignT {elts : List Expr} {x1 pos' value pos} (he : Ev c k (eval value c.env) ρ ls (fun d ls' => ∃ ρ', Asg c k (.Tuple elts x1 pos') d ρ ρ' ∧ PF .next ρ' ls'))
    (hs : swapsWithSole [.Tuple elts x1 pos'] value pos.line c.env = pure false := by rfl)
    (hw : swappedStores [.Tuple elts x1 pos'] value c.env = pure none := by rfl) : Ex c k (exec (.Assign [.Tuple elts x1 pos'] value pos) c.env) ρ ls PF := fun A s hA S => by
  refine Assign_Tuple (wpAny_mono (he A s hA S) ?_ fun _ _ x => x) hs hw
  rintro v s1 ⟨d, ls1, k1, S1, st1, r1, ρ', ha, h1⟩
  rw [← Cx.X_keys (c := c) k1] at r1
  refine wpAny_mono (ha A s1 ls1 v hA S1 r1) ?_ fun _ _ x => x
  rintro _ s2 ⟨S2, st2⟩
  exact ⟨.next, _, ls1, S2, trivial, h1⟩
end
end Mine
end

noncomputable section
set_option genSizeOf false
set_option genInjectivity false
set_option Elab.async false
set_option linter.unusedVariables false
namespace Mine
open PySem PySem.Calls PyProof.Rows PySem.W

section
variable {c : Cx} {k : Nat} {ρ : Rho} {ls : Ls} {P : D → Ls → Prop} {PB : Bool → Ls → Prop} {PF : Fl → Rho → Ls → Prop}

theorem none_size (h : Heap) : h.get? h.objs.size = none := Heap.get?_none_of_le (Nat.le_refl _)

/- a fresh list becomes the frame's own -/
theorem St.addList {s : Shared} {vs : List Value} {ds : List D} (S : St c ρ ls s) (r : RdL (c.X ls) s.heap vs ds) :
    St c ρ ((s.heap.objs.size, ds) :: ls) { s with heap := s.heap.push { cls := .type "list", data := .seq vs.toArray } } ∧ Stay (c.X ls) (c.X ((s.heap.objs.size, ds) :: ls)) s.heap (s.heap.push { cls := .type "list", data := .seq vs.toArray }) ∧ s.heap.objs.size ∉ keys ls ∧ s.heap.objs.size ∉ c.X0 := by
  have hk := Keep.push s.heap { cls := .type "list", data := .seq vs.toArray }
  have F := S.fm.ext (s' := { s with heap := s.heap.push { cls := .type "list", data := .seq vs.toArray } }) hk rfl rfl
  have hfresh := none_size s.heap
  have hown : s.heap.objs.size ∉ c.own ls := fun h => by
    obtain ⟨_, _, o, e⟩ := S.fm.mine _ h; rw [hfresh] at e; cases e
  have own' : ∀ a, a ∈ c.own ((s.heap.objs.size, ds) :: ls) ↔ a = s.heap.objs.size ∨ a ∈ c.own ls := fun a => by
    unfold Cx.own keys
    simp only [List.mem_cons, List.mem_append, List.map_cons]
    constructor
    · rintro (h | h | h | h)
      · exact .inr (.inl h)
      · exact .inr (.inr (.inl h))
      · exact .inl h
      · exact .inr (.inr (.inr h))
    · rintro (h | h | h | h)
      · exact .inr (.inr (.inl h))
      · exact .inl h
      · exact .inr (.inl h)
      · exact .inr (.inr (.inr h))
  have st : Stay (c.X ls) (c.X ((s.heap.objs.size, ds) :: ls)) s.heap (s.heap.push { cls := .type "list", data := .seq vs.toArray }) := fun a o hx e _ => by
    refine ⟨fun hin => ?_, hk a o e⟩
    rcases List.mem_append.mp hin with h | h
    · rcases (own' a).mp h with h | h
      · rw [h, hfresh] at e; cases e
      · exact hx (List.mem_append_left _ h)
    · exact hx (List.mem_append_right _ h)
  refine ⟨{
    fm := ⟨F.top, F.nx, fun a ha => by
      rcases (own' a).mp ha with h | h
      · subst h
        refine ⟨.inr (S.s0_live hfresh), ?_, _, Heap.get?_push_size _ rfl⟩
        cases e : c.G.get? s.heap.objs.size with
        | none => rfl
        | some o => have := S.fm.top _ o e; rw [hfresh] at this; cases this
      · exact F.mine a h, ?_, F.old, F.sub, fun q hq => ⟨(F.tabs q hq).1, (F.tabs q hq).2.1, fun h => by
        rcases (own' _).mp h with h | h
        · obtain ⟨ps, e, _⟩ := S.fm.grown q hq
          rw [h, hfresh] at e; cases e
        · exact (F.tabs q hq).2.2 h⟩, fun q hq => (S.fm.grown q hq).stay (fun o e => hk _ _ e) st⟩
    fn := S.fn
    inj := S.inj
    cells := fun ca hc => let ⟨v, e⟩ := S.cells ca hc; ⟨v, e.keeps hk⟩
    names := by
      obtain ⟨m, hm, hn⟩ := S.names
      refine ⟨m, hm.keeps hk, fun x d hx => ?_⟩
      obtain ⟨v, r, i⟩ := hn x d hx
      exact ⟨v, Rd.stay st _ _ r, i.keep fun ca _ e => e.keeps hk⟩
    lists := fun p hp => by
      rcases List.mem_cons.mp hp with rfl | hp
      · exact ⟨vs.toArray, 0, Heap.get?_push_size _ rfl, by simpa using RdL.stay st _ _ r⟩
      · obtain ⟨us, n, h1, h3⟩ := S.lists p hp
        exact ⟨us, n, hk _ _ h1, RdL.stay st _ _ h3⟩ }, st, fun h => hown (Cx.key_own h), fun h => by obtain ⟨o, e⟩ := S.fm.old _ h; rw [hfresh] at e; cases e⟩
  have hap := S.fm.apart
  unfold Cx.own keys at hap hown ⊢
  simp only [List.map_cons, List.nodup_cons, List.mem_append, List.mem_cons, not_or, List.nodup_append, ne_eq] at hap hown ⊢
  refine ⟨⟨hap.1.1, fun h => hown.1 h.symm, hap.1.2⟩, hap.2.1, ⟨hown.2.2, hap.2.2.1⟩, fun a ha b hb => ?_⟩
  rcases hb with rfl | hb
  · exact fun e => hown.2.1 (e ▸ ha)
  · exact hap.2.2.2 a ha b hb

/- a list of the frame's own is let be -/
theorem St.freeze {s : Shared} {a : Addr} {xs : List D} (S : St c ρ ((a, xs) :: ls) s) (hX0 : a ∉ c.X0) : St c ρ ls s ∧ Rd (c.X ls) s.heap (.ref a) (.fl xs) := by
  have own' : ∀ b, b ∈ c.own ls → b ∈ c.own ((a, xs) :: ls) := fun b => by
    unfold Cx.own keys
    simp only [List.mem_cons, List.mem_append, List.map_cons]
    rintro (h | h | h)
    · exact .inl h
    · exact .inr (.inl h)
    · exact .inr (.inr (.inr h))
  have X' : ∀ b, b ∈ c.X ls → b ∈ c.X ((a, xs) :: ls) := fun b hb => by
    rcases List.mem_append.mp hb with h | h
    · exact List.mem_append_left _ (own' b h)
    · exact List.mem_append_right _ h
  have st : Stay (c.X ((a, xs) :: ls)) (c.X ls) s.heap s.heap := Stay.sub X'
  have F := S.fm
  have hap := F.apart
  have hap' : (c.own ls).Nodup ∧ a ∉ c.own ls := by
    unfold Cx.own keys at hap ⊢
    simp only [List.map_cons, List.nodup_cons, List.mem_append, List.mem_cons, not_or, List.nodup_append, ne_eq] at hap ⊢
    exact ⟨⟨⟨hap.1.1, hap.1.2.2⟩, hap.2.1, hap.2.2.1.2, fun x hx b hb => hap.2.2.2 x hx b (.inr hb)⟩, fun e => hap.1.2.1 e.symm, fun h => hap.2.2.2 a h a (.inl rfl) rfl, hap.2.2.1.1⟩
  obtain ⟨us, n, h1, h3⟩ := S.lists (a, xs) (.head _)
  refine ⟨{
    fm := ⟨F.top, F.nx, fun b hb => F.mine b (own' b hb), hap'.1, F.old, F.sub, fun q hq => ⟨(F.tabs q hq).1, (F.tabs q hq).2.1, fun h => (F.tabs q hq).2.2 (own' _ h)⟩, fun q hq => (F.grown q hq).stay (fun o e => e) st⟩
    fn := S.fn
    inj := S.inj
    cells := S.cells
    names := by
      obtain ⟨m, hm, hn⟩ := S.names
      refine ⟨m, hm, fun x d hx => ?_⟩
      obtain ⟨v, r, i⟩ := hn x d hx
      exact ⟨v, Rd.stay st _ _ r, i⟩
    lists := fun p hp => by
      obtain ⟨us, n, h1, h3⟩ := S.lists p (.tail _ hp)
      exact ⟨us, n, h1, RdL.stay st _ _ h3⟩ }, a, us, n, rfl, fun hin => ?_, h1, RdL.stay st _ _ h3⟩
  rcases List.mem_append.mp hin with h | h
  · exact hap'.2 h
  · exact hX0 h

/- `x = []` -/
theorem Ex_newlist {x pos' p pos} (hk : StoreOk c x) (h : ∀ a, a ∉ keys ls → a ∉ c.X0 → PF .next (upd ρ x (.raw (.ref a))) ((a, []) :: ls))
    (hs : swapsWith (.List [] p) (some (.Name x pos')) pos.line c.env = pure false := by rfl) : Ex c k (exec (.Assign [.Name x pos'] (.List [] p) pos) c.env) ρ ls PF := fun A s hA S => by
  refine wpAny_Assign_Name (List_ (spliced_none (newList_ ?_ (by simp)))) hs
  obtain ⟨S1, st, h1, h2⟩ := S.addList (vs := []) (ds := []) rfl
  exact S1.store (d := .raw (.ref s.heap.objs.size)) hk rfl fun s' S' _ => ⟨.next, _, _, S', trivial, h _ h1 h2⟩

/- `return x`, x an own list -/
theorem Ex_retL {x p pos} {a : Addr} {xs : List D} (hx : ρ.lookup x = some (.raw (.ref a))) (hX : a ∉ c.X0) (h : PF (.ret (.fl xs)) ρ ls) (hd : (x == ("__debug__" : Str)) = false := by decide) :
    Ex c k (exec (.Return (some (.Name x p)) pos) c.env) ρ ((a, xs) :: ls) PF := fun A s hA S => by
  refine wpAny_Return_some (wpAny_Name (S.name hx fun v r => ?_) hd)
  cases r
  obtain ⟨S', r'⟩ := S.freeze hX
  exact ⟨.ret (.fl xs), ρ, ls, S', r', h⟩

/- let an own list be, and go on with it as a datum -/
theorem Ex_freeze {t : Sem Flow} {x : Str} {a : Addr} {xs : List D} (hx : ρ.lookup x = some (.raw (.ref a))) (hX : a ∉ c.X0) (h : Ex c k t (upd ρ x (.fl xs)) ls PF) : Ex c k t ρ ((a, xs) :: ls) PF := fun A s hA S => by
  obtain ⟨S', r'⟩ := S.freeze hX
  refine h A s hA { S' with names := ?_ }
  obtain ⟨m, hm, hn⟩ := S'.names
  refine ⟨m, hm, fun y d hy => ?_⟩
  rw [lookup_upd] at hy
  by_cases e : (y == x) = true
  · rw [if_pos e] at hy; cases hy
    have : y = x := by simpa using e
    subst this
    obtain ⟨v, r, i⟩ := hn y _ hx
    cases r
    exact ⟨_, r', i⟩
  · rw [if_neg e] at hy; exact hn y d hy

/- ranges -/
theorem letGo_int {M : Model} {A : Around} {s : Shared} {target : Expr} {I : Value} {i : Int} {t : Tok} {Q : Unit → Shared → Prop} {E : Value → Shared → Prop} (h : Q () s) : wpAny M A (letOwnedTupleGo target I (.int i t)) Q E s := by
  unfold letOwnedTupleGo
  split
  · split
    · rename_i hp; cases hp
    · exact wpAny_pure h
  · split
    · rename_i hp; cases hp
    · exact wpAny_pure h
  · exact wpAny_pure h

def rng (a step : Int) (n : Nat) : List D := (List.range n).map fun (i : Nat) => .int (a + (i : Int) * step)
theorem rng_get {a step : Int} {n i : Nat} {x : D} (h : (rng a step n)[i]? = some x) : i < n ∧ x = .int (a + i * step) := by
  unfold rng at h
  rw [List.getElem?_map] at h
  cases e : (List.range n)[i]? with
  | none => rw [e] at h; cases h
  | some j =>
    rw [e] at h
    obtain ⟨h1, h2⟩ := List.getElem?_eq_some_iff.mp e
    simp at h1 h2
    subst h2
    simp at h
    exact ⟨h1, h.symm⟩
theorem rng_none {a step : Int} {n i : Nat} (h : (rng a step n)[i]? = none) : n ≤ i := by
  have := List.getElem?_eq_none_iff.mp h
  simpa [rng] using this

theorem Wk.range {I : Addr} {a step : Int} {n : Nat} {OK : Ls → Prop} {target : Expr} {c : Cx} (hI : I ∈ c.X0) :
    Wk c [I] I .none .none OK (rng a step n) target (fun i h => IsRangeIter h I (a + (i : Nat) * step) ((n : Int) - (i : Nat)) step) (fun _ => True) where
  self := fun A i s hW => wpAny_pyIter_rangeiter hW ⟨rfl, rfl⟩
  frame := fun i h h' e hk => hk I (.head _) _ e
  fs := fun i h e b hb => by rw [List.mem_singleton.mp hb]; exact ⟨_, e, by simp, .inl ⟨_, rfl⟩⟩
  next := fun A i ρ ls s x hA S hok r hW hx => by
    obtain ⟨hi, rfl⟩ := rng_get hx
    refine wpAny_pyNext_range_item hW (by walk_at "n") fun h' hit' hs' => ⟨_, rfl, letGo_int ⟨⟨fun b o hb e => (hs'.2 b fun q => hb (q ▸ .head _)).trans e, fun b hb => ?_, rfl, rfl⟩, ⟨_, rfl⟩, ?_⟩⟩
    · rw [List.mem_singleton.mp hb]; exact ⟨_, hit', by simp, .inl ⟨_, rfl⟩⟩
    · have e1 : a + ((i + 1 : Nat) : Int) * step = a + (i : Int) * step + step := by push_cast; rw [Int.add_mul, Int.one_mul, Int.add_assoc]
      have e2 : (n : Int) - ((i + 1 : Nat) : Int) = (n : Int) - (i : Int) - 1 := by push_cast; walk_at "n"
      rw [e1, e2]; exact hit'
  stop := fun A i ρ ls s hA S hok r hW hx => by
    have := rng_none hx
    exact wpAny_pyNext_range_end hA.h hW (by walk_at "n") fun h' he => ⟨rfl, fun b o hb e => he b o (fun q => hb (q ▸ .head _)) e, rfl, rfl, trivial⟩

theorem rangeSize_nat (a b : Int) : Builtin.Range.rangeSize a b 1 = ((b - a).toNat : Int) := by
  rw [rangeSize_one]; split <;> walk_at "n"

theorem EvI_of_iter {A : Around} {sb s s2 : Shared} {I : Addr} {a step : Int} {n : Nat} {target : Expr} {Pl : Ls → Prop} {r : Value} (hr : r = .ref I) {ls1 : Ls} (k1 : keys ls1 = keys ls) (S : St c ρ ls1 s) (stb : Stay (c.X ls) (c.X ls) sb.heap s.heap) (hkeep : Keep s.heap s2.heap) (hg : s2.gens = s.gens) (ho : s2.os = s.os)
    (hI : s.heap.get? I = none) (hit : IsRangeIter s2.heap I a n step) (hp : Pl ls1) : ∃ ls1 J I' dv dd W Fin, r = .ref I' ∧ keys ls1 = keys ls ∧ Jok c J ∧
    LS (c.re c.s0 (J ++ c.X0) c.Z0) J dv dd W 0 ρ ls1 s2 ∧ Stay (c.X ls) ((c.re c.s0 (J ++ c.X0) c.Z0).X ls1) sb.heap s2.heap ∧ (∀ c' : Cx, (∀ j ∈ J, j ∈ c'.X0) → Wk c' J I' dv dd (fun _ => True) (rng a step n) target W Fin) ∧ Pl ls1 := by
  obtain ⟨hJ, L, st⟩ := EvI.fresh (A := A) (J := [I]) (dv := .none) (dd := .none) (W := fun i h => IsRangeIter h I (a + (i : Nat) * step) ((n : Int) - (i : Nat)) step) (s2 := s2) S rfl hkeep hg ho
    (fun j hj => by rw [List.mem_singleton.mp hj]; exact ⟨hI, _, hit⟩) (by simpa using hit)
  rw [Cx.X_keys k1] at st
  exact ⟨ls1, [I], I, .none, .none, _, _, hr, k1, hJ, L, stb.trans st, fun c' hX => Wk.range (hX _ (.head _)), hp⟩

theorem EvI_range1 {x p e pos target} {Pl : Ls → Prop} (n : Int)
    (hn : Ev c k (eval (.Name x p) c.env) ρ ls (fun d ls0 => d = .raw (.type "range") ∧ Ev c k (eval e c.env) ρ ls0 (fun d ls1 => d = .int n ∧ -(2^62) ≤ n ∧ n < 2^62 ∧ Pl ls1)))
    (he : starEach [e] c.env = [(false, eval e c.env)] := by rfl) :
    EvI c k (.Call (.Name x p) [e] [] pos) target (rng 0 1 n.toNat) (fun _ => True) ρ ls Pl := fun A s hA S => by
  refine wpAny_Call_Name_kw (wpAny_mono (hn A s hA S) ?_ fun _ _ x => x)
  rintro v s1 ⟨d, ls1, k1, S1, st1, r1, rfl, h1⟩
  cases r1
  refine callWith_type1 ?_ (by rw [he]; rfl) rfl
  rw [he]
  refine spliced_cons (wpAny_mono (h1 A s1 hA S1) ?_ fun _ _ x => x)
  rintro v s2 ⟨d, ls2, k2, S2, st2, r2, rfl, hlo, hhi, hp⟩
  obtain ⟨t, rfl⟩ := r2
  refine spliced_nil (call_range_1 ?_)
  refine wpAny_pyIter_range (IsRange.new ..) (small_one (by walk_at "n") (by walk_at "n") hlo hhi) ?_
  refine EvI_of_iter (A := A) (sb := s) (s := s2) (s2 := _) rfl (k2.trans k1) S2 (st1.trans (by rw [Cx.X_keys k1] at st2; exact st2)) (fun a o e => Heap.get?_push_of_some _ (Heap.get?_push_of_some _ e)) rfl rfl ?_ ?_ hp
  · exact Heap.get?_none_of_le (by rw [Heap.size_push]; walk_at "n")
  · have := rangeSize_nat 0 n
    rw [Int.sub_zero] at this
    rw [this]
    exact Heap.get?_push_size _ rfl

theorem EvI_range2 {x p e1 e2 pos target} {Pl : Ls → Prop} (a b : Int)
    (hn : Ev c k (eval (.Name x p) c.env) ρ ls (fun d ls0 => d = .raw (.type "range") ∧ Ev c k (eval e1 c.env) ρ ls0 (fun d ls1 => d = .int a ∧ Ev c k (eval e2 c.env) ρ ls1 (fun d ls2 => d = .int b ∧ -(2^62) ≤ a ∧ a < 2^62 ∧ -(2^62) ≤ b ∧ b < 2^62 ∧ Pl ls2))))
    (he0 : starEach [e2] c.env = [(false, eval e2 c.env)] := by rfl) (he : starEach [e1, e2] c.env = [(false, eval e1 c.env), (false, eval e2 c.env)] := by rfl) :
    EvI c k (.Call (.Name x p) [e1, e2] [] pos) target (rng a 1 (b - a).toNat) (fun _ => True) ρ ls Pl := fun A s hA S => by
  refine wpAny_Call_Name_kw (wpAny_mono (hn A s hA S) ?_ fun _ _ x => x)
  rintro v s1 ⟨d, ls1, k1, S1, st1, r1, rfl, h1⟩
  cases r1
  refine callWith_type1 ?_ (by rw [he, he0]) (by rw [he0]; rfl)
  rw [he]
  refine spliced_cons (wpAny_mono (h1 A s1 hA S1) ?_ fun _ _ x => x)
  rintro v s2 ⟨d, ls2, k2, S2, st2, r2, rfl, h2⟩
  obtain ⟨t, rfl⟩ := r2
  refine spliced_cons (wpAny_mono (h2 A s2 hA S2) ?_ fun _ _ x => x)
  rintro v s3 ⟨d, ls3, k3, S3, st3, r3, rfl, hlo, hhi, hlo', hhi', hp⟩
  obtain ⟨u, rfl⟩ := r3
  refine spliced_nil (call_range_2 ?_)
  refine wpAny_pyIter_range (IsRange.new ..) (small_one hlo hhi hlo' hhi') ?_
  refine EvI_of_iter (A := A) (sb := s) (s := s3) (s2 := _) rfl (k3.trans (k2.trans k1)) S3 (st1.trans (by rw [Cx.X_keys k1] at st2; rw [Cx.X_keys (k2.trans k1)] at st3; exact st2.trans st3)) (fun a o e => Heap.get?_push_of_some _ (Heap.get?_push_of_some _ e)) rfl rfl ?_ ?_ hp
  · exact Heap.get?_none_of_le (by rw [Heap.size_push]; walk_at "n")
  · rw [rangeSize_nat]
    exact Heap.get?_push_size _ rfl

end
end Mine
end

noncomputable section
set_option genSizeOf false
set_option genInjectivity false
set_option Elab.async false
set_option linter.unusedVariables false
set_option maxRecDepth 100000
namespace Mine
open PySem PySem.Calls PyProof.Rows PySem.W

theorem sub_ri_reversed : isSubtype (.type "range_iterator") (.type "reversed") = pure false := by rw [isSubtype_type]; kernel_rfl

section
variable {prog : Program} {w : World} {A : Around} {E : Value → Shared → Prop} {s : Shared}

theorem rev_range {r : Addr} {n : Int} {t u v : Tok} {Q : Value → Shared → Prop} (hr : IsRange s.heap r 0 n 1 t u v) (h0 : 0 ≤ n) (hn : n < 2 ^ 40)
    (h : Q (.ref s.heap.objs.size) { s with heap := s.heap.push { cls := .type "range_iterator", data := .fields #[rawInt (n - 1), rawInt n, rawInt (-1)] } }) :
    wpAny (model prog w) A (call (.builtin "range.__reversed__") [.ref r]) Q E s := by
  have hT : s.TypeIs (.ref r) "range" := ⟨_, hr, rfl⟩
  refine wpAny_call_entry F.slot_range_reversed hT F.entry_range_reversed ?_ (F.args_range_reversed_1 _)
  unfold Builtin.«range.__reversed__»
  refine wpAny_bind (wpAny_of_eq (a := Value.ref r) rfl ?_)
  refine wpAny_bind (m := Builtin.Range.rangeFields (.ref r)) ?_
  unfold Builtin.Range.rangeFields
  refine wpAny_bind (wpAny_field hr rfl (x := .int 0 t) rfl ?_)
  refine wpAny_bind (wpAny_of_eq (a := some 0) rfl ?_)
  refine wpAny_bind (wpAny_field hr rfl (x := .int n u) rfl ?_)
  refine wpAny_bind (wpAny_of_eq (a := some n) rfl ?_)
  refine wpAny_bind (wpAny_field hr rfl (x := .int 1 v) rfl ?_)
  refine wpAny_bind (wpAny_of_eq (a := some 1) rfl (wpAny_pure ?_))
  have hsz : Builtin.Range.rangeSize 0 n 1 = n := by
    rw [rangeSize_nat]; walk_at "n"
  have hfit : ∀ i : Int, -(2 ^ 62) ≤ i → i < 2 ^ 62 → Builtin.Range.rangeFitsLong i = true := fun i h1 h2 => by
    unfold Builtin.Range.rangeFitsLong
    simp only [Bool.and_eq_true, decide_eq_true_eq]
    constructor <;> walk_at "n"
  have hs : (Builtin.Range.rangeFitsLong 0 && Builtin.Range.rangeFitsLong n && Builtin.Range.rangeFitsLong 1 && Builtin.Range.rangeFitsLong (-1) && Builtin.Range.rangeFitsLong (0 - 1) && Builtin.Range.rangeFitsLong (Builtin.Range.rangeSize 0 n 1)) = true := by
    rw [hsz, hfit 0 (by walk_at "n") (by walk_at "n"), hfit n (by walk_at "n") (by walk_at "n"), hfit 1 (by walk_at "n") (by walk_at "n"), hfit (-1) (by walk_at "n") (by walk_at "n"), hfit (0 - 1) (by walk_at "n") (by walk_at "n")]; rfl
  dsimp only
  rw [hs, hsz]
  have e1 : (0 : Int) + (n - 1) * 1 = n - 1 := by walk_at "n"
  rw [e1]
  simp only [Bool.not_true, Bool.false_eq_true, if_false, if_true]
  exact wpAny_bind (wpAny_newObj_type (wpAny_pure ⟨_, rfl, h⟩))

theorem code_rev_range {r : Addr} {n : Int} {t u v : Tok} {Q₁ : Value → Shared → Prop} (hr : IsRange s.heap r 0 n 1 t u v) (h0 : 0 ≤ n) (hn : n < 2 ^ 40)
    (h : Q₁ (.ref s.heap.objs.size) { s with heap := s.heap.push { cls := .type "range_iterator", data := .fields #[rawInt (n - 1), rawInt n, rawInt (-1)] } }) :
    codeAny (model prog w) A (.call (.builtin "reversed.__new__") ⟨[.type "reversed", .ref r], []⟩) (wants Q₁ E) s := by
  have hT : s.TypeIs (.ref r) "range" := ⟨_, hr, rfl⟩
  refine codeAny_of_tree ?_
  show wpAny _ A.in1 (do checkBuiltinCall "reversed.__new__" ⟨[.type "reversed", .ref r], []⟩; again (.builtin "reversed.__new__" ⟨[.type "reversed", .ref r], []⟩)) _ _ s
  refine wpAny_bind (wpAny_of_eq (F.newCall_reversed_1 _) (wpAny_pure ⟨plainId_quiet F.plain_reversed_new _, codeAny_builtin F.entry_reversed_new ?_⟩))
  rw [Around.under_plainId F.plain_reversed_new _]
  unfold Builtin.«reversed.__new__»
  refine wpAny_bind (wpAny_of_eq (newClass_reversed _) ?_)
  refine wpAny_bind (wpAny_of_eq (a := ()) (by first | rfl | kernel_rfl) ?_)
  refine wpAny_bind (wpAny_of_eq (a := ()) (by first | rfl | kernel_rfl) ?_)
  refine wpAny_bind (wpAny_specialOf hT F.slot_range_reversed.lookup ?_)
  refine wpAny_bind (wpAny_of_eq (F.slot_range_reversed.bind _) ?_)
  show wpAny _ _ (if (Value.builtin "range.__reversed__" == Value.none) = true then _ else _) _ _ _
  rw [if_neg (show ¬ ((Value.builtin "range.__reversed__" == Value.none) = true) from Bool.false_ne_true)]
  refine wpAny_bind (wpAny_rule ?_)
  refine wpAny_bind (m := runValue (.call (.builtin "range.__reversed__") ⟨[.ref r], []⟩)) (show wpAny _ _ (call (.builtin "range.__reversed__") [.ref r]) _ _ _ from rev_range hr h0 hn ?_)
  first
  | exact wpAny_pure h
  | exact wpAny_bind (wpAny_pure (wpAny_pure h))

theorem call_rev_range {r : Addr} {n : Int} {t u v : Tok} {Q : Value → Shared → Prop} (hr : IsRange s.heap r 0 n 1 t u v) (h0 : 0 ≤ n) (hn : n < 2 ^ 40)
    (h : Q (.ref s.heap.objs.size) { s with heap := s.heap.push { cls := .type "range_iterator", data := .fields #[rawInt (n - 1), rawInt n, rawInt (-1)] } }) :
    wpAny (model prog w) A (call (.type "reversed") [.ref r]) Q E s := by
  refine callType_other (U := "range_iterator") (Q₁ := fun obj s₁ => obj = .ref s.heap.objs.size ∧ s₁ = { s with heap := s.heap.push { cls := .type "range_iterator", data := .fields #[rawInt (n - 1), rawInt n, rawInt (-1)] } }) (by decide +kernel) F.create_reversed ⟨_, _, F.mro_reversed⟩ F.made_reversed sub_ri_reversed (F.typeCall_reversed_1 _) (code_rev_range hr h0 hn ⟨rfl, rfl⟩) ?_
  rintro obj s₁ ⟨rfl, rfl⟩
  exact ⟨⟨_, Heap.get?_push_size _ rfl, rfl⟩, h⟩
end

section
variable {c : Cx} {k : Nat} {ρ : Rho} {ls : Ls} {P : D → Ls → Prop} {PB : Bool → Ls → Prop} {PF : Fl → Rho → Ls → Prop}

/- `for i in reversed(range(e))` -/
theorem EvI_rev {y q x p e pos pos' target} {Pl : Ls → Prop} (n : Nat) (hb : n < 2 ^ 40)
    (hn : Ev c k (eval (.Name y q) c.env) ρ ls (fun d ls0 => d = .raw (.type "reversed") ∧ Ev c k (eval (.Name x p) c.env) ρ ls0 (fun d ls0 => d = .raw (.type "range") ∧ Ev c k (eval e c.env) ρ ls0 (fun d ls1 => d = .int n ∧ Pl ls1))))
    (he : starEach [e] c.env = [(false, eval e c.env)] := by rfl)
    (he' : starEach [.Call (.Name x p) [e] [] pos] c.env = [(false, eval (.Call (.Name x p) [e] [] pos) c.env)] := by rfl) :
    EvI c k (.Call (.Name y q) [.Call (.Name x p) [e] [] pos] [] pos') target (rng ((n : Int) - 1) (-1) n) (fun _ => True) ρ ls Pl := fun A s hA S => by
  refine wpAny_Call_Name_kw (wpAny_mono (hn A s hA S) ?_ fun _ _ x => x)
  rintro v s0 ⟨d, ls0, k0, S0, st0, r0, rfl, h0⟩
  cases r0
  refine callWith_type1 ?_ (by rw [he']; rfl) rfl
  rw [he']
  refine spliced_cons ?_
  refine wpAny_Call_Name_kw (wpAny_mono (h0 A s0 hA S0) ?_ fun _ _ x => x)
  rintro v s1 ⟨d, ls1, k1, S1, st1, r1, rfl, h1⟩
  cases r1
  refine callWith_type1 ?_ (by rw [he]; rfl) rfl
  rw [he]
  refine spliced_cons (wpAny_mono (h1 A s1 hA S1) ?_ fun _ _ x => x)
  rintro v s2 ⟨d, ls2, k2, S2, st2, r2, rfl, hp⟩
  obtain ⟨t, rfl⟩ := r2
  refine spliced_nil (call_range_1 ?_)
  refine spliced_nil (call_rev_range (IsRange.new ..) (by walk_at "n") (by walk_at "n") ?_)
  refine wpAny_pyIter_rangeiter (Heap.get?_push_size _ rfl) ?_
  refine EvI_of_iter (A := A) (sb := s) (s := s2) (s2 := _) rfl (k2.trans (k1.trans k0)) S2 (st0.trans (by rw [Cx.X_keys k0] at st1; rw [Cx.X_keys (k1.trans k0)] at st2; exact st1.trans st2)) (fun a o e => Heap.get?_push_of_some _ (Heap.get?_push_of_some _ e)) rfl rfl ?_ ?_ hp
  · exact Heap.get?_none_of_le (by rw [Heap.size_push]; walk_at "n")
  · exact Heap.get?_push_size _ rfl
end
end Mine
end

noncomputable section
set_option genSizeOf false
set_option genInjectivity false
set_option Elab.async false
set_option linter.unusedVariables false
namespace Mine
open PySem PySem.Calls PyProof.Rows PySem.W

def tests (ifs : List Expr) (env : Env) : Sem Bool := forIn ifs true fun c r => if r = true then do let ok ← isTrue c env (eval c env); pure (ForInStep.yield ok) else pure (ForInStep.yield r)

theorem compTurn_my (elt target iter : Expr) (ifs : List Expr) (scope : Scope) (pos : Pos) (it acc : Value) (env : Env) :
    compTurn (.ListComp elt [⟨target, iter, ifs, 0⟩] scope pos) 0 it acc env = (standAt iter.pos >>= fun _ => pyNext it >>= fun r => match r with
      | none => pure (.done .next)
      | some v => letOwnedTupleGo target it v >>= fun _ => assign target env v >>= fun _ => tests ifs env >>= fun ok =>
        if ok = true then (eval elt env >>= fun x => call (.builtin "list.append") [acc, x] >>= fun _ => pure ()) >>= fun _ =>
          again (.compLoop (.ListComp elt [⟨target, iter, ifs, 0⟩] scope pos) 0 it acc env)
        else again (.compLoop (.ListComp elt [⟨target, iter, ifs, 0⟩] scope pos) 0 it acc env)) := by rfl

section
variable {prog : Program} {w : World} {A : Around} {R : Result → Shared → Prop} {s : Shared}

theorem compLoop_my {elt target iter : Expr} {ifs : List Expr} {scope : Scope} {pos : Pos} {it acc : Value} {env : Env} (I : Nat → Shared → Prop)
    (turn : ∀ n s, I n s → wpAny (model prog w) A (pyNext it) (fun r s₁ => match r with
      | none => R (.ok .next) s₁
      | some v => wpAny (model prog w) A (letOwnedTupleGo target it v) (fun _ s₁' => wpAny (model prog w) A (assign target env v) (fun _ s₂ => wpAny (model prog w) A (tests ifs env) (fun ok s₂' =>
          (ok = true → wpAny (model prog w) A (eval elt env) (fun x s₃ => wpAny (model prog w) A (call (.builtin "list.append") [acc, x]) (fun _ s₄ => ∃ m, m < n ∧ I m s₄) No s₃) No s₂') ∧
          (ok = false → ∃ m, m < n ∧ I m s₂')) No s₂) No s₁') No s₁) No s)
    (n : Nat) (h : I n s) :
    codeAny (model prog w) A (.compLoop (.ListComp elt [⟨target, iter, ifs, 0⟩] scope pos) 0 it acc env) R s := by
  refine codeAny_loop rfl I (fun n s hI => ?_) n h
  show wpAny _ _ ((compTurn (.ListComp elt [⟨target, iter, ifs, 0⟩] scope pos) 0 it acc env).onRaise (fun x => do noteFrame x env; theTreesLotGoes x)) _ _ s
  refine wpAny_noted ?_
  rw [compTurn_my]
  refine wpAny_bind (wpAny_standAt (wpAny_bind (wpAny_mono (turn n s hI) (fun r s₁ h₁ => ?_) No_noted)))
  cases r with
  | none => exact wpAny_pure h₁
  | some v =>
    refine wpAny_bind (wpAny_mono h₁ (fun _ s₁' h₁' => ?_) No_noted)
    refine wpAny_bind (wpAny_mono h₁' (fun _ s₂ h₂ => ?_) No_noted)
    refine wpAny_bind (wpAny_mono h₂ (fun ok s₂' h₃ => ?_) No_noted)
    cases ok with
    | true =>
      exact wpAny_bind (wpAny_bind (wpAny_mono (h₃.1 rfl) (fun x s₃ h₃ => wpAny_bind (wpAny_mono h₃ (fun _ s₄ h₄ => wpAny_pure (wpAny_pure ⟨rfl, h₄⟩)) No_noted)) No_noted))
    | false => exact wpAny_pure ⟨rfl, h₃.2 rfl⟩
end

section
variable {c : Cx} {k : Nat} {ρ : Rho} {ls : Ls} {P : D → Ls → Prop} {PB : Bool → Ls → Prop} {PF : Fl → Rho → Ls → Prop}

/- the comprehension's own context -/
def Cx.comp (c : Cx) (scope : Scope) (cl : List (Str × Addr)) (L : Addr) (s0 : Shared) (X0 Z0 : List Addr) : Cx :=
  { c with env := compEnvC scope cl L c.env, C := [], s0 := s0, X0 := X0, Z0 := Z0 }

def CompT (c : Cx) (k : Nat) (ifs : List Expr) (elt : Expr) (ρ : Rho) (ls : Ls) (P : Option D → Ls → Prop) : Prop :=
  match ifs with
  | [] => Ev c k (eval elt c.env) ρ ls (fun d => P (some d))
  | [t] => EvB c k (isTrue t c.env (eval t c.env)) ρ ls (fun b ls1 => (b = true → Ev c k (eval elt c.env) ρ ls1 (fun d => P (some d))) ∧ (b = false → P none ls1))
  | _ => False

theorem CompT.run {ifs : List Expr} {elt : Expr} {PO : Option D → Ls → Prop} {A : Around} {s : Shared} {QT : Value → Shared → Prop} {QF : Shared → Prop} (h : CompT c k ifs elt ρ ls PO) (hA : Room k A) (S : St c ρ ls s)
    (hT : ∀ v s' d ls', keys ls' = keys ls → St c ρ ls' s' → Stay (c.X ls) (c.X ls) s.heap s'.heap → Rd (c.X ls) s'.heap v d → PO (some d) ls' → QT v s')
    (hF : ∀ s' ls', keys ls' = keys ls → St c ρ ls' s' → Stay (c.X ls) (c.X ls) s.heap s'.heap → PO none ls' → QF s') :
    wpAny c.M A (tests ifs c.env) (fun ok s2 => (ok = true → wpAny c.M A (eval elt c.env) QT No s2) ∧ (ok = false → QF s2)) No s := by
  match ifs, h with
  | [], h =>
    unfold tests
    rw [List.forIn_nil]
    refine wpAny_pure ⟨fun _ => ?_, fun e => by cases e⟩
    refine wpAny_mono (h A s hA S) ?_ fun _ _ x => x
    rintro v s1 ⟨d, ls1, k1, S1, st1, r1, h1⟩
    exact hT v s1 d ls1 k1 S1 st1 r1 h1
  | [t], h =>
    unfold tests
    rw [List.forIn_cons]
    simp only [if_true]
    refine wpAny_bind (wpAny_bind (wpAny_mono (h A s hA S) ?_ fun _ _ x => x))
    rintro b s1 ⟨ls1, k1, S1, st1, h1, h2⟩
    refine wpAny_pure ?_
    show wpAny _ _ (forIn [] b _) _ _ _
    rw [List.forIn_nil]
    refine wpAny_pure ⟨fun e => ?_, fun e => hF s1 ls1 k1 S1 st1 (h2 e)⟩
    refine wpAny_mono (h1 e A s1 hA S1) ?_ fun _ _ x => x
    rintro v s2 ⟨d, ls2, k2, S2, st2, r2, h2⟩
    rw [Cx.X_keys k1] at st2 r2
    exact hT v s2 d ls2 (k2.trans k1) S2 (st1.trans st2) r2 h2

end
end Mine
end

noncomputable section
set_option genSizeOf false
set_option genInjectivity false
set_option Elab.async false
set_option linter.unusedVariables false
namespace Mine
open PySem PySem.Calls PyProof.Rows PySem.W

section
variable {c : Cx} {k : Nat} {ρ : Rho} {ls : Ls} {P : D → Ls → Prop} {PB : Bool → Ls → Prop} {PF : Fl → Rho → Ls → Prop}

def hid (s : Shared) (l : List Addr) : Shared := { s with heap := hideAll s.heap l }

/- what a comprehension may see of the frame around it -/
structure Sees (c : Cx) (scope : Scope) (cl : List (Str × Addr)) (ρ ρi : Rho) : Prop where
  cls : ∀ x ca, cl.lookup x = some ca → c.env.cells.lookup x = some ca
  see : ∀ x d, ρi.lookup x = some d → ρ.lookup x = some d ∧ c.env.kindOf x = some .cell ∧ (relabel scope c.env).names.lookup x = some .cell ∧ ∃ ca, cl.lookup x = some ca
  kind : scope.kind = .function

structure CompIn (c : Cx) (scope : Scope) (cl : List (Str × Addr)) (J : List Addr) (ls : Ls) (s2 s4 : Shared) (D L : Addr) (ci : Cx) : Prop where
  eq : ci = c.comp scope cl L (hid s4 (L :: D :: J)) (c.own ls ++ c.X0) (c.tabs.map (·.2) ++ keys ls)
  keep : Keep s2.heap s4.heap
  gens : s4.gens = s2.gens
  os : s4.os = s2.os
  dn : s2.heap.get? D = none
  ln : s2.heap.get? L = none
  ne : D ≠ L
  isl : IsL s4.heap D #[] 0
  ns : s4.heap.Ns L (fun _ => none)

theorem CompIn.enter {scope : Scope} {cl : List (Str × Addr)} {J : List Addr} {s2 s4 : Shared} {D L : Addr} {ci : Cx} {ρi : Rho} {I : Addr} {dv : Value} {dd : Mine.D} {OK : Ls → Prop} {xs : List Mine.D} {target : Expr} {W : Nat → Heap → Prop} {Fin : Heap → Prop}
    (H : CompIn c scope cl J ls s2 s4 D L ci) (L0 : LS (c.re c.s0 (J ++ c.X0) c.Z0) J dv dd W 0 ρ ls s2) (hJ : Jok c J) (hk : Wk (c.re c.s0 (J ++ c.X0) c.Z0) J I dv dd OK xs target W Fin) (se : Sees c scope cl ρ ρi) :
    LS (ci.re ci.s0 (J ++ ci.X0) ci.Z0) J dv dd W 0 ρi ((D, []) :: ls) s4 ∧ Jok ci J := by
  obtain rfl := H.eq
  have S := L0.st
  have F := S.fm
  have liveJ : ∀ j ∈ J, ∃ o, s2.heap.get? j = some o := fun j hj => let ⟨o, e, _⟩ := hk.fs 0 _ L0.w j hj; ⟨o, e⟩
  have dX : D ∉ (c.re c.s0 (J ++ c.X0) c.Z0).X ls := fun h => by obtain ⟨o, e⟩ := S.live h; rw [H.dn] at e; cases e
  have lX : L ∉ (c.re c.s0 (J ++ c.X0) c.Z0).X ls := fun h => by obtain ⟨o, e⟩ := S.live h; rw [H.ln] at e; cases e
  have gn : ∀ a, s2.heap.get? a = none → c.G.get? a = none := fun a h => by
    cases e : c.G.get? a with
    | none => rfl
    | some o => have := F.top a o e; rw [h] at this; cases this
  have ownI : ∀ a, a ∈ (c.comp scope cl L (hid s4 (L :: D :: J)) (c.own ls ++ c.X0) (c.tabs.map (·.2) ++ keys ls)).own ((D, []) :: ls) ↔ a = L ∨ a = D ∨ a ∈ keys ls := fun a => by
    unfold Cx.own keys Cx.comp compEnvC
    simp
  have jX : ∀ j ∈ J, j ∉ c.own ls ++ c.X0 := fun j hj h => by
    rcases List.mem_append.mp h with h | h
    · exact L0.off j hj h
    · exact (hJ j hj).2.2 h
  have st : Stay ((c.re c.s0 (J ++ c.X0) c.Z0).X ls) (((c.comp scope cl L (hid s4 (L :: D :: J)) (c.own ls ++ c.X0) (c.tabs.map (·.2) ++ keys ls)).re (hid s4 (L :: D :: J)) (J ++ (c.own ls ++ c.X0)) (c.tabs.map (·.2) ++ keys ls)).X ((D, []) :: ls)) s2.heap s4.heap := fun a o hx e _ => by
    refine ⟨fun hin => ?_, H.keep a o e⟩
    rcases List.mem_append.mp hin with h | h
    · rcases (ownI a).mp h with h | h | h
      · rw [h, H.ln] at e; cases e
      · rw [h, H.dn] at e; cases e
      · exact hx (List.mem_append_left _ (Cx.key_own h))
    · rcases List.mem_append.mp h with h | h
      · exact hx (List.mem_append_right _ (List.mem_append_left _ h))
      · rcases List.mem_append.mp h with h | h
        · exact hx (List.mem_append_left _ h)
        · exact hx (List.mem_append_right _ (List.mem_append_right _ h))
  have lnt : L ∉ keys ls := fun h => lX (List.mem_append_left _ (Cx.key_own h))
  have dnt : D ∉ keys ls := fun h => dX (List.mem_append_left _ (Cx.key_own h))
  have apk : (keys ls).Nodup := by
    have := F.apart
    unfold Cx.own at this
    exact (List.nodup_append.mp (List.nodup_cons.mp this).2).2.1
  have tabn : ∀ q ∈ c.tabs, q.2 ∈ c.X0 ∨ q.2 ∈ J := fun q hq => by
    rcases List.mem_append.mp (F.sub _ (F.tabs q hq).1) with h | h
    · exact .inr h
    · exact .inl h
  refine ⟨⟨{
    fm := {
      top := fun a o e => H.keep a o (F.top a o e)
      nx := ⟨fun a o e _ => of_hideAll _ e, rfl, rfl⟩
      mine := fun a ha => by
        rcases (ownI a).mp ha with h | h | h
        · subst h
          obtain ⟨o, _, _, e, _⟩ := H.ns
          exact ⟨.inr (hideAll_none _ (.head _)), gn _ H.ln, o, e⟩
        · subst h
          exact ⟨.inr (hideAll_none _ (.tail _ (.head _))), gn _ H.dn, _, H.isl⟩
        · obtain ⟨_, h2, o, e⟩ := F.mine a (Cx.key_own h)
          exact ⟨.inl (List.mem_append_right _ h), h2, o, H.keep _ _ e⟩
      apart := by
        unfold Cx.own keys
        simp only [Cx.re, Cx.comp, compEnvC, List.nil_append, List.map_cons, List.nodup_cons, List.mem_cons, not_or]
        exact ⟨⟨fun e => H.ne e.symm, lnt⟩, dnt, apk⟩
      old := fun a ha => by
        have : ∃ o, s2.heap.get? a = some o := by
          rcases List.mem_append.mp ha with h | h
          · exact liveJ a h
          · rcases List.mem_append.mp h with h | h
            · exact (F.mine a h).2.2
            · exact F.old a (List.mem_append_right _ h)
        obtain ⟨o, e⟩ := this
        exact ⟨o, H.keep _ _ e⟩
      sub := fun a ha => by
        rcases List.mem_append.mp ha with h | h
        · obtain ⟨q, hq, rfl⟩ := List.mem_map.mp h
          rcases tabn q hq with h | h
          · exact List.mem_append_right _ (List.mem_append_right _ h)
          · exact List.mem_append_left _ h
        · exact List.mem_append_right _ (List.mem_append_left _ (Cx.key_own h))
      tabs := fun q hq => ⟨List.mem_append_left _ (List.mem_map_of_mem hq), (F.tabs q hq).2.1, fun h => by
        obtain ⟨ps, e, _⟩ := F.grown q hq
        rcases (ownI _).mp h with h | h | h
        · rw [h, H.ln] at e; cases e
        · rw [h, H.dn] at e; cases e
        · exact (F.tabs q hq).2.2 (Cx.key_own h)⟩
      grown := fun q hq => (F.grown q hq).stay (fun o e => H.keep _ _ e) st }
    fn := se.kind
    inj := fun x y ca hx hy => S.inj x y ca (se.cls x ca hx) (se.cls y ca hy)
    cells := fun ca hc => nomatch hc
    names := by
      refine ⟨_, H.ns, fun x d hx => ?_⟩
      obtain ⟨h1, h2, h3, ca, h4⟩ := se.see x d hx
      obtain ⟨m, hm, hn⟩ := S.names
      obtain ⟨v, r, i⟩ := hn x d h1
      refine ⟨v, Rd.stay st _ _ r, .inr ⟨ca, .inl h3, h4, ?_⟩⟩
      rcases i with ⟨h5, _⟩ | ⟨ca', _, h6, h7⟩
      · have : c.env.kindOf x = some .local := h5
        rw [h2] at this; cases this
      · have e := se.cls x ca h4
        have : c.env.cells.lookup x = some ca' := h6
        rw [e] at this; cases this
        exact h7.keeps H.keep
    lists := fun p hp => by
      rcases List.mem_cons.mp hp with rfl | hp
      · exact ⟨#[], 0, H.isl, rfl⟩
      · obtain ⟨us, n, h1, h3⟩ := S.lists p hp
        exact ⟨us, n, H.keep _ _ h1, RdL.stay st _ _ h3⟩ }, hk.frame 0 _ _ L0.w (fun a _ o e => H.keep _ _ e), Rd.stay st _ _ L0.rd, fun j hj ho => ?_⟩, fun j hj => ⟨hideAll_none _ (.tail _ (.tail _ hj)), (hJ j hj).2.1, jX j hj⟩⟩
  obtain ⟨o, e⟩ := liveJ j hj
  rcases (ownI j).mp ho with h | h | h
  · rw [h, H.ln] at e; cases e
  · rw [h, H.dn] at e; cases e
  · exact L0.off j hj (Cx.key_own h)

theorem CompIn.exit {scope : Scope} {cl : List (Str × Addr)} {J : List Addr} {s2 s4 s' : Shared} {D L : Addr} {ci : Cx} {ρ' : Rho} {ls' : Ls} {ys : List Mine.D}
    (H : CompIn c scope cl J ls s2 s4 D L ci) (S : St (c.re c.s0 (J ++ c.X0) c.Z0) ρ ls s2) (hsub : ∀ a ∈ c.Z0, a ∈ c.X0) (hJ : Jok c J) (hoff : ∀ j ∈ J, j ∉ c.own ls) (hf : ∀ j ∈ J, FS j s2.heap) (hkeys : keys ls' = keys ls)
    (S' : St ci ρ' ((D, ys) :: ls') s') : St c ρ ((D, ys) :: ls') s' ∧ D ∉ c.X0 ∧ D ∉ keys ls' ∧ L ∉ c.X ((D, ys) :: ls') ∧ c.s0.heap.get? L = none ∧ c.G.get? L = none ∧ (∃ m, s'.heap.Ns L m) ∧ Stay ((c.re c.s0 (J ++ c.X0) c.Z0).X ls) (c.X ((D, ys) :: ls')) s2.heap s'.heap := by
  obtain rfl := H.eq
  have F := S.fm
  have F' := S'.fm
  have c0 : ∀ a, s2.heap.get? a = none → c.s0.heap.get? a = none := fun a h => S.s0_live h
  have gn : ∀ a, s2.heap.get? a = none → c.G.get? a = none := fun a h => by
    cases e : c.G.get? a with
    | none => rfl
    | some o => have := F.top a o e; rw [h] at this; cases this
  have dX : D ∉ (c.re c.s0 (J ++ c.X0) c.Z0).X ls := fun h => by obtain ⟨o, e⟩ := S.live h; rw [H.dn] at e; cases e
  have lX : L ∉ (c.re c.s0 (J ++ c.X0) c.Z0).X ls := fun h => by obtain ⟨o, e⟩ := S.live h; rw [H.ln] at e; cases e
  -- what stood at s2 and is neither an iterator nor a table nor an own list stands at s'
  have big : ∀ a o, s2.heap.get? a = some o → a ∉ J → a ∉ c.tabs.map (·.2) → a ∉ keys ls → s'.heap.get? a = some o := fun a o e h1 h2 h3 => by
    refine F'.nx.keep a o (hideAll_get _ (H.keep a o e) fun h => ?_) fun h => ?_
    · rcases List.mem_cons.mp h with h | h
      · rw [h, H.ln] at e; cases e
      · rcases List.mem_cons.mp h with h | h
        · rw [h, H.dn] at e; cases e
        · exact h1 h
    · rcases List.mem_append.mp h with h | h
      · exact h2 h
      · exact h3 h
  have own' : ∀ a, a ∈ c.own ((D, ys) :: ls') ↔ a = D ∨ a ∈ c.own ls := fun a => by
    unfold Cx.own
    rw [show keys ((D, ys) :: ls') = D :: keys ls' from rfl, hkeys]
    simp only [List.mem_cons, List.mem_append]
    constructor
    · rintro (h | h | h | h)
      · exact .inr (.inl h)
      · exact .inr (.inr (.inl h))
      · exact .inl h
      · exact .inr (.inr (.inr h))
    · rintro (h | h | h | h)
      · exact .inr (.inr (.inl h))
      · exact .inl h
      · exact .inr (.inl h)
      · exact .inr (.inr (.inr h))
  have notab : ∀ a ∈ c.own ls, a ∉ c.tabs.map (·.2) := fun a ha h => by
    obtain ⟨q, hq, rfl⟩ := List.mem_map.mp h
    exact (F.tabs q hq).2.2 ha
  have hap := F.apart
  have nk : ∀ a, a = c.env.locals ∨ a ∈ c.C → a ∉ keys ls := fun a ha h => by
    have h1 := List.nodup_cons.mp hap
    rcases ha with rfl | ha
    · exact h1.1 (List.mem_append_right _ h)
    · exact (List.nodup_append.mp h1.2).2.2 a ha a h rfl
  have st : Stay ((c.re c.s0 (J ++ c.X0) c.Z0).X ls) (c.X ((D, ys) :: ls')) s2.heap s'.heap := fun a o hx e _ => by
    refine ⟨fun hin => ?_, big a o e (fun h => hx (List.mem_append_right _ (List.mem_append_left _ h))) (fun h => hx ?_) (fun h => hx (List.mem_append_left _ (Cx.key_own h)))⟩
    · rcases List.mem_append.mp hin with h | h
      · rcases (own' a).mp h with h | h
        · rw [h, H.dn] at e; cases e
        · exact hx (List.mem_append_left _ h)
      · exact hx (List.mem_append_right _ (List.mem_append_right _ h))
    · obtain ⟨q, hq, rfl⟩ := List.mem_map.mp h
      exact List.mem_append_right _ (List.mem_append_right _ (hsub _ (F.tabs q hq).1))
  have kcell : ∀ ca v, s2.heap.IsCell ca v → s'.heap.IsCell ca v := fun ca v hc => by
    obtain ⟨o, e, hd⟩ := id hc
    refine ⟨o, big ca o e (fun h => ?_) (fun h => ?_) (fun h => ?_), hd⟩
    · obtain ⟨o', e', _, h'⟩ := hf ca h
      rw [e] at e'; cases e'
      rcases h' with ⟨vs, h'⟩ | ⟨xs, n, h'⟩ <;> rw [hd] at h' <;> cases h'
    · obtain ⟨q, hq, rfl⟩ := List.mem_map.mp h
      exact ne_of_tab_cell (F.grown q hq) hc rfl
    · obtain ⟨p, hp, rfl⟩ := List.mem_map.mp h
      obtain ⟨vs, n, h1, _⟩ := S.lists p hp
      exact ne_of_list_cell h1.isList hc rfl
  have stX : Stay ((c.comp scope cl L (hid s4 (L :: D :: J)) (c.own ls ++ c.X0) (c.tabs.map (·.2) ++ keys ls)).X ((D, ys) :: ls')) (c.X ((D, ys) :: ls')) s'.heap s'.heap := Stay.sub fun a ha => by
    rcases List.mem_append.mp ha with h | h
    · rcases (own' a).mp h with h | h
      · subst h; exact List.mem_append_left _ (Cx.key_own (.head _))
      · exact List.mem_append_right _ (List.mem_append_left _ h)
    · exact List.mem_append_right _ (List.mem_append_right _ h)
  have dk : D ∉ keys ls := fun h => dX (List.mem_append_left _ (Cx.key_own h))
  refine ⟨{
    fm := {
      top := F'.top
      nx := ⟨fun a o e hn => big a o (F.nx.keep a o e hn) (fun h => by rw [(hJ a h).1] at e; cases e) (fun h => by
          obtain ⟨q, hq, rfl⟩ := List.mem_map.mp h
          exact hn (F.tabs q hq).1) (fun h => by
          rcases (F.mine a (Cx.key_own h)).1 with h | h
          · exact hn h
          · have e' : c.s0.heap.get? a = some o := e
            have h' : c.s0.heap.get? a = none := h
            rw [h'] at e'; cases e'), F'.nx.gens.trans (H.gens.trans F.nx.gens), F'.nx.os.trans (H.os.trans F.nx.os)⟩
      mine := fun a ha => by
        rcases (own' a).mp ha with h | h
        · subst h
          obtain ⟨_, _, o, e⟩ := F'.mine a (Cx.key_own (.head _))
          exact ⟨.inr (c0 _ H.dn), gn _ H.dn, o, e⟩
        · refine ⟨(F.mine a h).1, (F.mine a h).2.1, ?_⟩
          by_cases hk : a ∈ keys ls
          · exact (F'.mine a (Cx.key_own (by rw [show keys ((D, ys) :: ls') = D :: keys ls' from rfl, hkeys]; exact .tail _ hk))).2.2
          · obtain ⟨o, e⟩ := (F.mine a h).2.2
            exact ⟨o, big a o e (fun hj => hoff a hj h) (notab a h) hk⟩
      apart := by
        unfold Cx.own at hap ⊢
        rw [show keys ((D, ys) :: ls') = D :: keys ls' from rfl, hkeys]
        have dO : D ∉ c.own ls := fun h => dX (List.mem_append_left _ h)
        unfold Cx.own at dO
        simp only [Cx.re, List.nodup_cons, List.mem_append, List.mem_cons, not_or, List.nodup_append, ne_eq] at hap dO ⊢
        refine ⟨⟨hap.1.1, fun h => dO.1 h.symm, hap.1.2⟩, hap.2.1, ⟨dk, hap.2.2.1⟩, fun a ha b hb => ?_⟩
        rcases hb with rfl | hb
        · exact fun e => dO.2.1 (e ▸ ha)
        · exact hap.2.2.2 a ha b hb
      old := fun a ha => F'.old a (List.mem_append_right _ ha)
      sub := hsub
      tabs := fun q hq => ⟨(F.tabs q hq).1, (F.tabs q hq).2.1, fun h => by
        rcases (own' _).mp h with h | h
        · obtain ⟨ps, e, _⟩ := F.grown q hq
          rw [h, H.dn] at e; cases e
        · exact (F.tabs q hq).2.2 h⟩
      grown := fun q hq => (F'.grown q hq).stay (fun o e => e) stX }
    fn := S.fn
    inj := S.inj
    cells := fun ca hc => let ⟨v, e⟩ := S.cells ca hc; ⟨v, kcell _ _ e⟩
    names := by
      obtain ⟨m, hm, hn⟩ := S.names
      refine ⟨m, ?_, fun x d hx => ?_⟩
      · obtain ⟨o, es, ep, h1, h2⟩ := hm
        exact ⟨o, es, ep, big _ _ h1 (fun h => hoff _ h Cx.loc_own) (notab _ Cx.loc_own) (nk _ (.inl rfl)), h2⟩
      · obtain ⟨v, r, i⟩ := hn x d hx
        exact ⟨v, Rd.stay st _ _ r, i.keep fun ca _ e => kcell _ _ e⟩
    lists := fun p hp => by
      obtain ⟨us, n, h1, h3⟩ := S'.lists p hp
      exact ⟨us, n, h1, RdL.stay stX _ _ h3⟩ }, fun h => dX (List.mem_append_right _ (List.mem_append_right _ h)), by rw [hkeys]; exact dk, fun h => ?_, c0 _ H.ln, gn _ H.ln, let ⟨m, hm, _⟩ := S'.names; ⟨m, hm⟩, st⟩
  rcases List.mem_append.mp h with h | h
  · rcases (own' L).mp h with h | h
    · exact H.ne h.symm
    · exact lX (List.mem_append_left _ h)
  · exact lX (List.mem_append_right _ (List.mem_append_right _ h))

end
end Mine
end

noncomputable section
set_option genSizeOf false
set_option genInjectivity false
set_option Elab.async false
set_option linter.unusedVariables false
namespace Mine
open PySem PySem.Calls PyProof.Rows PySem.W

section
variable {c : Cx} {k : Nat} {ρ : Rho} {ls : Ls} {P : D → Ls → Prop} {PB : Bool → Ls → Prop} {PF : Fl → Rho → Ls → Prop}

/- an object that is nobody's datum changes -/
theorem St.other {s s' : Shared} {a : Addr} {m : Str → Option Value} (S : St c ρ ls s) (hs : Heap.SameBut a s.heap s'.heap) (hg : s'.gens = s.gens) (ho : s'.os = s.os) (hm : s.heap.Ns a m) (h0 : c.s0.heap.get? a = none) (hG : c.G.get? a = none) (hX : a ∉ c.X ls) :
    St c ρ ls s' ∧ Stay (c.X ls) (c.X ls) s.heap s'.heap := by
  have F := S.fm
  have nd : ∀ o, s.heap.get? a = some o → (∃ es ep, o.data = .dict es ep) := fun o e => by
    obtain ⟨o', es, ep, e', hd, _⟩ := hm
    rw [e] at e'; cases e'; exact ⟨es, ep, hd⟩
  have keep : ∀ b o, b ≠ a → s.heap.get? b = some o → s'.heap.get? b = some o := fun b o hb e => (hs.2 b hb).trans e
  have st : Stay (c.X ls) (c.X ls) s.heap s'.heap := fun b o hx e hd => ⟨hx, keep b o (fun q => by
    subst q
    obtain ⟨es, ep, h⟩ := nd o e
    rcases hd with ⟨_, _, hd⟩ | ⟨_, hd⟩ | hd | hd
    · rw [h] at hd; cases hd
    · rw [h] at hd; cases hd
    · obtain ⟨_, vs, hd⟩ := hd; rw [h] at hd; cases hd
    · exact hd.2 _ _ h) e⟩
  have oX : a ∉ c.own ls := fun h => hX (List.mem_append_left _ h)
  have kcell : ∀ ca v, s.heap.IsCell ca v → s'.heap.IsCell ca v := fun ca v hc => hc.sameBut hs (ne_of_dict_cell hm hc).symm
  refine ⟨{
    fm := {
      top := fun b o e => keep b o (fun q => by rw [q, hG] at e; cases e) (F.top b o e)
      nx := ⟨fun b o e hn => keep b o (fun q => by rw [q, h0] at e; cases e) (F.nx.keep b o e hn), hg.trans F.nx.gens, ho.trans F.nx.os⟩
      mine := fun b hb => ⟨(F.mine b hb).1, (F.mine b hb).2.1, let ⟨o, e⟩ := (F.mine b hb).2.2; ⟨o, keep b o (fun q => oX (q ▸ hb)) e⟩⟩
      apart := F.apart
      old := fun b hb => let ⟨o, e⟩ := F.old b hb; ⟨o, keep b o (fun q => hX (List.mem_append_right _ (q ▸ hb))) e⟩
      sub := F.sub
      tabs := F.tabs
      grown := fun q hq => (F.grown q hq).stay (fun o e => keep _ _ (fun e' => hX (List.mem_append_right _ (F.sub _ (e' ▸ (F.tabs q hq).1)))) e) st }
    fn := S.fn
    inj := S.inj
    cells := fun ca hc => let ⟨v, e⟩ := S.cells ca hc; ⟨v, kcell _ _ e⟩
    names := by
      obtain ⟨m', hm', hn⟩ := S.names
      refine ⟨m', hm'.sameBut hs (fun q => oX (q ▸ Cx.loc_own)), fun x d hx => ?_⟩
      obtain ⟨v, r, i⟩ := hn x d hx
      exact ⟨v, Rd.stay st _ _ r, i.keep fun ca _ e => kcell _ _ e⟩
    lists := fun p hp => by
      obtain ⟨vs, n, h1, h3⟩ := S.lists p hp
      exact ⟨vs, n, keep _ _ (fun q => oX (q ▸ Cx.key_own (List.mem_map_of_mem hp))) h1, RdL.stay st _ _ h3⟩ }, st⟩

/- what one turn of a comprehension leaves -/
inductive TurnR (A : Addr) (ys : List D) (K : List Addr) (N : List D → Ls → Prop) : Option D → Ls → Prop
  | no (l : Ls) (hk : keys l = K) (h : N ys l) : TurnR A ys K N none ((A, ys) :: l)
  | yes (d : D) (l : Ls) (hk : keys l = K) (h : N (ys ++ [d]) l) : TurnR A ys K N (some d) ((A, ys) :: l)
theorem lset_fst {a : Addr} {xs ys : List D} {ls : Ls} (h : a ∉ keys ls) : lset ((a, xs) :: ls) a ys = (a, ys) :: ls := by
  have hn : ∀ (l : Ls), a ∉ keys l → lset l a ys = l := by
    intro l
    induction l with
    | nil => intro _; rfl
    | cons p r ih =>
      intro h
      show (if p.1 = a then _ else _) = _
      rw [if_neg (fun e : p.1 = a => h (List.mem_cons.mpr (.inl e.symm))), ih fun h' => h (.tail _ h')]
  show (if a = a then _ else _) = _
  rw [if_pos rfl, hn ls h]
/- a comprehension's turns -/
theorem comp_loop {scope : Scope} {cl : List (Str × Addr)} {J : List Addr} {s4 : Shared} {D L : Addr} {ci : Cx} {ρi : Rho} {I : Addr} {dv : Value} {dd : Mine.D} {OK : Ls → Prop} {xs : List Mine.D} {target elt iter : Expr} {ifs : List Expr} {pos : Pos} {W : Nat → Heap → Prop} {Fin : Heap → Prop} {A : Around} {R : Result → Shared → Prop}
    (Inv : Nat → List Mine.D → Ls → Prop) (hA : Room (k+2) A) (hsub : ∀ a ∈ ci.Z0, a ∈ ci.X0) (hJ : Jok ci J) (hk : Wk (ci.re ci.s0 (J ++ ci.X0) ci.Z0) J I dv dd OK xs target W Fin) (hDk : D ∉ keys ls) (hlen : xs.length < 2 ^ 19)
    (hok : ∀ i ys ls, Inv i ys ls → OK ls) (hmono : ∀ p ls, OK ls → OK (p :: ls)) (hL : ci.env = compEnvC scope cl L c.env)
    (turn : ∀ i x ys ls1, xs[i]? = some x → Inv i ys ls1 → keys ls1 = keys ls → ∀ s0 X0 Z0, ∃ ρ2, Ext ρi ρ2 ∧ Asg (ci.re s0 X0 Z0) k target x ρi ρ2 ∧
      CompT (ci.re s0 X0 Z0) k ifs elt ρ2 ((D, ys) :: ls1) (TurnR D ys (keys ls) (Inv (i + 1))))
    (h0 : Inv 0 [] ls) (L0 : LS (ci.re ci.s0 (J ++ ci.X0) ci.Z0) J dv dd W 0 ρi ((D, []) :: ls) s4)
    (fin : ∀ s' ys ls', keys ls' = keys ls → Inv xs.length ys ls' → St ci ρi ((D, ys) :: ls') s' → Fin s'.heap → R (.ok .next) s') :
    codeAny ci.M A (.compLoop (.ListComp elt [⟨target, iter, ifs, 0⟩] scope pos) 0 (.ref I) (.ref D) ci.env) R s4 := by
  refine compLoop_my (fun n s => ∃ i ys ls1, n = xs.length - i ∧ i ≤ xs.length ∧ ys.length ≤ i ∧ keys ls1 = keys ls ∧ Inv i ys ls1 ∧ LS (ci.re ci.s0 (J ++ ci.X0) ci.Z0) J dv dd W i ρi ((D, ys) :: ls1) s) ?_ _ ⟨0, [], ls, rfl, Nat.zero_le _, Nat.le_refl _, rfl, h0, L0⟩
  rintro n s1 ⟨i, ys, ls1, rfl, hi, hy, hk1, hI, L1⟩
  cases hx : xs[i]? with
  | none =>
    refine wpAny_mono (hk.stop A i ρi _ s1 (hA.mono (by walk_at "n")) L1.st (hmono _ _ (hok i _ _ hI)) L1.rd L1.w hx) ?_ fun _ _ x => x
    rintro r s2 ⟨rfl, hkeep, hg, hos, hF⟩
    have hi' : i = xs.length := by
      have := List.getElem?_eq_none_iff.mp hx; walk_at "n"
    subst hi'
    obtain ⟨S2, _⟩ := L1.st.tchEnd hkeep hg hos hsub hJ (hk.fs _ _ L1.w) L1.off
    exact fin s2 ys ls1 hk1 hI S2 hF
  | some x =>
    refine wpAny_mono (hk.next A i ρi _ s1 x (hA.mono (by walk_at "n")) L1.st (hmono _ _ (hok i _ _ hI)) L1.rd L1.w hx) ?_ fun _ _ x => x
    rintro r s2 ⟨v, rfl, hgo⟩
    refine wpAny_mono hgo ?_ fun _ _ x => x
    rintro _ s3 ⟨T, rv, hW⟩
    obtain ⟨S3, st3⟩ := L1.st.tch T hsub hJ (hk.fs _ _ L1.w) L1.off
    have L3 : LS (ci.re ci.s0 (J ++ ci.X0) ci.Z0) J dv dd W (i+1) ρi ((D, ys) :: ls1) s3 := ⟨S3, hW, Rd.stay st3 _ _ L1.rd, L1.off⟩
    obtain ⟨ρ2, hext, ha, hb⟩ := turn i x ys ls1 hx hI hk1 s3 (ci.own ((D, ys) :: ls1) ++ (J ++ ci.X0)) (ci.tabs.map (·.2) ++ ci.own ((D, ys) :: ls1))
    have rv' : Rd (((ci.re ci.s0 (J ++ ci.X0) ci.Z0).here ((D, ys) :: ls1) s3).X ((D, ys) :: ls1)) s3.heap v x := Rd.stay (Stay.sub fun a ha => by
      rcases List.mem_append.mp ha with h | h
      · exact List.mem_append_left _ h
      · exact h) _ _ rv
    refine wpAny_mono (ha A s3 _ v (hA.mono (by walk_at "n")) S3.base rv') ?_ fun _ _ x => x
    rintro _ s4 ⟨S4, st4⟩
    have hlt : i < xs.length := (List.getElem?_eq_some_iff.mp hx).1
    refine CompT.run (c := (ci.re ci.s0 (J ++ ci.X0) ci.Z0).here ((D, ys) :: ls1) s3) (k := k) hb (hA.mono (by walk_at "n")) S4 ?_ ?_
    · intro v' s5 d ls5 k5 S5 st5 r5 h5
      cases h5 with | yes _ ls1' hk1' hs => ?_
      rw [← Cx.X_keys k5] at r5
      have ap := CallB_append (c := (ci.re ci.s0 (J ++ ci.X0) ci.Z0).here ((D, ys) :: ls1) s3) (k := k) (ρ := ρ2) (dx := d) (P := fun _ ls' => ls' = (D, ys ++ [d]) :: ls1') (.head _) (by walk_at "n") (lset_fst (by rw [hk1']; exact hDk))
      refine wpAny_mono (ap A s5 (.builtin "list.append") [.ref D, v'] [] (hA.mono (by walk_at "n")) S5 rfl ⟨_, _, rfl, rfl, v', [], rfl, r5, rfl⟩ ⟨rfl, rfl⟩) ?_ fun _ _ x => x
      rintro _ s6 ⟨_, ls6, k6, S6, _, _, rfl⟩
      exact ⟨xs.length - (i+1), Nat.sub_succ_lt_self _ _ hlt, i+1, ys ++ [d], ls1', rfl, hlt, by rw [List.length_append]; exact Nat.succ_le_succ hy, hk1', hs, L3.keep (fun j hj hz => (hJ j hj).2.2 (hsub _ hz)) hk (S6.forget hext)⟩
    · intro s5 ls5 k5 S5 st5 h5
      cases h5 with | no ls1' hk1' hn => ?_
      exact ⟨xs.length - (i+1), Nat.sub_succ_lt_self _ _ hlt, i+1, ys, ls1', rfl, hlt, Nat.le_succ_of_le hy, hk1', hn, L3.keep (fun j hj hz => (hJ j hj).2.2 (hsub _ hz)) hk (S5.forget hext)⟩
end
end Mine
end

noncomputable section
set_option genSizeOf false
set_option genInjectivity false
set_option Elab.async false
set_option linter.unusedVariables false
namespace Mine
open PySem PySem.Calls PyProof.Rows PySem.W

section
variable {c : Cx} {k : Nat} {ρ : Rho} {ls : Ls} {P : D → Ls → Prop} {PB : Bool → Ls → Prop} {PF : Fl → Rho → Ls → Prop}

/- the turns of a comprehension, as the user shows them -/
def Turns (c : Cx) (k : Nat) (scope : Scope) (cl : List (Str × Addr)) (target elt : Expr) (ifs : List Expr) (xs : List D) (ρi : Rho) (ls : Ls) (Inv : Nat → List D → Ls → Prop) : Prop :=
  ∀ i x ys ls1, xs[i]? = some x → Inv i ys ls1 → keys ls1 = keys ls → ∀ L D s0 X0 Z0, D ∉ keys ls1 → ∃ ρ2, Ext ρi ρ2 ∧ Asg (c.comp scope cl L s0 X0 Z0) k target x ρi ρ2 ∧
    CompT (c.comp scope cl L s0 X0 Z0) k ifs elt ρ2 ((D, ys) :: ls1) (TurnR D ys (keys ls1) (Inv (i + 1)))

theorem comp_block {scope : Scope} {cl : List (Str × Addr)} {J : List Addr} {s2 : Shared} {ρi : Rho} {I : Addr} {dv : Value} {dd : Mine.D} {OK : Ls → Prop} {xs : List Mine.D} {target elt iter : Expr} {ifs : List Expr} {pos : Pos} {W : Nat → Heap → Prop} {Fin : Heap → Prop} {A : Around} {RR : Value → Addr → Result → Shared → Prop}
    (Inv : Nat → List Mine.D → Ls → Prop) (hA : Room (k+2) A) (hsub : ∀ a ∈ c.Z0, a ∈ c.X0) (hJ : Jok c J) (hk : ∀ c' : Cx, (∀ j ∈ J, j ∈ c'.X0) → Wk c' J I dv dd OK xs target W Fin) (hlen : xs.length < 2 ^ 19)
    (hok : ∀ i ys ls, Inv i ys ls → OK ls) (hmono : ∀ p ls, OK ls → OK (p :: ls)) (se : Sees c scope cl ρ ρi) (hcell : ∀ y ∈ scope.names, y.2 ≠ .cell)
    (turn : Turns c k scope cl target elt ifs xs ρi ls Inv) (h0 : Inv 0 [] ls) (L0 : LS (c.re c.s0 (J ++ c.X0) c.Z0) J dv dd W 0 ρ ls s2)
    (fin : ∀ s' ys ls' D L m, keys ls' = keys ls → Inv xs.length ys ls' → St c ρ ((D, ys) :: ls') s' → D ∉ c.X0 → D ∉ keys ls' → L ∉ c.X ((D, ys) :: ls') → c.s0.heap.get? L = none → c.G.get? L = none → s'.heap.Ns L m →
      Stay ((c.re c.s0 (J ++ c.X0) c.Z0).X ls) (c.X ((D, ys) :: ls')) s2.heap s'.heap → Fin s'.heap → RR (.ref D) L (.ok .next) s') :
    wpAny c.M A (newList []) (fun acc s₃ => wpAny c.M A (newFunctionEnv scope c.env.globals cl [] c.env.qual none .none (some c.env)) (fun cenv s₄ =>
      codeAny c.M A (.compStart (.ListComp elt [⟨target, iter, ifs, 0⟩] scope pos) 0 (.ref I) acc { cenv with scope := relabel scope c.env }) (RR acc cenv.locals) s₄) No s₃) No s2 := by
  refine newList_ (wpAny_newFunctionEnv hcell (by intro y hy; simp at hy) (fun h₁ hns₁ hsb₁ => ?_) se.kind) (by simp)
  dsimp only at hns₁ hsb₁ ⊢
  generalize hH2 : s2.heap.push { cls := .type "list", dict := none, data := .seq ([] : List Value).toArray } = H2 at hns₁ hsb₁ ⊢
  have hC : H2.objs.size = s2.heap.objs.size + 1 := by rw [← hH2, Heap.size_push]
  have hkeep : Keep s2.heap h₁ := fun b o e => hsb₁.extBut b o (by have := Heap.lt_size e; rw [hC]; exact Nat.ne_of_lt (Nat.lt_succ_of_lt this)) (Heap.get?_push_of_some _ (hH2 ▸ Heap.get?_push_of_some _ e))
  have H : CompIn c scope cl J ls s2 { s2 with heap := h₁, toks := s2.toks + ([] : List (Str × Value)).length } s2.heap.objs.size H2.objs.size
      (c.comp scope cl H2.objs.size (hid { s2 with heap := h₁, toks := s2.toks + ([] : List (Str × Value)).length } (H2.objs.size :: s2.heap.objs.size :: J)) (c.own ls ++ c.X0) (c.tabs.map (·.2) ++ keys ls)) :=
    ⟨rfl, hkeep, rfl, rfl, none_size _, Heap.get?_none_of_le (by rw [hC]; exact Nat.le_succ _), by rw [hC]; exact Nat.ne_of_lt (Nat.lt_succ_self _), hsb₁.extBut _ _ (by rw [hC]; exact Nat.ne_of_lt (Nat.lt_succ_self _)) (Heap.get?_push_of_some _ (hH2 ▸ Heap.get?_push_size _ rfl)), hns₁⟩
  have hkc := hk (c.re c.s0 (J ++ c.X0) c.Z0) fun j hj => List.mem_append_left _ hj
  obtain ⟨LI, hJI⟩ := H.enter L0 hJ hkc se
  have dk : s2.heap.objs.size ∉ keys ls := fun h => by
    obtain ⟨o, e⟩ := L0.st.live (List.mem_append_left _ (Cx.key_own h))
    exact Nat.lt_irrefl _ (Heap.lt_size e)
  have hsubI : ∀ a ∈ (c.tabs.map (·.2) ++ keys ls), a ∈ (c.own ls ++ c.X0) := fun a ha => by
    rcases List.mem_append.mp ha with h | h
    · obtain ⟨q, hq, rfl⟩ := List.mem_map.mp h
      exact List.mem_append_right _ (hsub _ (L0.st.fm.tabs q hq).1)
    · exact List.mem_append_left _ (Cx.key_own h)
  have loop := comp_loop (c := c) (k := k) (ls := ls) (scope := scope) (cl := cl) (L := H2.objs.size) (iter := iter) (pos := pos) (D := s2.heap.objs.size) (ci := c.comp scope cl H2.objs.size (hid { s2 with heap := h₁, toks := s2.toks + ([] : List (Str × Value)).length } (H2.objs.size :: s2.heap.objs.size :: J)) (c.own ls ++ c.X0) (c.tabs.map (·.2) ++ keys ls))
    (R := RR (.ref s2.heap.objs.size) H2.objs.size) (A := A) Inv hA hsubI hJI (hk _ fun j hj => List.mem_append_left _ hj) dk hlen hok hmono rfl
    (fun i x ys ls1 hx hI hkeys s0 X0 Z0 => by
      obtain ⟨ρ2, h1, h2, h3⟩ := turn i x ys ls1 hx hI hkeys H2.objs.size s2.heap.objs.size s0 X0 Z0 (by rw [hkeys]; exact dk)
      refine ⟨ρ2, h1, h2, ?_⟩
      rw [hkeys] at h3
      exact h3) h0 LI (fun s' ys ls' hkeys hI S' hF => by
      obtain ⟨S, h1, h2, h3, h4, h5, ⟨m, h6⟩, h7⟩ := H.exit L0.st hsub hJ L0.off (hkc.fs _ _ L0.w) hkeys S'
      exact fin s' ys ls' _ _ m hkeys hI S h1 h2 h3 h4 h5 h6 h7 hF)
  refine codeAny_compStart_list loop (wpAny_mono (hkc.self A 0 _ LI.w) ?_ No_noted)
  rintro r s5 ⟨rfl, rfl⟩
  exact loop

/- a comprehension as a value -/
theorem Ev_comp {elt target iter : Expr} {ifs : List Expr} {scope : Scope} {pos : Pos} (xs : List D) (OK : Ls → Prop) (cl : List (Str × Addr)) (ρi : Rho) (Inv : Nat → List D → Ls → Prop)
    (hclos : closureFor scope c.env = pure cl) (se : Sees c scope cl ρ ρi) (hcell : ∀ y ∈ scope.names, y.2 ≠ .cell) (hnames : ∀ y ∈ scope.names, y.2 = .local → scope.names.lookup y.1 = some .local)
    (h : EvI c (k+2) iter target xs OK ρ ls (fun ls1 => Inv 0 [] ls1 ∧ Turns c k scope cl target elt ifs xs ρi ls1 Inv)) (hlen : xs.length < 2 ^ 19)
    (hok : ∀ i ys ls, Inv i ys ls → OK ls) (hmono : ∀ p ls, OK ls → OK (p :: ls))
    (fin : ∀ ys ls', keys ls' = keys ls → Inv xs.length ys ls' → P (.fl ys) ls')
    (hs : ∀ x, foldedSetIterable iter c.env x = pure x := by intro _; rfl) :
    Ev c (k+2) (eval (.ListComp elt [⟨target, iter, ifs, 0⟩] scope pos) c.env) ρ ls P := fun A s hA S => by
  rw [eval_ListComp]
  refine wpAny_comprehension_free (use := none) rfl hs hclos se.kind hnames (wpAny_mono (h A s hA S) (fun xv s₁ h₁ => wpAny_mono h₁ (fun it s₂ h₂ => ?_) fun _ _ e => e) fun _ _ e => e)
  obtain ⟨ls1, J, I, dv, dd, W, Fin, rfl, k1, hJ, L, st, hk, h0, turn⟩ := h₂
  refine comp_block (RR := fun acc C => compPost c.M A No none (Post c ρ ls s.heap P) acc C) Inv hA S.fm.sub hJ hk hlen hok hmono se hcell turn h0 L ?_
  · intro s' ys ls' D' L' m hkeys hI S' hD hDk hL hL0 hLG hLn st' _
    refine ⟨m, hLn, fun h' hs' => ?_⟩
    obtain ⟨S2, r2⟩ := S'.freeze hD
    have hL2 : L' ∉ c.X ls' := fun h => hL (by
      rcases List.mem_append.mp h with h | h
      · refine List.mem_append_left _ ?_
        unfold Cx.own keys at h ⊢
        simp only [List.mem_cons, List.mem_append, List.map_cons] at h ⊢
        rcases h with h | h | h
        · exact .inl h
        · exact .inr (.inl h)
        · exact .inr (.inr (.inr h))
      · exact List.mem_append_right _ h)
    obtain ⟨S3, st3⟩ := S2.other (s' := { s' with heap := h' }) hs' rfl rfl hLn hL0 hLG hL2
    have kk := hkeys.trans k1
    refine ⟨.fl ys, ls', kk, S3, ?_, ?_, fin ys ls' kk hI⟩
    · have e := Cx.X_keys (c := c) kk
      rw [e] at st3
      refine st.trans (st'.trans (Stay.trans (X' := c.X ls) ?_ st3))
      rw [← e]
      refine Stay.sub fun a ha => ?_
      rcases List.mem_append.mp ha with h | h
      · refine List.mem_append_left _ ?_
        unfold Cx.own keys at h ⊢
        simp only [List.mem_cons, List.mem_append, List.map_cons] at h ⊢
        rcases h with h | h | h
        · exact .inl h
        · exact .inr (.inl h)
        · exact .inr (.inr (.inr h))
      · exact List.mem_append_right _ h
    · have e := Cx.X_keys (c := c) kk
      rw [← e]
      exact Rd.stay st3 _ _ r2

theorem X_tail {D : Addr} {ys : List Mine.D} {ls' : Ls} : ∀ a ∈ c.X ls', a ∈ c.X ((D, ys) :: ls') := fun a ha => by
  rcases List.mem_append.mp ha with h | h
  · refine List.mem_append_left _ ?_
    unfold Cx.own keys at h ⊢
    simp only [List.mem_cons, List.mem_append, List.map_cons] at h ⊢
    rcases h with h | h | h
    · exact .inl h
    · exact .inr (.inl h)
    · exact .inr (.inr (.inr h))
  · exact List.mem_append_right _ h

/- `y = [.. for ..]`, the new list the frame's own -/
theorem Ex_assign_compL {elt target iter : Expr} {ifs : List Expr} {scope : Scope} {pos spos : Pos} {y : Str} {py : Pos} (xs : List D) (OK : Ls → Prop) (cl : List (Str × Addr)) (ρi : Rho) (Inv : Nat → List D → Ls → Prop)
    (hy : StoreOk c y) (hclos : closureFor scope c.env = pure cl) (se : Sees c scope cl ρ ρi) (hcell : ∀ y ∈ scope.names, y.2 ≠ .cell) (hnames : ∀ y ∈ scope.names, y.2 = .local → scope.names.lookup y.1 = some .local)
    (h : EvI c (k+2) iter target xs OK ρ ls (fun ls1 => Inv 0 [] ls1 ∧ Turns c k scope cl target elt ifs xs ρi ls1 Inv)) (hlen : xs.length < 2 ^ 19)
    (hok : ∀ i ys ls, Inv i ys ls → OK ls) (hmono : ∀ p ls, OK ls → OK (p :: ls))
    (fin : ∀ ys ls' D, keys ls' = keys ls → Inv xs.length ys ls' → D ∉ c.X0 → D ∉ keys ls' → PF .next (upd ρ y (.raw (.ref D))) ((D, ys) :: ls'))
    (hsw : swapsWith (.ListComp elt [⟨target, iter, ifs, 0⟩] scope pos) (some (.Name y py)) spos.line c.env = pure true := by rfl)
    (hs : ∀ x, foldedSetIterable iter c.env x = pure x := by intro _; rfl) :
    Ex c (k+2) (exec (.Assign [.Name y py] (.ListComp elt [⟨target, iter, ifs, 0⟩] scope pos) spos) c.env) ρ ls PF := fun A s hA S => by
  rw [exec_Assign_Name_used _ _ _ _ hsw]
  refine wpAny_bind (wpAny_standAt (wpAny_bind ?_))
  show wpAny _ A (do let _ ← comprehension (.ListComp elt [⟨target, iter, ifs, 0⟩] scope pos) scope c.env _ (newList []) false (eval iter c.env) (some (assign (.Name y py) c.env))) _ _ s
  refine wpAny_bind (wpAny_mono (wpAny_comprehension_free (use := some (assign (.Name y py) c.env)) (Q := fun _ s' => PostX c PF .next s') rfl hs hclos se.kind hnames
    (wpAny_mono (h A s hA S) (fun xv s₁ h₁ => wpAny_mono h₁ (fun it s₂ h₂ => ?_) fun _ _ e => e) fun _ _ e => e)) (fun _ s' hq => wpAny_pure (wpAny_pure hq)) fun _ _ e => e)
  obtain ⟨ls1, J, I, dv, dd, W, Fin, rfl, k1, hJ, L, st, hk, h0, turn⟩ := h₂
  refine comp_block (RR := fun acc C => compPost c.M A No (some (assign (.Name y py) c.env)) (fun _ s' => PostX c PF .next s') acc C) Inv hA S.fm.sub hJ hk hlen hok hmono se hcell turn h0 L ?_
  intro s' ys ls' D' L' m hkeys hI S' hD hDk hL hL0 hLG hLn st' _
  show wpAny c.M A (assign (.Name y py) c.env (.ref D')) _ _ _
  have hLne : L' ≠ c.env.locals := fun e => hL (List.mem_append_left _ (e ▸ Cx.loc_own))
  refine wpAny_assign_Name ?_
  have fin' : ∀ s'', St c (upd ρ y (.raw (.ref D'))) ((D', ys) :: ls') s'' → (∃ m, s''.heap.Ns L' m) → ∃ m, s''.heap.Ns L' m ∧ ∀ h', Heap.SameBut L' s''.heap h' → PostX c PF .next { s'' with heap := h' } := by
    rintro s'' S'' ⟨m, hm⟩
    refine ⟨m, hm, fun h' hs' => ?_⟩
    obtain ⟨S3, st3⟩ := S''.other (s' := { s'' with heap := h' }) hs' rfl rfl hm hL0 hLG hL
    exact ⟨.next, _, _, S3, trivial, fin ys ls' D' (hkeys.trans k1) hI hD hDk⟩
  rcases hy with hyl | ⟨hyk, ca, hc, hca⟩
  · obtain ⟨m', hm', hmn⟩ := S'.names
    refine wpAny_storeName_local hyl hm' (fun h' hn hs => fin' _ (S'.storeL (d := .raw (.ref D')) hyl rfl hm' hmn hn hs) ⟨m, hLn.sameBut hs hLne⟩) (by rw [S'.fn]; rfl)
  · obtain ⟨wv, hw⟩ := S'.cells ca hca
    exact wpAny_storeName_cell S'.fn hyk hc hw (fun h' hn hs => fin' _ (S'.storeC (d := .raw (.ref D')) hyk hc hca rfl hn hs) ⟨m, hLn.sameBut hs (ne_of_dict_cell hLn hw)⟩)

theorem lookup_upd_self (ρ : Rho) (x : Str) (d : D) : (upd ρ x d).lookup x = some d := by rw [lookup_upd]; simp

/- the same, the new list a datum -/
theorem Ex_assign_comp {elt target iter : Expr} {ifs : List Expr} {scope : Scope} {pos spos : Pos} {y : Str} {py : Pos} (xs : List D) (OK : Ls → Prop) (cl : List (Str × Addr)) (ρi : Rho) (Inv : Nat → List D → Ls → Prop)
    (hy : StoreOk c y) (hclos : closureFor scope c.env = pure cl) (se : Sees c scope cl ρ ρi) (hcell : ∀ y ∈ scope.names, y.2 ≠ .cell) (hnames : ∀ y ∈ scope.names, y.2 = .local → scope.names.lookup y.1 = some .local)
    (h : EvI c (k+2) iter target xs OK ρ ls (fun ls1 => Inv 0 [] ls1 ∧ Turns c k scope cl target elt ifs xs ρi ls1 Inv)) (hlen : xs.length < 2 ^ 19)
    (hok : ∀ i ys ls, Inv i ys ls → OK ls) (hmono : ∀ p ls, OK ls → OK (p :: ls))
    (fin : ∀ ys ls', keys ls' = keys ls → Inv xs.length ys ls' → PF .next (upd ρ y (.fl ys)) ls')
    (hsw : swapsWith (.ListComp elt [⟨target, iter, ifs, 0⟩] scope pos) (some (.Name y py)) spos.line c.env = pure true := by rfl)
    (hs : ∀ x, foldedSetIterable iter c.env x = pure x := by intro _; rfl) :
    Ex c (k+2) (exec (.Assign [.Name y py] (.ListComp elt [⟨target, iter, ifs, 0⟩] scope pos) spos) c.env) ρ ls PF := fun A s hA S => by
  refine wpAny_mono (Ex_assign_compL (PF := fun fl ρ' ls' => fl = .next ∧ ∃ D ys ls'', ρ' = upd ρ y (.raw (.ref D)) ∧ ls' = (D, ys) :: ls'' ∧ D ∉ c.X0 ∧ PF .next (upd ρ y (.fl ys)) ls'') xs OK cl ρi Inv hy hclos se hcell hnames h hlen hok hmono
    (fun ys ls' D hkeys hI hD hDk => ⟨rfl, D, ys, ls', rfl, rfl, hD, fin ys ls' hkeys hI⟩) hsw hs A s hA S) ?_ fun _ _ x => x
  rintro f s' ⟨fl, ρ', ls', S', hf, rfl, D, ys, ls'', rfl, rfl, hD, hp⟩
  obtain ⟨S2, r2⟩ := S'.freeze hD
  refine ⟨.next, upd ρ y (.fl ys), ls'', { S2 with names := ?_ }, by cases f <;> simp only [FlR] at hf ⊢, hp⟩
  obtain ⟨m, hm, hn⟩ := S2.names
  refine ⟨m, hm, fun z d hz => ?_⟩
  rw [lookup_upd] at hz
  by_cases e : (z == y) = true
  · rw [if_pos e] at hz; cases hz
    have : z = y := by simpa using e
    subst this
    obtain ⟨v, r, i⟩ := hn z _ (lookup_upd_self ρ z _)
    cases r
    exact ⟨_, r2, i⟩
  · rw [if_neg e] at hz
    exact hn z d (by rw [lookup_upd, if_neg e]; exact hz)
end
end Mine
end

noncomputable section
set_option genSizeOf false
set_option genInjectivity false
set_option Elab.async false
set_option linter.unusedVariables false
namespace Mine
open PySem PySem.Calls PyProof.Rows PySem.W

/- the text's defs -/
def stm (i : Nat) : Stmt := (PySem.Challenge.pw_lg0033_01.main.body)[i]?.getD (.Pass default)
def fB (i : Nat) : List Stmt := match stm i with
  | .FunctionDef (body := b) .. => b
  | _ => []
def fS (i : Nat) : Scope := match stm i with
  | .FunctionDef (scope := s) .. => s
  | _ => default
def fP (i : Nat) : Arguments := match stm i with
  | .FunctionDef (args := s) .. => s
  | _ => default

structure Rest where
  name : Str
  qualname : Str
  doc : Value
  pyModule : Value
  annotations : Option Addr
  code : Value
  closureTuple : Value

def mkFd (i : Nat) (dv kv : Value) (r : Rest) : FuncData := { name := r.name, qualname := r.qualname, params := fP i, body := .stmts (fB i), scope := fS i, globals := mainGlobals, closure := [], defaults := dv, kwdefaults := kv, doc := r.doc, pyModule := r.pyModule, annotations := r.annotations, code := r.code, closureTuple := r.closureTuple, builtins := builtinsNs }

/- a def of the text stands at the top -/
structure HasFn (x : String) (i : Nat) (dv kv : Value) (fa : Addr) (r : Rest) (G : Heap) : Prop where
  gl : Gl G x (.ref fa)
  at_ : ∃ o, G.get? fa = some o ∧ o.data = .func (mkFd i dv kv r)
  code : G.CodeRec r.code r.qualname

section
variable {c : Cx} {k : Nat} {ρ : Rho} {ls : Ls} {P : D → Ls → Prop} {PB : Bool → Ls → Prop} {PF : Fl → Rho → Ls → Prop}
theorem Ex.forget {t : Sem Flow} {ρ0 : Rho} (h : Ex c k t ρ0 ls PF) (e : Ext ρ0 ρ) : Ex c k t ρ ls PF := fun A s hA S => h A s hA (S.forget e)

def CutP (I : Rho → Ls → Prop) (PF : Fl → Rho → Ls → Prop) : Fl → Rho → Ls → Prop
  | .next, ρ, ls => ∃ ρ1, Ext ρ1 ρ ∧ I ρ1 ls
  | f, ρ, ls => PF f ρ ls
/- where several ways meet -/
theorem Ex_cut {st rest} (I : Rho → Ls → Prop) (h1 : Ex c k (exec st c.env) ρ ls (CutP I PF)) (h2 : ∀ ρ1 ls1, I ρ1 ls1 → Ex c k (execs rest c.env) ρ1 ls1 PF) : Ex c k (execs (st :: rest) c.env) ρ ls PF :=
  Ex_cons (h1.mono fun fl ρ' ls' h => by
    cases fl with
    | next => obtain ⟨ρ1, e, h⟩ := h; exact (h2 ρ1 ls' h).forget e
    | brk => exact h
    | cont => exact h
    | ret d => exact h)
theorem lset_one (a : Addr) (xs ys : List D) : lset [(a, xs)] a ys = [(a, ys)] := by simp [lset]
theorem lset_cons_ne {a b : Addr} {xs ys : List D} {ls : Ls} (h : b ≠ a) : lset ((b, xs) :: ls) a ys = (b, xs) :: lset ls a ys := by
  show (if b = a then _ else _) = _
  rw [if_neg h]
theorem lset_nin {a : Addr} {ys : List D} {ls : Ls} (h : a ∉ keys ls) : lset ls a ys = ls := by
  induction ls with
  | nil => rfl
  | cons p r ih =>
    obtain ⟨b, zs⟩ := p
    simp only [keys, List.map_cons, List.mem_cons, not_or] at h
    rw [lset_cons_ne (fun e => h.1 e.symm), ih h.2]
theorem lset_cons_eq {a : Addr} {xs ys : List D} {ls : Ls} (h : a ∉ keys ls) : lset ((a, xs) :: ls) a ys = (a, ys) :: ls := by
  show (if a = a then _ else _) = _
  rw [if_pos rfl, lset_nin h]
theorem LsOf.hd {a : Addr} {xs : List D} : LsOf ((a, xs) :: ls) (.raw (.ref a)) xs := .inr ⟨a, rfl, .head _⟩
theorem LsOf.tl {p : Addr × List D} {d : D} {xs : List D} (h : LsOf ls d xs) : LsOf (p :: ls) d xs := h.imp id fun ⟨a, e, m⟩ => ⟨a, e, .tail _ m⟩
theorem LsOf.fl {xs : List D} : LsOf ls (.fl xs) xs := .inl rfl

theorem Op2_itemN {value slice : Expr} {d dx : D} {xs : List D} {i : Nat} (L : LsOf ls d xs) (hx : xs[i]? = some dx) (hb : xs.length < 2 ^ 20) (h : P dx ls)
    (hs : ∀ o i, subscripted slice false o i = operate [o, i] (getItem o i) := by intro _ _; with_unfolding_all rfl) : Op2 c k (subscriptTail value slice) d (.int (i : Nat)) ρ ls P :=
  Op2_item L (by walk_at "n") (by simpa using hx) (by walk_at "n") h hs
theorem Op2_itemF {α : Type} {f : α → D} {value slice : Expr} {d : D} {xs : List α} {x : α} {i : Nat} (L : LsOf ls d (xs.map f)) (hx : xs[i]? = some x) (hb : xs.length < 2 ^ 20) (h : P (f x) ls)
    (hs : ∀ o i, subscripted slice false o i = operate [o, i] (getItem o i) := by intro _ _; with_unfolding_all rfl) : Op2 c k (subscriptTail value slice) d (.int (i : Nat)) ρ ls P :=
  Op2_itemN L (by simp [hx]) (by simpa using hb) h hs

/- `o[i] = value` -/
theorem Ex_setN {o i pos' value pos} (h : Ev c k (eval value c.env) ρ ls (fun d ls1 => Ev c k (eval o c.env) ρ ls1 (fun od ls2 => Ev c k (eval i c.env) ρ ls2 (fun id ls3 =>
      ∃ a xs, ∃ j : Nat, od = .raw (.ref a) ∧ id = .int j ∧ (a, xs) ∈ ls3 ∧ j < xs.length ∧ xs.length < 2 ^ 20 ∧ PF .next ρ (lset ls3 a (xs.set j d))))))
    (hs : swapsWith value (some (.Subscript o i pos')) pos.line c.env = pure false := by rfl) : Ex c k (exec (.Assign [.Subscript o i pos'] value pos) c.env) ρ ls PF := by
  refine Ex_setitem (h.mono fun d ls1 h => h.mono fun od ls2 h => h.mono fun id ls3 h => ?_) hs
  obtain ⟨a, xs, j, h1, h2, h3, h4, h5, h6⟩ := h
  exact ⟨a, xs, (j : Int), h1, h2, h3, by walk_at "n", by walk_at "n", by walk_at "n", by simpa using h6⟩
end
theorem shr1 {n : Nat} (h : 0 < n) : ((n : Int) - 1).fdiv (2 ^ (1 : Int).toNat) = (((n - 1) / 2 : Nat) : Int) := by
  have e : (2 : Int) ^ (1 : Int).toNat = 2 := by decide
  rw [e, Int.fdiv_eq_ediv_of_nonneg _ (by decide)]
  walk_at "n"
end Mine
end

noncomputable section
set_option genSizeOf false
set_option genInjectivity false
set_option Elab.async false
set_option linter.unusedVariables false
set_option maxRecDepth 100000
namespace Mine
open PySem PySem.Calls PyProof.Rows PySem.W

def faOf : Nat → Addr
  | 1 => 21
  | 2 => 28
  | 3 => 35
  | 4 => 42
  | 5 => 49
  | 6 => 56
  | 7 => 63
  | 8 => 70
  | 9 => 77
  | 10 => 84
  | 11 => 91
  | 12 => 97
  | 14 => 106
  | 15 => 115
  | 17 => 122
  | 18 => 127
  | 19 => 134
  | 20 => 141
  | 21 => 148
  | 22 => 153
  | _ => 0
def rst (x : String) (md : Value) (c : Addr) : Rest := ⟨Str.ofString x, Str.ofString x, .none, md, none, .ref c, .none⟩
def md1 : Value := .str (Str.ofString "cpy313.heapq") 187
def md2 : Value := .str (Str.ofString "cpy313.bisect") 306
def md3 : Value := .str (Str.ofString "law_lg0033_01") 335
def rOf : Nat → Rest
  | 1 => rst "heappush" md1 20
  | 2 => rst "heappop" md1 27
  | 3 => rst "heapreplace" md1 34
  | 4 => rst "heappushpop" md1 41
  | 5 => rst "heapify" md1 48
  | 6 => rst "_heapreplace_max" md1 55
  | 7 => rst "_heapify_max" md1 62
  | 8 => rst "_siftdown" md1 69
  | 9 => rst "_siftup" md1 76
  | 10 => rst "_siftdown_max" md1 83
  | 11 => rst "_siftup_max" md1 90
  | 12 => rst "nsmallest" md1 96
  | 14 => rst "insort_right" md2 105
  | 15 => rst "bisect_right" md2 114
  | 17 => rst "_law_deeds" md3 121
  | 18 => rst "_law_fates" md3 126
  | 19 => rst "_law_heap" md3 133
  | 20 => rst "_law_row" md3 140
  | 21 => rst "_law_few" md3 147
  | 22 => rst "law" md3 152
  | _ => rst "" .none 0
def fO (i : Nat) (dv kv : Value) : Obj := ⟨.type "function", none, .func (mkFd i dv kv (rOf i)), #[]⟩
def rf : Nat → Value
  | 0 => .none
  | n => .ref n
def cO (x : String) (t : Nat) (l n m fl : Int) (a : Addr) (b : Int) (P u v L : Nat) (k : Int) (t2 : Nat) : Obj :=
  ⟨.type "code", none, .fields #[.str (Str.ofString x) t, .str (Str.ofString x) (t + 1), .str (Str.ofString "/claim/cut.py") (t + 2), .int l 0, .int n 0, .int 0 0, .int m 0, .int fl 0, .ref a, .bool true, .int b 0, .ref P, .none, rf u, rf v, .ref L, .int k 0, .int l 0, .str (Str.ofString "/claim/cut.py") t2], #[]⟩
def eO (P : Params) (x : String) (t : Nat) (v : Value) : DictEntry := { hash := PyData.keyHash P (Str.ofString x), key := .str (Str.ofString x) t, val := v }
def gO (P : Params) : Obj := ⟨.type "dict", none, .dict #[eO P "__name__" 165 (.str (Str.ofString "law_lg0033_01") 335), eO P "__doc__" 166 (.none), eO P "__package__" 167 (.none), eO P "__loader__" 168 (.builtin "__main__.__loader__#opaque"), eO P "__spec__" 169 (.none), eO P "__annotations__" 170 (.ref 6), eO P "__builtins__" 171 (.ref 4), eO P "__file__" 173 (.str (Str.ofString "/claim/cut.py") 172), eO P "__cached__" 174 (.none), eO P "heappush" 196 (.ref 21), eO P "heappop" 205 (.ref 28), eO P "heapreplace" 214 (.ref 35), eO P "heappushpop" 222 (.ref 42), eO P "heapify" 231 (.ref 49), eO P "_heapreplace_max" 240 (.ref 56), eO P "_heapify_max" 249 (.ref 63), eO P "_siftdown" 261 (.ref 70), eO P "_siftup" 274 (.ref 77), eO P "_siftdown_max" 286 (.ref 84), eO P "_siftup_max" 299 (.ref 91), eO P "nsmallest" 305 (.ref 97), eO P "insort_right" 320 (.ref 106), eO P "bisect_right" 334 (.ref 115), eO P "_law_deeds" 349 (.ref 122), eO P "_law_fates" 355 (.ref 127), eO P "_law_heap" 364 (.ref 134), eO P "_law_row" 375 (.ref 141), eO P "_law_few" 388 (.ref 148), eO P "law" 394 (.ref 153)] 29, #[]⟩
def K (P : Params) : Frag := (nat_lit 3, gO P) ::
  (nat_lit 20, cO "heappush" 189 2 2 0 3 15 181 16 17 18 19 194 195) :: (nat_lit 21, fO 1 .none .none) ::
  (nat_lit 27, cO "heappop" 197 5 1 0 3 22 181 23 24 25 26 203 204) :: (nat_lit 28, fO 2 .none .none) ::
  (nat_lit 34, cO "heapreplace" 206 13 2 0 3 29 181 30 31 32 33 212 213) :: (nat_lit 35, fO 3 .none .none) ::
  (nat_lit 41, cO "heappushpop" 215 18 2 0 3 36 181 37 38 39 40 220 221) :: (nat_lit 42, fO 4 .none .none) ::
  (nat_lit 48, cO "heapify" 223 23 1 0 3 43 181 44 45 46 47 229 230) :: (nat_lit 49, fO 5 .none .none) ::
  (nat_lit 55, cO "_heapreplace_max" 232 27 2 0 3 50 181 51 52 53 54 238 239) :: (nat_lit 56, fO 6 .none .none) ::
  (nat_lit 62, cO "_heapify_max" 241 32 1 0 3 57 181 58 59 60 61 247 248) :: (nat_lit 63, fO 7 .none .none) ::
  (nat_lit 69, cO "_siftdown" 250 36 3 0 3 64 181 65 66 67 68 259 260) :: (nat_lit 70, fO 8 .none .none) ::
  (nat_lit 76, cO "_siftup" 262 47 2 0 3 71 181 72 73 74 75 272 273) :: (nat_lit 77, fO 9 .none .none) ::
  (nat_lit 83, cO "_siftdown_max" 275 61 3 0 3 78 181 79 80 81 82 284 285) :: (nat_lit 84, fO 10 .none .none) ::
  (nat_lit 90, cO "_siftup_max" 287 72 2 0 3 85 181 86 87 88 89 297 298) :: (nat_lit 91, fO 11 .none .none) :: (nat_lit 92, ⟨.type "tuple", none, .seq #[.none] 0, #[]⟩) ::
  (nat_lit 96, cO "nsmallest" 300 86 3 0 3 93 181 94 0 0 95 303 304) :: (nat_lit 97, fO 12 (.ref 92) .none) :: (nat_lit 98, ⟨.type "tuple", none, .seq #[.int 0 308, .none] 0, #[]⟩) :: (nat_lit 99, ⟨.type "dict", none, .dict #[eO P "key" 309 .none] 1, #[]⟩) ::
  (nat_lit 105, cO "insort_right" 310 132 4 1 3 100 181 101 102 103 104 318 319) :: (nat_lit 106, fO 14 (.ref 98) (.ref 99)) :: (nat_lit 107, ⟨.type "tuple", none, .seq #[.int 0 321, .none] 0, #[]⟩) :: (nat_lit 108, ⟨.type "dict", none, .dict #[eO P "key" 322 .none] 1, #[]⟩) ::
  (nat_lit 114, cO "bisect_right" 323 138 4 1 3 109 181 110 111 112 113 332 333) :: (nat_lit 115, fO 15 (.ref 107) (.ref 108)) ::
  (nat_lit 121, cO "_law_deeds" 337 159 1 0 3 116 181 117 118 119 120 347 348) :: (nat_lit 122, fO 17 .none .none) ::
  (nat_lit 126, cO "_law_fates" 350 168 1 0 3 123 181 124 0 0 125 353 354) :: (nat_lit 127, fO 18 .none .none) ::
  (nat_lit 133, cO "_law_heap" 356 190 3 0 3 128 181 129 130 131 132 362 363) :: (nat_lit 134, fO 19 .none .none) ::
  (nat_lit 140, cO "_law_row" 365 206 3 0 3 135 181 136 137 138 139 373 374) :: (nat_lit 141, fO 20 .none .none) ::
  (nat_lit 147, cO "_law_few" 376 216 4 0 3 142 181 143 144 145 146 386 387) :: (nat_lit 148, fO 21 .none .none) ::
  (nat_lit 152, cO "law" 389 225 1 0 3 149 181 150 0 0 151 392 393) :: (nat_lit 153, fO 22 .none .none) :: []
end Mine
end

noncomputable section
set_option genSizeOf false
set_option genInjectivity false
set_option Elab.async false
set_option linter.unusedVariables false
set_option maxRecDepth 10000
namespace Mine
open PySem PySem.Calls PyProof.Rows PySem.W

/- what a call gives and leaves -/
def Is (d0 : D) (l0 : Ls) (d : D) (l : Ls) : Prop := d = d0 ∧ l = l0

def okFd (fd : FuncData) (ns : List Str) (cs : List (Str × Nat)) : Bool :=
  !fd.scope.isCoroutine && !fd.scope.isGenerator && (match fd.scope.kind with | .function => true | _ => false) && decide ns.Nodup && decide (cs.map (·.1)).Nodup &&
    ns.all fun x => match fd.scope.names.lookup x with
      | some .local => true
      | some .cell => (cs.lookup x).isSome
      | _ => false

def Bind (fd : FuncData) (G : Heap) (args : List D) (kws : List (Str × D)) (ρ0 : Rho) : Prop :=
  ∀ s X vs kvs, Keep G s.heap → (∀ a ∈ X, ∃ o, s.heap.get? a = some o) → RdL X s.heap vs args → RdK X s.heap kvs kws → ∃ binds, BindsTo s fd ⟨vs, kvs⟩ binds ∧ RdB X s.heap binds ρ0

theorem bind1 {fd : FuncData} {G : Heap} {x1 : Str} {d1 : D} (h : ∀ a, bindArgs fd ⟨[a], []⟩ = pure [(x1, a)]) : Bind fd G [d1] [] [(x1, d1)] := by
  rintro s X vs kvs _ _ ⟨v1, _, rfl, r1, rfl⟩ rk
  cases rk.nil
  exact ⟨_, BindsTo.of_eq (h v1), rfl, v1, _, rfl, r1, rfl⟩
theorem bind2 {fd : FuncData} {G : Heap} {x1 x2 : Str} {d1 d2 : D} (h : ∀ a b, bindArgs fd ⟨[a, b], []⟩ = pure [(x1, a), (x2, b)]) : Bind fd G [d1, d2] [] [(x1, d1), (x2, d2)] := by
  rintro s X vs kvs _ _ ⟨v1, _, rfl, r1, v2, _, rfl, r2, rfl⟩ rk
  cases rk.nil
  exact ⟨_, BindsTo.of_eq (h v1 v2), rfl, v1, _, rfl, r1, v2, _, rfl, r2, rfl⟩
theorem bind3 {fd : FuncData} {G : Heap} {x1 x2 x3 : Str} {d1 d2 d3 : D} (h : ∀ a b c, bindArgs fd ⟨[a, b, c], []⟩ = pure [(x1, a), (x2, b), (x3, c)]) : Bind fd G [d1, d2, d3] [] [(x1, d1), (x2, d2), (x3, d3)] := by
  rintro s X vs kvs _ _ ⟨v1, _, rfl, r1, v2, _, rfl, r2, v3, _, rfl, r3, rfl⟩ rk
  cases rk.nil
  exact ⟨_, BindsTo.of_eq (h v1 v2 v3), rfl, v1, _, rfl, r1, v2, _, rfl, r2, v3, _, rfl, r3, rfl⟩
theorem bind4 {fd : FuncData} {G : Heap} {x1 x2 x3 x4 : Str} {d1 d2 d3 d4 : D} (h : ∀ a b c d, bindArgs fd ⟨[a, b, c, d], []⟩ = pure [(x1, a), (x2, b), (x3, c), (x4, d)]) : Bind fd G [d1, d2, d3, d4] [] [(x1, d1), (x2, d2), (x3, d3), (x4, d4)] := by
  rintro s X vs kvs _ _ ⟨v1, _, rfl, r1, v2, _, rfl, r2, v3, _, rfl, r3, v4, _, rfl, r4, rfl⟩ rk
  cases rk.nil
  exact ⟨_, BindsTo.of_eq (h v1 v2 v3 v4), rfl, v1, _, rfl, r1, v2, _, rfl, r2, v3, _, rfl, r3, v4, _, rfl, r4, rfl⟩

theorem lookup_one {β : Type} {a x : Str} {v w : β} (h : ([(a, v)] : List (Str × β)).lookup x = some w) : x = a ∧ w = v := by
  rw [List.lookup_cons] at h
  by_cases e : (x == a) = true
  · rw [e] at h; cases h; exact ⟨by simpa using e, rfl⟩
  · simp only [e] at h; cases h
theorem Sees.one {c : Cx} {scope : Scope} {ρ : Rho} {a : Str} {ca : Addr} {d : D} (h1 : c.env.cells.lookup a = some ca) (h2 : ρ.lookup a = some d) (h3 : c.env.kindOf a = some .cell) (h4 : (relabel scope c.env).names.lookup a = some .cell) (hk : scope.kind = .function) : Sees c scope [(a, ca)] ρ [(a, d)] :=
  ⟨fun x ca' h => by obtain ⟨rfl, rfl⟩ := lookup_one h; exact h1, fun x d' h => by obtain ⟨rfl, rfl⟩ := lookup_one h; exact ⟨h2, h3, h4, ca, by simp⟩, hk⟩

theorem RdK.one' {X : List Addr} {h : Heap} {kvs : List (Str × Value)} {x : Str} {d : D} (r : RdK X h kvs [(x, d)]) : ∃ v, kvs = [(x, v)] ∧ Rd X h v d := by
  obtain ⟨e1, v, w, e3, r4, e5⟩ := r
  cases kvs with
  | nil => exact absurd e1 (List.cons_ne_nil _ _).symm
  | cons p r =>
    have e1 : p.1 :: r.map (·.1) = x :: [] := e1
    have e3 : p.2 :: r.map (·.2) = v :: w := e3
    have h1 := (List.cons.inj e1).1
    have h2 := List.map_eq_nil_iff.mp (List.cons.inj e1).2
    have h3 := (List.cons.inj e3).1
    exact ⟨v, by rw [h2, ← h1, ← h3], r4⟩
theorem lookup_of_nodup {α β : Type} [BEq α] [LawfulBEq α] : ∀ {l : List (α × β)} {p : α × β}, (l.map (·.1)).Nodup → p ∈ l → l.lookup p.1 = some p.2
  | [], _, _, h => nomatch h
  | q :: r, p, hn, h => by
    rw [List.map_cons, List.nodup_cons] at hn
    rw [List.lookup_cons]
    rcases List.mem_cons.mp h with rfl | h
    · rw [beq_self_eq_true]
    · have : (p.1 == q.1) = false := by
        rw [beq_eq_false_iff_ne]; intro e; exact hn.1 (e ▸ List.mem_map_of_mem h)
      rw [this]; exact lookup_of_nodup hn.2 h
theorem lookup_map_snd {β γ : Type} (f : β → γ) (x : Str) : ∀ (l : List (Str × β)), (l.map fun p => (p.1, f p.2)).lookup x = (l.lookup x).map f
  | [] => rfl
  | (y, b) :: r => by
    rw [List.map_cons, List.lookup_cons, List.lookup_cons, lookup_map_snd f x r]
    cases x == y <;> rfl

/- a def of the text, its end hidden -/
theorem Fn_t {g : Gx} {x : String} {i : Nat} {dv kv : Value} {fa : Addr} {r : Rest} (hf : HasFn x i dv kv fa r g.G) (hlim : g.G.NoLimit) {k : Nat} {args : List D} {kws : List (Str × D)} {ml : Ls} {P : D → Ls → Prop} {ρ0 : Rho}
    (hbind : Bind (mkFd i dv kv r) g.G args kws ρ0) (ns : List Str) (cs : List (Str × Nat)) (hns : ρ0.map (·.1) = ns) (hok : okFd (mkFd i dv kv r) ns cs = true) (hcs : ∀ n, cellsFrom n (mkFd i dv kv r).scope.names [] = cs.map fun p => (p.1, n + p.2))
    (h : ∀ s0 X0 (PF : Fl → Rho → Ls → Prop), (∀ fl ρ extra ml', keys ml' = keys ml → P fl.val ml' → PF fl ρ (extra ++ ml')) → Ex (cxOf (mkFd i dv kv r) fa g s0 X0 ml) k (execs (fB i) (cxOf (mkFd i dv kv r) fa g s0 X0 ml).env) ρ0 ml PF) : Fn g (k+1) (.ref fa) args kws ml P := by
  obtain ⟨o, ho, hd⟩ := hf.at_
  unfold okFd at hok
  simp only [Bool.and_eq_true, Bool.not_eq_true', decide_eq_true_eq, List.all_eq_true] at hok
  obtain ⟨⟨⟨⟨⟨h1, h2⟩, h3⟩, h4⟩, h5⟩, h6⟩ := hok
  have h3' : (mkFd i dv kv r).scope.kind = .function := by
    revert h3; cases (mkFd i dv kv r).scope.kind <;> intro h3 <;> first | rfl | cases h3
  refine Fn_def ρ0 ho hd hlim hf.code rfl rfl hbind (hns ▸ h4) (fun n y hy => ?_) (fun n ca hca => ?_) (fun s0 X0 => h s0 X0 _ fun fl ρ extra ml' hk hp => ⟨extra, ml', rfl, hk, hp⟩) h1 h2 h3'
  · have := h6 y (hns ▸ hy)
    rw [hcs, lookup_map_snd]
    revert this
    cases (mkFd i dv kv r).scope.names.lookup y with
    | none => intro h; cases h
    | some kd => cases kd <;> intro h <;> first | exact .inl rfl | exact .inr ⟨rfl, by rw [Option.isSome_map]; exact h⟩ | cases h
  · rw [hcs] at hca ⊢
    obtain ⟨p, hp, rfl⟩ := List.mem_map.mp hca
    refine ⟨p.1, lookup_of_nodup ?_ hp⟩
    rw [List.map_map]; exact h5

/- the same for a def whose end is `Is` -/
theorem Fn_i {g : Gx} {x : String} {i : Nat} {dv kv : Value} {fa : Addr} {r : Rest} (hf : HasFn x i dv kv fa r g.G) (hlim : g.G.NoLimit) {k : Nat} {args : List D} {kws : List (Str × D)} {ml l0 : Ls} {d0 : D} {ρ0 : Rho}
    (hbind : Bind (mkFd i dv kv r) g.G args kws ρ0) (ns : List Str) (cs : List (Str × Nat)) (hns : ρ0.map (·.1) = ns) (hok : okFd (mkFd i dv kv r) ns cs = true) (hcs : ∀ n, cellsFrom n (mkFd i dv kv r).scope.names [] = cs.map fun p => (p.1, n + p.2)) (hk : keys l0 = keys ml)
    (h : ∀ s0 X0 (PF : Fl → Rho → Ls → Prop), (∀ fl ρ extra, fl.val = d0 → PF fl ρ (extra ++ l0)) → Ex (cxOf (mkFd i dv kv r) fa g s0 X0 ml) k (execs (fB i) (cxOf (mkFd i dv kv r) fa g s0 X0 ml).env) ρ0 ml PF) : Fn g (k+1) (.ref fa) args kws ml (Is d0 l0) :=
  Fn_t hf hlim hbind ns cs hns hok hcs fun s0 X0 PF hp => h s0 X0 PF fun fl ρ extra e => hp fl ρ extra l0 hk ⟨e, rfl⟩

section
variable {c : Cx} {k : Nat} {ρ : Rho} {ls : Ls} {P : D → Ls → Prop} {PB : Bool → Ls → Prop} {PF : Fl → Rho → Ls → Prop}
/- one list -/
theorem Call_one {fa : Addr} {ds : List D} {kws : List (Str × D)} {a : Addr} {xs ys : List D} {k' : Nat} {d : D} (hm : (a, xs) ∈ ls) (F : Fn c.gx k' (.ref fa) ds kws [(a, xs)] (Is d [(a, ys)])) (hk : k' ≤ k) (h : P d (lset ls a ys)) : CallF c k (.ref fa) ds kws ls P :=
  CallF.one a xs hm ((F.room hk).mono fun d' ml' hp zs e => by
    obtain ⟨rfl, e2⟩ := hp
    rw [e2] at e; cases e; exact h)
theorem Call_zero {fa : Addr} {ds : List D} {kws : List (Str × D)} {k' : Nat} {d : D} (F : Fn c.gx k' (.ref fa) ds kws [] (Is d [])) (hk : k' ≤ k) (h : P d ls) : CallF c k (.ref fa) ds kws ls P :=
  CallF.zero ((F.room hk).mono fun d' ml' hp => hp.1 ▸ h)
theorem CallB_one {fa : Addr} {ds : List D} {a : Addr} {xs ys : List D} {k' : Nat} {d : D} (hm : (a, xs) ∈ ls) (F : Fn c.gx k' (.ref fa) ds [] [(a, xs)] (Is d [(a, ys)])) (hk : k' ≤ k) (h : P d (lset ls a ys)) : CallB c k (.raw (.ref fa)) ds [] ρ ls P :=
  CallF.callB (Call_one hm F hk h)
theorem CallB_zero {fa : Addr} {ds : List D} {k' : Nat} {d : D} (F : Fn c.gx k' (.ref fa) ds [] [] (Is d [])) (hk : k' ≤ k) (h : P d ls) : CallB c k (.raw (.ref fa)) ds [] ρ ls P :=
  CallF.callB (Call_zero F hk h)
/- a call of a def of the text, its arguments given -/
theorem Ev_def {x : String} {i : Nat} {dv kv : Value} {fa : Addr} {r : Rest} {p pos : Pos} {e : Expr} {rest : List Expr} (hf : HasFn x i dv kv fa r c.G) (hg : c.env.globals = mainGlobals) (hb : c.env.builtins = builtinsNs) (hx : c.env.kindOf x = some .globalImplicit)
    (h : Evs c k (spliced (backTo pos (starEach (e :: rest) c.env))) ρ ls (fun ds ls1 => CallB c k (.raw (.ref fa)) ds [] ρ ls1 P)) (hd : ((Str.ofString x) == ("__debug__" : Str)) = false := by decide)
    (he : starEach (e :: rest) c.env = (false, eval e c.env) :: starEach rest c.env := by rfl) (hplain : (backTo pos (starEach (e :: rest) c.env)).any (·.1) = false := by rfl) :
    Ev c k (eval (.Call (.Name x p) (e :: rest) [] pos) c.env) ρ ls P := by
  obtain ⟨o, ho, hd'⟩ := hf.at_
  exact Ev_callN (Ev_glob hf.gl hg hb hx ⟨.inl ⟨fa, o, _, rfl, ho, hd'⟩, EvArgs_plain h he⟩ hd) hplain rfl
/- a call of a builtin, by name -/
theorem Ev_bi {x : String} {id : String} {p pos : Pos} {e : Expr} {rest : List Expr} (hf : Gl c.G x (.builtin id)) (hg : c.env.globals = mainGlobals) (hb : c.env.builtins = builtinsNs) (hx : c.env.kindOf x = some .globalImplicit)
    (h : Evs c k (spliced (backTo pos (starEach (e :: rest) c.env))) ρ ls (fun ds ls1 => CallB c k (.raw (.builtin id)) ds [] ρ ls1 P)) (hd : ((Str.ofString x) == ("__debug__" : Str)) = false := by decide)
    (he : starEach (e :: rest) c.env = (false, eval e c.env) :: starEach rest c.env := by rfl) (hplain : (backTo pos (starEach (e :: rest) c.env)).any (·.1) = false := by rfl) :
    Ev c k (eval (.Call (.Name x p) (e :: rest) [] pos) c.env) ρ ls P :=
  Ev_callN (Ev_glob hf hg hb hx ⟨.inr (.inr ⟨id, rfl⟩), EvArgs_plain h he⟩ hd) hplain rfl
theorem EvB.or2P {x y pos whole} {b1 b2 : Bool} (h1 : ∀ PB' : Bool → Ls → Prop, PB' b1 ls → EvB c k (isTrue x c.env (eval x c.env)) ρ ls PB') (h2 : ∀ PB' : Bool → Ls → Prop, PB' b2 ls → EvB c k (isTrue y c.env (eval y c.env)) ρ ls PB') (h : PB (b1 || b2) ls) :
    EvB c k (isTrue (.BoolOp .Or [x, y] pos) c.env whole) ρ ls PB :=
  EvB.or2 (h1 _ ⟨fun e => by rw [e] at h; exact h, fun e => h2 _ (by rw [e] at h; exact h)⟩)
theorem EvB.and2P {x y pos whole} {b1 b2 : Bool} (h1 : ∀ PB' : Bool → Ls → Prop, PB' b1 ls → EvB c k (isTrue x c.env (eval x c.env)) ρ ls PB') (h2 : ∀ PB' : Bool → Ls → Prop, PB' b2 ls → EvB c k (isTrue y c.env (eval y c.env)) ρ ls PB') (h : PB (b1 && b2) ls) :
    EvB c k (isTrue (.BoolOp .And [x, y] pos) c.env whole) ρ ls PB :=
  EvB.and2 (h1 _ ⟨fun e => by rw [e] at h; exact h, fun e => h2 _ (by rw [e] at h; exact h)⟩)
theorem EvB_eqC {x : Str} {p cp pos : Pos} {whole : Sem Value} {i j : Int} {tk : Tok} (hx : ρ.lookup x = some (.int i)) (h : PB (i == j) ls) (hd : (x == ("__debug__" : Str)) = false := by decide) (hm : behindInMarks .Eq (.Constant (.int j) tk cp) = false := by with_unfolding_all rfl) :
    EvB c k (isTrue (.Compare (.Name x p) [.Eq] [.Constant (.int j) tk cp] pos) c.env whole) ρ ls PB := EvB.of_cmp (Ev_name hx (Ev_int (Op2_eq ⟨_, rfl, h⟩)) hd) hm
theorem EvB_gtC {x : Str} {p cp pos : Pos} {whole : Sem Value} {i j : Int} {tk : Tok} (hx : ρ.lookup x = some (.int i)) (h : PB (decide (j < i)) ls) (hd : (x == ("__debug__" : Str)) = false := by decide) (hm : behindInMarks .Gt (.Constant (.int j) tk cp) = false := by with_unfolding_all rfl) :
    EvB c k (isTrue (.Compare (.Name x p) [.Gt] [.Constant (.int j) tk cp] pos) c.env whole) ρ ls PB := EvB.of_cmp (Ev_name hx (Ev_int (Op2_gt ⟨_, rfl, h⟩)) hd) hm
end
end Mine
end

noncomputable section
set_option genSizeOf false
set_option genInjectivity false
set_option Elab.async false
set_option linter.unusedVariables false
set_option maxRecDepth 10000
namespace Mine
open PySem PySem.Calls PyProof.Rows PySem.W

/- what the top holds -/
structure TX (g : Gx) : Prop where
  lim : g.G.NoLimit
  h1 : HasFn "heappush" 1 .none .none (faOf 1) (rOf 1) g.G
  h2 : HasFn "heappop" 2 .none .none (faOf 2) (rOf 2) g.G
  h3 : HasFn "heapreplace" 3 .none .none (faOf 3) (rOf 3) g.G
  h4 : HasFn "heappushpop" 4 .none .none (faOf 4) (rOf 4) g.G
  h5 : HasFn "heapify" 5 .none .none (faOf 5) (rOf 5) g.G
  h6 : HasFn "_heapreplace_max" 6 .none .none (faOf 6) (rOf 6) g.G
  h7 : HasFn "_heapify_max" 7 .none .none (faOf 7) (rOf 7) g.G
  h8 : HasFn "_siftdown" 8 .none .none (faOf 8) (rOf 8) g.G
  h9 : HasFn "_siftup" 9 .none .none (faOf 9) (rOf 9) g.G
  h10 : HasFn "_siftdown_max" 10 .none .none (faOf 10) (rOf 10) g.G
  h11 : HasFn "_siftup_max" 11 .none .none (faOf 11) (rOf 11) g.G
  h17 : HasFn "_law_deeds" 17 .none .none (faOf 17) (rOf 17) g.G
  h18 : HasFn "_law_fates" 18 .none .none (faOf 18) (rOf 18) g.G
  h19 : HasFn "_law_heap" 19 .none .none (faOf 19) (rOf 19) g.G
  h20 : HasFn "_law_row" 20 .none .none (faOf 20) (rOf 20) g.G
  h21 : HasFn "_law_few" 21 .none .none (faOf 21) (rOf 21) g.G
  h22 : HasFn "law" 22 .none .none (faOf 22) (rOf 22) g.G
  hd12 : ∃ o n, g.G.get? 92 = some o ∧ o.data = .seq #[.none] n
  hd14 : ∃ o n, g.G.get? 98 = some o ∧ o.data = .seq #[.int 0 308, .none] n
  hd15 : ∃ o n, g.G.get? 107 = some o ∧ o.data = .seq #[.int 0 321, .none] n
  h12 : HasFn "nsmallest" 12 (.ref 92) .none (faOf 12) (rOf 12) g.G
  h14 : HasFn "insort_right" 14 (.ref 98) (.ref 99) (faOf 14) (rOf 14) g.G
  h15 : HasFn "bisect_right" 15 (.ref 107) (.ref 108) (faOf 15) (rOf 15) g.G
  len : Gl g.G "len" (.builtin "len")
  range : Gl g.G "range" (.type "range")
  reversed : Gl g.G "reversed" (.type "reversed")
  max : Gl g.G "max" (.builtin "max")
  min : Gl g.G "min" (.builtin "min")
  sorted : Gl g.G "sorted" (.builtin "sorted")
  iter : Gl g.G "iter" (.builtin "iter")
  object : Gl g.G "object" (.type "object")
  zip : Gl g.G "zip" (.type "zip")

variable {α : Type}

/- `_siftdown`, plain -/
def sdGo (lt : α → α → Bool) (x : α) (start : Nat) (xs : List α) (pos : Nat) : List α :=
  if h : pos > start then
    match xs[(pos - 1) / 2]? with
    | some p => if lt x p then sdGo lt x start (xs.set pos p) ((pos - 1) / 2) else xs.set pos x
    | none => xs
  else xs.set pos x
termination_by pos
decreasing_by walk_at "n"

theorem sdGo_length (lt : α → α → Bool) (x : α) (start : Nat) (xs : List α) (pos : Nat) : (sdGo lt x start xs pos).length = xs.length := by
  induction pos using Nat.strongRecOn generalizing xs with
  | _ pos ih =>
    unfold sdGo
    split
    · split
      · split
        · rw [ih _ (by walk_at "n")]; simp
        · simp
      · rfl
    · simp

/- `<` of two typed data -/
def LtF (f : α → D) (lt : α → α → Bool) : Prop := ∀ a b, LtD 60 (f a) (f b) (lt a b)

section
variable {c : Cx} {k : Nat} {ρ : Rho} {ls : Ls} {P : D → Ls → Prop}
theorem Op2_ltF {f : α → D} {lt : α → α → Bool} {a b : α} (h : LtF f lt) (hp : P (.bool (lt a b)) ls) : Op2 c (k+4) (compareOp .Lt) (f a) (f b) ρ ls P := by
  rintro A s v1 v2 hA S r1 r2
  exact h a b c.prog c.w A _ s _ v1 v2 _ (by have := hA.2.1; walk_at "n") r1 r2 ⟨.bool _, ls, rfl, S, Stay.refl _ _, rfl, hp⟩
theorem Ex_setF {xo xi xv : Str} {po pi pv pos' pos : Pos} {f : α → D} {a : Addr} {xs : List α} {y : α} {j : Nat} (hv : ρ.lookup xv = some (f y)) (ho : ρ.lookup xo = some (.raw (.ref a))) (hi : ρ.lookup xi = some (.int (j : Nat)))
    (hj : j < xs.length) (hb : xs.length < 2 ^ 20) {PF : Fl → Rho → Ls → Prop} (h : PF .next ρ [(a, (xs.set j y).map f)]) (h1 : (xv == Str.ofString "__debug__") = false := by decide) (h2 : (xo == Str.ofString "__debug__") = false := by decide) (h3 : (xi == Str.ofString "__debug__") = false := by decide) (hs : swapsWith (.Name xv pv) (some (.Subscript (.Name xo po) (.Name xi pi) pos')) pos.line c.env = pure false := by rfl) :
    Ex c k (exec (.Assign [.Subscript (.Name xo po) (.Name xi pi) pos'] (.Name xv pv) pos) c.env) ρ [(a, xs.map f)] PF :=
  Ex_setN (Ev_name hv (Ev_name ho (Ev_name hi ⟨a, _, j, rfl, rfl, .head _, by rw [List.length_map]; exact hj, by rw [List.length_map]; exact hb, by rw [lset_one, ← List.map_set]; exact h⟩ h3) h2) h1) hs
end

theorem sd_end (lt : α → α → Bool) (x : α) {start : Nat} (xs : List α) {pos : Nat} (h : ¬ start < pos) : sdGo lt x start xs pos = xs.set pos x := by
  unfold sdGo; rw [dif_neg h]
theorem sd_up {lt : α → α → Bool} {x : α} {start : Nat} {xs : List α} {pos : Nat} {p : α} (h : start < pos) (hp : xs[(pos - 1) / 2]? = some p) (hl : lt x p = true) : sdGo lt x start xs pos = sdGo lt x start (xs.set pos p) ((pos - 1) / 2) := by
  rw [sdGo, dif_pos h]; simp only [hp, hl, if_true]
theorem sd_stop {lt : α → α → Bool} {x : α} {start : Nat} {xs : List α} {pos : Nat} {p : α} (h : start < pos) (hp : xs[(pos - 1) / 2]? = some p) (hl : lt x p = false) : sdGo lt x start xs pos = xs.set pos x := by
  rw [sdGo, dif_pos h]; simp only [hp, hl, Bool.false_eq_true, if_false]

/- the loop of `_siftdown` -/
inductive SdI (f : α → D) (lt : α → α → Bool) (a : Addr) (xs : List α) (start pos : Nat) (x : α) : Nat → Rho → Ls → Prop
  | mk (ys : List α) (p : Nat) (hp : p < ys.length) (hb : ys.length < 2 ^ 20) (hsd : sdGo lt x start ys p = sdGo lt x start xs pos) :
    SdI f lt a xs start pos x p [("heap", .raw (.ref a)), ("startpos", .int start), ("pos", .int (p : Nat)), ("newitem", f x)] [(a, ys.map f)]
theorem half_lt {p n : Nat} (h : p < n) : (p - 1) / 2 < n := by walk_at "n"
theorem half_lt' {s p : Nat} (h : s < p) : (p - 1) / 2 < p := by walk_at "n"

theorem Fn_siftdown {g : Gx} (T : TX g) {f : α → D} {lt : α → α → Bool} (hlt : LtF f lt) {a : Addr} {xs : List α} {start pos : Nat} {x : α} (hx : xs[pos]? = some x) (hb : xs.length < 2 ^ 20) :
    Fn g 10 (.ref (faOf 8)) [.raw (.ref a), .int start, .int pos] [] [(a, xs.map f)] (Is .none [(a, (sdGo lt x start xs pos).map f)]) := by
  refine Fn_i T.h8 T.lim (ρ0 := [("heap", .raw (.ref a)), ("startpos", .int start), ("pos", .int pos)]) (bind3 fun _ _ _ => rfl) ["heap", "startpos", "pos"] [] rfl (by kernel_rfl) (fun _ => rfl) rfl fun s0 X0 PF fin => ?_
  refine Ex_cons (Ex_assign (.inl rfl) (Ev_sub (Ev_name rfl (Ev_name rfl (Op2_itemF .hd hx hb ?_)))))
  refine Ex_cons (Ex_while (SdI f lt a xs start pos x) ?_ pos _ (Ext.refl _) ⟨xs, pos, (List.getElem?_eq_some_iff.mp hx).1, hb, rfl⟩)
  rintro n _ _ ⟨ys, _, hp, hy, hsd⟩
  rw [← hsd] at fin
  refine EvB.of_cmp (Ev_name rfl (Ev_name rfl (Op2_gt ⟨_, rfl, fun hb => ?_, fun hb => ?_⟩)))
  · have hps : start < n := Int.ofNat_lt.mp (of_decide_eq_true hb)
    have hpp := List.getElem?_eq_getElem (half_lt hp)
    refine Ex_cons (Ex_assign (.inl rfl) (Ev_bin (Ev_bin (Ev_name rfl (Ev_int (Op2_sub (Ev_int (Op2_shr (by decide) ?_))))))))
    rw [shr1 (Nat.zero_lt_of_lt hps)]
    refine Ex_cons (Ex_assign (.inl rfl) (Ev_sub (Ev_name rfl (Ev_name rfl (Op2_itemF .hd hpp hy ?_)))))
    refine Ex_cons (Ex_if (EvB.of_cmp (Ev_name rfl (Ev_name rfl (Op2_ltF hlt ⟨_, rfl, fun hb => ?_, fun hb => ?_⟩)))))
    · refine Ex_cons (Ex_setF rfl rfl rfl hp hy ?_)
      refine Ex_cons (Ex_assign (.inl rfl) (Ev_name rfl ?_))
      exact Ex_cons (Ex_cont ⟨_, _, half_lt' hps, Ext.cons rfl (Ext.cons rfl (Ext.cons rfl (Ext.cons rfl (Ext.nil _)))), _, _, by rw [List.length_set]; exact half_lt hp, by rw [List.length_set]; exact hy, (sd_up hps hpp hb).symm.trans hsd⟩)
    · refine Ex_nil (Ex_cons (Ex_break (Ex_cons (Ex_setF rfl rfl rfl hp hy ?_))))
      rw [sd_stop hps hpp hb] at fin
      exact Ex_nil (fin _ _ [] rfl)
  · refine Ex_nil (Ex_cons (Ex_setF rfl rfl rfl hp hy ?_))
    rw [sd_end _ _ _ (fun h => of_decide_eq_false hb (Int.ofNat_lt.mpr h))] at fin
    exact Ex_nil (fin _ _ [] rfl)

theorem Fn_siftdown_max {g : Gx} (T : TX g) {f : α → D} {lt : α → α → Bool} (hlt : LtF f lt) {a : Addr} {xs : List α} {start pos : Nat} {x : α} (hx : xs[pos]? = some x) (hb : xs.length < 2 ^ 20) :
    Fn g 10 (.ref (faOf 10)) [.raw (.ref a), .int start, .int pos] [] [(a, xs.map f)] (Is .none [(a, (sdGo (fun x p => lt p x) x start xs pos).map f)]) := by
  refine Fn_i T.h10 T.lim (ρ0 := [("heap", .raw (.ref a)), ("startpos", .int start), ("pos", .int pos)]) (bind3 fun _ _ _ => rfl) ["heap", "startpos", "pos"] [] rfl (by kernel_rfl) (fun _ => rfl) rfl fun s0 X0 PF fin => ?_
  refine Ex_cons (Ex_assign (.inl rfl) (Ev_sub (Ev_name rfl (Ev_name rfl (Op2_itemF .hd hx hb ?_)))))
  refine Ex_cons (Ex_while (SdI f (fun x p => lt p x) a xs start pos x) ?_ pos _ (Ext.refl _) ⟨xs, pos, (List.getElem?_eq_some_iff.mp hx).1, hb, rfl⟩)
  rintro n _ _ ⟨ys, _, hp, hy, hsd⟩
  rw [← hsd] at fin
  refine EvB.of_cmp (Ev_name rfl (Ev_name rfl (Op2_gt ⟨_, rfl, fun hb => ?_, fun hb => ?_⟩)))
  · have hps : start < n := Int.ofNat_lt.mp (of_decide_eq_true hb)
    have hpp := List.getElem?_eq_getElem (half_lt hp)
    refine Ex_cons (Ex_assign (.inl rfl) (Ev_bin (Ev_bin (Ev_name rfl (Ev_int (Op2_sub (Ev_int (Op2_shr (by decide) ?_))))))))
    rw [shr1 (Nat.zero_lt_of_lt hps)]
    refine Ex_cons (Ex_assign (.inl rfl) (Ev_sub (Ev_name rfl (Ev_name rfl (Op2_itemF .hd hpp hy ?_)))))
    refine Ex_cons (Ex_if (EvB.of_cmp (Ev_name rfl (Ev_name rfl (Op2_ltF hlt ⟨_, rfl, fun hb => ?_, fun hb => ?_⟩)))))
    · refine Ex_cons (Ex_setF rfl rfl rfl hp hy ?_)
      refine Ex_cons (Ex_assign (.inl rfl) (Ev_name rfl ?_))
      exact Ex_cons (Ex_cont ⟨_, _, half_lt' hps, Ext.cons rfl (Ext.cons rfl (Ext.cons rfl (Ext.cons rfl (Ext.nil _)))), _, _, by rw [List.length_set]; exact half_lt hp, by rw [List.length_set]; exact hy, (sd_up hps hpp hb).symm.trans hsd⟩)
    · refine Ex_nil (Ex_cons (Ex_break (Ex_cons (Ex_setF rfl rfl rfl hp hy ?_))))
      rw [sd_stop hps hpp hb] at fin
      exact Ex_nil (fin _ _ [] rfl)
  · refine Ex_nil (Ex_cons (Ex_setF rfl rfl rfl hp hy ?_))
    rw [sd_end _ _ _ (fun h => of_decide_eq_false hb (Int.ofNat_lt.mpr h))] at fin
    exact Ex_nil (fin _ _ [] rfl)

end Mine
end

noncomputable section
set_option genSizeOf false
set_option genInjectivity false
set_option Elab.async false
set_option linter.unusedVariables false
set_option maxRecDepth 10000
namespace Mine
open PySem PySem.Calls PyProof.Rows PySem.W

variable {α : Type}

/- which child -/
def child (lt : α → α → Bool) (xs : List α) (c : Nat) : Nat :=
  match xs[c]?, xs[c + 1]? with
  | some a, some b => if lt a b then c else c + 1
  | _, _ => c

theorem child_cases (lt : α → α → Bool) (xs : List α) (c : Nat) (hc : c < xs.length) : (child lt xs c = c ∨ child lt xs c = c + 1) ∧ child lt xs c < xs.length := by
  unfold child
  rw [List.getElem?_eq_getElem hc]
  by_cases h : c + 1 < xs.length
  · rw [List.getElem?_eq_getElem h]
    simp only
    split
    · exact ⟨.inl rfl, hc⟩
    · exact ⟨.inr rfl, h⟩
  · rw [List.getElem?_eq_none (by walk_at "n")]
    exact ⟨.inl rfl, hc⟩

/- `_siftup`'s way down -/
def suGo (lt : α → α → Bool) (xs : List α) (pos : Nat) : List α × Nat :=
  if h : 2 * pos + 1 < xs.length then
    match e : xs[child lt xs (2 * pos + 1)]? with
    | some y => suGo lt (xs.set pos y) (child lt xs (2 * pos + 1))
    | none => (xs, pos)
  else (xs, pos)
termination_by xs.length - pos
decreasing_by
  have := child_cases lt xs (2 * pos + 1) h
  simp
  walk_at "n"

def su (lt : α → α → Bool) (x : α) (xs : List α) (pos : Nat) : List α := sdGo lt x pos ((suGo lt xs pos).1.set (suGo lt xs pos).2 x) (suGo lt xs pos).2

theorem suGo_facts (lt : α → α → Bool) (xs : List α) (pos : Nat) (hp : pos < xs.length) : (suGo lt xs pos).1.length = xs.length ∧ (suGo lt xs pos).2 < xs.length ∧ pos ≤ (suGo lt xs pos).2 := by
  fun_induction suGo lt xs pos with
  | case1 xs pos h y e ih =>
    have := child_cases lt xs (2 * pos + 1) h
    have ih := ih (by simp; walk_at "n")
    simp at ih
    refine ⟨ih.1, ih.2.1, by walk_at "n"⟩
  | case2 xs pos h e => exact ⟨rfl, hp, Nat.le_refl _⟩
  | case3 xs pos h => exact ⟨rfl, hp, Nat.le_refl _⟩

theorem su_step {lt : α → α → Bool} {xs : List α} {pos : Nat} (h : 2 * pos + 1 < xs.length) {y : α} (e : xs[child lt xs (2 * pos + 1)]? = some y) : suGo lt xs pos = suGo lt (xs.set pos y) (child lt xs (2 * pos + 1)) := by
  rw [suGo, dif_pos h]
  split
  · rename_i e'; rw [e] at e'; cases e'; rfl
  · rename_i e'; rw [e] at e'; cases e'
theorem su_last {lt : α → α → Bool} {xs : List α} {pos : Nat} (h : ¬ 2 * pos + 1 < xs.length) : suGo lt xs pos = (xs, pos) := by rw [suGo, dif_neg h]
theorem child_one {lt : α → α → Bool} {xs : List α} {c : Nat} (h : ¬ c + 1 < xs.length) : child lt xs c = c := by
  unfold child
  rw [List.getElem?_eq_none (Nat.le_of_not_lt h)]
  cases xs[c]? <;> rfl
theorem child_l {lt : α → α → Bool} {xs : List α} {c : Nat} {a b : α} (h1 : xs[c]? = some a) (h2 : xs[c + 1]? = some b) (h : lt a b = true) : child lt xs c = c := by
  unfold child; rw [h1, h2]; exact if_pos h
theorem child_r {lt : α → α → Bool} {xs : List α} {c : Nat} {a b : α} (h1 : xs[c]? = some a) (h2 : xs[c + 1]? = some b) (h : lt a b = false) : child lt xs c = c + 1 := by
  unfold child; rw [h1, h2]; exact if_neg (by rw [h]; exact Bool.false_ne_true)
theorem cast_lt {a b : Nat} {i : Int} (h : decide (i < (b : Int)) = true) (e : i = a) : a < b := by subst e; exact Int.ofNat_lt.mp (of_decide_eq_true h)
theorem cast_nlt {a b : Nat} {i : Int} (h : decide (i < (b : Int)) = false) (e : i = a) : ¬ a < b := by subst e; exact fun h' => of_decide_eq_false h (Int.ofNat_lt.mpr h')

/- the names of `_siftup` -/
def suR (f : α → D) (a : Addr) (N pos : Nat) (x : α) (p : Nat) (c : Int) : Rho := [("heap", .raw (.ref a)), ("pos", .int (p : Nat)), ("endpos", .int (N : Nat)), ("startpos", .int pos), ("newitem", f x), ("childpos", .int c)]
inductive SuI (f : α → D) (lt : α → α → Bool) (a : Addr) (xs : List α) (pos : Nat) (x : α) : Nat → Rho → Ls → Prop
  | mk (ys : List α) (p : Nat) (hp : p < ys.length) (hl : xs.length = ys.length) (hb : ys.length < 2 ^ 20) (hsu : suGo lt ys p = suGo lt xs pos) : SuI f lt a xs pos x (ys.length - p) (suR f a xs.length pos x p (2 * (p : Nat) + 1)) [(a, ys.map f)]
inductive SuC (f : α → D) (a : Addr) (N pos : Nat) (x : α) (ys : List α) (p c : Nat) : Rho → Ls → Prop
  | mk : SuC f a N pos x ys p c (suR f a N pos x p (c : Nat)) [(a, ys.map f)]
theorem suR_ext {f : α → D} {a : Addr} {N pos : Nat} {x : α} {p : Nat} {c : Int} {ρ : Rho} (h1 : ρ.lookup ("heap" : Str) = some (.raw (.ref a))) (h2 : ρ.lookup ("pos" : Str) = some (.int (p : Nat))) (h3 : ρ.lookup ("endpos" : Str) = some (.int (N : Nat))) (h4 : ρ.lookup ("startpos" : Str) = some (.int pos)) (h5 : ρ.lookup ("newitem" : Str) = some (f x)) (h6 : ρ.lookup ("childpos" : Str) = some (.int c)) : Ext (suR f a N pos x p c) ρ :=
  Ext.cons h1 (Ext.cons h2 (Ext.cons h3 (Ext.cons h4 (Ext.cons h5 (Ext.cons h6 (Ext.nil _))))))
theorem bnt {b : Bool} (h : (!b) = true) : b = false := by cases b <;> first | rfl | cases h
theorem bnf {b : Bool} (h : (!b) = false) : b = true := by cases b <;> first | rfl | cases h
theorem dec_ch {c p n : Nat} (hc : c = 2 * p + 1 ∨ c = 2 * p + 1 + 1) (h : c < n) : n - c < n - p := by walk_at "n"

theorem Fn_siftup {g : Gx} (T : TX g) {f : α → D} {lt : α → α → Bool} (hlt : LtF f lt) {a : Addr} {xs : List α} {pos : Nat} {x : α} (hx : xs[pos]? = some x) (hb : xs.length < 2 ^ 20) :
    Fn g 12 (.ref (faOf 9)) [.raw (.ref a), .int pos] [] [(a, xs.map f)] (Is .none [(a, (su lt x xs pos).map f)]) := by
  refine Fn_i T.h9 T.lim (ρ0 := [("heap", .raw (.ref a)), ("pos", .int pos)]) (bind2 fun _ _ => rfl) ["heap", "pos"] [] rfl (by kernel_rfl) (fun _ => rfl) rfl fun s0 X0 PF fin => ?_
  have hpos : pos < xs.length := (List.getElem?_eq_some_iff.mp hx).1
  refine Ex_cons (Ex_assign (.inl rfl) (Ev_bi T.len rfl rfl rfl (Evs_cons (Ev_name rfl (Evs_nil (CallB_len .hd (by rw [List.length_map]; exact hb) ?_))))))
  rw [List.length_map]
  refine Ex_cons (Ex_assign (.inl rfl) (Ev_name rfl ?_))
  refine Ex_cons (Ex_assign (.inl rfl) (Ev_sub (Ev_name rfl (Ev_name rfl (Op2_itemF .hd hx hb ?_)))))
  refine Ex_cons (Ex_assign (.inl rfl) (Ev_bin (Ev_bin (Ev_int (Ev_name rfl (Op2_mul (.of_left (by decide)) (Ev_int (Op2_add ?_))))))))
  refine Ex_cons (Ex_while (SuI f lt a xs pos x) ?_ _ _ (Ext.refl _) ⟨xs, pos, hpos, rfl, hb, rfl⟩)
  rintro _ _ _ ⟨ys, p, hp, hl, hy, hsu⟩
  refine EvB.of_cmp (Ev_name rfl (Ev_name rfl (Op2_lt ⟨_, rfl, fun hb' => ?_, fun hb' => ?_⟩)))
  · rw [hl] at hb'
    have hc : 2 * p + 1 < ys.length := cast_lt hb' rfl
    refine Ex_cons (Ex_assign (.inl rfl) (Ev_bin (Ev_name rfl (Ev_int (Op2_add ?_)))))
    have hch := child_cases lt ys (2 * p + 1) hc
    have hi := List.getElem?_eq_getElem hch.2
    refine Ex_cut (SuC f a xs.length pos x ys p (child lt ys (2 * p + 1))) ?_ ?_
    · have h1 := List.getElem?_eq_getElem hc
      refine Ex_if (EvB.and2 (EvB.of_cmp (Ev_name rfl (Ev_name rfl (Op2_lt ⟨_, rfl, fun hb1 => ⟨(fun e => by cases e), fun _ => ?_⟩, fun hb1 => ?_⟩)))))
      · rw [hl] at hb1
        have e2 := child_one (lt := lt) (cast_nlt (a := 2 * p + 1 + 1) hb1 rfl)
        rw [e2]
        exact Ex_nil ⟨_, suR_ext rfl rfl rfl rfl rfl rfl, ⟨⟩⟩
      · rw [hl] at hb1
        have h2 := List.getElem?_eq_getElem (cast_lt (a := 2 * p + 1 + 1) hb1 rfl)
        refine EvB.not (EvB.of_cmp (Ev_sub (Ev_name rfl (Ev_name rfl (Op2_itemF (i := 2 * p + 1) .hd h1 hy (Ev_sub (Ev_name rfl (Ev_name rfl (Op2_itemF (i := 2 * p + 1 + 1) .hd h2 hy (Op2_ltF hlt ⟨_, rfl, fun hb2 => ?_, fun hb2 => ?_⟩))))))))))
        · refine Ex_cons (Ex_assign (.inl rfl) (Ev_name rfl ?_))
          rw [child_r h1 h2 (bnt hb2)]
          exact Ex_nil ⟨_, suR_ext rfl rfl rfl rfl rfl rfl, ⟨⟩⟩
        · rw [child_l h1 h2 (bnf hb2)]
          exact Ex_nil ⟨_, suR_ext rfl rfl rfl rfl rfl rfl, ⟨⟩⟩
    · rintro _ _ ⟨⟩
      refine Ex_cons (Ex_setN (Ev_sub (Ev_name rfl (Ev_name rfl (Op2_itemF .hd hi hy (Ev_name rfl (Ev_name rfl ⟨a, _, p, rfl, rfl, .head _, by rw [List.length_map]; exact hp, by rw [List.length_map]; exact hy, ?_⟩)))))))
      rw [lset_one, ← List.map_set]
      refine Ex_cons (Ex_assign (.inl rfl) (Ev_name rfl ?_))
      refine Ex_cons (Ex_assign (.inl rfl) (Ev_bin (Ev_bin (Ev_int (Ev_name rfl (Op2_mul (.of_left (by decide)) (Ev_int (Op2_add ?_))))))))
      have hl' := List.length_set (as := ys) (i := p) (a := ys[child lt ys (2 * p + 1)]'hch.2)
      exact Ex_nil ⟨_, _, by rw [hl']; exact dec_ch hch.1 hch.2, suR_ext rfl rfl rfl rfl rfl rfl, _, _, by rw [hl']; exact hch.2, by rw [hl']; exact hl, by rw [hl']; exact hy, (su_step hc hi).symm.trans hsu⟩
  · rw [hl] at hb'
    have e0 := su_last (lt := lt) (cast_nlt (a := 2 * p + 1) hb' rfl)
    rw [e0] at hsu
    refine Ex_nil (Ex_cons (Ex_setF rfl rfl rfl hp hy ?_))
    have hl' := List.length_set (as := ys) (i := p) (a := x)
    refine Ex_cons (Ex_expr (Ev_def T.h8 rfl rfl rfl (Evs_cons (Ev_name rfl (Evs_cons (Ev_name rfl (Evs_cons (Ev_name rfl (Evs_nil (CallB_one (.head _) (Fn_siftdown T hlt (x := x) (by rw [List.getElem?_set_self hp]) (by rw [hl']; exact hy)) (by walk_at "n") ?_))))))))))
    rw [lset_one]
    unfold su at fin
    rw [← hsu] at fin
    exact Ex_nil (fin _ _ [] rfl)

theorem Fn_siftup_max {g : Gx} (T : TX g) {f : α → D} {lt : α → α → Bool} (hlt : LtF f lt) {a : Addr} {xs : List α} {pos : Nat} {x : α} (hx : xs[pos]? = some x) (hb : xs.length < 2 ^ 20) :
    Fn g 12 (.ref (faOf 11)) [.raw (.ref a), .int pos] [] [(a, xs.map f)] (Is .none [(a, (su (fun x p => lt p x) x xs pos).map f)]) := by
  refine Fn_i T.h11 T.lim (ρ0 := [("heap", .raw (.ref a)), ("pos", .int pos)]) (bind2 fun _ _ => rfl) ["heap", "pos"] [] rfl (by kernel_rfl) (fun _ => rfl) rfl fun s0 X0 PF fin => ?_
  have hpos : pos < xs.length := (List.getElem?_eq_some_iff.mp hx).1
  refine Ex_cons (Ex_assign (.inl rfl) (Ev_bi T.len rfl rfl rfl (Evs_cons (Ev_name rfl (Evs_nil (CallB_len .hd (by rw [List.length_map]; exact hb) ?_))))))
  rw [List.length_map]
  refine Ex_cons (Ex_assign (.inl rfl) (Ev_name rfl ?_))
  refine Ex_cons (Ex_assign (.inl rfl) (Ev_sub (Ev_name rfl (Ev_name rfl (Op2_itemF .hd hx hb ?_)))))
  refine Ex_cons (Ex_assign (.inl rfl) (Ev_bin (Ev_bin (Ev_int (Ev_name rfl (Op2_mul (.of_left (by decide)) (Ev_int (Op2_add ?_))))))))
  refine Ex_cons (Ex_while (SuI f (fun x p => lt p x) a xs pos x) ?_ _ _ (Ext.refl _) ⟨xs, pos, hpos, rfl, hb, rfl⟩)
  rintro _ _ _ ⟨ys, p, hp, hl, hy, hsu⟩
  refine EvB.of_cmp (Ev_name rfl (Ev_name rfl (Op2_lt ⟨_, rfl, fun hb' => ?_, fun hb' => ?_⟩)))
  · rw [hl] at hb'
    have hc : 2 * p + 1 < ys.length := cast_lt hb' rfl
    refine Ex_cons (Ex_assign (.inl rfl) (Ev_bin (Ev_name rfl (Ev_int (Op2_add ?_)))))
    have hch := child_cases (fun x p => lt p x) ys (2 * p + 1) hc
    have hi := List.getElem?_eq_getElem hch.2
    refine Ex_cut (SuC f a xs.length pos x ys p (child (fun x p => lt p x) ys (2 * p + 1))) ?_ ?_
    · have h1 := List.getElem?_eq_getElem hc
      refine Ex_if (EvB.and2 (EvB.of_cmp (Ev_name rfl (Ev_name rfl (Op2_lt ⟨_, rfl, fun hb1 => ⟨(fun e => by cases e), fun _ => ?_⟩, fun hb1 => ?_⟩)))))
      · rw [hl] at hb1
        have e2 := child_one (lt := (fun x p => lt p x)) (cast_nlt (a := 2 * p + 1 + 1) hb1 rfl)
        rw [e2]
        exact Ex_nil ⟨_, suR_ext rfl rfl rfl rfl rfl rfl, ⟨⟩⟩
      · rw [hl] at hb1
        have h2 := List.getElem?_eq_getElem (cast_lt (a := 2 * p + 1 + 1) hb1 rfl)
        refine EvB.not (EvB.of_cmp (Ev_sub (Ev_name rfl (Ev_name rfl (Op2_itemF (i := 2 * p + 1 + 1) .hd h2 hy (Ev_sub (Ev_name rfl (Ev_name rfl (Op2_itemF (i := 2 * p + 1) .hd h1 hy (Op2_ltF hlt ⟨_, rfl, fun hb2 => ?_, fun hb2 => ?_⟩))))))))))
        · refine Ex_cons (Ex_assign (.inl rfl) (Ev_name rfl ?_))
          rw [child_r h1 h2 (bnt hb2)]
          exact Ex_nil ⟨_, suR_ext rfl rfl rfl rfl rfl rfl, ⟨⟩⟩
        · rw [child_l h1 h2 (bnf hb2)]
          exact Ex_nil ⟨_, suR_ext rfl rfl rfl rfl rfl rfl, ⟨⟩⟩
    · rintro _ _ ⟨⟩
      refine Ex_cons (Ex_setN (Ev_sub (Ev_name rfl (Ev_name rfl (Op2_itemF .hd hi hy (Ev_name rfl (Ev_name rfl ⟨a, _, p, rfl, rfl, .head _, by rw [List.length_map]; exact hp, by rw [List.length_map]; exact hy, ?_⟩)))))))
      rw [lset_one, ← List.map_set]
      refine Ex_cons (Ex_assign (.inl rfl) (Ev_name rfl ?_))
      refine Ex_cons (Ex_assign (.inl rfl) (Ev_bin (Ev_bin (Ev_int (Ev_name rfl (Op2_mul (.of_left (by decide)) (Ev_int (Op2_add ?_))))))))
      have hl' := List.length_set (as := ys) (i := p) (a := ys[child (fun x p => lt p x) ys (2 * p + 1)]'hch.2)
      exact Ex_nil ⟨_, _, by rw [hl']; exact dec_ch hch.1 hch.2, suR_ext rfl rfl rfl rfl rfl rfl, _, _, by rw [hl']; exact hch.2, by rw [hl']; exact hl, by rw [hl']; exact hy, (su_step hc hi).symm.trans hsu⟩
  · rw [hl] at hb'
    have e0 := su_last (lt := (fun x p => lt p x)) (cast_nlt (a := 2 * p + 1) hb' rfl)
    rw [e0] at hsu
    refine Ex_nil (Ex_cons (Ex_setF rfl rfl rfl hp hy ?_))
    have hl' := List.length_set (as := ys) (i := p) (a := x)
    refine Ex_cons (Ex_expr (Ev_def T.h10 rfl rfl rfl (Evs_cons (Ev_name rfl (Evs_cons (Ev_name rfl (Evs_cons (Ev_name rfl (Evs_nil (CallB_one (.head _) (Fn_siftdown_max T hlt (x := x) (by rw [List.getElem?_set_self hp]) (by rw [hl']; exact hy)) (by walk_at "n") ?_))))))))))
    rw [lset_one]
    unfold su at fin
    rw [← hsu] at fin
    exact Ex_nil (fin _ _ [] rfl)

end Mine
end

noncomputable section
set_option genSizeOf false
set_option genInjectivity false
set_option Elab.async false
set_option linter.unusedVariables false
set_option maxRecDepth 10000
namespace Mine
open PySem PySem.Calls PyProof.Rows PySem.W

variable {α : Type}

def hpush (lt : α → α → Bool) (xs : List α) (x : α) : List α := sdGo lt x 0 (xs ++ [x]) xs.length
def hpop (lt : α → α → Bool) (ys : List α) (y : α) : α × List α := match ys with
  | [] => (y, [])
  | z :: zs => (z, su lt y (y :: zs) 0)
def hrepl (lt : α → α → Bool) (zs : List α) (x : α) : List α := su lt x (x :: zs) 0
def hpp (lt : α → α → Bool) (xs : List α) (x : α) : α × List α := match xs with
  | [] => (x, [])
  | z :: zs => if lt z x then (z, su lt x (x :: zs) 0) else (x, z :: zs)
def hstep (lt : α → α → Bool) (ys : List α) (i : Nat) : List α := match ys[i]? with
  | some x => su lt x ys i
  | none => ys
def hify (lt : α → α → Bool) (xs : List α) : List α := (List.range (xs.length / 2)).reverse.foldl (hstep lt) xs

theorem su_length (lt : α → α → Bool) (x : α) (xs : List α) (pos : Nat) (h : pos < xs.length) : (su lt x xs pos).length = xs.length := by
  unfold su
  rw [sdGo_length]
  simp [(suGo_facts lt xs pos h).1]
theorem hstep_length (lt : α → α → Bool) (ys : List α) (i : Nat) : (hstep lt ys i).length = ys.length := by
  unfold hstep
  split
  · rename_i x h; exact su_length lt x ys i (List.getElem?_eq_some_iff.mp h).1
  · rfl
theorem foldl_hstep_length (lt : α → α → Bool) (l : List Nat) : ∀ ys : List α, (l.foldl (hstep lt) ys).length = ys.length := by
  induction l with
  | nil => intro ys; rfl
  | cons i l ih => intro ys; rw [List.foldl_cons, ih, hstep_length]

theorem Fn_heappush {g : Gx} (T : TX g) {f : α → D} {lt : α → α → Bool} (hlt : LtF f lt) {a : Addr} {xs : List α} {x : α} (hb : xs.length < 2 ^ 19) :
    Fn g 13 (.ref (faOf 1)) [.raw (.ref a), f x] [] [(a, xs.map f)] (Is .none [(a, (hpush lt xs x).map f)]) := by
  refine Fn_i T.h1 T.lim (ρ0 := [("heap", .raw (.ref a)), ("item", f x)]) (bind2 fun _ _ => rfl) ["heap", "item"] [] rfl (by kernel_rfl) (fun _ => rfl) rfl fun s0 X0 PF fin => ?_
  refine Ex_cons (Ex_expr (Ev_meth "list.append" F.slot_list_append F.type_list_append (Ev_name rfl ⟨_, .hd, EvArgs_plain (Evs_cons (Ev_name rfl (Evs_nil (CallB_append (.head _) (by simp; walk_at "n") ?_))))⟩)))
  rw [lset_one]
  have e : xs.map f ++ [f x] = (xs ++ [x]).map f := by simp
  rw [e]
  refine Ex_cons (Ex_expr (Ev_def T.h8 rfl rfl rfl (Evs_cons (Ev_name rfl (Evs_cons (Ev_int (Evs_cons (Ev_bin (Ev_bi T.len rfl rfl rfl (Evs_cons (Ev_name rfl (Evs_nil (CallB_len .hd (by simp; walk_at "n") (Ev_int (Op2_sub (Evs_nil ?_))))))))))))))))
  have e2 : (((xs ++ [x]).map f).length : Int) - 1 = (xs.length : Nat) := by simp
  rw [e2]
  refine CallB_one (.head _) (Fn_siftdown T hlt (start := 0) (pos := xs.length) (x := x) (xs := xs ++ [x]) (by simp) (by simp; walk_at "n")) (by walk_at "n") ?_
  rw [lset_one]
  exact Ex_nil (fin _ _ [] rfl)

theorem lt20' {n : Nat} (h : n < 2 ^ 19) : n < 2 ^ 20 := by walk_at "n"
theorem Fn_heappop {g : Gx} (T : TX g) {f : α → D} {lt : α → α → Bool} (hlt : LtF f lt) {a : Addr} {ys : List α} {y : α} (hb : ys.length < 2 ^ 19) :
    Fn g 14 (.ref (faOf 2)) [.raw (.ref a)] [] [(a, (ys ++ [y]).map f)] (Is (f (hpop lt ys y).1) [(a, (hpop lt ys y).2.map f)]) := by
  refine Fn_i T.h2 T.lim (ρ0 := [("heap", .raw (.ref a))]) (bind1 fun _ => rfl) ["heap"] [] rfl (by kernel_rfl) (fun _ => rfl) rfl fun s0 X0 PF fin => ?_
  refine Ex_cons (Ex_assign (.inl rfl) (Ev_meth "list.pop" F.slot_list_pop F.type_list_pop (Ev_name rfl ⟨_, .hd, EvArgs_nil (CallB_pop (xs := ys.map f) (dx := f y) (by simp) (by simpa using hb) ?_)⟩)))
  rw [lset_one]
  refine Ex_cons (Ex_if (EvB.plain (Ev_name rfl (Op1B_list .hd (by simp; walk_at "n") ⟨fun h => ?_, fun h => ?_⟩))))
  · cases ys with
    | nil => cases h
    | cons z zs =>
      have hb' : (y :: zs).length < 2 ^ 20 := lt20' hb
      refine Ex_cons (Ex_assign (.inl rfl) (Ev_sub (Ev_name rfl (Ev_int (Op2_itemF (i := 0) (x := z) .hd rfl hb' ?_)))))
      refine Ex_cons (Ex_setN (Ev_name rfl (Ev_name rfl (Ev_int ⟨a, _, 0, rfl, rfl, .head _, Nat.zero_lt_succ _, by rw [List.length_map]; exact hb', ?_⟩))))
      rw [lset_one]
      refine Ex_cons (Ex_expr (Ev_def T.h9 rfl rfl rfl (Evs_cons (Ev_name rfl (Evs_cons (Ev_int (Evs_nil (CallB_one (.head _) (Fn_siftup T hlt (pos := 0) (x := y) (xs := y :: zs) rfl hb') (by walk_at "n") ?_))))))))
      rw [lset_one]
      exact Ex_cons (Ex_ret (Ev_name rfl (fin _ _ [] rfl)))
  · cases ys with
    | cons z zs => cases h
    | nil => exact Ex_nil (Ex_cons (Ex_ret (Ev_name rfl (fin _ _ [] rfl))))

theorem Fn_heapreplace {g : Gx} (T : TX g) {f : α → D} {lt : α → α → Bool} (hlt : LtF f lt) {a : Addr} {z : α} {zs : List α} {x : α} (hb : zs.length < 2 ^ 19) :
    Fn g 14 (.ref (faOf 3)) [.raw (.ref a), f x] [] [(a, (z :: zs).map f)] (Is (f z) [(a, (hrepl lt zs x).map f)]) := by
  refine Fn_i T.h3 T.lim (ρ0 := [("heap", .raw (.ref a)), ("item", f x)]) (bind2 fun _ _ => rfl) ["heap", "item"] [] rfl (by kernel_rfl) (fun _ => rfl) rfl fun s0 X0 PF fin => ?_
  refine Ex_cons (Ex_assign (.inl rfl) (Ev_sub (Ev_name rfl (Ev_int (Op2_itemF (i := 0) (x := z) .hd rfl (by simp; walk_at "n") ?_)))))
  refine Ex_cons (Ex_setN (Ev_name rfl (Ev_name rfl (Ev_int ⟨a, _, 0, rfl, rfl, .head _, by simp, by simp; walk_at "n", ?_⟩))))
  rw [lset_one]
  refine Ex_cons (Ex_expr (Ev_def T.h9 rfl rfl rfl (Evs_cons (Ev_name rfl (Evs_cons (Ev_int (Evs_nil ?_)))))))
  refine CallB_one (.head _) (Fn_siftup T hlt (pos := 0) (x := x) (xs := x :: zs) rfl (by simp; walk_at "n")) (by walk_at "n") ?_
  rw [lset_one]
  exact Ex_cons (Ex_ret (Ev_name rfl (fin _ _ [] rfl)))

theorem Fn_heapreplace_max {g : Gx} (T : TX g) {f : α → D} {lt : α → α → Bool} (hlt : LtF f lt) {a : Addr} {z : α} {zs : List α} {x : α} (hb : zs.length < 2 ^ 19) :
    Fn g 14 (.ref (faOf 6)) [.raw (.ref a), f x] [] [(a, (z :: zs).map f)] (Is (f z) [(a, (hrepl (fun x p => lt p x) zs x).map f)]) := by
  refine Fn_i T.h6 T.lim (ρ0 := [("heap", .raw (.ref a)), ("item", f x)]) (bind2 fun _ _ => rfl) ["heap", "item"] [] rfl (by kernel_rfl) (fun _ => rfl) rfl fun s0 X0 PF fin => ?_
  refine Ex_cons (Ex_assign (.inl rfl) (Ev_sub (Ev_name rfl (Ev_int (Op2_itemF (i := 0) (x := z) .hd rfl (by simp; walk_at "n") ?_)))))
  refine Ex_cons (Ex_setN (Ev_name rfl (Ev_name rfl (Ev_int ⟨a, _, 0, rfl, rfl, .head _, by simp, by simp; walk_at "n", ?_⟩))))
  rw [lset_one]
  refine Ex_cons (Ex_expr (Ev_def T.h11 rfl rfl rfl (Evs_cons (Ev_name rfl (Evs_cons (Ev_int (Evs_nil ?_)))))))
  refine CallB_one (.head _) (Fn_siftup_max T hlt (pos := 0) (x := x) (xs := x :: zs) rfl (by simp; walk_at "n")) (by walk_at "n") ?_
  rw [lset_one]
  exact Ex_cons (Ex_ret (Ev_name rfl (fin _ _ [] rfl)))
end Mine
end

noncomputable section
set_option genSizeOf false
set_option genInjectivity false
set_option Elab.async false
set_option linter.unusedVariables false
set_option maxRecDepth 10000
namespace Mine
open PySem PySem.Calls PyProof.Rows PySem.W

variable {α : Type}
theorem fdiv_nat (n k : Nat) : (n : Int).fdiv (k : Int) = ((n / k : Nat) : Int) := by
  rw [Int.fdiv_eq_ediv_of_nonneg _ (by walk_at "n")]; rfl
theorem rng_down {m j : Nat} {x : D} (h : (rng ((m : Int) - 1) (-1) m)[j]? = some x) : j < m ∧ x = .int ((m - 1 - j : Nat) : Int) := by
  obtain ⟨h1, h2⟩ := rng_get h
  refine ⟨h1, ?_⟩
  rw [h2]; congr 1; walk_at "n"
theorem rev_take_succ {m j : Nat} (h : j < m) : (List.range m).reverse.take (j + 1) = (List.range m).reverse.take j ++ [m - 1 - j] := by
  rw [List.take_add_one]
  congr 1
  have : (List.range m).reverse[j]? = some (m - 1 - j) := by
    rw [List.getElem?_reverse (by simpa using h)]
    simp
    rw [List.getElem?_range (by walk_at "n")]
  rw [this]; rfl
theorem hstep_at {lt : α → α → Bool} {ys : List α} {i : Nat} {x : α} (h : ys[i]? = some x) : hstep lt ys i = su lt x ys i := by unfold hstep; rw [h]
theorem rng_length (a s : Int) (n : Nat) : (rng a s n).length = n := by simp [rng]

/- heapify's first j turns -/
def hgo (lt : α → α → Bool) (xs : List α) (j : Nat) : List α := ((List.range (xs.length / 2)).reverse.take j).foldl (hstep lt) xs
theorem hgo_length (lt : α → α → Bool) (xs : List α) (j : Nat) : (hgo lt xs j).length = xs.length := foldl_hstep_length _ _ _
theorem hgo_succ {lt : α → α → Bool} {xs : List α} {j : Nat} {x : α} (hj : j < xs.length / 2) (h : (hgo lt xs j)[xs.length / 2 - 1 - j]? = some x) : hgo lt xs (j + 1) = su lt x (hgo lt xs j) (xs.length / 2 - 1 - j) := by
  unfold hgo at h ⊢
  rw [rev_take_succ hj, List.foldl_append, List.foldl_cons, List.foldl_nil, hstep_at h]
theorem hgo_all (lt : α → α → Bool) (xs : List α) : hgo lt xs (xs.length / 2) = hify lt xs := by
  unfold hgo hify; rw [List.take_of_length_le (by simp)]
inductive HfI (f : α → D) (lt : α → α → Bool) (a : Addr) (xs : List α) : Nat → Rho → Ls → Prop
  | mk (j : Nat) : HfI f lt a xs j [("x", .raw (.ref a)), ("n", .int (xs.length : Nat))] [(a, (hgo lt xs j).map f)]
theorem lt20 {n : Nat} (h : n < 2 ^ 19) : n < 2 ^ 20 := lt20' h
theorem half_in {n j : Nat} (h : j < n / 2) : n / 2 - 1 - j < n := by walk_at "n"

theorem Fn_heapify {g : Gx} (T : TX g) {f : α → D} {lt : α → α → Bool} (hlt : LtF f lt) {a : Addr} {xs : List α} (hb : xs.length < 2 ^ 19) :
    Fn g 18 (.ref (faOf 5)) [.raw (.ref a)] [] [(a, xs.map f)] (Is .none [(a, (hify lt xs).map f)]) := by
  refine Fn_i T.h5 T.lim (ρ0 := [("x", .raw (.ref a))]) (bind1 fun _ => rfl) ["x"] [] rfl (by kernel_rfl) (fun _ => rfl) rfl fun s0 X0 PF fin => ?_
  refine Ex_cons (Ex_assign (.inl rfl) (Ev_bi T.len rfl rfl rfl (Evs_cons (Ev_name rfl (Evs_nil (CallB_len .hd (by rw [List.length_map]; exact lt20 hb) ?_))))))
  rw [List.length_map]
  refine Ex_cons (Ex_for (k := 15) _ _ (HfI f lt a xs) _ (Ext.refl _)
    (EvI_rev (xs.length / 2) (Nat.lt_of_le_of_lt (Nat.div_le_self _ _) (Nat.lt_trans hb (by decide))) (Ev_glob T.reversed rfl rfl rfl ⟨rfl, Ev_glob T.range rfl rfl rfl ⟨rfl, Ev_bin (Ev_name rfl (Ev_int (Op2_div (by decide) ⟨congrArg D.int (fdiv_nat _ 2), .mk 0⟩ (PyProof.noPylong_small (by decide)))))⟩⟩))
    (fun _ _ _ _ => trivial) ?_ ?_)
  · rintro j x _ _ hx ⟨j⟩ s0' X0' Z0'
    obtain ⟨hj, rfl⟩ := rng_down hx
    have hl := hgo_length lt xs j
    have hi := List.getElem?_eq_getElem (Nat.lt_of_lt_of_eq (half_in hj) hl.symm)
    refine ⟨_, Asg_name (.inl rfl), ?_⟩
    refine Ex_cons (Ex_expr (Ev_def T.h9 rfl rfl rfl (Evs_cons (Ev_name rfl (Evs_cons (Ev_name rfl (Evs_nil (CallB_one (.head _) (Fn_siftup T hlt hi (by rw [hl]; exact lt20 hb)) (by walk_at "n") ?_))))))))
    rw [lset_one, ← hgo_succ hj hi]
    exact Ex_nil ⟨_, Ext.cons rfl (Ext.cons rfl (Ext.nil _)), .mk _⟩
  · rintro _ _ ⟨⟩
    rw [rng_length, hgo_all]
    exact Ex_nil (fin _ _ [] rfl)

theorem Fn_heapify_max {g : Gx} (T : TX g) {f : α → D} {lt : α → α → Bool} (hlt : LtF f lt) {a : Addr} {xs : List α} (hb : xs.length < 2 ^ 19) :
    Fn g 18 (.ref (faOf 7)) [.raw (.ref a)] [] [(a, xs.map f)] (Is .none [(a, (hify (fun x p => lt p x) xs).map f)]) := by
  refine Fn_i T.h7 T.lim (ρ0 := [("x", .raw (.ref a))]) (bind1 fun _ => rfl) ["x"] [] rfl (by kernel_rfl) (fun _ => rfl) rfl fun s0 X0 PF fin => ?_
  refine Ex_cons (Ex_assign (.inl rfl) (Ev_bi T.len rfl rfl rfl (Evs_cons (Ev_name rfl (Evs_nil (CallB_len .hd (by rw [List.length_map]; exact lt20 hb) ?_))))))
  rw [List.length_map]
  refine Ex_cons (Ex_for (k := 15) _ _ (HfI f (fun x p => lt p x) a xs) _ (Ext.refl _)
    (EvI_rev (xs.length / 2) (Nat.lt_of_le_of_lt (Nat.div_le_self _ _) (Nat.lt_trans hb (by decide))) (Ev_glob T.reversed rfl rfl rfl ⟨rfl, Ev_glob T.range rfl rfl rfl ⟨rfl, Ev_bin (Ev_name rfl (Ev_int (Op2_div (by decide) ⟨congrArg D.int (fdiv_nat _ 2), .mk 0⟩ (PyProof.noPylong_small (by decide)))))⟩⟩))
    (fun _ _ _ _ => trivial) ?_ ?_)
  · rintro j x _ _ hx ⟨j⟩ s0' X0' Z0'
    obtain ⟨hj, rfl⟩ := rng_down hx
    have hl := hgo_length (fun x p => lt p x) xs j
    have hi := List.getElem?_eq_getElem (Nat.lt_of_lt_of_eq (half_in hj) hl.symm)
    refine ⟨_, Asg_name (.inl rfl), ?_⟩
    refine Ex_cons (Ex_expr (Ev_def T.h11 rfl rfl rfl (Evs_cons (Ev_name rfl (Evs_cons (Ev_name rfl (Evs_nil (CallB_one (.head _) (Fn_siftup_max T hlt hi (by rw [hl]; exact lt20 hb)) (by walk_at "n") ?_))))))))
    rw [lset_one, ← hgo_succ hj hi]
    exact Ex_nil ⟨_, Ext.cons rfl (Ext.cons rfl (Ext.nil _)), .mk _⟩
  · rintro _ _ ⟨⟩
    rw [rng_length, hgo_all]
    exact Ex_nil (fin _ _ [] rfl)

section
variable {c : Cx} {k : Nat} {ρ : Rho} {ls : Ls} {P : D → Ls → Prop} {PF : Fl → Rho → Ls → Prop}
/- `x, o[i] = value` -/
theorem Ex_pair {x : Str} {px : Pos} {o i : Expr} {po : Pos} {x1 pos' value pos} (hx : StoreOk c x)
    (he : Ev c k (eval value c.env) ρ ls (fun d ls1 => ∃ d1 d2, d = .tup [d1, d2] ∧ Ev c k (eval o c.env) (upd ρ x d1) ls1 (fun od ls2 => Ev c k (eval i c.env) (upd ρ x d1) ls2 (fun id ls3 =>
      ∃ a xs, ∃ j : Nat, od = .raw (.ref a) ∧ id = .int j ∧ (a, xs) ∈ ls3 ∧ j < xs.length ∧ xs.length < 2 ^ 20 ∧ PF .next (upd ρ x d1) (lset ls3 a (xs.set j d2))))))
    (hs : swapsWithSole [.Tuple [.Name x px, .Subscript o i po] x1 pos'] value pos.line c.env = pure false := by rfl)
    (hw : swappedStores [.Tuple [.Name x px, .Subscript o i po] x1 pos'] value c.env = pure none := by rfl) : Ex c k (exec (.Assign [.Tuple [.Name x px, .Subscript o i po] x1 pos'] value pos) c.env) ρ ls PF := fun A s hA S => by
  refine Assign_Tuple (wpAny_mono (he A s hA S) ?_ fun _ _ x => x) hs hw
  rintro v s1 ⟨d, ls1, k1, S1, st1, r1, d1, d2, rfl, h1⟩
  rw [← Cx.X_keys (c := c) k1] at r1
  obtain ⟨t, vs, rfl, hx', ht, hr⟩ := r1
  have hz := hr.length
  rw [Array.length_toList] at hz
  refine wpAny_assign_Tuple hA.h ht (by rw [hz]; rfl) rfl fun h' hext => ?_
  have kp : Keep s1.heap h' := Keep.ext hext
  have S1' := S1.ext (s' := { s1 with heap := h' }) kp rfl rfl
  have hr' := RdL.stay kp.stay _ _ hr
  obtain ⟨w1, _, e1, r1, w2, _, e2, r2, e3⟩ := hr'
  rw [e1, e2, e3]
  show wpAny _ _ (do holding [w2] (assign (.Name x px) c.env w1); (do holding [] (assign (.Subscript o i po) c.env w2); pure ())) _ _ _
  refine wpAny_bind (wpAny_holding (wpAny_mono (Asg_name (k := k) hx A _ ls1 w1 hA S1' r1) ?_ fun _ _ x => x))
  rintro _ s2 ⟨S2, st2⟩
  have r2' := Rd.stay st2 _ _ r2
  refine wpAny_bind (wpAny_holding (kas_sub (wpAny_mono (h1 A s2 hA S2) ?_ fun _ _ x => x)))
  rintro ov s3 ⟨od, ls3, k3, S3, st3, r3, h3⟩
  refine wpAny_mono (h3 A s3 hA S3) ?_ fun _ _ x => x
  rintro iv s4 ⟨id, ls4, k4, S4, st4, r4, a, xs, j, rfl, rfl, hm, hj, hb, hp⟩
  cases r3
  obtain ⟨u, rfl⟩ := r4
  obtain ⟨us, n, hl, hr⟩ := S4.lists _ hm
  have hlen := hr.length
  simp at hlen
  have e3 := Cx.X_keys (c := c) k3
  have e4 := Cx.X_keys (c := c) (k4.trans k3)
  rw [e3] at st4
  have r2'' := Rd.stay (st3.trans st4) _ _ r2'
  rw [← e4] at r2''
  refine setItem_exact hl (by walk_at "n") (by walk_at "n") (by walk_at "n") (wpAny_pure ?_)
  refine ⟨.next, _, _, S4.setList hm hl.isList (hl.update _) (Heap.SameBut.update ..) (ys := xs.set j d2) ?_ rfl rfl, trivial, hp⟩
  simpa using RdL.set hr r2''
end

theorem Fn_heappushpop {g : Gx} (T : TX g) {f : α → D} {lt : α → α → Bool} (hlt : LtF f lt) {a : Addr} {xs : List α} {x : α} (hb : xs.length < 2 ^ 19) :
    Fn g 14 (.ref (faOf 4)) [.raw (.ref a), f x] [] [(a, xs.map f)] (Is (f (hpp lt xs x).1) [(a, (hpp lt xs x).2.map f)]) := by
  refine Fn_i T.h4 T.lim (ρ0 := [("heap", .raw (.ref a)), ("item", f x)]) (bind2 fun _ _ => rfl) ["heap", "item"] [] rfl (by kernel_rfl) (fun _ => rfl) rfl fun s0 X0 PF fin => ?_
  cases xs with
  | nil =>
    refine Ex_cons (Ex_if (EvB.and2 (EvB.plain (Ev_name rfl (Op1B_list .hd (Nat.pow_pos (by decide)) ⟨fun _ => ⟨(fun e => by cases e), fun _ => ?_⟩, fun h => by cases h⟩)))))
    exact Ex_nil (Ex_cons (Ex_ret (Ev_name rfl (fin _ _ [] rfl))))
  | cons z zs =>
    have hb' : (x :: zs).length < 2 ^ 20 := lt20 hb
    refine Ex_cons (Ex_if (EvB.and2 (EvB.plain (Ev_name rfl (Op1B_list .hd (by rw [List.length_map]; exact Nat.lt_trans hb (by decide)) ⟨(fun h => by cases h), fun _ => EvB.of_cmp (Ev_sub (Ev_name rfl (Ev_int (Op2_itemF (i := 0) (x := z) .hd rfl hb' (Ev_name rfl (Op2_ltF hlt ⟨_, rfl, fun hl => ?_, fun hl => ?_⟩))))))⟩)))))
    · refine Ex_cons (Ex_pair (.inl rfl) (Ev_tuple (Evs_cons (Ev_sub (Ev_name rfl (Ev_int (Op2_itemF (i := 0) (x := z) .hd rfl hb' (Evs_cons (Ev_name rfl (Evs_nil ⟨by simp [sizeLine_eq], _, _, rfl, Ev_name rfl (Ev_int ⟨a, _, 0, rfl, rfl, .head _, Nat.zero_lt_succ _, by rw [List.length_map]; exact hb', ?_⟩)⟩))))))))))
      rw [lset_one]
      refine Ex_cons (Ex_expr (Ev_def T.h9 rfl rfl rfl (Evs_cons (Ev_name rfl (Evs_cons (Ev_int (Evs_nil (CallB_one (.head _) (Fn_siftup T hlt (pos := 0) (x := x) (xs := x :: zs) rfl hb') (by walk_at "n") ?_))))))))
      rw [lset_one]
      rw [show hpp lt (z :: zs) x = (z, su lt x (x :: zs) 0) from if_pos hl] at fin
      exact Ex_nil (Ex_cons (Ex_ret (Ev_name rfl (fin _ _ [] rfl))))
    · rw [show hpp lt (z :: zs) x = (x, z :: zs) from if_neg (by rw [hl]; exact Bool.false_ne_true)] at fin
      exact Ex_nil (Ex_cons (Ex_ret (Ev_name rfl (fin _ _ [] rfl))))
end Mine
end

noncomputable section
set_option genSizeOf false
set_option genInjectivity false
set_option Elab.async false
set_option linter.unusedVariables false
namespace Mine
open PySem PySem.Calls PyProof.Rows PySem.W

/- calling d on x gives y, and nothing that stands is changed -/
def KeyIs (d x y : D) : Prop := ∀ (prog : Program) (w : World) (A : Around) (s : Shared) (X : List Addr) (v vx : Value), Room 8 A → s.heap.NoLimit → (∀ a ∈ X, ∃ o, s.heap.get? a = some o) → Rd X s.heap v d → Rd X s.heap vx x →
  wpAny (model prog w) A (call v [vx]) (fun r s' => Rd X s'.heap r y ∧ Keep s.heap s'.heap ∧ s'.gens = s.gens ∧ s'.os = s.os) No s

theorem KeyIs_lam {fd : FuncData} {e : Expr} {p : Str} {x y : D} (hbody : fd.body = .expr e) (hclo : fd.closure = []) (hbind : ∀ v, bindArgs fd ⟨[v], []⟩ = pure [(p, v)])
    (hkind : fd.scope.names.lookup p = some .local) (hcells : ∀ n, cellsFrom n fd.scope.names [] = []) (hk : fd.scope.kind = .function) (hco : fd.scope.isCoroutine = false) (hgen : fd.scope.isGenerator = false)
    (h : ∀ g s X q, Ev (cxOf fd q g s X []) 7 (eval e (cxOf fd q g s X []).env) [(p, x)] [] (fun d _ => d = y)) : KeyIs (.lam fd) x y := by
  rintro prog w A s X v vx hA hlim hlive ⟨q, o, cc, rfl, hqX, ho, hd, hcc, hcX, hcode⟩ rx
  refine wpAny_call (kla_callFunE hA.d ho hd hco hgen hbody hcode.rec ?_)
  refine BindsTo.of_eq (hbind vx) _ _ _ _ ?_
  rw [hclo]
  refine wpAny_newFunctionEnv_cells hk ?_ fun env he s' x => ?_
  · intro y hy
    rw [List.mem_singleton.mp hy]
    exact .inl hkind
  subst he
  refine ⟨hlim.keeps x.toInCall.keep, kla_codeExpr ?_⟩
  have H : Hp s.heap [] (fun _ => ("" : Str)) X [] s := ⟨fun _ _ e => e, hlive, (fun _ h => nomatch h), (fun _ h => nomatch h), (fun _ h => nomatch h), List.nodup_nil, (fun _ h => nomatch h)⟩
  have S := St_enter (g := ⟨prog, w, s.heap, [], fun _ => ("" : Str)⟩) (fa := q) (fd := fd) (ρ0 := [(p, _)]) H ⟨rfl, ⟨vx, [], rfl, rx, rfl⟩⟩ (by simp)
    (fun n z hz => by simp at hz; subst hz; exact .inl hkind) (fun n ca hca => by rw [hcells] at hca; cases hca) hk x
  refine wpAny_mono (h ⟨prog, w, s.heap, [], fun _ => ("" : Str)⟩ s X q _ s' hA.deeper S) ?_ (fun _ _ x => x.elim)
  rintro r s2 ⟨d, ls2, k2, S2, st2, r2, rfl⟩
  exact ⟨Rd.stay (Stay.sub fun a ha => List.mem_append_right _ ha) _ _ r2, fun a o e => S2.fm.nx.keep a o e (fun h => nomatch h), S2.fm.nx.gens, S2.fm.nx.os⟩

section
variable {c : Cx} {k : Nat} {ρ : Rho} {ls : Ls} {P : D → Ls → Prop}
theorem CallB_key {d x y : D} (hk : KeyIs d x y) (hlim : c.G.NoLimit) (h : P y ls) : CallB c (k+8) d [x] [] ρ ls P := by
  rintro A s v vs kvs hA S r ⟨vx, _, rfl, rx, rfl⟩ rk
  cases rk.nil
  refine wpAny_mono (hk c.prog c.w A s _ v vx (hA.mono (by walk_at "n")) (hlim.keeps S.fm.top) (fun a ha => S.live ha) r rx) ?_ fun _ _ x => x
  rintro r s' ⟨r1, kp, hg, ho⟩
  exact ⟨y, ls, rfl, S.ext kp hg ho, kp.stay, r1, h⟩
end
end Mine
end

noncomputable section
set_option genSizeOf false
set_option genInjectivity false
set_option Elab.async false
set_option linter.unusedVariables false
set_option maxRecDepth 10000
namespace Mine
open PySem PySem.Calls PyProof.Rows PySem.W

variable {α β : Type}
def brGo (p : α → Bool) (xs : List α) (lo hi : Nat) : Nat :=
  if h : lo < hi then
    match xs[(lo + hi) / 2]? with
    | some y => if p y then brGo p xs lo ((lo + hi) / 2) else brGo p xs ((lo + hi) / 2 + 1) hi
    | none => lo
  else lo
termination_by hi - lo

section
variable {c : Cx} {k : Nat} {ρ : Rho} {ls : Ls} {P : D → Ls → Prop}
/- a call of a name that holds a key -/
theorem Ev_key {x p pos} {e : Expr} {d dx y : D} (hx : ρ.lookup x = some d) (hl : ∃ fd, d = .lam fd) (hlim : c.G.NoLimit) (h : Ev c (k+8) (eval e c.env) ρ ls (fun d' ls1 => d' = dx ∧ KeyIs d dx y ∧ P y ls1)) (hd : (x == ("__debug__" : Str)) = false := by decide)
    (he : starEach [e] c.env = [(false, eval e c.env)] := by rfl) : Ev c (k+8) (eval (.Call (.Name x p) [e] [] pos) c.env) ρ ls P := by
  refine Ev_callN (Ev_name hx ⟨.inr (.inl hl), EvArgs_plain ?_ (by rw [he]; rfl)⟩ hd) (by rw [he]; rfl) rfl
  refine Evs_cons (h.mono ?_) (by rw [he]; rfl)
  rintro d' ls1 ⟨rfl, hk, hp⟩
  exact Evs_nil (CallB_key hk hlim hp)
end

theorem br_l {p : α → Bool} {xs : List α} {lo hi : Nat} {y : α} (h : lo < hi) (e : xs[(lo + hi) / 2]? = some y) (hp : p y = true) : brGo p xs lo hi = brGo p xs lo ((lo + hi) / 2) := by
  rw [brGo, dif_pos h]; simp only [e, hp, if_true]
theorem br_r {p : α → Bool} {xs : List α} {lo hi : Nat} {y : α} (h : lo < hi) (e : xs[(lo + hi) / 2]? = some y) (hp : p y = false) : brGo p xs lo hi = brGo p xs ((lo + hi) / 2 + 1) hi := by
  rw [brGo, dif_pos h]; simp only [e, hp, Bool.false_eq_true, if_false]
theorem br_end {p : α → Bool} {xs : List α} {lo hi : Nat} (h : ¬ lo < hi) : brGo p xs lo hi = lo := by rw [brGo, dif_neg h]

inductive BrI (f : α → D) (q : α → Bool) (a : Addr) (xs : List α) (bd kd : D) : Nat → Rho → Ls → Prop
  | mk (lo hi : Nat) (hh : hi ≤ xs.length) (hbr : brGo q xs lo hi = brGo q xs 0 xs.length) : BrI f q a xs bd kd (hi - lo) [("a", .raw (.ref a)), ("x", bd), ("lo", .int (lo : Nat)), ("hi", .int (hi : Nat)), ("key", kd)] [(a, xs.map f)]
theorem br_mid {lo hi n : Nat} (h : lo < hi) (hh : hi ≤ n) : (lo + hi) / 2 < n := by walk_at "n"
theorem br_dl {lo hi : Nat} (h : lo < hi) : (lo + hi) / 2 - lo < hi - lo := by walk_at "n"
theorem br_dr {lo hi : Nat} (h : lo < hi) : hi - ((lo + hi) / 2 + 1) < hi - lo := by walk_at "n"
theorem br_le {lo hi n : Nat} (h : lo < hi) (hh : hi ≤ n) : (lo + hi) / 2 ≤ n := by walk_at "n"

theorem Fn_bisect {g : Gx} (T : TX g) {f : α → D} {κ : α → β} {fk : β → D} {lt : β → β → Bool} (hlt : LtF fk lt) {fd : FuncData} (hkey : ∀ x, KeyIs (.lam fd) (f x) (fk (κ x))) {a : Addr} {xs : List α} {b : β} (hb : xs.length < 2 ^ 19) :
    Fn g 14 (.ref (faOf 15)) [.raw (.ref a), fk b, .int 0, .none] [("key", .lam fd)] [(a, xs.map f)] (Is (.int (brGo (fun y => lt b (κ y)) xs 0 xs.length : Nat)) [(a, xs.map f)]) := by
  refine Fn_i T.h15 T.lim (ρ0 := [("a", .raw (.ref a)), ("x", fk b), ("lo", .int 0), ("hi", .none), ("key", .lam fd)]) ?_ ["a", "x", "lo", "hi", "key"] [] rfl (by kernel_rfl) (fun _ => rfl) rfl fun s0 X0 PF fin => ?_
  · rintro s X vs kvs hk _ ⟨v0, _, rfl, r0, v1, _, rfl, r1, v2, _, rfl, r2, v3, _, rfl, r3, rfl⟩ rk
    obtain ⟨v, rfl, r4⟩ := rk.one'
    obtain ⟨od, nd, h1, h2⟩ := T.hd15
    exact ⟨_, BindsTo.of_defaults rfl (hk _ _ h1) h2 rfl rfl, rfl, v0, _, rfl, r0, v1, _, rfl, r1, v2, _, rfl, r2, v3, _, rfl, r3, v, _, rfl, r4, rfl⟩
  refine Ex_cons (Ex_if (EvB.of_cmp (Ev_name rfl (Ev_int (Op2_lt ⟨_, rfl, (fun h => by cases h), fun _ => Ex_nil ?_⟩)))))
  refine Ex_cons (Ex_if (EvB.of_cmp (Ev_name rfl (Ev_none (Op2_isNone true (.inl ⟨rfl, rfl⟩) ⟨_, rfl, fun _ => ?_, fun h => by cases h⟩)))))
  refine Ex_cons (Ex_assign (.inl rfl) (Ev_bi T.len rfl rfl rfl (Evs_cons (Ev_name rfl (Evs_nil (CallB_len .hd (by rw [List.length_map]; exact lt20 hb) (Ex_nil ?_)))))))
  rw [List.length_map]
  refine Ex_cons (Ex_if (EvB.of_cmp (Ev_name rfl (Ev_none (Op2_isNone false (.inr ⟨.inr (.inr (.inl ⟨_, rfl⟩)), rfl⟩) ⟨_, rfl, (fun h => by cases h), fun _ => ?_⟩)))))
  refine Ex_cons (Ex_while (BrI f (fun y => lt b (κ y)) a xs (fk b) (.lam fd)) ?_ _ _ (Ext.refl _) ⟨0, xs.length, Nat.le_refl _, rfl⟩)
  rintro _ _ _ ⟨lo, hi, hh, hbr⟩
  refine EvB.of_cmp (Ev_name rfl (Ev_name rfl (Op2_lt ⟨_, rfl, fun h => ?_, fun h => ?_⟩)))
  · have hlh : lo < hi := cast_lt h rfl
    have hm := List.getElem?_eq_getElem (br_mid hlh hh)
    refine Ex_cons (Ex_assign (.inl rfl) (Ev_bin (Ev_bin (Ev_name rfl (Ev_name rfl (Op2_add (Ev_int (Op2_div (by decide) ?_ (PyProof.noPylong_small (by decide))))))))))
    rw [show (lo : Int) + (hi : Int) = ((lo + hi : Nat) : Int) from rfl, show (2 : Int) = ((2 : Nat) : Int) from rfl, fdiv_nat]
    refine Ex_cons (Ex_if (EvB.of_cmp (Ev_name rfl (Ev_key (k := 5) rfl ⟨_, rfl⟩ T.lim (Ev_sub (Ev_name rfl (Ev_name rfl (Op2_itemF .hd hm (lt20 hb) ⟨rfl, hkey _, Op2_ltF hlt ⟨_, rfl, fun h2 => ?_, fun h2 => ?_⟩⟩))))))))
    · refine Ex_cons (Ex_assign (.inl rfl) (Ev_name rfl ?_))
      exact Ex_nil (Ex_nil ⟨_, _, br_dl hlh, Ext.cons rfl (Ext.cons rfl (Ext.cons rfl (Ext.cons rfl (Ext.cons rfl (Ext.nil _))))), _, _, br_le hlh hh, (br_l hlh hm h2).symm.trans hbr⟩)
    · refine Ex_cons (Ex_assign (.inl rfl) (Ev_bin (Ev_name rfl (Ev_int (Op2_add ?_)))))
      exact Ex_nil (Ex_nil ⟨_, _, br_dr hlh, Ext.cons rfl (Ext.cons rfl (Ext.cons rfl (Ext.cons rfl (Ext.cons rfl (Ext.nil _))))), _, _, hh, (br_r hlh hm h2).symm.trans hbr⟩)
  · rw [br_end (cast_nlt h rfl)] at hbr
    rw [← hbr] at fin
    exact Ex_nil (Ex_nil (Ex_cons (Ex_ret (Ev_name rfl (fin _ _ [] rfl)))))

theorem brGo_le (p : α → Bool) (xs : List α) (lo hi : Nat) (h : lo ≤ hi) : brGo p xs lo hi ≤ hi := by
  fun_induction brGo p xs lo hi with
  | case1 lo hi h' y e hp ih => have := ih (by walk_at "n"); walk_at "n"
  | case2 lo hi h' y e hp ih => exact ih (by walk_at "n")
  | case3 => walk_at "n"
  | case4 => walk_at "n"

def insR (κ : α → β) (lt : β → β → Bool) (xs : List α) (x : α) : List α := xs.take (brGo (fun y => lt (κ x) (κ y)) xs 0 xs.length) ++ x :: xs.drop (brGo (fun y => lt (κ x) (κ y)) xs 0 xs.length)

theorem Fn_insort {g : Gx} (T : TX g) {f : α → D} {κ : α → β} {fk : β → D} {lt : β → β → Bool} (hlt : LtF fk lt) {fd : FuncData} (hkey : ∀ x, KeyIs (.lam fd) (f x) (fk (κ x))) {a : Addr} {xs : List α} {x : α} (hb : xs.length < 2 ^ 19) :
    Fn g 16 (.ref (faOf 14)) [.raw (.ref a), f x] [("key", .lam fd)] [(a, xs.map f)] (Is .none [(a, (insR κ lt xs x).map f)]) := by
  refine Fn_i T.h14 T.lim (ρ0 := [("a", .raw (.ref a)), ("x", f x), ("lo", .int 0), ("hi", .none), ("key", .lam fd)]) ?_ ["a", "x", "lo", "hi", "key"] [] rfl (by kernel_rfl) (fun _ => rfl) rfl fun s0 X0 PF fin => ?_
  · rintro s X vs kvs hk _ ⟨v0, _, rfl, r0, v1, _, rfl, r1, rfl⟩ rk
    obtain ⟨v, rfl, r4⟩ := rk.one'
    obtain ⟨od, nd, h1, h2⟩ := T.hd14
    exact ⟨[("a", v0), ("x", v1), ("lo", .int 0 308), ("hi", .none), ("key", v)], BindsTo.of_defaults rfl (hk _ _ h1) h2 rfl rfl, rfl, v0, _, rfl, r0, v1, _, rfl, r1, _, _, rfl, ⟨_, rfl⟩, _, _, rfl, rfl, v, _, rfl, r4, rfl⟩
  refine Ex_cons (Ex_if (EvB.of_cmp (Ev_name rfl (Ev_none (Op2_isNone false (.inr ⟨.inr (.inr (.inl ⟨_, rfl⟩)), rfl⟩) ⟨_, rfl, (fun h => by cases h), fun _ => ?_⟩)))))
  obtain ⟨o', ho', hd'⟩ := T.h15.at_
  refine Ex_cons (Ex_assign (.inl rfl) (Ev_callN (Ev_glob T.h15.gl rfl rfl rfl ⟨.inl ⟨_, _, _, rfl, ho', hd'⟩, EvArgs_kw [("key" : Str)] (Evs_cons (Ev_name rfl (Evs_cons (Ev_key (k := 7) rfl ⟨_, rfl⟩ T.lim (Ev_name rfl ⟨rfl, hkey x, Evs_cons (Ev_name rfl (Evs_cons (Ev_name rfl (Evs_nil (EvKs_cons (Ev_name rfl (EvKs_nil ⟨rfl, ?_⟩)))))))⟩)))))⟩)))
  refine CallF.callB (Call_one (.head _) (Fn_bisect T hlt hkey (b := κ x) hb) (by walk_at "n") ?_)
  rw [lset_one]
  refine Ex_nil (Ex_cons (Ex_expr (Ev_meth "list.insert" F.slot_list_insert F.type_list_insert (Ev_name rfl ⟨_, .hd, EvArgs_plain (Evs_cons (Ev_name rfl (Evs_cons (Ev_name rfl (Evs_nil (CallB_insert (.head _) (by rw [List.length_map]; exact brGo_le _ xs 0 xs.length (Nat.zero_le _)) (by rw [List.length_map]; exact lt20 hb) ?_))))))⟩))))
  rw [lset_one, ← List.map_take, ← List.map_drop, ← List.map_cons, ← List.map_append]
  exact Ex_nil (fin _ _ [] rfl)
end Mine
end

noncomputable section
set_option genSizeOf false
set_option genInjectivity false
set_option Elab.async false
set_option linter.unusedVariables false
set_option maxRecDepth 10000
namespace Mine
open PySem PySem.Calls PyProof.Rows PySem.W

section
variable {c : Cx} {k : Nat} {ρ : Rho} {ls : Ls} {P : D → Ls → Prop}

/- a table of the frame's grows -/
theorem St.tab {s s' : Shared} {q : Addr × Addr} (S : St c ρ ls s) (hq : q ∈ c.tabs) (hx : Heap.ExtBut q.2 s.heap s'.heap) (hok : TabOk (c.qual q.2) q.2 (c.X ls) s'.heap) (hg : s'.gens = s.gens) (ho : s'.os = s.os) :
    St c ρ ls s' ∧ Stay (c.X ls) (c.X ls) s.heap s'.heap := by
  have F := S.fm
  have pX : q.2 ∈ c.X0 := F.sub _ (F.tabs q hq).1
  have keep : ∀ a o, a ≠ q.2 → s.heap.get? a = some o → s'.heap.get? a = some o := fun a o ha e => hx a o ha e
  have st : Stay (c.X ls) (c.X ls) s.heap s'.heap := fun a o hx e _ => ⟨hx, keep a o (fun h => hx (List.mem_append_right _ (h ▸ pX))) e⟩
  have own : ∀ a ∈ c.own ls, a ≠ q.2 := fun a ha e => (F.tabs q hq).2.2 (e ▸ ha)
  have kcell : ∀ ca v, s.heap.IsCell ca v → s'.heap.IsCell ca v := fun ca v hc => by
    obtain ⟨o, e, hd⟩ := id hc
    exact ⟨o, keep ca o (fun h => ne_of_tab_cell (F.grown q hq) hc h.symm) e, hd⟩
  refine ⟨{
    fm := {
      top := fun a o e => keep a o (fun h => by rw [h, (F.tabs q hq).2.1] at e; cases e) (F.top a o e)
      nx := ⟨fun a o e hn => keep a o (fun h => hn (h ▸ (F.tabs q hq).1)) (F.nx.keep a o e hn), hg.trans F.nx.gens, ho.trans F.nx.os⟩
      mine := fun a ha => ⟨(F.mine a ha).1, (F.mine a ha).2.1, let ⟨o, e⟩ := (F.mine a ha).2.2; ⟨o, keep a o (own a ha) e⟩⟩
      apart := F.apart
      old := fun a ha => by
        by_cases h : a = q.2
        · obtain ⟨ps, e, _⟩ := hok; exact ⟨_, h ▸ e⟩
        · obtain ⟨o, e⟩ := F.old a ha; exact ⟨o, keep a o h e⟩
      sub := F.sub
      tabs := F.tabs
      grown := fun r hr => by
        by_cases h : r.2 = q.2
        · rw [h]; exact hok
        · exact (F.grown r hr).stay (fun o e => keep _ _ h e) st }
    fn := S.fn
    inj := S.inj
    cells := fun ca hc => let ⟨v, e⟩ := S.cells ca hc; ⟨v, kcell _ _ e⟩
    names := by
      obtain ⟨m, hm, hn⟩ := S.names
      refine ⟨m, ?_, fun x d hx => ?_⟩
      · obtain ⟨o, es, ep, h1, h2⟩ := hm
        exact ⟨o, es, ep, keep _ _ (own _ Cx.loc_own) h1, h2⟩
      · obtain ⟨v, r, i⟩ := hn x d hx
        exact ⟨v, Rd.stay st _ _ r, i.keep fun ca _ e => kcell _ _ e⟩
    lists := fun p hp => by
      obtain ⟨vs, n, h1, h3⟩ := S.lists p hp
      exact ⟨vs, n, keep _ _ (own _ (Cx.key_own (List.mem_map_of_mem hp))) h1, RdL.stay st _ _ h3⟩ }, st⟩

theorem codeAmong_snoc' {pos pos' : Pos} {cv cv' : Value} : ∀ (l : List Value), TriplesOk l → codeAmong pos (l ++ [rawInt pos'.line, rawInt pos'.col, cv]) = some cv' → codeAmong pos l = some cv' ∨ cv' = cv
  | [], _, h => by
    simp only [List.nil_append, rawInt] at h
    unfold codeAmong at h
    split at h
    · cases h; exact .inr rfl
    · simp [codeAmong] at h
  | .int a b :: .int d e :: x :: r, ht, h => by
    simp only [List.cons_append] at h
    unfold codeAmong at h ⊢
    split at h
    · rename_i hc; rw [if_pos hc]; exact .inl h
    · rename_i hc
      rw [if_neg hc]
      exact codeAmong_snoc' r ht h

theorem triples_snoc (a b x : Value) (l : List Value) (ha : ∃ i t, a = .int i t) (hb : ∃ i t, b = .int i t) : TriplesOk l → TriplesOk (l ++ [a, b, x]) := by
  obtain ⟨i, t, rfl⟩ := ha
  obtain ⟨j, u, rfl⟩ := hb
  intro h
  induction l using TriplesOk.induct with
  | case1 => exact trivial
  | case2 _ _ _ _ _ r ih => exact ih h
  | case3 l h1 h2 => 
    exfalso
    unfold TriplesOk at h
    split at h
    · exact h1 rfl
    · exact h2 _ _ _ _ _ _ rfl
    · exact h

/- a lambda -/
theorem Ev_lambda {params : Arguments} {body : Expr} {scope : Scope} {pos : Pos} {cc Pt : Addr} {mg : Str → Option Value} (hq : (cc, Pt) ∈ c.tabs) (hcode : c.env.code = .ref cc) (C : CodeHd c.G cc Pt) (hqual : c.qual Pt = c.env.qual ++ "<lambda>")
    (hg : c.G.Ns mainGlobals mg) (hb : c.G.BuiltinsAt mg Pt) (hge : c.env.globals = mainGlobals) (hbe : c.env.builtins = builtinsNs)
    (h : ∀ pm cv ctv, P (.lam (kla_fn "<lambda>" (c.env.qual ++ "<lambda>") params body scope [] pm cv ctv)) ls)
    (hdef : defaultsOf params c.env = ([], []) := by rfl) (hcl : closureFor scope c.env = pure [] := by rfl) :
    Ev c k (eval (.Lambda params body scope pos) c.env) ρ ls P := fun A s hA S => by
  have F := S.fm
  obtain ⟨ps, hP, ht, hcodes⟩ := F.grown _ hq
  have hgs := hg.keeps F.top
  have hbs : s.heap.BuiltinsAt mg Pt := hb.keeps F.top
  have Cs := C.keeps F.top
  have hgP : mainGlobals ≠ Pt := fun e => by
    obtain ⟨o, es, ep, e', hd, _⟩ := hgs
    rw [e, hP] at e'; cases e'; cases hd
  refine kla_eval hdef ?_
  rw [makeFunction_eq]
  simp only [List.zip_nil_right, List.filterMap_nil, List.isEmpty_nil, if_true, pure_bind]
  cases hf : codeAmong pos ps.toList with
  | some cv =>
    refine kla_makeTailHit hcl hge hgs hcode Cs hP ht hf hbs fun ctv h' tk hk hsz => ?_
    obtain ⟨c', rfl, hcX, hca⟩ := hcodes pos cv hf
    have kp : Keep s.heap (h'.push { cls := .type "function", data := .func (kla_fn "<lambda>" (c.env.qual ++ "<lambda>") params body scope [] ((mg "__name__").getD .none) (.ref c') ctv) }) := fun a o e => Heap.get?_push_of_some _ (hk a o e)
    refine ⟨.lam _, ls, rfl, S.ext (s' := { s with heap := _, toks := tk }) kp rfl rfl, kp.stay, ⟨h'.objs.size, _, c', rfl, fun hin => ?_, Heap.get?_push_size _ rfl, rfl, rfl, hcX, ?_⟩, h _ _ _⟩
    · obtain ⟨o, e⟩ := S.live hin
      exact Nat.lt_irrefl _ (Heap.lt_size (hk _ _ e))
    · rw [hqual] at hca
      obtain ⟨c2, o2, vs, t, e1, e2, e3, e4, e5⟩ := hca
      exact ⟨c2, o2, vs, t, e1, kp _ _ e2, e3, e4, e5⟩
  | none =>
    obtain ⟨bm, ob, hbm, hne0, _, hneP, hbo, hcls, hdict, hdata⟩ := hbs
    unfold makeTail
    rw [hcl, hge]
    refine wpAny_bind (wpAny_pure ?_)
    simp only [List.isEmpty_nil, if_true]
    refine wpAny_bind (wpAny_pure ?_)
    refine wpAny_bind (wpAny_functionCodeX hcode (Cs.code hP ht) (Cs.tab hP) hf fun c' h' tk hx hge' hlt _ hrec htb hP' => ?_)
    have hg' := hgs.extBut hx hgP
    rw [hbe]
    refine wpAny_bind (wpAny_builtinsFor hg' hbm hne0 (hx _ _ hneP hbo) hcls hdict hdata ?_)
    refine wpAny_bind (wpAny_nsGet hg' ?_)
    refine wpAny_bind (wpAny_pure (wpAny_newObj_type ?_ (by size_fits)))
    have hfresh : ∀ a, s.heap.objs.size ≤ a → a ∉ c.X ls := fun a ha hin => by
      obtain ⟨o, e⟩ := S.live hin
      exact Nat.lt_irrefl _ (Nat.lt_of_lt_of_le (Heap.lt_size e) ha)
    have hca' : CodeAtQ h' (.ref c') (c.env.qual ++ "<lambda>") := by
      obtain ⟨P', _, _, ⟨⟨o1, v1, e1, e2, e3, _⟩, _⟩⟩ := hP'
      obtain ⟨c2, o2, vs, t, e4, e5, e6, e7⟩ := hrec
      cases e4
      rw [e1] at e5; cases e5
      exact ⟨c', o1, vs, t, rfl, e1, e2, e6, e7⟩
    have hnP : ∀ a o, s.heap.get? a = some o → o.cls = .type "code" → a ≠ Pt := fun a o e hc hh => by
      rw [hh, hP] at e; cases e; cases hc
    have hok : TabOk (c.qual Pt) Pt (c.X ls) h' := by
      refine ⟨_, htb.2, ?_, fun pos' cv' e => ?_⟩
      · rw [Array.toList_append]
        exact triples_snoc _ _ _ _ ⟨_, _, rfl⟩ ⟨_, _, rfl⟩ ht
      · rw [Array.toList_append] at e
        rcases codeAmong_snoc' _ ht e with h1 | h1
        · obtain ⟨c2, e2, hx2, c3, o3, vs, t, e3, e4, e5, e6, e7⟩ := hcodes pos' cv' h1
          rw [e2] at e3; cases e3
          exact ⟨c2, e2, hx2, c2, o3, vs, t, e2, hx _ _ (hnP _ _ e4 e5) e4, e5, e6, e7⟩
        · rw [h1, hqual]; exact ⟨c', rfl, hfresh _ hge', hca'⟩
    obtain ⟨S1, st1⟩ := S.tab (s' := { s with heap := h', toks := tk }) hq hx hok rfl rfl
    have kp := Keep.push h' { cls := .type "function", data := .func (kla_fn "<lambda>" (c.env.qual ++ "<lambda>") params body scope [] ((mg "__name__").getD .none) (.ref c') .none) }
    refine ⟨.lam _, ls, rfl, S1.ext (s' := { s with heap := _, toks := tk }) kp rfl rfl, st1.trans kp.stay, ⟨h'.objs.size, _, c', rfl, fun hin => ?_, Heap.get?_push_size _ rfl, rfl, rfl, hfresh _ hge', ?_⟩, h _ _ _⟩
    · obtain ⟨o, e⟩ := S1.live hin
      exact Nat.lt_irrefl _ (Heap.lt_size e)
    · obtain ⟨c2, o2, vs, t, e1, e2, e3, e4, e5⟩ := hca'
      exact ⟨c2, o2, vs, t, e1, kp _ _ e2, e3, e4, e5⟩
end
end Mine
end

noncomputable section
set_option genSizeOf false
set_option genInjectivity false
set_option Elab.async false
set_option linter.unusedVariables false
namespace Mine
open PySem PySem.Calls PyProof.Rows PySem.W

/- the answers are given by b -/
def krun {α : Type} (b : Nat → Nat → Bool) : KasT α → α
  | .ret a => a
  | .ask i j k => krun b (k (b i j))
/- on the way of these answers only things below N are asked for -/
def kok {α : Type} (N : Nat) (b : Nat → Nat → Bool) : KasT α → Prop
  | .ret _ => True
  | .ask i j k => i < N ∧ j < N ∧ kok N b (k (b i j))
theorem kok_wp {α : Type} {N : Nat} {b : Nat → Nat → Bool} {cmp : Nat → Nat → (Bool → Shared → Prop) → Shared → Prop} {s : Shared} (hc : ∀ i j C, i < N → j < N → C (b i j) s → cmp i j C s) {Q : α → Shared → Prop} (t : KasT α) (h1 : kok N b t) (h2 : Q (krun b t) s) : t.kasWp cmp Q s := by
  induction t with
  | ret _ => exact h2
  | ask i j k ih => exact hc i j _ h1.1 h1.2.1 (ih (b i j) h1.2.2 h2)
/- both at once -/
def kwp {α : Type} (N : Nat) (b : Nat → Nat → Bool) (Q : α → Prop) : KasT α → Prop
  | .ret a => Q a
  | .ask i j k => i < N ∧ j < N ∧ kwp N b Q (k (b i j))
theorem kwp_bind {α β : Type} {N : Nat} {b : Nat → Nat → Bool} {Q : β → Prop} {f : α → KasT β} (t : KasT α) (h : kwp N b (fun a => kwp N b Q (f a)) t) : kwp N b Q (t.bind f) := by
  induction t with
  | ret _ => exact h
  | ask i j k ih => exact ⟨h.1, h.2.1, ih (b i j) h.2.2⟩
theorem kwp_mono {α : Type} {N : Nat} {b : Nat → Nat → Bool} {Q Q' : α → Prop} (hq : ∀ a, Q a → Q' a) (t : KasT α) (h : kwp N b Q t) : kwp N b Q' t := by
  induction t with
  | ret a => exact hq a h
  | ask i j k ih => exact ⟨h.1, h.2.1, ih (b i j) h.2.2⟩
theorem kwp_out {α : Type} {N : Nat} {b : Nat → Nat → Bool} {Q : α → Prop} (t : KasT α) (h : kwp N b Q t) : Q (krun b t) ∧ kok N b t := by
  induction t with
  | ret a => exact ⟨h, trivial⟩
  | ask i j k ih => exact ⟨(ih (b i j) h.2.2).1, h.1, h.2.1, (ih (b i j) h.2.2).2⟩

/- a strict weak order -/
structure Swo (b : Nat → Nat → Bool) : Prop where
  irr : ∀ i, b i i = false
  asym : ∀ i j, b i j = true → b j i = false
  ntr : ∀ i j k, b i j = false → b j k = false → b i k = false

theorem Swo.lt_of_lt_le {b : Nat → Nat → Bool} (h : Swo b) {i j k : Nat} (h1 : b i j = true) (h2 : b k j = false) : b i k = true := by
  cases e : b i k with
  | true => rfl
  | false => exact absurd h1 (by rw [h.ntr i k j e h2]; exact Bool.false_ne_true)
theorem Swo.lt_of_le_lt {b : Nat → Nat → Bool} (h : Swo b) {i j k : Nat} (h1 : b j i = false) (h2 : b j k = true) : b i k = true := by
  cases e : b i k with
  | true => rfl
  | false => exact absurd h2 (by rw [h.ntr j i k h1 e]; exact Bool.false_ne_true)

/- in order, equals as they came -/
def Rr (b : Nat → Nat → Bool) (i j : Nat) : Prop := b j i = false ∧ (b i j = false → i < j)
theorem Swo.rr {b : Nat → Nat → Bool} (h : Swo b) {i j : Nat} (h1 : b i j = true) : Rr b i j := ⟨h.asym _ _ h1, fun e => by rw [e] at h1; cases h1⟩

def at' (p : Array Nat) (i : Nat) : Nat := p.getD i 0
theorem at_of {p q : Array Nat} {i j : Nat} (h : p[i]? = q[j]?) : at' p i = at' q j := by
  unfold at'; rw [Array.getD_eq_getD_getElem?, Array.getD_eq_getD_getElem?, h]
section
variable {p : Array Nat} {i j k : Nat}
theorem rev_in (hj : j ≤ p.size) (h1 : i ≤ k) (h2 : k < j) : at' (kas_rev p i j) k = at' p (i + j - 1 - k) :=
  at_of ((getElem?_mirror_all (xs := p) (i := i) (j := j) hj k).trans (if_pos ⟨h1, h2⟩))
theorem rev_lo (hj : j ≤ p.size) (h1 : k < i) : at' (kas_rev p i j) k = at' p k :=
  at_of ((getElem?_mirror_all (xs := p) (i := i) (j := j) hj k).trans (if_neg fun h => Nat.not_le_of_lt h1 h.1))
theorem rev_hi (hj : j ≤ p.size) (h1 : j ≤ k) : at' (kas_rev p i j) k = at' p k :=
  at_of ((getElem?_mirror_all (xs := p) (i := i) (j := j) hj k).trans (if_neg fun h => Nat.not_lt_of_le h1 h.2))
theorem mir_lo {c n : Nat} (h : k < n) : c ≤ c + n - 1 - k := by walk_at "n"
theorem mir_hi {c n : Nat} (h : c ≤ k) (hn : k < n) : c + n - 1 - k < n := by walk_at "n"
theorem mir_lt {c n : Nat} (h : i < j) (hj : j < n) : c + n - 1 - j < c + n - 1 - i := by walk_at "n"
theorem mir_end {c n : Nat} (h : c < n) : c + n - 1 - (n - 1) = c := by walk_at "n"
theorem bub_at {l : Nat} (hk : k < p.size) (hl : l ≤ k) (i : Nat) : (bubble p k (k - l))[i]? = if i = l then p[k]? else if l < i ∧ i ≤ k then p[i - 1]? else p[i]? := by
  have e := getElem?_bubble hk (k - l) (Nat.sub_le _ _) i
  rwa [Nat.sub_sub_self hl] at e
theorem bub_eq (hk : k < p.size) (hl : i ≤ k) : at' (bubble p k (k - i)) i = at' p k := at_of ((bub_at hk hl i).trans (if_pos rfl))
theorem bub_mid {l : Nat} (hk : k < p.size) (h1 : l < i) (h2 : i ≤ k) : at' (bubble p k (k - l)) i = at' p (i - 1) :=
  at_of ((bub_at hk (Nat.le_trans (Nat.le_of_lt h1) h2) i).trans ((if_neg (Nat.ne_of_gt h1)).trans (if_pos ⟨h1, h2⟩)))
theorem bub_lo {l : Nat} (hk : k < p.size) (hl : l ≤ k) (h1 : i < l) : at' (bubble p k (k - l)) i = at' p i :=
  at_of ((bub_at hk hl i).trans ((if_neg (Nat.ne_of_lt h1)).trans (if_neg fun h => Nat.lt_asymm h1 h.1)))
theorem bub_hi {l : Nat} (hk : k < p.size) (hl : l ≤ k) (h1 : k < i) : at' (bubble p k (k - l)) i = at' p i :=
  at_of ((bub_at hk hl i).trans ((if_neg (Nat.ne_of_gt (Nat.lt_of_le_of_lt hl h1))).trans (if_neg fun h => Nat.not_lt_of_le h.2 h1)))
end
theorem lt_or {i n : Nat} (h : i < n + 1) : i < n ∨ i = n := Nat.lt_succ_iff_lt_or_eq.mp h
theorem lt_or' {i n : Nat} (h : i < n) : i < n - 1 ∨ i = n - 1 := Nat.lt_or_eq_of_le (Nat.le_pred_of_lt h)
theorem pred_lt' {n : Nat} (h : 1 ≤ n) : n - 1 < n := Nat.sub_lt h Nat.one_pos
theorem ar1 {n f t : Nat} (h : n + (f + 1) = t) : n < t := by walk_at "n"
theorem ar2 {n f t : Nat} (h : n + (f + 1) = t) : n + 1 + f = t := by walk_at "n"

/- the first n places are the first n things, the rest is untouched -/
structure Pre (N : Nat) (p : Array Nat) (n : Nat) : Prop where
  size : p.size = N
  le : n ≤ N
  perm : p.toList.Perm (List.range N)
  rest : ∀ k, n ≤ k → k < N → at' p k = k
  low : ∀ k, k < n → at' p k < n
section
variable {N : Nat} {p : Array Nat} {n : Nat}
theorem Pre.rev {i j : Nat} (h : Pre N p n) (hj : j ≤ n) : Pre N (kas_rev p i j) n := by
  have hs : j ≤ p.size := by rw [h.size]; exact Nat.le_trans hj h.le
  refine ⟨(kas_rev_size i j).trans h.size, h.le, (Array.perm_iff_toList_perm.mp (mirror_perm ..)).trans h.perm, fun k h1 h2 => ?_, fun k hk => ?_⟩
  · rw [rev_hi hs (Nat.le_trans hj h1)]; exact h.rest k h1 h2
  · by_cases h1 : k < i
    · rw [rev_lo hs h1]; exact h.low k hk
    · by_cases h2 : k < j
      · rw [rev_in hs (Nat.le_of_not_lt h1) h2]
        exact h.low _ (Nat.lt_of_lt_of_le (mir_hi (Nat.le_of_not_lt h1) h2) hj)
      · rw [rev_hi hs (Nat.le_of_not_lt h2)]; exact h.low k hk
theorem Pre.lt (h : Pre N p n) (hn : n < N) {i : Nat} (hi : i ≤ n) : at' p i < n + 1 := by
  rcases Nat.lt_or_eq_of_le hi with hi | rfl
  · exact Nat.lt_succ_of_lt (h.low i hi)
  · rw [h.rest i (Nat.le_refl _) hn]; exact Nat.lt_succ_self _
theorem Pre.ltN (h : Pre N p n) (hn : n < N) {i : Nat} (hi : i ≤ n) : at' p i < N := Nat.lt_of_lt_of_le (h.lt hn hi) hn
theorem Pre.lt_n (h : Pre N p n) (hn : n < N) {i : Nat} (hi : i < n) : at' p i < at' p n := by rw [h.rest n (Nat.le_refl _) hn]; exact h.low i hi
theorem Pre.more (h : Pre N p n) (hn : n < N) : Pre N p (n + 1) :=
  ⟨h.size, hn, h.perm, fun k h1 h2 => h.rest k (Nat.le_of_succ_le h1) h2, fun k hk => h.lt hn (Nat.le_of_lt_succ hk)⟩
end
def Asc (b : Nat → Nat → Bool) (p : Array Nat) (n : Nat) : Prop := ∀ i j, i < j → j < n → Rr b (at' p i) (at' p j)
/- falling, equals turned about -/
def Dsc (b : Nat → Nat → Bool) (p : Array Nat) (n : Nat) : Prop := ∀ i j, i < j → j < n → Rr b (at' p j) (at' p i)

section
variable {b : Nat → Nat → Bool} {N : Nat} {p : Array Nat} {n : Nat}
theorem Asc.more (hb : Swo b) (ha : Asc b p n) (hp : Pre N p n) (hn : n < N) (e : b (at' p n) (at' p (n - 1)) = false) : Asc b p (n + 1) := fun i j hij hj => by
  rcases lt_or hj with hj | rfl
  · exact ha i j hij hj
  · refine ⟨?_, fun _ => hp.lt_n hn hij⟩
    rcases lt_or' hij with h | rfl
    · exact hb.ntr _ _ _ e (ha i (j - 1) h (pred_lt' (Nat.zero_lt_of_lt hij))).1
    · exact e
theorem rev_dsc (hs : n ≤ p.size) (hd : Dsc b p n) : Asc b (kas_rev p 0 n) n := fun i j hij hj => by
  rw [rev_in hs (Nat.zero_le _) hj, rev_in hs (Nat.zero_le _) (Nat.lt_trans hij hj)]
  exact hd _ _ (mir_lt hij hj) (mir_hi (Nat.zero_le _) (Nat.lt_trans hij hj))
theorem rev_asc (hs : n ≤ p.size) (hd : Asc b p n) : Dsc b (kas_rev p 0 n) n := fun i j hij hj => by
  rw [rev_in hs (Nat.zero_le _) hj, rev_in hs (Nat.zero_le _) (Nat.lt_trans hij hj)]
  exact hd _ _ (mir_lt hij hj) (mir_hi (Nat.zero_le _) (Nat.lt_trans hij hj))

structure AscR (b : Nat → Nat → Bool) (N : Nat) (p : Array Nat) (t m : Nat) : Prop where
  pre : Pre N p m
  asc : Asc b p m
  one : 1 ≤ m
  stop : m < t → b (at' p m) (at' p (m - 1)) = true
theorem asc_run (hb : Swo b) {t : Nat} (ht : t ≤ N) (f : Nat) : ∀ {n : Nat}, n + f = t → Pre N p n → 1 ≤ n → Asc b p n → kwp N b (AscR b N p t) (kas_asc p f n) := by
  induction f with
  | zero => exact fun e hp h1 ha => (AscR.mk hp ha h1 fun h => absurd e (Nat.ne_of_lt h) : AscR b N p t _)
  | succ f ih =>
    intro n e hp h1 ha
    have hn := Nat.lt_of_lt_of_le (ar1 e) ht
    refine ⟨hp.ltN hn (Nat.le_refl _), hp.ltN hn (Nat.sub_le _ _), ?_⟩
    show kwp N b _ (if b (at' p n) (at' p (n - 1)) = true then KasT.ret n else kas_asc p f (n + 1))
    cases e' : b (at' p n) (at' p (n - 1)) with
    | true => exact (AscR.mk hp ha h1 fun _ => e' : AscR b N p t n)
    | false => exact ih (ar2 e) (hp.more hn) (Nat.le_succ_of_le h1) (ha.more hb hp hn e')

/- the falling part, its last block of q + 1 equals (from c on) not yet turned -/
structure DInv (b : Nat → Nat → Bool) (N : Nat) (p : Array Nat) (n q c : Nat) : Prop where
  pre : Pre N p n
  hc : c + (q + 1) = n
  old : ∀ i j, i < j → j < c → Rr b (at' p j) (at' p i)
  cut : ∀ i j, i < c → c ≤ j → j < n → b (at' p j) (at' p i) = true
  blk : ∀ i j, c ≤ i → i < j → j < n → b (at' p i) (at' p j) = false ∧ b (at' p j) (at' p i) = false ∧ at' p i < at' p j
section
variable {q c : Nat}
theorem DInv.lt (h : DInv b N p n q c) : c < n := h.hc ▸ Nat.lt_add_of_pos_right (Nat.succ_pos _)
theorem DInv.eq (h : DInv b N p n q c) : n - (q + 1) = c := by rw [← h.hc, Nat.add_sub_cancel]
theorem DInv.turn (hb : Swo b) (h : DInv b N p n q c) : Pre N (kas_rev p c n) n ∧ Dsc b (kas_rev p c n) n := by
  have hs : n ≤ p.size := by rw [h.pre.size]; exact h.pre.le
  refine ⟨h.pre.rev (Nat.le_refl _), fun i j hij hj => ?_⟩
  by_cases hi : c ≤ i
  · rw [rev_in hs hi (Nat.lt_trans hij hj), rev_in hs (Nat.le_trans hi (Nat.le_of_lt hij)) hj]
    obtain ⟨h1, h2, h3⟩ := h.blk (c + n - 1 - j) (c + n - 1 - i) (mir_lo hj) (mir_lt hij hj) (mir_hi hi (Nat.lt_trans hij hj))
    exact ⟨h2, fun _ => h3⟩
  · have hi := Nat.lt_of_not_le hi
    rw [rev_lo hs hi]
    by_cases hj' : c ≤ j
    · rw [rev_in hs hj' hj]
      exact hb.rr (h.cut i _ hi (mir_lo hj) (mir_hi hj' hj))
    · rw [rev_lo hs (Nat.lt_of_not_le hj')]
      exact h.old i j hij (Nat.lt_of_not_le hj')
theorem DInv.one (hb : Swo b) (h : DInv b N p n 0 c) : Dsc b p n := fun i j hij hj => by
  rcases lt_or (h.hc ▸ hj : j < c + 1) with hj' | rfl
  · exact h.old i j hij hj'
  · exact hb.rr (h.cut i j hij (Nat.le_refl _) hj)
theorem DInv.step (hb : Swo b) (hp : Pre N p n) (hd : Dsc b p n) (hn : n < N) (e : b (at' p n) (at' p (n - 1)) = true) : DInv b N p (n + 1) 0 n := by
  refine ⟨hp.more hn, rfl, hd, fun i j hi hj hj' => ?_, fun i j hi hij hj => absurd (Nat.lt_of_le_of_lt hi hij) (Nat.not_lt_of_le (Nat.le_of_lt_succ hj))⟩
  rw [Nat.le_antisymm (Nat.le_of_lt_succ hj') hj]
  rcases lt_or' hi with h | h
  · exact hb.lt_of_lt_le e (hd i (n - 1) h (pred_lt' (Nat.zero_lt_of_lt hi))).1
  · rw [h]; exact e
theorem DInv.more (hb : Swo b) (h : DInv b N p n q c) (hn : n < N) (e : b (at' p n) (at' p (n - 1)) = false) (e2 : b (at' p (n - 1)) (at' p n) = false) : DInv b N p (n + 1) (q + 1) c := by
  have hcn := h.lt
  have h1 := pred_lt' (Nat.zero_lt_of_lt hcn)
  have hc1 : c ≤ n - 1 := Nat.le_pred_of_lt hcn
  refine ⟨h.pre.more hn, congrArg (· + 1) h.hc, h.old, fun i j hi hj hj' => ?_, fun i j hi hij hj => ?_⟩
  · rcases lt_or hj' with hj' | rfl
    · exact h.cut i j hi hj hj'
    · exact hb.lt_of_le_lt e2 (h.cut i (j - 1) hi hc1 h1)
  · rcases lt_or hj with hj | rfl
    · exact h.blk i j hi hij hj
    · have hlt := h.pre.lt_n hn hij
      rcases lt_or' hij with h' | rfl
      · have := h.blk i (j - 1) hi h' h1
        exact ⟨hb.ntr _ _ _ this.1 e2, hb.ntr _ _ _ e this.2.1, hlt⟩
      · exact ⟨e2, e, hlt⟩
end
def DescR (b : Nat → Nat → Bool) (N : Nat) (r : Array Nat × Nat × Nat) : Prop := ∃ c, DInv b N r.1 r.2.1 r.2.2 c
theorem desc_run (hb : Swo b) (f : Nat) : ∀ {p : Array Nat} {n q c : Nat}, n + f = N → DInv b N p n q c → kwp N b (DescR b N) (kas_desc f p n q) := by
  induction f with
  | zero => exact fun e h => (⟨_, h⟩ : DescR b N (_, _, _))
  | succ f ih =>
    intro p n q c e h
    have hn := ar1 e
    have b1 := h.pre.ltN hn (Nat.le_refl _)
    have b2 := h.pre.ltN hn (Nat.sub_le n 1)
    have hs : n ≤ p.size := by rw [h.pre.size]; exact h.pre.le
    refine ⟨b1, b2, ?_⟩
    show kwp N b _ (if b (at' p n) (at' p (n - 1)) = true then (if q > 0 then kas_desc f (kas_rev p (n - (q + 1)) n) (n + 1) 0 else kas_desc f p (n + 1) 0)
      else .ask (at' p (n - 1)) (at' p n) fun d => if d = true then .ret (p, n, q) else kas_desc f p (n + 1) (q + 1))
    cases e1 : b (at' p n) (at' p (n - 1)) with
    | true =>
      rw [if_pos rfl]
      by_cases hq : q > 0
      · rw [if_pos hq, h.eq]
        obtain ⟨t1, t2⟩ := h.turn hb
        have h2 : c < n - 1 := Nat.lt_sub_of_add_lt (h.hc ▸ Nat.add_lt_add_left (Nat.succ_lt_succ hq) c)
        have hcn := h.lt
        refine ih (ar2 e) (DInv.step hb t1 t2 hn ?_)
        rw [rev_hi hs (Nat.le_refl _), rev_in hs (Nat.le_of_lt h2) (pred_lt' (Nat.zero_lt_of_lt hcn)), mir_end hcn]
        exact hb.lt_of_lt_le e1 (h.blk c (n - 1) (Nat.le_refl _) h2 (pred_lt' (Nat.zero_lt_of_lt hcn))).1
      · rw [if_neg hq]
        have hq0 : q = 0 := Nat.eq_zero_of_not_pos hq
        rw [hq0] at h
        exact ih (ar2 e) (DInv.step hb h.pre (h.one hb) hn e1)
    | false =>
      refine ⟨b2, b1, ?_⟩
      show kwp N b _ (if b (at' p (n - 1)) (at' p n) = true then .ret (p, n, q) else kas_desc f p (n + 1) (q + 1))
      cases e2 : b (at' p (n - 1)) (at' p n) with
      | true => exact (⟨c, h⟩ : DescR b N (p, n, q))
      | false => exact ih (ar2 e) (h.more hb hn e1 e2)

structure CntR (b : Nat → Nat → Bool) (N : Nat) (r : Nat × Array Nat) : Prop where
  pre : Pre N r.2 r.1
  asc : Asc b r.2 r.1
  one : 1 ≤ r.1
theorem tail_run (hb : Swo b) (hp : Pre N p n) (hd : Dsc b p n) (h1 : 1 ≤ n) : kwp N b (CntR b N) (kas_tail3 n N p) :=
  kwp_bind _ (kwp_mono (fun m r => (⟨r.pre, r.asc, r.one⟩ : CntR b N (m, kas_rev p 0 n))) _
    (asc_run hb (Nat.le_refl N) (N - n) (Nat.add_sub_cancel' hp.le) (hp.rev (Nat.le_refl n)) h1 (rev_dsc (by rw [hp.size]; exact hp.le) hd)))
theorem descPart_run (hb : Swo b) (hp : Pre N p n) (hd : Dsc b p n) (hn : n < N) (e : b (at' p n) (at' p (n - 1)) = true) : kwp N b (CntR b N) (kas_descPart n N p) := by
  refine kwp_bind _ (kwp_mono (fun r h => ?_) _ (desc_run hb (N - (n + 1)) (Nat.add_sub_cancel' hn) (DInv.step hb hp hd hn e)))
  obtain ⟨c, h⟩ := h
  have h1 := Nat.zero_lt_of_lt h.lt
  by_cases hq : r.2.2 > 0
  · rw [if_pos hq, h.eq]
    obtain ⟨t1, t2⟩ := h.turn hb
    exact tail_run hb t1 t2 h1
  · rw [if_neg hq]
    rw [Nat.eq_zero_of_not_pos hq] at h
    exact tail_run hb h.pre (h.one hb) h1

theorem count_run (hb : Swo b) (hp : Pre N p 0) (h1 : 1 ≤ N) : kwp N b (CntR b N) (kas_count N p) := by
  refine kwp_bind _ (kwp_mono (fun m r => ?_) _ (asc_run hb (Nat.le_refl N) (N - 1) (Nat.add_sub_cancel' h1) (hp.more h1) (Nat.le_refl _) fun i j hij hj => absurd hij (Nat.not_lt_of_le (Nat.le_trans (Nat.le_of_lt_succ hj) (Nat.zero_le _)))))
  have hend : CntR b N (m, p) := ⟨r.pre, r.asc, r.one⟩
  by_cases e : (m == N) = true
  · rw [if_pos e]; exact hend
  rw [if_neg e]
  have hm : m < N := Nat.lt_of_le_of_ne r.pre.le fun q => e (beq_iff_eq.mpr q)
  have hlt := r.stop hm
  have hs : m ≤ p.size := by rw [r.pre.size]; exact r.pre.le
  by_cases h1m : m > 1
  · rw [if_pos h1m]
    refine ⟨r.pre.ltN hm (Nat.zero_le _), r.pre.ltN hm (Nat.sub_le _ _), ?_⟩
    show kwp N b _ (if b (at' p 0) (at' p (m - 1)) = true then .ret (m, p) else kas_descPart m N (kas_rev p 0 m))
    cases e2 : b (at' p 0) (at' p (m - 1)) with
    | true => exact hend
    | false =>
      -- all equal
      have h0 : b (at' p (m - 1)) (at' p 0) = false := (r.asc 0 (m - 1) (Nat.lt_sub_of_add_lt h1m) (pred_lt' r.one)).1
      refine descPart_run hb (r.pre.rev (Nat.le_refl _)) (rev_asc hs r.asc) hm ?_
      rw [rev_hi hs (Nat.le_refl _), rev_in hs (Nat.zero_le _) (pred_lt' r.one), mir_end r.one]
      exact hb.lt_of_lt_le hlt e2
  · rw [if_neg h1m]
    have hm1 := Nat.le_antisymm (Nat.le_of_not_lt h1m) r.one
    exact descPart_run hb r.pre (fun i j hij hj => absurd (Nat.lt_of_le_of_lt (Nat.succ_le_of_lt (Nat.zero_lt_of_lt hij)) hj) h1m) hm hlt

structure PlR (b : Nat → Nat → Bool) (p : Array Nat) (k m : Nat) : Prop where
  le : m ≤ k
  lo : ∀ i, i < m → b (at' p k) (at' p i) = false
  hi : ∀ i, m ≤ i → i < k → b (at' p k) (at' p i) = true
theorem mid1 {l r : Nat} (h : l < r) : (l + r) / 2 < r := by walk_at "n"
theorem mid3 {l r f : Nat} (h : l < r) (hf : r ≤ l + (f + 1)) : (l + r) / 2 ≤ l + f := by walk_at "n"
theorem mid4 {l r f : Nat} (hf : r ≤ l + (f + 1)) (h : l < r) : r ≤ (l + r) / 2 + 1 + f := by walk_at "n"
theorem place_run (hb : Swo b) {k : Nat} (ha : Asc b p k) (hbd : ∀ i, i ≤ k → at' p i < N) (f : Nat) : ∀ {l r : Nat}, l ≤ k → r ≤ k → r ≤ l + f → (∀ i, i < l → b (at' p k) (at' p i) = false) → (∀ i, r ≤ i → i < k → b (at' p k) (at' p i) = true) → kwp N b (PlR b p k) (kas_place p k f l r) := by
  induction f with
  | zero => exact fun hl hr hf h1 h2 => (PlR.mk hl h1 fun i hi => h2 i (Nat.le_trans hf hi) : PlR b p k _)
  | succ f ih =>
    intro l r hl hr hf h1 h2
    by_cases h : l ≥ r
    · rw [kas_place, if_pos h]; exact (PlR.mk hl h1 fun i hi => h2 i (Nat.le_trans h hi) : PlR b p k _)
    · have h := Nat.lt_of_not_le h
      have hm := Nat.lt_of_lt_of_le (mid1 h) hr
      rw [kas_place, if_neg (Nat.not_le_of_lt h)]
      refine ⟨hbd k (Nat.le_refl _), hbd ((l + r) / 2) (Nat.le_of_lt hm), ?_⟩
      show kwp N b _ (if b (at' p k) (at' p ((l + r) / 2)) = true then kas_place p k f l ((l + r) / 2) else kas_place p k f ((l + r) / 2 + 1) r)
      cases e : b (at' p k) (at' p ((l + r) / 2)) with
      | true =>
        refine ih hl (Nat.le_of_lt hm) (mid3 h hf) h1 fun i hi hk => ?_
        rcases Nat.lt_or_eq_of_le hi with hi | hi
        · exact hb.lt_of_lt_le e (ha _ i hi hk).1
        · rw [← hi]; exact e
      | false =>
        refine ih hm hr (mid4 hf h) (fun i hi => ?_) h2
        rcases lt_or hi with hi | hi
        · exact hb.ntr _ _ _ e (ha i _ hi hm).1
        · rw [hi]; exact e

theorem sub1_lt {i j : Nat} (h : i < j) (hi : 0 < i) : i - 1 < j - 1 := by walk_at "n"
structure BinR (b : Nat → Nat → Bool) (N : Nat) (p : Array Nat) : Prop where
  pre : Pre N p N
  asc : Asc b p N
theorem bin_step (hb : Swo b) {k l : Nat} (hp : Pre N p k) (ha : Asc b p k) (hk : k < N) (r : PlR b p k l) : Pre N (bubble p k (k - l)) (k + 1) ∧ Asc b (bubble p k (k - l)) (k + 1) := by
  have hs : k < p.size := by rw [hp.size]; exact hk
  have hl := r.le
  refine ⟨⟨(bubble_size ..).trans hp.size, hk, (Array.perm_iff_toList_perm.mp (bubble_perm ..)).trans hp.perm, fun i hi hi' => ?_, fun i hi => ?_⟩, fun i j hij hj => ?_⟩
  · rw [bub_hi hs hl hi]; exact hp.rest i (Nat.le_of_lt hi) hi'
  · rcases Nat.lt_trichotomy i l with h | rfl | h
    · rw [bub_lo hs hl h]; exact hp.lt hk (Nat.le_of_lt_succ hi)
    · rw [bub_eq hs hl]; exact hp.lt hk (Nat.le_refl _)
    · rw [bub_mid hs h (Nat.le_of_lt_succ hi)]; exact hp.lt hk (Nat.le_trans (Nat.sub_le _ _) (Nat.le_of_lt_succ hi))
  · have hj := Nat.le_of_lt_succ hj
    have hik := Nat.lt_of_lt_of_le hij hj
    rcases Nat.lt_trichotomy i l with h | rfl | h
    · rw [bub_lo hs hl h]
      rcases Nat.lt_trichotomy j l with h' | rfl | h'
      · rw [bub_lo hs hl h']; exact ha i j hij (Nat.lt_of_lt_of_le h' hl)
      · rw [bub_eq hs hl]; exact ⟨r.lo i h, fun _ => hp.lt_n hk hik⟩
      · rw [bub_mid hs h' hj]; exact ha i (j - 1) (Nat.lt_of_lt_of_le h (Nat.le_pred_of_lt h')) (Nat.lt_of_lt_of_le (pred_lt' (Nat.zero_lt_of_lt hij)) hj)
    · rw [bub_eq hs hl, bub_mid hs hij hj]
      exact hb.rr (r.hi (j - 1) (Nat.le_pred_of_lt hij) (Nat.lt_of_lt_of_le (pred_lt' (Nat.zero_lt_of_lt hij)) hj))
    · rw [bub_mid hs h (Nat.le_of_lt hik), bub_mid hs (Nat.lt_trans h hij) hj]
      exact ha _ _ (sub1_lt hij (Nat.zero_lt_of_lt h)) (Nat.lt_of_lt_of_le (pred_lt' (Nat.zero_lt_of_lt hij)) hj)
theorem bin_run (hb : Swo b) (f : Nat) : ∀ {p : Array Nat} {k : Nat}, Pre N p k → Asc b p k → k + f = N → kwp N b (BinR b N) (kas_bin f p k) := by
  induction f with
  | zero => exact fun hp ha e => (BinR.mk (e ▸ hp) (e ▸ ha) : BinR b N _)
  | succ f ih =>
    intro p k hp ha e
    have hk := ar1 e
    refine kwp_bind _ (kwp_mono (fun l r => ?_) _ (place_run hb ha (fun i hi => hp.ltN hk hi) k (Nat.zero_le _) (Nat.le_refl _) (Nat.le_of_eq (Nat.zero_add _).symm) (fun i hi => nomatch hi) fun i h1 h2 => absurd h2 (Nat.not_lt_of_le h1)))
    obtain ⟨t1, t2⟩ := bin_step hb hp ha hk r
    exact ih t1 t2 (ar2 e)

theorem sort_run (hb : Swo b) (h1 : 1 ≤ N) : ∃ p, krun b (kas_sort N) = p ∧ Pre N p N ∧ Asc b p N ∧ kok N b (kas_sort N) := by
  have hp0 : Pre N (List.toArray (List.range N)) 0 := ⟨by simp, Nat.zero_le _, by simp, fun k _ hk => by simp [at', hk], fun k hk => nomatch hk⟩
  have main : kwp N b (BinR b N) (kas_sort N) := by
    refine kwp_bind _ (kwp_mono (fun r h => ?_) _ (count_run hb hp0 h1))
    by_cases hm : r.1 < N
    · rw [if_pos hm, Nat.max_eq_left h.one]
      exact bin_run hb (N - r.1) h.pre h.asc (Nat.add_sub_cancel' (Nat.le_of_lt hm))
    · rw [if_neg hm]
      have e := Nat.le_antisymm h.pre.le (Nat.le_of_not_lt hm)
      exact (BinR.mk (e ▸ h.pre) (e ▸ h.asc) : BinR b N _)
  obtain ⟨h, hk⟩ := kwp_out _ main
  exact ⟨_, rfl, h.pre, h.asc, hk⟩
end
end Mine
end

noncomputable section
set_option genSizeOf false
set_option genInjectivity false
set_option Elab.async false
set_option linter.unusedVariables false
set_option maxRecDepth 10000
namespace Mine
open PySem PySem.Calls PyProof.Rows PySem.W

variable {α β : Type}

structure SwoF (lt : α → α → Bool) : Prop where
  irr : ∀ i, lt i i = false
  asym : ∀ i j, lt i j = true → lt j i = false
  ntr : ∀ i j k, lt i j = false → lt j k = false → lt i k = false

def bOf (lt : β → β → Bool) (κ : α → β) (x0 : α) (xs : List α) (i j : Nat) : Bool := lt (κ (xs.getD i x0)) (κ (xs.getD j x0))
theorem SwoF.swo {lt : β → β → Bool} (h : SwoF lt) (κ : α → β) (x0 : α) (xs : List α) : Swo (bOf lt κ x0 xs) := ⟨fun _ => h.irr _, fun _ _ => h.asym _ _, fun _ _ _ => h.ntr _ _ _⟩

/- what sorting by a key gives -/
def psortK (lt : β → β → Bool) (κ : α → β) (xs : List α) : List α := match xs with
  | [] => []
  | [x] => [x]
  | x :: y :: r => (krun (bOf lt κ x (x :: y :: r)) (kas_sort (r.length + 2))).toList.map fun i => (x :: y :: r).getD i x

theorem psortK_spec {lt : β → β → Bool} (SW : SwoF lt) (κ : α → β) (x y : α) (r : List α) (h64 : r.length + 2 < 64) : ∃ p : Array Nat, Pre (r.length + 2) p (r.length + 2) ∧ Asc (bOf lt κ x (x :: y :: r)) p (r.length + 2) ∧ psortK lt κ (x :: y :: r) = p.toList.map fun i => (x :: y :: r).getD i x := by
  obtain ⟨p, hp, hpre, hasc, hok⟩ := sort_run (N := r.length + 2) (SW.swo κ x (x :: y :: r)) (by walk_at "n")
  refine ⟨p, hpre, hasc, ?_⟩
  show (krun (bOf lt κ x (x :: y :: r)) (kas_sort (r.length + 2))).toList.map _ = _
  rw [hp]

theorem psortK_length {lt : β → β → Bool} (SW : SwoF lt) {κ : α → β} : ∀ {xs : List α}, xs.length < 64 → (psortK lt κ xs).length = xs.length
  | [], _ => rfl
  | [x], _ => rfl
  | x :: y :: r, h => by
    obtain ⟨p, h1, h2, h3⟩ := psortK_spec SW κ x y r h
    rw [h3, List.length_map, Array.length_toList, h1.size]; rfl

/- data that list.sort can compare -/
def SortF (f : α → D) (lt : α → α → Bool) : Prop := ∃ κ : SortKind,
  (∀ (prog : Program) (w : World) (A : Around) (E : Value → Shared → Prop) (s : Shared) (X : List Addr) (vs : List Value) (xs : List α) (Q : SortKind → Shared → Prop), RdL X s.heap vs (xs.map f) → 2 ≤ vs.length → Q κ s → wpAny (model prog w) A (keyKind' vs.toArray) Q E s) ∧
  (∀ (prog : Program) (w : World) (A : Around) (E : Value → Shared → Prop) (s : Shared) (X : List Addr) (v1 v2 : Value) (a b : α) (Q : Bool → Shared → Prop), A.units + 70 < cLine → Rd X s.heap v1 (f a) → Rd X s.heap v2 (f b) → Q (lt a b) s → wpAny (model prog w) A (keyLt' κ v1 v2) Q E s)

theorem RdL.getF {X : List Addr} {h : Heap} {f : α → D} {vs : List Value} {xs : List α} (r : RdL X h vs (xs.map f)) {i : Nat} (hi : i < xs.length) (x0 : α) (v0 : Value) : Rd X h (vs.getD i v0) (f (xs.getD i x0)) := by
  obtain ⟨v, hv, rv⟩ := r.get (i := i) (d := f xs[i]) (by simp [hi])
  have e1 : vs.getD i v0 = v := by rw [List.getD_eq_getElem?_getD, hv]; rfl
  have e2 : xs.getD i x0 = xs[i] := by rw [List.getD_eq_getElem?_getD, List.getElem?_eq_getElem hi]; rfl
  rw [e1, e2]; exact rv

theorem RdL.mapF {X : List Addr} {h : Heap} {f : α → D} {vs : List Value} {xs : List α} (r : RdL X h vs (xs.map f)) (x0 : α) (v0 : Value) : ∀ (is : List Nat), (∀ i ∈ is, i < xs.length) → RdL X h (is.map fun i => vs.getD i v0) ((is.map fun i => xs.getD i x0).map f)
  | [], _ => rfl
  | i :: is, hi => RdL.cons (r.getF (hi i (.head _)) x0 v0) (RdL.mapF r x0 v0 is fun j hj => hi j (.tail _ hj))

section
variable {prog : Program} {w : World} {A : Around} {E : Value → Shared → Prop} {s : Shared}

/- the sort itself -/
theorem sort_run_D {f : α → D} {g : β → D} {lt : β → β → Bool} {κ : α → β} {σ : SortKind} {X : List Addr} {vs ks : List Value} {x y : α} {r : List α} {Q : SortSt → Shared → Prop}
    (hc : ∀ (A : Around) (E : Value → Shared → Prop) (s : Shared) (X : List Addr) (v1 v2 : Value) (a b : β) (Q : Bool → Shared → Prop), A.units + 70 < cLine → Rd X s.heap v1 (g a) → Rd X s.heap v2 (g b) → Q (lt a b) s → wpAny (model prog w) A (keyLt' σ v1 v2) Q E s)
    (SW : SwoF lt) (rk : RdL X s.heap ks (((x :: y :: r).map κ).map g)) (rv : RdL X s.heap vs ((x :: y :: r).map f)) (h64 : r.length + 2 < 64) (hu : A.units + 70 < cLine)
    (h : ∀ st', failedOf st' = none → RdL X s.heap ((arrOf st').map (·.2)).toList ((psortK lt κ (x :: y :: r)).map f) → Q st' s) :
    wpAny (model prog w) A ((sortRuns').run (SortSt.mk' σ (ks.toArray.zip vs.toArray) #[] 7 none)) (fun r s' => Q r.2 s') E s := by
  have lk := rk.length
  have lv := rv.length
  simp at lk lv
  obtain ⟨p, hp, hpre, hasc, hok⟩ := sort_run (N := r.length + 2) (SW.swo κ x (x :: y :: r)) (by walk_at "n")
  have hl : ks.length = vs.length := by walk_at "n"
  refine kat_run (G := fun p' s' => p' = p ∧ s' = s) hl (by walk_at "n") (by walk_at "n") (fun p' st' s' h1 h2 h3 h4 => ?_) ?_
  · obtain ⟨rfl, rfl⟩ := h4
    refine h st' h3 ?_
    rw [kat_snds hl h2]
    have := RdL.mapF rv x Value.none p'.toList (fun i hi => by
      have := hpre.perm.mem_iff.mp hi
      simpa using this)
    have e : psortK lt κ (x :: y :: r) = p'.toList.map fun i => (x :: y :: r).getD i x := by
      show (krun (bOf lt κ x (x :: y :: r)) (kas_sort (r.length + 2))).toList.map _ = _
      rw [hp]
    rw [e]
    simpa using this
  · rw [show vs.length = r.length + 2 by walk_at "n"]
    refine kok_wp (N := r.length + 2) (b := bOf lt κ x (x :: y :: r)) (fun i j C hi hj hC => ?_) _ hok ⟨hp, rfl⟩
    have e : ∀ i, κ ((x :: y :: r).getD i x) = ((x :: y :: r).map κ).getD i (κ x) := fun i => by
      rw [List.getD_eq_getElem?_getD, List.getD_eq_getElem?_getD, List.getElem?_map]
      cases (x :: y :: r)[i]? <;> rfl
    have ri := rk.getF (i := i) (by simpa using hi) (κ x) Value.none
    have rj := rk.getF (i := j) (by simpa using hj) (κ x) Value.none
    refine hc A (fun _ _ => False) s X _ _ _ _ C hu ri rj ?_
    have : lt (((x :: y :: r).map κ).getD i (κ x)) (((x :: y :: r).map κ).getD j (κ x)) = bOf lt κ x (x :: y :: r) i j := by unfold bOf; rw [e, e]
    rw [this]; exact hC

theorem snds_nil : Array.map (fun x => x.snd) (arrOf (SortSt.mk' general' (#[].zip #[]) #[] 7 none)) = #[] := by
  show Array.map _ (#[].zip #[]) = #[]; simp
theorem snds_one (k v : Value) : Array.map (fun x => x.snd) (arrOf (SortSt.mk' general' (#[k].zip #[v]) #[] 7 none)) = #[v] := by
  show Array.map _ (#[k].zip #[v]) = #[v]; simp
/- `list.sort`, no key -/
theorem list_sort_D {f : α → D} {lt : α → α → Bool} (SF : SortF f lt) (SW : SwoF lt) {a : Addr} {vs : List Value} {n : Nat} {xs : List α} {X : List Addr} {P : PySem.Fin → Shared → Prop} (hl : IsL s.heap a vs.toArray n) (r : RdL (a :: X) s.heap vs (xs.map f)) (h64 : xs.length < 64) (hu : A.units + 70 < cLine)
    (h : ∀ h' out n', IsL h' a out n' → Heap.ExtBut a s.heap h' → RdL (a :: X) h' out.toList ((psortK lt id xs).map f) → P (.done (.ret .none)) { s with heap := h' }) :
    wpAny (model prog w) A (Builtin.«list.sort» ⟨[.ref a], []⟩) P E s := by
  have lv := r.length
  simp at lv
  have s1 := Heap.SameBut.update s.heap a (Obj.mapSeq fun _ => (#[] : Array Value))
  have ho1 := hl.update (fun _ => (#[] : Array Value))
  have k2 : Heap.ExtBut a s.heap (((s.heap.update a (Obj.mapSeq fun _ => (#[] : Array Value))).push (seqObj "tuple" vs.toArray 0)).push (seqObj "list" #[] 0)) := (s1.extBut.push _).push _
  have ho3 : (((s.heap.update a (Obj.mapSeq fun _ => (#[] : Array Value))).push (seqObj "tuple" vs.toArray 0)).push (seqObj "list" #[] 0)).get? a = some _ := Heap.get?_push_of_some _ (Heap.get?_push_of_some _ ho1)
  have r3 : RdL (a :: X) (((s.heap.update a (Obj.mapSeq fun _ => (#[] : Array Value))).push (seqObj "tuple" vs.toArray 0)).push (seqObj "list" #[] 0)) vs (xs.map f) :=
    RdL.stay (fun b o hb e _ => ⟨hb, k2 b o (fun q => hb (q ▸ .head _)) e⟩) _ _ r
  have fin : ∀ (out : Array Value), out.size = vs.length → RdL (a :: X) (((s.heap.update a (Obj.mapSeq fun _ => (#[] : Array Value))).push (seqObj "tuple" vs.toArray 0)).push (seqObj "list" #[] 0)) out.toList ((psortK lt id xs).map f) →
      ∀ h', h' = (((s.heap.update a (Obj.mapSeq fun _ => (#[] : Array Value))).push (seqObj "tuple" vs.toArray 0)).push (seqObj "list" #[] 0)).update a (Obj.mapSeq fun _ => out) → P (.done (.ret .none)) { s with heap := h' } := by
    rintro out hsz ro h' rfl
    refine h _ out _ (IsL.update ho3 (fun _ => out)) (fun b o hb e => (Heap.SameBut.update ..).extBut b o hb (k2 b o hb e)) ?_
    exact RdL.stay (fun b o hb e _ => ⟨hb, (Heap.SameBut.update ..).extBut b o (fun q => hb (q ▸ .head _)) e⟩) _ _ ro
  rw [list_sort_plain]
  refine wpAny_bind (listItems_at hl rfl ?_)
  refine wpAny_bind (listUpdate_at hl rfl ?_ (by rw [List.size_toArray, sizeLine_eq]; walk_at "n") (Nat.zero_le _))
  refine wpAny_bind (seqEpoch_at ho1 rfl ?_)
  refine wpAny_bind (wpAny_newTuple ?_ (by show vs.length ≤ _; rw [sizeLine_eq]; walk_at "n"))
  refine wpAny_bind (wpAny_newList ?_ (Nat.zero_le _))
  refine wpAny_holding ?_
  dsimp only
  have tailP : ∀ st' : SortSt, failedOf st' = none → ((arrOf st').map (·.2)).size = vs.length → RdL (a :: X) (((s.heap.update a (Obj.mapSeq fun _ => (#[] : Array Value))).push (seqObj "tuple" vs.toArray 0)).push (seqObj "list" #[] 0)) ((arrOf st').map (·.2)).toList ((psortK lt id xs).map f) →
      wpAny (model prog w) A (do
        let touched := (← seqEpoch a) != (if (#[] : Array Value).size == vs.toArray.size then n else n + 1)
        Builtin.List.listUpdate (.ref a) fun _ => (arrOf st').map (·.2)
        if let some e := failedOf st' then rule "list.sort.comparison-raised"; throw e
        if touched then rule "list.sort.modified"; raiseError "ValueError" "list modified during sort"
        ret .none) P E { s with heap := ((s.heap.update a (Obj.mapSeq fun _ => (#[] : Array Value))).push (seqObj "tuple" vs.toArray 0)).push (seqObj "list" #[] 0) } := by
    intro st' hf hsz ro
    refine wpAny_bind (seqEpoch_at ho3 rfl ?_)
    refine wpAny_bind (listUpdate_at ho3 rfl ?_ (Nat.zero_le _) (Nat.le_trans (Nat.le_of_eq hsz) (by rw [sizeLine_eq]; walk_at "n")))
    rw [hf]
    simp only [bne_self_eq_false, Bool.false_eq_true, if_false]
    exact wpAny_pure (fin _ hsz ro _ rfl)
  match xs, r, r3, lv, h64, tailP with
  | [], r, r3, lv, h64, tailP =>
    have hv : vs = [] := by simpa using lv
    subst hv
    rw [if_pos (by simp), if_pos (by simp)]
    refine wpAny_bind (wpAny_pure ?_)
    rw [StateT.run_pure]
    refine wpAny_bind (wpAny_pure ?_)
    exact tailP (SortSt.mk' general' (#[].zip #[]) #[] 7 none) rfl (by rw [snds_nil]; rfl) (by rw [snds_nil]; rfl)
  | [x], r, r3, lv, h64, tailP =>
    obtain ⟨v, vs', rfl, r1, r2⟩ := id r3
    cases r2
    rw [if_pos (by simp), if_pos (by simp)]
    refine wpAny_bind (wpAny_pure ?_)
    rw [StateT.run_pure]
    refine wpAny_bind (wpAny_pure ?_)
    exact tailP (SortSt.mk' general' (#[v].zip #[v]) #[] 7 none) rfl (by rw [snds_one]; rfl) (by rw [snds_one]; exact r3)
  | x :: y :: t, r, r3, lv, h64, tailP =>
    simp at h64
    have hn2 : ¬ vs.toArray.size < 2 := by rw [List.size_toArray]; simp at lv; walk_at "n"
    rw [if_neg hn2, if_neg hn2]
    obtain ⟨σ, hkind, hcmp⟩ := SF
    refine wpAny_bind (hkind prog w A E _ (a :: X) vs (x :: y :: t) _ r3 (by simp at lv; walk_at "n") ?_)
    have rk : RdL (a :: X) (((s.heap.update a (Obj.mapSeq fun _ => (#[] : Array Value))).push (seqObj "tuple" vs.toArray 0)).push (seqObj "list" #[] 0)) vs (((x :: y :: t).map id).map f) := by simpa using r3
    refine wpAny_bind (wpAny_mono (sort_run_D (g := f) (κ := id) (hcmp prog w) SW rk r3 (by walk_at "n") hu (Q := fun st' s' => s' = _ ∧ failedOf st' = none ∧ RdL (a :: X) (((s.heap.update a (Obj.mapSeq fun _ => (#[] : Array Value))).push (seqObj "tuple" vs.toArray 0)).push (seqObj "list" #[] 0)) ((arrOf st').map (·.2)).toList ((psortK lt id (x :: y :: t)).map f))
      fun st' hf ro => ⟨rfl, hf, ro⟩) ?_ fun _ _ e => e)
    rintro ⟨⟨⟩, st'⟩ s' ⟨rfl, hf, ro⟩
    have := ro.length
    refine tailP st' hf ?_ ro
    rw [Array.length_toList] at this
    rw [this, List.length_map, psortK_length SW (by simp; walk_at "n")]
    exact lv.symm
end
end Mine
end

noncomputable section
set_option genSizeOf false
set_option genInjectivity false
set_option Elab.async false
set_option linter.unusedVariables false
set_option maxRecDepth 10000
namespace Mine
open PySem PySem.Calls PyProof.Rows PySem.W

variable {α β : Type}

theorem SortF.int {f : α → D} {z : α → Int} (hf : ∀ a, f a = .int (z a)) : SortF f (fun a b => decide (z a < z b)) := by
  refine ⟨oneType', fun prog w A E s X vs xs Q r h2 h => ?_, fun prog w A E s X v1 v2 a b Q hu r1 r2 h => ?_⟩
  · refine kas_kind (T := Value.type "int") h2 (fun v hv => ?_) rfl (by decide) h
    have : ∀ (vs : List Value) (xs : List α), RdL X s.heap vs (xs.map f) → ∀ v ∈ vs, ∃ n t, v = Value.int n t := by
      intro vs xs
      induction xs generalizing vs with
      | nil => intro r v hv; cases r; cases hv
      | cons x xs ih =>
        rintro ⟨v0, vs', rfl, r1, r2⟩ v hv
        rcases List.mem_cons.mp hv with rfl | hv
        · rw [hf] at r1; obtain ⟨t, rfl⟩ := r1; exact ⟨_, t, rfl⟩
        · exact ih _ r2 v hv
    obtain ⟨n, t, rfl⟩ := this vs xs r v hv
    exact Looks.of_pure rfl
  · rw [hf] at r1 r2
    obtain ⟨t, rfl⟩ := r1
    obtain ⟨u, rfl⟩ := r2
    exact kat_lt_int h

theorem Lex.kat {prog : Program} {w : World} {A : Around} {s : Shared} {X : List Addr} {b fin r : Bool} {Q : Bool → Shared → Prop} (hu : A.units + 70 < cLine) : ∀ {xs ys : List D} {vs ws : List Value} {i : Nat}, Lex 60 xs ys r → RdL X s.heap vs xs → RdL X s.heap ws ys →
    ((b && i == 0) = true → ∃ z z' xs' ys', xs = .int z :: xs' ∧ ys = .int z' :: ys' ∧ (z ≠ z' → r = decide (z < z'))) → (fin = (decide (xs.length < ys.length))) → Q r s → KatLex prog w A b fin Q (vs.zip ws) i s := by
  intro xs ys vs ws i L
  induction L generalizing vs ws i with
  | nn => intro h1 h2 hb hf hq; cases h1; cases h2; rw [show fin = false by simpa using hf]; exact hq
  | nc => intro h1 h2 hb hf hq; cases h1; rw [show fin = true by simpa using hf]; exact hq
  | cn => intro h1 h2 hb hf hq; cases h2; rw [show fin = false by simpa using hf, List.zip_nil_right]; exact hq
  | @eq x y xs ys b' ox oy he L' ih =>
    rintro ⟨v, vs', rfl, r1, r2⟩ ⟨w', ws', rfl, r1', r2'⟩ hb hf hq
    rw [List.zip_cons_cons]
    refine kat_cons (eqBool_D ox oy (by walk_at "n") r1 r1' ?_)
    rw [he]
    exact kat_yes (ih r2 r2' (fun h => by simp at h) (by simpa using hf) hq)
  | @ne x y xs ys b' ox oy he hlt =>
    rintro ⟨v, vs', rfl, r1, r2⟩ ⟨w', ws', rfl, r1', r2'⟩ hb hf hq
    rw [List.zip_cons_cons]
    refine kat_cons (eqBool_D ox oy (by walk_at "n") r1 r1' ?_)
    rw [he]
    refine kat_no ?_
    cases e : (b && i == 0) with
    | false => exact kat_one _ _ (hlt prog w A _ s X _ _ _ (by walk_at "n") r1 r1' hq)
    | true =>
      obtain ⟨z, z', _, _, e1, e2, e3⟩ := hb e
      cases e1; cases e2
      obtain ⟨t, rfl⟩ := r1
      obtain ⟨u, rfl⟩ := r1'
      refine oneLt_int ?_
      rw [← e3 (fun h => by subst h; simp [D.py, PyData.eqv] at he)]
      exact hq

theorem RdL.tups {X : List Addr} {h : Heap} {f : α → D} {g : α → List D} {g0 : α → D} (hf : ∀ a, f a = .tup (g0 a :: g a)) : ∀ {vs : List Value} {xs : List α}, RdL X h vs (xs.map f) → ∃ fs, KatTups h vs fs ∧ RdL X h fs (xs.map g0)
  | vs, [], r => by cases r; exact ⟨[], trivial, rfl⟩
  | vs, x :: xs, ⟨v, vs', e, r1, r2⟩ => by
    subst e
    obtain ⟨fs, t, rf⟩ := RdL.tups hf r2
    rw [hf] at r1
    obtain ⟨a, us, rfl, hx, ⟨o, ho, hc, n, hd⟩, ru⟩ := r1
    obtain ⟨u, us', e, r3, r4⟩ := ru
    refine ⟨u :: fs, KatTups.cons ho hc hd ?_ t, RdL.cons r3 rf⟩
    rw [← Array.getElem?_toList, e]; rfl

/- tuples with a number first -/
theorem SortF.tupI {f : α → D} {lt : α → α → Bool} {z : α → Int} {g : α → List D} (hf : ∀ a, f a = .tup (.int (z a) :: g a)) (hL : ∀ a b, Lex 60 (.int (z a) :: g a) (.int (z b) :: g b) (lt a b)) (hz : ∀ a b, z a ≠ z b → lt a b = decide (z a < z b)) : SortF f lt := by
  refine ⟨tuples' true, fun prog w A E s X vs xs Q r h2 h => ?_, fun prog w A E s X v1 v2 a b Q hu r1 r2 h => ?_⟩
  · obtain ⟨fs, t, rf⟩ := RdL.tups (g0 := fun a => .int (z a)) hf r
    have l1 := r.length
    have l2 := rf.length
    rw [List.length_map] at l1 l2
    refine kat_kind (T := Value.type "int") t (by walk_at "n") (fun v hv => ?_) (by decide) h
    have : ∀ (vs : List Value) (xs : List α), RdL X s.heap vs (xs.map fun a => D.int (z a)) → ∀ v ∈ vs, ∃ n t, v = Value.int n t := by
      intro vs xs
      induction xs generalizing vs with
      | nil => intro r v hv; cases r; cases hv
      | cons x xs ih =>
        rintro ⟨v0, vs', rfl, r1, r2⟩ v hv
        rcases List.mem_cons.mp hv with rfl | hv
        · obtain ⟨t, rfl⟩ := r1; exact ⟨_, t, rfl⟩
        · exact ih _ r2 v hv
    obtain ⟨n, t, rfl⟩ := this fs xs rf v hv
    exact Looks.of_pure rfl
  · rw [hf] at r1 r2
    obtain ⟨a1, us, rfl, hx, ⟨o, ho, hc, n, hd⟩, ru⟩ := r1
    obtain ⟨a2, us', rfl, hx', ⟨o', ho', hc', n', hd'⟩, ru'⟩ := r2
    have l1 := ru.length
    have l2 := ru'.length
    rw [Array.length_toList] at l1 l2
    exact kat_lt ho hd ho' hd' (Lex.kat hu (hL a b) ru ru' (fun _ => ⟨_, _, _, _, rfl, rfl, hz a b⟩) (by rw [l1, l2]) h)

/- tuples with a tuple first -/
theorem SortF.tupT {f : α → D} {lt : α → α → Bool} {z g : α → List D} (hf : ∀ a, f a = .tup (.tup (z a) :: g a)) (hL : ∀ a b, Lex 60 (.tup (z a) :: g a) (.tup (z b) :: g b) (lt a b)) : SortF f lt := by
  refine ⟨tuples' false, fun prog w A E s X vs xs Q r h2 h => ?_, fun prog w A E s X v1 v2 a b Q hu r1 r2 h => ?_⟩
  · obtain ⟨fs, t, rf⟩ := RdL.tups (g0 := fun a => .tup (z a)) hf r
    have l1 := r.length
    have l2 := rf.length
    rw [List.length_map] at l1 l2
    refine kat_kind (T := Value.type "tuple") t (by walk_at "n") (fun v hv => ?_) (by decide) h
    have : ∀ (vs : List Value) (xs : List α), RdL X s.heap vs (xs.map fun a => D.tup (z a)) → ∀ v ∈ vs, ∃ a o, v = Value.ref a ∧ s.heap.get? a = some o ∧ o.cls = .type "tuple" := by
      intro vs xs
      induction xs generalizing vs with
      | nil => intro r v hv; cases r; cases hv
      | cons x xs ih =>
        rintro ⟨v0, vs', rfl, r1, r2⟩ v hv
        rcases List.mem_cons.mp hv with rfl | hv
        · obtain ⟨a, us, rfl, hx, ⟨o, ho, hc, n, hd⟩, ru⟩ := r1; exact ⟨a, o, rfl, ho, hc⟩
        · exact ih _ r2 v hv
    obtain ⟨a, o, rfl, ho, hc⟩ := this fs xs rf v hv
    rw [← hc]
    exact (Looks.ld ho).andThen .now
  · rw [hf] at r1 r2
    obtain ⟨a1, us, rfl, hx, ⟨o, ho, hc, n, hd⟩, ru⟩ := r1
    obtain ⟨a2, us', rfl, hx', ⟨o', ho', hc', n', hd'⟩, ru'⟩ := r2
    have l1 := ru.length
    have l2 := ru'.length
    rw [Array.length_toList] at l1 l2
    exact kat_lt ho hd ho' hd' (Lex.kat hu (hL a b) ru ru' (fun h => by simp at h) (by rw [l1, l2]) h)
end Mine
end

noncomputable section
set_option genSizeOf false
set_option genInjectivity false
set_option Elab.async false
set_option linter.unusedVariables false
set_option maxRecDepth 10000
namespace Mine
open PySem PySem.Calls PyProof.Rows PySem.W

variable {α β : Type}

/- the list at a now holds ds, all else stands -/
def SortPost (s : Shared) (a : Addr) (X : List Addr) (ds : List D) (s' : Shared) : Prop :=
  (∃ out n', IsL s'.heap a out n' ∧ RdL (a :: X) s'.heap out.toList ds) ∧ Heap.ExtBut a s.heap s'.heap ∧ s'.gens = s.gens ∧ s'.os = s.os

section
variable {prog : Program} {w : World} {A : Around} {E : Value → Shared → Prop} {s : Shared}

theorem list_sort_D' {f : α → D} {lt : α → α → Bool} (SF : SortF f lt) (SW : SwoF lt) {a : Addr} {vs : List Value} {n : Nat} {xs : List α} {X : List Addr} {P : PySem.Fin → Shared → Prop} (hl : IsL s.heap a vs.toArray n) (r : RdL (a :: X) s.heap vs (xs.map f)) (h64 : xs.length < 64) (hu : A.units + 70 < cLine)
    (h : ∀ s', SortPost s a X ((psortK lt id xs).map f) s' → P (.done (.ret .none)) s') :
    wpAny (model prog w) A (Builtin.«list.sort» ⟨[.ref a], []⟩) P E s :=
  list_sort_D SF SW hl r h64 hu fun h' out n' h1 h2 h3 => h _ ⟨⟨out, n', h1, h3⟩, h2, rfl, rfl⟩

theorem list_sort_none (a : Addr) : Builtin.«list.sort» ⟨[.ref a], [(Str.ofString "key", .none)]⟩ = Builtin.«list.sort» ⟨[.ref a], []⟩ := rfl

/- the keys are asked for -/
theorem keys_fold {df : D} {f : α → D} {g : β → D} {κ : α → β} {X : List Addr} {kS : Addr} {fv : Value} {G h1 : Heap} {body : Value → PUnit → Sem (ForInStep PUnit)} (hA : Room 8 A)
    (hkey : ∀ x, KeyIs df (f x) (g (κ x))) (hlim : G.NoLimit) (hG : ∀ a o, G.get? a = some o → h1.get? a = some o) (hGk : G.get? kS = none) (hX : ∀ b ∈ X, ∃ o, h1.get? b = some o) (rf : Rd (kS :: X) h1 fv df)
    (hb : ∀ x ks e (s : Shared) (C : Value → Shared → Prop), IsL s.heap kS (List.toArray ks) e → ks.length < 63 → wpAny (model prog w) A (call fv [x]) (fun k s' => Keep s.heap s'.heap ∧ C k s') No s →
      wpAny (model prog w) A (body x ⟨⟩) (fun r s' => r = .yield ⟨⟩ ∧ ∃ k c s0, Keep s.heap s0.heap ∧ C k s0 ∧ s'.gens = s0.gens ∧ s'.os = s0.os ∧ Heap.ExtBut kS s0.heap s'.heap ∧ IsL s'.heap kS (List.toArray (ks ++ [k])) c) E s) :
    ∀ (xs done : List α) (vs ks : List Value) (e : Nat) (s : Shared), done.length + xs.length < 64 → IsL s.heap kS (List.toArray ks) e → Heap.ExtBut kS h1 s.heap → RdL (kS :: X) s.heap vs (xs.map f) → RdL (kS :: X) s.heap ks ((done.map κ).map g) →
      wpAny (model prog w) A (forIn vs PUnit.unit body) (fun _ s' => ∃ ks' e', IsL s'.heap kS (List.toArray ks') e' ∧ Heap.ExtBut kS h1 s'.heap ∧ s'.gens = s.gens ∧ s'.os = s.os ∧ RdL (kS :: X) s'.heap ks' (((done ++ xs).map κ).map g)) E s
  | [], done, vs, ks, e, s, hn, hk, hx, rv, rk => by
    cases rv
    rw [List.forIn_nil]
    exact wpAny_pure ⟨ks, e, hk, hx, rfl, rfl, by simpa using rk⟩
  | x :: xs, done, vs, ks, e, s, hn, hk, hx, rv, rk => by
    obtain ⟨v, vs', rfl, r1, r2⟩ := rv
    rw [List.forIn_cons]
    have lk := rk.length
    simp at lk hn
    have stay0 : Stay (kS :: X) (kS :: X) h1 s.heap := fun b o hb' e' _ => ⟨hb', hx b o (fun q => hb' (q ▸ .head _)) e'⟩
    refine wpAny_bind (wpAny_mono (hb v ks e s (fun k s' => Rd (kS :: X) s'.heap k (g (κ x)) ∧ s'.gens = s.gens ∧ s'.os = s.os) hk (by walk_at "n")
      (wpAny_mono (hkey x prog w A s (kS :: X) fv v hA (hlim.keeps fun b o e' => hx b o (fun q => by rw [q, hGk] at e'; cases e') (hG b o e'))
        (fun b hb' => by
          rcases List.mem_cons.mp hb' with rfl | hb'
          · exact ⟨_, hk⟩
          · by_cases q : b = kS
            · subst q; exact ⟨_, hk⟩
            · obtain ⟨o, ho⟩ := hX b hb'; exact ⟨o, hx b o q ho⟩)
        (Rd.stay stay0 _ _ rf) r1) (fun k s' ⟨a1, a2, a3, a4⟩ => ⟨a2, a1, a3, a4⟩) fun _ _ x => x)) (fun q s' hq => ?_) fun _ _ x => x)
    obtain ⟨rfl, k, c, s0, kp, ⟨rk1, g1, o1⟩, g2, o2, ex, hk'⟩ := hq
    have st : Stay (kS :: X) (kS :: X) s.heap s'.heap := fun b o hb' e' _ => ⟨hb', ex b o (fun q => hb' (q ▸ .head _)) (kp b o e')⟩
    have st1 : Stay (kS :: X) (kS :: X) s0.heap s'.heap := fun b o hb' e' _ => ⟨hb', ex b o (fun q => hb' (q ▸ .head _)) e'⟩
    show wpAny (model prog w) A (forIn vs' PUnit.unit body) _ E s'
    refine wpAny_mono (keys_fold hA hkey hlim hG hGk hX rf hb xs (done ++ [x]) vs' (ks ++ [k]) c s' (by simp; walk_at "n") hk' (fun b o hb' e' => ex b o hb' (kp b o (hx b o hb' e'))) (RdL.stay st _ _ r2) ?_) ?_ fun _ _ x => x
    · rw [List.map_append, List.map_append]
      exact (RdL.stay st _ _ rk).append (RdL.one (Rd.stay st1 _ _ rk1))
    · rintro _ s2 ⟨ks', e', a1, a2, a3, a4, a5⟩
      refine ⟨ks', e', a1, a2, a3.trans (g2.trans g1), a4.trans (o2.trans o1), ?_⟩
      simpa using a5

theorem ksk_tail_D {a kS : Addr} {st : SortSt} {e1 e : Nat} {X : List Addr} {ks : List Value} {ds : List D} {out : Array Value} {P : PySem.Fin → Shared → Prop} (hout : (arrOf st).map (·.2) = out) (hka : kS ≠ a) (hk : IsL s.heap kS (List.toArray ks) e) (ha : IsL s.heap a #[] e1) (hf : failedOf st = none) (hkz : ks.length < 64)
    (ro : RdL (kS :: a :: X) s.heap out.toList ds) (hsz : ds.length < 64)
    (h : ∀ s' n', IsL s'.heap a out n' → RdL (kS :: a :: X) s'.heap out.toList ds → (∀ b o, b ≠ a → b ≠ kS → s.heap.get? b = some o → s'.heap.get? b = some o) → s'.gens = s.gens → s'.os = s.os → P (.done (.ret .none)) s') :
    wpAny (model prog w) A (ksk_tail a false e1 (.ref kS) st) P E s := by
  have lo := ro.length
  rw [Array.length_toList] at lo
  have ha1 : IsL (s.heap.update kS (Obj.mapSeq fun _ => (#[] : Array Value))) a #[] e1 := by
    unfold IsL; rw [Heap.get?_update_ne _ _ _ _ hka.symm]; exact ha
  have hc2 := IsL.update ha1 fun _ => out
  have kp : ∀ b o, b ≠ a → b ≠ kS → s.heap.get? b = some o → ((s.heap.update kS (Obj.mapSeq fun _ => (#[] : Array Value))).update a (Obj.mapSeq fun _ => out)).get? b = some o := fun b o h1 h2 h3 => by
    rw [Heap.get?_update_ne _ _ _ _ h1, Heap.get?_update_ne _ _ _ _ h2]; exact h3
  have ro2 : RdL (kS :: a :: X) ((s.heap.update kS (Obj.mapSeq fun _ => (#[] : Array Value))).update a (Obj.mapSeq fun _ => out)) out.toList ds :=
    RdL.stay (fun b o hb e' _ => ⟨hb, kp b o (fun q => hb (q ▸ .tail _ (.head _))) (fun q => hb (q ▸ .head _)) e'⟩) _ _ ro
  have hP := h { s with heap := ((s.heap.update kS (Obj.mapSeq fun _ => (#[] : Array Value))).update a (Obj.mapSeq fun _ => out)) } _ hc2 ro2 kp rfl rfl
  unfold ksk_tail
  dsimp only
  rw [hout]
  simp only [Bool.false_eq_true, if_false]
  refine wpAny_bind (listUpdate_at hk rfl ?_ (by rw [List.size_toArray, sizeLine_eq]; walk_at "n") (Nat.zero_le _))
  refine wpAny_bind (wpAny_letGo ?_)
  refine wpAny_bind (seqEpoch_at ha1 rfl ?_)
  refine wpAny_bind (listUpdate_at ha1 rfl ?_ (Nat.zero_le _) (by rw [lo, sizeLine_eq]; walk_at "n"))
  rw [hf]
  simp only [bne_self_eq_false, Bool.false_eq_true, if_false]
  exact wpAny_pure hP

theorem snds_kk {ks vs : List Value} (σ : SortKind) (hl : ks.length = vs.length) : Array.map (fun x => x.snd) (arrOf (SortSt.mk' σ (ks.toArray.zip vs.toArray) #[] 7 none)) = vs.toArray := by
  show Array.map _ (ks.toArray.zip vs.toArray) = vs.toArray
  apply Array.ext'
  simp
  exact List.map_snd_zip (by walk_at "n")

/- `list.sort(key=..)` -/
theorem list_sortK_D {df : D} {f : α → D} {g : β → D} {lt : β → β → Bool} {κ : α → β} (SF : SortF g lt) (SW : SwoF lt) (hkey : ∀ x, KeyIs df (f x) (g (κ x))) {G : Heap} {q a : Addr} {vs : List Value} {n : Nat} {xs : List α} {X : List Addr} {P : PySem.Fin → Shared → Prop} (hA : Room 8 A)
    (hlim : G.NoLimit) (hG : ∀ a o, G.get? a = some o → s.heap.get? a = some o) (hGa : G.get? a = none) (hX : ∀ b ∈ X, ∃ o, s.heap.get? b = some o) (rf : Rd (a :: X) s.heap (.ref q) df)
    (hl : IsL s.heap a vs.toArray n) (r : RdL (a :: X) s.heap vs (xs.map f)) (h64 : xs.length < 64)
    (h : ∀ s', SortPost s a X ((psortK lt κ xs).map f) s' → P (.done (.ret .none)) s') :
    wpAny (model prog w) A (Builtin.«list.sort» ⟨[.ref a], [(Str.ofString "key", .ref q)]⟩) P E s := by
  have lv := r.length
  rw [List.length_map] at lv
  rw [ksk_t1]
  unfold ksk_tree
  have s1 := Heap.SameBut.update s.heap a (Obj.mapSeq fun _ => (#[] : Array Value))
  have ho1 := hl.update (fun _ => (#[] : Array Value))
  have k2 : Heap.ExtBut a s.heap (((s.heap.update a (Obj.mapSeq fun _ => (#[] : Array Value))).push (seqObj "tuple" vs.toArray 0)).push (seqObj "list" #[] 0)) := (s1.extBut.push _).push _
  have ho3 : (((s.heap.update a (Obj.mapSeq fun _ => (#[] : Array Value))).push (seqObj "tuple" vs.toArray 0)).push (seqObj "list" #[] 0)).get? a = some _ := Heap.get?_push_of_some _ (Heap.get?_push_of_some _ ho1)
  have alt : a < s.heap.objs.size := Heap.lt_size hl
  have hkS : ((s.heap.update a (Obj.mapSeq fun _ => (#[] : Array Value))).push (seqObj "tuple" vs.toArray 0)).objs.size = s.heap.objs.size + 1 := by rw [size_push', Heap.size_update]
  have hk0 : IsL (((s.heap.update a (Obj.mapSeq fun _ => (#[] : Array Value))).push (seqObj "tuple" vs.toArray 0)).push (seqObj "list" #[] 0)) (s.heap.objs.size + 1) (List.toArray []) 0 := by
    rw [← hkS]; exact Heap.get?_push_size _ rfl
  refine wpAny_bind (listItems_at hl rfl ?_)
  refine wpAny_bind (listUpdate_at hl rfl ?_ (by rw [List.size_toArray, sizeLine_eq]; walk_at "n") (Nat.zero_le _))
  refine wpAny_bind (seqEpoch_at ho1 rfl ?_)
  refine wpAny_bind (wpAny_newTuple ?_ (by show vs.length ≤ _; rw [sizeLine_eq]; walk_at "n"))
  refine wpAny_bind (wpAny_newList ?_ (Nat.zero_le _))
  refine wpAny_holding ?_
  rw [hkS]
  generalize hh1 : (((s.heap.update a (Obj.mapSeq fun _ => (#[] : Array Value))).push (seqObj "tuple" vs.toArray 0)).push (seqObj "list" #[] 0)) = h1 at k2 ho3 hk0 ⊢
  generalize hks : s.heap.objs.size + 1 = kS at hk0 ⊢
  have hfresh : ∀ b o, s.heap.get? b = some o → b ≠ kS := fun b o e q => by
    have := Heap.lt_size e
    rw [q, ← hks] at this
    exact absurd this (Nat.not_lt.mpr (Nat.le_succ _))
  have hka : kS ≠ a := (hfresh a _ hl).symm
  have stay : Stay (a :: X) (kS :: a :: X) s.heap h1 := fun b o hb e _ => ⟨fun hm => by
      rcases List.mem_cons.mp hm with rfl | hm
      · exact hfresh _ _ e rfl
      · exact hb hm, k2 b o (fun q => hb (q ▸ .head _)) e⟩
  show wpAny (model prog w) A _ P E { s with heap := h1 }
  unfold ksk_rest
  refine wpAny_bind (wpAny_rule ?_)
  rw [← Array.forIn_toList]
  refine wpAny_bind (wpAny_mono (keys_fold (A := A) (E := E) (G := G) (h1 := h1) (kS := kS) (X := a :: X) (df := df) (f := f) (g := g) (κ := κ) (fv := .ref q) (hA.mono (by walk_at "n")) hkey hlim (fun b o e => k2 b o (fun q' => by rw [q', hGa] at e; cases e) (hG b o e))
    (by cases e : G.get? kS with
      | none => rfl
      | some o => exact (hfresh _ _ (hG _ _ e) rfl).elim) (fun b hb => by
        rcases List.mem_cons.mp hb with rfl | hb
        · exact ⟨_, ho3⟩
        · by_cases q' : b = a
          · subst q'; exact ⟨_, ho3⟩
          · obtain ⟨o, ho⟩ := hX b hb; exact ⟨o, k2 b o q' ho⟩) (Rd.stay stay _ _ rf) (fun x ks e s' C hk hz hx => ?_) xs [] vs [] 0 { s with heap := h1 } (by simpa using h64) hk0 (Heap.ExtBut.refl _ _) (RdL.stay stay _ _ r) rfl) (fun _ s' hd => ?_) fun _ _ x => x)
  · refine wpAny_bind (wpAny_attempt (wpAny_mono hx (fun k s'' hk' => ?_) fun _ _ hF => hF.elim))
    obtain ⟨kp, hc⟩ := hk'
    dsimp only
    have hk2 : IsL s''.heap kS (List.toArray ks) e := kp _ _ hk
    refine wpAny_bind (listUpdate_at hk2 rfl ?_ (by rw [List.size_toArray, sizeLine_eq]; walk_at "n") (Nat.le_trans (Nat.le_of_eq (Array.size_push ..)) (by rw [List.size_toArray, sizeLine_eq]; walk_at "n")))
    have hk3 := hk2.update (fun x => x.push k)
    rw [show (List.toArray ks).push k = List.toArray (ks ++ [k]) by simp] at hk3
    exact wpAny_pure ⟨rfl, k, _, s'', kp, hc, rfl, rfl, (Heap.SameBut.update ..).extBut, hk3⟩
  · obtain ⟨ks, e, hk', hx, hg, ho, rk⟩ := hd
    rw [List.nil_append] at rk
    have lk := rk.length
    simp only [List.length_map] at lk
    refine wpAny_bind (listItems_at hk' rfl ?_)
    unfold ksk_end
    simp only [Bool.false_eq_true, if_false]
    have rv : RdL (kS :: a :: X) s'.heap vs (xs.map f) := RdL.stay (fun b o hb e _ => ⟨hb, hx b o (fun q' => hb (q' ▸ .head _)) e⟩) _ _ (RdL.stay stay _ _ r)
    have ha' := hx a _ hka.symm ho3
    have fin : ∀ st' : SortSt, failedOf st' = none → RdL (kS :: a :: X) s'.heap ((arrOf st').map (·.2)).toList ((psortK lt κ xs).map f) →
        wpAny (model prog w) A (ksk_tail a false _ (.ref kS) st') P E s' := fun st' hf ro =>
      ksk_tail_D rfl hka hk' ha' hf (by walk_at "n") ro (by rw [List.length_map, psortK_length SW h64]; exact h64) fun s2 n2 b1 b2 b3 b4 b5 => h s2 ⟨⟨_, _, b1, RdL.stay (fun b o hb e _ => ⟨fun hm => hb (.tail _ hm), e⟩) _ _ b2⟩,
        fun b o hb e' => b3 b o hb (hfresh b o e') (hx b o (hfresh b o e') (k2 b o hb e')), b4.trans hg, b5.trans ho⟩
    match xs, rk, rv, lv, lk, h64, fin with
    | [], rk, rv, lv, lk, h64, fin =>
      cases rv; cases rk
      rw [if_pos (by simp), if_pos (by simp)]
      refine wpAny_bind (wpAny_pure ?_)
      rw [StateT.run_pure]
      refine wpAny_bind (wpAny_pure ?_)
      exact fin _ rfl (by rw [snds_kk _ rfl]; rfl)
    | [x], rk, rv, lv, lk, h64, fin =>
      rw [if_pos (by rw [List.size_toArray, lv]; exact Nat.lt_succ_self 1), if_pos (by rw [List.size_toArray, lv]; exact Nat.lt_succ_self 1)]
      refine wpAny_bind (wpAny_pure ?_)
      rw [StateT.run_pure]
      refine wpAny_bind (wpAny_pure ?_)
      exact fin _ rfl (by rw [snds_kk _ (by walk_at "n")]; exact rv)
    | x :: y :: t, rk, rv, lv, lk, h64, fin =>
      have hn2 : ¬ vs.toArray.size < 2 := by rw [List.size_toArray]; simp at lv; walk_at "n"
      rw [if_neg hn2, if_neg hn2]
      obtain ⟨σ, hkind, hcmp⟩ := SF
      refine wpAny_bind (hkind prog w A E _ (kS :: a :: X) ks ((x :: y :: t).map κ) _ rk (by simp at lk; walk_at "n") ?_)
      refine wpAny_bind (wpAny_mono (sort_run_D (g := g) (κ := κ) (hcmp prog w) SW rk rv (by simpa using h64) (by have := hA.2.1; walk_at "n") (Q := fun st' s2 => s2 = s' ∧ failedOf st' = none ∧ RdL (kS :: a :: X) s'.heap ((arrOf st').map (·.2)).toList ((psortK lt κ (x :: y :: t)).map f))
        fun st' hf ro => ⟨rfl, hf, ro⟩) ?_ fun _ _ e => e)
      rintro ⟨⟨⟩, st'⟩ s2 ⟨rfl, hf, ro⟩
      exact fin st' hf ro
end
end Mine
end

noncomputable section
set_option genSizeOf false
set_option genInjectivity false
set_option Elab.async false
set_option linter.unusedVariables false
set_option maxRecDepth 10000
namespace Mine
open PySem PySem.Calls PyProof.Rows PySem.W

variable {α β : Type}

section
variable {prog : Program} {w : World} {A : Around} {E : Value → Shared → Prop} {s : Shared}
theorem sorted_D {kw : List (Str × Value)} {l : Addr} {vs : List Value} {n : Nat} {X : List Addr} {ds : List D} {Q : Value → Shared → Prop} (hl : s.heap.IsList l vs.toArray) (hz : vs.length < 64)
    (ha1 : argsOk "sorted" ⟨[.ref l], kw⟩) (ha2 : ∀ x, argsOk "list.sort" ⟨[.ref x], kw⟩) (hX : ∀ b ∈ X, ∃ o, s.heap.get? b = some o)
    (hs : ∀ (s1 : Shared) (a : Addr) (E : Value → Shared → Prop) (P : PySem.Fin → Shared → Prop) (n1 : Nat), Keep s.heap s1.heap → s1.gens = s.gens → s1.os = s.os → a ∉ X → s.heap.get? a = none → IsL s1.heap a vs.toArray n1 → (∀ s', SortPost s1 a X ds s' → P (.done (.ret .none)) s') → wpAny (model prog w) A.in1.in1 (Builtin.«list.sort» ⟨[.ref a], kw⟩) P E s1)
    (h : ∀ a s', Rd X s'.heap (.ref a) (.fl ds) → Keep s.heap s'.heap → s'.gens = s.gens → s'.os = s.os → Q (.ref a) s') :
    wpAny (model prog w) A (call (.builtin "sorted") [.ref l] kw) Q E s := by
  refine call_function_entry_kw kind_sorted plain_sorted entry_sorted ha1 ?_
  unfold Builtin.«sorted»
  refine wpAny_bind (m := checkCount "sorted" 1 1 _) (wpAny_pure ?_)
  refine wpAny_bind (collect_list hl ?_ (by rw [sizeLine_eq]; walk_at "n"))
  refine wpAny_bind (wpAny_newList ?_ (by rw [sizeLine_eq]; walk_at "n"))
  have hsz : ((s.heap.push (seqObj "list" #[] 0)).update s.heap.objs.size (Obj.mapSeq (· ++ vs.toArray))).objs.size = s.heap.objs.size + 1 := by
    rw [Heap.size_update, size_push']
  have hoL : (((s.heap.push (seqObj "list" #[] 0)).update s.heap.objs.size (Obj.mapSeq (· ++ vs.toArray))).push (seqObj "list" vs.toArray 0)).get? (s.heap.objs.size + 1) = some (seqObj "list" vs.toArray 0) := by
    rw [← hsz]; exact Heap.get?_push_size _ rfl
  have keep : ∀ b o, s.heap.get? b = some o → (((s.heap.push (seqObj "list" #[] 0)).update s.heap.objs.size (Obj.mapSeq (· ++ vs.toArray))).push (seqObj "list" vs.toArray 0)).get? b = some o := fun b o q => by
    have hlt : b < s.heap.objs.size := Heap.lt_size q
    rw [Heap.get?_push_ne _ _ _ (by rw [hsz]; exact Nat.ne_of_lt (Nat.lt_succ_of_lt hlt)), Heap.get?_update_ne _ _ _ _ (Nat.ne_of_lt hlt), Heap.get?_push_ne _ _ _ (Nat.ne_of_lt hlt)]
    exact q
  show wpAny _ _ _ _ _ { s with heap := ((s.heap.push (seqObj "list" #[] 0)).update s.heap.objs.size (Obj.mapSeq (· ++ vs.toArray))).push (seqObj "list" vs.toArray 0) }
  rw [hsz]
  have hno : s.heap.get? (s.heap.objs.size + 1) = none := Heap.get?_none_of_le (Nat.le_succ _)
  have hnX : (s.heap.objs.size + 1) ∉ X := fun hm => by obtain ⟨o, ho⟩ := hX _ hm; rw [hno] at ho; cases ho
  refine wpAny_bind (wpAny_holding (wpAny_call_entry_kw slot_list_sort ⟨_, hoL, rfl⟩ entry_list_sort ?body (ha2 _)))
  case body =>
    show wpAny (model prog w) A.in1.in1 (Builtin.«list.sort» ⟨[.ref (s.heap.objs.size + 1)], kw⟩) _ _ _
    refine hs { s with heap := ((s.heap.push (seqObj "list" #[] 0)).update s.heap.objs.size (Obj.mapSeq (· ++ vs.toArray))).push (seqObj "list" vs.toArray 0) } (s.heap.objs.size + 1) _ _ 0 keep rfl rfl hnX hno hoL ?_
    rintro s' ⟨⟨out, n', hl', ro⟩, ex, hg, ho⟩
    refine ⟨_, rfl, wpAny_pure ⟨_, rfl, h _ s' ⟨_, out, n', rfl, hnX, hl', RdL.stay (fun b o hb e _ => ⟨fun hm => hb (.tail _ hm), e⟩) _ _ ro⟩ (fun b o e => ex b o (fun q => by rw [q, hno] at e; cases e) (keep b o e)) hg ho⟩⟩
end

section
variable {c : Cx} {k : Nat} {ρ : Rho} {ls : Ls} {P : D → Ls → Prop}

theorem St.setExt {s s' : Shared} {a : Addr} {vs ws : Array Value} {xs ys : List D} {n n' : Nat} (S : St c ρ ls s) (ha : (a, xs) ∈ ls) (ho : IsL s.heap a vs n)
    (hn : IsL s'.heap a ws n') (hs : Heap.ExtBut a s.heap s'.heap) (hr : RdL (c.X ls) s'.heap ws.toList ys) (hg : s'.gens = s.gens) (hos : s'.os = s.os) : St c ρ (lset ls a ys) s' ∧ True := by
  have haX : a ∈ c.X ls := Cx.own_X (Cx.key_own (List.mem_map_of_mem (f := (·.1)) ha))
  have hk : Keep s.heap (s'.heap.update a fun _ => seqObj "list" vs n) := fun b o e => by
    by_cases q : b = a
    · subst q
      have e' : s.heap.get? b = some (seqObj "list" vs n) := ho
      rw [e'] at e; cases e
      exact Heap.get?_update_self (fun _ => seqObj "list" vs n) hn rfl
    · rw [Heap.get?_update_ne _ _ _ _ q]; exact hs b o q e
  have S1 : St c ρ ls { s' with heap := s'.heap.update a fun _ => seqObj "list" vs n } := S.ext hk hg hos
  have sb : Heap.SameBut a (s'.heap.update a fun _ => seqObj "list" vs n) s'.heap := ⟨(Heap.size_update ..).symm, fun b hb => (Heap.get?_update_ne _ _ _ _ hb).symm⟩
  refine ⟨S1.setList ha (IsL.isList (hk _ _ ho)) hn sb ?_ rfl rfl, trivial⟩
  exact RdL.stay (fun b o hb e _ => ⟨hb, by
    show (s'.heap.update a fun _ => seqObj "list" vs n).get? b = some o
    have hne : b ≠ a := fun q => hb (q ▸ haX)
    rw [Heap.get?_update_ne _ _ _ _ hne]; exact e⟩) _ _ hr

theorem CallB_sorted {f : α → D} {lt : α → α → Bool} (SF : SortF f lt) (SW : SwoF lt) {d : D} {xs : List α} (hL : LsOf ls d (xs.map f)) (h64 : xs.length < 64) (h : P (.fl ((psortK lt id xs).map f)) ls) : CallB c (k+8) (.raw (.builtin "sorted")) [d] [] ρ ls P := by
  rintro A s v vs kvs hA S rfl ⟨v1, _, rfl, r1, rfl⟩ rk
  cases rk.nil
  obtain ⟨a, ws, n, rfl, hl, hr⟩ := hL.getL S r1
  have hz := hr.length
  rw [List.length_map] at hz
  refine sorted_D (kw := []) (vs := ws.toList) (X := c.X ls) (ds := (psortK lt id xs).map f) (n := n) (by simpa using hl.isList) (by walk_at "n") (args_sorted1 _) (fun x => args_list_sort _) (fun b hb => S.live hb) ?_ ?_
  · intro s1 a1 E P' n1 kp hg ho hnX hno hl1 hP
    refine list_sort_D' SF SW hl1 ?_ h64 (by have := hA.2.1; show A.units + 1 + 1 + 70 < _; walk_at "n") hP
    exact RdL.stay (fun b o hb e _ => ⟨fun hm => by
      rcases List.mem_cons.mp hm with rfl | hm
      · rw [hno] at e; cases e
      · exact hb hm, kp b o e⟩) _ _ hr
  · intro a' s' r' kp hg ho
    exact ⟨_, ls, rfl, S.ext kp hg ho, kp.stay, r', h⟩

theorem CallB_sorted_none {f : α → D} {lt : α → α → Bool} (SF : SortF f lt) (SW : SwoF lt) {d : D} {xs : List α} (hL : LsOf ls d (xs.map f)) (h64 : xs.length < 64) (h : P (.fl ((psortK lt id xs).map f)) ls) : CallB c (k+8) (.raw (.builtin "sorted")) [d] [(Str.ofString "key", .none)] ρ ls P := by
  rintro A s v vs kvs hA S rfl ⟨v1, _, rfl, r1, rfl⟩ rk
  obtain ⟨a, ws, n, rfl, hl, hr⟩ := hL.getL S r1
  have hz := hr.length
  rw [List.length_map] at hz
  obtain ⟨e1, e2⟩ := rk
  match kvs, e1, e2 with
  | [(nm, kv)], e1, e2 =>
    obtain ⟨_, _, e3, rn, e4⟩ := e2
    simp at e1 e3
    obtain ⟨rfl, rfl⟩ := e3
    cases rn
    subst e1
    refine sorted_D (kw := [(Str.ofString "key", .none)]) (vs := ws.toList) (X := c.X ls) (ds := (psortK lt id xs).map f) (n := n) (by simpa using hl.isList) (by walk_at "n") (ksk_s1 _ _) (fun x => ksk_l1 _ _) (fun b hb => S.live hb) ?_ ?_
    · intro s1 a1 E P' n1 kp hg ho hnX hno hl1 hP
      rw [list_sort_none]
      refine list_sort_D' SF SW hl1 ?_ h64 (by have := hA.2.1; show A.units + 1 + 1 + 70 < _; walk_at "n") hP
      exact RdL.stay (fun b o hb e _ => ⟨fun hm => by
        rcases List.mem_cons.mp hm with rfl | hm
        · rw [hno] at e; cases e
        · exact hb hm, kp b o e⟩) _ _ hr
    · intro a' s' r' kp hg ho
      exact ⟨_, ls, rfl, S.ext kp hg ho, kp.stay, r', h⟩

theorem CallB_sorted_key {f : α → D} {g : β → D} {lt : β → β → Bool} {κ : α → β} {fd : FuncData} (SF : SortF g lt) (SW : SwoF lt) (hkey : ∀ x, KeyIs (.lam fd) (f x) (g (κ x))) (hlim : c.G.NoLimit) {d : D} {xs : List α} (hL : LsOf ls d (xs.map f)) (h64 : xs.length < 64)
    (h : P (.fl ((psortK lt κ xs).map f)) ls) : CallB c (k+10) (.raw (.builtin "sorted")) [d] [(Str.ofString "key", .lam fd)] ρ ls P := by
  rintro A s v vs kvs hA S rfl ⟨v1, _, rfl, r1, rfl⟩ rk
  obtain ⟨a, ws, n, rfl, hl, hr⟩ := hL.getL S r1
  have hz := hr.length
  rw [List.length_map] at hz
  obtain ⟨e1, e2⟩ := rk
  match kvs, e1, e2 with
  | [(nm, kv)], e1, e2 =>
    obtain ⟨_, _, e3, rn, e4⟩ := e2
    simp at e1 e3
    obtain ⟨rfl, rfl⟩ := e3
    subst e1
    have rn' := rn
    obtain ⟨q, _, _, rfl, _⟩ := rn'
    refine sorted_D (kw := [(Str.ofString "key", .ref q)]) (vs := ws.toList) (X := c.X ls) (ds := (psortK lt κ xs).map f) (n := n) (by simpa using hl.isList) (by walk_at "n") (ksk_s1 _ _) (fun x => ksk_l1 _ _) (fun b hb => S.live hb) ?_ ?_
    · intro s1 a1 E P' n1 kp hg ho hnX hno hl1 hP
      have st : Stay (c.X ls) (a1 :: c.X ls) s.heap s1.heap := fun b o hb e _ => ⟨fun hm => by
        rcases List.mem_cons.mp hm with rfl | hm
        · rw [hno] at e; cases e
        · exact hb hm, kp b o e⟩
      refine list_sortK_D (G := c.G) SF SW hkey (Room.in1 (Room.in1 (hA.mono (by walk_at "n")))) hlim (fun b o e => kp b o (S.fm.top b o e)) (by
        cases e : c.G.get? a1 with
        | none => rfl
        | some o => have := S.fm.top _ _ e; rw [hno] at this; cases this) (fun b hb => let ⟨o, ho⟩ := S.live hb; ⟨o, kp b o ho⟩) (Rd.stay st _ _ rn) hl1 (RdL.stay st _ _ hr) h64 hP
    · intro a' s' r' kp hg ho
      exact ⟨_, ls, rfl, S.ext kp hg ho, kp.stay, r', h⟩

/- `own.sort()` -/
theorem CallB_sort {f : α → D} {lt : α → α → Bool} (SF : SortF f lt) (SW : SwoF lt) {a : Addr} {xs : List α} (hm : (a, xs.map f) ∈ ls) (h64 : xs.length < 64) (h : P .none (lset ls a ((psortK lt id xs).map f))) : CallB c (k+8) (.raw (.builtin "list.sort")) [.raw (.ref a)] [] ρ ls P := by
  rintro A s v vs kvs hA S rfl ⟨_, _, rfl, rfl, rfl⟩ rk
  cases rk.nil
  obtain ⟨ws, n, hl, hr⟩ := S.lists _ hm
  refine wpAny_call_entry slot_list_sort ⟨_, hl, rfl⟩ entry_list_sort ?_ (args_list_sort _)
  have haX : a ∈ c.X ls := Cx.own_X (Cx.key_own (List.mem_map_of_mem (f := (·.1)) hm))
  refine list_sort_D' (X := c.X ls) (vs := ws.toList) SF SW (by simpa using hl) (RdL.stay (fun b o hb e _ => ⟨fun hm' => by
      rcases List.mem_cons.mp hm' with rfl | hm'
      · exact hb haX
      · exact hb hm', e⟩) _ _ hr) h64 (by have := hA.2.1; show A.units + 1 + 70 < _; walk_at "n") ?_
  rintro s' ⟨⟨out, n', hl', ro⟩, ex, hg, ho⟩
  have ro' : RdL (c.X ls) s'.heap out.toList ((psortK lt id xs).map f) := RdL.stay (fun b o hb e _ => ⟨fun hm => hb (.tail _ hm), e⟩) _ _ ro
  have st : Stay (c.X ls) (c.X ls) s.heap s'.heap := fun b o hb e _ => ⟨hb, ex b o (fun q => hb (q ▸ haX)) e⟩
  obtain ⟨S', -⟩ := S.setExt hm hl hl' ex ro' hg ho
  exact ⟨_, rfl, ⟨.none, _, keys_lset .., S', st, rfl, h⟩⟩
end
end Mine
end

noncomputable section
set_option genSizeOf false
set_option genInjectivity false
set_option Elab.async false
set_option linter.unusedVariables false
set_option maxRecDepth 10000
namespace Mine
open PySem PySem.Calls PyProof.Rows PySem.W

section
variable {prog : Program} {w : World} {A : Around} {E : Value → Shared → Prop} {s : Shared}

theorem nextOf_range_item {it : Addr} {x left step : Int} {Q : Value → Shared → Prop} (hit : IsRangeIter s.heap it x left step) (hleft : 0 < left)
    (hQ : ∀ h', IsRangeIter h' it (x + step) (left - 1) step → Heap.SameBut it s.heap h' → Q (.int x s.toks) { s with heap := h', toks := s.toks + 1 }) :
    wpAny (model prog w) A (Builtin.SmallTypes.nextOf (.ref it)) Q E s := by
  have hT : s.TypeIs (.ref it) "range_iterator" := ⟨_, hit, rfl⟩
  unfold Builtin.SmallTypes.nextOf
  refine wpAny_bind (wpAny_callSpecial?_slot (name := Str.ofString "__next__") hT F.slot_range_iterator_next
    (call_meets F.slot_range_iterator_next hT F.entry_range_iterator_next (F.args_range_iterator_next_1 _) (AutoRange.range_iterator___next___range_iterator_1 it x left step (by walk_at "n")) ⟨hit, ?_⟩))
  exact wpAny_pure (hQ _ (Heap.get?_update_self _ (Heap.get?_update_self _ hit rfl) rfl) ((Heap.SameBut.update ..).trans (Heap.SameBut.update ..)))

theorem nextOf_range_end {it : Addr} {x left step : Int} {Q : Value → Shared → Prop} (hh : A.handled = none) (hit : IsRangeIter s.heap it x left step) (hleft : left ≤ 0)
    (hE : ∀ h' e, Heap.ExtBut it s.heap h' → (∃ o, h'.get? e = some o ∧ o.cls = .type "StopIteration") → E (.ref e) { s with heap := h' }) :
    wpAny (model prog w) A (Builtin.SmallTypes.nextOf (.ref it)) Q E s := by
  have hT : s.TypeIs (.ref it) "range_iterator" := ⟨_, hit, rfl⟩
  unfold Builtin.SmallTypes.nextOf
  refine wpAny_bind (wpAny_callSpecial?_slot (name := Str.ofString "__next__") hT F.slot_range_iterator_next
    (wpAny_call_entry F.slot_range_iterator_next hT F.entry_range_iterator_next ?_ (F.args_range_iterator_next_1 _)))
  show wpAny _ _ (field (.ref it) 0 >>= _) _ _ s
  refine wpAny_bind (wpAny_field hit rfl (x := rawInt x) rfl ?_)
  show wpAny _ _ (field (.ref it) 1 >>= _) _ _ s
  refine wpAny_bind (wpAny_field hit rfl (x := rawInt left) rfl ?_)
  show wpAny _ _ (field (.ref it) 2 >>= _) _ _ s
  refine wpAny_bind (wpAny_field hit rfl (x := rawInt step) rfl ?_)
  show wpAny _ _ (if left ≤ 0 then _ else _) _ _ s
  rw [if_pos hleft]
  refine wpAny_bind (wpAny_rule ?_)
  refine wpAny_bind ?_
  show wpAny _ _ (newExc (.type "StopIteration") [] >>= _) _ _ _
  refine wpAny_bind ?_
  simp only [newExc, newTuple]
  refine wpAny_bind (wpAny_newObj_type ?_ (by size_fits))
  refine wpAny_bind (m := firstArgMember _ _) (wpAny_of_eq (a := Value.none) (by first | rfl | (simp only [firstArgMember]; rfl)) ?_)
  refine wpAny_newObj_type ?_ (by size_fits)
  simp only [raiseNew]
  refine wpAny_bind (wpAny_handled ?_)
  first | rw [show A.in1.handled = none from hh] | rw [hh]
  refine wpAny_bind (wpAny_pure (wpAny_throw ?_))
  exact hE _ _ (((Heap.ExtBut.refl it s.heap).push _).push _) ⟨_, Heap.get?_push_size _ rfl, rfl⟩

structure ZApart (z TI TO i1 i2 l2 : Addr) : Prop where
  TIz : TI ≠ z
  TOz : TO ≠ z
  i1z : i1 ≠ z
  i2z : i2 ≠ z
  TITO : TI ≠ TO
  TIi1 : TI ≠ i1
  TIi2 : TI ≠ i2
  TOi1 : TO ≠ i1
  TOi2 : TO ≠ i2
  i12 : i1 ≠ i2
  l2z : l2 ≠ z
  l2TO : l2 ≠ TO
  l2i1 : l2 ≠ i1
  l2i2 : l2 ≠ i2

theorem IsRangeIter.but {a it : Addr} {h h' : Heap} {x left step : Int} (r : IsRangeIter h it x left step) (e : Heap.ExtBut a h h') (hne : it ≠ a) : IsRangeIter h' it x left step := e _ _ hne r

theorem zipR_item {z TI TO i1 i2 l2 : Addr} {n1 left : Int} {k2 : Nat} {ys : Array Value} {y a b : Value} {Q : Value → Shared → Prop} (D : ZApart z TI TO i1 i2 l2)
    (hz : IsZip s.heap z TI TO .none) (hTI : IsPair s.heap TI (.ref i1) (.ref i2)) (hTO : IsPair s.heap TO a b)
    (h1 : IsRangeIter s.heap i1 n1 left 1) (hleft : 0 < left) (h2 : s.heap.IsListIter i2 l2 k2) (hl2 : s.heap.IsList l2 ys) (hy : ys[k2]? = some y)
    (hQ : ∀ s', s'.gens = s.gens → s'.os = s.os → IsZip s'.heap z TI TO (rawInt s.heap.objs.size) → IsPair s'.heap TO (.int n1 s.toks) y → IsRangeIter s'.heap i1 (n1 + 1) (left - 1) 1 → s'.heap.IsListIter i2 l2 (k2 + 1) → IsPair s'.heap s.heap.objs.size (.int n1 s.toks) y →
      (∀ c o, c ≠ z → c ≠ TO → c ≠ i1 → c ≠ i2 → s.heap.get? c = some o → s'.heap.get? c = some o) → Q (.ref s.heap.objs.size) s') :
    wpAny (model prog w) A (Builtin.«zip.__next__» ⟨[.ref z], []⟩) (fun fin s' => ∃ v, fin = .done (.ret v) ∧ Q v s') E s := by
  show wpAny _ _ (field (.ref z) 2 >>= _) _ _ _
  refine wpAny_bind (wpAny_field hz rfl (x := .bool false) rfl ?_)
  show wpAny _ _ (field (.ref z) 3 >>= _) _ _ _
  refine wpAny_bind (wpAny_field hz rfl (x := .ref TI) rfl ?_)
  refine wpAny_bind (wpAny_seqItems hTI rfl ?_)
  show wpAny _ _ (Builtin.SmallTypes.ownedTupleIsFree (.ref z) >>= _) _ _ _
  refine wpAny_bind ?_
  unfold Builtin.SmallTypes.ownedTupleIsFree
  refine wpAny_bind (wpAny_field hz rfl (x := .none) rfl (wpAny_pure ?_))
  simp only [if_true]
  refine wpAny_bind (wpAny_rule ?_)
  refine wpAny_bind (wpAny_field hz rfl (x := .ref TO) rfl ?_)
  refine wpAny_bind (wpAny_setField_rec hz (by simp) fun h₁ hz₁ hs₁ => ?_)
  replace hz₁ : IsZip h₁ z TI TO .ellipsis := hz₁
  refine wpAny_bind ?_
  simp only [List.zipIdx_cons, List.zipIdx_nil, List.forIn_cons, List.forIn_nil]
  refine wpAny_bind (wpAny_bind (wpAny_onRaise ?_))
  show wpAny _ _ (Builtin.SmallTypes.nextOf (.ref i1) >>= _) _ _ _
  refine wpAny_bind (nextOf_range_item (IsRangeIter.but h1 hs₁.extBut D.i1z) hleft fun h₂ h1₂ hs₂ => wpAny_pure ?_)
  have hTO₂ : IsPair h₂ TO a b := hs₂.extBut _ _ D.TOi1 (hs₁.extBut _ _ D.TOz hTO)
  refine wpAny_bind (wpAny_seqItems hTO₂ rfl ?_)
  refine wpAny_bind (wpAny_updateSeq_pair hTO₂ fun h₃ hTO₃ hs₃ => ?_)
  replace hTO₃ : IsPair h₃ TO (.int n1 s.toks) b := hTO₃
  refine wpAny_bind (wpAny_letGo (wpAny_pure ?_))
  refine wpAny_bind (wpAny_bind (wpAny_onRaise ?_))
  show wpAny _ _ (Builtin.SmallTypes.nextOf (.ref i2) >>= _) _ _ _
  refine wpAny_bind (wpAny_nextOf_list_item (((h2.extBut hs₁.extBut D.i2z).extBut hs₂.extBut D.i12.symm).extBut hs₃.extBut D.TOi2.symm)
    (((hl2.extBut hs₁.extBut D.l2z).extBut hs₂.extBut D.l2i1).extBut hs₃.extBut D.l2TO) hy fun h₄ h2₄ hs₄ => wpAny_pure ?_)
  have hTO₄ : IsPair h₄ TO (.int n1 s.toks) b := hs₄.extBut _ _ D.TOi2 hTO₃
  refine wpAny_bind (wpAny_seqItems hTO₄ rfl ?_)
  refine wpAny_bind (wpAny_updateSeq_pair hTO₄ fun h₅ hTO₅ hs₅ => ?_)
  replace hTO₅ : IsPair h₅ TO (.int n1 s.toks) y := hTO₅
  refine wpAny_bind (wpAny_letGo (wpAny_pure (wpAny_pure ?_)))
  refine wpAny_bind (wpAny_seqItems hTO₅ rfl ?_)
  refine wpAny_bind (wpAny_newTuple ?_)
  have hsz : h₅.objs.size = s.heap.objs.size := by rw [hs₅.1, hs₄.1, hs₃.1, hs₂.1, hs₁.1]
  have hz₅ : IsZip h₅ z TI TO .ellipsis := hs₅.extBut _ _ D.TOz.symm (hs₄.extBut _ _ D.i2z.symm (hs₃.extBut _ _ D.TOz.symm (hs₂.extBut _ _ D.i1z.symm hz₁)))
  have hk₅ : ∀ c o, c ≠ z → c ≠ TO → c ≠ i1 → c ≠ i2 → s.heap.get? c = some o → h₅.get? c = some o := fun c o c1 c2 c3 c4 e =>
    hs₅.extBut _ _ c2 (hs₄.extBut _ _ c4 (hs₃.extBut _ _ c2 (hs₂.extBut _ _ c3 (hs₁.extBut _ _ c1 e))))
  have h1₅ : IsRangeIter h₅ i1 (n1 + 1) (left - 1) 1 := IsRangeIter.but (IsRangeIter.but (IsRangeIter.but h1₂ hs₃.extBut D.TOi1.symm) hs₄.extBut D.i12) hs₅.extBut D.TOi1.symm
  have h2₅ : h₅.IsListIter i2 l2 (k2 + 1) := h2₄.extBut hs₅.extBut D.TOi2.symm
  have hzlt : z < h₅.objs.size := Heap.lt_size hz₅
  show wpAny _ _ (Builtin.SmallTypes.ownedTupleHandOut (.ref z) (.ref h₅.objs.size) >>= _) _ _ _
  refine wpAny_bind ?_
  unfold Builtin.SmallTypes.ownedTupleHandOut
  have hz₆ : IsZip (h₅.push { cls := .type "tuple", data := .seq #[.int n1 s.toks, y] }) z TI TO .ellipsis := Heap.get?_push_of_some _ hz₅
  refine wpAny_bind (wpAny_setField_rec hz₆ (by simp) fun h₇ hz₇ hs₇ => ?_)
  replace hz₇ : IsZip h₇ z TI TO (rawInt h₅.objs.size) := hz₇
  refine wpAny_setField_rec hz₇ (by simp) fun h₈ hz₈ hs₈ => ?_
  replace hz₈ : IsZip h₈ z TI TO (rawInt h₅.objs.size) := hz₈
  have up : ∀ c o, c ≠ z → h₅.get? c = some o → h₈.get? c = some o := fun c o c1 e => hs₈.extBut _ _ c1 (hs₇.extBut _ _ c1 (Heap.get?_push_of_some _ e))
  have hT₈ : IsPair h₈ h₅.objs.size (.int n1 s.toks) y := hs₈.extBut _ _ (Nat.ne_of_gt hzlt) (hs₇.extBut _ _ (Nat.ne_of_gt hzlt) (Heap.get?_push_size _ rfl))
  rw [hsz] at hz₈ hT₈
  refine wpAny_pure ⟨_, rfl, ?_⟩
  show Q (.ref h₅.objs.size) _
  rw [hsz]
  exact hQ _ rfl rfl hz₈ (up _ _ D.TOz hTO₅) (up _ _ D.i1z h1₅) (h2₅.at fun o e => up _ o D.i2z e) hT₈ fun c o c1 c2 c3 c4 e => up c o c1 (hk₅ c o c1 c2 c3 c4 e)

theorem zipR_end {z TI TO i1 i2 : Addr} {n1 left : Int} {a b : Value} {Q : PySem.Fin → Shared → Prop} (hh : A.handled = none) (i1z : i1 ≠ z)
    (hz : IsZip s.heap z TI TO .none) (hTI : IsPair s.heap TI (.ref i1) (.ref i2)) (h1 : IsRangeIter s.heap i1 n1 left 1) (hleft : left ≤ 0)
    (hE : ∀ h' e, (∀ c o, c ≠ z → c ≠ i1 → s.heap.get? c = some o → h'.get? c = some o) → (∃ o, h'.get? e = some o ∧ o.cls = .type "StopIteration") → E (.ref e) { s with heap := h' }) :
    wpAny (model prog w) A (Builtin.«zip.__next__» ⟨[.ref z], []⟩) Q E s := by
  show wpAny _ _ (field (.ref z) 2 >>= _) _ _ _
  refine wpAny_bind (wpAny_field hz rfl (x := .bool false) rfl ?_)
  show wpAny _ _ (field (.ref z) 3 >>= _) _ _ _
  refine wpAny_bind (wpAny_field hz rfl (x := .ref TI) rfl ?_)
  refine wpAny_bind (wpAny_seqItems hTI rfl ?_)
  show wpAny _ _ (Builtin.SmallTypes.ownedTupleIsFree (.ref z) >>= _) _ _ _
  refine wpAny_bind ?_
  unfold Builtin.SmallTypes.ownedTupleIsFree
  refine wpAny_bind (wpAny_field hz rfl (x := .none) rfl (wpAny_pure ?_))
  simp only [if_true]
  refine wpAny_bind (wpAny_rule ?_)
  refine wpAny_bind (wpAny_field hz rfl (x := .ref TO) rfl ?_)
  refine wpAny_bind (wpAny_setField_rec hz (by simp) fun h₁ hz₁ hs₁ => ?_)
  replace hz₁ : IsZip h₁ z TI TO .ellipsis := hz₁
  refine wpAny_bind ?_
  simp only [List.zipIdx_cons, List.zipIdx_nil, List.forIn_cons, List.forIn_nil]
  refine wpAny_bind (wpAny_bind (wpAny_onRaise ?_))
  show wpAny _ _ (Builtin.SmallTypes.nextOf (.ref i1) >>= _) _ _ _
  refine wpAny_bind (nextOf_range_end hh (IsRangeIter.but h1 hs₁.extBut i1z) hleft fun h₂ e hs₂ he => ?_)
  obtain ⟨oe, hoe, hce⟩ := he
  have hz₂ : IsZip h₂ z TI TO .ellipsis := hs₂ _ _ i1z.symm hz₁
  have hez : e ≠ z := fun x => by subst x; rw [hz₂] at hoe; cases hoe; simp at hce
  refine wpAny_setField_rec hz₂ (by simp) fun h₃ _ hs₃ => hE h₃ e (fun c o c1 c3 x => hs₃.extBut _ _ c1 (hs₂ _ _ c3 (hs₁.extBut _ _ c1 x))) ⟨oe, hs₃.extBut _ _ hez hoe, hce⟩

theorem pyNext_zipR_item {z TI TO i1 i2 l2 : Addr} {n1 left : Int} {k2 : Nat} {ys : Array Value} {y a b : Value} {Q : Option Value → Shared → Prop} (D : ZApart z TI TO i1 i2 l2)
    (hz : IsZip s.heap z TI TO .none) (hTI : IsPair s.heap TI (.ref i1) (.ref i2)) (hTO : IsPair s.heap TO a b)
    (h1 : IsRangeIter s.heap i1 n1 left 1) (hleft : 0 < left) (h2 : s.heap.IsListIter i2 l2 k2) (hl2 : s.heap.IsList l2 ys) (hy : ys[k2]? = some y)
    (hQ : ∀ s', s'.gens = s.gens → s'.os = s.os → IsZip s'.heap z TI TO (rawInt s.heap.objs.size) → IsPair s'.heap TO (.int n1 s.toks) y → IsRangeIter s'.heap i1 (n1 + 1) (left - 1) 1 → s'.heap.IsListIter i2 l2 (k2 + 1) → IsPair s'.heap s.heap.objs.size (.int n1 s.toks) y →
      (∀ c o, c ≠ z → c ≠ TO → c ≠ i1 → c ≠ i2 → s.heap.get? c = some o → s'.heap.get? c = some o) → Q (some (.ref s.heap.objs.size)) s') :
    wpAny (model prog w) A (pyNext (.ref z)) Q E s := by
  have hT : s.TypeIs (.ref z) "zip" := ⟨_, hz, rfl⟩
  unfold pyNext
  exact wpAny_bind (wpAny_attempt (wpAny_callSpecial?_slot (name := Str.ofString "__next__") hT F.slot_zip_next
    (wpAny_call_entry F.slot_zip_next hT F.entry_zip_next
      (zipR_item D hz hTI hTO h1 hleft h2 hl2 hy fun s' b1 b2 a1 a2 a3 a4 a5 a6 => wpAny_pure (hQ s' b1 b2 a1 a2 a3 a4 a5 a6)) (F.args_zip_next_1 _))))

theorem pyNext_zipR_end {z TI TO i1 i2 : Addr} {n1 left : Int} {a b : Value} {Q : Option Value → Shared → Prop} (hh : A.handled = none) (i1z : i1 ≠ z)
    (hz : IsZip s.heap z TI TO .none) (hTI : IsPair s.heap TI (.ref i1) (.ref i2)) (h1 : IsRangeIter s.heap i1 n1 left 1) (hleft : left ≤ 0)
    (hQ : ∀ h', (∀ c o, c ≠ z → c ≠ i1 → s.heap.get? c = some o → h'.get? c = some o) → Q none { s with heap := h' }) : wpAny (model prog w) A (pyNext (.ref z)) Q E s := by
  have hT : s.TypeIs (.ref z) "zip" := ⟨_, hz, rfl⟩
  unfold pyNext
  refine wpAny_bind (wpAny_attempt (wpAny_callSpecial?_slot (name := Str.ofString "__next__") hT F.slot_zip_next
    (wpAny_call_entry F.slot_zip_next hT F.entry_zip_next (zipR_end (a := .none) (b := .none) hh i1z hz hTI h1 hleft fun h' e hk he => ?_) (F.args_zip_next_1 _))))
  obtain ⟨o, ho, hc⟩ := he
  refine wpAny_bind (wpAny_isInstance (T := "StopIteration") (b := true) ⟨o, ho, hc⟩ isSubtype_stop ?_)
  exact wpAny_pure (hQ _ hk)
end
end Mine
end

noncomputable section
set_option genSizeOf false
set_option genInjectivity false
set_option Elab.async false
set_option linter.unusedVariables false
set_option maxRecDepth 10000
namespace Mine
open PySem PySem.Calls PyProof.Rows PySem.W

abbrev zr1 (h : Heap) (n : Int) : Heap := h.push { cls := .type "range_iterator", data := .fields #[rawInt 0, rawInt (Builtin.Range.rangeSize 0 n 1), rawInt 1] }
abbrev zr2 (h : Heap) (n : Int) (I : Addr) : Heap := (zr1 h n).push { cls := .type "tuple", data := .seq #[.ref h.objs.size, .ref I] }
abbrev zr3 (h : Heap) (n : Int) (I : Addr) : Heap := (zr2 h n I).push { cls := .type "tuple", data := .seq #[.none, .none] }
abbrev zr4 (h : Heap) (n : Int) (I : Addr) : Heap := (zr3 h n I).push { cls := .type "zip", data := .fields #[.none, .bool false, .bool false, .ref (zr1 h n).objs.size, .ref (zr2 h n I).objs.size] }

theorem meets_zipR (r I l : Addr) (n : Int) (k : Nat) (t u v : Tok) (hsmall : Builtin.Range.small 0 n 1 = true) :
    Meets (Builtin.«zip.__new__» ⟨[.type "zip", .ref r, .ref I], []⟩) (fun _ R s => IsRange s.heap r 0 n 1 t u v ∧ s.heap.IsListIter I l k ∧
      R (.ok (.ret (.ref (zr3 s.heap n I).objs.size))) { s with heap := zr4 s.heap n I }) :=
  .of_wp fun prog w A R s h => by
    obtain ⟨hp, g, d, tk, os⟩ := s; obtain ⟨hl1, hl2, h⟩ := h
    have hsub := sub_zip
    have hL1 : IsRange (Shared.heap ⟨hp, g, d, tk, os⟩) r 0 n 1 t u v := hl1
    have hL2 : Heap.IsListIter (Shared.heap ⟨zr1 hp n, g, d, tk, os⟩) I l k := by
      obtain ⟨o, e, q⟩ := hl2; exact ⟨o, Heap.get?_push_of_some _ e, q⟩
    wp_walk using wpAny_pyIter_range hL1 hsmall, wpAny_pyIter_listiter hL2
    exact ⟨_, rfl, h⟩

section
variable {prog : Program} {w : World} {A : Around} {E : Value → Shared → Prop} {s : Shared}
theorem call_zipR {r I l : Addr} {n : Int} {k : Nat} {t u v : Tok} {Q : Value → Shared → Prop} (hsmall : Builtin.Range.small 0 n 1 = true) (hr : IsRange s.heap r 0 n 1 t u v) (hi : s.heap.IsListIter I l k)
    (h : ∀ h', IsZip h' (s.heap.objs.size + 3) (s.heap.objs.size + 1) (s.heap.objs.size + 2) .none → IsPair h' (s.heap.objs.size + 1) (.ref s.heap.objs.size) (.ref I) → IsPair h' (s.heap.objs.size + 2) .none .none →
      IsRangeIter h' s.heap.objs.size 0 (Builtin.Range.rangeSize 0 n 1) 1 → h'.IsListIter I l k → Keep s.heap h' → Q (.ref (s.heap.objs.size + 3)) { s with heap := h' }) :
    wpAny (model prog w) A (call (.type "zip") [.ref r, .ref I]) Q E s := by
  refine callType_new F.called_zip (by decide) (F.typeCall_zip_2 _ _) (F.newCall_zip_2 _ _) (fun obj => F.args_object_init_3 obj _ _) F.entry_zip_new
    (meets_zipR r I l n k t u v hsmall) ⟨hr, hi, ?_⟩
  have z1 : (zr1 s.heap n).objs.size = s.heap.objs.size + 1 := Heap.size_push ..
  have z2 : (zr2 s.heap n I).objs.size = s.heap.objs.size + 2 := by rw [Heap.size_push, z1]
  have z3 : (zr3 s.heap n I).objs.size = s.heap.objs.size + 3 := by rw [Heap.size_push, z2]
  have g4 : (zr4 s.heap n I).get? (zr3 s.heap n I).objs.size = some _ := Heap.get?_push_size _ rfl
  have g3 : (zr4 s.heap n I).get? (zr2 s.heap n I).objs.size = some _ := Heap.get?_push_of_some _ (Heap.get?_push_size _ rfl)
  have g2 : (zr4 s.heap n I).get? (zr1 s.heap n).objs.size = some _ := Heap.get?_push_of_some _ (Heap.get?_push_of_some _ (Heap.get?_push_size _ rfl))
  have g1 : (zr4 s.heap n I).get? s.heap.objs.size = some _ := Heap.get?_push_of_some _ (Heap.get?_push_of_some _ (Heap.get?_push_of_some _ (Heap.get?_push_size _ rfl)))
  have kp : Keep s.heap (zr4 s.heap n I) := fun c o x => Heap.get?_push_of_some _ (Heap.get?_push_of_some _ (Heap.get?_push_of_some _ (Heap.get?_push_of_some _ x)))
  show _ ∧ _
  rw [z1, z2, z3] at g4
  rw [z2] at g3
  rw [z1] at g2
  rw [z3]
  obtain ⟨o, e, q⟩ := hi
  exact ⟨⟨_, g4, rfl⟩, h _ g4 g2 g3 g1 ⟨o, kp _ _ e, q⟩ kp⟩
end

/- numbered things -/
def numb : Nat → List D → List D
  | _, [] => []
  | i, d :: r => .tup [.int i, d] :: numb (i + 1) r
theorem numb_get : ∀ (i j : Nat) (xs : List D), (numb i xs)[j]? = (xs[j]?).map fun d => .tup [.int ((i + j : Nat) : Int), d]
  | i, j, [] => by simp [numb]
  | i, 0, d :: r => by simp [numb]
  | i, j + 1, d :: r => by
    have := numb_get (i + 1) j r
    simp only [numb, List.getElem?_cons_succ]
    rw [this, show i + 1 + j = i + (j + 1) by walk_at "n"]
theorem numb_length : ∀ (i : Nat) (xs : List D), (numb i xs).length = xs.length
  | i, [] => rfl
  | i, d :: r => by simp [numb, numb_length (i + 1) r]

def ZW (z TI TO i1 I l : Addr) (n : Nat) (i : Nat) (h : Heap) : Prop :=
  IsZip h z TI TO .none ∧ IsPair h TI (.ref i1) (.ref I) ∧ (∃ a b, IsPair h TO a b) ∧ IsRangeIter h i1 (i : Nat) ((n : Int) - (i : Nat)) 1 ∧ h.IsListIter I l i ∧ i ≤ n

theorem ZW.apart {z TI TO i1 I l : Addr} {n i : Nat} {h : Heap} {items : Array Value} (hne : TI ≠ TO) (W : ZW z TI TO i1 I l n i h) (hl : h.IsList l items) : ZApart z TI TO i1 I l := by
  obtain ⟨hz, hTI, ⟨a, b, hTO⟩, hr, ⟨oI, eI, cI, dI⟩, _⟩ := W
  obtain ⟨ol, el, cl, nl, dl⟩ := hl
  have d1 : ∀ {p q : Addr} {o o' : Obj}, h.get? p = some o → h.get? q = some o' → o.cls ≠ o'.cls → p ≠ q := by
    rintro p q o o' e e' hc rfl
    rw [e] at e'; cases e'; exact hc rfl
  exact ⟨d1 hTI hz (by simp), d1 hTO hz (by simp), d1 hr hz (by simp), d1 eI hz (by rw [cI]; simp), hne, d1 hTI hr (by simp), d1 hTI eI (by rw [cI]; simp), d1 hTO hr (by simp), d1 hTO eI (by rw [cI]; simp), d1 hr eI (by rw [cI]; simp),
    d1 el hz (by rw [cl]; simp), d1 el hTO (by rw [cl]; simp), d1 el hr (by rw [cl]; simp), d1 el eI (by rw [cl, cI]; simp)⟩

theorem Wk.zip {z TI TO i1 I l : Addr} {dd : D} {OK : Ls → Prop} {xs : List D} {n : Nat} {elts : List Expr} {x1} {pos : Pos} {c : Cx} (hne : TI ≠ TO) (hn : n ≤ xs.length) (hOK : ∀ ls, OK ls → LsOf ls dd xs) (hI : ∀ j ∈ [z, TI, TO, i1, I], j ∈ c.X0) :
    Wk c [z, TI, TO, i1, I] z (.ref l) dd OK (numb 0 (xs.take n)) (.Tuple elts x1 pos) (ZW z TI TO i1 I l n) (fun h => h.IsListIter I l n) where
  self := fun A i s hW => wpAny_pyIter_zip hW.1 ⟨rfl, rfl⟩
  frame := fun i h h' ⟨hz, hTI, ⟨a, b, hTO⟩, hr, ⟨o, e, q⟩, hin⟩ hk => ⟨hk _ (by simp) _ hz, hk _ (by simp) _ hTI, ⟨a, b, hk _ (by simp) _ hTO⟩, hk _ (by simp) _ hr, ⟨o, hk _ (by simp) _ e, q⟩, hin⟩
  fs := fun i h ⟨hz, hTI, ⟨a, b, hTO⟩, hr, ⟨o, e, hc, hd⟩, _⟩ j hj => by
    simp only [List.mem_cons, List.not_mem_nil, or_false] at hj
    rcases hj with rfl | rfl | rfl | rfl | rfl
    · exact ⟨_, hz, by simp, .inl ⟨_, rfl⟩⟩
    · exact ⟨_, hTI, by simp, .inr ⟨_, _, rfl⟩⟩
    · exact ⟨_, hTO, by simp, .inr ⟨_, _, rfl⟩⟩
    · exact ⟨_, hr, by simp, .inl ⟨_, rfl⟩⟩
    · exact ⟨o, e, by rw [hc]; simp, .inl ⟨_, hd⟩⟩
  next := fun A i ρ ls s x hA S hok r hW hx => by
    obtain ⟨l', vs, e, hl, hr⟩ := (hOK ls hok).get S r
    obtain rfl : l = l' := by cases e; rfl
    rw [numb_get] at hx
    cases hx' : (xs.take n)[i]? with
    | none => rw [hx'] at hx; cases hx
    | some d =>
      rw [hx'] at hx
      simp only [Option.map_some, Option.some.injEq, Nat.zero_add] at hx
      subst hx
      have hi : i < n := by
        have := (List.getElem?_eq_some_iff.mp hx').1
        rw [List.length_take] at this; walk_at "n"
      have hd : xs[i]? = some d := by rw [List.getElem?_take_of_lt hi] at hx'; exact hx'
      obtain ⟨v, hv, rv⟩ := hr.get hd
      have D := hW.apart hne hl
      obtain ⟨hz, hTI, ⟨a, b, hTO⟩, hri, hli, hin⟩ := hW
      refine pyNext_zipR_item D hz hTI hTO hri (by walk_at "n") hli hl (by simpa using hv) fun s1 hg ho hz1 hTO1 hr1 hl1 hT1 kp => ⟨_, rfl, wpAny_letOwnedTupleGo_zip hz1 fun h' hz' hs' => ?_⟩
      have ex := hs'.extBut
      have kp2 : ∀ b o, b ∉ [z, TI, TO, i1, I] → s.heap.get? b = some o → h'.get? b = some o := fun b o hb e => by
        simp only [List.mem_cons, List.not_mem_nil, or_false, not_or] at hb
        exact ex b o hb.1 (kp b o hb.1 hb.2.2.1 hb.2.2.2.1 hb.2.2.2.2 e)
      have hzlt : z < s.heap.objs.size := Heap.lt_size hz
      have st : Stay (c.X ls) (c.X ls) s.heap h' := fun b o hb e _ => ⟨hb, kp2 b o (fun hj => hb (List.mem_append_right _ (hI b hj))) e⟩
      have hW' : ZW z TI TO i1 I l n (i + 1) h' := by
        refine ⟨hz', ex _ _ D.TIz (kp _ _ D.TIz D.TITO D.TIi1 D.TIi2 hTI), ⟨_, _, ex _ _ D.TOz hTO1⟩, ?_, hl1.at fun o e => ex _ o D.i2z e, hi⟩
        have e2 : (n : Int) - ((i + 1 : Nat) : Int) = (n : Int) - (i : Int) - 1 := by push_cast; walk_at "n"
        rw [e2, show (((i + 1 : Nat)) : Int) = (i : Int) + 1 by push_cast; rfl]
        exact ex _ _ D.i1z hr1
      refine ⟨⟨kp2, fun j hj => ?_, hg, ho⟩, ?_, hW'⟩
      · obtain ⟨hz, hTI, ⟨a, b, hTO⟩, hr, ⟨o, e, hc, hd⟩, _⟩ := hW'
        simp only [List.mem_cons, List.not_mem_nil, or_false] at hj
        rcases hj with rfl | rfl | rfl | rfl | rfl
        · exact ⟨_, hz, by simp, .inl ⟨_, rfl⟩⟩
        · exact ⟨_, hTI, by simp, .inr ⟨_, _, rfl⟩⟩
        · exact ⟨_, hTO, by simp, .inr ⟨_, _, rfl⟩⟩
        · exact ⟨_, hr, by simp, .inl ⟨_, rfl⟩⟩
        · exact ⟨o, e, by rw [hc]; simp, .inl ⟨_, hd⟩⟩
      · exact ⟨_, #[.int i s.toks, v], rfl, S.fresh, ⟨_, ex _ _ (Nat.ne_of_gt hzlt) hT1, rfl, 0, rfl⟩, ⟨_, _, rfl, ⟨_, rfl⟩, _, _, rfl, Rd.stay st _ _ rv, rfl⟩⟩
  stop := fun A i ρ ls s hA S hok r hW hx => by
    obtain ⟨l', vs, e, hl, hr⟩ := (hOK ls hok).get S r
    obtain rfl : l = l' := by cases e; rfl
    rw [numb_get] at hx
    have hx' : (xs.take n)[i]? = none := by
      cases h : (xs.take n)[i]? with
      | none => rfl
      | some d => rw [h] at hx; cases hx
    have hi : n ≤ i := by
      have := List.getElem?_eq_none_iff.mp hx'
      rw [List.length_take] at this; walk_at "n"
    have D := hW.apart hne hl
    obtain ⟨hz, hTI, ⟨a, b, hTO⟩, hri, hli, hin⟩ := hW
    refine pyNext_zipR_end (a := .none) (b := .none) hA.h D.i1z hz hTI hri (by walk_at "n") fun h' kp => ⟨rfl, fun b o hb e => ?_, rfl, rfl, ?_⟩
    · simp only [List.mem_cons, List.not_mem_nil, or_false, not_or] at hb
      exact kp b o hb.1 hb.2.2.2.1 e
    · have : i = n := by walk_at "n"
      subst this
      exact hli.at fun o e => kp _ o D.i2z D.i12.symm e
end Mine
end

noncomputable section
set_option genSizeOf false
set_option genInjectivity false
set_option Elab.async false
set_option linter.unusedVariables false
set_option maxRecDepth 10000
namespace Mine
open PySem PySem.Calls PyProof.Rows PySem.W

/- a list's iterator that lives over several statements -/
def LI (l : Addr) (I : Addr) : Nat → Heap → Prop := fun i h => h.IsListIter I l i

def Lv (c : Cx) (I l : Addr) (dd : D) (i : Nat) (ρ : Rho) (ls : Ls) (s : Shared) : Prop :=
  LS (c.re c.s0 ([I] ++ c.X0) c.Z0) [I] (.ref l) dd (LI l I) i ρ ls s ∧ Jok c [I] ∧ (∀ a ∈ c.Z0, a ∈ c.X0)

def ExL (c : Cx) (k : Nat) (t : Sem Flow) (I l : Addr) (dd : D) (i : Nat) (ρ : Rho) (ls : Ls) (PF : Fl → Rho → Ls → Prop) : Prop :=
  ∀ A s, Room k A → Lv c I l dd i ρ ls s → wpAny c.M A t (PostX c PF) No s

section
variable {c : Cx} {k : Nat} {ρ : Rho} {ls : Ls} {P : D → Ls → Prop} {PB : Bool → Ls → Prop} {PF : Fl → Rho → Ls → Prop} {I l : Addr} {dd : D} {i : Nat}

theorem Wk.LI {c' : Cx} {xs : List D} (target : Expr) (hI : I ∈ c'.X0) : Wk c' [I] I (.ref l) dd (fun ls => LsOf ls dd xs) xs target (LI l I) (fun _ => True) := Wk.list (fun _ h => h) hI

theorem Lv.st {s : Shared} (L : Lv c I l dd i ρ ls s) : St c ρ ls s := L.1.st.narrow (fun a ha => List.mem_append_right _ ha) L.2.2

theorem Lv.forget {s : Shared} {ρ' : Rho} (L : Lv c I l dd i ρ ls s) (h : Ext ρ' ρ) : Lv c I l dd i ρ' ls s := ⟨{ L.1 with st := L.1.st.forget h }, L.2⟩

theorem Lv.keep {s s' : Shared} {ρ' : Rho} {ls' : Ls} (L : Lv c I l dd i ρ ls s) (S' : St ((c.re c.s0 ([I] ++ c.X0) c.Z0).here ls s) ρ' ls' s') : Lv c I l dd i ρ' ls' s' :=
  ⟨L.1.keep (fun j hj hz => (L.2.1 j hj).2.2 (L.2.2 _ hz)) (Wk.LI (c' := c.re c.s0 ([I] ++ c.X0) c.Z0) (xs := []) (.Name "x" default) (List.mem_append_left _ (.head _))) S', L.2⟩

theorem ExL.of {t : Sem Flow} (h : Ex c k t ρ ls PF) : ExL c k t I l dd i ρ ls PF := fun A s hA L => h A s hA L.st

/- a statement that lets the iterator be -/
def SeqL (c : Cx) (k : Nat) (rest : List Stmt) (I l : Addr) (dd : D) (i : Nat) (PF : Fl → Rho → Ls → Prop) : Fl → Rho → Ls → Prop
  | .next, ρ, ls => ∃ ρ0, Ext ρ0 ρ ∧ ExL c k (execs rest c.env) I l dd i ρ0 ls PF
  | f, ρ, ls => PF f ρ ls

theorem ExL_cons {st rest} (h : ∀ s0 X0 Z0, Ex (c.re s0 X0 Z0) k (exec st c.env) ρ ls (SeqL c k rest I l dd i PF)) : ExL c k (execs (st :: rest) c.env) I l dd i ρ ls PF := fun A s hA L => by
  refine wpAny_execs_cons (wpAny_mono (h s (c.own ls ++ ([I] ++ c.X0)) (c.tabs.map (·.2) ++ c.own ls) A s hA L.1.st.base) ?_ fun _ _ x => x)
  rintro f s1 ⟨fl, ρ1, ls1, S1, hf, h1⟩
  have L1 := L.keep S1
  cases f <;> cases fl <;> simp only [FlR] at hf
  · obtain ⟨ρ0, he, h1⟩ := h1
    exact h1 A s1 hA (L1.forget he)
  · exact ⟨.brk, ρ1, ls1, L1.st, trivial, h1⟩
  · exact ⟨.cont, ρ1, ls1, L1.st, trivial, h1⟩
  · refine ⟨.ret _, ρ1, ls1, L1.st, ?_, h1⟩
    exact Rd.stay (Stay.sub fun a ha => by
      rcases List.mem_append.mp ha with h | h
      · exact List.mem_append_left _ h
      · exact List.mem_append_right _ (List.mem_append_right _ (List.mem_append_right _ h))) _ _ hf

/- the rest of the loop -/
theorem ExL_for {target : Expr} {x p} {body rest : List Stmt} {pos : Pos} {xs : List D} (Inv : Nat → Rho → Ls → Prop) (ρ0 : Rho) (he : Ext ρ0 ρ) (hx : ρ.lookup x = some (.raw (.ref I))) (hok : ∀ i ρ ls, Inv i ρ ls → LsOf ls dd xs) (h0 : Inv i ρ0 ls) (hi : i ≤ xs.length)
    (turn : ∀ i x ρ1 ls1, xs[i]? = some x → Inv i ρ1 ls1 → ∀ s0 X0 Z0, ∃ ρ2, Asg (c.re s0 X0 Z0) k target x ρ1 ρ2 ∧ Ex (c.re s0 X0 Z0) k (execs body c.env) ρ2 ls1 (LoopP Inv i (Seq c (k+2) rest PF)))
    (fin : ∀ ρ1 ls1, Inv xs.length ρ1 ls1 → Ex c (k+2) (execs rest c.env) ρ1 ls1 PF)
    (hs : ∀ x', foldedSetIterable (.Name x p) c.env x' = pure x' := by intro _; rfl) (hd : (x == ("__debug__" : Str)) = false := by decide) :
    ExL c (k+2) (execs (.For target (.Name x p) body [] pos :: rest) c.env) I l dd i ρ ls PF := fun A s hA L => by
  refine wpAny_execs_cons (wpAny_For (wpAny_Name (L.st.name hx fun v r => ?_) hd) hs)
  cases r
  refine wpAny_pyIter_listiter L.1.w ?_
  refine codeAny_mono (LS.loop (c := c) (PF := Seq c (k+2) rest PF) (Fin := fun _ => True) Inv hA L.2.2 L.2.1 (Wk.LI target (List.mem_append_left _ (.head _))) hok turn i h0 { L.1 with st := L.1.st.forget he } hi) ?_
  rintro r s3 ⟨f, fl, ρ', ls', rfl, S3, hf, h3⟩
  rcases h3 with ⟨rfl, h3, _⟩ | h3
  · cases f <;> simp only [FlR] at hf
    exact fin _ _ h3 A s3 hA S3
  · cases f <;> cases fl <;> simp only [FlR] at hf
    · exact h3 A s3 hA S3
    · exact ⟨.brk, ρ', ls', S3, trivial, h3⟩
    · exact ⟨.cont, ρ', ls', S3, trivial, h3⟩
    · exact ⟨.ret _, ρ', ls', S3, hf, h3⟩

/- `it = iter(x)` -/
theorem Ex_iter {y x p py pos spos rest} {e : Expr} {d : D} {xs : List D} (hy : StoreOk c y) (hg : Gl c.G x (.builtin "iter")) (hge : c.env.globals = mainGlobals) (hbe : c.env.builtins = builtinsNs) (hx : c.env.kindOf x = some .globalImplicit)
    (h : Ev c k (eval e c.env) ρ ls (fun d' ls1 => d' = d ∧ LsOf ls1 d xs ∧ ∀ I l, ExL c k (execs rest c.env) I l d 0 (upd ρ y (.raw (.ref I))) ls1 PF)) (hd : (x == ("__debug__" : Str)) = false := by decide)
    (hsw : swapsWith (.Call (.Name x p) [e] [] pos) (some (.Name y py)) spos.line c.env = pure false := by rfl)
    (he : starEach [e] c.env = (false, eval e c.env) :: starEach [] c.env := by rfl) :
    Ex c k (execs (.Assign [.Name y py] (.Call (.Name x p) [e] [] pos) spos :: rest) c.env) ρ ls PF := fun A s hA S => by
  refine wpAny_execs_cons (wpAny_Assign_Name (wpAny_Call_Name_kw (wpAny_mono ((Ev_glob hg hge hbe hx (P := fun d ls' => d = .raw (.builtin "iter") ∧ ls' = ls) ⟨rfl, rfl⟩ hd) A s hA S) ?_ fun _ _ x => x)) hsw)
  rintro v s1 ⟨d1, ls1, k1, S1, st1, r1, rfl, rfl⟩
  cases r1
  refine callWith_builtin_kwB (first := []) (by rw [he]; rfl) rfl (wpAny_mono ((EvArgs_plain (PA := fun ds kds ls2 => ds = [d] ∧ kds = [] ∧ LsOf ls2 d xs ∧ ∀ I l, ExL c k (execs rest c.env) I l d 0 (upd ρ y (.raw (.ref I))) ls2 PF) (Evs_cons (h.mono ?_) he) he) A s1 _ hA S1) ?_ fun _ _ x => x)
  · rintro d' ls2 ⟨rfl, h1, h2⟩
    exact Evs_nil ⟨rfl, rfl, h1, h2⟩
  rintro a s2 ⟨ds, kds, ls2, k2, S2, st2, r2, rk, rfl, rfl, hL, h2⟩
  obtain ⟨v, _, e1, r2, e2⟩ := r2
  cases e2
  rw [← Cx.X_keys (c := c) k2] at r2
  obtain ⟨l', vs, rfl, hl, hr⟩ := hL.get S2 r2
  have ek : a.kw = [] := rk.nil
  rw [e1, ek]
  show wpAny c.M A (call (.builtin "iter") [.ref l'] []) _ _ s2
  refine call_function_entry (by decide +kernel) (by decide +kernel) kdk_entry_iter (kdk_args_iter _) ?_
  unfold Builtin.«iter»
  refine wpAny_bind (m := someArgs "iter" 1 2 _) (wpAny_of_eq (a := [Value.ref l']) (by first | rfl | kernel_rfl!) ?_)
  show wpAny _ _ (pyIter (.ref l') >>= _) _ _ _
  refine wpAny_bind (wpAny_pyIter_list hl ?_)
  refine wpAny_pure ⟨_, rfl, ?_⟩
  obtain ⟨hJ, L, st⟩ := EvI.fresh (A := A) (J := [s2.heap.objs.size]) (W := LI l' s2.heap.objs.size) (dv := .ref l') (dd := d) (s2 := { s2 with heap := s2.heap.push { cls := .type "list_iterator", data := .fields #[.ref l', .int 0 0] } }) S2 r2 (Keep.push _ _) rfl rfl
    (fun j hj => by
      rw [List.mem_singleton.mp hj]
      exact ⟨none_size _, _, Heap.get?_push_size _ rfl⟩) ⟨_, Heap.get?_push_size _ rfl, rfl, rfl⟩
  have Lw : Lv c s2.heap.objs.size l' d 0 ρ ls2 _ := ⟨L, hJ, S2.fm.sub⟩
  refine L.st.base.store (d := .raw (.ref s2.heap.objs.size)) hy rfl fun s' S' _ => ?_
  exact h2 _ _ A s' hA (Lw.keep S')
end
end Mine
end

noncomputable section
set_option genSizeOf false
set_option genInjectivity false
set_option Elab.async false
set_option linter.unusedVariables false
set_option maxRecDepth 10000
namespace Mine
open PySem PySem.Calls PyProof.Rows PySem.W

section
variable {c : Cx} {k : Nat} {ρ : Rho} {ls : Ls} {P : D → Ls → Prop} {PB : Bool → Ls → Prop} {PF : Fl → Rho → Ls → Prop} {I l : Addr} {dd : D} {i : Nat}

theorem St.glob {A : Around} {s : Shared} {x : Str} {pos : Pos} {v : Value} {Q : Value → Shared → Prop} {E : Value → Shared → Prop} (S : St c ρ ls s) (hv : Gl c.G x v) (hg : c.env.globals = mainGlobals) (hb : c.env.builtins = builtinsNs) (hx : c.env.kindOf x = some .globalImplicit) (h : Q v s) (hd : (x == ("__debug__" : Str)) = false := by decide) :
    wpAny c.M A (eval (.Name x pos) c.env) Q E s := by
  obtain ⟨mg, mb, h1, h2, h3⟩ := hv
  have g1 : s.heap.Ns c.env.globals mg := by rw [hg]; exact h1.keeps S.fm.top
  have g2 : s.heap.Ns c.env.builtins mb := by rw [hb]; exact h2.keeps S.fm.top
  refine Name_function_global S.fn hx ?_ hd
  rcases h3 with h3 | ⟨h3, h4⟩
  · exact loadGlobal_global g1 h3 h
  · exact loadGlobal_builtin g1 h3 g2 h4 h

theorem ExL_zip {elt : Expr} {elts : List Expr} {x1 : Nat} {tpos zp rp np ip p1 p2 pos spos py : Pos} {zn rn nn it y : Str} {scope : Scope} {rest : List Stmt} {m : Int} {xs : List D} (cl : List (Str × Addr)) (ρi : Rho) (Inv : Nat → List D → Ls → Prop)
    (hy : c.env.kindOf y = some .local) (hclos : closureFor scope c.env = pure cl) (se : Sees c scope cl ρ ρi) (hcell : ∀ y ∈ scope.names, y.2 ≠ .cell) (hnames : ∀ y ∈ scope.names, y.2 = .local → scope.names.lookup y.1 = some .local)
    (hz : Gl c.G zn (.type "zip")) (hr : Gl c.G rn (.type "range")) (hge : c.env.globals = mainGlobals) (hbe : c.env.builtins = builtinsNs) (hzk : c.env.kindOf zn = some .globalImplicit) (hrk : c.env.kindOf rn = some .globalImplicit)
    (hn : ρ.lookup nn = some (.int m)) (hit : ρ.lookup it = some (.raw (.ref I))) (hm0 : -(2^62) ≤ m) (hm : m < 2^62) (hlen : m.toNat ≤ xs.length) (hxs : xs.length < 2 ^ 19)
    (hok : ∀ i ys ls, Inv i ys ls → LsOf ls dd xs) (h0 : Inv 0 [] ls) (turn : Turns c k scope cl (.Tuple elts x1 tpos) elt [] (numb 0 (xs.take m.toNat)) ρi ls Inv)
    (fin : ∀ ys ls' D, keys ls' = keys ls → Inv m.toNat ys ls' → D ∉ c.X0 → D ∉ keys ls' → ExL c (k+2) (execs rest c.env) I l dd m.toNat (upd ρ y (.raw (.ref D))) ((D, ys) :: ls') PF)
    (hd1 : (zn == ("__debug__" : Str)) = false := by decide) (hd2 : (rn == ("__debug__" : Str)) = false := by decide) (hd3 : (nn == ("__debug__" : Str)) = false := by decide) (hd4 : (it == ("__debug__" : Str)) = false := by decide)
    (hsw : swapsWith (.ListComp elt [⟨.Tuple elts x1 tpos, .Call (.Name zn zp) [.Call (.Name rn rp) [.Name nn np] [] p1, .Name it ip] [] p2, [], 0⟩] scope pos) (some (.Name y py)) spos.line c.env = pure true := by rfl)
    (hs : ∀ x, foldedSetIterable (.Call (.Name zn zp) [.Call (.Name rn rp) [.Name nn np] [] p1, .Name it ip] [] p2) c.env x = pure x := by intro _; rfl)
    (he1 : starEach [.Name it ip] c.env = [(false, eval (.Name it ip) c.env)] := by rfl)
    (he2 : starEach [.Call (.Name rn rp) [.Name nn np] [] p1, .Name it ip] c.env = [(false, eval (.Call (.Name rn rp) [.Name nn np] [] p1) c.env), (false, eval (.Name it ip) c.env)] := by rfl)
    (he3 : starEach [.Name nn np] c.env = [(false, eval (.Name nn np) c.env)] := by rfl) :
    ExL c (k+2) (execs (.Assign [.Name y py] (.ListComp elt [⟨.Tuple elts x1 tpos, .Call (.Name zn zp) [.Call (.Name rn rp) [.Name nn np] [] p1, .Name it ip] [] p2, [], 0⟩] scope pos) spos :: rest) c.env) I l dd 0 ρ ls PF := fun A s hA L => by
  refine wpAny_execs_cons ?_
  rw [exec_Assign_Name_used _ _ _ _ hsw]
  refine wpAny_bind (wpAny_standAt (wpAny_bind ?_))
  show wpAny _ A (do let _ ← comprehension (.ListComp elt [⟨.Tuple elts x1 tpos, .Call (.Name zn zp) [.Call (.Name rn rp) [.Name nn np] [] p1, .Name it ip] [] p2, [], 0⟩] scope pos) scope c.env _ (newList []) false (eval (.Call (.Name zn zp) [.Call (.Name rn rp) [.Name nn np] [] p1, .Name it ip] [] p2) c.env) (some (assign (.Name y py) c.env))) _ _ s
  refine wpAny_bind (wpAny_mono (wpAny_comprehension_free (use := some (assign (.Name y py) c.env)) (Q := fun _ s' => wpAny c.M A (execs rest c.env) (PostX c PF) No s') rfl hs hclos se.kind hnames
    ?_) (fun _ s' hq => wpAny_pure (wpAny_pure hq)) fun _ _ e => e)
  obtain ⟨L, hJ0, hsub⟩ := L
  have S := L.st
  refine wpAny_Call_Name_kw (S.glob hz hge hbe hzk ?_ hd1)
  refine callWith_type1 ?_ (by rw [he2, he1]) (by rw [he1]; rfl)
  rw [he2]
  refine spliced_cons (wpAny_Call_Name_kw (S.glob hr hge hbe hrk ?_ hd2))
  refine callWith_type1 ?_ (by rw [he3]; rfl) rfl
  rw [he3]
  refine spliced_cons (wpAny_Name (S.name hn fun v r => ?_) hd3)
  obtain ⟨t, rfl⟩ := r
  refine spliced_nil (call_range_1 ?_)
  refine spliced_cons (wpAny_Name ?_ hd4)
  refine St.name (c := c.re c.s0 ([I] ++ c.X0) c.Z0) (ρ := ρ) (ls := ls) (St.ext S (Keep.push _ _) rfl rfl) hit fun v r => ?_
  cases r
  have hli : s.heap.IsListIter I l 0 := L.w
  refine spliced_nil (call_zipR (n := m) (l := l) (k := 0) (small_one (by walk_at "n") (by walk_at "n") hm0 hm) (IsRange.new ..) ?_ fun h' a1 a2 a3 a4 a5 kp => ?_)
  · obtain ⟨o, e, q⟩ := hli
    exact ⟨o, Heap.get?_push_of_some _ e, q⟩
  refine wpAny_pyIter_zip a1 ?_
  have kp' : Keep s.heap h' := fun a o e => kp a o (Heap.get?_push_of_some _ e)
  have hsz : (s.heap.push ({ cls := .type "range", data := .fields #[.int 0 s.toks, .int m t, .int 1 (s.toks + 1)] } : Obj)).objs.size = s.heap.objs.size + 1 := Heap.size_push ..
  dsimp only at a1 a2 a3 a4 a5 ⊢
  rw [hsz] at a1 a2 a3 a4
  rw [hsz]
  generalize hT : s.heap.objs.size + 1 = T0 at a1 a2 a3 a4
  have hfr : ∀ j, T0 ≤ j → s.heap.get? j = none := fun j hj => Heap.get?_none_of_le (by walk_at "n")
  have a4' : IsRangeIter h' T0 ((0 : Nat) : Int) ((m.toNat : Int) - ((0 : Nat) : Int)) 1 := by
    have e := rangeSize_nat 0 m
    rw [Int.sub_zero] at e
    rw [e] at a4
    simpa using a4
  have W0 : ZW (T0 + 3) (T0 + 1) (T0 + 2) T0 I l m.toNat 0 h' := ⟨a1, a2, ⟨_, _, a3⟩, a4', a5, Nat.zero_le _⟩
  obtain ⟨S2, st2⟩ := S.widen (s' := { s with heap := h', toks := s.toks + 1 + 1 }) (J := [T0 + 3, T0 + 1, T0 + 2, T0]) kp' rfl rfl fun j hj => by
    simp only [List.mem_cons, List.not_mem_nil, or_false] at hj
    rcases hj with rfl | rfl | rfl | rfl
    · exact ⟨.inl (hfr _ (by walk_at "n")), _, a1⟩
    · exact ⟨.inl (hfr _ (by walk_at "n")), _, a2⟩
    · exact ⟨.inl (hfr _ (by walk_at "n")), _, a3⟩
    · exact ⟨.inl (hfr _ (by walk_at "n")), _, a4⟩
  have L2 : LS (c.re c.s0 ([T0 + 3, T0 + 1, T0 + 2, T0, I] ++ c.X0) c.Z0) [T0 + 3, T0 + 1, T0 + 2, T0, I] (.ref l) dd (ZW (T0 + 3) (T0 + 1) (T0 + 2) T0 I l m.toNat) 0 ρ ls { s with heap := h', toks := s.toks + 1 + 1 } := by
    refine ⟨S2, W0, Rd.stay st2 _ _ L.rd, fun j hj ho => ?_⟩
    have hlive : ∃ o, s.heap.get? j = some o := (S.fm.mine j ho).2.2
    simp only [List.mem_cons, List.not_mem_nil, or_false] at hj
    rcases hj with rfl | rfl | rfl | rfl | rfl
    · obtain ⟨o, e⟩ := hlive; rw [hfr _ (by walk_at "n")] at e; cases e
    · obtain ⟨o, e⟩ := hlive; rw [hfr _ (by walk_at "n")] at e; cases e
    · obtain ⟨o, e⟩ := hlive; rw [hfr _ (by walk_at "n")] at e; cases e
    · obtain ⟨o, e⟩ := hlive; rw [hfr _ (by walk_at "n")] at e; cases e
    · exact L.off _ (.head _) ho
  have hJ : Jok c [T0 + 3, T0 + 1, T0 + 2, T0, I] := fun j hj => by
    by_cases e : j = I
    · exact hJ0 j (by rw [e]; exact .head _)
    · have S' : St c ρ ls s := S.narrow (fun a ha => List.mem_append_right _ ha) hsub
      refine S'.jok (J := [j]) (fun q hq => ?_) j (.head _)
      rw [List.mem_singleton.mp hq]
      simp only [List.mem_cons, List.not_mem_nil, or_false] at hj
      rcases hj with rfl | rfl | rfl | rfl | rfl
      · exact hfr _ (by walk_at "n")
      · exact hfr _ (by walk_at "n")
      · exact hfr _ (by walk_at "n")
      · exact hfr _ (by walk_at "n")
      · exact absurd rfl e
  have hnl : (numb 0 (xs.take m.toNat)).length = m.toNat := by rw [numb_length, List.length_take]; walk_at "n"
  refine comp_block (c := c) (Fin := fun h => h.IsListIter I l m.toNat) (RR := fun acc C => compPost c.M A No (some (assign (.Name y py) c.env)) (fun x s' => wpAny c.M A (execs rest c.env) (PostX c PF) No s') acc C) Inv hA hsub hJ (fun c' hX => Wk.zip (OK := fun ls => LsOf ls dd xs) (show T0 + 1 ≠ T0 + 2 from Nat.ne_of_lt (Nat.lt_succ_self _)) hlen (fun _ h => h) hX) (by rw [hnl]; walk_at "n") hok (fun _ _ h => h.tl) se hcell turn h0 L2 ?_
  intro s' ys ls' D' L' mm hkeys hI S' hD hDk hL hL0 hLG hLn st' hF
  show wpAny c.M A (assign (.Name y py) c.env (.ref D')) _ _ _
  have hLne : L' ≠ c.env.locals := fun e => hL (List.mem_append_left _ (e ▸ Cx.loc_own))
  have hIL : I ≠ L' := fun e => by
    obtain ⟨o, h1, h2, h3⟩ := hF
    obtain ⟨o', es, ep, h4, h5, _⟩ := hLn
    rw [e, h4] at h1; cases h1; rw [h5] at h3; cases h3
  have hIown : I ∉ c.own ((D', ys) :: ls') := fun h => by
    obtain ⟨oI, h1, h2, h3⟩ := hF
    rcases List.mem_cons.mp h with e | h
    · obtain ⟨m', hm', _⟩ := S'.names
      obtain ⟨o', es, ep, h4, h5, _⟩ := hm'
      rw [← e, h1] at h4; cases h4; rw [h3] at h5; cases h5
    · rcases List.mem_append.mp h with h | h
      · obtain ⟨v, o', h4, h5⟩ := S'.cells I h
        rw [h1] at h4; cases h4; rw [h3] at h5; cases h5
      · obtain ⟨p, hp, e⟩ := List.mem_map.mp h
        obtain ⟨us, n, h4, _⟩ := S'.lists p hp
        rw [e] at h4
        obtain ⟨o', h4, _, n', h5⟩ := h4.isList
        rw [h1] at h4; cases h4; rw [h3] at h5; cases h5
  have hIne : I ≠ c.env.locals := fun e => hIown (e ▸ Cx.loc_own)
  have rd0 : Rd (c.X ((D', ys) :: ls')) s'.heap (.ref l) dd := Rd.stay st' _ _ L2.rd
  refine wpAny_assign_Name ?_
  obtain ⟨m', hm', hmn⟩ := S'.names
  refine wpAny_storeName_local hy hm' (fun h2 hn2 hs2 => ?_) (by rw [S'.fn]; rfl)
  have S3 := S'.storeL (d := .raw (.ref D')) (tk := s'.toks + 1) hy rfl hm' hmn hn2 hs2
  have hLn2 := hLn.sameBut hs2 hLne
  refine ⟨mm, hLn2, fun h3 hs3 => ?_⟩
  obtain ⟨S4, st4⟩ := S3.other (s' := { s' with heap := h3, toks := s'.toks + 1 }) hs3 rfl rfl hLn2 hL0 hLG hL
  have hF4 : h3.IsListIter I l m.toNat := by
    obtain ⟨o, h1, h2⟩ := hF
    exact ⟨o, (hs3.2 I hIL).trans ((hs2.2 I hIne).trans h1), h2⟩
  have rd4 : Rd (c.X ((D', ys) :: ls')) h3 (.ref l) dd := Rd.stay st4 _ _ (Rd.stay (Stay.but hs2 (Cx.own_X Cx.loc_own)) _ _ rd0)
  obtain ⟨S5, st5⟩ := S4.widen (s' := { s' with heap := h3, toks := s'.toks + 1 }) (J := [I]) (Keep.refl _) rfl rfl fun j hj => by
    rw [List.mem_singleton.mp hj]
    obtain ⟨o, h1, h2, h3⟩ := hF4
    exact ⟨.inr ⟨o, _, h1, h3, by rw [h2]; simp, by rw [h2]; simp⟩, o, h1⟩
  refine fin ys ls' D' hkeys (by rw [← hnl]; exact hI) hD hDk A _ hA ⟨⟨S5, hF4, Rd.stay st5 _ _ rd4, fun j hj => by rw [List.mem_singleton.mp hj]; exact hIown⟩, hJ0, hsub⟩
end
end Mine
end

noncomputable section
set_option genSizeOf false
set_option genInjectivity false
set_option Elab.async false
set_option linter.unusedVariables false
set_option maxRecDepth 100000
namespace Mine
open PySem PySem.Calls PyProof.Rows PySem.W

theorem mro_object : mroOf (.type "object") = pure [.type "object"] := by kernel_rfl
theorem lookup_object_new : typeLookup (.type "object") "__new__" = pure (some (.builtin "object.__new__")) := by rw [typeLookup_type, builtinLookup_eq_fast]; kernel_rfl
theorem slot_object_init : Slot "object" "__init__" "object.__init__" :=
  .of (owner := "object") (n := "__init__") (by rw [typeLookup_type, builtinLookup_eq_fast]; kernel_rfl) (by decide +kernel) (by decide +kernel) (by decide +kernel)
    (by first | exact .inl (by decide +kernel) | exact .inr (by decide +kernel)) (by rw [isSubtype_type]; kernel_rfl)
theorem called_object : TypeCalled "object" "object.__new__" "object.__init__" :=
  ⟨by decide +kernel, by decide +kernel, ⟨_, _, mro_object⟩, madeBy_type mro_object lookup_object_new (by decide +kernel), by decide +kernel, by rw [isSubtype_type]; kernel_rfl, slot_object_init⟩
theorem typeCall_object : checkTypeCall "object" ⟨[], []⟩ = pure () := by kernel_rfl
theorem newCall_object : checkBuiltinCall "object.__new__" ⟨[.type "object"], []⟩ = pure () := by kernel_rfl
theorem args_object_init1 (a : Value) : argsOk "object.__init__" ⟨[a], []⟩ := by
  unfold argsOk; rw [signature?_of (id := "object.__init__") (n := ['_', '_', 't', 'i', 'n', 'i', '_', '_']) (o := ['t', 'c', 'e', 'j', 'b', 'o']) (by kernel_rfl) PySem.F.owner_object]; kernel_rfl
theorem meets_object_new : Meets (Builtin.«object.__new__» ⟨[.type "object"], []⟩) (fun _ R s => R (.ok (.ret (.ref s.heap.objs.size))) { s with heap := s.heap.push { cls := .type "object", data := .plain } }) :=
  .of_wp fun prog w A R s h => by
    obtain ⟨hp, g, d, tk, os⟩ := s
    unfold Builtin.«object.__new__»
    have h1 : Bind.madeHere "object.__new__" (.type "object") = pure () := by kernel_rfl
    have h2 : diesByItsTypesDel "object" = false := by decide +kernel
    have h3 : typeHasDict (.type "object") = false := by decide +kernel
    repeat (first | with_reducible refine wpAny_bind (wpAny_of_eq h1 ?_) | rw [h3] | rw [h2] | wp_step)
    exact ⟨_, rfl, h⟩
theorem meets_object_init (a : Value) : Meets (Builtin.«object.__init__» ⟨[a], []⟩) (fun _ R s => R (.ok (.ret .none)) s) :=
  .of_wp fun prog w A R s h => by
    unfold Builtin.«object.__init__»
    repeat wp_step
    exact ⟨_, rfl, h⟩

section
variable {prog : Program} {w : World} {A : Around} {E : Value → Shared → Prop} {s : Shared}
theorem call_object {Q : Value → Shared → Prop} (h : Q (.ref s.heap.objs.size) { s with heap := s.heap.push { cls := .type "object", data := .plain } }) : wpAny (model prog w) A (call (.type "object") []) Q E s :=
  callType_meets (Q₁ := fun obj s₁ => obj = .ref s.heap.objs.size ∧ s₁ = { s with heap := s.heap.push { cls := .type "object", data := .plain } }) called_object typeCall_object newCall_object (entryFor_of_tree (by kernel_rfl)) PySem.F.entry_object_init meets_object_new ⟨rfl, rfl⟩ (by
    rintro obj s₁ ⟨rfl, rfl⟩
    exact ⟨⟨_, Heap.get?_push_size _ rfl, rfl⟩, args_object_init1 _, _, meets_object_init _, rfl, h⟩)
end

section
variable {c : Cx} {k : Nat} {ρ : Rho} {ls : Ls} {P : D → Ls → Prop} {PB : Bool → Ls → Prop} {PF : Fl → Rho → Ls → Prop} {I l : Addr} {dd : D} {i : Nat}

/- `object()` -/
theorem Ev_object {x p pos} (hg : Gl c.G x (.type "object")) (hge : c.env.globals = mainGlobals) (hbe : c.env.builtins = builtinsNs) (hx : c.env.kindOf x = some .globalImplicit) (h : ∀ a, P (.objAt a) ls) (hd : (x == ("__debug__" : Str)) = false := by decide) :
    Ev c k (eval (.Call (.Name x p) [] [] pos) c.env) ρ ls P := fun A s hA S => by
  refine wpAny_Call_Name_kw (S.glob hg hge hbe hx ?_ hd)
  refine PySem.callWith_type rfl (PyProof.Rows.evalArgs_none ?_)
  refine call_object ⟨.objAt s.heap.objs.size, ls, rfl, S.ext (Keep.push _ _) rfl rfl, (Keep.push _ _).stay, ?_, h _⟩
  exact ⟨rfl, S.fresh, _, Heap.get?_push_size _ rfl, rfl, fun es ep e => by cases e⟩

/- the iterator's next item -/
theorem LS.item {A : Around} {s : Shared} {xs : List D} {x : D} {Q : Option Value → Shared → Prop} {E : Value → Shared → Prop} (L : LS (c.re c.s0 ([I] ++ c.X0) c.Z0) [I] (.ref l) dd (LI l I) i ρ ls s) (hsub : ∀ a ∈ c.Z0, a ∈ c.X0) (hJ : Jok c [I]) (hL : LsOf ls dd xs) (hx : xs[i]? = some x)
    (h : ∀ v s', LS (c.re c.s0 ([I] ++ c.X0) c.Z0) [I] (.ref l) dd (LI l I) (i+1) ρ ls s' → Stay ((c.re c.s0 ([I] ++ c.X0) c.Z0).X ls) ((c.re c.s0 ([I] ++ c.X0) c.Z0).X ls) s.heap s'.heap → Rd ((c.re c.s0 ([I] ++ c.X0) c.Z0).X ls) s'.heap v x → Q (some v) s') : wpAny c.M A (pyNext (.ref I)) Q E s := by
  obtain ⟨a, vs, e, hl, hr⟩ := hL.get L.st L.rd
  cases e
  obtain ⟨v, hv, rv⟩ := hr.get hx
  refine wpAny_pyNext_list_item L.w hl (by simpa using hv) fun h' hit' hs' => ?_
  have hI : I ∈ (c.re c.s0 ([I] ++ c.X0) c.Z0).X ls := List.mem_append_right _ (.head _)
  obtain ⟨S', st'⟩ := L.st.tch (c := c) (J := [I]) (s' := { s with heap := h' }) ⟨fun b o hb e => (hs'.2 b fun q => hb (q ▸ .head _)).trans e, fun b hb => by
    rw [List.mem_singleton.mp hb]
    obtain ⟨o, h1, h2, h3⟩ := hit'
    exact ⟨o, h1, by rw [h2]; simp, .inl ⟨_, h3⟩⟩, rfl, rfl⟩ hsub hJ (fun j hj => by
      rw [List.mem_singleton.mp hj]
      obtain ⟨o, h1, h2, h3⟩ := L.w
      exact ⟨o, h1, by rw [h2]; simp, .inl ⟨_, h3⟩⟩) L.off
  exact h v _ ⟨S', hit', Rd.stay st' _ _ L.rd, L.off⟩ st' (Rd.stay st' _ _ rv)

theorem LS.done {A : Around} {s : Shared} {xs : List D} {Q : Option Value → Shared → Prop} {E : Value → Shared → Prop} (hh : A.handled = none) (L : LS (c.re c.s0 ([I] ++ c.X0) c.Z0) [I] (.ref l) dd (LI l I) i ρ ls s) (hsub : ∀ a ∈ c.Z0, a ∈ c.X0) (hJ : Jok c [I]) (hL : LsOf ls dd xs) (hx : xs[i]? = none)
    (h : ∀ s', St c ρ ls s' → Stay ((c.re c.s0 ([I] ++ c.X0) c.Z0).X ls) (c.X ls) s.heap s'.heap → Q none s') : wpAny c.M A (pyNext (.ref I)) Q E s := by
  obtain ⟨a, vs, e, hl, hr⟩ := hL.get L.st L.rd
  cases e
  have hz := hr.length
  simp at hz
  have hn : vs[i]? = none := by
    have := List.getElem?_eq_none_iff.mp hx
    rw [Array.getElem?_eq_none_iff]; walk_at "n"
  refine wpAny_pyNext_list_end hh L.w hl hn fun h' he => ?_
  obtain ⟨S', st'⟩ := L.st.tchEnd (c := c) (J := [I]) (s' := { s with heap := h' }) (fun b o hb e => he b o (fun q => hb (q ▸ .head _)) e) rfl rfl hsub hJ (fun j hj => by
      rw [List.mem_singleton.mp hj]
      obtain ⟨o, h1, h2, h3⟩ := L.w
      exact ⟨o, h1, by rw [h2]; simp, .inl ⟨_, h3⟩⟩) L.off
  exact h _ S' st'

theorem LS.ext {s s' : Shared} {J : List Addr} {dv : Value} {W : Nat → Heap → Prop} (L : LS c J dv dd W i ρ ls s) (hk : Keep s.heap s'.heap) (hg : s'.gens = s.gens) (ho : s'.os = s.os) (hW : W i s'.heap) : LS c J dv dd W i ρ ls s' :=
  ⟨L.st.ext hk hg ho, hW, Rd.stay hk.stay _ _ L.rd, L.off⟩

end
end Mine
end

noncomputable section
set_option genSizeOf false
set_option genInjectivity false
set_option Elab.async false
set_option linter.unusedVariables false
set_option maxRecDepth 10000
namespace Mine
open PySem PySem.Calls PyProof.Rows PySem.W

variable {α β : Type}
def bst (f : α → D) (g : β → D) (κ : α → β) : Option α → List D
  | none => []
  | some x => [f x, g (κ x)]
def pmin (lt : β → β → Bool) (κ : α → β) : List α → Option α
  | [] => none
  | x :: r => some (r.foldl (fun b y => if lt (κ y) (κ b) then y else b) x)
def pminS (lt : β → β → Bool) (κ : α → β) (b : Option α) (y : α) : Option α := some (match b with
  | none => y
  | some b => if lt (κ y) (κ b) then y else b)
theorem pmin_snoc (lt : β → β → Bool) (κ : α → β) (xs : List α) (y : α) : pmin lt κ (xs ++ [y]) = pminS lt κ (pmin lt κ xs) y := by
  cases xs with
  | nil => rfl
  | cons x r => simp [pmin, pminS, List.foldl_append]

/- a key function or none -/
def KV (kd : D) (f : α → D) (g : β → D) (κ : α → β) : Prop := (kd = .none ∧ ∀ x, g (κ x) = f x) ∨ ((∃ fd, kd = .lam fd) ∧ ∀ x, KeyIs kd (f x) (g (κ x)))

section
variable {c : Cx} {k : Nat} {ρ : Rho} {ls : Ls} {P : D → Ls → Prop} {PB : Bool → Ls → Prop} {PF : Fl → Rho → Ls → Prop} {I l : Addr} {dd : D}

abbrev Cx.it (c : Cx) (I : Addr) : Cx := c.re c.s0 ([I] ++ c.X0) c.Z0

theorem LS.setL {s : Shared} {J : List Addr} {dv : Value} {W : Nat → Heap → Prop} {i : Nat} {S : Addr} {xs ys : List D} {vs ws : Array Value} {n n' : Nat} {s' : Shared} (L : LS c J dv dd W i ρ ((S, xs) :: ls) s) (hS : S ∉ keys ls) (ho : IsL s.heap S vs n) (hn : IsL s'.heap S ws n') (hs : Heap.SameBut S s.heap s'.heap)
    (hr : RdL (c.X ((S, xs) :: ls)) s.heap ws.toList ys) (hg : s'.gens = s.gens) (hos : s'.os = s.os) (hW : W i s'.heap) : LS c J dv dd W i ρ ((S, ys) :: ls) s' ∧ Stay (c.X ((S, xs) :: ls)) (c.X ((S, ys) :: ls)) s.heap s'.heap := by
  have S' := L.st.setList (.head _) ho.isList hn hs hr hg hos
  rw [lset_cons_eq hS] at S'
  have st : Stay (c.X ((S, xs) :: ls)) (c.X ((S, ys) :: ls)) s.heap s'.heap := Stay.but hs (Cx.own_X (Cx.key_own (.head _)))
  exact ⟨⟨S', hW, Rd.stay st _ _ L.rd, L.off⟩, st⟩

theorem min_loop {f : α → D} {g : β → D} {κ : α → β} {lt : β → β → Bool} (hlt : LtF g lt) {kv dv : Value} {kd dfl : D} (hkv : KV kd f g κ) (hlim : c.G.NoLimit) {S : Addr} (hSk : S ∉ keys ls) (hSX : S ∉ c.X0) {xs : List α} {R : Result → Shared → Prop} (hsub : ∀ a ∈ c.Z0, a ∈ c.X0) (hJ : Jok c [I]) (hL : LsOf ls dd (xs.map f))
    (hR : ∀ v s', St c ρ ls s' → Rd (c.X ls) s'.heap v (match pmin lt κ xs with | some x => f x | none => dfl) → R (.ok (.ret v)) s') :
    ∀ (r j : Nat) (A : Around) (s : Shared), xs.length - j = r → j ≤ xs.length → Room 12 A → LS (c.it I) [I] (.ref l) dd (LI l I) j ρ ((S, bst f g κ (pmin lt κ (xs.take j))) :: ls) s →
      Rd ((c.it I).X ((S, bst f g κ (pmin lt κ (xs.take j))) :: ls)) s.heap kv kd → Rd ((c.it I).X ((S, bst f g κ (pmin lt κ (xs.take j))) :: ls)) s.heap dv dfl → codeAny c.M A (.builtin "min.loop" ⟨[.ref I, kv, .ref S], [("default", dv)]⟩) R s := by
  have hname : (toString "min" ++ toString ".loop" : String) = "min.loop" := by decide
  intro r
  induction r with
  | zero =>
    intro j A s hr hj hA L rk rd
    have hjn : j = xs.length := by walk_at "n"
    subst hjn
    rw [List.take_length] at L rk rd
    obtain ⟨ws, n, hS, rS⟩ := L.st.lists (S, _) (.head _)
    refine codeAny_builtin PySem.F.entry_min_loop ?_
    rw [Around.under_plainId PySem.F.plain_min_loop _]
    show wpAny _ A.in1 (seqItems? (.ref S) >>= _) _ _ _
    refine wpAny_bind (wpAny_seqItems hS rfl ?_)
    show wpAny _ A.in1 (tryCatch (pyNext (.ref I)) _ >>= _) _ _ _
    refine wpAny_bind (wpAny_tryCatch (LS.done (A := A.in1) hA.h L hsub hJ hL.tl (by simp) fun s1 S1 st1 => ?_))
    have rS1 := RdL.stay st1 _ _ rS
    have rd1 := Rd.stay st1 _ _ rd
    obtain ⟨ws1, n1, hS1, _⟩ := S1.lists (S, _) (.head _)
    have X_sub : ∀ ys, ∀ a ∈ c.X ls, a ∈ c.X ((S, ys) :: ls) := fun ys => X_tail
    cases hb : pmin lt κ xs with
    | none =>
      rw [hb] at rS1 rS S1 rd1 hR
      have e : ws.toList = [] := by have := rS.length; simpa [bst] using this
      have e' : ((some ws : Option (Array Value)).getD #[]).toList = [] := e
      dsimp only
      rw [e']
      show wpAny _ A.in1 (rule _ >>= _) _ _ _
      refine wpAny_bind (wpAny_rule (wpAny_pure ?_))
      obtain ⟨S2, _⟩ := S1.freeze hSX
      exact hR dv s1 S2 (Rd.stay (Stay.sub (X_sub _)) _ _ rd1)
    | some b =>
      rw [hb] at rS1 rS S1 rd1 hR
      obtain ⟨vi, _, e, ri, vk, _, e2, rk', e3⟩ := rS1
      cases e3; subst e2
      have e' : ((some ws : Option (Array Value)).getD #[]).toList = [vi, vk] := e
      dsimp only
      rw [e']
      show wpAny _ A.in1 (updateSeq S (fun _ => #[]) >>= _) _ _ _
      refine wpAny_bind ?_
      refine wpAny_updateSeq hS1 rfl (wpAny_bind (wpAny_letGo (wpAny_pure ?_))) (by
        obtain ⟨ws2, n2, h3, h4⟩ := S1.lists (S, _) (.head _)
        have e1 : ws2 = ws1 ∧ n2 = n1 := by
          have h5 : s1.heap.get? S = _ := h3
          have h6 : s1.heap.get? S = _ := hS1
          rw [h5] at h6
          simpa [seqObj] using h6
        have := h4.length
        rw [e1.1] at this
        simp [bst] at this
        rw [this, sizeLine_eq]; walk_at "n") (Nat.zero_le _)
      have S2 := S1.setList (s' := { s1 with heap := s1.heap.update S (Obj.mapSeq fun _ => #[]) }) (.head _) hS1.isList (hS1.update fun _ => #[]) (Heap.SameBut.update ..) (ys := []) rfl rfl rfl
      rw [lset_cons_eq hSk] at S2
      obtain ⟨S3, _⟩ := S2.freeze hSX
      have st2 : Stay (c.X ((S, bst f g κ (some b)) :: ls)) (c.X ls) s1.heap (s1.heap.update S (Obj.mapSeq fun _ => #[])) :=
        (Stay.but (X := c.X ((S, bst f g κ (some b)) :: ls)) (Heap.SameBut.update ..) (Cx.own_X (Cx.key_own (.head _)))).trans (Stay.sub (X_sub _))
      exact hR vi _ S3 (Rd.stay st2 _ _ ri)
  | succ r ih =>
    intro j A s hr hj hA L rk rd
    have hjl : j < xs.length := by walk_at "n"
    obtain ⟨ws, n, hS, rS⟩ := L.st.lists (S, _) (.head _)
    refine codeAny_builtin PySem.F.entry_min_loop ?_
    rw [Around.under_plainId PySem.F.plain_min_loop _]
    show wpAny _ A.in1 (seqItems? (.ref S) >>= _) _ _ _
    refine wpAny_bind (wpAny_seqItems hS rfl ?_)
    show wpAny _ A.in1 (tryCatch (pyNext (.ref I)) _ >>= _) _ _ _
    refine wpAny_bind (wpAny_tryCatch (LS.item (A := A.in1) (x := f xs[j]) L hsub hJ hL.tl (by simp [hjl]) fun v s1 L1 st1 rv => ?_))
    have htake : pmin lt κ (xs.take (j + 1)) = pminS lt κ (pmin lt κ (xs.take j)) xs[j] := by
      rw [List.take_succ_eq_append_getElem hjl, pmin_snoc]
    generalize pmin lt κ (xs.take j) = b at L L1 st1 rv rS rk rd htake
    have rS1 := RdL.stay st1 _ _ rS
    have rk1 := Rd.stay st1 _ _ rk
    have rd1 := Rd.stay st1 _ _ rd
    have hkv' : (kv = .none ∧ ∀ x, g (κ x) = f x) ∨ ∃ q, kv = .ref q ∧ ∀ x, KeyIs kd (f x) (g (κ x)) := by
      rcases hkv with ⟨rfl, hg⟩ | ⟨⟨fd, rfl⟩, hg⟩
      · cases rk; exact .inl ⟨rfl, hg⟩
      · have rk1' := rk1
        obtain ⟨q, o, cc, rfl, _⟩ := rk1'
        exact .inr ⟨q, rfl, hg⟩
    rcases hkv' with ⟨rfl, hg⟩ | ⟨q, rfl, hg⟩
    all_goals dsimp only
    all_goals refine wpAny_bind (wpAny_mono (Q := fun val s2 => LS (c.it I) [I] (.ref l) dd (LI l I) (j+1) ρ ((S, bst f g κ b) :: ls) s2 ∧ Keep s1.heap s2.heap ∧ Rd ((c.it I).X ((S, bst f g κ b) :: ls)) s2.heap val (g (κ xs[j]))) ?_ ?_ fun _ _ x => x)
    · refine wpAny_pure ⟨L1, Keep.refl _, ?_⟩
      rw [hg]; exact rv
    rotate_left
    · show wpAny _ A.in1 (tryCatch (holding [v] (call (.ref q) [v])) _) _ _ _
      refine wpAny_tryCatch (wpAny_holding (wpAny_mono (hg xs[j] c.prog c.w A.in1 s1 _ (.ref q) v (hA.mono (by walk_at "n")).in1 (hlim.keeps L1.st.fm.top) (fun a ha => L1.st.live ha) rk1 rv) ?_ fun _ _ x => x.elim))
      rintro val s2 ⟨r1, kp, hg2, ho2⟩
      exact ⟨L1.ext kp hg2 ho2 (by
        obtain ⟨o, h1, h2⟩ := L1.w
        exact ⟨o, kp _ _ h1, h2⟩), kp, r1⟩
    all_goals
      rintro val s2 ⟨L2, kp2, rval⟩
      have rv2 := Rd.stay kp2.stay _ _ rv
      have rk2 := Rd.stay (X' := (c.it I).X ((S, bst f g κ b) :: ls)) kp2.stay _ _ rk1
      have rd2 := Rd.stay (X' := (c.it I).X ((S, bst f g κ b) :: ls)) kp2.stay _ _ rd1
      have rS2 := RdL.stay (X' := (c.it I).X ((S, bst f g κ b) :: ls)) kp2.stay _ _ rS1
      obtain ⟨ws1, n1, hS1, rS1'⟩ := L2.st.lists (S, _) (.head _)
      have hw1 : ws1.size ≤ 2 := by
        have := rS1'.length
        rw [Array.length_toList] at this
        cases b <;> simp only [bst, List.length_cons, List.length_nil] at this <;> walk_at "n"
      have hSI : I ≠ S := fun e => by
        obtain ⟨o, h1, h2, h3⟩ := L2.w
        have h4 : s2.heap.get? S = some _ := hS1
        rw [e, h4] at h1; cases h1; cases h3
      -- the best so far is replaced
      have put : LS (c.it I) [I] (.ref l) dd (LI l I) (j+1) ρ ((S, bst f g κ (some xs[j])) :: ls) { s2 with heap := s2.heap.update S (Obj.mapSeq fun _ => #[v, val]) } ∧ Stay ((c.it I).X ((S, bst f g κ b) :: ls)) ((c.it I).X ((S, bst f g κ (some xs[j])) :: ls)) s2.heap (s2.heap.update S (Obj.mapSeq fun _ => #[v, val])) := by
        refine L2.setL hSk hS1 (hS1.update fun _ => #[v, val]) (Heap.SameBut.update ..) (RdL.cons rv2 (RdL.one rval)) rfl rfl ?_
        obtain ⟨o, h1, h2⟩ := L2.w
        exact ⟨o, (Heap.SameBut.update s2.heap S _).2 I hSI |>.trans h1, h2⟩
      cases b with
      | none =>
        have e : ws.toList = [] := by have := rS.length; simpa [bst] using this
        have e' : ((some ws : Option (Array Value)).getD #[]).toList = [] := e
        rw [e']
        show wpAny _ A.in1 (updateSeq S (fun _ => #[v, val]) >>= _) _ _ _
        refine wpAny_bind ?_
        refine wpAny_updateSeq hS1 rfl ?_ (by rw [sizeLine_eq]; walk_at "n") (by rw [sizeLine_eq]; show 2 ≤ _; walk_at "n")
        rw [hname]
        refine wpAny_pure ⟨plainId_quiet PySem.F.plain_min_loop _, ih (j + 1) A _ (by walk_at "n") hjl hA ?_ ?_ ?_⟩
        · rw [htake]; exact put.1
        · rw [htake]; exact Rd.stay put.2 _ _ rk2
        · rw [htake]; exact Rd.stay put.2 _ _ rd2
      | some b =>
        obtain ⟨vi, _, e, ri, vk, _, e2, rk', e3⟩ := rS2
        cases e3; subst e2
        have e' : ((some ws : Option (Array Value)).getD #[]).toList = [vi, vk] := e
        rw [e']
        show wpAny _ A.in1 (tryCatch (holding [v, val] (richCompare .Lt val vk >>= _)) _ >>= _) _ _ _
        refine wpAny_bind (wpAny_tryCatch (wpAny_holding (wpAny_bind (hlt (κ xs[j]) (κ b) c.prog c.w A.in1 _ s2 _ val vk _ (by have := hA.2.1; show A.units + 1 + 60 < _; walk_at "n") rval rk' ?_))))
        refine wpAny_bind (wpAny_holding (wpAny_truthy_bool ?_))
        refine wpAny_bind (wpAny_letGo (wpAny_pure ?_))
        cases hb : lt (κ xs[j]) (κ b) with
        | true =>
          simp only [if_true]
          refine wpAny_bind ?_
          refine wpAny_updateSeq hS1 rfl (wpAny_bind (wpAny_letGo ?_)) (by rw [sizeLine_eq]; walk_at "n") (by rw [sizeLine_eq]; show 2 ≤ _; walk_at "n")
          rw [hname]
          have ht : pmin lt κ (xs.take (j + 1)) = some xs[j] := by rw [htake]; simp [pminS, hb]
          refine wpAny_pure ⟨plainId_quiet PySem.F.plain_min_loop _, ih (j + 1) A _ (by walk_at "n") hjl hA ?_ ?_ ?_⟩
          · rw [ht]; exact put.1
          · rw [ht]; exact Rd.stay put.2 _ _ rk2
          · rw [ht]; exact Rd.stay put.2 _ _ rd2
        | false =>
          simp only [Bool.false_eq_true, if_false]
          refine wpAny_bind (wpAny_letGo ?_)
          rw [hname]
          have ht : pmin lt κ (xs.take (j + 1)) = some b := by rw [htake]; simp [pminS, hb]
          refine wpAny_pure ⟨plainId_quiet PySem.F.plain_min_loop _, ih (j + 1) A _ (by walk_at "n") hjl hA ?_ ?_ ?_⟩
          · rw [ht]; exact L2
          · rw [ht]; exact rk2
          · rw [ht]; exact rd2
end
end Mine
end

noncomputable section
set_option genSizeOf false
set_option genInjectivity false
set_option Elab.async false
set_option linter.unusedVariables false
set_option maxRecDepth 100000
namespace Mine
open PySem PySem.Calls PyProof.Rows PySem.W

variable {α β : Type}
theorem args_min_dk (a d v : Value) : argsOk "min" ⟨[a], [(Str.ofString "default", d), (Str.ofString "key", v)]⟩ := by unfold argsOk; kernel_rfl

section
variable {c : Cx} {k : Nat} {ρ : Rho} {ls : Ls} {P : D → Ls → Prop} {PB : Bool → Ls → Prop} {PF : Fl → Rho → Ls → Prop} {I l : Addr} {dd : D}

theorem call_min {f : α → D} {g : β → D} {κ : α → β} {lt : β → β → Bool} (hlt : LtF g lt) {kv dv : Value} {kd dfl : D} (hkv : KV kd f g κ) (hlim : c.G.NoLimit) {xs : List α} {A : Around} {s : Shared} {Q E : Value → Shared → Prop} (hA : Room 14 A) (L : Lv c I l dd 0 ρ ls s) (hL : LsOf ls dd (xs.map f))
    (rk : Rd ((c.it I).X ls) s.heap kv kd) (rd : Rd ((c.it I).X ls) s.heap dv dfl)
    (hQ : ∀ v s', St c ρ ls s' → Rd (c.X ls) s'.heap v (match pmin lt κ xs with | some x => f x | none => dfl) → Q v s') :
    wpAny c.M A (call (.builtin "min") [.ref I] [(Str.ofString "default", dv), (Str.ofString "key", kv)]) Q E s := by
  have hname : (toString "min" ++ toString ".loop" : String) = "min.loop" := by decide
  obtain ⟨L0, hJ, hsub⟩ := L
  refine kmk_tree PySem.F.kind_min PySem.F.plain_min PySem.F.entry_min (args_min_dk _ _ _) ?_
  show wpAny _ A.in1 (Builtin.Builtins.bindParams "min" ["key", "default"] 0 ⟨[], [(Str.ofString "default", dv), (Str.ofString "key", kv)]⟩ >>= _) _ _ s
  refine wpAny_bind (wpAny_of_eq (show Builtin.Builtins.bindParams "min" ["key", "default"] 0 ⟨[], [(Str.ofString "default", dv), (Str.ofString "key", kv)]⟩ = pure [some kv, some dv] from rfl) ?_)
  refine wpAny_bind (wpAny_pure ?_)
  refine wpAny_bind (wpAny_pyIter_listiter L0.w ?_)
  refine wpAny_bind (wpAny_newList ?_ (Nat.zero_le _))
  rw [hname]
  refine wpAny_pure ⟨plainId_quiet PySem.F.plain_min_loop _, ?_⟩
  obtain ⟨S1, st1, hk, hX⟩ := L0.st.addList (vs := []) (ds := []) rfl
  have hI : ∃ o, s.heap.get? I = some o := L0.st.live (List.mem_append_right _ (.head _))
  have hne : I ≠ s.heap.objs.size := fun e => by
    obtain ⟨o, h⟩ := hI; rw [e, none_size] at h; cases h
  have L1 : LS (c.it I) [I] (.ref l) dd (LI l I) 0 ρ ((s.heap.objs.size, bst f g κ (pmin lt κ (xs.take 0))) :: ls) { s with heap := s.heap.push { cls := .type "list", data := .seq ([] : List Value).toArray } } := by
    refine ⟨S1, ?_, Rd.stay st1 _ _ L0.rd, fun j hj ho => ?_⟩
    · obtain ⟨o, h1, h2⟩ := L0.w
      exact ⟨o, Heap.get?_push_of_some _ h1, h2⟩
    · rw [List.mem_singleton.mp hj] at ho
      rcases List.mem_cons.mp ho with e | h
      · exact L0.off I (.head _) (e ▸ Cx.loc_own)
      · rcases List.mem_append.mp h with h | h
        · exact L0.off I (.head _) (Cx.cell_own h)
        · rcases List.mem_cons.mp h with e | h
          · exact hne e
          · exact L0.off I (.head _) (Cx.key_own h)
  exact min_loop hlt hkv hlim hk (fun h => hX (List.mem_append_right _ h)) hsub hJ hL hQ _ 0 A _ rfl (Nat.zero_le _) (hA.mono (by walk_at "n")) L1 (Rd.stay st1 _ _ rk) (Rd.stay st1 _ _ rd)

theorem ExL_min {f : α → D} {g : β → D} {κ : α → β} {lt : β → β → Bool} (hlt : LtF g lt) {kd dfl : D} (hkv : KV kd f g κ) (hlim : c.G.NoLimit) {xs : List α} {y mn it sn kn : Str} {py mp ip sp kp k1 k2 pos spos : Pos} {rest : List Stmt} (hL : LsOf ls dd (xs.map f))
    (hy : StoreOk c y) (hg : Gl c.G mn (.builtin "min")) (hge : c.env.globals = mainGlobals) (hbe : c.env.builtins = builtinsNs) (hx : c.env.kindOf mn = some .globalImplicit)
    (hit : ρ.lookup it = some (.raw (.ref I))) (hsn : ρ.lookup sn = some dfl) (hkn : ρ.lookup kn = some kd)
    (h : Ex c (k+14) (execs rest c.env) (upd ρ y (match pmin lt κ xs with | some x => f x | none => dfl)) ls PF)
    (hd1 : (mn == ("__debug__" : Str)) = false := by decide) (hd2 : (it == ("__debug__" : Str)) = false := by decide) (hd3 : (sn == ("__debug__" : Str)) = false := by decide) (hd4 : (kn == ("__debug__" : Str)) = false := by decide)
    (hsw : swapsWith (.Call (.Name mn mp) [.Name it ip] [⟨some (Str.ofString "default"), .Name sn sp, k1⟩, ⟨some (Str.ofString "key"), .Name kn kp, k2⟩] pos) (some (.Name y py)) spos.line c.env = pure false := by rfl) :
    ExL c (k+14) (execs (.Assign [.Name y py] (.Call (.Name mn mp) [.Name it ip] [⟨some (Str.ofString "default"), .Name sn sp, k1⟩, ⟨some (Str.ofString "key"), .Name kn kp, k2⟩] pos) spos :: rest) c.env) I l dd 0 ρ ls PF := fun A s hA L => by
  refine wpAny_execs_cons (wpAny_Assign_Name (wpAny_Call_Name_kw (L.st.glob hg hge hbe hx ?_ hd1)) hsw)
  refine callWith_builtin_kwB (first := []) (by rfl) (by rfl) ?_
  have ev := EvArgs_kw (c := (c.it I).here ls s) (k := k+14) (ρ := ρ) (ls := ls) (pos := pos) (e := .Name it ip) (rest := []) (kws := [⟨some (Str.ofString "default"), .Name sn sp, k1⟩, ⟨some (Str.ofString "key"), .Name kn kp, k2⟩])
    (PA := fun ds kds ls' => ds = [.raw (.ref I)] ∧ kds = [(Str.ofString "default", dfl), (Str.ofString "key", kd)] ∧ ls' = ls) [Str.ofString "default", Str.ofString "key"]
    (Evs_cons (Ev_name hit (Evs_nil (EvKs_cons (Ev_name hsn (EvKs_cons (Ev_name hkn (EvKs_nil ⟨rfl, rfl, rfl, rfl⟩) hd4)) hd3))) hd2))
  refine wpAny_mono (ev A s _ hA L.1.st.base) ?_ fun _ _ x => x
  rintro ⟨ap, ak⟩ s1 ⟨ds, kds, ls1, hk1, S1, st1, r1, rk, rfl, rfl, rfl⟩
  have L1 := L.keep S1
  obtain ⟨v, _, e, rv, e2⟩ := r1
  cases e2
  cases rv
  dsimp only at e rk
  subst e
  obtain ⟨e1, e2⟩ := rk
  obtain ⟨dv, _, e3, rd, kv, _, rfl, rkv, e4⟩ := e2
  match ak, e1, e3, e4 with
  | [(n1, v1), (n2, v2)], e1, e3, e4 =>
    simp at e1 e3
    obtain ⟨rfl, rfl⟩ := e1
    obtain ⟨rfl, rfl, _⟩ := e3
    have sub : Stay (((c.it I).here ls1 s).X ls1) ((c.it I).X ls1) s1.heap s1.heap := Stay.sub fun a ha => by
      rcases List.mem_append.mp ha with h | h
      · exact List.mem_append_left _ h
      · exact List.mem_append_right _ (List.mem_append_right _ h)
    refine call_min hlt hkv hlim (hA.mono (by walk_at "n")) L1 hL (Rd.stay sub _ _ rkv) (Rd.stay sub _ _ rd) fun v s' S' r' => ?_
    refine S'.store hy r' fun s2 S2 _ => ?_
    exact h A s2 hA S2
  | [], e1, _, _ => simp at e1
  | [_], e1, _, _ => simp at e1
  | _ :: _ :: _ :: _, e1, _, _ => simp at e1
end
end Mine
end

noncomputable section
set_option genSizeOf false
set_option genInjectivity false
set_option Elab.async false
set_option linter.unusedVariables false
set_option maxRecDepth 10000
namespace Mine
open PySem PySem.Calls PyProof.Rows PySem.W

variable {α β : Type}

section
variable {c : Cx} {k : Nat} {ρ : Rho} {ls : Ls} {P : D → Ls → Prop} {PB : Bool → Ls → Prop} {PF : Fl → Rho → Ls → Prop} {I l : Addr} {dd : D}

/- `try` that does not raise -/
theorem Ex_try {body orelse : List Stmt} {h₀ : ExceptHandler} {hs : List ExceptHandler} {pos : Pos} (h : Ex c k (execs body c.env) ρ ls (Seq c k orelse PF)) :
    Ex c k (exec (.Try body (h₀ :: hs) orelse [] pos) c.env) ρ ls PF := fun A s hA S => by
  refine wpAny_Try_except (wpAny_mono (h A s hA S) ?_ fun _ _ x => x.elim)
  rintro f s1 ⟨fl, ρ1, ls1, S1, hf, h1⟩
  cases f <;> cases fl <;> simp only [FlR] at hf
  · exact h1 A s1 hA S1
  · exact ⟨.brk, ρ1, ls1, S1, trivial, h1⟩
  · exact ⟨.cont, ρ1, ls1, S1, trivial, h1⟩
  · exact ⟨.ret _, ρ1, ls1, S1, hf, h1⟩

/- `x[:n]` -/
theorem Ev_upto {value upper : Expr} {p pos : Pos} {xs : List D} {n : Int} (h : Ev c k (eval value c.env) ρ ls (fun d ls1 => Ev c k (eval upper c.env) ρ ls1 (fun d2 ls2 => d2 = .int n ∧ 0 ≤ n ∧ LsOf ls2 d xs ∧ xs.length < 2 ^ 20 ∧ P (.fl (xs.take n.toNat)) ls2))) :
    Ev c k (eval (.Subscript value (.Slice none (some upper) none p) pos) c.env) ρ ls P :=
  Ev_slice (xs := xs) (ys := xs.take n.toNat) (h.mono fun d ls1 h => Part_none (Part_some (h.mono fun d2 ls2 h => ⟨n, h.1, Part_none ⟨h.2.2.1, h.2.2.2.1, by simp, fun X h' vs r => pick_upto r n h.2.1, h.2.2.2.2⟩⟩)))
/- `x[::-1]` -/
theorem Ev_rev {value step : Expr} {p pos : Pos} {xs : List D} (h : Ev c k (eval value c.env) ρ ls (fun d ls1 => Ev c k (eval step c.env) ρ ls1 (fun d2 ls2 => d2 = .int (-1) ∧ LsOf ls2 d xs ∧ xs.length < 2 ^ 20 ∧ P (.fl xs.reverse) ls2))) :
    Ev c k (eval (.Subscript value (.Slice none none (some step) p) pos) c.env) ρ ls P :=
  Ev_slice (xs := xs) (ys := xs.reverse) (h.mono fun d ls1 h => Part_none (Part_none (Part_some (h.mono fun d2 ls2 h => ⟨-1, h.1, h.2.1, h.2.2.1, by decide, fun X h' vs r => pick_rev r, h.2.2.2⟩))))
end

/- data that can be told apart and compared -/
structure Cmp (u w : Nat) (f : α → D) (lt eq : α → α → Bool) : Prop where
  plain : ∀ a, (f a).plain = true
  depth : ∀ a, (f a).py.depth ≤ w
  eq : ∀ a b, PyData.eqv (f a).py (f b).py = eq a b
  lt : ∀ a b, LtD u (f a) (f b) (lt a b)

theorem Cmp.ok {u w : Nat} {f : α → D} {lt eq : α → α → Bool} (C : Cmp u w f lt eq) (hw : w ≤ 10) (a : α) : (f a).ok := ⟨C.plain a, Nat.le_trans (C.depth a) hw⟩
theorem Cmp.ltF {u w : Nat} {f : α → D} {lt eq : α → α → Bool} (C : Cmp u w f lt eq) (hu : u ≤ 60) : LtF f lt := fun a b => (C.lt a b).mono hu
theorem Cmp.int {f : α → D} {z : α → Int} (hf : ∀ a, f a = .int (z a)) : Cmp 0 1 f (fun a b => decide (z a < z b)) (fun a b => z a == z b) where
  plain := fun a => by rw [hf]; rfl
  depth := fun a => by rw [hf]; simp [D.py, PyData.depth]
  eq := fun a b => by rw [hf, hf]; rfl
  lt := fun a b => by rw [hf, hf]; exact LtD.int _ _

def lx2 (ltA eqA : α → α → Bool) (ltB : β → β → Bool) (a : α) (b : β) (a' : α) (b' : β) : Bool := if eqA a a' then ltB b b' else ltA a a'

theorem Lex.two {u v wa wb : Nat} {f : α → D} {ltA eqA : α → α → Bool} {g : β → D} {ltB eqB : β → β → Bool} (A : Cmp u wa f ltA eqA) (B : Cmp v wb g ltB eqB) (ha : wa ≤ 10) (hb : wb ≤ 10) {n : Nat} (hu : u ≤ n) (hv : v ≤ n)
    (hBi : ∀ b b', eqB b b' = true → ltB b b' = false) (a : α) (b : β) (a' : α) (b' : β) : Lex n [f a, g b] [f a', g b'] (lx2 ltA eqA ltB a b a' b') := by
  unfold lx2
  cases e : eqA a a' with
  | false => exact .ne (A.ok ha _) (A.ok ha _) (by rw [A.eq, e]) ((A.lt _ _).mono hu)
  | true =>
    refine .eq (A.ok ha _) (A.ok ha _) (by rw [A.eq, e]) ?_
    cases e2 : eqB b b' with
    | false => exact .ne (B.ok hb _) (B.ok hb _) (by rw [B.eq, e2]) ((B.lt _ _).mono hv)
    | true => simp only [if_true]; rw [hBi _ _ e2]; exact .eq (B.ok hb _) (B.ok hb _) (by rw [B.eq, e2]) .nn

theorem Cmp.two {γ : Type} {h : γ → D} {p : γ → α} {q : γ → β} {u v wa wb : Nat} {f : α → D} {ltA eqA : α → α → Bool} {g : β → D} {ltB eqB : β → β → Bool} (A : Cmp u wa f ltA eqA) (B : Cmp v wb g ltB eqB) (ha : wa ≤ 10) (hb : wb ≤ 10) {n m : Nat} (hu : u ≤ n) (hv : v ≤ n) (h10 : 10 ≤ n) (hm : wa < m) (hm' : wb < m)
    (hBi : ∀ b b', eqB b b' = true → ltB b b' = false) (hh : ∀ c, h c = .tup [f (p c), g (q c)]) : Cmp (n + 1) m h (fun c c' => lx2 ltA eqA ltB (p c) (q c) (p c') (q c')) (fun c c' => eqA (p c) (p c') && eqB (q c) (q c')) where
  plain := fun c => by rw [hh]; simp [D.plain, plains, A.plain, B.plain]
  depth := fun c => by
    rw [hh]
    have := A.depth (p c)
    have := B.depth (q c)
    simp only [D.py, pys, PyData.depth, PyData.depthAll]
    walk_at "n"
  eq := fun c c' => by rw [hh, hh]; simp [D.py, pys, PyData.eqv, PyData.eqvAll, A.eq, B.eq]
  lt := fun c c' => by rw [hh, hh]; exact LtD.tup (Lex.two A B ha hb hu hv hBi _ _ _ _) h10

/- one more item ahead -/
theorem Lex.more {u w : Nat} {f : α → D} {lt eq : α → α → Bool} (A : Cmp u w f lt eq) (hw : w ≤ 10) {n : Nat} (hu : u ≤ n) {a a' : α} {xs ys : List D} {b : Bool} (L : Lex n xs ys b) : Lex n (f a :: xs) (f a' :: ys) (if eq a a' then b else lt a a') := by
  cases e : eq a a' with
  | false => exact .ne (A.ok hw _) (A.ok hw _) (by rw [A.eq, e]) ((A.lt _ _).mono hu)
  | true => exact .eq (A.ok hw _) (A.ok hw _) (by rw [A.eq, e]) L

theorem LtF.int : LtF D.int (fun a b => decide (a < b)) := fun a b => (LtD.int a b).mono (by walk_at "n")
end Mine
end

noncomputable section
set_option genSizeOf false
set_option genInjectivity false
set_option Elab.async false
set_option linter.unusedVariables false
set_option maxRecDepth 10000
namespace Mine
open PySem PySem.Calls PyProof.Rows PySem.W

variable {α β γ : Type}
def numG (mk : α → Nat → γ) : Nat → List α → List γ
  | _, [] => []
  | i, x :: r => mk x i :: numG mk (i + 1) r
def nsStep (lt : β → β → Bool) (ltg : γ → γ → Bool) (κ : α → β) (tp : γ → β) (mk : α → Nat → γ) (st : List γ × Nat) (e : α) : List γ × Nat :=
  match st.1 with
  | [] => st
  | z :: zs => if lt (κ e) (tp z) then (hrepl (fun x p => ltg p x) zs (mk e st.2), st.2 + 1) else st
def nsm (lt : β → β → Bool) (ltg : γ → γ → Bool) (κ : α → β) (tp : γ → β) (mk : α → Nat → γ) (el : γ → α) (n : Nat) (xs : List α) : List α :=
  if n = 0 then [] else (psortK ltg id ((xs.drop n).foldl (nsStep lt ltg κ tp mk) (hify (fun x p => ltg p x) (numG mk 0 (xs.take n)), n)).1).map el
def nsAll (lt : β → β → Bool) (ltg : γ → γ → Bool) (κ : α → β) (tp : γ → β) (mk : α → Nat → γ) (el : γ → α) (n : Int) (xs : List α) : List α :=
  if n = 1 then (pmin lt κ xs).toList else if (xs.length : Int) ≤ n then (psortK lt κ xs).take n.toNat else nsm lt ltg κ tp mk el n.toNat xs

theorem numG_snoc (mk : α → Nat → γ) : ∀ (i : Nat) (xs : List α) (x : α), numG mk i (xs ++ [x]) = numG mk i xs ++ [mk x (i + xs.length)]
  | i, [], x => rfl
  | i, y :: r, x => by simp only [List.cons_append, numG, numG_snoc mk (i + 1) r x, List.length_cons]; rw [show i + 1 + r.length = i + (r.length + 1) by walk_at "n"]
theorem numG_length (mk : α → Nat → γ) : ∀ (i : Nat) (xs : List α), (numG mk i xs).length = xs.length
  | i, [] => rfl
  | i, y :: r => by simp [numG, numG_length mk (i + 1) r]
theorem hify_length (lt : α → α → Bool) (xs : List α) : (hify lt xs).length = xs.length := foldl_hstep_length ..
theorem hrepl_length (lt : α → α → Bool) (xs : List α) (x : α) : (hrepl lt xs x).length = xs.length + 1 := by unfold hrepl; rw [su_length]; rfl; simp
theorem nsStep_length (lt : β → β → Bool) (ltg : γ → γ → Bool) (κ : α → β) (tp : γ → β) (mk : α → Nat → γ) (st : List γ × Nat) (e : α) : (nsStep lt ltg κ tp mk st e).1.length = st.1.length := by
  unfold nsStep
  split
  · rfl
  · rename_i z zs h
    split
    · simp only [hrepl_length]; rw [h]; rfl
    · rfl
theorem nsFold_length (lt : β → β → Bool) (ltg : γ → γ → Bool) (κ : α → β) (tp : γ → β) (mk : α → Nat → γ) : ∀ (l : List α) (st : List γ × Nat), (l.foldl (nsStep lt ltg κ tp mk) st).1.length = st.1.length
  | [], st => rfl
  | e :: l, st => by rw [List.foldl_cons, nsFold_length, nsStep_length]

theorem numb_map {f : α → D} {i : Nat} {xs : List α} {m : Nat} {x : D} (h : (numb 0 ((xs.map f).take m))[i]? = some x) : ∃ e, xs[i]? = some e ∧ i < m ∧ x = .tup [.int (i : Nat), f e] := by
  rw [numb_get] at h
  cases e : ((xs.map f).take m)[i]? with
  | none => rw [e] at h; cases h
  | some y =>
    rw [e] at h
    simp only [Option.map_some, Option.some.injEq, Nat.zero_add] at h
    have him : i < m := by
      have := (List.getElem?_eq_some_iff.mp e).1
      simp at this; walk_at "n"
    rw [List.getElem?_take_of_lt him, List.getElem?_map] at e
    cases e' : xs[i]? with
    | none => rw [e'] at e; cases e
    | some a => rw [e'] at e; cases e; exact ⟨a, rfl, him, h.symm⟩

theorem take_snoc {xs : List α} {i : Nat} {e : α} (h : xs[i]? = some e) : xs.take (i + 1) = xs.take i ++ [e] := by
  rw [List.take_add_one, h]; rfl

structure NS (α β γ : Type) where
  lt : β → β → Bool
  ltg : γ → γ → Bool
  κ : α → β
  tp : γ → β
  mk' : α → Nat → γ
  el : γ → α
namespace NS
variable (N : NS α β γ)
def step (st : List γ × Nat) (e : α) : List γ × Nat := nsStep N.lt N.ltg N.κ N.tp N.mk' st e
def init (m : Nat) (xs : List α) : List γ := numG N.mk' 0 (xs.take m)
def S (m : Nat) (xs : List α) (i : Nat) : List γ × Nat := ((xs.drop m).take (i - m)).foldl N.step (hify (fun x p => N.ltg p x) (N.init m xs), m)
def all (n : Int) (xs : List α) : List α := nsAll N.lt N.ltg N.κ N.tp N.mk' N.el n xs
variable {N : NS α β γ} {m : Nat} {xs : List α} {i : Nat}
theorem init_length (h : m ≤ xs.length) : (N.init m xs).length = m := by
  unfold init; rw [numG_length, List.length_take, Nat.min_eq_left h]
theorem init_snoc {e : α} (h : xs[i]? = some e) : N.init (i + 1) xs = N.init i xs ++ [N.mk' e i] := by
  unfold init
  rw [take_snoc h, numG_snoc, List.length_take, Nat.zero_add, Nat.min_eq_left (Nat.le_of_lt (List.getElem?_eq_some_iff.mp h).1)]
theorem S_length (h : m ≤ xs.length) : (N.S m xs i).1.length = m :=
  (nsFold_length N.lt N.ltg N.κ N.tp N.mk' ((xs.drop m).take (i - m)) (hify (fun x p => N.ltg p x) (N.init m xs), m)).trans ((hify_length _ _).trans (init_length h))
theorem S_at : N.S m xs m = (hify (fun x p => N.ltg p x) (N.init m xs), m) := by
  unfold S; rw [Nat.sub_self]; rfl
theorem S_succ {e : α} (hi : m ≤ i) (he : xs[i]? = some e) : N.S m xs (i + 1) = N.step (N.S m xs i) e := by
  have h : (xs.drop m)[i - m]? = some e := by rw [List.getElem?_drop, Nat.add_sub_cancel' hi]; exact he
  unfold S
  rw [Nat.succ_sub hi, take_snoc h, List.foldl_append]; rfl
theorem ne_nil {l : List γ} (h : l.length = m) (h0 : m ≠ 0) : ∃ z zs, l = z :: zs := by
  cases l with
  | nil => exact absurd h.symm h0
  | cons z zs => exact ⟨z, zs, rfl⟩
theorem S_take {e : α} {z : γ} {zs : List γ} {o : Nat} (hi : m ≤ i) (he : xs[i]? = some e) (h : N.S m xs i = (z :: zs, o)) (hl : N.lt (N.κ e) (N.tp z) = true) :
    ∃ z' zs', hrepl (fun x p => N.ltg p x) zs (N.mk' e o) = z' :: zs' ∧ N.S m xs (i + 1) = (z' :: zs', o + 1) := by
  obtain ⟨z', zs', e'⟩ := ne_nil (hrepl_length (fun x p => N.ltg p x) zs (N.mk' e o)) (Nat.succ_ne_zero _)
  exact ⟨z', zs', e', by rw [S_succ hi he, h, ← e']; exact if_pos hl⟩
theorem S_skip {e : α} {z : γ} {zs : List γ} {o : Nat} (hi : m ≤ i) (he : xs[i]? = some e) (h : N.S m xs i = (z :: zs, o)) (hl : N.lt (N.κ e) (N.tp z) = false) : N.S m xs (i + 1) = (z :: zs, o) := by
  rw [S_succ hi he, h]; exact if_neg (by rw [hl]; exact Bool.false_ne_true)
theorem all_one {n : Int} (h : n = 1) : N.all n xs = (pmin N.lt N.κ xs).toList := if_pos h
theorem all_le {n : Int} (h : n ≠ 1) (h2 : (xs.length : Int) ≤ n) : N.all n xs = (psortK N.lt N.κ xs).take n.toNat := (if_neg h).trans (if_pos h2)
theorem all_nil {n : Int} (h : n ≠ 1) (h2 : ¬ (xs.length : Int) ≤ n) (h0 : n.toNat = 0) : N.all n xs = [] := (if_neg h).trans ((if_neg h2).trans (if_pos h0))
theorem all_big {n : Int} (h : n ≠ 1) (h2 : ¬ (xs.length : Int) ≤ n) (h0 : n.toNat ≠ 0) : N.all n xs = (psortK N.ltg id (N.S n.toNat xs xs.length).1).map N.el := by
  refine (if_neg h).trans ((if_neg h2).trans ((if_neg h0).trans ?_))
  have e : (xs.drop n.toNat).take (xs.length - n.toNat) = xs.drop n.toNat := List.take_of_length_le (by rw [List.length_drop]; exact Nat.le_refl _)
  unfold S
  rw [e]; rfl
end NS
/- the loops of nsmallest -/
inductive NzI (N : NS α β γ) (fg : γ → D) (xs : List α) (ml : Ls) : Nat → List D → Ls → Prop
  | mk (i : Nat) : NzI N fg xs ml i ((N.init i xs).map fg) ml
inductive NsI (N : NS α β γ) (ft : β → D) (fg : γ → D) (m : Nat) (xs : List α) (Da : Addr) (kx : Rho) (ml : Ls) : Nat → Rho → Ls → Prop
  | mk (i : Nat) (z : γ) (zs : List γ) (o : Nat) (h1 : m ≤ i) (h2 : i ≤ xs.length) (h : N.S m xs i = (z :: zs, o)) :
    NsI N ft fg m xs Da kx ml i (("result", .raw (.ref Da)) :: ("top", ft (N.tp z)) :: ("order", .int (o : Nat)) :: ("_heapreplace", .raw (.ref (faOf 6))) :: kx) ((Da, (z :: zs).map fg) :: ml)
inductive NcI (f : α → D) (el : γ → α) (fg : γ → D) (L : List γ) (Da : Addr) (ml : Ls) : Nat → List D → Ls → Prop
  | mk (i : Nat) : NcI f el fg L Da ml i ((L.take i).map fun p => f (el p)) ((Da, L.map fg) :: ml)
theorem lt64_20 {n : Nat} (h : n < 64) : n < 2 ^ 20 := Nat.lt_trans h (by decide)
theorem lt64_19 {n : Nat} (h : n < 64) : n < 2 ^ 19 := Nat.lt_trans h (by decide)
theorem lt64_62 {n : Nat} (h : n < 64) : n < 2 ^ 62 := Nat.lt_trans h (by decide)
theorem toNat_le {m : Int} {n : Nat} (h : ¬ (n : Int) ≤ m) : m.toNat ≤ n := by walk_at "n"
theorem toNat_back {m : Int} (h : m.toNat ≠ 0) : ((m.toNat : Nat) : Int) = m := by walk_at "n"
theorem isE {f : γ → D} {l : List γ} (h : (!(!(l.map f).isEmpty)) = false) : l ≠ [] := by rintro rfl; cases h
theorem not_isN {f : γ → D} {l : List γ} (h : (!(!(l.map f).isEmpty)) = true) : l = [] := by cases l with
  | nil => rfl
  | cons => cases h

def nsP (lt : α → α → Bool) (ltg : α × Nat → α × Nat → Bool) : NS α α (α × Nat) := ⟨lt, ltg, id, fun p => p.1, fun x i => (x, i), fun p => p.1⟩
theorem Fn_nsmallest {g : Gx} (T : TX g) {f : α → D} {lt : α → α → Bool} {fg : α × Nat → D} {ltg : α × Nat → α × Nat → Bool} (hlt : LtF f lt) (SF : SortF f lt) (SW : SwoF lt) (hltg : LtF fg ltg) (SFg : SortF fg ltg) (SWg : SwoF ltg) (hfg : ∀ p, fg p = .tup [f p.1, .int (p.2 : Nat)]) (hft : ∀ a, ∃ l, f a = .tup l)
    {d : D} {m : Int} {xs : List α} {ml : Ls} (hL : LsOf ml d (xs.map f)) (h64 : xs.length < 64) (hm0 : -(2^62) ≤ m) (hm : m < 2^62) :
    Fn g 23 (.ref (faOf 12)) [.int m, d] [] ml (Is (.fl ((nsAll lt ltg id (fun p => p.1) (fun x i => (x, i)) (fun p => p.1) m xs).map f)) ml) := by
  refine Fn_i T.h12 T.lim (ρ0 := [("n", .int m), ("iterable", d), ("key", .none)]) ?_ ["n", "iterable", "key"] [("key", 0)] rfl (by kernel_rfl) (fun _ => rfl) rfl fun s0 X0 PF fin => ?_
  · rintro s X vs kvs hk _ ⟨v0, _, rfl, r0, v1, _, rfl, r1, rfl⟩ rk
    cases rk.nil
    obtain ⟨od, nd, h1, h2⟩ := T.hd12
    exact ⟨[("n", v0), ("iterable", v1), ("key", .none)], BindsTo.of_defaults rfl (hk _ _ h1) h2 rfl rfl, rfl, v0, _, rfl, r0, v1, _, rfl, r1, _, _, rfl, rfl, rfl⟩
  have hA := NS.all_one (N := (nsP lt ltg)) (n := m) (xs := xs)
  have hB := NS.all_le (N := (nsP lt ltg)) (n := m) (xs := xs)
  have hC := NS.all_nil (N := (nsP lt ltg)) (n := m) (xs := xs)
  have hD := NS.all_big (N := (nsP lt ltg)) (n := m) (xs := xs)
  have fin : ∀ d' ρ extra, d' = .fl ((NS.all (nsP lt ltg) m xs).map f) → PF (.ret d') ρ (extra ++ ml) := fun d' ρ extra => fin (.ret d') ρ extra
  generalize NS.all (nsP lt ltg) m xs = R at hA hB hC hD fin
  refine Ex_cons (Ex_if (EvB.of_cmp (Ev_name rfl (Ev_int (Op2_eq ⟨_, rfl, fun h => ?_, fun h => ?_⟩)))))
  · have hn := hA (eq_of_beq h)
    clear hA hB hC hD
    refine Ex_iter (.inl rfl) T.iter rfl rfl rfl (Ev_name rfl ⟨rfl, hL, fun I l => ?_⟩)
    refine ExL_cons fun _ _ _ => Ex_assign (.inl rfl) (Ev_object T.object rfl rfl rfl fun a => ⟨_, Ext.refl _, ?_⟩)
    refine ExL_min (k := 8) (κ := id) hlt (.inl ⟨rfl, fun _ => rfl⟩) T.lim hL (.inl rfl) T.min rfl rfl rfl rfl rfl rfl ?_
    have hn : R = (pmin lt id xs).toList := hn
    cases hp : pmin lt id xs with
    | none =>
      rw [hp] at hn
      exact Ex_cons (Ex_ret (Ev_ifexp (EvB.of_cmp (Ev_name rfl (Ev_name rfl (Op2_isObj true (.inl ⟨rfl, rfl⟩) ⟨_, rfl, fun _ => Ev_list (Evs_nil ⟨by simp, fin _ _ [] (by rw [hn]; rfl)⟩), fun h => by cases h⟩))))))
    | some x =>
      rw [hp] at hn
      exact Ex_cons (Ex_ret (Ev_ifexp (EvB.of_cmp (Ev_name rfl (Ev_name rfl (Op2_isObj false (.inr ⟨hft x, rfl⟩) ⟨_, rfl, (fun h => by cases h), fun _ => Ev_list (Evs_cons (Ev_name rfl (Evs_nil ⟨by simp [sizeLine_eq], fin _ _ [] (by rw [hn]; rfl)⟩)))⟩))))))
  have h1 : m ≠ 1 := ne_of_beq_false h
  clear hA h
  refine Ex_nil (Ex_cons (Ex_try (Ex_cons (Ex_assign (.inl rfl) (Ev_bi T.len rfl rfl rfl (Evs_cons (Ev_name rfl (Evs_nil (CallB_len hL (by rw [List.length_map]; exact lt64_20 h64) (Ex_nil ?_))))))))))
  rw [List.length_map]
  refine Ex_cons (Ex_if (EvB.of_cmp (Ev_name rfl (Ev_name rfl (Op2_ge ⟨_, rfl, fun h => ?_, fun h => ?_⟩)))))
  · have h2 : (xs.length : Int) ≤ m := of_decide_eq_true h
    refine Ex_cons (Ex_ret (Ev_upto (xs := (psortK lt id xs).map f) (n := m) (Ev_callN (Ev_glob T.sorted rfl rfl rfl ⟨.inr (.inr ⟨_, rfl⟩), EvArgs_kw [("key" : Str)] (Evs_cons (Ev_name rfl (Evs_nil (EvKs_cons (Ev_name rfl (EvKs_nil ⟨rfl, CallB_sorted_none SF SW hL h64 (Ev_name rfl ⟨rfl, by walk_at "n", .fl, ?_, fin _ _ [] ?_⟩)⟩))))))⟩))))
    · rw [List.length_map, psortK_length SW h64]; exact lt64_20 h64
    · rw [hB h1 h2, List.map_take]; rfl
  have h2 : ¬ (xs.length : Int) ≤ m := of_decide_eq_false h
  have hC := hC h1 h2
  have hD := hD h1 h2
  clear hB h
  refine Ex_nil (Ex_nil ?_)
  have hmx := toNat_le h2
  refine Ex_cons (Ex_if (EvB.of_cmp (Ev_name rfl (Ev_none (Op2_isNone true (.inl ⟨rfl, rfl⟩) ⟨_, rfl, fun _ => ?_, fun h => by cases h⟩)))))
  refine Ex_iter (.inl rfl) T.iter rfl rfl rfl (Ev_name rfl ⟨rfl, hL, fun I l => ?_⟩)
  refine ExL_zip (k := 20) (m := m) (xs := xs.map f) [] [] (NzI (nsP lt ltg) fg xs ml) rfl rfl ⟨(fun _ _ h => nomatch h), (fun _ _ h => nomatch h), rfl⟩ (by decide) (by decide) T.zip T.range rfl rfl rfl rfl rfl rfl hm0 hm (by rw [List.length_map]; exact hmx) (by rw [List.length_map]; exact lt64_19 h64) ?_ (by exact NzI.mk 0) ?_ ?_
  · rintro i _ _ ⟨i⟩; exact hL
  · rintro i x _ _ hx ⟨i⟩ _ L D0 s0' X0' Z0' hD0
    obtain ⟨e, he, him, rfl⟩ := numb_map hx
    refine ⟨_, Ext.nil _, Asg_tup2 (.inl rfl) (.inl rfl), ?_⟩
    refine Ev_tuple (Evs_cons (Ev_name rfl (Evs_cons (Ev_name rfl (Evs_nil ⟨by simp [sizeLine_eq], .yes _ _ rfl ?_⟩)))))
    have e1 := NS.init_snoc (N := (nsP lt ltg)) he
    have e2 : ((NS.init (nsP lt ltg) i xs).map fg ++ [fg (e, i)] : List D) = (NS.init (nsP lt ltg) (i + 1) xs).map fg := by rw [e1, List.map_append]; rfl
    rw [hfg] at e2
    rw [e2]
    exact .mk _
  rintro _ _ Da hkeys ⟨_⟩ hDX hDk
  have hL' : ∀ zs, LsOf ((Da, zs) :: ml) d (xs.map f) := fun zs => hL.tl
  have hnl := NS.init_length (N := (nsP lt ltg)) hmx
  have hn20 : ((NS.init (nsP lt ltg) m.toNat xs).map fg).length < 2 ^ 62 := by rw [List.length_map, hnl]; exact lt64_62 (Nat.lt_of_le_of_lt hmx h64)
  by_cases hm1 : m.toNat = 0
  · refine ExL.of (Ex_cons (Ex_if (EvB.not (EvB.plain (Ev_name rfl (Op1B_list .hd hn20 ⟨fun h => ?_, fun h => ?_⟩))))))
    · have e0 : NS.init (nsP lt ltg) m.toNat xs = [] := List.length_eq_zero_iff.mp (hnl.trans hm1)
      refine Ex_cons (Ex_retL rfl hDX (fin _ _ [] ?_))
      rw [e0, hC hm1]; rfl
    · exact absurd (List.length_eq_zero_iff.mp (hnl.trans hm1)) (isE h)
  refine ExL_cons fun _ _ _ => Ex_if (EvB.not (EvB.plain (Ev_name rfl (Op1B_list .hd hn20 ⟨fun h => ?_, fun h => Ex_nil ⟨_, Ext.refl _, ?_⟩⟩))))
  · exact absurd (hnl.symm.trans (List.length_eq_zero_iff.mpr (not_isN h))) hm1
  have hD := hD hm1
  have hm64 : m.toNat < 64 := Nat.lt_of_le_of_lt hmx h64
  refine ExL_cons fun _ _ _ => Ex_expr (Ev_def T.h7 rfl rfl rfl (Evs_cons (Ev_name rfl (Evs_nil (CallB_one (.head _) (Fn_heapify_max T hltg (by rw [hnl]; exact lt64_19 hm64)) (by walk_at "n") ⟨_, Ext.refl _, ?_⟩)))))
  rw [lset_cons_eq hDk]
  have hS := NS.S_at (N := (nsP lt ltg)) (m := m.toNat) (xs := xs)
  have hSl := fun i => NS.S_length (N := (nsP lt ltg)) (i := i) hmx
  clear hnl hn20 hC
  obtain ⟨z, zs, hz⟩ := NS.ne_nil ((congrArg (fun q => q.1.length) hS).symm.trans (hSl _)) hm1
  have hz : hify (fun x p => ltg p x) (NS.init (nsP lt ltg) m.toNat xs) = z :: zs := hz
  have hS : NS.S (nsP lt ltg) m.toNat xs m.toNat = (hify (fun x p => ltg p x) (NS.init (nsP lt ltg) m.toNat xs), m.toNat) := hS
  rw [hz] at hS ⊢
  have hzl : (z :: zs).length < 64 := by have := hSl m.toNat; rw [hS] at this; exact Nat.lt_of_le_of_lt (Nat.le_of_eq this) hm64
  refine ExL_cons fun _ _ _ => Ex_assign (.inl rfl) (Ev_sub (Ev_sub (Ev_name rfl (Ev_int (Op2_itemF (i := 0) (x := z) .hd rfl (lt64_20 hzl) ?_)))))
  rw [hfg]
  refine Ev_int (Op2_itemT (by decide) rfl (by show 2 < 2 ^ 62; decide) ⟨_, Ext.refl _, ?_⟩)
  refine ExL_cons fun _ _ _ => Ex_assign (.inl rfl) (Ev_name rfl ⟨_, Ext.refl _, ?_⟩)
  refine ExL_cons fun _ _ _ => Ex_assign (.inl rfl) (Ev_glob T.h6.gl rfl rfl rfl ⟨_, Ext.refl _, ?_⟩)
  refine ExL_for (k := 20) (xs := xs.map f) (NsI (nsP lt ltg) f fg m.toNat xs Da [] ml) _ ?_ rfl ?_
      (.mk _ z zs _ (Nat.le_refl _) hmx hS) (by rw [List.length_map]; exact hmx) ?_ ?_
  · exact Ext.cons rfl (Ext.cons rfl (Ext.cons (congrArg (fun q => some (D.int q)) (toNat_back hm1).symm) (Ext.cons rfl (Ext.nil _))))
  · rintro i _ _ ⟨z, zs, o⟩; exact hL' _
  · rintro i x _ _ hx ⟨z, zs, o, hi1, hi2, hfo⟩ s0' X0' Z0'
    rw [List.getElem?_map] at hx
    obtain ⟨e, he, rfl⟩ := Option.map_eq_some_iff.mp hx
    have hil : i < xs.length := (List.getElem?_eq_some_iff.mp he).1
    have hlen : (z :: zs).length < 64 := by have := hSl i; rw [hfo] at this; exact Nat.lt_of_le_of_lt (Nat.le_of_eq this) hm64
    refine ⟨_, Asg_name (.inl rfl), ?_⟩
    refine Ex_cons (Ex_if (EvB.of_cmp (Ev_name rfl (Ev_name rfl (Op2_ltF hlt ⟨_, rfl, fun hl => ?_, fun hl => ?_⟩)))))
    · obtain ⟨z', zs', hz', hS'⟩ := NS.S_take hi1 he hfo hl
      have hz' : hrepl (fun x p => ltg p x) zs (e, o) = z' :: zs' := hz'
      have hlz : (z' :: zs').length < 2 ^ 20 := by have := hSl (i + 1); rw [hS'] at this; exact lt64_20 (Nat.lt_of_le_of_lt (Nat.le_of_eq this) hm64)
      obtain ⟨o6, ho6, hd6⟩ := T.h6.at_
      refine Ex_cons (Ex_expr (Ev_callN (Ev_name rfl ⟨.inl ⟨_, _, _, rfl, ho6, hd6⟩, EvArgs_plain (Evs_cons (Ev_name rfl (Evs_cons (Ev_tuple (Evs_cons (Ev_name rfl (Evs_cons (Ev_name rfl (Evs_nil ⟨by simp [sizeLine_eq], Evs_nil ?_⟩)))))))))⟩)))
      rw [← hfg (e, o)]
      refine CallB_one (.head _) (Fn_heapreplace_max T hltg (z := z) (zs := zs) (x := (e, o)) (lt64_19 (Nat.lt_trans (Nat.lt_succ_self _) hlen))) (by walk_at "n") ?_
      rw [lset_cons_eq hDk, hz']
      refine Ex_cons (Ex_assignT (Ev_sub (Ev_name rfl (Ev_int (Op2_itemF (i := 0) (x := z') .hd rfl hlz ?_)))))
      rw [hfg]
      refine ⟨_, Asg_tup2 (.inl rfl) (.inl rfl), ?_⟩
      refine Ex_cons (Ex_aug (.inl rfl) rfl (Ev_int ⟨rfl, ?_⟩))
      exact Ex_nil (Ex_nil ⟨_, Ext.cons rfl (Ext.cons rfl (Ext.cons rfl (Ext.cons rfl (Ext.nil _)))), .mk _ _ _ _ (Nat.le_succ_of_le hi1) hil (hS')⟩)
    · exact Ex_nil (Ex_nil ⟨_, Ext.cons rfl (Ext.cons rfl (Ext.cons rfl (Ext.cons rfl (Ext.nil _)))), .mk _ _ _ _ (Nat.le_succ_of_le hi1) hil (NS.S_skip hi1 he hfo hl)⟩)
  · rw [List.length_map]
    rintro _ _ ⟨z, zs, o, hi1, hi2, hfo⟩
    have hlen := hSl xs.length
    rw [hfo] at hD hlen
    have hlen : (z :: zs).length < 64 := Nat.lt_of_le_of_lt (Nat.le_of_eq hlen) hm64
    refine Ex_cons (Ex_expr (Ev_meth "list.sort" slot_list_sort F.type_list_sort (Ev_name rfl ⟨_, .hd, EvArgs_nil (CallB_sort SFg SWg (.head _) hlen ?_)⟩)))
    rw [lset_cons_eq hDk]
    have hsl := psortK_length (κ := id) SWg hlen
    have hD : R = (psortK ltg id (z :: zs)).map (fun p : α × Nat => p.1) := hD
    generalize psortK ltg id (z :: zs) = L at hsl hD
    refine Ex_cons (Ex_ret (Ev_comp (k := 20) (L.map fg) (fun ls => LsOf ls (.raw (.ref Da)) (L.map fg)) [] [] (NcI f (fun p : α × Nat => p.1) fg L Da ml) rfl ⟨(fun _ _ h => nomatch h), (fun _ _ h => nomatch h), rfl⟩ (by decide) (by decide)
      (EvI_list _ (Ev_name rfl ⟨rfl, .hd, .mk 0, ?_⟩)) (by rw [List.length_map, hsl]; exact lt64_19 hlen) ?_ (fun _ _ h => h.tl) ?_))
    · rintro i x _ _ hx ⟨_⟩ _ L' D' s0' X0' Z0' hD'
      rw [List.getElem?_map] at hx
      obtain ⟨p, hp, rfl⟩ := Option.map_eq_some_iff.mp hx
      rw [hfg]
      refine ⟨_, Ext.nil _, Asg_tup2 (.inl rfl) (.inl rfl), ?_⟩
      refine Ev_name rfl (.yes _ _ rfl ?_)
      have e2 : ((L.take i).map (fun q => f ((fun p : α × Nat => p.1) q)) ++ [f ((fun p : α × Nat => p.1) p)] : List D) = (L.take (i + 1)).map (fun q => f ((fun p : α × Nat => p.1) q)) := by rw [take_snoc hp, List.map_append]; rfl
      refine Eq.mp (congrArg (fun l => NcI f (fun p : α × Nat => p.1) fg L Da ml (i + 1) l _) e2.symm) (.mk _)
    · rintro i _ _ ⟨_⟩; exact .hd
    · rw [List.length_map]
      rintro _ _ _ ⟨_⟩
      refine fin _ _ [_] ?_
      rw [hD, List.take_length, List.map_map]; rfl
end Mine
end

noncomputable section
set_option genSizeOf false
set_option genInjectivity false
set_option Elab.async false
set_option linter.unusedVariables false
set_option maxRecDepth 10000
namespace Mine
open PySem PySem.Calls PyProof.Rows PySem.W

variable {α β γ : Type}
def nsK (lt : β → β → Bool) (ltg : β × Nat × α → β × Nat × α → Bool) (κ : α → β) : NS α β (β × Nat × α) := ⟨lt, ltg, κ, fun p => p.1, fun x i => (κ x, i, x), fun p => p.2.2⟩
theorem Fn_nsmallest_key {g : Gx} (T : TX g) {f : α → D} {gk : β → D} {κ : α → β} {lt : β → β → Bool} {fg : β × Nat × α → D} {ltg : β × Nat × α → β × Nat × α → Bool} {fd : FuncData} (hkey : ∀ x, KeyIs (.lam fd) (f x) (gk (κ x))) (hlt : LtF gk lt) (SF : SortF gk lt) (SW : SwoF lt) (hltg : LtF fg ltg) (SFg : SortF fg ltg) (SWg : SwoF ltg) (hfg : ∀ p, fg p = .tup [gk p.1, .int (p.2.1 : Nat), f p.2.2]) (hft : ∀ a, ∃ l, f a = .tup l)
    {d : D} {m : Int} {xs : List α} {ml : Ls} (hL : LsOf ml d (xs.map f)) (h64 : xs.length < 64) (hm0 : -(2^62) ≤ m) (hm : m < 2^62) :
    Fn g 23 (.ref (faOf 12)) [.int m, d] [("key", .lam fd)] ml (Is (.fl ((nsAll lt ltg κ (fun p => p.1) (fun x i => (κ x, i, x)) (fun p => p.2.2) m xs).map f)) ml) := by
  refine Fn_i T.h12 T.lim (ρ0 := [("n", .int m), ("iterable", d), ("key", .lam fd)]) ?_ ["n", "iterable", "key"] [("key", 0)] rfl (by kernel_rfl) (fun _ => rfl) rfl fun s0 X0 PF fin => ?_
  · rintro s X vs kvs hk _ ⟨v0, _, rfl, r0, v1, _, rfl, r1, rfl⟩ rk
    obtain ⟨v, rfl, r4⟩ := rk.one'
    obtain ⟨od, nd, h1, h2⟩ := T.hd12
    exact ⟨[("n", v0), ("iterable", v1), ("key", v)], BindsTo.of_defaults rfl (hk _ _ h1) h2 rfl rfl, rfl, v0, _, rfl, r0, v1, _, rfl, r1, v, _, rfl, r4, rfl⟩
  have hA := NS.all_one (N := (nsK lt ltg κ)) (n := m) (xs := xs)
  have hB := NS.all_le (N := (nsK lt ltg κ)) (n := m) (xs := xs)
  have hC := NS.all_nil (N := (nsK lt ltg κ)) (n := m) (xs := xs)
  have hD := NS.all_big (N := (nsK lt ltg κ)) (n := m) (xs := xs)
  have fin : ∀ d' ρ extra, d' = .fl ((NS.all (nsK lt ltg κ) m xs).map f) → PF (.ret d') ρ (extra ++ ml) := fun d' ρ extra => fin (.ret d') ρ extra
  generalize NS.all (nsK lt ltg κ) m xs = R at hA hB hC hD fin
  refine Ex_cons (Ex_if (EvB.of_cmp (Ev_name rfl (Ev_int (Op2_eq ⟨_, rfl, fun h => ?_, fun h => ?_⟩)))))
  · have hn := hA (eq_of_beq h)
    clear hA hB hC hD
    refine Ex_iter (.inl rfl) T.iter rfl rfl rfl (Ev_name rfl ⟨rfl, hL, fun I l => ?_⟩)
    refine ExL_cons fun _ _ _ => Ex_assign (.inl rfl) (Ev_object T.object rfl rfl rfl fun a => ⟨_, Ext.refl _, ?_⟩)
    refine ExL_min (k := 8) (κ := κ) hlt (.inr ⟨⟨_, rfl⟩, hkey⟩) T.lim hL (.inl rfl) T.min rfl rfl rfl rfl rfl rfl ?_
    have hn : R = (pmin lt κ xs).toList := hn
    cases hp : pmin lt κ xs with
    | none =>
      rw [hp] at hn
      exact Ex_cons (Ex_ret (Ev_ifexp (EvB.of_cmp (Ev_name rfl (Ev_name rfl (Op2_isObj true (.inl ⟨rfl, rfl⟩) ⟨_, rfl, fun _ => Ev_list (Evs_nil ⟨by simp, fin _ _ [] (by rw [hn]; rfl)⟩), fun h => by cases h⟩))))))
    | some x =>
      rw [hp] at hn
      exact Ex_cons (Ex_ret (Ev_ifexp (EvB.of_cmp (Ev_name rfl (Ev_name rfl (Op2_isObj false (.inr ⟨hft x, rfl⟩) ⟨_, rfl, (fun h => by cases h), fun _ => Ev_list (Evs_cons (Ev_name rfl (Evs_nil ⟨by simp [sizeLine_eq], fin _ _ [] (by rw [hn]; rfl)⟩)))⟩))))))
  have h1 : m ≠ 1 := ne_of_beq_false h
  clear hA h
  refine Ex_nil (Ex_cons (Ex_try (Ex_cons (Ex_assign (.inl rfl) (Ev_bi T.len rfl rfl rfl (Evs_cons (Ev_name rfl (Evs_nil (CallB_len hL (by rw [List.length_map]; exact lt64_20 h64) (Ex_nil ?_))))))))))
  rw [List.length_map]
  refine Ex_cons (Ex_if (EvB.of_cmp (Ev_name rfl (Ev_name rfl (Op2_ge ⟨_, rfl, fun h => ?_, fun h => ?_⟩)))))
  · have h2 : (xs.length : Int) ≤ m := of_decide_eq_true h
    refine Ex_cons (Ex_ret (Ev_upto (xs := (psortK lt κ xs).map f) (n := m) (Ev_callN (Ev_glob T.sorted rfl rfl rfl ⟨.inr (.inr ⟨_, rfl⟩), EvArgs_kw [("key" : Str)] (Evs_cons (Ev_name rfl (Evs_nil (EvKs_cons (Ev_name rfl (EvKs_nil ⟨rfl, CallB_sorted_key SF SW hkey T.lim hL h64 (Ev_name rfl ⟨rfl, by walk_at "n", .fl, ?_, fin _ _ [] ?_⟩)⟩))))))⟩))))
    · rw [List.length_map, psortK_length SW h64]; exact lt64_20 h64
    · rw [hB h1 h2, List.map_take]; rfl
  have h2 : ¬ (xs.length : Int) ≤ m := of_decide_eq_false h
  have hC := hC h1 h2
  have hD := hD h1 h2
  clear hB h
  refine Ex_nil (Ex_nil ?_)
  have hmx := toNat_le h2
  refine Ex_cons (Ex_if (EvB.of_cmp (Ev_name rfl (Ev_none (Op2_isNone false (.inr ⟨.inr (.inr (.inl ⟨_, rfl⟩)), rfl⟩) ⟨_, rfl, (fun h => by cases h), fun _ => Ex_nil ?_⟩)))))
  refine Ex_iter (.inl rfl) T.iter rfl rfl rfl (Ev_name rfl ⟨rfl, hL, fun I l => ?_⟩)
  refine ExL_zip (k := 20) (m := m) (xs := xs.map f) [("key", s0.heap.objs.size + 1)] [("key", .lam fd)] (NzI (nsK lt ltg κ) fg xs ml) rfl rfl (Sees.one rfl rfl rfl rfl rfl) (by decide) (by decide) T.zip T.range rfl rfl rfl rfl rfl rfl hm0 hm (by rw [List.length_map]; exact hmx) (by rw [List.length_map]; exact lt64_19 h64) ?_ (by exact NzI.mk 0) ?_ ?_
  · rintro i _ _ ⟨i⟩; exact hL
  · rintro i x _ _ hx ⟨i⟩ _ L D0 s0' X0' Z0' hD0
    obtain ⟨e, he, him, rfl⟩ := numb_map hx
    refine ⟨_, Ext.cons rfl (Ext.nil _), Asg_tup2 (.inl rfl) (.inl rfl), ?_⟩
    refine Ev_tuple (Evs_cons (Ev_key (k := 12) rfl ⟨_, rfl⟩ T.lim (Ev_name rfl ⟨rfl, hkey e, Evs_cons (Ev_name rfl (Evs_cons (Ev_name rfl (Evs_nil ⟨by simp [sizeLine_eq], .yes _ _ rfl ?_⟩))))⟩)))
    have e1 := NS.init_snoc (N := (nsK lt ltg κ)) he
    have e2 : ((NS.init (nsK lt ltg κ) i xs).map fg ++ [fg (κ e, i, e)] : List D) = (NS.init (nsK lt ltg κ) (i + 1) xs).map fg := by rw [e1, List.map_append]; rfl
    rw [hfg] at e2
    rw [e2]
    exact .mk _
  rintro _ _ Da hkeys ⟨_⟩ hDX hDk
  have hL' : ∀ zs, LsOf ((Da, zs) :: ml) d (xs.map f) := fun zs => hL.tl
  have hnl := NS.init_length (N := (nsK lt ltg κ)) hmx
  have hn20 : ((NS.init (nsK lt ltg κ) m.toNat xs).map fg).length < 2 ^ 62 := by rw [List.length_map, hnl]; exact lt64_62 (Nat.lt_of_le_of_lt hmx h64)
  by_cases hm1 : m.toNat = 0
  · refine ExL.of (Ex_cons (Ex_if (EvB.not (EvB.plain (Ev_name rfl (Op1B_list .hd hn20 ⟨fun h => ?_, fun h => ?_⟩))))))
    · have e0 : NS.init (nsK lt ltg κ) m.toNat xs = [] := List.length_eq_zero_iff.mp (hnl.trans hm1)
      refine Ex_cons (Ex_retL rfl hDX (fin _ _ [] ?_))
      rw [e0, hC hm1]; rfl
    · exact absurd (List.length_eq_zero_iff.mp (hnl.trans hm1)) (isE h)
  refine ExL_cons fun _ _ _ => Ex_if (EvB.not (EvB.plain (Ev_name rfl (Op1B_list .hd hn20 ⟨fun h => ?_, fun h => Ex_nil ⟨_, Ext.refl _, ?_⟩⟩))))
  · exact absurd (hnl.symm.trans (List.length_eq_zero_iff.mpr (not_isN h))) hm1
  have hD := hD hm1
  have hm64 : m.toNat < 64 := Nat.lt_of_le_of_lt hmx h64
  refine ExL_cons fun _ _ _ => Ex_expr (Ev_def T.h7 rfl rfl rfl (Evs_cons (Ev_name rfl (Evs_nil (CallB_one (.head _) (Fn_heapify_max T hltg (by rw [hnl]; exact lt64_19 hm64)) (by walk_at "n") ⟨_, Ext.refl _, ?_⟩)))))
  rw [lset_cons_eq hDk]
  have hS := NS.S_at (N := (nsK lt ltg κ)) (m := m.toNat) (xs := xs)
  have hSl := fun i => NS.S_length (N := (nsK lt ltg κ)) (i := i) hmx
  clear hnl hn20 hC
  obtain ⟨z, zs, hz⟩ := NS.ne_nil ((congrArg (fun q => q.1.length) hS).symm.trans (hSl _)) hm1
  have hz : hify (fun x p => ltg p x) (NS.init (nsK lt ltg κ) m.toNat xs) = z :: zs := hz
  have hS : NS.S (nsK lt ltg κ) m.toNat xs m.toNat = (hify (fun x p => ltg p x) (NS.init (nsK lt ltg κ) m.toNat xs), m.toNat) := hS
  rw [hz] at hS ⊢
  have hzl : (z :: zs).length < 64 := by have := hSl m.toNat; rw [hS] at this; exact Nat.lt_of_le_of_lt (Nat.le_of_eq this) hm64
  refine ExL_cons fun _ _ _ => Ex_assign (.inl rfl) (Ev_sub (Ev_sub (Ev_name rfl (Ev_int (Op2_itemF (i := 0) (x := z) .hd rfl (lt64_20 hzl) ?_)))))
  rw [hfg]
  refine Ev_int (Op2_itemT (by decide) rfl (by show 3 < 2 ^ 62; decide) ⟨_, Ext.refl _, ?_⟩)
  refine ExL_cons fun _ _ _ => Ex_assign (.inl rfl) (Ev_name rfl ⟨_, Ext.refl _, ?_⟩)
  refine ExL_cons fun _ _ _ => Ex_assign (.inl rfl) (Ev_glob T.h6.gl rfl rfl rfl ⟨_, Ext.refl _, ?_⟩)
  refine ExL_for (k := 20) (xs := xs.map f) (NsI (nsK lt ltg κ) gk fg m.toNat xs Da [("key", .lam fd)] ml) _ ?_ rfl ?_
      (.mk _ z zs _ (Nat.le_refl _) hmx hS) (by rw [List.length_map]; exact hmx) ?_ ?_
  · exact Ext.cons rfl (Ext.cons rfl (Ext.cons (congrArg (fun q => some (D.int q)) (toNat_back hm1).symm) (Ext.cons rfl (Ext.cons rfl (Ext.nil _)))))
  · rintro i _ _ ⟨z, zs, o⟩; exact hL' _
  · rintro i x _ _ hx ⟨z, zs, o, hi1, hi2, hfo⟩ s0' X0' Z0'
    rw [List.getElem?_map] at hx
    obtain ⟨e, he, rfl⟩ := Option.map_eq_some_iff.mp hx
    have hil : i < xs.length := (List.getElem?_eq_some_iff.mp he).1
    have hlen : (z :: zs).length < 64 := by have := hSl i; rw [hfo] at this; exact Nat.lt_of_le_of_lt (Nat.le_of_eq this) hm64
    refine ⟨_, Asg_name (.inl rfl), ?_⟩
    refine Ex_cons (Ex_assign (.inl rfl) (Ev_key (k := 12) rfl ⟨_, rfl⟩ T.lim (Ev_name rfl ⟨rfl, hkey e, ?_⟩)))
    refine Ex_cons (Ex_if (EvB.of_cmp (Ev_name rfl (Ev_name rfl (Op2_ltF hlt ⟨_, rfl, fun hl => ?_, fun hl => ?_⟩)))))
    · obtain ⟨z', zs', hz', hS'⟩ := NS.S_take hi1 he hfo hl
      have hz' : hrepl (fun x p => ltg p x) zs (κ e, o, e) = z' :: zs' := hz'
      have hlz : (z' :: zs').length < 2 ^ 20 := by have := hSl (i + 1); rw [hS'] at this; exact lt64_20 (Nat.lt_of_le_of_lt (Nat.le_of_eq this) hm64)
      obtain ⟨o6, ho6, hd6⟩ := T.h6.at_
      refine Ex_cons (Ex_expr (Ev_callN (Ev_name rfl ⟨.inl ⟨_, _, _, rfl, ho6, hd6⟩, EvArgs_plain (Evs_cons (Ev_name rfl (Evs_cons (Ev_tuple (Evs_cons (Ev_name rfl (Evs_cons (Ev_name rfl (Evs_cons (Ev_name rfl (Evs_nil ⟨by simp [sizeLine_eq], Evs_nil ?_⟩)))))))))))⟩)))
      rw [← hfg (κ e, o, e)]
      refine CallB_one (.head _) (Fn_heapreplace_max T hltg (z := z) (zs := zs) (x := (κ e, o, e)) (lt64_19 (Nat.lt_trans (Nat.lt_succ_self _) hlen))) (by walk_at "n") ?_
      rw [lset_cons_eq hDk, hz']
      refine Ex_cons (Ex_assignT (Ev_sub (Ev_name rfl (Ev_int (Op2_itemF (i := 0) (x := z') .hd rfl hlz ?_)))))
      rw [hfg]
      refine ⟨_, Asg_tup3 (.inl rfl) (.inl rfl) (.inl rfl), ?_⟩
      refine Ex_cons (Ex_aug (.inl rfl) rfl (Ev_int ⟨rfl, ?_⟩))
      exact Ex_nil (Ex_nil ⟨_, Ext.cons rfl (Ext.cons rfl (Ext.cons rfl (Ext.cons rfl (Ext.cons rfl (Ext.nil _))))), .mk _ _ _ _ (Nat.le_succ_of_le hi1) hil (hS')⟩)
    · exact Ex_nil (Ex_nil ⟨_, Ext.cons rfl (Ext.cons rfl (Ext.cons rfl (Ext.cons rfl (Ext.cons rfl (Ext.nil _))))), .mk _ _ _ _ (Nat.le_succ_of_le hi1) hil (NS.S_skip hi1 he hfo hl)⟩)
  · rw [List.length_map]
    rintro _ _ ⟨z, zs, o, hi1, hi2, hfo⟩
    have hlen := hSl xs.length
    rw [hfo] at hD hlen
    have hlen : (z :: zs).length < 64 := Nat.lt_of_le_of_lt (Nat.le_of_eq hlen) hm64
    refine Ex_cons (Ex_expr (Ev_meth "list.sort" slot_list_sort F.type_list_sort (Ev_name rfl ⟨_, .hd, EvArgs_nil (CallB_sort SFg SWg (.head _) hlen ?_)⟩)))
    rw [lset_cons_eq hDk]
    have hsl := psortK_length (κ := id) SWg hlen
    have hD : R = (psortK ltg id (z :: zs)).map (fun p : β × Nat × α => p.2.2) := hD
    generalize psortK ltg id (z :: zs) = L at hsl hD
    refine Ex_cons (Ex_ret (Ev_comp (k := 20) (L.map fg) (fun ls => LsOf ls (.raw (.ref Da)) (L.map fg)) [] [] (NcI f (fun p : β × Nat × α => p.2.2) fg L Da ml) rfl ⟨(fun _ _ h => nomatch h), (fun _ _ h => nomatch h), rfl⟩ (by decide) (by decide)
      (EvI_list _ (Ev_name rfl ⟨rfl, .hd, .mk 0, ?_⟩)) (by rw [List.length_map, hsl]; exact lt64_19 hlen) ?_ (fun _ _ h => h.tl) ?_))
    · rintro i x _ _ hx ⟨_⟩ _ L' D' s0' X0' Z0' hD'
      rw [List.getElem?_map] at hx
      obtain ⟨p, hp, rfl⟩ := Option.map_eq_some_iff.mp hx
      rw [hfg]
      refine ⟨_, Ext.nil _, Asg_tup3 (.inl rfl) (.inl rfl) (.inl rfl), ?_⟩
      refine Ev_name rfl (.yes _ _ rfl ?_)
      have e2 : ((L.take i).map (fun q => f ((fun p : β × Nat × α => p.2.2) q)) ++ [f ((fun p : β × Nat × α => p.2.2) p)] : List D) = (L.take (i + 1)).map (fun q => f ((fun p : β × Nat × α => p.2.2) q)) := by rw [take_snoc hp, List.map_append]; rfl
      refine Eq.mp (congrArg (fun l => NcI f (fun p : β × Nat × α => p.2.2) fg L Da ml (i + 1) l _) e2.symm) (.mk _)
    · rintro i _ _ ⟨_⟩; exact .hd
    · rw [List.length_map]
      rintro _ _ _ ⟨_⟩
      refine fin _ _ [_] ?_
      rw [hD, List.take_length, List.map_map]; rfl
end Mine
end

noncomputable section
set_option genSizeOf false
set_option genInjectivity false
set_option Elab.async false
set_option linter.unusedVariables false
set_option maxRecDepth 10000
namespace Mine
open PySem PySem.Calls PyProof.Rows PySem.W

/- a datum that reads as a list -/
def LsR (c : Cx) (ls : Ls) (d : D) (xs : List D) : Prop := ∀ ρ s v, St c ρ ls s → Rd (c.X ls) s.heap v d → ∃ a vs, v = .ref a ∧ s.heap.IsList a vs ∧ RdL (c.X ls) s.heap vs.toList xs

theorem ints_rd {X : List Addr} {h : Heap} : ∀ {vs : List Value} {ns : List Int}, IntsAre vs ns → RdL X h vs (ns.map D.int) := by
  intro vs ns hi
  induction ns generalizing vs with
  | nil =>
    have := hi.length
    cases vs with
    | nil => rfl
    | cons _ _ => simp at this
  | cons n ns ih =>
    have hl := hi.length
    cases vs with
    | nil => simp at hl
    | cons v vs =>
      obtain ⟨t, ht⟩ := hi.get 0 n rfl
      simp at ht
      refine ⟨v, vs, rfl, ⟨t, ht⟩, ih ?_⟩
      first
      | exact hi.tail
      | exact hi.2
      | (cases hi; assumption)

section
variable {c : Cx} {k : Nat} {ρ : Rho} {ls : Ls} {P : D → Ls → Prop} {PB : Bool → Ls → Prop} {PF : Fl → Rho → Ls → Prop}
theorem LsR.top {a : Addr} {vs : List Value} {ns : List Int} (h : c.G.IsList a vs.toArray) (hi : IntsAre vs ns) : LsR c ls (.raw (.ref a)) (ns.map D.int) := by
  rintro ρ s v S rfl
  obtain ⟨o, h1, h2⟩ := h
  exact ⟨a, vs.toArray, rfl, ⟨o, S.fm.top _ _ h1, h2⟩, by simpa using ints_rd hi⟩

theorem Ev_sliceR {value : Expr} {lower upper step : Option Expr} {p pos : Pos} {xs ys : List D} 
    (h : Ev c k (eval value c.env) ρ ls (fun d ls1 => Part c k lower ρ ls1 (fun lo ls2 => Part c k upper ρ ls2 (fun hi ls3 => Part c k step ρ ls3 (fun st ls4 => LsR c ls4 d xs ∧ xs.length < 2 ^ 20 ∧ st ≠ some 0 ∧
      (∀ X h (vs : Array Value), RdL X h vs.toList xs → RdL X h (slicePick vs lo hi st).toList ys) ∧ P (.fl ys) ls4))))) :
    Ev c k (eval (.Subscript value (.Slice lower upper step p) pos) c.env) ρ ls P := fun A s hA S => by
  refine Subscript_ (wpAny_mono (h A s hA S) ?_ fun _ _ x => x)
  rintro v1 s1 ⟨d1, ls1, k1, S1, st1, r1, h1⟩
  refine wpAny_Slice (wpAny_mono (h1 A s1 hA S1) ?_ fun _ _ x => x)
  rintro vl s2 ⟨lo, ls2, k2, S2, st2, p2, h2⟩
  refine wpAny_mono (h2 A s2 hA S2) ?_ fun _ _ x => x
  rintro vu s3 ⟨hi, ls3, k3, S3, st3, p3, h3⟩
  refine wpAny_mono (h3 A s3 hA S3) ?_ fun _ _ x => x
  rintro vs s4 ⟨st, ls4, k4, S4, st4, p4, hL, hb, hst, hpick, hp⟩
  have e1 := Cx.X_keys (c := c) k1
  have e2 := Cx.X_keys (c := c) (k2.trans k1)
  have e3 := Cx.X_keys (c := c) (k3.trans (k2.trans k1))
  have kk := k4.trans (k3.trans (k2.trans k1))
  have e4 := Cx.X_keys (c := c) kk
  rw [e1] at st2
  rw [e2] at st3
  rw [e3] at st4
  have stt := st2.trans (st3.trans st4)
  have r4 := Rd.stay stt _ _ r1
  rw [← e4] at r4
  obtain ⟨a, ws, rfl, hl, hr⟩ := hL _ _ _ S4 r4
  have S5 := S4.ext (s' := { s4 with heap := s4.heap.push { cls := .type "slice", data := .fields #[vl, vu, vs] } }) (Keep.push _ _) rfl rfl
  have hl5 : (s4.heap.push { cls := .type "slice", data := .fields #[vl, vu, vs] }).IsList a ws := by
    obtain ⟨o, h1, h2⟩ := hl
    exact ⟨o, Keep.push _ _ _ _ h1, h2⟩
  have hr5 := RdL.stay (Keep.push s4.heap { cls := .type "slice", data := .fields #[vl, vu, vs] }).stay _ _ hr
  have fin : wpAny c.M A (getItem (.ref a) (.ref s4.heap.objs.size)) (Post c ρ ls s.heap P) No { s4 with heap := s4.heap.push { cls := .type "slice", data := .fields #[vl, vu, vs] } } := by
    refine wpAny_getItem_list_slice hl5 (Heap.IsSliceOf.new ..) p2 p3 p4 hst ?_ (sz_line hr hb).1
    refine ⟨.fl ys, ls4, kk, S5.ext (Keep.push _ _) rfl rfl, (st1.trans stt).trans ((Keep.push _ _).stay.trans (Keep.push _ _).stay), ?_, hp⟩
    have := S5.newF (hpick _ _ _ hr5)
    rw [Array.toArray_toList, e4] at this
    exact this
  have hT := hl5.typeIs (s := { s4 with heap := s4.heap.push { cls := .type "slice", data := .fields #[vl, vu, vs] } })
  unfold subscriptTail
  refine wpAny_bind ?_
  rw [getitemInPython_of_ne hT.not_modules]
  refine wpAny_bind (wpAny_specialOf hT slot_list_getitem.lookup ?_)
  have fin2 : wpAny c.M A (subscripted (.Slice lower upper step p) false (.ref a) (.ref s4.heap.objs.size)) (fun r s₃ => wpAny c.M A (letTemporaryGo value (.ref a) r >>= fun _ => pure r) (Post c ρ ls s.heap P) No s₃) No
      { s4 with heap := s4.heap.push { cls := .type "slice", data := .fields #[vl, vu, vs] } } := by
    have w : wpAny c.M A (getItem (.ref a) (.ref s4.heap.objs.size)) (fun r s₃ => wpAny c.M A (letTemporaryGo value (.ref a) r >>= fun _ => pure r) (Post c ρ ls s.heap P) No s₃) No _ := wpAny_mono fin (fun r s₃ h₃ => wpAny_bind (wpAny_letTemporaryGo (base := value) (o := .ref a) (r := r) (wpAny_pure h₃))) fun _ _ x => x
    cases step with
    | none => exact wpAny_operating w
    | some e => exact wpAny_operating w
  first
    | exact wpAny_pure (wpAny_bind fin2)
    | exact wpAny_bind (wpAny_pure (wpAny_bind fin2))
    | exact wpAny_bind fin2
end
end Mine
end

noncomputable section
set_option genSizeOf false
set_option genInjectivity false
set_option Elab.async false
set_option linter.unusedVariables false
set_option maxRecDepth 10000
namespace Mine
open PySem PySem.Calls PyProof.Rows PySem.W

abbrev Thing := Int × Nat
def fT (p : Thing) : D := .tup [.int p.1, .int (p.2 : Nat)]
structure Deed where
  kind : Int
  items : List Thing
  wish : Int
def fD (d : Deed) : D := .tup [.int d.kind, .fl (d.items.map fT), .int d.wish]
def tail11 : List Int := [4, 2, 3, 0, 33, 27, 18, 7, 20, 48, 2]
def rankOf (y : Int) : Int := if y.fmod 2 == 0 then y.fdiv 2 else (y.fdiv 2).fmod 3
def three (r : Int) (n : Nat) : List Thing := [(r, 3 * n), (-r, 3 * n + 1), (r.fmod 4, 3 * n + 2)]
def deedOf (x : Int) (n : Nat) : Deed := ⟨x.fmod 7, if x.fmod 7 == 5 then three (rankOf (x.fdiv 7)) n else (three (rankOf (x.fdiv 7)) n).take 1, (x.fdiv 7).fmod 9 - 1⟩
def deedsGo : Nat → List Int → List Deed
  | _, [] => []
  | n, x :: r => deedOf x n :: deedsGo (n + 1) r
def deedsOf (ns : List Int) : List Deed := deedsGo 0 (ns.take 16 ++ tail11)

theorem deedsGo_snoc : ∀ (n : Nat) (xs : List Int) (x : Int), deedsGo n (xs ++ [x]) = deedsGo n xs ++ [deedOf x (n + xs.length)]
  | n, [], x => rfl
  | n, y :: r, x => by simp only [List.cons_append, deedsGo, deedsGo_snoc (n + 1) r x, List.length_cons]; rw [show n + 1 + r.length = n + (r.length + 1) by walk_at "n"]
theorem deedsGo_length : ∀ (n : Nat) (xs : List Int), (deedsGo n xs).length = xs.length
  | _, [] => rfl
  | n, x :: r => by simp [deedsGo, deedsGo_length (n + 1) r]

def cInt : Expr → Option Int
  | .Constant (.int i) _ _ => some i
  | _ => none
theorem Evs_ints {c : Cx} {k : Nat} {ρ : Rho} {ls : Ls} {pos : Pos} : ∀ {elts : List Expr} {zs : List Int} {PL : List D → Ls → Prop}, elts.map cInt = zs.map some → PL (zs.map D.int) ls → Evs c k (spliced (backTo pos (starEach elts c.env))) ρ ls PL
  | [], [], PL, _, h => Evs_nil h
  | [], _ :: _, _, e, _ => by simp at e
  | _ :: _, [], _, e, _ => by simp at e
  | e :: elts, z :: zs, PL, he, h => by
    simp only [List.map_cons, List.cons.injEq] at he
    obtain ⟨h1, h2⟩ := he
    unfold cInt at h1
    split at h1
    · cases h1
      exact Evs_cons (Ev_int (Evs_ints h2 h)) rfl
    · cases h1

theorem Ev_list11 {c : Cx} {k : Nat} {ρ : Rho} {ls : Ls} {P : D → Ls → Prop} {pos : Pos} {elts : List Expr} (he : elts.map cInt = tail11.map some) (h : P (.fl (tail11.map D.int)) ls) : Ev c k (eval (.List elts pos) c.env) ρ ls P :=
  Ev_list (Evs_ints he ⟨by simp [sizeLine_eq, tail11], h⟩)

def dgo (ys : List Int) (i : Nat) : List Deed := deedsGo 0 (ys.take i)
theorem dgo_length {ys : List Int} {i : Nat} (h : i ≤ ys.length) : (dgo ys i).length = i := by unfold dgo; rw [deedsGo_length, List.length_take, Nat.min_eq_left h]
theorem dgo_succ {ys : List Int} {i : Nat} {x : Int} (h : ys[i]? = some x) : dgo ys (i + 1) = dgo ys i ++ [deedOf x i] := by
  unfold dgo
  rw [take_snoc h, deedsGo_snoc, List.length_take, Nat.zero_add, Nat.min_eq_left (Nat.le_of_lt (List.getElem?_eq_some_iff.mp h).1)]
inductive DdI (ys : List Int) (a : Addr) : Nat → Rho → Ls → Prop
  | mk (i : Nat) : DdI ys a i [("deeds", .raw (.ref a))] [(a, (dgo ys i).map fD)]
theorem rank_even {y : Int} (h : (y.fmod 2 == 0) = true) : rankOf y = y.fdiv 2 := if_pos h
theorem rank_odd {y : Int} (h : (y.fmod 2 == 0) = false) : rankOf y = (y.fdiv 2).fmod 3 := if_neg (by rw [h]; exact Bool.false_ne_true)
theorem items_five {x : Int} {n : Nat} (h : (x.fmod 7 == 5) = true) : (deedOf x n).items = three (rankOf (x.fdiv 7)) n := if_pos h
theorem items_other {x : Int} {n : Nat} (h : (x.fmod 7 == 5) = false) : (deedOf x n).items = (three (rankOf (x.fdiv 7)) n).take 1 := if_neg (by rw [h]; exact Bool.false_ne_true)
theorem small27 {n i : Nat} (h : n ≤ 27) (hi : i < n) : i < 2 ^ 20 := by walk_at "n"

theorem Fn_law_deeds {g : Gx} (T : TX g) {a0 : Addr} {vs0 : List Value} {ns : List Int} (hG : g.G.IsList a0 vs0.toArray) (hi : IntsAre vs0 ns) (h63 : ns.length ≤ 63) :
    Fn g 13 (.ref (faOf 17)) [.raw (.ref a0)] [] [] (Is (.fl ((deedsOf ns).map fD)) []) := by
  refine Fn_i T.h17 T.lim (ρ0 := [("script", .raw (.ref a0))]) (bind1 fun _ => rfl) ["script"] [] rfl (by kernel_rfl) (fun _ => rfl) rfl fun s0 X0 PF fin => ?_
  refine Ex_cons (Ex_newlist (.inl rfl) fun a hak haX => ?_)
  obtain ⟨ys, hys⟩ : ∃ ys, ns.take 16 ++ tail11 = ys := ⟨_, rfl⟩
  have h79 : ys.length ≤ 27 := by rw [← hys]; simp [tail11]; walk_at "n"
  have e : (ns.take 16).map D.int ++ tail11.map D.int = ys.map D.int := by rw [← hys, List.map_append]
  have hR : deedsOf ns = deedsGo 0 ys := by unfold deedsOf; rw [hys]
  rw [hR] at fin
  clear hR hys
  refine Ex_cons (Ex_for (k := 10) (ys.map D.int) (fun ls => LsOf ls (.fl (ys.map D.int)) (ys.map D.int)) (DdI ys a) [("deeds", .raw (.ref a))] (Ext.cons rfl (Ext.nil _))
    ?_ (fun _ _ _ _ => .fl) ?_ ?_)
  · refine EvI_list (.fl (ys.map D.int)) (Ev_bin (Ev_sliceR (xs := ns.map D.int) (ys := (ns.take 16).map D.int) (Ev_name rfl (Part_none (Part_some (Ev_int ⟨16, rfl, Part_none ⟨LsR.top hG hi, by rw [List.length_map]; walk_at "n", by simp, (fun X h vs r => by have := pick_upto r 16 (by decide); rw [List.map_take]; exact this), ?_⟩⟩))))))
    refine Ev_list11 ?_ ?_
    · rfl
    refine Op2_concat .fl .fl (by simp [tail11]; walk_at "n") ?_
    rw [e]
    exact ⟨rfl, .fl, .mk 0⟩
  · rintro i x _ _ hx ⟨_⟩ s0' X0' Z0'
    rw [List.getElem?_map] at hx
    obtain ⟨x, hx', rfl⟩ := Option.map_eq_some_iff.mp hx
    have hil := (List.getElem?_eq_some_iff.mp hx').1
    have hdl := dgo_length (ys := ys) (Nat.le_of_lt hil)
    have hd20 : ((dgo ys i).map fD).length < 2 ^ 20 := by rw [List.length_map, hdl]; exact small27 h79 hil
    have hsu := dgo_succ hx'
    refine ⟨_, Asg_name (.inl rfl), ?_⟩
    refine Ex_cons (Ex_assign (.inl rfl) (Ev_bin (Ev_name rfl (Ev_int (Op2_div (by decide) ?_ (PyProof.noPylong_small (by decide)))))))
    refine Ex_cons (Ex_assign (.inl rfl) (Ev.mono (P := Is (.int (rankOf (x.fdiv 7))) [(a, (dgo ys i).map fD)]) (Ev_ifexp (EvB.of_cmp (Ev_bin (Ev_name rfl (Ev_int (Op2_mod (by decide) (Ev_int (Op2_eq ⟨_, rfl, fun h => ?_, fun h => ?_⟩)))))))) ?_))
    · rw [rank_even h]
      exact Ev_bin (Ev_name rfl (Ev_int (Op2_div (by decide) ⟨rfl, rfl⟩ (PyProof.noPylong_small (by decide)))))
    · rw [rank_odd h]
      exact Ev_bin (Ev_bin (Ev_name rfl (Ev_int (Op2_div (by decide) (Ev_int (Op2_mod (by decide) ⟨rfl, rfl⟩)) (PyProof.noPylong_small (by decide))))))
    rintro _ _ ⟨rfl, rfl⟩
    have ht : ∀ r : Int, ([D.tup [.int r, .int ((3 * i : Nat) : Int)], D.tup [.int (-r), .int (((3 * i : Nat) : Int) + 1)], D.tup [.int (r.fmod 4), .int (((3 * i : Nat) : Int) + 2)]] : List D) = (three r i).map fT := fun _ => rfl
    have hit5 := @items_five x i
    have hito := @items_other x i
    have hdo : fD (deedOf x i) = .tup [.int (x.fmod 7), .fl ((deedOf x i).items.map fT), .int ((x.fdiv 7).fmod 9 - 1)] := rfl
    generalize rankOf (x.fdiv 7) = r at hit5 hito
    refine Ex_cons (Ex_assign (.inl rfl) (Ev_bin (Ev_int (Ev_bi T.len rfl rfl rfl (Evs_cons (Ev_name rfl (Evs_nil (CallB_len .hd hd20 (Op2_mul (IntMulOk.of_left (by decide)) ?_)))))))))
    rw [List.length_map, hdl, show (3 : Int) * ((i : Nat) : Int) = ((3 * i : Nat) : Int) by push_cast; rfl]
    refine Ex_cons (Ex_assign (.inl rfl) (Ev_list (Evs_cons (Ev_tuple (Evs_cons (Ev_name rfl (Evs_cons (Ev_name rfl (Evs_nil ⟨by simp [sizeLine_eq], Evs_cons (Ev_tuple (Evs_cons (Ev_un (Ev_name rfl (Op1_neg (Evs_cons (Ev_bin (Ev_name rfl (Ev_int (Op2_add (Evs_nil ⟨by simp [sizeLine_eq], Evs_cons (Ev_tuple (Evs_cons (Ev_bin (Ev_name rfl (Ev_int (Op2_mod (by decide) (Evs_cons (Ev_bin (Ev_name rfl (Ev_int (Op2_add (Evs_nil ⟨by simp [sizeLine_eq], Evs_nil ⟨by simp [sizeLine_eq], ?_⟩⟩))))))))))))⟩)))))))))))⟩)))))))))
    rw [ht]
    have hth : ((three r i).map fT).length < 2 ^ 20 := by show 3 < 2 ^ 20; decide
    generalize three r i = th at hit5 hito hth
    generalize (deedOf x i).items = its at hit5 hito hdo
    refine Ex_cons (Ex_expr (Ev_meth "list.append" F.slot_list_append F.type_list_append (Ev_name rfl ⟨_, .hd, EvArgs_plain (Evs_cons (Ev_tuple (Evs_cons (Ev_bin (Ev_name rfl (Ev_int (Op2_mod (by decide) (Evs_cons (Ev.mono (P := Is (.fl (its.map fT)) [(a, (dgo ys i).map fD)]) (Ev_ifexp (EvB.of_cmp (Ev_bin (Ev_name rfl (Ev_int (Op2_mod (by decide) (Ev_int (Op2_eq ⟨_, rfl, fun h => ?_, fun h => ?_⟩)))))))) ?_)))))))))⟩)))
    · rw [hit5 h]
      exact Ev_name rfl ⟨rfl, rfl⟩
    · rw [hito h, List.map_take]
      exact Ev_upto (n := 1) (Ev_name rfl (Ev_int ⟨rfl, by decide, .fl, hth, rfl, rfl⟩))
    rintro _ _ ⟨rfl, rfl⟩
    refine Evs_cons (Ev_bin (Ev_bin (Ev_name rfl (Ev_int (Op2_mod (by decide) (Ev_int (Op2_sub (Evs_nil ⟨by simp [sizeLine_eq], Evs_nil (CallB_append (.head _) hd20 ?_)⟩))))))))
    rw [lset_one, ← hdo]
    have e2 : (dgo ys i).map fD ++ [fD (deedOf x i)] = (dgo ys (i + 1)).map fD := by rw [hsu, List.map_append]; rfl
    rw [e2]
    exact Ex_nil ⟨_, Ext.cons rfl (Ext.nil _), .mk _⟩
  · rintro _ _ ⟨_⟩
    refine Ex_cons (Ex_retL rfl haX (fin _ _ [] ?_))
    rw [List.length_map]; unfold dgo; rw [List.take_length]; rfl
end Mine
end

noncomputable section
set_option genSizeOf false
set_option genInjectivity false
set_option Elab.async false
set_option linter.unusedVariables false
set_option maxRecDepth 10000
namespace Mine
open PySem PySem.Calls PyProof.Rows PySem.W

variable {α β : Type}
def inK (l : List Int) (k : Int) : Bool := (pys (l.map D.int)).any fun y => PyData.eqv y (.int k)
theorem plains_ints : ∀ l : List Int, plains (l.map D.int) = true
  | [] => rfl
  | _ :: r => by simp [plains, D.plain, plains_ints r]
theorem plains_map {f : α → D} (h : ∀ a, (f a).plain = true) : ∀ l : List α, plains (l.map f) = true
  | [] => rfl
  | a :: r => by simp [plains, h a, plains_map h r]
theorem depth_map {f : α → D} {w : Nat} (h : ∀ a, (f a).py.depth ≤ w) : ∀ l : List α, PyData.depthAll (pys (l.map f)) ≤ w
  | [] => by simp [pys, PyData.depthAll]
  | a :: r => by
    have := h a
    have := depth_map h r
    simp only [List.map_cons, pys, PyData.depthAll]; walk_at "n"
theorem depth_list {f : α → D} {w : Nat} (h : ∀ a, (f a).py.depth ≤ w) (l : List α) : (PyData.list (pys (l.map f))).depth ≤ w + 1 := by
  have := depth_map h l
  simp only [PyData.depth]; walk_at "n"

section
variable {c : Cx} {k : Nat} {ρ : Rho} {ls : Ls} {P : D → Ls → Prop} {PB : Bool → Ls → Prop} {PF : Fl → Rho → Ls → Prop}
theorem Ev_tupI {pos : Pos} {elts : List Expr} {x1 : Nat} {zs : List Int} (he : elts.map cInt = zs.map some) (hz : zs.length ≤ 10) (h : P (.tup (zs.map D.int)) ls) : Ev c k (eval (.Tuple elts x1 pos) c.env) ρ ls P :=
  Ev_tuple (Evs_ints he ⟨by simp [sizeLine_eq]; walk_at "n", h⟩)
theorem EvB_inK {x : Str} {p tp pos : Pos} {elts : List Expr} {x1 : Nat} {whole : Sem Value} (zs : List Int) {i : Int} (hx : ρ.lookup x = some (.int i)) (h : PB (inK zs i) ls) (he : elts.map cInt = zs.map some := by rfl) (hz : zs.length ≤ 10 := by decide)
    (hd : (x == ("__debug__" : Str)) = false := by decide) (hm : behindInMarks .In (.Tuple elts x1 tp) = false := by with_unfolding_all rfl) :
    EvB c (k+1) (isTrue (.Compare (.Name x p) [.In] [.Tuple elts x1 tp] pos) c.env whole) ρ ls PB :=
  EvB.of_cmp (Ev_name hx (Ev_tupI he hz (Op2_inT (d := .none) (plains_ints zs) (by
    have : PyData.depthAll (pys (zs.map D.int)) ≤ 1 := depth_map (fun a => by simp [D.py, PyData.depth]) zs
    walk_at "n") ⟨_, rfl, h⟩)) hd) hm

/- lists compared -/
theorem PyOf.lst {d : D} {f : α → D} {xs : List α} (L : LsOf ls d (xs.map f)) (h : ∀ a, (f a).plain = true) : PyOf ls d (.list (pys (xs.map f))) := PyOf.ls L (plains_map h xs)
end

theorem eqv_map {f : α → D} {eq : α → α → Bool} (h : ∀ a b, PyData.eqv (f a).py (f b).py = eq a b) (hr : ∀ a b, eq a b = true ↔ a = b) : ∀ xs ys : List α, PyData.eqv (.list (pys (xs.map f))) (.list (pys (ys.map f))) = true ↔ xs = ys := by
  intro xs ys
  simp only [PyData.eqv]
  induction xs generalizing ys with
  | nil => cases ys <;> simp [pys, PyData.eqvAll]
  | cons x xs ih =>
    cases ys with
    | nil => simp [pys, PyData.eqvAll]
    | cons y ys => simp [pys, PyData.eqvAll, h, hr, ih]

theorem mul2 (t : Nat) : (2 : Int) * ((t : Nat) : Int) = ((2 * t : Nat) : Int) := by push_cast; rfl
theorem rng_up {n i : Nat} {x : D} (h : (rng 0 1 n)[i]? = some x) : i < n ∧ x = .int (i : Nat) := by
  obtain ⟨h1, h2⟩ := rng_get h
  exact ⟨h1, by rw [h2]; congr 1; walk_at "n"⟩
/- a total order -/
structure Tot (lt eq : α → α → Bool) : Prop where
  eq : ∀ a b, eq a b = true ↔ a = b
  irr : ∀ a, lt a a = false
  tr : ∀ a b c, lt a b = true → lt b c = true → lt a c = true
  tri : ∀ a b, a ≠ b → lt a b = true ∨ lt b a = true

theorem Tot.asym {lt eq : α → α → Bool} (T : Tot lt eq) (a b : α) (h : lt a b = true) : lt b a = false := by
  cases e : lt b a with
  | false => rfl
  | true => have := T.tr _ _ _ h e; rw [T.irr] at this; cases this
theorem Tot.swo {lt eq : α → α → Bool} (T : Tot lt eq) : SwoF lt where
  irr := T.irr
  asym := T.asym
  ntr := fun i j k h1 h2 => by
    cases e : lt i k with
    | false => rfl
    | true =>
      by_cases hij : i = j
      · subst hij; rw [e] at h2; cases h2
      · rcases T.tri i j hij with h | h
        · rw [h] at h1; cases h1
        · have := T.tr _ _ _ h e; rw [this] at h2; cases h2
theorem Tot.int : Tot (fun a b : Int => decide (a < b)) (fun a b => a == b) := ⟨fun a b => beq_iff_eq, fun a => decide_eq_false (Int.lt_irrefl a), fun a b c h1 h2 => decide_eq_true (Int.lt_trans (of_decide_eq_true h1) (of_decide_eq_true h2)), fun a b h => (Int.lt_or_gt_of_ne h).imp (fun h => decide_eq_true h) fun h => decide_eq_true h⟩
theorem Tot.nat : Tot (fun a b : Nat => decide (a < b)) (fun a b => a == b) := ⟨fun a b => beq_iff_eq, fun a => decide_eq_false (Nat.lt_irrefl a), fun a b c h1 h2 => decide_eq_true (Nat.lt_trans (of_decide_eq_true h1) (of_decide_eq_true h2)), fun a b h => (Nat.lt_or_gt_of_ne h).imp (fun h => decide_eq_true h) fun h => decide_eq_true h⟩
theorem Tot.two {ltA eqA : α → α → Bool} {ltB eqB : β → β → Bool} (A : Tot ltA eqA) (B : Tot ltB eqB) : Tot (fun p q : α × β => lx2 ltA eqA ltB p.1 p.2 q.1 q.2) (fun p q => eqA p.1 q.1 && eqB p.2 q.2) where
  eq := fun p q => by rw [Bool.and_eq_true, A.eq, B.eq, Prod.ext_iff]
  irr := fun p => by
    show lx2 _ _ _ _ _ _ _ = _
    unfold lx2; rw [if_pos ((A.eq _ _).mpr rfl), B.irr]
  tr := fun p q r h1 h2 => by
    show lx2 _ _ _ _ _ _ _ = _
    have h1 : lx2 ltA eqA ltB p.1 p.2 q.1 q.2 = true := h1
    have h2 : lx2 ltA eqA ltB q.1 q.2 r.1 r.2 = true := h2
    unfold lx2 at *
    by_cases e1 : eqA p.1 q.1 = true
    · rw [if_pos e1] at h1
      have e1' := (A.eq _ _).mp e1
      by_cases e2 : eqA q.1 r.1 = true
      · rw [if_pos e2] at h2
        rw [if_pos ((A.eq _ _).mpr (e1'.trans ((A.eq _ _).mp e2)))]
        exact B.tr _ _ _ h1 h2
      · rw [if_neg e2] at h2
        rw [e1', if_neg e2]; exact h2
    · rw [if_neg e1] at h1
      by_cases e2 : eqA q.1 r.1 = true
      · have e2' := (A.eq _ _).mp e2
        rw [← e2', if_neg e1]; exact h1
      · rw [if_neg e2] at h2
        have := A.tr _ _ _ h1 h2
        have hne : ¬ eqA p.1 r.1 = true := fun e => by
          rw [(A.eq _ _).mp e, A.irr] at this; cases this
        rw [if_neg hne]; exact this
  tri := fun p q h => by
    show lx2 _ _ _ _ _ _ _ = _ ∨ lx2 _ _ _ _ _ _ _ = _
    unfold lx2
    by_cases e : p.1 = q.1
    · rw [if_pos ((A.eq _ _).mpr e), if_pos ((A.eq _ _).mpr e.symm)]
      exact B.tri _ _ fun e2 => h (Prod.ext e e2)
    · rw [if_neg (fun x => e ((A.eq _ _).mp x)), if_neg (fun x => e ((A.eq _ _).mp x).symm)]
      exact A.tri _ _ e
end Mine
end

noncomputable section
set_option genSizeOf false
set_option genInjectivity false
set_option Elab.async false
set_option linter.unusedVariables false
set_option maxRecDepth 10000
namespace Mine
open PySem PySem.Calls PyProof.Rows PySem.W

def fSt (p : Thing × Nat) : D := .tup [fT p.1, .int (p.2 : Nat)]
def fFt (p : Thing × Nat × Nat) : D := .tup [fT p.1, .int (p.2.1 : Nat), .int (p.2.2 : Nat)]
def fNt (n : Nat) : D := .int (n : Nat)
structure FSt where
  size : Int
  stays : List (Thing × Nat)
  doors : List Nat
def fs1 (t : Nat) (d : Deed) (s : FSt) : FSt := if inK [0, 1, 3, 5] d.kind then ⟨s.size + (d.items.length : Nat), s.stays ++ d.items.map fun it => (it, 2 * t), s.doors⟩ else s
def fs2 (t : Nat) (d : Deed) (s : FSt) : FSt := if inK [2, 3] d.kind && decide (0 < s.size) then ⟨s.size - 1, s.stays, s.doors ++ [2 * t + 1]⟩ else s
def fs3 (t : Nat) (d : Deed) (s : FSt) : FSt := if d.kind == 4 && decide (0 < s.size) then ⟨s.size, s.stays ++ [(d.items.headD (0, 0), 2 * t + 1)], s.doors ++ [2 * t]⟩ else s
def fsStep (t : Nat) (d : Deed) (s : FSt) : FSt := fs3 t d (fs2 t d (fs1 t d s))
def fsGo : Nat → List Deed → FSt → FSt
  | _, [], s => s
  | t, d :: r, s => fsGo (t + 1) r (fsStep t d s)
def fsOf (ds : List Deed) : FSt := fsGo 0 ds ⟨0, [], []⟩
theorem fsGo_snoc : ∀ (t : Nat) (ds : List Deed) (d : Deed) (s : FSt), fsGo t (ds ++ [d]) s = fsStep (t + ds.length) d (fsGo t ds s)
  | t, [], d, s => rfl
  | t, e :: r, d, s => by simp only [List.cons_append, fsGo, fsGo_snoc (t + 1) r d, List.length_cons]; rw [show t + 1 + r.length = t + (r.length + 1) by walk_at "n"]

def wentOf (n2 : Nat) (doors : List Nat) (came : Nat) : Nat := (doors.filter fun h => decide (came < h)).headD n2
def ftStep (n2 : Nat) (st : List Nat × List (Thing × Nat × Nat)) (p : Thing × Nat) : List Nat × List (Thing × Nat × Nat) :=
  (st.1.filter fun h => h != wentOf n2 st.1 p.2, st.2 ++ [(p.1, p.2, wentOf n2 st.1 p.2)])
def ltT (a b : Thing) : Bool := lx2 (fun x y => decide (x < y)) (fun x y => x == y) (fun x y : Nat => decide (x < y)) a.1 a.2 b.1 b.2
def eqT (a b : Thing) : Bool := a.1 == b.1 && a.2 == b.2
def ltS (a b : Thing × Nat) : Bool := lx2 ltT eqT (fun x y : Nat => decide (x < y)) a.1 a.2 b.1 b.2
def fatesOf (ds : List Deed) : List (Thing × Nat × Nat) := ((psortK ltS id (fsOf ds).stays).foldl (ftStep (2 * ds.length)) ((fsOf ds).doors, [])).2

theorem CmpN : Cmp 0 1 fNt (fun a b => decide (a < b)) (fun a b => a == b) where
  plain := fun a => rfl
  depth := fun a => by simp [fNt, D.py, PyData.depth]
  eq := fun a b => by
    show ((a : Int) == (b : Int)) = (a == b)
    rw [Bool.eq_iff_iff, beq_iff_eq, beq_iff_eq]; walk_at "n"
  lt := fun a b => by
    have := LtD.int a b
    rw [show decide (a < b) = decide ((a : Int) < (b : Int)) by simp]
    exact this
theorem CmpI : Cmp 0 1 D.int (fun a b => decide (a < b)) (fun a b => a == b) := Cmp.int (fun _ => rfl)
theorem CmpT : Cmp 11 2 fT ltT eqT :=
  Cmp.two (h := fT) (p := fun p => p.1) (q := fun p => p.2) CmpI CmpN (by walk_at "n") (by walk_at "n") (n := 10) (m := 2) (by walk_at "n") (by walk_at "n") (by walk_at "n") (by walk_at "n") (by walk_at "n") (fun b b' h => by simp at h ⊢; walk_at "n") (fun _ => rfl)
theorem CmpS : Cmp 12 3 fSt ltS (fun a b => eqT a.1 b.1 && a.2 == b.2) :=
  Cmp.two (h := fSt) (p := fun p => p.1) (q := fun p => p.2) CmpT CmpN (by walk_at "n") (by walk_at "n") (n := 11) (m := 3) (by walk_at "n") (by walk_at "n") (by walk_at "n") (by walk_at "n") (by walk_at "n") (fun b b' h => by simp at h ⊢; walk_at "n") (fun _ => rfl)
theorem SortFT : SortF fT ltT := SortF.tupI (z := fun p => p.1) (g := fun p => [.int (p.2 : Nat)]) (fun _ => rfl) (fun a b => Lex.two CmpI CmpN (by walk_at "n") (by walk_at "n") (n := 60) (by walk_at "n") (by walk_at "n") (fun b b' h => by simp at h ⊢; walk_at "n") _ _ _ _) (fun a b h => by unfold ltT lx2; simp [h])
theorem SortFS : SortF fSt ltS := SortF.tupT (z := fun p => [.int p.1.1, .int (p.1.2 : Nat)]) (g := fun p => [.int (p.2 : Nat)]) (fun _ => rfl) (fun a b => Lex.two CmpT CmpN (by walk_at "n") (by walk_at "n") (n := 60) (by walk_at "n") (by walk_at "n") (fun b b' h => by simp at h ⊢; walk_at "n") _ _ _ _)

theorem ltT_iff (a b : Thing) : ltT a b = true ↔ a.1 < b.1 ∨ (a.1 = b.1 ∧ a.2 < b.2) := by
  unfold ltT lx2
  by_cases h : a.1 = b.1
  · simp [h]
  · simp [h]
theorem eqT_iff (a b : Thing) : eqT a b = true ↔ a = b := by
  unfold eqT
  simp [Prod.ext_iff]
theorem TotT : Tot ltT eqT := Tot.two Tot.int Tot.nat
theorem TotS : Tot ltS (fun a b => eqT a.1 b.1 && a.2 == b.2) := Tot.two TotT Tot.nat
theorem SwoT : SwoF ltT := TotT.swo
theorem ltS_iff (a b : Thing × Nat) : ltS a b = true ↔ a.1.1 < b.1.1 ∨ (a.1.1 = b.1.1 ∧ (a.1.2 < b.1.2 ∨ (a.1.2 = b.1.2 ∧ a.2 < b.2))) := by
  unfold ltS lx2
  by_cases h : eqT a.1 b.1 = true
  · have e := (eqT_iff _ _).mp h
    rw [if_pos h, decide_eq_true_eq, e]
    exact ⟨fun h => .inr ⟨rfl, .inr ⟨rfl, h⟩⟩, fun h => h.elim (fun h => absurd h (Int.lt_irrefl _)) fun h => h.2.elim (fun h => absurd h (Nat.lt_irrefl _)) And.right⟩
  · rw [if_neg h, ltT_iff]
    exact ⟨Or.imp_right (And.imp_right .inl), Or.imp_right fun q => ⟨q.1, q.2.resolve_right fun r => h ((eqT_iff _ _).mpr (Prod.ext q.1 r.1))⟩⟩
theorem SwoS : SwoF ltS := TotS.swo
theorem fs1_len (t : Nat) (d : Deed) (s : FSt) : s.stays.length ≤ (fs1 t d s).stays.length ∧ (fs1 t d s).doors.length = s.doors.length := by
  unfold fs1; split
  · exact ⟨by rw [List.length_append]; exact Nat.le_add_right _ _, rfl⟩
  · exact ⟨Nat.le_refl _, rfl⟩
theorem fs2_len (t : Nat) (d : Deed) (s : FSt) : (fs2 t d s).stays.length = s.stays.length ∧ s.doors.length ≤ (fs2 t d s).doors.length ∧ (fs2 t d s).doors.length ≤ s.doors.length + 1 := by
  unfold fs2; split
  · exact ⟨rfl, by rw [List.length_append]; exact ⟨Nat.le_add_right _ _, Nat.le_refl _⟩⟩
  · exact ⟨rfl, Nat.le_refl _, Nat.le_succ _⟩
theorem fs3_len (t : Nat) (d : Deed) (s : FSt) : s.stays.length ≤ (fs3 t d s).stays.length ∧ s.doors.length ≤ (fs3 t d s).doors.length ∧ (fs3 t d s).doors.length ≤ s.doors.length + 1 := by
  unfold fs3; split
  · exact ⟨by rw [List.length_append]; exact Nat.le_add_right _ _, by rw [List.length_append]; exact ⟨Nat.le_add_right _ _, Nat.le_refl _⟩⟩
  · exact ⟨Nat.le_refl _, Nat.le_refl _, Nat.le_succ _⟩
theorem fsStep_grow (t : Nat) (d : Deed) (s : FSt) : s.stays.length ≤ (fsStep t d s).stays.length :=
  Nat.le_trans (fs1_len t d s).1 (Nat.le_trans (Nat.le_of_eq (fs2_len t d (fs1 t d s)).1.symm) (fs3_len t d (fs2 t d (fs1 t d s))).1)
theorem fsStep_doors (t : Nat) (d : Deed) (s : FSt) : (fsStep t d s).doors.length ≤ s.doors.length + 2 ∧ (fs2 t d (fs1 t d s)).doors.length ≤ s.doors.length + 1 ∧ (fs1 t d s).doors.length = s.doors.length := by
  have h1 := (fs1_len t d s).2
  have h2 := (fs2_len t d (fs1 t d s)).2.2
  rw [h1] at h2
  exact ⟨Nat.le_trans (fs3_len t d (fs2 t d (fs1 t d s))).2.2 (Nat.succ_le_succ h2), h2, h1⟩
theorem fsGo_doors : ∀ (t : Nat) (ds : List Deed) (s : FSt), (fsGo t ds s).doors.length ≤ s.doors.length + 2 * ds.length
  | _, [], s => by simp [fsGo]
  | t, d :: r, s => by
    have := fsGo_doors (t + 1) r (fsStep t d s)
    have := (fsStep_doors t d s).1
    simp only [fsGo, List.length_cons]; walk_at "n"
theorem fsGo_grow : ∀ (t : Nat) (ds : List Deed) (s : FSt), s.stays.length ≤ (fsGo t ds s).stays.length
  | _, [], s => by simp [fsGo]
  | t, d :: r, s => by
    have := fsGo_grow (t + 1) r (fsStep t d s)
    have := fsStep_grow t d s
    simp only [fsGo]; walk_at "n"
theorem fsGo_append : ∀ (t : Nat) (ds es : List Deed) (s : FSt), fsGo t (ds ++ es) s = fsGo (t + ds.length) es (fsGo t ds s)
  | t, [], es, s => rfl
  | t, d :: r, es, s => by simp only [List.cons_append, fsGo, fsGo_append (t + 1) r es, List.length_cons]; rw [show t + 1 + r.length = t + (r.length + 1) by walk_at "n"]
theorem fs1_grow (t : Nat) (d : Deed) (s : FSt) : (fs1 t d s).stays.length ≤ (fsStep t d s).stays.length ∧ (fs2 t d (fs1 t d s)).stays.length = (fs1 t d s).stays.length :=
  have h := (fs2_len t d (fs1 t d s)).1
  ⟨Nat.le_trans (Nat.le_of_eq h.symm) (fs3_len t d (fs2 t d (fs1 t d s))).1, h⟩

/- the states of comprehensions -/
inductive FcI {α : Type} (q : α → Bool) (h : α → D) (xs : List α) (L : Ls) : Nat → List D → Ls → Prop
  | mk (j : Nat) : FcI q h xs L j (((xs.take j).filter q).map h) L
inductive MpI {α : Type} (h : α → D) (xs : List α) (L : Ls) : Nat → List D → Ls → Prop
  | mk (j : Nat) : MpI h xs L j ((xs.take j).map h) L
section
variable {α : Type} {q : α → Bool} {h : α → D} {xs : List α} {L : Ls} {j : Nat} {p : α}
theorem FcI.t (e : xs[j]? = some p) (hq : q p = true) : FcI q h xs L (j + 1) (((xs.take j).filter q).map h ++ [h p]) L := by
  have e' : ((xs.take (j + 1)).filter q).map h = ((xs.take j).filter q).map h ++ [h p] := by
    rw [take_snoc e, List.filter_append, List.map_append, List.filter_cons_of_pos hq]; rfl
  rw [← e']; exact .mk _
theorem FcI.f (e : xs[j]? = some p) (hq : q p = false) : FcI q h xs L (j + 1) (((xs.take j).filter q).map h) L := by
  have e' : ((xs.take (j + 1)).filter q).map h = ((xs.take j).filter q).map h := by
    rw [take_snoc e, List.filter_append, List.filter_cons_of_neg (by rw [hq]; exact Bool.false_ne_true), List.filter_nil, List.append_nil]
  rw [← e']; exact .mk _
theorem MpI.s (e : xs[j]? = some p) : MpI h xs L (j + 1) ((xs.take j).map h ++ [h p]) L := by
  have e' : (xs.take (j + 1)).map h = (xs.take j).map h ++ [h p] := by rw [take_snoc e, List.map_append]; rfl
  rw [← e']; exact .mk _
theorem FcI.all {β : Type} {f : α → β} {ys : List D} {l : Ls} (I : FcI q h xs L (xs.map f).length ys l) : ys = (xs.filter q).map h ∧ l = L := by
  rw [List.length_map] at I; cases I; rw [List.take_length]; exact ⟨rfl, rfl⟩
theorem MpI.all {β : Type} {f : α → β} {ys : List D} {l : Ls} (I : MpI h xs L (xs.map f).length ys l) : ys = xs.map h ∧ l = L := by
  rw [List.length_map] at I; cases I; rw [List.take_length]; exact ⟨rfl, rfl⟩
end

/- the states of `_law_fates` -/
def fsAt (ds : List Deed) (i : Nat) : FSt := fsGo 0 (ds.take i) ⟨0, [], []⟩
theorem fsAt_succ {ds : List Deed} {i : Nat} {d : Deed} (h : ds[i]? = some d) : fsAt ds (i + 1) = fsStep i d (fsAt ds i) := by
  unfold fsAt
  rw [take_snoc h, fsGo_snoc, List.length_take, Nat.min_eq_left (Nat.le_of_lt (List.getElem?_eq_some_iff.mp h).1), Nat.zero_add]
theorem fsAt_all (ds : List Deed) : fsAt ds ds.length = fsOf ds := by unfold fsAt; rw [List.take_length]; rfl
theorem fsAt_stays (ds : List Deed) (i : Nat) : (fsAt ds i).stays.length ≤ (fsOf ds).stays.length := by
  have h := fsGo_grow (0 + (ds.take i).length) (ds.drop i) (fsGo 0 (ds.take i) ⟨0, [], []⟩)
  rw [← fsGo_append, List.take_append_drop] at h
  exact h
theorem fsAt_doors {ds : List Deed} {i : Nat} (h : i ≤ ds.length) : (fsAt ds i).doors.length ≤ 2 * i := by
  have := fsGo_doors 0 (ds.take i) ⟨0, [], []⟩
  rw [List.length_take, Nat.min_eq_left h] at this
  exact Nat.le_trans this (Nat.le_of_eq (Nat.zero_add _))
section
variable {t : Nat} {d : Deed} {s : FSt}
theorem fs1_t (h : inK [0, 1, 3, 5] d.kind = true) : fs1 t d s = ⟨s.size + (d.items.length : Nat), s.stays ++ d.items.map fun it => (it, 2 * t), s.doors⟩ := if_pos h
theorem fs1_f (h : inK [0, 1, 3, 5] d.kind = false) : fs1 t d s = s := if_neg (by rw [h]; exact Bool.false_ne_true)
theorem fs2_t (h : (inK [2, 3] d.kind && decide (0 < s.size)) = true) : fs2 t d s = ⟨s.size - 1, s.stays, s.doors ++ [2 * t + 1]⟩ := if_pos h
theorem fs2_f (h : (inK [2, 3] d.kind && decide (0 < s.size)) = false) : fs2 t d s = s := if_neg (by rw [h]; exact Bool.false_ne_true)
theorem fs3_t (h : (d.kind == 4 && decide (0 < s.size)) = true) : fs3 t d s = ⟨s.size, s.stays ++ [(d.items.headD (0, 0), 2 * t + 1)], s.doors ++ [2 * t]⟩ := if_pos h
theorem fs3_f (h : (d.kind == 4 && decide (0 < s.size)) = false) : fs3 t d s = s := if_neg (by rw [h]; exact Bool.false_ne_true)
end
def fLs (a b : Addr) (st : List (Thing × Nat)) (dr : List Nat) : Ls := [(b, dr.map fNt), (a, st.map fSt)]
theorem fLs_doors (a b : Addr) (hab : b ≠ a) (st : List (Thing × Nat)) (dr : List Nat) (h : Nat) : lset (fLs a b st dr) b (dr.map fNt ++ [.int (h : Nat)]) = fLs a b st (dr ++ [h]) := by
  have hn : b ∉ keys ([(a, st.map fSt)] : Ls) := fun h => (List.mem_cons.mp h).elim hab fun h => nomatch h
  unfold fLs
  rw [lset_cons_eq hn, List.map_append]; rfl
theorem fLs_stays (a b : Addr) (hab : b ≠ a) (st l : List (Thing × Nat)) (dr : List Nat) : lset (fLs a b st dr) a (st.map fSt ++ l.map fSt) = fLs a b (st ++ l) dr := by
  unfold fLs
  rw [lset_cons_ne hab, lset_one, List.map_append]
def fR4 (ds : List Deed) (a b : Addr) (z : Int) : Rho := [("deeds", .fl (ds.map fD)), ("size", .int z), ("stays", .raw (.ref a)), ("doors", .raw (.ref b))]
def fR7 (ds : List Deed) (a b : Addr) (i : Nat) (d : Deed) (z : Int) : Rho := [("deeds", .fl (ds.map fD)), ("size", .int z), ("stays", .raw (.ref a)), ("doors", .raw (.ref b)), ("turn", .int (i : Nat)), ("kind", .int d.kind), ("items", .fl (d.items.map fT))]
theorem fR4_ext {ds : List Deed} {a b : Addr} {z : Int} {ρ : Rho} (h1 : ρ.lookup ("deeds" : Str) = some (.fl (ds.map fD))) (h2 : ρ.lookup ("size" : Str) = some (.int z)) (h3 : ρ.lookup ("stays" : Str) = some (.raw (.ref a))) (h4 : ρ.lookup ("doors" : Str) = some (.raw (.ref b))) : Ext (fR4 ds a b z) ρ :=
  Ext.cons h1 (Ext.cons h2 (Ext.cons h3 (Ext.cons h4 (Ext.nil _))))
theorem fR7_ext {ds : List Deed} {a b : Addr} {i : Nat} {d : Deed} {z : Int} {ρ : Rho} (h1 : ρ.lookup ("deeds" : Str) = some (.fl (ds.map fD))) (h2 : ρ.lookup ("size" : Str) = some (.int z)) (h3 : ρ.lookup ("stays" : Str) = some (.raw (.ref a))) (h4 : ρ.lookup ("doors" : Str) = some (.raw (.ref b)))
    (h5 : ρ.lookup ("turn" : Str) = some (.int (i : Nat))) (h6 : ρ.lookup ("kind" : Str) = some (.int d.kind)) (h7 : ρ.lookup ("items" : Str) = some (.fl (d.items.map fT))) : Ext (fR7 ds a b i d z) ρ :=
  Ext.cons h1 (Ext.cons h2 (Ext.cons h3 (Ext.cons h4 (Ext.cons h5 (Ext.cons h6 (Ext.cons h7 (Ext.nil _)))))))
inductive FtI (ds : List Deed) (a b : Addr) : Nat → Rho → Ls → Prop
  | mk (i : Nat) (hi : i ≤ ds.length) : FtI ds a b i (fR4 ds a b (fsAt ds i).size) (fLs a b (fsAt ds i).stays (fsAt ds i).doors)
inductive FtC (ds : List Deed) (a b : Addr) (i : Nat) (d : Deed) (s : FSt) : Rho → Ls → Prop
  | mk : FtC ds a b i d s (fR7 ds a b i d s.size) (fLs a b s.stays s.doors)
inductive FtE (ds : List Deed) (a b : Addr) (s : FSt) : Rho → Ls → Prop
  | mk : FtE ds a b s [("deeds", .fl (ds.map fD)), ("doors", .raw (.ref b)), ("stays", .raw (.ref a))] (fLs a b s.stays s.doors)
inductive FdI (ds : List Deed) (fa a : Addr) (st0 L : List (Thing × Nat)) (dr0 : List Nat) : Nat → Rho → Ls → Prop
  | mk (i : Nat) (dr : List Nat) (ft : List (Thing × Nat × Nat)) (hf : (L.take i).foldl (ftStep (2 * ds.length)) (dr0, []) = (dr, ft)) (h54 : dr.length ≤ 54) (hfi : ft.length ≤ i) (hi : i ≤ L.length) :
    FdI ds fa a st0 L dr0 i [("deeds", .fl (ds.map fD)), ("doors", .fl (dr.map fNt)), ("fates", .raw (.ref fa))] [(fa, ft.map fFt), (a, st0.map fSt)]
theorem gt_t {a b : Nat} (h : decide ((b : Int) < (a : Int)) = true) : decide (b < a) = true := decide_eq_true (Int.ofNat_lt.mp (of_decide_eq_true h))
theorem gt_f {a b : Nat} (h : decide ((b : Int) < (a : Int)) = false) : decide (b < a) = false := decide_eq_false fun h' => of_decide_eq_false h (Int.ofNat_lt.mpr h')
theorem ne_t {a b : Nat} (h : ((a : Int) != (b : Int)) = true) : (a != b) = true := by rw [bne_iff_ne] at h ⊢; exact fun e => h (congrArg _ e)
theorem ne_f {a b : Nat} (h : ((a : Int) != (b : Int)) = false) : (a != b) = false := by
  rw [bne_eq_false_iff_eq] at h ⊢; exact Int.ofNat_inj.mp h
theorem neNil_of {dr : List Nat} (h : (!PyData.eqv (.list (pys (dr.map fNt))) (.list (pys ([] : List D)))) = true) : ∃ x l, dr = x :: l := by
  cases dr with
  | nil => simp [pys, PyData.eqv, PyData.eqvAll] at h
  | cons x l => exact ⟨x, l, rfl⟩
theorem nil_of {dr : List Nat} (h : (!PyData.eqv (.list (pys (dr.map fNt))) (.list (pys ([] : List D)))) = false) : dr = [] := by
  cases dr with
  | nil => rfl
  | cons x l => simp [pys, PyData.eqv, PyData.eqvAll] at h
theorem wentOf_cons {n2 x : Nat} {l dr : List Nat} {c : Nat} (h : (dr.filter fun h => decide (c < h)) = x :: l) : wentOf n2 dr c = x := by unfold wentOf; rw [h]; rfl
theorem wentOf_nil {n2 : Nat} {dr : List Nat} {c : Nat} (h : (dr.filter fun h => decide (c < h)) = []) : wentOf n2 dr c = n2 := by unfold wentOf; rw [h]; rfl
theorem lt54_20 {n m : Nat} (h : n ≤ m) (hm : m ≤ 54) : n < 2 ^ 20 := by walk_at "n"
theorem lt54_19 {n m : Nat} (h : n ≤ m) (hm : m ≤ 54) : n < 2 ^ 19 := by walk_at "n"
theorem le27 {i n : Nat} (h : n ≤ 27) (hi : i ≤ n) : 2 * i ≤ 54 := by walk_at "n"

/- one turn of the first loop -/
theorem fates_turn {g : Gx} (T : TX g) {ds : List Deed} {a b : Addr} (hab : b ≠ a) (h27 : ds.length ≤ 27) {i : Nat} (hi : i < ds.length) {d : Deed} {s : FSt} (hget : ds[i]? = some d) (hin : d.items ≠ [] ∧ d.items.length ≤ 3) (hst : (fsStep i d s).stays.length < 64) (hdr : s.doors.length ≤ 2 * i) (hnx : fsAt ds (i + 1) = fsStep i d s)
    {s0 s0' : Shared} {X0 X0' Z0' : List Addr} {PF : Fl → Rho → Ls → Prop} {st : Stmt} {tg it : Expr} {body orelse : List Stmt} {pos : Pos} (hst3 : (fB 18)[3]? = some (.For tg it body orelse pos)) :
    Ex ((cxOf (mkFd 18 .none .none (rOf 18)) (faOf 18) g s0 X0 []).re s0' X0' Z0') 20 (execs body (cxOf (mkFd 18 .none .none (rOf 18)) (faOf 18) g s0 X0 []).env) (upd (fR4 ds a b s.size) "turn" (.int (i : Nat))) (fLs a b s.stays s.doors) (LoopP (FtI ds a b) i PF) := by
  cases hst3
  have hg1 := fs1_grow i d s
  have hd1 := fsStep_doors i d s
  have hst1 := Nat.lt_of_le_of_lt hg1.1 hst
  have hdl := Nat.le_trans hdr (le27 h27 (Nat.le_of_lt hi))
  have hil : (d.items.map fT).length < 2 ^ 19 := by rw [List.length_map]; exact Nat.lt_of_le_of_lt hin.2 (by decide)
  refine Ex_cons (Ex_assignT (Ev_sub (Ev_name rfl (Ev_name rfl (Op2_itemF (x := d) .fl hget (Nat.lt_of_le_of_lt h27 (by decide)) ⟨_, Asg_tup3 (.inl rfl) (.inl rfl) (.inl rfl), ?_⟩)))))
  refine Ex_cut (FtC ds a b i d (fs1 i d s)) ?_ ?_
  · clear hnx
    refine Ex_if (EvB_inK [0, 1, 3, 5] rfl ⟨fun h => ?_, fun h => ?_⟩)
    · rw [fs1_t h] at hst1 ⊢
      have hs64 : s.stays.length < 64 ∧ (d.items.map fun it => (it, 2 * i)).length < 64 := by
        rw [List.length_append] at hst1
        exact ⟨Nat.lt_of_le_of_lt (Nat.le_add_right _ _) hst1, Nat.lt_of_le_of_lt (Nat.le_add_left _ _) hst1⟩
      refine Ex_cons (Ex_expr (Ev_meth "list.extend" F.slot_list_extend F.type_list_extend (Ev_name rfl ⟨_, .tl .hd, EvArgs_plain (Evs_cons (Ev_comp (k := 18) (d.items.map fT) (fun ls => LsOf ls (.fl (d.items.map fT)) (d.items.map fT)) [("turn", s0.heap.objs.size + 1)] [("turn", .int (i : Nat))] (MpI (fun it => fSt (it, 2 * i)) d.items (fLs a b s.stays s.doors)) rfl (Sees.one rfl rfl rfl rfl rfl) (by decide) (by decide) (EvI_list _ (Ev_name rfl ⟨rfl, .fl, .mk 0, ?_⟩)) hil (fun _ _ _ _ => .fl) (fun _ _ _ => .fl) ?_))⟩)))
      · rintro j x _ _ hx ⟨_⟩ _ L D' s1' X1' Z1' hD
        rw [List.getElem?_map] at hx
        obtain ⟨p, hp, rfl⟩ := Option.map_eq_some_iff.mp hx
        refine ⟨_, Ext.cons rfl (Ext.nil _), Asg_name (.inl rfl), ?_⟩
        refine Ev_tuple (Evs_cons (Ev_name rfl (Evs_cons (Ev_bin (Ev_int (Ev_name rfl (Op2_mul (IntMulOk.of_left (by decide)) ?_)))))))
        rw [mul2]
        exact Evs_nil ⟨by simp [sizeLine_eq], .yes _ _ rfl (MpI.s hp)⟩
      · intro _ _ _ hI
        obtain ⟨rfl, rfl⟩ := hI.all
        have e1 : (d.items.map fun it => fSt (it, 2 * i)) = (d.items.map fun it => (it, 2 * i)).map fSt := by rw [List.map_map]; rfl
        rw [e1]
        refine Evs_nil (CallB_extend (.tail _ (.head _)) .fl (by rw [List.length_map]; exact lt64_20 hs64.1) (by rw [List.length_map]; exact lt64_20 hs64.2) ?_)
        rw [fLs_stays a b hab]
        refine Ex_cons (Ex_assign (.inl rfl) (Ev_bin (Ev_name rfl (Ev_bi T.len rfl rfl rfl (Evs_cons (Ev_name rfl (Evs_nil (CallB_len .fl (lt20 hil) (Op2_add (Ex_nil ⟨_, ?_, .mk⟩))))))))))
        rw [List.length_map]
        exact fR7_ext rfl rfl rfl rfl rfl rfl rfl
    · rw [fs1_f h]
      exact Ex_nil ⟨_, fR7_ext rfl rfl rfl rfl rfl rfl rfl, .mk⟩
  have hd1' : (fs1 i d s).doors.length < 2 ^ 19 := by rw [hd1.2.2]; exact lt54_19 hdl (Nat.le_refl _)
  have hst' : fsStep i d s = fs3 i d (fs2 i d (fs1 i d s)) := rfl
  rw [hst'] at hst hnx
  have hg2 : (fs2 i d (fs1 i d s)).stays.length < 64 := by rw [hg1.2]; exact hst1
  have hd2 : (fs2 i d (fs1 i d s)).doors.length < 2 ^ 19 := Nat.lt_of_le_of_lt (Nat.le_trans hd1.2.1 (Nat.succ_le_succ hdl)) (by decide)
  generalize fs1 i d s = s1 at hst hd1' hnx hg2 hd2 ⊢
  clear hd1 hg1 hst1 hst' hdl hdr
  rintro _ _ ⟨⟩
  refine Ex_cut (FtC ds a b i d (fs2 i d s1)) ?_ ?_
  · refine Ex_if (EvB.and2P (fun _ => EvB_inK [2, 3] rfl) (fun _ => EvB_gtC rfl) ⟨fun h => ?_, fun h => ?_⟩)
    · rw [fs2_t h]
      refine Ex_cons (Ex_expr (Ev_meth "list.append" F.slot_list_append F.type_list_append (Ev_name rfl ⟨_, .hd, EvArgs_plain (Evs_cons (Ev_bin (Ev_bin (Ev_int (Ev_name rfl (Op2_mul (IntMulOk.of_left (by decide)) ?_))))))⟩)))
      rw [mul2]
      refine Ev_int (Op2_add (Evs_nil (CallB_append (.head _) (by rw [List.length_map]; exact lt20 hd1') ?_)))
      rw [show ((2 * i : Nat) : Int) + 1 = ((2 * i + 1 : Nat) : Int) from rfl, fLs_doors a b hab]
      exact Ex_cons (Ex_assign (.inl rfl) (Ev_bin (Ev_name rfl (Ev_int (Op2_sub (Ex_nil ⟨_, fR7_ext rfl rfl rfl rfl rfl rfl rfl, .mk⟩))))))
    · rw [fs2_f h]
      exact Ex_nil ⟨_, Ext.refl _, .mk⟩
  generalize fs2 i d s1 = s2 at hst hnx hg2 hd2 ⊢
  rintro _ _ ⟨⟩
  have fin : ∀ s3, fs3 i d s2 = s3 → FtI ds a b (i + 1) (fR4 ds a b s3.size) (fLs a b s3.stays s3.doors) := fun s3 e => by
    rw [← e, ← hnx]; exact .mk _ hi
  refine Ex_cons (Ex_if (EvB.and2P (fun _ => EvB_eqC rfl) (fun _ => EvB_gtC rfl) ⟨fun h => ?_, fun h => ?_⟩))
  · have fin := fin _ (fs3_t h)
    refine Ex_cons (Ex_expr (Ev_meth "list.append" F.slot_list_append F.type_list_append (Ev_name rfl ⟨_, .hd, EvArgs_plain (Evs_cons (Ev_bin (Ev_int (Ev_name rfl (Op2_mul (IntMulOk.of_left (by decide)) ?_)))))⟩)))
    rw [mul2]
    refine Evs_nil (CallB_append (.head _) (by rw [List.length_map]; exact lt20 hd2) ?_)
    rw [fLs_doors a b hab]
    refine Ex_cons (Ex_expr (Ev_meth "list.append" F.slot_list_append F.type_list_append (Ev_name rfl ⟨_, .tl .hd, EvArgs_plain (Evs_cons (Ev_tuple (Evs_cons (Ev_sub (Ev_name rfl (Ev_int (Op2_itemF (x := d.items.headD (0, 0)) (i := 0) .fl ?_ (lt20' (by rw [List.length_map] at hil; exact hil)) (Evs_cons (Ev_bin (Ev_bin (Ev_int (Ev_name rfl (Op2_mul (IntMulOk.of_left (by decide)) ?_)))))))))))))⟩)))
    · cases e : d.items with
      | nil => exact absurd e hin.1
      | cons z zs => rfl
    rw [mul2]
    refine Ev_int (Op2_add (Evs_nil ⟨by simp [sizeLine_eq], Evs_nil (CallB_append (.tail _ (.head _)) (by rw [List.length_map]; exact lt64_20 hg2) ?_)⟩))
    have e1 := fLs_stays a b hab s2.stays [(d.items.headD (0, 0), 2 * i + 1)] (s2.doors ++ [2 * i])
    rw [← e1] at fin
    exact Ex_nil (Ex_nil ⟨_, fR4_ext rfl rfl rfl rfl, fin⟩)
  · exact Ex_nil (Ex_nil ⟨_, fR4_ext rfl rfl rfl rfl, fin _ (fs3_f h)⟩)

theorem Fn_law_fates {g : Gx} (T : TX g) {ds : List Deed} (h27 : ds.length ≤ 27) (hne : ∀ d ∈ ds, d.items ≠ [] ∧ d.items.length ≤ 3) (h64 : (fsOf ds).stays.length < 64) :
    Fn g 23 (.ref (faOf 18)) [.fl (ds.map fD)] [] [] (Is (.fl ((fatesOf ds).map fFt)) []) := by
  refine Fn_i T.h18 T.lim (ρ0 := [("deeds", .fl (ds.map fD))]) (bind1 fun _ => rfl) ["deeds"] [("went", 2), ("came", 1), ("turn", 0)] rfl (by kernel_rfl) (fun _ => rfl) rfl fun s0 X0 PF fin => ?_
  refine Ex_cons (Ex_assign (.inl rfl) (Ev_int ?_))
  refine Ex_cons (Ex_newlist (.inl rfl) fun a hak haX => ?_)
  refine Ex_cons (Ex_newlist (.inl rfl) fun b hbk hbX => ?_)
  have hab : b ≠ a := fun e => hbk (e ▸ .head _)
  have hnd : (ds.map fD).length < 2 ^ 20 := by rw [List.length_map]; exact Nat.lt_of_le_of_lt h27 (by decide)
  refine Ex_cut (FtE ds a b (fsOf ds)) ?_ ?_
  · clear fin
    refine Ex_for (k := 20) _ _ (FtI ds a b) (fR4 ds a b 0) (fR4_ext rfl rfl rfl rfl)
      (EvI_range1 ((ds.length : Nat) : Int) (Ev_glob T.range rfl rfl rfl ⟨rfl, Ev_bi T.len rfl rfl rfl (Evs_cons (Ev_name rfl (Evs_nil (CallB_len .fl hnd ⟨by rw [List.length_map], by walk_at "n", by walk_at "n", .mk 0 (Nat.zero_le _)⟩))))⟩)) (fun _ _ _ _ => trivial) ?_ ?_
    · rintro i x _ _ hx ⟨hi⟩ s0' X0' Z0'
      obtain ⟨hlt, rfl⟩ := rng_up hx
      have hget := List.getElem?_eq_getElem (l := ds) hlt
      have hnx := fsAt_succ hget
      have hbnd := Nat.lt_of_le_of_lt (fsAt_stays ds (i + 1)) h64
      rw [hnx] at hbnd
      exact ⟨_, Asg_name (.inr ⟨rfl, _, rfl, .tail _ (.tail _ (.head _))⟩), fates_turn T hab h27 hlt hget (hne _ (List.getElem_mem hlt)) hbnd (fsAt_doors hi) hnx (st := .Pass default) (by rfl)⟩
    · rw [rng_length, show ((ds.length : Nat) : Int).toNat = ds.length from rfl]
      rintro _ _ ⟨hi⟩
      rw [fsAt_all]
      exact ⟨_, Ext.cons rfl (Ext.cons rfl (Ext.cons rfl (Ext.nil _))), .mk⟩
  · have hdl : (fsOf ds).doors.length ≤ 54 := by
      have := fsAt_doors (Nat.le_refl ds.length)
      rw [fsAt_all] at this
      exact Nat.le_trans this (le27 h27 (Nat.le_refl _))
    have hfin : fatesOf ds = ((psortK ltS id (fsOf ds).stays).foldl (ftStep (2 * ds.length)) ((fsOf ds).doors, [])).2 := rfl
    rw [hfin] at fin
    clear hfin hne
    generalize fsOf ds = sf at h64 hdl fin ⊢
    rintro _ _ ⟨⟩
    refine Ex_freeze (x := "doors") rfl hbX ?_
    have hsl : (psortK ltS id sf.stays).length < 64 := by rw [psortK_length SwoS h64]; exact h64
    refine Ex_cons (Ex_newlist (.inl rfl) fun fa hfk hfX => ?_)
    have hfl : ∀ xs : List D, fa ∉ keys ([(a, xs)] : Ls) := fun xs h => hfk ((List.mem_cons.mp h).elim (fun e => e ▸ .head _) fun h => nomatch h)
    refine Ex_cons (Ex_for (k := 20) ((psortK ltS id sf.stays).map fSt) (fun ls => LsOf ls (.fl ((psortK ltS id sf.stays).map fSt)) ((psortK ltS id sf.stays).map fSt)) (FdI ds fa a sf.stays (psortK ltS id sf.stays) sf.doors)
      [("deeds", .fl (ds.map fD)), ("doors", .fl (sf.doors.map fNt)), ("fates", .raw (.ref fa))] (Ext.cons rfl (Ext.cons rfl (Ext.cons rfl (Ext.nil _))))
      (EvI_list _ (Ev_bi T.sorted rfl rfl rfl (Evs_cons (Ev_name rfl (Evs_nil (CallB_sorted SortFS SwoS (.tl .hd) h64 ⟨rfl, .fl, .mk 0 sf.doors [] rfl hdl (Nat.le_refl _) (Nat.zero_le _)⟩)))))) (fun _ _ _ _ => .fl) ?_ ?_)
    · generalize psortK ltS id sf.stays = L at hsl
      generalize sf.stays = st0
      clear fin h64 hdl
      rintro i x _ _ hx ⟨dr, ft, hfold, hdr54, hfti, hile⟩ s0' X0' Z0'
      rw [List.getElem?_map] at hx
      obtain ⟨p, hp, rfl⟩ := Option.map_eq_some_iff.mp hx
      have hil := (List.getElem?_eq_some_iff.mp hp).1
      have hfold' : (L.take (i + 1)).foldl (ftStep (2 * ds.length)) (sf.doors, []) = (dr.filter fun h => h != wentOf (2 * ds.length) dr p.2, ft ++ [(p.1, p.2, wentOf (2 * ds.length) dr p.2)]) := by
        rw [take_snoc hp, List.foldl_append, hfold]; rfl
      have hdm : (dr.map fNt).length < 2 ^ 19 := by rw [List.length_map]; exact lt54_19 hdr54 (Nat.le_refl _)
      refine ⟨_, Asg_tup2 (.inl rfl) (.inr ⟨rfl, _, rfl, .tail _ (.head _)⟩), ?_⟩
      refine Ex_cons (Ex_assign_comp (k := 18) (dr.map fNt) (fun ls => LsOf ls (.fl (dr.map fNt)) (dr.map fNt)) [("came", s0.heap.objs.size + 2)] [("came", .int (p.2 : Nat))] (FcI (fun h => decide (p.2 < h)) fNt dr [(fa, ft.map fFt), (a, st0.map fSt)]) (.inl rfl) rfl (Sees.one rfl rfl rfl rfl rfl) (by decide) (by decide) (EvI_list _ (Ev_name rfl ⟨rfl, .fl, .mk 0, ?_⟩)) hdm (fun _ _ _ _ => .fl) (fun _ _ _ => .fl) ?_)
      · rintro j x _ _ hx ⟨_⟩ _ L D' s1' X1' Z1' hD
        rw [List.getElem?_map] at hx
        obtain ⟨h, hh, rfl⟩ := Option.map_eq_some_iff.mp hx
        refine ⟨_, Ext.cons rfl (Ext.nil _), Asg_name (.inl rfl), ?_⟩
        exact EvB.of_cmp (Ev_name rfl (Ev_name rfl (Op2_gt ⟨_, rfl, fun ht => Ev_name rfl (.yes _ _ rfl (FcI.t hh (gt_t ht))), fun ht => .no _ rfl (FcI.f hh (gt_f ht))⟩)))
      intro _ _ _ hI
      obtain ⟨rfl, rfl⟩ := hI.all
      clear hI
      have hwc := fun x l => @wentOf_cons (2 * ds.length) x l dr p.2
      have hwn := @wentOf_nil (2 * ds.length) dr p.2
      have hfl' := List.length_filter_le (fun h => decide (p.2 < h)) dr
      generalize dr.filter (fun h => decide (p.2 < h)) = dl at hwc hwn hfl'
      generalize wentOf (2 * ds.length) dr p.2 = wt at hfold' hwc hwn
      refine Ex_cons (Ex_assign (.inr ⟨rfl, _, rfl, .head _⟩) (Ev.mono (P := Is (.int (wt : Nat)) [(fa, ft.map fFt), (a, st0.map fSt)]) (Ev_ifexp (EvB.of_cmp (Ev_name rfl (Ev_list (Evs_nil ⟨by simp, Op2_neD (k := 19) (PyOf.lst .fl fun _ => rfl) (PyOf.lst (f := fNt) (xs := []) .fl fun _ => rfl) (Nat.le_trans (depth_list CmpN.depth _) (by decide)) ⟨_, rfl, fun hn => ?_, fun hn => ?_⟩⟩))))) ?_))
      · obtain ⟨x, l, rfl⟩ := neNil_of hn
        rw [hwc x l rfl]
        exact Ev_sub (Ev_name rfl (Ev_int (Op2_itemF (f := fNt) (x := x) (xs := x :: l) (i := 0) .fl rfl (lt54_20 hfl' hdr54) ⟨rfl, rfl⟩)))
      · rw [hwn (nil_of hn)]
        refine Ev_bin (Ev_int (Ev_bi T.len rfl rfl rfl (Evs_cons (Ev_name rfl (Evs_nil (CallB_len .fl hnd (Op2_mul (IntMulOk.of_left (by decide)) ⟨?_, rfl⟩)))))))
        rw [List.length_map, mul2]
      rintro _ _ ⟨rfl, rfl⟩
      refine Ex_cons (Ex_assign_comp (k := 18) (dr.map fNt) (fun ls => LsOf ls (.fl (dr.map fNt)) (dr.map fNt)) [("went", s0.heap.objs.size + 3)] [("went", .int (wt : Nat))] (FcI (fun h => h != wt) fNt dr [(fa, ft.map fFt), (a, st0.map fSt)]) (.inl rfl) rfl (Sees.one rfl rfl rfl rfl rfl) (by decide) (by decide) (EvI_list _ (Ev_name rfl ⟨rfl, .fl, .mk 0, ?_⟩)) hdm (fun _ _ _ _ => .fl) (fun _ _ _ => .fl) ?_)
      · rintro j x _ _ hx ⟨_⟩ _ L D' s1' X1' Z1' hD
        rw [List.getElem?_map] at hx
        obtain ⟨h, hh, rfl⟩ := Option.map_eq_some_iff.mp hx
        refine ⟨_, Ext.cons rfl (Ext.nil _), Asg_name (.inl rfl), ?_⟩
        exact EvB.of_cmp (Ev_name rfl (Ev_name rfl (Op2_ne ⟨_, rfl, fun ht => Ev_name rfl (.yes _ _ rfl (FcI.t hh (ne_t ht))), fun ht => .no _ rfl (FcI.f hh (ne_f ht))⟩)))
      intro _ _ _ hI
      obtain ⟨rfl, rfl⟩ := hI.all
      clear hI
      refine Ex_cons (Ex_expr (Ev_meth "list.append" F.slot_list_append F.type_list_append (Ev_name rfl ⟨_, .hd, EvArgs_plain (Evs_cons (Ev_tuple (Evs_cons (Ev_name rfl (Evs_cons (Ev_name rfl (Evs_cons (Ev_name rfl (Evs_nil ⟨by simp [sizeLine_eq], Evs_nil (CallB_append (.head _) (by rw [List.length_map]; exact lt64_20 (Nat.lt_of_le_of_lt hfti (Nat.lt_trans hil hsl))) ?_)⟩)))))))))⟩)))
      rw [lset_cons_eq (hfl _)]
      have e1 : ft.map fFt ++ [D.tup [fT p.1, .int (p.2 : Nat), .int (wt : Nat)]] = (ft ++ [(p.1, p.2, wt)]).map fFt := by rw [List.map_append]; rfl
      rw [e1]
      exact Ex_nil ⟨_, Ext.cons rfl (Ext.cons rfl (Ext.cons rfl (Ext.nil _))), .mk _ _ _ hfold' (Nat.le_trans (List.length_filter_le ..) hdr54) (by rw [List.length_append]; exact Nat.succ_le_succ hfti) hil⟩
    · rw [List.length_map]
      rintro _ _ ⟨dr, ft, hfold, _, _, _⟩
      rw [List.take_length] at hfold
      rw [hfold] at fin
      exact Ex_cons (Ex_retL rfl hfX (fin (.ret (.fl (ft.map fFt))) _ [_] rfl))
end Mine
end

noncomputable section
set_option genSizeOf false
set_option genInjectivity false
set_option Elab.async false
set_option linter.unusedVariables false
set_option maxRecDepth 10000
namespace Mine
open PySem PySem.Calls PyProof.Rows PySem.W

def lawHeap (kind : Int) (items : List Thing) (H : List Thing) : List Thing × List Thing :=
  if kind == 2 then (if H = [] then ([], []) else ([(hpop ltT H.dropLast (H.getLastD (0, 0))).1], (hpop ltT H.dropLast (H.getLastD (0, 0))).2))
  else if kind == 3 then ([(hpp ltT H (items.headD (0, 0))).1], (hpp ltT H (items.headD (0, 0))).2)
  else if kind == 4 then (match H with
    | [] => ([], [])
    | z :: zs => ([z], hrepl ltT zs (items.headD (0, 0))))
  else if kind == 5 then ([], hify ltT (H ++ items))
  else if decide (kind < 2) then ([], hpush ltT H (items.headD (0, 0)))
  else ([], H)

theorem LtT : LtF fT ltT := CmpT.ltF (by walk_at "n")

section
variable {k : Int} {its : List Thing} {H : List Thing} {x : Thing}
theorem lh2 {ys : List Thing} {y : Thing} (h : (k == 2) = true) : lawHeap k its (ys ++ [y]) = ([(hpop ltT ys y).1], (hpop ltT ys y).2) := by
  unfold lawHeap; rw [if_pos h, if_neg (by simp)]; simp
theorem lh3 (h2 : (k == 2) = false) (h : (k == 3) = true) : lawHeap k (x :: its) H = ([(hpp ltT H x).1], (hpp ltT H x).2) := by
  unfold lawHeap; rw [h2, h]; rfl
theorem lh4 {z : Thing} {zs : List Thing} (h2 : (k == 2) = false) (h3 : (k == 3) = false) (h : (k == 4) = true) : lawHeap k (x :: its) (z :: zs) = ([z], hrepl ltT zs x) := by
  unfold lawHeap; rw [h2, h3, h]; rfl
theorem lh5 (h2 : (k == 2) = false) (h3 : (k == 3) = false) (h4 : (k == 4) = false) (h : (k == 5) = true) : lawHeap k its H = ([], hify ltT (H ++ its)) := by
  unfold lawHeap; rw [h2, h3, h4, h]; rfl
theorem lh1 (h2 : (k == 2) = false) (h3 : (k == 3) = false) (h4 : (k == 4) = false) (h5 : (k == 5) = false) (h : decide (k < 2) = true) : lawHeap k (x :: its) H = ([], hpush ltT H x) := by
  unfold lawHeap; rw [h2, h3, h4, h5, h]; rfl
theorem lh6 (h2 : (k == 2) = false) (h3 : (k == 3) = false) (h4 : (k == 4) = false) (h5 : (k == 5) = false) (h : decide (k < 2) = false) : lawHeap k its H = ([], H) := by
  unfold lawHeap; rw [h2, h3, h4, h5, h]; rfl
end
theorem lt18_19 {n : Nat} (h : n < 2 ^ 18) : n < 2 ^ 19 := Nat.lt_trans h (by decide)
theorem lt18_add {n m : Nat} (h : n < 2 ^ 18) (h2 : m < 2 ^ 18) : n + (m + 1) < 2 ^ 19 := by walk_at "n"

theorem Fn_law_heap {g : Gx} (T : TX g) {a : Addr} {H : List Thing} {kind : Int} {x : Thing} {its : List Thing} (hb : H.length < 2 ^ 18) (hi : its.length < 2 ^ 18) (hne : ¬ (H = [] ∧ (kind = 2 ∨ kind = 4))) :
    Fn g 21 (.ref (faOf 19)) [.raw (.ref a), .int kind, .fl ((x :: its).map fT)] [] [(a, H.map fT)] (Is (.fl ((lawHeap kind (x :: its) H).1.map fT)) [(a, (lawHeap kind (x :: its) H).2.map fT)]) := by
  refine Fn_i T.h19 T.lim (ρ0 := [("heap", .raw (.ref a)), ("kind", .int kind), ("items", .fl ((x :: its).map fT))]) (bind3 fun _ _ _ => rfl) ["heap", "kind", "items"] [] rfl (by kernel_rfl) (fun _ => rfl) rfl fun s0 X0 PF fin => ?_
  have fin : ∀ R, lawHeap kind (x :: its) H = R → ∀ ρ, PF (.ret (.fl (R.1.map fT))) ρ [(a, R.2.map fT)] := fun R e ρ => by rw [← e]; exact fin (.ret _) ρ [] rfl
  have hi20 : (x :: its).length < 2 ^ 20 := lt20 (Nat.lt_of_le_of_lt (Nat.succ_le_of_lt hi) (by decide))
  refine Ex_cons (Ex_try ?_)
  refine Ex_cons (Ex_if (EvB.of_cmp (Ev_name rfl (Ev_int (Op2_eq ⟨_, rfl, fun h2 => ?_, fun h2 => ?_⟩)))))
  · have hH : H ≠ [] := fun e => hne ⟨e, .inl (eq_of_beq h2)⟩
    clear hne
    obtain ⟨ys, y, rfl⟩ : ∃ ys y, H = ys ++ [y] := ⟨H.dropLast, H.getLast hH, (List.dropLast_concat_getLast hH).symm⟩
    have hb' : ys.length < 2 ^ 19 := lt18_19 (Nat.lt_of_le_of_lt (List.length_append ▸ Nat.le_add_right _ _) hb)
    exact Ex_cons (Ex_ret (Ev_list (Evs_cons (Ev_def T.h2 rfl rfl rfl (Evs_cons (Ev_name rfl (Evs_nil (CallB_one (.head _) (Fn_heappop T LtT hb') (by walk_at "n") (by rw [lset_one]; exact Evs_nil ⟨by simp [sizeLine_eq], fin _ (lh2 h2) _⟩)))))))))
  refine Ex_nil ?_
  refine Ex_cons (Ex_if (EvB.of_cmp (Ev_name rfl (Ev_int (Op2_eq ⟨_, rfl, fun h3 => ?_, fun h3 => ?_⟩)))))
  · exact Ex_cons (Ex_ret (Ev_list (Evs_cons (Ev_def T.h4 rfl rfl rfl (Evs_cons (Ev_name rfl (Evs_cons (Ev_sub (Ev_name rfl (Ev_int (Op2_itemF (x := x) (i := 0) .fl rfl hi20 (Evs_nil (CallB_one (.head _) (Fn_heappushpop T LtT (lt18_19 hb)) (by walk_at "n") (by rw [lset_one]; exact Evs_nil ⟨by simp [sizeLine_eq], fin _ (lh3 h2 h3) _⟩))))))))))))))
  refine Ex_nil ?_
  refine Ex_cons (Ex_if (EvB.of_cmp (Ev_name rfl (Ev_int (Op2_eq ⟨_, rfl, fun h4 => ?_, fun h4 => ?_⟩)))))
  · cases H with
    | nil => exact absurd ⟨rfl, .inr (eq_of_beq h4)⟩ hne
    | cons z zs =>
      exact Ex_cons (Ex_ret (Ev_list (Evs_cons (Ev_def T.h3 rfl rfl rfl (Evs_cons (Ev_name rfl (Evs_cons (Ev_sub (Ev_name rfl (Ev_int (Op2_itemF (x := x) (i := 0) .fl rfl hi20 (Evs_nil (CallB_one (.head _) (Fn_heapreplace T LtT (lt18_19 (Nat.lt_of_succ_lt hb))) (by walk_at "n") (by rw [lset_one]; exact Evs_nil ⟨by simp [sizeLine_eq], fin _ (lh4 h2 h3 h4) _⟩))))))))))))))
  refine Ex_nil (Ex_nil (Ex_nil ?_))
  clear hne
  refine Ex_cons (Ex_if (EvB.of_cmp (Ev_name rfl (Ev_int (Op2_eq ⟨_, rfl, fun h5 => ?_, fun h5 => ?_⟩)))))
  · refine Ex_cons (Ex_expr (Ev_meth "list.extend" F.slot_list_extend F.type_list_extend (Ev_name rfl ⟨_, .hd, EvArgs_plain (Evs_cons (Ev_name rfl (Evs_nil (CallB_extend (.head _) .fl (by rw [List.length_map]; exact lt20 (lt18_19 hb)) (by rw [List.length_map]; exact hi20) ?_))))⟩)))
    rw [lset_one, ← List.map_append]
    exact Ex_cons (Ex_ret (Ev_ifexp (EvB.of_cmp (Ev_def T.h5 rfl rfl rfl (Evs_cons (Ev_name rfl (Evs_nil (CallB_one (.head _) (Fn_heapify T LtT (by rw [List.length_append]; exact lt18_add hb hi)) (by walk_at "n") (by rw [lset_one]; exact Ev_none (Op2_isNone true (.inl ⟨rfl, rfl⟩) ⟨_, rfl, fun _ => Ev_list (Evs_nil ⟨by simp, fin _ (lh5 h2 h3 h4 h5) _⟩), fun h => by cases h⟩))))))))))
  refine Ex_nil ?_
  refine Ex_cons (Ex_if (EvB.of_cmp (Ev_name rfl (Ev_int (Op2_lt ⟨_, rfl, fun h => ?_, fun h => ?_⟩)))))
  · exact Ex_cons (Ex_ret (Ev_ifexp (EvB.of_cmp (Ev_def T.h1 rfl rfl rfl (Evs_cons (Ev_name rfl (Evs_cons (Ev_sub (Ev_name rfl (Ev_int (Op2_itemF (x := x) (i := 0) .fl rfl hi20 (Evs_nil (CallB_one (.head _) (Fn_heappush T LtT (lt18_19 hb)) (by walk_at "n") (by rw [lset_one]; exact Ev_none (Op2_isNone true (.inl ⟨rfl, rfl⟩) ⟨_, rfl, fun _ => Ev_list (Evs_nil ⟨by simp, fin _ (lh1 h2 h3 h4 h5 h) _⟩), fun h => by cases h⟩)))))))))))))))
  exact Ex_nil (Ex_cons (Ex_ret (Ev_list (Evs_nil ⟨by simp, fin _ (lh6 h2 h3 h4 h5 h) _⟩))))
end Mine
end

noncomputable section
set_option genSizeOf false
set_option genInjectivity false
set_option Elab.async false
set_option linter.unusedVariables false
set_option maxRecDepth 10000
namespace Mine
open PySem PySem.Calls PyProof.Rows PySem.W

/- what a def that makes lambdas needs of the top -/
structure LamX (g : Gx) (i : Nat) (fa : Addr) (r : Rest) : Prop where
  ex : ∃ cc Pt mg, (cc, Pt) ∈ g.tabs ∧ r.code = .ref cc ∧ CodeHd g.G cc Pt ∧ g.qual Pt = (callEnvC (mkFd i .none .none r) 0 fa).qual ++ "<lambda>" ∧ g.G.Ns mainGlobals mg ∧ g.G.BuiltinsAt mg Pt

theorem LamX.ev {g : Gx} {i : Nat} {fa : Addr} {r : Rest} (X : LamX g i fa r) {s0 s0' : Shared} {X0 X0' Z0' : List Addr} {ml : Ls} {k : Nat} {ρ : Rho} {ls : Ls} {P : D → Ls → Prop} {params : Arguments} {body : Expr} {scope : Scope} {pos : Pos}
    (h : ∀ q pm cv ctv, P (.lam (kla_fn "<lambda>" q params body scope [] pm cv ctv)) ls)
    (hdef : defaultsOf params (cxOf (mkFd i .none .none r) fa g s0 X0 ml).env = ([], []) := by rfl) (hcl : closureFor scope (cxOf (mkFd i .none .none r) fa g s0 X0 ml).env = pure [] := by rfl) :
    Ev ((cxOf (mkFd i .none .none r) fa g s0 X0 ml).re s0' X0' Z0') k (eval (.Lambda params body scope pos) (cxOf (mkFd i .none .none r) fa g s0 X0 ml).env) ρ ls P := by
  obtain ⟨cc, Pt, mg, h1, h2, h3, h4, h5, h6⟩ := X.ex
  exact Ev_lambda (c := (cxOf (mkFd i .none .none r) fa g s0 X0 ml).re s0' X0' Z0') (cc := cc) (Pt := Pt) (mg := mg) h1 h2 h3 h4 h5 h6 rfl rfl (fun pm cv ctv => h _ pm cv ctv) hdef hcl

/- lambda thing: thing[0] -/
theorem key0 {q : Str} {params : Arguments} {body : Expr} {scope : Scope} {pm cv ctv : Value} {p : Str} (hb : ∀ v, bindArgs (kla_fn "<lambda>" q params body scope [] pm cv ctv) ⟨[v], []⟩ = pure [(p, v)]) (hk : scope.names = [(p, .local)]) (hsk : scope.kind = .function) (hco : scope.isCoroutine = false) (hg : scope.isGenerator = false)
    {x y : D} (h : ∀ g s X q', Ev (cxOf (kla_fn "<lambda>" q params body scope [] pm cv ctv) q' g s X []) 7 (eval body (cxOf (kla_fn "<lambda>" q params body scope [] pm cv ctv) q' g s X []).env) [(p, x)] [] (fun d _ => d = y)) : KeyIs (.lam (kla_fn "<lambda>" q params body scope [] pm cv ctv)) x y :=
  KeyIs_lam (e := body) (p := p) rfl rfl hb (by show scope.names.lookup p = _; rw [hk]; simp) (fun n => by show cellsFrom n scope.names [] = []; rw [hk]; rfl) hsk hco hg h

def popH : List Thing → List Thing × List Thing
  | [] => ([], [])
  | z :: zs => ([z], zs)
def rowA (kind : Int) (R : List Thing) : List Thing × List Thing := if kind == 4 then popH R else ([], R)
def rowB (kind : Int) (items : List Thing) (s : List Thing × List Thing) : List Thing := if inK [0, 1, 3, 5] kind || !s.1.isEmpty then items.foldl (insR (fun p => p.1) (fun a b : Int => decide (a < b))) s.2 else s.2
def rowC (kind : Int) (gone R2 : List Thing) : List Thing × List Thing := if inK [2, 3] kind then (gone ++ (popH R2).1, (popH R2).2) else (gone, R2)
def lawRow (kind : Int) (items : List Thing) (R : List Thing) : List Thing × List Thing := rowC kind (rowA kind R).1 (rowB kind items (rowA kind R))
end Mine
end

noncomputable section
set_option genSizeOf false
set_option genInjectivity false
set_option Elab.async false
set_option linter.unusedVariables false
set_option maxRecDepth 10000
namespace Mine
open PySem PySem.Calls PyProof.Rows PySem.W

variable {α β : Type}
theorem insR_length (κ : α → β) (lt : β → β → Bool) (xs : List α) (x : α) : (insR κ lt xs x).length = xs.length + 1 := by
  unfold insR
  have := brGo_le (fun y => lt (κ x) (κ y)) xs 0 xs.length (Nat.zero_le _)
  simp; walk_at "n"
theorem insR_fold_length (κ : α → β) (lt : β → β → Bool) : ∀ (l xs : List α), (l.foldl (insR κ lt) xs).length = xs.length + l.length
  | [], xs => rfl
  | x :: l, xs => by rw [List.foldl_cons, insR_fold_length, insR_length, List.length_cons]; walk_at "n"

section
variable {c : Cx} {k : Nat} {ρ : Rho} {ls : Ls} {P : D → Ls → Prop} {PB : Bool → Ls → Prop} {PF : Fl → Rho → Ls → Prop}
/- x != [] -/
theorem EvB_neNil {x : Str} {p lp pos : Pos} {whole : Sem Value} {d : D} {xs : List Thing} (hx : ρ.lookup x = some d) (L : LsOf ls d (xs.map fT)) (h : PB (!xs.isEmpty) ls)
    (hd : (x == ("__debug__" : Str)) = false := by decide) (hm : behindInMarks .NotEq (.List [] lp) = false := by with_unfolding_all rfl) :
    EvB c (k+1) (isTrue (.Compare (.Name x p) [.NotEq] [.List [] lp] pos) c.env whole) ρ ls PB :=
  EvB.of_cmp (Ev_name hx (Ev_list (Evs_nil ⟨by simp, Op2_neD (PyOf.lst L fun _ => CmpT.plain _) (PyOf.lst (f := fT) (xs := []) .fl fun _ => CmpT.plain _) (Nat.le_trans (depth_list CmpT.depth _) (by walk_at "n")) ⟨_, rfl, by
    cases xs with
    | nil => simpa [pys, PyData.eqv, PyData.eqvAll] using h
    | cons a l => simpa [pys, PyData.eqv, PyData.eqvAll] using h⟩⟩)) hd) hm
end

/- the states of `_law_row` -/
def rowF (its xs : List Thing) (j : Nat) : List Thing := (its.take j).foldl (insR (fun p => p.1) (fun a b : Int => decide (a < b))) xs
theorem rowF_length {its xs : List Thing} {j : Nat} (h : j ≤ its.length) : (rowF its xs j).length = xs.length + j := by unfold rowF; rw [insR_fold_length, List.length_take, Nat.min_eq_left h]
theorem rowF_succ {its xs : List Thing} {j : Nat} {p : Thing} (h : its[j]? = some p) : rowF its xs (j + 1) = insR (fun p => p.1) (fun a b : Int => decide (a < b)) (rowF its xs j) p := by
  unfold rowF; rw [take_snoc h, List.foldl_append]; rfl
theorem rowF_all {its xs : List Thing} : rowF its xs its.length = its.foldl (insR (fun p => p.1) (fun a b : Int => decide (a < b))) xs := by unfold rowF; rw [List.take_length]
def rwR (b e : Addr) (kind : Int) (its : List Thing) : Rho := [("row", .raw (.ref b)), ("kind", .int kind), ("items", .fl (its.map fT)), ("gone", .raw (.ref e))]
theorem rwR_ext {b e : Addr} {kind : Int} {its : List Thing} {ρ : Rho} (h1 : ρ.lookup ("row" : Str) = some (.raw (.ref b))) (h2 : ρ.lookup ("kind" : Str) = some (.int kind)) (h3 : ρ.lookup ("items" : Str) = some (.fl (its.map fT))) (h4 : ρ.lookup ("gone" : Str) = some (.raw (.ref e))) : Ext (rwR b e kind its) ρ :=
  Ext.cons h1 (Ext.cons h2 (Ext.cons h3 (Ext.cons h4 (Ext.nil _))))
inductive RwI (b e : Addr) (kind : Int) (its G R : List Thing) : Rho → Ls → Prop
  | mk : RwI b e kind its G R (rwR b e kind its) [(e, G.map fT), (b, R.map fT)]
inductive RfI (b e : Addr) (kind : Int) (its G R : List Thing) : Nat → Rho → Ls → Prop
  | mk (j : Nat) : RfI b e kind its G R j (rwR b e kind its) [(e, G.map fT), (b, (rowF its R j).map fT)]
theorem row4 {k : Int} {R : List Thing} (h : (k == 4 && !R.isEmpty) = false) : rowA k R = ([], R) := by
  unfold rowA
  cases R with
  | nil => cases (k == 4) <;> rfl
  | cons z zs => cases e : (k == 4) with
    | false => rfl
    | true => rw [e] at h; cases h
theorem rowC0 {k : Int} {G R : List Thing} (h : (inK [2, 3] k && !R.isEmpty) = false) : rowC k G R = (G, R) := by
  unfold rowC
  cases R with
  | nil => cases inK [2, 3] k <;> first | rfl | exact congrArg (fun l => (l, ([] : List Thing))) (List.append_nil G)
  | cons z zs => cases e : inK [2, 3] k with
    | false => rfl
    | true => rw [e] at h; cases h
theorem rowB_t {k : Int} {its : List Thing} {s : List Thing × List Thing} (h : (inK [0, 1, 3, 5] k || !s.1.isEmpty) = true) : rowB k its s = its.foldl (insR (fun p => p.1) (fun a b : Int => decide (a < b))) s.2 := if_pos h
theorem rowB_f {k : Int} {its : List Thing} {s : List Thing × List Thing} (h : (inK [0, 1, 3, 5] k || !s.1.isEmpty) = false) : rowB k its s = s.2 := if_neg (by rw [h]; exact Bool.false_ne_true)
theorem and_t {a b : Bool} (h : (a && b) = true) : a = true ∧ b = true := Bool.and_eq_true_iff.mp h
theorem ne_nilE {l : List Thing} (h : (!l.isEmpty) = true) : ∃ z zs, l = z :: zs := by
  cases l with
  | nil => cases h
  | cons z zs => exact ⟨z, zs, rfl⟩
theorem lt17a {n m : Nat} (h : n < 2 ^ 17) (h2 : m ≤ n) : m < 2 ^ 19 := by walk_at "n"
theorem lt17b {n m j l : Nat} (h : n < 2 ^ 17) (h2 : m ≤ n) (hj : j < l) (hl : l ≤ 3) : m + j < 2 ^ 19 := by walk_at "n"

theorem Fn_law_row {g : Gx} (T : TX g) (X : LamX g 20 (faOf 20) (rOf 20)) {b : Addr} {R : List Thing} {kind : Int} {its : List Thing} (hb : R.length < 2 ^ 17) (hi : its.length ≤ 3) :
    Fn g 21 (.ref (faOf 20)) [.raw (.ref b), .int kind, .fl (its.map fT)] [] [(b, R.map fT)] (Is (.fl ((lawRow kind its R).1.map fT)) [(b, (lawRow kind its R).2.map fT)]) := by
  refine Fn_i T.h20 T.lim (ρ0 := [("row", .raw (.ref b)), ("kind", .int kind), ("items", .fl (its.map fT))]) (bind3 fun _ _ _ => rfl) ["row", "kind", "items"] [] rfl (by kernel_rfl) (fun _ => rfl) rfl fun s0 X0 PF fin => ?_
  have fin : ∀ G1 R2, (rowA kind R).1 = G1 → rowB kind its (rowA kind R) = R2 → ∀ R', rowC kind G1 R2 = R' → ∀ ρ, PF (.ret (.fl (R'.1.map fT))) ρ [(b, R'.2.map fT)] := fun G1 R2 e1 e2 R' e ρ => by
    subst e1 e2 e; exact fin (.ret _) ρ [] rfl
  refine Ex_cons (Ex_newlist (.inl rfl) fun e hek heX => ?_)
  have heb : e ≠ b := fun h => hek (h ▸ .head _)
  have hel : ∀ xs : List D, e ∉ keys ([(b, xs)] : Ls) := fun xs h => (List.mem_cons.mp h).elim heb fun h => nomatch h
  refine Ex_cut (RwI b e kind its (rowA kind R).1 (rowA kind R).2) ?_ ?_
  · clear fin
    refine Ex_if (EvB.and2P (fun _ => EvB_eqC rfl) (fun _ => EvB_neNil (k := 19) rfl (.tl .hd)) ⟨fun h => ?_, fun h => ?_⟩)
    · obtain ⟨h4, h5⟩ := and_t h
      obtain ⟨z, zs, rfl⟩ := ne_nilE h5
      rw [show rowA kind (z :: zs) = ([z], zs) from if_pos h4]
      refine Ex_cons (Ex_expr (Ev_meth "list.append" F.slot_list_append F.type_list_append (Ev_name rfl ⟨_, .hd, EvArgs_plain (Evs_cons (Ev_meth "list.pop" F.slot_list_pop F.type_list_pop (Ev_name rfl ⟨_, .tl .hd, EvArgs_plain (Evs_cons (Ev_int (Evs_nil (CallB_pop0 (.tail _ (.head _)) (by rw [List.length_map]; exact lt17a hb (Nat.le_succ _)) ?_))))⟩)))⟩)))
      rw [lset_cons_ne heb, lset_one]
      refine Evs_nil (CallB_append (.head _) (by decide) ?_)
      rw [lset_cons_eq (hel _)]
      exact Ex_nil ⟨_, rwR_ext rfl rfl rfl rfl, .mk⟩
    · rw [row4 h]
      exact Ex_nil ⟨_, rwR_ext rfl rfl rfl rfl, .mk⟩
  have hl1 : (rowA kind R).2.length ≤ R.length ∧ (rowA kind R).1.length ≤ 1 := by
    unfold rowA popH; split
    · cases R <;> simp
    · simp
  rintro _ _ ⟨⟩
  have hB := @rowB_t kind its (rowA kind R)
  have hB' := @rowB_f kind its (rowA kind R)
  have fin := fin _ _ rfl rfl
  generalize rowB kind its (rowA kind R) = R2 at fin hB hB'
  generalize rowA kind R = s1 at fin hl1 hB hB'
  have hR2 : R2.length ≤ s1.2.length + 3 := by
    by_cases h : (inK [0, 1, 3, 5] kind || !s1.1.isEmpty) = true
    · rw [hB h, insR_fold_length]; exact Nat.add_le_add_left hi _
    · rw [hB' (Bool.eq_false_iff.mpr h)]; exact Nat.le_add_right _ _
  refine Ex_cut (RwI b e kind its s1.1 R2) ?_ ?_
  · clear fin
    refine Ex_if (EvB.or2P (fun _ => EvB_inK [0, 1, 3, 5] rfl) (fun _ => EvB_neNil (k := 19) rfl .hd) ⟨fun h => ?_, fun h => ?_⟩)
    · rw [hB h]
      clear hB hB' hR2
      obtain ⟨o', ho', hd'⟩ := T.h14.at_
      refine Ex_cons (Ex_for (k := 18) (its.map fT) (fun ls => LsOf ls (.fl (its.map fT)) (its.map fT)) (RfI b e kind its s1.1 s1.2) _ (Ext.refl _) (EvI_list _ (Ev_name rfl ⟨rfl, .fl, .mk 0⟩)) (fun _ _ _ _ => .fl) ?_ ?_)
      · rintro j x _ _ hx ⟨_⟩ s0' X0' Z0'
        rw [List.getElem?_map] at hx
        obtain ⟨p, hp, rfl⟩ := Option.map_eq_some_iff.mp hx
        have hj := (List.getElem?_eq_some_iff.mp hp).1
        refine ⟨_, Asg_name (.inl rfl), ?_⟩
        refine Ex_cons (Ex_expr (Ev_callN (Ev_glob T.h14.gl rfl rfl rfl ⟨.inl ⟨_, _, _, rfl, ho', hd'⟩, EvArgs_kw [("key" : Str)] (Evs_cons (Ev_name rfl (Evs_cons (Ev_name rfl (Evs_nil (EvKs_cons (X.ev fun q pm cv ctv => EvKs_nil ⟨rfl, CallF.callB (Call_one (.tail _ (.head _)) (Fn_insort T LtF.int (κ := fun p : Thing => p.1) (fun x => key0 (p := "thing") (x := fT x) (y := .int x.1) (fun v => rfl) rfl rfl rfl rfl (fun g s X q' => Ev_sub (Ev_name rfl (Ev_int (Op2_itemT (by decide) rfl (by show 2 < 2 ^ 62; decide) rfl))))) (by rw [rowF_length (Nat.le_of_lt hj)]; exact lt17b hb hl1.1 hj hi)) (by walk_at "n") ?_)⟩)))))))⟩)))
        rw [lset_cons_ne heb, lset_one, ← rowF_succ hp]
        exact Ex_nil ⟨_, rwR_ext rfl rfl rfl rfl, .mk _⟩
      · rintro _ _ ⟨_⟩
        rw [List.length_map, rowF_all]
        exact Ex_nil ⟨_, Ext.refl _, .mk⟩
    · rw [hB' h]
      exact Ex_nil ⟨_, Ext.refl _, .mk⟩
  rintro _ _ ⟨⟩
  clear hB hB'
  refine Ex_cons (Ex_if (EvB.and2P (fun _ => EvB_inK [2, 3] rfl) (fun _ => EvB_neNil (k := 19) rfl (.tl .hd)) ⟨fun h => ?_, fun h => ?_⟩))
  · obtain ⟨h4, h5⟩ := and_t h
    obtain ⟨z, zs, rfl⟩ := ne_nilE h5
    have fin := fin _ (if_pos h4)
    refine Ex_cons (Ex_expr (Ev_meth "list.append" F.slot_list_append F.type_list_append (Ev_name rfl ⟨_, .hd, EvArgs_plain (Evs_cons (Ev_meth "list.pop" F.slot_list_pop F.type_list_pop (Ev_name rfl ⟨_, .tl .hd, EvArgs_plain (Evs_cons (Ev_int (Evs_nil (CallB_pop0 (.tail _ (.head _)) (by rw [List.length_map]; exact lt17b hb hl1.1 (by decide : 2 < 3) (by decide) |> Nat.lt_of_le_of_lt (Nat.le_of_succ_le_succ hR2)) ?_))))⟩)))⟩)))
    rw [lset_cons_ne heb, lset_one]
    refine Evs_nil (CallB_append (.head _) (by rw [List.length_map]; exact Nat.lt_of_le_of_lt hl1.2 (by decide)) ?_)
    rw [lset_cons_eq (hel _)]
    have e1 : s1.1.map fT ++ [fT z] = (s1.1 ++ [z]).map fT := by rw [List.map_append]; rfl
    rw [e1]
    exact Ex_nil (Ex_cons (Ex_retL rfl heX (fin _)))
  · exact Ex_nil (Ex_cons (Ex_retL rfl heX (fin _ (rowC0 h) _)))
end Mine
end

noncomputable section
set_option genSizeOf false
set_option genInjectivity false
set_option Elab.async false
set_option linter.unusedVariables false
set_option maxRecDepth 10000
namespace Mine
open PySem PySem.Calls PyProof.Rows PySem.W

variable {α β : Type}
section
variable {c : Cx} {k : Nat} {ρ : Rho} {ls : Ls} {P : D → Ls → Prop}
theorem CallB_max {a b : Int} (h : P (.int (if b > a then b else a)) ls) : CallB c k (.raw (.builtin "max")) [.int a, .int b] [] ρ ls P := by
  rintro A s v vs kvs hA S rfl ⟨v1, _, rfl, ⟨t, rfl⟩, v2, _, rfl, ⟨u, rfl⟩, rfl⟩ rk
  cases rk.nil
  refine max_two_ints hA.h fun h' tk hk => ⟨.int (if b > a then b else a), ls, rfl, S.ext hk rfl rfl, (show Keep s.heap h' from hk).stay, ?_, h⟩
  by_cases hc : b > a
  · rw [if_pos hc, if_pos hc]; exact ⟨u, rfl⟩
  · rw [if_neg hc, if_neg hc]; exact ⟨t, rfl⟩
end



def ltNT (u v : Nat × Thing) : Bool := lx2 (fun x y : Nat => decide (x < y)) (fun x y => x == y) ltT u.1 u.2 v.1 v.2
def eqNT (u v : Nat × Thing) : Bool := u.1 == v.1 && eqT u.2 v.2
theorem TotNT : Tot ltNT eqNT := Tot.two Tot.nat TotT
def lt3 (ltk eqk : β → β → Bool) (p q : β × Nat × Thing) : Bool := lx2 ltk eqk ltNT p.1 p.2 q.1 q.2
def eq3 (eqk : β → β → Bool) (p q : β × Nat × Thing) : Bool := eqk p.1 q.1 && eqNT p.2 q.2
theorem Tot3 {ltk eqk : β → β → Bool} (A : Tot ltk eqk) : Tot (lt3 ltk eqk) (eq3 eqk) := Tot.two A TotNT

theorem Lex3 {u w : Nat} {gk : β → D} {ltk eqk : β → β → Bool} (C : Cmp u w gk ltk eqk) (hw : w ≤ 10) {n : Nat} (hu : u ≤ n) (hn : 11 ≤ n) (p q : β × Nat × Thing) : Lex n [gk p.1, .int (p.2.1 : Nat), fT p.2.2] [gk q.1, .int (q.2.1 : Nat), fT q.2.2] (lt3 ltk eqk p q) :=
  Lex.more C hw hu (Lex.two CmpN CmpT (by walk_at "n") (by walk_at "n") (by walk_at "n") (by walk_at "n") (fun b b' h => by rw [(eqT_iff _ _).mp h]; exact TotT.irr _) _ _ _ _)
theorem LtF3 {u w : Nat} {gk : β → D} {ltk eqk : β → β → Bool} (C : Cmp u w gk ltk eqk) (hw : w ≤ 10) (hu : u ≤ 59) : LtF (fun p : β × Nat × Thing => .tup [gk p.1, .int (p.2.1 : Nat), fT p.2.2]) (lt3 ltk eqk) :=
  fun p q => LtD.tup (u := 59) (Lex3 C hw (by walk_at "n") (by walk_at "n") p q) (by walk_at "n")

/- the key (thing[0] % 3, thing) -/
abbrev K2 := Int × Thing
def gK2 (p : K2) : D := .tup [.int p.1, fT p.2]
def ltK2 (p q : K2) : Bool := lx2 (fun x y : Int => decide (x < y)) (fun x y => x == y) ltT p.1 p.2 q.1 q.2
def eqK2 (p q : K2) : Bool := p.1 == q.1 && eqT p.2 q.2
theorem TotK2 : Tot ltK2 eqK2 := Tot.two Tot.int TotT
theorem CmpK2 : Cmp 12 3 gK2 ltK2 eqK2 := Cmp.two (h := gK2) (p := fun p => p.1) (q := fun p => p.2) CmpI CmpT (by walk_at "n") (by walk_at "n") (n := 11) (m := 3) (by walk_at "n") (by walk_at "n") (by walk_at "n") (by walk_at "n") (by walk_at "n") (fun b b' h => by rw [(eqT_iff _ _).mp h]; exact TotT.irr _) (fun _ => rfl)
theorem SortFK2 : SortF gK2 ltK2 := SortF.tupI (z := fun p => p.1) (g := fun p => [fT p.2]) (fun _ => rfl) (fun a b => Lex.two CmpI CmpT (by walk_at "n") (by walk_at "n") (n := 60) (by walk_at "n") (by walk_at "n") (fun b b' h => by rw [(eqT_iff _ _).mp h]; exact TotT.irr _) _ _ _ _) (fun a b h => by unfold ltK2 lx2; simp [h])
theorem SortF3i : SortF (fun p : Int × Nat × Thing => D.tup [.int p.1, .int (p.2.1 : Nat), fT p.2.2]) (lt3 (fun x y : Int => decide (x < y)) (fun x y => x == y)) :=
  SortF.tupI (z := fun p => p.1) (g := fun p => [.int (p.2.1 : Nat), fT p.2.2]) (fun _ => rfl) (fun a b => Lex3 CmpI (by walk_at "n") (by walk_at "n") (by walk_at "n") a b) (fun a b h => by unfold lt3 lx2; simp [h])
theorem SortF3t : SortF (fun p : K2 × Nat × Thing => D.tup [gK2 p.1, .int (p.2.1 : Nat), fT p.2.2]) (lt3 ltK2 eqK2) :=
  SortF.tupT (z := fun p => [.int p.1.1, fT p.1.2]) (g := fun p => [.int (p.2.1 : Nat), fT p.2.2]) (fun _ => rfl) (fun a b => Lex3 CmpK2 (by walk_at "n") (by walk_at "n") (by walk_at "n") a b)
theorem SortFI : SortF D.int (fun a b : Int => decide (a < b)) := SortF.int (fun _ => rfl)
end Mine
end

noncomputable section
set_option genSizeOf false
set_option genInjectivity false
set_option Elab.async false
set_option linter.unusedVariables false
set_option maxRecDepth 10000
namespace Mine
open PySem PySem.Calls PyProof.Rows PySem.W

def k3 (p : Thing) : Int := p.1.fmod 3
def few1 (n : Int) (xs : List Thing) : List Thing := nsAll ltT ltS id (fun p : Thing × Nat => p.1) (fun x i => (x, i)) (fun p => p.1) n xs
def few2 (n : Int) (xs : List Thing) : List Thing := nsAll ltK2 (lt3 ltK2 eqK2) (fun x : Thing => ((k3 x, x) : K2)) (fun p => p.1) (fun x i => ((k3 x, x), i, x)) (fun p => p.2.2) n xs
def few3 (n : Int) (xs : List Thing) : List Thing := nsAll (fun x y : Int => decide (x < y)) (lt3 (fun x y : Int => decide (x < y)) (fun x y => x == y)) k3 (fun p => p.1) (fun x i => (k3 x, i, x)) (fun p => p.2.2) n xs
def lawFew (H R I : List Thing) (n : Int) : Bool :=
  decide (few1 n H = I.take (max n 0).toNat) && (decide (few2 n H = (psortK (fun x y : Int => decide (x < y)) k3 I).take (max n 0).toNat) && decide (few3 n R.reverse = (psortK (fun x y : Int => decide (x < y)) k3 I.reverse).take (max n 0).toNat))

theorem eqv_T (xs ys : List Thing) : PyData.eqv (.list (pys (xs.map fT))) (.list (pys (ys.map fT))) = decide (xs = ys) := by
  rw [Bool.eq_iff_iff, decide_eq_true_eq]
  exact eqv_map CmpT.eq eqT_iff xs ys

section
variable {c : Cx} {k : Nat} {ρ : Rho} {ls : Ls} {P : D → Ls → Prop} {PB : Bool → Ls → Prop}
theorem Op2_neT {d1 d2 : D} {xs ys : List Thing} (h1 : LsOf ls d1 (xs.map fT)) (h2 : LsOf ls d2 (ys.map fT)) (h : P (.bool (!decide (xs = ys))) ls) : Op2 c (k+1) (compareOp .NotEq) d1 d2 ρ ls P :=
  Op2_neD (PyOf.lst h1 fun _ => CmpT.plain _) (PyOf.lst h2 fun _ => CmpT.plain _) (Nat.le_trans (depth_list CmpT.depth _) (by walk_at "n")) (by rw [eqv_T]; exact h)
theorem Op2_eqT {d1 d2 : D} {xs ys : List Thing} (h1 : LsOf ls d1 (xs.map fT)) (h2 : LsOf ls d2 (ys.map fT)) (h : P (.bool (decide (xs = ys))) ls) : Op2 c (k+1) (compareOp .Eq) d1 d2 ρ ls P :=
  Op2_eqD (PyOf.lst h1 fun _ => CmpT.plain _) (PyOf.lst h2 fun _ => CmpT.plain _) (Nat.le_trans (depth_list CmpT.depth _) (by walk_at "n")) (by rw [eqv_T]; exact h)
end

theorem LamX.ev0 {g : Gx} {i : Nat} {fa : Addr} {r : Rest} (X : LamX g i fa r) {s0 : Shared} {X0 : List Addr} {ml : Ls} {k : Nat} {ρ : Rho} {ls : Ls} {P : D → Ls → Prop} {params : Arguments} {body : Expr} {scope : Scope} {pos : Pos}
    (h : ∀ q pm cv ctv, P (.lam (kla_fn "<lambda>" q params body scope [] pm cv ctv)) ls)
    (hdef : defaultsOf params (cxOf (mkFd i .none .none r) fa g s0 X0 ml).env = ([], []) := by rfl) (hcl : closureFor scope (cxOf (mkFd i .none .none r) fa g s0 X0 ml).env = pure [] := by rfl) :
    Ev (cxOf (mkFd i .none .none r) fa g s0 X0 ml) k (eval (.Lambda params body scope pos) (cxOf (mkFd i .none .none r) fa g s0 X0 ml).env) ρ ls P := by
  obtain ⟨cc, Pt, mg, h1, h2, h3, h4, h5, h6⟩ := X.ex
  exact Ev_lambda (c := cxOf (mkFd i .none .none r) fa g s0 X0 ml) (cc := cc) (Pt := Pt) (mg := mg) h1 h2 h3 h4 h5 h6 rfl rfl (fun pm cv ctv => h _ pm cv ctv) hdef hcl

theorem lt61 {n : Int} (h : n < 2 ^ 61) : n < 2 ^ 62 := by walk_at "n"
theorem gt61 {n : Int} (h : -(2 ^ 61) ≤ n) : -(2 ^ 62) ≤ n := by walk_at "n"
theorem tupT (a : Thing) : ∃ l, fT a = .tup l := ⟨_, rfl⟩
section
variable {g : Gx} (T : TX g) {d : D} {n : Int} {xs : List Thing} {ml : Ls} (hL : LsOf ml d (xs.map fT)) (h64 : xs.length < 64) (hn0 : -(2^61) ≤ n) (hn : n < 2^61) {fd : FuncData}
include T hL h64 hn0 hn
theorem Fn_few1 : Fn g 23 (.ref (faOf 12)) [.int n, d] [] ml (Is (.fl ((few1 n xs).map fT)) ml) :=
  Fn_nsmallest T LtT SortFT SwoT (CmpS.ltF (by decide)) SortFS SwoS (fun _ => rfl) tupT hL h64 (gt61 hn0) (lt61 hn)
theorem Fn_few2 (hk : ∀ x, KeyIs (.lam fd) (fT x) (gK2 (k3 x, x))) : Fn g 23 (.ref (faOf 12)) [.int n, d] [("key", .lam fd)] ml (Is (.fl ((few2 n xs).map fT)) ml) :=
  Fn_nsmallest_key T (f := fT) (gk := gK2) (κ := fun x => ((k3 x, x) : K2)) hk (CmpK2.ltF (by decide)) SortFK2 TotK2.swo (LtF3 CmpK2 (by decide) (by decide)) SortF3t (Tot3 TotK2).swo (fun _ => rfl) tupT hL h64 (gt61 hn0) (lt61 hn)
theorem Fn_few3 (hk : ∀ x, KeyIs (.lam fd) (fT x) (.int (k3 x))) : Fn g 23 (.ref (faOf 12)) [.int n, d] [("key", .lam fd)] ml (Is (.fl ((few3 n xs).map fT)) ml) :=
  Fn_nsmallest_key T (f := fT) (gk := D.int) (κ := k3) hk LtF.int SortFI Tot.int.swo (LtF3 CmpI (by decide) (by decide)) SortF3i (Tot3 Tot.int).swo (fun _ => rfl) tupT hL h64 (gt61 hn0) (lt61 hn)
end
theorem max0 (n : Int) : (if (0 : Int) > n then (0 : Int) else n) = max n 0 := by rw [Int.max_def]; split <;> split <;> walk_at "n"
theorem max62 {n : Int} (h : n < 2 ^ 61) : max n 0 < 2 ^ 62 := by walk_at "n"
theorem max00 (n : Int) : 0 ≤ max n 0 := by walk_at "n"
def srt (I : List Thing) : List Thing := psortK (fun x y : Int => decide (x < y)) k3 I
theorem srt_length {I : List Thing} (h : I.length < 64) : ((srt I).map fT).length < 2 ^ 20 := by
  rw [List.length_map]; unfold srt; rw [psortK_length Tot.int.swo h]; exact lt64_20 h

theorem Fn_law_few {g : Gx} (T : TX g) (X : LamX g 21 (faOf 21) (rOf 21)) {a b : Addr} (hab : a ≠ b) {H R I : List Thing} {n : Int} (hH : H.length < 64) (hR : R.length < 64) (hI : I.length < 64) (hn0 : -(2^61) ≤ n) (hn : n < 2^61) :
    Fn g 27 (.ref (faOf 21)) [.raw (.ref a), .raw (.ref b), .fl (I.map fT), .int n] [] [(a, H.map fT), (b, R.map fT)] (Is (.bool (lawFew H R I n)) [(a, H.map fT), (b, R.map fT)]) := by
  refine Fn_i T.h21 T.lim (ρ0 := [("heap", .raw (.ref a)), ("row", .raw (.ref b)), ("inside", .fl (I.map fT)), ("wish", .int n)]) (bind4 fun _ _ _ _ => rfl) ["heap", "row", "inside", "wish"] [] rfl (by kernel_rfl) (fun _ => rfl) rfl fun s0 X0 PF fin => ?_
  have hla : lset [(a, H.map fT), (b, R.map fT)] a (H.map fT) = [(a, H.map fT), (b, R.map fT)] := lset_cons_eq fun h => (List.mem_cons.mp h).elim hab fun h => nomatch h
  have fin : ∀ b', (decide (few1 n H = I.take (max n 0).toNat) && (decide (few2 n H = (srt I).take (max n 0).toNat) && decide (few3 n R.reverse = (srt I.reverse).take (max n 0).toNat))) = b' → ∀ ρ, PF (.ret (.bool b')) ρ [(a, H.map fT), (b, R.map fT)] := fun b' e ρ => by
    subst e; exact fin (.ret _) ρ [] rfl
  have F1 := Fn_few1 T (ml := [(a, H.map fT)]) .hd hH hn0 hn
  have F2 := fun fd => Fn_few2 T (ml := [(a, H.map fT)]) .hd hH hn0 hn (fd := fd)
  have F3 := fun fd => Fn_few3 T (ml := []) (d := .fl (R.map fT).reverse) (xs := R.reverse) (by rw [List.map_reverse]; exact .fl) (by rw [List.length_reverse]; exact hR) hn0 hn (fd := fd)
  obtain ⟨o12, ho12, hd12⟩ := T.h12.at_
  refine Ex_cons (Ex_assign (.inl rfl) (Ev_bi T.max rfl rfl rfl (Evs_cons (Ev_name rfl (Evs_cons (Ev_int (Evs_nil (CallB_max ?_))))))))
  rw [max0]
  have hm62 := max62 hn
  have hm0 := max00 n
  generalize max n 0 = m at fin hm62 hm0
  generalize few1 n H = R1 at fin F1
  generalize few2 n H = R2 at fin F2
  generalize few3 n R.reverse = R3 at fin F3
  refine Ex_cons (Ex_if (EvB.of_cmp (Ev_def T.h12 rfl rfl rfl (Evs_cons (Ev_name rfl (Evs_cons (Ev_name rfl (Evs_nil (CallB_one (.head _) F1 (by walk_at "n") ?_)))))))))
  rw [hla]
  refine Ev_upto (xs := I.map fT) (n := m) (Ev_name rfl (Ev_name rfl ⟨rfl, hm0, .fl, by rw [List.length_map]; exact lt64_20 hI, ?_⟩))
  rw [← List.map_take]
  refine Op2_neT (k := 25) (xs := R1) .fl .fl ⟨_, rfl, fun h => ?_, fun h => ?_⟩
  · exact Ex_cons (Ex_ret (Ev_bool (fin _ (by rw [bnt h]; rfl) _)))
  rw [bnf h] at fin
  refine Ex_nil ?_
  have hs1 := srt_length hI
  refine Ex_cons (Ex_assign (.inl rfl) (Ev_callN (Ev_glob T.sorted rfl rfl rfl ⟨.inr (.inr ⟨_, rfl⟩), EvArgs_kw [("key" : Str)] (Evs_cons (Ev_name rfl (Evs_nil (EvKs_cons (X.ev0 fun q pm cv ctv => EvKs_nil ⟨rfl, CallB_sorted_key SortFI Tot.int.swo (fun x => key0 (p := "thing") (x := fT x) (y := .int (k3 x)) (fun v => rfl) rfl rfl rfl rfl (fun g s X q' => Ev_bin (Ev_sub (Ev_name rfl (Ev_int (Op2_itemT (by decide) rfl (by show 2 < 2 ^ 62; decide) (Ev_int (Op2_mod (by decide) rfl)))))))) T.lim .fl hI ?_⟩)))))⟩)))
  refine Ex_cons (Ex_if (EvB.of_cmp (Ev_callN (Ev_glob T.h12.gl rfl rfl rfl ⟨.inl ⟨_, _, _, rfl, ho12, hd12⟩, EvArgs_kw [("key" : Str)] (Evs_cons (Ev_name rfl (Evs_cons (Ev_name rfl (Evs_nil (EvKs_cons (X.ev0 fun q pm cv ctv => EvKs_nil ⟨rfl, CallF.callB (Call_one (.head _) (F2 _ (fun x => key0 (p := "thing") (x := fT x) (y := gK2 (k3 x, x)) (fun v => rfl) rfl rfl rfl rfl (fun g s X q' => Ev_tuple (Evs_cons (Ev_bin (Ev_sub (Ev_name rfl (Ev_int (Op2_itemT (by decide) rfl (by show 2 < 2 ^ 62; decide) (Ev_int (Op2_mod (by decide) (Evs_cons (Ev_name rfl (Evs_nil ⟨by simp [sizeLine_eq], rfl⟩)))))))))))))) (by walk_at "n") ?_)⟩)))))))⟩))))
  rw [hla]
  refine Ev_upto (xs := (srt I).map fT) (n := m) (Ev_name rfl (Ev_name rfl ⟨rfl, hm0, .fl, hs1, ?_⟩))
  rw [← List.map_take]
  refine Op2_neT (k := 25) (xs := R2) .fl .fl ⟨_, rfl, fun h => ?_, fun h => ?_⟩
  · exact Ex_cons (Ex_ret (Ev_bool (fin _ (by rw [bnt h]; rfl) _)))
  rw [bnf h] at fin
  refine Ex_nil ?_
  clear F1 F2 hs1
  have hIr : I.reverse.length < 64 := by rw [List.length_reverse]; exact hI
  have hs1 := srt_length hIr
  refine Ex_cons (Ex_assign (.inl rfl) (Ev_callN (Ev_glob T.sorted rfl rfl rfl ⟨.inr (.inr ⟨_, rfl⟩), EvArgs_kw [("key" : Str)] (Evs_cons (Ev_rev (xs := I.map fT) (Ev_name rfl (Ev_un (Ev_int (Op1_neg ⟨rfl, .fl, by rw [List.length_map]; exact lt64_20 hI, Evs_nil (EvKs_cons (X.ev0 fun q pm cv ctv => EvKs_nil ⟨rfl, CallB_sorted_key (xs := I.reverse) SortFI Tot.int.swo (fun x => key0 (p := "thing") (x := fT x) (y := .int (k3 x)) (fun v => rfl) rfl rfl rfl rfl (fun g s X q' => Ev_bin (Ev_sub (Ev_name rfl (Ev_int (Op2_itemT (by decide) rfl (by show 2 < 2 ^ 62; decide) (Ev_int (Op2_mod (by decide) rfl)))))))) T.lim (by rw [List.map_reverse]; exact .fl) hIr ?_⟩))⟩))))))⟩)))
  refine Ex_cons (Ex_ret (Ev_cmp (Ev_callN (Ev_glob T.h12.gl rfl rfl rfl ⟨.inl ⟨_, _, _, rfl, ho12, hd12⟩, EvArgs_kw [("key" : Str)] (Evs_cons (Ev_name rfl (Evs_cons (Ev_rev (xs := R.map fT) (Ev_name rfl (Ev_un (Ev_int (Op1_neg ⟨rfl, .tl .hd, by rw [List.length_map]; exact lt64_20 hR, Evs_nil (EvKs_cons (X.ev0 fun q pm cv ctv => EvKs_nil ⟨rfl, CallF.callB (Call_zero (F3 _ (fun x => key0 (p := "thing") (x := fT x) (y := .int (k3 x)) (fun v => rfl) rfl rfl rfl rfl (fun g s X q' => Ev_bin (Ev_sub (Ev_name rfl (Ev_int (Op2_itemT (by decide) rfl (by show 2 < 2 ^ 62; decide) (Ev_int (Op2_mod (by decide) rfl))))))))) (by walk_at "n") ?_)⟩))⟩))))))))⟩))))
  refine Ev_upto (xs := (srt I.reverse).map fT) (n := m) (Ev_name rfl (Ev_name rfl ⟨rfl, hm0, .fl, hs1, ?_⟩))
  rw [← List.map_take]
  exact Op2_eqT (k := 25) (xs := R3) .fl .fl (fin _ rfl _)
end Mine
end

noncomputable section
set_option genSizeOf false
set_option genInjectivity false
set_option Elab.async false
set_option linter.unusedVariables false
set_option maxRecDepth 10000
namespace Mine
open PySem PySem.Calls PyProof.Rows PySem.W

/- the frames around stand in the heap -/
def Frs (outer : List Env) (h : Heap) : Prop := ∀ env ∈ outer, env.scope.kind ≠ .module ∧ ∃ L o, env.frame = some L ∧ h.get? L = some o ∧ ∀ vs, o.data ≠ .fields vs
def frs (l : List Env) : List Addr := l.filterMap (·.frame)

theorem funFrames_of {h : Heap} {l : List Env} : ∀ {outer : List Env}, (∀ e ∈ outer, e ∈ l) → Frs outer h → h.FunFrames (hideAll h (frs l)) outer
  | [], _, _ => trivial
  | env :: r, hs, F => by
    obtain ⟨hk, L, o, hf, ho, hd⟩ := F env (.head _)
    exact ⟨hk, ⟨L, o, hf, hideAll_none _ (List.mem_filterMap.mpr ⟨env, hs env (.head _), hf⟩), ho, hd⟩, funFrames_of (fun e he => hs e (.tail _ he)) fun e he => F e (.tail _ he)⟩
theorem Frs.keep {outer : List Env} {h h' : Heap} (F : Frs outer h) (k : Keep h h') : Frs outer h' := fun env he => by
  obtain ⟨hk, L, o, hf, ho, hd⟩ := F env he
  exact ⟨hk, L, o, hf, k _ _ ho, hd⟩

/- an IndexError flies out to the frames outer; what stood in s stands, the frames up to their marks -/
def Rz (outer : List Env) (s : Shared) (e : Addr) (s' : Shared) : Prop :=
  ∃ B a0, (∀ b o, s.heap.get? b = some o → b ∉ frs outer → B.get? b = some o) ∧ Heap.FlyingW B outer e (.type "IndexError") a0 s'.heap ∧ s.heap.UpToSlots s'.heap ∧ s'.gens = s.gens ∧ s'.os = s.os

theorem codeRaise {prog : Program} {w : World} {G : Heap} {fa : Addr} {o : Obj} {fd : FuncData} {body : List Stmt} {A : Around} {s : Shared} {vs : List Value} {binds : List (Str × Value)} {outer : List Env}
    (ho : G.get? fa = some o) (hdata : o.data = .func fd) (hlim : G.NoLimit) (hcd : G.CodeRec fd.code fd.qualname) (hbody : fd.body = .stmts body) (hclo : fd.closure = []) (hG : Keep G s.heap) (hd : A.depth < recursionLimit) (hb : BindsTo s fd ⟨vs, []⟩ binds)
    (hkind : ∀ x ∈ binds, fd.scope.names.lookup x.1 = some .local) (hfr : A.frames = some outer) (F : Frs outer s.heap)
    (hraise : ∀ s1, InCallC s (callEnvC fd s.heap.objs.size fa).locals (bindL (callEnvC fd s.heap.objs.size fa).kindOf binds fun _ => none) (callEnvC fd s.heap.objs.size fa).cells (bindC (callEnvC fd s.heap.objs.size fa).kindOf binds fun _ => none) s1 → ∀ (E' : Value → Shared → Prop),
      (∀ h' tk e, Heap.NewExc s1.heap h' e "IndexError" → E' (.ref e) { s1 with heap := h', toks := tk }) → wpAny (model prog w) (A.deeper (callEnvC fd s.heap.objs.size fa)) (execs body (callEnvC fd s.heap.objs.size fa)) (fun _ _ => False) E' s1)
    (hco : fd.scope.isCoroutine = false := by rfl) (hgen : fd.scope.isGenerator = false := by rfl) (hk : fd.scope.kind = .function := by rfl) :
    codeAny (model prog w) A (.call (.ref fa) ⟨vs, []⟩) (fun r s' => ∃ e, r = .error (.ref e) ∧ Rz outer s e s') s := by
  refine codeAny_call_function hd (hG _ _ ho) hdata hco hgen hbody (hcd.keeps hG) ?_
  refine hb _ _ _ _ ?_
  rw [hclo]
  refine wpAny_newFunctionEnv_cells hk ?_ fun env he s' x => ?_
  · intro y hy; exact .inl (hkind y hy)
  subst he
  refine ⟨(hlim.keeps hG).keeps x.toInCall.keep, codeAny_func (wpAny_mono (hraise s' x _ ?_) (fun _ _ x => x.elim) fun _ _ x => x)⟩
  intro h1 tk e hx
  obtain ⟨hh, tk', e1⟩ := x.toInCall.same
  have hfr' : (A.deeper (callEnvC fd s.heap.objs.size fa)).frames = some (callEnvC fd s.heap.objs.size fa :: outer) := Around.frames_deeper hfr
  have hL : ∃ oL, s'.heap.get? s.heap.objs.size = some oL ∧ ∀ vs, oL.data ≠ .fields vs := by
    obtain ⟨oL, es, ep, h1, h2, _⟩ := x.toInCall.ns
    exact ⟨oL, h1, fun vs q => by rw [h2] at q; cases q⟩
  have F1 : Frs (callEnvC fd s.heap.objs.size fa :: outer) s'.heap := fun env he => by
    rcases List.mem_cons.mp he with rfl | he
    · obtain ⟨oL, h1, h2⟩ := hL
      exact ⟨by show fd.scope.kind ≠ _; rw [hk]; simp, s.heap.objs.size, oL, rfl, h1, h2⟩
    · exact F.keep x.toInCall.keep env he
  have F2 := F1.keep (fun b o e => hx.keeps b o e)
  obtain ⟨ob, tp, hoe, hcls, hdat⟩ := hx.there
  have hen : (hideAll s'.heap (frs (callEnvC fd s.heap.objs.size fa :: outer))).get? e = none := by
    cases q : (hideAll s'.heap (frs (callEnvC fd s.heap.objs.size fa :: outer))).get? e with
    | none => rfl
    | some o => have := of_hideAll _ q; rw [hx.new] at this; cases this
  have ff : h1.FunFrames (hideAll s'.heap (frs (callEnvC fd s.heap.objs.size fa :: outer))) (callEnvC fd s.heap.objs.size fa :: outer) := (funFrames_of (fun _ h => h) F1).of_keeps fun b o hb _ => ⟨o, hx.keeps b o hb, rfl⟩
  refine wpAny_leaving_firstW (base := hideAll s'.heap (frs (callEnvC fd s.heap.objs.size fa :: outer))) (a0 := tp) (L := s.heap.objs.size) hfr' ff rfl hoe (fun b o hb => hx.keeps b o (of_hideAll _ hb)) hen hdat rfl rfl fun h' hLe => ?_
  obtain ⟨k1, ⟨_, _, k2⟩, k3, k4⟩ := hLe
  refine ⟨e, rfl, _, tp, fun b o hbo hn => hideAll_get _ (x.toInCall.keep b o hbo) fun hm => ?_, ⟨k1, hen, k2, by rw [← hcls]; exact k3⟩, ?_, by rw [e1], by rw [e1]⟩
  · rcases List.mem_filterMap.mp hm with ⟨env, he, hf⟩
    rcases List.mem_cons.mp he with rfl | he
    · cases hf
      exact absurd (Heap.lt_size hbo) (Nat.lt_irrefl _)
    · exact hn (List.mem_filterMap.mpr ⟨env, he, hf⟩)
  · exact ((Heap.UpToSlots.of_keeps x.toInCall.keep).trans (Heap.UpToSlots.of_keeps hx.keeps)).trans k4

/- heappop of an empty heap -/
theorem raise_pop {g : Gx} (T : TX g) {a : Addr} {A : Around} {s : Shared} {X : List Addr} {outer : List Env} (H : Hp g.G g.tabs g.qual X [(a, [])] s) (hA : Room 3 A) (hfr : A.frames = some outer) (FF : Frs outer s.heap) :
    codeAny (model g.prog g.w) A (.call (.ref (faOf 2)) ⟨[.ref a], []⟩) (fun r s' => ∃ e, r = .error (.ref e) ∧ Rz outer s e s') s := by
  obtain ⟨o, ho, hd⟩ := T.h2.at_
  refine codeRaise (fd := mkFd 2 .none .none (rOf 2)) (body := fB 2) (binds := [("heap", .ref a)]) ho hd T.lim T.h2.code rfl rfl H.top hA.d (BindsTo.of_eq (by rfl)) ?_ hfr FF ?_
  · intro x hx
    rw [List.mem_singleton.mp hx]; rfl
  intro s1 x E' hE
  have S := St_enter (g := g) (fa := faOf 2) (fd := mkFd 2 .none .none (rOf 2)) (ρ0 := [("heap", .raw (.ref a))]) H ⟨rfl, ⟨.ref a, [], rfl, rfl, rfl⟩⟩ (by simp) (fun n y hy => by simp at hy; subst hy; exact .inl rfl)
    (fun n ca h => by
      have : cellsFrom n (mkFd 2 .none .none (rOf 2)).scope.names [] = [] := rfl
      rw [this] at h; cases h) rfl x
  obtain ⟨vs, n, hl, hr⟩ := S.lists _ (.head _)
  have hz := hr.length
  have hvs : vs = #[] := by
    rw [Array.length_toList] at hz
    exact Array.eq_empty_of_size_eq_zero hz
  subst hvs
  refine wpAny_execs_cons (wpAny_Assign_Name (wpAny_Call_method_lateS (by rfl) (by rfl) (by rfl) (wpAny_Name (S.name (x := "heap") rfl fun v r => ?_) (by decide))) (by rfl))
  cases r
  refine ⟨"list", "list.pop", F.plainAttrs_list, F.slot_list_pop, F.type_list_pop, hl.isList.typeIs, fun b e => by cases e; exact ⟨_, hl, rfl⟩, ?_⟩
  refine PySem.Calls.callWith_builtin (by rfl) (PyProof.Rows.evalArgs_none ?_)
  exact call_meets F.slot_list_pop ⟨_, hl, rfl⟩ F.entry_list_pop (F.args_list_pop_1 _) (AutoSeq1.list_pop_list_0 a #[] n rfl) ⟨hl, hA.h, fun h' tk e hx => hE h' tk e hx⟩

/- heapreplace on an empty heap -/
theorem raise_repl {g : Gx} (T : TX g) {a : Addr} {vi : Value} {A : Around} {s : Shared} {X : List Addr} {outer : List Env} (H : Hp g.G g.tabs g.qual X [(a, [])] s) (hA : Room 3 A) (hfr : A.frames = some outer) (FF : Frs outer s.heap) :
    codeAny (model g.prog g.w) A (.call (.ref (faOf 3)) ⟨[.ref a, vi], []⟩) (fun r s' => ∃ e, r = .error (.ref e) ∧ Rz outer s e s') s := by
  obtain ⟨o, ho, hd⟩ := T.h3.at_
  refine codeRaise (fd := mkFd 3 .none .none (rOf 3)) (body := fB 3) (binds := [("heap", .ref a), ("item", vi)]) ho hd T.lim T.h3.code rfl rfl H.top hA.d (BindsTo.of_eq (by rfl)) ?_ hfr FF ?_
  · intro x hx
    rcases List.mem_cons.mp hx with rfl | hx
    · rfl
    · rw [List.mem_singleton.mp hx]; rfl
  intro s1 x E' hE
  have S := St_enter (g := g) (fa := faOf 3) (fd := mkFd 3 .none .none (rOf 3)) (ρ0 := [("heap", .raw (.ref a)), ("item", .raw vi)]) H ⟨rfl, ⟨.ref a, _, rfl, rfl, vi, [], rfl, rfl, rfl⟩⟩ (by simp only [List.map_cons, List.map_nil]; decide) (fun n y hy => by
      simp only [List.map_cons, List.map_nil, List.mem_cons, List.not_mem_nil, or_false] at hy
      rcases hy with rfl | rfl <;> exact .inl rfl)
    (fun n ca h => by
      have : cellsFrom n (mkFd 3 .none .none (rOf 3)).scope.names [] = [] := rfl
      rw [this] at h; cases h) rfl x
  obtain ⟨vs, n, hl, hr⟩ := S.lists _ (.head _)
  have hz := hr.length
  have hvs : vs = #[] := by
    rw [Array.length_toList] at hz
    exact Array.eq_empty_of_size_eq_zero hz
  subst hvs
  refine wpAny_execs_cons (wpAny_Assign_Name (Subscript_ (wpAny_Name (S.name (x := "heap") rfl fun v r => ?_) (by decide))) (by rfl))
  cases r
  refine wpAny_Constant_int ?_
  refine kba_turn (value' := .Name "x" default) (fun _ => rfl) ?_
  refine subscriptTail_builtin (T := "list") hl.isList.typeIs slot_list_getitem.lookup ?_ (by with_unfolding_all rfl) (fun _ => rfl)
  exact wpAny_getItem_list_out hA.h hl.isList (.inr (by simp)) (by decide) (by decide) (fun h' tk e hx => hE h' tk e hx)

/- the clause that takes the IndexError -/
theorem catch_ie {c : Cx} {A : Around} {s1 s' : Shared} {e : Addr} {L : Addr} {outer : List Env} {ρ : Rho} {ls : Ls} {b₀ : Stmt} {suite : List Stmt} {x : Str} {np pos : Pos} {rest : List ExceptHandler} {Q : Flow → Shared → Prop} {E : Value → Shared → Prop} (S : St c ρ ls s1) (R : Rz (c.env :: outer) s1 e s') (hfr : A.frames = some (c.env :: outer)) (hf : c.env.frame = some L)
    (hnG : ∀ b ∈ frs (c.env :: outer), c.G.get? b = none) (hv : Gl c.G x (.type "IndexError")) (hg : c.env.globals = mainGlobals) (hb : c.env.builtins = builtinsNs) (hx : c.env.kindOf x = some .globalImplicit)
    (hQ : ∀ h', (∀ b o, s1.heap.get? b = some o → b ∉ frs (c.env :: outer) → h'.get? b = some o) → s1.heap.UpToSlots h' → ∀ E', wpAny c.M (A.mark (some (.ref e))) (execs (b₀ :: suite) c.env) Q E' { s' with heap := h' })
    (hd : (x == ("__debug__" : Str)) = false := by decide) :
    wpAny c.M A (noteFrame (.ref e) c.env) (fun _ s₂ => wpAny c.M A (setFlight (.ref e) none) (fun _ s₃ => wpAny c.M A (handleBy (.ref e) c.env (.ExceptHandler (some (.Name x np)) none (b₀ :: suite) pos :: rest)) Q E s₃) E s₂) E s' := by
  obtain ⟨B, a0, hB, hfl, hup, _, _⟩ := R
  have hGB : ∀ b o, c.G.get? b = some o → B.get? b = some o := fun b o e' => hB b o (S.fm.top b o e') fun hm => by rw [hnG b hm] at e'; cases e'
  refine wpAny_looks_onW hfr hf hfl fun h₄ hheld₄ hsm₄ => ?_
  refine wpAny_landsW hheld₄ fun h₅ hheld hsm₅' => ?_
  obtain ⟨ob, hob, hobc⟩ := hheld.there
  have hG5 : ∀ b o, c.G.get? b = some o → h₅.get? b = some o := fun b o e' => hheld.1 b o (hGB b o e')
  refine wpAny_handleBy_builtin (X := "IndexError") (T := "IndexError") (b := true) PySem.F.isExc_IndexError PySem.F.notTuple_IndexError (by rw [isSubtype_type]; kernel_rfl) ?_
  obtain ⟨mg, mb, q1, q2, q3⟩ := hv
  have g1 : ({ s' with heap := h₅ } : Shared).heap.Ns c.env.globals mg := by rw [hg]; exact q1.keeps hG5
  have g2 : ({ s' with heap := h₅ } : Shared).heap.Ns c.env.builtins mb := by rw [hb]; exact q2.keeps hG5
  have fin : ({ s' with heap := h₅ } : Shared).TypeIs (.ref e) "IndexError" ∧ wpAny c.M (A.mark (some (.ref e))) (setFlight (.ref e) none) (fun _ s₂ => wpAny c.M (A.mark (some (.ref e))) (execs (b₀ :: suite) c.env) Q (notedBy c.M (A.mark (some (.ref e))) c.env (cameBackBy c.M A c.env E)) s₂) (notedBy c.M (A.mark (some (.ref e))) c.env (cameBackBy c.M A c.env E)) { s' with heap := h₅ } := by
    refine ⟨⟨ob, hob, hobc⟩, ?_⟩
    refine lands_againW hheld fun h₆ hfl₆ hsm₆ => ?_
    exact hQ h₆ (fun b o e' hn => hfl₆.1 b o (hB b o e' hn)) (((hup.trans hsm₄).trans hsm₅').trans hsm₆) _
  refine Name_function_global S.fn hx ?_ hd
  rcases q3 with q3 | ⟨q3, q4⟩
  · exact loadGlobal_global g1 q3 ⟨rfl, fin⟩
  · exact loadGlobal_builtin g1 q3 g2 q4 ⟨rfl, fin⟩
end Mine
end

noncomputable section
set_option genSizeOf false
set_option genInjectivity false
set_option Elab.async false
set_option linter.unusedVariables false
set_option maxRecDepth 10000
namespace Mine
open PySem PySem.Calls PyProof.Rows PySem.W

section
variable {c : Cx} {ρ : Rho} {ls : Ls}
theorem test_eq {A : Around} {s : Shared} {x : Str} {i n : Int} {p cp pos : Pos} {kk : Nat} {whole : Sem Value} {Q : Bool → Shared → Prop} {E : Value → Shared → Prop} (S : St c ρ ls s) (hx : ρ.lookup x = some (.int i)) (h : ∀ tk, Q (i == n) { s with toks := tk }) (hd : (x == ("__debug__" : Str)) = false := by decide)
    (hm : behindInMarks .Eq (.Constant (.int n) kk cp) = false := by with_unfolding_all rfl) : wpAny c.M A (isTrue (.Compare (.Name x p) [.Eq] [.Constant (.int n) kk cp] pos) c.env whole) Q E s := by
  refine wpAny_isTrue_Compare1 (wpAny_Name (S.name hx fun v r => ?_) hd) hm
  obtain ⟨t, rfl⟩ := r
  refine wpAny_Constant_int (eq_int (wpAny_truthy_bool (h _)))
end

/- what _law_heap leaves behind an IndexError -/
def AfterIE (outer : List Env) (s : Shared) (r : Result) (s' : Shared) : Prop :=
  ∃ h', r = .ok (.ret (.ref h'.objs.size)) ∧ s'.heap = h'.push { cls := .type "list", data := .seq #[] } ∧ (∀ b o, s.heap.get? b = some o → b ∉ frs outer → h'.get? b = some o) ∧ s.heap.UpToSlots h' ∧ s'.gens = s.gens ∧ s'.os = s.os

theorem law_heap_raise {g : Gx} (T : TX g) (hie : Gl g.G "IndexError" (.type "IndexError")) {a : Addr} {kind : Int} {x : Thing} {its : List Thing} (hk : kind = 2 ∨ kind = 4) {A : Around} {s : Shared} {X : List Addr} {outer : List Env} {vk vi : Value} (H : Hp g.G g.tabs g.qual X [(a, [])] s) (hA : Room 8 A) (hfr : A.frames = some outer) (FF : Frs outer s.heap)
    (hnG : ∀ b ∈ frs outer, g.G.get? b = none) (hvk : Rd X s.heap vk (.int kind)) (hvi : Rd X s.heap vi (.fl ((x :: its).map fT))) :
    codeAny (model g.prog g.w) A (.call (.ref (faOf 19)) ⟨[.ref a, vk, vi], []⟩) (AfterIE outer s) s := by
  obtain ⟨o, ho, hd⟩ := T.h19.at_
  refine codeAny_call_function (fd := mkFd 19 .none .none (rOf 19)) (body := fB 19) hA.d (H.top _ _ ho) hd rfl rfl rfl (T.h19.code.keeps H.top) ?_
  have hb : BindsTo s (mkFd 19 .none .none (rOf 19)) ⟨[.ref a, vk, vi], []⟩ [("heap", .ref a), ("kind", vk), ("items", vi)] := BindsTo.of_eq (by rfl)
  refine hb _ _ _ _ ?_
  have hkind : ∀ y ∈ ([("heap", .ref a), ("kind", vk), ("items", vi)] : List (Str × Value)), (mkFd 19 .none .none (rOf 19)).scope.names.lookup y.1 = some .local := fun y hy => by
    simp only [List.mem_cons, List.not_mem_nil, or_false] at hy
    rcases hy with rfl | rfl | rfl <;> rfl
  refine wpAny_newFunctionEnv_cells rfl (fun y hy => .inl (hkind y hy)) fun env he s' xc => ?_
  subst he
  refine ⟨(T.lim.keeps H.top).keeps xc.toInCall.keep, codeAny_func ?_⟩
  have S := St_enter (g := g) (fa := faOf 19) (fd := mkFd 19 .none .none (rOf 19)) (ρ0 := [("heap", .raw (.ref a)), ("kind", .int kind), ("items", .fl ((x :: its).map fT))]) H ⟨rfl, ⟨.ref a, _, rfl, rfl, vk, _, rfl, hvk, vi, [], rfl, hvi, rfl⟩⟩ (by simp only [List.map_cons, List.map_nil]; decide) (fun n y hy => by
      simp only [List.map_cons, List.map_nil, List.mem_cons, List.not_mem_nil, or_false] at hy
      rcases hy with rfl | rfl | rfl <;> exact .inl rfl)
    (fun n ca h => by
      have : cellsFrom n (mkFd 19 .none .none (rOf 19)).scope.names [] = [] := rfl
      rw [this] at h; cases h) rfl xc
  obtain ⟨hh, tk', e1⟩ := xc.toInCall.same
  have hL : ∃ oL, s'.heap.get? s.heap.objs.size = some oL ∧ ∀ vs, oL.data ≠ .fields vs := by
    obtain ⟨oL, es, ep, h1, h2, _⟩ := xc.toInCall.ns
    exact ⟨oL, h1, fun vs q => by rw [h2] at q; cases q⟩
  have F1 : Frs ((cxOf (mkFd 19 .none .none (rOf 19)) (faOf 19) g s X [(a, [])]).env :: outer) s'.heap := fun env he => by
    rcases List.mem_cons.mp he with rfl | he
    · obtain ⟨oL, h1, h2⟩ := hL
      exact ⟨(by intro h; cases h), s.heap.objs.size, oL, rfl, h1, h2⟩
    · exact FF.keep xc.toInCall.keep env he
  have hfr1 : (A.deeper (cxOf (mkFd 19 .none .none (rOf 19)) (faOf 19) g s X [(a, [])]).env).frames = some ((cxOf (mkFd 19 .none .none (rOf 19)) (faOf 19) g s X [(a, [])]).env :: outer) := Around.frames_deeper hfr
  have hnG1 : ∀ b ∈ frs ((cxOf (mkFd 19 .none .none (rOf 19)) (faOf 19) g s X [(a, [])]).env :: outer), g.G.get? b = none := fun b hb => by
    rcases List.mem_filterMap.mp hb with ⟨env, he, hf⟩
    rcases List.mem_cons.mp he with rfl | he
    · cases hf
      cases e : g.G.get? s.heap.objs.size with
      | none => rfl
      | some o => exact absurd (Heap.lt_size (H.top _ _ e)) (Nat.lt_irrefl _)
    · exact hnG b (List.mem_filterMap.mpr ⟨env, he, hf⟩)
  have fin : ∀ h' , (∀ b o, s'.heap.get? b = some o → b ∉ frs ((cxOf (mkFd 19 .none .none (rOf 19)) (faOf 19) g s X [(a, [])]).env :: outer) → h'.get? b = some o) → s'.heap.UpToSlots h' → ∀ s2 : Shared, s2.gens = s'.gens → s2.os = s'.os → s2.heap = h'.push { cls := .type "list", data := .seq #[] } → AfterIE outer s (.ok (.ret (.ref h'.objs.size))) s2 := fun h' hk hu s2 hg ho hs2 => by
    refine ⟨h', rfl, hs2, fun b o e hn => hk b o (xc.toInCall.keep b o e) fun hm => ?_, (Heap.UpToSlots.of_keeps xc.toInCall.keep).trans hu, by rw [hg, e1], by rw [ho, e1]⟩
    rcases List.mem_filterMap.mp hm with ⟨env, he, hf⟩
    rcases List.mem_cons.mp he with rfl | he
    · cases hf; exact absurd (Heap.lt_size e) (Nat.lt_irrefl _)
    · exact hn (List.mem_filterMap.mpr ⟨env, he, hf⟩)
  have hroom : Room 7 (A.deeper (cxOf (mkFd 19 .none .none (rOf 19)) (faOf 19) g s X [(a, [])]).env) := hA.deeper
  have hnd : (keys ([(a, [])] : Ls)).Nodup := by simp [keys]
  show wpAny (cxOf (mkFd 19 .none .none (rOf 19)) (faOf 19) g s X [(a, [])]).M (A.deeper (cxOf (mkFd 19 .none .none (rOf 19)) (faOf 19) g s X [(a, [])]).env) (execs (fB 19) (cxOf (mkFd 19 .none .none (rOf 19)) (faOf 19) g s X [(a, [])]).env) _ _ _
  refine wpAny_execs_cons (wpAny_Try_except ?_)
  have hp : ∀ tk, Hp g.G g.tabs g.qual ((cxOf (mkFd 19 .none .none (rOf 19)) (faOf 19) g s X [(a, [])]).X [(a, [])]) [(a, [])] { s' with toks := tk } := fun tk => (S.same rfl rfl rfl : St (cxOf (mkFd 19 .none .none (rOf 19)) (faOf 19) g s X [(a, [])]) _ _ { s' with toks := tk }).hp (fun _ h => h) hnd
  have St' : ∀ tk, St (cxOf (mkFd 19 .none .none (rOf 19)) (faOf 19) g s X [(a, [])]) [("heap", .raw (.ref a)), ("kind", .int kind), ("items", .fl ((x :: its).map fT))] [(a, [])] { s' with toks := tk } := fun tk => S.same rfl rfl rfl
  obtain ⟨o2, ho2, hd2⟩ := T.h2.at_
  obtain ⟨o3, ho3, hd3⟩ := T.h3.at_
  have he0 : ∀ (p : Pos), starEach [.Name "heap" p] (cxOf (mkFd 19 .none .none (rOf 19)) (faOf 19) g s X [(a, [])]).env = [(false, eval (.Name "heap" p) (cxOf (mkFd 19 .none .none (rOf 19)) (faOf 19) g s X [(a, [])]).env)] := fun _ => rfl
  rcases hk with rfl | rfl
  · refine wpAny_execs_cons (wpAny_If (test_eq (c := (cxOf (mkFd 19 .none .none (rOf 19)) (faOf 19) g s X [(a, [])])) S rfl fun tk => ?_))
    show wpAny _ _ (execs _ _) _ _ _
    refine wpAny_execs_cons (wpAny_Return_some (List_ ?_))
    refine spliced_cons (wpAny_Call_Name_kw ((St' tk).glob T.h2.gl rfl rfl rfl ?_))
    refine callWith_function_kw (o := o2) (fd := mkFd 2 .none .none (rOf 2)) ?_
    refine evalArgs_plain (spliced_cons (wpAny_Name ((St' tk).name (x := "heap") rfl fun v r => ?_) (by decide)))
    cases r
    refine spliced_nil ⟨⟨(St' tk).fm.top _ _ ho2, hd2⟩, ?_⟩
    refine wpAny_call (codeAny_mono (raise_pop T (hp tk) (hroom.mono (by walk_at "n")) hfr1 F1) ?_)
    rintro _ s2 ⟨e, rfl, R⟩
    refine catch_ie (c := (cxOf (mkFd 19 .none .none (rOf 19)) (faOf 19) g s X [(a, [])])) (L := s.heap.objs.size) (St' tk) R hfr1 rfl hnG1 hie rfl rfl rfl fun h' hk' hu' E' => ?_
    refine wpAny_execs_cons (wpAny_Return_some (List_ (spliced_none (newList_ ?_ (by simp)))))
    obtain ⟨_, _, _, _, _, hg2, ho2'⟩ := R
    exact fin h' hk' hu' _ hg2 ho2' rfl
  · refine wpAny_execs_cons (wpAny_If (test_eq (c := (cxOf (mkFd 19 .none .none (rOf 19)) (faOf 19) g s X [(a, [])])) S rfl fun tk => ?_))
    show wpAny _ _ (execs _ _) _ _ _
    refine wpAny_execs_nil ?_
    refine wpAny_execs_cons (wpAny_If (test_eq (c := (cxOf (mkFd 19 .none .none (rOf 19)) (faOf 19) g s X [(a, [])])) (St' tk) rfl fun tk => ?_))
    show wpAny _ _ (execs _ _) _ _ _
    refine wpAny_execs_nil ?_
    refine wpAny_execs_cons (wpAny_If (test_eq (c := (cxOf (mkFd 19 .none .none (rOf 19)) (faOf 19) g s X [(a, [])])) (St' tk) rfl fun tk => ?_))
    show wpAny _ _ (execs _ _) _ _ _
    refine wpAny_execs_cons (wpAny_Return_some (List_ ?_))
    refine spliced_cons (wpAny_Call_Name_kw ((St' tk).glob T.h3.gl rfl rfl rfl ?_))
    refine callWith_function_kw (o := o3) (fd := mkFd 3 .none .none (rOf 3)) ?_
    refine evalArgs_plain (spliced_cons (wpAny_Name ((St' tk).name (x := "heap") rfl fun v r => ?_) (by decide)))
    cases r
    refine spliced_cons (Subscript_ (wpAny_Name ((St' tk).name (x := "items") rfl fun v r => ?_) (by decide)))
    obtain ⟨ai, us, ni, rfl, _, hli, hri⟩ := r
    obtain ⟨v0, hv0, rv0⟩ := hri.get (i := 0) (d := fT x) rfl
    refine wpAny_Constant_int ?_
    refine kba_turn (value' := .Name "x" default) (fun _ => rfl) ?_
    refine subscriptTail_builtin (T := "list") (s := { s' with toks := tk + 1 }) hli.isList.typeIs slot_list_getitem.lookup ?_ (by with_unfolding_all rfl) (fun _ => rfl)
    refine wpAny_getItem_list (x := v0) (by exact hli.isList) (by decide) (by decide) (by simpa using hv0) ?_
    refine spliced_nil ⟨⟨(St' tk).fm.top _ _ ho3, hd3⟩, ?_⟩
    refine wpAny_call (codeAny_mono (raise_repl T (hp (tk + 1)) (hroom.mono (by walk_at "n")) hfr1 F1) ?_)
    rintro _ s2 ⟨e, rfl, R⟩
    refine catch_ie (c := (cxOf (mkFd 19 .none .none (rOf 19)) (faOf 19) g s X [(a, [])])) (L := s.heap.objs.size) (St' (tk + 1)) R hfr1 rfl hnG1 hie rfl rfl rfl fun h' hk' hu' E' => ?_
    refine wpAny_execs_cons (wpAny_Return_some (List_ (spliced_none (newList_ ?_ (by simp)))))
    obtain ⟨_, _, _, _, _, hg2, ho2'⟩ := R
    exact fin h' hk' hu' _ hg2 ho2' rfl
end Mine
end

noncomputable section
set_option genSizeOf false
set_option genInjectivity false
set_option Elab.async false
set_option linter.unusedVariables false
set_option maxRecDepth 10000
namespace Mine
open PySem PySem.Calls PyProof.Rows PySem.W

/- a statement, where what stands around is known -/
def ExA (c : Cx) (A : Around) (t : Sem Flow) (ρ : Rho) (ls : Ls) (PF : Fl → Rho → Ls → Prop) : Prop :=
  ∀ s, St c ρ ls s → wpAny c.M A t (PostX c PF) No s

section
variable {c : Cx} {k : Nat} {ρ : Rho} {ls : Ls} {P : D → Ls → Prop} {PB : Bool → Ls → Prop} {PF : Fl → Rho → Ls → Prop} {A : Around}
theorem ExA.of {t : Sem Flow} (hA : Room k A) (h : Ex c k t ρ ls PF) : ExA c A t ρ ls PF := fun s S => h A s hA S
def SeqA (c : Cx) (A : Around) (rest : List Stmt) (PF : Fl → Rho → Ls → Prop) : Fl → Rho → Ls → Prop
  | .next, ρ, ls => ExA c A (execs rest c.env) ρ ls PF
  | f, ρ, ls => PF f ρ ls
theorem ExA_cons {st rest} (h : ExA c A (exec st c.env) ρ ls (SeqA c A rest PF)) : ExA c A (execs (st :: rest) c.env) ρ ls PF := fun s S => by
  refine wpAny_execs_cons (wpAny_mono (h s S) ?_ fun _ _ x => x)
  rintro f s1 ⟨fl, ρ1, ls1, S1, hf, h1⟩
  cases f <;> cases fl <;> simp only [FlR] at hf
  · exact h1 s1 S1
  · exact ⟨.brk, ρ1, ls1, S1, trivial, h1⟩
  · exact ⟨.cont, ρ1, ls1, S1, trivial, h1⟩
  · exact ⟨.ret _, ρ1, ls1, S1, hf, h1⟩
theorem ExA_ex {st rest} (hA : Room k A) (h : Ex c k (exec st c.env) ρ ls (SeqA c A rest PF)) : ExA c A (execs (st :: rest) c.env) ρ ls PF := ExA_cons (ExA.of hA h)
theorem ExA_freeze {t : Sem Flow} {x : Str} {a : Addr} {xs : List D} (hx : ρ.lookup x = some (.raw (.ref a))) (hX : a ∉ c.X0) (h : ExA c A t (upd ρ x (.fl xs)) ls PF) : ExA c A t ρ ((a, xs) :: ls) PF := fun s S => by
  obtain ⟨S', r'⟩ := S.freeze hX
  refine h s { S' with names := ?_ }
  obtain ⟨m, hm, hn⟩ := S'.names
  refine ⟨m, hm, fun y d hy => ?_⟩
  rw [lookup_upd] at hy
  by_cases e : (y == x) = true
  · rw [if_pos e] at hy; cases hy
    have : y = x := by simpa using e
    subst this
    obtain ⟨v, r, i⟩ := hn y _ hx
    cases r
    exact ⟨_, r', i⟩
  · rw [if_neg e] at hy; exact hn y d hy

theorem LS.loopA {J : List Addr} {I : Addr} {dv : Value} {dd : D} {OK : Ls → Prop} {xs : List D} {target : Expr} {W : Nat → Heap → Prop} {Fin : Heap → Prop} {s : Shared} {body : List Stmt} {A : Around}
    (Inv : Nat → Rho → Ls → Prop) (hA : Room (k+2) A) (hsub : ∀ a ∈ c.Z0, a ∈ c.X0) (hJ : Jok c J) (hk : Wk (c.re c.s0 (J ++ c.X0) c.Z0) J I dv dd OK xs target W Fin) (hok : ∀ i ρ ls, Inv i ρ ls → OK ls)
    (turn : ∀ i x ρ1 ls1, xs[i]? = some x → Inv i ρ1 ls1 → ∀ s0 X0 Z0, ∃ ρ2, Asg (c.re s0 X0 Z0) k target x ρ1 ρ2 ∧ ExA (c.re s0 X0 Z0) A (execs body c.env) ρ2 ls1 (LoopP Inv i PF))
    (i0 : Nat) (h0 : Inv i0 ρ ls) (L : LS (c.re c.s0 (J ++ c.X0) c.Z0) J dv dd W i0 ρ ls s) (hi : i0 ≤ xs.length) :
    codeAny c.M A (.forLoop target (.ref I) body [] c.env) (fun r s' => ∃ f fl ρ' ls', r = .ok f ∧ St c ρ' ls' s' ∧ FlR (c.X ls') s'.heap f fl ∧ ((fl = .next ∧ Inv xs.length ρ' ls' ∧ Fin s'.heap) ∨ PF fl ρ' ls')) s := by
  refine codeAny_forLoop_any (fun n s => ∃ i ρ ls, n = xs.length - i ∧ i ≤ xs.length ∧ Inv i ρ ls ∧ LS (c.re c.s0 (J ++ c.X0) c.Z0) J dv dd W i ρ ls s) ?_ _ ⟨i0, ρ, ls, rfl, hi, h0, L⟩
  rintro n s1 ⟨i, ρ1, ls1, rfl, hi, hI, L1⟩
  cases hx : xs[i]? with
  | none =>
    refine wpAny_mono (hk.stop A i ρ1 ls1 s1 (hA.mono (by walk_at "n")) L1.st (hok i _ _ hI) L1.rd L1.w hx) ?_ No_noted
    rintro r s2 ⟨rfl, hkeep, hg, hos, hF⟩
    have hi' : i = xs.length := by
      have := List.getElem?_eq_none_iff.mp hx; walk_at "n"
    subst hi'
    obtain ⟨S2, _⟩ := L1.st.tchEnd hkeep hg hos hsub hJ (hk.fs _ _ L1.w) L1.off
    exact wpAny_execs_nil ⟨.next, .next, ρ1, ls1, rfl, S2, trivial, .inl ⟨rfl, hI, hF⟩⟩
  | some x =>
    refine wpAny_mono (hk.next A i ρ1 ls1 s1 x (hA.mono (by walk_at "n")) L1.st (hok i _ _ hI) L1.rd L1.w hx) ?_ No_noted
    rintro r s2 ⟨v, rfl, hgo⟩
    refine wpAny_mono hgo ?_ No_noted
    rintro _ s3 ⟨T, rv, hW⟩
    obtain ⟨S3, st3⟩ := L1.st.tch T hsub hJ (hk.fs _ _ L1.w) L1.off
    have L3 : LS (c.re c.s0 (J ++ c.X0) c.Z0) J dv dd W (i+1) ρ1 ls1 s3 := ⟨S3, hW, Rd.stay st3 _ _ L1.rd, L1.off⟩
    obtain ⟨ρ2, ha, hb⟩ := turn i x ρ1 ls1 hx hI s3 (c.own ls1 ++ (J ++ c.X0)) (c.tabs.map (·.2) ++ c.own ls1)
    have rv' : Rd (((c.re c.s0 (J ++ c.X0) c.Z0).here ls1 s3).X ls1) s3.heap v x := Rd.stay (Stay.sub fun a ha => by
      rcases List.mem_append.mp ha with h | h
      · exact List.mem_append_left _ h
      · exact h) _ _ rv
    refine wpAny_mono (ha A s3 ls1 v (hA.mono (by walk_at "n")) S3.base rv') ?_ No_noted
    rintro _ s4 ⟨S4, st4⟩
    refine wpAny_mono (hb s4 S4) ?_ No_noted
    rintro f s5 ⟨fl, ρ5, ls5, S5, hf, h5⟩
    have L5 := L3.keep (fun j hj hz => (hJ j hj).2.2 (hsub _ hz)) hk S5
    have S5' : St c ρ5 ls5 s5 := L5.st.narrow (fun a ha => List.mem_append_right _ ha) hsub
    have hlt : i < xs.length := (List.getElem?_eq_some_iff.mp hx).1
    cases f <;> cases fl <;> simp only [FlR] at hf
    · obtain ⟨ρ0, he, h5⟩ := h5; exact ⟨xs.length - (i+1), by walk_at "n", i+1, ρ0, ls5, rfl, by walk_at "n", h5, { L5 with st := L5.st.forget he }⟩
    · exact ⟨.next, .next, ρ5, ls5, rfl, S5', trivial, .inr h5⟩
    · obtain ⟨ρ0, he, h5⟩ := h5; exact ⟨xs.length - (i+1), by walk_at "n", i+1, ρ0, ls5, rfl, by walk_at "n", h5, { L5 with st := L5.st.forget he }⟩
    · refine ⟨_, .ret _, ρ5, ls5, rfl, S5', ?_, .inr h5⟩
      exact Rd.stay (Stay.sub fun a ha => by
        rcases List.mem_append.mp ha with h | h
        · exact List.mem_append_left _ h
        · exact List.mem_append_right _ (List.mem_append_right _ (List.mem_append_right _ h))) _ _ hf


theorem ExA_for {A : Around} (hA : Room (k+2) A) {target iter : Expr} {body : List Stmt} {pos : Pos} (xs : List D) (OK : Ls → Prop) (Inv : Nat → Rho → Ls → Prop)
    (ρ0 : Rho) (he : Ext ρ0 ρ) (h : EvI c (k+2) iter target xs OK ρ ls (fun ls1 => Inv 0 ρ0 ls1)) (hok : ∀ i ρ ls, Inv i ρ ls → OK ls)
    (turn : ∀ i x ρ1 ls1, xs[i]? = some x → Inv i ρ1 ls1 → ∀ s0 X0 Z0, ∃ ρ2, Asg (c.re s0 X0 Z0) k target x ρ1 ρ2 ∧ ExA (c.re s0 X0 Z0) A (execs body c.env) ρ2 ls1 (LoopP Inv i PF))
    (fin : ∀ ρ1 ls1, Inv xs.length ρ1 ls1 → PF .next ρ1 ls1)
    (hs : ∀ x, foldedSetIterable iter c.env x = pure x := by intro _; rfl) :
    ExA c A (exec (.For target iter body [] pos) c.env) ρ ls PF := fun s S => by
  refine wpAny_For (wpAny_mono (h A s hA S) ?_ fun _ _ x => x) hs
  rintro v s1 h1
  refine wpAny_mono h1 ?_ fun _ _ x => x
  rintro r s2 ⟨ls1, J, I, dv, dd, W, Fin, rfl, k1, hJ, L, _, hk, h0⟩
  refine codeAny_mono (LS.loopA (c := c) (PF := PF) Inv hA S.fm.sub hJ (hk (c.re c.s0 (J ++ c.X0) c.Z0) fun j hj => List.mem_append_left _ hj) hok turn 0 h0 { L with st := L.st.forget he } (Nat.zero_le _)) ?_
  rintro r s3 ⟨f, fl, ρ', ls', rfl, S3, hf, h3⟩
  rcases h3 with ⟨rfl, h3, _⟩ | h3
  · exact ⟨.next, ρ', ls', S3, hf, fin _ _ h3⟩
  · exact ⟨fl, ρ', ls', S3, hf, h3⟩


/- a chain of two comparisons -/
theorem EvB.of_cmp2 {l op1 op2 r1 r2 pos whole} (h : Ev c k (eval l c.env) ρ ls (fun d1 ls1 => Ev c k (eval r1 c.env) ρ ls1 (fun d2 ls2 => Op2 c k (compareOp op1) d1 d2 ρ ls2 (fun d ls3 => ∃ b, d = .bool b ∧ (b = false → PB false ls3) ∧
      (b = true → Ev c k (eval r2 c.env) ρ ls3 (fun d3 ls4 => Op2 c k (compareOp op2) d2 d3 ρ ls4 (fun d ls5 => ∃ b, d = .bool b ∧ PB b ls5)))))))
    (hm : lastMarks [op1, op2] [r1, r2] = false := by with_unfolding_all rfl) : EvB c k (isTrue (.Compare l [op1, op2] [r1, r2] pos) c.env whole) ρ ls PB := fun A s hA S => by
  refine isTrue_chain ?_ hm
  refine wpAny_mono (h A s hA S) ?_ fun _ _ x => x
  rintro v1 s1 ⟨d1, ls1, k1, S1, st1, r1', h1⟩
  refine test_link (r := eval r1 c.env) (r' := eval r2 c.env) ?_
  refine wpAny_mono (h1 A s1 hA S1) ?_ fun _ _ x => x
  rintro v2 s2 ⟨d2, ls2, k2, S2, st2, r2', h2⟩
  have e1 := Cx.X_keys (c := c) k1
  have e2 := Cx.X_keys (c := c) (k2.trans k1)
  rw [e1] at st2 r2'
  refine wpAny_mono (h2 A s2 v1 v2 hA S2 (by rw [e2]; exact Rd.stay st2 _ _ r1') (by rw [e2]; exact r2')) ?_ fun _ _ x => x
  rintro v3 s3 ⟨d, ls3, k3, S3, st3, r3, b, rfl, hf, ht⟩
  cases r3
  rw [e2] at st3
  refine wpAny_truthy_bool ?_
  cases b with
  | false => exact ⟨ls3, k3.trans (k2.trans k1), S3, st1.trans (st2.trans st3), hf rfl⟩
  | true =>
    simp only [if_true]
    refine test_last ?_
    refine wpAny_mono (ht rfl A s3 hA S3) ?_ fun _ _ x => x
    rintro v4 s4 ⟨d4, ls4, k4, S4, st4, r4, h4⟩
    have e3 := Cx.X_keys (c := c) (k3.trans (k2.trans k1))
    have e4 := Cx.X_keys (c := c) (k4.trans (k3.trans (k2.trans k1)))
    rw [e3] at st4 r4
    refine wpAny_mono (h4 A s4 v2 v4 hA S4 (by rw [e4]; exact Rd.stay (st3.trans st4) _ _ r2') (by rw [e4]; exact r4)) ?_ fun _ _ x => x
    rintro v5 s5 ⟨d5, ls5, k5, S5, st5, r5, b, rfl, hb⟩
    cases r5
    rw [e4] at st5
    exact wpAny_truthy_bool ⟨ls5, k5.trans (k4.trans (k3.trans (k2.trans k1))), S5, st1.trans (st2.trans (st3.trans (st4.trans st5))), hb⟩

/- x and y, as a value, of truth values -/
theorem Ev_and {x y pos} (h : Ev c k (eval x c.env) ρ ls (fun d ls1 => ∃ b, d = .bool b ∧ (b = false → P (.bool false) ls1) ∧ (b = true → Ev c k (eval y c.env) ρ ls1 P))) : Ev c k (eval (.BoolOp .And [x, y] pos) c.env) ρ ls P := fun A s hA S => by
  refine BoolOp_and (wpAny_mono (h A s hA S) ?_ fun _ _ x => x)
  rintro v1 s1 ⟨d, ls1, k1, S1, st1, r1, b, rfl, hf, ht⟩
  cases r1
  refine wpAny_truthy_bool ?_
  cases b with
  | false => exact ⟨.bool false, ls1, k1, S1, st1, rfl, hf rfl⟩
  | true =>
    simp only [if_true]
    refine BoolOp_one (wpAny_mono (ht rfl A s1 hA S1) (fun v s' p => Post.into k1 st1 p) fun _ _ x => x)

/- the frame's own names are marked, nothing else -/
theorem St.slots {s s' : Shared} (S : St c ρ ls s) (hk : ∀ b o, s.heap.get? b = some o → b ≠ c.env.locals → s'.heap.get? b = some o) (hu : s.heap.UpToSlots s'.heap) (hg : s'.gens = s.gens) (ho : s'.os = s.os) : St c ρ ls s' ∧ Stay (c.X ls) (c.X ls) s.heap s'.heap := by
  obtain ⟨m, hm, hmn⟩ := S.names
  have hm' := hu.ns hm
  obtain ⟨oL, es, ep, hoL, hdL, _⟩ := id hm
  obtain ⟨oL', es', ep', hoL', _, _⟩ := id hm'
  have F := S.fm
  have own : c.env.locals ∈ c.own ls := Cx.loc_own
  have st : Stay (c.X ls) (c.X ls) s.heap s'.heap := fun b o hx e _ => ⟨hx, hk b o e fun q => hx (q ▸ Cx.own_X own)⟩
  have kcell : ∀ ca v, s.heap.IsCell ca v → s'.heap.IsCell ca v := fun ca v hc => by
    obtain ⟨o, e, hd⟩ := id hc
    exact ⟨o, hk ca o e (ne_of_dict_cell hm hc).symm, hd⟩
  have alive : ∀ b, (∃ o, s.heap.get? b = some o) → ∃ o, s'.heap.get? b = some o := fun b ⟨o, e⟩ => by
    by_cases q : b = c.env.locals
    · subst q; exact ⟨_, hoL'⟩
    · exact ⟨o, hk b o e q⟩
  refine ⟨{
    fm := {
      top := fun b o e => hk b o (F.top b o e) fun q => by rw [q, (F.mine _ own).2.1] at e; cases e
      nx := ⟨fun b o e hn => hk b o (F.nx.keep b o e hn) fun q => (F.mine _ own).1.elim (fun hz => hn (q ▸ hz)) (fun hl => by rw [q, hl] at e; cases e), hg.trans F.nx.gens, ho.trans F.nx.os⟩
      mine := fun b hb => ⟨(F.mine b hb).1, (F.mine b hb).2.1, alive b (F.mine b hb).2.2⟩
      apart := F.apart
      old := fun b hb => alive b (F.old b hb)
      sub := F.sub
      tabs := F.tabs
      grown := fun q hq => (F.grown q hq).stay (fun o e => hk _ _ e fun q' => (F.tabs q hq).2.2 (q' ▸ own)) st }
    fn := S.fn
    inj := S.inj
    cells := fun ca hc => let ⟨v, e⟩ := S.cells ca hc; ⟨v, kcell _ _ e⟩
    names := ⟨m, hm', fun x d hx => by
      obtain ⟨v, r, i⟩ := hmn x d hx
      exact ⟨v, Rd.stay st _ _ r, i.keep fun ca _ e => kcell _ _ e⟩⟩
    lists := fun p hp => by
      obtain ⟨vs, n, h1, h3⟩ := S.lists p hp
      exact ⟨vs, n, hk _ _ h1 fun q => by
        have := (List.nodup_cons.mp F.apart).1
        exact this (List.mem_append_right _ (q ▸ List.mem_map_of_mem hp)), RdL.stay st _ _ h3⟩ }, st⟩
end
end Mine
end

noncomputable section
set_option genSizeOf false
set_option genInjectivity false
set_option Elab.async false
set_option linter.unusedVariables false
namespace Mine

/- heap and row behind t deeds -/
def HR (ds : List Deed) : Nat → List Thing × List Thing
  | 0 => ([], [])
  | t + 1 => match ds[t]? with
    | some d => ((lawHeap d.kind d.items (HR ds t).1).2, (lawRow d.kind d.items (HR ds t).2).2)
    | none => HR ds t
def dueOf (fs : List (Thing × Nat × Nat)) (t : Nat) : List Thing := (fs.filter fun p => p.2.2 / 2 == t).map fun p => p.1
def insideOf (fs : List (Thing × Nat × Nat)) (t : Nat) : List Thing := (fs.filter fun p => decide (p.2.1 / 2 ≤ t) && decide (t < p.2.2 / 2)).map fun p => p.1
def insideAt (fs : List (Thing × Nat × Nat)) : Nat → List Thing
  | 0 => []
  | t + 1 => insideOf fs t
def popsH (H : List Thing) : Nat → List Thing
  | 0 => H
  | i + 1 => (lawHeap 2 [] (popsH H i)).2

/- what makes every test of the law come out -/
structure LawOk (ds : List Deed) : Prop where
  len : 1 ≤ ds.length ∧ ds.length ≤ 27
  items : ∀ d ∈ ds, d.items ≠ [] ∧ d.items.length ≤ 3
  wish : ∀ d ∈ ds, -(2^61) ≤ d.wish ∧ d.wish < 2^61
  stays : (fsOf ds).stays.length < 64
  fates : (fatesOf ds).length < 64
  small : ∀ t, (HR ds t).1.length < 64 ∧ (HR ds t).2.length < 64
  told : ∀ t d, ds[t]? = some d → (lawHeap d.kind d.items (HR ds t).1).1 = dueOf (fatesOf ds) t
  seen : ∀ t d, ds[t]? = some d → (lawRow d.kind d.items (HR ds t).2).1 = dueOf (fatesOf ds) t
  row : ∀ t, t < ds.length → (HR ds (t + 1)).2 = insideOf (fatesOf ds) t
  sorted : ∀ t, t < ds.length → psortK ltT id (HR ds (t + 1)).1 = insideOf (fatesOf ds) t
  heap : ∀ t k x y, (HR ds t).1[k + 1]? = some x → (HR ds t).1[k / 2]? = some y → ltT x y = false
  few : ∀ t d, ds[t]? = some d → d.kind = 6 → lawFew (HR ds (t + 1)).1 (HR ds (t + 1)).2 (insideOf (fatesOf ds) t) d.wish = true
  last : ∀ i x, (insideAt (fatesOf ds) ds.length)[i]? = some x → (lawHeap 2 [] (popsH (HR ds ds.length).1 i)).1 = [x]
  empty : popsH (HR ds ds.length).1 (insideAt (fatesOf ds) ds.length).length = []
end Mine
end

noncomputable section
set_option genSizeOf false
set_option genInjectivity false
set_option Elab.async false
set_option linter.unusedVariables false
set_option maxRecDepth 10000
namespace Mine
open PySem PySem.Calls PyProof.Rows PySem.W

/- `told = _law_heap(heap, kind, items)` -/
theorem ExA_told {g : Gx} (T : TX g) {r22 : Rest} {f22 : Addr} (hie : Gl g.G "IndexError" (.type "IndexError")) {s0 s0' : Shared} {X0 X0' Z0' : List Addr} {A : Around} (hA : Room 22 A) {a b : Addr} (hab : b ≠ a) {H : List Thing} {kind : Int} {x : Thing} {its : List Thing} {rb : List D} {ρ : Rho} {PF : Fl → Rho → Ls → Prop} {fp tp hp kp ip cp spos : Pos}
    (hH : H.length < 64) (hi : its.length < 64) (hfr : A.frames = some [(cxOf (mkFd 22 .none .none r22) f22 g s0 X0 []).env]) (h1 : ρ.lookup ("heap" : Str) = some (.raw (.ref a))) (h2 : ρ.lookup ("kind" : Str) = some (.int kind)) (h3 : ρ.lookup ("items" : Str) = some (.fl ((x :: its).map fT)))
    (h : PF .next (upd ρ "told" (.fl ((lawHeap kind (x :: its) H).1.map fT))) [(b, rb), (a, (lawHeap kind (x :: its) H).2.map fT)]) :
    ExA ((cxOf (mkFd 22 .none .none r22) f22 g s0 X0 []).re s0' X0' Z0') A (exec (.Assign [.Name "told" tp] (.Call (.Name "_law_heap" fp) [.Name "heap" hp, .Name "kind" kp, .Name "items" ip] [] cp) spos) (cxOf (mkFd 22 .none .none r22) f22 g s0 X0 []).env) ρ [(b, rb), (a, H.map fT)] PF := by
  by_cases hne : H = [] ∧ (kind = 2 ∨ kind = 4)
  · obtain ⟨rfl, hk⟩ := hne
    have hl : lawHeap kind (x :: its) [] = ([], []) := by rcases hk with rfl | rfl <;> rfl
    rw [hl] at h
    obtain ⟨o, ho, hd⟩ := T.h19.at_
    intro s S
    refine wpAny_Assign_Name (wpAny_Call_Name_kw (S.glob T.h19.gl rfl rfl rfl ?_)) (by rfl)
    refine callWith_function_kw (o := o) (fd := mkFd 19 .none .none (rOf 19)) ?_
    refine evalArgs_plain (spliced_cons (wpAny_Name (S.name h1 fun v r => ?_) (by decide)))
    cases r
    refine spliced_cons (wpAny_Name (S.name h2 fun vk rk => ?_) (by decide))
    refine spliced_cons (wpAny_Name (S.name h3 fun vi ri => ?_) (by decide))
    refine spliced_nil ⟨⟨S.fm.top _ _ ho, hd⟩, ?_⟩
    have hFF : Frs [(cxOf (mkFd 22 .none .none r22) f22 g s0 X0 []).env] s.heap := fun env he => by
      rw [List.mem_singleton.mp he]
      obtain ⟨m, ⟨oL, es, ep, q1, q2, _⟩, _⟩ := S.names
      exact ⟨(by intro h; cases h), _, oL, rfl, q1, fun vs q => by rw [q2] at q; cases q⟩
    refine wpAny_call (codeAny_mono (law_heap_raise T hie hk (S.hp (ml := [(a, [])]) (fun p hp => by rw [List.mem_singleton.mp hp]; exact .tail _ (.head _)) (by simp [keys])) (hA.mono (by walk_at "n")) hfr hFF (fun b' hb' => by
      rw [List.mem_singleton.mp hb']; exact (S.fm.mine _ Cx.loc_own).2.1) rk ri) ?_)
    rintro r s2 ⟨h', rfl, hh, hkp, hu, hg2, ho2⟩
    obtain ⟨S1, st1⟩ := S.slots (s' := { s2 with heap := h' }) (fun b' o' e hn => hkp b' o' e fun hm => hn (List.mem_singleton.mp hm)) hu hg2 ho2
    have S2 := S1.ext (s' := s2) (by rw [hh]; exact Keep.push _ _) rfl rfl
    have rd := S1.newF (vs := []) (ds := []) rfl
    refine S2.store (d := .fl []) (.inl rfl) (by rw [hh]; exact rd) fun s3 S3 _ => ⟨.next, _, _, S3, trivial, h⟩
  · refine ExA.of hA (Ex_assign (.inl rfl) (Ev_def T.h19 rfl rfl rfl (Evs_cons (Ev_name h1 (Evs_cons (Ev_name h2 (Evs_cons (Ev_name h3 (Evs_nil (CallB_one (.tail _ (.head _)) (Fn_law_heap T (by walk_at "n") (by walk_at "n") hne) (by walk_at "n") ?_))))))))))
    rw [lset_cons_ne hab, lset_one]
    exact h
end Mine
end

noncomputable section
set_option genSizeOf false
set_option genInjectivity false
set_option Elab.async false
set_option linter.unusedVariables false
set_option maxRecDepth 10000
namespace Mine
open PySem PySem.Calls PyProof.Rows PySem.W

/- what one turn of the law rests on -/
structure LTok (fs : List (Thing × Nat × Nat)) (t : Nat) (d : Deed) (lh lr : List Thing × List Thing) : Prop where
  hl : lh.2.length < 64
  rl : lr.2.length < 64
  il : (insideOf fs t).length < 64
  fl : fs.length < 64
  told : lh.1 = dueOf fs t
  seen : lr.1 = dueOf fs t
  row : lr.2 = insideOf fs t
  sorted : psortK ltT id lh.2 = insideOf fs t
  heap : ∀ k x y, lh.2[k + 1]? = some x → lh.2[k / 2]? = some y → ltT x y = false
  few : d.kind = 6 → lawFew lh.2 lr.2 (insideOf fs t) d.wish = true
  wish : -(2^61) ≤ d.wish ∧ d.wish < 2^61

def lwR (ds : List Deed) (fs : List (Thing × Nat × Nat)) (a b : Addr) (I : List Thing) (k : Rho) : Rho := ("deeds", .fl (ds.map fD)) :: ("fates", .fl (fs.map fFt)) :: ("heap", .raw (.ref a)) :: ("row", .raw (.ref b)) :: ("inside", .fl (I.map fT)) :: k
theorem lwR_ext {ds : List Deed} {fs : List (Thing × Nat × Nat)} {a b : Addr} {I : List Thing} {k ρ : Rho} (h1 : ρ.lookup ("deeds" : Str) = some (.fl (ds.map fD))) (h2 : ρ.lookup ("fates" : Str) = some (.fl (fs.map fFt))) (h3 : ρ.lookup ("heap" : Str) = some (.raw (.ref a))) (h4 : ρ.lookup ("row" : Str) = some (.raw (.ref b))) (h5 : ρ.lookup ("inside" : Str) = some (.fl (I.map fT))) (h6 : Ext k ρ) : Ext (lwR ds fs a b I k) ρ :=
  Ext.cons h1 (Ext.cons h2 (Ext.cons h3 (Ext.cons h4 (Ext.cons h5 h6))))
def lwD (u v w : List Thing) : Rho := [("told", .fl (u.map fT)), ("seen", .fl (v.map fT)), ("due", .fl (w.map fT))]
theorem lwD_ext {u v w : List Thing} {ρ : Rho} (h1 : ρ.lookup ("told" : Str) = some (.fl (u.map fT))) (h2 : ρ.lookup ("seen" : Str) = some (.fl (v.map fT))) (h3 : ρ.lookup ("due" : Str) = some (.fl (w.map fT))) : Ext (lwD u v w) ρ :=
  Ext.cons h1 (Ext.cons h2 (Ext.cons h3 (Ext.nil _)))
inductive LwC (ρ0 : Rho) (L : Ls) : Rho → Ls → Prop
  | mk : LwC ρ0 L ρ0 L
inductive LcI (L : Ls) : Nat → List D → Ls → Prop
  | mk (j : Nat) : LcI L j [] L
inductive LwI (ds : List Deed) (a b : Addr) : Nat → Rho → Ls → Prop
  | mk (t : Nat) (ht : t ≤ ds.length) : LwI ds a b t (lwR ds (fatesOf ds) a b (insideAt (fatesOf ds) t) []) [(b, (HR ds t).2.map fT), (a, (HR ds t).1.map fT)]
theorem due_map (fs : List (Thing × Nat × Nat)) (t : Nat) : (fs.filter fun p => p.2.2 / 2 == t).map (fun p => fT p.1) = (dueOf fs t).map fT := by unfold dueOf; rw [List.map_map]; rfl
theorem inside_map (fs : List (Thing × Nat × Nat)) (t : Nat) : (fs.filter fun p => decide (p.2.1 / 2 ≤ t) && decide (t < p.2.2 / 2)).map (fun p => fT p.1) = (insideOf fs t).map fT := by unfold insideOf; rw [List.map_map]; rfl
theorem eq_t {a b : Nat} (h : ((a : Int) == (b : Int)) = true) : (a == b) = true := beq_iff_eq.mpr (Int.ofNat_inj.mp (beq_iff_eq.mp h))
theorem eq_f {a b : Nat} (h : ((a : Int) == (b : Int)) = false) : (a == b) = false := beq_eq_false_iff_ne.mpr fun e => (beq_eq_false_iff_ne.mp h) (congrArg _ e)
theorem and_tt {a b : Bool} (h : a = true) (h2 : b = true) : (a && b) = true := by rw [h, h2]; rfl
theorem and_f1 {a b : Bool} (h : a = false) : (a && b) = false := by rw [h]; rfl
theorem and_f2 {a b : Bool} (h : b = false) : (a && b) = false := by rw [h, Bool.and_false]
theorem le_t {a b : Nat} (h : decide ((a : Int) ≤ (b : Int)) = true) : decide (a ≤ b) = true := decide_eq_true (Int.ofNat_le.mp (of_decide_eq_true h))
theorem le_f {a b : Nat} (h : decide ((a : Int) ≤ (b : Int)) = false) : decide (a ≤ b) = false := decide_eq_false fun h' => of_decide_eq_false h (Int.ofNat_le.mpr h')
theorem two_lists {a b : Addr} (h : b ≠ a) (xs ys : List D) : mset [(b, ys), (a, xs)] [(a, xs), (b, ys)] = [(b, ys), (a, xs)] := by
  have q1 : (b == a) = false := by simpa using h
  simp [mset, List.lookup, q1]
theorem self_ne {l m : List Thing} (e : l = m) {b : Bool} (h : (!decide (l = m)) = b) : b = false := by rw [← h, decide_eq_true e]; rfl
theorem rngE (j : Nat) : (1 : Int) + ((j : Nat) : Int) * 1 = ((j + 1 : Nat) : Int) := by push_cast; walk_at "n"
theorem rngP (j : Nat) : ((j + 1 : Nat) : Int) - 1 = ((j : Nat) : Int) := by push_cast; walk_at "n"
theorem rngL {j n : Nat} (h : j < (((n : Nat) : Int) - 1).toNat) : j + 1 < n := by walk_at "n"
theorem halfL {j n : Nat} (h : j + 1 < n) : j / 2 < n := by walk_at "n"
theorem rng20 {n : Nat} (h : n < 64) : (((n : Nat) : Int) - 1).toNat < 2 ^ 19 := by walk_at "n"
theorem fmap19 {α : Type} {f : α → D} {l : List α} (h : l.length < 64) : (l.map f).length < 2 ^ 19 := by rw [List.length_map]; exact lt64_19 h
theorem fmap20 {α : Type} {f : α → D} {l : List α} (h : l.length < 64) : (l.map f).length < 2 ^ 20 := lt20' (fmap19 h)

/- the turn behind told and seen -/
theorem law_tail {g : Gx} (T : TX g) {r22 : Rest} {f22 : Addr} (X21 : LamX g 21 (faOf 21) (rOf 21)) {ds : List Deed} {fs : List (Thing × Nat × Nat)} {a b : Addr} (hba : b ≠ a) {t : Nat} {d : Deed} {lh lr : List Thing × List Thing} (K : LTok fs t d lh lr) {s0 s0' : Shared} {X0 X0' Z0' : List Addr} {PF : Fl → Rho → Ls → Prop} {Inv : Nat → Rho → Ls → Prop} {I0 : List Thing}
    (hnx : Inv (t + 1) (lwR ds fs a b (insideOf fs t) []) [(b, lr.2.map fT), (a, lh.2.map fT)]) {tg it : Expr} {body orelse rest : List Stmt} {pos : Pos} {st1 st2 st3 : Stmt} (h22 : (fB 22)[5]? = some (.For tg it body orelse pos)) (hb : body = st1 :: st2 :: st3 :: rest) :
    Ex ((cxOf (mkFd 22 .none .none r22) f22 g s0 X0 []).re s0' X0' Z0') 38 (execs rest (cxOf (mkFd 22 .none .none r22) f22 g s0 X0 []).env) (lwR ds fs a b I0 [("turn", .int (t : Nat)), ("kind", .int d.kind), ("wish", .int d.wish), ("told", .fl (lh.1.map fT)), ("seen", .fl (lr.1.map fT))]) [(b, lr.2.map fT), (a, lh.2.map fT)] (LoopP Inv t PF) := by
  cases h22
  cases hb
  refine Ex_cons (Ex_assign_comp (k := 36) (fs.map fFt) (fun ls => LsOf ls (.fl (fs.map fFt)) (fs.map fFt)) [("turn", s0.heap.objs.size + 2)] [("turn", .int (t : Nat))] (FcI (fun p => p.2.2 / 2 == t) (fun p => fT p.1) fs [(b, lr.2.map fT), (a, lh.2.map fT)]) (.inl rfl) rfl (Sees.one rfl rfl rfl rfl rfl) (by decide) (by decide) (EvI_list _ (Ev_name rfl ⟨rfl, .fl, .mk 0, ?_⟩)) (fmap19 K.fl) (fun _ _ _ _ => .fl) (fun _ _ _ => .fl) ?_)
  · rintro j x' _ _ hx ⟨_⟩ _ L D' s1' X1' Z1' hD
    rw [List.getElem?_map] at hx
    obtain ⟨p, hp, rfl⟩ := Option.map_eq_some_iff.mp hx
    refine ⟨_, Ext.cons rfl (Ext.nil _), Asg_tup3 (.inl rfl) (.inl rfl) (.inl rfl), ?_⟩
    refine EvB.of_cmp (Ev_bin (Ev_name rfl (Ev_int (Op2_div (by decide) ?_ (PyProof.noPylong_small (by decide))))))
    rw [show (2 : Int) = ((2 : Nat) : Int) from rfl, fdiv_nat]
    exact Ev_name rfl (Op2_eq ⟨_, rfl, fun ht => Ev_name rfl (.yes _ _ rfl (FcI.t hp (eq_t ht))), fun ht => .no _ rfl (FcI.f hp (eq_f ht))⟩)
  intro _ _ _ hI
  obtain ⟨rfl, rfl⟩ := hI.all
  rw [due_map]
  clear hI
  refine Ex_cons (Ex_assign_comp (k := 36) (fs.map fFt) (fun ls => LsOf ls (.fl (fs.map fFt)) (fs.map fFt)) [("turn", s0.heap.objs.size + 2)] [("turn", .int (t : Nat))] (FcI (fun p => decide (p.2.1 / 2 ≤ t) && decide (t < p.2.2 / 2)) (fun p => fT p.1) fs [(b, lr.2.map fT), (a, lh.2.map fT)]) (.inl rfl) rfl (Sees.one rfl rfl rfl rfl rfl) (by decide) (by decide) (EvI_list _ (Ev_name rfl ⟨rfl, .fl, .mk 0, ?_⟩)) (fmap19 K.fl) (fun _ _ _ _ => .fl) (fun _ _ _ => .fl) ?_)
  · rintro j x' _ _ hx ⟨_⟩ _ L D' s1' X1' Z1' hD
    rw [List.getElem?_map] at hx
    obtain ⟨p, hp, rfl⟩ := Option.map_eq_some_iff.mp hx
    refine ⟨_, Ext.cons rfl (Ext.nil _), Asg_tup3 (.inl rfl) (.inl rfl) (.inl rfl), ?_⟩
    refine EvB.of_cmp2 (Ev_bin (Ev_name rfl (Ev_int (Op2_div (by decide) ?_ (PyProof.noPylong_small (by decide))))))
    rw [show (2 : Int) = ((2 : Nat) : Int) from rfl, fdiv_nat]
    refine Ev_name rfl (Op2_le ⟨_, rfl, fun h1 => ⟨(fun e => by cases e), fun _ => .no _ rfl (FcI.f hp (and_f1 (le_f h1)))⟩, fun h1 => Ev_bin (Ev_name rfl (Ev_int (Op2_div (by decide) ?_ (PyProof.noPylong_small (by decide)))))⟩)
    rw [fdiv_nat]
    exact Op2_lt ⟨_, rfl, fun h2 => Ev_name rfl (.yes _ _ rfl (FcI.t hp (and_tt (le_t h1) (gt_t h2)))), fun h2 => .no _ rfl (FcI.f hp (and_f2 (gt_f h2)))⟩
  intro _ _ _ hI
  obtain ⟨rfl, rfl⟩ := hI.all
  rw [inside_map]
  clear hI
  have hlh : (psortK ltT id lh.2).length < 64 := by rw [psortK_length SwoT K.hl]; exact K.hl
  -- the few that are asked for
  refine Ex_cut (LwC (lwR ds fs a b (insideOf fs t) (lwD lh.1 lr.1 (dueOf fs t))) [(b, lr.2.map fT), (a, lh.2.map fT)]) ?_ ?_
  · refine Ex_if (EvB.and2 (EvB_eqC rfl ⟨fun h => ⟨(fun e => by cases e), fun _ => ?_⟩, fun h => EvB.not (EvB.plain (Ev_def T.h21 rfl rfl rfl (Evs_cons (Ev_name rfl (Evs_cons (Ev_name rfl (Evs_cons (Ev_name rfl (Evs_cons (Ev_name rfl (Evs_nil (CallF.callB ?_))))))))))))⟩))
    · exact Ex_nil ⟨_, lwR_ext rfl rfl rfl rfl rfl (lwD_ext rfl rfl rfl), .mk⟩
    · have hf := K.few (eq_of_beq h)
      refine ⟨[(a, lh.2.map fT), (b, lr.2.map fT)], _, ((Fn_law_few T X21 (a := a) (b := b) hba.symm (H := lh.2) (R := lr.2) (I := insideOf fs t) (n := d.wish) K.hl K.rl K.il K.wish.1 K.wish.2).room (by walk_at "n")), ?_, ?_, ?_⟩
      · intro p hp
        rcases List.mem_cons.mp hp with rfl | hp
        · exact .tail _ (.head _)
        · rw [List.mem_singleton.mp hp]; exact .head _
      · exact List.nodup_cons.mpr ⟨fun h => hba (List.mem_singleton.mp h).symm, List.nodup_cons.mpr ⟨(fun h => nomatch h), List.nodup_nil⟩⟩
      · rintro _ _ hk ⟨rfl, rfl⟩
        rw [two_lists hba]
        refine Op1B_bool ⟨fun h => ?_, fun h => ?_⟩
        · rw [hf] at h; cases h
        · exact Ex_nil ⟨_, lwR_ext rfl rfl rfl rfl rfl (lwD_ext rfl rfl rfl), .mk⟩
  rintro _ _ ⟨⟩
  -- told, seen, row, heap
  refine Ex_cons (Ex_if (EvB.or4 (EvB.of_cmp (Ev_name rfl (Ev_name rfl (Op2_neT (k := 37) (xs := lh.1) (ys := dueOf fs t) .fl .fl ⟨_, rfl, (fun h => nomatch self_ne K.told h), fun _ => EvB.or3 (EvB.of_cmp (Ev_name rfl (Ev_name rfl (Op2_neT (k := 37) (xs := lr.1) (ys := dueOf fs t) .fl .fl ⟨_, rfl, (fun h => nomatch self_ne K.seen h), fun _ => EvB.or2 (EvB.of_cmp (Ev_name rfl (Ev_name rfl (Op2_neT (k := 37) (xs := lr.2) (ys := insideOf fs t) .hd .fl ⟨_, rfl, (fun h => nomatch self_ne K.row h), fun _ => ?_⟩))))⟩))))⟩))))))
  refine EvB.of_cmp (Ev_bi T.sorted rfl rfl rfl (Evs_cons (Ev_name rfl (Evs_nil (CallB_sorted SortFT SwoT (LsOf.tl .hd) K.hl (Ev_name rfl (Op2_neT (k := 37) (xs := psortK ltT id lh.2) (ys := insideOf fs t) .fl .fl ⟨_, rfl, (fun h => nomatch self_ne K.sorted h), fun _ => Ex_nil ?_⟩)))))))
  -- no item of the heap is less than the one over it
  refine Ex_cons (Ex_if (EvB.of_cmp (Ev_comp (k := 36) (rng 1 1 (((lh.2.length : Nat) : Int) - 1).toNat) (fun _ => True) [("heap", s0.heap.objs.size + 1)] [("heap", .raw (.ref a))] (LcI [(b, lr.2.map fT), (a, lh.2.map fT)]) rfl (Sees.one rfl rfl rfl rfl rfl) (by decide) (by decide) (EvI_range2 1 ((lh.2.length : Nat) : Int) (Ev_glob T.range rfl rfl rfl ⟨rfl, Ev_int ⟨rfl, Ev_bi T.len rfl rfl rfl (Evs_cons (Ev_name rfl (Evs_nil (CallB_len (LsOf.tl .hd) (fmap20 K.hl) ⟨by rw [List.length_map], by walk_at "n", by walk_at "n", by have := K.hl; walk_at "n", by have := K.hl; walk_at "n", .mk 0, ?_⟩))))⟩⟩)) (by rw [rng_length]; exact rng20 K.hl) (fun _ _ _ _ => trivial) (fun _ _ _ => trivial) ?_)))
  · rintro j x' _ _ hx ⟨_⟩ _ L D' s1' X1' Z1' hD
    obtain ⟨hj, rfl⟩ := rng_get hx
    have hj1 := rngL hj
    have e1 := List.getElem?_eq_getElem hj1
    have e2 := List.getElem?_eq_getElem (halfL hj1)
    have hno := K.heap j _ _ e1 e2
    refine ⟨_, Ext.cons rfl (Ext.nil _), Asg_name (.inl rfl), ?_⟩
    rw [rngE]
    refine EvB.of_cmp (Ev_sub (Ev_name rfl (Ev_name rfl (Op2_itemF (f := fT) (LsOf.tl (LsOf.tl .hd)) e1 (lt64_20 K.hl) (Ev_sub (Ev_name rfl (Ev_bin (Ev_bin (Ev_name rfl (Ev_int (Op2_sub (Ev_int (Op2_div (by decide) ?_ (PyProof.noPylong_small (by decide)))))))))))))))
    rw [rngP, show (2 : Int) = ((2 : Nat) : Int) from rfl, fdiv_nat]
    exact Op2_itemF (f := fT) (LsOf.tl (LsOf.tl .hd)) e2 (lt64_20 K.hl) (Op2_ltF (k := 32) LtT ⟨_, rfl, (fun h => by rw [hno] at h; cases h), fun _ => .no _ rfl (.mk _)⟩)
  rintro _ _ _ ⟨_⟩
  exact Ev_list (Evs_nil ⟨by simp, Op2_neT (k := 37) (xs := []) (ys := []) .fl .fl ⟨_, rfl, (fun h => nomatch self_ne rfl h), fun _ => Ex_nil (Ex_nil ⟨_, lwR_ext rfl rfl rfl rfl rfl (Ext.nil _), hnx⟩)⟩⟩)

theorem lawHeap2_len (H : List Thing) : (lawHeap 2 [] H).2.length ≤ H.length := by
  by_cases hne : H = []
  · subst hne; exact Nat.le_refl _
  · obtain ⟨ys, y, rfl⟩ : ∃ ys y, H = ys ++ [y] := ⟨_, _, (List.dropLast_concat_getLast hne).symm⟩
    rw [lh2 rfl, List.length_append]
    refine Nat.le_trans ?_ (Nat.le_succ _)
    show (hpop ltT ys y).2.length ≤ ys.length
    cases ys with
    | nil => exact Nat.le_refl _
    | cons z zs => exact Nat.le_of_eq (su_length _ _ _ _ (Nat.zero_lt_succ _))
theorem popsH_len {H : List Thing} (h : H.length < 64) : ∀ i, (popsH H i).length < 64
  | 0 => h
  | i + 1 => Nat.lt_of_le_of_lt (lawHeap2_len _) (popsH_len h i)
inductive LpI (I H R : List Thing) (a b : Addr) : Nat → List D → Ls → Prop
  | mk (j : Nat) : LpI I H R a b j ((I.take j).map fT) [(b, R.map fT), (a, (popsH H j).map fT)]

/- the law's last row -/
theorem law_end {g : Gx} (T : TX g) {r22 : Rest} {f22 : Addr} {a b : Addr} (hba : b ≠ a) {H R I : List Thing} (hH : H.length < 64) (hI : I.length < 64) (hlast : ∀ i x, I[i]? = some x → (lawHeap 2 [] (popsH H i)).1 = [x]) (hempty : popsH H I.length = []) {s0 : Shared} {X0 : List Addr} {ds : List Deed} {fs : List (Thing × Nat × Nat)} {st : Stmt} (hst : (fB 22)[6]? = some st) {PF : Fl → Rho → Ls → Prop} (fin : ∀ ρ ls, PF (.ret (.bool true)) ρ ls) :
    Ex (cxOf (mkFd 22 .none .none r22) f22 g s0 X0 []) 40 (exec st (cxOf (mkFd 22 .none .none r22) f22 g s0 X0 []).env) (lwR ds fs a b I []) [(b, R.map fT), (a, H.map fT)] PF := by
  cases hst
  refine Ex_ret (Ev_and (Ev_cmp (Ev_comp (k := 38) (I.map fT) (fun ls => LsOf ls (.fl (I.map fT)) (I.map fT)) [("heap", s0.heap.objs.size + 1)] [("heap", .raw (.ref a))] (LpI I H R a b) rfl (Sees.one rfl rfl rfl rfl rfl) (by decide) (by decide) (EvI_list _ (Ev_name rfl ⟨rfl, .fl, .mk 0, ?_⟩)) (fmap19 hI) (fun _ _ _ _ => .fl) (fun _ _ _ => .fl) ?_)))
  · rintro j x' _ _ hx ⟨_⟩ _ L D' s1' X1' Z1' hD
    rw [List.getElem?_map] at hx
    obtain ⟨p, hp, rfl⟩ := Option.map_eq_some_iff.mp hx
    have hl := hlast j p hp
    have hDa : D' ≠ a := fun e => hD (e ▸ .tail _ (.head _))
    have hne : popsH H j ≠ [] := fun e => by rw [e] at hl; cases hl
    obtain ⟨zs, z, hz⟩ : ∃ zs z, popsH H j = zs ++ [z] := ⟨_, _, (List.dropLast_concat_getLast hne).symm⟩
    have hpj := popsH_len hH j
    have hnext : popsH H (j + 1) = (lawHeap 2 [] (popsH H j)).2 := rfl
    rw [hz, lh2 rfl] at hl hnext
    rw [hz, List.length_append] at hpj
    rw [hz]
    refine ⟨_, Ext.cons rfl (Ext.nil _), Asg_name (.inl rfl), ?_⟩
    refine Ev_def T.h2 rfl rfl rfl (Evs_cons (Ev_name rfl (Evs_nil (CallB_one (.tail _ (.tail _ (.head _))) (Fn_heappop T LtT (ys := zs) (y := z) (lt64_19 (Nat.lt_of_succ_lt hpj))) (by walk_at "n") ?_))))
    rw [lset_cons_ne hDa, lset_cons_ne hba, lset_one]
    refine .yes _ _ rfl ?_
    have e1 : (hpop ltT zs z).1 = p := (List.cons.inj hl).1
    have hnext : popsH H (j + 1) = (hpop ltT zs z).2 := hnext
    have e2 : (I.take j).map fT ++ [fT p] = (I.take (j + 1)).map fT := by rw [take_snoc hp, List.map_append]; rfl
    rw [e1, e2, ← hnext]
    exact .mk _
  rw [List.length_map]
  rintro _ _ _ ⟨_⟩
  rw [List.take_length, hempty]
  refine Ev_name rfl (Op2_eqT (k := 39) (xs := I) (ys := I) .fl .fl ⟨_, rfl, (fun h => by rw [decide_eq_true rfl] at h; cases h), fun _ => ?_⟩)
  exact Ev_cmp (Ev_name rfl (Ev_list (Evs_nil ⟨by simp, Op2_eqT (k := 39) (xs := []) (ys := []) (LsOf.tl .hd) .fl (fin _ _)⟩)))

theorem ExA_law {g : Gx} (T : TX g) {r22 : Rest} {f22 : Addr} (hie : Gl g.G "IndexError" (.type "IndexError")) (X20 : LamX g 20 (faOf 20) (rOf 20)) (X21 : LamX g 21 (faOf 21) (rOf 21)) {a0 : Addr} {vs0 : List Value} {ns : List Int} (hG : g.G.IsList a0 vs0.toArray) (hi : IntsAre vs0 ns) (h63 : ns.length ≤ 63) (OK : LawOk (deedsOf ns))
    {s0 : Shared} {X0 : List Addr} {A : Around} (hA : Room 40 A) (hfr : A.frames = some [(cxOf (mkFd 22 .none .none r22) f22 g s0 X0 []).env]) :
    ExA (cxOf (mkFd 22 .none .none r22) f22 g s0 X0 []) A (execs (fB 22) (cxOf (mkFd 22 .none .none r22) f22 g s0 X0 []).env) [("script", .raw (.ref a0))] [] (fun fl ρ ls => fl = .ret (.bool true)) := by
  have hdeeds := Fn_law_deeds T hG hi h63
  generalize deedsOf ns = ds at OK hdeeds
  have hlen := OK.len
  have hfates := Fn_law_fates T hlen.2 OK.items OK.stays
  have hnd : (ds.map fD).length < 2 ^ 20 := by rw [List.length_map]; exact Nat.lt_of_le_of_lt hlen.2 (by decide)
  refine ExA_ex (k := 40) hA (Ex_assign (.inl rfl) (Ev_def T.h17 rfl rfl rfl (Evs_cons (Ev_name rfl (Evs_nil (CallB_zero hdeeds (by walk_at "n") ?_))))))
  refine ExA_ex (k := 40) hA (Ex_assign (.inl rfl) (Ev_def T.h18 rfl rfl rfl (Evs_cons (Ev_name rfl (Evs_nil (CallB_zero hfates (by walk_at "n") ?_))))))
  clear hdeeds hfates
  refine ExA_ex (k := 40) hA (Ex_newlist (.inr ⟨rfl, _, rfl, .tail _ (.head _)⟩) fun a hak haX => ?_)
  refine ExA_ex (k := 40) hA (Ex_newlist (.inl rfl) fun b hbk hbX => ?_)
  refine ExA_ex (k := 40) hA (Ex_newlist (.inl rfl) fun e hek heX => ?_)
  refine ExA_freeze (x := "inside") rfl heX ?_
  have hba : b ≠ a := fun h => hbk (h ▸ .head _)
  have hbl : ∀ xs : List D, b ∉ keys ([(a, xs)] : Ls) := fun xs h => (List.mem_cons.mp h).elim hba fun h => nomatch h
  refine ExA_cons (ExA_for (k := 38) hA (rng 0 1 (ds.length : Int).toNat) (fun _ => True) (LwI ds a b) (lwR ds (fatesOf ds) a b [] []) (lwR_ext rfl rfl rfl rfl rfl (Ext.nil _))
    (EvI_range1 ((ds.length : Nat) : Int) (Ev_glob T.range rfl rfl rfl ⟨rfl, Ev_bi T.len rfl rfl rfl (Evs_cons (Ev_name rfl (Evs_nil (CallB_len .fl hnd ⟨by rw [List.length_map], by walk_at "n", by walk_at "n", .mk 0 (Nat.zero_le _)⟩))))⟩)) (fun _ _ _ _ => trivial) ?_ ?_)
  · rintro t x _ _ hx ⟨ht⟩ s0' X0' Z0'
    obtain ⟨hlt, rfl⟩ := rng_up hx
    have hget := List.getElem?_eq_getElem (l := ds) hlt
    have hlt : t < ds.length := hlt
    have hmem := List.mem_of_getElem? hget
    generalize ds[t] = d at hget hmem
    have hit := OK.items d hmem
    have hHR : HR ds (t + 1) = ((lawHeap d.kind d.items (HR ds t).1).2, (lawRow d.kind d.items (HR ds t).2).2) := by
      show (match ds[t]? with | some d => _ | none => _) = _
      rw [hget]
    have hs0 := OK.small t
    have hs1 := OK.small (t + 1)
    have hrow := OK.row t hlt
    have hsort := OK.sorted t hlt
    have hheap := OK.heap (t + 1)
    have hfew := OK.few t d hget
    have hnx : LwI ds a b (t + 1) _ _ := .mk (t + 1) hlt
    rw [hHR] at hs1 hrow hsort hheap hfew hnx
    have il : (insideOf (fatesOf ds) t).length < 64 := Nat.lt_of_le_of_lt (by unfold insideOf; rw [List.length_map]; exact List.length_filter_le ..) OK.fates
    have K : LTok (fatesOf ds) t d (lawHeap d.kind d.items (HR ds t).1) (lawRow d.kind d.items (HR ds t).2) := ⟨hs1.1, hs1.2, il, OK.fates, OK.told t d hget, OK.seen t d hget, hrow, hsort, hheap, hfew, OK.wish d hmem⟩
    clear hs1 hrow hsort hheap hfew hHR il
    have hnx : LwI ds a b (t + 1) (lwR ds (fatesOf ds) a b (insideOf (fatesOf ds) t) []) [(b, (lawRow d.kind d.items (HR ds t).2).2.map fT), (a, (lawHeap d.kind d.items (HR ds t).1).2.map fT)] := hnx
    generalize fatesOf ds = fs at K hnx
    generalize insideAt fs t = I0
    generalize (HR ds t).1 = H at hs0 K hnx
    generalize (HR ds t).2 = R at hs0 K hnx
    refine ⟨_, Asg_name (.inr ⟨rfl, _, rfl, .head _⟩), ?_⟩
    refine ExA_ex (k := 38) (hA.mono (by walk_at "n")) (Ex_assignT (Ev_sub (Ev_name rfl (Ev_name rfl (Op2_itemF (x := d) .fl hget (Nat.lt_of_le_of_lt hlen.2 (by decide)) ⟨_, Asg_tup3 (.inl rfl) (.inl rfl) (.inl rfl), ?_⟩)))))
    cases hits : d.items with
    | nil => exact absurd hits hit.1
    | cons x its =>
      rw [hits] at hit K hnx
      have hil : its.length ≤ 2 := Nat.le_of_succ_le_succ hit.2
      refine ExA_cons (ExA_told T hie (hA.mono (by walk_at "n")) hba hs0.1 (Nat.lt_of_le_of_lt hil (by decide)) hfr rfl rfl rfl ?_)
      generalize lawHeap d.kind (x :: its) H = lh at K hnx
      refine ExA.of (k := 38) (hA.mono (by walk_at "n")) ?_
      refine Ex_cons (Ex_assign (.inl rfl) (Ev_def T.h20 rfl rfl rfl (Evs_cons (Ev_name rfl (Evs_cons (Ev_name rfl (Evs_cons (Ev_name rfl (Evs_nil (CallB_one (.head _) (Fn_law_row T X20 (its := x :: its) (Nat.lt_trans hs0.2 (by decide)) hit.2) (by walk_at "n") ?_))))))))))
      rw [lset_cons_eq (hbl _)]
      generalize lawRow d.kind (x :: its) R = lr at K hnx
      exact (law_tail T X21 hba K (I0 := I0) hnx rfl rfl).forget (lwR_ext rfl rfl rfl rfl rfl (Ext.cons rfl (Ext.cons rfl (Ext.cons rfl (Ext.cons rfl (Ext.cons rfl (Ext.nil _)))))))
  · rw [rng_length, show ((ds.length : Nat) : Int).toNat = ds.length from rfl]
    rintro _ _ ⟨_⟩
    have hsm := OK.small ds.length
    have hlast := OK.last
    have hempty := OK.empty
    have hI : (insideAt (fatesOf ds) ds.length).length < 64 := by
      cases ds.length with
      | zero => exact Nat.zero_lt_succ _
      | succ t => exact Nat.lt_of_le_of_lt (by show (insideOf _ _).length ≤ _; unfold insideOf; rw [List.length_map]; exact List.length_filter_le ..) OK.fates
    generalize (HR ds ds.length).1 = H at hsm hlast hempty ⊢
    generalize insideAt (fatesOf ds) ds.length = I at hlast hempty hI ⊢
    exact ExA_ex (k := 40) hA (law_end T hba hsm.1 hI hlast hempty (by rfl) fun _ _ => rfl)
end Mine
end

noncomputable section
set_option genSizeOf false
set_option genInjectivity false
set_option Elab.async false
set_option linter.unusedVariables false
set_option maxRecDepth 100000
namespace Mine
open PySem PySem.Calls PyProof.Rows PySem.W

theorem mkFn {P : Params} {G : Heap} {p : Program} {loose : List Str} {mg mb : Str → Option Value} {x : String} {i : Nat} {dv kv : Value} {fa : Addr} {r : Rest} (X : (K P).In G) (T : TopRead p loose mg mb G)
    (hx : nsIn (K P) mainGlobals x = some (some (.ref fa))) (hf : ∃ o, (K P).lookup fa = some o ∧ o.data = .func (mkFd i dv kv r))
    (hc : ∃ c o vs t, r.code = .ref c ∧ (K P).lookup c = some o ∧ o.data = .fields vs ∧ vs[1]? = some (.str r.qualname t)) : HasFn x i dv kv fa r G :=
  ⟨⟨mg, mb, T.g, T.b, .inl (mg_of X T.g hx)⟩, let ⟨o, h1, h2⟩ := hf; ⟨o, X _ _ h1, h2⟩, let ⟨c, o, vs, t, h1, h2, h3, h4⟩ := hc; ⟨c, o, vs, t, h1, X _ _ h2, h3, h4⟩⟩
theorem mkBi {P : Params} {G : Heap} {p : Program} {loose : List Str} {mg mb : Str → Option Value} {x : Str} {v : Value} (X : (K P).In G) (T : TopRead p loose mg mb G)
    (hx : nsIn (K P) mainGlobals x = some none) (hv : bootBuiltins x = some v) (hn : x ≠ "__name__") : Gl G x v :=
  ⟨mg, mb, T.g, T.b, .inr ⟨mg_none_of X T.g hx, (T.builtins x hn).trans hv⟩⟩

theorem mkTX {P : Params} {g : Gx} {p : Program} {loose : List Str} {mg mb : Str → Option Value} (X : (K P).In g.G) (T : TopRead p loose mg mb g.G) : TX g :=
  { lim := T.nolimit,
    h1 := mkFn X T (by kernel_rfl) ⟨_, rfl, rfl⟩ ⟨20, _, _, _, rfl, rfl, rfl, rfl⟩,
    h2 := mkFn X T (by kernel_rfl) ⟨_, rfl, rfl⟩ ⟨27, _, _, _, rfl, rfl, rfl, rfl⟩,
    h3 := mkFn X T (by kernel_rfl) ⟨_, rfl, rfl⟩ ⟨34, _, _, _, rfl, rfl, rfl, rfl⟩,
    h4 := mkFn X T (by kernel_rfl) ⟨_, rfl, rfl⟩ ⟨41, _, _, _, rfl, rfl, rfl, rfl⟩,
    h5 := mkFn X T (by kernel_rfl) ⟨_, rfl, rfl⟩ ⟨48, _, _, _, rfl, rfl, rfl, rfl⟩,
    h6 := mkFn X T (by kernel_rfl) ⟨_, rfl, rfl⟩ ⟨55, _, _, _, rfl, rfl, rfl, rfl⟩,
    h7 := mkFn X T (by kernel_rfl) ⟨_, rfl, rfl⟩ ⟨62, _, _, _, rfl, rfl, rfl, rfl⟩,
    h8 := mkFn X T (by kernel_rfl) ⟨_, rfl, rfl⟩ ⟨69, _, _, _, rfl, rfl, rfl, rfl⟩,
    h9 := mkFn X T (by kernel_rfl) ⟨_, rfl, rfl⟩ ⟨76, _, _, _, rfl, rfl, rfl, rfl⟩,
    h10 := mkFn X T (by kernel_rfl) ⟨_, rfl, rfl⟩ ⟨83, _, _, _, rfl, rfl, rfl, rfl⟩,
    h11 := mkFn X T (by kernel_rfl) ⟨_, rfl, rfl⟩ ⟨90, _, _, _, rfl, rfl, rfl, rfl⟩,
    h12 := mkFn X T (by kernel_rfl) ⟨_, rfl, rfl⟩ ⟨96, _, _, _, rfl, rfl, rfl, rfl⟩,
    h14 := mkFn X T (by kernel_rfl) ⟨_, rfl, rfl⟩ ⟨105, _, _, _, rfl, rfl, rfl, rfl⟩,
    h15 := mkFn X T (by kernel_rfl) ⟨_, rfl, rfl⟩ ⟨114, _, _, _, rfl, rfl, rfl, rfl⟩,
    h17 := mkFn X T (by kernel_rfl) ⟨_, rfl, rfl⟩ ⟨121, _, _, _, rfl, rfl, rfl, rfl⟩,
    h18 := mkFn X T (by kernel_rfl) ⟨_, rfl, rfl⟩ ⟨126, _, _, _, rfl, rfl, rfl, rfl⟩,
    h19 := mkFn X T (by kernel_rfl) ⟨_, rfl, rfl⟩ ⟨133, _, _, _, rfl, rfl, rfl, rfl⟩,
    h20 := mkFn X T (by kernel_rfl) ⟨_, rfl, rfl⟩ ⟨140, _, _, _, rfl, rfl, rfl, rfl⟩,
    h21 := mkFn X T (by kernel_rfl) ⟨_, rfl, rfl⟩ ⟨147, _, _, _, rfl, rfl, rfl, rfl⟩,
    h22 := mkFn X T (by kernel_rfl) ⟨_, rfl, rfl⟩ ⟨152, _, _, _, rfl, rfl, rfl, rfl⟩,
    hd12 := ⟨_, _, X 92 _ rfl, rfl⟩, hd14 := ⟨_, _, X 98 _ rfl, rfl⟩, hd15 := ⟨_, _, X 107 _ rfl, rfl⟩,
    len := mkBi X T (by kernel_rfl) (by kernel_rfl) (by decide), range := mkBi X T (by kernel_rfl) (by kernel_rfl) (by decide), reversed := mkBi X T (by kernel_rfl) (by kernel_rfl) (by decide), max := mkBi X T (by kernel_rfl) (by kernel_rfl) (by decide), min := mkBi X T (by kernel_rfl) (by kernel_rfl) (by decide), sorted := mkBi X T (by kernel_rfl) (by kernel_rfl) (by decide), iter := mkBi X T (by kernel_rfl) (by kernel_rfl) (by decide), object := mkBi X T (by kernel_rfl) (by kernel_rfl) (by decide), zip := mkBi X T (by kernel_rfl) (by kernel_rfl) (by decide) }
theorem mkIE {P : Params} {G : Heap} {p : Program} {loose : List Str} {mg mb : Str → Option Value} (X : (K P).In G) (T : TopRead p loose mg mb G) : Gl G "IndexError" (.type "IndexError") := mkBi X T (by kernel_rfl) (by kernel_rfl) (by decide)
end Mine
end

noncomputable section
set_option genSizeOf false
set_option genInjectivity false
set_option Elab.async false
set_option linter.unusedVariables false
set_option maxRecDepth 100000
namespace Mine
open PySem PySem.Calls PyProof.Rows PySem.W

def qualOf (P : Addr) : Str := if P = 136 then Str.ofString "_law_row" ++ ".<locals>." ++ "<lambda>" else Str.ofString "_law_few" ++ ".<locals>." ++ "<lambda>"

theorem law_run {prog : Program} {w : World} {P : Params} {s1 : Shared} {G h₁ : Heap} {L f22 : Addr} {cd : Value} {m : Str → Option Value} {a0 : Addr} {vs : List Value} {ns : List Int} {p : Program} {loose : List Str} {mean : ExcName → Option Value} {mg mb : Str → Option Value} {oc1 oc2 : Obj} {v1 v2 : Option Value} {tk : Nat}
    (X : (K P).In G) (T : Top p loose mean mg mb G) (F : Fr G L h₁ m) (hsz : G.objs.size = L) (hm : m "script" = some (.ref a0))
    (hc1 : h₁.get? (L + 1) = some oc1) (hd1 : oc1.data = .cell v1) (hc2 : h₁.get? (L + 1 + 1) = some oc2) (hd2 : oc2.data = .cell v2)
    (ht1 : h₁.get? 143 = some (tabObj #[])) (ht2 : h₁.get? 136 = some (tabObj #[])) (hn1 : G.get? 143 = none) (hn2 : G.get? 136 = none) (hl1 : 143 < L) (hl2 : 136 < L) (cd1 : CodeHd G 147 143) (cd2 : CodeHd G 140 136)
    (hG : G.IsList a0 vs.toArray) (hi : IntsAre vs ns) (h63 : ns.length ≤ 63) (OK : LawOk (deedsOf ns)) :
    wpAny (model prog w) (callerA.deeper (callEnvC (mkFd 22 .none .none ⟨Str.ofString "law", Str.ofString "law", .none, .none, none, cd, .none⟩) L f22)) (execs (fB 22) (callEnvC (mkFd 22 .none .none ⟨Str.ofString "law", Str.ofString "law", .none, .none, none, cd, .none⟩) L f22))
      (fun f s' => f = .ret (.bool true) ∧ (∀ b o, G.get? b = some o → s'.heap.get? b = some o) ∧ s'.gens = s1.gens ∧ s'.os = s1.os ∧ GrownAll [(147, 143), (140, 136)] s'.heap) No { s1 with heap := h₁, toks := tk } := by
  subst hsz
  have TR := topRead_of T
  have TT := mkTX (g := ⟨prog, w, G, [(147, 143), (140, 136)], qualOf⟩) X TR
  obtain ⟨bm, ob, b1, b2, b3, b4, b5, b6⟩ := T.bmain
  have hbG : bm ≠ mainGlobals := fun q => by
    obtain ⟨o, es, ep, e, hd, _⟩ := T.g
    rw [q, e] at b3; cases b3; rw [hd] at b6; cases b6
  have X20 : LamX ⟨prog, w, G, [(147, 143), (140, 136)], qualOf⟩ 20 (faOf 20) (rOf 20) := by
    exact ⟨140, 136, mg, .tail _ (.head _), rfl, cd2, rfl, T.g, ⟨bm, ob, b1, b2, hbG, (fun q => by rw [q, hn2] at b3; cases b3), b3, b4, b5, b6⟩⟩
  have X21 : LamX ⟨prog, w, G, [(147, 143), (140, 136)], qualOf⟩ 21 (faOf 21) (rOf 21) := by
    exact ⟨147, 143, mg, .head _, rfl, cd1, rfl, T.g, ⟨bm, ob, b1, b2, hbG, (fun q => by rw [q, hn1] at b3; cases b3), b3, b4, b5, b6⟩⟩
  have law := ExA_law TT (r22 := ⟨Str.ofString "law", Str.ofString "law", .none, .none, none, cd, .none⟩) (f22 := f22) (mkIE X TR) X20 X21 hG hi h63 OK (s0 := { s1 with heap := G }) (X0 := [143, 136]) (A := callerA.deeper (callEnvC (mkFd 22 .none .none ⟨Str.ofString "law", Str.ofString "law", .none, .none, none, cd, .none⟩) G.objs.size f22))
    ((show Room 41 callerA from ⟨by decide +kernel, by decide +kernel, rfl⟩).deeper) (Around.frames_deeper rfl)
  have nl : ∀ a : Nat, a < G.objs.size → ¬ (a = G.objs.size ∨ a = G.objs.size + 1 + 1 ∨ a = G.objs.size + 1) := fun a h => by walk_at "n"
  have big : ∀ b : Nat, G.objs.size ≤ b → G.get? b = none := fun b hb => Heap.get?_none_of_le hb
  have S : St (cxOf (mkFd 22 .none .none ⟨Str.ofString "law", Str.ofString "law", .none, .none, none, cd, .none⟩) f22 ⟨prog, w, G, [(147, 143), (140, 136)], qualOf⟩ { s1 with heap := G } [143, 136] []) [("script", .raw (.ref a0))] [] { s1 with heap := h₁, toks := tk } := by
    have own : ∀ a ∈ (cxOf (mkFd 22 .none .none ⟨Str.ofString "law", Str.ofString "law", .none, .none, none, cd, .none⟩) f22 ⟨prog, w, G, [(147, 143), (140, 136)], qualOf⟩ { s1 with heap := G } [143, 136] []).own [], a = G.objs.size ∨ a = G.objs.size + 1 + 1 ∨ a = G.objs.size + 1 := fun a ha => by
      have e : (cxOf (mkFd 22 .none .none ⟨Str.ofString "law", Str.ofString "law", .none, .none, none, cd, .none⟩) f22 ⟨prog, w, G, [(147, 143), (140, 136)], qualOf⟩ { s1 with heap := G } [143, 136] []).own [] = [G.objs.size, G.objs.size + 1 + 1, G.objs.size + 1] := rfl
      rw [e] at ha
      simpa using ha
    exact {
      fm := {
        top := fun a o e => F.keep a o e
        nx := ⟨fun a o e _ => F.keep a o e, rfl, rfl⟩
        mine := fun a ha => by
          rcases own a ha with rfl | rfl | rfl
          · obtain ⟨o, es, ep, e, _⟩ := F.ns
            exact ⟨.inr (big _ (Nat.le_refl _)), big _ (Nat.le_refl _), o, e⟩
          · exact ⟨.inr (big _ (by walk_at "n")), big _ (by walk_at "n"), _, hc2⟩
          · exact ⟨.inr (big _ (by walk_at "n")), big _ (by walk_at "n"), _, hc1⟩
        apart := by
          show ([G.objs.size, G.objs.size + 1 + 1, G.objs.size + 1] : List Nat).Nodup
          refine List.nodup_cons.mpr ⟨fun h => ?_, List.nodup_cons.mpr ⟨fun h => ?_, List.nodup_cons.mpr ⟨(fun h => nomatch h), List.nodup_nil⟩⟩⟩
          · simp only [List.mem_cons, List.not_mem_nil, or_false] at h; walk_at "n"
          · simp only [List.mem_cons, List.not_mem_nil, or_false] at h; walk_at "n"
        old := fun a ha => by
          have ha : a ∈ ([143, 136] : List Nat) := ha
          simp only [List.mem_cons, List.not_mem_nil, or_false] at ha
          rcases ha with rfl | rfl
          · exact ⟨_, ht1⟩
          · exact ⟨_, ht2⟩
        sub := fun a ha => ha
        tabs := fun q hq => by
          have hq : q ∈ ([(147, 143), (140, 136)] : List (Addr × Addr)) := hq
          simp only [List.mem_cons, List.not_mem_nil, or_false] at hq
          rcases hq with rfl | rfl
          · exact ⟨.head _, hn1, fun ho => nl 143 hl1 (own _ ho)⟩
          · exact ⟨.tail _ (.head _), hn2, fun ho => nl 136 hl2 (own _ ho)⟩
        grown := fun q hq => by
          have hq : q ∈ ([(147, 143), (140, 136)] : List (Addr × Addr)) := hq
          simp only [List.mem_cons, List.not_mem_nil, or_false] at hq
          rcases hq with rfl | rfl
          · exact ⟨#[], ht1, trivial, fun pos cv e => by simp [codeAmong] at e⟩
          · exact ⟨#[], ht2, trivial, fun pos cv e => by simp [codeAmong] at e⟩ }
      fn := rfl
      inj := fun x y ca hx hy => by
        have e : (cxOf (mkFd 22 .none .none ⟨Str.ofString "law", Str.ofString "law", .none, .none, none, cd, .none⟩) f22 ⟨prog, w, G, [(147, 143), (140, 136)], qualOf⟩ { s1 with heap := G } [143, 136] []).env.cells = ([("turn", G.objs.size + 1 + 1), ("heap", G.objs.size + 1)] : List (Str × Addr)) := rfl
        rw [e] at hx hy
        have look : ∀ (z : Str) (ca : Nat), ([("turn", G.objs.size + 1 + 1), ("heap", G.objs.size + 1)] : List (Str × Nat)).lookup z = some ca → (z = "turn" ∧ ca = G.objs.size + 1 + 1) ∨ (z = "heap" ∧ ca = G.objs.size + 1) := fun z ca h => by
          rw [List.lookup_cons] at h
          by_cases e : (z == ("turn" : Str)) = true
          · rw [e] at h; cases h; exact .inl ⟨by simpa using e, rfl⟩
          · simp only [e] at h; obtain ⟨h1, h2⟩ := lookup_one h; exact .inr ⟨h1, h2⟩
        rcases look x ca hx with ⟨rfl, h1⟩ | ⟨rfl, h1⟩ <;> rcases look y ca hy with ⟨rfl, h2⟩ | ⟨rfl, h2⟩
        · rfl
        · walk_at "n"
        · walk_at "n"
        · rfl
      cells := fun ca hca => by
        have hca : ca ∈ ([G.objs.size + 1 + 1, G.objs.size + 1] : List Nat) := hca
        simp only [List.mem_cons, List.not_mem_nil, or_false] at hca
        rcases hca with rfl | rfl
        · exact ⟨v2, oc2, hc2, hd2⟩
        · exact ⟨v1, oc1, hc1, hd1⟩
      names := ⟨m, F.ns, fun x d hx => by
        obtain ⟨rfl, rfl⟩ := lookup_one hx
        exact ⟨.ref a0, rfl, .inl ⟨rfl, hm⟩⟩⟩
      lists := fun p hp => nomatch hp }
  refine wpAny_mono (law _ S) ?_ fun _ _ x => x
  rintro f s' ⟨fl, ρ', ls', S', hf, rfl⟩
  cases f <;> simp only [FlR] at hf
  cases hf
  refine ⟨rfl, S'.fm.top, S'.fm.nx.gens, S'.fm.nx.os, ?_, ?_, trivial⟩
  · obtain ⟨ps, h, _⟩ := S'.fm.grown (147, 143) (.head _); exact ⟨ps, h⟩
  · obtain ⟨ps, h, _⟩ := S'.fm.grown (140, 136) (.tail _ (.head _)); exact ⟨ps, h⟩
end Mine
end

noncomputable section
set_option genSizeOf false
set_option genInjectivity false
set_option Elab.async false
set_option linter.unusedVariables false
namespace Mine

variable {α : Type}
def Pa (c : Nat) : Nat := (c - 1) / 2
theorem Pa_lt {c : Nat} (h : 1 ≤ c) : Pa c < c := by unfold Pa; walk_at "n"
theorem Pa_le (c : Nat) : Pa c ≤ c := Nat.le_trans (Nat.div_le_self _ _) (Nat.sub_le _ _)
theorem Pa_kids {c h : Nat} (hc : 1 ≤ c) (e : Pa c = h) : c = 2 * h + 1 ∨ c = 2 * h + 2 := by unfold Pa at e; walk_at "n"
theorem Pa_kid {c h : Nat} (hc : c = 2 * h + 1 ∨ c = 2 * h + 1 + 1) : Pa c = h := by unfold Pa; walk_at "n"
theorem Pa_ge {c h : Nat} (hc : 1 ≤ c) (e : Pa c = h) : 2 * h + 1 ≤ c := (Pa_kids hc e).elim (fun e => Nat.le_of_eq e.symm) fun e => e ▸ Nat.le_succ _
theorem kid_lt {c h : Nat} (hc : c = 2 * h + 1 ∨ c = 2 * h + 1 + 1) : h < c := by walk_at "n"
def Edge (lt : α → α → Bool) (xs : List α) (c q : Nat) : Prop := ∀ a b, xs[c]? = some a → xs[q]? = some b → lt a b = false
inductive Sub (s : Nat) : Nat → Prop where
  | refl : Sub s s
  | step {c : Nat} : 1 ≤ c → Sub s (Pa c) → Sub s c
theorem Sub.le {s c : Nat} (h : Sub s c) : s ≤ c := by
  induction h with
  | refl => exact Nat.le_refl _
  | step h1 _ ih => exact Nat.le_trans ih (Pa_le _)
theorem Sub.up {s c : Nat} (h : Sub s c) (hc : s < c) : Sub s (Pa c) := by
  cases h with
  | refl => exact absurd hc (Nat.lt_irrefl _)
  | step _ h => exact h
theorem Sub.zero (c : Nat) : Sub 0 c := by
  induction c using Nat.strongRecOn with
  | _ c ih =>
    cases c with
    | zero => exact .refl
    | succ c => exact .step (Nat.succ_pos _) (ih _ (Pa_lt (Nat.succ_pos _)))

/- from s on every item is no less than the one over it -/
def HeapFrom (lt : α → α → Bool) (s : Nat) (xs : List α) : Prop := ∀ c, 1 ≤ c → s ≤ Pa c → Edge lt xs c (Pa c)

structure Hole (lt : α → α → Bool) (s : Nat) (xs : List α) (p : Nat) (x : α) : Prop where
  e1 : ∀ c, 1 ≤ c → c ≠ p → Pa c ≠ p → s ≤ Pa c → Edge lt xs c (Pa c)
  e2 : ∀ c a, 1 ≤ c → Pa c = p → xs[c]? = some a → lt a x = false
  e3 : s < p → ∀ c a b, 1 ≤ c → Pa c = p → xs[c]? = some a → xs[Pa p]? = some b → lt a b = false
  sub : Sub s p
theorem get_lt {xs : List α} {i : Nat} {a : α} (h : xs[i]? = some a) : i < xs.length := (List.getElem?_eq_some_iff.mp h).1
theorem one_le {s p : Nat} (h : s < p) : 1 ≤ p := Nat.zero_lt_of_lt h

theorem set_get {xs : List α} {i j : Nat} {x a : α} (h : (xs.set i x)[j]? = some a) : (j = i ∧ a = x) ∨ (j ≠ i ∧ xs[j]? = some a) := by
  rw [List.getElem?_set] at h
  split at h
  · rename_i e
    split at h
    · cases h; exact .inl ⟨e.symm, rfl⟩
    · cases h
  · rename_i e
    exact .inr ⟨fun h' => e h'.symm, h⟩

theorem set_perm {xs : List α} : ∀ {i : Nat} {x : α}, i < xs.length → (xs.set i x).Perm (x :: xs.eraseIdx i) := by
  induction xs with
  | nil => intro i x h; simp at h
  | cons a r ih =>
    intro i x h
    cases i with
    | zero => simp
    | succ i =>
      simp only [List.set_cons_succ, List.eraseIdx_cons_succ]
      simp only [List.length_cons] at h
      exact ((ih (i := i) (x := x) (Nat.lt_of_succ_lt_succ h)).cons a).trans (List.Perm.swap ..)
theorem perm_erase {xs : List α} {i : Nat} {x : α} (h : xs[i]? = some x) : xs.Perm (x :: xs.eraseIdx i) := by
  have hi := (List.getElem?_eq_some_iff.mp h)
  have := set_perm (xs := xs) (x := x) hi.1
  rwa [show xs.set i x = xs by
    apply List.ext_getElem? ; intro j
    rw [List.getElem?_set]
    split
    · rename_i e; subst e; rw [if_pos hi.1, h]
    · rfl] at this

/- an item moves into the hole -/
theorem move_perm {xs : List α} {i j : Nat} {x y : α} (hi : i < xs.length) (hj : xs[j]? = some y) (hne : i ≠ j) : ((xs.set i y).set j x).Perm (xs.set i x) := by
  have hjl := (List.getElem?_eq_some_iff.mp hj).1
  have h1 := set_perm (xs := xs.set i y) (i := j) (x := x) (by simpa using hjl)
  have hj' : (xs.set i x)[j]? = some y := by rw [List.getElem?_set, if_neg hne]; exact hj
  have h2 := perm_erase hj'
  have h3 : (xs.set i y).Perm (y :: xs.eraseIdx i) := set_perm hi
  have h4 : (xs.set i x).Perm (x :: xs.eraseIdx i) := set_perm hi
  have hj'' : (xs.set i y)[j]? = some y := by rw [List.getElem?_set, if_neg hne]; exact hj
  have h5 := perm_erase hj''
  -- y :: erase j (set i y) ~ y :: erase i xs
  have h6 : ((xs.set i y).eraseIdx j).Perm (xs.eraseIdx i) := (h5.symm.trans h3).cons_inv
  exact (h1.trans (h6.cons x)).trans h4.symm

theorem sd_put {lt : α → α → Bool} (S : SwoF lt) {s : Nat} {x : α} {p : Nat} {xs : List α} (H : Hole lt s xs p x) (hx : s < p → ∀ b, xs[Pa p]? = some b → lt x b = false) : HeapFrom lt s (xs.set p x) := by
  intro c hc hs a b ha hb
  rcases set_get ha with ⟨e1, e2⟩ | ⟨hcp, ha'⟩
  · rcases set_get hb with ⟨e, e3⟩ | ⟨_, hb'⟩
    · rw [e2, e3]; exact S.irr _
    · rw [e2]
      rw [e1] at hb' hs hc
      exact hx (Nat.lt_of_le_of_lt hs (Pa_lt hc)) b hb'
  · rcases set_get hb with ⟨e, e3⟩ | ⟨hq, hb'⟩
    · rw [e3]; exact H.e2 c a hc e ha'
    · exact H.e1 c hc hcp hq hs a b ha' hb'
theorem sd_hole {lt : α → α → Bool} (S : SwoF lt) {s : Nat} {x y : α} {p : Nat} {xs : List α} (H : Hole lt s xs p x) (hps : s < p) (hget : xs[Pa p]? = some y) (hl : lt x y = true) : Hole lt s (xs.set p y) (Pa p) x := by
  have hq := Pa_lt (one_le hps)
  have hsub := H.sub.up hps
  refine ⟨fun c hc h1 h2 h3 a b ha hb => ?_, fun c a hc e ha => ?_, fun h c a b hc e ha hb => ?_, hsub⟩
  · rcases set_get ha with ⟨e1, e2⟩ | ⟨hcp, ha'⟩
    · rw [e1] at h2; exact absurd rfl h2
    · rcases set_get hb with ⟨e, e3⟩ | ⟨hq', hb'⟩
      · rw [e3]; exact H.e3 hps c a y hc e ha' hget
      · exact H.e1 c hc hcp hq' h3 a b ha' hb'
  · rcases set_get ha with ⟨e1, e2⟩ | ⟨hcp, ha'⟩
    · rw [e2]; exact S.asym _ _ hl
    · have := H.e1 c hc hcp (by rw [e]; exact Nat.ne_of_lt hq) (by rw [e]; exact hsub.le) a y ha' (by rw [e]; exact hget)
      exact S.ntr _ _ _ this (S.asym _ _ hl)
  · have h1 := one_le h
    have hr : Pa (Pa p) ≠ p := Nat.ne_of_lt (Nat.lt_trans (Pa_lt h1) hq)
    have hb' : xs[Pa (Pa p)]? = some b := (set_get hb).elim (fun e => absurd e.1 hr) fun e => e.2
    have edge := H.e1 (Pa p) h1 (Nat.ne_of_lt hq) hr (hsub.up h).le y b hget hb'
    rcases set_get ha with ⟨e1, e2⟩ | ⟨hcp, ha'⟩
    · rw [e2]; exact edge
    · have := H.e1 c hc hcp (by rw [e]; exact Nat.ne_of_lt hq) (by rw [e]; exact hsub.le) a y ha' (by rw [e]; exact hget)
      exact S.ntr _ _ _ this edge
theorem sd_ok {lt : α → α → Bool} (S : SwoF lt) {s : Nat} {x : α} (p : Nat) : ∀ (xs : List α), p < xs.length → Hole lt s xs p x → HeapFrom lt s (sdGo lt x s xs p) ∧ (sdGo lt x s xs p).Perm (xs.set p x) := by
  induction p using Nat.strongRecOn with
  | _ p ih =>
    intro xs hp H
    by_cases hps : s < p
    · have hq := Pa_lt (one_le hps)
      have hql := Nat.lt_trans hq hp
      have hget := List.getElem?_eq_getElem hql
      generalize xs[Pa p] = y at hget
      cases hl : lt x y with
      | true =>
        rw [sd_up hps hget hl]
        obtain ⟨r1, r2⟩ := ih (Pa p) hq (xs.set p y) (by rw [List.length_set]; exact hql) (sd_hole S H hps hget hl)
        exact ⟨r1, r2.trans (move_perm hp hget (Nat.ne_of_gt hq))⟩
      | false =>
        rw [sd_stop hps hget hl]
        exact ⟨sd_put S H fun _ b hb => by rw [hget] at hb; cases hb; exact hl, List.Perm.refl _⟩
    · rw [sd_end _ _ _ hps]
      exact ⟨sd_put S H fun h => absurd h hps, List.Perm.refl _⟩

theorem child_le {lt : α → α → Bool} (S : SwoF lt) {xs : List α} {h d : Nat} {a b : α} (hd : d = 2 * h + 1 ∨ d = 2 * h + 2) (ha : xs[d]? = some a) (hc : 2 * h + 1 < xs.length) (hb : xs[child lt xs (2 * h + 1)]? = some b) : lt a b = false := by
  have h0 := List.getElem?_eq_getElem hc
  generalize xs[2 * h + 1] = u at h0
  have one : d = 2 * h + 1 → a = u := fun e => by rw [e, h0] at ha; exact (Option.some.inj ha).symm
  by_cases h1 : 2 * h + 1 + 1 < xs.length
  · have h1' := List.getElem?_eq_getElem h1
    generalize xs[2 * h + 1 + 1] = v at h1'
    have two : d = 2 * h + 2 → a = v := fun e => by rw [e, h1'] at ha; exact (Option.some.inj ha).symm
    cases hl : lt u v with
    | true =>
      rw [child_l h0 h1' hl, h0] at hb
      cases hb
      rcases hd with e | e
      · rw [one e]; exact S.irr _
      · rw [two e]; exact S.asym _ _ hl
    | false =>
      rw [child_r h0 h1' hl, h1'] at hb
      cases hb
      rcases hd with e | e
      · rw [one e]; exact hl
      · rw [two e]; exact S.irr _
  · rw [child_one h1, h0] at hb
    cases hb
    rcases hd with e | e
    · rw [one e]; exact S.irr _
    · exact absurd (e ▸ get_lt ha) h1

structure Down (lt : α → α → Bool) (s : Nat) (xs : List α) (h : Nat) : Prop where
  e1 : ∀ c, 1 ≤ c → c ≠ h → Pa c ≠ h → s ≤ Pa c → Edge lt xs c (Pa c)
  e3 : s < h → ∀ c a b, 1 ≤ c → Pa c = h → xs[c]? = some a → xs[Pa h]? = some b → lt a b = false
  sub : Sub s h
theorem down_step {lt : α → α → Bool} (S : SwoF lt) {s : Nat} {xs : List α} {h : Nat} {y : α} (D : Down lt s xs h) (hc : 2 * h + 1 < xs.length) (e : xs[child lt xs (2 * h + 1)]? = some y) : Down lt s (xs.set h y) (child lt xs (2 * h + 1)) := by
  have hcl : ∀ d (a : α), 1 ≤ d → Pa d = h → xs[d]? = some a → lt a y = false := fun d a hd e' ha => child_le S (Pa_kids hd e') ha hc e
  have hcc := (child_cases lt xs (2 * h + 1) hc).1
  have hpc := Pa_kid hcc
  generalize child lt xs (2 * h + 1) = c at e hcc hpc ⊢
  have hc1 : 1 ≤ c := hcc.elim (fun e => e ▸ Nat.succ_pos _) fun e => e ▸ Nat.succ_pos _
  have hhc : h < c := hpc ▸ Pa_lt hc1
  have hsh := D.sub.le
  refine ⟨fun d hd h1 h2 h3 a b ha hb => ?_, fun hsc d a b hd e' ha hb => ?_, .step hc1 (by rw [hpc]; exact D.sub)⟩
  · rcases set_get ha with ⟨e1, e2⟩ | ⟨hdh, ha'⟩
    · rcases set_get hb with ⟨e', _⟩ | ⟨_, hb'⟩
      · exact absurd (Pa_lt hd) (by rw [e', e1]; exact Nat.lt_irrefl _)
      · rw [e1] at hb' h3 hd
        rw [e2]
        exact D.e3 (Nat.lt_of_le_of_lt h3 (Pa_lt hd)) c y b hc1 hpc e hb'
    · rcases set_get hb with ⟨e', e3⟩ | ⟨hq, hb'⟩
      · rw [e3]; exact hcl d a hd e' ha'
      · exact D.e1 d hd hdh hq h3 a b ha' hb'
  · rw [hpc] at hb
    have hb' : b = y := (set_get hb).elim And.right fun h0 => absurd rfl h0.1
    have hcd : c < d := e' ▸ Pa_lt hd
    have hdne : d ≠ h := Nat.ne_of_gt (Nat.lt_trans hhc hcd)
    have ha' : xs[d]? = some a := (set_get ha).elim (fun e2 => absurd e2.1 hdne) And.right
    exact D.e1 d hd hdne (by rw [e']; exact Nat.ne_of_gt hhc) (by rw [e']; exact Nat.le_of_lt hsc) a b ha' (by rw [e', hb']; exact e)
theorem su_down {lt : α → α → Bool} (S : SwoF lt) {s : Nat} {x : α} (xs : List α) (h : Nat) (hh : h < xs.length) (D : Down lt s xs h) :
    Down lt s (suGo lt xs h).1 (suGo lt xs h).2 ∧ (suGo lt xs h).1.length ≤ 2 * (suGo lt xs h).2 + 1 ∧ ((suGo lt xs h).1.set (suGo lt xs h).2 x).Perm (xs.set h x) := by
  fun_induction suGo lt xs h with
  | case1 xs h hc y e ih =>
    have hcl := (child_cases lt xs (2 * h + 1) hc).2
    have hne : h ≠ child lt xs (2 * h + 1) := Nat.ne_of_lt (kid_lt (child_cases lt xs (2 * h + 1) hc).1)
    obtain ⟨r1, r2, r3⟩ := ih (by rw [List.length_set]; exact hcl) (down_step S D hc e)
    exact ⟨r1, r2, r3.trans (move_perm hh e hne)⟩
  | case2 xs h hc e =>
    rw [List.getElem?_eq_getElem (child_cases lt xs (2 * h + 1) hc).2] at e; cases e
  | case3 xs h hc => exact ⟨D, Nat.le_of_not_lt hc, List.Perm.refl _⟩

theorem su_ok {lt : α → α → Bool} (S : SwoF lt) {x : α} {xs : List α} {s : Nat} (hs : s < xs.length) (H : HeapFrom lt (s + 1) xs) : HeapFrom lt s (su lt x xs s) ∧ (su lt x xs s).Perm (xs.set s x) := by
  have D : Down lt s xs s := ⟨fun c hc h1 h2 h3 => H c hc (Nat.lt_of_le_of_ne h3 h2.symm), fun h => absurd h (Nat.lt_irrefl _), .refl⟩
  obtain ⟨d1, d2, d3⟩ := su_down S (x := x) xs s hs D
  obtain ⟨f1, f2, f3⟩ := suGo_facts lt xs s hs
  unfold su
  generalize (suGo lt xs s).1 = ys at d1 d2 d3 f1
  generalize (suGo lt xs s).2 = q at d1 d2 d3 f2
  have nochild : ∀ c (a : α), 1 ≤ c → Pa c = q → (ys.set q x)[c]? = some a → False := fun c a hc e ha => by
    have hl := get_lt ha
    rw [List.length_set] at hl
    exact absurd hl (Nat.not_lt_of_le (Nat.le_trans d2 (Pa_ge hc e)))
  have Hl : Hole lt s (ys.set q x) q x :=
    ⟨fun c hc h1 h2 h3 a b ha hb => d1.e1 c hc h1 h2 h3 a b ((set_get ha).elim (fun e => absurd e.1 h1) And.right) ((set_get hb).elim (fun e => absurd e.1 h2) And.right),
      fun c a hc e ha => (nochild c a hc e ha).elim, fun h c a b hc e ha hb => (nochild c a hc e ha).elim, d1.sub⟩
  obtain ⟨r1, r2⟩ := sd_ok S q _ (by rw [List.length_set, f1]; exact f2) Hl
  rw [List.set_set] at r2
  exact ⟨r1, r2.trans d3⟩

abbrev Heap0 (lt : α → α → Bool) (xs : List α) : Prop := HeapFrom lt 0 xs

theorem heap_min {lt : α → α → Bool} (S : SwoF lt) {z : α} {zs : List α} (H : Heap0 lt (z :: zs)) : ∀ a ∈ z :: zs, lt a z = false := by
  have key : ∀ (i : Nat) (a : α), (z :: zs)[i]? = some a → lt a z = false := by
    intro i
    induction i using Nat.strongRecOn with
    | _ i ih =>
      intro a ha
      cases i with
      | zero => cases ha; exact S.irr _
      | succ i =>
        have hq := Pa_lt (Nat.succ_pos i)
        have hb := List.getElem?_eq_getElem (Nat.lt_trans hq (get_lt ha))
        exact S.ntr _ _ _ (H (i + 1) (Nat.succ_pos i) (Nat.zero_le _) a _ ha hb) (ih _ hq _ hb)
  intro a ha
  obtain ⟨i, hi, e⟩ := List.getElem_of_mem ha
  exact key i a (by rw [List.getElem?_eq_getElem hi, e])

theorem hpush_ok {lt : α → α → Bool} (S : SwoF lt) {xs : List α} {x : α} (H : Heap0 lt xs) : Heap0 lt (hpush lt xs x) ∧ (hpush lt xs x).Perm (x :: xs) := by
  unfold hpush
  have hlen : ∀ c (a : α), (xs ++ [x])[c]? = some a → c ≤ xs.length := fun c a ha => by
    have hl := get_lt ha
    rw [List.length_append] at hl
    exact Nat.le_of_lt_succ hl
  have nochild : ∀ c (a : α), 1 ≤ c → Pa c = xs.length → (xs ++ [x])[c]? = some a → False := fun c a hc e ha => absurd (hlen c a ha) (Nat.not_le_of_lt (e ▸ Pa_lt hc))
  have Hl : Hole lt 0 (xs ++ [x]) xs.length x := by
    refine ⟨fun c hc h1 h2 h3 a b ha hb => ?_, fun c a hc e ha => (nochild c a hc e ha).elim, fun h c a b hc e ha hb => (nochild c a hc e ha).elim, Sub.zero _⟩
    have hl := Nat.lt_of_le_of_ne (hlen c a ha) h1
    rw [List.getElem?_append_left hl] at ha
    rw [List.getElem?_append_left (Nat.lt_trans (Pa_lt hc) hl)] at hb
    exact H c hc h3 a b ha hb
  obtain ⟨r1, r2⟩ := sd_ok S xs.length (xs ++ [x]) (by rw [List.length_append]; exact Nat.lt_succ_self _) Hl
  refine ⟨r1, r2.trans ?_⟩
  have : (xs ++ [x]).set xs.length x = xs ++ [x] := by simp
  rw [this]
  exact List.perm_append_singleton x xs

theorem heap_tail {lt : α → α → Bool} {z x : α} {zs : List α} (H : Heap0 lt (z :: zs)) : HeapFrom lt 1 (x :: zs) := by
  intro c hc hs a b ha hb
  refine H c hc (Nat.zero_le _) a b ?_ ?_
  · cases c with
    | zero => exact absurd hc (Nat.lt_irrefl _)
    | succ c => exact ha
  · cases h : Pa c with
    | zero => rw [h] at hs; exact absurd hs (Nat.lt_irrefl _)
    | succ q => rw [h] at hb; exact hb

theorem heap_init {lt : α → α → Bool} {ys : List α} {y : α} (H : Heap0 lt (ys ++ [y])) : Heap0 lt ys := by
  intro c hc hs a b ha hb
  exact H c hc hs a b (by rw [List.getElem?_append_left (get_lt ha)]; exact ha) (by rw [List.getElem?_append_left (get_lt hb)]; exact hb)

theorem hrepl_ok {lt : α → α → Bool} (S : SwoF lt) {z x : α} {zs : List α} (H : Heap0 lt (z :: zs)) : Heap0 lt (hrepl lt zs x) ∧ (hrepl lt zs x).Perm (x :: zs) :=
  su_ok S (xs := x :: zs) (s := 0) (Nat.zero_lt_succ _) (heap_tail H)

theorem hpop_ok {lt : α → α → Bool} (S : SwoF lt) {ys : List α} {y : α} (H : Heap0 lt (ys ++ [y])) : Heap0 lt (hpop lt ys y).2 ∧ ((hpop lt ys y).1 :: (hpop lt ys y).2).Perm (ys ++ [y]) ∧ ∀ a ∈ ys ++ [y], lt a (hpop lt ys y).1 = false := by
  cases ys with
  | nil => exact ⟨fun c hc hs a b ha hb => (nomatch (ha : ([] : List α)[c]? = some a)), List.Perm.refl _, heap_min S H⟩
  | cons z zs =>
    obtain ⟨r1, r2⟩ := su_ok S (x := y) (xs := y :: zs) (s := 0) (Nat.zero_lt_succ _) (heap_tail (heap_init H))
    exact ⟨r1, (List.Perm.cons z (r2.trans (List.perm_append_singleton y zs).symm) : (z :: su lt y (y :: zs) 0).Perm (z :: (zs ++ [y]))), heap_min S H⟩

theorem hpp_ok {lt : α → α → Bool} (S : SwoF lt) {xs : List α} {x : α} (H : Heap0 lt xs) : Heap0 lt (hpp lt xs x).2 ∧ ((hpp lt xs x).1 :: (hpp lt xs x).2).Perm (x :: xs) ∧ ∀ a ∈ x :: xs, lt a (hpp lt xs x).1 = false := by
  cases xs with
  | nil => exact ⟨H, List.Perm.refl _, fun a ha => by rw [List.mem_singleton.mp ha]; exact S.irr _⟩
  | cons z zs =>
    cases hl : lt z x with
    | true =>
      rw [show hpp lt (z :: zs) x = (z, su lt x (x :: zs) 0) from if_pos hl]
      obtain ⟨r1, r2⟩ := su_ok S (x := x) (xs := x :: zs) (s := 0) (Nat.zero_lt_succ _) (heap_tail H)
      refine ⟨r1, (List.Perm.cons z r2).trans (List.Perm.swap ..), fun a ha => ?_⟩
      rcases List.mem_cons.mp ha with rfl | ha
      · exact S.asym _ _ hl
      · exact heap_min S H a ha
    | false =>
      rw [show hpp lt (z :: zs) x = (x, z :: zs) from if_neg (by rw [hl]; exact Bool.false_ne_true)]
      refine ⟨H, List.Perm.refl _, fun a ha => ?_⟩
      rcases List.mem_cons.mp ha with rfl | ha
      · exact S.irr _
      · exact S.ntr _ _ _ (heap_min S H a ha) hl

theorem half_end {c n : Nat} (h : n / 2 ≤ (c - 1) / 2) (hc : 1 ≤ c) : n ≤ c := by walk_at "n"
theorem hify_ok {lt : α → α → Bool} (S : SwoF lt) (xs : List α) : Heap0 lt (hify lt xs) ∧ (hify lt xs).Perm xs := by
  unfold hify
  have key : ∀ j ys, j ≤ xs.length / 2 → ys.length = xs.length → HeapFrom lt j ys → HeapFrom lt 0 ((List.range j).reverse.foldl (hstep lt) ys) ∧ ((List.range j).reverse.foldl (hstep lt) ys).Perm ys := by
    intro j
    induction j with
    | zero => intro ys _ _ H; exact ⟨H, List.Perm.refl _⟩
    | succ j ih =>
      intro ys hj hl H
      rw [List.range_succ, List.reverse_append]
      show HeapFrom lt 0 ((List.range j).reverse.foldl (hstep lt) (hstep lt ys j)) ∧ ((List.range j).reverse.foldl (hstep lt) (hstep lt ys j)).Perm ys
      have hjl : j < ys.length := by rw [hl]; exact Nat.lt_of_lt_of_le hj (Nat.div_le_self _ _)
      rw [hstep_at (List.getElem?_eq_getElem hjl)]
      obtain ⟨r1, r2⟩ := su_ok S (x := ys[j]) hjl H
      rw [List.set_getElem_self] at r2
      obtain ⟨q1, q2⟩ := ih _ (Nat.le_of_lt hj) (r2.length_eq.trans hl) r1
      exact ⟨q1, q2.trans r2⟩
  exact key _ xs (Nat.le_refl _) rfl fun c hc hs a b ha hb => absurd (get_lt ha) (Nat.not_lt_of_le (half_end hs hc))
end Mine
end

noncomputable section
set_option genSizeOf false
set_option genInjectivity false
set_option Elab.async false
set_option linter.unusedVariables false
namespace Mine

variable {α β γ : Type}
/- behind all that are not greater -/
def ins (lt : β → β → Bool) (κ : α → β) (x : α) : List α → List α
  | [] => [x]
  | y :: ys => if lt (κ x) (κ y) then x :: y :: ys else y :: ins lt κ x ys
def isort (lt : β → β → Bool) (κ : α → β) (xs : List α) : List α := xs.foldl (fun acc x => ins lt κ x acc) []
theorem isort_snoc (lt : β → β → Bool) (κ : α → β) (xs : List α) (x : α) : isort lt κ (xs ++ [x]) = ins lt κ x (isort lt κ xs) := by unfold isort; rw [List.foldl_append]; rfl

theorem ins_perm (lt : β → β → Bool) (κ : α → β) (x : α) : ∀ ys : List α, (ins lt κ x ys).Perm (x :: ys)
  | [] => List.Perm.refl _
  | y :: ys => by
    unfold ins
    split
    · exact List.Perm.refl _
    · exact ((ins_perm lt κ x ys).cons y).trans (List.Perm.swap ..)
theorem isort_perm (lt : β → β → Bool) (κ : α → β) (xs : List α) : (isort lt κ xs).Perm xs := by
  have key : ∀ (xs acc : List α), (xs.foldl (fun acc x => ins lt κ x acc) acc).Perm (xs ++ acc) := by
    intro xs
    induction xs with
    | nil => intro acc; exact List.Perm.refl _
    | cons x xs ih =>
      intro acc
      rw [List.foldl_cons]
      refine (ih _).trans ?_
      exact ((ins_perm lt κ x acc).append_left xs).trans List.perm_middle
  have := key xs []
  rw [List.append_nil] at this
  exact this
theorem ins_map {δ : Type} (lt : β → β → Bool) (κ : α → β) (f : δ → α) (x : δ) : ∀ ys : List δ, (ins lt (fun d => κ (f d)) x ys).map f = ins lt κ (f x) (ys.map f)
  | [] => rfl
  | y :: ys => by
    simp only [ins, List.map_cons]
    split
    · rfl
    · rw [List.map_cons, ins_map lt κ f x ys]
theorem isort_map {δ : Type} (lt : β → β → Bool) (κ : α → β) (f : δ → α) (xs : List δ) : (isort lt (fun d => κ (f d)) xs).map f = isort lt κ (xs.map f) := by
  unfold isort
  rw [List.foldl_map]
  have : ∀ (xs acc : List δ), (xs.foldl (fun acc x => ins lt (fun d => κ (f d)) x acc) acc).map f = xs.foldl (fun acc x => ins lt κ (f x) acc) (acc.map f) := by
    intro xs
    induction xs with
    | nil => intro acc; rfl
    | cons x xs ih => intro acc; rw [List.foldl_cons, List.foldl_cons, ih, ins_map]
  exact this xs []

theorem perm_sorted_eq {R : α → α → Prop} (hR : ∀ a b, R a b → R b a → False) : ∀ {l1 l2 : List α}, l1.Perm l2 → l1.Pairwise R → l2.Pairwise R → l1 = l2
  | [], l2, h, _, _ => (List.Perm.nil_eq h)
  | a :: l1, [], h, _, _ => by have := h.length_eq; simp at this
  | a :: l1, b :: l2, h, h1, h2 => by
    have e : a = b := by
      apply Classical.byContradiction
      intro hne
      have ha : a ∈ b :: l2 := h.subset (.head _)
      have hb : b ∈ a :: l1 := h.symm.subset (.head _)
      have ha' : a ∈ l2 := by
        rcases List.mem_cons.mp ha with h | h
        · exact absurd h hne
        · exact h
      have hb' : b ∈ l1 := by
        rcases List.mem_cons.mp hb with h | h
        · exact absurd h.symm hne
        · exact h
      exact hR _ _ ((List.pairwise_cons.mp h1).1 b hb') ((List.pairwise_cons.mp h2).1 a ha')
    subst e
    rw [perm_sorted_eq hR (h.cons_inv) (List.pairwise_cons.mp h1).2 (List.pairwise_cons.mp h2).2]

/- inserting keeps a relation that the sorted list has, when it goes as lt says -/
theorem ins_pairwise {R : α → α → Prop} {lt : β → β → Bool} {κ : α → β} (S : SwoF lt) {x : α} : ∀ {ys : List α}, ys.Pairwise R → (∀ a b, a ∈ ys → b ∈ ys → R a b → lt (κ b) (κ a) = false) → (∀ y ∈ ys, lt (κ x) (κ y) = true → R x y) → (∀ y ∈ ys, lt (κ x) (κ y) = false → R y x) → (ins lt κ x ys).Pairwise R
  | [], _, _, _, _ => by simp [ins]
  | y :: ys, h, hs, h1, h2 => by
    unfold ins
    obtain ⟨q1, q2⟩ := List.pairwise_cons.mp h
    by_cases hl : lt (κ x) (κ y) = true
    · rw [if_pos hl]
      refine List.pairwise_cons.mpr ⟨fun z hz => ?_, h⟩
      rcases List.mem_cons.mp hz with rfl | hz
      · exact h1 _ (.head _) hl
      · refine h1 z (.tail _ hz) ?_
        have := hs y z (.head _) (.tail _ hz) (q1 z hz)
        cases e : lt (κ x) (κ z) with
        | true => rfl
        | false => have := S.ntr _ _ _ e this; rw [hl] at this; cases this
    · rw [if_neg hl]
      refine List.pairwise_cons.mpr ⟨fun z hz => ?_, ins_pairwise S q2 (fun a b ha hb => hs a b (.tail _ ha) (.tail _ hb)) (fun z hz => h1 z (.tail _ hz)) (fun z hz => h2 z (.tail _ hz))⟩
      rcases List.mem_cons.mp ((ins_perm lt κ x ys).subset hz) with rfl | hz
      · exact h2 y (.head _) (by simpa using hl)
      · exact q1 z hz

theorem isort_sorted {lt : β → β → Bool} {κ : α → β} (S : SwoF lt) (xs : List α) : (isort lt κ xs).Pairwise (fun a b => lt (κ b) (κ a) = false) := by
  have key : ∀ (n : Nat) (xs : List α), xs.length = n → (isort lt κ xs).Pairwise (fun a b => lt (κ b) (κ a) = false) := by
    intro n
    induction n with
    | zero => intro xs h; rw [List.length_eq_zero_iff.mp h]; exact List.Pairwise.nil
    | succ n ih =>
      intro xs h
      have hne : xs ≠ [] := fun e => by rw [e] at h; simp at h
      rw [← List.dropLast_concat_getLast hne, isort_snoc]
      exact ins_pairwise S (ih _ (by simp [h])) (fun a b _ _ h => h) (fun y _ h => S.asym _ _ h) (fun y _ h => h)
  exact key _ xs rfl

/- index lists -/
theorem isort_idx {lt : β → β → Bool} (S : SwoF lt) (κ : Nat → β) : ∀ n : Nat, (isort lt κ (List.range n)).Pairwise (fun i j => lt (κ j) (κ i) = false ∧ (lt (κ i) (κ j) = false → i < j))
  | 0 => List.Pairwise.nil
  | n + 1 => by
    rw [List.range_succ, isort_snoc]
    have hlt : ∀ y ∈ isort lt κ (List.range n), y < n := fun y hy => List.mem_range.mp ((isort_perm lt κ _).subset hy)
    refine ins_pairwise S (isort_idx S κ n) (fun a b _ _ h => h.1) (fun y hy h => ⟨S.asym _ _ h, fun e => ?_⟩) (fun y hy h => ⟨h, fun _ => hlt y hy⟩)
    rw [h] at e; cases e

theorem psortK_isort {lt : β → β → Bool} (S : SwoF lt) (κ : α → β) : ∀ xs : List α, xs.length < 64 → psortK lt κ xs = isort lt κ xs
  | [], _ => rfl
  | [x], _ => rfl
  | x :: y :: r, h => by
    obtain ⟨p, hpre, hasc, hp⟩ := psortK_spec S κ x y r (by simpa using h)
    have hsz := hpre.size
    have e : p.toList = isort lt (fun i => κ ((x :: y :: r).getD i x)) (List.range (r.length + 2)) := by
      refine perm_sorted_eq (R := fun i j => lt (κ ((x :: y :: r).getD j x)) (κ ((x :: y :: r).getD i x)) = false ∧ (lt (κ ((x :: y :: r).getD i x)) (κ ((x :: y :: r).getD j x)) = false → i < j)) (fun a b h1 h2 => ?_) (hpre.perm.trans (isort_perm ..).symm) ?_ (isort_idx S _ _)
      · have := h1.2 h2.1; have := h2.2 h1.1; walk_at "n"
      · rw [List.pairwise_iff_getElem]
        intro i j hi hj hij
        rw [Array.length_toList] at hi hj
        have := hasc i j hij (by walk_at "n")
        unfold Rr bOf at'  at this
        simpa [hi, hj] using this
    rw [hp, e, isort_map lt κ (fun i => (x :: y :: r).getD i x)]
    congr 1
    apply List.ext_getElem
    · simp
    · intro i h1 h2
      simp only [List.getElem_map, List.getElem_range, List.getD_eq_getElem?_getD, List.getElem?_eq_getElem h2, Option.getD_some]
end Mine
end

noncomputable section
set_option genSizeOf false
set_option genInjectivity false
set_option Elab.async false
set_option linter.unusedVariables false
namespace Mine

variable {α β γ : Type}
theorem ins_length (lt : β → β → Bool) (κ : α → β) (x : α) (ys : List α) : (ins lt κ x ys).length = ys.length + 1 := by rw [(ins_perm lt κ x ys).length_eq]; rfl
theorem isort_length (lt : β → β → Bool) (κ : α → β) (xs : List α) : (isort lt κ xs).length = xs.length := (isort_perm lt κ xs).length_eq
theorem ins_congr {lt : β → β → Bool} {κ κ' : α → β} {x : α} (hx : κ' x = κ x) : ∀ {ys : List α}, (∀ y ∈ ys, κ' y = κ y) → ins lt κ' x ys = ins lt κ x ys
  | [], _ => rfl
  | y :: ys, h => by
    unfold ins
    rw [hx, h y (.head _), ins_congr hx fun z hz => h z (.tail _ hz)]
theorem ins_take (lt : β → β → Bool) (κ : α → β) (x : α) : ∀ (n : Nat) (ys : List α), (ins lt κ x (ys.take n)).take n = (ins lt κ x ys).take n
  | 0, ys => by simp
  | n + 1, [] => by simp
  | n + 1, y :: ys => by
    rw [List.take_succ_cons]
    unfold ins
    split
    · rw [List.take_succ_cons, List.take_succ_cons]
      congr 1
      cases n with
      | zero => rfl
      | succ n => rw [List.take_succ_cons, List.take_succ_cons, List.take_take, Nat.min_eq_left (Nat.le_succ n)]
    · rw [List.take_succ_cons, List.take_succ_cons, ins_take lt κ x n ys]
theorem ins_before {lt : β → β → Bool} {κ : α → β} {x b : α} (h : lt (κ x) (κ b) = true) : ∀ {A T : List α}, ins lt κ x (A ++ b :: T) = ins lt κ x A ++ b :: T
  | [], T => by simp [ins, h]
  | y :: A, T => by
    simp only [List.cons_append, ins]
    split
    · rfl
    · rw [ins_before h, List.cons_append]
theorem ins_behind {lt : β → β → Bool} {κ : α → β} {x : α} : ∀ {A T : List α}, (∀ y ∈ A, lt (κ x) (κ y) = false) → ins lt κ x (A ++ T) = A ++ ins lt κ x T
  | [], T, _ => rfl
  | y :: A, T, h => by
    simp only [List.cons_append, ins, h y (.head _)]
    rw [ins_behind fun z hz => h z (.tail _ hz)]; rfl

theorem snocInd {P : List α → Prop} (h0 : P []) (hs : ∀ xs x, P xs → P (xs ++ [x])) (xs : List α) : P xs := by
  have key : ∀ (n : Nat) (xs : List α), xs.length = n → P xs := by
    intro n
    induction n with
    | zero => intro xs h; rw [List.length_eq_zero_iff.mp h]; exact h0
    | succ n ih =>
      intro xs h
      have hne : xs ≠ [] := fun e => by rw [e] at h; simp at h
      rw [← List.dropLast_concat_getLast hne]
      exact hs _ _ (ih _ (by simp [h]))
  exact key _ xs rfl

theorem pmin_isort (lt : β → β → Bool) (κ : α → β) (xs : List α) : (pmin lt κ xs).toList = (isort lt κ xs).take 1 := by
  induction xs using snocInd with
  | h0 => rfl
  | hs xs x ih =>
    rw [pmin_snoc, isort_snoc]
    generalize pmin lt κ xs = b at ih
    generalize isort lt κ xs = L at ih
    cases L with
    | nil =>
      cases b with
      | none => rfl
      | some b => simp at ih
    | cons y ys =>
      cases b with
      | none => simp at ih
      | some b =>
        simp at ih
        subst ih
        unfold pminS ins
        dsimp only
        split <;> rfl

/- what the numbered tuples must be like -/
structure Tags (lt : β → β → Bool) (ltg : γ → γ → Bool) (κ : α → β) (tp : γ → β) (mk : α → Nat → γ) (el : γ → α) (st : γ → Nat) : Prop where
  S : SwoF lt
  Sg : SwoF ltg
  tri : ∀ p q, p ≠ q → ltg p q = true ∨ ltg q p = true
  etp : ∀ x o, tp (mk x o) = κ x
  eel : ∀ x o, el (mk x o) = x
  est : ∀ x o, st (mk x o) = o
  old : ∀ g x o, st g < o → ltg (mk x o) g = lt (κ x) (tp g) ∧ ltg g (mk x o) = !lt (κ x) (tp g)
  mono : ∀ a b, ltg a b = true → lt (tp b) (tp a) = false

section
variable {lt : β → β → Bool} {ltg : γ → γ → Bool} {κ : α → β} {tp : γ → β} {mk : α → Nat → γ} {el : γ → α} {st : γ → Nat}
theorem Tags.insG (T : Tags lt ltg κ tp mk el st) {Q : List γ} {e : α} {o : Nat} (h : Q.Pairwise fun a b => ltg a b = true) (hQ : ∀ g ∈ Q, g = mk (el g) (st g) ∧ st g < o) :
    (ins lt tp (mk e o) Q).Pairwise (fun a b => ltg a b = true) ∧ (∀ g ∈ ins lt tp (mk e o) Q, g = mk (el g) (st g) ∧ st g < o + 1) ∧ (ins lt tp (mk e o) Q).map el = ins lt κ e (Q.map el) := by
  refine ⟨ins_pairwise T.S h (fun a b _ _ h => T.mono _ _ h) (fun y hy h => ?_) (fun y hy h => ?_), fun g hg => ?_, ?_⟩
  · rw [(T.old y e o (hQ y hy).2).1, ← T.etp e o]; exact h
  · rw [(T.old y e o (hQ y hy).2).2, ← T.etp e o, h]; rfl
  · rcases List.mem_cons.mp ((ins_perm _ _ _ _).subset hg) with rfl | hg
    · rw [T.eel, T.est]; exact ⟨rfl, Nat.lt_succ_self _⟩
    · exact ⟨(hQ g hg).1, Nat.lt_succ_of_lt (hQ g hg).2⟩
  · have : ins lt tp (mk e o) Q = ins lt (fun g => κ (el g)) (mk e o) Q := ins_congr (by rw [T.etp, T.eel]) fun y hy => by
      have := (hQ y hy).1
      rw [this, T.etp, T.eel]
    rw [this, ins_map, T.eel]

theorem Tags.init (T : Tags lt ltg κ tp mk el st) (l : List α) : (isort lt tp (numG mk 0 l)).Pairwise (fun a b => ltg a b = true) ∧ (∀ g ∈ isort lt tp (numG mk 0 l), g = mk (el g) (st g) ∧ st g < l.length) ∧ (isort lt tp (numG mk 0 l)).map el = isort lt κ l := by
  induction l using snocInd with
  | h0 => exact ⟨List.Pairwise.nil, (fun g hg => by cases hg), rfl⟩
  | hs l x ih =>
    obtain ⟨h1, h2, h3⟩ := ih
    rw [numG_snoc, isort_snoc, isort_snoc, Nat.zero_add, List.length_append]
    obtain ⟨q1, q2, q3⟩ := T.insG (e := x) h1 h2
    exact ⟨q1, q2, by rw [q3, h3]⟩

structure NsInv (lt : β → β → Bool) (ltg : γ → γ → Bool) (κ : α → β) (mk : α → Nat → γ) (el : γ → α) (stp : γ → Nat) (n : Nat) (pre : List α) (s : List γ × Nat) (Q : List γ) : Prop where
  pw : Q.Pairwise fun a b => ltg a b = true
  hp : Heap0 (fun x p => ltg p x) s.1
  pm : s.1.Perm Q
  eel : Q.map el = (isort lt κ pre).take n
  ln : Q.length = n
  old : ∀ g ∈ Q, g = mk (el g) (stp g) ∧ stp g < s.2

theorem SwoF.flip {lt : α → α → Bool} (S : SwoF lt) : SwoF (fun x p => lt p x) := ⟨fun _ => S.irr _, fun _ _ h => S.asym _ _ h, fun i j k h1 h2 => S.ntr _ _ _ h2 h1⟩

theorem Tags.step (T : Tags lt ltg κ tp mk el st) {n : Nat} (hn : n ≠ 0) {pre : List α} {s : List γ × Nat} {Q : List γ} (I : NsInv lt ltg κ mk el st n pre s Q) (e : α) : ∃ Q', NsInv lt ltg κ mk el st n (pre ++ [e]) (nsStep lt ltg κ tp mk s e) Q' := by
  obtain ⟨R, o⟩ := s
  obtain ⟨pw, hp, pm, hel, ln, old⟩ := I
  dsimp only at hp pm old
  have hne : Q ≠ [] := fun e => by rw [e] at ln; exact hn ln.symm
  obtain ⟨Q0, q, rfl⟩ : ∃ Q0 q, Q = Q0 ++ [q] := ⟨Q.dropLast, Q.getLast hne, (List.dropLast_concat_getLast hne).symm⟩
  obtain ⟨z, zs, rfl⟩ : ∃ z zs, R = z :: zs := by
    cases R with
    | nil => have := pm.length_eq; simp at this
    | cons z zs => exact ⟨z, zs, rfl⟩
  have hmax := heap_min T.Sg.flip hp
  have pwa := List.pairwise_append.mp pw
  have hzq : z = q := by
    have hz : z ∈ Q0 ++ [q] := pm.subset (.head _)
    rcases List.mem_append.mp hz with h | h
    · have h1 := pwa.2.2 z h q (.head _)
      have h2 : ltg z q = false := hmax q (pm.symm.subset (by simp))
      rw [h1] at h2; cases h2
    · exact List.mem_singleton.mp h
  subst hzq
  obtain ⟨g1, g2, g3⟩ := T.insG (e := e) pw old
  have hout : ((ins lt tp (mk e o) (Q0 ++ [z])).take n).map el = (isort lt κ (pre ++ [e])).take n := by
    rw [List.map_take, g3, hel, ins_take, isort_snoc]
  have hlen : ((ins lt tp (mk e o) (Q0 ++ [z])).take n).length = n := by rw [List.length_take, ins_length]; walk_at "n"
  have hpw : ((ins lt tp (mk e o) (Q0 ++ [z])).take n).Pairwise (fun a b => ltg a b = true) := g1.sublist (List.take_sublist _ _)
  have hlo : Q0.length + 1 = n := by simpa using ln
  unfold nsStep
  dsimp only
  by_cases hl : lt (κ e) (tp z) = true
  · rw [if_pos hl]
    have hb : ins lt tp (mk e o) (Q0 ++ [z]) = ins lt tp (mk e o) Q0 ++ [z] := ins_before (by rw [T.etp]; exact hl)
    have ht : (ins lt tp (mk e o) (Q0 ++ [z])).take n = ins lt tp (mk e o) Q0 := by
      rw [hb, List.take_left' (by rw [ins_length]; exact hlo)]
    rw [ht] at hout hlen hpw
    obtain ⟨r1, r2⟩ := hrepl_ok T.Sg.flip (x := mk e o) hp
    refine ⟨_, hpw, r1, ?_, hout, hlen, fun g hg => g2 g ?_⟩
    · have h0 : zs.Perm Q0 := (pm.trans (List.perm_append_singleton z Q0)).cons_inv
      exact (r2.trans (h0.cons _)).trans (ins_perm _ _ _ _).symm
    · rw [hb]; exact List.mem_append_left _ hg
  · rw [if_neg hl]
    have hall : ∀ y ∈ Q0 ++ [z], lt (tp (mk e o)) (tp y) = false := fun y hy => by
      rw [T.etp]
      have hl' : lt (κ e) (tp z) = false := by simpa using hl
      rcases List.mem_append.mp hy with h | h
      · exact T.S.ntr _ _ _ hl' (T.mono _ _ (pwa.2.2 y h z (.head _)))
      · rw [List.mem_singleton.mp h]; exact hl'
    have hb := ins_behind (T := []) hall
    rw [List.append_nil] at hb
    have ht : (ins lt tp (mk e o) (Q0 ++ [z])).take n = Q0 ++ [z] := by
      rw [hb]; exact List.take_left' ln
    rw [ht] at hout
    exact ⟨_, pw, hp, pm, hout, ln, old⟩

theorem Tags.fold (T : Tags lt ltg κ tp mk el st) {n : Nat} (hn : n ≠ 0) : ∀ (ys pre : List α) (s : List γ × Nat) (Q : List γ), NsInv lt ltg κ mk el st n pre s Q → ∃ Q', NsInv lt ltg κ mk el st n (pre ++ ys) (ys.foldl (nsStep lt ltg κ tp mk) s) Q'
  | [], pre, s, Q, I => ⟨Q, by rw [List.append_nil]; exact I⟩
  | e :: ys, pre, s, Q, I => by
    obtain ⟨Q', I'⟩ := T.step hn I e
    have := Tags.fold T hn ys _ _ _ I'
    rwa [List.append_assoc] at this

theorem strict_sorted {ltg : γ → γ → Bool} (S : SwoF ltg) (tri : ∀ p q, p ≠ q → ltg p q = true ∨ ltg q p = true) {Q R : List γ} (hQ : Q.Pairwise fun a b => ltg a b = true) (h : R.Perm Q) (h64 : R.length < 64) : psortK ltg id R = Q := by
  rw [psortK_isort S id R h64]
  have hnd : Q.Pairwise (fun a b => a ≠ b) := hQ.imp fun h e => by rw [e, S.irr] at h; cases h
  have hnd' : (isort ltg id R).Pairwise (fun a b => a ≠ b) := (((isort_perm ltg id R).trans h).pairwise_iff (fun h e => h e.symm)).mpr hnd
  have hs := isort_sorted (κ := id) S R
  refine perm_sorted_eq (R := fun a b => ltg a b = true) (fun a b h1 h2 => by have := S.asym _ _ h1; rw [h2] at this; cases this) ((isort_perm ltg id R).trans h) ?_ hQ
  refine (hs.and hnd').imp fun h => ?_
  rcases tri _ _ h.2 with h' | h'
  · exact h'
  · have h1 : ltg _ _ = false := h.1
    simp only [id] at h1
    rw [h1] at h'; cases h'

theorem nsAll_eq (T : Tags lt ltg κ tp mk el st) (n : Int) (xs : List α) (h64 : xs.length < 64) : nsAll lt ltg κ tp mk el n xs = (isort lt κ xs).take (max n 0).toNat := by
  have hmax : (max n 0).toNat = n.toNat := by walk_at "n"
  rw [hmax]
  unfold nsAll
  by_cases h1 : n = 1
  · rw [if_pos h1, h1, pmin_isort]; rfl
  rw [if_neg h1]
  by_cases h2 : (xs.length : Int) ≤ n
  · rw [if_pos h2, psortK_isort T.S κ xs h64]
  rw [if_neg h2]
  unfold nsm
  by_cases h3 : n.toNat = 0
  · rw [if_pos h3, h3]; simp
  rw [if_neg h3]
  have hlen : (xs.take n.toNat).length = n.toNat := by rw [List.length_take]; walk_at "n"
  obtain ⟨i1, i2, i3⟩ := T.init (xs.take n.toNat)
  obtain ⟨y1, y2⟩ := hify_ok T.Sg.flip (numG mk 0 (xs.take n.toNat))
  have I0 : NsInv lt ltg κ mk el st n.toNat (xs.take n.toNat) (hify (fun x p => ltg p x) (numG mk 0 (xs.take n.toNat)), n.toNat) (isort lt tp (numG mk 0 (xs.take n.toNat))) := by
    refine ⟨i1, y1, y2.trans (isort_perm _ _ _).symm, ?_, ?_, fun g hg => ?_⟩
    · rw [i3]; exact (List.take_of_length_le (by rw [isort_length, hlen]; walk_at "n")).symm
    · rw [isort_length, numG_length, hlen]
    · have := i2 g hg; rw [hlen] at this; exact this
  obtain ⟨Q, I⟩ := T.fold h3 (xs.drop n.toNat) _ _ _ I0
  rw [List.take_append_drop] at I
  rw [strict_sorted T.Sg T.tri I.pw I.pm (by rw [I.pm.length_eq, I.ln]; walk_at "n"), I.eel]
end

theorem Tags1 : Tags ltT ltS id (fun p : Thing × Nat => p.1) (fun x i => (x, i)) (fun p => p.1) (fun p => p.2) where
  S := SwoT
  Sg := SwoS
  tri := TotS.tri
  etp := fun _ _ => rfl
  eel := fun _ _ => rfl
  est := fun _ _ => rfl
  old := fun g x o h => by
    have h : g.2 < o := h
    show ltS (x, o) g = ltT x g.1 ∧ ltS g (x, o) = !ltT x g.1
    constructor
    · rw [Bool.eq_iff_iff, ltS_iff, ltT_iff]; dsimp only; walk_at "n"
    · rw [Bool.eq_iff_iff, Bool.not_eq_true', Bool.eq_false_iff, ne_eq, ltS_iff, ltT_iff]; dsimp only; walk_at "n"
  mono := fun a b h => by
    rw [ltS_iff] at h
    rw [Bool.eq_false_iff, ne_eq, ltT_iff]; walk_at "n"
theorem Tags3 {ltk eqk : β → β → Bool} (A : Tot ltk eqk) (κ : Thing → β) : Tags ltk (lt3 ltk eqk) κ (fun p => p.1) (fun x i => (κ x, i, x)) (fun p => p.2.2) (fun p => p.2.1) where
  S := A.swo
  Sg := (Tot3 A).swo
  tri := (Tot3 A).tri
  etp := fun _ _ => rfl
  eel := fun _ _ => rfl
  est := fun _ _ => rfl
  old := fun g x o h => by
    have h : g.2.1 < o := h
    unfold lt3 lx2 ltNT lx2
    dsimp only
    have ho : o ≠ g.2.1 := by walk_at "n"
    by_cases e : κ x = g.1
    · have e1 := (A.eq _ _).mpr e
      have e2 := (A.eq _ _).mpr e.symm
      rw [if_pos e1, if_pos e2, e, A.irr]
      simp [ho, Ne.symm ho]; walk_at "n"
    · have e1 := fun h => e ((A.eq _ _).mp h)
      have e2 := fun h => e ((A.eq _ _).mp h).symm
      rw [if_neg e1, if_neg e2]
      refine ⟨rfl, ?_⟩
      rcases A.tri _ _ e with h' | h'
      · rw [h', A.swo.asym _ _ h']; rfl
      · rw [h', A.swo.asym _ _ h']; rfl
  mono := fun a b h => by
    unfold lt3 lx2 at h
    by_cases e : a.1 = b.1
    · rw [e]; exact A.irr _
    · rw [if_neg fun h => e ((A.eq _ _).mp h)] at h
      exact A.swo.asym _ _ h

theorem few1_eq (n : Int) (xs : List Thing) (h : xs.length < 64) : few1 n xs = (isort ltT id xs).take (max n 0).toNat := nsAll_eq Tags1 n xs h
theorem few2_eq (n : Int) (xs : List Thing) (h : xs.length < 64) : few2 n xs = (isort ltK2 (fun x : Thing => ((k3 x, x) : K2)) xs).take (max n 0).toNat := nsAll_eq (Tags3 TotK2 fun x : Thing => ((k3 x, x) : K2)) n xs h
theorem few3_eq (n : Int) (xs : List Thing) (h : xs.length < 64) : few3 n xs = (isort (fun x y : Int => decide (x < y)) k3 xs).take (max n 0).toNat := nsAll_eq (Tags3 Tot.int k3) n xs h
end Mine
end

noncomputable section
set_option genSizeOf false
set_option genInjectivity false
set_option Elab.async false
set_option linter.unusedVariables false
namespace Mine

variable {α β γ : Type}
theorem strict_isort {lt : β → β → Bool} {κ : α → β} (S : SwoF lt) (tri : ∀ p q, p ≠ q → lt (κ p) (κ q) = true ∨ lt (κ q) (κ p) = true) {Q R : List α} (hQ : Q.Pairwise fun a b => lt (κ a) (κ b) = true) (h : R.Perm Q) : isort lt κ R = Q := by
  have hnd : Q.Pairwise (fun a b => a ≠ b) := hQ.imp fun h e => by rw [e, S.irr] at h; cases h
  have hnd' : (isort lt κ R).Pairwise (fun a b => a ≠ b) := (((isort_perm lt κ R).trans h).pairwise_iff (fun h e => h e.symm)).mpr hnd
  refine perm_sorted_eq (R := fun a b => lt (κ a) (κ b) = true) (fun a b h1 h2 => by have := S.asym _ _ h1; rw [h2] at this; cases this) ((isort_perm lt κ R).trans h) ?_ hQ
  refine ((isort_sorted S R).and hnd').imp fun h => ?_
  rcases tri _ _ h.2 with h' | h'
  · exact h'
  · rw [h.1] at h'; cases h'

theorem swoI : SwoF (fun x y : Int => decide (x < y)) := Tot.int.swo
theorem stable_strict {I : List Thing} (hI : I.Pairwise fun a b => ltT a b = true) : (isort (fun x y : Int => decide (x < y)) k3 I).Pairwise (fun a b => ltK2 (k3 a, a) (k3 b, b) = true) := by
  induction I using snocInd with
  | h0 => exact List.Pairwise.nil
  | hs I x ih =>
    obtain ⟨h1, _, h3⟩ := List.pairwise_append.mp hI
    rw [isort_snoc]
    refine ins_pairwise swoI (ih h1) (fun a b _ _ h => ?_) (fun y hy h => ?_) (fun y hy h => ?_)
    · unfold ltK2 lx2 at h
      dsimp only at h
      by_cases e : k3 a = k3 b
      · rw [e]; simp
      · rw [if_neg (by simpa using e)] at h
        simp at h ⊢; walk_at "n"
    · have h : k3 x < k3 y := by simpa using h
      unfold ltK2 lx2
      dsimp only
      rw [if_neg (by simp; walk_at "n")]; simpa using h
    · have h : ¬ k3 x < k3 y := by simpa using h
      have hy' := h3 y ((isort_perm _ _ _).subset hy) x (.head _)
      unfold ltK2 lx2
      dsimp only
      by_cases e : k3 y = k3 x
      · rw [if_pos (by simpa using e)]; exact hy'
      · rw [if_neg (by simpa using e)]; simp; walk_at "n"

theorem lawFew_ok {H R I : List Thing} {n : Int} (hI : I.Pairwise fun a b => ltT a b = true) (hH : H.Perm I) (hR : R = I) (h64 : I.length < 64) : lawFew H R I n = true := by
  subst hR
  have hHl : H.length < 64 := by rw [hH.length_eq]; exact h64
  unfold lawFew
  rw [few1_eq n H hHl, few2_eq n H hHl, few3_eq n R.reverse (by rw [List.length_reverse]; exact h64), psortK_isort swoI k3 R h64, psortK_isort swoI k3 R.reverse (by rw [List.length_reverse]; exact h64)]
  rw [strict_isort (κ := id) SwoT TotT.tri hI hH]
  have e2 : isort ltK2 (fun x : Thing => ((k3 x, x) : K2)) H = isort (fun x y : Int => decide (x < y)) k3 R := by
    refine strict_isort TotK2.swo (fun p q h => TotK2.tri _ _ fun e => h (Prod.ext_iff.mp e).2) (stable_strict hI) (hH.trans (isort_perm _ _ _).symm)
  rw [e2]
  simp

/-! the row -/
theorem brGo_spec (p : α → Bool) (xs : List α) (mono : ∀ (i j : Nat) (a b : α), i ≤ j → xs[i]? = some a → xs[j]? = some b → p a = true → p b = true) (lo hi : Nat) (hlh : lo ≤ hi) (hhi : hi ≤ xs.length)
    (h1 : ∀ (i : Nat) (a : α), i < lo → xs[i]? = some a → p a = false) (h2 : ∀ (i : Nat) (a : α), hi ≤ i → xs[i]? = some a → p a = true) :
    (∀ (i : Nat) (a : α), i < brGo p xs lo hi → xs[i]? = some a → p a = false) ∧ (∀ (i : Nat) (a : α), brGo p xs lo hi ≤ i → xs[i]? = some a → p a = true) := by
  fun_induction brGo p xs lo hi with
  | case1 lo hi h y e hp ih =>
    refine ih (by walk_at "n") (by walk_at "n") h1 fun i a hi' ha => mono _ i y a hi' e ha hp
  | case2 lo hi h y e hp ih =>
    refine ih (by walk_at "n") hhi (fun i a hi' ha => ?_) h2
    cases hpa : p a with
    | false => rfl
    | true => exact absurd (mono i _ a y (by walk_at "n") ha e hpa) hp
  | case3 lo hi h e => rw [List.getElem?_eq_getElem (by walk_at "n")] at e; cases e
  | case4 lo hi h =>
    have : lo = hi := by walk_at "n"
    subst this
    exact ⟨h1, h2⟩

theorem ins_front {lt : β → β → Bool} {κ : α → β} {x : α} {T : List α} (h : ∀ y ∈ T, lt (κ x) (κ y) = true) : ins lt κ x T = x :: T := by
  cases T with
  | nil => rfl
  | cons y T => unfold ins; rw [if_pos (h y (.head _))]

theorem insR_ins {lt : β → β → Bool} {κ : α → β} (S : SwoF lt) {xs : List α} (hs : xs.Pairwise fun a b => lt (κ b) (κ a) = false) (x : α) : insR κ lt xs x = ins lt κ x xs := by
  unfold insR
  have mono : ∀ (i j : Nat) (a b : α), i ≤ j → xs[i]? = some a → xs[j]? = some b → lt (κ x) (κ a) = true → lt (κ x) (κ b) = true := by
    intro i j a b hij ha hb h
    by_cases e : i = j
    · subst e; rw [ha] at hb; cases hb; exact h
    obtain ⟨hi, ea⟩ := List.getElem?_eq_some_iff.mp ha
    obtain ⟨hj, eb⟩ := List.getElem?_eq_some_iff.mp hb
    have := List.pairwise_iff_getElem.mp hs i j hi hj (by walk_at "n")
    rw [ea, eb] at this
    cases e' : lt (κ x) (κ b) with
    | true => rfl
    | false => have := S.ntr _ _ _ e' this; rw [h] at this; cases this
  obtain ⟨b1, b2⟩ := brGo_spec (fun y => lt (κ x) (κ y)) xs mono 0 xs.length (Nat.zero_le _) (Nat.le_refl _) (fun i a h => absurd h (Nat.not_lt_zero _)) (fun i a h ha => by rw [List.getElem?_eq_none h] at ha; cases ha)
  generalize brGo (fun y => lt (κ x) (κ y)) xs 0 xs.length = r at b1 b2
  have hA : ∀ y ∈ xs.take r, lt (κ x) (κ y) = false := fun y hy => by
    obtain ⟨i, hi, e⟩ := List.getElem_of_mem hy
    rw [List.length_take] at hi
    rw [List.getElem_take] at e
    exact b1 i y (by walk_at "n") (by rw [List.getElem?_eq_getElem (by walk_at "n"), e])
  have hT : ∀ y ∈ xs.drop r, lt (κ x) (κ y) = true := fun y hy => by
    obtain ⟨i, hi, e⟩ := List.getElem_of_mem hy
    rw [List.length_drop] at hi
    rw [List.getElem_drop] at e
    exact b2 (r + i) y (by walk_at "n") (by rw [List.getElem?_eq_getElem (by walk_at "n"), e])
  have := ins_behind (T := xs.drop r) hA
  rw [List.take_append_drop, ins_front hT] at this
  exact this.symm

abbrev insT (N : List Thing) (x : Thing) : List Thing := ins ltT id x N
abbrev StrT (N : List Thing) : Prop := N.Pairwise fun a b => ltT a b = true

theorem insR_T {N : List Thing} (hN : StrT N) {x : Thing} (hx : ∀ y ∈ N, y.2 < x.2) : insR (fun p => p.1) (fun a b : Int => decide (a < b)) N x = insT N x := by
  rw [insR_ins swoI (hN.imp fun h => by rw [ltT_iff] at h; simp; walk_at "n")]
  have : ∀ {N : List Thing}, (∀ y ∈ N, y.2 < x.2) → ins (fun a b : Int => decide (a < b)) (fun p : Thing => p.1) x N = insT N x := by
    intro N
    induction N with
    | nil => intro _; rfl
    | cons y N ih =>
      intro h
      have hy := h y (.head _)
      have e : decide (x.1 < y.1) = ltT x y := by
        rw [Bool.eq_iff_iff, decide_eq_true_eq, ltT_iff]; walk_at "n"
      unfold insT ins
      rw [e, ih fun z hz => h z (.tail _ hz)]
      rfl
  exact this hx

theorem insT_str {N : List Thing} (hN : StrT N) {x : Thing} (hx : ∀ y ∈ N, y.2 < x.2) : StrT (insT N x) := by
  refine ins_pairwise SwoT hN (fun a b _ _ h => SwoT.asym _ _ h) (fun y _ h => h) (fun y hy h => ?_)
  have := hx y hy
  rcases TotT.tri x y (fun e => by rw [e] at this; walk_at "n") with h' | h'
  · rw [show ltT x y = _ from h] at h'; cases h'
  · exact h'

/-! one deed -/
def nStep (k : Int) (its N : List Thing) : List Thing × List Thing :=
  if k = 2 then popH N
  else if k = 3 then popH (its.foldl insT N)
  else if k = 4 then (match N with
    | [] => ([], [])
    | z :: zs => ([z], its.foldl insT zs))
  else if k = 6 then ([], N)
  else ([], its.foldl insT N)

structure DOk (t : Nat) (d : Deed) : Prop where
  lo : 0 ≤ d.kind
  hi : d.kind ≤ 6
  it5 : d.kind = 5 → ∃ a b c, d.items = [(a, 3 * t), (b, 3 * t + 1), (c, 3 * t + 2)]
  it1 : d.kind ≠ 5 → ∃ a, d.items = [(a, 3 * t)]

/- strictly sorted, and tickets under v -/
structure NI (v : Nat) (N : List Thing) : Prop where
  str : StrT N
  tick : ∀ y ∈ N, y.2 < v
theorem NI.ins {v : Nat} {N : List Thing} (h : NI v N) {x : Thing} (hx : x.2 = v) : NI (v + 1) (insT N x) :=
  ⟨insT_str h.str fun y hy => by rw [hx]; exact h.tick y hy, fun y hy => by
    rcases List.mem_cons.mp ((ins_perm _ _ _ _).subset hy) with rfl | hy
    · walk_at "n"
    · have := h.tick y hy; walk_at "n"⟩
theorem NI.up {v w : Nat} {N : List Thing} (h : NI v N) (hw : v ≤ w) : NI w N := ⟨h.str, fun y hy => Nat.lt_of_lt_of_le (h.tick y hy) hw⟩
theorem NI.tl {v : Nat} {z : Thing} {N : List Thing} (h : NI v (z :: N)) : NI v N := ⟨(List.pairwise_cons.mp h.str).2, fun y hy => h.tick y (.tail _ hy)⟩
theorem NI.popH {v : Nat} {N : List Thing} (h : NI v N) : NI v (popH N).2 := by
  cases N with
  | nil => exact h
  | cons z N => exact h.tl
theorem NI.items {t : Nat} {d : Deed} (D : DOk t d) {N : List Thing} (h : NI (3 * t) N) : NI (3 * t + 3) (d.items.foldl insT N) := by
  by_cases h5 : d.kind = 5
  · obtain ⟨a, b, c, e⟩ := D.it5 h5
    rw [e]
    exact ((h.ins (x := (a, 3 * t)) rfl).ins (x := (b, 3 * t + 1)) rfl).ins (x := (c, 3 * t + 2)) rfl
  · obtain ⟨a, e⟩ := D.it1 h5
    rw [e]
    exact (h.ins (x := (a, 3 * t)) rfl).up (by walk_at "n")
theorem NI.row {t : Nat} {d : Deed} (D : DOk t d) {N : List Thing} (h : NI (3 * t) N) : d.items.foldl (insR (fun p => p.1) (fun a b : Int => decide (a < b))) N = d.items.foldl insT N := by
  by_cases h5 : d.kind = 5
  · obtain ⟨a, b, c, e⟩ := D.it5 h5
    rw [e]
    have h1 := h.ins (x := (a, 3 * t)) rfl
    have h2 := h1.ins (x := (b, 3 * t + 1)) rfl
    simp only [List.foldl_cons, List.foldl_nil]
    rw [insR_T h.str fun y hy => h.tick y hy, insR_T h1.str fun y hy => h1.tick y hy, insR_T h2.str fun y hy => h2.tick y hy]
  · obtain ⟨a, e⟩ := D.it1 h5
    rw [e]
    simp only [List.foldl_cons, List.foldl_nil]
    rw [insR_T h.str fun y hy => h.tick y hy]
theorem NI.step {t : Nat} {d : Deed} (D : DOk t d) {N : List Thing} (h : NI (3 * t) N) : NI (3 * t + 3) (nStep d.kind d.items N).2 := by
  unfold nStep
  split
  · exact h.popH.up (by walk_at "n")
  split
  · exact (h.items D).popH
  split
  · cases N with
    | nil => exact ⟨List.Pairwise.nil, fun y hy => by cases hy⟩
    | cons z zs => exact h.tl.items D
  split
  · exact h.up (by walk_at "n")
  · exact h.items D

theorem kinds {k : Int} (h0 : 0 ≤ k) (h6 : k ≤ 6) : k = 0 ∨ k = 1 ∨ k = 2 ∨ k = 3 ∨ k = 4 ∨ k = 5 ∨ k = 6 := by walk_at "n"

theorem row_step {t : Nat} {d : Deed} (D : DOk t d) {N : List Thing} (h : NI (3 * t) N) : lawRow d.kind d.items N = nStep d.kind d.items N := by
  have hr := h.row D
  have hne : d.items ≠ [] := by
    by_cases h5 : d.kind = 5
    · obtain ⟨a, b, c, e⟩ := D.it5 h5; rw [e]; simp
    · obtain ⟨a, e⟩ := D.it1 h5; rw [e]; simp
  rcases kinds D.lo D.hi with e | e | e | e | e | e | e <;> rw [e] <;> unfold lawRow rowA rowB rowC nStep
  · exact congrArg (fun x => (([] : List Thing), x)) hr
  · exact congrArg (fun x => (([] : List Thing), x)) hr
  · cases N <;> rfl
  · exact congrArg Mine.popH hr
  · cases N with
    | nil => rfl
    | cons z zs => exact congrArg (fun x => (([z] : List Thing), x)) (h.tl.row D)
  · exact congrArg (fun x => (([] : List Thing), x)) hr
  · rfl

/-! the heap -/
theorem pop_min {m z : Thing} {H zs : List Thing} (hp : (m :: H).Perm (z :: zs)) (hs : StrT (z :: zs)) (hm : ∀ a ∈ m :: H, ltT a m = false) : m = z ∧ H.Perm zs := by
  have e : m = z := by
    rcases List.mem_cons.mp (hp.subset (.head _)) with h | h
    · exact h
    · have h1 := (List.pairwise_cons.mp hs).1 m h
      have h2 := hm z (hp.symm.subset (.head _))
      rw [h1] at h2; cases h2
  subst e
  exact ⟨rfl, hp.cons_inv⟩

structure HI (H N : List Thing) : Prop where
  heap : Heap0 ltT H
  perm : H.Perm N

theorem heap_pop {H N : List Thing} (h : HI H N) (hs : StrT N) (its : List Thing) : (lawHeap 2 its H).1 = (popH N).1 ∧ HI (lawHeap 2 its H).2 (popH N).2 := by
  cases N with
  | nil =>
    have e : H = [] := by have := h.perm.length_eq; exact List.length_eq_zero_iff.mp this
    subst e
    exact ⟨rfl, h.heap, List.Perm.refl _⟩
  | cons z zs =>
    have hne : H ≠ [] := fun e => by have := h.perm.length_eq; rw [e] at this; simp at this
    have hH : H = H.dropLast ++ [H.getLastD (0, 0)] := by
      rw [List.getLastD_eq_getLast?, List.getLast?_eq_some_getLast hne]
      exact (List.dropLast_concat_getLast hne).symm
    have hheap := h.heap
    have hperm := h.perm
    rw [hH] at hheap hperm
    obtain ⟨h1, h2, h3⟩ := hpop_ok SwoT hheap
    obtain ⟨p1, p2⟩ := pop_min (h2.trans hperm) hs fun a ha => h3 a (h2.subset ha)
    have e : lawHeap 2 its H = ([(hpop ltT H.dropLast (H.getLastD (0, 0))).1], (hpop ltT H.dropLast (H.getLastD (0, 0))).2) := by
      unfold lawHeap
      rw [if_pos (by rfl), if_neg hne]
    rw [e]
    exact ⟨by rw [p1]; rfl, h1, p2⟩

theorem foldl_insT_perm : ∀ (its N : List Thing), (its.foldl insT N).Perm (N ++ its)
  | [], N => by rw [List.append_nil]; exact List.Perm.refl _
  | x :: its, N => by
    rw [List.foldl_cons]
    refine (foldl_insT_perm its _).trans ?_
    refine ((ins_perm ltT id x N).append_right its).trans ?_
    exact (List.perm_middle (l₁ := N) (l₂ := its) (a := x)).symm

theorem heap_step {t : Nat} {d : Deed} (D : DOk t d) {H N : List Thing} (h : HI H N) (hN : NI (3 * t) N) : (lawHeap d.kind d.items H).1 = (nStep d.kind d.items N).1 ∧ HI (lawHeap d.kind d.items H).2 (nStep d.kind d.items N).2 := by
  rcases kinds D.lo D.hi with e | e | e | e | e | e | e
  · obtain ⟨a, ei⟩ := D.it1 (by walk_at "n")
    obtain ⟨h1, h2⟩ := hpush_ok SwoT (x := (a, 3 * t)) h.heap
    rw [e, ei]
    exact ⟨rfl, h1, (h2.trans (h.perm.cons _)).trans (ins_perm _ _ _ _).symm⟩
  · obtain ⟨a, ei⟩ := D.it1 (by walk_at "n")
    obtain ⟨h1, h2⟩ := hpush_ok SwoT (x := (a, 3 * t)) h.heap
    rw [e, ei]
    exact ⟨rfl, h1, (h2.trans (h.perm.cons _)).trans (ins_perm _ _ _ _).symm⟩
  · rw [e]; exact heap_pop h hN.str _
  · obtain ⟨a, ei⟩ := D.it1 (by walk_at "n")
    obtain ⟨h1, h2, h3⟩ := hpp_ok SwoT (x := (a, 3 * t)) h.heap
    have hs := (hN.ins (x := (a, 3 * t)) rfl).str
    rw [e, ei]
    have hp : ((hpp ltT H (a, 3 * t)).1 :: (hpp ltT H (a, 3 * t)).2).Perm (insT N (a, 3 * t)) := (h2.trans (h.perm.cons _)).trans (ins_perm _ _ _ _).symm
    show [(hpp ltT H (a, 3 * t)).1] = (popH (insT N (a, 3 * t))).1 ∧ HI (hpp ltT H (a, 3 * t)).2 (popH (insT N (a, 3 * t))).2
    generalize insT N (a, 3 * t) = M at hp hs
    cases M with
    | nil => have := hp.length_eq; simp at this
    | cons z zs =>
      obtain ⟨p1, p2⟩ := pop_min hp hs fun b hb => h3 b (h2.subset hb)
      exact ⟨by rw [p1]; rfl, h1, p2⟩
  · obtain ⟨a, ei⟩ := D.it1 (by walk_at "n")
    rw [e, ei]
    cases N with
    | nil =>
      have e : H = [] := by have := h.perm.length_eq; exact List.length_eq_zero_iff.mp this
      subst e
      exact ⟨rfl, h.heap, List.Perm.refl _⟩
    | cons z zs =>
      cases H with
      | nil => have := h.perm.length_eq; simp at this
      | cons m ms =>
        obtain ⟨p1, p2⟩ := pop_min h.perm hN.str (heap_min SwoT h.heap)
        obtain ⟨h1, h2⟩ := hrepl_ok SwoT (x := (a, 3 * t)) h.heap
        refine ⟨?_, h1, (h2.trans (p2.cons _)).trans (ins_perm _ _ _ _).symm⟩
        show [m] = [z]
        rw [p1]
  · rw [e]
    obtain ⟨h1, h2⟩ := hify_ok SwoT (H ++ d.items)
    exact ⟨rfl, h1, (h2.trans (h.perm.append_right _)).trans (foldl_insT_perm _ _).symm⟩
  · rw [e]; exact ⟨rfl, h.heap, h.perm⟩
end Mine
end

noncomputable section
set_option genSizeOf false
set_option genInjectivity false
set_option Elab.async false
set_option linter.unusedVariables false
namespace Mine

/- the fates of the stays, first to last -/
def fg (B : Nat) : List Nat → List (Thing × Nat) → List (Thing × Nat × Nat)
  | _, [] => []
  | D, p :: ps => (p.1, p.2, wentOf B D p.2) :: fg B (D.filter fun h => h != wentOf B D p.2) ps
theorem fg_cons (B : Nat) (D : List Nat) (p : Thing × Nat) (ps : List (Thing × Nat)) : fg B D (p :: ps) = (p.1, p.2, wentOf B D p.2) :: fg B (D.filter fun h => h != wentOf B D p.2) ps := rfl
theorem fold_fg (B : Nat) : ∀ (l : List (Thing × Nat)) (D : List Nat) (acc : List (Thing × Nat × Nat)), (l.foldl (ftStep B) (D, acc)).2 = acc ++ fg B D l
  | [], D, acc => by simp [fg]
  | p :: l, D, acc => by rw [List.foldl_cons, show ftStep B (D, acc) p = (D.filter fun h => h != wentOf B D p.2, acc ++ [(p.1, p.2, wentOf B D p.2)]) from rfl, fold_fg B l]; simp [fg]

theorem wentOf_mem {B : Nat} {D : List Nat} {c : Nat} : wentOf B D c = B ∧ (∀ h ∈ D, ¬ c < h) ∨ wentOf B D c ∈ D := by
  unfold wentOf
  cases e : D.filter fun h => decide (c < h) with
  | nil =>
    refine .inl ⟨rfl, fun h hh hc => ?_⟩
    have : h ∈ D.filter fun h => decide (c < h) := List.mem_filter.mpr ⟨hh, by simpa using hc⟩
    rw [e] at this; cases this
  | cons a l =>
    have : a ∈ D.filter fun h => decide (c < h) := by rw [e]; exact .head _
    exact .inr (List.mem_filter.mp this).1
theorem wentOf_none {B : Nat} {D : List Nat} {c : Nat} (h : ∀ h ∈ D, h ≤ c) : wentOf B D c = B := by
  unfold wentOf
  rw [List.filter_eq_nil_iff.mpr fun a ha => by have := h a ha; simp; walk_at "n"]; rfl
theorem filt_none {D : List Nat} {w : Nat} (h : w ∉ D) : (D.filter fun h => h != w) = D := by
  rw [List.filter_eq_self]
  intro a ha
  simp only [bne_iff_ne, ne_eq]
  intro e; subst e; exact h ha

theorem fg_mem {B : Nat} : ∀ {l : List (Thing × Nat)} {D : List Nat} {e : Thing × Nat × Nat}, e ∈ fg B D l → (e.1, e.2.1) ∈ l ∧ (e.2.2 = B ∨ e.2.2 ∈ D)
  | p :: l, D, e, h => by
    unfold fg at h
    rcases List.mem_cons.mp h with rfl | h
    · refine ⟨.head _, ?_⟩
      rcases wentOf_mem (B := B) (D := D) (c := p.2) with h | h
      · exact .inl h.1
      · exact .inr h
    · obtain ⟨h1, h2⟩ := fg_mem h
      exact ⟨.tail _ h1, h2.imp id fun h => (List.mem_filter.mp h).1⟩
theorem fg_length {B : Nat} : ∀ (l : List (Thing × Nat)) (D : List Nat), (fg B D l).length = l.length
  | [], D => rfl
  | p :: l, D => by simp [fg, fg_length l]

/- a new stay that no door is behind -/
theorem fg_arr {B : Nat} {x : Thing} {c : Nat} : ∀ (A T : List (Thing × Nat)) (D : List Nat), (∀ h ∈ D, h ≤ c) → (∀ h ∈ D, h < B) → ∃ A' T', fg B D (A ++ T) = A' ++ T' ∧ fg B D (A ++ (x, c) :: T) = A' ++ (x, c, B) :: T' ∧ A'.map (fun e => e.1) = A.map (fun e => e.1) ∧ T'.map (fun e => e.1) = T.map (fun e => e.1)
  | [], T, D, h1, h2 => by
    refine ⟨[], fg B D T, rfl, ?_, rfl, ?_⟩
    · show fg B D ((x, c) :: T) = _
      rw [fg_cons, wentOf_none h1, filt_none fun h => Nat.lt_irrefl _ (h2 B h)]; rfl
    · clear h1 h2
      induction T generalizing D with
      | nil => rfl
      | cons p T ih => simp [fg, ih]
  | p :: A, T, D, h1, h2 => by
    obtain ⟨A', T', e1, e2, e3, e4⟩ := fg_arr (x := x) (c := c) A T (D.filter fun h => h != wentOf B D p.2) (fun h hh => h1 h (List.mem_filter.mp hh).1) (fun h hh => h2 h (List.mem_filter.mp hh).1)
    refine ⟨(p.1, p.2, wentOf B D p.2) :: A', T', ?_, ?_, ?_, e4⟩
    · simp only [List.cons_append, fg, e1]
    · simp only [List.cons_append, fg, e2]
    · simp only [List.map_cons, e3]

/- a new door takes the first of those inside -/
theorem fg_door {B h : Nat} (hB : h < B) : ∀ (l : List (Thing × Nat)) (D : List Nat), (∀ p ∈ l, p.2 < h) → (∀ d ∈ D, d < h) →
    ((∀ e ∈ fg B D l, e.2.2 ≠ B) ∧ fg B (D ++ [h]) l = fg B D l) ∨ ∃ A x c T, fg B D l = A ++ (x, c, B) :: T ∧ fg B (D ++ [h]) l = A ++ (x, c, h) :: T ∧ (∀ e ∈ A, e.2.2 ≠ B)
  | [], D, _, _ => .inl ⟨fun e he => (by cases he), rfl⟩
  | p :: l, D, hl, hD => by
    by_cases e : ∀ d ∈ D, d ≤ p.2
    · refine .inr ⟨[], p.1, p.2, fg B D l, ?_, ?_, fun e he => (by cases he)⟩
      · rw [fg_cons, wentOf_none e, filt_none fun h => by have := hD B h; walk_at "n"]; rfl
      · have hw : wentOf B (D ++ [h]) p.2 = h := by
          unfold wentOf
          have hp := hl p (.head _)
          rw [List.filter_append, List.filter_eq_nil_iff.mpr fun a ha => by have := e a ha; simp; walk_at "n"]
          simp [hp]
        rw [fg_cons, hw, List.filter_append, filt_none fun h' => by have := hD h h'; walk_at "n"]
        simp
    · have hw : wentOf B (D ++ [h]) p.2 = wentOf B D p.2 := by
        unfold wentOf
        rw [List.filter_append]
        cases e' : D.filter fun h => decide (p.2 < h) with
        | nil =>
          refine absurd (fun d hd => ?_) e
          have := List.filter_eq_nil_iff.mp e' d hd
          simpa using this
        | cons a t => rfl
      have hwm : wentOf B D p.2 ∈ D := by
        rcases wentOf_mem (B := B) (D := D) (c := p.2) with h' | h'
        · exact absurd (fun d hd => Nat.le_of_not_lt (h'.2 d hd)) e
        · exact h'
      have hwh := hD _ hwm
      have hf : ((D ++ [h]).filter fun d => d != wentOf B D p.2) = (D.filter fun d => d != wentOf B D p.2) ++ [h] := by
        rw [List.filter_append]
        congr 1
        rw [List.filter_cons, if_pos (by simp; walk_at "n")]; rfl
      have ih := fg_door hB l (D.filter fun d => d != wentOf B D p.2) (fun q hq => hl q (.tail _ hq)) (fun d hd => hD d (List.mem_filter.mp hd).1)
      rcases ih with ⟨i1, i2⟩ | ⟨A, x, c, T, i1, i2, i3⟩
      · refine .inl ⟨fun q hq => ?_, ?_⟩
        · unfold fg at hq
          rcases List.mem_cons.mp hq with rfl | hq
          · show wentOf B D p.2 ≠ B
            walk_at "n"
          · exact i1 q hq
        · rw [fg_cons, fg_cons, hw, hf, i2]
      · refine .inr ⟨(p.1, p.2, wentOf B D p.2) :: A, x, c, T, ?_, ?_, fun q hq => ?_⟩
        · rw [fg_cons, i1]; rfl
        · rw [fg_cons, hw, hf, i2]; rfl
        · rcases List.mem_cons.mp hq with rfl | hq
          · show wentOf B D p.2 ≠ B
            walk_at "n"
          · exact i3 q hq

/- the fates at a state -/
def Phi (B : Nat) (s : FSt) : List (Thing × Nat × Nat) := fg B s.doors (isort ltS id s.stays)
def nowOf (B : Nat) (fs : List (Thing × Nat × Nat)) : List Thing := (fs.filter fun e => e.2.2 == B).map fun e => e.1

theorem ins_split {α β : Type} {lt : β → β → Bool} {κ : α → β} (S : SwoF lt) (x : α) : ∀ {l : List α}, (l.Pairwise fun a b => lt (κ b) (κ a) = false) → ∃ A T, l = A ++ T ∧ ins lt κ x l = A ++ x :: T ∧ (∀ y ∈ A, lt (κ x) (κ y) = false) ∧ (∀ y ∈ T, lt (κ x) (κ y) = true)
  | [], _ => ⟨[], [], rfl, rfl, (fun _ h => by cases h), (fun _ h => by cases h)⟩
  | y :: l, h => by
    obtain ⟨h1, h2⟩ := List.pairwise_cons.mp h
    by_cases e : lt (κ x) (κ y) = true
    · refine ⟨[], y :: l, rfl, by unfold ins; rw [if_pos e]; rfl, (fun _ h => by cases h), fun z hz => ?_⟩
      rcases List.mem_cons.mp hz with rfl | hz
      · exact e
      · cases e' : lt (κ x) (κ z) with
        | true => rfl
        | false => have := S.ntr _ _ _ e' (h1 z hz); rw [e] at this; cases this
    · obtain ⟨A, T, e1, e2, e3, e4⟩ := ins_split S x h2
      refine ⟨y :: A, T, by rw [e1]; rfl, by unfold ins; rw [if_neg e, e2]; rfl, fun z hz => ?_, e4⟩
      rcases List.mem_cons.mp hz with rfl | hz
      · simpa using e
      · exact e3 z hz

structure FI (B k v : Nat) (s : FSt) (N : List Thing) : Prop where
  came : ∀ p ∈ s.stays, p.2 < k
  door : ∀ h ∈ s.doors, h < k
  kB : k ≤ B
  tick : ∀ p ∈ s.stays, p.1.2 < v
  size : s.size = (N.length : Nat)
  now : nowOf B (Phi B s) = N

theorem FI.up {B k v k' v' : Nat} {s : FSt} {N : List Thing} (F : FI B k v s N) (hk : k ≤ k') (hB : k' ≤ B) (hv : v ≤ v') : FI B k' v' s N :=
  ⟨fun p hp => Nat.lt_of_lt_of_le (F.came p hp) hk, fun h hh => Nat.lt_of_lt_of_le (F.door h hh) hk, hB, fun p hp => Nat.lt_of_lt_of_le (F.tick p hp) hv, F.size, F.now⟩

theorem FI.mem {B k v : Nat} {s : FSt} {N : List Thing} (F : FI B k v s N) {e : Thing × Nat × Nat} (h : e ∈ Phi B s) : e.2.1 < k ∧ e.1.2 < v ∧ (e.2.2 = B ∨ e.2.2 < k) := by
  obtain ⟨h1, h2⟩ := fg_mem h
  have h1' := (isort_perm ltS id s.stays).subset h1
  exact ⟨F.came _ h1', F.tick _ h1', h2.imp id (F.door _)⟩

theorem FI.due_none {B k v : Nat} {s : FSt} {N : List Thing} (F : FI B k v s N) {t : Nat} (hk : k ≤ 2 * t) (ht : t < B / 2) : dueOf (Phi B s) t = [] := by
  unfold dueOf
  rw [List.filter_eq_nil_iff.mpr fun e he => ?_]; rfl
  obtain ⟨_, _, h⟩ := F.mem he
  simp; walk_at "n"
theorem FI.inside {B k v : Nat} {s : FSt} {N : List Thing} (F : FI B k v s N) {t : Nat} (hk : k ≤ 2 * t + 2) (ht : t < B / 2) : insideOf (Phi B s) t = N := by
  rw [← F.now]
  unfold insideOf nowOf
  congr 1
  refine List.filter_congr fun e he => ?_
  obtain ⟨h1, _, h⟩ := F.mem he
  rw [Bool.eq_iff_iff]
  simp
  walk_at "n"

theorem map_filter_ins {B : Nat} : ∀ {A : List (Thing × Nat × Nat)} {P : Thing → Prop}, (∀ y ∈ A.map (fun e => e.1), P y) → ∀ y ∈ nowOf B A, P y := by
  intro A P h y hy
  unfold nowOf at hy
  obtain ⟨e, he, rfl⟩ := List.mem_map.mp hy
  exact h _ (List.mem_map.mpr ⟨e, (List.mem_filter.mp he).1, rfl⟩)

theorem FI.arr {B k v : Nat} {s : FSt} {N : List Thing} (F : FI B k v s N) {x : Thing} {c : Nat} (hx : x.2 = v) (hk : k ≤ c + 1) (hB : c + 1 ≤ B) :
    FI B (c + 1) (v + 1) ⟨s.size + 1, s.stays ++ [(x, c)], s.doors⟩ (insT N x) ∧
    (∀ t, t < B / 2 → dueOf (Phi B ⟨s.size + 1, s.stays ++ [(x, c)], s.doors⟩) t = dueOf (Phi B s) t) ∧
    (∀ t, t < c / 2 → insideOf (Phi B ⟨s.size + 1, s.stays ++ [(x, c)], s.doors⟩) t = insideOf (Phi B s) t) := by
  have hs := isort_sorted (κ := id) SwoS s.stays
  obtain ⟨A, T, e1, e2, e3, e4⟩ := ins_split SwoS (κ := id) (x, c) hs
  obtain ⟨A', T', f1, f2, f3, f4⟩ := fg_arr (B := B) (x := x) (c := c) A T s.doors (fun h hh => by have := F.door h hh; walk_at "n") (fun h hh => by have := F.door h hh; have := F.kB; walk_at "n")
  have g1 : Phi B s = A' ++ T' := by unfold Phi; rw [e1]; exact f1
  have g2 : Phi B ⟨s.size + 1, s.stays ++ [(x, c)], s.doors⟩ = A' ++ (x, c, B) :: T' := by unfold Phi; dsimp only; rw [isort_snoc, e2]; exact f2
  have hv : ∀ y ∈ A ++ T, y.1.2 < v := fun y hy => F.tick y ((isort_perm ltS id s.stays).subset (by rw [e1]; exact hy))
  have hA : ∀ y ∈ A.map (fun e => e.1), ltT x y = false := fun y hy => by
    obtain ⟨p, hp, rfl⟩ := List.mem_map.mp hy
    have := e3 p hp
    have h2 := hv p (List.mem_append_left _ hp)
    rw [Bool.eq_false_iff, ne_eq, id, id, ltS_iff] at this
    rw [Bool.eq_false_iff, ne_eq, ltT_iff]
    dsimp only at this
    walk_at "n"
  have hT : ∀ y ∈ T.map (fun e => e.1), ltT x y = true := fun y hy => by
    obtain ⟨p, hp, rfl⟩ := List.mem_map.mp hy
    have := e4 p hp
    have h2 := hv p (List.mem_append_right _ hp)
    rw [id, id, ltS_iff] at this
    rw [ltT_iff]
    dsimp only at this
    walk_at "n"
  have hnow : nowOf B (A' ++ (x, c, B) :: T') = insT N x := by
    have hN : N = nowOf B A' ++ nowOf B T' := by rw [← F.now, g1]; simp [nowOf]
    rw [hN]
    unfold insT
    rw [ins_behind (map_filter_ins (by rw [f3]; exact hA)), ins_front (map_filter_ins (by rw [f4]; exact hT))]
    simp [nowOf]
  refine ⟨⟨fun p hp => ?_, fun h hh => ?_, hB, fun p hp => ?_, ?_, by rw [g2]; exact hnow⟩, fun t ht => ?_, fun t ht => ?_⟩
  · rcases List.mem_append.mp hp with hp | hp
    · have := F.came p hp; walk_at "n"
    · rw [List.mem_singleton.mp hp]; exact Nat.lt_succ_self _
  · have := F.door h hh; walk_at "n"
  · rcases List.mem_append.mp hp with hp | hp
    · have := F.tick p hp; walk_at "n"
    · rw [List.mem_singleton.mp hp]; show x.2 < v + 1; walk_at "n"
  · show s.size + 1 = _
    rw [F.size, (ins_perm ltT id x N).length_eq]; simp
  · rw [g1, g2]
    unfold dueOf
    rw [List.filter_append, List.filter_append, List.filter_cons, if_neg (by simp; walk_at "n")]
  · rw [g1, g2]
    unfold insideOf
    rw [List.filter_append, List.filter_append, List.filter_cons, if_neg (by simp; walk_at "n")]

theorem FI.go {B k v : Nat} {s : FSt} {z : Thing} {zs : List Thing} (F : FI B k v s (z :: zs)) {h : Nat} (hk : k ≤ h) (hB : h + 1 ≤ B) :
    FI B (h + 1) v ⟨s.size - 1, s.stays, s.doors ++ [h]⟩ zs ∧
    (dueOf (Phi B s) (h / 2) = [] → dueOf (Phi B ⟨s.size - 1, s.stays, s.doors ++ [h]⟩) (h / 2) = [z]) ∧
    (∀ t, t < B / 2 → t < h / 2 → dueOf (Phi B ⟨s.size - 1, s.stays, s.doors ++ [h]⟩) t = dueOf (Phi B s) t) ∧
    (∀ t, t < B / 2 → t < h / 2 → insideOf (Phi B ⟨s.size - 1, s.stays, s.doors ++ [h]⟩) t = insideOf (Phi B s) t) := by
  have hcame : ∀ p ∈ isort ltS id s.stays, p.2 < h := fun p hp => by have := F.came p ((isort_perm _ _ _).subset hp); walk_at "n"
  have hdoor : ∀ d ∈ s.doors, d < h := fun d hd => by have := F.door d hd; walk_at "n"
  rcases fg_door (B := B) (h := h) (by walk_at "n") _ s.doors hcame hdoor with ⟨i1, _⟩ | ⟨A, x, c, T, i1, i2, i3⟩
  · have := F.now
    unfold nowOf Phi at this
    rw [List.filter_eq_nil_iff.mpr fun e he => by have := i1 e he; simpa using this] at this
    cases this
  have g1 : Phi B s = A ++ (x, c, B) :: T := i1
  have g2 : Phi B ⟨s.size - 1, s.stays, s.doors ++ [h]⟩ = A ++ (x, c, h) :: T := i2
  have hAn : (A.filter fun e => e.2.2 == B) = [] := List.filter_eq_nil_iff.mpr fun e he => by have := i3 e he; simpa using this
  have hN : x = z ∧ nowOf B T = zs := by
    have := F.now
    rw [g1] at this
    unfold nowOf at this ⊢
    rw [List.filter_append, hAn, List.filter_cons, if_pos (by simp)] at this
    simpa using this
  obtain ⟨rfl, hT⟩ := hN
  refine ⟨⟨fun p hp => ?_, fun d hd => ?_, hB, F.tick, ?_, ?_⟩, fun h0 => ?_, fun t ht hth => ?_, fun t ht hth => ?_⟩
  · have := F.came p hp; walk_at "n"
  · rcases List.mem_append.mp hd with hd | hd
    · have := hdoor d hd; walk_at "n"
    · rw [List.mem_singleton.mp hd]; walk_at "n"
  · show s.size - 1 = _
    rw [F.size]; simp
  · rw [g2, ← hT]
    unfold nowOf
    rw [List.filter_append, hAn, List.filter_cons, if_neg (by simp; walk_at "n")]; rfl
  · rw [g1] at h0
    rw [g2]
    unfold dueOf at h0 ⊢
    rw [List.map_eq_nil_iff, List.filter_append, List.append_eq_nil_iff] at h0
    obtain ⟨h1, h2⟩ := h0
    rw [List.filter_cons] at h2
    split at h2
    · cases h2
    · rw [List.filter_append, h1, List.filter_cons, if_pos (by simp), h2]; rfl
  · rw [g1, g2]
    unfold dueOf
    rw [List.filter_append, List.filter_append, List.filter_cons, List.filter_cons, if_neg (by simp; walk_at "n"), if_neg (by simp; walk_at "n")]
  · rw [g1, g2]
    unfold insideOf
    have hc : c < k := by
      have := F.mem (e := (x, c, B)) (by rw [g1]; simp)
      exact this.1
    rw [List.filter_append, List.filter_append, List.filter_cons, List.filter_cons]
    by_cases hct : c / 2 ≤ t
    · rw [if_pos (by simp; walk_at "n"), if_pos (by simp; walk_at "n")]; simp
    · rw [if_neg (by simp; walk_at "n"), if_neg (by simp; walk_at "n")]
end Mine
end

noncomputable section
set_option genSizeOf false
set_option genInjectivity false
set_option Elab.async false
set_option linter.unusedVariables false
namespace Mine

theorem fsStep_none {t : Nat} {its : List Thing} {w : Int} {s : FSt} : fsStep t ⟨6, its, w⟩ s = s := rfl
theorem fsStep_0 {t : Nat} {a : Thing} {w : Int} {s : FSt} : fsStep t ⟨0, [a], w⟩ s = ⟨s.size + 1, s.stays ++ [(a, 2 * t)], s.doors⟩ := rfl
theorem fsStep_1 {t : Nat} {a : Thing} {w : Int} {s : FSt} : fsStep t ⟨1, [a], w⟩ s = ⟨s.size + 1, s.stays ++ [(a, 2 * t)], s.doors⟩ := rfl
theorem fsStep_5 {t : Nat} {a b c : Thing} {w : Int} {s : FSt} : fsStep t ⟨5, [a, b, c], w⟩ s = ⟨s.size + 3, s.stays ++ [(a, 2 * t), (b, 2 * t), (c, 2 * t)], s.doors⟩ := rfl
theorem fsStep_2 {t : Nat} {its : List Thing} {w : Int} {s : FSt} : fsStep t ⟨2, its, w⟩ s = if decide (0 < s.size) = true then ⟨s.size - 1, s.stays, s.doors ++ [2 * t + 1]⟩ else s := rfl
theorem fsStep_3 {t : Nat} {a : Thing} {w : Int} {s : FSt} : fsStep t ⟨3, [a], w⟩ s = if decide (0 < s.size + 1) = true then ⟨s.size + 1 - 1, s.stays ++ [(a, 2 * t)], s.doors ++ [2 * t + 1]⟩ else ⟨s.size + 1, s.stays ++ [(a, 2 * t)], s.doors⟩ := rfl
theorem fsStep_4 {t : Nat} {a : Thing} {w : Int} {s : FSt} : fsStep t ⟨4, [a], w⟩ s = if decide (0 < s.size) = true then ⟨s.size, s.stays ++ [(a, 2 * t + 1)], s.doors ++ [2 * t]⟩ else s := rfl

/- earlier turns stay as they were -/
def Kept (B t : Nat) (s s' : FSt) : Prop := ∀ u, u < t → dueOf (Phi B s') u = dueOf (Phi B s) u ∧ insideOf (Phi B s') u = insideOf (Phi B s) u
theorem Kept.refl {B t : Nat} {s : FSt} : Kept B t s s := fun _ _ => ⟨rfl, rfl⟩
theorem Kept.trans {B t : Nat} {s s' s'' : FSt} (h1 : Kept B t s s') (h2 : Kept B t s' s'') : Kept B t s s'' := fun u hu => ⟨(h2 u hu).1.trans (h1 u hu).1, (h2 u hu).2.trans (h1 u hu).2⟩

theorem turn {B t : Nat} {d : Deed} {s : FSt} {N : List Thing} (D : DOk t d) (hN : NI (3 * t) N) (F : FI B (2 * t) (3 * t) s N) (hB : 2 * t + 2 ≤ B) :
    FI B (2 * t + 2) (3 * t + 3) (fsStep t d s) (nStep d.kind d.items N).2 ∧ dueOf (Phi B (fsStep t d s)) t = (nStep d.kind d.items N).1 ∧ Kept B t s (fsStep t d s) := by
  have ht : t < B / 2 := by walk_at "n"
  have h0 := F.due_none (t := t) (Nat.le_refl _) ht
  have hone : ∀ (a : Int), FI B (2 * t + 2) (3 * t + 3) ⟨s.size + 1, s.stays ++ [((a, 3 * t), 2 * t)], s.doors⟩ (insT N (a, 3 * t)) ∧ dueOf (Phi B ⟨s.size + 1, s.stays ++ [((a, 3 * t), 2 * t)], s.doors⟩) t = [] ∧ Kept B t s ⟨s.size + 1, s.stays ++ [((a, 3 * t), 2 * t)], s.doors⟩ := fun a => by
    obtain ⟨f1, f2, f3⟩ := F.arr (x := (a, 3 * t)) (c := 2 * t) rfl (by walk_at "n") (by walk_at "n")
    exact ⟨f1.up (by walk_at "n") hB (by walk_at "n"), by rw [f2 t ht, h0], fun u hu => ⟨f2 u (by walk_at "n"), f3 u (by walk_at "n")⟩⟩
  obtain ⟨kind, its, w⟩ := d
  have hit1 := D.it1
  have hit5 := D.it5
  have hk := kinds D.lo D.hi
  dsimp only at hit1 hit5 hk ⊢
  rcases hk with e | e | e | e | e | e | e <;> subst e
  · obtain ⟨a, rfl⟩ := hit1 (by decide)
    rw [fsStep_0]; exact hone a
  · obtain ⟨a, rfl⟩ := hit1 (by decide)
    rw [fsStep_1]; exact hone a
  · rw [fsStep_2]
    cases N with
    | nil =>
      have hs := F.size
      rw [if_neg (by rw [hs]; simp)]
      exact ⟨F.up (by walk_at "n") hB (by walk_at "n"), h0, Kept.refl⟩
    | cons z zs =>
      have hs := F.size
      rw [if_pos (by rw [hs]; simp)]
      obtain ⟨g1, g2, g3, g4⟩ := F.go (h := 2 * t + 1) (by walk_at "n") (by walk_at "n")
      rw [show (2 * t + 1) / 2 = t by walk_at "n"] at g2 g3 g4
      exact ⟨g1.up (by walk_at "n") hB (by walk_at "n"), g2 h0, fun u hu => ⟨g3 u (by walk_at "n") hu, g4 u (by walk_at "n") hu⟩⟩
  · obtain ⟨a, rfl⟩ := hit1 (by decide)
    rw [fsStep_3]
    obtain ⟨f1, f2, f3⟩ := F.arr (x := (a, 3 * t)) (c := 2 * t) rfl (by walk_at "n") (by walk_at "n")
    obtain ⟨_, h0', hk'⟩ := hone a
    have hs := F.size
    rw [if_pos (by rw [hs]; simp)]
    show FI B (2 * t + 2) (3 * t + 3) _ (popH (insT N (a, 3 * t))).2 ∧ dueOf _ t = (popH (insT N (a, 3 * t))).1 ∧ _
    have hl : (insT N (a, 3 * t)).length = N.length + 1 := ins_length ltT id (a, 3 * t) N
    generalize insT N (a, 3 * t) = M at f1 hl
    cases M with
    | nil => simp at hl
    | cons z zs =>
      obtain ⟨g1, g2, g3, g4⟩ := f1.go (h := 2 * t + 1) (by walk_at "n") (by walk_at "n")
      rw [show (2 * t + 1) / 2 = t by walk_at "n"] at g2 g3 g4
      exact ⟨g1.up (by walk_at "n") hB (by walk_at "n"), g2 h0', hk'.trans fun u hu => ⟨g3 u (by walk_at "n") hu, g4 u (by walk_at "n") hu⟩⟩
  · obtain ⟨a, rfl⟩ := hit1 (by decide)
    rw [fsStep_4]
    cases N with
    | nil =>
      have hs := F.size
      rw [if_neg (by rw [hs]; simp)]
      exact ⟨F.up (by walk_at "n") hB (by walk_at "n"), h0, Kept.refl⟩
    | cons z zs =>
      have hs := F.size
      rw [if_pos (by rw [hs]; simp)]
      obtain ⟨g1, g2, g3, g4⟩ := F.go (h := 2 * t) (by walk_at "n") (by walk_at "n")
      rw [show 2 * t / 2 = t by walk_at "n"] at g2 g3 g4
      obtain ⟨f1, f2, f3⟩ := g1.arr (x := (a, 3 * t)) (c := 2 * t + 1) rfl (by walk_at "n") (by walk_at "n")
      have es : s.size - 1 + 1 = s.size := Int.sub_add_cancel _ _
      dsimp only at f1 f2 f3
      rw [es] at f1 f2 f3
      exact ⟨f1.up (by walk_at "n") hB (by walk_at "n"), (f2 t ht).trans (g2 h0), Kept.trans (fun u hu => ⟨g3 u (by walk_at "n") hu, g4 u (by walk_at "n") hu⟩) fun u hu => ⟨f2 u (by walk_at "n"), f3 u (by walk_at "n")⟩⟩
  · obtain ⟨a, b, c, rfl⟩ := hit5 rfl
    rw [fsStep_5]
    obtain ⟨f1, f2, f3⟩ := F.arr (x := (a, 3 * t)) (c := 2 * t) rfl (by walk_at "n") (by walk_at "n")
    obtain ⟨g1, g2, g3⟩ := f1.arr (x := (b, 3 * t + 1)) (c := 2 * t) rfl (by walk_at "n") (by walk_at "n")
    obtain ⟨k1, k2, k3⟩ := g1.arr (x := (c, 3 * t + 2)) (c := 2 * t) rfl (by walk_at "n") (by walk_at "n")
    have es : (⟨s.size + 1 + 1 + 1, s.stays ++ [((a, 3 * t), 2 * t)] ++ [((b, 3 * t + 1), 2 * t)] ++ [((c, 3 * t + 2), 2 * t)], s.doors⟩ : FSt) = ⟨s.size + 3, s.stays ++ [((a, 3 * t), 2 * t), ((b, 3 * t + 1), 2 * t), ((c, 3 * t + 2), 2 * t)], s.doors⟩ := by
      rw [List.append_assoc, List.append_assoc, Int.add_assoc, Int.add_assoc]; rfl
    dsimp only at k1 k2 k3
    rw [es] at k1 k2 k3
    exact ⟨k1.up (by walk_at "n") hB (by walk_at "n"), by rw [k2 t ht, g2 t ht, f2 t ht, h0]; rfl, fun u hu => ⟨by rw [k2 u (by walk_at "n"), g2 u (by walk_at "n"), f2 u (by walk_at "n")], by rw [k3 u (by walk_at "n"), g3 u (by walk_at "n"), f3 u (by walk_at "n")]⟩⟩
  · rw [fsStep_none]
    exact ⟨F.up (by walk_at "n") hB (by walk_at "n"), h0, Kept.refl⟩

/- who is inside behind t deeds -/
def nOf (ds : List Deed) : Nat → List Thing
  | 0 => []
  | t + 1 => match ds[t]? with
    | some d => (nStep d.kind d.items (nOf ds t)).2
    | none => nOf ds t
theorem nOf_some {ds : List Deed} {t : Nat} {d : Deed} (h : ds[t]? = some d) : nOf ds (t + 1) = (nStep d.kind d.items (nOf ds t)).2 := by simp [nOf, h]
theorem nOf_none {ds : List Deed} {t : Nat} (h : ds[t]? = none) : nOf ds (t + 1) = nOf ds t := by simp [nOf, h]

section
variable {ds : List Deed} (OK : ∀ (t : Nat) (d : Deed), ds[t]? = some d → DOk t d)
include OK
theorem nOf_NI : ∀ t : Nat, NI (3 * t) (nOf ds t)
  | 0 => ⟨List.Pairwise.nil, fun y hy => by cases hy⟩
  | t + 1 => by
    have ih := nOf_NI t
    cases e : ds[t]? with
    | none => rw [nOf_none e]; exact ih.up (by walk_at "n")
    | some d => rw [nOf_some e]; exact ih.step (OK t d e)
theorem HR_ok : ∀ t : Nat, HI (HR ds t).1 (nOf ds t) ∧ (HR ds t).2 = nOf ds t
  | 0 => ⟨⟨fun c _ _ a b ha _ => by simp [HR] at ha, List.Perm.refl _⟩, rfl⟩
  | t + 1 => by
    obtain ⟨h1, h2⟩ := HR_ok t
    have hN := nOf_NI OK t
    cases e : ds[t]? with
    | none =>
      have : HR ds (t + 1) = HR ds t := by simp [HR, e]
      rw [nOf_none e, this]; exact ⟨h1, h2⟩
    | some d =>
      have : HR ds (t + 1) = ((lawHeap d.kind d.items (HR ds t).1).2, (lawRow d.kind d.items (HR ds t).2).2) := by simp [HR, e]
      rw [nOf_some e, this]
      refine ⟨(heap_step (OK t d e) h1 hN).2, ?_⟩
      show (lawRow d.kind d.items (HR ds t).2).2 = _
      rw [h2, row_step (OK t d e) hN]

theorem FI_ok : ∀ t : Nat, t ≤ ds.length → FI (2 * ds.length) (2 * t) (3 * t) (fsGo 0 (ds.take t) ⟨0, [], []⟩) (nOf ds t) ∧
    ∀ u d, u < t → ds[u]? = some d → dueOf (Phi (2 * ds.length) (fsGo 0 (ds.take t) ⟨0, [], []⟩)) u = (nStep d.kind d.items (nOf ds u)).1 ∧ insideOf (Phi (2 * ds.length) (fsGo 0 (ds.take t) ⟨0, [], []⟩)) u = nOf ds (u + 1)
  | 0, _ => ⟨⟨(fun p hp => by cases hp), (fun p hp => by cases hp), Nat.zero_le _, (fun p hp => by cases hp), rfl, rfl⟩, fun u d hu => absurd hu (Nat.not_lt_zero _)⟩
  | t + 1, h => by
    obtain ⟨h1, h2⟩ := FI_ok t (by walk_at "n")
    have hlt : t < ds.length := by walk_at "n"
    have e : ds[t]? = some ds[t] := List.getElem?_eq_getElem hlt
    generalize ds[t] = d at e
    have hstep : fsGo 0 (ds.take (t + 1)) ⟨0, [], []⟩ = fsStep t d (fsGo 0 (ds.take t) ⟨0, [], []⟩) := by
      rw [take_snoc e, fsGo_snoc, List.length_take, Nat.min_eq_left (Nat.le_of_lt hlt), Nat.zero_add]
    rw [hstep, nOf_some e]
    obtain ⟨t1, t2, t3⟩ := turn (OK t d e) (nOf_NI OK t) h1 (by walk_at "n")
    refine ⟨t1, fun u d' hu hd' => ?_⟩
    by_cases hut : u = t
    · subst hut
      rw [e] at hd'; cases hd'
      exact ⟨t2, (t1.inside (Nat.le_refl _) (by walk_at "n")).trans (nOf_some e).symm⟩
    · obtain ⟨k1, k2⟩ := t3 u (by walk_at "n")
      obtain ⟨q1, q2⟩ := h2 u d' (by walk_at "n") hd'
      exact ⟨k1.trans q1, k2.trans q2⟩

omit OK in
theorem pops_ok {H N : List Thing} (h : HI H N) (hs : StrT N) : ∀ i : Nat, HI (popsH H i) (N.drop i)
  | 0 => h
  | i + 1 => by
    have := heap_pop (pops_ok h hs i) (hs.sublist (List.drop_sublist _ _)) []
    have e : (popH (N.drop i)).2 = N.drop (i + 1) := by
      rw [← List.drop_drop]
      cases N.drop i <;> rfl
    rw [← e]; exact this.2
end

theorem nOf_late {ds : List Deed} : ∀ k : Nat, nOf ds (ds.length + k) = nOf ds ds.length
  | 0 => rfl
  | k + 1 => by
    rw [show ds.length + (k + 1) = ds.length + k + 1 from rfl, nOf_none (List.getElem?_eq_none (by walk_at "n")), nOf_late k]

theorem nowOf_length (B : Nat) (fs : List (Thing × Nat × Nat)) : (nowOf B fs).length ≤ fs.length := by
  unfold nowOf; rw [List.length_map]; exact List.length_filter_le _ _

/-! the deeds of a script -/
theorem deedsGo_get : ∀ (n : Nat) (xs : List Int) (t : Nat) (d : Deed), (deedsGo n xs)[t]? = some d → ∃ x, d = deedOf x (n + t)
  | n, [], t, d, h => by simp [deedsGo] at h
  | n, x :: r, 0, d, h => by simp [deedsGo] at h; exact ⟨x, h.symm⟩
  | n, x :: r, t + 1, d, h => by
    simp only [deedsGo, List.getElem?_cons_succ] at h
    obtain ⟨y, e⟩ := deedsGo_get (n + 1) r t d h
    exact ⟨y, by rw [e, show n + 1 + t = n + (t + 1) by walk_at "n"]⟩
theorem deedOf_ok (x : Int) (t : Nat) : DOk t (deedOf x t) where
  lo := Int.fmod_nonneg_of_pos x (by decide)
  hi := by
    have : (deedOf x t).kind < 7 := Int.fmod_lt_of_pos x (by decide)
    walk_at "n"
  it5 := fun h => by
    have h : x.fmod 7 = 5 := h
    unfold deedOf
    dsimp only
    rw [h]
    exact ⟨_, _, _, rfl⟩
  it1 := fun h => by
    have h : x.fmod 7 ≠ 5 := h
    unfold deedOf
    dsimp only
    rw [if_neg (by simpa using h)]
    exact ⟨_, rfl⟩

def gX (x : Int) : Nat := if x.fmod 7 == 5 then 3 else if inK [0, 1, 3, 5] (x.fmod 7) then 1 else if x.fmod 7 == 4 then 1 else 0
theorem gain (t n : Nat) (x : Int) (s : FSt) : (fsStep t (deedOf x n) s).stays.length ≤ s.stays.length + gX x := by
  have hk : (deedOf x n).kind = x.fmod 7 := rfl
  have h12 : (fs2 t (deedOf x n) (fs1 t (deedOf x n) s)).stays.length = (fs1 t (deedOf x n) s).stays.length := (fs1_grow t (deedOf x n) s).2
  have h3 : (fsStep t (deedOf x n) s).stays.length ≤ (fs1 t (deedOf x n) s).stays.length + (if x.fmod 7 == 4 then 1 else 0) := by
    rw [← h12]
    unfold fsStep
    generalize fs2 t (deedOf x n) (fs1 t (deedOf x n) s) = q
    unfold fs3
    rw [hk]
    by_cases h4 : (x.fmod 7 == 4) = true
    · rw [h4]
      split <;> simp
    · rw [show (x.fmod 7 == 4) = false by simpa using h4]
      simp
  have h1 : (fs1 t (deedOf x n) s).stays.length = s.stays.length + (if inK [0, 1, 3, 5] (x.fmod 7) = true then (deedOf x n).items.length else 0) := by
    unfold fs1
    rw [hk]
    split <;> simp
  have hi : (deedOf x n).items.length = if x.fmod 7 == 5 then 3 else 1 := by
    unfold deedOf three
    dsimp only
    split <;> rfl
  rw [hi] at h1
  unfold gX
  by_cases h5 : x.fmod 7 = 5
  · rw [h5] at h1 h3 ⊢
    have : inK [0, 1, 3, 5] 5 = true := rfl
    rw [this] at h1
    simp at h1 h3 ⊢; walk_at "n"
  · have h5' : (x.fmod 7 == 5) = false := by simpa using h5
    rw [h5'] at h1 ⊢
    by_cases h4 : x.fmod 7 = 4
    · have : inK [0, 1, 3, 5] 4 = false := rfl
      rw [h4] at h1 h3 ⊢
      rw [this] at h1 ⊢
      simp at h1 h3 ⊢; walk_at "n"
    · have h4' : (x.fmod 7 == 4) = false := by simpa using h4
      rw [h4'] at h3 ⊢
      by_cases hi' : inK [0, 1, 3, 5] (x.fmod 7) = true
      · rw [hi'] at h1 ⊢
        simp at h1 h3 ⊢; walk_at "n"
      · rw [show inK [0, 1, 3, 5] (x.fmod 7) = false by simpa using hi'] at h1 ⊢
        simp at h1 h3 ⊢; walk_at "n"
theorem gains : ∀ (xs : List Int) (t n : Nat) (s : FSt), (fsGo t (deedsGo n xs) s).stays.length ≤ s.stays.length + (xs.map gX).sum
  | [], t, n, s => by simp [fsGo, deedsGo]
  | x :: xs, t, n, s => by
    have := gains xs (t + 1) (n + 1) (fsStep t (deedOf x n) s)
    have := gain t n x s
    simp only [deedsGo, fsGo, List.map_cons, List.sum_cons]; walk_at "n"
theorem gX_le (x : Int) : gX x ≤ 3 := by
  unfold gX
  repeat' split
  all_goals walk_at "n"
theorem gX_sum : ∀ xs : List Int, (xs.map gX).sum ≤ 3 * xs.length
  | [] => by simp
  | x :: xs => by
    have := gX_sum xs
    have := gX_le x
    simp only [List.map_cons, List.sum_cons, List.length_cons]; walk_at "n"
theorem gX_tail : (tail11.map gX).sum = 8 := by decide +kernel

theorem lawOk (ns : List Int) (h : ns.length ≤ 63) : LawOk (deedsOf ns) := by
  have hget : ∀ (t : Nat) (d : Deed), (deedsOf ns)[t]? = some d → ∃ x, d = deedOf x t := fun t d h => by
    obtain ⟨x, e⟩ := deedsGo_get 0 _ t d h
    rw [Nat.zero_add] at e
    exact ⟨x, e⟩
  have hmem : ∀ d ∈ deedsOf ns, ∃ x t, d = deedOf x t := fun d hd => by
    obtain ⟨t, ht, e⟩ := List.getElem_of_mem hd
    obtain ⟨x, e'⟩ := hget t d (by rw [List.getElem?_eq_getElem ht, e])
    exact ⟨x, t, e'⟩
  have OK : ∀ (t : Nat) (d : Deed), (deedsOf ns)[t]? = some d → DOk t d := fun t d h => by
    obtain ⟨x, rfl⟩ := hget t d h
    exact deedOf_ok x t
  have hlen : (deedsOf ns).length = (ns.take 16).length + 11 := by
    unfold deedsOf; rw [deedsGo_length, List.length_append]; rfl
  have h16 : (ns.take 16).length ≤ 16 := by rw [List.length_take]; walk_at "n"
  have hstays : (fsOf (deedsOf ns)).stays.length < 64 := by
    have h1 := gains (ns.take 16 ++ tail11) 0 0 ⟨0, [], []⟩
    have h2 := gX_sum (ns.take 16)
    rw [List.map_append, List.sum_append, gX_tail] at h1
    simp only [List.length_nil] at h1
    show (fsGo 0 (deedsGo 0 (ns.take 16 ++ tail11)) ⟨0, [], []⟩).stays.length < 64
    walk_at "n"
  generalize deedsOf ns = ds at hget hmem OK hlen hstays
  have hfates : fatesOf ds = Phi (2 * ds.length) (fsOf ds) := by
    unfold fatesOf Phi
    rw [psortK_isort SwoS id _ hstays, fold_fg, List.nil_append]
  have hflen : (fatesOf ds).length < 64 := by
    rw [hfates]; unfold Phi; rw [fg_length, isort_length]; exact hstays
  obtain ⟨F, hF⟩ := FI_ok OK ds.length (Nat.le_refl _)
  rw [List.take_length] at F hF
  have hdue : ∀ u d, ds[u]? = some d → dueOf (fatesOf ds) u = (nStep d.kind d.items (nOf ds u)).1 := fun u d hd => by
    rw [hfates]; exact (hF u d (List.getElem?_eq_some_iff.mp hd).1 hd).1
  have hins : ∀ u, u < ds.length → insideOf (fatesOf ds) u = nOf ds (u + 1) := fun u hu => by
    rw [hfates]; exact (hF u _ hu (List.getElem?_eq_getElem hu)).2
  have hsmall' : ∀ t, t ≤ ds.length → (nOf ds t).length < 64 := fun t ht => by
    obtain ⟨Ft, _⟩ := FI_ok OK t ht
    rw [← Ft.now]
    refine Nat.lt_of_le_of_lt (nowOf_length _ _) ?_
    unfold Phi
    rw [fg_length, isort_length]
    have := fsGo_grow (0 + (ds.take t).length) (ds.drop t) (fsGo 0 (ds.take t) ⟨0, [], []⟩)
    rw [← fsGo_append, List.take_append_drop] at this
    exact Nat.lt_of_le_of_lt this hstays
  have hsmall : ∀ t, (nOf ds t).length < 64 := fun t => by
    by_cases ht : t ≤ ds.length
    · exact hsmall' t ht
    · rw [show t = ds.length + (t - ds.length) by walk_at "n", nOf_late]; exact hsmall' _ (Nat.le_refl _)
  have hHR := HR_ok OK
  have hNI := nOf_NI OK
  have hat : insideAt (fatesOf ds) ds.length = nOf ds ds.length := by
    cases e : ds.length with
    | zero => walk_at "n"
    | succ m => rw [show insideAt (fatesOf ds) (m + 1) = insideOf (fatesOf ds) m from rfl, hins m (by walk_at "n")]
  refine ⟨by walk_at "n", fun d hd => ?_, fun d hd => ?_, hstays, hflen, fun t => ?_, fun t d hd => ?_, fun t d hd => ?_, fun t ht => ?_, fun t ht => ?_, fun t k x y hx hy => ?_, fun t d hd _ => ?_, fun i x hx => ?_, ?_⟩
  · obtain ⟨x, t, rfl⟩ := hmem d hd
    have D := deedOf_ok x t
    by_cases h5 : (deedOf x t).kind = 5
    · obtain ⟨a, b, c, e⟩ := D.it5 h5; rw [e]; simp
    · obtain ⟨a, e⟩ := D.it1 h5; rw [e]; simp
  · obtain ⟨x, t, rfl⟩ := hmem d hd
    show -(2 ^ 61) ≤ (x.fdiv 7).fmod 9 - 1 ∧ (x.fdiv 7).fmod 9 - 1 < 2 ^ 61
    have h1 : 0 ≤ (x.fdiv 7).fmod 9 := Int.fmod_nonneg_of_pos _ (by decide)
    have h2 : (x.fdiv 7).fmod 9 < 9 := Int.fmod_lt_of_pos _ (by decide)
    walk_at "n"
  · obtain ⟨h1, h2⟩ := hHR t
    rw [h1.perm.length_eq, h2]
    exact ⟨hsmall t, hsmall t⟩
  · rw [hdue t d hd]; exact (heap_step (OK t d hd) (hHR t).1 (hNI t)).1
  · rw [hdue t d hd, (hHR t).2, row_step (OK t d hd) (hNI t)]
  · rw [hins t ht]; exact (hHR (t + 1)).2
  · rw [hins t ht]
    exact strict_sorted SwoT TotT.tri (hNI (t + 1)).str (hHR (t + 1)).1.perm (by rw [(hHR (t + 1)).1.perm.length_eq]; exact hsmall _)
  · exact (hHR t).1.heap (k + 1) (by walk_at "n") (Nat.zero_le _) x y hx (by rw [show Pa (k + 1) = k / 2 by unfold Pa; simp]; exact hy)
  · have ht := (List.getElem?_eq_some_iff.mp hd).1
    rw [hins t ht]
    exact lawFew_ok (hNI (t + 1)).str (hHR (t + 1)).1.perm (hHR (t + 1)).2 (hsmall _)
  · rw [hat] at hx
    have hp := pops_ok (hHR ds.length).1 (hNI ds.length).str i
    have hs := (hNI ds.length).str.sublist (List.drop_sublist i _)
    rw [(heap_pop hp hs []).1]
    obtain ⟨hi, e⟩ := List.getElem?_eq_some_iff.mp hx
    rw [List.drop_eq_getElem_cons hi, e]; rfl
  · rw [hat]
    have hp := pops_ok (hHR ds.length).1 (hNI ds.length).str (nOf ds ds.length).length
    rw [List.drop_length] at hp
    exact List.length_eq_zero_iff.mp hp.perm.length_eq
end Mine
end

noncomputable section
set_option genSizeOf false
set_option genInjectivity false
set_option Elab.async false
set_option linter.unusedVariables false
set_option maxRecDepth 100000
namespace Mine
open PySem PySem.W PyProof.Rows
def qq : Program := view PySem.Challenge.pw_lg0033_01 [1, 2, 3, 4, 5, 6, 7, 8, 9, 10, 11, 17, 18, 19, 20, 21, 22]
def lo : List Str := [Str.ofString "nsmallest", Str.ofString "insort_right", Str.ofString "bisect_right"]
def hkL : List Addr := nat_lit 3 :: nat_lit 20 :: nat_lit 21 :: nat_lit 27 :: nat_lit 28 :: nat_lit 34 :: nat_lit 35 :: nat_lit 41 :: nat_lit 42 :: nat_lit 48 :: nat_lit 49 :: nat_lit 55 :: nat_lit 56 :: nat_lit 62 :: nat_lit 63 :: nat_lit 69 :: nat_lit 70 :: nat_lit 76 :: nat_lit 77 :: nat_lit 83 :: nat_lit 84 :: nat_lit 90 :: nat_lit 91 :: nat_lit 92 :: nat_lit 96 :: nat_lit 97 :: nat_lit 98 :: nat_lit 99 :: nat_lit 105 :: nat_lit 106 :: nat_lit 107 :: nat_lit 108 :: nat_lit 114 :: nat_lit 115 :: nat_lit 121 :: nat_lit 122 :: nat_lit 126 :: nat_lit 127 :: nat_lit 133 :: nat_lit 134 :: nat_lit 140 :: nat_lit 141 :: nat_lit 147 :: nat_lit 148 :: nat_lit 152 :: nat_lit 153 :: []
theorem hkE : ∀ P, hkL = (K P).map (·.1) := fun _ => by kernel_rfl
def hd_tO (l : List (String × Nat)) : Obj := ⟨.type "tuple", none, .seq ⟨l.map fun p => .str (Str.ofString p.1) p.2⟩ 0, #[]⟩
def hd_nO : Obj := ⟨.none, none, .fields #[], #[]⟩
def hd_pO (i : Nat) : Obj := ⟨.none, none, .func { mkFd i .none .none { rOf i with doc := .none, pyModule := .none, code := .none } with globals := 0 }, #[]⟩
noncomputable def H1 (P : Params) : Heap := ⟨⟨(boot_o_0 P) ::
  (boot_o_1 P) ::
  (boot_o_2 P) ::
  (gO P) ::
  (boot_o_4 P) ::
  (boot_o_5 P) ::
  (boot_o_6 P) ::
  (boot_o_7 P) ::
  (boot_o_8 P) ::
  (boot_o_9 P) ::
  (boot_o_10 P) ::
  (hd_tO []) ::
  (⟨.none, none, .fields ⟨[((2 : Int), (20 : Nat)), ((5 : Int), (27 : Nat)), ((13 : Int), (34 : Nat)), ((18 : Int), (41 : Nat)), ((23 : Int), (48 : Nat)), ((27 : Int), (55 : Nat)), ((32 : Int), (62 : Nat)), ((36 : Int), (69 : Nat)), ((47 : Int), (76 : Nat)), ((61 : Int), (83 : Nat)), ((72 : Int), (90 : Nat)), ((86 : Int), (96 : Nat)), ((132 : Int), (105 : Nat)), ((138 : Int), (114 : Nat)), ((159 : Int), (121 : Nat)), ((168 : Int), (126 : Nat)), ((190 : Int), (133 : Nat)), ((206 : Int), (140 : Nat)), ((216 : Int), (147 : Nat)), ((225 : Int), (152 : Nat))].flatMap fun p => [.int p.1 0, .int 0 0, .ref p.2]⟩, #[]⟩ : Obj) ::
  (⟨.type "code", none, .fields #[.str (Str.ofString "<module>") 182, .str (Str.ofString "<module>") 183, .str (Str.ofString "/claim/cut.py") 184, .int 1 0, .int 0 0, .int 0 0, .int 0 0, .int 0 0, .ref 11, .bool false, .int 181 0, .ref 12, .none, .none, .none, .none, .int 185 0, .int 1 0, .str (Str.ofString "/claim/cut.py") 186], #[]⟩ : Obj) ::
  (⟨.type "frame", none, .plain, #[some (.ref 13), some (.ref 3), some (.ref 3), none, some (.str (Str.ofString "__main__") 164), none, some (.ref 0)]⟩ : Obj) ::
  (hd_tO []) ::
  (hd_nO) ::
  (hd_tO [("heap", 192), ("item", 193)]) ::
  (hd_tO []) ::
  (hd_pO 1) ::
  (cO "heappush" 189 2 2 0 3 15 181 16 17 18 19 194 195) ::
  (fO 1 .none .none) ::
  (hd_tO []) ::
  (hd_nO) ::
  (hd_tO [("heap", 200), ("lastelt", 201), ("returnitem", 202)]) ::
  (hd_tO []) ::
  (hd_pO 2) ::
  (cO "heappop" 197 5 1 0 3 22 181 23 24 25 26 203 204) ::
  (fO 2 .none .none) ::
  (hd_tO []) ::
  (hd_nO) ::
  (hd_tO [("heap", 209), ("item", 210), ("returnitem", 211)]) ::
  (hd_tO []) ::
  (hd_pO 3) ::
  (cO "heapreplace" 206 13 2 0 3 29 181 30 31 32 33 212 213) ::
  (fO 3 .none .none) ::
  (hd_tO []) ::
  (hd_nO) ::
  (hd_tO [("heap", 218), ("item", 219)]) ::
  (hd_tO []) ::
  (hd_pO 4) ::
  (cO "heappushpop" 215 18 2 0 3 36 181 37 38 39 40 220 221) ::
  (fO 4 .none .none) ::
  (hd_tO []) ::
  (hd_nO) ::
  (hd_tO [("x", 226), ("n", 227), ("i", 228)]) ::
  (hd_tO []) ::
  (hd_pO 5) ::
  (cO "heapify" 223 23 1 0 3 43 181 44 45 46 47 229 230) ::
  (fO 5 .none .none) ::
  (hd_tO []) ::
  (hd_nO) ::
  (hd_tO [("heap", 235), ("item", 236), ("returnitem", 237)]) ::
  (hd_tO []) ::
  (hd_pO 6) ::
  (cO "_heapreplace_max" 232 27 2 0 3 50 181 51 52 53 54 238 239) ::
  (fO 6 .none .none) ::
  (hd_tO []) ::
  (hd_nO) ::
  (hd_tO [("x", 244), ("n", 245), ("i", 246)]) ::
  (hd_tO []) ::
  (hd_pO 7) ::
  (cO "_heapify_max" 241 32 1 0 3 57 181 58 59 60 61 247 248) ::
  (fO 7 .none .none) ::
  (hd_tO []) ::
  (hd_nO) ::
  (hd_tO [("heap", 253), ("startpos", 254), ("pos", 255), ("newitem", 256), ("parentpos", 257), ("parent", 258)]) ::
  (hd_tO []) ::
  (hd_pO 8) ::
  (cO "_siftdown" 250 36 3 0 3 64 181 65 66 67 68 259 260) ::
  (fO 8 .none .none) ::
  (hd_tO []) ::
  (hd_nO) ::
  (hd_tO [("heap", 265), ("pos", 266), ("endpos", 267), ("startpos", 268), ("newitem", 269), ("childpos", 270), ("rightpos", 271)]) ::
  (hd_tO []) ::
  (hd_pO 9) ::
  (cO "_siftup" 262 47 2 0 3 71 181 72 73 74 75 272 273) ::
  (fO 9 .none .none) ::
  (hd_tO []) ::
  (hd_nO) ::
  (hd_tO [("heap", 278), ("startpos", 279), ("pos", 280), ("newitem", 281), ("parentpos", 282), ("parent", 283)]) ::
  (hd_tO []) ::
  (hd_pO 10) ::
  (cO "_siftdown_max" 275 61 3 0 3 78 181 79 80 81 82 284 285) ::
  (fO 10 .none .none) ::
  (hd_tO []) ::
  (hd_nO) ::
  (hd_tO [("heap", 290), ("pos", 291), ("endpos", 292), ("startpos", 293), ("newitem", 294), ("childpos", 295), ("rightpos", 296)]) ::
  (hd_tO []) ::
  (hd_pO 11) ::
  (cO "_siftup_max" 287 72 2 0 3 85 181 86 87 88 89 297 298) ::
  (fO 11 .none .none) ::
  (⟨.type "tuple", none, .seq #[.none] 0, #[]⟩ : Obj) ::
  (hd_tO []) ::
  (hd_nO) ::
  (hd_pO 12) ::
  (cO "nsmallest" 300 86 3 0 3 93 181 94 0 0 95 303 304) ::
  (fO 12 (.ref 92) .none) ::
  (⟨.type "tuple", none, .seq #[.int 0 308, .none] 0, #[]⟩ : Obj) ::
  (⟨.type "dict", none, .dict #[eO P "key" 309 .none] 1, #[]⟩ : Obj) ::
  (hd_tO []) ::
  (hd_nO) ::
  (hd_tO [("a", 313), ("x", 314), ("lo", 315), ("hi", 316), ("key", 317)]) ::
  (hd_tO []) ::
  (hd_pO 14) ::
  (cO "insort_right" 310 132 4 1 3 100 181 101 102 103 104 318 319) ::
  (fO 14 (.ref 98) (.ref 99)) ::
  (⟨.type "tuple", none, .seq #[.int 0 321, .none] 0, #[]⟩ : Obj) ::
  (⟨.type "dict", none, .dict #[eO P "key" 322 .none] 1, #[]⟩ : Obj) ::
  (hd_tO []) ::
  (hd_nO) ::
  (hd_tO [("a", 326), ("x", 327), ("lo", 328), ("hi", 329), ("key", 330), ("mid", 331)]) ::
  (hd_tO []) ::
  (hd_pO 15) ::
  (cO "bisect_right" 323 138 4 1 3 109 181 110 111 112 113 332 333) ::
  (fO 15 (.ref 107) (.ref 108)) ::
  (hd_tO []) ::
  (hd_nO) ::
  (hd_tO [("script", 340), ("deeds", 341), ("x", 342), ("y", 343), ("rank", 344), ("ticket", 345), ("items", 346)]) ::
  (hd_tO []) ::
  (hd_pO 17) ::
  (cO "_law_deeds" 337 159 1 0 3 116 181 117 118 119 120 347 348) ::
  (fO 17 .none .none) ::
  (hd_tO []) ::
  (hd_nO) ::
  (hd_pO 18) ::
  (cO "_law_fates" 350 168 1 0 3 123 181 124 0 0 125 353 354) ::
  (fO 18 .none .none) ::
  (hd_tO []) ::
  (hd_nO) ::
  (hd_tO [("heap", 359), ("kind", 360), ("items", 361)]) ::
  (hd_tO []) ::
  (hd_pO 19) ::
  (cO "_law_heap" 356 190 3 0 3 128 181 129 130 131 132 362 363) ::
  (fO 19 .none .none) ::
  (hd_tO []) ::
  (hd_nO) ::
  (hd_tO [("row", 368), ("kind", 369), ("items", 370), ("gone", 371), ("item", 372)]) ::
  (hd_tO []) ::
  (hd_pO 20) ::
  (cO "_law_row" 365 206 3 0 3 135 181 136 137 138 139 373 374) ::
  (fO 20 .none .none) ::
  (hd_tO []) ::
  (hd_nO) ::
  (hd_tO [("heap", 379), ("row", 380), ("inside", 381), ("wish", 382), ("few", 383), ("ranked", 384), ("turned", 385)]) ::
  (hd_tO []) ::
  (hd_pO 21) ::
  (cO "_law_few" 376 216 4 0 3 142 181 143 144 145 146 386 387) ::
  (fO 21 .none .none) ::
  (hd_tO []) ::
  (hd_nO) ::
  (hd_pO 22) ::
  (cO "law" 389 225 1 0 3 149 181 150 0 0 151 392 393) ::
  (fO 22 .none .none) :: []⟩, (boot_heap P).life⟩
theorem plainly : opening PySem.Challenge.pw_lg0033_01 = plainProg PySem.Challenge.pw_lg0033_01.main.scope.names := by kernel_rfl
theorem fenced (s : Shared) : fenceModules? PySem.Challenge.pw_lg0033_01 s = some s := by kernel_rfl
abbrev Xt1 : Shared → Bool := fun s => xlAt qq [] s && recOk (RowW.records PySem.Challenge.rw_lg0033_01.row.toRowW) s
noncomputable abbrev sE (w : World) (os : OsState) : Shared := ⟨H1 w.params, ⟨[]⟩, boot_drawn, 395, os⟩
theorem hd_size (w : World) : ((boot_heap w.params).isNs mainGlobals && (Array.mk ([] : List GenState)).size == 0, (boot_heap w.params).objs.size, (boot_heap w.params).nsMap mainGlobals "__annotations__") = (true, 11, some (.ref 6)) := by kernel_rfl
theorem hd_run (w : World) (os : OsState) : topRun treeTable PySem.Challenge.pw_lg0033_01 w 11 (some (.ref 6)) 1474 ⟨boot_heap w.params, ⟨[]⟩, boot_drawn, boot_toks, os⟩ (topStub PySem.Challenge.pw_lg0033_01) = some (sE w os) := by kernel_rfl
theorem hd_k1 (w : World) (os : OsState) : staticsOk (importedModules PySem.Challenge.pw_lg0033_01.main.body) (boot_heap w.params) (H1 w.params) = true := by kernel_rfl
theorem hd_k2 (w : World) (os : OsState) : namesBound PySem.Challenge.pw_lg0033_01 (H1 w.params) = true := by kernel_rfl
theorem hd_k3 (w : World) (os : OsState) : gensDone (sE w os) = true := by kernel_rfl
theorem hd_k4 (w : World) (os : OsState) : laidKept (boot_heap w.params) (H1 w.params) = true := by kernel_rfl
theorem hd_m1 (w : World) (os : OsState) : (openSeen qq lo (importedModules PySem.Challenge.pw_lg0033_01.main.body) Xt1 true (sE w os)).1 = (openGood qq lo).1 := by kernel_rfl
theorem hd_m2 (w : World) (os : OsState) : (openSeen qq lo (importedModules PySem.Challenge.pw_lg0033_01.main.body) Xt1 true (sE w os)).2.1 = (openGood qq lo).2.1 := by kernel_rfl
theorem hd_m3 (w : World) (os : OsState) : (openSeen qq lo (importedModules PySem.Challenge.pw_lg0033_01.main.body) Xt1 true (sE w os)).2.2.1 = (openGood qq lo).2.2.1 := by kernel_rfl
theorem hd_m4 (w : World) (os : OsState) : (openSeen qq lo (importedModules PySem.Challenge.pw_lg0033_01.main.body) Xt1 true (sE w os)).2.2.2.1 = (openGood qq lo).2.2.2.1 := by kernel_rfl
theorem hd_m5 (w : World) (os : OsState) : (openSeen qq lo (importedModules PySem.Challenge.pw_lg0033_01.main.body) Xt1 true (sE w os)).2.2.2.2 = (openGood qq lo).2.2.2.2 := by kernel_rfl
theorem hd_m6 (w : World) (os : OsState) : (kmHook Mine.K Mine.hkL Mine.hkE [143, 136]).obs (sE w os) = (kmHook Mine.K Mine.hkL Mine.hkE [143, 136]).val w := by kernel_rfl
theorem hd_mm (w : World) (os : OsState) : openSeen qq lo (importedModules PySem.Challenge.pw_lg0033_01.main.body) Xt1 true (sE w os) = openGood qq lo := Prod.ext (hd_m1 w os) (Prod.ext (hd_m2 w os) (Prod.ext (hd_m3 w os) (Prod.ext (hd_m4 w os) (hd_m5 w os))))
theorem left_of {p q : Program} {loose : List Str} {Xt : Shared → Bool} {α : Type} {Yf : Shared → α} {Ya : World → α} {N : Nat} {H₀ H₁ : Params → Heap} {gs₀ gs₁ : Array GenState} {d₀ d₁ : Drawn} {k₀ k₁ m₀ : Nat} {ann : Option Value}
    (op : ∀ w : World, (fencedOpening treeTable p w N).map (fun s => (s.heap, s.gens, s.drawn, s.toks)) = some (H₀ w.params, gs₀, d₀, k₀))
    (size : ∀ w : World, ((H₀ w.params).isNs mainGlobals && gs₀.size == 0, (H₀ w.params).objs.size, (H₀ w.params).nsMap mainGlobals "__annotations__") = (true, m₀, ann))
    (run : ∀ (w : World) (os : OsState), topRun treeTable p w m₀ ann N ⟨H₀ w.params, gs₀, d₀, k₀, os⟩ (topStub p) = some ⟨H₁ w.params, gs₁, d₁, k₁, os⟩)
    (a : ∀ (w : World) (os : OsState), staticsOk (importedModules p.main.body) (H₀ w.params) (H₁ w.params) = true) (b : ∀ (w : World) (os : OsState), namesBound p (H₁ w.params) = true) (c : ∀ (w : World) (os : OsState), gensDone ⟨H₁ w.params, gs₁, d₁, k₁, os⟩ = true)
    (d : ∀ (w : World) (os : OsState), laidKept (H₀ w.params) (H₁ w.params) = true) (m : ∀ (w : World) (os : OsState), openSeen q loose (importedModules p.main.body) Xt true ⟨H₁ w.params, gs₁, d₁, k₁, os⟩ = openGood q loose)
    (y : ∀ (w : World) (os : OsState), Yf ⟨H₁ w.params, gs₁, d₁, k₁, os⟩ = Ya w) : LeftO p q loose Xt Yf Ya N :=
  .of_pieces op size run (Nat.ble_self_eq_true N) fun w => funext fun os => looks_pair (look_both (look_both (look_both (a w os) (b w os)) (c w os)) (d w os)) (looks_pair (m w os) (y w os))
theorem left : LeftO PySem.Challenge.rw_lg0033_01.row.prog qq lo (fun s => xlAt qq [] s && recOk (RowW.records PySem.Challenge.rw_lg0033_01.row.toRowW) s) (kmHook Mine.K Mine.hkL Mine.hkE [143, 136]).obs (kmHook Mine.K Mine.hkL Mine.hkE [143, 136]).val 1474 := left_of (boot_open plainly rfl fenced) hd_size hd_run hd_k1 hd_k2 hd_k3 hd_k4 hd_mm hd_m6
abbrev lL : OpenLaw := PySem.Challenge.rw_lg0033_01
abbrev pL : Program := lL.row.prog
theorem hd_lk3 : namesResolve pL = true := by kernel_rfl
theorem hd_lk6 : (namesMeet pL pL.main.body fun _ n => attrL n) = true := by kernel_rfl
theorem hd_lk7 : looksOpen pL = true := by
  unfold looksOpen
  repeat' with_reducible refine look_both ?_ ?_
  · kernel_rfl
  · kernel_rfl
  · exact hd_lk3
  · kernel_rfl
  · kernel_rfl
  · exact hd_lk6
theorem hd_lk24 : lL.row.wellSaid = true := by
  unfold OpenRow.wellSaid OpenRow.partSaid
  repeat' with_reducible refine look_both ?_ ?_
  · exact hd_lk7
  all_goals kernel_rfl
theorem look : lL.wellSaid = true := by
  unfold OpenLaw.wellSaid
  repeat' with_reducible refine look_both ?_ ?_
  · exact hd_lk24
  all_goals kernel_rfl
end Mine
end

noncomputable section
set_option genSizeOf false
set_option genInjectivity false
set_option Elab.async false
set_option linter.unusedVariables false
open PySem PySem.W PyProof.Rows
set_option maxRecDepth 100000 in
set_option maxHeartbeats 8000000 in
theorem PySem.Challenge.cw_lg0033_01_holds : PySem.Challenge.rw_lg0033_01.Holds := by
  w_on
  refine holds_law Mine.look fun said => ?_
  refine holds_open (q := Mine.qq) (loose := Mine.lo) (XP := XL Mine.qq []) (YP := (kmHook Mine.K Mine.hkL Mine.hkE [143, 136]).says) (N := 1474) Mine.left (Hook.of (kmHook Mine.K Mine.hkL Mine.hkE [143, 136])) (Hook.keeps (kmHook Mine.K Mine.hkL Mine.hkE [143, 136])) (fun s e => xl_of s (Bool.and_eq_true_iff.mp e).1) XL.keeps (by rfl) (by rfl) (by rfl) (fun s e => recFacts_of (Bool.and_eq_true_iff.mp e).2) (by rfl) (by first | assumption | decide +kernel) (by decide +kernel) ⟨rfl, rfl, rfl, rfl, rfl, by decide +kernel⟩ ?hw ?hc
  (case hw => w_witness2)
  k_go0
  rename Frag.In _ _ => X'
  rename Top topProg _ _ _ _ _ => T'
  rename Fr _ _ _ _ => F'
  rename News _ _ _ _ => N'
  rename IntsAre _ _ => hI
  rename _ ∧ _ => l0
  have h63 := IntsAre.length hI
  refine wpAny_mono (Mine.law_run X' T' F' (hideAll_size _ _) (by rfl) (N' _ (.tail _ (.head _))).1 (by assumption) (N' _ (.head _)).1 (by assumption) (N' _ (.tail _ (.tail _ (.head _)))).1 (N' _ (.tail _ (.tail _ (.tail _ (.head _))))).1 (N' _ (.tail _ (.tail _ (.head _)))).2.2 (N' _ (.tail _ (.tail _ (.tail _ (.head _))))).2.2 l0.1 l0.2 (by assumption) (by assumption) (by assumption) hI (by omega) (Mine.lawOk _ (by omega))) ?_ (fun _ _ x => x.elim)
  rintro f s' ⟨rfl, hk, hg, ho, hgr⟩
  refine ⟨⟨.inl ⟨.bool true, .bool true, [], rfl, fun _ => rfl, .bool true, ?_, fun _ => ⟨.nil, fun _ ha => nomatch ha⟩⟩, hk, ho, hg.trans (by assumption)⟩, hgr⟩
  first | wrow_post | kc_post
end
