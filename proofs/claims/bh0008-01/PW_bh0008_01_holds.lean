import PyProof.Rows.All
import Wide.All
import OpenK.AllK
import Wide.FinOn
import Lean
import PySem.Challenge.RW_bh0008_01
open PySem PySem.W PyProof.Rows
set_option Elab.async false
set_option linter.unusedVariables false
set_option maxRecDepth 100000
namespace Mine
set_option maxHeartbeats 8000000 in
open_top hd for PySem.Challenge.rw_bh0008_01
end Mine
namespace Mine

/-- what is fixed through the whole call -/
structure Wd where
  prog : Program
  w : World
  K : Frag
  mg : Str → Option Value
  mb : Str → Option Value
  av : List Addr
abbrev Wd.M (W : Wd) : Model := model W.prog W.w

structure Gs (W : Wd) (h : Heap) : Prop where
  k : W.K.In h
  g : h.Ns mainGlobals W.mg
  b : h.Ns builtinsNs W.mb
  bb : ∀ x : Str, x ≠ "__name__" → W.mb x = bootBuiltins x
  lim : h.NoLimit
  ko : ∀ a o, W.K.lookup a = some o → a ∉ W.av
structure Gd (W : Wd) (h : Heap) : Prop extends Gs W h where
  av : ∀ a ∈ W.av, ∃ o, h.get? a = some o

abbrev Kp (h h' : Heap) : Prop := ∀ b o, h.get? b = some o → h'.get? b = some o
theorem Gs.keeps {W : Wd} {h h' : Heap} (x : Gs W h) (k : Kp h h') : Gs W h' := ⟨x.k.keeps k, x.g.keeps k, x.b.keeps k, x.bb, x.lim.keeps k, x.ko⟩
theorem Gd.keeps {W : Wd} {h h' : Heap} (x : Gd W h) (k : Kp h h') : Gd W h' := ⟨x.toGs.keeps k, fun a m => let ⟨o, e⟩ := x.av a m; ⟨o, k _ _ e⟩⟩
theorem Gd.off {W : Wd} {h : Heap} (x : Gd W h) {a : Addr} (e : h.objs.size ≤ a) : a ∉ W.av := fun m => let ⟨_, q⟩ := x.av a m; Nat.lt_irrefl _ (Nat.lt_of_lt_of_le (Heap.lt_size q) e)

mutual
inductive Val (av : List Addr) (h : Heap) : Value → PyData → Prop
  | none : Val av h .none .none
  | bool (b : Bool) : Val av h (.bool b) (.bool b)
  | int (i : Int) (t : Tok) : Val av h (.int i t) (.int i)
  | list {a : Addr} {vs : List Value} {ds : List PyData} : a ∉ av → h.IsList a vs.toArray → Vals av h vs ds → Val av h (.ref a) (.list ds)
  | tuple {a : Addr} {vs : List Value} {ds : List PyData} : a ∉ av → h.IsTuple a vs.toArray → Vals av h vs ds → Val av h (.ref a) (.tuple ds)
inductive Vals (av : List Addr) (h : Heap) : List Value → List PyData → Prop
  | nil : Vals av h [] []
  | cons {v : Value} {d : PyData} {vs : List Value} {ds : List PyData} : Val av h v d → Vals av h vs ds → Vals av h (v :: vs) (d :: ds)
end

/-- a step that leaves sequences alone, but those that are shut out -/
abbrev KpSeq (av av' : List Addr) (h h' : Heap) : Prop := ∀ b o items n, b ∉ av → h.get? b = some o → o.data = .seq items n → h'.get? b = some o ∧ b ∉ av'
mutual
theorem Val.seq {av av' : List Addr} {h h' : Heap} (k : KpSeq av av' h h') : ∀ {v : Value} {d : PyData}, Val av h v d → Val av' h' v d
  | _, _, .none => .none
  | _, _, .bool b => .bool b
  | _, _, .int i t => .int i t
  | _, _, .list a ⟨o, ho, hc, n, hd⟩ r => .list (k _ _ _ _ a ho hd).2 ⟨o, (k _ _ _ _ a ho hd).1, hc, n, hd⟩ (Vals.seq k r)
  | _, _, .tuple a ⟨o, ho, hc, n, hd⟩ r => .tuple (k _ _ _ _ a ho hd).2 ⟨o, (k _ _ _ _ a ho hd).1, hc, n, hd⟩ (Vals.seq k r)
theorem Vals.seq {av av' : List Addr} {h h' : Heap} (k : KpSeq av av' h h') : ∀ {vs : List Value} {ds : List PyData}, Vals av h vs ds → Vals av' h' vs ds
  | _, _, .nil => .nil
  | _, _, .cons x r => .cons (Val.seq k x) (Vals.seq k r)
end
section
variable {av : List Addr} {h h' : Heap}
theorem Val.keeps (k : Kp h h') {v : Value} {d : PyData} (x : Val av h v d) : Val av h' v d := x.seq fun b o _ _ m e _ => ⟨k b o e, m⟩
theorem Vals.keeps (k : Kp h h') {v : List Value} {d : List PyData} (x : Vals av h v d) : Vals av h' v d := x.seq fun b o _ _ m e _ => ⟨k b o e, m⟩
theorem kpSeq_ns {L : Addr} {m : Str → Option Value} (n : h.Ns L m) (s : Heap.SameBut L h h') : KpSeq av av h h' := fun b o items k hm e hd => by
  refine ⟨s.extBut b o (fun q => ?_) e, hm⟩
  obtain ⟨o', es, ep, ho, hd', _⟩ := n
  rw [q, ho] at e; cases e; rw [hd] at hd'; cases hd'
theorem kpSeq_cell {c : Addr} {v : Option Value} (n : h.IsCell c v) (s : Heap.SameBut c h h') : KpSeq av av h h' := fun b o items k hm e hd => by
  refine ⟨s.extBut b o (fun q => ?_) e, hm⟩
  obtain ⟨o', ho, hd'⟩ := n
  rw [q, ho] at e; cases e; rw [hd] at hd'; cases hd'
end
section
variable {av : List Addr} {h : Heap}
theorem Vals.length : ∀ {vs : List Value} {ds : List PyData}, Vals av h vs ds → vs.length = ds.length
  | _, _, .nil => rfl
  | _, _, .cons _ r => by rw [List.length_cons, List.length_cons, r.length]
theorem Vals.get : ∀ {vs : List Value} {ds : List PyData} (k : Nat) {d : PyData}, Vals av h vs ds → ds[k]? = some d → ∃ v, vs[k]? = some v ∧ Val av h v d
  | _, _, _, _, .nil, e => by simp at e
  | _, _, 0, _, .cons x _, e => by simp at e; subst e; exact ⟨_, rfl, x⟩
  | _, _, k + 1, _, .cons _ r, e => by
    have := Vals.get k r (by simpa using e)
    simpa using this
theorem Vals.of_get : ∀ {vs : List Value} {ds : List PyData} (k : Nat) {v : Value}, Vals av h vs ds → vs[k]? = some v → ∃ d, ds[k]? = some d ∧ Val av h v d
  | _, _, _, _, .nil, e => by simp at e
  | _, _, 0, _, .cons x _, e => by simp at e; subst e; exact ⟨_, rfl, x⟩
  | _, _, k + 1, _, .cons _ r, e => by
    have := Vals.of_get k r (by simpa using e)
    simpa using this
theorem Vals.append : ∀ {vs ws : List Value} {ds es : List PyData}, Vals av h vs ds → Vals av h ws es → Vals av h (vs ++ ws) (ds ++ es)
  | _, _, _, _, .nil, y => y
  | _, _, _, _, .cons x r, y => .cons x (r.append y)
theorem Vals.take : ∀ {vs : List Value} {ds : List PyData} (k : Nat), Vals av h vs ds → Vals av h (vs.take k) (ds.take k)
  | _, _, 0, _ => by simpa using Vals.nil
  | _, _, _ + 1, .nil => .nil
  | _, _, k + 1, .cons x r => .cons x (r.take k)
theorem Vals.drop : ∀ {vs : List Value} {ds : List PyData} (k : Nat), Vals av h vs ds → Vals av h (vs.drop k) (ds.drop k)
  | _, _, 0, x => x
  | _, _, _ + 1, .nil => .nil
  | _, _, k + 1, .cons _ r => r.drop k
theorem Vals.snoc {vs : List Value} {ds : List PyData} {v : Value} {d : PyData} (x : Vals av h vs ds) (y : Val av h v d) : Vals av h (vs ++ [v]) (ds ++ [d]) := x.append (.cons y .nil)
end
mutual
theorem Val.reads {av : List Addr} {h : Heap} : ∀ {v : Value} {d : PyData}, Val av h v d → ∃ as, Reads h v d as
  | _, _, .none => ⟨_, .none⟩
  | _, _, .bool b => ⟨_, .bool b⟩
  | _, _, .int i t => ⟨_, .int i t⟩
  | _, _, .list _ ⟨o, ho, hc, n, hd⟩ r => let ⟨as, q⟩ := Vals.reads r; ⟨_, .list ho hc hd (by simpa using q)⟩
  | _, _, .tuple _ ⟨o, ho, hc, n, hd⟩ r => let ⟨as, q⟩ := Vals.reads r; ⟨_, .tuple ho hc hd (by simpa using q)⟩
theorem Vals.reads {av : List Addr} {h : Heap} : ∀ {vs : List Value} {ds : List PyData}, Vals av h vs ds → ∃ as, ReadsAll h vs ds as
  | _, _, .nil => ⟨_, .nil⟩
  | _, _, .cons x r => let ⟨_, p⟩ := Val.reads x; let ⟨_, q⟩ := Vals.reads r; ⟨_, .cons p q⟩
end

/-- names and their data -/
abbrev Rho := List (Str × PyData)

structure St (W : Wd) (hb : Heap) (env : Env) (ρ : Rho) (h : Heap) : Prop where
  gd : Gs W hb
  av : ∀ a ∈ W.av, ∃ o, h.get? a = some o
  keep : Kp hb h
  kind : env.scope.kind = .function
  glo : env.globals = mainGlobals
  bui : env.builtins = builtinsNs
  lnew : hb.get? env.locals = none
  cnew : ∀ x c, env.cells.lookup x = some c → hb.get? c = none
  cinj : ∀ x y c, env.cells.lookup x = some c → env.cells.lookup y = some c → x = y
  call : ∀ x c, env.cells.lookup x = some c → ∃ v, h.IsCell c v
  loc : ∃ m, h.Ns env.locals m ∧ ∀ p ∈ ρ, env.kindOf p.1 = some .local → ∃ v, m p.1 = some v ∧ Val W.av h v p.2
  cel : ∀ p ∈ ρ, env.kindOf p.1 = some .cell ∨ env.kindOf p.1 = some .free → ∃ c v, env.cells.lookup p.1 = some c ∧ h.IsCell c (some v) ∧ Val W.av h v p.2

theorem St.good {W : Wd} {hb : Heap} {env : Env} {ρ : Rho} {h : Heap} (x : St W hb env ρ h) : Gd W h := ⟨x.gd.keeps x.keep, x.av⟩
theorem St.keeps {W : Wd} {hb : Heap} {env : Env} {ρ : Rho} {h h' : Heap} (x : St W hb env ρ h) (k : Kp h h') : St W hb env ρ h' where
  gd := x.gd
  av := fun a m => let ⟨o, e⟩ := x.av a m; ⟨o, k _ _ e⟩
  keep := fun b o e => k _ _ (x.keep b o e)
  kind := x.kind
  glo := x.glo
  bui := x.bui
  lnew := x.lnew
  cnew := x.cnew
  cinj := x.cinj
  call := fun n c e => let ⟨v, q⟩ := x.call n c e; ⟨v, q.keeps k⟩
  loc := let ⟨m, n, q⟩ := x.loc; ⟨m, n.keeps k, fun p hp e => let ⟨v, a, b⟩ := q p hp e; ⟨v, a, b.keeps k⟩⟩
  cel := fun p hp e => let ⟨c, v, a, b, d⟩ := x.cel p hp e; ⟨c, v, a, b.keeps k, d.keeps k⟩
theorem St.forget {W : Wd} {hb : Heap} {env : Env} {ρ ρ' : Rho} {h : Heap} (x : St W hb env ρ h) (s : ∀ p ∈ ρ', p ∈ ρ) : St W hb env ρ' h :=
  { x with
    loc := let ⟨m, n, q⟩ := x.loc; ⟨m, n, fun p hp e => q p (s p hp) e⟩
    cel := fun p hp e => x.cel p (s p hp) e }

/-- one name stored -/
def Set (ρ : Rho) (n : Str) (d : PyData) (ρ' : Rho) : Prop := ∀ p ∈ ρ', p = (n, d) ∨ (p ∈ ρ ∧ p.1 ≠ n)

theorem St.storeL {W : Wd} {hb : Heap} {env : Env} {ρ ρ' : Rho} {h h' : Heap} {n : Str} {v : Value} {d : PyData} (x : St W hb env ρ h) {m : Str → Option Value} (hm : h.Ns env.locals m)
    (hn : h'.Ns env.locals (fun y => if y = n then some v else m y)) (hs : Heap.SameBut env.locals h h') (hv : Val W.av h v d) (hk : env.kindOf n = some .local) (hρ : Set ρ n d ρ') : St W hb env ρ' h' := by
  have ks := kpSeq_ns (av := W.av) hm hs
  have kc : ∀ c v, h.IsCell c v → h'.IsCell c v := fun c v hc => by
    refine hc.sameBut hs fun q => ?_
    obtain ⟨o, ho, hd⟩ := hc
    obtain ⟨o', es, ep, ho', hd', _⟩ := hm
    rw [q, ho'] at ho; cases ho; rw [hd] at hd'; cases hd'
  refine { x with av := fun a m => ?_, keep := fun b o e => ?_, call := fun n c e => ?_, loc := ?_, cel := fun p hp e => ?_ }
  · obtain ⟨o, e⟩ := x.av a m
    by_cases q : a = env.locals
    · obtain ⟨o', _, _, e', _⟩ := hn; exact ⟨o', q ▸ e'⟩
    · exact ⟨o, hs.extBut a o q e⟩
  · refine hs.extBut b o (fun q => ?_) (x.keep b o e)
    rw [q, x.lnew] at e; cases e
  · obtain ⟨v, q⟩ := x.call n c e
    exact ⟨v, kc _ _ q⟩
  · refine ⟨_, hn, fun p hp e => ?_⟩
    rcases hρ p hp with rfl | ⟨hq, hne⟩
    · exact ⟨v, by simp, hv.seq ks⟩
    · obtain ⟨m', n', q⟩ := x.loc
      obtain ⟨u, a, b⟩ := q p hq e
      have : m' = m := by
        obtain ⟨o, es, ep, ho, hd, _, hf⟩ := n'
        obtain ⟨o', es', ep', ho', hd', _, hf'⟩ := hm
        rw [ho] at ho'; cases ho'; rw [hd] at hd'; cases hd'
        funext y; rw [← hf, ← hf']
      subst this
      exact ⟨u, by simp [hne, a], b.seq ks⟩
  · rcases hρ p hp with rfl | ⟨hq, hne⟩
    · rcases e with e | e <;> (rw [hk] at e; cases e)
    · obtain ⟨c, u, a, b, q⟩ := x.cel p hq e
      exact ⟨c, u, a, kc _ _ b, q.seq ks⟩
theorem St.storeC {W : Wd} {hb : Heap} {env : Env} {ρ ρ' : Rho} {h h' : Heap} {n : Str} {v : Value} {d : PyData} (x : St W hb env ρ h) {c : Addr} {v₀ : Option Value} (hc : env.cells.lookup n = some c) (hm : h.IsCell c v₀)
    (hn : h'.IsCell c (some v)) (hs : Heap.SameBut c h h') (hv : Val W.av h v d) (hk : env.kindOf n = some .cell) (hρ : Set ρ n d ρ') : St W hb env ρ' h' := by
  have ks := kpSeq_cell (av := W.av) hm hs
  have kl : ∀ L m, h.Ns L m → h'.Ns L m := fun L m hl => by
    refine hl.sameBut hs fun q => ?_
    obtain ⟨o, ho, hd⟩ := hm
    obtain ⟨o', es, ep, ho', hd', _⟩ := hl
    rw [q, ho] at ho'; cases ho'; rw [hd] at hd'; cases hd'
  have co : ∀ c' u, c' ≠ c → h.IsCell c' u → h'.IsCell c' u := fun c' u hne hu => hu.sameBut hs hne
  refine { x with av := fun a m => ?_, keep := fun b o e => ?_, call := fun y c' e => ?_, loc := ?_, cel := fun p hp e => ?_ }
  · obtain ⟨o, e⟩ := x.av a m
    by_cases q : a = c
    · obtain ⟨o', e', _⟩ := hn; exact ⟨o', q ▸ e'⟩
    · exact ⟨o, hs.extBut a o q e⟩
  · refine hs.extBut b o (fun q => ?_) (x.keep b o e)
    rw [q, x.cnew _ _ hc] at e; cases e
  · obtain ⟨u, q⟩ := x.call y c' e
    by_cases hq : c' = c
    · subst hq; exact ⟨_, hn⟩
    · exact ⟨u, co _ _ hq q⟩
  · obtain ⟨m, n', q⟩ := x.loc
    refine ⟨m, kl _ _ n', fun p hp e => ?_⟩
    rcases hρ p hp with rfl | ⟨hq, _⟩
    · rw [hk] at e; cases e
    · obtain ⟨u, a, b⟩ := q p hq e
      exact ⟨u, a, b.seq ks⟩
  · rcases hρ p hp with rfl | ⟨hq, hne⟩
    · exact ⟨c, v, hc, hn, hv.seq ks⟩
    · obtain ⟨c', u, a, b, q⟩ := x.cel p hq e
      have : c' ≠ c := fun z => hne (x.cinj _ _ _ (z ▸ a) hc)
      exact ⟨c', u, a, co _ _ this b, q.seq ks⟩

/-- only new objects -/
structure Ks (s s' : Shared) : Prop where
  ex : ∃ h' tk, s' = { s with heap := h', toks := tk } ∧ Kp s.heap h'
abbrev Post (W : Wd) (s : Shared) (d : PyData) : Value → Shared → Prop := fun v s' => Ks s s' ∧ Val W.av s'.heap v d
abbrev NoE : Value → Shared → Prop := fun _ _ => False
theorem Ks.refl (s : Shared) : Ks s s := ⟨⟨s.heap, s.toks, rfl, fun _ _ e => e⟩⟩
theorem Ks.trans {s₁ s₂ s₃ : Shared} (x : Ks s₁ s₂) (y : Ks s₂ s₃) : Ks s₁ s₃ := by
  obtain ⟨h, t, rfl, k⟩ := x
  obtain ⟨h', t', rfl, k'⟩ := y
  exact ⟨⟨h', t', rfl, fun b o e => k' _ _ (k _ _ e)⟩⟩
theorem Ks.kp {s s' : Shared} (x : Ks s s') : Kp s.heap s'.heap := by obtain ⟨h, t, rfl, k⟩ := x; exact k
theorem Ks.toks (s : Shared) (n : Nat) : Ks s { s with toks := n } := ⟨⟨s.heap, n, rfl, fun _ _ e => e⟩⟩
theorem Ks.of {s : Shared} {h : Heap} {n : Nat} (k : Kp s.heap h) : Ks s { s with heap := h, toks := n } := ⟨⟨h, n, rfl, k⟩⟩

/-- room for calls -/
structure Rm (n : Nat) (A : Around) : Prop where
  hd : A.handled = none
  dp : A.depth + n < recursionLimit
  un : A.units + 8 * n + 200 < cLine
theorem Rm.le {n m : Nat} {A : Around} (x : Rm n A) (h : m ≤ n) : Rm m A := ⟨x.hd, by have := x.dp; omega, by have := x.un; omega⟩
theorem Rm.deeper {n : Nat} {A : Around} {env : Env} (x : Rm (n + 1) A) : Rm n (A.deeper env) := ⟨x.hd, by have := x.dp; show A.depth + 1 + n < _; omega, by have := x.un; show A.units + 3 + 8 * n + 200 < _; omega⟩

/-- e's value reads d -/
def EV (W : Wd) (hb : Heap) (A : Around) (env : Env) (ρ : Rho) (e : PySem.Expr) (d : PyData) : Prop :=
  ∀ s, St W hb env ρ s.heap → wpAny W.M A (eval e env) (Post W s d) NoE s
/-- e's test is b -/
def ET (W : Wd) (hb : Heap) (A : Around) (env : Env) (ρ : Rho) (e : PySem.Expr) (b : Bool) : Prop :=
  ∀ s, St W hb env ρ s.heap → wpAny W.M A (isTrue e env (eval e env)) (fun c s' => c = b ∧ Ks s s') NoE s
/-- the values of some expressions -/
def EVs (W : Wd) (hb : Heap) (A : Around) (env : Env) (ρ : Rho) (es : List PySem.Expr) (ds : List PyData) : Prop :=
  ∀ s pos, St W hb env ρ s.heap → wpAny W.M A (spliced (backTo pos (starEach es env))) (fun vs s' => Ks s s' ∧ Vals W.av s'.heap vs ds) NoE s
/-- a call's value -/
def CV (W : Wd) (n : Nat) (f : Value) (ds : List PyData) (d : PyData) : Prop :=
  ∀ A s vs, Rm n A → Gd W s.heap → Vals W.av s.heap vs ds → wpAny W.M A (PySem.call f vs) (Post W s d) NoE s
/-- two values and an operation -/
def OpV (W : Wd) (A : Around) (op : Operator) (d₁ d₂ d : PyData) : Prop :=
  ∀ s v₁ v₂, Gd W s.heap → Val W.av s.heap v₁ d₁ → Val W.av s.heap v₂ d₂ → wpAny W.M A (binaryOp op v₁ v₂) (Post W s d) NoE s
def CmpV (W : Wd) (A : Around) (op : CmpOp) (d₁ d₂ : PyData) (b : Bool) : Prop :=
  ∀ s v₁ v₂, Gd W s.heap → Val W.av s.heap v₁ d₁ → Val W.av s.heap v₂ d₂ → wpAny W.M A (compareOp op v₁ v₂) (fun v s' => v = .bool b ∧ Ks s s') NoE s
def TruV (W : Wd) (A : Around) (d : PyData) (b : Bool) : Prop :=
  ∀ s v, Gd W s.heap → Val W.av s.heap v d → wpAny W.M A (truthy v) (fun c s' => c = b ∧ Ks s s') NoE s

section
variable {W : Wd} {hb : Heap} {A : Around} {env : Env} {ρ : Rho}

theorem noE {α : Type} {M : Model} {t : Sem α} {Q : α → Shared → Prop} {E : Value → Shared → Prop} {s : Shared} (h : wpAny M A t Q NoE s) : wpAny M A t Q E s :=
  wpAny_mono h (fun _ _ x => x) fun _ _ x => x.elim
theorem EV.mono {ρ' : Rho} {e : PySem.Expr} {d : PyData} (h : EV W hb A env ρ' e d) (s : ∀ p ∈ ρ', p ∈ ρ) : EV W hb A env ρ e d := fun st x => h st (x.forget s)

theorem EV.int {i : Int} {k : Nat} {pos : Pos} : EV W hb A env ρ (.Constant (.int i) k pos) (.int i) := fun s _ => wpAny_Constant_int ⟨Ks.toks s _, .int _ _⟩
theorem EV.none {k : Nat} {pos : Pos} : EV W hb A env ρ (.Constant .none k pos) .none := fun s _ => wpAny_Constant_none ⟨Ks.refl s, .none⟩
theorem EV.bool {b : Bool} {k : Nat} {pos : Pos} : EV W hb A env ρ (.Constant (.bool b) k pos) (.bool b) := fun s _ => wpAny_Constant_bool ⟨Ks.refl s, .bool b⟩

theorem load_name {s : Shared} {x : Str} {d : PyData} (X : St W hb env ρ s.heap) (hx : (x, d) ∈ ρ) (hk : env.kindOf x = some .local ∨ env.kindOf x = some .cell ∨ env.kindOf x = some .free)
    (hc : (x == ("__classdict__" : Str)) = false) : wpAny W.M A (loadName env x) (Post W s d) NoE s := by
  rcases hk with hk | hk | hk
  · obtain ⟨m, hn, q⟩ := X.loc
    obtain ⟨v, hv, hd⟩ := q _ hx hk
    exact wpAny_loadName_local X.kind hk hn hv ⟨Ks.refl s, hd⟩
  · obtain ⟨c, v, h1, h2, h3⟩ := X.cel _ hx (.inl hk)
    exact wpAny_loadName_cell X.kind hk h1 h2 ⟨Ks.refl s, h3⟩
  · obtain ⟨c, v, h1, h2, h3⟩ := X.cel _ hx (.inr hk)
    exact wpAny_loadName_free X.kind hk h1 h2 ⟨Ks.refl s, h3⟩ hc
theorem EV.name {x : Str} {pos : Pos} {d : PyData} (hx : (x, d) ∈ ρ) (hk : env.kindOf x = some .local ∨ env.kindOf x = some .cell ∨ env.kindOf x = some .free)
    (hd : (x == ("__debug__" : Str)) = false := by decide) (hc : (x == ("__classdict__" : Str)) = false := by decide) : EV W hb A env ρ (.Name x pos) d :=
  fun _ X => wpAny_Name (load_name X hx hk hc) hd

/-- a name of the text's own top -/
theorem ev_global {x : Str} {pos : Pos} {v : Value} {s : Shared} {Q : Value → Shared → Prop} (X : St W hb env ρ s.heap) (hk : env.kindOf x = some .globalImplicit) (e : nsIn W.K mainGlobals x = some (some v)) (h : Q v s)
    (hd : (x == ("__debug__" : Str)) = false := by decide) : wpAny W.M A (eval (.Name x pos) env) Q NoE s := by
  have G := X.good
  exact Calls.Name_function_global X.kind hk (Calls.loadGlobal_global (by rw [X.glo]; exact G.g) (mg_of G.k G.g e) h) hd
theorem ev_builtin {x : Str} {pos : Pos} {v : Value} {s : Shared} {Q : Value → Shared → Prop} (X : St W hb env ρ s.heap) (hk : env.kindOf x = some .globalImplicit) (e : nsIn W.K mainGlobals x = some none) (hv : bootBuiltins x = some v) (h : Q v s)
    (hn : x ≠ "__name__" := by decide) (hd : (x == ("__debug__" : Str)) = false := by decide) : wpAny W.M A (eval (.Name x pos) env) Q NoE s := by
  have G := X.good
  exact Calls.Name_function_global X.kind hk (Calls.loadGlobal_builtin (by rw [X.glo]; exact G.g) (mg_none_of G.k G.g e) (by rw [X.bui]; exact G.b) ((G.bb x hn).trans hv) h) hd
theorem EV.global {x : Str} {pos : Pos} {v : Value} {d : PyData} (hk : env.kindOf x = some .globalImplicit) (e : nsIn W.K mainGlobals x = some (some v)) (hv : ∀ h, Gd W h → Val W.av h v d)
    (hd : (x == ("__debug__" : Str)) = false := by decide) : EV W hb A env ρ (.Name x pos) d := fun s X => ev_global X hk e ⟨Ks.refl s, hv _ X.good⟩ hd

theorem EV.bin {l r : PySem.Expr} {op : Operator} {pos : Pos} {d₁ d₂ d : PyData} (h₁ : EV W hb A env ρ l d₁) (h₂ : EV W hb A env ρ r d₂) (h : OpV W A op d₁ d₂ d) : EV W hb A env ρ (.BinOp l op r pos) d := fun s X =>
  wpAny_BinOp (wpAny_mono (h₁ s X) (fun v₁ s₁ q₁ => wpAny_mono (h₂ s₁ (X.keeps q₁.1.kp)) (fun v₂ s₂ q₂ =>
    wpAny_mono (h s₂ v₁ v₂ (X.good.keeps (q₁.1.trans q₂.1).kp) (q₁.2.keeps q₂.1.kp) q₂.2) (fun _ _ q => ⟨(q₁.1.trans q₂.1).trans q.1, q.2⟩) fun _ _ x => x) fun _ _ x => x) fun _ _ x => x)
theorem OpV.add {a b : Int} : OpV W A .Add (.int a) (.int b) (.int (a + b)) := fun s v₁ v₂ _ x y => by
  cases x; cases y; exact PyProof.Rows.add_int ⟨Ks.toks s _, .int _ _⟩
theorem OpV.sub {a b : Int} : OpV W A .Sub (.int a) (.int b) (.int (a - b)) := fun s v₁ v₂ _ x y => by
  cases x; cases y; exact PyProof.Rows.sub_int ⟨Ks.toks s _, .int _ _⟩
theorem OpV.mul {a b : Int} (h : IntMulOk a b) : OpV W A .Mult (.int a) (.int b) (.int (a * b)) := fun s v₁ v₂ _ x y => by
  cases x; cases y; exact PyProof.Rows.mul_int ⟨Ks.toks s _, .int _ _⟩ h
theorem OpV.mod {a b : Int} (h : b ≠ 0) : OpV W A .Mod (.int a) (.int b) (.int (a.fmod b)) := fun s v₁ v₂ _ x y => by
  cases x; cases y; exact PyProof.Rows.mod_int' h ⟨Ks.toks s _, .int _ _⟩
theorem OpV.div {a b : Int} (h : b ≠ 0) (hp : Builtin.divisionGoesByPylong a b = false) : OpV W A .FloorDiv (.int a) (.int b) (.int (a.fdiv b)) := fun s v₁ v₂ _ x y => by
  cases x; cases y; exact PyProof.Rows.floordiv_int h ⟨Ks.toks s _, .int _ _⟩ (.inl hp)
theorem EV.neg {e : PySem.Expr} {pos : Pos} {a : Int} (h : EV W hb A env ρ e (.int a)) : EV W hb A env ρ (.UnaryOp .USub e pos) (.int (-a)) := fun s X =>
  wpAny_UnaryOp (wpAny_mono (h s X) (fun v s₁ q => by
    obtain ⟨k, x⟩ := q
    cases x
    exact PyProof.Rows.neg_int ⟨k.trans (Ks.toks _ _), .int _ _⟩) fun _ _ x => x)

theorem CmpV.eq {a b : Int} : CmpV W A .Eq (.int a) (.int b) (decide (a = b)) := fun s v₁ v₂ _ x y => by
  cases x; cases y; exact PyProof.Rows.eq_int ⟨by simp [BEq.beq], Ks.refl s⟩
theorem CmpV.ne {a b : Int} : CmpV W A .NotEq (.int a) (.int b) (decide (a ≠ b)) := fun s v₁ v₂ _ x y => by
  cases x; cases y; exact PyProof.Rows.ne_int ⟨by simp [bne, BEq.beq], Ks.refl s⟩
theorem CmpV.lt {a b : Int} : CmpV W A .Lt (.int a) (.int b) (decide (a < b)) := fun s v₁ v₂ _ x y => by
  cases x; cases y; exact PyProof.Rows.lt_int ⟨rfl, Ks.refl s⟩
theorem CmpV.le {a b : Int} : CmpV W A .LtE (.int a) (.int b) (decide (a ≤ b)) := fun s v₁ v₂ _ x y => by
  cases x; cases y; exact PyProof.Rows.le_int ⟨rfl, Ks.refl s⟩
theorem CmpV.gt {a b : Int} : CmpV W A .Gt (.int a) (.int b) (decide (b < a)) := fun s v₁ v₂ _ x y => by
  cases x; cases y; exact PyProof.Rows.gt_int ⟨rfl, Ks.refl s⟩
theorem CmpV.ge {a b : Int} : CmpV W A .GtE (.int a) (.int b) (decide (b ≤ a)) := fun s v₁ v₂ _ x y => by
  cases x; cases y; exact PyProof.Rows.ge_int ⟨rfl, Ks.refl s⟩
end
end Mine
namespace Mine
section
variable {W : Wd} {hb : Heap} {A : Around} {env : Env} {ρ : Rho}

/-! tests and comparisons -/
theorem cmp_run {op : CmpOp} {d₁ d₂ : PyData} {b : Bool} {l r : PySem.Expr} (h₁ : EV W hb A env ρ l d₁) (h₂ : EV W hb A env ρ r d₂) (h : CmpV W A op d₁ d₂ b) (s : Shared) (X : St W hb env ρ s.heap) :
    wpAny W.M A (eval l env) (fun a s₁ => wpAny W.M A (eval r env) (fun c s₂ => wpAny W.M A (compareOp op a c) (fun v s' => v = .bool b ∧ Ks s s') NoE s₂) NoE s₁) NoE s :=
  wpAny_mono (h₁ s X) (fun v₁ s₁ q₁ => wpAny_mono (h₂ s₁ (X.keeps q₁.1.kp)) (fun v₂ s₂ q₂ =>
    wpAny_mono (h s₂ v₁ v₂ (X.good.keeps (q₁.1.trans q₂.1).kp) (q₁.2.keeps q₂.1.kp) q₂.2) (fun _ _ q => ⟨q.1, (q₁.1.trans q₂.1).trans q.2⟩) fun _ _ x => x) fun _ _ x => x) fun _ _ x => x
theorem EV.cmp {op : CmpOp} {d₁ d₂ : PyData} {b : Bool} {l r : PySem.Expr} {pos : Pos} (h₁ : EV W hb A env ρ l d₁) (h₂ : EV W hb A env ρ r d₂) (h : CmpV W A op d₁ d₂ b) (hm : behindInMarks op r = false := by with_unfolding_all rfl) :
    EV W hb A env ρ (.Compare l [op] [r] pos) (.bool b) := fun s X =>
  wpAny_Compare1 (wpAny_mono (cmp_run h₁ h₂ h s X) (fun _ _ q => wpAny_mono q (fun _ _ q => wpAny_mono q (fun _ _ q => by obtain ⟨rfl, k⟩ := q; exact ⟨k, .bool b⟩) fun _ _ x => x) fun _ _ x => x) fun _ _ x => x) hm
theorem ET.cmp {op : CmpOp} {d₁ d₂ : PyData} {b : Bool} {l r : PySem.Expr} {pos : Pos} (h₁ : EV W hb A env ρ l d₁) (h₂ : EV W hb A env ρ r d₂) (h : CmpV W A op d₁ d₂ b) (hm : behindInMarks op r = false := by with_unfolding_all rfl) :
    ET W hb A env ρ (.Compare l [op] [r] pos) b := fun s X =>
  wpAny_isTrue_Compare1 (wpAny_mono (cmp_run h₁ h₂ h s X) (fun _ _ q => wpAny_mono q (fun _ _ q => wpAny_mono q (fun _ _ q => by obtain ⟨rfl, k⟩ := q; exact wpAny_truthy_bool ⟨rfl, k⟩) fun _ _ x => x) fun _ _ x => x) fun _ _ x => x) hm
theorem ET.chain {op₁ op₂ : CmpOp} {d₁ d₂ d₃ : PyData} {b₁ b₂ : Bool} {l r₁ r₂ : PySem.Expr} {pos : Pos} (h₁ : EV W hb A env ρ l d₁) (h₂ : EV W hb A env ρ r₁ d₂) (h₃ : EV W hb A env ρ r₂ d₃) (c₁ : CmpV W A op₁ d₁ d₂ b₁) (c₂ : CmpV W A op₂ d₂ d₃ b₂)
    (hm : lastMarks [op₁, op₂] [r₁, r₂] = false := by with_unfolding_all rfl) : ET W hb A env ρ (.Compare l [op₁, op₂] [r₁, r₂] pos) (b₁ && b₂) := fun s X => by
  refine isTrue_chain (wpAny_mono (h₁ s X) (fun v₁ s₁ q₁ => test_link (wpAny_mono (h₂ s₁ (X.keeps q₁.1.kp)) (fun v₂ s₂ q₂ =>
    wpAny_mono (c₁ s₂ v₁ v₂ (X.good.keeps (q₁.1.trans q₂.1).kp) (q₁.2.keeps q₂.1.kp) q₂.2) (fun c s₃ q₃ => ?_) fun _ _ x => x) fun _ _ x => x)) fun _ _ x => x) hm
  obtain ⟨rfl, k₃⟩ := q₃
  refine wpAny_truthy_bool ?_
  have k := (q₁.1.trans q₂.1).trans k₃
  cases b₁ with
  | false => exact ⟨rfl, k⟩
  | true =>
    exact test_last (wpAny_mono (h₃ s₃ (X.keeps k.kp)) (fun v₃ s₄ q₄ => wpAny_mono (c₂ s₄ v₂ v₃ (X.good.keeps (k.trans q₄.1).kp) (q₂.2.keeps (k₃.trans q₄.1).kp) q₄.2) (fun c s₅ q₅ => by
      obtain ⟨rfl, k₅⟩ := q₅
      exact wpAny_truthy_bool ⟨by simp, (k.trans q₄.1).trans k₅⟩) fun _ _ x => x) fun _ _ x => x)
theorem ET.not {e : PySem.Expr} {pos : Pos} {b : Bool} (h : ET W hb A env ρ e b) : ET W hb A env ρ (.UnaryOp .Not e pos) (!b) := fun s X =>
  wpAny_isTrue_Not (wpAny_mono (h s X) (fun _ _ q => ⟨by rw [q.1], q.2⟩) fun _ _ x => x)
theorem ET.value {e : PySem.Expr} {d : PyData} {b : Bool} (h : EV W hb A env ρ e d) (t : TruV W A d b) (he : ∀ whole, isTrue e env whole = (do let v ← whole; standAt e.pos; holding [v] (truthy v)) := by intro _; rfl) : ET W hb A env ρ e b := fun s X =>
  wpAny_isTrue_value (wpAny_mono (h s X) (fun v s₁ q => wpAny_mono (t s₁ v (X.good.keeps q.1.kp) q.2) (fun _ _ p => ⟨p.1, q.1.trans p.2⟩) fun _ _ x => x) fun _ _ x => x) (he _)
theorem TruV.bool {b : Bool} : TruV W A (.bool b) b := fun s v _ x => by cases x; exact wpAny_truthy_bool ⟨rfl, Ks.refl s⟩
/-- several tests -/
def EA (W : Wd) (hb : Heap) (A : Around) (env : Env) (ρ : Rho) (op : BoolOp) (es : List PySem.Expr) (b : Bool) : Prop :=
  ∀ s, St W hb env ρ s.heap → wpAny W.M A (allTrue op es env) (fun c s' => c = b ∧ Ks s s') NoE s
theorem EA.andNil : EA W hb A env ρ .And [] true := fun s _ => wpAny_allTrue_And_nil ⟨rfl, Ks.refl s⟩
theorem EA.orNil : EA W hb A env ρ .Or [] false := fun s _ => wpAny_allTrue_Or_nil ⟨rfl, Ks.refl s⟩
theorem EA.and {e : PySem.Expr} {es : List PySem.Expr} {b₁ b₂ : Bool} (h₁ : ET W hb A env ρ e b₁) (h₂ : b₁ = true → EA W hb A env ρ .And es b₂) : EA W hb A env ρ .And (e :: es) (b₁ && b₂) := fun s X =>
  wpAny_allTrue_And_cons (wpAny_mono (h₁ s X) (fun c s₁ q => by
    obtain ⟨rfl, k⟩ := q
    cases c with
    | false => exact ⟨rfl, k⟩
    | true => exact wpAny_mono (h₂ rfl s₁ (X.keeps k.kp)) (fun _ _ q => ⟨by simp [q.1], k.trans q.2⟩) fun _ _ x => x) fun _ _ x => x)
theorem EA.or {e : PySem.Expr} {es : List PySem.Expr} {b₁ b₂ : Bool} (h₁ : ET W hb A env ρ e b₁) (h₂ : b₁ = false → EA W hb A env ρ .Or es b₂) : EA W hb A env ρ .Or (e :: es) (b₁ || b₂) := fun s X =>
  wpAny_allTrue_Or_cons (wpAny_mono (h₁ s X) (fun c s₁ q => by
    obtain ⟨rfl, k⟩ := q
    cases c with
    | true => exact ⟨rfl, k⟩
    | false => exact wpAny_mono (h₂ rfl s₁ (X.keeps k.kp)) (fun _ _ q => ⟨by simp [q.1], k.trans q.2⟩) fun _ _ x => x) fun _ _ x => x)
theorem ET.bool {op : BoolOp} {es : List PySem.Expr} {pos : Pos} {b : Bool} (h : EA W hb A env ρ op es b) : ET W hb A env ρ (.BoolOp op es pos) b := fun s X => wpAny_isTrue_BoolOp (h s X)
theorem EV.and2 {x y : PySem.Expr} {pos : Pos} {a b : Bool} (h₁ : EV W hb A env ρ x (.bool a)) (h₂ : a = true → EV W hb A env ρ y (.bool b)) : EV W hb A env ρ (.BoolOp .And [x, y] pos) (.bool (a && b)) := fun s X =>
  wpAny_And2 (wpAny_mono (h₁ s X) (fun v s₁ q => by
    obtain ⟨k, x⟩ := q
    cases x
    refine wpAny_truthy_bool ?_
    cases a with
    | false => exact ⟨k, .bool _⟩
    | true => exact wpAny_mono (h₂ rfl s₁ (X.keeps k.kp)) (fun _ _ q => ⟨k.trans q.1, by simpa using q.2⟩) fun _ _ x => x) fun _ _ x => x)
theorem EV.or2 {x y : PySem.Expr} {pos : Pos} {a b : Bool} (h₁ : EV W hb A env ρ x (.bool a)) (h₂ : a = false → EV W hb A env ρ y (.bool b)) : EV W hb A env ρ (.BoolOp .Or [x, y] pos) (.bool (a || b)) := fun s X =>
  wpAny_Or2 (wpAny_mono (h₁ s X) (fun v s₁ q => by
    obtain ⟨k, x⟩ := q
    cases x
    refine wpAny_truthy_bool ?_
    cases a with
    | true => exact ⟨k, .bool _⟩
    | false => exact wpAny_mono (h₂ rfl s₁ (X.keeps k.kp)) (fun _ _ q => ⟨k.trans q.1, by simpa using q.2⟩) fun _ _ x => x) fun _ _ x => x)
theorem EV.ite {t x y : PySem.Expr} {pos : Pos} {b : Bool} {d : PyData} (h : ET W hb A env ρ t b) (h₁ : b = true → EV W hb A env ρ x d) (h₂ : b = false → EV W hb A env ρ y d) : EV W hb A env ρ (.IfExp t x y pos) d := fun s X =>
  wpAny_IfExp (wpAny_mono (h s X) (fun c s₁ q => by
    obtain ⟨rfl, k⟩ := q
    cases c with
    | true => exact wpAny_mono (h₁ rfl s₁ (X.keeps k.kp)) (fun _ _ q => ⟨k.trans q.1, q.2⟩) fun _ _ x => x
    | false => exact wpAny_mono (h₂ rfl s₁ (X.keeps k.kp)) (fun _ _ q => ⟨k.trans q.1, q.2⟩) fun _ _ x => x) fun _ _ x => x)

/-! data compared -/
theorem CmpV.eqD {d₁ d₂ : PyData} (h₁ : SeqAt.shaped d₁ = true) (h₂ : SeqAt.shaped d₂ = true) (hu : A.units + 64 < cLine) : CmpV W A .Eq d₁ d₂ (PyData.eqv d₁ d₂) := fun s v₁ v₂ _ x y => by
  obtain ⟨as, rx⟩ := x.reads
  obtain ⟨bs, ry⟩ := y.reads
  exact eq_dataH rx ry h₁ h₂ hu ⟨rfl, Ks.refl s⟩
theorem CmpV.neD {d₁ d₂ : PyData} (h₁ : SeqAt.shaped d₁ = true) (h₂ : SeqAt.shaped d₂ = true) (hu : A.units + 64 < cLine) : CmpV W A .NotEq d₁ d₂ (!PyData.eqv d₁ d₂) := fun s v₁ v₂ _ x y => by
  obtain ⟨as, rx⟩ := x.reads
  obtain ⟨bs, ry⟩ := y.reads
  exact ne_dataH rx ry h₁ h₂ hu ⟨rfl, Ks.refl s⟩
def notNone : PyData → Bool
  | .none => false
  | _ => true
theorem CmpV.isNot {d : PyData} : CmpV W A .IsNot d .none (notNone d) := fun s v₁ v₂ _ x y => by
  cases y
  refine isNot_none ⟨?_, Ks.refl s⟩
  cases x <;> rfl

/-! displays -/
theorem EVs.nil : EVs W hb A env ρ [] [] := fun s _ _ => wpAny_items_nil ⟨Ks.refl s, .nil⟩
theorem EVs.cons {e : PySem.Expr} {es : List PySem.Expr} {d : PyData} {ds : List PyData} (h : EV W hb A env ρ e d) (hs : EVs W hb A env ρ es ds) (he : starEach (e :: es) env = (false, eval e env) :: starEach es env := by rfl) :
    EVs W hb A env ρ (e :: es) (d :: ds) := fun s pos X =>
  wpAny_items_cons (wpAny_mono (h s X) (fun v s₁ q => wpAny_mono (hs s₁ pos (X.keeps q.1.kp)) (fun vs s₂ p => ⟨q.1.trans p.1, .cons (q.2.keeps p.1.kp) p.2⟩) fun _ _ x => x) fun _ _ x => x) he
theorem Kp.push (h : Heap) (o : Obj) : Kp h (h.push o) := fun _ _ e => Heap.get?_push_of_some _ e
theorem EV.tuple {es : List PySem.Expr} {k : Nat} {pos : Pos} {ds : List PyData} (h : EVs W hb A env ρ es ds) (hz : ds.length ≤ sizeLine) : EV W hb A env ρ (.Tuple es k pos) (.tuple ds) := fun s X =>
  wpAny_Tuple (wpAny_mono (h s pos X) (fun vs s₁ q => ⟨by rw [q.2.length]; exact hz, q.1.trans (Ks.of (n := s₁.toks) (Kp.push _ _)), .tuple ((X.good.keeps q.1.kp).off (Nat.le_refl _)) ⟨_, Heap.get?_push_size _ rfl, rfl, _, rfl⟩ (q.2.keeps (Kp.push _ _))⟩) fun _ _ x => x)
theorem EV.list {es : List PySem.Expr} {pos : Pos} {ds : List PyData} (h : EVs W hb A env ρ es ds) (hz : ds.length ≤ sizeLine) : EV W hb A env ρ (.List es pos) (.list ds) := fun s X =>
  wpAny_List (wpAny_mono (h s pos X) (fun vs s₁ q => ⟨by rw [q.2.length]; exact hz, q.1.trans (Ks.of (n := s₁.toks) (Kp.push _ _)), .list ((X.good.keeps q.1.kp).off (Nat.le_refl _)) ⟨_, Heap.get?_push_size _ rfl, rfl, _, rfl⟩ (q.2.keeps (Kp.push _ _))⟩) fun _ _ x => x)

/-! subscripts -/
theorem sub_run {value slice : PySem.Expr} {pos : Pos} {d₁ d : PyData} {P : Value → Heap → Prop}
    (hT : ∀ (s : Shared) (v : Value), Val W.av s.heap v d₁ → ∃ T id, s.TypeIs v T ∧ typeLookup (.type T) "__getitem__" = pure (some (.builtin id)))
    (h₁ : EV W hb A env ρ value d₁) (h₂ : ∀ s, St W hb env ρ s.heap → wpAny W.M A (eval slice env) (fun v s' => Ks s s' ∧ P v s'.heap) NoE s)
    (h : ∀ s o i, Gd W s.heap → Val W.av s.heap o d₁ → P i s.heap → wpAny W.M A (getItem o i) (Post W s d) NoE s)
    (hs : ∀ o i, subscripted slice false o i = operate [o, i] (getItem o i) ∨ subscripted slice false o i = operate [i, o] (getItem o i)) : EV W hb A env ρ (.Subscript value slice pos) d := fun s X => by
  rw [eval_Subscript]
  refine wpAny_bind (wpAny_mono (h₁ s X) (fun o s₁ q₁ => wpAny_bind (wpAny_holding (wpAny_mono (h₂ s₁ (X.keeps q₁.1.kp)) (fun i s₂ q₂ => wpAny_bind (wpAny_standAt ?_)) fun _ _ x => x))) fun _ _ x => x)
  have k := q₁.1.trans q₂.1
  have ho := q₁.2.keeps q₂.1.kp
  obtain ⟨T, id, hT', hl⟩ := hT s₂ o ho
  have g := h s₂ o i (X.good.keeps k.kp) ho q₂.2
  have fin : wpAny W.M A (subscripted slice false o i) (fun r s₃ => wpAny W.M A (letTemporaryGo value o r >>= fun _ => pure r) (Post W s d) NoE s₃) NoE s₂ := by
    have z : ∀ l, wpAny W.M A (operate l (getItem o i)) (fun r s₃ => wpAny W.M A (letTemporaryGo value o r >>= fun _ => pure r) (Post W s d) NoE s₃) NoE s₂ := fun l =>
      wpAny_operating (wpAny_mono g (fun r s₃ h₃ => wpAny_bind (wpAny_letTemporaryGo (wpAny_pure ⟨k.trans h₃.1, h₃.2⟩))) fun _ _ x => x)
    rcases hs o i with e | e <;> (rw [e]; exact z _)
  refine wpAny_bind ?_
  rw [getitemInPython_of_ne hT'.not_modules]
  refine wpAny_bind (wpAny_specialOf hT' hl ?_)
  first
    | exact wpAny_pure (wpAny_bind fin)
    | exact wpAny_bind (wpAny_pure (wpAny_bind fin))
    | exact wpAny_bind fin
theorem list_type {ds : List PyData} (s : Shared) (v : Value) (x : Val W.av s.heap v (.list ds)) : ∃ T id, s.TypeIs v T ∧ typeLookup (.type T) "__getitem__" = pure (some (.builtin id)) := by
  cases x with | list _ h _ => exact ⟨_, _, h.typeIs, list_getitem_lookup⟩
theorem tuple_type {ds : List PyData} (s : Shared) (v : Value) (x : Val W.av s.heap v (.tuple ds)) : ∃ T id, s.TypeIs v T ∧ typeLookup (.type T) "__getitem__" = pure (some (.builtin id)) := by
  cases x with | tuple _ h _ => exact ⟨_, _, h.typeIs, slot_tuple_getitem.lookup⟩
theorem EV.itemL {value slice : PySem.Expr} {pos : Pos} {ds : List PyData} {i : Int} {d : PyData} (h₁ : EV W hb A env ρ value (.list ds)) (h₂ : EV W hb A env ρ slice (.int i)) (h0 : 0 ≤ i) (hi : i < 2 ^ 63) (hd : ds[i.toNat]? = some d)
    (hs : ∀ o i, subscripted slice false o i = operate [o, i] (getItem o i) := by intro _ _; rfl) : EV W hb A env ρ (.Subscript value slice pos) d :=
  sub_run (P := fun v h => Val W.av h v (.int i)) list_type h₁ h₂ (fun s o j _ x y => by
    cases y
    cases x with
    | list _ hl hv =>
      obtain ⟨u, hu, hv'⟩ := hv.get _ hd
      exact wpAny_getItem_list hl h0 hi (by simpa using hu) ⟨Ks.refl s, hv'⟩) fun o j => .inl (hs o j)
theorem EV.itemT {value slice : PySem.Expr} {pos : Pos} {ds : List PyData} {i : Int} {d : PyData} (h₁ : EV W hb A env ρ value (.tuple ds)) (h₂ : EV W hb A env ρ slice (.int i)) (h0 : 0 ≤ i) (hi : i < 2 ^ 63) (hd : ds[i.toNat]? = some d)
    (hs : ∀ o i, subscripted slice false o i = operate [o, i] (getItem o i) := by intro _ _; rfl) : EV W hb A env ρ (.Subscript value slice pos) d :=
  sub_run (P := fun v h => Val W.av h v (.int i)) tuple_type h₁ h₂ (fun s o j _ x y => by
    cases y
    cases x with
    | tuple _ hl hv =>
      obtain ⟨u, hu, hv'⟩ := hv.get _ hd
      have hlt : i.toNat < ds.length := (List.getElem?_eq_some_iff.mp hd).1
      refine getItem_tuple hl (by omega) hi (j := i.toNat) ?_ (by simpa using hu) ⟨Ks.refl s, hv'⟩
      have e := hv.length
      unfold seqIndex?
      rw [List.size_toArray, e, if_neg (show ¬ i < 0 by omega)]
      rw [if_pos (by simp only [Bool.and_eq_true, decide_eq_true_eq]; omega)]) fun o j => .inl (hs o j)
end
end Mine
namespace Mine

inductive Out where
  | next (ρ : Rho)
  | ret (d : PyData)
structure Sm (s s' : Shared) : Prop where
  ex : ∃ h' tk, s' = { s with heap := h', toks := tk }
theorem Sm.trans {s₁ s₂ s₃ : Shared} (x : Sm s₁ s₂) (y : Sm s₂ s₃) : Sm s₁ s₃ := by
  obtain ⟨h, t, rfl⟩ := x
  obtain ⟨h', t', rfl⟩ := y
  exact ⟨⟨h', t', rfl⟩⟩
theorem Sm.of {s : Shared} {h : Heap} {n : Nat} : Sm s { s with heap := h, toks := n } := ⟨⟨h, n, rfl⟩⟩
/-- all but the frame's own names -/
def KpB (env : Env) (h h' : Heap) : Prop := ∀ b o, b ≠ env.locals → (∀ x c, env.cells.lookup x = some c → b ≠ c) → h.get? b = some o → h'.get? b = some o
theorem KpB.of {env : Env} {h h' : Heap} (k : Kp h h') : KpB env h h' := fun b o _ _ e => k b o e
theorem KpB.trans {env : Env} {h₁ h₂ h₃ : Heap} (x : KpB env h₁ h₂) (y : KpB env h₂ h₃) : KpB env h₁ h₃ := fun b o a c e => y b o a c (x b o a c e)
theorem Ks.sm {s s' : Shared} (x : Ks s s') : Sm s s' := by obtain ⟨h, t, rfl, _⟩ := x; exact ⟨⟨h, t, rfl⟩⟩

def OutP (W : Wd) (hb : Heap) (env : Env) (s : Shared) (o : Out) (f : Flow) (s' : Shared) : Prop := match o with
  | .next ρ => f = .next ∧ Sm s s' ∧ KpB env s.heap s'.heap ∧ St W hb env ρ s'.heap
  | .ret d => ∃ v, f = .ret v ∧ Sm s s' ∧ Kp hb s'.heap ∧ Val W.av s'.heap v d
theorem OutP.trans {W : Wd} {hb : Heap} {env : Env} {s₁ s₂ s₃ : Shared} {o : Out} {f : Flow} (x : Sm s₁ s₂) (k : KpB env s₁.heap s₂.heap) (y : OutP W hb env s₂ o f s₃) : OutP W hb env s₁ o f s₃ := by
  cases o with
  | next ρ => exact ⟨y.1, x.trans y.2.1, k.trans y.2.2.1, y.2.2.2⟩
  | ret d => obtain ⟨v, a, b, c⟩ := y; exact ⟨v, a, x.trans b, c⟩

def EX (W : Wd) (hb : Heap) (A : Around) (env : Env) (ρ : Rho) (st : PySem.Stmt) (o : Out) : Prop :=
  ∀ s, St W hb env ρ s.heap → wpAny W.M A (exec st env) (OutP W hb env s o) NoE s
def EXs (W : Wd) (hb : Heap) (A : Around) (env : Env) (ρ : Rho) (sts : List PySem.Stmt) (o : Out) : Prop :=
  ∀ s, St W hb env ρ s.heap → wpAny W.M A (execs sts env) (OutP W hb env s o) NoE s

section
variable {W : Wd} {hb : Heap} {A : Around} {env : Env} {ρ : Rho}

theorem EXs.nil : EXs W hb A env ρ [] (.next ρ) := fun s X => wpAny_execs_nil ⟨rfl, ⟨⟨s.heap, s.toks, rfl⟩⟩, KpB.of fun _ _ e => e, X⟩
theorem EXs.cons {st : PySem.Stmt} {sts : List PySem.Stmt} {ρ' : Rho} {o : Out} (h : EX W hb A env ρ st (.next ρ')) (hs : EXs W hb A env ρ' sts o) : EXs W hb A env ρ (st :: sts) o := fun s X =>
  wpAny_execs_cons (wpAny_mono (h s X) (fun f s₁ q => by
    obtain ⟨rfl, a, k, b⟩ := q
    exact wpAny_mono (hs s₁ b) (fun _ _ p => p.trans a k) fun _ _ x => x) fun _ _ x => x)
theorem EXs.ret {st : PySem.Stmt} {sts : List PySem.Stmt} {d : PyData} (h : EX W hb A env ρ st (.ret d)) : EXs W hb A env ρ (st :: sts) (.ret d) := fun s X =>
  wpAny_execs_cons (wpAny_mono (h s X) (fun f s₁ q => by
    obtain ⟨v, rfl, a⟩ := q
    exact ⟨v, rfl, a⟩) fun _ _ x => x)
theorem EX.ret {e : PySem.Expr} {pos : Pos} {d : PyData} (h : EV W hb A env ρ e d) : EX W hb A env ρ (.Return (some e) pos) (.ret d) := fun s X =>
  wpAny_Return_some (wpAny_mono (h s X) (fun v s₁ q => ⟨v, rfl, q.1.sm, fun b o e => q.1.kp _ _ (X.keep b o e), q.2⟩) fun _ _ x => x)
theorem EX.ite {t : PySem.Expr} {x y : List PySem.Stmt} {pos : Pos} {b : Bool} {o : Out} (h : ET W hb A env ρ t b) (h₁ : b = true → EXs W hb A env ρ x o) (h₂ : b = false → EXs W hb A env ρ y o) : EX W hb A env ρ (.If t x y pos) o := fun s X =>
  wpAny_If (wpAny_mono (h s X) (fun c s₁ q => by
    obtain ⟨rfl, k⟩ := q
    cases c with
    | true => exact wpAny_mono (h₁ rfl s₁ (X.keeps k.kp)) (fun _ _ q => q.trans k.sm (KpB.of k.kp)) fun _ _ x => x
    | false => exact wpAny_mono (h₂ rfl s₁ (X.keeps k.kp)) (fun _ _ q => q.trans k.sm (KpB.of k.kp)) fun _ _ x => x) fun _ _ x => x)
/-- a test that leaves the run where it stands -/
theorem EX.skip {t : PySem.Expr} {x : List PySem.Stmt} {pos : Pos} (h : ET W hb A env ρ t false) : EX W hb A env ρ (.If t x [] pos) (.next ρ) := EX.ite h (fun e => (nomatch e)) fun _ => EXs.nil

/-- one name is stored -/
theorem store {x : Str} {v : Value} {d : PyData} {ρ' : Rho} {s : Shared} (X : St W hb env ρ s.heap) (hv : Val W.av s.heap v d) (hk : env.kindOf x = some .local ∨ (env.kindOf x = some .cell ∧ (env.cells.lookup x).isSome = true)) (hρ : Set ρ x d ρ') :
    wpAny W.M A (storeName env x v) (fun _ s' => Sm s s' ∧ KpB env s.heap s'.heap ∧ St W hb env ρ' s'.heap) NoE s := by
  rcases hk with hk | ⟨hk, hc⟩
  · obtain ⟨m, hn, _⟩ := X.loc
    exact wpAny_storeName_local hk hn (fun h' hn' hs => ⟨Sm.of, fun b o a _ e => hs.extBut b o a e, X.storeL hn hn' hs hv hk hρ⟩) (by rw [X.kind]; rfl)
  · obtain ⟨c, hc⟩ := Option.isSome_iff_exists.mp hc
    obtain ⟨v₀, h0⟩ := X.call _ _ hc
    exact wpAny_storeName_cell X.kind hk hc h0 (fun h' hn' hs => ⟨Sm.of (n := s.toks), fun b o _ a e => hs.extBut b o (a _ _ hc) e, X.storeC hc h0 hn' hs hv hk hρ⟩)
theorem EX.assign {x : Str} {p pos : Pos} {e : PySem.Expr} {d : PyData} {ρ' : Rho} (h : EV W hb A env ρ e d) (hρ : Set ρ x d ρ') (hk : env.kindOf x = some .local ∨ (env.kindOf x = some .cell ∧ (env.cells.lookup x).isSome = true))
    (hs : swapsWith e (some (.Name x p)) pos.line env = pure false := by rfl) : EX W hb A env ρ (.Assign [.Name x p] e pos) (.next ρ') := fun s X =>
  wpAny_Assign_Name (wpAny_mono (h s X) (fun v s₁ q => wpAny_mono (store (X.keeps q.1.kp) q.2 hk hρ) (fun _ _ p => ⟨rfl, q.1.sm.trans p.1, (KpB.of q.1.kp).trans p.2.1, p.2.2⟩) fun _ _ x => x) fun _ _ x => x) hs
/-- an operation that stores its name again -/
def IopV (W : Wd) (A : Around) (op : Operator) (d₁ d₂ d : PyData) : Prop :=
  ∀ s v₁ v₂, Gd W s.heap → Val W.av s.heap v₁ d₁ → Val W.av s.heap v₂ d₂ → wpAny W.M A (inplaceOp op v₁ v₂) (Post W s d) NoE s
theorem IopV.add {a b : Int} : IopV W A .Add (.int a) (.int b) (.int (a + b)) := fun s v₁ v₂ _ x y => by
  cases x; cases y; exact PyProof.Rows.iadd_int ⟨Ks.toks s _, .int _ _⟩
theorem IopV.sub {a b : Int} : IopV W A .Sub (.int a) (.int b) (.int (a - b)) := fun s v₁ v₂ _ x y => by
  cases x; cases y; exact PyProof.Rows.isub_int ⟨Ks.toks s _, .int _ _⟩
theorem EX.aug {x : Str} {p pos : Pos} {op : Operator} {e : PySem.Expr} {d₁ d₂ d : PyData} {ρ' : Rho} (hx : (x, d₁) ∈ ρ) (h : EV W hb A env ρ e d₂) (ho : IopV W A op d₁ d₂ d) (hρ : Set ρ x d ρ') (hk : env.kindOf x = some .local)
    (hc : (x == ("__classdict__" : Str)) = false := by decide) : EX W hb A env ρ (.AugAssign (.Name x p) op e pos) (.next ρ') := fun s X =>
  wpAny_AugAssign_Name (wpAny_mono (load_name X hx (.inl hk) hc) (fun v₁ s₁ q₁ => wpAny_mono (h s₁ (X.keeps q₁.1.kp)) (fun v₂ s₂ q₂ =>
    wpAny_mono (ho s₂ v₁ v₂ (X.good.keeps (q₁.1.trans q₂.1).kp) (q₁.2.keeps q₂.1.kp) q₂.2) (fun r s₃ q₃ =>
      have k := (q₁.1.trans q₂.1).trans q₃.1
      wpAny_mono (store (X.keeps k.kp) q₃.2 (.inl hk) hρ) (fun _ _ p => ⟨rfl, k.sm.trans p.1, (KpB.of k.kp).trans p.2.1, p.2.2⟩) fun _ _ x => x) fun _ _ x => x) fun _ _ x => x) fun _ _ x => x)

/-! calls -/
theorem EV.call {f : Str} {fp pos : Pos} {e : PySem.Expr} {es : List PySem.Expr} {v : Value} {ds : List PyData} {d : PyData} {n : Nat} (hr : Rm n A) (hk : env.kindOf f = some .globalImplicit) (hf : nsIn W.K mainGlobals f = some (some v)) (hkeep : keepIn W.K v = true)
    (hs : EVs W hb A env ρ (e :: es) ds) (hc : CV W n v ds d) (hd : (f == ("__debug__" : Str)) = false := by decide)
    (he : eval (.Call (.Name f fp) (e :: es) [] pos) env = (do callWith pos (← eval (.Name f fp) env) [] (backTo pos (starEach (e :: es) env)) (backToKw pos (keywordEach [] env))) := by rfl)
    (h1 : starEach (e :: es) env = (false, eval e env) :: starEach es env := by rfl) (h2 : (backTo pos (starEach es env)).any (·.1) = false := by rfl) : EV W hb A env ρ (.Call (.Name f fp) (e :: es) [] pos) d := fun s X =>
  Call_ (ev_global X hk hf (callWith_K X.good.k hkeep (wpAny_mono (hs s pos X) (fun vs s₁ q => ⟨(X.good.keeps q.1.kp).k, wpAny_mono (hc A s₁ vs hr (X.good.keeps q.1.kp) q.2) (fun _ _ p => ⟨q.1.trans p.1, p.2⟩) fun _ _ x => x⟩) fun _ _ x => x) h1 h2) hd) he

/-- a def that is called: its body's outcome is the call's -/
theorem CV.def {n : Nat} {f : Addr} {name qual : Str} {params : Arguments} {body : List PySem.Stmt} {scope : Scope} {dV kV doc pm cdv ct oc : Value} {an od : Option Addr} {osl : Array (Option Value)} {ds : List PyData} {d : PyData} (ps : List Str)
    (ho : W.K.lookup f = some ⟨oc, od, .func (fnOf name qual params body scope dV kV doc pm an cdv ct), osl⟩) (hcd : codeIn W.K cdv qual = true)
    (hbind : ∀ vs : List Value, vs.length = ds.length → bindArgs (fnOf name qual params body scope dV kV doc pm an cdv ct) ⟨vs, []⟩ = pure (ps.zip vs)) (hlen : ps.length = ds.length) (hnd : ps.Nodup)
    (hloc : ∀ y ∈ ps, scope.names.lookup y = some .local) (hdp : ∀ A : Around, Rm n A → A.depth < recursionLimit)
    (h : ∀ (A : Around) (hb : Heap) (L : Addr), Rm n A → EXs W hb (A.deeper (envOf qual scope L f cdv)) (envOf qual scope L f cdv) (ps.zip ds) body (.ret d))
    (hco : scope.isCoroutine = false := by rfl) (hgen : scope.isGenerator = false := by rfl) (hk : scope.kind = .function := by rfl) (hcell : ∀ x ∈ scope.names, x.2 ≠ .cell := by decide) :
    CV W n (.ref f) ds d := fun A s vs hr G hv => by
  have hl := hv.length
  have hb : BindsTo s (fnOf name qual params body scope dV kV doc pm an cdv ct) ⟨vs, []⟩ (ps.zip vs) := BindsTo.of_eq (hbind vs hl)
  refine wpAny_call (codeAny_call_def (fd := fnOf name qual params body scope dV kV doc pm an cdv ct) (body := body) (binds := ps.zip vs) (hdp A hr) (G.k _ _ ho) rfl G.lim (codeRec_of G.k hcd) rfl hb hcell
    (fun y hy => hloc _ (List.of_mem_zip hy).1) (fun h₁ hns hk₁ => ?_) hco hgen hk)
  have lk : ∀ (ps : List Str) (vs : List Value) (ds : List PyData), ps.Nodup → Vals W.av s.heap vs ds → ps.length = ds.length → ∀ p ∈ ps.zip ds, ∃ v, (ps.zip vs).reverse.lookup p.1 = some v ∧ Val W.av s.heap v p.2 := by
    intro ps
    induction ps with
    | nil => intro vs ds _ _ _ p hp; simp at hp
    | cons a r ih =>
      intro vs ds nd hv hl p hp
      cases hv with
      | nil => simp at hl
      | @cons v d vs ds x xs =>
        simp only [List.zip_cons_cons, List.mem_cons] at hp
        simp only [List.zip_cons_cons, List.reverse_cons, List.lookup_append]
        obtain ⟨na, nd⟩ := List.nodup_cons.mp nd
        rcases hp with rfl | hp
        · have : (r.zip vs).reverse.lookup a = none := by
            rw [List.lookup_eq_none_iff]
            intro q hq
            have := (List.of_mem_zip (List.mem_reverse.mp hq)).1
            rw [bne_iff_ne]
            exact fun e => na (e ▸ this)
          exact ⟨v, by simp [this], x⟩
        · obtain ⟨u, hu, hx⟩ := ih vs ds nd xs (by simpa using hl) p hp
          exact ⟨u, by simp [hu], hx⟩
  have X : St W s.heap (envOf qual scope s.heap.objs.size f cdv) (ps.zip ds) h₁ := {
    gd := G.toGs, av := fun a m => (let ⟨o, e⟩ := G.av a m; ⟨o, hk₁ _ _ e⟩), keep := hk₁, kind := hk, glo := rfl, bui := rfl
    lnew := Heap.get?_none_of_le (Nat.le_refl _)
    cnew := fun x c e => by cases e
    cinj := fun x y c e => by cases e
    call := fun x c e => by cases e
    loc := ⟨_, hns, fun p hp _ => by
      obtain ⟨v, a, b⟩ := lk ps vs ds hnd hv hlen p hp
      exact ⟨v, a, b.keeps hk₁⟩⟩
    cel := fun p hp e => by
      have := hloc _ (List.of_mem_zip hp).1
      have e' : (envOf qual scope s.heap.objs.size f cdv).kindOf p.1 = some .local := this
      rcases e with e | e <;> (rw [e'] at e; cases e) }
  exact wpAny_mono (h A s.heap s.heap.objs.size hr { s with heap := h₁, toks := s.toks + (ps.zip vs).length } X) (fun fl s' q => by
    obtain ⟨v, rfl, ⟨h', tk, rfl⟩, k, hd⟩ := q
    exact ⟨Ks.of k, hd⟩) fun _ _ x => x.elim
end

section
variable {W : Wd} {n : Nat} {f : Addr} {name qual : Str} {params : Arguments} {body : List PySem.Stmt} {scope : Scope} {dV kV doc pm cdv ct oc : Value} {an od : Option Addr} {osl : Array (Option Value)} {d₁ d₂ d₃ d₄ d : PyData}
theorem Rm.depth {A : Around} (h : Rm n A) : A.depth < recursionLimit := by have := h.dp; omega
theorem CV.def1 (p₁ : Str) (ho : W.K.lookup f = some ⟨oc, od, .func (fnOf name qual params body scope dV kV doc pm an cdv ct), osl⟩) (hcd : codeIn W.K cdv qual = true)
    (hbind : ∀ v₁ : Value, bindArgs (fnOf name qual params body scope dV kV doc pm an cdv ct) ⟨[v₁], []⟩ = pure [(p₁, v₁)]) (hl₁ : scope.names.lookup p₁ = some .local)
    (h : ∀ (A : Around) (hb : Heap) (L : Addr), Rm n (A.deeper (envOf qual scope L f cdv)) → EXs W hb (A.deeper (envOf qual scope L f cdv)) (envOf qual scope L f cdv) [(p₁, d₁)] body (.ret d))
    (hco : scope.isCoroutine = false := by rfl) (hgen : scope.isGenerator = false := by rfl) (hk : scope.kind = .function := by rfl) (hcell : ∀ x ∈ scope.names, x.2 ≠ .cell := by decide) : CV W (n + 1) (.ref f) [d₁] d :=
  CV.def [p₁] ho hcd (fun vs hl => by match vs, hl with | [v], _ => exact hbind v) rfl (by simp) (by simpa using hl₁) (fun _ h => h.depth) (fun A hb L hr => h A hb L hr.deeper) hco hgen hk hcell
theorem CV.def2 (p₁ p₂ : Str) (ho : W.K.lookup f = some ⟨oc, od, .func (fnOf name qual params body scope dV kV doc pm an cdv ct), osl⟩) (hcd : codeIn W.K cdv qual = true)
    (hbind : ∀ v₁ v₂ : Value, bindArgs (fnOf name qual params body scope dV kV doc pm an cdv ct) ⟨[v₁, v₂], []⟩ = pure [(p₁, v₁), (p₂, v₂)]) (hl : (∀ y ∈ [p₁, p₂], scope.names.lookup y = some .local) ∧ [p₁, p₂].Nodup)
    (h : ∀ (A : Around) (hb : Heap) (L : Addr), Rm n (A.deeper (envOf qual scope L f cdv)) → EXs W hb (A.deeper (envOf qual scope L f cdv)) (envOf qual scope L f cdv) [(p₁, d₁), (p₂, d₂)] body (.ret d))
    (hco : scope.isCoroutine = false := by rfl) (hgen : scope.isGenerator = false := by rfl) (hk : scope.kind = .function := by rfl) (hcell : ∀ x ∈ scope.names, x.2 ≠ .cell := by decide) : CV W (n + 1) (.ref f) [d₁, d₂] d :=
  CV.def [p₁, p₂] ho hcd (fun vs hl => by match vs, hl with | [v, u], _ => exact hbind v u) rfl hl.2 hl.1 (fun _ h => h.depth) (fun A hb L hr => h A hb L hr.deeper) hco hgen hk hcell
theorem CV.def3 (p₁ p₂ p₃ : Str) (ho : W.K.lookup f = some ⟨oc, od, .func (fnOf name qual params body scope dV kV doc pm an cdv ct), osl⟩) (hcd : codeIn W.K cdv qual = true)
    (hbind : ∀ v₁ v₂ v₃ : Value, bindArgs (fnOf name qual params body scope dV kV doc pm an cdv ct) ⟨[v₁, v₂, v₃], []⟩ = pure [(p₁, v₁), (p₂, v₂), (p₃, v₃)]) (hl : (∀ y ∈ [p₁, p₂, p₃], scope.names.lookup y = some .local) ∧ [p₁, p₂, p₃].Nodup)
    (h : ∀ (A : Around) (hb : Heap) (L : Addr), Rm n (A.deeper (envOf qual scope L f cdv)) → EXs W hb (A.deeper (envOf qual scope L f cdv)) (envOf qual scope L f cdv) [(p₁, d₁), (p₂, d₂), (p₃, d₃)] body (.ret d))
    (hco : scope.isCoroutine = false := by rfl) (hgen : scope.isGenerator = false := by rfl) (hk : scope.kind = .function := by rfl) (hcell : ∀ x ∈ scope.names, x.2 ≠ .cell := by decide) : CV W (n + 1) (.ref f) [d₁, d₂, d₃] d :=
  CV.def [p₁, p₂, p₃] ho hcd (fun vs hl => by match vs, hl with | [v, u, t], _ => exact hbind v u t) rfl hl.2 hl.1 (fun _ h => h.depth) (fun A hb L hr => h A hb L hr.deeper) hco hgen hk hcell
theorem CV.def4 (p₁ p₂ p₃ p₄ : Str) (ho : W.K.lookup f = some ⟨oc, od, .func (fnOf name qual params body scope dV kV doc pm an cdv ct), osl⟩) (hcd : codeIn W.K cdv qual = true)
    (hbind : ∀ v₁ v₂ v₃ v₄ : Value, bindArgs (fnOf name qual params body scope dV kV doc pm an cdv ct) ⟨[v₁, v₂, v₃, v₄], []⟩ = pure [(p₁, v₁), (p₂, v₂), (p₃, v₃), (p₄, v₄)]) (hl : (∀ y ∈ [p₁, p₂, p₃, p₄], scope.names.lookup y = some .local) ∧ [p₁, p₂, p₃, p₄].Nodup)
    (h : ∀ (A : Around) (hb : Heap) (L : Addr), Rm n (A.deeper (envOf qual scope L f cdv)) → EXs W hb (A.deeper (envOf qual scope L f cdv)) (envOf qual scope L f cdv) [(p₁, d₁), (p₂, d₂), (p₃, d₃), (p₄, d₄)] body (.ret d))
    (hco : scope.isCoroutine = false := by rfl) (hgen : scope.isGenerator = false := by rfl) (hk : scope.kind = .function := by rfl) (hcell : ∀ x ∈ scope.names, x.2 ≠ .cell := by decide) : CV W (n + 1) (.ref f) [d₁, d₂, d₃, d₄] d :=
  CV.def [p₁, p₂, p₃, p₄] ho hcd (fun vs hl => by match vs, hl with | [v, u, t, r], _ => exact hbind v u t r) rfl hl.2 hl.1 (fun _ h => h.depth) (fun A hb L hr => h A hb L hr.deeper) hco hgen hk hcell
end
end Mine
namespace Mine
theorem Set.nil {x : Str} {d : PyData} : Set [] x d [(x, d)] := fun _ hp => .inl (List.mem_singleton.mp hp)
theorem Set.head {x : Str} {d d₀ : PyData} {ρ : Rho} (h : ρ.all (fun p => p.1 != x) = true) : Set ((x, d₀) :: ρ) x d ((x, d) :: ρ) := fun p hp => by
  rcases List.mem_cons.mp hp with rfl | hp
  · exact .inl rfl
  · exact .inr ⟨.tail _ hp, by simpa using List.all_eq_true.mp h p hp⟩
theorem Set.tail {x y : Str} {d e : PyData} {ρ ρ' : Rho} (hy : y ≠ x) (h : Set ρ x d ρ') : Set ((y, e) :: ρ) x d ((y, e) :: ρ') := fun p hp => by
  rcases List.mem_cons.mp hp with rfl | hp
  · exact .inr ⟨.head _, hy⟩
  · exact (h p hp).imp id fun q => ⟨.tail _ q.1, q.2⟩

theorem rep_len {α : Type} (k : Nat) (l : List α) : (List.replicate k l).flatten.length = k * l.length := by simp
theorem Vals.rep {av : List Addr} {h : Heap} {vs : List Value} {ds : List PyData} (x : Vals av h vs ds) : ∀ k : Nat, Vals av h (List.replicate k vs).flatten (List.replicate k ds).flatten
  | 0 => by simpa using Vals.nil
  | k + 1 => by simpa [List.replicate_succ] using x.append (x.rep k)

section
variable {W : Wd} {hb : Heap} {A : Around} {env : Env} {ρ : Rho}
theorem OpV.fmod {a b : Int} (h : 0 < b) : OpV W A .Mod (.int a) (.int b) (.int (a % b)) := by
  have := OpV.mod (W := W) (A := A) (a := a) (b := b) (by omega)
  rwa [Int.fmod_eq_emod_of_nonneg _ (by omega)] at this
theorem OpV.fdiv {a b : Int} (h : 0 < b) (h' : b.natAbs < 1073741824) : OpV W A .FloorDiv (.int a) (.int b) (.int (a / b)) := by
  have := OpV.div (W := W) (A := A) (a := a) (b := b) (by omega) (PyProof.noPylong_small h')
  rwa [Int.fdiv_eq_ediv_of_nonneg _ (by omega)] at this
theorem OpV.addB {a : Int} {b : Bool} : OpV W A .Add (.int a) (.bool b) (.int (a + if b = true then 1 else 0)) := fun s v₁ v₂ _ x y => by
  cases x; cases y; exact PySem.add_int_bool ⟨Ks.toks s _, .int _ _⟩
theorem CmpV.inT {a : Int} {ns : List Int} : CmpV W A .In (.int a) (.tuple (ns.map .int)) (ns.any fun x => x == a) := fun s v₁ v₂ _ x y => by
  cases x
  cases y with
  | tuple _ ht hv =>
    have hi : ∀ (ns : List Int) (vs : List Value), Vals W.av s.heap vs (ns.map PyData.int) → IntsAre vs ns := by
      intro ns
      induction ns with
      | nil => intro vs h; cases h; exact .nil
      | cons n ns ih => intro vs h; cases h with | cons x r => cases x; exact .cons _ _ (ih _ r)
    exact in_tuple_ints ht (by simpa using hi _ _ hv) ⟨rfl, Ks.refl s⟩

/-! calls of what is built in -/
theorem EV.callB {f : Str} {fp pos : Pos} {e : PySem.Expr} {es : List PySem.Expr} {id : String} {ds : List PyData} {d : PyData} {n : Nat} (hr : Rm n A) (hk : env.kindOf f = some .globalImplicit) (hf : nsIn W.K mainGlobals f = some .none) (hv : bootBuiltins f = some (.builtin id))
    (hs : EVs W hb A env ρ (e :: es) ds) (hc : CV W n (.builtin id) ds d) (hn : f ≠ "__name__" := by decide) (hd : (f == ("__debug__" : Str)) = false := by decide)
    (he : eval (.Call (.Name f fp) (e :: es) [] pos) env = (do callWith pos (← eval (.Name f fp) env) [] (backTo pos (starEach (e :: es) env)) (backToKw pos (keywordEach [] env))) := by rfl)
    (h1 : starEach (e :: es) env = (false, eval e env) :: starEach es env := by rfl) (h2 : (backTo pos (starEach es env)).any (·.1) = false := by rfl) : EV W hb A env ρ (.Call (.Name f fp) (e :: es) [] pos) d := fun s X =>
  Call_ (ev_builtin X hk hf hv (PyProof.Rows.callWith_builtin1 (wpAny_mono (hs s pos X) (fun vs s₁ q => wpAny_mono (hc A s₁ vs hr (X.good.keeps q.1.kp) q.2) (fun _ _ p => ⟨q.1.trans p.1, p.2⟩) fun _ _ x => x) fun _ _ x => x) h1 h2) hn hd) he
/-- a call of a built-in type: any end -/
theorem call_type {f : Str} {fp pos : Pos} {e : PySem.Expr} {es : List PySem.Expr} {T : String} {ds : List PyData} {s : Shared} {Q : Value → Shared → Prop} (X : St W hb env ρ s.heap) (hk : env.kindOf f = some .globalImplicit) (hf : nsIn W.K mainGlobals f = some .none) (hv : bootBuiltins f = some (.type T))
    (hs : EVs W hb A env ρ (e :: es) ds) (hc : ∀ s₁ vs, Ks s s₁ → Gd W s₁.heap → Vals W.av s₁.heap vs ds → wpAny W.M A (PySem.call (.type T) vs) Q NoE s₁) (hn : f ≠ "__name__" := by decide) (hd : (f == ("__debug__" : Str)) = false := by decide)
    (he : eval (.Call (.Name f fp) (e :: es) [] pos) env = (do callWith pos (← eval (.Name f fp) env) [] (backTo pos (starEach (e :: es) env)) (backToKw pos (keywordEach [] env))) := by rfl)
    (h1 : starEach (e :: es) env = (false, eval e env) :: starEach es env := by rfl) (h2 : (backTo pos (starEach es env)).any (·.1) = false := by rfl) : wpAny W.M A (eval (.Call (.Name f fp) (e :: es) [] pos) env) Q NoE s :=
  Call_ (ev_builtin X hk hf hv (PyProof.Rows.callWith_type1 (wpAny_mono (hs s pos X) (fun vs s₁ q => hc s₁ vs q.1 (X.good.keeps q.1.kp) q.2) fun _ _ x => x) h1 h2) hn hd) he
theorem EV.callT {f : Str} {fp pos : Pos} {e : PySem.Expr} {es : List PySem.Expr} {T : String} {ds : List PyData} {d : PyData} {n : Nat} (hr : Rm n A) (hk : env.kindOf f = some .globalImplicit) (hf : nsIn W.K mainGlobals f = some .none) (hv : bootBuiltins f = some (.type T))
    (hs : EVs W hb A env ρ (e :: es) ds) (hc : CV W n (.type T) ds d) (hn : f ≠ "__name__" := by decide) (hd : (f == ("__debug__" : Str)) = false := by decide)
    (he : eval (.Call (.Name f fp) (e :: es) [] pos) env = (do callWith pos (← eval (.Name f fp) env) [] (backTo pos (starEach (e :: es) env)) (backToKw pos (keywordEach [] env))) := by rfl)
    (h1 : starEach (e :: es) env = (false, eval e env) :: starEach es env := by rfl) (h2 : (backTo pos (starEach es env)).any (·.1) = false := by rfl) : EV W hb A env ρ (.Call (.Name f fp) (e :: es) [] pos) d := fun _ X =>
  call_type X hk hf hv hs (fun s₁ vs k G v => wpAny_mono (hc A s₁ vs hr G v) (fun _ _ p => ⟨k.trans p.1, p.2⟩) fun _ _ x => x) hn hd he h1 h2
theorem CV.len {ds : List PyData} (h : ds.length < 2 ^ 62) : CV W 0 (.builtin "len") [.list ds] (.int ds.length) := fun A s vs _ _ x => by
  cases x with
  | cons x r =>
    cases r
    cases x with
    | list _ hl hv =>
      have e : (List.toArray _).size = ds.length := (List.size_toArray ..).trans hv.length
      exact len_list hl (by rw [e]; omega) ⟨Ks.toks s _, by rw [e]; exact .int _ _⟩
theorem CV.int {a : Int} : CV W 0 (.type "int") [.int a] (.int a) := fun A s vs _ _ x => by
  cases x with
  | cons x r =>
    cases r
    cases x
    exact call_int_int ⟨Ks.refl s, .int _ _⟩
theorem CV.divmod {a b : Int} (h : 0 < b) (h' : b.natAbs < 1073741824) : CV W 0 (.builtin "divmod") [.int a, .int b] (.tuple [.int (a / b), .int (a % b)]) := fun A s vs _ G x => by
  cases x with
  | cons x r =>
    cases r with
    | cons y r =>
      cases r
      cases x
      cases y
      rw [← Int.fmod_eq_emod_of_nonneg a (Int.le_of_lt h), ← Int.fdiv_eq_ediv_of_nonneg a (Int.le_of_lt h)]
      exact divmod_int (by omega) ⟨Ks.of (Kp.push _ _), .tuple (G.off (Nat.le_refl _)) ⟨_, Heap.get?_push_size _ rfl, rfl, _, rfl⟩ (.cons (.int _ _) (.cons (.int _ _) .nil))⟩ (.inl (PyProof.noPylong_small h'))

/-! lists joined, lists repeated -/
theorem OpV.addL {ds es : List PyData} (hz : ds.length + es.length ≤ sizeLine) : OpV W A .Add (.list ds) (.list es) (.list (ds ++ es)) := fun s v₁ v₂ G x y => by
  cases x with
  | @list a vs _ _ hl hv =>
    cases y with
    | @list b ws _ _ hl' hv' =>
      obtain ⟨⟨c₁, e₁, t₁, z₁⟩, ho, hc, n, hd⟩ := id hl
      obtain ⟨⟨c₂, e₂, t₂, z₂⟩, ho', hc', n', hd'⟩ := id hl'
      simp only at hc hd hc' hd'
      subst hc hd hc' hd'
      have q : vs.toArray.size + ws.toArray.size ≤ sizeLine := by rw [List.size_toArray, List.size_toArray, hv.length, hv'.length]; exact hz
      refine concat_meets ⟨_, ho, rfl⟩ ⟨_, ho', rfl⟩ noFill_list_add seq_list_add PySem.F.slot_list_add PySem.F.entry_list_add (PySem.F.args_list_add_2 _ _) (list_addW a b vs.toArray ws.toArray n n' e₁ e₂ z₁ z₂ q) ⟨ho, ho', ?_⟩
      rw [List.append_toArray]
      exact ⟨Ks.of (Kp.push _ _), .list (G.off (Nat.le_refl _)) ⟨_, Heap.get?_push_size _ rfl, rfl, _, rfl⟩ ((hv.append hv').keeps (Kp.push _ _))⟩
theorem rep_val {av : List Addr} {h : Heap} {vs : List Value} {ds : List PyData} (k : Nat) (hv : Vals av h vs ds) (ho : h.objs.size ∉ av) :
    Val av (h.push { cls := .type "list", data := .seq (List.foldl (fun x1 x2 => x1 ++ x2) #[] (List.replicate (if vs.toArray.isEmpty = true then 0 else k) vs.toArray)) }) (.ref h.objs.size) (.list (List.replicate k ds).flatten) := by
  rw [listMul_foldl_if]
  exact .list ho ⟨_, Heap.get?_push_size _ rfl, rfl, _, rfl⟩ ((hv.rep k).keeps (Kp.push _ _))
theorem OpV.mulL {ds : List PyData} {x : Int} (hlo : 0 ≤ x) (hhi : x < 2 ^ 63) (hz : ds.length * x.toNat ≤ 2 ^ 24) : OpV W A .Mult (.list ds) (.int x) (.list (List.replicate x.toNat ds).flatten) := fun s v₁ v₂ G p q => by
  cases q with
  | int _ u =>
    cases p with
    | @list a vs _ _ hl hv =>
      obtain ⟨⟨c₁, e₁, t₁, z₁⟩, ho, hc, n, hd⟩ := id hl
      simp only at hc hd
      subst hc hd
      have hz' : vs.toArray.size * x.toNat ≤ 2 ^ 24 := by rw [List.size_toArray, hv.length]; exact hz
      refine wpAny_binaryOp_repeat_ref (T := "list") (U := "int") (by decide) ⟨_, ho, rfl⟩ (fun s' => typeIs_int s' x u) noFill_list_mul F.fills_int_mul F.slot_int_rmul repeat_list F.slot_int_index.lookup
        (call_meets F.slot_int_rmul (typeIs_int s x u) F.entry_int_rmul (F.args_int_rmul_2 _ _) (lm_int_rmul_list_any x u a vs.toArray n e₁ z₁)
          ⟨ho, rfl, ⟨_, ho, rfl⟩, call_meets F.slot_list_mul ⟨_, ho, rfl⟩ F.entry_list_mul (F.args_list_mul_2 _ _)
            (lm_list_mul_any a vs.toArray n e₁ z₁ x u (by simp [Builtin.List.listFitsIndex]; omega) (by omega) (by simp [Builtin.List.listTooLong, sizeLine]; omega)) ⟨ho, ?_⟩⟩)
      exact ⟨Ks.of (Kp.push _ _), rep_val x.toNat hv (G.off (Nat.le_refl _))⟩
theorem OpV.mulR {ds : List PyData} {x : Int} (hlo : 0 ≤ x) (hhi : x < 2 ^ 63) (hz : ds.length * x.toNat ≤ 2 ^ 24) : OpV W A .Mult (.int x) (.list ds) (.list (List.replicate x.toNat ds).flatten) := fun s v₁ v₂ G q p => by
  cases q with
  | int _ u =>
    cases p with
    | @list a vs _ _ hl hv =>
      obtain ⟨⟨c₁, e₁, t₁, z₁⟩, ho, hc, n, hd⟩ := id hl
      simp only at hc hd
      subst hc hd
      have hz' : vs.toArray.size * x.toNat ≤ 2 ^ 24 := by rw [List.size_toArray, hv.length]; exact hz
      refine lm_binaryOp_repeat_right (T := "list") (U := "int") (by decide) (fun s' => typeIs_int s' x u) ⟨_, ho, rfl⟩ F.fills_int_mul noFill_list_mul F.slot_int_mul lm_noRepeat_int repeat_list F.slot_int_index.lookup
        (call_meets F.slot_int_mul (typeIs_int s x u) F.entry_int_mul (F.args_int_mul_2 _ _) (lm_int_mul_list_any x u a vs.toArray n e₁ z₁)
          ⟨ho, rfl, ⟨_, ho, rfl⟩, call_meets F.slot_list_mul ⟨_, ho, rfl⟩ F.entry_list_mul (F.args_list_mul_2 _ _)
            (lm_list_mul_any a vs.toArray n e₁ z₁ x u (by simp [Builtin.List.listFitsIndex]; omega) (by omega) (by simp [Builtin.List.listTooLong, sizeLine]; omega)) ⟨ho, ?_⟩⟩)
      exact ⟨Ks.of (Kp.push _ _), rep_val x.toNat hv (G.off (Nat.le_refl _))⟩

/-! slices -/
def EP (W : Wd) (hb : Heap) (A : Around) (env : Env) (ρ : Rho) (e : Option PySem.Expr) (k : Option Int) : Prop :=
  ∀ s, St W hb env ρ s.heap → wpAny W.M A (evalPart e env) (fun v s' => Ks s s' ∧ IsPart v k) NoE s
theorem EP.none : EP W hb A env ρ .none .none := fun s _ => by rw [evalPart_none]; exact wpAny_pure ⟨Ks.refl s, .none⟩
theorem EP.some {e : PySem.Expr} {i : Int} (h : EV W hb A env ρ e (.int i)) : EP W hb A env ρ (.some e) (.some i) := fun s X => by
  rw [evalPart_some]
  exact wpAny_mono (h s X) (fun v s' q => ⟨q.1, by obtain ⟨_, x⟩ := q; cases x; exact .int _ _⟩) fun _ _ x => x
theorem slice_run {lower upper : Option PySem.Expr} {p : Pos} {lo hi : Option Int} (h₁ : EP W hb A env ρ lower lo) (h₂ : EP W hb A env ρ upper hi) (s : Shared) (X : St W hb env ρ s.heap) :
    wpAny W.M A (eval (.Slice lower upper .none p) env) (fun v s' => Ks s s' ∧ ∃ sl vl vu, v = .ref sl ∧ s'.heap.IsSliceOf sl vl vu .none ∧ IsPart vl lo ∧ IsPart vu hi) NoE s :=
  wpAny_Slice (wpAny_mono (h₁ s X) (fun vl s₁ q₁ => wpAny_mono (h₂ s₁ (X.keeps q₁.1.kp)) (fun vu s₂ q₂ => by
    rw [evalPart_none]
    exact wpAny_pure ⟨(q₁.1.trans q₂.1).trans (Ks.of (n := s₂.toks) (Kp.push _ _)), _, vl, vu, rfl, Heap.IsSliceOf.new .., q₁.2, q₂.2⟩) fun _ _ x => x) fun _ _ x => x)
theorem EV.sliceL {value : PySem.Expr} {lower upper : Option PySem.Expr} {p pos : Pos} {lo hi : Option Int} {ds : List PyData} {a b : Nat} (h : EV W hb A env ρ value (.list ds)) (h₁ : EP W hb A env ρ lower lo) (h₂ : EP W hb A env ρ upper hi)
    (hz : ds.length ≤ sizeLine) (e : sliceBounds lo hi .none ds.length = ((a : Int), (b : Int), 1)) : EV W hb A env ρ (.Subscript value (.Slice lower upper .none p) pos) (.list ((ds.drop a).take (b - a))) :=
  sub_run (P := fun v h => ∃ sl vl vu, v = .ref sl ∧ h.IsSliceOf sl vl vu .none ∧ IsPart vl lo ∧ IsPart vu hi) list_type h (fun s X => slice_run h₁ h₂ s X) (fun s o j G x y => by
    obtain ⟨sl, vl, vu, rfl, hsl, pl, pu⟩ := y
    cases x with
    | @list c vs _ _ hl hv =>
      have n : vs.toArray.size = ds.length := by rw [List.size_toArray, hv.length]
      refine wpAny_getItem_list_slice hl hsl pl pu .none (by simp) ⟨Ks.of (n := s.toks) (Kp.push _ _), ?_⟩ (by rw [n]; exact hz)
      rw [kmk_pick_nat vs.toArray (by rw [n]; exact e)]
      exact .list (G.off (Nat.le_refl _)) ⟨_, Heap.get?_push_size _ rfl, rfl, _, rfl⟩ (((hv.drop a).take (b - a)).keeps (Kp.push _ _))) fun o j => .inr rfl
theorem slice_part {M : Model} {E : Value → Shared → Prop} {s : Shared} {v : Value} {k : Option Int} {Q : Option Int → Shared → Prop} (hv : IsPart v k) (h : Q k s) : wpAny M A (Builtin.Slice.slicePartIndex v) Q E s := by
  cases hv with
  | none => exact wpAny_pure h
  | int i t =>
    unfold Builtin.Slice.slicePartIndex
    rw [if_neg (show ¬ ((Value.int i t == Value.none) = true) from Bool.false_ne_true)]
    refine wpAny_bind (wpAny_specialOf (T := "int") (typeIs_int s i t) int_index ?_)
    simp only [Option.isNone_some, Bool.false_eq_true, if_false]
    exact wpAny_bind (wpAny_of_eq (a := i) rfl (wpAny_pure h))
theorem take_range {α : Type} (l : List α) : ∀ n, (List.range n).filterMap (fun k => l[k]?) = l.take n
  | 0 => by simp
  | n + 1 => by
    rw [List.range_succ, List.filterMap_append, take_range l n, List.take_add_one]
    cases h : l[n]? <;> simp [h]
theorem getItem_tuple_upto {t sl : Addr} {vs : List Value} {vl vu : Value} {i : Int} {s : Shared} {Q : Value → Shared → Prop} (ht : s.heap.IsTuple t vs.toArray) (hs : s.heap.IsSliceOf sl vl vu .none) (pl : IsPart vl .none) (pu : IsPart vu (.some i)) (h0 : 0 ≤ i) (hz : vs.length ≤ sizeLine)
    (h : ∀ a h', Kp s.heap h' → (a = t ∨ s.heap.objs.size ≤ a) → h'.IsTuple a (vs.take i.toNat).toArray → Q (.ref a) { s with heap := h' }) : wpAny W.M A (getItem (.ref t) (.ref sl)) Q NoE s := by
  obtain ⟨os, hos, hcs, hds⟩ := id hs
  have hTs : s.TypeIs (.ref sl) "slice" := ⟨os, hos, hcs⟩
  have ht' : IsTup s.heap t vs.toArray := ht
  unfold getItem
  try with_reducible refine wpAny_holding ?_
  first | refine wpAny_bind (wpAny_pure ?_) | skip
  refine wpAny_bind (wpAny_sequenceKey ht'.typeIs (by decide) ?_)
  refine wpAny_bind (wpAny_callSpecial?_slot (name := Str.ofString "__getitem__") ht'.typeIs slot_tuple_getitem
    (wpAny_call_entry slot_tuple_getitem ht'.typeIs entry_tuple_getitem ?_ (args_tuple_getitem _ _)))
  show wpAny _ _ (Builtin.Tuple.tupleItemsOf (.ref t) >>= _) _ _ s
  refine wpAny_bind (tupleItemsOf_ ht' ?_)
  refine wpAny_bind (wpAny_typeOf hTs ?_)
  rw [if_pos (by decide)]
  refine wpAny_bind (m := Builtin.Slice.sliceApplied _ _) ?_
  unfold Builtin.Slice.sliceApplied Builtin.Slice.sliceFields
  refine wpAny_bind (wpAny_bind (wpAny_field hos hds (x := vl) rfl (wpAny_bind (wpAny_field hos hds (x := vu) rfl (wpAny_bind (wpAny_field hos hds (x := .none) rfl (wpAny_pure ?_)))))))
  refine wpAny_bind (slice_part .none ?_)
  rw [if_neg (by decide)]
  refine wpAny_bind (slice_part pl ?_)
  refine wpAny_bind (slice_part pu ?_)
  refine wpAny_bind (wpAny_pure (wpAny_pure ?_))
  have hn : Builtin.Slice.slicePlaces 0 (min i (vs.length : Int)) 1 = min i.toNat vs.length := by
    simp only [Builtin.Slice.slicePlaces]
    split <;> (try split) <;> omega
  simp only [Option.getD_none, if_neg (show ¬ ((1 : Int) < 0) by decide), if_neg (show ¬ i < 0 by omega), List.size_toArray, hn, beq_self_eq_true, Bool.true_and]
  have hall : (List.range (min i.toNat vs.length)).filterMap (fun k : Nat => vs.toArray[((0 : Int) + (k : Int) * 1).toNat]?) = vs.take i.toNat := by
    have : (fun k : Nat => vs.toArray[((0 : Int) + (k : Int) * 1).toNat]?) = fun k => vs[k]? := by
      funext k
      rw [show ((0 : Int) + (k : Int) * 1).toNat = k by omega, List.getElem?_toArray]
    rw [this, take_range, kmk_take_min]
  have tail : wpAny W.M A.in1 (Builtin.Tuple.tupleExact ((List.range (min i.toNat vs.length)).filterMap (fun k : Nat => vs.toArray[((0 : Int) + (k : Int) * 1).toNat]?)).toArray >>= fun v => PySem.ret v)
      (fun fin s' => ∃ v, fin = .done (.ret v) ∧ Q v s') NoE s := by
    rw [hall]
    unfold Builtin.Tuple.tupleExact
    refine wpAny_bind (wpAny_newObj_type (wpAny_pure ⟨_, rfl, h _ _ (Kp.push _ _) (.inr (Nat.le_refl _)) ⟨_, Heap.get?_push_size _ rfl, rfl, _, rfl⟩⟩) ?_)
    show (vs.take i.toNat).toArray.size ≤ sizeLine
    rw [List.size_toArray, List.length_take]
    omega
  by_cases c : (min i.toNat vs.length == vs.length) = true
  · rw [if_pos c]
    refine wpAny_bind (m := Builtin.Tuple.tupleIsExact _) ?_
    unfold Builtin.Tuple.tupleIsExact
    refine wpAny_bind (wpAny_typeOf ht'.typeIs (wpAny_pure ?_))
    rw [if_pos (by decide)]
    refine wpAny_bind (wpAny_rule (wpAny_pure ⟨_, rfl, wpAny_pure (h t s.heap (fun _ _ e => e) (.inl rfl) ?_)⟩))
    have : vs.take i.toNat = vs := List.take_of_length_le (by have := beq_iff_eq.mp c; omega)
    rw [this]; exact ht
  · rw [if_neg c]
    exact wpAny_mono tail (fun fin s' q => by obtain ⟨v, e, q⟩ := q; exact ⟨v, e, wpAny_pure q⟩) fun _ _ x => x
theorem EV.sliceT {value : PySem.Expr} {upper : Option PySem.Expr} {p pos : Pos} {i : Int} {ds : List PyData} (h : EV W hb A env ρ value (.tuple ds)) (h₂ : EP W hb A env ρ upper (.some i)) (h0 : 0 ≤ i)
    (hz : ds.length ≤ sizeLine) : EV W hb A env ρ (.Subscript value (.Slice .none upper .none p) pos) (.tuple (ds.take i.toNat)) :=
  sub_run (P := fun v h => ∃ sl vl vu, v = .ref sl ∧ h.IsSliceOf sl vl vu .none ∧ IsPart vl .none ∧ IsPart vu (.some i)) tuple_type h (fun s X => slice_run EP.none h₂ s X) (fun s o j G x y => by
    obtain ⟨sl, vl, vu, rfl, hsl, pl, pu⟩ := y
    cases x with
    | @tuple c vs _ hc hl hv =>
      refine getItem_tuple_upto hl hsl pl pu h0 (by rw [hv.length]; exact hz) fun a h' k ha ht => ⟨Ks.of (n := s.toks) k, .tuple ?_ ht ((hv.take _).keeps k)⟩
      rcases ha with rfl | ha
      · exact hc
      · exact G.off ha) fun o j => .inr rfl
end
end Mine
namespace Mine

/-- more addresses shut out -/
abbrev Wd.on (W : Wd) (X : List Addr) : Wd := ⟨W.prog, W.w, W.K, W.mg, W.mb, X ++ W.av⟩

theorem St.enter {W : Wd} {hb : Heap} {env : Env} {ρ : Rho} {h h' : Heap} {X : List Addr} (x : St W hb env ρ h) (k : Kp h h') (hX : ∀ b ∈ X, h.get? b = none) (hex : ∀ b ∈ X, ∃ o, h'.get? b = some o) : St (W.on X) hb env ρ h' := by
  have y := x.keeps k
  have ks : KpSeq W.av (X ++ W.av) h h' := fun b o _ _ m e _ => ⟨k _ _ e, fun q => (List.mem_append.mp q).elim (fun q => by rw [hX b q] at e; cases e) m⟩
  have none_hb : ∀ b ∈ X, hb.get? b = none := fun b m => by
    cases e : hb.get? b with
    | none => rfl
    | some o => have := x.keep _ _ e; rw [hX b m] at this; cases this
  exact {
    gd := ⟨y.gd.k, y.gd.g, y.gd.b, y.gd.bb, y.gd.lim, fun a o e q => (List.mem_append.mp q).elim (fun q => by have := y.gd.k _ _ e; rw [none_hb a q] at this; cases this) (y.gd.ko a o e)⟩
    av := fun a m => (List.mem_append.mp m).elim (hex a) (y.av a)
    keep := y.keep, kind := y.kind, glo := y.glo, bui := y.bui, lnew := y.lnew, cnew := y.cnew, cinj := y.cinj, call := y.call
    loc := let ⟨m, n, q⟩ := x.loc; ⟨m, n.keeps k, fun p hp e => let ⟨v, a, b⟩ := q p hp e; ⟨v, a, b.seq ks⟩⟩
    cel := fun p hp e => let ⟨c, v, a, b, d⟩ := x.cel p hp e; ⟨c, v, a, b.keeps k, d.seq ks⟩ }
theorem St.leave {W : Wd} {hb : Heap} {env : Env} {ρ : Rho} {h : Heap} {X : List Addr} (x : St (W.on X) hb env ρ h) : St W hb env ρ h := by
  have ks : KpSeq (X ++ W.av) W.av h h := fun b o _ _ m e _ => ⟨e, fun q => m (List.mem_append_right _ q)⟩
  exact {
    gd := ⟨x.gd.k, x.gd.g, x.gd.b, x.gd.bb, x.gd.lim, fun a o e q => x.gd.ko a o e (List.mem_append_right _ q)⟩
    av := fun a m => x.av a (List.mem_append_right _ m)
    keep := x.keep, kind := x.kind, glo := x.glo, bui := x.bui, lnew := x.lnew, cnew := x.cnew, cinj := x.cinj, call := x.call
    loc := let ⟨m, n, q⟩ := x.loc; ⟨m, n, fun p hp e => let ⟨v, a, b⟩ := q p hp e; ⟨v, a, b.seq ks⟩⟩
    cel := fun p hp e => let ⟨c, v, a, b, d⟩ := x.cel p hp e; ⟨c, v, a, b, d.seq ks⟩ }
/-- a step that turns addresses that are shut out -/
theorem St.but {W : Wd} {hb : Heap} {env : Env} {ρ : Rho} {h h' : Heap} {X : List Addr} (x : St W hb env ρ h) (k : ∀ b o, b ∉ X → h.get? b = some o → h'.get? b = some o) (hX : ∀ b ∈ X, b ∈ W.av) (hbX : ∀ b ∈ X, hb.get? b = none)
    (hL : env.locals ∉ X) (hc : ∀ y c, env.cells.lookup y = some c → c ∉ X) (hav : ∀ a ∈ W.av, ∃ o, h'.get? a = some o) : St W hb env ρ h' := by
  have ks : KpSeq W.av W.av h h' := fun b o _ _ m e _ => ⟨k _ _ (fun q => m (hX b q)) e, m⟩
  have kc : ∀ y c v, env.cells.lookup y = some c → h.IsCell c v → h'.IsCell c v := fun y c v e ⟨o, ho, hd⟩ => ⟨o, k _ _ (hc y c e) ho, hd⟩
  exact { x with
    av := hav
    keep := fun b o e => k _ _ (fun q => by rw [hbX b q] at e; cases e) (x.keep _ _ e)
    call := fun y c e => let ⟨v, q⟩ := x.call y c e; ⟨v, kc _ _ _ e q⟩
    loc := let ⟨m, n, q⟩ := x.loc; ⟨m, n.at' fun o e => k _ _ hL e, fun p hp e => let ⟨v, a, b⟩ := q p hp e; ⟨v, a, b.seq ks⟩⟩
    cel := fun p hp e => let ⟨c, v, a, b, d⟩ := x.cel p hp e; ⟨c, v, a, kc _ _ _ a b, d.seq ks⟩ }

theorem St.butLeave {W : Wd} {hb : Heap} {env : Env} {ρ : Rho} {h h' : Heap} {X : List Addr} (x : St (W.on X) hb env ρ h) (k : ∀ b o, b ∉ X → h.get? b = some o → h'.get? b = some o) (hX : ∀ b ∈ X, b ∉ W.av) (hbX : ∀ b ∈ X, hb.get? b = none)
    (hL : env.locals ∉ X) (hc : ∀ y c, env.cells.lookup y = some c → c ∉ X) : St W hb env ρ h' := by
  have ks : KpSeq (X ++ W.av) W.av h h' := fun b o _ _ m e _ => ⟨k _ _ (fun q => m (List.mem_append_left _ q)) e, fun q => m (List.mem_append_right _ q)⟩
  have kc : ∀ y c v, env.cells.lookup y = some c → h.IsCell c v → h'.IsCell c v := fun y c v e ⟨o, ho, hd⟩ => ⟨o, k _ _ (hc y c e) ho, hd⟩
  exact {
    gd := x.leave.gd
    av := fun a m => let ⟨o, e⟩ := x.av a (List.mem_append_right _ m); ⟨o, k _ _ (fun q => hX a q m) e⟩
    keep := fun b o e => k _ _ (fun q => by rw [hbX b q] at e; cases e) (x.keep _ _ e)
    kind := x.kind, glo := x.glo, bui := x.bui, lnew := x.lnew, cnew := x.cnew, cinj := x.cinj
    call := fun y c e => let ⟨v, q⟩ := x.call y c e; ⟨v, kc _ _ _ e q⟩
    loc := let ⟨m, n, q⟩ := x.loc; ⟨m, n.at' fun o e => k _ _ hL e, fun p hp e => let ⟨v, a, b⟩ := q p hp e; ⟨v, a, b.seq ks⟩⟩
    cel := fun p hp e => let ⟨c, v, a, b, d⟩ := x.cel p hp e; ⟨c, v, a, kc _ _ _ a b, d.seq ks⟩ }

/-- an iterator over data -/
structure Wk (W : Wd) (A : Around) (tgt : PySem.Expr) (I : Addr) (fp wr : List Addr) (h₁ : Heap) (ds : List PyData) (Sx : Nat → Heap → Prop) : Prop where
  sub : ∀ b ∈ wr, b ∈ fp
  frame : ∀ i h h', Sx i h → (∀ b ∈ fp, ∀ o, h.get? b = some o → h'.get? b = some o) → Sx i h'
  ex : ∀ i h, Sx i h → ∀ b ∈ wr, ∃ o, h.get? b = some o
  item : ∀ (av : List Addr) (i : Nat) (s : Shared) (Q : Value → Shared → Prop) (d : PyData), ds[i]? = some d → Sx i s.heap → (∀ b ∈ wr, b ∈ av) → (∀ a ∈ av, ∃ o, s.heap.get? a = some o) → KpSeq W.av av h₁ s.heap →
    (∀ v h' tk, Val av h' v d → Sx (i + 1) h' → (∀ b o, b ∉ wr → s.heap.get? b = some o → h'.get? b = some o) → Q v { s with heap := h', toks := tk }) →
    wpAny W.M A (pyNext (.ref I)) (fun r s₁ => ∃ v, r = some v ∧ wpAny W.M A (letOwnedTupleGo tgt (.ref I) v) (fun _ s₂ => Q v s₂) NoE s₁) NoE s
  done : ∀ (s : Shared) (Q : Shared → Prop), Sx ds.length s.heap → (∀ h' tk, (∀ b o, b ∉ wr → s.heap.get? b = some o → h'.get? b = some o) → Q { s with heap := h', toks := tk }) →
    wpAny W.M A (pyNext (.ref I)) (fun r s' => r = .none ∧ Q s') NoE s
  self : ∀ i (s : Shared) (Q : Value → Shared → Prop), Sx i s.heap → Q (.ref I) s → wpAny W.M A (pyIter (.ref I)) Q NoE s

/-- neither a namespace nor a cell -/
structure Nd (o : Obj) : Prop where
  dict : ∀ es n, o.data ≠ .dict es n
  cell : ∀ v, o.data ≠ .cell v
def IT (W : Wd) (hb : Heap) (A : Around) (env : Env) (ρ : Rho) (iter tgt : PySem.Expr) (ds : List PyData) : Prop :=
  ∀ s, St W hb env ρ s.heap → wpAny W.M A (eval iter env) (fun xv s₁ => wpAny W.M A (pyIter xv) (fun it s₂ => Ks s s₂ ∧ ∃ (h₁ : Heap) (I : Addr) (fp wr : List Addr) (Sx : Nat → Heap → Prop), it = .ref I ∧ Wk W A tgt I fp wr h₁ ds Sx ∧ Sx 0 s₂.heap ∧
    Kp s.heap h₁ ∧ Kp h₁ s₂.heap ∧ (∀ b ∈ wr, h₁.get? b = none) ∧ (∀ b ∈ fp, (∃ o, s₂.heap.get? b = some o ∧ Nd o) ∧ b ∉ W.av)) NoE s₁) NoE s
/-- a target's assignment -/
def AS (W : Wd) (hb : Heap) (A : Around) (env : Env) (t : PySem.Expr) (ρ : Rho) (d : PyData) (ρ' : Rho) : Prop :=
  ∀ s v, St W hb env ρ s.heap → Val W.av s.heap v d → wpAny W.M A (assign t env v) (fun _ s' => Sm s s' ∧ KpB env s.heap s'.heap ∧ St W hb env ρ' s'.heap) NoE s

section
variable {W : Wd} {hb : Heap} {A : Around} {env : Env} {ρ : Rho}
theorem AS.name {x : Str} {p : Pos} {d : PyData} {ρ' : Rho} (hρ : Set ρ x d ρ') (hk : env.kindOf x = some .local ∨ (env.kindOf x = some .cell ∧ (env.cells.lookup x).isSome = true)) : AS W hb A env (.Name x p) ρ d ρ' := fun s v X hv =>
  wpAny_assign_Name (store X hv hk hρ)
theorem Kp.ext {h h' : Heap} (e : Heap.ExtBut h.objs.size h h') : Kp h h' := fun b o q => e b o (Nat.ne_of_lt (Heap.lt_size q)) q
theorem AS.pair {t₁ t₂ : PySem.Expr} {k : Nat} {pos : Pos} {d₁ d₂ : PyData} {ρ₁ ρ₂ : Rho} (hh : A.handled = .none) (h₁ : AS W hb A env t₁ ρ d₁ ρ₁) (h₂ : AS W hb A env t₂ ρ₁ d₂ ρ₂)
    (he : assignEach [t₁, t₂] env = [(false, assign t₁ env), (false, assign t₂ env)] := by rfl) : AS W hb A env (.Tuple [t₁, t₂] k pos) ρ (.tuple [d₁, d₂]) ρ₂ := fun s v X hv => by
  cases hv with
  | @tuple a vs _ ha ht hv =>
    cases hv with
    | @cons v₁ _ vs _ x₁ r =>
      cases r with
      | @cons v₂ _ vs _ x₂ r =>
        cases r
        refine wpAny_assign_Tuple hh ht (by rw [he]; rfl) (by rw [he]; rfl) fun h' e => ?_
        rw [he]
        have k := Kp.ext e
        have Y := X.keeps k
        show wpAny W.M A (assignInOrder [assign t₁ env, assign t₂ env] [v₁, v₂]) _ _ _
        refine wpAny_bind (wpAny_holding (wpAny_mono (h₁ { s with heap := h' } v₁ Y (x₁.keeps k)) (fun _ s₁ q₁ => ?_) fun _ _ x => x))
        refine wpAny_bind (wpAny_holding ?_)
        have y₂ : Val W.av s₁.heap v₂ d₂ := by
          obtain ⟨m, n, _⟩ := Y.loc
          refine (x₂.keeps k).seq fun b o items c m' e' hd => ⟨q₁.2.1 b o ?_ ?_ e', m'⟩
          · rintro rfl
            obtain ⟨o', es, ep, ho, hd', _⟩ := n
            rw [ho] at e'; cases e'; rw [hd] at hd'; cases hd'
          · rintro y c' hc rfl
            obtain ⟨u, o', ho, hd'⟩ := Y.call _ _ hc
            rw [ho] at e'; cases e'; rw [hd] at hd'; cases hd'
        refine wpAny_mono (h₂ s₁ v₂ q₁.2.2 y₂) (fun _ s₂ q₂ => wpAny_pure ⟨?_, ((KpB.of k).trans q₁.2.1).trans q₂.2.1, q₂.2.2⟩) fun _ _ x => x
        exact (Sm.of (s := s) (h := h') (n := s.toks)).trans (q₁.1.trans q₂.1)

theorem KpB.seq {av : List Addr} {h h' : Heap} (X : St W hb env ρ h) (k : KpB env h h') : KpSeq av av h h' := fun b o items c m' e' hd => by
  refine ⟨k b o ?_ ?_ e', m'⟩
  · rintro rfl
    obtain ⟨m, ⟨o', es, ep, ho, hd', _⟩, _⟩ := X.loc
    rw [ho] at e'; cases e'; rw [hd] at hd'; cases hd'
  · rintro y c' hc rfl
    obtain ⟨u, o', ho, hd'⟩ := X.call _ _ hc
    rw [ho] at e'; cases e'; rw [hd] at hd'; cases hd'

theorem EX.for {tgt iter : PySem.Expr} {body : List PySem.Stmt} {pos : Pos} {ds : List PyData} (ρs : Nat → Rho) (hI : IT W hb A env ρ iter tgt ds) (h0 : ∀ p ∈ ρs 0, p ∈ ρ)
    (turn : ∀ (X : List Addr) (i : Nat) (d : PyData), ds[i]? = some d → ∃ ρ₁, AS (W.on X) hb A env tgt (ρs i) d ρ₁ ∧ EXs (W.on X) hb A env ρ₁ body (.next (ρs (i + 1))))
    (hs : ∀ x, foldedSetIterable iter env x = pure x := by intro _; rfl) : EX W hb A env ρ (.For tgt iter body [] pos) (.next (ρs ds.length)) := fun s X => by
  refine wpAny_For (wpAny_mono (hI s X) (fun xv s₁ q => wpAny_mono q (fun it s₂ q => ?_) fun _ _ x => x) fun _ _ x => x) hs
  obtain ⟨k₂, h₁, I, fp, wr, Sx, rfl, Wx, st0, kh, kh', hwr, hfp⟩ := q
  have wr_s : ∀ b ∈ wr, s.heap.get? b = .none := fun b m => by
    cases e : s.heap.get? b with
    | none => rfl
    | some o => have := kh _ _ e; rw [hwr b m] at this; cases this
  have wr_hb : ∀ b ∈ wr, hb.get? b = .none := fun b m => by
    cases e : hb.get? b with
    | none => rfl
    | some o => have := X.keep _ _ e; rw [wr_s b m] at this; cases this
  have hL : env.locals ∉ fp := fun m => by
    obtain ⟨⟨o, e, n⟩, _⟩ := hfp _ m
    obtain ⟨_, ⟨o', es, ep, e', hd, _⟩, _⟩ := (X.keeps k₂.kp).loc
    rw [e] at e'; cases e'; exact n.dict _ _ hd
  have hc : ∀ y c, env.cells.lookup y = some c → c ∉ fp := fun y c hy m => by
    obtain ⟨⟨o, e, n⟩, _⟩ := hfp _ m
    obtain ⟨v, o', e', hd⟩ := (X.keeps k₂.kp).call _ _ hy
    rw [e] at e'; cases e'; exact n.cell _ hd
  have X2 : St (W.on wr) hb env (ρs 0) s₂.heap := (X.enter k₂.kp wr_s (Wx.ex _ _ st0)).forget h0
  have base : ∀ h, (∀ b o, b ≠ env.locals → (∀ x c, env.cells.lookup x = some c → b ≠ c) → b ∉ wr → s₂.heap.get? b = some o → h.get? b = some o) → KpSeq W.av (wr ++ W.av) h₁ h := fun h k b o items c m e hd => by
    have nw : b ∉ wr := fun q => by rw [hwr b q] at e; cases e
    refine ⟨k b o ?_ ?_ nw (kh' _ _ e), fun q => (List.mem_append.mp q).elim nw m⟩
    · rintro rfl
      obtain ⟨m, ⟨o', es, ep, ho, hd', _⟩, _⟩ := X.loc
      rw [kh _ _ ho] at e; cases e; rw [hd] at hd'; cases hd'
    · rintro y c' hc rfl
      obtain ⟨u, o', ho, hd'⟩ := X.call _ _ hc
      rw [kh _ _ ho] at e; cases e; rw [hd] at hd'; cases hd'
  refine codeAny_forLoop_any (fun n s' => ∃ i, i ≤ ds.length ∧ n = ds.length + 1 - i ∧ Sm s s' ∧ (∀ b o, b ≠ env.locals → (∀ x c, env.cells.lookup x = some c → b ≠ c) → b ∉ wr → s₂.heap.get? b = some o → s'.heap.get? b = some o) ∧
    Sx i s'.heap ∧ St (W.on wr) hb env (ρs i) s'.heap) ?_ (ds.length + 1) ⟨0, Nat.zero_le _, rfl, k₂.sm, fun _ _ _ _ _ e => e, st0, X2⟩
  rintro n s' ⟨i, hi, rfl, hsm, hk, hst, Y⟩
  by_cases hlt : i < ds.length
  · have hd : ds[i]? = some ds[i] := List.getElem?_eq_getElem hlt
    obtain ⟨ρ₁, ha, hb'⟩ := turn wr i ds[i] hd
    refine noE (wpAny_mono (Wx.item (wr ++ W.av) i s' (fun v s₃ => wpAny W.M A (PySem.assign tgt env v) (fun _ s₄ => wpAny W.M A (execs body env) (fun f s₅ => f = .next ∧ ∃ i', i' = i + 1 ∧ Sm s s₅ ∧
        (∀ b o, b ≠ env.locals → (∀ x c, env.cells.lookup x = some c → b ≠ c) → b ∉ wr → s₂.heap.get? b = some o → s₅.heap.get? b = some o) ∧ Sx i' s₅.heap ∧ St (W.on wr) hb env (ρs i') s₅.heap) NoE s₄) NoE s₃) ds[i] hd hst
      (fun b m => List.mem_append_left _ m) Y.av (base _ hk) (fun v h' tk hv hst' hk' => ?_)) (fun r s₁' q => ?_) fun _ _ x => x)
    · have Y' : St (W.on wr) hb env (ρs i) h' := Y.but hk' (fun b m => List.mem_append_left _ m) wr_hb (fun m => hL (Wx.sub _ m)) (fun y c e m => hc y c e (Wx.sub _ m)) fun a m => by
        by_cases q : a ∈ wr
        · exact Wx.ex _ _ hst' a q
        · obtain ⟨o, e⟩ := Y.av a m; exact ⟨o, hk' _ _ q e⟩
      refine wpAny_mono (ha { s' with heap := h', toks := tk } v Y' hv) (fun _ s₄ q₄ => wpAny_mono (hb' s₄ q₄.2.2) (fun f s₅ q₅ => ?_) fun _ _ x => x) fun _ _ x => x
      obtain ⟨rfl, m₅, k₅, Y₅⟩ := q₅
      have kk := q₄.2.1.trans k₅
      refine ⟨rfl, _, rfl, hsm.trans ((Sm.of (s := s') (h := h') (n := tk)).trans (q₄.1.trans m₅)), fun b o b1 b2 b3 e => kk b o b1 b2 (hk' b o b3 (hk b o b1 b2 b3 e)), ?_, Y₅⟩
      exact Wx.frame _ _ _ hst' fun b m o e => kk b o (fun q => hL (q ▸ m)) (fun y c e' q => hc y c e' (q ▸ m)) e
    · obtain ⟨v, rfl, q⟩ := q
      refine noE (wpAny_mono q (fun _ s₃ q => noE (wpAny_mono q (fun _ s₄ q => noE (wpAny_mono q (fun f s₅ q => ?_) fun _ _ x => x)) fun _ _ x => x)) fun _ _ x => x)
      obtain ⟨rfl, i', rfl, r1, r2, r3, r4⟩ := q
      exact ⟨_, by omega, i + 1, hlt, rfl, r1, r2, r3, r4⟩
  · obtain rfl : i = ds.length := by omega
    refine noE (wpAny_mono (Wx.done s' (fun s'' => Sm s s'' ∧ KpB env s.heap s''.heap ∧ St W hb env (ρs ds.length) s''.heap) hst fun h' tk hk' => ?_) (fun r s₁' q => ?_) fun _ _ x => x)
    · have Y' : St W hb env (ρs ds.length) h' := Y.butLeave hk' (fun b m n => (let ⟨o, e⟩ := X.av b n; by rw [wr_s b m] at e; cases e)) wr_hb (fun m => hL (Wx.sub _ m)) (fun y c e m => hc y c e (Wx.sub _ m))
      refine ⟨hsm.trans Sm.of, fun b o b1 b2 e => ?_, Y'⟩
      have nw : b ∉ wr := fun q => by rw [wr_s b q] at e; cases e
      exact hk' b o nw (hk b o b1 b2 nw (k₂.kp _ _ e))
    · obtain ⟨rfl, q⟩ := q
      exact wpAny_execs_nil ⟨rfl, q⟩
end
end Mine
namespace Mine
section
variable {W : Wd} {hb : Heap} {A : Around} {env : Env} {ρ : Rho}
theorem Vals.list_get {av : List Addr} {h : Heap} {vs : List Value} {ds : List PyData} (x : Vals av h vs ds) {i : Nat} {v : Value} (e : vs.toArray[i]? = some v) : ∃ d, ds[i]? = some d ∧ Val av h v d := by
  rw [List.getElem?_toArray] at e; exact x.of_get i e
theorem Wk.of {x : Str} {p : Pos} {I : Addr} {fp wr : List Addr} {n : Nat} {P : Nat → Value → Prop} {Sx : Nat → Heap → Prop} {h₁ : Heap} {ds : List PyData} (K : Walks W.prog W.w A I fp wr n P Sx) (hn : ds.length = n)
    (hP : ∀ i v, P i v → ∃ d, ds[i]? = some d ∧ Val W.av h₁ v d) (ex : ∀ i h, Sx i h → ∀ b ∈ wr, ∃ o, h.get? b = some o) : Wk W A (.Name x p) I fp wr h₁ ds Sx where
  sub := K.sub
  frame := K.frame
  ex := ex
  item := fun av i s Q d hd st hw _ ks hQ => by
    have hi : i < n := by rw [← hn]; exact (List.getElem?_eq_some_iff.mp hd).1
    refine K.item i s _ NoE hi st fun v h' tk hv st' k => ⟨v, rfl, ?_⟩
    obtain ⟨d', e, hv'⟩ := hP i v hv
    rw [hd] at e; cases e
    refine wpAny_pure (hQ v h' tk ((hv'.seq ks).seq fun b o _ _ m e _ => ⟨k b o (fun q => m (hw b q)) e, m⟩) st' k)
  done := fun s Q st hQ => K.done s _ NoE (hn ▸ st) fun h' tk k => ⟨rfl, hQ h' tk k⟩
  self := fun i s Q st hQ => K.self i s Q NoE st hQ
theorem Wk.ofT {elts : List PySem.Expr} {kk : Nat} {p : Pos} {I : Addr} {fp wr : List Addr} {n : Nat} {Pt : Nat → Array Value → Prop} {Sx : Nat → Heap → Prop} {Mid : Nat → Addr → Heap → Prop} {h₁ : Heap} {ds : List PyData} (K : WalksT W.prog W.w A I fp wr n Pt Sx Mid) (hn : ds.length = n)
    (hP : ∀ i vals, Pt i vals → ∃ es, ds[i]? = some (.tuple es) ∧ Vals W.av h₁ vals.toList es) (ex : ∀ i h, Sx i h → ∀ b ∈ wr, ∃ o, h.get? b = some o) : Wk W A (.Tuple elts kk p) I fp wr h₁ ds Sx where
  sub := K.sub
  frame := K.frame
  ex := ex
  item := fun av i s Q d hd st hw hav ks hQ => by
    have hi : i < n := by rw [← hn]; exact (List.getElem?_eq_some_iff.mp hd).1
    refine K.item i s _ NoE hi st fun T vals h' tk hv hT hI mid k => ⟨.ref T, rfl, ?_⟩
    obtain ⟨es, e, hv'⟩ := hP i vals hv
    rw [hd] at e; cases e
    refine K.go elts kk p i T { s with heap := h', toks := tk } _ NoE mid fun h'' st'' k'' => ?_
    have kk' : ∀ b o, b ∉ wr → s.heap.get? b = some o → h''.get? b = some o := fun b o m e => k'' b o m (k b o m e)
    refine hQ (.ref T) h'' tk (.tuple (vs := vals.toList) (fun m => ?_) ?_ ((hv'.seq ks).seq fun b o _ _ m e _ => ⟨kk' b o (fun q => m (hw b q)) e, m⟩)) st'' kk'
    · obtain ⟨o, e⟩ := hav T m
      exact Nat.lt_irrefl _ (Nat.lt_of_lt_of_le (Heap.lt_size e) hT)
    · obtain ⟨o, ho, r⟩ := hI
      exact ⟨o, k'' _ _ (K.apart i T h' mid) ho, by simpa using r⟩
  done := fun s Q st hQ => K.done s _ NoE (hn ▸ st) fun h' tk k => ⟨rfl, hQ h' tk k⟩
  self := fun i s Q st hQ => K.self i s Q NoE st hQ

theorem nd_fields {o : Obj} {vs : Array Value} (h : o.data = .fields vs) : Nd o := ⟨(fun _ _ e => by rw [h] at e; cases e), (fun _ e => by rw [h] at e; cases e)⟩
theorem nd_seq {o : Obj} {vs : Array Value} {n : Nat} (h : o.data = .seq vs n) : Nd o := ⟨(fun _ _ e => by rw [h] at e; cases e), (fun _ e => by rw [h] at e; cases e)⟩
theorem IT.list {e : PySem.Expr} {x : Str} {p : Pos} {ds : List PyData} (hh : A.handled = .none) (h : EV W hb A env ρ e (.list ds)) : IT W hb A env ρ e (.Name x p) ds := fun s X =>
  wpAny_mono (h s X) (fun v s₁ q => by
    obtain ⟨k, hv⟩ := q
    have off := (X.good.keeps k.kp).off (Nat.le_refl _)
    cases hv with
    | @list a vs _ ha hl hv =>
      have hlt : a < s₁.heap.objs.size := by obtain ⟨_, e, _⟩ := hl; exact Heap.lt_size e
      have hp := Kp.push s₁.heap { cls := .type "list_iterator", data := .fields #[.ref a, .int 0 0] }
      refine wpAny_pyIter_list hl ⟨k.trans (Ks.of (n := s₁.toks) hp), s₁.heap, s₁.heap.objs.size, _, _, _, rfl,
        Wk.of (Walks.list hh s₁.heap.objs.size a (Nat.ne_of_lt hlt) vs.toArray) (by rw [List.size_toArray, hv.length]) (fun i v e => hv.list_get e) (fun i h st b m => ?_), ⟨⟨_, Heap.get?_push_size _ rfl, rfl, rfl⟩, hl.push _⟩, k.kp, hp, fun b m => ?_, fun b m => ?_⟩
      · rw [List.mem_singleton.mp m]; obtain ⟨o, e, _⟩ := st.1; exact ⟨o, e⟩
      · rw [List.mem_singleton.mp m]; exact Heap.get?_none_of_le (Nat.le_refl _)
      · rcases List.mem_cons.mp m with rfl | m
        · exact ⟨⟨_, Heap.get?_push_size _ rfl, nd_fields rfl⟩, off⟩
        · rw [List.mem_singleton.mp m]; obtain ⟨o, ho, _, n, hd⟩ := hl; exact ⟨⟨o, hp _ _ ho, nd_seq hd⟩, ha⟩) fun _ _ x => x
theorem IT.tuple {e : PySem.Expr} {x : Str} {p : Pos} {ds : List PyData} (hh : A.handled = .none) (h : EV W hb A env ρ e (.tuple ds)) : IT W hb A env ρ e (.Name x p) ds := fun s X =>
  wpAny_mono (h s X) (fun v s₁ q => by
    obtain ⟨k, hv⟩ := q
    have off := (X.good.keeps k.kp).off (Nat.le_refl _)
    cases hv with
    | @tuple a vs _ ha hl hv =>
      have hlt : a < s₁.heap.objs.size := by obtain ⟨_, e, _⟩ := hl; exact Heap.lt_size e
      have hp := Kp.push s₁.heap { cls := .type "tuple_iterator", data := .fields #[.ref a, .int 0 0] }
      refine wpAny_pyIter_tuple hl ⟨k.trans (Ks.of (n := s₁.toks) hp), s₁.heap, s₁.heap.objs.size, _, _, _, rfl,
        Wk.of (Walks.tuple hh s₁.heap.objs.size a (Nat.ne_of_lt hlt) vs.toArray) (by rw [List.size_toArray, hv.length]) (fun i v e => hv.list_get e) (fun i h st b m => ?_), ⟨⟨_, Heap.get?_push_size _ rfl, rfl, rfl⟩, hl.push _⟩, k.kp, hp, fun b m => ?_, fun b m => ?_⟩
      · rw [List.mem_singleton.mp m]; obtain ⟨o, e, _⟩ := st.1; exact ⟨o, e⟩
      · rw [List.mem_singleton.mp m]; exact Heap.get?_none_of_le (Nat.le_refl _)
      · rcases List.mem_cons.mp m with rfl | m
        · exact ⟨⟨_, Heap.get?_push_size _ rfl, nd_fields rfl⟩, off⟩
        · rw [List.mem_singleton.mp m]; obtain ⟨o, ho, _, n, hd⟩ := hl; exact ⟨⟨o, hp _ _ ho, nd_seq hd⟩, ha⟩) fun _ _ x => x
/-- a range object, then its iterator -/
def rangeD (a c : Int) (n : Nat) : List PyData := (List.range n).map fun i : Nat => .int (a + (i : Int) * c)
theorem rangeD_length (a c : Int) (n : Nat) : (rangeD a c n).length = n := by simp [rangeD]
theorem rangeD_get (a c : Int) (n : Nat) {i : Nat} (h : i < n) : (rangeD a c n)[i]? = some (.int (a + (i : Int) * c)) := by simp [rangeD, h]
def EvRange (W : Wd) (hb : Heap) (A : Around) (env : Env) (ρ : Rho) (e : PySem.Expr) (a b c : Int) : Prop :=
  ∀ s, St W hb env ρ s.heap → wpAny W.M A (eval e env) (fun v s' => Ks s s' ∧ ∃ r t u x, v = .ref r ∧ IsRange s'.heap r a b c t u x) NoE s
theorem EvRange.one {pf pos : Pos} {e : PySem.Expr} {b : Int} (hk : env.kindOf (Str.ofString "range") = some .globalImplicit) (hf : nsIn W.K mainGlobals (Str.ofString "range") = some .none) (hv : bootBuiltins (Str.ofString "range") = some (.type "range"))
    (h : EV W hb A env ρ e (.int b)) (h1 : starEach [e] env = (false, eval e env) :: starEach [] env := by rfl) : EvRange W hb A env ρ (.Call (.Name (Str.ofString "range") pf) [e] [] pos) 0 b 1 := fun s X =>
  call_type X hk hf hv (EVs.cons h EVs.nil h1) (fun s₁ vs k G hvs => by
    cases hvs with
    | cons x r =>
      cases r; cases x
      exact PySem.call_range_1 ⟨k.trans (Ks.of (Kp.push _ _)), _, _, _, _, rfl, Heap.get?_push_size _ rfl⟩) (h1 := h1)
theorem EvRange.two {pf pos : Pos} {e₁ e₂ : PySem.Expr} {a b : Int} (hk : env.kindOf (Str.ofString "range") = some .globalImplicit) (hf : nsIn W.K mainGlobals (Str.ofString "range") = some .none) (hv : bootBuiltins (Str.ofString "range") = some (.type "range"))
    (h : EV W hb A env ρ e₁ (.int a)) (h' : EV W hb A env ρ e₂ (.int b)) (h1 : starEach [e₁, e₂] env = (false, eval e₁ env) :: starEach [e₂] env := by rfl) (h2 : starEach [e₂] env = (false, eval e₂ env) :: starEach [] env := by rfl) (h3 : (backTo pos (starEach [e₂] env)).any (·.1) = false := by rfl) :
    EvRange W hb A env ρ (.Call (.Name (Str.ofString "range") pf) [e₁, e₂] [] pos) a b 1 := fun s X =>
  call_type X hk hf hv (EVs.cons h (EVs.cons h' EVs.nil h2) h1) (fun s₁ vs k G hvs => by
    cases hvs with
    | cons x r =>
      cases r with
      | cons y r =>
        cases r; cases x; cases y
        exact PySem.call_range_2 ⟨k.trans (Ks.of (Kp.push _ _)), _, _, _, _, rfl, Heap.get?_push_size _ rfl⟩) (h1 := h1) (h2 := h3)
theorem EvRange.three {pf pos : Pos} {e₁ e₂ e₃ : PySem.Expr} {a b c : Int} (hk : env.kindOf (Str.ofString "range") = some .globalImplicit) (hf : nsIn W.K mainGlobals (Str.ofString "range") = some .none) (hv : bootBuiltins (Str.ofString "range") = some (.type "range"))
    (h : EV W hb A env ρ e₁ (.int a)) (h' : EV W hb A env ρ e₂ (.int b)) (h'' : EV W hb A env ρ e₃ (.int c)) (hc : 0 < c) (hc' : c.natAbs < 1073741824) (h1 : starEach [e₁, e₂, e₃] env = (false, eval e₁ env) :: starEach [e₂, e₃] env := by rfl) (h2 : starEach [e₂, e₃] env = (false, eval e₂ env) :: starEach [e₃] env := by rfl)
    (h3 : starEach [e₃] env = (false, eval e₃ env) :: starEach [] env := by rfl) (h4 : (backTo pos (starEach [e₂, e₃] env)).any (·.1) = false := by rfl) :
    EvRange W hb A env ρ (.Call (.Name (Str.ofString "range") pf) [e₁, e₂, e₃] [] pos) a b c := fun s X =>
  call_type X hk hf hv (EVs.cons h (EVs.cons h' (EVs.cons h'' EVs.nil h3) h2) h1) (fun s₁ vs k G hvs => by
    cases hvs with
    | cons x r =>
      cases r with
      | cons y r =>
        cases r with
        | cons z r =>
          cases r; cases x; cases y; cases z
          exact PySem.call_range_3 (by omega) ⟨k.trans (Ks.of (Kp.push _ _)), _, _, _, _, rfl, Heap.get?_push_size _ rfl⟩ (.inl (PyProof.noPylong_small hc'))) (h1 := h1) (h2 := h4)
theorem IT.range {e : PySem.Expr} {x : Str} {p : Pos} {a b c : Int} {n : Nat} (hh : A.handled = .none) (h : EvRange W hb A env ρ e a b c) (hs : Builtin.Range.small a b c = true) (hn : Builtin.Range.rangeSize a b c = (n : Int)) : IT W hb A env ρ e (.Name x p) (rangeD a c n) := fun s X =>
  wpAny_mono (h s X) (fun v s₁ q => by
    obtain ⟨k, r, t, u, z, rfl, hr⟩ := q
    have off := (X.good.keeps k.kp).off (Nat.le_refl _)
    have hp := Kp.push s₁.heap { cls := .type "range_iterator", data := .fields #[rawInt a, rawInt (Builtin.Range.rangeSize a b c), rawInt c] }
    have W0 : Walks W.prog W.w A s₁.heap.objs.size [s₁.heap.objs.size] [s₁.heap.objs.size] n (fun i v => i < n ∧ ∃ t, v = .int (a + i * c) t) (fun i h => IsRangeIter h s₁.heap.objs.size (a + (i : Nat) * c) ((n : Int) - (i : Nat)) c) := (Walks.range hh _ a c n).bound
    refine wpAny_pyIter_range hr hs ⟨k.trans (Ks.of (n := s₁.toks) hp), s₁.heap, s₁.heap.objs.size, _, _, _, rfl,
      Wk.of W0 (rangeD_length a c n) (fun i v e => ?_) (fun i h st b m => ?_), ?_, k.kp, hp, fun b m => ?_, fun b m => ?_⟩
    · obtain ⟨hi, t, rfl⟩ := e
      exact ⟨_, rangeD_get a c n hi, .int _ _⟩
    · rw [List.mem_singleton.mp m]; exact ⟨_, st⟩
    · show IsRangeIter _ _ _ _ _
      rw [hn]; simpa using Heap.get?_push_size _ rfl
    · rw [List.mem_singleton.mp m]; exact Heap.get?_none_of_le (Nat.le_refl _)
    · rw [List.mem_singleton.mp m]; exact ⟨⟨_, Heap.get?_push_size _ rfl, nd_fields rfl⟩, off⟩) fun _ _ x => x
/-- the items of two lists side by side -/
def zipD : List PyData → List PyData → List PyData := List.zipWith fun a b => .tuple [a, b]
theorem IT.zip {pf pos : Pos} {e₁ e₂ : PySem.Expr} {elts : List PySem.Expr} {kk : Nat} {p : Pos} {ds es : List PyData} (hh : A.handled = .none) (hk : env.kindOf (Str.ofString "zip") = some .globalImplicit) (hf : nsIn W.K mainGlobals (Str.ofString "zip") = some .none) (hv : bootBuiltins (Str.ofString "zip") = some (.type "zip"))
    (h : EV W hb A env ρ e₁ (.list ds)) (h' : EV W hb A env ρ e₂ (.list es)) (h1 : starEach [e₁, e₂] env = (false, eval e₁ env) :: starEach [e₂] env := by rfl) (h2 : starEach [e₂] env = (false, eval e₂ env) :: starEach [] env := by rfl) (h3 : (backTo pos (starEach [e₂] env)).any (·.1) = false := by rfl) :
    IT W hb A env ρ (.Call (.Name (Str.ofString "zip") pf) [e₁, e₂] [] pos) (.Tuple elts kk p) (zipD ds es) := fun s X =>
  call_type X hk hf hv (EVs.cons h (EVs.cons h' EVs.nil h2) h1) (fun s₁ vs k G hvs => by
    cases hvs with
    | cons x r =>
      cases r with
      | cons y r =>
        cases r
        cases x with
        | @list l1 xs _ ha1 hl1 hx =>
          cases y with
          | @list l2 ys _ ha2 hl2 hy =>
            have off : ∀ n, s₁.heap.objs.size ≤ n → n ∉ W.av := fun n h => G.off h
            have a1 : l1 < s₁.heap.objs.size := by obtain ⟨_, e, _⟩ := hl1; exact Heap.lt_size e
            have a2 : l2 < s₁.heap.objs.size := by obtain ⟨_, e, _⟩ := hl2; exact Heap.lt_size e
            refine call_zip_2 hl1 hl2 fun hh' hz hTI hTO hi1 hi2 hsz hkp => ?_
            have WT := WalksT.zip2 (prog := W.prog) (w := W.w) (A := A) hh _ _ _ _ _ l1 l2 (zipApart_new a1 a2) xs.toArray ys.toArray
            have hlen : (zipD ds es).length = min xs.toArray.size ys.toArray.size := by simp [zipD, hx.length, hy.length]
            have KW : Wk W A (.Tuple elts kk p) _ _ _ s₁.heap (zipD ds es) _ := Wk.ofT WT hlen (fun i vals e => by
              obtain ⟨u, v, eu, ev, rfl⟩ := e
              obtain ⟨d, ed, hd⟩ := hx.list_get eu
              obtain ⟨d', ed', hd'⟩ := hy.list_get ev
              exact ⟨[d, d'], by simp [zipD, List.getElem?_zipWith, ed, ed'], .cons hd (.cons hd' .nil)⟩) (fun i h st b m => by
              obtain ⟨q1, q2, ⟨a, b', q3⟩, ⟨o4, q4, _⟩, ⟨o5, q5, _⟩, _⟩ := st
              simp only [List.mem_cons, List.not_mem_nil, or_false] at m
              rcases m with rfl | rfl | rfl | rfl
              · exact ⟨_, q1⟩
              · exact ⟨_, q3⟩
              · exact ⟨_, q4⟩
              · exact ⟨_, q5⟩)
            have st0 : (IsZip hh' (s₁.heap.objs.size + 4) (s₁.heap.objs.size + 2) (s₁.heap.objs.size + 3) .none ∧ IsPair hh' (s₁.heap.objs.size + 2) (.ref s₁.heap.objs.size) (.ref (s₁.heap.objs.size + 1)) ∧ (∃ a b, IsPair hh' (s₁.heap.objs.size + 3) a b) ∧
              hh'.IsListIter s₁.heap.objs.size l1 0 ∧ hh'.IsListIter (s₁.heap.objs.size + 1) l2 0 ∧ hh'.IsList l1 xs.toArray ∧ hh'.IsList l2 ys.toArray) :=
              ⟨hz, hTI, ⟨_, _, hTO⟩, hi1, hi2, Heap.IsList.at hl1 (fun o e => hkp _ o e), Heap.IsList.at hl2 (fun o e => hkp _ o e)⟩
            refine KW.self 0 { s₁ with heap := hh' } _ st0 ⟨k.trans (Ks.of (n := s₁.toks) hkp), s₁.heap, _, _, _, _, rfl, KW, st0, k.kp, hkp, fun b m => ?_, fun b m => ?_⟩
            · refine Heap.get?_none_of_le ?_
              simp only [List.mem_cons, List.not_mem_nil, or_false] at m
              rcases m with rfl | rfl | rfl | rfl <;> omega
            · obtain ⟨q1, q2, ⟨a, b', q3⟩, ⟨o4, q4, _, q4'⟩, ⟨o5, q5, _, q5'⟩, ⟨o6, q6, _, n6, q6'⟩, ⟨o7, q7, _, n7, q7'⟩⟩ := st0
              simp only [List.mem_cons, List.not_mem_nil, or_false] at m
              rcases m with rfl | rfl | rfl | rfl | rfl | rfl | rfl
              · exact ⟨⟨_, q1, nd_fields rfl⟩, off _ (Nat.le_add_right _ _)⟩
              · exact ⟨⟨_, q2, nd_seq rfl⟩, off _ (Nat.le_add_right _ _)⟩
              · exact ⟨⟨_, q3, nd_seq rfl⟩, off _ (Nat.le_add_right _ _)⟩
              · exact ⟨⟨_, q4, nd_fields q4'⟩, off _ (Nat.le_refl _)⟩
              · exact ⟨⟨_, q5, nd_fields q5'⟩, off _ (Nat.le_add_right _ _)⟩
              · exact ⟨⟨_, q6, nd_seq q6'⟩, ha1⟩
              · exact ⟨⟨_, q7, nd_seq q7'⟩, ha2⟩) (h1 := h1) (h2 := h3)
/-- a list's items, numbered -/
def enumD (ds : List PyData) : List PyData := (List.range ds.length).zipWith (fun i d => .tuple [.int (i : Nat), d]) ds
theorem IT.enum {pf pos : Pos} {e₁ : PySem.Expr} {elts : List PySem.Expr} {kk : Nat} {p : Pos} {ds : List PyData} (hh : A.handled = .none) (hk : env.kindOf (Str.ofString "enumerate") = some .globalImplicit) (hf : nsIn W.K mainGlobals (Str.ofString "enumerate") = some .none) (hv : bootBuiltins (Str.ofString "enumerate") = some (.type "enumerate"))
    (h : EV W hb A env ρ e₁ (.list ds)) (h1 : starEach [e₁] env = (false, eval e₁ env) :: starEach [] env := by rfl) :
    IT W hb A env ρ (.Call (.Name (Str.ofString "enumerate") pf) [e₁] [] pos) (.Tuple elts kk p) (enumD ds) := fun s X =>
  call_type X hk hf hv (EVs.cons h EVs.nil h1) (fun s₁ vs k G hvs => by
    cases hvs with
    | cons x r =>
      cases r
      cases x with
      | @list l1 xs _ ha1 hl1 hx =>
        have off : ∀ n, s₁.heap.objs.size ≤ n → n ∉ W.av := fun n h => G.off h
        have a1 : l1 < s₁.heap.objs.size := by obtain ⟨_, e, _⟩ := hl1; exact Heap.lt_size e
        refine call_enumerate_list hl1 fun hh' he hi1 hsz hkp => ?_
        have WT := WalksT.enumerate (prog := W.prog) (w := W.w) (A := A) hh (s₁.heap.objs.size + 1) s₁.heap.objs.size l1 (Nat.ne_of_gt (Nat.lt_succ_self _)) (Nat.ne_of_lt (Nat.lt_succ_of_lt a1)) (Nat.ne_of_lt a1) xs.toArray
        have hlen : (enumD ds).length = xs.toArray.size := by simp [enumD, hx.length]
        have KW : Wk W A (.Tuple elts kk p) _ _ _ s₁.heap (enumD ds) _ := Wk.ofT WT hlen (fun i vals e => by
          obtain ⟨t, u, eu, rfl⟩ := e
          obtain ⟨d, ed, hd⟩ := hx.list_get eu
          have hi : i < ds.length := (List.getElem?_eq_some_iff.mp ed).1
          have hd' : ds[i] = d := by have q := List.getElem?_eq_getElem hi; rw [ed] at q; exact (Option.some.inj q).symm
          exact ⟨[.int i, d], by simp [enumD, hi, hd'], .cons (.int _ _) (.cons hd .nil)⟩) (fun i h st b m => by
          obtain ⟨⟨old, q1⟩, ⟨o4, q4, _⟩, _⟩ := st
          simp only [List.mem_cons, List.not_mem_nil, or_false] at m
          rcases m with rfl | rfl
          · exact ⟨_, q1⟩
          · exact ⟨_, q4⟩)
        have st0 : ((∃ old, IsEnum hh' (s₁.heap.objs.size + 1) s₁.heap.objs.size ((0 : Nat) : Int) old) ∧ hh'.IsListIter s₁.heap.objs.size l1 0 ∧ hh'.IsList l1 xs.toArray) :=
          ⟨⟨_, he⟩, hi1, Heap.IsList.at hl1 (fun o e => hkp _ o e)⟩
        refine KW.self 0 { s₁ with heap := hh' } _ st0 ⟨k.trans (Ks.of (n := s₁.toks) hkp), s₁.heap, _, _, _, _, rfl, KW, st0, k.kp, hkp, fun b m => ?_, fun b m => ?_⟩
        · refine Heap.get?_none_of_le ?_
          simp only [List.mem_cons, List.not_mem_nil, or_false] at m
          rcases m with rfl | rfl <;> omega
        · obtain ⟨⟨old, q1⟩, ⟨o4, q4, _, q4'⟩, ⟨o6, q6, _, n6, q6'⟩⟩ := st0
          simp only [List.mem_cons, List.not_mem_nil, or_false] at m
          rcases m with rfl | rfl | rfl
          · exact ⟨⟨_, q1, nd_fields rfl⟩, off _ (Nat.le_add_right _ _)⟩
          · exact ⟨⟨_, q4, nd_fields q4'⟩, off _ (Nat.le_refl _)⟩
          · exact ⟨⟨_, q6, nd_seq q6'⟩, ha1⟩) (h1 := h1)
end
end Mine
namespace Mine
theorem St.enterG {W : Wd} {hb : Heap} {env : Env} {ρ : Rho} {h h' : Heap} {av : List Addr} (x : St W hb env ρ h) (k : Kp h h') (hX : ∀ b ∈ av, b ∈ W.av ∨ h.get? b = none) (hex : ∀ b ∈ av, ∃ o, h'.get? b = some o) : St ⟨W.prog, W.w, W.K, W.mg, W.mb, av⟩ hb env ρ h' := by
  have y := x.keeps k
  have ks : KpSeq W.av av h h' := fun b o _ _ m e _ => ⟨k _ _ e, fun q => (hX b q).elim m fun q => by rw [q] at e; cases e⟩
  exact {
    gd := ⟨y.gd.k, y.gd.g, y.gd.b, y.gd.bb, y.gd.lim, fun a o e q => (hX a q).elim (y.gd.ko a o e) fun q => by
      have := x.keep _ _ (y.gd.k _ _ e); rw [q] at this; cases this⟩
    av := hex
    keep := y.keep, kind := y.kind, glo := y.glo, bui := y.bui, lnew := y.lnew, cnew := y.cnew, cinj := y.cinj, call := y.call
    loc := let ⟨m, n, q⟩ := x.loc; ⟨m, n.keeps k, fun p hp e => let ⟨v, a, b⟩ := q p hp e; ⟨v, a, b.seq ks⟩⟩
    cel := fun p hp e => let ⟨c, v, a, b, d⟩ := x.cel p hp e; ⟨c, v, a, b.keeps k, d.seq ks⟩ }

/-- all but the frame's namespace -/
def KpL (env : Env) (h h' : Heap) : Prop := ∀ b o, b ≠ env.locals → h.get? b = some o → h'.get? b = some o
theorem KpL.of {env : Env} {h h' : Heap} (k : Kp h h') : KpL env h h' := fun b o _ e => k b o e
theorem KpL.trans {env : Env} {h₁ h₂ h₃ : Heap} (x : KpL env h₁ h₂) (y : KpL env h₂ h₃) : KpL env h₁ h₃ := fun b o a e => y b o a (x b o a e)
theorem KpL.b {env : Env} {h h' : Heap} (k : KpL env h h') : KpB env h h' := fun b o a _ e => k b o a e
def ASL (W : Wd) (hb : Heap) (A : Around) (env : Env) (t : PySem.Expr) (ρ : Rho) (d : PyData) (ρ' : Rho) : Prop :=
  ∀ s v, St W hb env ρ s.heap → Val W.av s.heap v d → wpAny W.M A (PySem.assign t env v) (fun _ s' => Sm s s' ∧ KpL env s.heap s'.heap ∧ St W hb env ρ' s'.heap) NoE s

section
variable {W : Wd} {hb : Heap} {A : Around} {env : Env} {ρ : Rho}
theorem ASL.name {x : Str} {p : Pos} {d : PyData} {ρ' : Rho} (hρ : Set ρ x d ρ') (hk : env.kindOf x = some .local) : ASL W hb A env (.Name x p) ρ d ρ' := fun s v X hv => by
  obtain ⟨m, hn, _⟩ := X.loc
  exact wpAny_assign_Name (wpAny_storeName_local hk hn (fun h' hn' hs => ⟨Sm.of, fun b o a e => hs.extBut b o a e, X.storeL hn hn' hs hv hk hρ⟩) (by rw [X.kind]; rfl))
theorem ASL.pair {t₁ t₂ : PySem.Expr} {k : Nat} {pos : Pos} {d₁ d₂ : PyData} {ρ₁ ρ₂ : Rho} (hh : A.handled = .none) (h₁ : ASL W hb A env t₁ ρ d₁ ρ₁) (h₂ : ASL W hb A env t₂ ρ₁ d₂ ρ₂)
    (he : assignEach [t₁, t₂] env = [(false, PySem.assign t₁ env), (false, PySem.assign t₂ env)] := by rfl) : ASL W hb A env (.Tuple [t₁, t₂] k pos) ρ (.tuple [d₁, d₂]) ρ₂ := fun s v X hv => by
  cases hv with
  | @tuple a vs _ ha ht hv =>
    cases hv with
    | @cons v₁ _ vs _ x₁ r =>
      cases r with
      | @cons v₂ _ vs _ x₂ r =>
        cases r
        refine wpAny_assign_Tuple hh ht (by rw [he]; rfl) (by rw [he]; rfl) fun h' e => ?_
        rw [he]
        have k := Kp.ext e
        have Y := X.keeps k
        show wpAny W.M A (assignInOrder [PySem.assign t₁ env, PySem.assign t₂ env] [v₁, v₂]) _ _ _
        refine wpAny_bind (wpAny_holding (wpAny_mono (h₁ { s with heap := h' } v₁ Y (x₁.keeps k)) (fun _ s₁ q₁ => ?_) fun _ _ x => x))
        refine wpAny_bind (wpAny_holding ?_)
        refine wpAny_mono (h₂ s₁ v₂ q₁.2.2 ((x₂.keeps k).seq (q₁.2.1.b.seq Y))) (fun _ s₂ q₂ => wpAny_pure ⟨?_, ((KpL.of k).trans q₁.2.1).trans q₂.2.1, q₂.2.2⟩) fun _ _ x => x
        exact (Sm.of (s := s) (h := h') (n := s.toks)).trans (q₁.1.trans q₂.1)

/-- what a turn does behind its target -/
def Trn (W : Wd) (hb : Heap) (cenv : Env) (D : Addr) (BT : (Shared → Prop) → Shared → Prop) (ρ₀ ρ₁ : Rho) (os : List PyData) : Prop :=
  ∀ (s : Shared) (vs : List Value) (out : List PyData) (Fin : Shared → Prop), St W hb cenv ρ₁ s.heap → s.heap.IsList D vs.toArray → Vals W.av s.heap vs out → (out ++ os).length ≤ sizeLine →
    (∀ s' vs', Sm s s' → (∀ b o, b ≠ cenv.locals → b ≠ D → s.heap.get? b = some o → s'.heap.get? b = some o) → St W hb cenv ρ₀ s'.heap → s'.heap.IsList D vs'.toArray → Vals W.av s'.heap vs' (out ++ os) → Fin s') → BT Fin s

def upTo (os : Nat → List PyData) : Nat → List PyData
  | 0 => []
  | n + 1 => upTo os n ++ os n

theorem walk_core {Y : List Addr} {tgt : PySem.Expr} {I D : Addr} {fp wr : List Addr} {h₁ : Heap} {ds : List PyData} {Sx : Nat → Heap → Prop} {cenv : Env} {ρ₀ : Rho} {c : Code} {s : Shared} (BT : (Shared → Prop) → Shared → Prop) (os : Nat → List PyData)
    (Wx : Wk W A tgt I fp wr h₁ ds Sx) (hD : D ∈ Y ++ W.av) (st0 : Sx 0 s.heap) (hY : ∀ b ∈ Y, h₁.get? b = .none) (hwr : ∀ b ∈ wr, h₁.get? b = .none) (hwY : ∀ b ∈ wr, b ∉ Y ++ W.av) (hk1 : Kp h₁ s.heap) (hhb : Kp hb h₁)
    (hfp : ∀ b ∈ fp, b ≠ cenv.locals ∧ b ≠ D) (hfc : ∀ y a, cenv.cells.lookup y = some a → a ∉ wr ∧ a ≠ D) (hLD : cenv.locals ≠ D) (hL1 : ∀ o, h₁.get? cenv.locals = some o → ∀ items n, o.data ≠ .seq items n)
    (X0 : St ((W.on Y).on wr) hb cenv ρ₀ s.heap) {vs₀ : List Value} {out₀ : List PyData} (hl : s.heap.IsList D vs₀.toArray) (hV : Vals ((W.on Y).on wr).av s.heap vs₀ out₀) (hz : (out₀ ++ upTo os ds.length).length ≤ sizeLine)
    (turn : ∀ i d, ds[i]? = some d → ∃ ρ₁, ASL ((W.on Y).on wr) hb A cenv tgt ρ₀ d ρ₁ ∧ Trn ((W.on Y).on wr) hb cenv D BT ρ₀ ρ₁ (os i))
    (mono : ∀ (F G : Shared → Prop) s, (∀ s, F s → G s) → BT F s → BT G s)
    (loop : ∀ (J : Nat → Shared → Prop) (R : Shared → Prop), (∀ n s, J n s → wpAny W.M A (pyNext (.ref I)) (fun r s₁ => match r with
      | .none => R s₁
      | .some v => wpAny W.M A (letOwnedTupleGo tgt (.ref I) v) (fun _ s₁' => wpAny W.M A (PySem.assign tgt cenv v) (fun _ s₂ => BT (fun s₃ => ∃ m, m < n ∧ J m s₃) s₂) NoE s₁') NoE s₁) NoE s) → ∀ n s, J n s → codeAny W.M A c (fun r s' => r = .ok .next ∧ R s') s) :
    codeAny W.M A c (fun r s' => r = .ok .next ∧ Sm s s' ∧ (∀ b o, b ≠ cenv.locals → b ≠ D → b ∉ wr → s.heap.get? b = some o → s'.heap.get? b = some o) ∧ St (W.on Y) hb cenv ρ₀ s'.heap ∧
      ∃ vs, s'.heap.IsList D vs.toArray ∧ Vals (W.on Y).av s'.heap vs (out₀ ++ upTo os ds.length)) s := by
  have hLf : cenv.locals ∉ fp := fun m => (hfp _ m).1 rfl
  have hDf : D ∉ fp := fun m => (hfp _ m).2 rfl
  have hDw : D ∉ wr := fun m => hDf (Wx.sub _ m)
  have hLw : cenv.locals ∉ wr := fun m => hLf (Wx.sub _ m)
  have wr_hb : ∀ b ∈ wr, hb.get? b = .none := fun b m => by
    cases e : hb.get? b with
    | none => rfl
    | some o => have := hhb _ _ e; rw [hwr b m] at this; cases this
  have upLe : ∀ i, i ≤ ds.length → (upTo os i).length ≤ (upTo os ds.length).length := fun i hi => by
    have : ∀ k j, j ≤ k → (upTo os j).length ≤ (upTo os k).length := by
      intro k
      induction k with
      | zero => intro j hj; rw [Nat.le_zero.mp hj]; exact Nat.le_refl _
      | succ k ih =>
        intro j hj
        rcases Nat.lt_or_ge j (k + 1) with h | h
        · have := ih j (by omega); simp only [upTo, List.length_append]; omega
        · rw [show j = k + 1 by omega]; exact Nat.le_refl _
    exact this _ _ hi
  have base : ∀ h, (∀ b o, b ≠ cenv.locals → b ≠ D → b ∉ wr → s.heap.get? b = some o → h.get? b = some o) → KpSeq W.av ((W.on Y).on wr).av h₁ h := fun h k b o items n m e hd => by
    have nw : b ∉ wr := fun q => by rw [hwr b q] at e; cases e
    have nY : b ∉ Y := fun q => by rw [hY b q] at e; cases e
    refine ⟨k b o (fun q => hL1 o (q ▸ e) _ _ hd) (fun q => ?_) nw (hk1 _ _ e), fun q => ?_⟩
    · subst q
      exact (List.mem_append.mp hD).elim nY m
    · exact (List.mem_append.mp q).elim nw fun q => (List.mem_append.mp q).elim nY m
  refine loop (fun n s' => ∃ i vs, i ≤ ds.length ∧ n = ds.length + 1 - i ∧ Sm s s' ∧ (∀ b o, b ≠ cenv.locals → b ≠ D → b ∉ wr → s.heap.get? b = some o → s'.heap.get? b = some o) ∧
    Sx i s'.heap ∧ St ((W.on Y).on wr) hb cenv ρ₀ s'.heap ∧ s'.heap.IsList D vs.toArray ∧ Vals ((W.on Y).on wr).av s'.heap vs (out₀ ++ upTo os i)) _ ?_ (ds.length + 1) s
    ⟨0, vs₀, Nat.zero_le _, rfl, ⟨⟨s.heap, s.toks, rfl⟩⟩, fun _ _ _ _ _ e => e, st0, X0, hl, by simpa [upTo] using hV⟩
  rintro n s' ⟨i, vs, hi, rfl, hsm, hk, hst, Y', hlD, hVD⟩
  by_cases hlt : i < ds.length
  · have hd : ds[i]? = some ds[i] := List.getElem?_eq_getElem hlt
    obtain ⟨ρ₁, ha, hb'⟩ := turn i ds[i] hd
    refine wpAny_mono (Wx.item ((W.on Y).on wr).av i s' (fun v s₃ => wpAny W.M A (PySem.assign tgt cenv v) (fun _ s₄ => BT (fun s₅ => ∃ vs', Sm s s₅ ∧
        (∀ b o, b ≠ cenv.locals → b ≠ D → b ∉ wr → s.heap.get? b = some o → s₅.heap.get? b = some o) ∧ Sx (i + 1) s₅.heap ∧ St ((W.on Y).on wr) hb cenv ρ₀ s₅.heap ∧ s₅.heap.IsList D vs'.toArray ∧
        Vals ((W.on Y).on wr).av s₅.heap vs' (out₀ ++ upTo os (i + 1))) s₄) NoE s₃) ds[i] hd hst
      (fun b m => List.mem_append_left _ m) Y'.av (base _ hk) (fun v h' tk hv hst' hk' => ?_)) (fun r s₁' q => ?_) fun _ _ x => x
    · have Z : St ((W.on Y).on wr) hb cenv ρ₀ h' := Y'.but hk' (fun b m => List.mem_append_left _ m) wr_hb hLw (fun y c e => (hfc y c e).1) fun a m => by
        by_cases q : a ∈ wr
        · exact Wx.ex _ _ hst' a q
        · obtain ⟨o, e⟩ := Y'.av a m; exact ⟨o, hk' _ _ q e⟩
      have lD : h'.IsList D vs.toArray := hlD.at fun o e => hk' _ _ hDw e
      have vD : Vals ((W.on Y).on wr).av h' vs (out₀ ++ upTo os i) := hVD.seq fun b o _ _ m e _ => ⟨hk' _ _ (fun q => m (List.mem_append_left _ q)) e, m⟩
      refine wpAny_mono (ha { s' with heap := h', toks := tk } v Z hv) (fun _ s₄ q₄ => ?_) fun _ _ x => x
      have vD₄ := vD.seq (q₄.2.1.b.seq Z)
      have lD₄ : s₄.heap.IsList D vs.toArray := lD.at fun o e => q₄.2.1 _ _ (Ne.symm hLD) e
      refine hb' s₄ vs (out₀ ++ upTo os i) _ q₄.2.2 lD₄ vD₄ (by have := upLe (i + 1) hlt; rw [List.append_assoc]; show (out₀ ++ upTo os (i + 1)).length ≤ _; rw [List.length_append] at hz ⊢; omega) fun s₅ vs' m₅ k₅ Y₅ l₅ v₅ => ?_
      have kk : ∀ b o, b ≠ cenv.locals → b ≠ D → h'.get? b = some o → s₅.heap.get? b = some o := fun b o b1 b2 e => k₅ b o b1 b2 (q₄.2.1 b o b1 e)
      refine ⟨vs', hsm.trans ((Sm.of (s := s') (h := h') (n := tk)).trans (q₄.1.trans m₅)), fun b o b1 b2 b3 e => kk b o b1 b2 (hk' b o b3 (hk b o b1 b2 b3 e)), ?_, Y₅, l₅, by simpa [upTo, List.append_assoc] using v₅⟩
      exact Wx.frame _ _ _ hst' fun b m o e => kk b o (fun q => hLf (q ▸ m)) (fun q => hDf (q ▸ m)) e
    · obtain ⟨v, rfl, q⟩ := q
      refine wpAny_mono q (fun _ s₃ q => wpAny_mono q (fun _ s₄ q => mono _ _ _ (fun s₅ q => ?_) q) fun _ _ x => x) fun _ _ x => x
      obtain ⟨vs', r1, r2, r3, r4, r5, r6⟩ := q
      exact ⟨_, by omega, i + 1, vs', hlt, rfl, r1, r2, r3, r4, r5, r6⟩
  · obtain rfl : i = ds.length := by omega
    refine wpAny_mono (Wx.done s' (fun s'' => Sm s s'' ∧ (∀ b o, b ≠ cenv.locals → b ≠ D → b ∉ wr → s.heap.get? b = some o → s''.heap.get? b = some o) ∧ St (W.on Y) hb cenv ρ₀ s''.heap ∧
      ∃ vs, s''.heap.IsList D vs.toArray ∧ Vals (W.on Y).av s''.heap vs (out₀ ++ upTo os ds.length)) hst fun h' tk hk' => ?_) (fun r s₁' q => ?_) fun _ _ x => x
    · refine ⟨hsm.trans Sm.of, fun b o b1 b2 b3 e => hk' b o b3 (hk b o b1 b2 b3 e), Y'.butLeave hk' hwY wr_hb hLw (fun y c e => (hfc y c e).1), vs, hlD.at fun o e => hk' _ _ hDw e, ?_⟩
      exact hVD.seq fun b o _ _ m e _ => ⟨hk' _ _ (fun q => m (List.mem_append_left _ q)) e, fun q => m (List.mem_append_right _ q)⟩
    · obtain ⟨rfl, q⟩ := q
      exact q
end
end Mine
namespace Mine

abbrev testsOf (ifs : List PySem.Expr) (env : Env) : Sem Bool :=
  forIn ifs true fun c r => if r = true then do let ok ← isTrue c env (eval c env); pure (ForInStep.yield ok) else pure (ForInStep.yield r)
/-- one element is tested and put -/
def BT1 (W : Wd) (A : Around) (cenv : Env) (D : Addr) (ifs : List PySem.Expr) (elt : PySem.Expr) (Fin : Shared → Prop) (s : Shared) : Prop :=
  wpAny W.M A (testsOf ifs cenv) (fun ok s₃ => if ok = true then wpAny W.M A (eval elt cenv) (fun x s₄ => wpAny W.M A (PySem.call (.builtin "list.append") [.ref D, x]) (fun _ s₅ => Fin s₅) NoE s₄) NoE s₃ else Fin s₃) NoE s
theorem BT1.mono {W : Wd} {A : Around} {cenv : Env} {D : Addr} {ifs : List PySem.Expr} {elt : PySem.Expr} (F G : Shared → Prop) (s : Shared) (h : ∀ s, F s → G s) (x : BT1 W A cenv D ifs elt F s) : BT1 W A cenv D ifs elt G s :=
  wpAny_mono x (fun ok s₃ q => by
    cases ok with
    | true => exact wpAny_mono (show wpAny W.M A (eval elt cenv) _ NoE s₃ from q) (fun x s₄ q => wpAny_mono q (fun _ s₅ q => h _ q) fun _ _ x => x) fun _ _ x => x
    | false => exact h _ q) fun _ _ x => x
def CTs (W : Wd) (hb : Heap) (A : Around) (env : Env) (ρ : Rho) (ifs : List PySem.Expr) (b : Bool) : Prop :=
  ∀ s, St W hb env ρ s.heap → wpAny W.M A (testsOf ifs env) (fun ok s' => ok = b ∧ Ks s s') NoE s
section
variable {W : Wd} {hb : Heap} {A : Around} {env cenv : Env} {ρ ρ₀ ρ₁ : Rho} {D : Addr}
theorem CTs.nil : CTs W hb A env ρ [] true := fun s _ => wpAny_tests_nil ⟨rfl, Ks.refl s⟩
theorem CTs.one {c : PySem.Expr} {b : Bool} (h : ET W hb A env ρ c b) : CTs W hb A env ρ [c] b := fun s X => wpAny_tests_one (h s X)

theorem Trn.one {ifs : List PySem.Expr} {elt : PySem.Expr} {b : Bool} {d : PyData} (ht : CTs W hb A cenv ρ₁ ifs b) (he : b = true → EV W hb A cenv ρ₁ elt d) (hρ : ∀ p ∈ ρ₀, p ∈ ρ₁) (hD : D ∈ W.av) (hbD : hb.get? D = .none) (hLD : cenv.locals ≠ D)
    (hc : ∀ y a, cenv.cells.lookup y = some a → a ≠ D) : Trn W hb cenv D (BT1 W A cenv D ifs elt) ρ₀ ρ₁ (if b then [d] else []) := fun s vs out Fin X hl hv hz hF => by
  refine wpAny_mono (ht s X) (fun ok s₃ q => ?_) fun _ _ x => x
  obtain ⟨rfl, k⟩ := q
  have X₃ := X.keeps k.kp
  have l₃ : s₃.heap.IsList D vs.toArray := hl.at fun o e => k.kp _ _ e
  have v₃ := hv.keeps k.kp
  cases ok with
  | false =>
    show Fin s₃
    refine hF s₃ vs k.sm (fun b o _ _ e => k.kp _ _ e) (X₃.forget hρ) l₃ ?_
    simpa using v₃
  | true =>
    show wpAny W.M A (eval elt cenv) _ _ _
    refine wpAny_mono (he rfl s₃ X₃) (fun x s₄ q => ?_) fun _ _ x => x
    obtain ⟨k₄, hx⟩ := q
    have kk := k.trans k₄
    have l₄ : s₄.heap.IsList D vs.toArray := hl.at fun o e => kk.kp _ _ e
    have v₄ := hv.keeps kk.kp
    have X₄ := X.keeps kk.kp
    refine wpAny_list_append l₄ (fun h' hl' hs => ?_) (by rw [List.size_toArray, hv.length]; rw [List.length_append] at hz; omega)
    have kx : ∀ b o, b ∉ [D] → s₄.heap.get? b = some o → h'.get? b = some o := fun b o m e => hs.extBut b o (fun q => m (by rw [q]; exact .head _)) e
    have one : ∀ b ∈ [D], b = D := fun b m => List.mem_singleton.mp m
    have X₅ : St W hb cenv ρ₁ h' := X₄.but kx (fun b m => by rw [one b m]; exact hD) (fun b m => by rw [one b m]; exact hbD) (fun m => hLD (one _ m)) (fun y c e m => hc y c e (one _ m)) fun a m => by
      by_cases q : a = D
      · obtain ⟨o, e, _⟩ := hl'; exact ⟨o, q ▸ e⟩
      · obtain ⟨o, e⟩ := X₄.av a m; exact ⟨o, kx _ _ (fun z => q (one _ z)) e⟩
    refine hF _ (vs ++ [x]) (kk.sm.trans (Sm.of (n := s₄.toks))) (fun b o b1 b2 e => kx b o (fun m => b2 (one _ m)) (kk.kp _ _ e)) (X₅.forget hρ) (by simpa using hl') ?_
    exact (v₄.snoc hx).seq fun b o _ _ m e _ => ⟨kx _ _ (fun z => m (by rw [one _ z]; exact hD)) e, m⟩

theorem loop1 {tgt iter elt : PySem.Expr} {ifs : List PySem.Expr} {scope : Scope} {pos : Pos} {I : Addr} (J : Nat → Shared → Prop) (R : Shared → Prop)
    (turn : ∀ n s, J n s → wpAny W.M A (pyNext (.ref I)) (fun r s₁ => match r with
      | .none => R s₁
      | .some v => wpAny W.M A (letOwnedTupleGo tgt (.ref I) v) (fun _ s₁' => wpAny W.M A (PySem.assign tgt cenv v) (fun _ s₂ => BT1 W A cenv D ifs elt (fun s₃ => ∃ m, m < n ∧ J m s₃) s₂) NoE s₁') NoE s₁) NoE s) (n : Nat) (s : Shared) (h : J n s) :
    codeAny W.M A (.compLoop (.ListComp elt [⟨tgt, iter, ifs, 0⟩] scope pos) 0 (.ref I) (.ref D) cenv) (fun r s' => r = .ok .next ∧ R s') s := by
  refine codeAny_loop rfl J (fun n s hI => ?_) n h
  show wpAny _ A ((compTurn (.ListComp elt [⟨tgt, iter, ifs, 0⟩] scope pos) 0 (.ref I) (.ref D) cenv).onRaise (fun x => do noteFrame x cenv; theTreesLotGoes x)) _ _ s
  refine wpAny_noted ?_
  rw [compTurn_list]
  refine noE (wpAny_bind (wpAny_standAt (wpAny_bind (wpAny_mono (turn n s hI) (fun r s₁ h₁ => ?_) fun _ _ h' => h'))))
  cases r with
  | none => exact wpAny_pure ⟨rfl, h₁⟩
  | some v =>
    refine wpAny_bind (wpAny_mono h₁ (fun _ s₁' h₁' => ?_) fun _ _ h' => h')
    refine wpAny_bind (wpAny_mono h₁' (fun _ s₂ h₂ => wpAny_bind (wpAny_mono h₂ (fun ok s₃ h₃ => ?_) fun _ _ h' => h')) fun _ _ h' => h')
    cases ok with
    | false => exact wpAny_pure ⟨rfl, h₃⟩
    | true =>
      exact wpAny_bind (wpAny_bind (wpAny_mono h₃ (fun x s₄ h₄ => wpAny_bind (wpAny_mono h₄ (fun _ s₅ h₅ => wpAny_pure (wpAny_pure ⟨rfl, h₅⟩)) fun _ _ h' => h')) fun _ _ h' => h'))

/-- the names that a comprehension's own frame sees -/
structure Sees (env : Env) (scope : Scope) (cl : List (Str × Addr)) (ρ ρ₀ : Rho) : Prop where
  clos : closureFor scope env = pure cl
  cell : ∀ y ∈ scope.names, y.2 ≠ .cell
  kind : scope.kind = .function
  names : ∀ y ∈ scope.names, y.2 = .local → scope.names.lookup y.1 = some .local
  look : ∀ y c, cl.lookup y = some c → env.cells.lookup y = some c
  vis : ∀ p ∈ ρ₀, p ∈ ρ ∧ (env.kindOf p.1 = some .cell ∨ env.kindOf p.1 = some .free) ∧ (cl.lookup p.1).isSome = true ∧ (relabel scope env).names.lookup p.1 ≠ some .local
theorem St.comp {scope : Scope} {cl : List (Str × Addr)} {h' : Heap} {C : Addr} (X : St W hb env ρ h') (S : Sees env scope cl ρ ρ₀) (hC : hb.get? C = .none) (hn : h'.Ns C (fun _ => .none)) : St W hb (compEnvC scope cl C env) ρ₀ h' where
  gd := X.gd
  av := X.av
  keep := X.keep
  kind := S.kind
  glo := X.glo
  bui := X.bui
  lnew := hC
  cnew := fun x c e => X.cnew x c (S.look x c e)
  cinj := fun x y c e e' => X.cinj x y c (S.look _ _ e) (S.look _ _ e')
  call := fun x c e => X.call x c (S.look _ _ e)
  loc := ⟨_, hn, fun p hp e => absurd e (S.vis p hp).2.2.2⟩
  cel := fun p hp _ => by
    obtain ⟨hp, hk, hc, _⟩ := S.vis p hp
    obtain ⟨c, v, a, b, d⟩ := X.cel p hp hk
    obtain ⟨c', e⟩ := Option.isSome_iff_exists.mp hc
    have := S.look _ _ e
    rw [a] at this; cases this
    exact ⟨c, v, e, b, d⟩

theorem upTo_filterMap {ds : List PyData} (g : PyData → Option PyData) : upTo (fun i => (ds[i]?.bind g).toList) ds.length = ds.filterMap g := by
  have : ∀ k, k ≤ ds.length → upTo (fun i => (ds[i]?.bind g).toList) k = (ds.take k).filterMap g := by
    intro k
    induction k with
    | zero => intro _; rfl
    | succ k ih =>
      intro hk
      have hlt : k < ds.length := hk
      rw [upTo, ih (by omega), List.take_add_one, List.filterMap_append, List.getElem?_eq_getElem hlt]
      cases h : g ds[k] <;> simp [h]
  rw [this _ (Nat.le_refl _), List.take_length]
/-- what stands at a comprehension's start: the element list, the frame -/
theorem comp_start {tgt iter : PySem.Expr} {e : PySem.Expr} {scope : Scope} {cl : List (Str × Addr)} {pos : Pos} {ds : List PyData} {g : Comprehension} {gs : List Comprehension} {Q : Value → Shared → Prop} {s : Shared} {use : Option (Value → Sem Unit)}
    (hcl : clausesOf e = g :: gs) (hg : g.iter = iter) (hs : ∀ x, foldedSetIterable iter env x = pure x) (hI : IT W hb A env ρ iter tgt ds) (S : Sees env scope cl ρ ρ₀) (X : St W hb env ρ s.heap)
    (h : ∀ (h₁ : Heap) (I D C : Addr) (fp wr : List Addr) (Sx : Nat → Heap → Prop) (s₄ : Shared), Wk W A tgt I fp wr h₁ ds Sx → Sx 0 s₄.heap → Kp s.heap h₁ → Kp h₁ s₄.heap → Ks s s₄ → (∀ b ∈ wr, h₁.get? b = .none) → h₁.get? D = .none → h₁.get? C = .none → C ≠ D → (∀ b ∈ fp, b ≠ C ∧ b ≠ D) →
      (∀ y a, env.cells.lookup y = some a → a ∉ fp ∧ a ≠ C ∧ a ≠ D) → s₄.heap.IsList D #[] → St ((W.on [D]).on wr) hb (compEnvC scope cl C env) ρ₀ s₄.heap →
      codeAny W.M A (.compStart e 0 (.ref I) (.ref D) (compEnvC scope cl C env)) (compPost W.M A NoE use Q (.ref D) C) s₄) :
    wpAny W.M A (comprehension e scope env pos (newList []) false (eval iter env) use) Q NoE s := by
  subst hg
  refine wpAny_comprehension_free hcl hs S.clos S.kind S.names (wpAny_mono (hI s X) (fun xv s₁ q => wpAny_mono q (fun it s₂ q => ?_) fun _ _ x => x) fun _ _ x => x)
  obtain ⟨k₂, h₁, I, fp, wr, Sx, rfl, Wx, st0, kh, kh', hwr, hfp⟩ := q
  refine wpAny_newObj_type (wpAny_newFunctionEnv S.cell (by intro y hy; simp at hy) (fun hc hns hsb => ?_) S.kind)
  dsimp only at hns hsb ⊢
  generalize hH2 : s₂.heap.push { cls := .type "list", dict := none, data := .seq ([] : List Value).toArray } = H2 at hns hsb ⊢
  have hC : H2.objs.size = s₂.heap.objs.size + 1 := by rw [← hH2, Heap.size_push]
  have lt2 : ∀ b o, s₂.heap.get? b = some o → b ≠ H2.objs.size ∧ b ≠ s₂.heap.objs.size := fun b o e => by
    have := Heap.lt_size e
    exact ⟨by rw [hC]; exact Nat.ne_of_lt (Nat.lt_succ_of_lt this), Nat.ne_of_lt this⟩
  have old : Kp s₂.heap hc := fun b o e => hsb.extBut b o (lt2 b o e).1 (Heap.get?_push_of_some _ (hH2 ▸ Heap.get?_push_of_some _ e))
  have hCD : H2.objs.size ≠ s₂.heap.objs.size := by rw [hC]; exact Nat.succ_ne_self _
  have hacc : hc.get? s₂.heap.objs.size = some { cls := .type "list", dict := none, data := .seq ([] : List Value).toArray } := hsb.extBut _ _ (Ne.symm hCD) (Heap.get?_push_of_some _ (hH2 ▸ Heap.get?_push_size _ rfl))
  have no1 : ∀ a, s₂.heap.objs.size ≤ a → h₁.get? a = .none := fun a ha => by
    cases e : h₁.get? a with
    | none => rfl
    | some o => exact absurd (Heap.lt_size (kh' _ _ e)) (Nat.not_lt.mpr ha)
  have noS : ∀ a, h₁.get? a = .none → s.heap.get? a = .none := fun a ha => by
    cases e : s.heap.get? a with
    | none => rfl
    | some o => have := kh _ _ e; rw [ha] at this; cases this
  have kS : Kp s.heap hc := fun b o e => old _ _ (k₂.kp _ _ e)
  have X' : St ((W.on [s₂.heap.objs.size]).on wr) hb env ρ hc := X.enterG kS (fun b m => by
      rcases List.mem_append.mp m with m | m
      · exact .inr (noS _ (hwr b m))
      · rcases List.mem_append.mp m with m | m
        · rw [List.mem_singleton.mp m]; exact .inr (noS _ (no1 _ (Nat.le_refl _)))
        · exact .inl m) fun b m => by
      rcases List.mem_append.mp m with m | m
      · obtain ⟨o, e⟩ := Wx.ex _ _ st0 b m; exact ⟨o, old _ _ e⟩
      · rcases List.mem_append.mp m with m | m
        · rw [List.mem_singleton.mp m]; exact ⟨_, hacc⟩
        · obtain ⟨o, e⟩ := X.av b m; exact ⟨o, kS _ _ e⟩
  have cne : ∀ y a, env.cells.lookup y = some a → a ≠ H2.objs.size ∧ a ≠ s₂.heap.objs.size := fun y a e => by
    obtain ⟨v, o, ho, _⟩ := (X.keeps k₂.kp).call y a e
    exact lt2 a o ho
  have Sc := Wx.frame 0 _ _ st0 fun b _ o e => old b o e
  refine h h₁ I s₂.heap.objs.size H2.objs.size fp wr Sx _ Wx Sc kh (fun b o e => old _ _ (kh' _ _ e)) (k₂.trans (Ks.of old)) hwr (no1 _ (Nat.le_refl _)) (no1 _ (by rw [hC]; exact Nat.le_succ _)) hCD (fun b m => ?_) (fun y a e => ⟨fun m => ?_, cne y a e⟩) ⟨_, hacc, rfl, _, rfl⟩ ?_
  · obtain ⟨⟨o, e, _⟩, _⟩ := hfp b m; exact lt2 b o e
  · obtain ⟨⟨o, eo, nd⟩, _⟩ := hfp a m
    obtain ⟨v, o', eo', hd⟩ := (X.keeps k₂.kp).call y a e
    rw [eo] at eo'; cases eo'; exact nd.cell _ hd
  · refine St.comp X' S ?_ (by simpa using hns)
    cases e : hb.get? H2.objs.size with
    | none => rfl
    | some o => exact absurd rfl (lt2 _ _ (k₂.kp _ _ (X.keep _ _ e))).1
end
end Mine
namespace Mine
abbrev Wd.at (W : Wd) (av : List Addr) : Wd := ⟨W.prog, W.w, W.K, W.mg, W.mb, av⟩
section
variable {W : Wd} {hb : Heap} {A : Around} {env : Env} {ρ ρ₀ : Rho}

/-- the loop of a comprehension with one for -/
theorem comp_loop {tgt iter elt : PySem.Expr} {ifs : List PySem.Expr} {scope : Scope} {cl : List (Str × Addr)} {pos : Pos} {ds : List PyData} (g : PyData → Option PyData) {s s₄ : Shared} {h₁ : Heap} {I D C : Addr} {fp wr : List Addr} {Sx : Nat → Heap → Prop} {R : Result → Shared → Prop}
    (S : Sees env scope cl ρ ρ₀) (X : St W hb env ρ s.heap) (hz : ds.length ≤ sizeLine)
    (turn : ∀ (av : List Addr) (C : Addr) (i : Nat) (d : PyData), ds[i]? = some d → ∃ ρ₁, (∀ p ∈ ρ₀, p ∈ ρ₁) ∧ ASL (W.at av) hb A (compEnvC scope cl C env) tgt ρ₀ d ρ₁ ∧ CTs (W.at av) hb A (compEnvC scope cl C env) ρ₁ ifs (g d).isSome ∧
      ∀ d', g d = some d' → EV (W.at av) hb A (compEnvC scope cl C env) ρ₁ elt d')
    (Wx : Wk W A tgt I fp wr h₁ ds Sx) (st0 : Sx 0 s₄.heap) (kh : Kp s.heap h₁) (kh' : Kp h₁ s₄.heap) (k₄ : Ks s s₄) (hwr : ∀ b ∈ wr, h₁.get? b = .none) (hD1 : h₁.get? D = .none) (hC1 : h₁.get? C = .none) (hCD : C ≠ D) (hfp : ∀ b ∈ fp, b ≠ C ∧ b ≠ D)
    (hcl : ∀ y a, env.cells.lookup y = some a → a ∉ fp ∧ a ≠ C ∧ a ≠ D) (hl : s₄.heap.IsList D #[]) (X₄ : St ((W.on [D]).on wr) hb (compEnvC scope cl C env) ρ₀ s₄.heap)
    (fin : ∀ (s' : Shared) (vs : List Value), Sm s s' → Kp s.heap s'.heap → St (W.on [D]) hb (compEnvC scope cl C env) ρ₀ s'.heap → s'.heap.IsList D vs.toArray → Vals W.av s'.heap vs (ds.filterMap g) → R (.ok .next) s') :
    codeAny W.M A (.compStart (.ListComp elt [⟨tgt, iter, ifs, 0⟩] scope pos) 0 (.ref I) (.ref D) (compEnvC scope cl C env)) R s₄ := by
  have noS : ∀ a, h₁.get? a = .none → s.heap.get? a = .none := fun a ha => by
    cases e : s.heap.get? a with
    | none => rfl
    | some o => have := kh _ _ e; rw [ha] at this; cases this
  have nav : ∀ a, h₁.get? a = .none → a ∉ W.av := fun a ha m => by obtain ⟨o, e⟩ := X.av a m; rw [noS a ha] at e; cases e
  have hDhb : hb.get? D = .none := by
    cases e : hb.get? D with
    | none => rfl
    | some o => have := X.keep _ _ e; rw [noS D hD1] at this; cases this
  have loop := walk_core (W := W) (Y := [D]) (D := D) (c := .compLoop (.ListComp elt [⟨tgt, iter, ifs, 0⟩] scope pos) 0 (.ref I) (.ref D) (compEnvC scope cl C env)) (s := s₄) (vs₀ := []) (out₀ := []) (BT1 W A (compEnvC scope cl C env) D ifs elt) (fun i => (ds[i]?.bind g).toList) Wx
    (List.mem_append_left _ (.head _)) st0 (fun b m => by rw [List.mem_singleton.mp m]; exact hD1) hwr (fun b m q => by
      rcases List.mem_append.mp q with q | q
      · exact (hfp b (Wx.sub _ m)).2 (List.mem_singleton.mp q)
      · exact nav b (hwr b m) q) kh' (fun b o e => kh _ _ (X.keep _ _ e)) hfp (fun y a e => ⟨fun m => (hcl y a (S.look _ _ e)).1 (Wx.sub _ m), (hcl y a (S.look _ _ e)).2.2⟩) hCD (fun o e => by
        have e' : h₁.get? C = some o := e
        rw [hC1] at e'; cases e') X₄ hl .nil (by
        rw [List.nil_append, upTo_filterMap]
        exact Nat.le_trans (List.length_filterMap_le _ _) hz) (fun i d hd => by
      obtain ⟨ρ₁, hρ, ha, ht, he⟩ := turn ((W.on [D]).on wr).av C i d hd
      refine ⟨ρ₁, ha, ?_⟩
      have : (ds[i]?.bind g).toList = if (g d).isSome then [(g d).getD .none] else [] := by
        rw [hd, Option.bind_some]
        cases g d <;> rfl
      show Trn _ _ _ _ _ _ _ (ds[i]?.bind g).toList
      rw [this]
      exact Trn.one (W := (W.on [D]).on wr) ht (fun q => he _ (by obtain ⟨x, e⟩ := Option.isSome_iff_exists.mp q; rw [e]; rfl)) hρ (List.mem_append_right _ (List.mem_append_left _ (.head _))) hDhb hCD fun y a e => (hcl y a (S.look _ _ e)).2.2)
    (fun F G s h x => BT1.mono F G s h x) (fun J R t n s h => loop1 J R t n s h)
  have fin' : ∀ r s', (r = .ok .next ∧ Sm s₄ s' ∧ (∀ b o, b ≠ (compEnvC scope cl C env).locals → b ≠ D → b ∉ wr → s₄.heap.get? b = some o → s'.heap.get? b = some o) ∧ St (W.on [D]) hb (compEnvC scope cl C env) ρ₀ s'.heap ∧
      ∃ vs, s'.heap.IsList D vs.toArray ∧ Vals (W.on [D]).av s'.heap vs ([] ++ upTo (fun i => (ds[i]?.bind g).toList) ds.length)) → R r s' := by
    rintro r s' ⟨rfl, m, k, Y, vs, l, v⟩
    rw [List.nil_append, upTo_filterMap] at v
    refine fin s' vs (k₄.sm.trans m) (fun b o e => k b o (fun q => ?_) (fun q => ?_) (fun q => ?_) (k₄.kp _ _ e)) Y l (v.seq fun b o _ _ n e _ => ⟨e, fun q => n (List.mem_append_right _ q)⟩)
    · have q' : b = C := q
      have := noS C hC1; rw [← q', e] at this; cases this
    · have := noS D hD1; rw [← q, e] at this; cases this
    · have := noS b (hwr b q); rw [e] at this; cases this
  exact codeAny_compStart_list (codeAny_mono loop fin') (noE (Wx.self 0 s₄ _ st0 (codeAny_mono loop fin')))

theorem ns_ne_list {h : Heap} {C b : Addr} {m : Str → Option Value} {o : Obj} {items : Array Value} {n : Nat} (x : h.Ns C m) (e : h.get? b = some o) (hd : o.data = .seq items n) : b ≠ C := by
  rintro rfl
  obtain ⟨o', es, ep, ho, hd', _⟩ := x
  rw [ho] at e; cases e; rw [hd] at hd'; cases hd'

theorem EV.comp {tgt iter elt : PySem.Expr} {ifs : List PySem.Expr} {scope : Scope} {cl : List (Str × Addr)} {pos : Pos} {ds : List PyData} (g : PyData → Option PyData) (hI : IT W hb A env ρ iter tgt ds) (S : Sees env scope cl ρ ρ₀) (hz : ds.length ≤ sizeLine)
    (turn : ∀ (av : List Addr) (C : Addr) (i : Nat) (d : PyData), ds[i]? = some d → ∃ ρ₁, (∀ p ∈ ρ₀, p ∈ ρ₁) ∧ ASL (W.at av) hb A (compEnvC scope cl C env) tgt ρ₀ d ρ₁ ∧ CTs (W.at av) hb A (compEnvC scope cl C env) ρ₁ ifs (g d).isSome ∧
      ∀ d', g d = some d' → EV (W.at av) hb A (compEnvC scope cl C env) ρ₁ elt d')
    (hs : ∀ x, foldedSetIterable iter env x = pure x := by intro _; rfl) : EV W hb A env ρ (.ListComp elt [⟨tgt, iter, ifs, 0⟩] scope pos) (.list (ds.filterMap g)) := fun s X => by
  rw [eval_ListComp]
  refine comp_start (use := .none) rfl rfl hs hI S X fun h₁ I D C fp wr Sx s₄ Wx st0 kh kh' k₄ hwr hD1 hC1 hCD hfp hcl hl X₄ => ?_
  refine comp_loop g S X hz turn Wx st0 kh kh' k₄ hwr hD1 hC1 hCD hfp hcl hl X₄ fun s' vs m k Y l v => ?_
  obtain ⟨mm, hn, _⟩ := Y.loc
  have hn' : s'.heap.Ns C mm := hn
  refine ⟨mm, hn', fun h' hs' => ?_⟩
  have noS : ∀ a, h₁.get? a = .none → s.heap.get? a = .none := fun a ha => by
    cases e : s.heap.get? a with
    | none => rfl
    | some o => have := kh _ _ e; rw [ha] at this; cases this
  have kf : Kp s.heap h' := fun b o e => hs'.extBut b o (fun q => by have := noS C hC1; rw [← q, e] at this; cases this) (k _ _ e)
  obtain ⟨x, t, rfl⟩ := m
  refine ⟨Ks.of kf, .list (fun q => ?_) (l.extBut hs'.extBut (Ne.symm hCD)) (v.seq fun b o items n q e hd => ⟨hs'.extBut b o (ns_ne_list hn' e hd) e, q⟩)⟩
  obtain ⟨o, e⟩ := X.av D q
  rw [noS D hD1] at e; cases e

/-- the frame of a comprehension is let go -/
theorem St.letNs {h h' : Heap} {C : Addr} {m : Str → Option Value} (X : St W hb env ρ h) (n : h.Ns C m) (s : Heap.SameBut C h h') (hC : hb.get? C = .none) (hL : env.locals ≠ C) (hav : C ∉ W.av) : St W hb env ρ h' := by
  have ks : KpSeq W.av W.av h h' := fun b o items k q e hd => ⟨s.extBut b o (ns_ne_list n e hd) e, q⟩
  have kc : ∀ c v, h.IsCell c v → h'.IsCell c v := fun c v hc => hc.sameBut s fun q => by
    obtain ⟨o, ho, hd⟩ := hc
    obtain ⟨o', es, ep, ho', hd', _⟩ := n
    rw [q, ho'] at ho; cases ho; rw [hd] at hd'; cases hd'
  exact { X with
    av := fun a q => let ⟨o, e⟩ := X.av a q; ⟨o, s.extBut a o (fun z => hav (z ▸ q)) e⟩
    keep := fun b o e => s.extBut b o (fun z => by rw [z, hC] at e; cases e) (X.keep _ _ e)
    call := fun y c e => let ⟨v, q⟩ := X.call y c e; ⟨v, kc _ _ q⟩
    loc := let ⟨m, n, q⟩ := X.loc; ⟨m, n.sameBut s hL, fun p hp e => let ⟨v, a, b⟩ := q p hp e; ⟨v, a, b.seq ks⟩⟩
    cel := fun p hp e => let ⟨c, v, a, b, d⟩ := X.cel p hp e; ⟨c, v, a, kc _ _ b, d.seq ks⟩ }

theorem EX.assignComp {y : Str} {py spos : Pos} {tgt iter elt : PySem.Expr} {ifs : List PySem.Expr} {scope : Scope} {cl : List (Str × Addr)} {pos : Pos} {ds : List PyData} {ρ' : Rho} (g : PyData → Option PyData) (hI : IT W hb A env ρ iter tgt ds) (S : Sees env scope cl ρ ρ₀) (hz : ds.length ≤ sizeLine)
    (hρ : Set ρ y (.list (ds.filterMap g)) ρ') (hk : env.kindOf y = some .local)
    (turn : ∀ (av : List Addr) (C : Addr) (i : Nat) (d : PyData), ds[i]? = some d → ∃ ρ₁, (∀ p ∈ ρ₀, p ∈ ρ₁) ∧ ASL (W.at av) hb A (compEnvC scope cl C env) tgt ρ₀ d ρ₁ ∧ CTs (W.at av) hb A (compEnvC scope cl C env) ρ₁ ifs (g d).isSome ∧
      ∀ d', g d = some d' → EV (W.at av) hb A (compEnvC scope cl C env) ρ₁ elt d')
    (hsw : swapsWith (.ListComp elt [⟨tgt, iter, ifs, 0⟩] scope pos) (some (.Name y py)) spos.line env = pure true := by rfl) (hs : ∀ x, foldedSetIterable iter env x = pure x := by intro _; rfl) :
    EX W hb A env ρ (.Assign [.Name y py] (.ListComp elt [⟨tgt, iter, ifs, 0⟩] scope pos) spos) (.next ρ') := fun s X => by
  rw [exec_Assign_Name_used _ _ _ _ hsw]
  refine wpAny_bind (wpAny_standAt (wpAny_bind ?_))
  show wpAny _ A (do let _ ← comprehension (.ListComp elt [⟨tgt, iter, ifs, 0⟩] scope pos) scope env _ (newList []) false (eval iter env) (some (PySem.assign (.Name y py) env))) _ _ s
  refine wpAny_bind (wpAny_mono (comp_start (use := some (PySem.assign (.Name y py) env)) (Q := fun _ s' => OutP W hb env s (.next ρ') .next s') rfl rfl hs hI S X fun h₁ I D C fp wr Sx s₄ Wx st0 kh kh' k₄ hwr hD1 hC1 hCD hfp hcl hl X₄ => ?_)
    (fun _ s' hq => wpAny_pure (wpAny_pure hq)) fun _ _ e => e)
  refine comp_loop g S X hz turn Wx st0 kh kh' k₄ hwr hD1 hC1 hCD hfp hcl hl X₄ fun s' vs m k Y l v => ?_
  obtain ⟨mm, hn, _⟩ := Y.loc
  have hn' : s'.heap.Ns C mm := hn
  have noS : ∀ a, h₁.get? a = .none → s.heap.get? a = .none := fun a ha => by
    cases e : s.heap.get? a with
    | none => rfl
    | some o => have := kh _ _ e; rw [ha] at this; cases this
  have nav : ∀ a, h₁.get? a = .none → a ∉ W.av := fun a ha q => by obtain ⟨o, e⟩ := X.av a q; rw [noS a ha] at e; cases e
  have hLC : env.locals ≠ C := fun q => by
    obtain ⟨m', ⟨o, _, _, e, _⟩, _⟩ := X.loc
    have := noS C hC1; rw [← q, e] at this; cases this
  have X' := X.keeps k
  show wpAny W.M A (PySem.assign (.Name y py) env (.ref D)) _ _ s'
  obtain ⟨m₀, hn₀, _⟩ := X'.loc
  refine wpAny_assign_Name (wpAny_storeName_local hk hn₀ (fun h₂ hn₂ hs₂ => ?_) (by rw [X.kind]; rfl))
  have X₂ : St W hb env ρ' h₂ := X'.storeL hn₀ hn₂ hs₂ (.list (nav D hD1) l v) hk hρ
  have hC₂ : h₂.Ns C mm := hn'.sameBut hs₂ (Ne.symm hLC)
  refine ⟨mm, hC₂, fun h₃ hs₃ => ⟨rfl, m.trans (Sm.of (n := s'.toks + 1)), fun b o b1 b2 e => ?_, ?_⟩⟩
  · exact hs₃.extBut b o (fun q => by have := noS C hC1; rw [← q, e] at this; cases this) (hs₂.extBut b o b1 (k _ _ e))
  · refine X₂.letNs hC₂ hs₃ ?_ hLC (nav C hC1)
    cases e : hb.get? C with
    | none => rfl
    | some o => have := X.keep _ _ e; rw [noS C hC1] at this; cases this
end
end Mine
namespace Mine

theorem compTurn_two0 (elt t₁ i₁ t₂ i₂ : PySem.Expr) (f₂ : List PySem.Expr) (scope : Scope) (pos : Pos) (it acc : Value) (env : Env):
    compTurn (.ListComp elt [⟨t₁, i₁, [], 0⟩, ⟨t₂, i₂, f₂, 0⟩] scope pos) 0 it acc env = (do
      standAt i₁.pos
      match ← pyNext it with
      | .none => pure (.done .next)
      | .some v =>
        letOwnedTupleGo t₁ it v
        PySem.assign t₁ env v
        let x ← eval i₂ env
        standAt i₂.pos
        let x ← foldedSetIterable i₂ env x
        let _ ← runOwn (.compStart (.ListComp elt [⟨t₁, i₁, [], 0⟩, ⟨t₂, i₂, f₂, 0⟩] scope pos) 1 (← holding [x] (pyIter x)) acc env) env
        again (.compLoop (.ListComp elt [⟨t₁, i₁, [], 0⟩, ⟨t₂, i₂, f₂, 0⟩] scope pos) 0 it acc env)) := by rfl
theorem compTurn_two1 (elt t₁ i₁ t₂ i₂ : PySem.Expr) (f₂ : List PySem.Expr) (scope : Scope) (pos : Pos) (it acc : Value) (env : Env) :
    compTurn (.ListComp elt [⟨t₁, i₁, [], 0⟩, ⟨t₂, i₂, f₂, 0⟩] scope pos) 1 it acc env = (do
      standAt i₂.pos
      match ← pyNext it with
      | .none => pure (.done .next)
      | .some v =>
        letOwnedTupleGo t₂ it v
        PySem.assign t₂ env v
        let mut ok := true
        for c in f₂ do
          if ok then ok ← isTrue c env (eval c env)
        if ok then
          (do let _ ← PySem.call (.builtin "list.append") [acc, ← eval elt env])
        again (.compLoop (.ListComp elt [⟨t₁, i₁, [], 0⟩, ⟨t₂, i₂, f₂, 0⟩] scope pos) 1 it acc env)) := by rfl
section
variable {W : Wd} {hb : Heap} {A : Around} {env cenv : Env} {ρ ρ₀ ρ₁ : Rho} {D : Addr}
/-- an inner for -/
def BT2 (W : Wd) (A : Around) (cenv : Env) (D : Addr) (e i₂ : PySem.Expr) (Fin : Shared → Prop) (s : Shared) : Prop :=
  wpAny W.M A (eval i₂ cenv) (fun x s₄ => wpAny W.M A (pyIter x) (fun it s₅ => codeAny W.M A (.compStart e 1 it (.ref D) cenv) (fun r s₆ => r = .ok .next ∧ Fin s₆) s₅) NoE s₄) NoE s
theorem BT2.mono {e i₂ : PySem.Expr} (F G : Shared → Prop) (s : Shared) (h : ∀ s, F s → G s) (x : BT2 W A cenv D e i₂ F s) : BT2 W A cenv D e i₂ G s :=
  wpAny_mono x (fun _ _ q => wpAny_mono q (fun _ _ q => codeAny_mono q fun _ _ q => ⟨q.1, h _ q.2⟩) fun _ _ x => x) fun _ _ x => x
theorem loop20 {t₁ i₁ t₂ i₂ elt : PySem.Expr} {f₂ : List PySem.Expr} {scope : Scope} {pos : Pos} {I : Addr} (hs : ∀ x, foldedSetIterable i₂ cenv x = pure x) (J : Nat → Shared → Prop) (R : Shared → Prop)
    (turn : ∀ n s, J n s → wpAny W.M A (pyNext (.ref I)) (fun r s₁ => match r with
      | .none => R s₁
      | .some v => wpAny W.M A (letOwnedTupleGo t₁ (.ref I) v) (fun _ s₁' => wpAny W.M A (PySem.assign t₁ cenv v) (fun _ s₂ => BT2 W A cenv D (.ListComp elt [⟨t₁, i₁, [], 0⟩, ⟨t₂, i₂, f₂, 0⟩] scope pos) i₂ (fun s₃ => ∃ m, m < n ∧ J m s₃) s₂) NoE s₁') NoE s₁) NoE s) (n : Nat) (s : Shared) (h : J n s) :
    codeAny W.M A (.compLoop (.ListComp elt [⟨t₁, i₁, [], 0⟩, ⟨t₂, i₂, f₂, 0⟩] scope pos) 0 (.ref I) (.ref D) cenv) (fun r s' => r = .ok .next ∧ R s') s := by
  refine codeAny_loop rfl J (fun n s hI => ?_) n h
  show wpAny _ A ((compTurn (.ListComp elt [⟨t₁, i₁, [], 0⟩, ⟨t₂, i₂, f₂, 0⟩] scope pos) 0 (.ref I) (.ref D) cenv).onRaise (fun x => do noteFrame x cenv; theTreesLotGoes x)) _ _ s
  refine wpAny_noted ?_
  rw [compTurn_two0]
  refine noE (wpAny_bind (wpAny_standAt (wpAny_bind (wpAny_mono (turn n s hI) (fun r s₁ h₁ => ?_) fun _ _ h' => h'))))
  cases r with
  | none => exact wpAny_pure ⟨rfl, h₁⟩
  | some v =>
    refine wpAny_bind (wpAny_mono h₁ (fun _ s₁' h₁' => ?_) fun _ _ h' => h')
    refine wpAny_bind (wpAny_mono h₁' (fun _ s₂ h₂ => ?_) fun _ _ h' => h')
    refine wpAny_bind (wpAny_mono h₂ (fun x s₃ h₃ => wpAny_bind (wpAny_standAt (wpAny_bind (wpAny_of_eq (hs x) ?_)))) fun _ _ h' => h')
    refine wpAny_bind (wpAny_holding (wpAny_mono h₃ (fun it s₄ h₄ => ?_) fun _ _ h' => h'))
    refine wpAny_bind (wpAny_runOwn (codeAny_mono h₄ fun r s₅ h₅ => ?_))
    obtain ⟨rfl, h₅⟩ := h₅
    exact wpAny_pure ⟨rfl, h₅⟩
theorem loop21 {t₁ i₁ t₂ i₂ elt : PySem.Expr} {f₂ : List PySem.Expr} {scope : Scope} {pos : Pos} {I : Addr} (J : Nat → Shared → Prop) (R : Shared → Prop)
    (turn : ∀ n s, J n s → wpAny W.M A (pyNext (.ref I)) (fun r s₁ => match r with
      | .none => R s₁
      | .some v => wpAny W.M A (letOwnedTupleGo t₂ (.ref I) v) (fun _ s₁' => wpAny W.M A (PySem.assign t₂ cenv v) (fun _ s₂ => BT1 W A cenv D f₂ elt (fun s₃ => ∃ m, m < n ∧ J m s₃) s₂) NoE s₁') NoE s₁) NoE s) (n : Nat) (s : Shared) (h : J n s) :
    codeAny W.M A (.compLoop (.ListComp elt [⟨t₁, i₁, [], 0⟩, ⟨t₂, i₂, f₂, 0⟩] scope pos) 1 (.ref I) (.ref D) cenv) (fun r s' => r = .ok .next ∧ R s') s := by
  refine codeAny_loop rfl J (fun n s hI => ?_) n h
  show wpAny _ A ((compTurn (.ListComp elt [⟨t₁, i₁, [], 0⟩, ⟨t₂, i₂, f₂, 0⟩] scope pos) 1 (.ref I) (.ref D) cenv).onRaise (fun x => do noteFrame x cenv; theTreesLotGoes x)) _ _ s
  refine wpAny_noted ?_
  rw [compTurn_two1]
  refine noE (wpAny_bind (wpAny_standAt (wpAny_bind (wpAny_mono (turn n s hI) (fun r s₁ h₁ => ?_) fun _ _ h' => h'))))
  cases r with
  | none => exact wpAny_pure ⟨rfl, h₁⟩
  | some v =>
    refine wpAny_bind (wpAny_mono h₁ (fun _ s₁' h₁' => ?_) fun _ _ h' => h')
    refine wpAny_bind (wpAny_mono h₁' (fun _ s₂ h₂ => wpAny_bind (wpAny_mono h₂ (fun ok s₃ h₃ => ?_) fun _ _ h' => h')) fun _ _ h' => h')
    cases ok with
    | false => exact wpAny_pure ⟨rfl, h₃⟩
    | true =>
      exact wpAny_bind (wpAny_bind (wpAny_mono h₃ (fun x s₄ h₄ => wpAny_bind (wpAny_mono h₄ (fun _ s₅ h₅ => wpAny_pure (wpAny_pure ⟨rfl, h₅⟩)) fun _ _ h' => h')) fun _ _ h' => h'))
theorem compStart_two {t₁ i₁ t₂ i₂ elt : PySem.Expr} {f₂ : List PySem.Expr} {scope : Scope} {pos : Pos} {it acc : Value} {R : Result → Shared → Prop} {s : Shared} {n : Nat} (hn : n < 2)
    (h0 : codeAny W.M A (.compLoop (.ListComp elt [⟨t₁, i₁, [], 0⟩, ⟨t₂, i₂, f₂, 0⟩] scope pos) n it acc cenv) R s)
    (h : wpAny W.M A (pyIter it) (fun it' s' => codeAny W.M A (.compLoop (.ListComp elt [⟨t₁, i₁, [], 0⟩, ⟨t₂, i₂, f₂, 0⟩] scope pos) n it' acc cenv) R s') NoE s) :
    codeAny W.M A (.compStart (.ListComp elt [⟨t₁, i₁, [], 0⟩, ⟨t₂, i₂, f₂, 0⟩] scope pos) n it acc cenv) R s := by
  refine codeAny_of_tree ?_
  show wpAny _ A ((compStart (.ListComp elt [⟨t₁, i₁, [], 0⟩, ⟨t₂, i₂, f₂, 0⟩] scope pos) n it acc cenv).onRaise (fun x => do noteFrame x cenv; standAt theWindowsPlace)) _ _ s
  refine wpAny_notedAt ?_
  unfold compStart
  rcases n with _ | _ | n
  · show wpAny _ _ (ask >>= _) _ _ s
    refine wpAny_bind (wpAny_askSetting (wpAny_ite ?_))
    split
    · first
        | exact wpAny_bind (wpAny_pure (wpAny_pure (And.intro rfl h0)))
        | exact wpAny_pure (And.intro rfl h0)
    · refine wpAny_bind (wpAny_rule ?_)
      show wpAny _ _ (standAt i₁.pos >>= _) _ _ s
      exact wpAny_bind (wpAny_standAt (wpAny_bind (noE (wpAny_mono h (fun it' s' h' => wpAny_pure (And.intro rfl h')) fun _ _ x => x))))
  · show wpAny _ _ (ask >>= _) _ _ s
    refine wpAny_bind (wpAny_askSetting (wpAny_ite ?_))
    split
    · first
        | exact wpAny_bind (wpAny_pure (wpAny_pure (And.intro rfl h0)))
        | exact wpAny_pure (And.intro rfl h0)
    · refine wpAny_bind (wpAny_rule ?_)
      show wpAny _ _ (standAt i₂.pos >>= _) _ _ s
      exact wpAny_bind (wpAny_standAt (wpAny_bind (noE (wpAny_mono h (fun it' s' h' => wpAny_pure (And.intro rfl h')) fun _ _ x => x))))
  · omega

/-- the inner for, whole -/
theorem Trn.two {t₁ i₁ t₂ i₂ elt : PySem.Expr} {f₂ : List PySem.Expr} {scope : Scope} {pos : Pos} {ds : List PyData} (g : PyData → Option PyData) (hI : IT W hb A cenv ρ₁ i₂ t₂ ds) (hρ : ∀ p ∈ ρ₀, p ∈ ρ₁) (hD : D ∈ W.av) (hbD : hb.get? D = .none) (hLD : cenv.locals ≠ D)
    (hc : ∀ y a, cenv.cells.lookup y = some a → a ≠ D)
    (turn : ∀ (av : List Addr) (i : Nat) (d : PyData), ds[i]? = some d → ∃ ρ₂, (∀ p ∈ ρ₁, p ∈ ρ₂) ∧ ASL (W.at av) hb A cenv t₂ ρ₁ d ρ₂ ∧ CTs (W.at av) hb A cenv ρ₂ f₂ (g d).isSome ∧ ∀ d', g d = some d' → EV (W.at av) hb A cenv ρ₂ elt d') :
    Trn W hb cenv D (BT2 W A cenv D (.ListComp elt [⟨t₁, i₁, [], 0⟩, ⟨t₂, i₂, f₂, 0⟩] scope pos) i₂) ρ₀ ρ₁ (ds.filterMap g) := fun s vs out Fin X hl hv hz hF => by
  refine wpAny_mono (hI s X) (fun xv s₁ q => wpAny_mono q (fun it s₂ q => ?_) fun _ _ x => x) fun _ _ x => x
  obtain ⟨k₂, h₁, I, fp, wr, Sx, rfl, Wx, st0, kh, kh', hwr, hfp⟩ := q
  have X₂ := X.keeps k₂.kp
  have noS : ∀ a, h₁.get? a = .none → s.heap.get? a = .none := fun a ha => by
    cases e : s.heap.get? a with
    | none => rfl
    | some o => have := kh _ _ e; rw [ha] at this; cases this
  have ks : KpSeq W.av (wr ++ W.av) s.heap s₂.heap := fun b o _ _ m e _ => ⟨k₂.kp _ _ e, fun q => (List.mem_append.mp q).elim (fun q => by have := noS b (hwr b q); rw [e] at this; cases this) m⟩
  have hfl : ∀ b ∈ fp, b ≠ cenv.locals ∧ b ≠ D := fun b m => by
    refine ⟨fun q => ?_, fun q => (hfp b m).2 (q ▸ hD)⟩
    obtain ⟨⟨o, e, nd⟩, _⟩ := hfp b m
    obtain ⟨mm, ⟨o', es, ep, e', hd, _⟩, _⟩ := X₂.loc
    rw [q, e'] at e; cases e; exact nd.dict _ _ hd
  have hcw : ∀ y a, cenv.cells.lookup y = some a → a ∉ wr ∧ a ≠ D := fun y a e => by
    refine ⟨fun m => ?_, hc y a e⟩
    obtain ⟨v, o, e', _⟩ := X.call y a e
    have := noS a (hwr a m); rw [e'] at this; cases this
  have loop := walk_core (W := W) (Y := []) (D := D) (c := .compLoop (.ListComp elt [⟨t₁, i₁, [], 0⟩, ⟨t₂, i₂, f₂, 0⟩] scope pos) 1 (.ref I) (.ref D) cenv) (s := s₂) (cenv := cenv) (ρ₀ := ρ₁) (vs₀ := vs) (out₀ := out) (hb := hb) (BT1 W A cenv D f₂ elt) (fun i => (ds[i]?.bind g).toList) Wx
    hD st0 (fun b m => nomatch m) hwr (fun b m q => by
      have q : b ∈ W.av := q
      obtain ⟨o, e⟩ := X.av b q
      have := noS b (hwr b m); rw [e] at this; cases this) kh' (fun b o e => kh _ _ (X.keep _ _ e)) hfl hcw hLD (fun o e items n hd => by
        obtain ⟨mm, ⟨o', es, ep, e', hd', _⟩, _⟩ := X.loc
        rw [kh _ _ e'] at e; cases e; rw [hd] at hd'; cases hd') (X.enter k₂.kp (fun b m => noS b (hwr b m)) (Wx.ex _ _ st0)) (hl.at fun o e => k₂.kp _ _ e) (hv.seq ks) (by rw [upTo_filterMap]; exact hz) (fun i d hd => by
      obtain ⟨ρ₂, hρ', ha, ht, he⟩ := turn ((W.on []).on wr).av i d hd
      refine ⟨ρ₂, ha, ?_⟩
      have : (ds[i]?.bind g).toList = if (g d).isSome then [(g d).getD .none] else [] := by
        rw [hd, Option.bind_some]
        cases g d <;> rfl
      show Trn _ _ _ _ _ _ _ (ds[i]?.bind g).toList
      rw [this]
      exact Trn.one (W := (W.on []).on wr) ht (fun q => he _ (by obtain ⟨x, e⟩ := Option.isSome_iff_exists.mp q; rw [e]; rfl)) hρ' (List.mem_append_right _ hD) hbD hLD hc)
    (fun F G s h x => BT1.mono F G s h x) (fun J R t n s h => loop21 J R t n s h)
  have fin' : ∀ (r : Result) (s' : Shared), (r = .ok .next ∧ Sm s₂ s' ∧ (∀ b o, b ≠ cenv.locals → b ≠ D → b ∉ wr → s₂.heap.get? b = some o → s'.heap.get? b = some o) ∧ St (W.on []) hb cenv ρ₁ s'.heap ∧
      ∃ vs, s'.heap.IsList D vs.toArray ∧ Vals (W.on []).av s'.heap vs (out ++ upTo (fun i => (ds[i]?.bind g).toList) ds.length)) → (r = .ok .next ∧ Fin s') := by
    rintro r s' ⟨rfl, m, k, Y, vs', l, v⟩
    rw [upTo_filterMap] at v
    have Y : St W hb cenv ρ₁ s'.heap := Y
    refine ⟨rfl, hF s' vs' (k₂.sm.trans m) (fun b o b1 b2 e => k b o b1 b2 (fun q => ?_) (k₂.kp _ _ e)) (Y.forget hρ) l v⟩
    have := noS b (hwr b q); rw [e] at this; cases this
  exact compStart_two (by decide) (codeAny_mono loop fin') (Wx.self 0 s₂ _ st0 (codeAny_mono loop fin'))

theorem upTo_flat {ds : List PyData} (f : PyData → List PyData) : upTo (fun i => ((ds[i]?).map f).getD []) ds.length = ds.flatMap f := by
  have : ∀ k, k ≤ ds.length → upTo (fun i => ((ds[i]?).map f).getD []) k = (ds.take k).flatMap f := by
    intro k
    induction k with
    | zero => intro _; rfl
    | succ k ih =>
      intro hk
      have hlt : k < ds.length := hk
      rw [upTo, ih (by omega), List.take_add_one, List.flatMap_append, List.getElem?_eq_getElem hlt]
      simp
  rw [this _ (Nat.le_refl _), List.take_length]
theorem EV.comp2 {t₁ i₁ t₂ i₂ elt : PySem.Expr} {f₂ : List PySem.Expr} {scope : Scope} {cl : List (Str × Addr)} {pos : Pos} {ds : List PyData} (dss : PyData → List PyData) (g : PyData → Option PyData) (hI : IT W hb A env ρ i₁ t₁ ds) (S : Sees env scope cl ρ ρ₀)
    (hz : (ds.flatMap fun d => (dss d).filterMap g).length ≤ sizeLine)
    (turn : ∀ (av : List Addr) (C : Addr) (i : Nat) (d : PyData), ds[i]? = some d → ∃ ρ₁, (∀ p ∈ ρ₀, p ∈ ρ₁) ∧ ASL (W.at av) hb A (compEnvC scope cl C env) t₁ ρ₀ d ρ₁ ∧ IT (W.at av) hb A (compEnvC scope cl C env) ρ₁ i₂ t₂ (dss d) ∧
      ∀ (av : List Addr) (i : Nat) (d' : PyData), (dss d)[i]? = some d' → ∃ ρ₂, (∀ p ∈ ρ₁, p ∈ ρ₂) ∧ ASL (W.at av) hb A (compEnvC scope cl C env) t₂ ρ₁ d' ρ₂ ∧ CTs (W.at av) hb A (compEnvC scope cl C env) ρ₂ f₂ (g d').isSome ∧
        ∀ d'', g d' = some d'' → EV (W.at av) hb A (compEnvC scope cl C env) ρ₂ elt d'')
    (hs : ∀ x, foldedSetIterable i₁ env x = pure x := by intro _; rfl) (hs2 : ∀ (e : Env) x, foldedSetIterable i₂ e x = pure x := by intro _ _; rfl) :
    EV W hb A env ρ (.ListComp elt [⟨t₁, i₁, [], 0⟩, ⟨t₂, i₂, f₂, 0⟩] scope pos) (.list (ds.flatMap fun d => (dss d).filterMap g)) := fun s X => by
  rw [eval_ListComp]
  refine comp_start (use := .none) rfl rfl hs hI S X fun h₁ I D C fp wr Sx s₄ Wx st0 kh kh' k₄ hwr hD1 hC1 hCD hfp hcl hl X₄ => ?_
  have noS : ∀ a, h₁.get? a = .none → s.heap.get? a = .none := fun a ha => by
    cases e : s.heap.get? a with
    | none => rfl
    | some o => have := kh _ _ e; rw [ha] at this; cases this
  have nav : ∀ a, h₁.get? a = .none → a ∉ W.av := fun a ha m => by obtain ⟨o, e⟩ := X.av a m; rw [noS a ha] at e; cases e
  have hDhb : hb.get? D = .none := by
    cases e : hb.get? D with
    | none => rfl
    | some o => have := X.keep _ _ e; rw [noS D hD1] at this; cases this
  have loop := walk_core (W := W) (Y := [D]) (D := D) (c := .compLoop (.ListComp elt [⟨t₁, i₁, [], 0⟩, ⟨t₂, i₂, f₂, 0⟩] scope pos) 0 (.ref I) (.ref D) (compEnvC scope cl C env)) (s := s₄) (vs₀ := []) (out₀ := [])
    (BT2 W A (compEnvC scope cl C env) D (.ListComp elt [⟨t₁, i₁, [], 0⟩, ⟨t₂, i₂, f₂, 0⟩] scope pos) i₂) (fun i => ((ds[i]?).map fun d => (dss d).filterMap g).getD []) Wx
    (List.mem_append_left _ (.head _)) st0 (fun b m => by rw [List.mem_singleton.mp m]; exact hD1) hwr (fun b m q => by
      rcases List.mem_append.mp q with q | q
      · exact (hfp b (Wx.sub _ m)).2 (List.mem_singleton.mp q)
      · exact nav b (hwr b m) q) kh' (fun b o e => kh _ _ (X.keep _ _ e)) hfp (fun y a e => ⟨fun m => (hcl y a (S.look _ _ e)).1 (Wx.sub _ m), (hcl y a (S.look _ _ e)).2.2⟩) hCD (fun o e => by
        have e' : h₁.get? C = some o := e
        rw [hC1] at e'; cases e') X₄ hl .nil (by
        rw [List.nil_append, upTo_flat]
        exact hz) (fun i d hd => by
      obtain ⟨ρ₁, hρ, ha, hI₂, ht⟩ := turn ((W.on [D]).on wr).av C i d hd
      refine ⟨ρ₁, ha, ?_⟩
      show Trn _ _ _ _ _ _ _ (((ds[i]?).map fun d => (dss d).filterMap g).getD [])
      rw [hd]
      exact Trn.two (W := (W.on [D]).on wr) g hI₂ hρ (List.mem_append_right _ (List.mem_append_left _ (.head _))) hDhb hCD (fun y a e => (hcl y a (S.look _ _ e)).2.2) fun av i d' hd' => ht av i d' hd')
    (fun F G s h x => BT2.mono F G s h x) (fun J R t n s h => loop20 (hs2 _) J R t n s h)
  have fin' : ∀ r s', (r = .ok .next ∧ Sm s₄ s' ∧ (∀ b o, b ≠ (compEnvC scope cl C env).locals → b ≠ D → b ∉ wr → s₄.heap.get? b = some o → s'.heap.get? b = some o) ∧ St (W.on [D]) hb (compEnvC scope cl C env) ρ₀ s'.heap ∧
      ∃ vs, s'.heap.IsList D vs.toArray ∧ Vals (W.on [D]).av s'.heap vs ([] ++ upTo (fun i => ((ds[i]?).map fun d => (dss d).filterMap g).getD []) ds.length)) → compPost W.M A NoE .none (Post W s (.list (ds.flatMap fun d => (dss d).filterMap g))) (.ref D) C r s' := by
    rintro r s' ⟨rfl, m, k, Y, vs, l, v⟩
    rw [List.nil_append, upTo_flat] at v
    have k' : Kp s.heap s'.heap := fun b o e => k b o (fun q => by
      have q' : b = C := q
      have := noS C hC1; rw [← q', e] at this; cases this) (fun q => by
      have := noS D hD1; rw [← q, e] at this; cases this) (fun q => by
      have := noS b (hwr b q); rw [e] at this; cases this) (k₄.kp _ _ e)
    obtain ⟨mm, hn, _⟩ := Y.loc
    have hn' : s'.heap.Ns C mm := hn
    refine ⟨mm, hn', fun h' hs' => ?_⟩
    have kf : Kp s.heap h' := fun b o e => hs'.extBut b o (fun q => by have := noS C hC1; rw [← q, e] at this; cases this) (k' _ _ e)
    obtain ⟨x, t, rfl⟩ := k₄.sm.trans m
    exact ⟨Ks.of kf, .list (nav D hD1) (l.extBut hs'.extBut (Ne.symm hCD)) (v.seq fun b o items n q e hd => ⟨hs'.extBut b o (ns_ne_list hn' e hd) e, fun z => q (List.mem_append_right _ z)⟩)⟩
  exact compStart_two (by decide) (codeAny_mono loop fin') (Wx.self 0 s₄ _ st0 (codeAny_mono loop fin'))

/-! a call with a star; a list of a range; two names at once -/
theorem EV.callS {f : Str} {fp pos sp : Pos} {e : PySem.Expr} {v : Value} {ds : List PyData} {d : PyData} {n : Nat} (hr : Rm n A) (hk : env.kindOf f = some .globalImplicit) (hf : nsIn W.K mainGlobals f = some (some v)) (hkeep : keepIn W.K v = true)
    (h : EV W hb A env ρ e (.tuple ds)) (hz : ds.length ≤ sizeLine) (hc : CV W n v ds d) (hd : (f == ("__debug__" : Str)) = false := by decide)
    (he : eval (.Call (.Name f fp) [.Starred e sp] [] pos) env = (do callWith pos (← eval (.Name f fp) env) [] (backTo pos (starEach [.Starred e sp] env)) (backToKw pos (keywordEach [] env))) := by rfl)
    (h1 : starEach [.Starred e sp] env = [(true, eval e env)] := by rfl) : EV W hb A env ρ (.Call (.Name f fp) [.Starred e sp] [] pos) d := fun s X => by
  refine Call_ (ev_global X hk hf (callWith_S X.good.k hkeep (wpAny_mono (h s X) (fun x s₁ q => ?_) fun _ _ x => x) h1) hd) he
  obtain ⟨k, hx⟩ := q
  cases hx with
  | @tuple a vs _ ha ht hv =>
    obtain ⟨o, ho, hcls, m, hdat⟩ := id ht
    unfold StarOf notIterableAtAll
    refine wpAny_bind (wpAny_specialOf ht.typeIs PySem.F.slot_tuple_iter.lookup (wpAny_pure ⟨rfl, ?_⟩))
    refine wpAny_collect_seq a (.inr rfl) ho hcls hdat (fun h' hk' => ?_) (by rw [List.size_toArray, hv.length]; exact hz)
    have k' : Ks s₁ { s₁ with heap := h' } := Ks.of (n := s₁.toks) hk'
    have G := X.good.keeps (k.trans k').kp
    refine ⟨G.k, wpAny_mono (hc A { s₁ with heap := h' } vs hr G (hv.keeps hk')) (fun _ _ p => ⟨(k.trans k').trans p.1, p.2⟩) fun _ _ x => x⟩
theorem Vals.rangeD {av : List Addr} {h : Heap} {a c : Int} : ∀ (n : Nat) {vs : List Value}, vs.length = n → (∀ (i : Nat) v, vs[i]? = some v → ∃ t, v = .int (a + i * c) t) → Vals av h vs (rangeD a c n) := by
  intro n
  induction n with
  | zero => intro vs h0 _; rw [List.length_eq_zero_iff.mp h0]; exact .nil
  | succ n ih =>
    intro vs hl hp
    have hne : vs ≠ [] := by rintro rfl; simp at hl
    obtain ⟨ws, x, rfl⟩ : ∃ ws x, vs = ws ++ [x] := ⟨vs.dropLast, vs.getLast hne, (List.dropLast_concat_getLast hne).symm⟩
    have hw : ws.length = n := by simpa using hl
    obtain ⟨t, rfl⟩ := hp n x (by simp [← hw])
    have e : Mine.rangeD a c (n + 1) = Mine.rangeD a c n ++ [.int (a + (n : Int) * c)] := by simp [Mine.rangeD, List.range_succ]
    rw [e]
    refine (ih hw fun i v hv => hp i v ?_).snoc (.int _ _)
    rw [List.getElem?_append_left (List.getElem?_eq_some_iff.mp hv).1]; exact hv
theorem EV.listRange {pf pos : Pos} {e : PySem.Expr} {a b c : Int} {n : Nat} (hh : A.handled = .none) (hk : env.kindOf (Str.ofString "list") = some .globalImplicit) (hf : nsIn W.K mainGlobals (Str.ofString "list") = some .none) (hv : bootBuiltins (Str.ofString "list") = some (.type "list"))
    (h : EvRange W hb A env ρ e a b c) (hs : Builtin.Range.small a b c = true) (hn : Builtin.Range.rangeSize a b c = (n : Int)) (hz : n ≤ 2 ^ 24) (h1 : starEach [e] env = (false, eval e env) :: starEach [] env := by rfl)
    (he : eval (.Call (.Name (Str.ofString "list") pf) [e] [] pos) env = (do callWith pos (← eval (.Name (Str.ofString "list") pf) env) [] (backTo pos (starEach [e] env)) (backToKw pos (keywordEach [] env))) := by rfl) :
    EV W hb A env ρ (.Call (.Name (Str.ofString "list") pf) [e] [] pos) (.list (rangeD a c n)) := fun s X => by
  refine Call_ (ev_builtin X hk hf hv (PyProof.Rows.callWith_type1 (wpAny_items_cons (wpAny_mono (h s X) (fun v s₁ q => wpAny_items_nil ?_) fun _ _ x => x) h1) h1 rfl)) he
  obtain ⟨k, r, t, u, x, rfl, hr⟩ := q
  have G := X.good.keeps k.kp
  refine call_list_range hh hr hs hn hz fun h' tk acc c' hk' hl hi => ⟨k.trans (Ks.of hk'), .list (vs := acc.toList) (G.off (Nat.le_refl _)) ⟨_, hl, rfl, c', by simp⟩ ?_⟩
  exact Vals.rangeD n (by simpa using hi.1) fun i v e => hi.2 i v (by simpa using e)
theorem EX.assignTup {t₁ t₂ e : PySem.Expr} {k : Nat} {tp pos : Pos} {d₁ d₂ : PyData} {ρ' : Rho} (h : EV W hb A env ρ e (.tuple [d₁, d₂])) (ha : AS W hb A env (.Tuple [t₁, t₂] k tp) ρ (.tuple [d₁, d₂]) ρ')
    (hs : swapsWithSole [.Tuple [t₁, t₂] k tp] e pos.line env = pure false := by rfl) (hw : swappedStores [.Tuple [t₁, t₂] k tp] e env = pure .none := by rfl) : EX W hb A env ρ (.Assign [.Tuple [t₁, t₂] k tp] e pos) (.next ρ') := fun s X =>
  Assign_Tuple (wpAny_mono (h s X) (fun v s₁ q => wpAny_mono (ha s₁ v (X.keeps q.1.kp) q.2) (fun _ _ p => ⟨rfl, q.1.sm.trans p.1, (KpB.of q.1.kp).trans p.2.1, p.2.2⟩) fun _ _ x => x) fun _ _ x => x) hs hw
end
end Mine
namespace Mine
theorem zip_lookup {av : List Addr} {h : Heap} : ∀ (ps : List Str) (vs : List Value) (ds : List PyData), ps.Nodup → Vals av h vs ds → ps.length = ds.length → ∀ p ∈ ps.zip ds, ∃ v, (ps.zip vs).reverse.lookup p.1 = some v ∧ Val av h v p.2 := by
  intro ps
  induction ps with
  | nil => intro vs ds _ _ _ p hp; simp at hp
  | cons a r ih =>
    intro vs ds nd hv hl p hp
    cases hv with
    | nil => simp at hl
    | @cons v d vs ds x xs =>
      simp only [List.zip_cons_cons, List.mem_cons] at hp
      simp only [List.zip_cons_cons, List.reverse_cons, List.lookup_append]
      obtain ⟨na, nd⟩ := List.nodup_cons.mp nd
      rcases hp with rfl | hp
      · have : (r.zip vs).reverse.lookup a = none := by
          rw [List.lookup_eq_none_iff]
          intro q hq
          have := (List.of_mem_zip (List.mem_reverse.mp hq)).1
          rw [bne_iff_ne]
          exact fun e => na (e ▸ this)
        exact ⟨v, by simp [this], x⟩
      · obtain ⟨u, hu, hx⟩ := ih vs ds nd xs (by simpa using hl) p hp
        exact ⟨u, by simp [hu], hx⟩
theorem bindL_lookup {kindOf : Str → Option NameKind} : ∀ (binds : List (Str × Value)) (m : Str → Option Value), (∀ x ∈ binds, kindOf x.1 = some .local) → ∀ y, bindL kindOf binds m y = (binds.reverse.lookup y).or (m y)
  | [], m, _, y => by simp [bindL]
  | (n, v) :: r, m, h, y => by
    have hn : kindOf n = some .local := h (n, v) (.head _)
    simp only [bindL, hn, if_true]
    rw [bindL_lookup r _ (fun x hx => h x (.tail _ hx)) y]
    simp only [List.reverse_cons, List.lookup_append, Option.or_assoc]
    congr 1
    simp only [List.lookup_cons, List.lookup_nil]
    by_cases e : y = n
    · subst e; simp
    · simp [e, beq_eq_false_iff_ne.mpr e]

theorem EV.cast {W : Wd} {hb : Heap} {A : Around} {env : Env} {ρ : Rho} {e : PySem.Expr} {d d' : PyData} (h : EV W hb A env ρ e d) (q : d = d') : EV W hb A env ρ e d' := q ▸ h

theorem CV.defC {W : Wd} {n : Nat} {f : Addr} {name qual : Str} {params : Arguments} {body : List PySem.Stmt} {scope : Scope} {dV kV doc pm cdv ct oc : Value} {an od : Option Addr} {osl : Array (Option Value)} {ds : List PyData} {d : PyData} (ps : List Str)
    (ho : W.K.lookup f = some ⟨oc, od, .func (fnOf name qual params body scope dV kV doc pm an cdv ct), osl⟩) (hcd : codeIn W.K cdv qual = true)
    (hbind : ∀ vs : List Value, vs.length = ds.length → bindArgs (fnOf name qual params body scope dV kV doc pm an cdv ct) ⟨vs, []⟩ = pure (ps.zip vs)) (hlen : ps.length = ds.length) (hnd : ps.Nodup)
    (hloc : ∀ y ∈ ps, scope.names.lookup y = some .local)
    (h : ∀ (A : Around) (hb : Heap) (L : Addr), Rm n (A.deeper (envOfC qual scope L f cdv)) → EXs W hb (A.deeper (envOfC qual scope L f cdv)) (envOfC qual scope L f cdv) (ps.zip ds) body (.ret d))
    (hco : scope.isCoroutine = false := by rfl) (hgen : scope.isGenerator = false := by rfl) (hk : scope.kind = .function := by rfl) :
    CV W (n + 1) (.ref f) ds d := fun A s vs hr G hv => by
  have hl := hv.length
  refine wpAny_call (codeAny_call_cells (fd := fnOf name qual params body scope dV kV doc pm an cdv ct) (body := body) (binds := ps.zip vs) hr.depth (G.k _ _ ho) rfl G.lim (codeRec_of G.k hcd) rfl (hbind vs hl) rfl
    (fun y hy => .inl (hloc _ (List.of_mem_zip hy).1)) (fun s₁ Y => ?_) hco hgen hk)
  obtain ⟨h₁, tk, rfl, hk₁⟩ := Y.done
  have hkl : ∀ x ∈ ps.zip vs, (envOfC qual scope s.heap.objs.size f cdv).kindOf x.1 = some .local := fun x hx => hloc _ (List.of_mem_zip hx).1
  have X : St W s.heap (envOfC qual scope s.heap.objs.size f cdv) (ps.zip ds) h₁ := {
    gd := G.toGs, av := fun a m => (let ⟨o, e⟩ := G.av a m; ⟨o, hk₁ _ _ e⟩), keep := hk₁, kind := hk, glo := rfl, bui := rfl
    lnew := Heap.get?_none_of_le (Nat.le_refl _)
    cnew := fun x c e => Heap.get?_none_of_le (Nat.le_of_lt (Y.above x c (mem_of_lookup e)))
    cinj := fun x y c e e' => name_of_addr Y.apart (mem_of_lookup e) (mem_of_lookup e')
    call := fun x c e => ⟨_, Y.cell x c e⟩
    loc := ⟨_, Y.toInCall.ns, fun p hp _ => by
      obtain ⟨v, a, b⟩ := zip_lookup ps vs ds hnd hv hlen p hp
      refine ⟨v, ?_, b.keeps hk₁⟩
      have q := bindL_lookup (kindOf := (envOfC qual scope s.heap.objs.size f cdv).kindOf) (ps.zip vs) (fun _ => none) hkl p.1
      rw [a] at q
      exact q⟩
    cel := fun p hp e => by
      have e' : (envOfC qual scope s.heap.objs.size f cdv).kindOf p.1 = some .local := hloc _ (List.of_mem_zip hp).1
      rcases e with e | e <;> (rw [e'] at e; cases e) }
  exact wpAny_mono (h A s.heap s.heap.objs.size hr.deeper { s with heap := h₁, toks := tk } X) (fun fl s' q => by
    obtain ⟨v, rfl, ⟨h', tk, rfl⟩, k, hd⟩ := q
    exact ⟨Ks.of k, hd⟩) fun _ _ x => x.elim
end Mine
namespace Mine
section
variable {W : Wd} {hb : Heap} {A : Around} {env : Env} {ρ ρ₀ : Rho}
theorem ET.cast {e : PySem.Expr} {b b' : Bool} (h : ET W hb A env ρ e b) (q : b = b') : ET W hb A env ρ e b' := q ▸ h
theorem EX.cast {st : PySem.Stmt} {o o' : Out} (h : EX W hb A env ρ st o) (q : o = o') : EX W hb A env ρ st o' := q ▸ h
theorem EXs.cast {st : List PySem.Stmt} {o o' : Out} (h : EXs W hb A env ρ st o) (q : o = o') : EXs W hb A env ρ st o' := q ▸ h
theorem CV.run {n : Nat} {f : Value} {ds : List PyData} {d : PyData} (h : CV W n f ds d) {s : Shared} {vs : List Value} (hr : Rm n A) (G : Gd W s.heap) (hv : Vals W.av s.heap vs ds) : wpAny W.M A (PySem.call f vs) (Post W s d) NoE s := h A s vs hr G hv
theorem CV.cast {n : Nat} {f : Value} {ds : List PyData} {d d' : PyData} (h : CV W n f ds d) (q : d = d') : CV W n f ds d' := q ▸ h
theorem IopV.cast {op : Operator} {d₁ d₂ d d' : PyData} (h : IopV W A op d₁ d₂ d) (q : d = d') : IopV W A op d₁ d₂ d' := q ▸ h
theorem IT.cast {i t : PySem.Expr} {ds ds' : List PyData} (h : IT W hb A env ρ i t ds) (q : ds = ds') : IT W hb A env ρ i t ds' := q ▸ h
theorem EV.iteI {t x y : PySem.Expr} {pos : Pos} {b : Bool} {i j : Int} (h : ET W hb A env ρ t b) (h₁ : EV W hb A env ρ x (.int i)) (h₂ : EV W hb A env ρ y (.int j)) : EV W hb A env ρ (.IfExp t x y pos) (.int (if b = true then i else j)) :=
  EV.ite h (fun e => by rw [if_pos e]; exact h₁) (fun e => by rw [if_neg (by rw [e]; decide)]; exact h₂)
theorem Set.none {x : Str} {d : PyData} : Set ρ x d [] := fun _ hp => by cases hp
theorem Set.headD {x : Str} {d d₀ : PyData} : Set ((x, d₀) :: ρ) x d [(x, d)] := fun _ hp => .inl (List.mem_singleton.mp hp)
theorem EXs.drop {ρ' : Rho} (h : ∀ p ∈ ρ', p ∈ ρ) : EXs W hb A env ρ [] (.next ρ') := fun s X => EXs.nil s (X.forget h)
theorem EXs.ifRet {t : PySem.Expr} {x sts : List PySem.Stmt} {pos : Pos} {b : Bool} {d : PyData} (h : ET W hb A env ρ t b) (h₁ : b = true → EXs W hb A env ρ x (.ret d)) (h₂ : b = false → EXs W hb A env ρ sts (.ret d)) : EXs W hb A env ρ (.If t x [] pos :: sts) (.ret d) := by
  cases b with
  | true => exact EXs.ret (EX.ite h h₁ (fun e => nomatch e))
  | false => exact EXs.cons (EX.skip h) (h₂ rfl)
theorem Set.skip {x : Str} {d : PyData} {p : Str × PyData} {ρ ρ' : Rho} (h : Set ρ x d ρ') : Set (p :: ρ) x d ρ' := fun q hq => (h q hq).imp id fun r => ⟨.tail _ r.1, r.2⟩
inductive Vis (env : Env) (scope : Scope) (cl : List (Str × Addr)) (ρ : Rho) : Rho → Prop
  | nil : Vis env scope cl ρ []
  | cons {p : Str × PyData} {r : Rho} : p ∈ ρ → (env.kindOf p.1 = some .cell ∨ env.kindOf p.1 = some .free) → (cl.lookup p.1).isSome = true → (relabel scope env).names.lookup p.1 ≠ some .local → Vis env scope cl ρ r → Vis env scope cl ρ (p :: r)
theorem Vis.all {env : Env} {scope : Scope} {cl : List (Str × Addr)} {ρ ρ₀ : Rho} (v : Vis env scope cl ρ ρ₀) : ∀ p ∈ ρ₀, p ∈ ρ ∧ (env.kindOf p.1 = some .cell ∨ env.kindOf p.1 = some .free) ∧ (cl.lookup p.1).isSome = true ∧ (relabel scope env).names.lookup p.1 ≠ some .local := by
  induction v with
  | nil => intro p hp; cases hp
  | cons a b c d _ ih =>
    intro p hp
    rcases List.mem_cons.mp hp with rfl | hp
    · exact ⟨a, b, c, d⟩
    · exact ih p hp
theorem look_nil {L : List (Str × Addr)} : ∀ y c, ([] : List (Str × Addr)).lookup y = some c → L.lookup y = some c := fun y c e => by cases e
theorem look_cons {L cl : List (Str × Addr)} {x : Str} {a : Addr} (h : L.lookup x = some a) (r : ∀ y c, cl.lookup y = some c → L.lookup y = some c) : ∀ y c, ((x, a) :: cl).lookup y = some c → L.lookup y = some c := fun y c e => by
  rw [List.lookup_cons] at e
  split at e
  · rename_i q
    rw [eq_of_beq q]; cases e; exact h
  · exact r y c e
theorem Sees.of {env : Env} {scope : Scope} {cl : List (Str × Addr)} {ρ ρ₀ : Rho} (hc : closureFor scope env = pure cl) (h₁ : ∀ y ∈ scope.names, y.2 ≠ .cell) (h₂ : scope.kind = .function) (h₃ : ∀ y ∈ scope.names, y.2 = .local → scope.names.lookup y.1 = some .local)
    (h₄ : ∀ y c, cl.lookup y = some c → env.cells.lookup y = some c) (v : Vis env scope cl ρ ρ₀) : Sees env scope cl ρ ρ₀ := ⟨hc, h₁, h₂, h₃, h₄, v.all⟩
theorem EX.expr {e : PySem.Expr} {pos : Pos} {d : PyData} (h : EV W hb A env ρ e d) (hi : interactive env = false := by rfl) (hs : swapsWith e .none pos.line env = pure false := by rfl) : EX W hb A env ρ (.Expr e pos) (.next ρ) := fun s X => by
  refine wpAny_Expr_any (wpAny_mono (h s X) (fun v s₁ q => ⟨rfl, q.1.sm, KpB.of q.1.kp, X.keeps q.1.kp⟩) fun _ _ x => x) hi hs
end
end Mine
set_option maxHeartbeats 8000000
set_option pp.deepTerms false
set_option pp.deepTerms.threshold 6
namespace Mine
local macro_rules | `(tactic| walk_at "MEM") => `(tactic| first | with_reducible exact List.mem_cons_self | (with_reducible apply List.mem_cons_of_mem; walk_at "MEM"))
local macro_rules | `(tactic| walk_at "KIND") => `(tactic| first | exact Or.inl rfl | exact Or.inr (Or.inl rfl) | exact Or.inr (Or.inr rfl))
local macro_rules | `(tactic| walk_at "STORE") => `(tactic| first | exact Or.inl rfl | exact Or.inr ⟨rfl, rfl⟩)
local macro_rules | `(tactic| walk_at "SET") => `(tactic| first | with_reducible exact Set.nil | ((with_reducible apply Set.head); exact rfl) | with_reducible exact Set.headD | ((with_reducible apply Set.tail); (focus decide); (focus walk_at "SET")) | with_reducible exact Set.none | ((with_reducible apply Set.skip); walk_at "SET"))
local macro_rules | `(tactic| walk_at "OP") => `(tactic| first
  | with_reducible exact OpV.add
  | with_reducible exact OpV.sub
  | with_reducible exact OpV.addB
  | ((with_reducible apply OpV.mul); first | exact IntMulOk.of_left (by decide +kernel) | exact IntMulOk.of_right (by decide +kernel) | assumption)
  | ((with_reducible apply OpV.fmod); decide)
  | ((with_reducible apply OpV.fdiv); (focus decide); (focus decide)))
local macro_rules | `(tactic| walk_at "CMP") => `(tactic| first
  | with_reducible exact CmpV.inT | with_reducible exact CmpV.eq | with_reducible exact CmpV.ne | with_reducible exact CmpV.lt | with_reducible exact CmpV.le | with_reducible exact CmpV.gt | with_reducible exact CmpV.ge)
local macro_rules | `(tactic| walk_at "EVS") => `(tactic| first
  | with_reducible exact EVs.nil
  | ((with_reducible apply EVs.cons); (focus walk_at "EV"); (focus walk_at "EVS"); (focus exact rfl)))
local macro_rules | `(tactic| walk_at "GLOB") => `(tactic| exact fun _ _ => Val.int _ _)
local macro_rules | `(tactic| walk_at "EV") => `(tactic| first
  | with_reducible exact EV.int
  | with_reducible exact EV.none
  | with_reducible exact EV.bool
  | ((with_reducible apply EV.name); (focus walk_at "MEM"); (focus walk_at "KIND"); (focus decide); (focus decide))
  | ((with_reducible apply EV.global); (focus exact rfl); (focus exact rfl); (focus walk_at "GLOB"); (focus decide))
  | ((with_reducible apply EV.bin); (focus walk_at "EV"); (focus walk_at "EV"); (focus walk_at "OP"))
  | ((with_reducible apply EV.neg); (focus walk_at "EV"))
  | ((with_reducible apply EV.cmp); (focus walk_at "EV"); (focus walk_at "EV"); (focus walk_at "CMP"); (focus with_unfolding_all exact rfl))
  | ((with_reducible apply EV.and2); (focus walk_at "EV"); (focus (intro _; walk_at "EV")))
  | ((with_reducible apply EV.or2); (focus walk_at "EV"); (focus (intro _; walk_at "EV")))
  | ((with_reducible apply EV.iteI); (focus walk_at "ET"); (focus walk_at "EV"); (focus walk_at "EV"))
  | ((with_reducible apply EV.tuple); (focus walk_at "EVS"); (focus exact Nat.le_of_ble_eq_true rfl))
  | ((with_reducible apply EV.list); (focus walk_at "EVS"); (focus exact Nat.le_of_ble_eq_true rfl))
  | ((with_reducible apply EV.itemT); (focus walk_at "EV"); (focus walk_at "EV"); (focus walk_at "LOW"); (focus walk_at "HIGH"); (focus walk_at "ITEM"); (focus (intro _ _; exact rfl)))
  | ((with_reducible apply EV.itemL); (focus walk_at "EV"); (focus walk_at "EV"); (focus walk_at "LOW"); (focus walk_at "HIGH"); (focus walk_at "ITEM"); (focus (intro _ _; exact rfl)))
  | walk_at "ECALL" | walk_at "ECALLT" | walk_at "ECALLB")
local macro_rules | `(tactic| walk_at "ECALL") => `(tactic| ((with_reducible apply EV.call); rotate_left; (focus exact rfl); (focus exact rfl); (focus exact rfl); (focus walk_at "EVS"); (focus walk_at "CALL"); (focus decide); (focus exact rfl); (focus exact rfl); (focus exact rfl); (focus exact Rm.le (by assumption) (by decide))))
local macro_rules | `(tactic| walk_at "ET") => `(tactic| first
  | ((with_reducible apply ET.cmp); (focus walk_at "EV"); (focus walk_at "EV"); (focus walk_at "CMP"); (focus with_unfolding_all exact rfl))
  | ((with_reducible apply ET.chain); (focus walk_at "EV"); (focus walk_at "EV"); (focus walk_at "EV"); (focus walk_at "CMP"); (focus walk_at "CMP"); (focus with_unfolding_all exact rfl))
  | ((with_reducible apply ET.not); (focus walk_at "ET"))
  | ((with_reducible apply ET.bool); (focus walk_at "EA"))
  | ((with_reducible apply ET.value); (focus walk_at "EV"); (focus with_reducible exact TruV.bool); (focus (intro _; exact rfl))))
local macro_rules | `(tactic| walk_at "EA") => `(tactic| first
  | with_reducible exact EA.andNil
  | with_reducible exact EA.orNil
  | ((with_reducible apply EA.and); (focus walk_at "ET"); (focus (intro _; walk_at "EA")))
  | ((with_reducible apply EA.or); (focus walk_at "ET"); (focus (intro _; walk_at "EA"))))
local macro_rules | `(tactic| walk_at "ASSIGN") => `(tactic| (refine' EXs.cons ?a ?rest; (case a => ((with_reducible apply EX.assign); (focus walk_at "EV"); (focus walk_at "SET"); (focus walk_at "STORE"); (focus exact rfl)))))
local macro_rules | `(tactic| walk_at "RETQ") => `(tactic| ((with_reducible apply EXs.ret); (with_reducible apply EX.ret); (with_reducible apply EV.cast); (focus walk_at "EV")))
local macro_rules | `(tactic| walk_at "RET") => `(tactic| (walk_at "RETQ"; (focus exact rfl)))
local macro_rules | `(tactic| walk_at "SETTO") => `(tactic| ((with_reducible apply EX.assign); rotate_left; (focus walk_at "SET"); (focus walk_at "STORE"); (focus exact rfl); (with_reducible apply EV.cast); (focus walk_at "EV")))
local macro_rules | `(tactic| walk_at "AUGTO") => `(tactic| ((with_reducible apply EX.aug); (focus walk_at "MEM"); (focus walk_at "EV"); rotate_left; (focus walk_at "SET"); (focus exact rfl); (focus decide); (with_reducible apply IopV.cast); (focus first | exact IopV.add | exact IopV.sub)))
local macro_rules | `(tactic| walk_at "SKIP") => `(tactic| (refine' EXs.cons ?a ?rest; (case a => ((with_reducible apply EX.skip); (with_reducible apply ET.cast); (focus walk_at "ET"); fail_if_success done)); skip))
local macro_rules | `(tactic| walk_at "TEST") => `(tactic| ((with_reducible apply ET.cast); (focus walk_at "ET")))
local macro_rules | `(tactic| walk_at "LOW") => `(tactic| first | decide | omega)
local macro_rules | `(tactic| walk_at "HIGH") => `(tactic| first | decide | omega)
local macro_rules | `(tactic| walk_at "ITEM") => `(tactic| first | assumption | exact rfl)
local macro_rules | `(tactic| walk_at "ECALLT") => `(tactic| ((with_reducible apply EV.callT); rotate_left; (focus exact rfl); (focus exact rfl); (focus exact rfl); (focus walk_at "EVS"); (focus walk_at "CALLT"); (focus decide); (focus decide); (focus exact rfl); (focus exact rfl); (focus exact rfl); (focus exact Rm.le (by assumption) (by decide))))
local macro_rules | `(tactic| walk_at "ECALLB") => `(tactic| ((with_reducible apply EV.callB); rotate_left; (focus exact rfl); (focus exact rfl); (focus exact rfl); (focus walk_at "EVS"); (focus walk_at "CALLB"); (focus decide); (focus decide); (focus exact rfl); (focus exact rfl); (focus exact rfl); (focus exact Rm.le (by assumption) (by decide))))
local macro_rules | `(tactic| walk_at "CALLT") => `(tactic| exact CV.int)
local macro_rules | `(tactic| walk_at "CALLB") => `(tactic| first | exact CV.divmod (by decide) (by decide) | exact CV.len (by omega))
local macro_rules | `(tactic| walk_at "UNPACK") => `(tactic| (refine' EXs.cons ?a ?rest; (case a => ((with_reducible apply EX.assignTup); (focus walk_at "EV"); (focus ((with_reducible apply AS.pair); (focus exact Rm.hd (by assumption)); (focus ((with_reducible apply AS.name); (focus walk_at "SET"); (focus walk_at "STORE"))); (focus ((with_reducible apply AS.name); (focus walk_at "SET"); (focus walk_at "STORE"))); (focus exact rfl))); (focus exact rfl); (focus exact rfl)))))
local macro_rules | `(tactic| walk_at "VIS") => `(tactic| first | exact Vis.nil | ((with_reducible apply Vis.cons); (focus walk_at "MEM"); (focus walk_at "KIND"); (focus exact rfl); (focus (intro h; cases h)); (focus walk_at "VIS")))
local macro_rules | `(tactic| walk_at "SEES") => `(tactic| ((with_reducible apply Sees.of); (focus exact rfl); (focus decide); (focus exact rfl); (focus decide); (focus walk_at "LOOK"); (focus walk_at "VIS")))
local macro_rules | `(tactic| walk_at "LOOK") => `(tactic| first | exact look_nil | (apply look_cons; (focus exact rfl); (focus walk_at "LOOK")))
noncomputable abbrev WW (w : World) (mg mb : Str → Option Value) (av : List Addr) : Wd := ⟨PySem.Challenge.rw_bh0008_01.row.prog, w, hd.heap_39 w.params, mg, mb, av⟩

section
variable {w : World} {mg mb : Str → Option Value} {av : List Addr}
def leap (y : Int) : Bool := decide (y % 4 = 0) && (decide (y % 100 ≠ 0) || decide (y % 400 = 0))
theorem c_isleap (y : Int) : CV (WW w mg mb av) 1 (.ref 22) [.int y] (.bool (leap y)) := by
  refine CV.def1 "year" rfl rfl (fun _ => rfl) rfl ?_
  intro A hb L hr
  walk_at "RET"
local macro_rules | `(tactic| walk_at "CALL") => `(tactic| exact c_isleap _)
theorem g_30 (h : Heap) (G : Gd (WW w mg mb av) h) : Val av h (.ref 77) (.tuple ([4, 6, 9, 11].map .int)) :=
  .tuple (vs := [.int 4 _, .int 6 _, .int 9 _, .int 11 _]) (G.ko 77 _ rfl) ⟨_, G.k 77 _ rfl, rfl, _, rfl⟩ (.cons (.int _ _) (.cons (.int _ _) (.cons (.int _ _) (.cons (.int _ _) .nil))))
theorem g_days (h : Heap) (G : Gd (WW w mg mb av) h) : Val av h (.ref 15) (.tuple ([0, 31, 28, 31, 30, 31, 30, 31, 31, 30, 31, 30, 31].map .int)) :=
  .tuple (vs := [.int 0 _, .int 31 _, .int 28 _, .int 31 _, .int 30 _, .int 31 _, .int 30 _, .int 31 _, .int 31 _, .int 30 _, .int 31 _, .int 30 _, .int 31 _]) (G.ko 15 _ rfl) ⟨_, G.k 15 _ rfl, rfl, _, rfl⟩
    (.cons (.int _ _) (.cons (.int _ _) (.cons (.int _ _) (.cons (.int _ _) (.cons (.int _ _) (.cons (.int _ _) (.cons (.int _ _) (.cons (.int _ _) (.cons (.int _ _) (.cons (.int _ _) (.cons (.int _ _) (.cons (.int _ _) (.cons (.int _ _) .nil)))))))))))))
theorem c_jwday (j : Int) : CV (WW w mg mb av) 1 (.ref 36) [.int j] (.int (j % 7)) := by
  refine CV.def1 "j" rfl rfl (fun _ => rfl) rfl ?_
  intro A hb L hr
  walk_at "RET"
local macro_rules | `(tactic| walk_at "CALL") => `(tactic| exact c_jwday _)
theorem c_before (a j : Int) : CV (WW w mg mb av) 2 (.ref 43) [.int a, .int j] (.int (j - (j - a) % 7)) := by
  refine CV.def2 "weekday" "jd" rfl rfl (fun _ _ => rfl) ⟨by decide, by decide⟩ ?_
  intro A hb L hr
  walk_at "RET"
local macro_rules | `(tactic| walk_at "CALL") => `(tactic| exact c_before _ _)
end
section
variable {w : World} {mg mb : Str → Option Value} {av : List Addr}
local macro_rules | `(tactic| walk_at "CALL") => `(tactic| first | exact c_isleap _ | exact c_jwday _ | exact c_before _ _)
theorem c_search {a j δ o : Int} (hm : IntMulOk δ o) : CV (WW w mg mb av) 3 (.ref 50) [.int a, .int j, .int δ, .int o] (.int (j + δ * o - (j + δ * o - a) % 7)) := by
  refine CV.def4 "weekday" "jd" "direction" "offset" rfl rfl (fun _ _ _ _ => rfl) ⟨by decide, by decide⟩ ?_
  intro A hb L hr
  walk_at "RET"
local macro_rules | `(tactic| walk_at "CALL") => `(tactic| exact c_search (.of_left (by decide +kernel)))
theorem c_next (a j : Int) : CV (WW w mg mb av) 4 (.ref 57) [.int a, .int j] (.int (j + 7 - (j + 7 - a) % 7)) := by
  refine CV.def2 "weekday" "jd" rfl rfl (fun _ _ => rfl) ⟨by decide, by decide⟩ ?_
  intro A hb L hr
  walk_at "RETQ"
  simp
theorem c_prev (a j : Int) : CV (WW w mg mb av) 4 (.ref 64) [.int a, .int j] (.int (j - 1 - (j - 1 - a) % 7)) := by
  refine CV.def2 "weekday" "jd" rfl rfl (fun _ _ => rfl) ⟨by decide, by decide⟩ ?_
  intro A hb L hr
  walk_at "RETQ"
  simp [Int.sub_eq_add_neg]
local macro_rules | `(tactic| walk_at "CALL") => `(tactic| first | exact c_next _ _ | exact c_prev _ _)
def nwk (a j n : Int) : Int := 7 * n + (j - 1 - (j - 1 - a) % 7)
theorem c_nweeks {a j n : Int} (h : 0 < n) : CV (WW w mg mb av) 5 (.ref 71) [.int a, .int j, .int n] (.int (nwk a j n)) := by
  refine CV.def3 "weekday" "jd" "nthweek" rfl rfl (fun _ _ _ => rfl) ⟨by decide, by decide⟩ ?_
  intro A hb L hr
  walk_at "ASSIGN"
  refine EXs.cons (ρ' := [("weekday", .int a), ("jd", .int j), ("nthweek", .int n), ("j", .int (nwk a j n))]) (EX.ite (b := true) ?_ (fun _ => ?_) (fun e => nomatch e)) ?_
  · walk_at "TEST"
    simpa using h
  · refine EXs.cons ?_ EXs.nil
    walk_at "AUGTO"
    rfl
  · walk_at "RET"
end
section
variable {w : World} {mg mb : Str → Option Value} {av : List Addr}
local macro_rules | `(tactic| walk_at "CALL") => `(tactic| first | exact c_isleap _ | exact c_jwday _ | exact c_before _ _ | exact c_next _ _ | exact c_prev _ _)
local macro_rules | `(tactic| walk_at "GLOB") => `(tactic| exact g_30)
def dim (y m : Int) : Int := if m = 2 then (if leap y = true then 29 else 28) else if ([4, 6, 9, 11].any fun x => x == m) = true then 30 else 31
theorem c_legal {y m d : Int} (h₁ : 1 ≤ d) (h₂ : d ≤ dim y m) : CV (WW w mg mb av) 2 (.ref 84) [.int y, .int m, .int d] (.bool true) := by
  refine CV.def3 "year" "month" "day" rfl rfl (fun _ _ _ => rfl) ⟨by decide, by decide⟩ ?_
  intro A hb L hr
  refine EXs.cons (ρ' := [("year", .int y), ("month", .int m), ("day", .int d), ("daysinmonth", .int (dim y m))]) (EX.ite (b := decide (m = 2)) ?_ (fun e => ?_) (fun e => ?_)) ?_
  · walk_at "ET"
  · refine EXs.cons ?_ EXs.nil
    walk_at "SETTO"
    simp at e
    simp [dim, e]
  · refine EXs.cons ?_ EXs.nil
    walk_at "SETTO"
    simp at e
    simp [dim, e]
  refine EXs.cons (EX.skip ?_) ?_
  · walk_at "TEST"
    simp; omega
  · walk_at "RET"
local macro_rules | `(tactic| walk_at "CALL") => `(tactic| exact c_legal (by assumption) (by assumption))
def adj (y m : Int) : Int := if m ≤ 2 then 0 else if leap y = true then -1 else -2
def jd (y m d : Int) : Int := 1721426 - 1 + 365 * (y - 1) + (y - 1) / 4 + -((y - 1) / 100) + (y - 1) / 400 + ((367 * m - 362) / 12 + adj y m + d)
theorem c_jd {y m d : Int} (h₁ : 1 ≤ d) (h₂ : d ≤ dim y m) : CV (WW w mg mb av) 3 (.ref 91) [.int y, .int m, .int d] (.int (jd y m d)) := by
  refine CV.def3 "year" "month" "day" rfl rfl (fun _ _ _ => rfl) ⟨by decide, by decide⟩ ?_
  intro A hb L hr
  refine EXs.cons (EX.expr (d := .bool true) ?_) ?_
  · walk_at "EV"
  refine EXs.cons (ρ' := [("year", .int y), ("month", .int m), ("day", .int d), ("leap_adj", .int (adj y m))]) (EX.ite (b := decide (m ≤ 2)) ?_ (fun e => ?_) (fun e => ?_)) ?_
  · walk_at "ET"
  · refine EXs.cons ?_ EXs.nil
    walk_at "SETTO"
    simp at e
    simp [adj, e]
  · simp at e
    refine EXs.cons (EX.ite (b := leap y) ?_ (fun e' => ?_) (fun e' => ?_)) EXs.nil
    · walk_at "ET"
    · refine EXs.cons ?_ EXs.nil
      walk_at "SETTO"
      simp [adj, e', Int.not_le.mpr e]
    · refine EXs.cons ?_ EXs.nil
      walk_at "SETTO"
      simp [adj, e', Int.not_le.mpr e]
  · walk_at "RET"
end
section
variable {w : World} {mg mb : Str → Option Value} {av : List Addr}
local macro_rules | `(tactic| walk_at "CALL") => `(tactic| first | assumption | exact c_isleap _ | exact c_jwday _ | exact c_before _ _ | exact c_next _ _ | exact c_prev _ _ | exact c_jd (by assumption) (by assumption))
local macro_rules | `(tactic| walk_at "ITEM") => `(tactic| assumption)
local macro_rules | `(tactic| walk_at "GLOB") => `(tactic| first | exact g_30 | exact g_days)
def mdays : List Int := [0, 31, 28, 31, 30, 31, 30, 31, 31, 30, 31, 30, 31]
def mdim (y m : Int) : Int := (mdays[m.toNat]?).getD 0 + (if (decide (m = 2) && leap y) = true then 1 else 0)
def mfirst (y : Int) : Int := 365 * (y - 1) + (y - 1) / 4 - (y - 1) / 100 + (y - 1) / 400
def mfirst' (y m : Int) : Int := mfirst y + (mdays.take m.toNat).sum + (if m > 2 ∧ leap y = true then 1 else 0)
theorem mdays_get {m : Int} (h : 1 ≤ m) (h' : m ≤ 12) : (mdays.map PyData.int)[m.toNat]? = some (.int ((mdays[m.toNat]?).getD 0)) := by
  obtain ⟨k, rfl⟩ := Int.eq_ofNat_of_zero_le (by omega : 0 ≤ m)
  have : k < 13 := by omega
  rw [List.getElem?_map]
  have hk : ((k : Int).toNat) < mdays.length := by show _ < 13; omega
  rw [List.getElem?_eq_getElem hk]; rfl
theorem c_range {y m : Int} (h : 1 ≤ m) (h' : m ≤ 12) : CV (WW w mg mb av) 2 (.ref 29) [.int y, .int m] (.tuple [.int (mfirst' y m % 7), .int (mdim y m)]) := by
  refine CV.def2 "year" "month" rfl rfl (fun _ _ => rfl) ⟨by decide, by decide⟩ ?_
  intro A hb L hr
  have hm := mdays_get h h'
  refine EXs.cons (EX.skip ?_) ?_
  · walk_at "TEST"
    simp; omega
  walk_at "ASSIGN"
  walk_at "ASSIGN"
  refine EXs.cons (EX.for (ds := (mdays.map PyData.int).take m.toNat) (fun i => [("year", .int y), ("month", .int m), ("past", .int (y - 1)), ("first", .int (mfirst y + (mdays.take i).sum))]) ?_ ?_ ?_) ?_
  · refine IT.tuple hr.hd (EV.sliceT (i := m) (ds := mdays.map PyData.int) ?_ (EP.some ?_) (by omega) (by decide))
    · walk_at "EV"
    · walk_at "EV"
  · show ∀ p ∈ [_, _, _, _], _
    simp [mfirst]
  · intro X i d hd
    obtain ⟨x, hx, rfl⟩ : ∃ x, mdays[i]? = some x ∧ d = .int x := by
      rw [List.getElem?_take] at hd
      split at hd
      · rw [List.getElem?_map] at hd
        cases hx : mdays[i]? with
        | none => rw [hx] at hd; cases hd
        | some x => rw [hx] at hd; cases hd; exact ⟨x, rfl, rfl⟩
      · cases hd
    refine ⟨[("year", .int y), ("month", .int m), ("past", .int (y - 1)), ("first", .int (mfirst y + (mdays.take i).sum)), ("days", .int x)], ?_, ?_⟩
    · refine AS.name ?_ (.inl rfl)
      walk_at "SET"
    · refine EXs.cons (ρ' := [("year", .int y), ("month", .int m), ("past", .int (y - 1)), ("first", .int (mfirst y + (mdays.take (i + 1)).sum))]) ?_ EXs.nil
      walk_at "AUGTO"
      rw [List.take_add_one, hx]
      simp
      omega
  have hlen : ((mdays.map PyData.int).take m.toNat).length = m.toNat := by
    rw [List.length_take, List.length_map]
    show min _ 13 = _
    omega
  rw [hlen]
  refine EXs.cons (ρ' := [("year", .int y), ("month", .int m), ("past", .int (y - 1)), ("first", .int (mfirst' y m))]) (EX.ite (b := decide (m > 2) && leap y) ?_ (fun e => ?_) (fun e => ?_)) ?_
  · apply ET.cast
    · apply ET.bool
      apply EA.and
      · walk_at "ET"
      · intro _
        walk_at "EA"
    · simp
  · refine EXs.cons ?_ EXs.nil
    walk_at "AUGTO"
    simp at e
    simp [mfirst', e]
  · refine EXs.cast EXs.nil ?_
    simp at e
    congr 1
    simp only [mfirst']
    rw [if_neg (by intro q; have := e q.1; rw [q.2] at this; cases this)]
    simp
  walk_at "RETQ"
  simp [mdim]
theorem mdim_eq {y m : Int} (h : 1 ≤ m) (h' : m ≤ 12) : mdim y m = dim y m := by
  obtain ⟨k, rfl⟩ := Int.eq_ofNat_of_zero_le (by omega : 0 ≤ m)
  have : k < 13 := by omega
  have h0 : k ≠ 0 := by omega
  unfold mdim dim
  cases leap y <;> (revert h0 this; clear h h'; revert k; decide)
theorem c_mlen {y m : Int} (h : 1 ≤ m) (h' : m ≤ 12) : CV (WW w mg mb av) 3 (.ref 105) [.int y, .int m] (.int (dim y m)) := by
  refine CV.def2 "year" "month" rfl rfl (fun _ _ => rfl) ⟨by decide, by decide⟩ ?_
  intro A hb L hr
  have hc := c_range (w := w) (mg := mg) (mb := mb) (av := av) (y := y) h h'
  rw [mdim_eq h h'] at hc
  have hrr : Rm 2 _ := hr
  apply EXs.ret; apply EX.ret
  apply EV.itemT (i := 1) (ds := [.int (mfirst' y m % 7), .int (dim y m)])
  · walk_at "ECALL"
  · walk_at "EV"
  · decide
  · decide
  · rfl
def wpy (y : Int) : Int := if (decide (jd y 1 1 % 7 = 3) || (decide (jd y 1 1 % 7 = 2) && leap y)) = true then 53 else 52
theorem dim_pos (y m : Int) : 28 ≤ dim y m := by unfold dim; split <;> split <;> omega
theorem c_jd1 {y m : Int} : CV (WW w mg mb av) 3 (.ref 91) [.int y, .int m, .int 1] (.int (jd y m 1)) := c_jd (by decide) (by have := dim_pos y m; omega)
local macro_rules | `(tactic| walk_at "CALL") => `(tactic| exact c_jd1)
theorem c_wpy {y : Int} : CV (WW w mg mb av) 4 (.ref 126) [.int y] (.int (wpy y)) := by
  refine CV.def1 "year" rfl rfl (fun _ => rfl) rfl ?_
  intro A hb L hr
  walk_at "ASSIGN"
  refine EXs.ifRet (b := decide (jd y 1 1 % 7 = 3) || (decide (jd y 1 1 % 7 = 2) && leap y)) ?_ (fun e => ?_) (fun e => ?_)
  · walk_at "TEST"
    simp
  · walk_at "RETQ"
    rw [wpy, if_pos e]
  · walk_at "RETQ"
    rw [wpy, if_neg (by rw [e]; decide)]
def w1 (y : Int) : Int := jd y 1 1 - jd y 1 1 % 7 + (if jd y 1 1 % 7 > 3 then 7 else 0)
theorem c_w1 {y : Int} : CV (WW w mg mb av) 4 (.ref 133) [.int y] (.int (w1 y)) := by
  refine CV.def1 "year" rfl rfl (fun _ => rfl) rfl ?_
  intro A hb L hr
  walk_at "ASSIGN"
  walk_at "ASSIGN"
  walk_at "ASSIGN"
  refine EXs.cons (ρ' := [("year", .int y), ("first", .int (jd y 1 1)), ("weekday", .int (jd y 1 1 % 7)), ("monday", .int (w1 y))]) (EX.ite (b := decide (jd y 1 1 % 7 > 3)) ?_ (fun e => ?_) (fun e => ?_)) ?_
  · walk_at "ET"
  · refine EXs.cons ?_ EXs.nil
    walk_at "AUGTO"
    simp only [decide_eq_true_eq] at e
    rw [w1, if_pos e]
  · refine EXs.cast EXs.nil ?_
    simp only [decide_eq_false_iff_not] at e
    rw [w1, if_neg e]; simp
  walk_at "RET"
def isoJd (y n d : Int) : Int := d + nwk 6 (jd (y - 1) 12 28) n
theorem c_isoJd {y n d : Int} (h : 0 < n) : CV (WW w mg mb av) 6 (.ref 119) [.int y, .int n, .int d] (.int (isoJd y n d)) := by
  refine CV.def3 "year" "week" "day" rfl rfl (fun _ _ _ => rfl) ⟨by decide, by decide⟩ ?_
  intro A hb L hr
  have hc := c_nweeks (w := w) (mg := mg) (mb := mb) (av := av) (a := 6) (j := jd (y - 1) 12 28) h
  have hj := c_jd (w := w) (mg := mg) (mb := mb) (av := av) (y := y - 1) (m := 12) (d := 28) (by decide) (dim_pos _ _)
  walk_at "RET"
end
section
variable {w : World} {mg mb : Str → Option Value} {av : List Addr}
local macro_rules | `(tactic| walk_at "CALL") => `(tactic| first | assumption | exact c_isleap _ | exact c_jwday _ | exact c_jd1 | exact c_jd (by assumption) (by assumption) | exact c_mlen (by assumption) (by assumption) | exact c_w1)
def fdep (j : Int) : Int := j - 1721426
def fqua (j : Int) : Int := fdep j / 146097
def fcen (j : Int) : Int := fdep j % 146097 / 36524
def fquad (j : Int) : Int := fdep j % 146097 % 36524 / 1461
def fyin (j : Int) : Int := fdep j % 146097 % 36524 % 1461 / 365
def fy0 (j : Int) : Int := fqua j * 400 + fcen j * 100 + fquad j * 4 + fyin j
def fyr (j : Int) : Int := if (decide (fcen j = 4) || decide (fyin j = 4)) = true then fy0 j else fy0 j + 1
def fyd (j : Int) : Int := j - jd (fyr j) 1 1
def fla (j : Int) : Int := if fyd j < 58 + (if leap (fyr j) = true then 1 else 0) then 0 else if leap (fyr j) = true then 1 else 2
def fmo (j : Int) : Int := ((fyd j + fla j) * 12 + 373) / 367
def fda (j : Int) : Int := j - jd (fyr j) (fmo j) 1 + 1
theorem c_fromjd (j : Int) : CV (WW w mg mb av) 4 (.ref 98) [.int j] (.tuple [.int (fyr j), .int (fmo j), .int (fda j)]) := by
  refine CV.def1 "jd" rfl rfl (fun _ => rfl) rfl ?_
  intro A hb L hr
  walk_at "ASSIGN"
  refine EXs.cons (ρ' := [("jd", .int j), ("wjd", .int j), ("depoch", .int (fdep j))]) ?_ ?_
  · walk_at "SETTO"
    rfl
  refine EXs.cons (ρ' := [("jd", .int j), ("wjd", .int j), ("depoch", .int (fdep j)), ("quadricent", .int (fqua j))]) ?_ ?_
  · walk_at "SETTO"
    rfl
  walk_at "ASSIGN"
  refine EXs.cons (ρ' := [("jd", .int j), ("wjd", .int j), ("depoch", .int (fdep j)), ("quadricent", .int (fqua j)), ("dqc", .int (fdep j % 146097)), ("cent", .int (fcen j))]) ?_ ?_
  · walk_at "SETTO"
    rfl
  walk_at "ASSIGN"
  refine EXs.cons (ρ' := [("jd", .int j), ("wjd", .int j), ("depoch", .int (fdep j)), ("quadricent", .int (fqua j)), ("dqc", .int (fdep j % 146097)), ("cent", .int (fcen j)), ("dcent", .int (fdep j % 146097 % 36524)), ("quad", .int (fquad j))]) ?_ ?_
  · walk_at "SETTO"
    rfl
  walk_at "ASSIGN"
  refine EXs.cons (ρ' := [("jd", .int j), ("wjd", .int j), ("depoch", .int (fdep j)), ("quadricent", .int (fqua j)), ("dqc", .int (fdep j % 146097)), ("cent", .int (fcen j)), ("dcent", .int (fdep j % 146097 % 36524)), ("quad", .int (fquad j)), ("dquad", .int (fdep j % 146097 % 36524 % 1461)), ("yindex", .int (fyin j))]) ?_ ?_
  · walk_at "SETTO"
    rfl
  refine EXs.cons (ρ' := [("wjd", .int j), ("cent", .int (fcen j)), ("yindex", .int (fyin j)), ("year", .int (fy0 j))]) ?_ ?_
  · walk_at "SETTO"
    rfl
  refine EXs.cons (ρ' := [("wjd", .int j), ("cent", .int (fcen j)), ("yindex", .int (fyin j)), ("year", .int (fyr j))]) (EX.ite (b := !(decide (fcen j = 4) || decide (fyin j = 4))) ?_ (fun e => ?_) (fun e => ?_)) ?_
  · walk_at "TEST"
    simp
  · refine EXs.cons ?_ EXs.nil
    walk_at "AUGTO"
    simp only [Bool.not_eq_true'] at e
    rw [fyr, if_neg (by rw [e]; decide)]
  · refine EXs.cast EXs.nil ?_
    simp only [Bool.not_eq_false'] at e
    rw [fyr, if_pos e]
  refine EXs.cons (ρ' := [("wjd", .int j), ("cent", .int (fcen j)), ("yindex", .int (fyin j)), ("year", .int (fyr j)), ("yearday", .int (fyd j))]) ?_ ?_
  · walk_at "SETTO"
    rfl
  walk_at "ASSIGN"
  refine EXs.cons (ρ' := [("wjd", .int j), ("cent", .int (fcen j)), ("yindex", .int (fyin j)), ("year", .int (fyr j)), ("yearday", .int (fyd j)), ("leap", .bool (leap (fyr j))), ("leap_adj", .int (fla j))]) (EX.ite (b := decide (fyd j < 58 + (if leap (fyr j) = true then 1 else 0))) ?_ (fun e => ?_) (fun e => ?_)) ?_
  · walk_at "ET"
  · refine EXs.cons ?_ EXs.nil
    walk_at "SETTO"
    simp only [decide_eq_true_eq] at e
    rw [fla, if_pos e]
  · simp only [decide_eq_false_iff_not] at e
    refine EXs.cons (EX.ite (b := leap (fyr j)) ?_ (fun e' => ?_) (fun e' => ?_)) EXs.nil
    · walk_at "ET"
    · refine EXs.cons ?_ EXs.nil
      walk_at "SETTO"
      rw [fla, if_neg e, if_pos e']
    · refine EXs.cons ?_ EXs.nil
      walk_at "SETTO"
      rw [fla, if_neg e, if_neg (by rw [e']; decide)]
  refine EXs.cons (ρ' := [("wjd", .int j), ("cent", .int (fcen j)), ("yindex", .int (fyin j)), ("year", .int (fyr j)), ("yearday", .int (fyd j)), ("leap", .bool (leap (fyr j))), ("leap_adj", .int (fla j)), ("month", .int (fmo j))]) ?_ ?_
  · walk_at "SETTO"
    rfl
  walk_at "ASSIGN"
  walk_at "RET"
end
section
variable {w : World} {mg mb : Str → Option Value} {av : List Addr}
local macro_rules | `(tactic| walk_at "CALL") => `(tactic| first | assumption | exact c_isleap _ | exact c_jwday _ | exact c_jd1 | exact c_jd (by assumption) (by assumption) | exact c_mlen (by assumption) (by assumption) | exact c_w1 | exact c_fromjd _ | exact c_isoJd (by assumption))
def isoLow (y T : Int) : Bool := decide ((T - w1 y) / 7 < 0)
def isoHigh (y T : Int) : Bool := decide ((T - w1 y) / 7 ≥ 52) && decide (T ≥ w1 (y + 1))
def isoY (y T : Int) : Int := if isoLow y T = true then y - 1 else if isoHigh y T = true then y + 1 else y
def isoK (y T : Int) : Int := if isoLow y T = true then (T - w1 (y - 1)) / 7 else if isoHigh y T = true then 0 else (T - w1 y) / 7
def isoD (y T : Int) : Int := if isoLow y T = true then (T - w1 (y - 1)) % 7 else (T - w1 y) % 7
theorem c_iso {y m d : Int} (y₁ : 1 ≤ y) (y₂ : y ≤ 9999) (m₁ : 1 ≤ m) (m₂ : m ≤ 12) (d₁ : 1 ≤ d) (d₂ : d ≤ dim y m) :
    CV (WW w mg mb av) 5 (.ref 140) [.int y, .int m, .int d] (.tuple [.int (isoY y (jd y m d)), .int (isoK y (jd y m d) + 1), .int (isoD y (jd y m d) + 1)]) := by
  refine CV.def3 "year" "month" "day" rfl rfl (fun _ _ _ => rfl) ⟨by decide, by decide⟩ ?_
  intro A hb L hr
  refine EXs.cons (EX.skip ?_) ?_
  · walk_at "TEST"
    simp; omega
  refine EXs.cons (EX.skip ?_) ?_
  · walk_at "TEST"
    simp; omega
  walk_at "ASSIGN"
  generalize hT : jd y m d = T
  walk_at "UNPACK"
  refine EXs.cons (ρ' := [("year", .int (isoY y T)), ("today", .int T), ("week", .int (isoK y T)), ("weekday", .int (isoD y T))]) (EX.ite (b := isoLow y T) ?_ (fun e => ?_) (fun e => ?_)) ?_
  · walk_at "TEST"
    rfl
  · refine EXs.cons (ρ' := [("year", .int (isoY y T)), ("month", .int m), ("day", .int d), ("today", .int T), ("week", .int ((T - w1 y) / 7)), ("weekday", .int ((T - w1 y) % 7))]) ?_ (EXs.cons (EX.assignTup (d₁ := .int (isoK y T)) (d₂ := .int (isoD y T)) (EV.cast (d := .tuple [.int ((T - w1 (isoY y T)) / 7), .int ((T - w1 (isoY y T)) % 7)]) ?_ ?_) (AS.pair hr.hd (AS.name (ρ' := [("year", .int (isoY y T)), ("today", .int T), ("week", .int (isoK y T)), ("weekday", .int ((T - w1 y) % 7))]) ?_ (.inl rfl)) (AS.name ?_ (.inl rfl)))) EXs.nil)
    rotate_left
    · walk_at "EV"
    · rw [isoK, isoD, isoY, if_pos e, if_pos e, if_pos e]
    · walk_at "SET"
    · walk_at "SET"
    · walk_at "AUGTO"
      rw [isoY, if_pos e]
  · have e' : ¬ isoLow y T = true := by rw [e]; decide
    refine EXs.cons (EX.ite (b := isoHigh y T) ?_ (fun h => ?_) (fun h => ?_)) EXs.nil
    · walk_at "TEST"
      simp [isoHigh]
    · refine EXs.cons (ρ' := [("year", .int (isoY y T)), ("month", .int m), ("day", .int d), ("today", .int T), ("week", .int ((T - w1 y) / 7)), ("weekday", .int ((T - w1 y) % 7))]) ?_ (EXs.cons ?_ EXs.nil)
      · walk_at "AUGTO"
        rw [isoY, if_neg e', if_pos h]
      · rw [show isoD y T = (T - w1 y) % 7 by rw [isoD, if_neg e']]
        walk_at "SETTO"
        rw [isoK, if_neg e', if_pos h]
    · have h' : ¬ isoHigh y T = true := by rw [h]; decide
      rw [show isoD y T = (T - w1 y) % 7 by rw [isoD, if_neg e'], show isoK y T = (T - w1 y) / 7 by rw [isoK, if_neg e', if_neg h'], show isoY y T = y by rw [isoY, if_neg e', if_neg h']]
      refine EXs.drop ?_
      simp
  walk_at "RET"
theorem c_togreg {y n d : Int} (h : 0 < n) : CV (WW w mg mb av) 7 (.ref 147) [.int y, .int n, .int d] (.tuple [.int (fyr (isoJd y n d)), .int (fmo (isoJd y n d)), .int (fda (isoJd y n d))]) := by
  refine CV.def3 "year" "week" "day" rfl rfl (fun _ _ _ => rfl) ⟨by decide, by decide⟩ ?_
  intro A hb L hr
  walk_at "RET"
end
section
variable {w : World} {mg mb : Str → Option Value} {av : List Addr}
local macro_rules | `(tactic| walk_at "CALL") => `(tactic| first | assumption | exact c_isleap _ | exact c_jwday _ | exact c_jd1 | exact c_jd (by assumption) (by assumption) | exact c_mlen (by assumption) (by assumption) | exact c_w1 | exact c_fromjd _ | exact c_isoJd (by assumption))
def daysD (lp n : Nat) : List PyData := List.replicate lp .none ++ rangeD 1 1 n ++ List.replicate 7 .none
def rowsN (lp n : Nat) : Nat := (lp + n + 6) / 7
def rowD (lp n i : Nat) : List PyData := ((daysD lp n).drop (7 * i)).take 7
def rowsD (lp n : Nat) : List PyData := (List.range (rowsN lp n)).map fun i => .list (rowD lp n i)
def rowG (lp n : Nat) : PyData → Option PyData
  | .int i => some (.list (((daysD lp n).drop i.toNat).take 7))
  | _ => none
theorem rows_g (lp n : Nat) : (rangeD 0 7 (rowsN lp n)).filterMap (rowG lp n) = rowsD lp n := by
  rw [rangeD, rowsD, List.filterMap_map, ← List.filterMap_eq_map]
  congr 1
  funext i
  simp only [Function.comp, rowG, rowD]
  rw [show (0 + (i : Int) * 7).toNat = 7 * i by omega]
theorem days_len (lp n : Nat) : (daysD lp n).length = lp + n + 7 := by
  simp [daysD, rangeD_length]; omega
theorem rep_none (k : Nat) : (List.replicate k [PyData.none]).flatten = List.replicate k .none := by
  induction k with
  | zero => rfl
  | succ k ih => rw [List.replicate_succ, List.flatten_cons, ih]; rfl
theorem c_helper {lp n : Nat} {s : Int} (h : lp < 7) (hn : n ≤ 31) (hs : (s + 1) % 7 = lp) : CV (WW w mg mb av) 1 (.ref 76) [.int s, .int n] (.list (rowsD lp n)) := by
  refine CV.defC ["start_weekday", "month_length"] rfl rfl ?_ rfl (by decide) (by decide) ?_
  · intro vs hv
    match vs, hv with
    | [_, _], _ => rfl
  intro A hb L hr
  show EXs _ _ _ _ [("start_weekday", .int s), ("month_length", .int n)] _ _
  refine EXs.cons (ρ' := [("start_weekday", .int s), ("month_length", .int n), ("lpad", .int lp)]) ?_ ?_
  · walk_at "SETTO"
    rw [hs]
  refine EXs.cons (ρ' := [("start_weekday", .int s), ("month_length", .int n), ("lpad", .int lp), ("days", .list (daysD lp n))]) (EX.assign (d := .list (daysD lp n)) (EV.cast (d := .list ((List.replicate (lp : Int).toNat [PyData.none]).flatten ++ rangeD 1 1 n ++ (List.replicate (7 : Int).toNat [PyData.none]).flatten)) ?_ ?_) ?_ ?_) ?_
  · apply EV.bin
    · apply EV.bin
      · apply EV.bin
        · walk_at "EV"
        · walk_at "EV"
        · exact OpV.mulL (by omega) (by omega) (by simp; omega)
      · apply EV.listRange (a := 1) (b := 1 + n) (c := 1) (n := n) hr.hd
        · rfl
        · rfl
        · rfl
        · apply EvRange.two
          · rfl
          · rfl
          · rfl
          · walk_at "EV"
          · walk_at "EV"
          · rfl
          · rfl
          · rfl
        · exact small_one (by decide) (by decide) (by omega) (by omega)
        · rw [rangeSize_one]; split <;> omega
        · omega
      · exact OpV.addL (by simp [rangeD_length]; exact Nat.le_trans (m := 40) (by omega) (by decide))
    · apply EV.bin
      · walk_at "EV"
      · walk_at "EV"
      · exact OpV.mulR (by decide) (by decide) (by decide)
    · exact OpV.addL (by simp [rangeD_length]; exact Nat.le_trans (m := 60) (by omega) (by decide))
  · simp only [rep_none, Int.toNat_natCast, daysD]; rfl
  · walk_at "SET"
  · walk_at "STORE"
  apply EXs.ret; apply EX.ret
  refine' EV.cast (EV.comp (ds := rangeD 0 7 (rowsN lp n)) (ρ₀ := [("days", .list (daysD lp n))]) (rowG lp n) ?it ?sees ?sz ?turn ?hs) ?q
  case sees => walk_at "SEES"
  case hs => intro _; rfl
  case q => rw [rows_g]
  case sz => rw [rangeD_length]; unfold rowsN; exact Nat.le_trans (m := 60) (by omega) (by decide)
  case it =>
    refine IT.range (b := lp + n) hr.hd (EvRange.three rfl rfl rfl ?_ ?_ ?_ (by decide) (by decide) rfl rfl rfl rfl) ?_ ?_
    · walk_at "EV"
    · walk_at "EV"
    · walk_at "EV"
    · have : ∀ k : Nat, k < 64 → Builtin.Range.small 0 k 7 = true := by decide
      exact this (lp + n) (by omega)
    · rw [rangeSize_pos (by decide) (by omega), rowsN]; omega
  case turn =>
    intro av C i d hd
    have hi : i < rowsN lp n := by
      have := (List.getElem?_eq_some_iff.mp hd).1
      rwa [rangeD_length] at this
    rw [rangeD_get _ _ _ hi] at hd
    cases hd
    have hl := days_len lp n
    have hi' : i * 7 < lp + n := by unfold rowsN at hi; omega
    refine ⟨[("days", .list (daysD lp n)), ("i", .int (0 + (i : Int) * 7))], by simp, ASL.name (by walk_at "SET") rfl, CTs.nil, ?_⟩
    rintro d' ⟨⟩
    refine EV.cast (EV.sliceL (lo := some (0 + (i : Int) * 7)) (hi := some (0 + (i : Int) * 7 + 7)) (a := 7 * i) (b := 7 * i + 7) (ds := daysD lp n) ?_ (EP.some ?_) (EP.some ?_) ?_ ?_) ?_
    · walk_at "EV"
    · walk_at "EV"
    · walk_at "EV"
    · rw [hl]; exact Nat.le_trans (m := 60) (by omega) (by decide)
    · rw [sliceBounds_plain]
      simp only [Option.elim]
      rw [clipAt_in (by omega) (by omega), clipAt_in (by omega) (by omega)]
      congr 1
      · omega
      · congr 1; omega
    · rw [show (0 + (i : Int) * 7).toNat = 7 * i by omega, show 7 * i + 7 - 7 * i = 7 by omega]
def lpN (y m : Int) : Nat := ((jd y m 1 % 7 + 1) % 7).toNat
def dimN (y m : Int) : Nat := (dim y m).toNat
theorem dim_le (y m : Int) : dim y m ≤ 31 := by unfold dim; split <;> split <;> omega
theorem dimN_cast (y m : Int) : ((dimN y m : Nat) : Int) = dim y m := by have := dim_pos y m; unfold dimN; omega
theorem c_cal {y m : Int} (m₁ : 1 ≤ m) (m₂ : m ≤ 12) : CV (WW w mg mb av) 4 (.ref 112) [.int y, .int m] (.list (rowsD (lpN y m) (dimN y m))) := by
  refine CV.def2 "year" "month" rfl rfl (fun _ _ => rfl) ⟨by decide, by decide⟩ ?_
  intro A hb L hr
  have hd := dim_le y m
  have hd' := dim_pos y m
  have hc := c_helper (w := w) (mg := mg) (mb := mb) (av := av) (lp := lpN y m) (n := dimN y m) (s := jd y m 1 % 7) (by unfold lpN; omega) (by unfold dimN; omega) (by unfold lpN; omega)
  rw [dimN_cast] at hc
  walk_at "ASSIGN"
  walk_at "ASSIGN"
  walk_at "RET"
end
/-! plain arithmetic: the days of a year -/
theorem leap_iff (y : Int) : leap y = true ↔ (y % 4 = 0 ∧ (y % 100 ≠ 0 ∨ y % 400 = 0)) := by simp [leap]
def lp1 (y : Int) : Int := if leap y = true then 1 else 0
def J1 (y : Int) : Int := jd y 1 1
theorem J1_eq (y : Int) : J1 y = 1721426 + 365 * (y - 1) + (y - 1) / 4 - (y - 1) / 100 + (y - 1) / 400 := by
  unfold J1 jd adj
  rw [if_pos (by decide)]
  have : ((367 * 1 - 362 : Int) / 12) = 0 := by decide
  rw [this]; omega
theorem lp1_cases (y : Int) : (lp1 y = 1 ∧ y % 4 = 0 ∧ (y % 100 ≠ 0 ∨ y % 400 = 0)) ∨ (lp1 y = 0 ∧ ¬ (y % 4 = 0 ∧ (y % 100 ≠ 0 ∨ y % 400 = 0))) := by
  unfold lp1
  have := leap_iff y
  by_cases h : leap y = true
  · rw [if_pos h]; exact .inl ⟨rfl, this.mp h⟩
  · rw [if_neg h]; exact .inr ⟨rfl, fun q => h (this.mpr q)⟩
theorem J1_next (y : Int) : J1 (y + 1) = J1 y + 365 + lp1 y := by
  rw [J1_eq, J1_eq]
  rcases lp1_cases y with h | h <;> omega
theorem jd_eq (y m d : Int) : jd y m d = J1 y + (367 * m - 362) / 12 + adj y m + d - 1 := by
  rw [J1_eq]; unfold jd; omega
theorem adj_eq (y m : Int) : adj y m = if m ≤ 2 then 0 else lp1 y - 2 := by
  unfold adj lp1
  split
  · rfl
  · split <;> rfl
theorem dim_eq (y m : Int) : dim y m = if m = 2 then 28 + lp1 y else if m = 4 ∨ m = 6 ∨ m = 9 ∨ m = 11 then 30 else 31 := by
  unfold dim lp1
  split
  · split <;> rfl
  · have : (([4, 6, 9, 11] : List Int).any fun x => x == m) = true ↔ (m = 4 ∨ m = 6 ∨ m = 9 ∨ m = 11) := by
      simp only [List.any_cons, List.any_nil, Bool.or_false, Bool.or_eq_true, beq_iff_eq]
      omega
    by_cases h : (m = 4 ∨ m = 6 ∨ m = 9 ∨ m = 11)
    · rw [if_pos h, if_pos (this.mpr h)]
    · rw [if_neg h, if_neg (fun q => h (this.mp q))]
theorem month_cases {m : Int} (h : 1 ≤ m) (h' : m ≤ 12) : m = 1 ∨ m = 2 ∨ m = 3 ∨ m = 4 ∨ m = 5 ∨ m = 6 ∨ m = 7 ∨ m = 8 ∨ m = 9 ∨ m = 10 ∨ m = 11 ∨ m = 12 := by omega
theorem lp1_01 (y : Int) : lp1 y = 0 ∨ lp1 y = 1 := by rcases lp1_cases y with h | h <;> omega
/-- a month's first day and length within its year -/
def off (y m : Int) : Int := (367 * m - 362) / 12 + adj y m
theorem month_table (y : Int) {m : Int} (h : 1 ≤ m) (h' : m ≤ 12) :
    (m = 1 ∧ off y m = 0 ∧ dim y m = 31) ∨ (m = 2 ∧ off y m = 31 ∧ dim y m = 28 + lp1 y) ∨ (m = 3 ∧ off y m = 59 + lp1 y ∧ dim y m = 31) ∨ (m = 4 ∧ off y m = 90 + lp1 y ∧ dim y m = 30) ∨
    (m = 5 ∧ off y m = 120 + lp1 y ∧ dim y m = 31) ∨ (m = 6 ∧ off y m = 151 + lp1 y ∧ dim y m = 30) ∨ (m = 7 ∧ off y m = 181 + lp1 y ∧ dim y m = 31) ∨ (m = 8 ∧ off y m = 212 + lp1 y ∧ dim y m = 31) ∨
    (m = 9 ∧ off y m = 243 + lp1 y ∧ dim y m = 30) ∨ (m = 10 ∧ off y m = 273 + lp1 y ∧ dim y m = 31) ∨ (m = 11 ∧ off y m = 304 + lp1 y ∧ dim y m = 30) ∨ (m = 12 ∧ off y m = 334 + lp1 y ∧ dim y m = 31) := by
  unfold off
  rw [adj_eq, dim_eq]
  rcases month_cases h h' with rfl | rfl | rfl | rfl | rfl | rfl | rfl | rfl | rfl | rfl | rfl | rfl <;> simp <;> omega
theorem jd_off (y m d : Int) : jd y m d = J1 y + off y m + d - 1 := by rw [jd_eq, off]; omega
/-- a date within its year -/
theorem jd_in {y m d : Int} (m₁ : 1 ≤ m) (m₂ : m ≤ 12) (d₁ : 1 ≤ d) (d₂ : d ≤ dim y m) : J1 y ≤ jd y m d ∧ jd y m d < J1 (y + 1) := by
  rw [jd_off, J1_next]
  have hl := lp1_01 y
  rcases month_table y m₁ m₂ with h | h | h | h | h | h | h | h | h | h | h | h <;> omega
theorem year_parts (z : Int) : ∃ a b c e : Int, z = 400 * a + 100 * b + 4 * c + e ∧ 0 ≤ b ∧ b ≤ 3 ∧ 0 ≤ c ∧ c ≤ 24 ∧ 0 ≤ e ∧ e ≤ 3 :=
  ⟨z / 400, z % 400 / 100, z % 100 / 4, z % 4, by omega⟩
theorem J1_parts {y a b c e : Int} (h : y = 400 * a + 100 * b + 4 * c + e + 1) (b₁ : 0 ≤ b) (b₂ : b ≤ 3) (c₁ : 0 ≤ c) (c₂ : c ≤ 24) (e₁ : 0 ≤ e) (e₂ : e ≤ 3) : J1 y = 1721426 + 146097 * a + 36524 * b + 1461 * c + 365 * e := by
  rw [J1_eq]
  have q4 : (y - 1) / 4 = 100 * a + 25 * b + c := by omega
  have q100 : (y - 1) / 100 = 4 * a + b := by omega
  have q400 : (y - 1) / 400 = a := by omega
  rw [q4, q100, q400]; omega
theorem lp1_parts {y a b c e : Int} (h : y = 400 * a + 100 * b + 4 * c + e + 1) (b₁ : 0 ≤ b) (b₂ : b ≤ 3) (c₁ : 0 ≤ c) (c₂ : c ≤ 24) (e₁ : 0 ≤ e) (e₂ : e ≤ 3) : (lp1 y = 1 ∧ e = 3 ∧ (c = 24 → b = 3)) ∨ (lp1 y = 0 ∧ (e < 3 ∨ (c = 24 ∧ b < 3))) := by
  rcases lp1_cases y with ⟨q, q4, q5⟩ | ⟨q, q4⟩
  · refine .inl ⟨q, by omega, fun hc => ?_⟩
    rcases q5 with q5 | q5 <;> omega
  · refine .inr ⟨q, ?_⟩
    by_cases he : e = 3
    · right
      subst he
      have : y % 4 = 0 := by omega
      constructor
      · by_cases hc : c = 24
        · exact hc
        · exact absurd ⟨this, .inl (by omega)⟩ q4
      · by_cases hb : b = 3
        · by_cases hc : c = 24
          · exact absurd ⟨this, .inr (by omega)⟩ q4
          · exact absurd ⟨this, .inl (by omega)⟩ q4
        · omega
    · left; omega
/-- the year that from_jd finds -/
theorem fyr_eq {y T : Int} (h : J1 y ≤ T) (h' : T < J1 (y + 1)) : fyr T = y := by
  obtain ⟨a, b, c, e, hz, b₁, b₂, c₁, c₂, e₁, e₂⟩ := year_parts (y - 1)
  have hy : y = 400 * a + 100 * b + 4 * c + e + 1 := by omega
  rw [J1_next] at h'
  have hJ := J1_parts hy b₁ b₂ c₁ c₂ e₁ e₂
  have hL := lp1_parts hy b₁ b₂ c₁ c₂ e₁ e₂
  rw [hJ] at h h'
  obtain ⟨r, hr⟩ : ∃ r, T = 1721426 + 146097 * a + 36524 * b + 1461 * c + 365 * e + r := ⟨T - (1721426 + 146097 * a + 36524 * b + 1461 * c + 365 * e), by omega⟩
  have r₁ : 0 ≤ r := by omega
  have r₂ : r < 365 + lp1 y := by omega
  have D : fdep T = 146097 * a + (36524 * b + 1461 * c + 365 * e + r) := by unfold fdep; omega
  generalize lp1 y = l at *
  have qa : fqua T = a := by unfold fqua; omega
  have ra : fdep T % 146097 = 36524 * b + 1461 * c + 365 * e + r := by omega
  unfold fyr fy0 fcen fquad fyin
  rw [qa, ra]
  clear qa ra D hr h h' hJ
  by_cases h4 : b = 3 ∧ c = 24 ∧ e = 3 ∧ r = 365
  · obtain ⟨rfl, rfl, rfl, rfl⟩ := h4
    simp
    omega
  · have rb : 1461 * c + 365 * e + r < 36524 := by omega
    have q1 : (36524 * b + 1461 * c + 365 * e + r) / 36524 = b := by omega
    have q2 : (36524 * b + 1461 * c + 365 * e + r) % 36524 = 1461 * c + 365 * e + r := by omega
    rw [q1, q2]
    have rc : 365 * e + r < 1461 := by omega
    have q3 : (1461 * c + 365 * e + r) / 1461 = c := by omega
    have q4 : (1461 * c + 365 * e + r) % 1461 = 365 * e + r := by omega
    rw [q3, q4]
    by_cases h5 : e = 3 ∧ r = 365
    · obtain ⟨rfl, rfl⟩ := h5
      simp
      omega
    · have q5 : (365 * e + r) / 365 = e := by omega
      rw [q5]
      rw [if_neg (by simp; omega)]
      omega
theorem from_jd_jd {y m d : Int} (m₁ : 1 ≤ m) (m₂ : m ≤ 12) (d₁ : 1 ≤ d) (d₂ : d ≤ dim y m) : fyr (jd y m d) = y ∧ fmo (jd y m d) = m ∧ fda (jd y m d) = d := by
  have hi := jd_in m₁ m₂ d₁ d₂
  have hy := fyr_eq hi.1 hi.2
  have hm : fmo (jd y m d) = m := by
    unfold fmo fla fyd
    rw [hy]
    show ((_ - J1 y + if _ - J1 y < 58 + lp1 y then _ else _) * 12 + 373) / 367 = m
    have hla : (if leap y = true then (1 : Int) else 2) = 2 - lp1 y := by unfold lp1; split <;> rfl
    rw [hla, jd_off]
    have hl := lp1_01 y
    rcases month_table y m₁ m₂ with h | h | h | h | h | h | h | h | h | h | h | h <;> (split <;> omega)
  refine ⟨hy, hm, ?_⟩
  unfold fda
  rw [hy, hm, jd_off, jd_off]
  omega
/-! weeks -/
theorem w1_eq (y : Int) : w1 y = J1 y - J1 y % 7 + (if J1 y % 7 > 3 then 7 else 0) := rfl
theorem w1_mod (y : Int) : w1 y % 7 = 0 := by rw [w1_eq]; split <;> omega
theorem w1_near (y : Int) : J1 y - 3 ≤ w1 y ∧ w1 y ≤ J1 y + 3 := by rw [w1_eq]; split <;> omega
theorem wpy_eq (y : Int) : wpy y = if J1 y % 7 = 3 ∨ (J1 y % 7 = 2 ∧ lp1 y = 1) then 53 else 52 := by
  unfold wpy lp1
  show (if (decide (J1 y % 7 = 3) || (decide (J1 y % 7 = 2) && leap y)) = true then (53 : Int) else 52) = _
  cases leap y <;> simp
theorem w1_next (y : Int) : w1 (y + 1) = w1 y + 7 * wpy y := by
  rw [w1_eq, w1_eq, wpy_eq, J1_next]
  have hl := lp1_01 y
  split <;> split <;> split <;> omega
theorem wpy_52 (y : Int) : wpy y = 52 ∨ wpy y = 53 := by rw [wpy_eq]; split <;> simp
def Iso (T Y : Int) : Prop := w1 Y ≤ T ∧ T < w1 (Y + 1)
theorem w1_mono (y : Int) : ∀ k : Nat, w1 y + k ≤ w1 (y + k)
  | 0 => by simp
  | k + 1 => by
    have h := w1_mono y k
    have h2 := w1_next (y + k)
    have h3 := wpy_52 (y + k)
    rw [show y + ((k + 1 : Nat) : Int) = y + k + 1 by omega]
    omega
theorem Iso.unique {T Y Y' : Int} (h : Iso T Y) (h' : Iso T Y') : Y = Y' := by
  have key : ∀ A B : Int, Iso T A → Iso T B → ¬ A < B := fun A B a b q => by
    have := w1_mono (A + 1) (B - (A + 1)).toNat
    rw [show A + 1 + ((B - (A + 1)).toNat : Int) = B by omega] at this
    have := a.2; have := b.1
    omega
  have := key Y Y' h h'
  have := key Y' Y h' h
  omega
def IY (T : Int) : Int := isoY (fyr T) T
theorem iso_of {y T : Int} (h : J1 y ≤ T) (h' : T < J1 (y + 1)) : Iso T (isoY y T) ∧ isoK y T = (T - w1 (isoY y T)) / 7 ∧ isoD y T = T % 7 := by
  have n0 := w1_near y
  have n1 := w1_near (y + 1)
  have x0 := w1_next y
  have xm := w1_next (y - 1)
  rw [show y - 1 + 1 = y by omega] at xm
  have p0 := wpy_52 y
  have pm := wpy_52 (y - 1)
  have x1 := w1_next (y + 1)
  have p1 := wpy_52 (y + 1)
  have z0 := w1_mod y
  have zm := w1_mod (y - 1)
  unfold isoY isoK isoD
  by_cases a : isoLow y T = true
  · simp only [if_pos a]
    have a' : (T - w1 y) / 7 < 0 := by simpa [isoLow] using a
    refine ⟨⟨by omega, by rw [show y - 1 + 1 = y by omega]; omega⟩, trivial, by omega⟩
  · simp only [if_neg a]
    have a' : ¬ (T - w1 y) / 7 < 0 := by simpa [isoLow] using a
    by_cases b : isoHigh y T = true
    · simp only [if_pos b]
      have b' : (T - w1 y) / 7 ≥ 52 ∧ T ≥ w1 (y + 1) := by simpa [isoHigh] using b
      refine ⟨⟨by omega, by omega⟩, by omega, by omega⟩
    · simp only [if_neg b]
      have b' : ¬ ((T - w1 y) / 7 ≥ 52 ∧ T ≥ w1 (y + 1)) := by simpa [isoHigh] using b
      refine ⟨⟨by omega, by omega⟩, trivial, by omega⟩
/-! the week date of a day -/
def IK (T : Int) : Int := (T - w1 (IY T)) / 7
def D3 (T : Int) : PyData := .tuple [.int (IY T), .int (IK T + 1), .int (T % 7 + 1)]
def InY (T : Int) : Prop := ∃ y, J1 y ≤ T ∧ T < J1 (y + 1)
theorem Iso.of_in {T : Int} (h : InY T) : Iso T (IY T) := by
  obtain ⟨y, h, h'⟩ := h
  have := (iso_of h h').1
  rw [IY, fyr_eq h h']; exact this
theorem iso_D3 {y T : Int} (h : J1 y ≤ T) (h' : T < J1 (y + 1)) : isoY y T = IY T ∧ isoK y T = IK T ∧ isoD y T = T % 7 := by
  have q := iso_of h h'
  have e : IY T = isoY y T := by rw [IY, fyr_eq h h']
  refine ⟨e.symm, ?_, q.2.2⟩
  rw [IK, e]; exact q.2.1
theorem IK_bounds {T : Int} (h : InY T) : 0 ≤ IK T ∧ IK T < wpy (IY T) := by
  have q := Iso.of_in h
  have := w1_next (IY T)
  unfold IK
  obtain ⟨a, b⟩ := q
  omega
theorem next_same {T U : Int} (h : InY T) (h' : InY U) (e : U / 7 = T / 7) : IY U = IY T ∧ IK U = IK T := by
  have q := Iso.of_in h
  have z := w1_mod (IY T)
  have z' := w1_mod (IY T + 1)
  have u : Iso U (IY T) := ⟨by have := q.1; omega, by have := q.2; omega⟩
  have e1 := (Iso.of_in h').unique u
  refine ⟨e1, ?_⟩
  unfold IK; rw [e1]; omega
theorem next_week {T : Int} (h : InY T) (h' : InY (T + 1)) (e : T % 7 = 6) : (IK T + 1 < wpy (IY T) → IY (T + 1) = IY T ∧ IK (T + 1) = IK T + 1) ∧ (¬ IK T + 1 < wpy (IY T) → IY (T + 1) = IY T + 1 ∧ IK (T + 1) = 0) := by
  have q := Iso.of_in h
  have n := w1_next (IY T)
  have n' := w1_next (IY T + 1)
  have p := wpy_52 (IY T + 1)
  have z := w1_mod (IY T)
  have k : IK T = (T - w1 (IY T)) / 7 := rfl
  obtain ⟨q1, q2⟩ := q
  constructor
  · intro hk
    have u : Iso (T + 1) (IY T) := ⟨by omega, by omega⟩
    have e1 := (Iso.of_in h').unique u
    refine ⟨e1, ?_⟩
    unfold IK; rw [e1]; omega
  · intro hk
    have u : Iso (T + 1) (IY T + 1) := ⟨by omega, by omega⟩
    have e1 := (Iso.of_in h').unique u
    refine ⟨e1, ?_⟩
    unfold IK; rw [e1]; omega
theorem isoJd_eq {T : Int} : isoJd (IY T) (IK T + 1) (T % 7 + 1) = T := by
  have b := jd_off (IY T - 1) 12 28
  have o : off (IY T - 1) 12 = 334 + lp1 (IY T - 1) := by
    rcases month_table (IY T - 1) (m := 12) (by decide) (by decide) with h | h | h | h | h | h | h | h | h | h | h | h <;> omega
  have n := J1_next (IY T - 1)
  rw [show IY T - 1 + 1 = IY T by omega] at n
  have w := w1_near (IY T)
  have z := w1_mod (IY T)
  unfold isoJd nwk IK
  omega
/-- another week's pair -/
theorem sunday_apart {T : Int} (h : InY T) (h' : InY (T + 1)) (e : T % 7 = 6) : ¬ (IY T = IY (T + 1) ∧ IK T = IK (T + 1)) := by
  have n := next_week h h' e
  by_cases hk : IK T + 1 < wpy (IY T)
  · have := n.1 hk; omega
  · have := n.2 hk; omega
/-- a Thursday bears a week of its own year -/
theorem thursday {y T : Int} (h : J1 y ≤ T) (h' : T < J1 (y + 1)) (e : T % 7 = 3) : IY T = y := by
  have q := Iso.of_in ⟨y, h, h'⟩
  have n0 := w1_near y
  have n1 := w1_near (y + 1)
  have z0 := w1_mod y
  have z1 := w1_mod (y + 1)
  have u : Iso T y := ⟨by omega, by omega⟩
  exact q.unique u
/-! the month's neighbours -/
structure Dt (y m d T : Int) : Prop where
  y₁ : 1 ≤ y
  y₂ : y ≤ 9999
  m₁ : 1 ≤ m
  m₂ : m ≤ 12
  d₁ : 1 ≤ d
  d₂ : d ≤ dim y m
  jd : jd y m d = T
theorem Dt.inY {y m d T : Int} (h : Dt y m d T) : InY T := ⟨y, by have := jd_in h.m₁ h.m₂ h.d₁ h.d₂; rw [h.jd] at this; exact this⟩
theorem jd_day (y m d : Int) : jd y m d = jd y m 1 + d - 1 := by rw [jd_off, jd_off]; omega
theorem dt_day {y m : Int} (y₁ : 1 ≤ y) (y₂ : y ≤ 9999) (m₁ : 1 ≤ m) (m₂ : m ≤ 12) {k : Nat} (hk : k < dimN y m) : Dt y m ((k : Int) + 1) (jd y m 1 + k) := by
  have := dimN_cast y m
  exact ⟨y₁, y₂, m₁, m₂, by omega, by omega, by rw [jd_day]; omega⟩
theorem dt_before {y m : Int} (y₁ : 2 ≤ y) (y₂ : y ≤ 9998) (m₁ : 1 ≤ m) (m₂ : m ≤ 12) : ∃ a b c, Dt a b c (jd y m 1 - 1) := by
  by_cases h : m = 1
  · subst h
    refine ⟨y - 1, 12, 31, by omega, by omega, by decide, by decide, by decide, by rw [dim_eq]; simp, ?_⟩
    have n := J1_next (y - 1)
    rw [show y - 1 + 1 = y by omega] at n
    rw [jd_off, jd_off]
    have t := month_table (y - 1) (m := 12) (by decide) (by decide)
    have t' := month_table y (m := 1) (by decide) (by decide)
    omega
  · refine ⟨y, m - 1, dim y (m - 1), by omega, by omega, by omega, by omega, by have := dim_pos y (m - 1); omega, Int.le_refl _, ?_⟩
    rw [jd_off, jd_off]
    have t := month_table y (m := m - 1) (by omega) (by omega)
    have t' := month_table y m₁ m₂
    omega
theorem dt_behind {y m : Int} (y₁ : 2 ≤ y) (y₂ : y ≤ 9998) (m₁ : 1 ≤ m) (m₂ : m ≤ 12) : ∃ a b c, Dt a b c (jd y m 1 + dimN y m) := by
  have e := dimN_cast y m
  by_cases h : m = 12
  · subst h
    refine ⟨y + 1, 1, 1, by omega, by omega, by decide, by decide, by decide, by have := dim_pos (y + 1) 1; omega, ?_⟩
    have n := J1_next y
    rw [jd_off, jd_off, e]
    have t := month_table (y + 1) (m := 1) (by decide) (by decide)
    have t' := month_table y (m := 12) (by decide) (by decide)
    omega
  · refine ⟨y, m + 1, 1, by omega, by omega, by omega, by omega, by decide, by have := dim_pos y (m + 1); omega, ?_⟩
    rw [jd_off, jd_off, e]
    have t := month_table y (m := m + 1) (by omega) (by omega)
    have t' := month_table y m₁ m₂
    omega
section
variable {w : World} {mg mb : Str → Option Value} {av : List Addr}
theorem c_from {y m d T : Int} (h : Dt y m d T) : CV (WW w mg mb av) 4 (.ref 98) [.int T] (.tuple [.int y, .int m, .int d]) := by
  have q := from_jd_jd h.m₁ h.m₂ h.d₁ h.d₂
  rw [h.jd] at q
  refine (c_fromjd T).cast ?_
  rw [q.1, q.2.1, q.2.2]
theorem c_week {y m d T : Int} (h : Dt y m d T) : CV (WW w mg mb av) 5 (.ref 140) [.int y, .int m, .int d] (D3 T) := by
  refine (c_iso h.y₁ h.y₂ h.m₁ h.m₂ h.d₁ h.d₂).cast ?_
  have q := jd_in h.m₁ h.m₂ h.d₁ h.d₂
  rw [h.jd] at q ⊢
  have r := iso_D3 q.1 q.2
  rw [r.1, r.2.1, r.2.2]; rfl
theorem c_toJd {T : Int} (h : InY T) : CV (WW w mg mb av) 6 (.ref 119) [.int (IY T), .int (IK T + 1), .int (T % 7 + 1)] (.int T) :=
  (c_isoJd (by have := IK_bounds h; omega)).cast (by rw [isoJd_eq])
theorem c_toDate {y m d T : Int} (h : Dt y m d T) : CV (WW w mg mb av) 7 (.ref 147) [.int (IY T), .int (IK T + 1), .int (T % 7 + 1)] (.tuple [.int y, .int m, .int d]) := by
  have q := from_jd_jd h.m₁ h.m₂ h.d₁ h.d₂
  rw [h.jd] at q
  refine (c_togreg (by have := IK_bounds h.inY; omega)).cast ?_
  rw [isoJd_eq, q.1, q.2.1, q.2.2]
end
/-! every day lies in a year -/
theorem inY_ge {T : Int} (h : 1721426 ≤ T) : InY T := by
  have key : ∀ k : Nat, InY (1721426 + k) := by
    intro k
    induction k with
    | zero => exact ⟨1, by rw [J1_eq]; omega, by rw [J1_eq]; omega⟩
    | succ k ih =>
      obtain ⟨y, a, b⟩ := ih
      by_cases q : 1721426 + ((k + 1 : Nat) : Int) < J1 (y + 1)
      · exact ⟨y, by omega, q⟩
      · refine ⟨y + 1, by omega, ?_⟩
        have := J1_next (y + 1)
        have := lp1_01 (y + 1)
        omega
  have := key (T - 1721426).toNat
  rwa [show 1721426 + ((T - 1721426).toNat : Int) = T by omega] at this
/-! the leaf -/
def cellAt (lp n p : Nat) : PyData := if lp ≤ p ∧ p < lp + n then .int ((p - lp + 1 : Nat) : Int) else .none
theorem days_get {lp n p : Nat} (h : p < lp + n + 7) : (daysD lp n)[p]? = some (cellAt lp n p) := by
  unfold daysD cellAt
  by_cases h1 : p < lp
  · rw [List.append_assoc, List.getElem?_append_left (by simpa using h1), if_neg (by omega)]
    simp [h1]
  · by_cases h2 : p < lp + n
    · rw [List.append_assoc, List.getElem?_append_right (by simp; omega), List.getElem?_append_left (by simp [rangeD_length]; omega), if_pos (by omega)]
      rw [List.length_replicate, rangeD_get _ _ _ (by omega)]
      congr 2
      rw [show 1 + ((p - lp : Nat) : Int) * 1 = ((p - lp + 1 : Nat) : Int) by omega]
    · have hl : (List.replicate lp PyData.none ++ rangeD 1 1 n).length = lp + n := by simp [rangeD_length]
      rw [List.getElem?_append_right (by omega), if_neg (by omega), hl, List.getElem?_replicate, if_pos (by omega)]
theorem row_get {lp n i c : Nat} (hi : i < rowsN lp n) (hc : c < 7) : (rowD lp n i)[c]? = some (cellAt lp n (7 * i + c)) := by
  unfold rowD
  rw [List.getElem?_take, if_pos hc, List.getElem?_drop]
  exact days_get (by unfold rowsN at hi; omega)
theorem row_len {lp n i : Nat} (hi : i < rowsN lp n) : (rowD lp n i).length = 7 := by
  unfold rowD
  rw [List.length_take, List.length_drop, days_len]
  unfold rowsN at hi; omega
theorem rows_get {lp n i : Nat} {d : PyData} (h : (rowsD lp n)[i]? = some d) : i < rowsN lp n ∧ d = .list (rowD lp n i) := by
  unfold rowsD at h
  rw [List.getElem?_map] at h
  have hi : i < rowsN lp n := by
    by_cases q : i < rowsN lp n
    · exact q
    · rw [List.getElem?_eq_none (by simpa using q)] at h; cases h
  rw [List.getElem?_range hi] at h
  cases h
  exact ⟨hi, rfl⟩
theorem rows_len (lp n : Nat) : (rowsD lp n).length = rowsN lp n := by simp [rowsD]
def okc (lp n i c : Nat) : Bool := decide (lp ≤ 7 * i + c ∧ 7 * i + c < lp + n)
theorem notNone_cell (lp n i c : Nat) : notNone (cellAt lp n (7 * i + c)) = okc lp n i c := by
  unfold cellAt okc
  by_cases h : lp ≤ 7 * i + c ∧ 7 * i + c < lp + n
  · rw [if_pos h, decide_eq_true h]; rfl
  · rw [if_neg h, decide_eq_false h]; rfl
def cellG (lp n i : Nat) : PyData → Option PyData
  | .int c => if okc lp n i c.toNat = true then some (.int c) else none
  | _ => none
def colsD (lp n i : Nat) : List PyData := (rangeD 0 1 7).filterMap (cellG lp n i)
theorem cols_len (lp n i : Nat) : (colsD lp n i).length ≤ 7 := by
  have := List.length_filterMap_le (cellG lp n i) (rangeD 0 1 7)
  rw [rangeD_length] at this; exact this
theorem range7_get {i : Nat} {d : PyData} (h : (rangeD 0 1 7)[i]? = some d) : i < 7 ∧ d = .int (i : Int) := by
  have hi : i < 7 := by
    have := (List.getElem?_eq_some_iff.mp h).1
    rwa [rangeD_length] at this
  rw [rangeD_get _ _ _ hi] at h
  cases h
  exact ⟨hi, by congr 1; omega⟩
theorem cols_get {lp n i j : Nat} {d : PyData} (h : (colsD lp n i)[j]? = some d) : ∃ c : Nat, c < 7 ∧ okc lp n i c = true ∧ d = .int (c : Int) := by
  have hm := List.mem_of_getElem? h
  obtain ⟨e, he, hg⟩ := List.mem_filterMap.mp hm
  obtain ⟨k, hk⟩ := List.mem_iff_getElem?.mp he
  obtain ⟨hk7, rfl⟩ := range7_get hk
  have hg : (if okc lp n i ((k : Int)).toNat = true then some (PyData.int (k : Int)) else none) = some d := hg
  rw [show ((k : Int)).toNat = k by omega] at hg
  by_cases q : okc lp n i k = true
  · rw [if_pos q] at hg; cases hg; exact ⟨k, hk7, q, rfl⟩
  · rw [if_neg q] at hg; cases hg
def g2 : PyData → Option PyData
  | .int c => some (.int (if c > 0 then c else 7))
  | _ => none
def wkP (T : Int) : PyData := .tuple [.int (IY T), .int (IK T + 1)]
def gw (P : PyData) : PyData → Option PyData
  | .int c => if c > 0 then some P else none
  | _ => none
theorem gw_rep (P : PyData) (l : List PyData) : l.filterMap (gw P) = List.replicate (l.filterMap (gw P)).length P := by
  rw [List.eq_replicate_iff]
  refine ⟨rfl, fun b hb => ?_⟩
  obtain ⟨a, _, h⟩ := List.mem_filterMap.mp hb
  unfold gw at h
  split at h
  · split at h <;> cases h; rfl
  · cases h
theorem rep_flat {α : Type} (q : Nat) (P : α) : (List.replicate q (List.take 1 (List.replicate q P))).flatten = List.replicate q P := by
  cases q with
  | zero => rfl
  | succ q =>
    show (List.replicate (q + 1) [P]).flatten = _
    generalize q + 1 = k
    induction k with
    | zero => rfl
    | succ k ih => rw [List.replicate_succ, List.flatten_cons, ih]; rfl
/-! the dates -/
def datesD (F : Int) (n : Nat) : List PyData := (List.range (n + 2)).map fun k : Nat => D3 (F - 1 + (k : Int))
theorem dates_len (F : Int) (n : Nat) : (datesD F n).length = n + 2 := by simp [datesD]
theorem dates_get {F : Int} {n k : Nat} (h : k < n + 2) : (datesD F n)[k]? = some (D3 (F - 1 + k)) := by simp [datesD, h]
def midD (F : Int) (n : Nat) : List PyData := (List.range n).map fun k : Nat => D3 (F + (k : Int))
theorem mid_len (F : Int) (n : Nat) : (midD F n).length = n := by simp [midD]
theorem mid_get {F : Int} {n k : Nat} {d : PyData} (h : (midD F n)[k]? = some d) : k < n ∧ d = D3 (F + k) := by
  have hk : k < n := by
    have := (List.getElem?_eq_some_iff.mp h).1
    rwa [mid_len] at this
  simp [midD, hk] at h
  exact ⟨hk, h.symm⟩
theorem dates_make (F : Int) (n : Nat) : [D3 (F - 1)] ++ midD F n ++ [D3 (F + n)] = datesD F n := by
  unfold datesD midD
  rw [List.range_succ, List.range_succ_eq_map]
  simp only [List.map_append, List.map_cons, List.map_nil, List.map_map, List.cons_append, List.nil_append, Function.comp_def]
  congr 1
  · congr 1; omega
  · congr 1
    · congr 1; funext k; congr 1; omega
    · congr 2; omega
theorem dates_tail (F : Int) (n : Nat) : ((datesD F n).drop 1).take (n + 2 - 1) = (List.range (n + 1)).map fun k : Nat => D3 (F + (k : Int)) := by
  rw [List.take_of_length_le (by simp [dates_len])]
  unfold datesD
  rw [List.range_succ_eq_map]
  simp only [List.map_cons, List.drop_succ_cons, List.drop_zero, List.map_map, Function.comp_def]
  congr 1; funext k; congr 1; omega
theorem dates_mid (F : Int) (n : Nat) : ((datesD F n).drop 1).take (n + 1 - 1) = midD F n := by
  rw [← dates_make]
  simp only [List.cons_append, List.nil_append, List.drop_succ_cons, List.drop_zero]
  rw [List.take_append_of_le_length (by simp [mid_len])]
  exact List.take_of_length_le (by simp [mid_len])
def mkG (F : Int) : PyData → Option PyData
  | .int k => some (D3 (F - 1 + k))
  | _ => none
theorem mid_g (F : Int) (n : Nat) : (rangeD 1 1 n).filterMap (mkG F) = midD F n := by
  rw [rangeD, midD, List.filterMap_map, ← List.filterMap_eq_map]
  congr 1
  funext k
  simp only [Function.comp, mkG]
  congr 2; omega
theorem pair_get {F : Int} {n i : Nat} {d : PyData} (h : (zipD (datesD F n) ((List.range (n + 1)).map fun k : Nat => D3 (F + (k : Int))))[i]? = some d) : i < n + 1 ∧ d = .tuple [D3 (F - 1 + i), D3 (F + i)] := by
  unfold zipD at h
  have hi : i < n + 1 := by
    have := (List.getElem?_eq_some_iff.mp h).1
    simp [dates_len] at this; omega
  rw [List.getElem?_zipWith, dates_get (by omega)] at h
  simp [hi] at h
  exact ⟨hi, h.symm⟩
theorem pair_len (F : Int) (n : Nat) : (zipD (datesD F n) ((List.range (n + 1)).map fun k : Nat => D3 (F + (k : Int)))).length = n + 1 := by simp [zipD, dates_len]
def dssD : PyData → List PyData
  | .list l => l
  | _ => []
def g5 (d : PyData) : Option PyData := if notNone d = true then some d else none
theorem flat_rows (L : List PyData) : ∀ k : Nat, ((List.range k).map fun i => PyData.list ((L.drop (7 * i)).take 7)).flatMap (fun d => (dssD d).filterMap g5) = (L.take (7 * k)).filterMap g5
  | 0 => by simp
  | k + 1 => by
    rw [List.range_succ, List.map_append, List.flatMap_append, flat_rows L k, show 7 * (k + 1) = 7 * k + 7 by omega, List.take_add, List.filterMap_append]
    simp [dssD]
theorem g5_none (k : Nat) : (List.replicate k PyData.none).filterMap g5 = [] := by
  rw [List.filterMap_eq_nil_iff]
  intro a ha
  rw [(List.mem_replicate.mp ha).2]; rfl
theorem g5_range (a c : Int) (n : Nat) : (rangeD a c n).filterMap g5 = rangeD a c n := by
  rw [rangeD, List.filterMap_map]
  rw [show (g5 ∘ fun i : Nat => PyData.int (a + i * c)) = (fun x => some x) ∘ (fun i : Nat => PyData.int (a + i * c)) from rfl, ← List.filterMap_map, List.filterMap_some]
theorem leaf_days (lp n : Nat) : (rowsD lp n).flatMap (fun d => (dssD d).filterMap g5) = rangeD 1 1 n := by
  show ((List.range (rowsN lp n)).map fun i => PyData.list (((daysD lp n).drop (7 * i)).take 7)).flatMap _ = _
  rw [flat_rows, daysD, List.take_append, List.filterMap_append, List.take_of_length_le (by simp [rangeD_length, rowsN]; omega), List.take_replicate, g5_none, List.filterMap_append, g5_none, g5_range]
  simp
def g4 (y : Int) : PyData → Option PyData
  | .tuple [.int a, .int b, .int c] => if c = 4 ∧ a ≠ y then some (.tuple [.int a, .int b, .int c]) else none
  | _ => none
def gt : PyData → Option PyData
  | .tuple [.int k, .tuple [.int a, .int b, .int c]] => if k = 0 ∨ c = 1 then some (.tuple [.int a, .int b]) else none
  | _ => none
theorem enum_get {F : Int} {n i : Nat} {d : PyData} (h : (enumD (midD F n))[i]? = some d) : i < n ∧ d = .tuple [.int (i : Nat), D3 (F + i)] := by
  unfold enumD at h
  have hi : i < n := by
    have := (List.getElem?_eq_some_iff.mp h).1
    simp [mid_len] at this; omega
  rw [List.getElem?_zipWith, mid_len] at h
  simp [hi, midD] at h
  exact ⟨hi, h.symm⟩
theorem enum_eq (F : Int) (n : Nat) : enumD (midD F n) = (List.range n).map fun k : Nat => PyData.tuple [.int (k : Nat), D3 (F + k)] := by
  apply List.ext_getElem?
  intro i
  unfold enumD
  rw [List.getElem?_zipWith, mid_len]
  by_cases h : i < n
  · simp [h, midD]
  · simp [h, midD]
def touchN (s n : Nat) : Nat := ((List.range n).filter fun k => k == 0 || (s + k) % 7 == 0).length
theorem touch_len {F : Int} {s : Nat} (n : Nat) (hs : F % 7 = s) : ((enumD (midD F n)).filterMap gt).length = touchN s n := by
  rw [enum_eq, List.filterMap_map, touchN]
  induction n with
  | zero => rfl
  | succ n ih =>
    rw [List.range_succ, List.filterMap_append, List.filter_append, List.length_append, List.length_append, ih]
    congr 1
    have : (gt (PyData.tuple [.int (n : Nat), D3 (F + n)])) = if (n == 0 || (s + n) % 7 == 0) = true then some (wkP (F + n)) else none := by
      show (if _ then _ else _) = _
      by_cases q : (n = 0 ∨ (s + n) % 7 = 0)
      · rw [if_pos (by omega), if_pos (by simpa using q)]; rfl
      · rw [if_neg (by omega), if_neg (by simpa using q)]
    simp only [List.filterMap_cons, List.filterMap_nil, Function.comp, this]
    by_cases q : (n == 0 || (s + n) % 7 == 0) = true
    · simp only [if_pos q, List.filter_cons, List.filter_nil, List.length_cons]; rfl
    · simp only [if_neg q, List.filter_cons, List.filter_nil]; rfl
theorem touch_count : ∀ s : Nat, s < 7 → ∀ j : Nat, j < 4 → ((touchN s (28 + j) : Nat) : Int) = (rowsN ((s + 1) % 7) (28 + j) : Nat) + (if s + 1 = 7 then 1 else 0) - (if (s + (28 + j) - 1) % 7 + 1 = 7 then 1 else 0) := by decide +kernel
/-! shapes -/
theorem shaped_D3 (T : Int) : SeqAt.shaped (D3 T) = true := rfl
theorem canAll {ds : List PyData} (h : ∀ d ∈ ds, d.canLay0 = true) : PyData.canLayAll0 ds = true := by
  induction ds with
  | nil => rfl
  | cons a r ih => simp [PyData.canLayAll0, h a (by simp), ih fun d hd => h d (by simp [hd])]
theorem depthAll_le {ds : List PyData} {k : Nat} (h : ∀ d ∈ ds, d.depth ≤ k) : PyData.depthAll ds ≤ k := by
  induction ds with
  | nil => exact Nat.zero_le _
  | cons a r ih => exact Nat.max_le.mpr ⟨h a (by simp), ih fun d hd => h d (by simp [hd])⟩
theorem shaped_list {ds : List PyData} (h : ∀ d ∈ ds, d.canLay0 = true ∧ d.depth ≤ 3) : SeqAt.shaped (.list ds) = true := by
  have h1 : PyData.canLayAll0 ds = true := canAll fun d hd => (h d hd).1
  have h2 : PyData.depthAll ds ≤ 3 := depthAll_le fun d hd => (h d hd).2
  have h3 : (PyData.list ds).depth ≤ 64 := by show PyData.depthAll ds + 1 ≤ 64; omega
  have h4 : (PyData.list ds).canLay0 = true := h1
  unfold SeqAt.shaped
  rw [h4, decide_eq_true h3]; rfl
theorem eqv_self {d : PyData} (h : SeqAt.shaped d = true) : PyData.eqv d d = true := SeqAt.eqv_refl d (SeqAt.canLay_of_shaped h)
theorem eqv_wk (a b c d : Int) : PyData.eqv (.tuple [.int a, .int b]) (.tuple [.int c, .int d]) = (a == c && b == d) := by
  simp [PyData.eqv, PyData.eqvAll]
/-! the script's year and month -/
def yOf (ns : List Int) : Int := 2 + (match ns[0]? with | some a => (a % 9996 : Int) | none => 0)
def mOf (ns : List Int) : Int := match ns[1]? with | some b => b % 12 + 1 | none => 1
theorem yOf_in (ns : List Int) : 2 ≤ yOf ns ∧ yOf ns ≤ 9997 := by
  have k : ∀ a : Int, 0 ≤ a % 9996 ∧ a % 9996 < 9996 := fun a => ⟨Int.emod_nonneg _ (by decide), Int.emod_lt_of_pos _ (by decide)⟩
  unfold yOf
  split
  · rename_i a _
    obtain ⟨h, h'⟩ := k a
    show 2 ≤ 2 + a % 9996 ∧ 2 + a % 9996 ≤ 9997
    omega
  · omega
theorem mOf_in (ns : List Int) : 1 ≤ mOf ns ∧ mOf ns ≤ 12 := by
  have k : ∀ a : Int, 0 ≤ a % 12 ∧ a % 12 < 12 := fun a => ⟨Int.emod_nonneg _ (by decide), Int.emod_lt_of_pos _ (by decide)⟩
  unfold mOf
  split
  · rename_i a _
    obtain ⟨h, h'⟩ := k a
    show 1 ≤ a % 12 + 1 ∧ a % 12 + 1 ≤ 12
    omega
  · omega
theorem cell_facts {lp n i c : Nat} {F : Int} (hi : i < rowsN lp n) (hc : c < 7) (ok : okc lp n i c = true) (hlp : (F % 7 + 1) % 7 = (lp : Nat)) :
    ∃ k : Nat, 1 ≤ k ∧ k ≤ n ∧ k + lp = 7 * i + c + 1 ∧ (rowD lp n i)[((c : Int)).toNat]? = some (.int (k : Int)) ∧ (F - 1 + (k : Int)) % 7 + 1 = (if (c : Int) > 0 then (c : Int) else 7) ∧
      (datesD F n)[((k : Int)).toNat]? = some (.tuple [.int (IY (F - 1 + (k : Int))), .int (IK (F - 1 + (k : Int)) + 1), .int ((F - 1 + (k : Int)) % 7 + 1)]) := by
  have o : lp ≤ 7 * i + c ∧ 7 * i + c < lp + n := by simpa [okc] using ok
  refine ⟨7 * i + c - lp + 1, by omega, by omega, by omega, ?_, ?_, ?_⟩
  · rw [Int.toNat_natCast, row_get hi hc, cellAt, if_pos o]
  · split <;> omega
  · rw [Int.toNat_natCast, dates_get (by omega)]; rfl
theorem same_week {F T : Int} {lp i c k : Nat} (hin : ∀ k : Int, -7 ≤ k → InY (F + k)) (hlp : (F % 7 + 1) % 7 = (lp : Nat)) (hl : lp < 7) (hc : 0 < c) (hc' : c < 7) (hk : k + lp = 7 * i + c + 1) (hT : T = F + 7 * i + 1 - lp) :
    IY (F - 1 + (k : Int)) = IY T ∧ IK (F - 1 + (k : Int)) = IK T := by
  have a := hin (7 * i + 1 - lp) (by omega)
  have b := hin (k - 1) (by omega)
  rw [show F + (7 * (i : Int) + 1 - lp) = T by omega] at a
  rw [show F + ((k : Int) - 1) = F - 1 + k by omega] at b
  exact next_same a b (by omega)
theorem sunday_other {F T : Int} {lp i k : Nat} (hin : ∀ k : Int, -7 ≤ k → InY (F + k)) (hlp : (F % 7 + 1) % 7 = (lp : Nat)) (hl : lp < 7) (hk : k + lp = 7 * i + 0 + 1) (hT : T = F + 7 * i + 1 - lp) :
    PyData.eqv (.tuple [.int (IY (F - 1 + (k : Int))), .int (IK (F - 1 + (k : Int)) + 1)]) (wkP T) = false := by
  have a := hin (7 * i + 1 - lp) (by omega)
  have b := hin (k - 1) (by omega)
  rw [show F + (7 * (i : Int) + 1 - lp) = F - 1 + k + 1 by omega] at a
  rw [show F + ((k : Int) - 1) = F - 1 + k by omega] at b
  have q := sunday_apart b a (by omega)
  rw [show F - 1 + (k : Int) + 1 = T by omega] at q
  rw [wkP, eqv_wk]
  by_cases h : IY (F - 1 + (k : Int)) = IY T
  · have : IK (F - 1 + (k : Int)) ≠ IK T := fun e => q ⟨h, e⟩
    simp; omega
  · simp [h]
theorem clip1 (l : List PyData) : (l.drop 0).take (clipAt l.length 1 - 0) = l.take 1 := by
  have := clipAt_min (n := l.length) (y := 1) (by decide)
  rw [List.drop_zero, Nat.sub_zero]
  split at this
  · rw [show clipAt l.length 1 = l.length by omega, List.take_length, List.take_of_length_le (by omega)]
  · rw [show clipAt l.length 1 = 1 by omega]
theorem small_ints (l : List PyData) (g : PyData → Option PyData) (h : ∀ a d, g a = some d → d.canLay0 = true ∧ d.depth ≤ 3) : SeqAt.shaped (.list (l.filterMap g)) = true :=
  shaped_list fun d hd => let ⟨a, _, q⟩ := List.mem_filterMap.mp hd; h a d q
theorem g2_small : ∀ a d, g2 a = some d → d.canLay0 = true ∧ d.depth ≤ 3 := fun a d h => by
  unfold g2 at h
  split at h <;> cases h
  exact ⟨rfl, Nat.zero_le _⟩
theorem gw_small (T : Int) : ∀ a d, gw (wkP T) a = some d → d.canLay0 = true ∧ d.depth ≤ 3 := fun a d h => by
  unfold gw at h
  split at h
  · split at h <;> cases h
    exact ⟨rfl, Nat.le_of_ble_eq_true rfl⟩
  · cases h
theorem replen_flat (l : List PyData) (P : PyData) (h : l = List.replicate l.length P) : (List.replicate l.length (l.take 1)).flatten = l := by
  rw [h, List.length_replicate]; exact rep_flat _ _
theorem g5_some {d d' : PyData} (h : g5 d = some d') : d' = d ∧ notNone d = true := by
  unfold g5 at h
  split at h
  · cases h; exact ⟨rfl, by assumption⟩
  · cases h
theorem g5_isSome (d : PyData) : notNone d = (g5 d).isSome := by
  unfold g5
  cases notNone d <;> rfl
theorem g4_isSome (y T : Int) : (decide (T % 7 + 1 = 4) && (decide (IY T ≠ y) && true)) = (g4 y (D3 T)).isSome := by
  show _ = (if T % 7 + 1 = 4 ∧ IY T ≠ y then some (D3 T) else none).isSome
  by_cases h : T % 7 + 1 = 4 ∧ IY T ≠ y
  · rw [if_pos h]; simp [h.1, h.2]
  · rw [if_neg h]
    by_cases q : T % 7 + 1 = 4
    · have : IY T = y := Classical.byContradiction fun e => h ⟨q, e⟩
      simp [this]
    · simp [q]
theorem g4_some {y T : Int} {d : PyData} (h : g4 y (D3 T) = some d) : d = D3 T := by
  have h : (if T % 7 + 1 = 4 ∧ IY T ≠ y then some (D3 T) else none) = some d := h
  split at h <;> cases h; rfl
theorem no_thursday {F y : Int} {n : Nat} (h : ∀ k : Nat, k < n → (F + (k : Int)) % 7 = 3 → IY (F + (k : Int)) = y) : (midD F n).filterMap (g4 y) = [] := by
  rw [List.filterMap_eq_nil_iff]
  intro a ha
  obtain ⟨i, hi⟩ := List.mem_iff_getElem?.mp ha
  obtain ⟨hk, rfl⟩ := mid_get hi
  show (if (F + (i : Int)) % 7 + 1 = 4 ∧ IY (F + (i : Int)) ≠ y then some (D3 (F + (i : Int))) else none) = none
  rw [if_neg]
  rintro ⟨q, e⟩
  exact e (h i hk (by omega))
theorem gt_isSome (k : Nat) (T : Int) : (decide (((k : Nat) : Int) = 0) || (decide (T % 7 + 1 = 1) || false)) = (gt (.tuple [.int (k : Nat), D3 T])).isSome := by
  show _ = (if ((k : Nat) : Int) = 0 ∨ T % 7 + 1 = 1 then some (wkP T) else none).isSome
  by_cases h : ((k : Nat) : Int) = 0 ∨ T % 7 + 1 = 1
  · rw [if_pos h]
    rcases h with h | h <;> simp [h]
  · rw [if_neg h]
    have a : ¬ ((k : Nat) : Int) = 0 := fun e => h (.inl e)
    have b : ¬ T % 7 + 1 = 1 := fun e => h (.inr e)
    simp only [decide_eq_false a, decide_eq_false b]; rfl
theorem gt_some {k : Nat} {T : Int} {d : PyData} (h : gt (.tuple [.int (k : Nat), D3 T]) = some d) : d = wkP T := by
  have h : (if ((k : Nat) : Int) = 0 ∨ T % 7 + 1 = 1 then some (wkP T) else none) = some d := h
  split at h <;> cases h; rfl
theorem enum_len (F : Int) (n : Nat) : (enumD (midD F n)).length = n := by rw [enum_eq]; simp
theorem last_line {F : Int} {n lp : Nat} (hn : 28 ≤ n ∧ n ≤ 31) (hlp : (F % 7 + 1) % 7 = (lp : Nat)) :
    ((((enumD (midD F n)).filterMap gt).length : Nat) : Int) = ((rowsD lp n).length : Nat) + (if decide (F % 7 + 1 = 7) = true then 1 else 0) - (if decide ((F - 1 + (n : Int)) % 7 + 1 = 7) = true then 1 else 0) := by
  have hs : F % 7 = ((F % 7).toNat : Nat) := by omega
  rw [touch_len n hs, rows_len]
  have t := touch_count (F % 7).toNat (by omega) (n - 28) (by omega)
  rw [show 28 + (n - 28) = n by omega, show ((F % 7).toNat + 1) % 7 = lp by omega] at t
  rw [t]
  congr 1
  · congr 1
    by_cases q : F % 7 + 1 = 7
    · rw [if_pos (by omega), if_pos (by simpa using q)]
    · rw [if_neg (by omega), if_neg (by simpa using q)]
  · by_cases q : (F - 1 + (n : Int)) % 7 + 1 = 7
    · rw [if_pos (by omega), if_pos (by simpa using q)]
    · rw [if_neg (by omega), if_neg (by simpa using q)]
theorem shaped_range (n : Nat) : SeqAt.shaped (.list (rangeD 1 1 n)) = true := shaped_list fun d hd => by
  unfold rangeD at hd
  obtain ⟨i, _, rfl⟩ := List.mem_map.mp hd
  exact ⟨rfl, Nat.zero_le _⟩
section
variable {w : World} {mg mb : Str → Option Value} {av : List Addr}
local macro_rules | `(tactic| walk_at "CALLB") => `(tactic| assumption)
local macro_rules | `(tactic| walk_at "CALL") => `(tactic| first | assumption | exact c_wpy)
theorem c_law {ns : List Int} (hl : ns.length ≤ 63) : CV (WW w mg mb av) 20 (.ref 152) [.list (ns.map .int)] (.bool true) := by
  refine CV.defC ["script"] rfl rfl ?_ rfl (by decide) (by decide) ?_
  · intro vs hv
    match vs, hv with
    | [_], _ => rfl
  intro A hb L hr
  show EXs _ _ _ _ [("script", .list (ns.map .int))] _ _
  have hlen : CV (WW w mg mb av) 0 (.builtin "len") [.list (ns.map .int)] (.int ns.length) := (CV.len (by rw [List.length_map]; omega)).cast (by rw [List.length_map])
  refine EXs.cons (ρ' := [("script", .list (ns.map .int)), ("year", .int (yOf ns))]) (EX.assign (d := .int (yOf ns)) (EV.cast (EV.bin EV.int (EV.ite (b := decide (0 < ns.length)) (d := .int (match ns[0]? with | some a => a % 9996 | none => 0)) ?_ ?_ ?_) OpV.add) rfl) ?_ ?_) ?_
  · walk_at "TEST"
    simp
  · intro e
    have e : 0 < ns.length := by simpa using e
    have hg : (ns.map PyData.int)[(0 : Int).toNat]? = some (.int ns[0]) := by simp [e]
    refine EV.cast (d := .int (ns[0] % 9996)) ?_ (by rw [List.getElem?_eq_getElem e])
    walk_at "EV"
  · intro e
    have e : ¬ 0 < ns.length := by simpa using e
    refine EV.cast (d := .int 0) ?_ (by rw [List.getElem?_eq_none (by omega)])
    walk_at "EV"
  · walk_at "SET"
  · walk_at "STORE"
  refine EXs.cons (ρ' := [("script", .list (ns.map .int)), ("year", .int (yOf ns)), ("month", .int (mOf ns))]) (EX.assign (EV.ite (b := decide (1 < ns.length)) (d := .int (mOf ns)) ?_ ?_ ?_) ?_ ?_) ?_
  · walk_at "TEST"
    simp; omega
  · intro e
    have e : 1 < ns.length := by simpa using e
    have hg : (ns.map PyData.int)[(1 : Int).toNat]? = some (.int ns[1]) := by simp [e]
    refine EV.cast (d := .int (ns[1] % 12 + 1)) ?_ (by rw [mOf, List.getElem?_eq_getElem e])
    walk_at "EV"
  · intro e
    have e : ¬ 1 < ns.length := by simpa using e
    refine EV.cast (d := .int 1) ?_ (by rw [mOf, List.getElem?_eq_none (by omega)])
    walk_at "EV"
  · walk_at "SET"
  · walk_at "STORE"
  obtain ⟨y₁, y₂⟩ := yOf_in ns
  obtain ⟨m₁, m₂⟩ := mOf_in ns
  generalize yOf ns = y at *
  generalize mOf ns = m at *
  have hrows := c_cal (w := w) (mg := mg) (mb := mb) (av := av) (y := y) m₁ m₂
  have hmlen : CV (WW w mg mb av) 3 (.ref 105) [.int y, .int m] (.int (dimN y m)) := (c_mlen (w := w) (mg := mg) (mb := mb) (av := av) (y := y) m₁ m₂).cast (by rw [dimN_cast])
  have hjd := c_jd1 (w := w) (mg := mg) (mb := mb) (av := av) (y := y) (m := m)
  have hday : ∀ k : Nat, k < dimN y m → Dt y m ((k : Int) + 1) (jd y m 1 + k) := fun k hk => dt_day (by omega) (by omega) m₁ m₂ hk
  obtain ⟨a₁, b₁, c₁, hbef⟩ := dt_before (y := y) (m := m) y₁ (by omega) m₁ m₂
  obtain ⟨a₂, b₂, c₂, hbeh⟩ := dt_behind (y := y) (m := m) y₁ (by omega) m₁ m₂
  have hn : 28 ≤ dimN y m ∧ dimN y m ≤ 31 := by have := dim_le y m; have := dim_pos y m; have := dimN_cast y m; omega
  have hlp : (jd y m 1 % 7 + 1) % 7 = (lpN y m : Nat) ∧ lpN y m < 7 := by unfold lpN; omega
  have hF : 1721426 + 365 ≤ jd y m 1 := by
    have q := (jd_in (y := y) (m := m) (d := 1) m₁ m₂ (by decide) (by have := dim_pos y m; omega)).1
    rw [J1_eq] at q; omega
  have hthu : ∀ k : Nat, k < dimN y m → (jd y m 1 + k) % 7 = 3 → IY (jd y m 1 + k) = y := fun k hk e => by
    have q := jd_in (hday k hk).m₁ (hday k hk).m₂ (hday k hk).d₁ (hday k hk).d₂
    rw [(hday k hk).jd] at q
    exact thursday q.1 q.2 e
  generalize jd y m 1 = F at *
  generalize dimN y m = n at *
  generalize lpN y m = lp at *
  walk_at "ASSIGN"
  walk_at "ASSIGN"
  walk_at "ASSIGN"
  have hb₁ := c_from (w := w) (mg := mg) (mb := mb) (av := av) hbef
  have hb₂ := c_week (w := w) (mg := mg) (mb := mb) (av := av) hbef
  have hc₁ := c_from (w := w) (mg := mg) (mb := mb) (av := av) hbeh
  have hc₂ := c_week (w := w) (mg := mg) (mb := mb) (av := av) hbeh
  refine EXs.cons (ρ' := [("script", .list (ns.map .int)), ("year", .int y), ("month", .int m), ("rows", .list (rowsD lp n)), ("last", .int n), ("first", .int F), ("dates", .list (datesD F n))]) (EX.assign (d := .list (datesD F n)) (EV.cast (d := .list ([D3 (F - 1)] ++ midD F n ++ [D3 (F + n)])) ?_ ?_) ?_ ?_) ?_
  · apply EV.bin
    · apply EV.bin
      · apply EV.list
        · apply EVs.cons
          · refine EV.callS (ds := [.int a₁, .int b₁, .int c₁]) (Rm.le hr (by decide)) rfl rfl rfl ?_ (Nat.le_of_ble_eq_true rfl) hb₂
            walk_at "EV"
          · walk_at "EVS"
          · exact rfl
        · exact Nat.le_of_ble_eq_true rfl
      · refine' EV.cast (EV.comp (ds := rangeD 1 1 n) (ρ₀ := [("month", .int m), ("year", .int y)]) (mkG F) ?it1 ?sees1 ?sz1 ?turn1 ?hs1) ?q1
        case sees1 => walk_at "SEES"
        case hs1 => intro _; rfl
        case q1 => rw [mid_g]
        case sz1 => rw [rangeD_length]; exact Nat.le_trans hn.2 (by decide)
        case it1 =>
          refine IT.range (b := n + 1) hr.hd (EvRange.two rfl rfl rfl ?_ ?_ rfl rfl rfl) ?_ ?_
          · walk_at "EV"
          · walk_at "EV"
          · exact small_one (by decide) (by decide) (by omega) (by omega)
          · rw [rangeSize_one]; split <;> omega
        case turn1 =>
          intro av' C i d hd
          have hi : i < n := by
            have := (List.getElem?_eq_some_iff.mp hd).1
            rwa [rangeD_length] at this
          rw [rangeD_get _ _ _ hi] at hd
          cases hd
          have hc : CV (WW w mg mb av') 5 (.ref 140) [.int y, .int m, .int (1 + (i : Int) * 1)] (D3 (F - 1 + (1 + (i : Int) * 1))) := by
            have q := hday i hi
            rw [show (i : Int) + 1 = 1 + (i : Int) * 1 by omega, show F + (i : Int) = F - 1 + (1 + (i : Int) * 1) by omega] at q
            exact c_week q
          refine ⟨[("month", .int m), ("year", .int y), ("day", .int (1 + (i : Int) * 1))], by simp, ASL.name (by walk_at "SET") rfl, CTs.nil, ?_⟩
          rintro d' ⟨⟩
          walk_at "EV"
      · exact OpV.addL (by simp [mid_len]; exact Nat.le_trans (m := 40) (by omega) (by decide))
    · apply EV.list
      · apply EVs.cons
        · refine EV.callS (ds := [.int a₂, .int b₂, .int c₂]) (Rm.le hr (by decide)) rfl rfl rfl ?_ (Nat.le_of_ble_eq_true rfl) hc₂
          walk_at "EV"
        · walk_at "EVS"
        · exact rfl
      · exact Nat.le_of_ble_eq_true rfl
    · exact OpV.addL (by simp [mid_len]; exact Nat.le_trans (m := 40) (by omega) (by decide))
  · rw [dates_make]
  · walk_at "SET"
  · walk_at "STORE"
  have hu : A.units + 3 + 64 < cLine := by have := hr.un; show A.units + 3 + 64 < cLine; have e : A.units + 3 + 8 * 19 + 200 < cLine := this; omega
  have hin : ∀ k : Int, -7 ≤ k → InY (F + k) := fun k hk => inY_ge (by omega)
  clear hb₁ hb₂ hc₁ hc₂ hrows hmlen hjd hlen
  refine EXs.cons (ρ' := [("year", .int y), ("month", .int m), ("rows", .list (rowsD lp n)), ("last", .int n), ("first", .int F), ("dates", .list (datesD F n))]) (EX.for (ds := zipD (datesD F n) ((List.range (n + 1)).map fun k : Nat => D3 (F + (k : Int)))) (fun _ => [("year", .int y), ("month", .int m), ("rows", .list (rowsD lp n)), ("last", .int n), ("first", .int F), ("dates", .list (datesD F n))]) ?_ ?_ ?_) ?_
  · refine IT.zip hr.hd rfl rfl rfl ?_ (EV.cast (EV.sliceL (lo := some 1) (hi := none) (ds := datesD F n) (a := 1) (b := n + 2) ?_ (EP.some ?_) EP.none ?_ ?_) ?_) rfl rfl rfl
    · walk_at "EV"
    · walk_at "EV"
    · walk_at "EV"
    · rw [dates_len]; exact Nat.le_trans (m := 60) (by omega) (by decide)
    · rw [sliceBounds_plain, dates_len]
      simp only [Option.elim]
      rw [clipAt_in (by decide) (by omega)]
      rfl
    · rw [dates_tail]
  · simp
  · intro X i d hd
    obtain ⟨hi, rfl⟩ := pair_get hd
    have hT := hin (i - 1) (by omega)
    have hT' := hin i (by omega)
    rw [show F + ((i : Int) - 1) = F - 1 + i by omega] at hT
    have hs : F + (i : Int) = F - 1 + i + 1 := by omega
    rw [hs] at hT' ⊢
    generalize F - 1 + (i : Int) = T at hT hT' ⊢
    have hnx := next_week hT hT'
    have hsm := next_same hT hT'
    refine ⟨[("year", .int y), ("month", .int m), ("rows", .list (rowsD lp n)), ("last", .int n), ("first", .int F), ("dates", .list (datesD F n)), ("one", .tuple [.int (IY T), .int (IK T + 1), .int (T % 7 + 1)]), ("other", D3 (T + 1))], ?_, ?_⟩
    · refine AS.pair (d₁ := .tuple [.int (IY T), .int (IK T + 1), .int (T % 7 + 1)]) (d₂ := D3 (T + 1)) hr.hd (AS.name (ρ' := [("year", .int y), ("month", .int m), ("rows", .list (rowsD lp n)), ("last", .int n), ("first", .int F), ("dates", .list (datesD F n)), ("one", .tuple [.int (IY T), .int (IK T + 1), .int (T % 7 + 1)])]) ?_ (.inl rfl)) (AS.name ?_ (.inl rfl))
      · walk_at "SET"
      · walk_at "SET"
    · refine EXs.cons (ρ' := [("year", .int y), ("month", .int m), ("rows", .list (rowsD lp n)), ("last", .int n), ("first", .int F), ("dates", .list (datesD F n)), ("one", .tuple [.int (IY T), .int (IK T + 1), .int (T % 7 + 1)]), ("other", D3 (T + 1)), ("due", D3 (T + 1))]) (EX.assign (d := D3 (T + 1)) (EV.ite (b := decide (T % 7 + 1 < 7)) ?_ (fun e => ?_) (fun e => EV.ite (b := decide (IK T + 1 < wpy (IY T))) ?_ (fun e' => ?_) (fun e' => ?_))) ?_ ?_) (EXs.cons (EX.skip (ET.cast (ET.cmp (d₁ := D3 (T + 1)) (d₂ := D3 (T + 1)) ?_ ?_ (CmpV.neD rfl rfl hu)) ?_)) (EXs.drop ?_))
      · walk_at "ET"
      · refine EV.cast (d := .tuple [.int (IY T), .int (IK T + 1), .int (T % 7 + 1 + 1)]) ?_ ?_
        · walk_at "EV"
        · simp only [decide_eq_true_eq] at e
          have q := hsm (by omega)
          rw [D3, q.1, q.2, show (T + 1) % 7 = T % 7 + 1 by omega]
      · walk_at "ET"
      · refine EV.cast (d := .tuple [.int (IY T), .int (IK T + 1 + 1), .int 1]) ?_ ?_
        · walk_at "EV"
        · simp only [decide_eq_true_eq, decide_eq_false_iff_not] at e e'
          have q := (hnx (by omega)).1 e'
          rw [D3, q.1, q.2, show (T + 1) % 7 + 1 = 1 by omega]
      · refine EV.cast (d := .tuple [.int (IY T + 1), .int 1, .int 1]) ?_ ?_
        · walk_at "EV"
        · simp only [decide_eq_false_iff_not] at e e'
          have q := (hnx (by omega)).2 e'
          rw [D3, q.1, q.2, show (T + 1) % 7 + 1 = 1 by omega]
          rfl
      · walk_at "SET"
      · walk_at "STORE"
      · walk_at "EV"
      · walk_at "EV"
      · rw [eqv_self rfl]; rfl
      · simp
  refine EXs.cons (ρ' := [("year", .int y), ("month", .int m), ("rows", .list (rowsD lp n)), ("last", .int n), ("first", .int F), ("dates", .list (datesD F n))]) (EX.for (ds := rowsD lp n) (fun _ => [("year", .int y), ("month", .int m), ("rows", .list (rowsD lp n)), ("last", .int n), ("first", .int F), ("dates", .list (datesD F n))]) ?_ ?_ ?_) ?_
  · refine IT.list hr.hd ?_
    walk_at "EV"
  · simp
  · intro X i d hd
    obtain ⟨hi, rfl⟩ := rows_get hd
    clear hd
    have hrow : ∀ c : Nat, c < 7 → (rowD lp n i)[((c : Int)).toNat]? = some (cellAt lp n (7 * i + c)) := fun c hc => row_get hi hc
    have hM : F + 7 * (i : Int) + 1 - lp = F + 7 * (i : Int) + 1 - lp := rfl
    generalize hT : F + 7 * (i : Int) + 1 - lp = T at hM
    refine ⟨[("year", .int y), ("month", .int m), ("rows", .list (rowsD lp n)), ("last", .int n), ("first", .int F), ("dates", .list (datesD F n)), ("row", .list (rowD lp n i))], AS.name (by walk_at "SET") (by walk_at "STORE"), ?_⟩
    refine' EXs.cons (ρ' := [("year", .int y), ("month", .int m), ("rows", .list (rowsD lp n)), ("last", .int n), ("first", .int F), ("dates", .list (datesD F n)), ("row", .list (rowD lp n i)), ("cells", .list (colsD lp n i))]) (EX.assignComp (ρ₀ := [("row", .list (rowD lp n i))]) (ds := rangeD 0 1 7) (cellG lp n i) ?it2 ?sees2 ?sz2 ?set2 ?loc2 ?turn2 ?sw2 ?hs2) ?rest2
    case sees2 => walk_at "SEES"
    case hs2 => intro _; rfl
    case sw2 => rfl
    case loc2 => rfl
    case set2 =>
      show Set _ _ (.list (colsD lp n i)) _
      walk_at "SET"
    case sz2 => rw [rangeD_length]; decide
    case it2 =>
      refine IT.range (b := 7) hr.hd (EvRange.one rfl rfl rfl ?_ rfl) ?_ ?_
      · walk_at "EV"
      · decide
      · decide
    case turn2 =>
      intro av' C j d hd
      obtain ⟨hj, rfl⟩ := range7_get hd
      have hg := hrow j hj
      refine ⟨[("row", .list (rowD lp n i)), ("column", .int (j : Int))], by simp, ASL.name (by walk_at "SET") rfl, CTs.one (ET.cast (ET.cmp (d₁ := cellAt lp n (7 * i + j)) (d₂ := .none) ?_ ?_ CmpV.isNot) ?_), ?_⟩
      · walk_at "EV"
      · walk_at "EV"
      · rw [notNone_cell]
        show _ = (if okc lp n i ((j : Int)).toNat = true then some (PyData.int j) else none).isSome
        rw [Int.toNat_natCast]
        split <;> simp_all
      · intro d' hd'
        have : d' = .int (j : Int) := by
          have hd' : (if okc lp n i ((j : Int)).toNat = true then some (PyData.int j) else none) = some d' := hd'
          split at hd' <;> cases hd'
          rfl
        rw [this]
        walk_at "EV"
    have hcl := cols_len lp n i
    refine' EXs.cons (EX.skip (ET.cast (ET.cmp (d₁ := .list ((colsD lp n i).filterMap g2)) (d₂ := .list ((colsD lp n i).filterMap g2)) ?l3 ?r3 (CmpV.neD (small_ints _ _ g2_small) (small_ints _ _ g2_small) hu) ?hm3) ?q3)) ?rest3
    case hm3 => with_unfolding_all rfl
    case q3 => rw [eqv_self (small_ints _ _ g2_small)]; rfl
    case l3 =>
      refine' EV.comp (ds := colsD lp n i) (ρ₀ := [("dates", .list (datesD F n)), ("row", .list (rowD lp n i))]) g2 ?it4 ?sees4 ?sz4 ?turn4 ?hs4
      case sees4 => walk_at "SEES"
      case hs4 => intro _; rfl
      case sz4 => exact Nat.le_trans hcl (by decide)
      case it4 => exact IT.list hr.hd (by walk_at "EV")
      case turn4 =>
        intro av' C j d hd
        obtain ⟨c, hc, ok, rfl⟩ := cols_get hd
        obtain ⟨k, k₁, k₂, k₃, hg, hv, hdk⟩ := cell_facts (F := F) hi hc ok hlp.1
        refine ⟨[("dates", .list (datesD F n)), ("row", .list (rowD lp n i)), ("column", .int (c : Int))], by simp, ASL.name (by walk_at "SET") rfl, CTs.nil, ?_⟩
        rintro d' ⟨⟩
        rw [← hv]
        walk_at "EV"
    case r3 =>
      refine' EV.comp (ds := colsD lp n i) (ρ₀ := []) g2 ?it5 ?sees5 ?sz5 ?turn5 ?hs5
      case sees5 => walk_at "SEES"
      case hs5 => intro _; rfl
      case sz5 => exact Nat.le_trans hcl (by decide)
      case it5 => exact IT.list hr.hd (by walk_at "EV")
      case turn5 =>
        intro av' C j d hd
        obtain ⟨c, hc, ok, rfl⟩ := cols_get hd
        refine ⟨[("column", .int (c : Int))], by simp, ASL.name (by walk_at "SET") rfl, CTs.nil, ?_⟩
        rintro d' ⟨⟩
        refine EV.cast (d := .int (if decide ((c : Int) > 0) = true then (c : Int) else 7)) ?_ ?_
        · walk_at "EV"
        · simp
    refine' EXs.cons (ρ' := [("year", .int y), ("month", .int m), ("rows", .list (rowsD lp n)), ("last", .int n), ("first", .int F), ("dates", .list (datesD F n)), ("row", .list (rowD lp n i)), ("cells", .list (colsD lp n i)), ("weeks", .list ((colsD lp n i).filterMap (gw (wkP T))))]) (EX.assignComp (ρ₀ := [("dates", .list (datesD F n)), ("row", .list (rowD lp n i))]) (ds := colsD lp n i) (gw (wkP T)) ?it6 ?sees6 ?sz6 ?set6 ?loc6 ?turn6 ?sw6 ?hs6) ?rest6
    case sees6 => walk_at "SEES"
    case hs6 => intro _; rfl
    case sw6 => rfl
    case loc6 => rfl
    case set6 => walk_at "SET"
    case sz6 => exact Nat.le_trans hcl (by decide)
    case it6 => exact IT.list hr.hd (by walk_at "EV")
    case turn6 =>
      intro av' C j d hd
      obtain ⟨c, hc, ok, rfl⟩ := cols_get hd
      obtain ⟨k, k₁, k₂, k₃, hg, hv, hdk⟩ := cell_facts (F := F) hi hc ok hlp.1
      refine ⟨[("dates", .list (datesD F n)), ("row", .list (rowD lp n i)), ("column", .int (c : Int))], by simp, ASL.name (by walk_at "SET") rfl, CTs.one (ET.cast (b := decide ((c : Int) > 0)) ?_ ?_), ?_⟩
      · walk_at "ET"
      · show _ = (if (c : Int) > 0 then some (wkP T) else none).isSome
        by_cases q : (c : Int) > 0
        · rw [if_pos q, decide_eq_true q]; rfl
        · rw [if_neg q, decide_eq_false q]; rfl
      · intro d' hd'
        have hd' : (if (c : Int) > 0 then some (wkP T) else none) = some d' := hd'
        split at hd'
        · rename_i q
          cases hd'
          have sw := same_week (T := T) (i := i) (c := c) (k := k) hin hlp.1 hlp.2 (by omega) hc k₃ hT.symm
          refine EV.cast (EV.sliceT (i := 2) (ds := [.int (IY (F - 1 + (k : Int))), .int (IK (F - 1 + (k : Int)) + 1), .int ((F - 1 + (k : Int)) % 7 + 1)]) ?_ (EP.some EV.int) (by decide) (Nat.le_of_ble_eq_true rfl)) ?_
          · walk_at "EV"
          · rw [sw.1, sw.2]; rfl
        · cases hd'
    have hsh := small_ints (colsD lp n i) (gw (wkP T)) (gw_small T)
    have hwl : ((colsD lp n i).filterMap (gw (wkP T))).length ≤ 7 := Nat.le_trans (List.length_filterMap_le _ _) hcl
    have hrep := gw_rep (wkP T) (colsD lp n i)
    generalize (colsD lp n i).filterMap (gw (wkP T)) = ws at *
    have hlen : ∀ av', CV (WW w mg mb av') 0 (.builtin "len") [.list ws] (.int ws.length) := fun av' => CV.len (by omega)
    have hlen' := hlen (X ++ av)
    have hr0 := hrow 0 (by decide)
    refine EXs.cons (EX.skip (ET.cast (ET.bool (EA.or (b₁ := !PyData.eqv (.list ws) (.list ws)) ?_ (fun _ => EA.or (b₁ := notNone (cellAt lp n (7 * i + 0)) && (!PyData.eqv (.list ws) (.list []) && (false && true))) (ET.bool (EA.and ?_ fun e₁ => EA.and ?_ fun e₂ => EA.and ?_ fun _ => EA.andNil)) (fun _ => EA.orNil)))) ?_)) (EXs.drop ?_)
    · refine ET.cmp (d₁ := .list ws) (d₂ := .list ws) ?_ ?_ (CmpV.neD hsh hsh hu)
      · walk_at "EV"
      · refine EV.cast (EV.bin (EV.sliceL (lo := none) (hi := some 1) (ds := ws) (a := 0) (b := clipAt ws.length 1) ?_ EP.none (EP.some ?_) ?_ ?_) ?_ (OpV.mulL (x := ws.length) (by omega) (by omega) ?_)) ?_
        · walk_at "EV"
        · walk_at "EV"
        · exact Nat.le_trans hwl (by decide)
        · rw [sliceBounds_plain]; rfl
        · walk_at "EV"
        · rw [clip1, Int.toNat_natCast]
          have : (ws.take 1).length ≤ 1 := by rw [List.length_take]; omega
          exact Nat.le_trans (Nat.mul_le_mul this hwl) (by decide)
        · rw [clip1, Int.toNat_natCast, replen_flat ws _ hrep]
    · refine ET.cmp (d₁ := cellAt lp n (7 * i + 0)) (d₂ := .none) ?_ ?_ CmpV.isNot
      · walk_at "EV"
      · walk_at "EV"
    · refine ET.cmp (d₁ := .list ws) (d₂ := .list []) ?_ ?_ (CmpV.neD hsh rfl hu)
      · walk_at "EV"
      · walk_at "EV"
    · rw [notNone_cell] at e₁
      obtain ⟨k, k₁, k₂, k₃, hg, hv, hdk⟩ := cell_facts (F := F) hi (by decide) e₁ hlp.1
      have hq : ws[(0 : Int).toNat]? = some (wkP T) := by
        have : ws ≠ [] := fun q => by rw [q] at e₂; simp [PyData.eqv, PyData.eqvAll] at e₂
        have hpos : 0 < ws.length := List.length_pos_iff.mpr this
        rw [hrep]; simp [hpos]
      have hs := sunday_other (T := T) (i := i) (k := k) hin hlp.1 hlp.2 k₃ hT.symm
      refine ET.cast (ET.cmp (d₁ := .tuple [.int (IY (F - 1 + (k : Int))), .int (IK (F - 1 + (k : Int)) + 1)]) (d₂ := wkP T) (EV.cast (EV.sliceT (i := 2) (ds := [.int (IY (F - 1 + (k : Int))), .int (IK (F - 1 + (k : Int)) + 1), .int ((F - 1 + (k : Int)) % 7 + 1)]) ?_ (EP.some EV.int) (by decide) (Nat.le_of_ble_eq_true rfl)) rfl) ?_ (CmpV.eqD rfl rfl hu)) hs
      · walk_at "EV"
      · walk_at "EV"
    · rw [eqv_self hsh]; simp
    · simp
  have hd1 : (datesD F n)[((1 : Int)).toNat]? = some (.tuple [.int (IY F), .int (IK F + 1), .int (F % 7 + 1)]) := by
    have := dates_get (F := F) (n := n) (k := 1) (by omega)
    rw [show F - 1 + ((1 : Nat) : Int) = F by omega] at this
    exact this
  have hdn : (datesD F n)[((n : Int)).toNat]? = some (.tuple [.int (IY (F - 1 + n)), .int (IK (F - 1 + n) + 1), .int ((F - 1 + n) % 7 + 1)]) := by
    rw [Int.toNat_natCast]; exact dates_get (by omega)
  have dt1 : Dt y m 1 F := by
    have := hday 0 (by omega)
    rwa [show ((0 : Nat) : Int) + 1 = 1 from rfl, show F + ((0 : Nat) : Int) = F by omega] at this
  have dtn : Dt y m n (F - 1 + n) := by
    have := hday (n - 1) (by omega)
    rwa [show ((n - 1 : Nat) : Int) + 1 = n by omega, show F + ((n - 1 : Nat) : Int) = F - 1 + n by omega] at this
  have k1 := c_toJd (w := w) (mg := mg) (mb := mb) (av := av) dt1.inY
  have k2 := c_toJd (w := w) (mg := mg) (mb := mb) (av := av) dtn.inY
  have k3 := c_toDate (w := w) (mg := mg) (mb := mb) (av := av) dt1
  have k4 := c_toDate (w := w) (mg := mg) (mb := mb) (av := av) dtn
  have h27 : (n : Int) < 2 ^ 63 := by omega
  refine EXs.cons (EX.skip (ET.cast (ET.bool (EA.or (b₁ := decide (F ≠ F)) ?_ (fun _ => EA.or (b₁ := decide (F - 1 + (n : Int) ≠ F + n - 1)) ?_ (fun _ => EA.or (b₁ := !PyData.eqv (.tuple [.int y, .int m, .int n]) (.tuple [.int y, .int m, .int n])) ?_ (fun _ => EA.or (b₁ := !PyData.eqv (.tuple [.int y, .int m, .int 1]) (.tuple [.int y, .int m, .int 1])) ?_ (fun _ => EA.orNil)))))) ?_)) ?_
  · refine ET.cmp (EV.callS (Rm.le hr (by decide)) rfl rfl rfl ?_ (Nat.le_of_ble_eq_true rfl) k1) ?_ CmpV.ne
    · walk_at "EV"
    · walk_at "EV"
  · refine ET.cmp (d₂ := .int (F + n - 1)) (EV.callS (Rm.le hr (by decide)) rfl rfl rfl ?_ (Nat.le_of_ble_eq_true rfl) k2) ?_ CmpV.ne
    · walk_at "EV"
    · walk_at "EV"
  · refine ET.cmp (d₂ := .tuple [.int y, .int m, .int n]) (EV.callS (Rm.le hr (by decide)) rfl rfl rfl ?_ (Nat.le_of_ble_eq_true rfl) k4) ?_ (CmpV.neD rfl rfl hu)
    · walk_at "EV"
    · walk_at "EV"
  · refine ET.cmp (d₂ := .tuple [.int y, .int m, .int 1]) (EV.callS (Rm.le hr (by decide)) rfl rfl rfl ?_ (Nat.le_of_ble_eq_true rfl) k3) ?_ (CmpV.neD rfl rfl hu)
    · walk_at "EV"
    · walk_at "EV"
  · rw [eqv_self rfl, eqv_self rfl]
    simp; omega
  have hnt := no_thursday hthu
  have hmid : ∀ (av' : List Addr) (hb' : Heap) (A' : Around) (env' : Env) (ρ' : Rho) (e : PySem.Expr) (u v : PySem.Expr) (p q : Pos), EV (WW w mg mb av') hb' A' env' ρ' e (.list (datesD F n)) → EV (WW w mg mb av') hb' A' env' ρ' u (.int 1) → EV (WW w mg mb av') hb' A' env' ρ' v (.int (-1)) →
      EV (WW w mg mb av') hb' A' env' ρ' (.Subscript e (.Slice (some u) (some v) .none p) q) (.list (midD F n)) := fun av' hb' A' env' ρ' e u v p q he hu' hv' => by
    refine EV.cast (EV.sliceL (lo := some 1) (hi := some (-1)) (ds := datesD F n) (a := 1) (b := n + 1) he (EP.some hu') (EP.some hv') ?_ ?_) ?_
    · rw [dates_len]; exact Nat.le_trans (m := 60) (by omega) (by decide)
    · rw [sliceBounds_plain, dates_len]
      simp only [Option.elim]
      rw [clipAt_in (by decide) (by omega), show clipAt (n + 2) (-1) = n + 1 by unfold clipAt; omega]
      rfl
    · rw [dates_mid]
  refine EXs.cons (EX.skip (ET.cast (ET.bool (EA.or (b₁ := !PyData.eqv (.list (rangeD 1 1 n)) (.list (rangeD 1 1 n))) ?_ (fun _ => EA.or (b₁ := !PyData.eqv (.list []) (.list [])) ?_ (fun _ => EA.orNil)))) ?_)) ?_
  · refine ET.cmp (EV.cast (d := .list ((rowsD lp n).flatMap fun d => (dssD d).filterMap g5)) ?_ (by rw [leaf_days])) (EV.listRange (a := 1) (b := n + 1) (c := 1) (n := n) hr.hd rfl rfl rfl (EvRange.two rfl rfl rfl ?_ ?_ rfl rfl rfl) ?_ ?_ ?_) (CmpV.neD ?_ ?_ hu)
    · refine' EV.comp2 (ds := rowsD lp n) (ρ₀ := []) dssD g5 ?itA ?seesA ?szA ?turnA ?hsA ?hsB
      case seesA => walk_at "SEES"
      case hsA => intro _; rfl
      case hsB => intro _ _; rfl
      case szA => rw [leaf_days, rangeD_length]; exact Nat.le_trans hn.2 (by decide)
      case itA => exact IT.list hr.hd (by walk_at "EV")
      case turnA =>
        intro av' C i d hd
        obtain ⟨hi, rfl⟩ := rows_get hd
        refine ⟨[("row", .list (rowD lp n i))], by simp, ASL.name (by walk_at "SET") rfl, IT.list (ds := rowD lp n i) hr.hd (by walk_at "EV"), ?_⟩
        intro av'' j d' hd'
        refine ⟨[("row", .list (rowD lp n i)), ("day", d')], by simp, ASL.name (by walk_at "SET") rfl, CTs.one (ET.cast (ET.cmp (d₁ := d') (d₂ := .none) ?_ ?_ CmpV.isNot) (g5_isSome d')), ?_⟩
        · walk_at "EV"
        · walk_at "EV"
        · intro d'' h
          rw [(g5_some h).1]
          walk_at "EV"
    · walk_at "EV"
    · walk_at "EV"
    · exact small_one (by decide) (by decide) (by omega) (by omega)
    · rw [rangeSize_one]; split <;> omega
    · omega
    · exact shaped_range n
    · exact shaped_range n
  · refine' ET.cmp (d₁ := .list []) (d₂ := .list []) (EV.cast (EV.comp (ds := midD F n) (ρ₀ := [("year", .int y)]) (g4 y) ?itC ?seesC ?szC ?turnC ?hsC) (by rw [hnt])) ?emptyC (CmpV.neD rfl rfl hu) ?hmC
    case seesC => walk_at "SEES"
    case hsC => intro _; rfl
    case hmC => with_unfolding_all rfl
    case emptyC => walk_at "EV"
    case szC => rw [mid_len]; exact Nat.le_trans hn.2 (by decide)
    case itC =>
      refine IT.list hr.hd (hmid _ _ _ _ _ _ _ _ _ _ ?_ ?_ ?_)
      · walk_at "EV"
      · walk_at "EV"
      · walk_at "EV"
    case turnC =>
      intro av' C i d hd
      obtain ⟨hi, rfl⟩ := mid_get hd
      refine ⟨[("year", .int y), ("date", .tuple [.int (IY (F + (i : Int))), .int (IK (F + (i : Int)) + 1), .int ((F + (i : Int)) % 7 + 1)])], by simp, ASL.name ?_ rfl, CTs.one (ET.cast (ET.bool ?_) (g4_isSome y (F + (i : Int)))), ?_⟩
      · show Set _ _ (.tuple [.int (IY (F + (i : Int))), .int (IK (F + (i : Int)) + 1), .int ((F + (i : Int)) % 7 + 1)]) _
        walk_at "SET"
      · walk_at "EA"
      · intro d' h
        rw [g4_some h]
        show EV _ _ _ _ _ _ (.tuple [.int (IY (F + (i : Int))), .int (IK (F + (i : Int)) + 1), .int ((F + (i : Int)) % 7 + 1)])
        walk_at "EV"
  · rw [eqv_self (shaped_range n), eqv_self rfl]; rfl
  have htl : ((enumD (midD F n)).filterMap gt).length ≤ 31 := by
    have := List.length_filterMap_le gt (enumD (midD F n))
    rw [enum_len] at this
    omega
  have hll := last_line hn hlp.1
  refine' EXs.cons (ρ' := [("rows", .list (rowsD lp n)), ("last", .int n), ("dates", .list (datesD F n)), ("touched", .list ((enumD (midD F n)).filterMap gt))]) (EX.assignComp (ρ₀ := []) (ds := enumD (midD F n)) gt ?itD ?seesD ?szD ?setD ?locD ?turnD ?swD ?hsD) ?restD
  case seesD => walk_at "SEES"
  case hsD => intro _; rfl
  case swD => rfl
  case locD => rfl
  case setD => walk_at "SET"
  case szD => rw [enum_len]; exact Nat.le_trans hn.2 (by decide)
  case itD =>
    refine IT.enum hr.hd rfl rfl rfl (hmid _ _ _ _ _ _ _ _ _ _ ?_ ?_ ?_) rfl
    · walk_at "EV"
    · walk_at "EV"
    · walk_at "EV"
  case turnD =>
    intro av' C i d hd
    obtain ⟨hi, rfl⟩ := enum_get hd
    refine ⟨[("place", .int (i : Nat)), ("date", .tuple [.int (IY (F + (i : Int))), .int (IK (F + (i : Int)) + 1), .int ((F + (i : Int)) % 7 + 1)])], by simp, ASL.pair (d₁ := .int (i : Nat)) (d₂ := .tuple [.int (IY (F + (i : Int))), .int (IK (F + (i : Int)) + 1), .int ((F + (i : Int)) % 7 + 1)]) hr.hd (ASL.name (ρ' := [("place", .int (i : Nat))]) ?_ rfl) (ASL.name ?_ rfl), CTs.one (ET.cast (ET.bool ?_) (gt_isSome i (F + (i : Int)))), ?_⟩
    · walk_at "SET"
    · walk_at "SET"
    · walk_at "EA"
    · intro d' h
      rw [gt_some h]
      refine EV.cast (EV.sliceT (i := 2) (ds := [.int (IY (F + (i : Int))), .int (IK (F + (i : Int)) + 1), .int ((F + (i : Int)) % 7 + 1)]) ?_ (EP.some EV.int) (by decide) (Nat.le_of_ble_eq_true rfl)) rfl
      walk_at "EV"
  generalize (enumD (midD F n)).filterMap gt = ts at *
  have hlt : CV (WW w mg mb av) 0 (.builtin "len") [.list ts] (.int ts.length) := CV.len (by omega)
  have hlr : CV (WW w mg mb av) 0 (.builtin "len") [.list (rowsD lp n)] (.int (rowsD lp n).length) := CV.len (by rw [rows_len]; unfold rowsN; omega)
  apply EXs.ret; apply EX.ret
  refine EV.cast (EV.cmp (d₁ := .int ts.length) (d₂ := .int (((rowsD lp n).length : Nat) + (if decide (F % 7 + 1 = 7) = true then 1 else 0) - (if decide ((F - 1 + (n : Int)) % 7 + 1 = 7) = true then 1 else 0))) ?_ ?_ CmpV.eq) (by rw [decide_eq_true hll])
  · walk_at "EV"
  · walk_at "EV"
end
theorem vals_ints {h : Heap} {vs : List Value} {ns : List Int} (x : IntsAre vs ns) : Vals [] h vs (ns.map .int) := by
  induction x with
  | nil => exact .nil
  | cons n t _ ih => exact .cons (.int n t) ih
theorem law_good {w : World} {mg mb : Str → Option Value} {s₁ : Shared} {fa l : Addr} {vs : List Value} {ns : List Int} {c : ClaimW} {cl : Str → Option Addr} {mean : ExcName → Option Value} {args : List WData}
    (G : Gd (WW w mg mb []) s₁.heap) (hmg : mg (Str.ofString "law") = some (.ref fa)) (hL : s₁.heap.IsList l vs.toArray) (hI : IntsAre vs ns) (hl : ns.length ≤ 63) (hg : s₁.gens = #[])
    (hn : ∀ cls, c.raises args cls = false) (hp : c.post args (.bool true) args = true) :
    wpAny (model PySem.Challenge.rw_bh0008_01.row.prog w) callerA (call (.ref fa) [.ref l]) (fun v s' => GoodWG c cl mean args s₁ (.ok (.ret v)) s') (fun e s' => GoodWG c cl mean args s₁ (.error e) s') s₁ := by
  have e : mg (Str.ofString "law") = some (.ref 152) := mg_of G.k G.g rfl
  rw [hmg] at e
  cases e
  refine wpAny_mono ((c_law hl).run ⟨rfl, by decide, by decide⟩ G (.cons (.list (by simp) hL (vals_ints hI)) .nil)) (fun v s' q => ?_) (fun _ _ x => x.elim)
  obtain ⟨⟨h', tk, rfl, k⟩, hv⟩ := q
  cases hv
  refine GoodW.toG ⟨.inl ⟨_, .bool true, [], rfl, hn, .bool true, hp, fun _ => ⟨List.nodup_nil, fun _ h => nomatch h⟩⟩, k, rfl, hg⟩
theorem law_holds : PySem.Challenge.rw_bh0008_01.Holds := by
  refine Mine.hd ?_
  k_fill
  intro w s₀ s₁ mg mb G Y fa o pm cd doc dV kV ho hd hcd hD hmg hg args vals as hpre hlay hrd hwl hlo
  have KX := kIn_of Y
  refine Ground.open G ?_
  intro T B D TE TW
  wrow_args hpre hlay hrd hwl hlo
  refine law_good ⟨⟨KX, T.g, T.b, T.builtins, T.nolimit, fun _ _ _ h => nomatch h⟩, fun _ h => nomatch h⟩ hmg (by assumption) (by assumption) (by omega) hg (fun _ => ?_) ?_
  · rfl
  · wrow_post
end Mine
theorem PySem.Challenge.cw_bh0008_01_holds : PySem.Challenge.rw_bh0008_01.Holds := by
  exact Mine.law_holds
