import PyProof.Rows.All
import Wide.All
import OpenK.AllK
import Wide.FinOn
import KE.BytesMake
import Wide.BytesRules
import KE.KIntText
import PySem.Challenge.RW_pu0038_03
set_option Elab.async false
section
open PySem PySem.W PyProof.Rows
set_option Elab.async false
namespace Mine
set_option maxRecDepth 100000 in
set_option maxHeartbeats 8000000 in
open_top hd for PySem.Challenge.rw_pu0038_03
end Mine
end

section
open PySem PySem.W PyProof.Rows
set_option Elab.async false
set_option linter.unusedVariables false
namespace Mine

theorem Runs_toks {M : Model} {Γ : Ctx} {p : Pos} {t : Sem PySem.Fin} {fs : List Frame} {s : Shared} {e : End} {s' : Shared} (r : Runs M Γ p t fs s e s') : s.toks ≤ s'.toks := by
  induction r <;> (try simp only [Shared.setGen] at *) <;> (try dsimp only at *) <;> omega
theorem wakes_toks {M : Model} {Γ : Ctx} {p : Pos} {g : Nat} {r : Resume} {s : Shared} {res : GenResult} {s' : Shared} (w : Wakes M Γ p g r s res s') : s.toks ≤ s'.toks := by
  unfold Wakes at w
  split at w
  · exact w.elim
  · split at w
    · obtain ⟨e, s1, r, _, _, rfl⟩ := w; have := Runs_toks r; exact this
    · rw [w.2]; exact Nat.le_refl _
    · rw [w.2]; exact Nat.le_refl _
  · obtain ⟨e, s1, r, _, _, rfl⟩ := w; have := Runs_toks r; exact this
  · rw [w.2]; exact Nat.le_refl _
  · rw [w.2]; exact Nat.le_refl _
theorem wp_toks {α : Type} {M : Model} {Γ : Ctx} {n : Nat} {Q : α → Pos → Shared → Prop} {E : Value → Pos → Shared → Prop} : ∀ (t : Sem α) (p : Pos) (s : Shared), n ≤ s.toks → Sem.wp M Γ t Q E p s → Sem.wp M Γ t (fun a p' s' => Q a p' s' ∧ n ≤ s'.toks) E p s
  | .pure a, p, s, h, w => ⟨w, h⟩
  | .raise e, p, s, h, w => w
  | .unsupported _, _, _, _, w => w
  | .finish _, _, _, _, w => w
  | .rule _ k, p, s, h, w => wp_toks (k ()) p s h w
  | .at p' k, p, s, h, w => wp_toks (k ()) p' s h w
  | .load a _ k, p, s, h, w => let ⟨o, g, w⟩ := w; ⟨o, g, wp_toks (k o) p s h w⟩
  | .update a _ f k, p, s, h, w => ⟨w.1, wp_toks (k ()) p _ h w.2⟩
  | .loadIfAlive a k, p, s, h, w => wp_toks (k _) p s h w
  | .point _ k, p, s, h, w => wp_toks (k ()) p s h w
  | .register _ _, _, _, _, w => w
  | .alloc o k, p, s, h, w => wp_toks (k _) p _ h w
  | .fresh k, p, s, h, w => wp_toks (k _) p _ (Nat.le_succ_of_le h) w
  | .ask k, p, s, h, w => wp_toks (k _) p s h w
  | .choose src m k, p, s, h, w => ⟨w.1, wp_toks (k _) p _ h w.2⟩
  | .os q _ k, p, s, h, w => wp_toks (k _) p _ h w
  | .call c hd _ _ k, p, s, h, w => let ⟨r, s', rr, w⟩ := w; ⟨r, s', rr, wp_toks (k r) p s' (Nat.le_trans h (Runs_toks rr)) w⟩
  | .handled own k, p, s, h, w => wp_toks (k _) p s h w
  | .genState g k, p, s, h, w => let ⟨st, g, w⟩ := w; ⟨st, g, wp_toks (k _) p s h w⟩
  | .newGen c k, p, s, h, w => wp_toks (k _) p _ h w
  | .resume g r _ k, p, s, h, w => let ⟨res, s', ww, w⟩ := w; ⟨res, s', ww, wp_toks (k res) p s' (Nat.le_trans h (wakes_toks ww)) w⟩
  | .yield .., _, _, _, w => w
  | .stack k, p, s, h, w => wp_toks (k _) p s h w
  | .fork .., _, _, _, w => w
  | .thread k, p, s, h, w => wp_toks (k _) p s h w
  | .await .., _, _, _, w => w
theorem wpAny_toks {α : Type} {M : Model} {A : Around} {t : Sem α} {Q : α → Shared → Prop} {E : Value → Shared → Prop} {s : Shared} (w : wpAny M A t Q E s) : wpAny M A t (fun a s' => Q a s' ∧ s.toks ≤ s'.toks) E s :=
  fun Γ p hΓ => wp_toks t p s (Nat.le_refl _) (w Γ p hΓ)
theorem with_toks {α : Type} {M : Model} {A : Around} {t : Sem α} {Q : α → Shared → Prop} {E : Value → Shared → Prop} {s : Shared} (w : wpAny M A t (fun a s' => s.toks ≤ s'.toks → Q a s') E s) : wpAny M A t Q E s :=
  wpAny_mono (wpAny_toks w) (fun _ _ h => h.1 h.2) fun _ _ x => x
theorem codeAny_toks {M : Model} {A : Around} {t : Code} {R : Result → Shared → Prop} {s : Shared} (w : codeAny M A t R s) : codeAny M A t (fun r s' => R r s' ∧ s.toks ≤ s'.toks) s := by
  intro Γ p e hΓ
  obtain ⟨r, s', rr, q⟩ := w Γ p e hΓ
  exact ⟨r, s', rr, q, Runs_toks rr⟩
/-- what stays fixed through a call of the law -/
structure Cx where
  prog : Program
  w : World
  g : Array GenState
  o : OsState
  h0 : Heap
  K : Frag
  mb : Str → Option Value
  kin : K.In h0
  bi : h0.Ns builtinsNs mb
  hmb : ∀ x : Str, x ≠ "__name__" → mb x = bootBuiltins x
  nolimit : h0.NoLimit
  gl : ∃ mg, h0.Ns mainGlobals mg

/-- from heap h (any tokens, any draws) the tree ends normally, generators and os untouched -/
def W {α : Type} (c : Cx) (A : Around) (t : Sem α) (Q : α → Heap → Prop) (h : Heap) : Prop :=
  ∀ d tk, wpAny (model c.prog c.w) A t (fun a s' => ∃ h' d' tk', s' = ⟨h', c.g, d', tk', c.o⟩ ∧ Q a h') (fun _ _ => False) ⟨h, c.g, d, tk + 1, c.o⟩
def CW (c : Cx) (A : Around) (t : Code) (R : Flow → Heap → Prop) (h : Heap) : Prop :=
  ∀ d tk, codeAny (model c.prog c.w) A t (fun r s' => ∃ f h' d' tk', r = .ok f ∧ s' = ⟨h', c.g, d', tk', c.o⟩ ∧ R f h') ⟨h, c.g, d, tk + 1, c.o⟩

section
variable {α β : Type} {c : Cx} {A : Around} {h : Heap}
theorem W_pure {a : α} {Q : α → Heap → Prop} (q : Q a h) : W c A (pure a) Q h := fun d tk => wpAny_pure ⟨h, d, _, rfl, q⟩
theorem W_mono {t : Sem α} {Q Q' : α → Heap → Prop} (x : W c A t Q h) (k : ∀ a h', Q a h' → Q' a h') : W c A t Q' h :=
  fun d tk => wpAny_mono (x d tk) (fun a s' ⟨h', d', tk', e, q⟩ => ⟨h', d', tk', e, k a h' q⟩) fun _ _ x => x
theorem W_bind {m : Sem α} {f : α → Sem β} {Q : β → Heap → Prop} (x : W c A m (fun a h' => W c A (f a) Q h') h) : W c A (m >>= f) Q h :=
  fun d tk => wpAny_bind (wpAny_mono (wpAny_toks (x d tk)) (fun a s' ⟨⟨h', d', tk', e, q⟩, hk⟩ => by
    subst e
    obtain ⟨m, rfl⟩ : ∃ m, tk' = m + 1 := ⟨tk' - 1, by have : tk + 1 ≤ tk' := hk; omega⟩
    exact q d' m) fun _ _ x => x.elim)
/-- a W is any wpAny whose end it implies -/
theorem W_any {t : Sem α} {Q : α → Heap → Prop} {Q' : α → Shared → Prop} {E : Value → Shared → Prop} {d tk} (x : W c A t Q h)
    (k : ∀ a h' d' tk', Q a h' → Q' a ⟨h', c.g, d', tk' + 1, c.o⟩) : wpAny (model c.prog c.w) A t Q' E ⟨h, c.g, d, tk + 1, c.o⟩ :=
  wpAny_mono (wpAny_toks (x d tk)) (fun a s' ⟨⟨h', d', tk', e, q⟩, hk⟩ => by
    subst e
    obtain ⟨m, rfl⟩ : ∃ m, tk' = m + 1 := ⟨tk' - 1, by have : tk + 1 ≤ tk' := hk; omega⟩
    exact k a h' d' m q) fun _ _ x => x.elim
theorem CW_any {t : Code} {R : Flow → Heap → Prop} {R' : Result → Shared → Prop} {d tk} (x : CW c A t R h)
    (k : ∀ f h' d' tk', R f h' → R' (.ok f) ⟨h', c.g, d', tk' + 1, c.o⟩) : codeAny (model c.prog c.w) A t R' ⟨h, c.g, d, tk + 1, c.o⟩ :=
  codeAny_mono (codeAny_toks (x d tk)) fun r s' ⟨⟨f, h', d', tk', e1, e2, q⟩, hk⟩ => by
    subst e1; subst e2
    obtain ⟨m, rfl⟩ : ∃ m, tk' = m + 1 := ⟨tk' - 1, by have : tk + 1 ≤ tk' := hk; omega⟩
    exact k f h' d' m q
/-- the way in: under any continuation -/
theorem W_of {t : Sem α} {Q : α → Heap → Prop}
    (x : ∀ d tk (Q' : α → Shared → Prop) (E : Value → Shared → Prop), (∀ a h' d' tk', Q a h' → Q' a ⟨h', c.g, d', tk', c.o⟩) → wpAny (model c.prog c.w) A t Q' E ⟨h, c.g, d, tk + 1, c.o⟩) :
    W c A t Q h := fun d tk => x d tk _ _ fun a h' d' tk' q => ⟨h', d', _, rfl, q⟩
theorem W_holding {vs : List Value} {t : Sem α} {Q : α → Heap → Prop} (x : W c A t Q h) : W c A (holding vs t) Q h := fun d tk => wpAny_holding (x d tk)
theorem W_call {f : Value} {pos : List Value} {kw : List (Str × Value)} {Q : Value → Heap → Prop}
    (x : CW c A (.call f ⟨pos, kw⟩) (fun fl h' => ∃ v, fl = .ret v ∧ Q v h') h) : W c A (call f pos kw) Q h :=
  fun d tk => wpAny_call (codeAny_mono (x d tk) fun r s' ⟨f, h', d', tk', e1, e2, v, e3, q⟩ => by subst e1; subst e2; subst e3; exact ⟨h', d', _, rfl, q⟩)
end

/-! ## effects -/
def IsTupO (o : Obj) : Prop := o.cls = .type "tuple" ∧ ∃ xs n, o.data = .seq xs n
/-- all of the old heap stands but what lies in V; the entry heap and every tuple stand always -/
def Eff (c : Cx) (V : List Addr) (h h' : Heap) : Prop :=
  ∀ a o, h.get? a = some o → (c.h0.get? a ≠ none ∨ a ∉ V ∨ IsTupO o) → h'.get? a = some o
theorem Eff.refl {c : Cx} {V : List Addr} (h : Heap) : Eff c V h h := fun _ _ e _ => e
theorem Eff.trans {c : Cx} {V : List Addr} {h1 h2 h3 : Heap} (x : Eff c V h1 h2) (y : Eff c V h2 h3) : Eff c V h1 h3 :=
  fun a o e k => y a o (x a o e k) k
theorem Eff.mono {c : Cx} {V V' : List Addr} {h1 h2 : Heap} (x : Eff c V h1 h2) (s : ∀ a ∈ V, a ∈ V') : Eff c V' h1 h2 :=
  fun a o e k => x a o e (k.imp id (Or.imp (fun n m => n (s a m)) id))
theorem Eff.of_nil {c : Cx} {V : List Addr} {h1 h2 : Heap} (x : Eff c [] h1 h2) : Eff c V h1 h2 := x.mono fun _ m => nomatch m
theorem Eff.keep {c : Cx} {h h' : Heap} (x : Eff c [] h h') : ∀ a o, h.get? a = some o → h'.get? a = some o := fun a o e => x a o e (.inr (.inl (fun m => nomatch m)))
theorem Eff.of_keep {c : Cx} {h h' : Heap} (x : ∀ a o, h.get? a = some o → h'.get? a = some o) : Eff c [] h h' := fun a o e _ => x a o e
theorem Eff.push {c : Cx} (h : Heap) (o : Obj) : Eff c [] h (h.push o) := fun _ _ e _ => Heap.get?_push_of_some _ e
theorem get_size (h : Heap) : h.get? h.objs.size = none := by
  cases q : h.get? h.objs.size with
  | none => rfl
  | some o => exact absurd (Heap.lt_size q) (Nat.lt_irrefl _)
theorem get_ge {h : Heap} {a : Addr} (l : h.objs.size ≤ a) : h.get? a = none := by
  cases q : h.get? a with
  | none => rfl
  | some o => exact absurd (Heap.lt_size q) (Nat.not_lt.mpr l)
/-- addresses born behind hb do not count -/
theorem Eff.born {c : Cx} {V : List Addr} {a : Addr} {hb h h' : Heap} (x : Eff c V hb h) (y : Eff c [a] h h') (n : hb.get? a = none ∨ a ∈ V) : Eff c V hb h' :=
  fun b o e k => y b o (x b o e k) (by
    rcases k with k | k | k
    · exact .inl k
    · refine .inr (.inl fun m => ?_)
      have : b = a := by simpa using m
      subst this
      rcases n with n | n
      · rw [e] at n; cases n
      · exact k n
    · exact .inr (.inr k))
theorem Eff.of_ext {c : Cx} {a : Addr} {h h' : Heap} (s : Heap.ExtBut a h h') (hi : c.h0.get? a = none) (nt : ∀ o, h.get? a = some o → ¬ IsTupO o) : Eff c [a] h h' :=
  fun b o e k => by
    by_cases q : b = a
    · subst q
      rcases k with k | k | k
      · exact absurd hi k
      · exact absurd (List.mem_singleton.mpr rfl) k
      · exact absurd k (nt o e)
    · exact s b o q e
theorem Eff.of_same {c : Cx} {a : Addr} {h h' : Heap} (s : Heap.SameBut a h h') (hi : c.h0.get? a = none) (nt : ∀ o, h.get? a = some o → ¬ IsTupO o) : Eff c [a] h h' := .of_ext s.extBut hi nt
def Ok (c : Cx) (h : Heap) : Prop := c.h0.StaysIn h
theorem Ok.eff {c : Cx} {V : List Addr} {h h' : Heap} (ok : Ok c h) (x : Eff c V h h') : Ok c h' := fun a o e => x a o (ok a o e) (.inl (by rw [e]; intro q; cases q))
theorem Ok.kin {c : Cx} {h : Heap} (ok : Ok c h) : c.K.In h := c.kin.keeps ok
theorem Ok.nolimit {c : Cx} {h : Heap} (ok : Ok c h) : h.NoLimit := c.nolimit.keeps ok
theorem Ok.none {c : Cx} {h : Heap} {a : Addr} (ok : Ok c h) (n : h.get? a = none) : c.h0.get? a = none := by
  cases q : c.h0.get? a with
  | none => rfl
  | some o => rw [ok a o q] at n; cases n

/-! ## the ledger -/
inductive Ob where
  | lst (xs : List Value)
  | fld (n : String) (vs : List Value)
  | raw (o : Obj)
  | ns (m : Str → Option Value)
def Ob.sat : Ob → Obj → Prop
  | .lst xs, o => ∃ n, o = { cls := .type "list", data := .seq xs.toArray n }
  | .fld n vs, o => o.cls = .type n ∧ o.data = .fields vs.toArray
  | .raw o', o => o = o' ∧ ¬ IsTupO o' ∧ ∀ v, o'.data ≠ .cell v
  | .ns m, o => ∃ es ep, o.data = .dict es ep ∧ StrKeys es ∧ ∀ name, nsFind es name = m name
theorem Ob.sat.not_tup {b : Ob} {o : Obj} (s : b.sat o) : ¬ IsTupO o := by
  cases b with
  | lst xs => obtain ⟨n, e⟩ := s; subst e; intro t; exact absurd t.1 (by simp)
  | fld n vs => intro t; obtain ⟨_, xs, n, e⟩ := t; rw [s.2] at e; cases e
  | raw o' => rw [s.1]; exact s.2.1
  | ns m => intro t; obtain ⟨_, xs, n, e⟩ := t; obtain ⟨es, ep, d, _⟩ := s; rw [d] at e; cases e
theorem Ob.sat.not_cell {b : Ob} {o : Obj} {v : Option Value} (s : b.sat o) : o.data ≠ .cell v := by
  cases b with
  | lst xs => obtain ⟨n, e⟩ := s; subst e; intro q; cases q
  | fld n vs => rw [s.2]; intro q; cases q
  | raw o' => rw [s.1]; exact s.2.2 v
  | ns m => obtain ⟨es, ep, d, _⟩ := s; rw [d]; intro q; cases q

/-- what is fixed of a frame: its names, where they live -/
structure Fm (env : Env) (ns : List Str) : Prop where
  kind : env.scope.kind = .function
  nd : ns.Nodup
  names : ∀ x ∈ ns, env.kindOf x = some .local ∨ ((env.kindOf x = some .cell ∨ env.kindOf x = some .free) ∧ ∃ a, env.cells.lookup x = some a)
  dbg : ∀ x ∈ ns, (x == ("__debug__" : Str)) = false ∧ (x == ("__classdict__" : Str)) = false
  inj : ∀ x ∈ ns, ∀ y ∈ ns, ∀ a, env.kindOf x ≠ some .local → env.kindOf y ≠ some .local → env.cells.lookup x = some a → env.cells.lookup y = some a → x = y

structure St (c : Cx) (hb : Heap) (V : List Addr) (h : Heap) (env : Env) (ns : List Str) (vs : List (Option Value)) (D : List (Addr × Ob)) (P : Heap → Prop) : Prop where
  fm : Fm env ns
  loc : ∃ m, h.Ns env.locals m ∧ ∀ (i : Nat) (x : Str) (v : Value), ns[i]? = some x → vs[i]? = some (some v) →
    (env.kindOf x = some .local → m x = some v) ∧ (∀ a, env.kindOf x ≠ some .local → env.cells.lookup x = some a → h.IsCell a (some v))
  cel : ∀ x ∈ ns, env.kindOf x ≠ some .local → ∀ a, env.cells.lookup x = some a → ∃ v, h.IsCell a v
  led : ∀ p ∈ D, ∃ o, h.get? p.1 = some o ∧ p.2.sat o
  ap : (env.locals :: D.map (·.1)).Nodup
  eff : Eff c V hb h
  newL : hb.get? env.locals = none
  newD : ∀ p ∈ D, c.h0.get? p.1 = none ∧ (hb.get? p.1 = none ∨ p.1 ∈ V)
  ok : Ok c hb
  perm : ∀ V h1 h2, Eff c V h1 h2 → P h1 → P h2
  p : P h

namespace St
variable {c : Cx} {hb h h' : Heap} {V : List Addr} {env : Env} {a : Addr} {ns : List Str} {vs : List (Option Value)} {D : List (Addr × Ob)} {P : Heap → Prop}
theorem okh (S : St c hb V h env ns vs D P) : Ok c h := S.ok.eff S.eff
theorem hasL (S : St c hb V h env ns vs D P) : ∃ o, h.get? env.locals = some o := let ⟨_, ⟨o, _, _, e, _⟩, _⟩ := S.loc; ⟨o, e⟩
theorem L_lo (S : St c hb V h env ns vs D P) : c.h0.get? env.locals = none := S.ok.none S.newL
theorem L_nt (S : St c hb V h env ns vs D P) : ∀ o, h.get? env.locals = some o → ¬ IsTupO o := fun o e t => by
  obtain ⟨m, ⟨o', es, ep, e', d, _⟩, _⟩ := S.loc
  rw [e] at e'; cases e'
  obtain ⟨_, xs, n, d'⟩ := t
  rw [d] at d'; cases d'
/-- nothing that is named is touched -/
theorem step (S : St c hb V h env ns vs D P) (e : Eff c [] h h') : St c hb V h' env ns vs D P where
  fm := S.fm
  loc := let ⟨m, n, k⟩ := S.loc; ⟨m, n.keeps e.keep, fun i x v p q => ⟨(k i x v p q).1, fun a r s => ((k i x v p q).2 a r s).keeps e.keep⟩⟩
  cel := fun x m k a l => let ⟨v, q⟩ := S.cel x m k a l; ⟨v, q.keeps e.keep⟩
  led := fun p m => let ⟨o, g, s⟩ := S.led p m; ⟨o, e.keep _ _ g, s⟩
  ap := S.ap
  eff := S.eff.trans e.of_nil
  newL := S.newL
  newD := S.newD
  ok := S.ok
  perm := S.perm
  p := S.perm _ _ _ e S.p
theorem get (S : St c hb V h env ns vs D P) {j : Nat} {b : Ob} (e : D[j]? = some (a, b)) : ∃ o, h.get? a = some o ∧ b.sat o := S.led (a, b) (List.mem_of_getElem? e)
theorem getL (S : St c hb V h env ns vs D P) {j : Nat} {xs : List Value} (e : D[j]? = some (a, .lst xs)) : h.PlainList a xs.toArray :=
  let ⟨o, g, n, s⟩ := S.get e; ⟨n, s ▸ g⟩
theorem loSet (S : St c hb V h env ns vs D P) {j : Nat} {b : Ob} (e : D[j]? = some (a, b)) : c.h0.get? a = none := (S.newD _ (List.mem_of_getElem? e)).1
theorem ntAt (S : St c hb V h env ns vs D P) {j : Nat} {b : Ob} (e : D[j]? = some (a, b)) : ∀ o, h.get? a = some o → ¬ IsTupO o := fun o g => by
  obtain ⟨o', g', s⟩ := S.get e; rw [g] at g'; cases g'; exact s.not_tup
theorem cell_ne (S : St c hb V h env ns vs D P) {j : Nat} {b : Ob} (e : D[j]? = some (a, b)) {x : Addr} {v : Option Value} (k : h.IsCell x v) : x ≠ a := fun q => by
  subst q
  obtain ⟨o, g, d⟩ := k
  obtain ⟨o', g', s⟩ := S.get e
  rw [g] at g'; cases g'
  exact s.not_cell d
theorem map_set_fst {D : List (Addr × Ob)} {j : Nat} {a : Addr} {b b' : Ob} (e : D[j]? = some (a, b)) : (D.set j (a, b')).map (·.1) = D.map (·.1) := by
  rw [List.map_set]
  have hj : j < D.length := (List.getElem?_eq_some_iff.mp e).1
  have hja : D[j].1 = a := by rw [(List.getElem?_eq_some_iff.mp e).2]
  refine List.ext_getElem (by simp) fun i h1 h2 => ?_
  rw [List.getElem_set]
  split
  · rename_i q; subst q; simp [hja]
  · rfl
theorem cell_eff1 {c : Cx} {h h' : Heap} {x a : Addr} {v : Option Value} (k : h.IsCell x v) (e : Eff c [a] h h') (n : x ≠ a) : h'.IsCell x v :=
  let ⟨o, g, d⟩ := k; ⟨o, e x o g (.inr (.inl fun q => n (List.mem_singleton.mp q))), d⟩
/-- one object of the ledger is turned -/
theorem upd (S : St c hb V h env ns vs D P) {j : Nat} {b b' : Ob} (e : D[j]? = some (a, b)) (x : Eff c [a] h h') (g : ∃ o, h'.get? a = some o ∧ b'.sat o) :
    St c hb V h' env ns vs (D.set j (a, b')) P where
  fm := S.fm
  loc := by
    obtain ⟨m, ⟨o, es, ep, ho, r⟩, k⟩ := S.loc
    have hm := List.mem_of_getElem? e
    have hne : env.locals ≠ a := fun q => (List.nodup_cons.mp S.ap).1 (List.mem_map.mpr ⟨_, hm, q.symm⟩)
    refine ⟨m, ⟨o, es, ep, x _ o ho (.inr (.inl (fun q => hne (List.mem_singleton.mp q)))), r⟩, fun i y v p q => ⟨(k i y v p q).1, fun a' r s => ?_⟩⟩
    have := (k i y v p q).2 a' r s
    exact cell_eff1 this x (S.cell_ne e this)
  cel := fun y m k a' l => let ⟨v, q⟩ := S.cel y m k a' l; ⟨v, cell_eff1 q x (S.cell_ne e q)⟩
  led := fun p m => by
    obtain ⟨i, hi, hp⟩ := List.mem_iff_getElem.mp m
    rw [List.getElem_set] at hp
    split at hp
    · subst hp; exact g
    · rename_i hij
      subst hp
      rw [List.length_set] at hi
      obtain ⟨o, go, s⟩ := S.led _ (List.getElem_mem hi)
      refine ⟨o, x _ o go (.inr (.inl fun q => ?_)), s⟩
      have hq : D[i].1 = a := List.mem_singleton.mp q
      have hnd := (List.nodup_cons.mp S.ap).2
      have hj : j < D.length := (List.getElem?_eq_some_iff.mp e).1
      have hja : D[j].1 = a := by rw [(List.getElem?_eq_some_iff.mp e).2]
      have := (List.getElem_inj (xs := D.map fun p => p.1) (h₀ := by simpa using hi) (h₁ := by simpa using hj) hnd).mp (by simp [hq, hja])
      exact hij this.symm
  ap := by rw [map_set_fst e]; exact S.ap
  eff := S.eff.born x (S.newD _ (List.mem_of_getElem? e)).2
  newL := S.newL
  newD := fun p m => by
    rcases List.mem_or_eq_of_mem_set m with q | q
    · exact S.newD p q
    · rw [q]; exact S.newD (a, b) (List.mem_of_getElem? e)
  ok := S.ok
  perm := S.perm
  p := S.perm _ _ _ x S.p
theorem set_look {vs : List (Option Value)} {i j : Nat} {v u : Value} (hu : (vs.set i (some v))[j]? = some (some u)) : (j = i ∧ u = v) ∨ (j ≠ i ∧ vs[j]? = some (some u)) := by
  by_cases q : j = i
  · subst q
    have hlt : j < (vs.set j (some v)).length := (List.getElem?_eq_some_iff.mp hu).1
    rw [List.length_set] at hlt
    rw [List.getElem?_set_self hlt] at hu
    cases hu
    exact .inl ⟨rfl, rfl⟩
  · rw [List.getElem?_set_ne (Ne.symm q)] at hu
    exact .inr ⟨q, hu⟩
theorem ix_inj {i j : Nat} {x : Str} (nd : ns.Nodup) (h1 : ns[i]? = some x) (h2 : ns[j]? = some x) : i = j := by
  have h1 := List.getElem?_eq_some_iff.mp h1
  have h2 := List.getElem?_eq_some_iff.mp h2
  exact (List.getElem_inj (h₀ := h1.1) (h₁ := h2.1) nd).mp (h1.2.trans h2.2.symm)
/-- a local name of the frame is stored -/
theorem storeL (S : St c hb V h env ns vs D P) {i : Nat} {x : Str} {v : Value} (hx : ns[i]? = some x)
    (hn : ∀ m, h.Ns env.locals m → h'.Ns env.locals (fun y => if y = x then some v else m y)) (hk : env.kindOf x = some .local) (s : Heap.SameBut env.locals h h') : St c hb V h' env ns (vs.set i (some v)) D P where
  fm := S.fm
  loc := by
    obtain ⟨m, n, k⟩ := S.loc
    refine ⟨_, hn m n, fun j y u hj hu => ?_⟩
    rcases set_look hu with ⟨q, w⟩ | ⟨q, hu⟩
    · subst q; subst w
      rw [hx] at hj; cases hj
      exact ⟨fun _ => by simp, fun a q => absurd hk q⟩
    · refine ⟨fun l => ?_, fun a r t => ?_⟩
      · have hyx : y ≠ x := fun e => q (by subst e; exact ix_inj S.fm.nd hj hx)
        simp only [hyx, if_false]
        exact (k j y u hj hu).1 l
      · have K := (k j y u hj hu).2 a r t
        refine K.sameBut s fun e => ?_
        subst e
        obtain ⟨o, g, d⟩ := K
        obtain ⟨o', _, _, g', d', _⟩ := n
        rw [g] at g'; cases g'; rw [d] at d'; cases d'
  cel := fun y m k a l => by
    obtain ⟨v, K⟩ := S.cel y m k a l
    refine ⟨v, K.sameBut s fun e => ?_⟩
    subst e
    obtain ⟨o, g, d⟩ := K
    obtain ⟨m, ⟨o', _, _, g', d', _⟩, _⟩ := S.loc
    rw [g] at g'; cases g'; rw [d] at d'; cases d'
  led := fun p m => by
    obtain ⟨o, g, t⟩ := S.led p m
    exact ⟨o, (s.2 _ fun q => (List.nodup_cons.mp S.ap).1 (q ▸ List.mem_map_of_mem m)).trans g, t⟩
  ap := S.ap
  eff := S.eff.born (.of_same s S.L_lo S.L_nt) (.inl S.newL)
  newL := S.newL
  newD := S.newD
  ok := S.ok
  perm := S.perm
  p := S.perm _ _ _ (Eff.of_same s S.L_lo S.L_nt) S.p
/-- a name that lives in a cell is stored -/
theorem storeC (S : St c hb V h env ns vs D P) {i : Nat} {x : Str} {v : Value} (hx : ns[i]? = some x) (hk : env.kindOf x ≠ some .local) (hc : env.cells.lookup x = some a)
    (own : hb.get? a = none) (g : h'.IsCell a (some v)) (s : Heap.SameBut a h h') : St c hb V h' env ns (vs.set i (some v)) D P := by
  have hxm := List.mem_of_getElem? hx
  obtain ⟨v0, K0⟩ := S.cel x hxm hk a hc
  have hlo : c.h0.get? a = none := S.ok.none own
  have hnt : ∀ o, h.get? a = some o → ¬ IsTupO o := fun o e t => by
    obtain ⟨o', e', d⟩ := K0
    rw [e] at e'; cases e'
    obtain ⟨_, xs, n, d'⟩ := t
    rw [d] at d'; cases d'
  have hE : Eff c [a] h h' := .of_same s hlo hnt
  have hneL : env.locals ≠ a := fun e => by
    obtain ⟨m, ⟨o', _, _, g', d', _⟩, _⟩ := S.loc
    obtain ⟨o, g, d⟩ := K0
    rw [e, g] at g'; cases g'; rw [d] at d'; cases d'
  exact {
    fm := S.fm
    loc := by
      obtain ⟨m, n, k⟩ := S.loc
      refine ⟨m, n.sameBut s hneL, fun j y u hj hu => ?_⟩
      rcases set_look hu with ⟨q, w⟩ | ⟨q, hu⟩
      · subst q; subst w
        rw [hx] at hj; cases hj
        refine ⟨fun l => absurd l hk, fun b _ l => ?_⟩
        rw [hc] at l; cases l; exact g
      · refine ⟨(k j y u hj hu).1, fun b r t => ((k j y u hj hu).2 b r t).sameBut s fun e => ?_⟩
        subst e
        exact q (ix_inj S.fm.nd hj ((S.fm.inj y (List.mem_of_getElem? hj) x hxm b r hk t hc) ▸ hx))
    cel := fun y m k b l => by
      by_cases e : b = a
      · subst e; exact ⟨_, g⟩
      · obtain ⟨w, q⟩ := S.cel y m k b l
        exact ⟨w, q.sameBut s e⟩
    led := fun p m => by
      obtain ⟨o, go, t⟩ := S.led p m
      refine ⟨o, (s.2 _ fun q => ?_).trans go, t⟩
      obtain ⟨o', e', d⟩ := K0
      rw [← q, go] at e'; cases e'
      exact t.not_cell d
    ap := S.ap
    eff := S.eff.born hE (.inl own)
    newL := S.newL
    newD := S.newD
    ok := S.ok
    perm := S.perm
    p := S.perm _ _ _ hE S.p }
/-- a new object is entered at the end of the ledger -/
theorem enter (S : St c hb V h env ns vs D P) (e : Eff c [] h h') (n : h.get? a = none) {b : Ob} (g : ∃ o, h'.get? a = some o ∧ b.sat o) : St c hb V h' env ns vs (D ++ [(a, b)]) P :=
  have T := S.step e
  { T with
    led := fun p m => by
      rcases List.mem_append.mp m with m | m
      · exact T.led p m
      · rw [List.mem_singleton.mp m]; exact g
    ap := by
      rw [List.map_append, ← List.cons_append, List.nodup_append]
      refine ⟨T.ap, by simp, fun x hx y hy => ?_⟩
      simp only [List.map_cons, List.map_nil, List.mem_singleton] at hy
      subst hy
      intro q
      subst q
      rcases List.mem_cons.mp hx with q | q
      · obtain ⟨o, go⟩ := S.hasL
        rw [← q, n] at go; cases go
      · obtain ⟨p, hp, rfl⟩ := List.mem_map.mp q
        obtain ⟨o, go, _⟩ := S.led p hp
        rw [n] at go; cases go
    newD := fun p m => by
      rcases List.mem_append.mp m with m | m
      · exact T.newD p m
      · rw [List.mem_singleton.mp m]; exact ⟨S.okh.none n, by
          by_cases q : a ∈ V
          · exact .inr q
          · refine .inl ?_
            cases e : hb.get? a with
            | none => rfl
            | some o => rw [S.eff a o e (.inr (.inl q))] at n; cases n⟩ }
/-- forget -/
theorem weaken (S : St c hb V h env ns vs D P) {vs' : List (Option Value)} {D' : List (Addr × Ob)} (hv : ∀ (i : Nat) (v : Value), vs'[i]? = some (some v) → vs[i]? = some (some v)) (hD : D'.Sublist D) : St c hb V h env ns vs' D' P :=
  { S with
    loc := let ⟨m, n, k⟩ := S.loc; ⟨m, n, fun i x v a b => k i x v a (hv i v b)⟩
    led := fun p m => S.led p (hD.subset m)
    ap := S.ap.sublist (.cons_cons _ (hD.map _))
    newD := fun p m => S.newD p (hD.subset m) }
theorem forget (S : St c hb V h env ns vs D P) {D' : List (Addr × Ob)} (hD : D'.Sublist D) : St c hb V h env ns vs D' P := S.weaken (fun _ _ e => e) hD
/-- one more permanent fact -/
theorem also (S : St c hb V h env ns vs D P) {F : Heap → Prop} (f : F h) (pf : ∀ V h1 h2, Eff c V h1 h2 → F h1 → F h2) : St c hb V h env ns vs D (fun h => P h ∧ F h) :=
  { S with perm := fun V h1 h2 e x => ⟨S.perm V h1 h2 e x.1, pf V h1 h2 e x.2⟩, p := ⟨S.p, f⟩ }
theorem less (S : St c hb V h env ns vs D P) {F : Heap → Prop} (f : F h) (pf : ∀ V h1 h2, Eff c V h1 h2 → F h1 → F h2) : St c hb V h env ns vs D F :=
  { S with perm := pf, p := f }
end St

end Mine
end

section
open PySem PySem.W PyProof.Rows
set_option Elab.async false
set_option linter.unusedVariables false
namespace Mine

theorem nat_or_eq (a b : Nat) : a ||| b = (a ^^^ b) + (a &&& b) := by
  induction a using Nat.strongRecOn generalizing b with
  | ind a ih =>
    by_cases ha : a = 0
    · subst ha; simp
    · have h1 := ih (a / 2) (by omega) (b / 2)
      have e1 : (a ||| b) / 2 = a / 2 ||| b / 2 := by rw [Nat.or_div_two]
      have e2 : (a ^^^ b) / 2 = a / 2 ^^^ b / 2 := by rw [Nat.xor_div_two]
      have e3 : (a &&& b) / 2 = a / 2 &&& b / 2 := by rw [Nat.and_div_two]
      have m1 : (a ||| b) % 2 = (a % 2 ||| b % 2) := by have := Nat.or_mod_two_pow (a := a) (b := b) (n := 1); simpa using this
      have m2 : (a ^^^ b) % 2 = (a % 2 ^^^ b % 2) := by have := Nat.xor_mod_two_pow (a := a) (b := b) (n := 1); simpa using this
      have m3 : (a &&& b) % 2 = (a % 2 &&& b % 2) := by have := Nat.and_mod_two_pow (a := a) (b := b) (n := 1); simpa using this
      have ra : a % 2 = 0 ∨ a % 2 = 1 := by omega
      have rb : b % 2 = 0 ∨ b % 2 = 1 := by omega
      have key : (a % 2 ||| b % 2) = (a % 2 ^^^ b % 2) + (a % 2 &&& b % 2) := by
        rcases ra with ra | ra <;> rcases rb with rb | rb <;> rw [ra, rb] <;> rfl
      omega
theorem bitAnd_nat (a b : Nat) : Builtin.bitAnd (a : Int) (b : Int) = ((a &&& b : Nat) : Int) := by simp [bitAnd_pp]
theorem bitNot_eq (a : Int) : Builtin.bitNot a = - a - 1 := by unfold Builtin.bitNot; omega
theorem bitOr_nat (a b : Nat) : Builtin.bitOr (a : Int) (b : Int) = ((a ||| b : Nat) : Int) := by
  unfold Builtin.bitOr
  have h1 : ¬ (0 ≤ Builtin.bitNot (a : Int)) := by rw [bitNot_eq]; omega
  have h2 : ¬ (0 ≤ Builtin.bitNot (b : Int)) := by rw [bitNot_eq]; omega
  rw [bitAnd_nn h1 h2]
  simp only [bitNot_bitNot, Int.toNat_natCast]
theorem bitXor_nat (a b : Nat) : Builtin.bitXor (a : Int) (b : Int) = ((a ^^^ b : Nat) : Int) := by
  unfold Builtin.bitXor
  rw [bitOr_nat, bitAnd_nat, nat_or_eq]; push_cast; omega

/-! ## room -/
def Rm (A : Around) (n : Nat) : Prop := A.handled = none ∧ A.depth + n < recursionLimit ∧ A.units + 8 * n < cLine
theorem Rm.deeper {A : Around} {n : Nat} (r : Rm A (n + 1)) (env : Env) : Rm (A.deeper env) n := ⟨r.1, by have := r.2.1; show A.depth + 1 + n < _; omega, by have := r.2.2; show A.units + 3 + 8 * n < _; omega⟩
theorem Rm.in1 {A : Around} {n : Nat} (r : Rm A (n + 1)) : Rm A.in1 n := ⟨r.1, by have := r.2.1; show A.depth + n < _; omega, by have := r.2.2; show A.units + 1 + 8 * n < _; omega⟩
theorem Rm.less {A : Around} {n m : Nat} (r : Rm A n) (h : m ≤ n) : Rm A m := ⟨r.1, by have := r.2.1; omega, by have := r.2.2; omega⟩
theorem Rm.units {A : Around} {n : Nat} (r : Rm A n) : A.units < cLine := by have := r.2.2; omega
theorem Rm.depth {A : Around} {n : Nat} (r : Rm A n) : A.depth < recursionLimit := by have := r.2.1; omega

section
variable {α β : Type} {c : Cx} {A : Around} {h : Heap} {env : Env}

/-! ## statements -/
theorem S_nil {Q : Flow → Heap → Prop} (q : Q .next h) : W c A (execs [] env) Q h := fun d tk => wpAny_execs_nil ⟨h, d, _, rfl, q⟩
theorem S_cons {st rest} {Q : Flow → Heap → Prop} (x : W c A (exec st env) (fun f h' => match f with | .next => W c A (execs rest env) Q h' | f => Q f h') h) : W c A (execs (st :: rest) env) Q h :=
  fun d tk => wpAny_execs_cons (W_any x fun f h' d' tk' q => by cases f <;> first | exact q d' tk' | exact ⟨h', d', _, rfl, q⟩)
/-- a statement that goes on to the next -/
theorem S_next {st rest} {Q : Flow → Heap → Prop} (x : W c A (exec st env) (fun f h' => f = .next ∧ W c A (execs rest env) Q h') h) : W c A (execs (st :: rest) env) Q h :=
  S_cons (W_mono x fun f h' q => by obtain ⟨e, q⟩ := q; subst e; exact q)
theorem S_pass {pos} {Q : Flow → Heap → Prop} (q : Q .next h) : W c A (exec (.Pass pos) env) Q h := fun d tk => wpAny_Pass ⟨h, d, _, rfl, q⟩
theorem S_cont {pos} {Q : Flow → Heap → Prop} (q : Q .cont h) : W c A (exec (.Continue pos) env) Q h := fun d tk => wpAny_Continue ⟨h, d, _, rfl, q⟩
theorem S_assign {x pos' value pos} {Q : Flow → Heap → Prop} (k : W c A (eval value env) (fun v h' => W c A (storeName env x v) (fun _ => Q .next) h') h)
    (hs : swapsWith value (some (.Name x pos')) pos.line env = pure false := by rfl) : W c A (exec (.Assign [.Name x pos'] value pos) env) Q h :=
  fun d tk => wpAny_Assign_Name (W_any k fun v h' d' tk' q => W_any q fun _ h' d' tk' q => ⟨h', d', _, rfl, q⟩) hs
theorem S_aug {x pos' op value pos} {Q : Flow → Heap → Prop}
    (k : W c A (loadName env x) (fun old h1 => W c A (eval value env) (fun v h2 => W c A (inplaceOp op old v) (fun r h3 => W c A (storeName env x r) (fun _ => Q .next) h3) h2) h1) h) :
    W c A (exec (.AugAssign (.Name x pos') op value pos) env) Q h :=
  fun d tk => wpAny_AugAssign_Name (W_any k fun _ _ _ _ q => W_any q fun _ _ _ _ q => W_any q fun _ _ _ _ q => W_any q fun _ h' d' tk' q => ⟨h', d', _, rfl, q⟩)
theorem S_if {test body orelse pos} {Q : Flow → Heap → Prop}
    (k : W c A (isTrue test env (eval test env)) (fun b h1 => if b then W c A (execs body env) Q h1 else W c A (execs orelse env) Q h1) h) : W c A (exec (.If test body orelse pos) env) Q h :=
  fun d tk => wpAny_If (W_any k fun b h1 d' tk' q => by cases b <;> exact q d' tk')
theorem S_ret {e pos} {Q : Flow → Heap → Prop} (k : W c A (eval e env) (fun v => Q (.ret v)) h) : W c A (exec (.Return (some e) pos) env) Q h :=
  fun d tk => wpAny_Return_some (W_any k fun _ h' d' tk' q => ⟨h', d', _, rfl, q⟩)
theorem S_expr {e pos} {Q : Flow → Heap → Prop} (k : W c A (eval e env) (fun _ => Q .next) h)
    (hi : interactive env = false := by rfl) (hs : swapsWith e none pos.line env = pure false := by rfl) : W c A (exec (.Expr e pos) env) Q h :=
  fun d tk => wpAny_Expr_any (W_any k fun _ h' d' tk' q => ⟨h', d', _, rfl, q⟩) hi hs
theorem S_setitem {o i pos' value pos} {Q : Flow → Heap → Prop}
    (k : W c A (eval value env) (fun v h1 => W c A (eval o env) (fun ov h2 => W c A (eval i env) (fun iv h3 => W c A (setItem ov iv v) (fun _ => Q .next) h3) h2) h1) h)
    (hs : swapsWith value (some (.Subscript o i pos')) pos.line env = pure false := by rfl) : W c A (exec (.Assign [.Subscript o i pos'] value pos) env) Q h :=
  fun d tk => wpAny_Assign_Subscript (W_any k fun _ _ _ _ q => W_any q fun _ _ _ _ q => W_any q fun _ _ _ _ q => W_any q fun _ h' d' tk' q => ⟨h', d', _, rfl, q⟩) hs
theorem S_del {o i pos' pos} {Q : Flow → Heap → Prop}
    (k : W c A (eval o env) (fun ov h1 => W c A (eval i env) (fun iv h2 => W c A (delItem ov iv) (fun _ => Q .next) h2) h1) h) : W c A (exec (.Delete [.Subscript o i pos'] pos) env) Q h :=
  fun d tk => wpAny_Delete (wpAny_deleteEach_cons (wpAny_delete_Subscript (W_any k fun _ _ _ _ q => W_any q fun _ _ _ _ q => W_any q fun _ h' d' tk' q => wpAny_deleteEach_nil ⟨h', d', _, rfl, q⟩)))

/-! ## expressions -/
theorem E_int {i : Int} {k pos} {Q : Value → Heap → Prop} (q : ∀ t, Q (.int i t) h) : W c A (eval (.Constant (.int i) k pos) env) Q h := fun d tk => wpAny_Constant_int ⟨h, d, _, rfl, q _⟩
/-- a written number, as a cast -/
theorem E_lit {n : Nat} {k pos} {Q : Value → Heap → Prop} (q : ∀ t, Q (.int ((OfNat.ofNat n : Nat) : Int) t) h) : W c A (eval (.Constant (.int (@OfNat.ofNat Int n instOfNat)) k pos) env) Q h := E_int q
theorem E_str {x : Str} {k pos} {Q : Value → Heap → Prop} (q : ∀ t, Q (.str x t) h) : W c A (eval (.Constant (.str x) k pos) env) Q h := fun d tk => wpAny_Constant_str ⟨h, d, _, rfl, q _⟩
theorem E_none {k pos} {Q : Value → Heap → Prop} (q : Q .none h) : W c A (eval (.Constant .none k pos) env) Q h := fun d tk => wpAny_Constant_none ⟨h, d, _, rfl, q⟩
theorem E_bool {b : Bool} {k pos} {Q : Value → Heap → Prop} (q : Q (.bool b) h) : W c A (eval (.Constant (.bool b) k pos) env) Q h := fun d tk => wpAny_Constant_bool ⟨h, d, _, rfl, q⟩
theorem E_bin {l op r pos} {Q : Value → Heap → Prop} (k : W c A (eval l env) (fun a h1 => W c A (eval r env) (fun b h2 => W c A (binaryOp op a b) Q h2) h1) h) : W c A (eval (.BinOp l op r pos) env) Q h :=
  fun d tk => wpAny_BinOp (W_any k fun _ _ _ _ q => W_any q fun _ _ d' tk' q => q d' tk')
theorem E_cmp {l op r pos} {Q : Value → Heap → Prop} (k : W c A (eval l env) (fun a h1 => W c A (eval r env) (fun b h2 => W c A (compareOp op a b) Q h2) h1) h)
    (hm : behindInMarks op r = false := by with_unfolding_all rfl) : W c A (eval (.Compare l [op] [r] pos) env) Q h :=
  fun d tk => wpAny_Compare1 (W_any k fun _ _ _ _ q => W_any q fun _ _ d' tk' q => q d' tk') hm
theorem E_if {test body orelse pos} {Q : Value → Heap → Prop} (k : W c A (isTrue test env (eval test env)) (fun b h1 => if b then W c A (eval body env) Q h1 else W c A (eval orelse env) Q h1) h) :
    W c A (eval (.IfExp test body orelse pos) env) Q h := fun d tk => wpAny_IfExp (W_any k fun b _ d' tk' q => by cases b <;> exact q d' tk')
theorem E_or {x y pos} {Q : Value → Heap → Prop} (k : W c A (eval x env) (fun v h1 => W c A (truthy v) (fun t h2 => if t then Q v h2 else W c A (eval y env) Q h2) h1) h) : W c A (eval (.BoolOp .Or [x, y] pos) env) Q h :=
  fun d tk => wpAny_Or2 (W_any k fun _ _ _ _ q => W_any q fun t h' d' tk' q => by cases t; exact q d' tk'; exact ⟨h', d', _, rfl, q⟩)
theorem E_not {x pos} {Q : Value → Heap → Prop} (k : W c A (eval x env) (fun v h1 => W c A (truthy v) (fun b => Q (.bool (!b))) h1) h) : W c A (eval (.UnaryOp .Not x pos) env) Q h :=
  fun d tk => wpAny_UnaryOp (W_any k fun _ _ _ _ q => not_value (W_any q fun _ h' d' tk' q => ⟨h', d', _, rfl, q⟩))
theorem E_sub {value slice pos} {Q : Value → Heap → Prop} (k : W c A (eval value env) (fun o h1 => W c A (eval slice env) (fun i h2 => W c A (subscriptTail value slice o i) Q h2) h1) h) :
    W c A (eval (.Subscript value slice pos) env) Q h := fun d tk => Subscript_ (W_any k fun _ _ _ _ q => W_any q fun _ _ d' tk' q => q d' tk')

/-! ## tests -/
theorem T_cmp {l op r pos whole} {Q : Bool → Heap → Prop} (k : W c A (eval l env) (fun a h1 => W c A (eval r env) (fun b h2 => W c A (compareOp op a b) (fun v h3 => W c A (truthy v) Q h3) h2) h1) h)
    (hm : behindInMarks op r = false := by with_unfolding_all rfl) : W c A (isTrue (.Compare l [op] [r] pos) env whole) Q h :=
  fun d tk => wpAny_isTrue_Compare1 (W_any k fun _ _ _ _ q => W_any q fun _ _ _ _ q => W_any q fun _ _ d' tk' q => q d' tk') hm
theorem T_not {x pos whole} {Q : Bool → Heap → Prop} (k : W c A (isTrue x env (eval x env)) (fun b => Q (!b)) h) : W c A (isTrue (.UnaryOp .Not x pos) env whole) Q h :=
  fun d tk => wpAny_isTrue_Not (W_any k fun _ h' d' tk' q => ⟨h', d', _, rfl, q⟩)
theorem T_val {e : Expr} {whole : Sem Value} {Q : Bool → Heap → Prop} (k : W c A whole (fun v h1 => W c A (truthy v) Q h1) h)
    (he : isTrue e env whole = (do let v ← whole; standAt e.pos; holding [v] (truthy v)) := by rfl) : W c A (isTrue e env whole) Q h :=
  fun d tk => wpAny_isTrue_value (W_any k fun _ _ d' tk' q => q d' tk') he
theorem T_bool {op values pos whole} {Q : Bool → Heap → Prop} (k : W c A (allTrue op values env) Q h) : W c A (isTrue (.BoolOp op values pos) env whole) Q h := fun d tk => wpAny_isTrue_BoolOp (k d tk)
theorem T_and0 {Q : Bool → Heap → Prop} (q : Q true h) : W c A (allTrue .And [] env) Q h := fun d tk => wpAny_allTrue_And_nil ⟨h, d, _, rfl, q⟩
theorem T_or0 {Q : Bool → Heap → Prop} (q : Q false h) : W c A (allTrue .Or [] env) Q h := fun d tk => wpAny_allTrue_Or_nil ⟨h, d, _, rfl, q⟩
theorem T_and {x rest} {Q : Bool → Heap → Prop} (k : W c A (isTrue x env (eval x env)) (fun b h1 => if b then W c A (allTrue .And rest env) Q h1 else Q false h1) h) : W c A (allTrue .And (x :: rest) env) Q h :=
  fun d tk => wpAny_allTrue_And_cons (W_any k fun b h' d' tk' q => by cases b; exact ⟨h', d', _, rfl, q⟩; exact q d' tk')
theorem T_or {x rest} {Q : Bool → Heap → Prop} (k : W c A (isTrue x env (eval x env)) (fun b h1 => if b then Q true h1 else W c A (allTrue .Or rest env) Q h1) h) : W c A (allTrue .Or (x :: rest) env) Q h :=
  fun d tk => wpAny_allTrue_Or_cons (W_any k fun b h' d' tk' q => by cases b; exact q d' tk'; exact ⟨h', d', _, rfl, q⟩)
theorem T_chain2 {l op₁ op₂ r₁ r₂ pos whole} {Q : Bool → Heap → Prop}
    (k : W c A (eval l env) (fun a h1 => W c A (eval r₁ env) (fun b h2 => W c A (compareOp op₁ a b) (fun v h3 => W c A (truthy v) (fun t h4 =>
      if t then W c A (eval r₂ env) (fun b' h5 => W c A (compareOp op₂ b b') (fun v' h6 => W c A (truthy v') Q h6) h5) h4 else Q false h4) h3) h2) h1) h)
    (hm : lastMarks [op₁, op₂] [r₁, r₂] = false := by with_unfolding_all rfl) : W c A (isTrue (.Compare l [op₁, op₂] [r₁, r₂] pos) env whole) Q h := fun d tk => by
  refine isTrue_chain (W_any k fun a h1 d' tk' q => ?_) hm
  show wpAny _ _ (do
    let rv ← holding [a] (eval r₁ env)
    standAt pos
    let cc ← holding [a, rv] (compareOp op₁ a rv)
    release [a, rv] [cc]
    if ← holding [cc, rv] (truthy cc) then testChain pos rv [op₂] [eval r₂ env] else pure false) _ _ _
  refine wpAny_bind (wpAny_holding (W_any q fun b h2 d' tk' q => wpAny_bind (wpAny_standAt (wpAny_bind (wpAny_holding (W_any q fun v h3 d' tk' q => wpAny_bind (wpAny_release (wpAny_bind (wpAny_holding (W_any q fun t h4 d' tk' q => ?_))))))))))
  cases t with
  | false => exact wpAny_pure ⟨h4, d', _, rfl, q⟩
  | true =>
    show wpAny _ _ (do
      let rv ← holding [b] (eval r₂ env)
      standAt pos
      let cc ← operate [b, rv] (compareOp op₂ b rv)
      holding [cc] (truthy cc)) _ _ _
    exact wpAny_bind (wpAny_holding (W_any (show W c A _ _ _ from q) fun b' h5 d' tk' q => wpAny_bind (wpAny_standAt (wpAny_bind (wpAny_operating (W_any q fun v' h6 d' tk' q => wpAny_holding (q d' tk')))))))

/-! ## arithmetic on naturals -/
variable {a b : Nat} {t u : Tok}
theorem O_add {Q : Value → Heap → Prop} (q : ∀ t, Q (.int ((a + b : Nat) : Int) t) h) : W c A (binaryOp .Add (.int a t) (.int b u)) Q h :=
  fun d tk => P.add_int ⟨h, d, _, rfl, by have := q (tk + 1); rwa [Int.natCast_add] at this⟩
theorem O_sub {Q : Value → Heap → Prop} (hb : b ≤ a) (q : ∀ t, Q (.int ((a - b : Nat) : Int) t) h) : W c A (binaryOp .Sub (.int a t) (.int b u)) Q h :=
  fun d tk => P.sub_int ⟨h, d, _, rfl, by have := q (tk + 1); rwa [Int.ofNat_sub hb] at this⟩
theorem O_mul {Q : Value → Heap → Prop} (hb : a < 2 ^ 64 ∨ b < 2 ^ 64) (q : ∀ t, Q (.int ((a * b : Nat) : Int) t) h) : W c A (binaryOp .Mult (.int a t) (.int b u)) Q h :=
  fun d tk => P.mul_int ⟨h, d, _, rfl, by have := q (tk + 1); rwa [Int.natCast_mul] at this⟩ (hb.elim (fun x => IntMulOk.of_left (intBits_le_64 (by omega) (by omega))) fun x => IntMulOk.of_right (intBits_le_64 (by omega) (by omega)))
theorem O_mod {Q : Value → Heap → Prop} (hb : 0 < b) (q : ∀ t, Q (.int ((a % b : Nat) : Int) t) h) : W c A (binaryOp .Mod (.int a t) (.int b u)) Q h :=
  fun d tk => mod_int' (by omega) ⟨h, d, _, rfl, by have := q (tk + 1); rwa [show ((a % b : Nat) : Int) = Int.fmod a b by rw [Int.fmod_eq_emod_of_nonneg _ (by omega)]; rfl] at this⟩
theorem O_div {Q : Value → Heap → Prop} (hb : 0 < b) (hs : b < 1073741824) (q : ∀ t, Q (.int ((a / b : Nat) : Int) t) h) : W c A (binaryOp .FloorDiv (.int a t) (.int b u)) Q h :=
  fun d tk => floordiv_int (by omega) ⟨h, d, _, rfl, by have := q (tk + 1); rwa [show ((a / b : Nat) : Int) = Int.fdiv a b by rw [Int.fdiv_eq_ediv_of_nonneg _ (by omega)]; rfl] at this⟩ (.inl (PyProof.noPylong_small (by omega)))
theorem O_and {Q : Value → Heap → Prop} (q : ∀ t, Q (.int ((a &&& b : Nat) : Int) t) h) : W c A (binaryOp .BitAnd (.int a t) (.int b u)) Q h := fun d tk => and_int ⟨h, d, _, rfl, by have := q (tk + 1); rwa [← bitAnd_nat] at this⟩
theorem O_or {Q : Value → Heap → Prop} (q : ∀ t, Q (.int ((a ||| b : Nat) : Int) t) h) : W c A (binaryOp .BitOr (.int a t) (.int b u)) Q h := fun d tk => or_int ⟨h, d, _, rfl, by have := q (tk + 1); rwa [← bitOr_nat] at this⟩
theorem O_xor {Q : Value → Heap → Prop} (q : ∀ t, Q (.int ((a ^^^ b : Nat) : Int) t) h) : W c A (binaryOp .BitXor (.int a t) (.int b u)) Q h := fun d tk => xor_int ⟨h, d, _, rfl, by have := q (tk + 1); rwa [← bitXor_nat] at this⟩
theorem shr_nat (a b : Nat) : ((a >>> b : Nat) : Int) = Int.fdiv (a : Int) (2 ^ (b : Int).toNat) := by
  rw [Int.fdiv_eq_ediv_of_nonneg _ (Int.pow_nonneg (by omega)), Int.toNat_natCast, Nat.shiftRight_eq_div_pow]; push_cast; rfl
theorem O_shr {Q : Value → Heap → Prop} (q : ∀ t, Q (.int ((a >>> b : Nat) : Int) t) h) : W c A (binaryOp .RShift (.int a t) (.int b u)) Q h := fun d tk => rshift_int (by omega) ⟨h, d, _, rfl, by have := q (tk + 1); rwa [shr_nat] at this⟩
theorem shl_nat (a b : Nat) : ((a <<< b : Nat) : Int) = (a : Int) * (2 ^ (b : Int).toNat) := by rw [Int.toNat_natCast, Nat.shiftLeft_eq]; push_cast; rfl
theorem O_shl {Q : Value → Heap → Prop} (ha : a < 2 ^ 64) (hb : b ≤ 1000000) (q : ∀ t, Q (.int ((a <<< b : Nat) : Int) t) h) : W c A (binaryOp .LShift (.int a t) (.int b u)) Q h :=
  fun d tk => lshift_int_small (by omega) (by omega) (by omega) ⟨h, d, _, rfl, by have := q (tk + 1); rwa [shl_nat] at this⟩
theorem O_pow {Q : Value → Heap → Prop} (ha : a < 2 ^ 64) (hb : b ≤ 1000000) (q : ∀ t, Q (.int ((a ^ b : Nat) : Int) t) h) : W c A (binaryOp .Pow (.int a t) (.int b u)) Q h :=
  fun d tk => pow_int_small (by omega) (by omega) (by omega) ⟨h, d, _, rfl, by have := q (tk + 1); rwa [show ((a ^ b : Nat) : Int) = (a : Int) ^ (b : Int).toNat by rw [Int.toNat_natCast]; push_cast; rfl] at this⟩
theorem I_add {Q : Value → Heap → Prop} (q : ∀ t, Q (.int ((a + b : Nat) : Int) t) h) : W c A (inplaceOp .Add (.int a t) (.int b u)) Q h :=
  fun d tk => P.iadd_int ⟨h, d, _, rfl, by have := q (tk + 1); rwa [Int.natCast_add] at this⟩
theorem I_xor {Q : Value → Heap → Prop} (q : ∀ t, Q (.int ((a ^^^ b : Nat) : Int) t) h) : W c A (inplaceOp .BitXor (.int a t) (.int b u)) Q h := fun d tk => ixor_int ⟨h, d, _, rfl, by have := q (tk + 1); rwa [← bitXor_nat] at this⟩
theorem I_shr {Q : Value → Heap → Prop} (q : ∀ t, Q (.int ((a >>> b : Nat) : Int) t) h) : W c A (inplaceOp .RShift (.int a t) (.int b u)) Q h := fun d tk => irshift_int (by omega) ⟨h, d, _, rfl, by have := q (tk + 1); rwa [shr_nat] at this⟩
theorem C_eq {Q : Value → Heap → Prop} (q : Q (.bool (decide (a = b))) h) : W c A (compareOp .Eq (.int a t) (.int b u)) Q h :=
  fun d tk => P.eq_int ⟨h, d, _, rfl, by rwa [show ((a : Int) == (b : Int)) = decide (a = b) by rw [Bool.eq_iff_iff]; simp <;> omega]⟩
theorem C_ne {Q : Value → Heap → Prop} (q : Q (.bool (decide (a ≠ b))) h) : W c A (compareOp .NotEq (.int a t) (.int b u)) Q h :=
  fun d tk => P.ne_int ⟨h, d, _, rfl, by rwa [show ((a : Int) != (b : Int)) = decide (a ≠ b) by rw [Bool.eq_iff_iff]; simp <;> omega]⟩
theorem C_lt {Q : Value → Heap → Prop} (q : Q (.bool (decide (a < b))) h) : W c A (compareOp .Lt (.int a t) (.int b u)) Q h :=
  fun d tk => P.lt_int ⟨h, d, _, rfl, by rwa [show decide ((a : Int) < (b : Int)) = decide (a < b) by simp]⟩
theorem C_le {Q : Value → Heap → Prop} (q : Q (.bool (decide (a ≤ b))) h) : W c A (compareOp .LtE (.int a t) (.int b u)) Q h :=
  fun d tk => P.le_int ⟨h, d, _, rfl, by rwa [show decide ((a : Int) ≤ (b : Int)) = decide (a ≤ b) by simp]⟩
theorem C_gt {Q : Value → Heap → Prop} (q : Q (.bool (decide (a > b))) h) : W c A (compareOp .Gt (.int a t) (.int b u)) Q h :=
  fun d tk => P.gt_int ⟨h, d, _, rfl, by rwa [show decide ((a : Int) > (b : Int)) = decide (a > b) by simp]⟩
theorem C_ge {Q : Value → Heap → Prop} (q : Q (.bool (decide (a ≥ b))) h) : W c A (compareOp .GtE (.int a t) (.int b u)) Q h :=
  fun d tk => P.ge_int ⟨h, d, _, rfl, by rwa [show decide ((a : Int) ≥ (b : Int)) = decide (a ≥ b) by simp]⟩
theorem B_bool {b : Bool} {Q : Bool → Heap → Prop} (q : Q b h) : W c A (truthy (.bool b)) Q h := fun d tk => wpAny_truthy_bool ⟨h, d, _, rfl, q⟩
theorem B_int {Q : Bool → Heap → Prop} (q : Q (decide (a ≠ 0)) h) : W c A (truthy (.int a t)) Q h :=
  fun d tk => P.truthy_int ⟨h, d, _, rfl, by rwa [show ((a : Int) != 0) = decide (a ≠ 0) by rw [Bool.eq_iff_iff]; simp <;> omega]⟩
end

/-! ## names -/
section
variable {c : Cx} {A : Around} {hb h : Heap} {V : List Addr} {env : Env} {ns : List Str} {vs : List (Option Value)} {D : List (Addr × Ob)} {P : Heap → Prop}
theorem N_load (S : St c hb V h env ns vs D P) (i : Nat) {x : Str} {v : Value} (hx : ns[i]? = some x) (hv : vs[i]? = some (some v)) {Q : Value → Heap → Prop} (q : Q v h) : W c A (loadName env x) Q h := fun d tk => by
  obtain ⟨m, n, k⟩ := S.loc
  have hm := List.mem_of_getElem? hx
  rcases S.fm.names x hm with l | ⟨l, a, ha⟩
  · exact wpAny_loadName_local S.fm.kind l n ((k i x v hx hv).1 l) ⟨h, d, _, rfl, q⟩
  · have nl : env.kindOf x ≠ some .local := by rcases l with l | l <;> rw [l] <;> decide
    have K := (k i x v hx hv).2 a nl ha
    rcases l with l | l
    · exact wpAny_loadName_cell S.fm.kind l ha K ⟨h, d, _, rfl, q⟩
    · exact wpAny_loadName_free S.fm.kind l ha K ⟨h, d, _, rfl, q⟩ (S.fm.dbg x hm).2
theorem E_name (S : St c hb V h env ns vs D P) (i : Nat) {x : Str} {pos : Pos} {v : Value} (hx : ns[i]? = some x) (hv : vs[i]? = some (some v)) {Q : Value → Heap → Prop} (q : Q v h) : W c A (eval (.Name x pos) env) Q h :=
  fun d tk => wpAny_Name (N_load S i hx hv q d tk) (S.fm.dbg x (List.mem_of_getElem? hx)).1
/-- where a name may be stored -/
def Own (env : Env) (hb : Heap) (x : Str) : Prop := env.kindOf x = some .local ∨ (env.kindOf x = some .cell ∧ ∀ a, env.cells.lookup x = some a → hb.get? a = none)
theorem N_store (S : St c hb V h env ns vs D P) (i : Nat) {x : Str} {v : Value} (hx : ns[i]? = some x) (own : Own env hb x) {Q : Unit → Heap → Prop}
    (q : ∀ h', St c hb V h' env ns (vs.set i (some v)) D P → Q () h') : W c A (storeName env x v) Q h := fun d tk => by
  obtain ⟨m, n, k⟩ := S.loc
  have hm := List.mem_of_getElem? hx
  rcases own with l | ⟨l, own⟩
  · refine wpAny_storeName_local l n (fun h' hn hs => ⟨h', d, _, rfl, q h' (S.storeL hx (fun m' n' => ?_) l hs)⟩) (by rw [S.fm.kind]; rfl)
    have : m' = m := funext fun y => n'.agree n y
    rw [this]; exact hn
  · have nl : env.kindOf x ≠ some .local := by rw [l]; decide
    rcases S.fm.names x hm with l' | ⟨_, a, ha⟩
    · rw [l] at l'; cases l'
    · obtain ⟨v0, K⟩ := S.cel x hm nl a ha
      exact wpAny_storeName_cell S.fm.kind l ha K fun h' K' hs => ⟨h', d, _, rfl, q h' (S.storeC hx nl ha (own a ha) K' hs)⟩
theorem E_global (S : St c hb V h env ns vs D P) {x : Str} {pos : Pos} {v : Value} (hk : env.kindOf x = some .globalImplicit) (hg : env.globals = mainGlobals) (e : nsIn c.K mainGlobals x = some (some v)) {Q : Value → Heap → Prop} (q : Q v h)
    (hd : (x == ("__debug__" : Str)) = false := by decide +kernel) : W c A (eval (.Name x pos) env) Q h := fun d tk => by
  refine wpAny_Name ?_ hd
  unfold loadName
  simp only [Env.blockKind, S.fm.kind, hk, ScopeKind.isAnnotationScope, Bool.false_and, Bool.false_eq_true, if_false]
  unfold loadGlobal
  rw [hg]
  exact wpAny_bind ((looks_nsIn S.okh.kin e).at (wpAny_pure ⟨h, d, _, rfl, q⟩))
theorem E_builtin (S : St c hb V h env ns vs D P) {x : Str} {pos : Pos} {v : Value} (hk : env.kindOf x = some .globalImplicit) (hg : env.globals = mainGlobals) (hbi : env.builtins = builtinsNs) (e : nsIn c.K mainGlobals x = some none)
    (hv : bootBuiltins x = some v) (hn : x ≠ "__name__") {Q : Value → Heap → Prop} (q : Q v h) (hd : (x == ("__debug__" : Str)) = false := by decide +kernel) : W c A (eval (.Name x pos) env) Q h := fun d tk => by
  refine wpAny_Name ?_ hd
  unfold loadName
  simp only [Env.blockKind, S.fm.kind, hk, ScopeKind.isAnnotationScope, Bool.false_and, Bool.false_eq_true, if_false]
  unfold loadGlobal
  rw [hg, hbi]
  refine wpAny_bind ((looks_nsIn S.okh.kin e).at ?_)
  refine wpAny_bind (wpAny_nsGet (c.bi.keeps S.okh) ?_)
  rw [c.hmb x hn, hv]
  exact wpAny_pure ⟨h, d, _, rfl, q⟩
end
end Mine
end

section
open PySem PySem.W PyProof.Rows
set_option Elab.async false
set_option linter.unusedVariables false
namespace Mine

/-! ## calls of the text's defs -/
theorem cellsFrom_some : ∀ (names : List (Str × NameKind)) (n : Nat) (acc : List (Str × Addr)) (x : Str),
    (names.lookup x = some .cell ∨ (acc.lookup x).isSome = true) → ((cellsFrom n names acc).lookup x).isSome = true
  | [], _, _, _, h => by rcases h with h | h; cases h; exact h
  | (y, k) :: r, n, acc, x, h => by
    unfold cellsFrom
    split
    · rename_i hk
      refine cellsFrom_some r _ _ x ?_
      rw [List.lookup_cons] at h
      by_cases q : x == y
      · right; rw [List.lookup_cons, q]; rfl
      · have q : (x == y) = false := by simpa using q
        rw [q] at h
        rcases h with h | h
        · exact .inl h
        · right; rw [List.lookup_cons, q]; exact h
    · rename_i hk
      refine cellsFrom_some r _ _ x ?_
      rw [List.lookup_cons] at h
      rcases h with h | h
      · by_cases q : x == y
        · rw [q] at h; cases h; exact absurd rfl hk
        · have q : (x == y) = false := by simpa using q
          rw [q] at h; exact .inl h
      · exact .inr h
theorem cellsFrom_apart (names : List (Str × NameKind)) (h : Heap) : (cellsFrom h.objs.size names []).Pairwise (fun x y => x.2 ≠ y.2) ∧ ∀ x c, (x, c) ∈ cellsFrom h.objs.size names [] → h.objs.size ≤ c := by
  have ok := cellsFrom_ok names h h.objs.size [] ⟨fun _ _ hm => (nomatch hm), List.Pairwise.nil⟩ (Nat.le_refl _)
  exact ⟨ok.apart, fun x c m => (ok.empty x c m).2⟩

def frameOk (sc : Scope) (ns : List Str) : Bool :=
  decide (sc.kind = .function) && decide ns.Nodup && ns.all fun x => (sc.names.lookup x == some .local || sc.names.lookup x == some .cell) && x != ("__debug__" : Str) && x != ("__classdict__" : Str)

theorem bindL_get {kindOf : Str → Option NameKind} : ∀ {binds : List (Str × Value)} {m : Str → Option Value} {x : Str} {v : Value}, kindOf x = some .local → (binds.map (·.1)).Nodup → ((x, v) ∈ binds ∨ (x ∉ binds.map (·.1) ∧ m x = some v)) → bindL kindOf binds m x = some v
  | [], m, x, v, _, _, h => by rcases h with h | h; cases h; exact h.2
  | (y, u) :: r, m, x, v, k, nd, h => by
    unfold bindL
    have nd' := List.nodup_cons.mp nd
    refine bindL_get k nd'.2 ?_
    rcases h with h | ⟨h, e⟩
    · rcases List.mem_cons.mp h with e | h
      · cases e; right; exact ⟨nd'.1, by rw [if_pos k]; simp⟩
      · exact .inl h
    · right
      simp only [List.map_cons, List.mem_cons, not_or] at h
      refine ⟨h.2, ?_⟩
      split
      · simp [h.1, e]
      · exact e
theorem bindC_get {kindOf : Str → Option NameKind} : ∀ {binds : List (Str × Value)} {m : Str → Option Value} {x : Str} {v : Value}, kindOf x ≠ some .local → (binds.map (·.1)).Nodup → ((x, v) ∈ binds ∨ (x ∉ binds.map (·.1) ∧ m x = some v)) → bindC kindOf binds m x = some v
  | [], m, x, v, _, _, h => by rcases h with h | h; cases h; exact h.2
  | (y, u) :: r, m, x, v, k, nd, h => by
    unfold bindC
    have nd' := List.nodup_cons.mp nd
    refine bindC_get k nd'.2 ?_
    rcases h with h | ⟨h, e⟩
    · rcases List.mem_cons.mp h with e | h
      · cases e; right; exact ⟨nd'.1, by rw [if_neg k]; simp⟩
      · exact .inl h
    · right
      simp only [List.map_cons, List.mem_cons, not_or] at h
      refine ⟨h.2, ?_⟩
      split
      · exact e
      · simp [h.1, e]

section
variable {c : Cx} {A : Around} {h : Heap}

theorem Fm_call {fd : FuncData} {L fa : Addr} {ns : List Str} (ok : frameOk fd.scope ns = true) : Fm (callEnvC fd L fa) ns := by
  unfold frameOk at ok
  simp only [Bool.and_eq_true, List.all_eq_true, decide_eq_true_eq, Bool.or_eq_true, beq_iff_eq, bne_iff_ne] at ok
  obtain ⟨⟨hk, nd⟩, hn⟩ := ok
  have key : ∀ x : Str, (callEnvC fd L fa).kindOf x = fd.scope.names.lookup x := fun _ => rfl
  refine ⟨hk, nd, fun x m => ?_, fun x m => ?_, fun x m y m' a kx ky lx ly => ?_⟩
  · rw [key]
    rcases (hn x m).1.1 with e | e
    · exact .inl e
    · exact .inr ⟨.inl e, Option.isSome_iff_exists.mp (cellsFrom_some fd.scope.names _ _ x (.inl e))⟩
  · exact ⟨by simpa using (hn x m).1.2, by simpa using (hn x m).2⟩
  · have ap : ((callEnvC fd L fa).cells).Pairwise (fun x y => x.2 ≠ y.2) := by
      show (cellsFrom (L + 1) fd.scope.names []).Pairwise _
      have := (cellsFrom_apart fd.scope.names ⟨Array.replicate (L + 1) default, {}⟩).1
      simpa using this
    exact name_of_addr ap (mem_of_lookup lx) (mem_of_lookup ly)
theorem Own_call {fd : FuncData} {hb : Heap} {fa : Addr} {ns : List Str} (ok : frameOk fd.scope ns = true) {x : Str} (m : x ∈ ns) : Own (callEnvC fd hb.objs.size fa) hb x := by
  unfold frameOk at ok
  simp only [Bool.and_eq_true, List.all_eq_true, decide_eq_true_eq, Bool.or_eq_true, beq_iff_eq, bne_iff_ne] at ok
  rcases (ok.2 x m).1.1 with e | e
  · exact .inl e
  · refine .inr ⟨e, fun a l => ?_⟩
    have := (cellsFrom_apart fd.scope.names ⟨Array.replicate (hb.objs.size + 1) default, {}⟩).2 x a (by have l' : (cellsFrom (hb.objs.size + 1) fd.scope.names []).lookup x = some a := l; simpa using mem_of_lookup l')
    simp at this
    exact get_ge (by omega)

/-- a def is called -/
theorem CW_def {fa : Addr} {fd : FuncData} {body : List Stmt} {args : Args} {params rest : List Str} {vals : List Value} {R : Flow → Heap → Prop} {o : Obj}
    (rm : Rm A 1) (ok : Ok c h) (hf : c.K.lookup fa = some o) (hd : o.data = .func fd) (hcd : codeIn c.K fd.code fd.qualname = true) (hbody : fd.body = .stmts body)
    (hbind : ∀ d tk, BindsTo ⟨h, c.g, d, tk + 1, c.o⟩ fd args (params.zip vals)) (hlen : params.length = vals.length)
    (fok : frameOk fd.scope (params ++ rest) = true)
    (k : ∀ h1, St c h [] h1 (callEnvC fd h.objs.size fa) (params ++ rest) (vals.map some ++ rest.map fun _ => none) [] (fun _ => True) →
      W c (A.deeper (callEnvC fd h.objs.size fa)) (execs body (callEnvC fd h.objs.size fa)) (fun f h' => R (.ret (match f with | .ret v => v | _ => .none)) h') h1)
    (hco : fd.scope.isCoroutine = false := by rfl) (hgen : fd.scope.isGenerator = false := by rfl) (hclo : fd.closure = [] := by rfl) :
    CW c A (.call (.ref fa) args) R h := fun d tk => by
  have fok' := fok
  unfold frameOk at fok'
  simp only [Bool.and_eq_true, List.all_eq_true, decide_eq_true_eq, Bool.or_eq_true, beq_iff_eq, bne_iff_ne] at fok'
  obtain ⟨⟨hk, nd⟩, hn⟩ := fok'
  have hz : (params.zip vals).map (·.1) = params := List.map_fst_zip (by omega)
  have mz : ∀ x ∈ params.zip vals, x.1 ∈ params := fun x m => by rw [← hz]; exact List.mem_map_of_mem m
  refine codeAny_call_function rm.depth (ok.kin _ _ hf) hd hco hgen hbody (codeRec_of ok.kin hcd) (hbind d tk _ _ _ _ ?_)
  rw [hclo]
  refine with_toks (wpAny_newFunctionEnv_cells hk (fun x m => ?_) fun env he s' x hto => ?_)
  · rcases (hn x.1 (List.mem_append_left _ (mz x m))).1.1 with e | e
    · exact .inl e
    · exact .inr ⟨e, cellsFrom_some _ _ _ _ (.inl e)⟩
  · subst he
    obtain ⟨⟨⟨h', tk', e⟩, hns, keep, fresh⟩, cell, apart, above⟩ := x
    subst e
    obtain ⟨tk', rfl⟩ : ∃ m, tk' = m + 1 := ⟨tk' - 1, by have : tk + 1 ≤ tk' := hto; omega⟩
    refine ⟨ok.nolimit.keeps keep, codeAny_func ?_⟩
    have hE : Eff c [] h h' := .of_keep keep
    · have ndp : ((params.zip vals).map (·.1)).Nodup := by rw [hz]; exact (List.nodup_append.mp nd).1
      have got : ∀ (i : Nat) (x : Str) (v : Value), (params ++ rest)[i]? = some x → (vals.map some ++ rest.map fun _ => none)[i]? = some (some v) → (x, v) ∈ params.zip vals := fun i x v hx hv => by
        by_cases hi : i < params.length
        · rw [List.getElem?_append_left hi] at hx
          rw [List.getElem?_append_left (by rw [List.length_map]; omega)] at hv
          rw [List.getElem?_map] at hv
          have hv' : vals[i]? = some v := by
            cases e : vals[i]? with
            | none => rw [e] at hv; cases hv
            | some u => rw [e] at hv; cases hv; rfl
          exact List.mem_of_getElem? (List.getElem?_zip_eq_some.mpr ⟨hx, hv'⟩)
        · rw [List.getElem?_append_right (by rw [List.length_map]; omega), List.getElem?_map] at hv
          cases e : rest[i - (vals.map some).length]? with
          | none => rw [e] at hv; cases hv
          | some u => rw [e] at hv; cases hv
      refine W_any (k h' ?_) fun f h2 d2 tk2 q => ⟨_, h2, d2, _, rfl, rfl, q⟩
      exact {
        fm := Fm_call fok
        loc := ⟨_, hns, fun i x v hx hv => ⟨fun l => bindL_get l ndp (.inl (got i x v hx hv)), fun a l ha => by
          have hb : bindC (callEnvC fd h.objs.size fa).kindOf (params.zip vals) (fun _ => none) x = some v := bindC_get l ndp (.inl (got i x v hx hv))
          have hc : h'.IsCell a (bindC (callEnvC fd h.objs.size fa).kindOf (params.zip vals) (fun _ => none) x) := cell x a ha
          rwa [hb] at hc⟩⟩
        cel := fun x m l a ha => ⟨_, cell x a ha⟩
        led := fun p m => nomatch m
        ap := by simp
        eff := hE
        newL := get_ge fresh
        newD := fun p m => nomatch m
        ok := ok
        perm := fun _ _ _ _ _ => trivial
        p := trivial }
end
end Mine
end

section
open PySem PySem.W PyProof.Rows
set_option Elab.async false
set_option linter.unusedVariables false
namespace Mine

/-! ## iterators -/
def At (h : Heap) (a : Addr) (b : Ob) : Prop := ∃ o, h.get? a = some o ∧ b.sat o
def Stable (c : Cx) (F : Heap → Prop) : Prop := ∀ h h', Eff c [] h h' → F h → F h'
/-- x is iterated: n items, X i says of the i-th, T i is the iterator's object ahead of it -/
structure It (c : Cx) (x : Value) (n : Nat) (T : Nat → Ob) (X : Nat → Value → Prop) (pre need : Heap → Prop) : Prop where
  stb : Stable c need
  opn : ∀ {A : Around} {h : Heap} {Q : Value → Heap → Prop}, pre h → (∀ it h', h.get? it = none → Eff c [] h h' → At h' it (T 0) → Q (.ref it) h') → W c A (pyIter x) Q h
  slf : ∀ {A : Around} {h : Heap} {Q : Value → Heap → Prop} {it : Addr} {i : Nat}, At h it (T i) → Q (.ref it) h → W c A (pyIter (.ref it)) Q h
  nxt : ∀ {A : Around} {h : Heap} {Q : Option Value → Heap → Prop} {it : Addr} {i : Nat}, i < n → need h → At h it (T i) → (∀ v h', X i v → Heap.SameBut it h h' → At h' it (T (i + 1)) → Q (some v) h') → W c A (pyNext (.ref it)) Q h
  end_ : ∀ {A : Around} {h : Heap} {Q : Option Value → Heap → Prop} {it : Addr}, A.handled = none → need h → At h it (T n) → (∀ h', Heap.ExtBut it h h' → Q none h') → W c A (pyNext (.ref it)) Q h
  lot : ∀ {A : Around} {h : Heap} {Q : Unit → Heap → Prop} {it : Addr} {i : Nat} {v : Value} {target : Expr}, At h it (T i) → Q () h → W c A (letOwnedTupleGo target (.ref it) v) Q h

theorem lot_of {c : Cx} {A : Around} {h : Heap} {Q : Unit → Heap → Prop} {it : Addr} {o : Obj} {v : Value} {target : Expr} {n : String} (g : h.get? it = some o) (hc : o.cls = .type n)
    (hn : ["enumerate", "zip", "dict_itemiterator", "dict_reverseitemiterator", "odict_iterator", "itertools.zip_longest", "itertools.pairwise"].contains n = false) (q : Q () h) :
    W c A (letOwnedTupleGo target (.ref it) v) Q h := fun d tk => by
  have fin : wpAny (model c.prog c.w) A (pure ()) (fun a s' => ∃ h' d' tk', s' = ⟨h', c.g, d', tk', c.o⟩ ∧ Q a h') (fun _ _ => False) ⟨h, c.g, d, tk + 1, c.o⟩ := wpAny_pure ⟨h, d, _, rfl, q⟩
  unfold letOwnedTupleGo
  split
  all_goals first
    | exact fin
    | (cases v with
       | ref a =>
         refine wpAny_bind (wpAny_load g ?_)
         rw [hc]
         split
         · rename_i e1 e2; cases e1; rw [hn]; exact fin
         · exact fin
       | _ => exact fin)

theorem fld_of {h : Heap} {a : Addr} {n : String} {vs : List Value} : At h a (.fld n vs) ↔ ∃ o, h.get? a = some o ∧ o.cls = .type n ∧ o.data = .fields vs.toArray := Iff.rfl
theorem SameBut.keep {a : Addr} {h h' : Heap} (s : Heap.SameBut a h h') : ∀ b o, b ≠ a → h.get? b = some o → h'.get? b = some o := s.extBut

section
variable {c : Cx}
theorem isList_stb {l : Addr} {items : Array Value} : Stable c (fun h => h.IsList l items) := fun h h' e x => let ⟨o, g, r⟩ := x; ⟨o, e.keep _ _ g, r⟩
theorem It.list (l : Addr) (xs : List Value) : It c (.ref l) xs.length (fun i => .fld "list_iterator" [.ref l, .int i 0]) (fun i v => xs[i]? = some v) (fun h => h.IsList l xs.toArray) (fun h => h.IsList l xs.toArray) where
  stb := isList_stb
  opn := fun hl k d tk => wpAny_pyIter_list hl ⟨_, d, _, rfl, k _ _ (get_size _) (.push _ _) ⟨_, Heap.get?_push_size _ rfl, rfl, rfl⟩⟩
  slf := fun a q d tk => wpAny_pyIter_listiter a ⟨_, d, _, rfl, q⟩
  nxt := fun {A h Q it i} hi hl a k d tk => wpAny_pyNext_list_item a hl (x := xs[i]) (by simp [hi]) fun h' a' s' => ⟨h', d, _, rfl, k _ h' (by simp [hi]) s' a'⟩
  end_ := fun hh hl a k d tk => wpAny_pyNext_list_end hh a hl (by simp) fun h' e => ⟨h', d, _, rfl, k h' e⟩
  lot := fun a q => let ⟨o, g, hc, _⟩ := a; lot_of g hc (by decide) q
theorem It.str (x : Str) (t : Tok) (ha : x.cps.all (· < 128) = true) : It c (.str x t) x.cps.size (fun i => .fld "str_ascii_iterator" [.str x t, .int i 0]) (fun i v => ∃ k u, x.cps[i]? = some k ∧ v = .str ⟨#[k]⟩ u) (fun _ => True) (fun _ => True) where
  stb := fun _ _ _ x => x
  opn := fun _ k d tk => wpAny_pyIter_ascii ha ⟨_, d, _, rfl, k _ _ (get_size _) (.push _ _) ⟨_, Heap.get?_push_size _ rfl, rfl, rfl⟩⟩
  slf := fun a q d tk => wpAny_pyIter_striter_ascii a ⟨_, d, _, rfl, q⟩
  nxt := fun {A h Q it i} hi _ a k d tk => wpAny_pyNext_ascii_item a (c := x.cps[i]) (by simp [hi]) fun h' a' s' => ⟨h', d, _, rfl, k _ h' ⟨_, _, by simp [hi], rfl⟩ s' a'⟩
  end_ := fun hh _ a k d tk => wpAny_pyNext_ascii_end hh a (by simp) fun h' e => ⟨h', d, _, rfl, k h' e⟩
  lot := fun a q => let ⟨o, g, hc, _⟩ := a; lot_of g hc (by decide) q
theorem It.bytes (b : Array UInt8) (t : Tok) : It c (.bytes b t) b.size (fun i => .fld "bytes_iterator" [.bytes b t, .int i 0]) (fun i v => ∃ k u, b[i]? = some k ∧ v = .int (k.toNat : Int) u) (fun _ => True) (fun _ => True) where
  stb := fun _ _ _ x => x
  opn := fun _ k d tk => KBw.pyIter_bytes ⟨_, d, _, rfl, k _ _ (get_size _) (.push _ _) ⟨_, Heap.get?_push_size _ rfl, rfl, rfl⟩⟩
  slf := fun a q d tk => KBw.pyIter_self a ⟨_, d, _, rfl, q⟩
  nxt := fun {A h Q it i} hi _ a k d tk => KBw.next_item a (c := b[i]) (by simp [hi]) fun h' a' s' => ⟨h', d, _, rfl, k _ h' ⟨_, _, by simp [hi], rfl⟩ s' a'⟩
  end_ := fun hh _ a k d tk => KBw.next_end hh a (by simp) fun h' e => ⟨h', d, _, rfl, k h' e⟩
  lot := fun a q => let ⟨o, g, hc, _⟩ := a; lot_of g hc (by decide) q
def riter (x left : Int) : Obj := { cls := .type "range_iterator", dict := none, data := .fields #[rawInt x, rawInt left, rawInt 1], slots := #[] }
theorem riter_nt (x left : Int) : ¬ IsTupO (riter x left) ∧ ∀ v, (riter x left).data ≠ .cell v := ⟨fun t => absurd (show Value.type "range_iterator" = Value.type "tuple" from t.1) (by decide), fun v e => by cases e⟩
theorem small_range {n : Nat} (hn : n < 2 ^ 62) : Builtin.Range.small 0 (n : Int) 1 = true ∧ Builtin.Range.rangeSize 0 (n : Int) 1 = (n : Int) := by
  have hs : Builtin.Range.rangeSize 0 (n : Int) 1 = (n : Int) := by
    unfold Builtin.Range.rangeSize
    split <;> split <;> omega
  refine ⟨?_, hs⟩
  unfold Builtin.Range.small
  rw [hs]
  have f : ∀ k : Int, 0 ≤ k → k < 2 ^ 62 + 1 → Builtin.Range.rangeFitsLong k = true := fun k h1 h2 => by
    unfold Builtin.Range.rangeFitsLong
    simp only [Bool.and_eq_true, decide_eq_true_eq]
    omega
  rw [f 0 (by omega) (by omega), f n (by omega) (by omega), f 1 (by omega) (by omega), if_pos (by omega), f (n + (1 - 1)) (by omega) (by omega)]
  simp
theorem It.range {r : Addr} {n : Nat} {t u v : Tok} (hn : n < 2 ^ 62) : It c (.ref r) n (fun i => .raw (riter i ((n : Int) - i))) (fun i w => ∃ u, w = .int (i : Int) u) (fun h => IsRange h r 0 n 1 t u v) (fun _ => True) where
  stb := fun _ _ _ x => x
  opn := fun {A h Q} hr k d tk => wpAny_pyIter_range hr (small_range hn).1 ⟨_, d, _, rfl, k _ _ (get_size _) (.push _ _) ⟨_, Heap.get?_push_size _ rfl, by rw [(small_range hn).2]; simp [riter], riter_nt _ _⟩⟩
  slf := fun {A h Q it i} a q d tk => by
    obtain ⟨o, g, e, _⟩ := a
    subst e
    have hT : Shared.TypeIs ⟨h, c.g, d, tk + 1, c.o⟩ (.ref it) "range_iterator" := ⟨_, g, rfl⟩
    exact wpAny_pyIter_rangeiter g ⟨h, d, _, rfl, q⟩
  nxt := fun {A h Q it i} hi _ a k d tk => by
    obtain ⟨o, g, e, _⟩ := a
    subst e
    refine wpAny_pyNext_range_item g (by omega) fun h' a' s' => ⟨h', d, _, rfl, k _ h' ⟨_, rfl⟩ s' ⟨_, a', ?_, riter_nt _ _⟩⟩
    simp only [riter]
    have e1 : (i : Int) + 1 = ((i + 1 : Nat) : Int) := by omega
    have e2 : (n : Int) - i - 1 = (n : Int) - ((i + 1 : Nat) : Int) := by omega
    rw [e1, e2]
  end_ := fun {A h Q it} hh _ a k d tk => by
    obtain ⟨o, g, e, _⟩ := a
    subst e
    exact wpAny_pyNext_range_end hh g (by omega) fun h' e => ⟨h', d, _, rfl, k h' e⟩
  lot := fun {A h Q it i v target} a q => by
    obtain ⟨o, g, e, _⟩ := a
    subst e
    exact lot_of g rfl (by decide) q
end

/-! ## the ledger's last entry -/
namespace St
variable {c : Cx} {hb h h' : Heap} {V : List Addr} {env : Env} {a : Addr} {ns : List Str} {vs : List (Option Value)} {D : List (Addr × Ob)} {P : Heap → Prop}
theorem atLast (S : St c hb V h env ns vs (D ++ [(a, b)]) P) : At h a b := S.led (a, b) (by simp)
theorem updLast {b b' : Ob} (S : St c hb V h env ns vs (D ++ [(a, b)]) P) (x : Eff c [a] h h') (g : At h' a b') : St c hb V h' env ns vs (D ++ [(a, b')]) P := by
  have := S.upd (j := D.length) (b := b) (b' := b') (by simp) x g
  simpa using this
theorem lastLo {b : Ob} (S : St c hb V h env ns vs (D ++ [(a, b)]) P) : c.h0.get? a = none ∧ ∀ o, h.get? a = some o → ¬ IsTupO o :=
  ⟨S.loSet (j := D.length) (b := b) (by simp), S.ntAt (j := D.length) (b := b) (by simp)⟩
theorem dropLast {b : Ob} (S : St c hb V h env ns vs (D ++ [(a, b)]) P) (x : Heap.ExtBut a h h') : St c hb V h' env ns vs D P := by
  have E : Eff c [a] h h' := .of_ext x S.lastLo.1 S.lastLo.2
  have T := S.forget (D' := D) (List.sublist_append_left _ _)
  have hne : ∀ p ∈ D, p.1 ≠ a := fun p m q => by
    have := (List.nodup_cons.mp S.ap).2
    rw [List.map_append, List.nodup_append] at this
    exact this.2.2 p.1 (List.mem_map_of_mem m) a (by simp) q
  have hL : env.locals ≠ a := fun q => (List.nodup_cons.mp S.ap).1 (by rw [q]; simp)
  have hcell : ∀ x v, h.IsCell x v → x ≠ a := fun x v k => S.cell_ne (j := D.length) (b := b) (by simp) k
  exact { T with
    loc := let ⟨m, n, k⟩ := S.loc; ⟨m, n.extBut x hL, fun i y v p q => ⟨(k i y v p q).1, fun a' r s => let K := (k i y v p q).2 a' r s; cell_eff1 K E (hcell _ _ K)⟩⟩
    cel := fun y m k a' l => let ⟨v, q⟩ := S.cel y m k a' l; ⟨v, cell_eff1 q E (hcell _ _ q)⟩
    led := fun p m => let ⟨o, g, s⟩ := S.led p (List.mem_append_left _ m); ⟨o, x _ _ (hne p m) g, s⟩
    eff := S.eff.born E (S.newD (a, b) (by simp)).2
    p := S.perm _ _ _ E S.p }
end St

/-! ## for -/
section
variable {c : Cx} {A : Around} {hb h : Heap} {V : List Addr} {env : Env} {ns : List Str} {vs : List (Option Value)} {D : List (Addr × Ob)} {P : Heap → Prop}

theorem S_for {target iter body orelse pos} {Q : Flow → Heap → Prop}
    (k : W c A (eval iter env) (fun x h1 => W c A (pyIter x) (fun it h2 => CW c A (.forLoop target it body orelse env) Q h2) h1) h)
    (hs : ∀ x, foldedSetIterable iter env x = pure x := by intro _; rfl) : W c A (exec (.For target iter body orelse pos) env) Q h :=
  fun d tk => wpAny_For (W_any k fun _ _ _ _ q => W_any q fun _ _ _ _ q => CW_any q fun f h' d' tk' q => ⟨h', d', _, rfl, q⟩) hs

theorem CW_for {target it body} {Q : Flow → Heap → Prop} (I : Nat → Heap → Prop)
    (turn : ∀ n h, I n h → W c A (pyNext it) (fun r h1 => match r with
      | none => Q .next h1
      | some v => W c A (letOwnedTupleGo target it v) (fun _ h1 => W c A (assign target env v) (fun _ h2 => W c A (execs body env) (fun f h3 => match f with
          | .next | .cont => ∃ m, m < n ∧ I m h3
          | .brk => Q .next h3
          | .ret v => Q (.ret v) h3) h2) h1) h1) h)
    (n : Nat) (i : I n h) : CW c A (.forLoop target it body [] env) Q h := fun d tk => by
  refine codeAny_forLoop_any (fun n s => ∃ h d tk, s = ⟨h, c.g, d, tk + 1, c.o⟩ ∧ I n h) ?_ n ⟨h, d, _, rfl, i⟩
  rintro n s ⟨h, d, _, rfl, hI⟩
  refine W_any (turn n h hI) fun r h1 d' tk' q => ?_
  cases r with
  | none => exact wpAny_execs_nil ⟨_, h1, d', _, rfl, rfl, q⟩
  | some v =>
    refine W_any q fun _ h1 d' tk' q => W_any q fun _ h2 d' tk' q => W_any q fun f h3 d' tk' q => ?_
    cases f with
    | next => obtain ⟨m, hm, hi⟩ := q; exact ⟨m, hm, h3, d', _, rfl, hi⟩
    | cont => obtain ⟨m, hm, hi⟩ := q; exact ⟨m, hm, h3, d', _, rfl, hi⟩
    | brk => exact ⟨_, h3, d', _, rfl, rfl, q⟩
    | ret v => exact ⟨_, h3, d', _, rfl, rfl, q⟩

/-- a loop by an invariant over the frame's state -/
theorem F_loop {x : Value} {n : Nat} {T : Nat → Ob} {X : Nat → Value → Prop} {pre need : Heap → Prop} (It : It c x n T X pre need) {target body} {Q : Flow → Heap → Prop} (hh : A.handled = none)
    (Inv : Nat → List (Option Value) → List (Addr × Ob) → (Heap → Prop) → Prop)
    (S : St c hb V h env ns vs D P) (hpre : pre h) (i0 : Inv 0 vs D P)
    (nd : ∀ i h vs D P, Inv i vs D P → St c hb V h env ns vs D P → need h)
    (turn : ∀ i v it h vs D P, i < n → X i v → Inv i vs D P → St c hb V h env ns vs (D ++ [(it, T (i + 1))]) P →
      W c A (assign target env v) (fun _ h2 => W c A (execs body env) (fun f h3 => match f with
        | .next | .cont => ∃ vs' D' P', Inv (i + 1) vs' D' P' ∧ St c hb V h3 env ns vs' (D' ++ [(it, T (i + 1))]) P'
        | .brk => Q .next h3
        | .ret v => Q (.ret v) h3) h2) h)
    (fin : ∀ h vs D P, Inv n vs D P → St c hb V h env ns vs D P → Q .next h) :
    W c A (pyIter x) (fun it h2 => CW c A (.forLoop target it body [] env) Q h2) h := by
  refine It.opn hpre fun it h' new e at0 => ?_
  refine CW_for (fun m h => ∃ i vs D P, m = n - i ∧ i ≤ n ∧ Inv i vs D P ∧ St c hb V h env ns vs (D ++ [(it, T i)]) P) ?_ n ⟨0, vs, D, P, by omega, by omega, i0, S.enter e new at0⟩
  rintro m h ⟨i, vs, D, P, rfl, hi, inv, S⟩
  have hneed : need h := nd i h vs D P inv (S.forget (List.sublist_append_left _ _))
  by_cases hlt : i < n
  · refine It.nxt hlt hneed S.atLast fun v h' xv s' at' => ?_
    have S' := S.updLast (.of_same s' S.lastLo.1 S.lastLo.2) at'
    refine It.lot (i := i + 1) at' ?_
    refine W_mono (turn i v it h' vs D P hlt xv inv S') fun _ h2 q => W_mono q fun f h3 q => ?_
    cases f with
    | next => obtain ⟨vs', D', P', a, b⟩ := q; exact ⟨n - (i + 1), by omega, i + 1, vs', D', P', rfl, hlt, a, b⟩
    | cont => obtain ⟨vs', D', P', a, b⟩ := q; exact ⟨n - (i + 1), by omega, i + 1, vs', D', P', rfl, hlt, a, b⟩
    | brk => exact q
    | ret v => exact q
  · have : i = n := by omega
    subst this
    exact It.end_ hh hneed S.atLast fun h' e => fin h' vs D P inv (S.dropLast e)
theorem A_name {x pos v} {Q : Unit → Heap → Prop} (k : W c A (storeName env x v) Q h) : W c A (assign (.Name x pos) env v) Q h := fun d tk => wpAny_assign_Name (k d tk)
end
end Mine
end

section
open PySem PySem.W PyProof.Rows PySem.Calls
set_option Elab.async false
set_option linter.unusedVariables false
namespace Mine

section
variable {c : Cx} {A : Around} {h : Heap} {env : Env}

/-! ## arguments -/
theorem A_nil {pos : Pos} {Q : List Value → Heap → Prop} (q : Q [] h) : W c A (spliced (backTo pos (starEach [] env))) Q h := fun d tk => args_nil ⟨h, d, _, rfl, q⟩
theorem A_cons {e : Expr} {rest : List Expr} {pos : Pos} {Q : List Value → Heap → Prop}
    (k : W c A (eval e env) (fun v h1 => W c A (spliced (backTo pos (starEach rest env))) (fun vs h2 => Q (v :: vs) h2) h1) h)
    (he : starEach (e :: rest) env = (false, eval e env) :: starEach rest env := by rfl) : W c A (spliced (backTo pos (starEach (e :: rest) env))) Q h :=
  fun d tk => args_cons (W_any k fun _ _ _ _ q => W_any q fun _ h' d' tk' q => ⟨h', d', _, rfl, q⟩) he
theorem W_evalArgs {f : Value} {args : List (Bool × Sem Value)} {kws : List (Option Str × Sem Value)} {Q : Args → Heap → Prop} (hp : args.any (·.1) = false) (hall : kws.all (·.1.isSome) = true)
    (k : W c A (spliced args) (fun vs h1 => W c A (evalAll (kws.map (·.2))) (fun ks h2 => Q ⟨vs, (kws.filterMap (·.1)).zip ks⟩ h2) h1) h) : W c A (evalArgs f true args kws) Q h := fun d tk => by
  cases args with
  | nil =>
    refine evalArgs_kw_nil hall ?_
    have k' : W c A (pure []) (fun vs h1 => W c A (evalAll (kws.map (·.2))) (fun ks h2 => Q ⟨vs, (kws.filterMap (·.1)).zip ks⟩ h2) h1) h := k
    have k'' := k' d tk
    obtain ⟨h', d', tk', e, q⟩ : ∃ h' d' tk', (⟨h, c.g, d, tk + 1, c.o⟩ : Shared) = ⟨h', c.g, d', tk', c.o⟩ ∧ W c A (evalAll (kws.map (·.2))) (fun ks h2 => Q ⟨[], (kws.filterMap (·.1)).zip ks⟩ h2) h' := by
      by_cases hi : ∃ Γ : Ctx, Γ.In A
      · obtain ⟨Γ, hΓ⟩ := hi
        exact k'' Γ default hΓ
      · exact ⟨h, d, _, rfl, fun d tk Γ p hΓ => absurd ⟨Γ, hΓ⟩ hi⟩
    cases e
    exact W_any q fun ks h2 d2 tk2 q => ⟨h2, d2, _, rfl, q⟩
  | cons x rest =>
    obtain ⟨b, x⟩ := x
    have hb : b = false := by
      simp only [List.any_cons, Bool.or_eq_false_iff] at hp
      exact hp.1
    subst hb
    exact evalArgs_kw hall (W_any k fun _ _ _ _ q => W_any q fun ks h2 d2 tk2 q => ⟨h2, d2, _, rfl, q⟩)
/-- what is called is a thing that the machine or a frame keeps -/
def Kept (c : Cx) (f : Value) : Prop := keepIn c.K f = true ∨ (∃ T, f = .type T) ∨ ∃ i, f = .builtin i
theorem Kept.looks {f : Value} (k : Kept c f) {M : Model} (h : Heap) (ok : Ok c h) : ∃ k, (k = Keeper.frame ∨ k = Keeper.machine ∨ k = Keeper.boundFrame) ∧ Looks M h (keeperOf f) k := by
  rcases k with k | ⟨T, rfl⟩ | ⟨i, rfl⟩
  · exact keeps_K k h ok.kin
  · exact ⟨.machine, .inr (.inl rfl), Looks.of_pure rfl⟩
  · exact ⟨.machine, .inr (.inl rfl), Looks.of_pure rfl⟩
theorem K_with {pos : Pos} {f : Value} {first : List Value} {args : List (Bool × Sem Value)} {kws : List (Option Str × Sem Value)} {Q : Value → Heap → Prop} (kept : Kept c f)
    (k : W c A (spliced args) (fun vs h1 => W c A (evalAll (kws.map (·.2))) (fun ks h2 => Ok c h2 ∧ W c A (call f (first ++ vs) ((kws.filterMap (·.1)).zip ks)) Q h2) h1) h)
    (hp : args.any (·.1) = false := by rfl) (hall : kws.all (·.1.isSome) = true := by rfl) (hnone : kws.any (·.1.isNone) = false := by rfl) : W c A (callWith pos f first args kws) Q h := fun d tk =>
  callWith_of (P := Ok c) (by rw [hp, hnone]; rfl) (fun h ok => kept.looks h ok) (W_any (W_evalArgs (Q := fun a h2 => Ok c h2 ∧ W c A (call f (first ++ a.pos) a.kw) Q h2) hp hall k) fun a h1 d1 tk1 q => ⟨q.1, q.2 d1 tk1⟩)
theorem evalAll_nil {Q : List Value → Heap → Prop} (q : Q [] h) : W c A (evalAll []) Q h := W_pure q
theorem evalAll_cons {x : Sem Value} {rest : List (Sem Value)} {Q : List Value → Heap → Prop} (k : W c A x (fun v h1 => W c A (evalAll rest) (fun vs h2 => Q (v :: vs) h2) h1) h) : W c A (evalAll (x :: rest)) Q h :=
  fun d tk => wpAny_evalAll_cons (W_any k fun _ _ _ _ q => W_any q fun _ h' d' tk' q => ⟨h', d', _, rfl, q⟩)
/-- a call by positions alone -/
theorem K_pos {pos : Pos} {f : Value} {first : List Value} {args : List Expr} {Q : Value → Heap → Prop} (kept : Kept c f)
    (k : W c A (spliced (backTo pos (starEach args env))) (fun vs h1 => Ok c h1 ∧ W c A (call f (first ++ vs)) Q h1) h)
    (hp : (backTo pos (starEach args env)).any (·.1) = false := by rfl) : W c A (callWith pos f first (backTo pos (starEach args env)) []) Q h :=
  K_with kept (W_mono k fun vs h1 q => evalAll_nil q) hp
theorem E_call {func : Expr} {args : List Expr} {pos : Pos} {Q : Value → Heap → Prop}
    (k : W c A (eval func env) (fun f h1 => W c A (callWith pos f [] (backTo pos (starEach args env)) []) Q h1) h)
    (he : eval (.Call func args [] pos) env = (do callWith pos (← eval func env) [] (backTo pos (starEach args env)) (backToKw pos (keywordEach [] env))) := by rfl) :
    W c A (eval (.Call func args [] pos) env) Q h := fun d tk => Call_ (W_any k fun _ _ d' tk' q => q d' tk') he
theorem E_meth {o : Expr} {name : Str} {apos pos : Pos} {args : List Expr} {kws : List Keyword} {pl : Sem Bool} {Q : Value → Heap → Prop}
    (k : W c A (eval o env) (fun ov h1 => W c A (getMethod ov name pl) (fun fx h2 => W c A (callWith pos fx.1 fx.2 (backTo pos (starEach args env)) (backToKw pos (keywordEach kws env))) Q h2) h1) h)
    (he : eval (.Call (.Attribute o name apos) args kws pos) env = (do
      let ov ← eval o env
      standAt apos.atName
      let (f, first) ← holding [ov] (getMethod ov name pl)
      callWith pos f first (backTo pos (starEach args env)) (backToKw pos (keywordEach kws env))) := by rfl) :
    W c A (eval (.Call (.Attribute o name apos) args kws pos) env) Q h := fun d tk =>
  methodCall_KW (W_any k fun _ _ _ _ q => W_any q fun _ _ d' tk' q => q d' tk') he
/-- a def of the text is called: by its contract, told of `call` -/
theorem E_tup {elts : List Expr} {k : Nat} {pos : Pos} {Q : Value → Heap → Prop}
    (x : W c A (spliced (backTo pos (starEach elts env))) (fun vs h1 => vs.length ≤ sizeLine ∧ ∀ a h', h1.get? a = none → Eff c [] h1 h' → h'.get? a = some { cls := .type "tuple", data := .seq vs.toArray } → Q (.ref a) h') h) : W c A (eval (.Tuple elts k pos) env) Q h :=
  fun d tk => wpAny_Tuple_spliced (W_any x fun vs h1 d1 tk1 q => ⟨q.1, _, d1, _, rfl, q.2 _ _ (get_size _) (.push _ _) (Heap.get?_push_size _ rfl)⟩)
theorem E_list {elts : List Expr} {pos : Pos} {Q : Value → Heap → Prop}
    (x : W c A (spliced (backTo pos (starEach elts env))) (fun vs h1 => vs.length ≤ sizeLine ∧ ∀ a h', h1.get? a = none → Eff c [] h1 h' → At h' a (.lst vs) → Q (.ref a) h') h) : W c A (eval (.List elts pos) env) Q h :=
  fun d tk => wpAny_List_spliced (W_any x fun vs h1 d1 tk1 q => ⟨q.1, _, d1, _, rfl, q.2 _ _ (get_size _) (.push _ _) ⟨_, Heap.get?_push_size _ rfl, _, rfl⟩⟩)

/-! ## built-in functions -/
theorem F_range {n : Nat} {t : Tok} {Q : Value → Heap → Prop} (q : ∀ r u v h', h.get? r = none → Eff c [] h h' → IsRange h' r 0 n 1 u t v → Q (.ref r) h') : W c A (call (.type "range") [.int n t]) Q h :=
  fun d tk => call_range_1 ⟨_, d, _, rfl, q _ _ _ _ (get_size _) (.push _ _) (Heap.get?_push_size _ rfl)⟩
theorem F_append {l : Addr} {xs : List Value} {x : Value} {Q : Value → Heap → Prop} (hl : h.PlainList l xs.toArray) (hs : xs.length ≤ sizeLine) (q : ∀ h', Heap.SameBut l h h' → At h' l (.lst (xs ++ [x])) → Q .none h') :
    W c A (call (.builtin "list.append") [.ref l, x]) Q h :=
  fun d tk => wpAny_list_append_plain hl (fun h' p s => ⟨h', d, _, rfl, q h' s (let ⟨n, e⟩ := p; ⟨_, e, n, by simp⟩)⟩) (by simpa using hs)
end
end Mine
end

section
open PySem PySem.W PyProof.Rows PySem.Calls
set_option Elab.async false
set_option linter.unusedVariables false
set_option linter.unusedSimpArgs false
namespace Mine

/-! ## list comprehensions -/
def clOf (env : Env) : List (Str × NameKind) → List (Str × Addr) → List (Str × Addr)
  | [], acc => acc
  | (n, k) :: r, acc => if k == .free then clOf env r ((n, (env.cells.lookup n).getD 0) :: acc) else clOf env r acc
theorem closureFor_eq (scope : Scope) (env : Env) (hall : ∀ n, (n, NameKind.free) ∈ scope.names → (env.cells.lookup n).isSome = true) : closureFor scope env = pure (clOf env scope.names []) := by
  have key : ∀ (names : List (Str × NameKind)) (acc : List (Str × Addr)), (∀ n, (n, NameKind.free) ∈ names → (env.cells.lookup n).isSome = true) →
      (forIn names acc fun x r => if x.2 == NameKind.free then (do let a ← cellOf env x.1; pure (ForInStep.yield ((x.1, a) :: r))) else pure (ForInStep.yield r) : Sem _) = pure (clOf env names acc) := by
    intro names
    induction names with
    | nil => intro acc _; rfl
    | cons p r ih =>
      obtain ⟨n, k⟩ := p
      intro acc hall
      rw [List.forIn_cons]
      unfold clOf
      have hr : ∀ n, (n, NameKind.free) ∈ r → (env.cells.lookup n).isSome = true := fun n m => hall n (List.mem_cons_of_mem _ m)
      cases hk : k == NameKind.free with
      | true =>
        have hk' : k = .free := by simpa using hk
        subst hk'
        obtain ⟨a, ha⟩ := Option.isSome_iff_exists.mp (hall n List.mem_cons_self)
        simp only [hk, if_true, cellOf, ha, Option.getD_some, pure_bind]
        exact ih _ hr
      | false =>
        simp only [hk, Bool.false_eq_true, if_false, pure_bind]
        exact ih _ hr
  have := key scope.names [] hall
  unfold closureFor
  rw [← this]
  simp only [bind_pure]
theorem clOf_look {env : Env} {x : Str} {a : Addr} (ha : env.cells.lookup x = some a) : ∀ (names : List (Str × NameKind)) (acc : List (Str × Addr)),
    ((x, NameKind.free) ∈ names ∨ acc.lookup x = some a) → (∀ b, acc.lookup x = some b → b = a) → (clOf env names acc).lookup x = some a
  | [], acc, h, _ => by rcases h with h | h; cases h; exact h
  | (n, k) :: r, acc, h, u => by
    unfold clOf
    split
    · rename_i hk
      have hk : k = .free := by simpa using hk
      subst hk
      refine clOf_look ha r _ ?_ ?_
      · by_cases q : x = n
        · subst q; right; simp [List.lookup_cons, ha]
        · rcases h with h | h
          · rcases List.mem_cons.mp h with e | h
            · cases e; exact absurd rfl q
            · exact .inl h
          · right; rw [List.lookup_cons, show (x == n) = false by simpa using q]; exact h
      · intro b hb
        rw [List.lookup_cons] at hb
        by_cases q : x = n
        · subst q; simp [ha] at hb; exact hb.symm
        · rw [show (x == n) = false by simpa using q] at hb; exact u b hb
    · rename_i hk
      refine clOf_look ha r _ ?_ u
      rcases h with h | h
      · rcases List.mem_cons.mp h with e | h
        · cases e; exact absurd rfl hk
        · exact .inl h
      · exact .inr h
theorem relabel_free {env : Env} : ∀ {names : List (Str × NameKind)} {x : Str}, names.lookup x = some .free →
    (names.map fun (n, k) => if (k == NameKind.free && env.scope.kind == .function && env.kindOf n == some .cell) then (n, NameKind.cell) else (n, k)).lookup x = some .cell ∨
    (names.map fun (n, k) => if (k == NameKind.free && env.scope.kind == .function && env.kindOf n == some .cell) then (n, NameKind.cell) else (n, k)).lookup x = some .free
  | [], _, h => by cases h
  | (n, k) :: r, x, h => by
    have ih := @relabel_free env r x
    rw [List.map_cons]
    rw [List.lookup_cons] at h
    cases hx : x == n with
    | true =>
      rw [hx] at h; cases h
      dsimp only
      split
      · left; rw [List.lookup_cons, hx]
      · right; rw [List.lookup_cons, hx]
    | false =>
      rw [hx] at h
      dsimp only
      split
      · rw [List.lookup_cons, hx]; exact ih h
      · rw [List.lookup_cons, hx]; exact ih h

def compOk (sc : Scope) (own fr : List Str) : Bool :=
  decide (sc.kind = .function) && decide (own ++ fr).Nodup && own.all (fun x => sc.names.lookup x == some .local) && fr.all (fun x => sc.names.lookup x == some .free) &&
  sc.names.all (fun p => p.2 != .cell && (p.2 != .free || fr.contains p.1) && (p.2 != .local || sc.names.lookup p.1 == some .local)) &&
  (own ++ fr).all fun x => x != ("__debug__" : Str) && x != ("__classdict__" : Str)
structure CompOk (sc : Scope) (own fr : List Str) : Prop where
  kind : sc.kind = .function
  nd : (own ++ fr).Nodup
  loco : ∀ x ∈ own, sc.names.lookup x = some .local
  fre : ∀ x ∈ fr, sc.names.lookup x = some .free
  nocell : ∀ x ∈ sc.names, x.2 ≠ .cell
  all : ∀ n, (n, NameKind.free) ∈ sc.names → n ∈ fr
  loc : ∀ x ∈ sc.names, x.2 = .local → sc.names.lookup x.1 = some .local
  dbg : ∀ x ∈ own ++ fr, (x == ("__debug__" : Str)) = false ∧ (x == ("__classdict__" : Str)) = false
theorem compOk_of {sc : Scope} {own fr : List Str} (h : compOk sc own fr = true) : CompOk sc own fr := by
  unfold compOk at h
  simp only [Bool.and_eq_true, List.all_eq_true, decide_eq_true_eq, Bool.or_eq_true, beq_iff_eq, bne_iff_ne, List.contains_iff_mem] at h
  obtain ⟨⟨⟨⟨⟨h1, h2⟩, h3⟩, h4⟩, h5⟩, h6⟩ := h
  refine ⟨h1, h2, h3, h4, fun x m => (h5 x m).1.1, fun n m => ?_, fun x m e => ?_, fun x m => ?_⟩
  · rcases (h5 _ m).1.2 with q | q
    · exact absurd rfl q
    · exact q
  · rcases (h5 x m).2 with q | q
    · exact absurd e q
    · exact q
  · exact ⟨by simpa using (h6 x m).1, by simpa using (h6 x m).2⟩

def Keepv (b vs : List (Option Value)) : Prop := ∀ (j : Nat) (v : Value), b[j]? = some (some v) → vs[j]? = some (some v)
theorem Keepv.refl {b : List (Option Value)} : Keepv b b := fun _ _ e => e
theorem Keepv.set {b vs : List (Option Value)} {i : Nat} {v : Option Value} (k : Keepv b vs) (n : b[i]? = some none) : Keepv b (vs.set i v) := fun j u e => by
  have hij : i ≠ j := fun q => by subst q; rw [n] at e; cases e
  rw [List.getElem?_set_ne hij]; exact k j u e

/-- the tests of a comprehension -/
def tests (ifs : List Expr) (env : Env) : Sem Bool := forIn ifs true fun c r => if r = true then do let ok ← isTrue c env (eval c env); pure (ForInStep.yield ok) else pure (ForInStep.yield r)
section
variable {c : Cx} {A : Around} {h : Heap} {env : Env}
theorem tests0 {Q : Bool → Heap → Prop} (q : Q true h) : W c A (tests [] env) Q h := fun d tk => wpAny_tests_nil ⟨h, d, _, rfl, q⟩
theorem tests1 {e : Expr} {Q : Bool → Heap → Prop} (k : W c A (isTrue e env (eval e env)) Q h) : W c A (tests [e] env) Q h := fun d tk => wpAny_tests_one (k d tk)

/-- what is left of a comprehension when its source is known -/
def Comp (c : Cx) (A : Around) (e : Expr) (scope : Scope) (cl : List (Str × Addr)) (env : Env) (use : Option (Value → Sem Unit)) (x : Value) (Q : Value → Heap → Prop) (h : Heap) : Prop :=
  ∀ d tk, wpAny (model c.prog c.w) A (pyIter x) (fun it s₂ => wpAny (model c.prog c.w) A (newList []) (fun acc s₃ => wpAny (model c.prog c.w) A (newFunctionEnv scope env.globals cl [] env.qual none .none (some env)) (fun cenv s₄ =>
    codeAny (model c.prog c.w) A (.compStart e 0 it acc { cenv with scope := relabel scope env }) (compPost (model c.prog c.w) A (fun _ _ => False) use (fun a s' => ∃ h' d' tk', s' = ⟨h', c.g, d', tk', c.o⟩ ∧ Q a h') acc cenv.locals) s₄)
    (fun _ _ => False) s₃) (fun _ _ => False) s₂) (fun _ _ => False) ⟨h, c.g, d, tk + 1, c.o⟩
theorem E_comp {elt target iter : Expr} {ifs : List Expr} {scope : Scope} {own fr : List Str} {pos : Pos} {Q : Value → Heap → Prop} (ck : CompOk scope own fr) (hcells : ∀ x ∈ fr, (env.cells.lookup x).isSome = true)
    (k : W c A (eval iter env) (fun x h1 => Comp c A (.ListComp elt [⟨target, iter, ifs, 0⟩] scope pos) scope (clOf env scope.names []) env none x Q h1) h)
    (hs : ∀ x, foldedSetIterable iter env x = pure x := by intro _; rfl) : W c A (eval (.ListComp elt [⟨target, iter, ifs, 0⟩] scope pos) env) Q h := fun d tk => by
  rw [eval_ListComp]
  exact wpAny_comprehension_free (g := ⟨target, iter, ifs, 0⟩) (gs := []) rfl hs (closureFor_eq scope env fun n m => hcells n (ck.all n m)) ck.kind ck.loc (W_any k fun x h1 d1 tk1 q => q d1 tk1)
theorem S_comp {elt target iter : Expr} {ifs : List Expr} {scope : Scope} {own fr : List Str} {pos py spos : Pos} {y : Str} {Q : Flow → Heap → Prop} (ck : CompOk scope own fr) (hcells : ∀ x ∈ fr, (env.cells.lookup x).isSome = true)
    (hsw : swapsWith (.ListComp elt [⟨target, iter, ifs, 0⟩] scope pos) (some (.Name y py)) spos.line env = pure true)
    (k : W c A (eval iter env) (fun x h1 => Comp c A (.ListComp elt [⟨target, iter, ifs, 0⟩] scope pos) scope (clOf env scope.names []) env (some (assign (.Name y py) env)) x (fun _ => Q .next) h1) h)
    (hs : ∀ x, foldedSetIterable iter env x = pure x := by intro _; rfl) : W c A (exec (.Assign [.Name y py] (.ListComp elt [⟨target, iter, ifs, 0⟩] scope pos) spos) env) Q h := fun d tk => by
  rw [exec_Assign_Name_used _ _ _ _ hsw]
  refine wpAny_bind (wpAny_standAt (wpAny_bind ?_))
  show wpAny _ A (do let _ ← comprehension (.ListComp elt [⟨target, iter, ifs, 0⟩] scope pos) scope env _ (newList []) false (eval iter env) (some (assign (.Name y py) env))) _ _ _
  refine wpAny_bind (wpAny_mono (wpAny_comprehension_free (g := ⟨target, iter, ifs, 0⟩) (gs := []) (use := some (assign (.Name y py) env)) (Q := fun _ s' => ∃ h' d' tk', s' = ⟨h', c.g, d', tk', c.o⟩ ∧ Q .next h') rfl hs
    (closureFor_eq scope env fun n m => hcells n (ck.all n m)) ck.kind ck.loc (W_any k fun x h1 d1 tk1 q => q d1 tk1)) (fun _ s' hq => wpAny_pure (wpAny_pure hq)) fun _ _ x => x)

theorem CW_comp {elt target iter : Expr} {ifs : List Expr} {scope : Scope} {pos : Pos} {it acc : Value} {R : Heap → Prop} (I : Nat → Heap → Prop)
    (turn : ∀ n h, I n h → W c A (pyNext it) (fun r h1 => match r with
      | none => R h1
      | some v => W c A (letOwnedTupleGo target it v) (fun _ h1 => W c A (assign target env v) (fun _ h2 => W c A (tests ifs env) (fun ok h3 =>
          if ok = true then W c A (eval elt env) (fun x h4 => W c A (call (.builtin "list.append") [acc, x]) (fun _ h5 => ∃ m, m < n ∧ I m h5) h4) h3 else ∃ m, m < n ∧ I m h3) h2) h1) h1) h)
    (n : Nat) (i : I n h) : CW c A (.compLoop (.ListComp elt [⟨target, iter, ifs, 0⟩] scope pos) 0 it acc env) (fun _ => R) h := fun d tk => by
  refine codeAny_loop rfl (fun n s => ∃ h d tk, s = ⟨h, c.g, d, tk + 1, c.o⟩ ∧ I n h) (fun n s hI => ?_) n ⟨h, d, _, rfl, i⟩
  obtain ⟨h, d, _, rfl, hI⟩ := hI
  show wpAny _ A ((compTurn (.ListComp elt [⟨target, iter, ifs, 0⟩] scope pos) 0 it acc env).onRaise (fun x => do noteFrame x env; theTreesLotGoes x)) _ _ _
  refine wpAny_noted ?_
  rw [compTurn_list]
  refine wpAny_bind (wpAny_standAt (wpAny_bind (W_any (turn n h hI) fun r h1 d1 tk1 q => ?_)))
  cases r with
  | none => exact wpAny_pure ⟨_, h1, d1, _, rfl, rfl, q⟩
  | some v =>
    refine wpAny_bind (W_any q fun _ h1 d1 tk1 q => wpAny_bind (W_any q fun _ h2 d2 tk2 q => wpAny_bind (W_any q fun ok h3 d3 tk3 q => ?_)))
    cases ok with
    | false => obtain ⟨m, hm, hi⟩ := q; exact wpAny_pure ⟨rfl, m, hm, h3, d3, _, rfl, hi⟩
    | true =>
      refine wpAny_bind (wpAny_bind (W_any (show W c A _ _ _ from q) fun x h4 d4 tk4 q => wpAny_bind (W_any q fun _ h5 d5 tk5 q => ?_)))
      obtain ⟨m, hm, hi⟩ := q
      exact wpAny_pure (wpAny_pure ⟨rfl, m, hm, h5, d5, _, rfl, hi⟩)
end

section
variable {c : Cx} {A : Around} {hb h : Heap} {V : List Addr} {env : Env} {ns : List Str} {vs : List (Option Value)} {D : List (Addr × Ob)} {P : Heap → Prop}

theorem Fm_comp {scope : Scope} {own fr : List Str} {C : Addr} (fm : Fm env ns) (ck : CompOk scope own fr) (hfr : ∀ x ∈ fr, x ∈ ns ∧ env.kindOf x ≠ some .local) : Fm (compEnvC scope (clOf env scope.names []) C env) (own ++ fr) := by
  have hl : ∀ x ∈ own, (compEnvC scope (clOf env scope.names []) C env).kindOf x = some .local := fun x m => lookup_relabel_local (ck.loco x m)
  have hf : ∀ x ∈ fr, ((compEnvC scope (clOf env scope.names []) C env).kindOf x = some .cell ∨ (compEnvC scope (clOf env scope.names []) C env).kindOf x = some .free) := fun x m => relabel_free (ck.fre x m)
  have hc : ∀ x ∈ fr, ∃ a, env.cells.lookup x = some a ∧ (clOf env scope.names []).lookup x = some a := fun x m => by
    rcases fm.names x (hfr x m).1 with e | ⟨_, a, ha⟩
    · exact absurd e (hfr x m).2
    · exact ⟨a, ha, clOf_look ha _ _ (.inl (mem_of_lookup (ck.fre x m))) (fun b e => by cases e)⟩
  refine ⟨ck.kind, ck.nd, fun x m => ?_, ck.dbg, fun x mx y my a kx ky lx ly => ?_⟩
  · rcases List.mem_append.mp m with m | m
    · exact .inl (hl x m)
    · obtain ⟨a, _, e⟩ := hc x m
      exact .inr ⟨hf x m, a, e⟩
  · have fx : x ∈ fr := (List.mem_append.mp mx).resolve_left fun m => kx (hl x m)
    have fy : y ∈ fr := (List.mem_append.mp my).resolve_left fun m => ky (hl y m)
    obtain ⟨a1, e1, e2⟩ := hc x fx
    obtain ⟨a2, e3, e4⟩ := hc y fy
    have lx' : (clOf env scope.names []).lookup x = some a := lx
    have ly' : (clOf env scope.names []).lookup y = some a := ly
    rw [e2] at lx'; cases lx'
    rw [e4] at ly'; cases ly'
    exact fm.inj x (hfr x fx).1 y (hfr y fy).1 a (hfr x fx).2 (hfr y fy).2 e1 e3

/-- a comprehension's run by an invariant: Inv i ys P, ys what is gathered -/
theorem Comp_core {x : Value} {n : Nat} {T : Nat → Ob} {X : Nat → Value → Prop} {pre need : Heap → Prop} (It : It c x n T X pre need) {elt target iter : Expr} {ifs : List Expr} {scope : Scope} {pos : Pos} {own fr : List Str} {fvs : List (Option Value)}
    {use : Option (Value → Sem Unit)} {Q : Value → Heap → Prop} (hh : A.handled = none) (hn : n ≤ sizeLine) (S : St c hb V h env ns vs D P) (ck : CompOk scope own fr) (hfr : ∀ x ∈ fr, x ∈ ns ∧ env.kindOf x ≠ some .local)
    (hfv : ∀ (j : Nat) (x : Str) (v : Value), fr[j]? = some x → fvs[j]? = some (some v) → ∃ i : Nat, ns[i]? = some x ∧ vs[i]? = some (some v)) (hpre : pre h) (hneed : need h)
    (Inv : Nat → List Value → (Heap → Prop) → Prop) (P0 : Heap → Prop) (perm0 : ∀ V h1 h2, Eff c V h1 h2 → P0 h1 → P0 h2) (p0 : P0 h) (i0 : Inv 0 [] P0)
    (len : ∀ i ys P, Inv i ys P → ys.length ≤ i)
    (turn : ∀ i v acc it C h1 ys P1, i < n → X i v → Inv i ys P1 → h.get? acc = none → St c h [] h1 (compEnvC scope (clOf env scope.names []) C env) (own ++ fr) (own.map (fun _ => none) ++ fvs) [(acc, .lst ys), (it, T (i + 1))] P1 →
      W c A (assign target (compEnvC scope (clOf env scope.names []) C env) v) (fun _ h2 => W c A (tests ifs (compEnvC scope (clOf env scope.names []) C env)) (fun ok h3 =>
        if ok = true then W c A (eval elt (compEnvC scope (clOf env scope.names []) C env)) (fun y h4 => ∃ vs' P2, Keepv (own.map (fun _ => none) ++ fvs) vs' ∧ Inv (i + 1) (ys ++ [y]) P2 ∧ St c h [] h4 (compEnvC scope (clOf env scope.names []) C env) (own ++ fr) vs' [(acc, .lst ys), (it, T (i + 1))] P2) h3
        else ∃ vs' P2, Keepv (own.map (fun _ => none) ++ fvs) vs' ∧ Inv (i + 1) ys P2 ∧ St c h [] h3 (compEnvC scope (clOf env scope.names []) C env) (own ++ fr) vs' [(acc, .lst ys), (it, T (i + 1))] P2) h2) h1)
    (fin : ∀ h1 acc C ys P1, Inv n ys P1 → h.get? acc = none → h.get? C = none → (∃ m, h1.Ns C m) → acc ≠ C → Eff c [] h h1 → At h1 acc (.lst ys) → (∀ V a b, Eff c V a b → P1 a → P1 b) → P1 h1 →
      ∀ d tk, compPost (model c.prog c.w) A (fun _ _ => False) use (fun a s' => ∃ h' d' tk', s' = ⟨h', c.g, d', tk', c.o⟩ ∧ Q a h') (.ref acc) C (.ok .next) ⟨h1, c.g, d, tk + 1, c.o⟩) :
    Comp c A (.ListComp elt [⟨target, iter, ifs, 0⟩] scope pos) scope (clOf env scope.names []) env use x Q h := fun d tk => by
  refine W_any (It.opn (Q := fun v h1 => ∃ it, v = .ref it ∧ h.get? it = none ∧ Eff c [] h h1 ∧ At h1 it (T 0)) hpre fun it h' a b e => ⟨it, rfl, a, b, e⟩) ?_
  rintro v h1 d1 tk1 ⟨it, rfl, itn, e1, at1⟩
  refine wpAny_newList ?_
  refine wpAny_newFunctionEnv ck.nocell (fun x m => nomatch m) (fun h3 n3 s3 => ?_) ck.kind
  -- the heaps: h1 (iterator), h2 (list), h3 (the block's names)
  have accn1 : h1.get? h1.objs.size = none := get_size _
  have hl2 : (h1.push { cls := .type "list", data := .seq ([] : List Value).toArray }).get? h1.objs.size = some { cls := .type "list", data := .seq ([] : List Value).toArray } := Heap.get?_push_size _ rfl
  have Cn2 := get_size (h1.push { cls := .type "list", data := .seq ([] : List Value).toArray })
  have accn : h.get? h1.objs.size = none := by
    cases q : h.get? h1.objs.size with
    | none => rfl
    | some o => rw [e1.keep _ _ q] at accn1; cases accn1
  have e2 : Eff c [] h1 (h1.push { cls := .type "list", data := .seq ([] : List Value).toArray }) := .push _ _
  have k3 : ∀ b o, (h1.push { cls := .type "list", data := .seq ([] : List Value).toArray }).get? b = some o → h3.get? b = some o := fun b o e => by
    have hne : b ≠ (h1.push { cls := .type "list", data := .seq ([] : List Value).toArray }).objs.size := fun q => by rw [q, Cn2] at e; cases e
    exact s3.extBut b o hne (Heap.get?_push_of_some _ e)
  have E3 : Eff c [] h h3 := (e1.trans e2).trans (.of_keep k3)
  have Cn : h.get? (h1.push { cls := .type "list", data := .seq ([] : List Value).toArray }).objs.size = none := by
    cases q : h.get? (h1.push { cls := .type "list", data := .seq ([] : List Value).toArray }).objs.size with
    | none => rfl
    | some o => rw [(e1.trans e2).keep _ _ q] at Cn2; cases Cn2
  obtain ⟨oi, gi, si⟩ := at1
  have it_ne_acc : it ≠ h1.objs.size := fun q => by rw [q, accn1] at gi; cases gi
  have it_ne_C : it ≠ (h1.push { cls := .type "list", data := .seq ([] : List Value).toArray }).objs.size := fun q => by have := e2.keep _ _ gi; rw [q, Cn2] at this; cases this
  have acc_ne_C : h1.objs.size ≠ (h1.push { cls := .type "list", data := .seq ([] : List Value).toArray }).objs.size := fun q => by rw [q, Cn2] at hl2; cases hl2
  have fm' := Fm_comp (C := (h1.push { cls := .type "list", data := .seq ([] : List Value).toArray }).objs.size) S.fm ck hfr
  have hcel : ∀ x ∈ fr, ∀ a, (clOf env scope.names []).lookup x = some a → env.cells.lookup x = some a := fun x m a l => by
    rcases S.fm.names x (hfr x m).1 with e | ⟨_, b, hb⟩
    · exact absurd e (hfr x m).2
    · have := clOf_look hb scope.names [] (.inl (mem_of_lookup (ck.fre x m))) (fun b e => by cases e)
      rw [this] at l; cases l; exact hb
  have hloc : ∀ x ∈ own, (compEnvC scope (clOf env scope.names []) (h1.push { cls := .type "list", data := .seq ([] : List Value).toArray }).objs.size env).kindOf x = some .local := fun x m => lookup_relabel_local (ck.loco x m)
  have infr : ∀ x ∈ own ++ fr, (compEnvC scope (clOf env scope.names []) (h1.push { cls := .type "list", data := .seq ([] : List Value).toArray }).objs.size env).kindOf x ≠ some .local → x ∈ fr := fun x m k => (List.mem_append.mp m).resolve_left fun q => k (hloc x q)
  have S3 : St c h [] h3 (compEnvC scope (clOf env scope.names []) (h1.push { cls := .type "list", data := .seq ([] : List Value).toArray }).objs.size env) (own ++ fr) (own.map (fun _ => none) ++ fvs) [(h1.objs.size, .lst []), (it, T 0)] P0 := {
    fm := fm'
    loc := ⟨_, n3, fun i x v hx hv => by
      by_cases hi : i < own.length
      · rw [List.getElem?_append_left (by rw [List.length_map]; exact hi), List.getElem?_map] at hv
        cases q : own[i]? with
        | none => rw [q] at hv; cases hv
        | some y => rw [q] at hv; cases hv
      · rw [List.getElem?_append_right (by omega)] at hx
        rw [List.getElem?_append_right (by rw [List.length_map]; omega), List.length_map] at hv
        have xfr := List.mem_of_getElem? hx
        refine ⟨fun l => ?_, fun a nl l => ?_⟩
        · rcases relabel_free (env := env) (ck.fre x xfr) with q | q
          · rw [show (compEnvC scope (clOf env scope.names []) (h1.push { cls := .type "list", data := .seq ([] : List Value).toArray }).objs.size env).kindOf x = some .cell from q] at l; cases l
          · rw [show (compEnvC scope (clOf env scope.names []) (h1.push { cls := .type "list", data := .seq ([] : List Value).toArray }).objs.size env).kindOf x = some .free from q] at l; cases l
        · obtain ⟨i', a1, a2⟩ := hfv _ x v hx hv
          obtain ⟨m, _, k⟩ := S.loc
          exact ((k i' x v a1 a2).2 a (hfr x xfr).2 (hcel x xfr a l)).keeps E3.keep⟩
    cel := fun x m k a l => by
      have xfr := infr x m k
      obtain ⟨v, K⟩ := S.cel x (hfr x xfr).1 (hfr x xfr).2 a (hcel x xfr a l)
      exact ⟨v, K.keeps E3.keep⟩
    led := fun p m => by
      rcases List.mem_cons.mp m with rfl | m
      · exact ⟨_, k3 _ _ hl2, 0, rfl⟩
      · rw [List.mem_singleton.mp m]
        exact ⟨oi, k3 _ _ (e2.keep _ _ gi), si⟩
    ap := by
      simp only [List.map_cons, List.map_nil, List.nodup_cons, List.mem_cons, List.not_mem_nil, or_false, not_or, not_false_eq_true, List.nodup_nil, and_true]
      exact ⟨⟨fun q => acc_ne_C q.symm, fun q => it_ne_C q.symm⟩, fun q => it_ne_acc q.symm⟩
    eff := E3
    newL := Cn
    newD := fun p m => by
      rcases List.mem_cons.mp m with rfl | m
      · exact ⟨S.okh.none accn, .inl accn⟩
      · rw [List.mem_singleton.mp m]; exact ⟨S.okh.none itn, .inl itn⟩
    ok := S.okh
    perm := perm0
    p := perm0 _ _ _ E3 p0 }
  generalize (h1.push { cls := .type "list", data := .seq ([] : List Value).toArray }).objs.size = C at *
  generalize h1.objs.size = acc at *
  have loop : ∀ h3 (S3 : St c h [] h3 (compEnvC scope (clOf env scope.names []) C env) (own ++ fr) (own.map (fun _ => none) ++ fvs) [(acc, .lst []), (it, T 0)] P0),
      CW c A (.compLoop (.ListComp elt [⟨target, iter, ifs, 0⟩] scope pos) 0 (.ref it) (.ref acc) (compEnvC scope (clOf env scope.names []) C env))
        (fun _ h' => ∃ ys P1, Inv n ys P1 ∧ (∃ m, h'.Ns C m) ∧ Eff c [] h h' ∧ At h' acc (.lst ys) ∧ (∀ V a b, Eff c V a b → P1 a → P1 b) ∧ P1 h') h3 := fun h3 S3 => by
    refine CW_comp (fun m h1 => ∃ i ys P1, m = n - i ∧ i ≤ n ∧ Inv i ys P1 ∧ St c h [] h1 (compEnvC scope (clOf env scope.names []) C env) (own ++ fr) (own.map (fun _ => none) ++ fvs) [(acc, .lst ys), (it, T i)] P1) ?_ n ⟨0, [], P0, by omega, by omega, i0, S3⟩
    rintro m h1 ⟨i, ys, P1, rfl, hi, inv, S1⟩
    have nd1 : need h1 := It.stb _ _ S1.eff hneed
    have S1' : St c h [] h1 (compEnvC scope (clOf env scope.names []) C env) (own ++ fr) (own.map (fun _ => none) ++ fvs) ([(acc, .lst ys)] ++ [(it, T i)]) P1 := S1
    by_cases hlt : i < n
    · refine It.nxt hlt nd1 S1'.atLast fun v h2 xv s2 at2 => ?_
      have S2 : St c h [] h2 (compEnvC scope (clOf env scope.names []) C env) (own ++ fr) (own.map (fun _ => none) ++ fvs) [(acc, .lst ys), (it, T (i + 1))] P1 := S1'.updLast (.of_same s2 S1'.lastLo.1 S1'.lastLo.2) at2
      refine It.lot (i := i + 1) at2 (W_mono (turn i v acc it C h2 ys P1 hlt xv inv accn S2) fun _ h3 q => W_mono q fun ok h4 q => ?_)
      cases ok with
      | false =>
        obtain ⟨vs', P2, kv, inv', S4⟩ := q
        exact ⟨n - (i + 1), by omega, i + 1, ys, P2, rfl, hlt, inv', S4.weaken kv (List.Sublist.refl _)⟩
      | true =>
        refine W_mono (show W c A _ _ _ from q) fun y h5 q => ?_
        obtain ⟨vs', P2, kv, inv', S5⟩ := q
        have hlen := len i ys P1 inv
        refine F_append (S5.getL (j := 0) rfl) (by omega) fun h6 s6 at6 => ?_
        have S6 := S5.upd (j := 0) (b' := .lst (ys ++ [y])) rfl (.of_same s6 (S5.loSet (j := 0) rfl) (S5.ntAt (j := 0) rfl)) at6
        exact ⟨n - (i + 1), by omega, i + 1, ys ++ [y], P2, rfl, hlt, inv', S6.weaken kv (List.Sublist.refl _)⟩
    · have : i = n := by omega
      subst this
      refine It.end_ hh nd1 S1'.atLast fun h2 x2 => ?_
      have S2 := S1'.dropLast x2
      obtain ⟨m, nm, _⟩ := S2.loc
      exact ⟨ys, P1, inv, ⟨m, nm⟩, S2.eff, S2.led (acc, .lst ys) (by simp), S2.perm, S2.p⟩
  have post : ∀ h3 (S3 : St c h [] h3 (compEnvC scope (clOf env scope.names []) C env) (own ++ fr) (own.map (fun _ => none) ++ fvs) [(acc, .lst []), (it, T 0)] P0) d tk,
      codeAny (model c.prog c.w) A (.compLoop (.ListComp elt [⟨target, iter, ifs, 0⟩] scope pos) 0 (.ref it) (.ref acc) (compEnvC scope (clOf env scope.names []) C env))
        (compPost (model c.prog c.w) A (fun _ _ => False) use (fun a s' => ∃ h' d' tk', s' = ⟨h', c.g, d', tk', c.o⟩ ∧ Q a h') (.ref acc) C) ⟨h3, c.g, d, tk + 1, c.o⟩ := fun h3 S3 d tk =>
    CW_any (loop h3 S3) fun f h' d' tk' q => by
      obtain ⟨ys, P1, inv, hm, E, a, pf, p1⟩ := q
      have := fin h' acc C ys P1 inv accn Cn hm acc_ne_C E a pf p1 d' tk'
      cases use <;> exact this
  have S3' : St c h [] h3 (compEnvC scope (clOf env scope.names []) C env) (own ++ fr) (own.map (fun _ => none) ++ fvs) ([(acc, .lst [])] ++ [(it, T 0)]) P0 := S3
  exact codeAny_compStart_list (post h3 S3 _ _) (W_any (It.slf S3'.atLast (Q := fun v h' => v = .ref it ∧ h' = h3) ⟨rfl, rfl⟩) fun v h' d' tk' q => by obtain ⟨rfl, rfl⟩ := q; exact post _ S3 d' tk')

theorem St.add {a : Addr} {b : Ob} (S : St c hb V h env ns vs D P) (ne : a ≠ env.locals) (nD : ∀ p ∈ D, p.1 ≠ a) (lo : c.h0.get? a = none) (nw : hb.get? a = none ∨ a ∈ V) (g : At h a b) : St c hb V h env ns vs (D ++ [(a, b)]) P :=
  { S with
    led := fun p m => by
      rcases List.mem_append.mp m with m | m
      · exact S.led p m
      · rw [List.mem_singleton.mp m]; exact g
    ap := by
      rw [List.map_append, ← List.cons_append, List.nodup_append]
      refine ⟨S.ap, by simp, fun x hx y hy => ?_⟩
      simp only [List.map_cons, List.map_nil, List.mem_singleton] at hy
      subst hy
      intro q
      subst q
      rcases List.mem_cons.mp hx with q | q
      · exact ne q
      · obtain ⟨p, hp, e⟩ := List.mem_map.mp q
        exact nD p hp e
    newD := fun p m => by
      rcases List.mem_append.mp m with m | m
      · exact S.newD p m
      · rw [List.mem_singleton.mp m]; exact ⟨lo, nw⟩ }
theorem St.new_of {a : Addr} (S : St c hb V h env ns vs D P) (n : h.get? a = none) : a ≠ env.locals ∧ (∀ p ∈ D, p.1 ≠ a) ∧ c.h0.get? a = none ∧ (hb.get? a = none ∨ a ∈ V) := by
  refine ⟨fun q => ?_, fun p m q => ?_, S.okh.none n, ?_⟩
  · obtain ⟨o, e⟩ := S.hasL; rw [← q, n] at e; cases e
  · obtain ⟨o, e, _⟩ := S.led p m; rw [q, n] at e; cases e
  · by_cases q : a ∈ V
    · exact .inr q
    · refine .inl ?_
      cases e : hb.get? a with
      | none => rfl
      | some o => rw [S.eff a o e (.inr (.inl q))] at n; cases n
theorem ns_raw {C : Addr} {m : Str → Option Value} (n : h.Ns C m) : ∃ o, At h C (.raw o) := by
  obtain ⟨o, es, ep, g, d, _⟩ := n
  refine ⟨o, o, g, rfl, fun t => ?_, fun v e => ?_⟩
  · obtain ⟨_, xs, k, e⟩ := t; rw [d] at e; cases e
  · rw [d] at e; cases e
/-- a comprehension whose list is the value -/
theorem Comp_val {x : Value} {n : Nat} {T : Nat → Ob} {X : Nat → Value → Prop} {pre need : Heap → Prop} (It : It c x n T X pre need) {elt target iter : Expr} {ifs : List Expr} {scope : Scope} {pos : Pos} {own fr : List Str} {fvs : List (Option Value)}
    {Q : Value → Heap → Prop} (hh : A.handled = none) (hn : n ≤ sizeLine) (S : St c hb V h env ns vs D P) (ck : CompOk scope own fr) (hfr : ∀ x ∈ fr, x ∈ ns ∧ env.kindOf x ≠ some .local)
    (hfv : ∀ (j : Nat) (x : Str) (v : Value), fr[j]? = some x → fvs[j]? = some (some v) → ∃ i : Nat, ns[i]? = some x ∧ vs[i]? = some (some v)) (hpre : pre h) (hneed : need h)
    (Inv : Nat → List Value → (Heap → Prop) → Prop) (i0 : Inv 0 [] P)
    (len : ∀ i ys P, Inv i ys P → ys.length ≤ i)
    (turn : ∀ i v acc it C h1 ys P1, i < n → X i v → Inv i ys P1 → h.get? acc = none → St c h [] h1 (compEnvC scope (clOf env scope.names []) C env) (own ++ fr) (own.map (fun _ => none) ++ fvs) [(acc, .lst ys), (it, T (i + 1))] P1 →
      W c A (assign target (compEnvC scope (clOf env scope.names []) C env) v) (fun _ h2 => W c A (tests ifs (compEnvC scope (clOf env scope.names []) C env)) (fun ok h3 =>
        if ok = true then W c A (eval elt (compEnvC scope (clOf env scope.names []) C env)) (fun y h4 => ∃ vs' P2, Keepv (own.map (fun _ => none) ++ fvs) vs' ∧ Inv (i + 1) (ys ++ [y]) P2 ∧ St c h [] h4 (compEnvC scope (clOf env scope.names []) C env) (own ++ fr) vs' [(acc, .lst ys), (it, T (i + 1))] P2) h3
        else ∃ vs' P2, Keepv (own.map (fun _ => none) ++ fvs) vs' ∧ Inv (i + 1) ys P2 ∧ St c h [] h3 (compEnvC scope (clOf env scope.names []) C env) (own ++ fr) vs' [(acc, .lst ys), (it, T (i + 1))] P2) h2) h1)
    (fin : ∀ h1 acc ys P1, Inv n ys P1 → St c hb V h1 env ns vs (D ++ [(acc, .lst ys)]) P1 → Q (.ref acc) h1) :
    Comp c A (.ListComp elt [⟨target, iter, ifs, 0⟩] scope pos) scope (clOf env scope.names []) env none x Q h := by
  refine Comp_core It hh hn S ck hfr hfv hpre hneed Inv P S.perm S.p i0 len turn ?_
  rintro h1 acc C ys P1 inv accn Cn ⟨m, nm⟩ aC E at1 pf p1 d tk
  refine ⟨m, nm, fun h2 s2 => ⟨h2, d, _, rfl, fin h2 acc ys P1 inv ?_⟩⟩
  obtain ⟨o, ao⟩ := ns_raw nm
  obtain ⟨a1, a2, a3, a4⟩ := S.new_of accn
  obtain ⟨b1, b2, b3, b4⟩ := S.new_of Cn
  have S1 := ((S.step E).less p1 pf).add a1 a2 a3 a4 at1
  have S2 := S1.add (a := C) (b := .raw o) b1 (fun p q => by
    rcases List.mem_append.mp q with q | q
    · exact b2 p q
    · rw [List.mem_singleton.mp q]; exact aC) b3 b4 ao
  exact S2.dropLast s2.extBut
/-- a comprehension whose list is bound to a name -/
theorem Comp_use {x : Value} {n : Nat} {T : Nat → Ob} {X : Nat → Value → Prop} {pre need : Heap → Prop} (It : It c x n T X pre need) {elt target iter : Expr} {ifs : List Expr} {scope : Scope} {pos py : Pos} {own fr : List Str} {fvs : List (Option Value)}
    {Q : Value → Heap → Prop} (k : Nat) {y : Str} (hy : ns[k]? = some y) (hown : Own env hb y) (hh : A.handled = none) (hn : n ≤ sizeLine) (S : St c hb V h env ns vs D P) (ck : CompOk scope own fr) (hfr : ∀ x ∈ fr, x ∈ ns ∧ env.kindOf x ≠ some .local)
    (hfv : ∀ (j : Nat) (x : Str) (v : Value), fr[j]? = some x → fvs[j]? = some (some v) → ∃ i : Nat, ns[i]? = some x ∧ vs[i]? = some (some v)) (hpre : pre h) (hneed : need h)
    (Inv : Nat → List Value → (Heap → Prop) → Prop) (i0 : Inv 0 [] P)
    (len : ∀ i ys P, Inv i ys P → ys.length ≤ i)
    (turn : ∀ i v acc it C h1 ys P1, i < n → X i v → Inv i ys P1 → h.get? acc = none → St c h [] h1 (compEnvC scope (clOf env scope.names []) C env) (own ++ fr) (own.map (fun _ => none) ++ fvs) [(acc, .lst ys), (it, T (i + 1))] P1 →
      W c A (assign target (compEnvC scope (clOf env scope.names []) C env) v) (fun _ h2 => W c A (tests ifs (compEnvC scope (clOf env scope.names []) C env)) (fun ok h3 =>
        if ok = true then W c A (eval elt (compEnvC scope (clOf env scope.names []) C env)) (fun y h4 => ∃ vs' P2, Keepv (own.map (fun _ => none) ++ fvs) vs' ∧ Inv (i + 1) (ys ++ [y]) P2 ∧ St c h [] h4 (compEnvC scope (clOf env scope.names []) C env) (own ++ fr) vs' [(acc, .lst ys), (it, T (i + 1))] P2) h3
        else ∃ vs' P2, Keepv (own.map (fun _ => none) ++ fvs) vs' ∧ Inv (i + 1) ys P2 ∧ St c h [] h3 (compEnvC scope (clOf env scope.names []) C env) (own ++ fr) vs' [(acc, .lst ys), (it, T (i + 1))] P2) h2) h1)
    (fin : ∀ h1 acc ys P1, Inv n ys P1 → St c hb V h1 env ns (vs.set k (some (.ref acc))) (D ++ [(acc, .lst ys)]) P1 → Q .none h1) :
    Comp c A (.ListComp elt [⟨target, iter, ifs, 0⟩] scope pos) scope (clOf env scope.names []) env (some (assign (.Name y py) env)) x Q h := by
  refine Comp_core It hh hn S ck hfr hfv hpre hneed Inv P S.perm S.p i0 len turn ?_
  rintro h1 acc C ys P1 inv accn Cn ⟨m, nm⟩ aC E at1 pf p1 d tk
  obtain ⟨o, ao⟩ := ns_raw nm
  obtain ⟨a1, a2, a3, a4⟩ := S.new_of accn
  obtain ⟨b1, b2, b3, b4⟩ := S.new_of Cn
  have S1 := ((S.step E).less p1 pf).add a1 a2 a3 a4 at1
  have S2 := S1.add (a := C) (b := .raw o) b1 (fun p q => by
    rcases List.mem_append.mp q with q | q
    · exact b2 p q
    · rw [List.mem_singleton.mp q]; exact aC) b3 b4 ao
  refine W_any (A_name (N_store S2 k hy hown (Q := fun _ h2 => St c hb V h2 env ns (vs.set k (some (.ref acc))) (D ++ [(acc, .lst ys)] ++ [(C, .raw o)]) P1) fun h2 S3 => S3)) ?_
  intro _ h2 d2 tk2 S3
  obtain ⟨o', go, eo, _⟩ := S3.atLast
  subst eo
  obtain ⟨om, es, ep, gm, dm, km, fm⟩ := nm
  have : o' = om := by
    obtain ⟨o2, g2, e2, _⟩ := ao
    rw [gm] at g2; cases g2; exact e2.symm
  subst this
  exact ⟨m, ⟨o', es, ep, go, dm, km, fm⟩, fun h3 s3 => ⟨h3, d2, _, rfl, fin h3 acc ys P1 inv (S3.dropLast s3.extBut)⟩⟩
end
end Mine
end

section
open PySem PySem.W PyProof.Rows PySem.Calls
set_option Elab.async false
set_option linter.unusedVariables false
set_option linter.unusedSimpArgs false
namespace Mine

/-! ## texts as lists of signs -/
def T (l : List Nat) : Str := ⟨l.toArray⟩
abbrev Asc (l : List Nat) : Prop := ∀ c ∈ l, c < 128
theorem T_cps (l : List Nat) : (T l).cps = l.toArray := rfl
theorem T_len (l : List Nat) : (T l).length = l.length := by simp [Str.length, T]
theorem T_app (a b : List Nat) : T a ++ T b = T (a ++ b) := by
  show (⟨(T a).cps ++ (T b).cps⟩ : Str) = _
  simp [T]
theorem T_inj {a b : List Nat} : T a = T b ↔ a = b := by simp [T]
theorem T_asc {l : List Nat} (h : Asc l) : (T l).cps.all (· < 128) = true := by simpa [T] using h
theorem ofT (x : Str) : x = T x.cps.toList := by simp [T]

section
variable {c : Cx} {A : Around} {h : Heap} {env : Env} {x y : List Nat} {t u : Tok}
/-- a written text, by its signs -/
theorem E_txt (l : List Nat) {s : Str} {k pos} {Q : Value → Heap → Prop} (e : s = T l) (q : ∀ t, Q (.str (T l) t) h) : W c A (eval (.Constant (.str s) k pos) env) Q h := by subst e; exact E_str q
theorem O_adds {Q : Value → Heap → Prop} (hs : x.length + y.length ≤ 1000000) (q : ∀ t, Q (.str (T (x ++ y)) t) h) : W c A (binaryOp .Add (.str (T x) t) (.str (T y) u)) Q h :=
  fun d tk => SB.add (fun t' k => ⟨h, d, k, rfl, by rw [T_app]; exact q t'⟩) (by rw [T_len, T_len, sizeLine_eq]; omega)
theorem I_adds {Q : Value → Heap → Prop} (hs : x.length + y.length ≤ 1000000) (q : ∀ t, Q (.str (T (x ++ y)) t) h) : W c A (inplaceOp .Add (.str (T x) t) (.str (T y) u)) Q h :=
  fun d tk => SB.iadd (fun t' k => ⟨h, d, k, rfl, by rw [T_app]; exact q t'⟩) (by rw [T_len, T_len, sizeLine_eq]; omega)
theorem C_eqs {Q : Value → Heap → Prop} (q : Q (.bool (decide (x = y))) h) : W c A (compareOp .Eq (.str (T x) t) (.str (T y) u)) Q h :=
  fun d tk => P.eq_str ⟨h, d, _, rfl, by rwa [show ((T x).cps.toList == (T y).cps.toList) = decide (x = y) by rw [Bool.eq_iff_iff]; simp [T]]⟩
theorem C_nes {Q : Value → Heap → Prop} (q : Q (.bool (decide (x ≠ y))) h) : W c A (compareOp .NotEq (.str (T x) t) (.str (T y) u)) Q h :=
  fun d tk => P.ne_str ⟨h, d, _, rfl, by rwa [show ((T x).cps.toList != (T y).cps.toList) = decide (x ≠ y) by rw [Bool.eq_iff_iff]; simp [T]]⟩
theorem F_lens {Q : Value → Heap → Prop} (hs : x.length ≤ 1000000) (q : ∀ t, Q (.int (x.length : Nat) t) h) : W c A (call (.builtin "len") [.str (T x) t]) Q h :=
  fun d tk => P.len_str (by rw [T_len]; omega) ⟨h, d, _, rfl, by rw [T_len]; exact q _⟩
theorem F_chr {n : Nat} {Q : Value → Heap → Prop} (hn : n < 256) (q : ∀ t, Q (.str (T [n]) t) h) : W c A (call (.builtin "chr") [.int n t]) Q h :=
  fun d tk => P.chr_of_int (by simp; omega) ⟨h, d, _, rfl, q _⟩
theorem F_ord {n : Nat} {Q : Value → Heap → Prop} (q : ∀ t, Q (.int (n : Nat) t) h) : W c A (call (.builtin "ord") [.str (T [n]) t]) Q h := fun d tk => P.ord_of_char ⟨h, d, _, rfl, q _⟩
theorem M_lower {pl : Sem Bool} {Q : Value × List Value → Heap → Prop} (q : Q (.builtin "str.lower", [.str (T x) t]) h) : W c A (getMethod (.str (T x) t) (Str.ofString "lower") pl) Q h := by
  intro d tk
  with_reducible refine GM.lower ?_
  exact ⟨h, d, _, rfl, q⟩
theorem M_upper {pl : Sem Bool} {Q : Value × List Value → Heap → Prop} (q : Q (.builtin "str.upper", [.str (T x) t]) h) : W c A (getMethod (.str (T x) t) (Str.ofString "upper") pl) Q h := by
  intro d tk
  with_reducible refine GM.upper ?_
  exact ⟨h, d, _, rfl, q⟩
theorem M_join {pl : Sem Bool} {Q : Value × List Value → Heap → Prop} (q : Q (.builtin "str.join", [.str (T x) t]) h) : W c A (getMethod (.str (T x) t) (Str.ofString "join") pl) Q h := by
  intro d tk
  with_reducible refine GM.join ?_
  exact ⟨h, d, _, rfl, q⟩
theorem lower_T (ha : Asc x) : Txt.lower (T x) = T (x.map lo1) := by rw [lower_ascii (by simpa [T] using ha)]; simp [T]
theorem F_lower {Q : Value → Heap → Prop} (ha : Asc x) (hs : x.length ≤ 1000000) (q : ∀ t, Q (.str (T (x.map lo1)) t) h) : W c A (call (.builtin "str.lower") [.str (T x) t]) Q h :=
  fun d tk => SCL.lower (by rw [T_len]; omega) fun _ => ⟨h, d, _, rfl, by rw [lower_T ha]; exact q _⟩
theorem upper_T (ha : Asc x) : Txt.upper (T x) = T (x.map up1) := by rw [upper_ascii (by simpa [T] using ha)]; simp [T]
theorem F_upper {Q : Value → Heap → Prop} (ha : Asc x) (hs : x.length ≤ 1000000) (q : ∀ t, Q (.str (T (x.map up1)) t) h) : W c A (call (.builtin "str.upper") [.str (T x) t]) Q h :=
  fun d tk => SCL.upper (by rw [T_len]; omega) fun _ => ⟨h, d, _, rfl, by rw [upper_T ha]; exact q _⟩
/-- a list of texts -/
def Strs (vs : List Value) (ys : List (List Nat)) : Prop := Paired (fun v y => ∃ t, v = .str (T y) t) vs ys
theorem Strs.are {vs : List Value} {ys : List (List Nat)} (s : Strs vs ys) : StrsAre vs (ys.map T) := by
  induction s with
  | nil => exact .nil
  | cons hd _ ih => obtain ⟨t, rfl⟩ := hd; exact .cons _ _ ih
def joinL (sep : List Nat) : List (List Nat) → List Nat
  | [] => []
  | [y] => y
  | y :: z :: r => y ++ sep ++ joinL sep (z :: r)
theorem join_S (sep : List Nat) : ∀ ys : List (List Nat), Str.join (T sep) (ys.map T) = T (joinL sep ys)
  | [] => rfl
  | [y] => rfl
  | y :: z :: r => by
    show T y ++ T sep ++ Str.join (T sep) ((z :: r).map T) = _
    rw [join_S sep (z :: r), T_app, T_app]; rfl
theorem join_T (sep : List Nat) (ys : List (List Nat)) : Txt.join (T sep) (ys.map T) = T (joinL sep ys) := (StrLaws.glued_eq_join _ _).trans (join_S sep ys)
theorem F_join {l : Addr} {vs : List Value} {ys : List (List Nat)} {Q : Value → Heap → Prop} (hl : h.IsList l vs.toArray) (s : Strs vs ys) (hs : (ys.map (·.length)).sum + ys.length * x.length ≤ 1000000) (q : ∀ t, Q (.str (T (joinL x ys)) t) h) :
    W c A (call (.builtin "str.join") [.str (T x) t, .ref l]) Q h :=
  fun d tk => join_list hl s.are (by rw [T_len, List.length_map, List.map_map, show (fun y : Str => y.length) ∘ T = fun y => y.length from funext T_len]; omega) fun t' k => ⟨h, d, k, rfl, by rw [join_T]; exact q t'⟩
theorem C_is {a b : Value} {Q : Value → Heap → Prop} (hp : plainIs a b = true) (q : Q (.bool (a == b)) h) : W c A (compareOp .Is a b) Q h := fun d tk => wpAny_is_plain hp ⟨h, d, _, rfl, q⟩
theorem C_isnt {a b : Value} {Q : Value → Heap → Prop} (hp : plainIs a b = true) (q : Q (.bool (!(a == b))) h) : W c A (compareOp .IsNot a b) Q h := fun d tk => wpAny_isNot_plain hp ⟨h, d, _, rfl, q⟩
theorem pushP (h : Heap) (o : Obj) (b : Ob) (s : b.sat o) (nf : o.isFreed = false) : At (h.push o) h.objs.size b := ⟨o, Heap.get?_push_size _ nf, s⟩

/-! ## lists -/
theorem M_list {l : Addr} {xs : List Value} {name : Str} {id : String} {pl : Sem Bool} {Q : Value × List Value → Heap → Prop} (hl : h.PlainList l xs.toArray) (slot : Slot "list" name id) (hty : typeOf (.builtin id) = pure (.type "method_descriptor"))
    (q : Q (.builtin id, [.ref l]) h) : W c A (getMethod (.ref l) name pl) Q h :=
  fun d tk => getMethod_builtin hl.isList.typeIs F.plainAttrs_list slot hty (fun a e => by cases e; obtain ⟨n, g⟩ := hl; exact ⟨_, g, rfl⟩) ⟨h, d, _, rfl, q⟩
theorem M_append {l : Addr} {xs : List Value} {pl : Sem Bool} {Q : Value × List Value → Heap → Prop} (hl : h.PlainList l xs.toArray) (q : Q (.builtin "list.append", [.ref l]) h) : W c A (getMethod (.ref l) (Str.ofString "append") pl) Q h :=
  M_list hl slot_list_append type_list_append q
theorem F_lenl {l : Addr} {xs : List Value} {Q : Value → Heap → Prop} (hl : h.IsList l xs.toArray) (hs : xs.length ≤ 1000000) (q : ∀ t, Q (.int (xs.length : Nat) t) h) : W c A (call (.builtin "len") [.ref l]) Q h :=
  fun d tk => PyProof.Rows.len_list hl (by simp; omega) ⟨h, d, _, rfl, by have := q (tk + 1 + 1); simpa using this⟩
theorem X_list {value slice : Expr} {l : Addr} {xs : List Value} {k : Nat} {x : Value} {Q : Value → Heap → Prop} (hl : h.IsList l xs.toArray) (hk : k < 2 ^ 63) (hx : xs[k]? = some x) (q : Q x h)
    (hs : subscripted slice false (.ref l) (.int (k : Int) u) = operate [.ref l, .int (k : Int) u] (getItem (.ref l) (.int (k : Int) u)) := by with_unfolding_all rfl) (hg : ∀ r, letTemporaryGo value (.ref l) r = pure () := by intro _; with_unfolding_all rfl) :
    W c A (subscriptTail value slice (.ref l) (.int (k : Int) u)) Q h :=
  fun d tk => item_list hl (by omega) (by omega) (by simpa using hx) ⟨h, d, _, rfl, q⟩ hs hg
theorem O_addl {l b : Addr} {vs ws : List Value} {Q : Value → Heap → Prop} (hl : h.PlainList l vs.toArray) (hb : h.PlainList b ws.toArray) (hs : vs.length + ws.length ≤ 1000000)
    (q : ∀ a h', h.get? a = none → Eff c [] h h' → At h' a (.lst (vs ++ ws)) → Q (.ref a) h') : W c A (binaryOp .Add (.ref l) (.ref b)) Q h := fun d tk => by
  obtain ⟨n, ho⟩ := hl
  obtain ⟨n2, ho2⟩ := hb
  have e : vs.toArray ++ ws.toArray = (vs ++ ws).toArray := by simp
  refine concat_meets ⟨_, ho, rfl⟩ ⟨_, ho2, rfl⟩ noFill_list_add seq_list_add PySem.F.slot_list_add PySem.F.entry_list_add (PySem.F.args_list_add_2 _ _) (list_addW l b vs.toArray ws.toArray n n2 none none #[] #[] (by rw [sizeLine_eq]; simp; omega)) ⟨ho, ho2, ?_⟩
  rw [e]
  exact ⟨_, d, _, rfl, q _ _ (get_size _) (.push _ _) ⟨_, Heap.get?_push_size _ rfl, _, rfl⟩⟩
theorem F_reverse {l : Addr} {xs : List Value} {Q : Value → Heap → Prop} (hl : h.PlainList l xs.toArray) (hs : xs.length ≤ 1000000) (q : ∀ h', Heap.SameBut l h h' → At h' l (.lst xs.reverse) → Q .none h') :
    W c A (call (.builtin "list.reverse") [.ref l]) Q h := fun d tk => by
  obtain ⟨n, ho⟩ := hl
  refine call_meets PySem.F.slot_list_reverse ⟨_, ho, rfl⟩ PySem.F.entry_list_reverse (PySem.F.args_list_reverse_1 _) (AutoSeq1.list_reverse_list_0 l xs.toArray n (by rw [sizeLine_eq]; simp; omega)) ⟨ho, ?_⟩
  refine ⟨_, d, _, rfl, q _ (Heap.SameBut.update ..) ⟨_, Heap.get?_update_self _ ho (by rw [mapSeq_reverse]; rfl), n, ?_⟩⟩
  rw [mapSeq_reverse]
end
end Mine
end

section
open PySem PySem.W PyProof.Rows PySem.Calls
set_option Elab.async false
set_option linter.unusedVariables false
set_option linter.unusedSimpArgs false
namespace Mine

theorem At.ns_iff {h : Heap} {a : Addr} {m : Str → Option Value} : At h a (.ns m) ↔ h.Ns a m := by
  constructor
  · rintro ⟨o, g, es, ep, d, k, f⟩; exact ⟨o, es, ep, g, d, k, f⟩
  · rintro ⟨o, es, ep, g, d, k, f⟩; exact ⟨o, g, es, ep, d, k, f⟩
theorem nsFind_look {es : Array DictEntry} {name : Str} {o : Obj} {ep : Nat} (hd : o.data = .dict es ep) (hk : StrKeys es) : lookIn name o = some (nsFind es name) := by
  unfold lookIn
  rw [hd]
  dsimp only
  unfold nsFind findBy
  rw [← Array.find?_toList]
  split
  · rename_i e he; rw [he]; rfl
  · rename_i he
    rw [he]
    have : es.toList.any (·.refKey) = false := by
      rw [List.any_eq_false]
      intro e he
      obtain ⟨n, t, q⟩ := hk e (Array.mem_toList_iff.mp he)
      simp [DictEntry.refKey, q]
    rw [this]; rfl

/-- a thing of the text's class C, its own names m -/
structure Inst (h : Heap) (C x d : Addr) (m : Str → Option Value) : Prop where
  at_ : h.get? x = some (instObj C d)
  ns : h.Ns d m
theorem Inst.eff {c : Cx} {V : List Addr} {h h' : Heap} {C x d : Addr} {m : Str → Option Value} (i : Inst h C x d m) (e : Eff c V h h') (hx : x ∉ V) (hd : d ∉ V) : Inst h' C x d m :=
  ⟨e _ _ i.at_ (.inr (.inl hx)), let ⟨o, es, ep, g, r⟩ := i.ns; ⟨o, es, ep, e _ _ g (.inr (.inl hd)), r⟩⟩
theorem Inst.is {h : Heap} {C x d : Addr} {m : Str → Option Value} (i : Inst h C x d m) : ∃ o, InstAt h x (instObj C d) C (some o) ∧ ∀ name, lookIn name o = some (m name) := by
  obtain ⟨o, es, ep, g, hd, hk, hf⟩ := i.ns
  exact ⟨o, ⟨i.at_, rfl, rfl, g⟩, fun name => by rw [nsFind_look hd hk, hf]⟩
theorem inst_nt (C d : Addr) : ¬ IsTupO (instObj C d) ∧ ∀ v, (instObj C d).data ≠ .cell v := ⟨fun t => absurd t.1 (by simp), fun v e => by cases e⟩
theorem Inst.atx {h : Heap} {C x d : Addr} {m : Str → Option Value} (i : Inst h C x d m) : At h x (.raw (instObj C d)) := ⟨_, i.at_, rfl, inst_nt C d⟩
theorem Inst.of {h : Heap} {C x d : Addr} {m : Str → Option Value} (a : At h x (.raw (instObj C d))) (b : At h d (.ns m)) : Inst h C x d m := ⟨let ⟨o, g, e, _⟩ := a; e ▸ g, At.ns_iff.mp b⟩

/-- what is asked of a class, once -/
structure Cls (c : Cx) (C : Addr) : Prop where
  pg : plainGet c.K C "" = true
  hd : hasDictIn c.K C = true

section
variable {c : Cx} {A : Around} {h : Heap} {env : Env} {C x d : Addr} {m : Str → Option Value}

theorem G_own {name : Str} {v : Value} {attr : Option Value} {expr : Bool} {Q : Value → Heap → Prop} (ok : Ok c h) (cl : Cls c C) (i : Inst h C x d m) (ha : findIn c.K (.ref C) name = some attr) (hn : noGet c.K attr = true) (hm : m name = some v) (hv : handedIn v = true)
    (q : Q v h) : W c A (getAttr (.ref x) name expr) Q h := fun dr tk => by
  obtain ⟨o, I, l⟩ := i.is
  exact get_value ok.kin I (plainGet_of cl.pg).1 (findObj_own cl.hd ha hn (by rw [l, hm])) hv ⟨h, dr, _, rfl, q⟩
theorem M_inst {name : Str} {f : Addr} {pl : Sem Bool} {Q : Value × List Value → Heap → Prop} (ok : Ok c h) (cl : Cls c C) (i : Inst h C x d m) (hf : findIn c.K (.ref C) name = some (some (.ref f))) (ht : isFn c.K (.ref f) = true) (hm : m name = none)
    (q : Q (.ref f, [.ref x]) h) : W c A (getMethod (.ref x) name pl) Q h := fun dr tk => by
  obtain ⟨o, I, l⟩ := i.is
  refine method_fn ok.kin I (plainGet_of cl.pg).1 (plainGet_of cl.pg).2 hf (beq_iff_eq.mp ht) ?_ ⟨h, dr, _, rfl, q⟩
  show (lookIn name o).map _ = _
  rw [l, hm]; rfl
theorem E_attr {value : Expr} {attr : Str} {pos : Pos} {Q : Value → Heap → Prop} (k : W c A (eval value env) (fun o h1 => W c A (getAttr o attr true) Q h1) h)
    (he : eval (.Attribute value attr pos) env = (do let o ← eval value env; standAt pos.atName; let r ← holding [o] (getAttr o attr true); letTemporaryGo value o r; pure r) := by rfl)
    (hg : ∀ o r, letTemporaryGo value o r = pure () := by intro _ _; with_unfolding_all rfl) : W c A (eval (.Attribute value attr pos) env) Q h := fun dr tk => by
  rw [he]
  refine wpAny_bind (W_any k fun o h1 d1 tk1 q => wpAny_bind (wpAny_standAt (wpAny_bind (wpAny_holding (W_any q fun r h2 d2 tk2 q => ?_)))))
  rw [hg]
  exact wpAny_bind (wpAny_pure (wpAny_pure ⟨h2, d2, _, rfl, q⟩))
theorem S_setattr {o attr pos' value pos} {Q : Flow → Heap → Prop} (k : W c A (eval value env) (fun v h1 => W c A (eval o env) (fun ov h2 => W c A (setAttr ov attr v) (fun _ => Q .next) h2) h1) h)
    (hs : swapsWith value (some (.Attribute o attr pos')) pos.line env = pure false := by rfl) : W c A (exec (.Assign [.Attribute o attr pos'] value pos) env) Q h :=
  fun dr tk => plainObj_wpAny_Assign_Attribute (W_any k fun _ _ _ _ q => W_any q fun _ _ _ _ q => W_any q fun _ h' d' tk' q => ⟨h', d', _, rfl, q⟩) hs
theorem G_set {name : Str} {v : Value} {Q : Unit → Heap → Prop} (ok : Ok c h) (i : Inst h C x d m) (h0 : h.get? d = some emptyDict) (hs : findIn c.K (.ref C) "__setattr__" = some (some (.builtin "object.__setattr__"))) (hp : plainOver c.K C = true) (ht : takerIn c.K C name = some none) (hh : hasDictIn c.K C = true)
    (q : ∀ h', Heap.SameBut d h h' → h'.Ns d (fun y => if y = name then some v else none) → Q () h') : W c A (setAttr (.ref x) name v) Q h := fun dr tk => by
  obtain ⟨o, I, l⟩ := i.is
  refine set_plain ok.kin I hs (osa_open (s := ⟨h, c.g, dr, tk + 1 + 1, c.o⟩) ok.kin I hp ht fun b => ?_)
  obtain ⟨cd, hc, hd'⟩ := any_some hh
  obtain ⟨hx, hcl, hn, -⟩ := I
  refine wpAny_bind (wpAny_pure (wpAny_bind (wpAny_bind (wpAny_loadPart hx (wpAny_bind ((looks_clsIn (show c.K.In h from ok.kin) hc).here ?_))))))
  rw [hd']
  refine wpAny_pure (a := some d) (wpAny_bind (wpAny_pure (wpAny_bind ?_)))
  unfold nsSet
  refine wpAny_bind (wpAny_bind (wpAny_askSetting (wpAny_pure (wpAny_bind (wpAny_mkText (wpAny_bind (wpAny_loadPart h0 ?_)))))))
  dsimp only
  rw [aRefKeyMayBeTheName_at, show (!(#[] : Array DictEntry).any (fun x => x.key.isStr name) && (#[] : Array DictEntry).any (fun x => x.refKey)) = false by simp]
  refine wpAny_updatePart (show (Shared.mk h c.g dr (tk + 1 + 1 + 1) c.o).heap.get? d = some emptyDict from h0) ?_
  have e : Obj.putName name (PyData.keyHash c.w.params name) (.str name (tk + 1 + 1)) v emptyDict = { emptyDict with data := .dict #[⟨PyData.keyHash c.w.params name, .str name (tk + 1 + 1), v⟩] 1 } := rfl
  have g : (h.update d (Obj.putName name (PyData.keyHash c.w.params name) (.str name (tk + 1 + 1)) v)).get? d = some { emptyDict with data := .dict #[⟨PyData.keyHash c.w.params name, .str name (tk + 1 + 1), v⟩] 1 } := by
    rw [Heap.get?_update_self _ h0 (by rw [e]; rfl), e]
  refine wpAny_bind (wpAny_lookBehind g (pastItsLine_dict (by rw [sizeLine_eq]; simp)) ?_)
  refine wpAny_pure ⟨_, dr, _, rfl, q _ (Heap.SameBut.update ..) ⟨_, _, _, g, rfl, ?_, fun y => ?_⟩⟩
  · intro en he
    have : en = ⟨PyData.keyHash c.w.params name, .str name (tk + 1 + 1), v⟩ := by simpa using he
    subst this; exact ⟨_, _, rfl⟩
  · simp only [nsFind, findBy]
    by_cases q : y = name
    · subst q; simp [Value.isStr]
    · have : (Value.str name (tk + 1 + 1)).isStr y = false := by simp [Value.isStr]; exact fun e => q e.symm
      simp [this, q]
/-- a thing is made and its __init__ run -/
theorem F_make {fI : Addr} {Q : Value → Heap → Prop} (ok : Ok c h) (hm : makesIn c.K C = true) (hi : findIn c.K (.ref C) "__init__" = some (some (.ref fI))) (hf : typeIn c.K (.ref fI) = some (.type "function"))
    (k : ∀ x d h1, h.get? x = none → h.get? d = none → x ≠ d → Eff c [] h h1 → Inst h1 C x d (fun _ => none) → h1.get? d = some emptyDict → ∀ A', A'.handled = A.handled → A'.depth = A.depth + 1 → A'.units = A.units + 1 →
      CW c A' (.call (.ref fI) ⟨[.ref x], []⟩) (fun f h2 => f = .ret .none ∧ Q (.ref x) h2) h1) : W c A (call (.ref C) []) Q h := fun dr tk => by
  refine wpAny_call ?_
  refine make_core (makes_of ok.kin hm) (looks_findIn ok.kin hi) (fun self => bind_fn ok.kin self hf) (.inl rfl) ?_
  have e1 : Eff c [] h ((h.push emptyDict).push (instObj C h.objs.size)) := (Eff.push _ _).trans (.push _ _)
  have hz : (h.push emptyDict).objs.size = h.objs.size + 1 := Heap.size_push _ _
  have hx : ((h.push emptyDict).push (instObj C h.objs.size)).get? (h.objs.size + 1) = some (instObj C h.objs.size) := by rw [← hz]; exact Heap.get?_push_size _ rfl
  have hdd : ((h.push emptyDict).push (instObj C h.objs.size)).Ns h.objs.size (fun _ => none) := (Heap.Ns.new h (.type "dict")).push _
  have ne : (h.objs.size + 1 : Nat) ≠ h.objs.size := by omega
  refine CW_any (k (h.objs.size + 1) h.objs.size _ (get_ge (by show h.objs.size ≤ h.objs.size + 1; omega)) (get_size _) ne e1 ⟨hx, hdd⟩ (Heap.get?_push_of_some _ (Heap.get?_push_size _ rfl)) _ rfl rfl rfl) ?_
  rintro f h2 d2 tk2 ⟨rfl, q⟩
  exact ⟨rfl, h2, d2, _, rfl, q⟩
end
end Mine
end

section
open PySem PySem.W PyProof.Rows PySem.Calls PySem.Builtin.Re
set_option Elab.async false
set_option linter.unusedVariables false
set_option linter.unusedSimpArgs false
namespace Mine

/-! ## a search that finds nothing -/
def cName : Array Nat := #[14, 10, 4, 1, 1, 22, 0, 31, 16, 127, 0, 13, 7, 22, 0, 31, 16, 127, 0, 1]
def cValue : Array Nat := #[14, 14, 4, 1, 1, 9, 4294966783, 0, 0, 2147483648, 0, 0, 0, 0, 0, 13, 11, 9, 4294966783, 0, 0, 2147483648, 0, 0, 0, 0, 0, 1]
abbrev Clean (l : List Nat) : Prop := ∀ c ∈ l, 32 ≤ c ∧ c < 127
theorem Clean.asc {l : List Nat} (h : Clean l) : Asc l := fun c m => by have := h c m; omega
theorem inSet_name (c : Nat) (hc : 32 ≤ c ∧ c < 127) (s : Sre.Seen) : ∃ s', Sre.inSet cName c cName.size 5 true s = .ok (false, s') := by
  have h1 : (decide (0 ≤ c) && decide (c ≤ 31)) = false := by simp; omega
  have h2 : (c == 127) = false := by simp; omega
  apply Exists.intro
  show Sre.inSet cName c (19 + 1) 5 true s = _
  rw [Sre.inSet]
  show (if (decide (0 ≤ c) && decide (c ≤ 31)) = true then _ else Sre.inSet cName c (18 + 1) 8 true _) = _
  rw [h1]
  show Sre.inSet cName c (18 + 1) 8 true _ = _
  rw [Sre.inSet]
  show (if (c == 127) = true then _ else Sre.inSet cName c (17 + 1) 10 true _) = _
  rw [h2]
  show Sre.inSet cName c (17 + 1) 10 true _ = _
  rw [Sre.inSet]
  rfl
theorem inSet_value (c : Nat) (hc : 32 ≤ c ∧ c < 127) (s : Sre.Seen) : ∃ s', Sre.inSet cValue c cValue.size 5 true s = .ok (false, s') := by
  have h1 : (decide (c < 256) && (cValue.getD (5 + (1 + c / 32)) 0).testBit (c % 32)) = false := by
    have : ∀ c : Fin 127, 32 ≤ c.val → (decide (c.val < 256) && (cValue.getD (5 + (1 + c.val / 32)) 0).testBit (c.val % 32)) = false := by decide +kernel
    exact this ⟨c, hc.2⟩ hc.1
  apply Exists.intro
  show Sre.inSet cValue c (27 + 1) 5 true s = _
  rw [Sre.inSet]
  show (if (decide (c < 256) && (cValue.getD (5 + (1 + c / 32)) 0).testBit (c % 32)) = true then _ else Sre.inSet cValue c (26 + 1) 14 true _) = _
  rw [h1]
  show Sre.inSet cValue c (26 + 1) 14 true _ = _
  rw [Sre.inSet]
  rfl
/-- what is asked of a code: its first set holds no clean sign -/
structure NoClean (code : Array Nat) : Prop where
  info : (Sre.header code).1 = 1
  set : ∀ m : Sre.M, m.code = code → m.hasFirstSet = true
  no : ∀ c, 32 ≤ c ∧ c < 127 → ∀ s, ∃ s', Sre.inSet code c code.size 5 true s = .ok (false, s')
theorem nc_name : NoClean cName := ⟨rfl, fun m e => by unfold Sre.M.hasFirstSet; rw [e]; rfl, inSet_name⟩
theorem nc_value : NoClean cValue := ⟨rfl, fun m e => by unfold Sre.M.hasFirstSet; rw [e]; rfl, inSet_value⟩
theorem admitted_none {code : Array Nat} (nc : NoClean code) {m : Sre.M} (hm : m.code = code) (hl : ∀ i, i < m.lim → 32 ≤ m.text.getD i 0 ∧ m.text.getD i 0 < 127) :
    ∀ (fuel s : Nat) (seen : Sre.Seen), ∃ s', Sre.M.admitted m fuel s seen = .ok (none, s')
  | 0, s, seen => ⟨seen, rfl⟩
  | fuel + 1, s, seen => by
    unfold Sre.M.admitted
    by_cases h : s ≥ m.lim
    · exact ⟨seen, by rw [if_pos h]⟩
    · obtain ⟨s1, e1⟩ := nc.no _ (hl s (by omega)) seen
      obtain ⟨s2, e2⟩ := admitted_none nc hm hl fuel (s + 1) s1
      exact ⟨s2, by rw [if_neg h, hm, e1]; exact e2⟩
theorem attemptFrom_none {code : Array Nat} (nc : NoClean code) {m : Sre.M} (hm : m.code = code) (hl : ∀ i, i < m.lim → 32 ≤ m.text.getD i 0 ∧ m.text.getD i 0 < 127) (ho : m.outcome = none) (hf : m.frames = []) (k : Nat) (b : Bool) :
    (m.attemptFrom k b).outcome = none ∧ (m.attemptFrom k b).answer = some false ∧ (m.attemptFrom k b).frames = [] := by
  unfold Sre.M.attemptFrom
  rw [nc.set _ hm]
  obtain ⟨s', e⟩ := admitted_none nc hm hl (m.lim + 1 - k) k m.seen
  rw [e]
  exact ⟨ho, rfl, hf⟩
def Dead (m : Sre.M) : Prop := m.outcome = none ∧ m.answer = some false ∧ m.frames = []
theorem forSearch_none {code : Array Nat} (nc : NoClean code) (x : List Nat) (hx : Clean x) :
    Dead (Sre.forSearch code x.toArray 0 0 x.length false) := by
  unfold Dead Sre.forSearch
  dsimp only
  rw [nc.info]
  split
  · exact ⟨rfl, rfl, rfl⟩
  · refine attemptFrom_none nc rfl ?_ rfl rfl _ _
    intro i hi
    have hi : i < x.length := hi
    show 32 ≤ x.toArray.getD i 0 ∧ x.toArray.getD i 0 < 127
    have : x.toArray.getD i 0 = x[i] := by simp [Array.getD, hi]
    rw [this]
    exact hx _ (List.getElem_mem hi)
theorem runFor_failed {m : Sre.M} (h : Dead m) : (m.runFor 4).outcome = some .failed := by
  have : m.step.outcome = some .failed := by
    unfold Sre.M.step
    rw [h.1, h.2.1, h.2.2]
    rfl
  unfold Sre.M.runFor
  rw [h.1]
  show (Sre.M.runFor 3 m.step).outcome = _
  unfold Sre.M.runFor
  rw [this]
  exact this

section
variable {c : Cx} {A : Around} {h : Heap}
theorem W_rules {f : Nat → Bool} {g : Nat → String} {Q : PUnit → Heap → Prop} (q : Q ⟨⟩ h) : ∀ l : List Nat, W c A (forIn l PUnit.unit fun i _ => if f i = true then (do rule (g i); pure (ForInStep.yield PUnit.unit)) else pure (ForInStep.yield PUnit.unit)) Q h
  | [] => W_pure q
  | x :: l => fun d tk => by
    rw [List.forIn_cons]
    refine wpAny_bind ?_
    cases f x with
    | true =>
      refine wpAny_bind (wpAny_rule ?_)
      exact wpAny_pure (W_rules q l d tk)
    | false => exact wpAny_pure (W_rules q l d tk)
theorem reRun_none {m : Sre.M} (hm : Dead m) {Q : Option Sre.M → Heap → Prop} (q : Q none h) : W c A (reRunToEnd m) Q h := fun d tk => by
  unfold reRunToEnd
  refine wpAny_bind ?_
  rw [show 2 ^ 64 = (2 ^ 64 - 1) + 1 by decide, reDrive]
  rw [show reTurnSteps = 4 from rfl, runFor_failed hm]
  refine wpAny_pure (wpAny_bind (W_any (W_rules (Q := fun _ h' => h' = h) rfl _) fun _ h' d' tk' e => ?_))
  subst e
  rw [runFor_failed hm]
  exact wpAny_pure ⟨h', d', _, rfl, q⟩
theorem slot_search : Slot "re.Pattern" "search" "re.Pattern.search" :=
  .of (owner := "re.Pattern") (n := "search") (by rw [typeLookup_type, builtinLookup_eq_fast]; kernel_rfl) (by decide +kernel) (by decide +kernel) (by decide +kernel)
    (by first | exact .inl (by decide +kernel) | exact .inr (by decide +kernel)) (by rw [isSubtype_type]; kernel_rfl)
theorem type_search : typeOf (.builtin "re.Pattern.search") = pure (.type "method_descriptor") := by show builtinType _ = _; rw [builtinType_eq_fast]; kernel_rfl
theorem entry_search : entryFor table "re.Pattern.search" = some Builtin.«re.Pattern.search» := entryFor_of_tree (by kernel_rfl)
theorem args_search (a b : Value) : argsOk "re.Pattern.search" ⟨[a, b], []⟩ := by unfold argsOk; kernel_rfl
/-- a pattern of the text -/
structure Pat (h : Heap) (p : Addr) (code : Array Nat) : Prop where
  at_ : ∃ o f0 f1 f3 f4 ct oc items n, h.get? p = some o ∧ o.cls = .type "re.Pattern" ∧ o.data = .fields #[f0, f1, .int 0 0, f3, f4, .ref ct, .int 0 0] ∧ h.get? ct = some oc ∧ oc.data = .seq items n ∧ (items.map reRawOf).map (·.toNat) = code
theorem F_search {p : Addr} {code : Array Nat} {x : List Nat} {t : Tok} {Q : Value → Heap → Prop} (P : Pat h p code) (nc : NoClean code) (hx : Clean x) (hs : x.length ≤ 1000000) (q : Q .none h) : W c A (call (.builtin "re.Pattern.search") [.ref p, .str (T x) t]) Q h := fun d tk => by
  obtain ⟨o, f0, f1, f3, f4, ct, oc, items, n, ho, hc, hd, hoc, hdc, hcode⟩ := P
  refine wpAny_call_entry slot_search ⟨o, ho, hc⟩ entry_search ?_ (args_search _ _)
  unfold Builtin.«re.Pattern.search»
  refine wpAny_bind ?_
  unfold reTarget
  show wpAny _ _ (reNamed "re.Pattern.search" "search" ["string", "pos", "endpos"] 1 [.str (T x) t] [] >>= _) _ _ _
  rw [show reNamed "re.Pattern.search" "search" ["string", "pos", "endpos"] 1 [.str (T x) t] [] = pure [some (.str (T x) t), none, none] by kernel_rfl]
  refine wpAny_bind (wpAny_pure (wpAny_bind (wpAny_pure (wpAny_bind (wpAny_pure (wpAny_bind (wpAny_fieldsOf ho hd (wpAny_bind ?_))))))))
  refine wpAny_bind (wpAny_pure (wpAny_pure ?_))
  refine wpAny_bind (wpAny_pure (wpAny_bind ?_))
  unfold reRawItems
  refine wpAny_bind (wpAny_seqItems hoc hdc (wpAny_pure (wpAny_pure ?_)))
  unfold reAnswer
  have e1 : min (0 : Int).toNat (T x).cps.size = 0 := by simp
  have e2 : min ((2 : Int) ^ 63 - 1).toNat (T x).cps.size = x.length := by
    rw [T_cps, List.size_toArray]
    have : ((2 : Int) ^ 63 - 1).toNat = 9223372036854775807 := by decide +kernel
    exact Nat.min_eq_right (by omega)
  have hm' : Dead (Sre.forSearch ((items.map reRawOf).map (·.toNat)) (T x).cps 0 (min (0 : Int).toNat (T x).cps.size) (min ((2 : Int) ^ 63 - 1).toNat (T x).cps.size) false) := by
    rw [hcode, e1, e2, T_cps]; exact forSearch_none nc x hx
  refine wpAny_bind (W_any (reRun_none (Q := fun m h' => m = none ∧ h' = h) ?_ ⟨rfl, rfl⟩) fun m h' d' tk' e => ?_)
  · exact hm'
  · obtain ⟨rfl, rfl⟩ := e
    exact wpAny_pure ⟨_, rfl, h', d', _, rfl, q⟩
end
end Mine
end

section
open PySem PySem.W PyProof.Rows PySem.Calls PySem.Builtin.Re
set_option Elab.async false
set_option linter.unusedVariables false
set_option linter.unusedSimpArgs false
namespace Mine

/-! ## tuples -/
def Tup (h : Heap) (t : Addr) (vs : List Value) : Prop := h.get? t = some { cls := .type "tuple", data := .seq vs.toArray }
theorem Tup.eff {c : Cx} {V : List Addr} {h h' : Heap} {t : Addr} {vs : List Value} (x : Tup h t vs) (e : Eff c V h h') : Tup h' t vs := e _ _ x (.inr (.inr ⟨rfl, _, _, rfl⟩))
theorem Tup.is {h : Heap} {t : Addr} {vs : List Value} (x : Tup h t vs) : h.IsTuple t vs.toArray := ⟨_, x, rfl, _, rfl⟩
theorem P_imp {α β : Type} {R R' : α → β → Prop} (k : ∀ a b, R a b → R' a b) {xs : List α} {ys : List β} (p : Paired R xs ys) : Paired R' xs ys := by
  induction p with
  | nil => exact .nil
  | cons hd _ ih => exact .cons (k _ _ hd) ih
theorem P_len {α β : Type} {R : α → β → Prop} {xs : List α} {ys : List β} (p : Paired R xs ys) : xs.length = ys.length := by
  induction p with
  | nil => rfl
  | cons _ _ ih => simp [ih]
theorem P_get {α β : Type} {R : α → β → Prop} {xs : List α} {ys : List β} (p : Paired R xs ys) : ∀ (i : Nat) (x : α), xs[i]? = some x → ∃ y, ys[i]? = some y ∧ R x y := by
  induction p with
  | nil => intro i x e; cases i <;> cases e
  | cons hd _ ih =>
    intro i x e
    cases i with
    | zero => cases e; exact ⟨_, rfl, hd⟩
    | succ i => exact ih i x e
theorem P_get' {α β : Type} {R : α → β → Prop} {xs : List α} {ys : List β} (p : Paired R xs ys) : ∀ (i : Nat) (y : β), ys[i]? = some y → ∃ x, xs[i]? = some x ∧ R x y := by
  induction p with
  | nil => intro i x e; cases i <;> cases e
  | cons hd _ ih =>
    intro i x e
    cases i with
    | zero => cases e; exact ⟨_, rfl, hd⟩
    | succ i => exact ih i x e
theorem P_app {α β : Type} {R : α → β → Prop} {xs xs' : List α} {ys ys' : List β} (p : Paired R xs ys) (q : Paired R xs' ys') : Paired R (xs ++ xs') (ys ++ ys') := by
  induction p with
  | nil => exact q
  | cons hd _ ih => exact .cons hd ih
theorem P_snoc {α β : Type} {R : α → β → Prop} {xs : List α} {ys : List β} {x : α} {y : β} (p : Paired R xs ys) (q : R x y) : Paired R (xs ++ [x]) (ys ++ [y]) := P_app p (.cons q .nil)

section
variable {c : Cx} {A : Around} {h : Heap} {env : Env}
theorem ext_eff {h h' : Heap} (x : Heap.ExtBut h.objs.size h h') : Eff c [] h h' := .of_keep fun a o e => x a o (fun q => by rw [q, get_size] at e; cases e) e
theorem A_tup2 {e1 e2 : Expr} {k' : Nat} {pos : Pos} {t : Addr} {a b : Value} {Q : Unit → Heap → Prop} (hh : A.handled = none) (ht : Tup h t [a, b])
    (k : ∀ h', Eff c [] h h' → W c A (assign e1 env a) (fun _ h1 => W c A (assign e2 env b) Q h1) h') (hs : (assignEach [e1, e2] env) = [(false, assign e1 env), (false, assign e2 env)] := by rfl) :
    W c A (assign (.Tuple [e1, e2] k' pos) env (.ref t)) Q h := fun d tk => by
  refine wpAny_assign_Tuple hh ht.is (by rw [hs]; rfl) (by rw [hs]; rfl) fun h' x => ?_
  rw [hs]
  show wpAny _ _ (do holding [b] (assign e1 env a); (do holding [] (assign e2 env b); pure ())) _ _ _
  exact wpAny_bind (wpAny_holding (W_any (k h' (ext_eff x)) fun _ h1 d1 tk1 q => wpAny_bind (wpAny_holding (W_any q fun _ h2 d2 tk2 q => wpAny_pure ⟨h2, d2, _, rfl, q⟩))))
theorem A_tup3 {e1 e2 e3 : Expr} {k' : Nat} {pos : Pos} {t : Addr} {a b b' : Value} {Q : Unit → Heap → Prop} (hh : A.handled = none) (ht : Tup h t [a, b, b'])
    (k : ∀ h', Eff c [] h h' → W c A (assign e1 env a) (fun _ h1 => W c A (assign e2 env b) (fun _ h2 => W c A (assign e3 env b') Q h2) h1) h') (hs : (assignEach [e1, e2, e3] env) = [(false, assign e1 env), (false, assign e2 env), (false, assign e3 env)] := by rfl) :
    W c A (assign (.Tuple [e1, e2, e3] k' pos) env (.ref t)) Q h := fun d tk => by
  refine wpAny_assign_Tuple hh ht.is (by rw [hs]; rfl) (by rw [hs]; rfl) fun h' x => ?_
  rw [hs]
  show wpAny _ _ (do holding [b, b'] (assign e1 env a); (do holding [b'] (assign e2 env b); (do holding [] (assign e3 env b'); pure ()))) _ _ _
  exact wpAny_bind (wpAny_holding (W_any (k h' (ext_eff x)) fun _ h1 d1 tk1 q => wpAny_bind (wpAny_holding (W_any q fun _ h2 d2 tk2 q => wpAny_bind (wpAny_holding (W_any q fun _ h3 d3 tk3 q => wpAny_pure ⟨h3, d3, _, rfl, q⟩))))))
theorem S_assignT {elts k tpos value pos} {Q : Flow → Heap → Prop}
    (x : W c A (eval value env) (fun v h1 => W c A (assign (.Tuple elts k tpos) env v) (fun _ => Q .next) h1) h)
    (hs : swapsWithSole [.Tuple elts k tpos] value pos.line env = pure false := by rfl)
    (hw : swappedStores [.Tuple elts k tpos] value env = pure none := by rfl) : W c A (exec (.Assign [.Tuple elts k tpos] value pos) env) Q h :=
  fun d tk => Assign_Tuple (W_any x fun _ _ _ _ q => W_any q fun _ h' d' tk' q => ⟨h', d', _, rfl, q⟩) hs hw
theorem X_tup {value slice : Expr} {t : Addr} {vs : List Value} {k : Nat} {u : Tok} {x : Value} {Q : Value → Heap → Prop} (ht : Tup h t vs) (hk : k < 2 ^ 63) (hx : vs[k]? = some x) (q : Q x h)
    (hs : subscripted slice false (.ref t) (.int (k : Int) u) = operate [.ref t, .int (k : Int) u] (getItem (.ref t) (.int (k : Int) u)) := by with_unfolding_all rfl) (hg : ∀ r, letTemporaryGo value (.ref t) r = pure () := by intro _; with_unfolding_all rfl) :
    W c A (subscriptTail value slice (.ref t) (.int (k : Int) u)) Q h :=
  fun d tk => item_tuple (j := k) ht.is (by omega) (by omega) (by have hk' := (List.getElem?_eq_some_iff.mp hx).1; unfold seqIndex?; simp; omega) (by simpa using hx) ⟨h, d, _, rfl, q⟩ hs hg

/-! ## slices -/
theorem E_slice {lower upper step : Option Expr} {p : Pos} {Q : Value → Heap → Prop}
    (k : W c A (evalPart lower env) (fun l h1 => W c A (evalPart upper env) (fun u h2 => W c A (evalPart step env) (fun st h3 => ∀ sl h', h3.get? sl = none → Eff c [] h3 h' → h'.IsSliceOf sl l u st → Q (.ref sl) h') h2) h1) h) :
    W c A (eval (.Slice lower upper step p) env) Q h := fun d tk =>
  wpAny_Slice (W_any k fun _ _ _ _ q => W_any q fun _ _ _ _ q => W_any q fun _ h3 d3 tk3 q => ⟨_, d3, _, rfl, q _ _ (get_size _) (.push _ _) (Heap.IsSliceOf.new ..)⟩)
theorem E_part0 {Q : Value → Heap → Prop} (q : Q .none h) : W c A (evalPart none env) Q h := W_pure q
theorem E_part1 {e : Expr} {Q : Value → Heap → Prop} (q : W c A (eval e env) Q h) : W c A (evalPart (some e) env) Q h := q
theorem X_slice {value slice : Expr} {l sl : Addr} {xs : List Value} {vl vu : Value} {lo hi : Option Int} {ops : List Value} {Q : Value → Heap → Prop} (hl : h.IsList l xs.toArray) (hs' : h.IsSliceOf sl vl vu .none) (pl : IsPart vl lo) (pu : IsPart vu hi) (hz : xs.length ≤ 1000000)
    (q : ∀ a h', h.get? a = none → Eff c [] h h' → At h' a (.lst (slicePick xs.toArray lo hi none).toList) → Q (.ref a) h')
    (hs : subscripted slice false (.ref l) (.ref sl) = operate ops (getItem (.ref l) (.ref sl)) := by with_unfolding_all rfl) : W c A (subscriptTail value slice (.ref l) (.ref sl)) Q h := fun d tk =>
  tail_any (Heap.IsList.typeIs (s := ⟨h, c.g, d, tk + 1, c.o⟩) hl) list_getitem_lookup (wpAny_getItem_list_slice hl hs' pl pu .none (by simp)
    ⟨_, d, _, rfl, q _ _ (get_size _) (.push _ _) ⟨_, Heap.get?_push_size _ rfl, 0, by simp⟩⟩ (by rw [sizeLine_eq]; simp; omega)) hs
/-- the whole of a list is laid anew -/
theorem F_setall {l sl r : Addr} {xs ys : List Value} {Q : Unit → Heap → Prop} (hl : h.PlainList l xs.toArray) (hs : h.IsSliceOf sl .none .none .none) (hr : h.IsList r ys.toArray) (ne : r ≠ l) (hx : xs.length ≤ 1000000) (hy : ys.length ≤ 1000000)
    (q : ∀ h', Heap.SameBut l h h' → At h' l (.lst ys) → Q () h') : W c A (setItem (.ref l) (.ref sl) (.ref r)) Q h := fun d tk => by
  obtain ⟨n, ho⟩ := hl
  obtain ⟨os, hos, hcs, hds⟩ := hs
  obtain ⟨orr, hor, hcr, nr, hdr⟩ := hr
  have hl' : (Shared.mk h c.g d (tk + 1) c.o).TypeIs (.ref l) "list" := ⟨_, ho, rfl⟩
  have hTs : (Shared.mk h c.g d (tk + 1) c.o).TypeIs (.ref sl) "slice" := ⟨os, hos, hcs⟩
  unfold setItem
  refine wpAny_holding ?_
  refine wpAny_bind (wpAny_sequenceKey hl' (by decide) ?_)
  refine wpAny_bind (wpAny_callSpecial?_slot (name := Str.ofString "__setitem__") hl' slot_list_setitem
    (wpAny_call_entry slot_list_setitem hl' entry_list_setitem ?_ (args_list_setitem _ _ _)))
  show wpAny _ _ (Builtin.List.listSubscript? (.ref sl) >>= _) _ _ _
  refine wpAny_bind ?_
  unfold Builtin.List.listSubscript?
  refine wpAny_bind (wpAny_specialOf hTs slice_no_index ?_)
  simp only [Option.isNone_none, if_true]
  refine wpAny_pure ?_
  show wpAny _ _ (typeOf (.ref sl) >>= _) _ _ _
  refine wpAny_bind (wpAny_typeOf hTs ?_)
  rw [if_neg (by decide)]
  rw [listSliceParts_eq]
  refine wpAny_bind (wpAny_bind (wpAny_field hos hds (x := .none) rfl (wpAny_bind (wpAny_listPart .none ?_))))
  rw [if_neg (by decide)]
  refine wpAny_bind (wpAny_field hos hds (x := .none) rfl (wpAny_bind (wpAny_listPart .none ?_)))
  refine wpAny_bind (wpAny_field hos hds (x := .none) rfl (wpAny_bind (wpAny_listPart .none (wpAny_pure ?_))))
  have hne : Builtin.List.listSameRef (.ref l) (.ref r) = false := by
    show (l == r) = false
    simpa using fun e => ne e.symm
  rw [hne]
  have hTr : (Shared.mk h c.g d (tk + 1) c.o).TypeIs (.ref r) "list" := ⟨orr, hor, hcr⟩
  show wpAny _ _ (Builtin.List.listAllItems (.ref r) "must assign iterable to extended slice" >>= _) _ _ _
  refine wpAny_bind ?_
  unfold Builtin.List.listAllItems
  refine wpAny_bind (wpAny_typeOf hTr ?_)
  rw [if_pos (by decide)]
  unfold Builtin.List.listItems
  refine wpAny_bind (wpAny_seqItems hor hdr (wpAny_pure ?_))
  refine wpAny_bind (wpAny_bind (wpAny_seqItems ho rfl (wpAny_pure ?_)))
  refine wpAny_bind (wpAny_of_eq (sliceIndices_raw none none none xs.toArray.size (by simp)) ?_)
  have eb : sliceBounds none none none xs.toArray.size = (0, (xs.length : Int), 1) := by simp [sliceBounds]
  rw [eb]
  refine wpAny_bind (wpAny_rule ?_)
  rw [if_neg (by show ¬ (decide (xs.toArray.size + ys.toArray.size > sizeLine) = true); rw [sizeLine_eq]; simp; omega)]
  have ef : (fun zs : Array Value => zs.extract 0 (0 : Int).toNat ++ ys.toArray ++ zs.extract (max (0 : Int) (xs.length : Int)).toNat zs.size) xs.toArray = ys.toArray := by
    simp [Int.max_def]
  refine wpAny_bind (wpAny_updateSeq ho rfl ?_ (by rw [sizeLine_eq]; simp; omega) (by rw [sizeLine_eq]; show ((fun zs : Array Value => zs.extract 0 (0 : Int).toNat ++ ys.toArray ++ zs.extract (max (0 : Int) (xs.length : Int)).toNat zs.size) xs.toArray).size ≤ _; rw [ef]; simp; omega))
  refine wpAny_bind (wpAny_letGo (wpAny_pure ⟨_, rfl, ?_⟩))
  refine wpAny_pure ⟨_, d, _, rfl, q _ (Heap.SameBut.update ..) ⟨_, Heap.get?_update_self _ ho rfl, ?_⟩⟩
  refine ⟨_, congrArg (fun a : Array Value => ({ cls := .type "list", data := .seq a _ } : Obj)) ef⟩
end
end Mine
end

section
open PySem PySem.W PyProof.Rows PySem.Calls PySem.Builtin.Re
set_option Elab.async false
set_option linter.unusedVariables false
set_option linter.unusedSimpArgs false
namespace Mine
section
variable {c : Cx} {A : Around} {h : Heap} {env : Env} {C x d : Addr} {m : Str → Option Value}
theorem E_debug {pos : Pos} {Q : Value → Heap → Prop} (q : Q (.bool true) h) : W c A (eval (.Name (Str.ofString "__debug__") pos) env) Q h := fun dr tk => by
  rw [arm_eval_Name]
  refine wpAny_bind (wpAny_standAt ?_)
  rw [if_pos (by decide +kernel)]
  unfold debugConstant
  exact wpAny_bind (wpAny_rule (wpAny_pure ⟨h, dr, _, rfl, q⟩))
theorem F_typel {l : Addr} {xs : Array Value} {Q : Value → Heap → Prop} (hl : h.IsList l xs) (q : Q (.type "list") h) : W c A (call (.type "type") [.ref l]) Q h := fun dr tk =>
  call_type_of (Tx := "list") (Heap.IsList.typeIs (s := ⟨h, c.g, dr, tk + 1, c.o⟩) hl) (by decide +kernel) ⟨h, dr, _, rfl, q⟩
theorem F_types {s : Str} {t : Tok} {Q : Value → Heap → Prop} (q : Q (.type "str") h) : W c A (call (.type "type") [.str s t]) Q h := fun dr tk =>
  call_type_of (Tx := "str") rfl (by decide +kernel) ⟨h, dr, _, rfl, q⟩
theorem plainAttrs_pat : PlainAttrs "re.Pattern" :=
  ⟨⟨"object.__getattribute__", by rw [typeLookup_type, builtinLookup_eq_fast]; kernel_rfl, by decide +kernel⟩, by rw [typeLookup_type, builtinLookup_eq_fast]; kernel_rfl⟩
theorem M_search {p : Addr} {o : Obj} {pl : Sem Bool} {Q : Value × List Value → Heap → Prop} (ho : h.get? p = some o) (hc : o.cls = .type "re.Pattern") (hd : o.dict = none) (q : Q (.builtin "re.Pattern.search", [.ref p]) h) : W c A (getMethod (.ref p) (Str.ofString "search") pl) Q h := fun dr tk =>
  getMethod_builtin ⟨o, ho, hc⟩ plainAttrs_pat slot_search type_search (fun a e => by cases e; exact ⟨_, ho, hd⟩) ⟨h, dr, _, rfl, q⟩
theorem D_set {f : Addr} {i v : Value} {Q : Unit → Heap → Prop} (ok : Ok c h) (I : Inst h C x d m) (hq : noSeq c.K C = true) (hs : findIn c.K (.ref C) "__setitem__" = some (some (.ref f))) (hf : isFn c.K (.ref f) = true)
    (k : W c A (call (.ref f) [.ref x, i, v]) (fun _ => Q ()) h) : W c A (setItem (.ref x) i v) Q h := fun dr tk => by
  obtain ⟨o, I, l⟩ := I.is
  unfold setItem sequenceKey
  refine wpAny_holding (wpAny_bind (wpAny_bind (I.type.here ?_)))
  refine wpAny_bind ((anyM_none ok.kin hq).here ?_)
  rw [if_pos (show (!false) = true from rfl)]
  exact wpAny_pure (wpAny_bind (special_fn ok.kin I hs (beq_iff_eq.mp hf) (W_any k fun _ h' d' tk' q => wpAny_pure ⟨h', d', _, rfl, q⟩)))
theorem D_del {f : Addr} {i : Value} {Q : Unit → Heap → Prop} (ok : Ok c h) (I : Inst h C x d m) (hq : noSeq c.K C = true) (hs : findIn c.K (.ref C) "__delitem__" = some (some (.ref f))) (hf : isFn c.K (.ref f) = true)
    (k : W c A (call (.ref f) [.ref x, i]) (fun _ => Q ()) h) : W c A (delItem (.ref x) i) Q h := fun dr tk => by
  obtain ⟨o, I, l⟩ := I.is
  unfold delItem sequenceKey
  refine wpAny_holding (wpAny_bind (wpAny_bind (I.type.here ?_)))
  refine wpAny_bind ((anyM_none ok.kin hq).here ?_)
  rw [if_pos (show (!false) = true from rfl)]
  exact wpAny_pure (wpAny_bind (special_fn ok.kin I hs (beq_iff_eq.mp hf) (W_any k fun _ h' d' tk' q => wpAny_pure ⟨h', d', _, rfl, q⟩)))
end
end Mine
namespace Mine
def patOk (K : Frag) (p : Addr) (code : Array Nat) : Bool := match K.lookup p with
  | some ⟨.type n, none, .fields a, _⟩ => n == "re.Pattern" && (match a.toList with
    | [_, _, .int i t, _, _, .ref ct, .int j u] => i == 0 && t == 0 && j == 0 && u == 0 && (match K.lookup ct with
      | some ⟨_, _, .seq items _, _⟩ => (items.map reRawOf).map (·.toNat) == code
      | _ => false)
    | _ => false)
  | _ => false
theorem pat_of {K : Frag} {p : Addr} {code : Array Nat} (e : patOk K p code = true) {h : Heap} (X : K.In h) : Pat h p code ∧ ∃ o, h.get? p = some o ∧ o.cls = .type "re.Pattern" ∧ o.dict = none := by
  unfold patOk at e
  split at e
  · rename_i n a s hp
    obtain ⟨e1, e2⟩ := Bool.and_eq_true_iff.mp e
    have en : n = "re.Pattern" := by simpa using e1
    subst en
    split at e2
    · rename_i f0 f1 i t f3 f4 ct j u ha
      simp only [Bool.and_eq_true, beq_iff_eq] at e2
      obtain ⟨⟨⟨⟨rfl, rfl⟩, rfl⟩, rfl⟩, e2⟩ := e2
      split at e2
      · rename_i cc dd items n ss hct
        have ea : a = #[f0, f1, .int 0 0, f3, f4, .ref ct, .int 0 0] := by rw [← Array.toArray_toList (xs := a), ha]
        subst ea
        exact ⟨⟨_, f0, f1, f3, f4, ct, _, items, n, X _ _ hp, rfl, rfl, X _ _ hct, rfl, by simpa using e2⟩, _, X _ _ hp, rfl, rfl⟩
      · cases e2
    · cases e2
  · cases e
section
variable {c : Cx} {A : Around} {h : Heap} {env : Env}
theorem B_none {Q : Bool → Heap → Prop} (q : Q false h) : W c A (truthy .none) Q h := fun d tk => truthy_none ⟨h, d, _, rfl, q⟩
end
end Mine
namespace Mine
namespace St
variable {c : Cx} {hb h h' : Heap} {V : List Addr} {env : Env} {a : Addr} {ns : List Str} {vs : List (Option Value)} {D : List (Addr × Ob)} {P : Heap → Prop}
/-- an object that stood before the call is taken into the ledger -/
theorem adopt (S : St c hb V h env ns vs D P) {b : Ob} (g0 : hb.get? a ≠ none) (g : At h a b) (lo : c.h0.get? a = none) (nD : ∀ p ∈ D, p.1 ≠ a) : St c hb (a :: V) h env ns vs (D ++ [(a, b)]) P :=
  { S with
    eff := S.eff.mono fun _ m => List.mem_cons_of_mem _ m
    led := fun p m => by
      rcases List.mem_append.mp m with m | m
      · exact S.led p m
      · rw [List.mem_singleton.mp m]; exact g
    ap := by
      rw [List.map_append, ← List.cons_append, List.nodup_append]
      refine ⟨S.ap, by simp, fun x hx y hy => ?_⟩
      simp only [List.map_cons, List.map_nil, List.mem_singleton] at hy
      subst hy
      intro q
      subst q
      rcases List.mem_cons.mp hx with q | q
      · exact g0 (q ▸ S.newL)
      · obtain ⟨p, hp, e⟩ := List.mem_map.mp q
        exact nD p hp e
    newD := fun p m => by
      rcases List.mem_append.mp m with m | m
      · exact ⟨(S.newD p m).1, (S.newD p m).2.imp id fun q => List.mem_cons_of_mem _ q⟩
      · rw [List.mem_singleton.mp m]; exact ⟨lo, .inr (by simp)⟩ }
end St
end Mine
namespace Mine
section
variable {ns : List Str} {vs : List (Option Value)} {x y z : Str} {a b e : Option Value} {env : Env}
theorem fv0 : ∀ (j : Nat) (u : Str) (v : Value), ([] : List Str)[j]? = some u → ([] : List (Option Value))[j]? = some (some v) → ∃ i : Nat, ns[i]? = some u ∧ vs[i]? = some (some v) := fun j u v h1 _ => by cases h1
theorem fv1 (i : Nat) (h1 : ns[i]? = some x) (h2 : vs[i]? = some a) : ∀ (j : Nat) (u : Str) (v : Value), [x][j]? = some u → [a][j]? = some (some v) → ∃ i : Nat, ns[i]? = some u ∧ vs[i]? = some (some v)
  | 0, u, v, e1, e2 => by cases e1; cases e2; exact ⟨i, h1, h2⟩
  | j + 1, u, v, e1, _ => by cases e1
theorem fv2 (i k : Nat) (h1 : ns[i]? = some x) (h2 : vs[i]? = some a) (h3 : ns[k]? = some y) (h4 : vs[k]? = some b) : ∀ (j : Nat) (u : Str) (v : Value), [x, y][j]? = some u → [a, b][j]? = some (some v) → ∃ i : Nat, ns[i]? = some u ∧ vs[i]? = some (some v)
  | 0, u, v, e1, e2 => by cases e1; cases e2; exact ⟨i, h1, h2⟩
  | 1, u, v, e1, e2 => by cases e1; cases e2; exact ⟨k, h3, h4⟩
  | j + 2, u, v, e1, _ => by cases e1
theorem fv3 (i k m : Nat) (h1 : ns[i]? = some x) (h2 : vs[i]? = some a) (h3 : ns[k]? = some y) (h4 : vs[k]? = some b) (h5 : ns[m]? = some z) (h6 : vs[m]? = some e) : ∀ (j : Nat) (u : Str) (v : Value), [x, y, z][j]? = some u → [a, b, e][j]? = some (some v) → ∃ i : Nat, ns[i]? = some u ∧ vs[i]? = some (some v)
  | 0, u, v, e1, e2 => by cases e1; cases e2; exact ⟨i, h1, h2⟩
  | 1, u, v, e1, e2 => by cases e1; cases e2; exact ⟨k, h3, h4⟩
  | 2, u, v, e1, e2 => by cases e1; cases e2; exact ⟨m, h5, h6⟩
  | j + 3, u, v, e1, _ => by cases e1
theorem all0 {p : Str → Prop} : ∀ u ∈ ([] : List Str), p u := fun _ m => nomatch m
theorem all1 {p : Str → Prop} (h1 : p x) : ∀ u ∈ [x], p u := fun u m => by rw [List.mem_singleton.mp m]; exact h1
theorem all2 {p : Str → Prop} (h1 : p x) (h2 : p y) : ∀ u ∈ [x, y], p u := fun u m => by
  rcases List.mem_cons.mp m with rfl | m
  · exact h1
  · rw [List.mem_singleton.mp m]; exact h2
theorem all3 {p : Str → Prop} (h1 : p x) (h2 : p y) (h3 : p z) : ∀ u ∈ [x, y, z], p u := fun u m => by
  rcases List.mem_cons.mp m with rfl | m
  · exact h1
  · exact all2 h2 h3 u m
end
end Mine
namespace Mine
def low (x : List Nat) : List Nat := x.map lo1
def upp (x : List Nat) : List Nat := x.map up1
theorem ifd {p X Y : Prop} [Decidable p] (x : p → X) (y : ¬ p → Y) : if decide p = true then X else Y := by
  by_cases h : p
  · rw [if_pos (decide_eq_true h)]; exact x h
  · rw [if_neg fun e => h (of_decide_eq_true e)]; exact y h
end Mine
namespace Mine
section
variable {c : Cx} {A : Around} {h : Heap} {env : Env}
theorem E_lower {o : Expr} {apos pos : Pos} {pl : Sem Bool} {Q : Value → Heap → Prop}
    (k : W c A (eval o env) (fun v h1 => ∃ x t, v = .str (T x) t ∧ Asc x ∧ x.length ≤ 1000000 ∧ Ok c h1 ∧ ∀ t', Q (.str (T (low x)) t') h1) h)
    (he : eval (.Call (.Attribute o (Str.ofString "lower") apos) [] [] pos) env = (do
      let ov ← eval o env
      standAt apos.atName
      let (f, first) ← holding [ov] (getMethod ov (Str.ofString "lower") pl)
      callWith pos f first (backTo pos (starEach [] env)) (backToKw pos (keywordEach [] env))) := by rfl) :
    W c A (eval (.Call (.Attribute o (Str.ofString "lower") apos) [] [] pos) env) Q h := by
  refine E_meth (pl := pl) (W_mono k ?_) he
  rintro v h1 ⟨x, t, rfl, ha, hs, ok, q⟩
  with_reducible refine M_lower ?_
  exact K_pos (env := env) (args := []) (.inr (.inr ⟨_, rfl⟩)) (A_nil ⟨ok, F_lower ha hs fun t' => q t'⟩)
theorem E_upper {o : Expr} {apos pos : Pos} {pl : Sem Bool} {Q : Value → Heap → Prop}
    (k : W c A (eval o env) (fun v h1 => ∃ x t, v = .str (T x) t ∧ Asc x ∧ x.length ≤ 1000000 ∧ Ok c h1 ∧ ∀ t', Q (.str (T (upp x)) t') h1) h)
    (he : eval (.Call (.Attribute o (Str.ofString "upper") apos) [] [] pos) env = (do
      let ov ← eval o env
      standAt apos.atName
      let (f, first) ← holding [ov] (getMethod ov (Str.ofString "upper") pl)
      callWith pos f first (backTo pos (starEach [] env)) (backToKw pos (keywordEach [] env))) := by rfl) :
    W c A (eval (.Call (.Attribute o (Str.ofString "upper") apos) [] [] pos) env) Q h := by
  refine E_meth (pl := pl) (W_mono k ?_) he
  rintro v h1 ⟨x, t, rfl, ha, hs, ok, q⟩
  with_reducible refine M_upper ?_
  exact K_pos (env := env) (args := []) (.inr (.inr ⟨_, rfl⟩)) (A_nil ⟨ok, F_upper ha hs fun t' => q t'⟩)
end
end Mine
namespace Mine
section
variable {c : Cx} {A : Around} {h : Heap} {env : Env}
theorem K_kw1 {pos : Pos} {f : Value} {first : List Value} {args : List Expr} {name : Str} {e : Expr} {kpos : Pos} {Q : Value → Heap → Prop} (kept : Kept c f)
    (k : W c A (spliced (backTo pos (starEach args env))) (fun vs h1 => W c A (eval e env) (fun kv h2 => Ok c h2 ∧ W c A (call f (first ++ vs) [(name, kv)]) Q h2) h1) h)
    (hp : (backTo pos (starEach args env)).any (·.1) = false := by rfl) :
    W c A (callWith pos f first (backTo pos (starEach args env)) (backToKw pos (keywordEach [⟨some name, e, kpos⟩] env))) Q h := by
  refine K_with kept (W_mono k fun vs h1 q => ?_) hp
  refine evalAll_cons ?_
  show W c A (do let v ← eval e env; standAt pos; pure v) _ _
  intro d tk
  refine wpAny_bind (W_any q fun kv h2 d2 tk2 q => wpAny_bind (wpAny_standAt (wpAny_pure ⟨h2, d2, _, rfl, ?_⟩)))
  exact evalAll_nil q
end
end Mine
end

section
open PySem PySem.W PyProof.Rows PySem.Calls PySem.Builtin.Re PySem.SeqAt PySem.SeqRoads2
set_option Elab.async false
set_option linter.unusedVariables false
set_option linter.unusedSimpArgs false
namespace Mine
section
variable {c : Cx} {A : Around} {h : Heap} {env : Env}
theorem E_append {o e : Expr} {apos pos : Pos} {pl : Sem Bool} {Q : Value → Heap → Prop}
    (k : W c A (eval o env) (fun ov h1 => ∃ l, ov = .ref l ∧ (∃ xs : List Value, h1.PlainList l xs.toArray) ∧ W c A (eval e env) (fun v h2 => Ok c h2 ∧ ∃ xs : List Value, h2.PlainList l xs.toArray ∧ xs.length ≤ 1000000 ∧ ∀ h', Heap.SameBut l h2 h' → At h' l (.lst (xs ++ [v])) → Q .none h') h1) h)
    (he : eval (.Call (.Attribute o (Str.ofString "append") apos) [e] [] pos) env = (do
      let ov ← eval o env
      standAt apos.atName
      let (f, first) ← holding [ov] (getMethod ov (Str.ofString "append") pl)
      callWith pos f first (backTo pos (starEach [e] env)) (backToKw pos (keywordEach [] env))) := by rfl)
    (hs : starEach (e :: []) env = (false, eval e env) :: starEach [] env := by rfl) :
    W c A (eval (.Call (.Attribute o (Str.ofString "append") apos) [e] [] pos) env) Q h := by
  refine E_meth (pl := pl) (W_mono k ?_) he
  rintro ov h1 ⟨l, rfl, ⟨xs, hp⟩, q⟩
  with_reducible refine M_append hp ?_
  refine K_pos (env := env) (args := [e]) (.inr (.inr ⟨_, rfl⟩)) (A_cons (W_mono q ?_) hs) (by rw [hs]; rfl)
  rintro v h2 ⟨ok, xs, hp, hz, q⟩
  exact A_nil ⟨ok, F_append hp (by rw [sizeLine_eq]; omega) q⟩
end
end Mine
namespace Mine
/-! ## equality of lists -/
def EqR {α : Type} [DecidableEq α] (c : Cx) (A : Around) (h : Heap) (R : Value → α → Prop) : Prop := ∀ v w x y, R v x → R w y → ∀ d tk, EqAt A ⟨h, c.g, d, tk + 1, c.o⟩ v w (decide (x = y))
def Strv (v : Value) (y : List Nat) : Prop := ∃ t, v = .str (T y) t
def Natv (v : Value) (n : Nat) : Prop := ∃ t, v = .int (n : Int) t
def Intv (v : Value) (n : Int) : Prop := ∃ t, v = .int n t
def Boolv (v : Value) (b : Bool) : Prop := v = .bool b
section
variable {c : Cx} {A : Around} {h : Heap}
theorem eqr_str : EqR c A h Strv := fun v w x y ⟨t, e1⟩ ⟨u, e2⟩ d tk => by
  subst e1; subst e2
  have := (SeqRoads2.EqGives.str (T x) (T y) t u).at A ⟨h, c.g, d, tk + 1, c.o⟩
  rwa [show ((T x).cps.toList == (T y).cps.toList) = decide (x = y) by rw [Bool.eq_iff_iff]; simp [T]] at this
theorem eqr_nat : EqR c A h Natv := fun v w x y ⟨t, e1⟩ ⟨u, e2⟩ d tk => by
  subst e1; subst e2
  have := (MeetsSeq.EqGives.int (x : Int) (y : Int) t u).at A ⟨h, c.g, d, tk + 1, c.o⟩
  rwa [show ((x : Int) == (y : Int)) = decide (x = y) by rw [Bool.eq_iff_iff]; simp <;> omega] at this
theorem all_eq {α : Type} [DecidableEq α] : ∀ (xs ys : List α), xs.length = ys.length → ∀ e : Nat → Bool, (∀ (j : Nat) (x y : α), xs[j]? = some x → ys[j]? = some y → e j = decide (x = y)) → (List.range xs.length).all e = decide (xs = ys)
  | [], [], _, _, _ => by simp
  | x :: xs, y :: ys, hl, e, he => by
    rw [List.length_cons, List.range_succ_eq_map, List.all_cons, List.all_map, all_eq xs ys (by simpa using hl) (e ∘ Nat.succ) (fun j a b ha hb => he (j + 1) a b ha hb), he 0 x y rfl rfl]
    rw [Bool.eq_iff_iff]; simp
theorem C_eql {α : Type} [DecidableEq α] {R : Value → α → Prop} {l b : Addr} {vs ws : List Value} {xs ys : List α} (er : EqR c A.in1 h R) (hu : A.units < cLine) (hl : h.IsList l vs.toArray) (hb : h.IsList b ws.toArray) (p : Paired R vs xs) (q : Paired R ws ys)
    {Q : Value → Heap → Prop} (k : Q (.bool (decide (xs = ys))) h) : W c A (compareOp .Eq (.ref l) (.ref b)) Q h := fun d tk => by
  have lx := P_len p; have ly := P_len q
  by_cases hsz : vs.length = ws.length
  · refine eq_listAt (e := fun j => match xs[j]?, ys[j]? with | some x, some y => decide (x = y) | _, _ => false) hl hb (by simpa using hsz) hu (fun j h1 h2 => ?_) ⟨h, d, _, rfl, ?_⟩
    · have h1 : j < vs.length := by simpa using h1
      have h2 : j < ws.length := by simpa using h2
      obtain ⟨x, ex, rx⟩ := P_get p j vs[j] (List.getElem?_eq_getElem h1)
      obtain ⟨y, ey, ry⟩ := P_get q j ws[j] (List.getElem?_eq_getElem h2)
      rw [ex, ey]
      exact er _ _ _ _ rx ry d tk
    · have := all_eq xs ys (by omega) (fun j => match xs[j]?, ys[j]? with | some x, some y => decide (x = y) | _, _ => false) (fun j x y ex ey => by rw [ex, ey])
      rw [List.size_toArray, lx, this]; exact k
  · refine eq_list_lengthsAt hl hb (by simpa using hsz) hu ⟨h, d, _, rfl, ?_⟩
    rwa [show decide (xs = ys) = false by simp; intro e; subst e; omega] at k
theorem C_nel {α : Type} [DecidableEq α] {R : Value → α → Prop} {l b : Addr} {vs ws : List Value} {xs ys : List α} (er : EqR c A.in1 h R) (hu : A.units < cLine) (hl : h.IsList l vs.toArray) (hb : h.IsList b ws.toArray) (p : Paired R vs xs) (q : Paired R ws ys)
    {Q : Value → Heap → Prop} (k : Q (.bool (decide (xs ≠ ys))) h) : W c A (compareOp .NotEq (.ref l) (.ref b)) Q h := fun d tk => by
  have lx := P_len p; have ly := P_len q
  by_cases hsz : vs.length = ws.length
  · refine RcNeAt.lists (e := fun j => match xs[j]?, ys[j]? with | some x, some y => decide (x = y) | _, _ => false) (s := ⟨h, c.g, d, tk + 1, c.o⟩) hl hb (by simpa using hsz) hu (fun j h1 h2 => ?_) c.prog c.w _ _ ⟨h, d, _, rfl, ?_⟩
    · have h1 : j < vs.length := by simpa using h1
      have h2 : j < ws.length := by simpa using h2
      obtain ⟨x, ex, rx⟩ := P_get p j vs[j] (List.getElem?_eq_getElem h1)
      obtain ⟨y, ey, ry⟩ := P_get q j ws[j] (List.getElem?_eq_getElem h2)
      rw [ex, ey]
      exact er _ _ _ _ rx ry d tk
    · have := all_eq xs ys (by omega) (fun j => match xs[j]?, ys[j]? with | some x, some y => decide (x = y) | _, _ => false) (fun j x y ex ey => by rw [ex, ey])
      rw [List.size_toArray, lx, this, ← decide_not]; exact k
  · refine RcNeAt.lists_lengths (s := ⟨h, c.g, d, tk + 1, c.o⟩) hl hb (by simpa using hsz) hu c.prog c.w _ _ ⟨h, d, _, rfl, ?_⟩
    rwa [show decide (xs ≠ ys) = true by simp; intro e; subst e; omega] at k
/-! ## whole numbers -/
variable {a b : Int} {t u : Tok}
theorem OI_add {Q : Value → Heap → Prop} (q : ∀ t, Q (.int (a + b) t) h) : W c A (binaryOp .Add (.int a t) (.int b u)) Q h := fun d tk => P.add_int ⟨h, d, _, rfl, q _⟩
theorem OI_mul75 {Q : Value → Heap → Prop} (ha : 0 ≤ a ∧ a < 2 ^ 64) (q : ∀ t, Q (.int (a * b) t) h) : W c A (binaryOp .Mult (.int a t) (.int b u)) Q h :=
  fun d tk => P.mul_int ⟨h, d, _, rfl, q _⟩ (IntMulOk.of_left (intBits_le_64 (by omega) (by omega)))
theorem OI_mod {n : Nat} {Q : Value → Heap → Prop} (hn : 0 < n) (q : ∀ (r : Nat) t, r < n → Q (.int (r : Int) t) h) : W c A (binaryOp .Mod (.int a t) (.int (n : Int) u)) Q h :=
  fun d tk => mod_int' (by omega) ⟨h, d, _, rfl, by
    have h1 : 0 ≤ Int.fmod a n := Int.fmod_nonneg_of_pos _ (by omega)
    have h2 : Int.fmod a n < n := Int.fmod_lt_of_pos _ (by omega)
    obtain ⟨r, hr⟩ := Int.eq_ofNat_of_zero_le h1
    rw [hr]
    exact q r _ (by omega)⟩
end
end Mine
end

section
open PySem PySem.W PyProof.Rows PySem.Calls
set_option Elab.async false
set_option linter.unusedVariables false
set_option linter.unusedSimpArgs false
namespace Mine
section
variable {c : Cx} {A : Around} {h : Heap}
/-- a def is called -/
theorem CW_defG {F : List Value → Heap → Prop} {fa : Addr} {fd : FuncData} {body : List Stmt} {args : Args} {params rest : List Str} {R : Flow → Heap → Prop} {o : Obj}
    (rm : Rm A 1) (ok : Ok c h) (hf : c.K.lookup fa = some o) (hd : o.data = .func fd) (hcd : codeIn c.K fd.code fd.qualname = true) (hbody : fd.body = .stmts body)
    (hbind : W c A.in1 (bindArgs fd args) (fun binds h' => ∃ vals : List Value, binds = params.zip vals ∧ params.length = vals.length ∧ Ok c h' ∧ F vals h') h)
    (fok : frameOk fd.scope (params ++ rest) = true)
    (k : ∀ vals h0 h1, F vals h0 → St c h0 [] h1 (callEnvC fd h0.objs.size fa) (params ++ rest) (vals.map some ++ rest.map fun _ => none) [] (fun _ => True) →
      W c (A.deeper (callEnvC fd h0.objs.size fa)) (execs body (callEnvC fd h0.objs.size fa)) (fun f h' => R (.ret (match f with | .ret v => v | _ => .none)) h') h1)
    (hco : fd.scope.isCoroutine = false := by rfl) (hgen : fd.scope.isGenerator = false := by rfl) (hclo : fd.closure = [] := by rfl) :
    CW c A (.call (.ref fa) args) R h := fun d tk => by
  have fok' := fok
  unfold frameOk at fok'
  simp only [Bool.and_eq_true, List.all_eq_true, decide_eq_true_eq, Bool.or_eq_true, beq_iff_eq, bne_iff_ne] at fok'
  obtain ⟨⟨hk, nd⟩, hn⟩ := fok'
  refine codeAny_call_function rm.depth (ok.kin _ _ hf) hd hco hgen hbody (codeRec_of ok.kin hcd) (W_any hbind fun binds h d tk ⟨vals, eb, hlen, ok, ff⟩ => ?_)
  subst eb
  have hz : (params.zip vals).map (·.1) = params := List.map_fst_zip (by omega)
  have mz : ∀ x ∈ params.zip vals, x.1 ∈ params := fun x m => by rw [← hz]; exact List.mem_map_of_mem m
  rw [hclo]
  refine with_toks (wpAny_newFunctionEnv_cells hk (fun x m => ?_) fun env he s' x hto => ?_)
  · rcases (hn x.1 (List.mem_append_left _ (mz x m))).1.1 with e | e
    · exact .inl e
    · exact .inr ⟨e, cellsFrom_some _ _ _ _ (.inl e)⟩
  · subst he
    obtain ⟨⟨⟨h', tk', e⟩, hns, keep, fresh⟩, cell, apart, above⟩ := x
    subst e
    obtain ⟨tk', rfl⟩ : ∃ m, tk' = m + 1 := ⟨tk' - 1, by have : tk + 1 ≤ tk' := hto; omega⟩
    refine ⟨ok.nolimit.keeps keep, codeAny_func ?_⟩
    have hE : Eff c [] h h' := .of_keep keep
    · have ndp : ((params.zip vals).map (·.1)).Nodup := by rw [hz]; exact (List.nodup_append.mp nd).1
      have got : ∀ (i : Nat) (x : Str) (v : Value), (params ++ rest)[i]? = some x → (vals.map some ++ rest.map fun _ => none)[i]? = some (some v) → (x, v) ∈ params.zip vals := fun i x v hx hv => by
        by_cases hi : i < params.length
        · rw [List.getElem?_append_left hi] at hx
          rw [List.getElem?_append_left (by rw [List.length_map]; omega)] at hv
          rw [List.getElem?_map] at hv
          have hv' : vals[i]? = some v := by
            cases e : vals[i]? with
            | none => rw [e] at hv; cases hv
            | some u => rw [e] at hv; cases hv; rfl
          exact List.mem_of_getElem? (List.getElem?_zip_eq_some.mpr ⟨hx, hv'⟩)
        · rw [List.getElem?_append_right (by rw [List.length_map]; omega), List.getElem?_map] at hv
          cases e : rest[i - (vals.map some).length]? with
          | none => rw [e] at hv; cases hv
          | some u => rw [e] at hv; cases hv
      refine W_any (k vals h h' ff ?_) fun f h2 d2 tk2 q => ⟨_, h2, d2, _, rfl, rfl, q⟩
      exact {
        fm := Fm_call fok
        loc := ⟨_, hns, fun i x v hx hv => ⟨fun l => bindL_get l ndp (.inl (got i x v hx hv)), fun a l ha => by
          have hb : bindC (callEnvC fd h.objs.size fa).kindOf (params.zip vals) (fun _ => none) x = some v := bindC_get l ndp (.inl (got i x v hx hv))
          have hc : h'.IsCell a (bindC (callEnvC fd h.objs.size fa).kindOf (params.zip vals) (fun _ => none) x) := cell x a ha
          rwa [hb] at hc⟩⟩
        cel := fun x m l a ha => ⟨_, cell x a ha⟩
        led := fun p m => nomatch m
        ap := by simp
        eff := hE
        newL := get_ge fresh
        newD := fun p m => nomatch m
        ok := ok
        perm := fun _ _ _ _ _ => trivial
        p := trivial }
end
end Mine
end

section
open PySem PySem.W PyProof.Rows PySem.Calls
set_option Elab.async false
set_option linter.unusedVariables false
set_option linter.unusedSimpArgs false
namespace Mine
/-! ## a dict of at most one name -/
abbrev Dk (c : Cx) (h : Heap) (d : Addr) (kvs : List (Str × Value)) (ep : Nat) : Prop := h.DictAt (PySem.strKind c.prog c.w) d kvs ep
section
variable {c : Cx} {A : Around} {h : Heap} {env : Env}
theorem Dk.empty {d : Addr} (g : h.get? d = some emptyDict) : Dk c h d [] 0 :=
  ⟨_, _, g, ⟨rfl, rfl, rfl⟩, rfl, fun _ m => by simp at m, .nil, by simp⟩
theorem W_nsSet1 {d : Addr} {name : Str} {v : Value} {Q : Unit → Heap → Prop} (h0 : h.get? d = some emptyDict) (q : ∀ h', Heap.SameBut d h h' → Dk c h' d [(name, v)] 1 → Q () h') : W c A (nsSet d name v) Q h := fun dr tk => by
  unfold nsSet
  refine wpAny_bind (wpAny_bind (wpAny_askSetting (wpAny_pure (wpAny_bind (wpAny_mkText (wpAny_bind (wpAny_loadPart h0 ?_)))))))
  dsimp only
  rw [aRefKeyMayBeTheName_at, show (!(#[] : Array DictEntry).any (fun x => x.key.isStr name) && (#[] : Array DictEntry).any (fun x => x.refKey)) = false by simp]
  refine wpAny_updatePart (show (Shared.mk h c.g dr (tk + 1 + 1) c.o).heap.get? d = some emptyDict from h0) ?_
  have e : Obj.putName name (PyData.keyHash c.w.params name) (.str name (tk + 1)) v emptyDict = { emptyDict with data := .dict #[⟨PyData.keyHash c.w.params name, .str name (tk + 1), v⟩] 1 } := rfl
  have g : (h.update d (Obj.putName name (PyData.keyHash c.w.params name) (.str name (tk + 1)) v)).get? d = some { emptyDict with data := .dict #[⟨PyData.keyHash c.w.params name, .str name (tk + 1), v⟩] 1 } := by
    rw [Heap.get?_update_self _ h0 (by rw [e]; rfl), e]
  refine ⟨_, dr, _, rfl, q _ (Heap.SameBut.update ..) ⟨_, _, g, ⟨rfl, rfl, rfl⟩, rfl, ?_, .cons ?_ rfl .nil, by simp⟩⟩
  · intro en m
    have : en = ⟨PyData.keyHash c.w.params name, .str name (tk + 1), v⟩ := by simpa using m
    subst this
    exact ⟨name, by simp [PySem.strKind, Value.isStrOf], rfl⟩
  · simp [PySem.strKind, Value.isStrOf]

theorem Dk.keep {h' : Heap} {d : Addr} {kvs : List (Str × Value)} {ep : Nat} (x : Dk c h d kvs ep) (k : ∀ o, h.get? d = some o → h'.get? d = some o) : Dk c h' d kvs ep := let ⟨o, es, g, r⟩ := x; ⟨o, es, k o g, r⟩
theorem Dk.eff {V : List Addr} {h' : Heap} {d : Addr} {kvs : List (Str × Value)} {ep : Nat} (x : Dk c h d kvs ep) (e : Eff c V h h') (n : d ∉ V) : Dk c h' d kvs ep := x.keep fun o g => e _ _ g (.inr (.inl n))
theorem Dk.of {d : Addr} {kvs : List (Str × Value)} {ep : Nat} (x : Dk c h d kvs ep) : h.DictOf (PySem.strKind c.prog c.w) d kvs := let ⟨o, es, r⟩ := x; ⟨o, es, ep, r⟩
theorem E_items {o : Expr} {apos pos : Pos} {pl : Sem Bool} {Q : Value → Heap → Prop}
    (k : W c A (eval o env) (fun v h1 => ∃ d kvs ep, v = .ref d ∧ Dk c h1 d kvs ep ∧ Ok c h1 ∧ (d == sysModules) = false ∧ ∀ w h', h1.get? w = none → Eff c [] h1 h' → h'.IsItemsView w d → Q (.ref w) h') h)
    (he : eval (.Call (.Attribute o (Str.ofString "items") apos) [] [] pos) env = (do
      let ov ← eval o env
      standAt apos.atName
      let (f, first) ← holding [ov] (getMethod ov (Str.ofString "items") pl)
      callWith pos f first (backTo pos (starEach [] env)) (backToKw pos (keywordEach [] env))) := by rfl) :
    W c A (eval (.Call (.Attribute o (Str.ofString "items") apos) [] [] pos) env) Q h := by
  refine E_meth (pl := pl) (W_mono k ?_) he
  rintro v h1 ⟨d, kvs, ep, rfl, dk, ok, hm, q⟩
  have hT : ∀ dr tk, (Shared.mk h1 c.g dr tk c.o).TypeIs (.ref d) "dict" := fun dr tk => let ⟨o, es, g, ex, _⟩ := dk; ⟨o, g, ex.1⟩
  have M : W c A (getMethod (.ref d) (Str.ofString "items") pl) (fun fx h2 => fx = (.builtin "dict.items", [.ref d]) ∧ h2 = h1) h1 := fun dr tk =>
    getMethod_builtin (hT dr (tk + 1)) PySem.F.plainAttrs_dict PySem.F.slot_dict_items PySem.F.type_dict_items (fun a e => by cases e; obtain ⟨o, es, g, ex, _⟩ := dk; exact ⟨o, g, ex.2.1⟩) ⟨h1, dr, _, rfl, rfl, rfl⟩
  refine W_mono M ?_
  rintro fx h2 ⟨rfl, rfl⟩
  refine K_pos (env := env) (args := []) (.inr (.inr ⟨_, rfl⟩)) (A_nil ⟨ok, fun dr tk => ?_⟩)
  exact call_meetsIn PySem.F.slot_dict_items (hT dr (tk + 1)) PySem.F.entry_dict_items (PySem.F.args_dict_items_1 _) (meets_dict_items (PySem.strKind c.prog c.w) d hm)
    ⟨⟨kvs, dk.of⟩, _, dr, _, rfl, q _ _ (get_size _) (.push _ _) ⟨_, Heap.get?_push_size _ rfl, rfl, rfl⟩⟩
end
section
variable {c : Cx} {A : Around} {hb h : Heap} {V : List Addr} {env : Env} {ns : List Str} {vs : List (Option Value)} {D : List (Addr × Ob)} {P : Heap → Prop}
def iterO (d : Addr) (i n ep : Nat) (ok ov : Value) : Obj := { cls := .type "dict_itemiterator", dict := none, data := .fields #[.none, .bool false, .ref d, .int i 0, .int n 0, .int ep 0, ok, ov], slots := #[] }
theorem iterO_nt (d : Addr) (i n ep : Nat) (ok ov : Value) : ¬ IsTupO (iterO d i n ep ok ov) ∧ ∀ v, (iterO d i n ep ok ov).data ≠ .cell v := ⟨fun t => absurd (show Value.type "dict_itemiterator" = Value.type "tuple" from t.1) (by decide), fun v e => by cases e⟩
theorem F_items0 {v d : Addr} {ep : Nat} {target body} {Q : Flow → Heap → Prop} (hh : A.handled = none) (S : St c hb V h env ns vs D P) (hv : h.IsItemsView v d) (dk : Dk c h d [] ep)
    (fin : ∀ h', St c hb V h' env ns vs D P → Q .next h') : W c A (pyIter (.ref v)) (fun it h2 => CW c A (.forLoop target it body [] env) Q h2) h := fun dr tk => by
  refine wpAny_pyIter_items hv dk ⟨_, dr, _, rfl, ?_⟩
  have S1 := S.enter (a := h.objs.size) (b := .raw (iterO d 0 0 ep .none .none)) (Eff.push _ _) (get_size _) ⟨_, Heap.get?_push_size _ rfl, rfl, iterO_nt _ _ _ _ _ _⟩
  refine CW_for (fun m h' => h' = h.push (iterO d 0 0 ep .none .none)) ?_ 0 rfl
  rintro m h1 rfl
  intro dr tk
  refine wpAny_pyNext_items_end (knd := PySem.strKind c.prog c.w) (i := 0) (kvs := []) (ok := .none) (ov := .none) hh (Heap.get?_push_size _ rfl) (dk.keep fun o g => Heap.get?_push_of_some _ g) rfl fun h2 x => ⟨h2, dr, _, rfl, ?_⟩
  exact fin h2 (S1.dropLast x)
theorem F_items1 {v d : Addr} {k : Str} {val : Value} {ep : Nat} {elts : List Expr} {x1 : Nat} {tp : Pos} {body} {Q : Flow → Heap → Prop} (hh : A.handled = none) (S : St c hb V h env ns vs D P) (hv : h.IsItemsView v d) (dk : Dk c h d [(k, val)] ep)
    (turn : ∀ tup it t h', Tup h' tup [.str k t, val] → St c hb V h' env ns vs (D ++ [(it, .raw (iterO d 1 1 ep (.str k t) val))]) P →
      W c A (assign (.Tuple elts x1 tp) env (.ref tup)) (fun _ h2 => W c A (execs body env) (fun f h3 => f = .next ∧ ∃ vs' D' P', St c hb V h3 env ns vs' (D' ++ [(it, .raw (iterO d 1 1 ep (.str k t) val))]) P' ∧ Dk c h3 d [(k, val)] ep ∧
        ∀ h', St c hb V h' env ns vs' D' P' → Q .next h') h2) h') : W c A (pyIter (.ref v)) (fun it h2 => CW c A (.forLoop (.Tuple elts x1 tp) it body [] env) Q h2) h := fun dr tk => by
  refine wpAny_pyIter_items hv dk ⟨_, dr, _, rfl, ?_⟩
  have S1 := S.enter (a := h.objs.size) (b := .raw (iterO d 0 1 ep .none .none)) (Eff.push _ _) (get_size _) ⟨_, Heap.get?_push_size _ rfl, rfl, iterO_nt _ _ _ _ _ _⟩
  refine CW_for (fun m h' => (m = 1 ∧ h' = h.push (iterO d 0 1 ep .none .none)) ∨ (m = 0 ∧ ∃ t vs' D' P', St c hb V h' env ns vs' (D' ++ [(h.objs.size, .raw (iterO d 1 1 ep (.str k t) val))]) P' ∧ Dk c h' d [(k, val)] ep ∧
        ∀ h', St c hb V h' env ns vs' D' P' → Q .next h')) ?_ 1 (.inl ⟨rfl, rfl⟩)
  rintro m h1 (⟨rfl, rfl⟩ | ⟨rfl, t, vs', D', P', S2, dk2, fin⟩)
  · intro dr tk
    have hit := Heap.get?_push_size h (o := iterO d 0 1 ep .none .none) rfl
    refine wpAny_pyNext_items_item (knd := PySem.strKind c.prog c.w) (i := 0) (kvs := [(k, val)]) (ok := .none) (ov := .none) hit (dk.keep fun o g => Heap.get?_push_of_some _ g) rfl fun key h2 hk io ht hz keep => ⟨h2, dr, _, rfl, ?_⟩
    obtain ⟨t, rfl⟩ := Value.isStrOf_shape hk
    have hE : Eff c [h.objs.size] (h.push (iterO d 0 1 ep .none .none)) h2 := fun a o g k => by
      by_cases q : a = h.objs.size
      · subst q
        rcases k with k | k | k
        · exact absurd (S.okh.none (get_size h)) k
        · exact absurd (List.mem_singleton.mpr rfl) k
        · rw [hit] at g; cases g; exact absurd k (iterO_nt _ _ _ _ _ _).1
      · exact keep a o q g
    intro dr tk
    refine wpAny_letOwnedTupleGo_items io fun h3 i3 s3 => ⟨h3, dr, _, rfl, ?_⟩
    have hE3 : Eff c [h.objs.size] h2 h3 := .of_same s3 (S.okh.none (get_size h)) fun o g => by rw [io] at g; cases g; exact fun t => absurd (show Value.type "dict_itemiterator" = Value.type "tuple" from t.1) (by decide)
    have S3 := S1.updLast (b' := .raw (iterO d 1 1 ep (.str k t) val)) (hE.trans hE3) ⟨_, i3, rfl, iterO_nt _ _ _ _ _ _⟩
    have ht3 : Tup h3 (h.push (iterO d 0 1 ep .none .none)).objs.size [.str k t, val] := Tup.eff (show Tup h2 _ _ from ht) hE3
    refine W_mono (turn _ _ t h3 ht3 S3) fun _ h4 q => W_mono q ?_
    rintro f h5 ⟨rfl, vs', D', P', S5, dk5, fin⟩
    exact ⟨0, by omega, .inr ⟨rfl, t, vs', D', P', S5, dk5, fin⟩⟩
  · intro dr tk
    obtain ⟨o, g, e, _⟩ := S2.atLast
    subst e
    exact wpAny_pyNext_items_end (knd := PySem.strKind c.prog c.w) (i := 1) (kvs := [(k, val)]) (ok := .str k t) (ov := val) hh g dk2 rfl fun h2 x => ⟨h2, dr, _, rfl, fin h2 (S2.dropLast x)⟩
end
end Mine
end

section
open PySem PySem.W PyProof.Rows PySem.Calls
set_option Elab.async false
set_option linter.unusedVariables false
set_option linter.unusedSimpArgs false
namespace Mine
section
variable {c : Cx} {A : Around} {h : Heap} {env : Env}
/-- o.replace(a, b) of written texts: the two are other objects, for their tokens differ -/
theorem E_replace {o : Expr} {a b : Str} {ka kb : Nat} {apos pos pa pb : Pos} {pl : Sem Bool} {Q : Value → Heap → Prop}
    (k : W c A (eval o env) (fun v h1 => ∃ x t, v = .str x t ∧ x.length ≤ 4095 ∧ b.length ≤ 4095 ∧ Ok c h1 ∧ ∀ t', Q (.str (Txt.replace x a b) t') h1) h)
    (he : eval (.Call (.Attribute o (Str.ofString "replace") apos) [.Constant (.str a) ka pa, .Constant (.str b) kb pb] [] pos) env = (do
      let ov ← eval o env
      standAt apos.atName
      let (f, first) ← holding [ov] (getMethod ov (Str.ofString "replace") pl)
      callWith pos f first (backTo pos (starEach [.Constant (.str a) ka pa, .Constant (.str b) kb pb] env)) (backToKw pos (keywordEach [] env))) := by rfl) (hab : (a == b) = false := by decide +kernel) :
    W c A (eval (.Call (.Attribute o (Str.ofString "replace") apos) [.Constant (.str a) ka pa, .Constant (.str b) kb pb] [] pos) env) Q h := by
  refine E_meth (pl := pl) (W_mono k ?_) he
  rintro v h1 ⟨x, t, rfl, hx, hb, ok, q⟩
  have M : W c A (getMethod (.str x t) (Str.ofString "replace") pl) (fun fx h2 => fx = (.builtin "str.replace", [.str x t]) ∧ h2 = h1) h1 := fun d tk => by
    with_reducible refine GM.replace ?_
    exact ⟨h1, d, _, rfl, rfl, rfl⟩
  with_reducible refine W_mono M ?_
  intro fx h2 e
  rw [e.1, e.2]
  intro d tk
  refine callWith_of (P := Ok c) (by rfl) (fun h ok => Kept.looks (.inr (.inr ⟨_, rfl⟩)) h ok) ?_
  refine evalArgs_kw (by rfl) ?_
  refine args_cons (wpAny_Constant_str (args_cons (wpAny_Constant_str (args_nil ?_))))
  refine wpAny_pure ⟨ok, ?_⟩
  refine SC.replace (Nat.succ_ne_zero _) (Nat.succ_ne_zero _) (Nat.ne_of_lt (Nat.lt_succ_self _)) hab ?_ (fun t' k => ⟨h1, d, k, rfl, q t'⟩)
  have := Nat.mul_le_mul (show x.length + 1 ≤ 4096 by omega) hb
  omega
end

/-! ## percent -/
set_option maxRecDepth 100000 in
set_option maxHeartbeats 4000000 in
theorem pct_row (b : Addr) (x y : Str) (tx ty t : Tok) (hx : x.length ≤ 1000000) (hy : y.length ≤ 1000000) : Meets (Builtin.«str.__mod__» ⟨[.str ⟨#[37,115,58,32,37,115]⟩ t, .ref b], []⟩) (fun _ R s => IsTup s.heap b #[.str x tx, .str y ty] ∧ ∀ t' k, R (.ok (.ret (.str (x ++ Str.ofString ": " ++ y) t'))) { s with toks := k }) := by
  kpt_run
set_option maxRecDepth 100000 in
set_option maxHeartbeats 4000000 in
theorem pct_prm (b : Addr) (x y : Str) (tx ty t : Tok) (hx : x.length ≤ 1000000) (hy : y.length ≤ 1000000) : ∃ TT, Meets (Builtin.«str.__mod__» ⟨[.str ⟨#[37,115,61,34,37,115,34]⟩ t, .ref b], []⟩) (fun _ R s => IsTup s.heap b #[.str x tx, .str y ty] ∧ ∀ t' k, R (.ok (.ret (.str TT t'))) { s with toks := k }) ∧ TT = x ++ Str.ofString "=\"" ++ y ++ Str.ofString "\"" := by
  refine ⟨_, ?_, rfl⟩
  kpt_run
section
variable {c : Cx} {A : Around} {h : Heap}
theorem O_pct {X TT : Str} {b : Addr} {vs : List Value} {t : Tok} {Q : Value → Heap → Prop} (ht : Tup h b vs) (hm : Meets (Builtin.«str.__mod__» ⟨[.str X t, .ref b], []⟩) (fun _ R s => IsTup s.heap b vs.toArray ∧ ∀ t' k, R (.ok (.ret (.str TT t'))) { s with toks := k }))
    (q : ∀ t', Q (.str TT t') h) : W c A (binaryOp .Mod (.str X t) (.ref b)) Q h := fun d tk => by
  have hT : (Shared.mk h c.g d (tk + 1) c.o).TypeIs (.ref b) "tuple" := ⟨_, ht, rfl⟩
  exact KPt.bin_left (T := "str") (U := "tuple") (op := .Mod) (by decide) (typeIs_str _ X t) hT PySem.F.fills_str_mod KPt.fills_tuple PySem.F.slot_str_mod
    (call_meets PySem.F.slot_str_mod (typeIs_str _ X t) PySem.F.entry_str_mod (PySem.F.args_str_mod_2 _ _) hm ⟨ht.is, fun t' k => ⟨(fun e => nomatch e), ⟨h, d, k, rfl, q t'⟩⟩⟩)
theorem O_pctrow {b : Addr} {x y : List Nat} {tx ty t : Tok} {Q : Value → Heap → Prop} (ht : Tup h b [.str (T x) tx, .str (T y) ty]) (hx : x.length ≤ 1000000) (hy : y.length ≤ 1000000) (q : ∀ t', Q (.str (T (x ++ [58, 32] ++ y)) t') h) :
    W c A (binaryOp .Mod (.str (T [37,115,58,32,37,115]) t) (.ref b)) Q h :=
  O_pct ht (pct_row b (T x) (T y) tx ty t (by rw [T_len]; omega) (by rw [T_len]; omega)) fun t' => by
    have e : T x ++ Str.ofString ": " ++ T y = T (x ++ [58, 32] ++ y) := by rw [show Str.ofString ": " = T [58, 32] by decide +kernel, T_app, T_app]
    rw [e]; exact q t'
theorem O_pctprm {b : Addr} {x y : List Nat} {tx ty t : Tok} {Q : Value → Heap → Prop} (ht : Tup h b [.str (T x) tx, .str (T y) ty]) (hx : x.length ≤ 1000000) (hy : y.length ≤ 1000000) (q : ∀ t', Q (.str (T (x ++ [61, 34] ++ y ++ [34])) t') h) :
    W c A (binaryOp .Mod (.str (T [37,115,61,34,37,115,34]) t) (.ref b)) Q h := by
  obtain ⟨TT, hm, e⟩ := pct_prm b (T x) (T y) tx ty t (by rw [T_len]; omega) (by rw [T_len]; omega)
  refine O_pct ht hm fun t' => ?_
  have e' : TT = T (x ++ [61, 34] ++ y ++ [34]) := by rw [e, show Str.ofString "=\"" = T [61, 34] by decide +kernel, show Str.ofString "\"" = T [34] by decide +kernel, T_app, T_app, T_app]
  rw [e']; exact q t'
end
end Mine
end

section
open PySem PySem.W PyProof.Rows PySem.Calls PySem.Builtin.Str
set_option Elab.async false
set_option linter.unusedVariables false
set_option linter.unusedSimpArgs false
namespace Mine
section
variable {c : Cx} {A : Around} {h : Heap} {C x d f : Addr} {m : Str → Option Value}
/-- str(x) of an own thing: its __str__ -/
theorem F_strown {Q : Value → Heap → Prop} (rm : Rm A 3) (ok : Ok c h) (i : Inst h C x d m) (hs : findIn c.K (.ref C) "__str__" = some (some (.ref f))) (hf : isFn c.K (.ref f) = true)
    (k : ∀ A', Rm A' 0 → (∀ n, Rm A (n + 2) → Rm A' n) → W c A' (call (.ref f) [.ref x]) (fun v h' => ∃ y t, v = .str y t ∧ Q v h') h) : W c A (call (.type "str") [.ref x]) Q h := fun dr tk => by
  obtain ⟨o, I, l⟩ := i.is
  refine callType_codes (Q₁ := fun obj s₁ => s₁.TypeIs obj "str" ∧ ∃ h' d' tk', s₁ = ⟨h', c.g, d', tk', c.o⟩ ∧ Q obj h') PySem.F.called_str (PySem.F.typeCall_str_1 _) PySem.F.entry_object_init ?_ fun obj s₁ h₁ =>
    ⟨h₁.1, PySem.F.args_object_init_2 obj _, object_init_meets PySem.F.called_str.init.lookup PySem.F.called_str.made (by decide) c.prog c.w A.in1 _ s₁ ⟨h₁.1, rfl, h₁.2⟩⟩
  refine codeAny_of_tree ?_
  show wpAny _ _ (do checkBuiltinCall "str.__new__" ⟨[.type "str", .ref x], []⟩; again (.builtin "str.__new__" ⟨[.type "str", .ref x], []⟩)) _ _ _
  refine wpAny_bind (wpAny_of_eq (PySem.F.newCall_str_1 _) (wpAny_pure ⟨plainId_quiet (by decide +kernel) _, codeAny_builtin PySem.F.entry_str_new ?_⟩))
  rw [Around.under_plainId (by decide +kernel) _, str_new_tree]
  refine wpAny_bind (wpAny_pure ?_)
  refine wpAny_bind (wpAny_of_eq isSubtype_str_str ?_)
  refine wpAny_bind ?_
  unfold PySem.Builtin.Str.strOf
  show wpAny _ _ (cRoomFor "str" [.ref x] >>= _) _ _ _
  refine wpAny_bind (wpAny_cRoomFor ?_ ?_)
  · have := rm.2.2; show A.units + 1 + 1 < _; omega
  refine wpAny_bind (m := callSpecial? (.ref x) (Str.ofString "__str__")) (special_fn ok.kin I hs (beq_iff_eq.mp hf) (W_any (k A.in1.in1 (rm.in1.in1.less (by omega)) fun n r => r.in1.in1) ?_))
  rintro v h' d' tk' ⟨y, t, rfl, q⟩
  refine wpAny_bind (wpAny_pure (wpAny_pure (wpAny_pure ?_)))
  exact ⟨typeIs_str _ _ _, h', d', _, rfl, q⟩
/-- bytes(x) of an own thing: its __bytes__ -/
theorem F_bytesown {Q : Value → Heap → Prop} (rm : Rm A 3) (ok : Ok c h) (i : Inst h C x d m) (hs : findIn c.K (.ref C) "__bytes__" = some (some (.ref f))) (hf : isFn c.K (.ref f) = true)
    (k : ∀ A', Rm A' 0 → (∀ n, Rm A (n + 2) → Rm A' n) → W c A' (call (.ref f) [.ref x]) (fun v h' => ∃ y t, v = .bytes y t ∧ Q v h') h) : W c A (call (.type "bytes") [.ref x]) Q h := fun dr tk => by
  obtain ⟨o, I, l⟩ := i.is
  refine callType_codes (Q₁ := fun obj s₁ => s₁.TypeIs obj "bytes" ∧ ∃ h' d' tk', s₁ = ⟨h', c.g, d', tk', c.o⟩ ∧ Q obj h') PySem.F.bm_called (PySem.F.bm_typeCall _) PySem.F.entry_object_init ?_ fun obj s₁ h₁ =>
    ⟨h₁.1, PySem.F.args_object_init_2 obj _, object_init_meets PySem.F.bm_called.init.lookup PySem.F.bm_called.made (by decide) c.prog c.w A.in1 _ s₁ ⟨h₁.1, rfl, h₁.2⟩⟩
  refine codeAny_of_tree ?_
  show wpAny _ _ (do checkBuiltinCall "bytes.__new__" ⟨[.type "bytes", .ref x], []⟩; again (.builtin "bytes.__new__" ⟨[.type "bytes", .ref x], []⟩)) _ _ _
  refine wpAny_bind (wpAny_of_eq (PySem.F.bm_newCall _) (wpAny_pure ⟨plainId_quiet PySem.F.bm_plain _, codeAny_builtin PySem.F.bm_entry ?_⟩))
  rw [Around.under_plainId PySem.F.bm_plain _]
  unfold Builtin.«bytes.__new__»
  refine wpAny_bind (wpAny_of_eq (a := true) rfl ?_)
  refine bm_if_false rfl ?_
  refine wpAny_bind (wpAny_of_eq PySem.F.bm_sub ?_)
  refine bm_if_false rfl ?_
  refine wpAny_bind (wpAny_of_eq (PySem.F.bm_bind _) ?_)
  refine wpAny_bind (wpAny_of_eq (a := ()) rfl ?_)
  refine wpAny_bind (wpAny_of_eq (a := ()) rfl ?_)
  refine bm_if_false rfl ?_
  refine wpAny_bind (wpAny_bind (I.type.here ((looks_findIn ok.kin hs).here ?_)))
  refine wpAny_bind (wpAny_rule ?_)
  refine wpAny_bind (m := callSpecial? (.ref x) (Str.ofString "__bytes__")) (special_fn ok.kin I hs (beq_iff_eq.mp hf) (W_any (k A.in1.in1 (rm.in1.in1.less (by omega)) fun n r => r.in1.in1) ?_))
  rintro v h' d' tk' ⟨y, t, rfl, q⟩
  refine wpAny_bind (wpAny_isInstance (PySem.W.typeIs_bytes _ _ _) PySem.F.bm_sub ?_)
  refine bm_if_false rfl ?_
  refine wpAny_pure ?_
  exact ⟨PySem.W.typeIs_bytes _ _ _, h', d', _, rfl, q⟩
end

/-! ## encode -/
section
open PySem.Builtin._codecs
theorem foldl_bytes (l : List Nat) : ∀ acc : Array UInt8, l.foldl (fun acc y => acc ++ (latin1Codec.bytesOf y).toArray) acc = acc ++ (l.map (·.toUInt8)).toArray := by
  induction l with
  | nil => intro acc; simp
  | cons a r ih => intro acc; rw [List.foldl_cons, ih]; simp [latin1Codec]
theorem enc_latin (self : Value) (x : List Nat) (hx : Asc x) (hz : x.length ≤ 1000000) : encodeNarrow "str.encode" latin1Codec none self (T x) = pure (x.map (·.toUInt8)).toArray := by
  unfold encodeNarrow
  dsimp only
  rw [Std.Legacy.Range.forIn_eq_forIn_range']
  cases x with
  | nil => rfl
  | cons a r =>
    have e : List.range' [:(T (a :: r)).length].start [:(T (a :: r)).length].size [:(T (a :: r)).length].step = 0 :: List.range' 1 r.length := by
      show List.range' 0 (((T (a :: r)).length - 0 + 1 - 1) / 1) 1 = _
      rw [T_len]
      simp [List.range'_succ]
    rw [e]
    generalize hf : (fun (x : Nat) (__s : Nat × Array UInt8 × Faults) => (_ : Sem (ForInStep (Nat × Array UInt8 × Faults)))) = f
    have hbad : ∀ y ∈ (a :: r), latin1Codec.bad y = false := fun y m => by have := hx y m; simp [latin1Codec]; omega
    have hnone : Array.findIdx? latin1Codec.bad ((T (a :: r)).cps.extract 0) = none := by
      rw [Array.findIdx?_eq_none_iff]
      intro y m
      refine hbad y ?_
      simpa [T] using m
    have h1 : f 0 (0, #[], {}) = pure (.yield ((a :: r).length, ((a :: r).map (·.toUInt8)).toArray, {})) := by
      rw [← hf]
      dsimp only
      rw [if_neg (by simp), show (T (a :: r)).cps[0]? = some a by simp [T]]
      dsimp only
      rw [hbad a List.mem_cons_self, hnone]
      simp only [Bool.not_false, if_true, Option.getD_none]
      congr 3
      · simp [T]
      · have e2 : ((T (a :: r)).cps.extract 0).extract 0 ((T (a :: r)).cps.extract 0).size = (a :: r).toArray := by simp [T]
        rw [e2]
        have := foldl_bytes (a :: r) #[]
        simpa using this
    have h2 : ∀ i, f i ((a :: r).length, ((a :: r).map (·.toUInt8)).toArray, {}) = pure (.done ((a :: r).length, ((a :: r).map (·.toUInt8)).toArray, {})) := by
      intro i
      rw [← hf]
      dsimp only
      rw [if_neg (by rw [sizeLine_eq]; simp at hz ⊢; omega), show (T (a :: r)).cps[(a :: r).length]? = none by simp [T]]
    rw [List.forIn_cons, h1]
    simp only [pure_bind]
    cases r with
    | nil => rfl
    | cons b r =>
      rw [List.length_cons, List.range'_succ, List.forIn_cons, h2]
      rfl

theorem encodeRoad_iso (self : Value) (x : Str) : encodeRoad "str.encode" self x (Str.ofString "iso-8859-1") none = (do mkBytes (← encodeNarrow "str.encode" latin1Codec none self x)) := by
  unfold encodeRoad
  rw [show (normalName (Str.ofString "iso-8859-1")).toString = "iso_8859_1" by decide +kernel]
  rfl
theorem encode_iso (x : Str) (t u : Tok) : Builtin.«str.encode» ⟨[.str x t, .str (Str.ofString "iso-8859-1") u], []⟩ = (do ret (← encodeRoad "str.encode" (.str x t) x (Str.ofString "iso-8859-1") none)) := by kernel_rfl
variable {c : Cx} {A : Around} {h : Heap} {env : Env}
theorem E_encode {o : Expr} {ka : Nat} {apos pos pa : Pos} {pl : Sem Bool} {Q : Value → Heap → Prop}
    (k : W c A (eval o env) (fun v h1 => ∃ x t, v = .str (T x) t ∧ Asc x ∧ x.length ≤ 1000000 ∧ Ok c h1 ∧ ∀ t', Q (.bytes (x.map (·.toUInt8)).toArray t') h1) h)
    (he : eval (.Call (.Attribute o (Str.ofString "encode") apos) [.Constant (.str (Str.ofString "iso-8859-1")) ka pa] [] pos) env = (do
      let ov ← eval o env
      standAt apos.atName
      let (f, first) ← holding [ov] (getMethod ov (Str.ofString "encode") pl)
      callWith pos f first (backTo pos (starEach [.Constant (.str (Str.ofString "iso-8859-1")) ka pa] env)) (backToKw pos (keywordEach [] env))) := by rfl) :
    W c A (eval (.Call (.Attribute o (Str.ofString "encode") apos) [.Constant (.str (Str.ofString "iso-8859-1")) ka pa] [] pos) env) Q h := by
  refine E_meth (pl := pl) (W_mono k ?_) he
  rintro v h1 ⟨x, t, rfl, hx, hz, ok, q⟩
  have M : W c A (getMethod (.str (T x) t) (Str.ofString "encode") pl) (fun fx h2 => fx = (.builtin "str.encode", [.str (T x) t]) ∧ h2 = h1) h1 := fun d tk => by
    with_reducible refine getMethod_builtin (typeIs_str _ _ _) PySem.F.plainAttrs_str PySem.F.slot_str_encode PySem.F.type_str_encode ?_ ?_
    · intro a e; cases e
    · exact ⟨h1, d, _, rfl, rfl, rfl⟩
  with_reducible refine W_mono M ?_
  intro fx h2 e
  rw [e.1, e.2]
  refine K_pos (env := env) (args := [.Constant (.str (Str.ofString "iso-8859-1")) ka pa]) (.inr (.inr ⟨_, rfl⟩)) (A_cons (E_str fun t1 => A_nil ⟨ok, fun d tk => ?_⟩))
  refine wpAny_call_entry PySem.F.slot_str_encode (typeIs_str _ _ _) PySem.F.entry_str_encode ?_ (PySem.F.args_str_encode_2 _ _)
  show wpAny _ _ (Builtin.«str.encode» ⟨[.str (T x) t, .str (Str.ofString "iso-8859-1") t1], []⟩) _ _ _
  rw [encode_iso, encodeRoad_iso, enc_latin _ x hx hz]
  refine wpAny_bind (wpAny_bind (wpAny_pure (wpAny_mkBytes (wpAny_pure ⟨_, rfl, h1, d, _, rfl, q _⟩) (by rw [sizeLine_eq]; simp; omega))))
end
end Mine
end

section
open PySem PySem.W PyProof.Rows PySem.Calls
set_option Elab.async false
set_option linter.unusedVariables false
set_option linter.unusedSimpArgs false
namespace Mine
section
variable {c : Cx} {A : Around} {h : Heap} {env : Env}
theorem E_join {o e : Expr} {apos pos : Pos} {pl : Sem Bool} {Q : Value → Heap → Prop}
    (k : W c A (eval o env) (fun ov h1 => ∃ x t, ov = .str (T x) t ∧ W c A (eval e env) (fun lv h2 => Ok c h2 ∧ ∃ l vs ys, lv = .ref l ∧ h2.IsList l vs.toArray ∧ Paired Strv vs ys ∧ (ys.map (·.length)).sum + ys.length * x.length ≤ 1000000 ∧ ∀ t', Q (.str (T (joinL x ys)) t') h2) h1) h)
    (he : eval (.Call (.Attribute o (Str.ofString "join") apos) [e] [] pos) env = (do
      let ov ← eval o env
      standAt apos.atName
      let (f, first) ← holding [ov] (getMethod ov (Str.ofString "join") pl)
      callWith pos f first (backTo pos (starEach [e] env)) (backToKw pos (keywordEach [] env))) := by rfl)
    (hs : starEach (e :: []) env = (false, eval e env) :: starEach [] env := by rfl) :
    W c A (eval (.Call (.Attribute o (Str.ofString "join") apos) [e] [] pos) env) Q h := by
  refine E_meth (pl := pl) (W_mono k ?_) he
  rintro ov h1 ⟨x, t, rfl, q⟩
  have M : W c A (getMethod (.str (T x) t) (Str.ofString "join") pl) (fun fx h2 => fx = (.builtin "str.join", [.str (T x) t]) ∧ h2 = h1) h1 := by
    with_reducible refine M_join ?_
    exact ⟨rfl, rfl⟩
  with_reducible refine W_mono M ?_
  intro fx h2 e'
  rw [e'.1, e'.2]
  refine K_pos (env := env) (args := [e]) (.inr (.inr ⟨_, rfl⟩)) (A_cons (W_mono q ?_) hs) (by rw [hs]; rfl)
  rintro lv h2 ⟨ok, l, vs, ys, rfl, hl, hp, hz, q⟩
  exact A_nil ⟨ok, F_join hl (show Strs vs ys from hp) hz q⟩
end
end Mine
namespace Mine
section
variable {c : Cx} {A : Around} {h : Heap} {env : Env}
theorem E_fstr {v₁ v₂ : Expr} {rest : List Expr} {pos : Pos} {Q : Value → Heap → Prop} (k : W c A (joinParts Str.empty (eval v₁ env :: eval v₂ env :: evalEach rest env)) Q h) : W c A (eval (.JoinedStr (v₁ :: v₂ :: rest) pos) env) Q h := fun d tk => JoinedStr_many (k d tk)
theorem J_nil {x : List Nat} {Q : Value → Heap → Prop} (hs : x.length ≤ 1000000) (q : ∀ t, Q (.str (T x) t) h) : W c A (joinParts (T x) []) Q h := fun d tk => joinParts_nil ⟨h, d, _, rfl, q _⟩ (by rw [T_len, sizeLine_eq]; omega)
theorem J_cons {x : List Nat} {m : Sem Value} {rest : List (Sem Value)} {Q : Value → Heap → Prop} (k : W c A m (fun v h1 => ∃ y t, v = .str (T y) t ∧ x.length + y.length ≤ 1000000 ∧ W c A (joinParts (T (x ++ y)) rest) Q h1) h) : W c A (joinParts (T x) (m :: rest)) Q h := fun d tk => by
  refine joinParts_cons (W_any k ?_)
  rintro v h1 d1 tk1 ⟨y, t, rfl, hs, q⟩
  refine ⟨by rw [T_app, T_len, sizeLine_eq, List.length_append]; omega, ?_⟩
  rw [T_app]
  exact q d1 tk1
theorem E_fmts {value : Expr} {pos : Pos} {Q : Value → Heap → Prop} (k : W c A (eval value env) (fun v h1 => ∃ y t, v = .str (T y) t ∧ y.length ≤ 1000000 ∧ ∀ t', Q (.str (T y) t') h1) h) : W c A (eval (.FormattedValue value 115 none pos) env) Q h := fun d tk => by
  refine wpAny_FormattedValue_s (W_any k ?_)
  rintro v h1 d1 tk1 ⟨y, t, rfl, hs, q⟩
  have hz : (T y).length ≤ sizeLine := by rw [T_len, sizeLine_eq]; omega
  show wpAny _ _ (habitSame "fstring-hands-on-the-str" (.str (T y) t)) _ _ _
  refine wpAny_habitSame_str ?_ ?_ hz
  all_goals exact wpAny_formatField_str ⟨h1, d1, _, rfl, q _⟩ ⟨h1, d1, _, rfl, q _⟩ hz
end
end Mine
namespace Mine
section
variable {c : Cx} {A : Around} {hb h : Heap} {V : List Addr} {env : Env} {ns : List Str} {vs : List (Option Value)} {D : List (Addr × Ob)} {P : Heap → Prop}
theorem F_items1' (Inv : List (Option Value) → List (Addr × Ob) → (Heap → Prop) → Prop) {v d : Addr} {k : Str} {val : Value} {ep : Nat} {elts : List Expr} {x1 : Nat} {tp : Pos} {body} {Q : Flow → Heap → Prop} (hh : A.handled = none) (S : St c hb V h env ns vs D P) (hv : h.IsItemsView v d) (dk : Dk c h d [(k, val)] ep)
    (turn : ∀ tup it t h', Tup h' tup [.str k t, val] → St c hb V h' env ns vs (D ++ [(it, .raw (iterO d 1 1 ep (.str k t) val))]) P →
      W c A (assign (.Tuple elts x1 tp) env (.ref tup)) (fun _ h2 => W c A (execs body env) (fun f h3 => f = .next ∧ ∃ vs' D' P', Inv vs' D' P' ∧ St c hb V h3 env ns vs' (D' ++ [(it, .raw (iterO d 1 1 ep (.str k t) val))]) P' ∧ Dk c h3 d [(k, val)] ep) h2) h')
    (fin : ∀ h' vs' D' P', Inv vs' D' P' → St c hb V h' env ns vs' D' P' → Q .next h') : W c A (pyIter (.ref v)) (fun it h2 => CW c A (.forLoop (.Tuple elts x1 tp) it body [] env) Q h2) h :=
  F_items1 hh S hv dk fun tup it t h' ht S => W_mono (turn tup it t h' ht S) fun _ h2 q => W_mono q fun f h3 ⟨e, vs', D', P', inv, S', dk'⟩ => ⟨e, vs', D', P', S', dk', fun h' S => fin h' vs' D' P' inv S⟩
end
end Mine
end

section
open PySem PySem.W PyProof.Rows PySem.Calls
set_option Elab.async false
set_option linter.unusedVariables false
set_option linter.unusedSimpArgs false
namespace Mine
theorem foldl_rep (x : List Nat) : ∀ (n : Nat) (acc : Array Nat), (List.replicate n x.toArray).foldl (· ++ ·) acc = acc ++ ((List.replicate n x).flatten).toArray
  | 0, acc => by simp
  | n + 1, acc => by rw [List.replicate_succ, List.foldl_cons, foldl_rep x n, List.replicate_succ, List.flatten_cons]; simp
section
variable {c : Cx} {A : Around} {h : Heap} {env : Env}
theorem O_rep {x : List Nat} {n : Nat} {t u : Tok} {Q : Value → Heap → Prop} (hn : n ≤ 1000) (hx : x.length ≤ 1000) (q : ∀ t, Q (.str (T (List.replicate n x).flatten) t) h) : W c A (binaryOp .Mult (.str (T x) t) (.int (n : Int) u)) Q h := fun d tk => by
  have hm : x.length * n ≤ 1000000 := Nat.mul_le_mul hx hn
  refine P.mul_str ?_ ?_ ?_ ?_
  · simp; omega
  · intro h1 _ h2
    rw [T_len] at h2
    have : (2 ^ 63 - 1 : Int) / n ≥ 1000 := by
      have : (1000 : Int) * n ≤ 2 ^ 63 - 1 := by omega
      exact (Int.le_ediv_iff_mul_le (by omega)).mpr this
    omega
  · intro _ _
    rw [T_len]
    unfold PySem.Builtin.Str.tooLong
    rw [sizeLine_eq]
    simp
    omega
  · split
    · rename_i h1
      have : n = 0 := by omega
      subst this
      exact ⟨by decide, h, d, _, rfl, q _⟩
    · split
      · rename_i h1 h2
        have e : (List.replicate n x).flatten = x := by
          simp only [Bool.or_eq_true, beq_iff_eq, T_len] at h2
          rcases h2 with h2 | h2
          · have : n = 1 := by omega
            subst this; simp
          · have : x = [] := List.length_eq_zero_iff.mp h2
            subst this; simp
        have := q t
        rw [e] at this
        exact ⟨h, d, _, rfl, this⟩
      · have e : (⟨(List.replicate (n : Int).toNat (T x).cps).foldl (· ++ ·) #[]⟩ : Str) = T (List.replicate n x).flatten := by
          rw [T_cps, Int.toNat_natCast, foldl_rep]; simp [T]
        rw [e]
        refine ⟨?_, h, d, _, rfl, q _⟩
        rw [T_len, sizeLine_eq, List.length_flatten]
        simp
        rw [Nat.mul_comm] at hm
        omega
end
end Mine
end

section
open PySem PySem.W PyProof.Rows PySem.Calls
set_option Elab.async false
set_option linter.unusedVariables false
set_option linter.unusedSimpArgs false
namespace Mine
section
variable {c : Cx} {A : Around} {h : Heap} {env : Env} {t u : Tok}
theorem O_in3 {a : Nat} (ha : a = 97 ∨ a = 34 ∨ a = 92) {Q : Value → Heap → Prop} (q : Q (.bool (decide (a = 34 ∨ a = 92))) h) : W c A (compareOp .In (.str (T [a]) u) (.str (T [34, 92]) t)) Q h := fun d tk => by
  refine P.in_str ⟨h, d, _, rfl, ?_⟩
  have : (!(PySem.Builtin.Str.occurrences (T [34, 92]) (T [a]) 0 (T [34, 92]).length 1).isEmpty) = decide (a = 34 ∨ a = 92) := by
    rcases ha with rfl | rfl | rfl <;> decide +kernel
  rw [this]; exact q
theorem X_str {value slice : Expr} {x : List Nat} {k a : Nat} {Q : Value → Heap → Prop} (hk : x[k]? = some a) (hz : k < 2 ^ 62) (q : ∀ t', Q (.str (T [a]) t') h)
    (hs : subscripted slice false (.str (T x) t) (.int (k : Int) u) = operate [.str (T x) t, .int (k : Int) u] (getItem (.str (T x) t) (.int (k : Int) u)) := by with_unfolding_all rfl)
    (ht : ∀ r, letTemporaryGo value (.str (T x) t) r = pure () := by intro _; with_unfolding_all rfl) : W c A (subscriptTail value slice (.str (T x) t) (.int (k : Int) u)) Q h := fun d tk => by
  have hlt : k < x.length := (List.getElem?_eq_some_iff.mp hk).1
  refine item_str (i := (k : Int)) (by unfold fitsSsize; simp; omega) (by omega) (by rw [T_len]; omega) (fun _ => ⟨h, d, _, rfl, ?_⟩) hs ht
  have e : Txt.item (T x) (k : Int) = T [a] := by
    have hx : x[k] = a := (List.getElem?_eq_some_iff.mp hk).2
    have hc : Txt.charAt (T x) (k : Int) = some a := by
      unfold Txt.charAt seqIndex?
      have h1 : ¬ ((k : Int) < 0) := by omega
      have h2 : (0 : Int) ≤ k ∧ (k : Int) < ((T x).length : Nat) := by rw [T_len]; omega
      simp [h1, h2, T_cps, hk]
    unfold Txt.item
    rw [hc]; rfl
  rw [e]; exact q _
theorem byteArr_nat (ns : List Nat) : byteArr (ns.map Int.ofNat) = (ns.map (·.toUInt8)).toArray := by
  unfold byteArr; simp [Function.comp_def]
theorem ints_of {vs : List Value} {ns : List Nat} (p : Paired Natv vs ns) : IntsAre vs (ns.map Int.ofNat) := by
  induction p with
  | nil => exact .nil
  | cons hd _ ih => obtain ⟨t, rfl⟩ := hd; exact .cons _ _ ih
theorem F_byteslist {l : Addr} {vs : List Value} {ns : List Nat} {Q : Value → Heap → Prop} (hh : A.handled = none) (hl : h.IsList l vs.toArray) (p : Paired Natv vs ns) (hr : ∀ n ∈ ns, n < 256) (hz : vs.length ≤ 1000000)
    (q : ∀ t h', Eff c [] h h' → Q (.bytes (ns.map (·.toUInt8)).toArray t) h') : W c A (call (.type "bytes") [.ref l]) Q h := fun d tk => by
  refine call_bytes_ints hl (ints_of p) (fun n m => ?_) (by rw [sizeLine_eq]; omega) hh fun h' t k keep => ⟨h', d, k, rfl, ?_⟩
  · obtain ⟨a, ma, rfl⟩ := List.mem_map.mp m
    have := hr a ma
    show (0 : Int) ≤ (a : Int) ∧ (a : Int) < 256
    omega
  · rw [byteArr_nat]; exact q t h' (.of_keep keep)
theorem C_neb {b b' : Array UInt8} {Q : Value → Heap → Prop} (e : b = b') (q : Q (.bool false) h) : W c A (compareOp .NotEq (.bytes b t) (.bytes b' u)) Q h := fun d tk => by
  subst e
  refine PySem.W.ne_bytes ⟨h, d, _, rfl, ?_⟩
  rw [show (b.toList != b.toList) = false by simp]; exact q
theorem joinL_nil : ∀ ys : List (List Nat), joinL [] ys = ys.flatten
  | [] => rfl
  | [y] => by simp [joinL]
  | y :: z :: r => by
    rw [joinL, joinL_nil (z :: r)]; simp
end
end Mine
end

section
open PySem PySem.W PyProof.Rows PySem.Calls
set_option Elab.async false
set_option linter.unusedVariables false
set_option linter.unusedSimpArgs false
namespace Mine
/-! ## the way in: from any token count -/
section
variable {c : Cx} {A : Around} {h : Heap}
theorem CW_def0 {fa : Addr} {fd : FuncData} {body : List Stmt} {args : Args} {params rest : List Str} {vals : List Value} {R : Flow → Heap → Prop} {o : Obj}
    (rm : Rm A 1) (ok : Ok c h) (hf : c.K.lookup fa = some o) (hd : o.data = .func fd) (hcd : codeIn c.K fd.code fd.qualname = true) (hbody : fd.body = .stmts body)
    (hbind : ∀ d tk, BindsTo ⟨h, c.g, d, tk, c.o⟩ fd args (params.zip vals)) (hlen : params.length = vals.length)
    (fok : frameOk fd.scope (params ++ rest) = true)
    (k : ∀ h1, St c h [] h1 (callEnvC fd h.objs.size fa) (params ++ rest) (vals.map some ++ rest.map fun _ => none) [] (fun _ => True) → ∀ d tk,
      wpAny (model c.prog c.w) (A.deeper (callEnvC fd h.objs.size fa)) (execs body (callEnvC fd h.objs.size fa)) (fun f s' => ∃ h' d' tk', s' = ⟨h', c.g, d', tk', c.o⟩ ∧ R (.ret (match f with | .ret v => v | _ => .none)) h') (fun _ _ => False) ⟨h1, c.g, d, tk, c.o⟩)
    (hco : fd.scope.isCoroutine = false := by rfl) (hgen : fd.scope.isGenerator = false := by rfl) (hclo : fd.closure = [] := by rfl) :
    ∀ d tk, codeAny (model c.prog c.w) A (.call (.ref fa) args) (fun r s' => ∃ f h' d' tk', r = .ok f ∧ s' = ⟨h', c.g, d', tk', c.o⟩ ∧ R f h') ⟨h, c.g, d, tk, c.o⟩ := fun d tk => by
  have fok' := fok
  unfold frameOk at fok'
  simp only [Bool.and_eq_true, List.all_eq_true, decide_eq_true_eq, Bool.or_eq_true, beq_iff_eq, bne_iff_ne] at fok'
  obtain ⟨⟨hk, nd⟩, hn⟩ := fok'
  have hz : (params.zip vals).map (·.1) = params := List.map_fst_zip (by omega)
  have mz : ∀ x ∈ params.zip vals, x.1 ∈ params := fun x m => by rw [← hz]; exact List.mem_map_of_mem m
  refine codeAny_call_function rm.depth (ok.kin _ _ hf) hd hco hgen hbody (codeRec_of ok.kin hcd) (hbind d tk _ _ _ _ ?_)
  rw [hclo]
  refine wpAny_newFunctionEnv_cells hk (fun x m => ?_) fun env he s' x => ?_
  · rcases (hn x.1 (List.mem_append_left _ (mz x m))).1.1 with e | e
    · exact .inl e
    · exact .inr ⟨e, cellsFrom_some _ _ _ _ (.inl e)⟩
  · subst he
    obtain ⟨⟨⟨h', tk', e⟩, hns, keep, fresh⟩, cell, apart, above⟩ := x
    subst e
    refine ⟨ok.nolimit.keeps keep, codeAny_func ?_⟩
    have hE : Eff c [] h h' := .of_keep keep
    · have ndp : ((params.zip vals).map (·.1)).Nodup := by rw [hz]; exact (List.nodup_append.mp nd).1
      have got : ∀ (i : Nat) (x : Str) (v : Value), (params ++ rest)[i]? = some x → (vals.map some ++ rest.map fun _ => none)[i]? = some (some v) → (x, v) ∈ params.zip vals := fun i x v hx hv => by
        by_cases hi : i < params.length
        · rw [List.getElem?_append_left hi] at hx
          rw [List.getElem?_append_left (by rw [List.length_map]; omega)] at hv
          rw [List.getElem?_map] at hv
          have hv' : vals[i]? = some v := by
            cases e : vals[i]? with
            | none => rw [e] at hv; cases hv
            | some u => rw [e] at hv; cases hv; rfl
          exact List.mem_of_getElem? (List.getElem?_zip_eq_some.mpr ⟨hx, hv'⟩)
        · rw [List.getElem?_append_right (by rw [List.length_map]; omega), List.getElem?_map] at hv
          cases e : rest[i - (vals.map some).length]? with
          | none => rw [e] at hv; cases hv
          | some u => rw [e] at hv; cases hv
      refine wpAny_mono (k h' ?_ _ _) (fun f s' ⟨h2, d2, tk2, e, q⟩ => ⟨_, h2, d2, tk2, rfl, e, q⟩) fun _ _ x => x.elim
      exact {
        fm := Fm_call fok
        loc := ⟨_, hns, fun i x v hx hv => ⟨fun l => bindL_get l ndp (.inl (got i x v hx hv)), fun a l ha => by
          have hb : bindC (callEnvC fd h.objs.size fa).kindOf (params.zip vals) (fun _ => none) x = some v := bindC_get l ndp (.inl (got i x v hx hv))
          have hc : h'.IsCell a (bindC (callEnvC fd h.objs.size fa).kindOf (params.zip vals) (fun _ => none) x) := cell x a ha
          rwa [hb] at hc⟩⟩
        cel := fun x m l a ha => ⟨_, cell x a ha⟩
        led := fun p m => nomatch m
        ap := by simp
        eff := hE
        newL := get_ge fresh
        newD := fun p m => nomatch m
        ok := ok
        perm := fun _ _ _ _ _ => trivial
        p := trivial }
end
section
variable {c : Cx} {A : Around} {hb h : Heap} {V : List Addr} {env : Env} {ns : List Str} {vs : List (Option Value)} {D : List (Addr × Ob)} {P : Heap → Prop} {d : Drawn} {tk : Nat} {Q : Value → Shared → Prop} {E : Value → Shared → Prop}
theorem N_load0 (S : St c hb V h env ns vs D P) (i : Nat) {x : Str} {v : Value} (hx : ns[i]? = some x) (hv : vs[i]? = some (some v)) (q : Q v ⟨h, c.g, d, tk, c.o⟩) : wpAny (model c.prog c.w) A (loadName env x) Q E ⟨h, c.g, d, tk, c.o⟩ := by
  obtain ⟨m, n, k⟩ := S.loc
  have hm := List.mem_of_getElem? hx
  rcases S.fm.names x hm with l | ⟨l, a, ha⟩
  · exact wpAny_loadName_local S.fm.kind l n ((k i x v hx hv).1 l) q
  · have nl : env.kindOf x ≠ some .local := by rcases l with l | l <;> rw [l] <;> decide
    have K := (k i x v hx hv).2 a nl ha
    rcases l with l | l
    · exact wpAny_loadName_cell S.fm.kind l ha K q
    · exact wpAny_loadName_free S.fm.kind l ha K q (S.fm.dbg x hm).2
theorem E_name0 (S : St c hb V h env ns vs D P) (i : Nat) {x : Str} {pos : Pos} {v : Value} (hx : ns[i]? = some x) (hv : vs[i]? = some (some v)) (q : Q v ⟨h, c.g, d, tk, c.o⟩) : wpAny (model c.prog c.w) A (eval (.Name x pos) env) Q E ⟨h, c.g, d, tk, c.o⟩ :=
  wpAny_Name (N_load0 S i hx hv q) (S.fm.dbg x (List.mem_of_getElem? hx)).1
theorem E_global0 (S : St c hb V h env ns vs D P) {x : Str} {pos : Pos} {v : Value} (hk : env.kindOf x = some .globalImplicit) (hg : env.globals = mainGlobals) (e : nsIn c.K mainGlobals x = some (some v)) (q : Q v ⟨h, c.g, d, tk, c.o⟩)
    (hd : (x == ("__debug__" : Str)) = false := by decide +kernel) : wpAny (model c.prog c.w) A (eval (.Name x pos) env) Q E ⟨h, c.g, d, tk, c.o⟩ := by
  refine wpAny_Name ?_ hd
  unfold loadName
  simp only [Env.blockKind, S.fm.kind, hk, ScopeKind.isAnnotationScope, Bool.false_and, Bool.false_eq_true, if_false]
  unfold loadGlobal
  rw [hg]
  exact wpAny_bind ((looks_nsIn S.okh.kin e).at (wpAny_pure q))
/-- a statement x = f(a, 8): behind it a token is spent -/
theorem S_first {f x a : Str} {n : Nat} {p1 p2 p3 p4 p5 pos : Pos} {fv av : Value} {rest : List Stmt} {QQ : Flow → Shared → Prop} (S : St c hb V h env ns vs D P) (hk : env.kindOf f = some .globalImplicit) (hg : env.globals = mainGlobals) (e : nsIn c.K mainGlobals f = some (some fv)) (kp : Kept c fv)
    (i : Nat) (hx : ns[i]? = some a) (hv : vs[i]? = some (some av)) {E : Value → Shared → Prop}
    (k : ∀ t, W c A (call fv [av, .int ((OfNat.ofNat n : Nat) : Int) t]) (fun r h1 => W c A (storeName env x r) (fun _ h2 => ∀ d tk, wpAny (model c.prog c.w) A (execs rest env) QQ E ⟨h2, c.g, d, tk + 1, c.o⟩) h1) h)
    (hs : swapsWith (.Call (.Name f p2) [.Name a p3, .Constant (.int (@OfNat.ofNat Int n instOfNat)) 0 p4] [] p5) (some (.Name x p1)) pos.line env = pure false := by rfl) (hd : (f == ("__debug__" : Str)) = false := by decide +kernel) :
    wpAny (model c.prog c.w) A (execs (.Assign [.Name x p1] (.Call (.Name f p2) [.Name a p3, .Constant (.int (@OfNat.ofNat Int n instOfNat)) 0 p4] [] p5) pos :: rest) env) QQ E ⟨h, c.g, d, tk, c.o⟩ := by
  refine wpAny_execs_cons (wpAny_Assign_Name (Call_ (E_global0 S hk hg e ?_ hd)) hs)
  refine callWith_of (P := Ok c) (by rfl) (fun h ok => kp.looks h ok) ?_
  refine evalArgs_kw (by rfl) (args_cons (E_name0 S i hx hv (args_cons (wpAny_Constant_int (args_nil (wpAny_evalAll_nil ⟨S.okh, ?_⟩))))))
  refine W_any (k tk) fun r h1 d1 tk1 q => W_any q fun _ h2 d2 tk2 q => q d2 tk2
end
theorem ns_val {K : Frag} {h : Heap} {ns : Addr} {m : Str → Option Value} {name : Str} {v : Value} (x : K.In h) (n : h.Ns ns m) (e : nsIn K ns name = some (some v)) : m name = some v := by
  obtain ⟨o, es, ep, g, d, hk, hf⟩ := n
  unfold nsIn at e
  split at e
  · rename_i cc dd es' n' sl ho
    have := x _ _ ho
    rw [g] at this; cases this
    cases d
    rw [← hf]
    unfold nsFind findBy
    rw [← Array.find?_toList]
    split at e
    · rename_i en he; rw [he]; cases e; rfl
    · split at e <;> cases e
  · cases e
theorem ints_pair {vs : List Value} {ns : List Int} (h : IntsAre vs ns) : Paired Intv vs ns := by
  induction h with
  | nil => exact .nil
  | cons n t _ ih => exact .cons ⟨t, rfl⟩ ih
end Mine
end

section
open PySem.SeqAt PySem.SeqRoads2 PySem PySem.W PyProof.Rows PySem.Calls
set_option Elab.async false
set_option linter.unusedVariables false
set_option linter.unusedSimpArgs false
namespace Mine
section
variable {c : Cx} {A : Around} {h : Heap} {env : Env} {t u : Tok}
/-- the sizes of letters turned -/
def sw1 (c : Nat) : Nat := if 65 ≤ c ∧ c ≤ 90 then c + 32 else if 97 ≤ c ∧ c ≤ 122 then c - 32 else c
def swp (x : List Nat) : List Nat := x.map sw1
theorem swap_asc : ∀ c, c < 128 → (if Unicode.isUpper c = true then Unicode.lowerOf c else if Unicode.isLower c = true then Unicode.upperOf c else [c]) = [sw1 c] := by decide +kernel
theorem swap_T {x : List Nat} (ha : Asc x) : Txt.swapcase (T x) = T (swp x) := by
  unfold Txt.swapcase
  rw [placed_single (T x) _ sw1 fun i c hc => by
    have hc' : (T x).cps[i]? = some c := by simpa using hc
    have hlt : c < 128 := ha c (by have := List.mem_of_getElem? hc; simpa [T] using this)
    have e : Unicode.lowerAt (T x).cps i = Unicode.lowerOf c := by
      unfold Unicode.lowerAt
      rw [hc']
      have hne : (c == 0x3A3) = false := by rw [beq_eq_false_iff_ne]; omega
      simp only [hne, Bool.false_and, Bool.false_eq_true, if_false]
    show (if Unicode.isUpper c = true then Unicode.lowerAt (T x).cps i else if Unicode.isLower c = true then Unicode.upperOf c else [c]) = _
    rw [e]
    exact swap_asc c hlt]
  simp [T, swp]
theorem E_swapcase {o : Expr} {apos pos : Pos} {pl : Sem Bool} {Q : Value → Heap → Prop}
    (k : W c A (eval o env) (fun v h1 => ∃ x t, v = .str (T x) t ∧ Asc x ∧ x.length ≤ 1000000 ∧ Ok c h1 ∧ ∀ t', Q (.str (T (swp x)) t') h1) h)
    (he : eval (.Call (.Attribute o (Str.ofString "swapcase") apos) [] [] pos) env = (do
      let ov ← eval o env
      standAt apos.atName
      let (f, first) ← holding [ov] (getMethod ov (Str.ofString "swapcase") pl)
      callWith pos f first (backTo pos (starEach [] env)) (backToKw pos (keywordEach [] env))) := by rfl) :
    W c A (eval (.Call (.Attribute o (Str.ofString "swapcase") apos) [] [] pos) env) Q h := by
  refine E_meth (pl := pl) (W_mono k ?_) he
  rintro v h1 ⟨x, t, rfl, ha, hs, ok, q⟩
  have M : W c A (getMethod (.str (T x) t) (Str.ofString "swapcase") pl) (fun fx h2 => fx = (.builtin "str.swapcase", [.str (T x) t]) ∧ h2 = h1) h1 := fun d tk => by
    with_reducible refine GM.swapcase ?_
    exact ⟨h1, d, _, rfl, rfl, rfl⟩
  with_reducible refine W_mono M ?_
  intro fx h2 e'
  rw [e'.1, e'.2]
  refine K_pos (env := env) (args := []) (.inr (.inr ⟨_, rfl⟩)) (A_nil ⟨ok, fun d tk => ?_⟩)
  exact KXw.swapcase (swap_T ha) (fit_swapcase (by rw [T_len]; omega)) fun t' k' => ⟨h1, d, k', rfl, q t'⟩
theorem digit_str : ∀ n : Nat, n < 10 → Str.ofString (toString (n : Int)) = T [48 + n] := by decide +kernel
theorem log_small (n : Nat) (hn : n < 10) : ((n : Int)).natAbs.log2 < 1920 := by
  have : ∀ n : Fin 10, ((n.val : Int)).natAbs.log2 < 1920 := by decide +kernel
  exact this ⟨n, hn⟩
theorem F_strd {n : Nat} (hn : n < 10) {Q : Value → Heap → Prop} (q : ∀ t, Q (.str (T [48 + n]) t) h) : W c A (call (.type "str") [.int (n : Int) t]) Q h := fun d tk =>
  P.str_of_int (log_small n hn) ⟨h, d, _, rfl, by
    have e : ((toString (n : Int) : String) : Str) = T [48 + n] := digit_str n hn
    rw [e]; exact q _⟩
theorem F_intd {n : Nat} (hn : n < 10) {Q : Value → Heap → Prop} (q : ∀ t, Q (.int (n : Int) t) h) : W c A (call (.type "int") [.str (T [48 + n]) t]) Q h := fun d tk => by
  rw [← digit_str n hn]
  exact PySem.W.KIN.call_num (by omega) (by omega) ⟨h, d, _, rfl, q _⟩
theorem F_min {a b : Nat} {Q : Value → Heap → Prop} (hh : A.handled = none) (q : ∀ t h', Eff c [] h h' → Q (.int ((min a b : Nat) : Int) t) h') : W c A (call (.builtin "min") [.int (a : Int) t, .int (b : Int) u]) Q h := fun d tk =>
  min_two_ints hh fun h' tk' hk => ⟨h', d, tk', rfl, by
    have := q (if (b : Int) < a then u else t) h' (.of_keep hk)
    by_cases q : (b : Int) < a
    · simp only [q, if_true] at this ⊢; rwa [Nat.min_eq_right (by omega)] at this
    · simp only [q, if_false] at this ⊢; rwa [Nat.min_eq_left (by omega)] at this⟩
theorem C_neb2 {a b : Bool} {Q : Value → Heap → Prop} (hu : A.units + 1 < cLine) (q : Q (.bool (!(a == b))) h) : W c A (compareOp .NotEq (.bool a) (.bool b)) Q h := fun d tk =>
  RcNeAt.bool_bool a b c.prog c.w _ _ ⟨h, d, _, rfl, q⟩
/-- x in a list of texts -/
def isTx (x : List Nat) : Value → Bool := fun v => match v with | .str s _ => decide (s = T x) | _ => false
theorem any_tx {x : List Nat} {vs : List Value} {xs : List (List Nat)} (p : Paired Strv vs xs) : vs.any (isTx x) = decide (x ∈ xs) := by
  induction p with
  | nil => simp
  | cons hd tl ih =>
    obtain ⟨tz, rfl⟩ := hd
    rename_i z vs' xs'
    rw [List.any_cons, ih, Bool.eq_iff_iff, Bool.or_eq_true, decide_eq_true_eq, decide_eq_true_eq, List.mem_cons]
    show decide (T z = T x) = true ∨ _ ↔ _
    rw [decide_eq_true_eq, T_inj]
    exact ⟨fun h => h.imp Eq.symm id, fun h => h.imp Eq.symm id⟩
theorem C_ins {l : Addr} {vs : List Value} {xs : List (List Nat)} {x : List Nat} {Q : Value → Heap → Prop} (hl : h.IsList l vs.toArray) (p : Paired Strv vs xs) (q : Q (.bool (decide (x ∈ xs))) h) : W c A (compareOp .In (.str (T x) t) (.ref l)) Q h := fun d tk => by
  refine in_listAt (isTx x) hl (fun y m => ?_) ⟨h, d, _, rfl, ?_⟩
  · have m : y ∈ vs := by simpa using m
    obtain ⟨i, hi, e⟩ := List.mem_iff_getElem.mp m
    obtain ⟨z, _, tz, ez⟩ := P_get p i y (by rw [← e]; exact List.getElem?_eq_getElem hi)
    subst ez
    have := (SeqRoads2.EqGives.str (T z) (T x) tz t).at A.in1 ⟨h, c.g, d, tk + 1, c.o⟩
    rwa [show ((T z).cps.toList == (T x).cps.toList) = decide (T z = T x) by rw [Bool.eq_iff_iff]; simp [T]] at this
  · rw [List.any_toArray, any_tx p]; exact q
/-- how often a number stands in a list -/
def isNt (n : Nat) : Value → Bool := fun v => match v with | .int i _ => decide (i = (n : Int)) | _ => false
theorem count_nt {n : Nat} {vs : List Value} {ns : List Nat} (p : Paired Natv vs ns) : vs.countP (isNt n) = ns.count n := by
  induction p with
  | nil => rfl
  | cons hd tl ih =>
    obtain ⟨tz, rfl⟩ := hd
    rename_i z vs' xs'
    rw [List.countP_cons, List.count_cons, ih]
    by_cases q : z = n
    · subst q; simp [isNt]
    · have : ¬ ((z : Int) = n) := by omega
      simp [isNt, this, q]
theorem E_count {o e : Expr} {apos pos : Pos} {pl : Sem Bool} {Q : Value → Heap → Prop}
    (k : W c A (eval o env) (fun ov h1 => ∃ l, ov = .ref l ∧ (∃ xs : List Value, h1.PlainList l xs.toArray) ∧ W c A (eval e env) (fun v h2 => Ok c h2 ∧ ∃ n t vs ns, v = .int ((n : Nat) : Int) t ∧ h2.PlainList l vs.toArray ∧ Paired Natv vs ns ∧ ∀ t', Q (.int ((ns.count n : Nat) : Int) t') h2) h1) h)
    (he : eval (.Call (.Attribute o (Str.ofString "count") apos) [e] [] pos) env = (do
      let ov ← eval o env
      standAt apos.atName
      let (f, first) ← holding [ov] (getMethod ov (Str.ofString "count") pl)
      callWith pos f first (backTo pos (starEach [e] env)) (backToKw pos (keywordEach [] env))) := by rfl)
    (hs : starEach (e :: []) env = (false, eval e env) :: starEach [] env := by rfl) :
    W c A (eval (.Call (.Attribute o (Str.ofString "count") apos) [e] [] pos) env) Q h := by
  refine E_meth (pl := pl) (W_mono k ?_) he
  rintro ov h1 ⟨l, rfl, ⟨xs, hp⟩, q⟩
  have M : W c A (getMethod (.ref l) (Str.ofString "count") pl) (fun fx h2 => fx = (.builtin "list.count", [.ref l]) ∧ h2 = h1) h1 := M_list hp PySem.F.slot_list_count PySem.F.type_list_count ⟨rfl, rfl⟩
  with_reducible refine W_mono M ?_
  intro fx h2 e'
  rw [e'.1, e'.2]
  refine K_pos (env := env) (args := [e]) (.inr (.inr ⟨_, rfl⟩)) (A_cons (W_mono q ?_) hs) (by rw [hs]; rfl)
  rintro v h2 ⟨ok, n, t, vs, ns, rfl, ⟨m, ho⟩, hpn, q⟩
  refine A_nil ⟨ok, fun d tk => ?_⟩
  refine call_meets PySem.F.slot_list_count ⟨_, ho, rfl⟩ PySem.F.entry_list_count (PySem.F.args_list_count_2 _ _) (list_countAt l vs.toArray m none #[] (.int (n : Int) t) (isNt n)) ⟨ho, fun y my => ?_, h2, d, _, rfl, ?_⟩
  · have my : y ∈ vs := by simpa using my
    obtain ⟨i, hi, ey⟩ := List.mem_iff_getElem.mp my
    obtain ⟨z, _, tz, ez⟩ := P_get hpn i y (by rw [← ey]; exact List.getElem?_eq_getElem hi)
    subst ez
    have := (MeetsSeq.EqGives.int (z : Int) (n : Int) tz t).at A.in1 ⟨h2, c.g, d, tk + 1, c.o⟩
    rwa [show ((z : Int) == (n : Int)) = decide ((z : Int) = n) by rw [Bool.eq_iff_iff]; simp] at this
  · show Q (.int ((vs.toArray.toList.countP (isNt n) : Nat) : Int) _) h2
    rw [List.toList_toArray, count_nt hpn]; exact q _
end
/-! ## a tuple is gone through -/
theorem It.tup {c : Cx} (t : Addr) (xs : List Value) : It c (.ref t) xs.length (fun i => .fld "tuple_iterator" [.ref t, .int i 0]) (fun i v => xs[i]? = some v) (fun h => Tup h t xs) (fun h => Tup h t xs) where
  stb := fun h h' e x => x.eff e
  opn := fun hl k d tk => wpAny_pyIter_tuple hl.is ⟨_, d, _, rfl, k _ _ (get_size _) (.push _ _) ⟨_, Heap.get?_push_size _ rfl, rfl, rfl⟩⟩
  slf := fun a q d tk => wpAny_pyIter_tupleiter a ⟨_, d, _, rfl, q⟩
  nxt := fun {A h Q it i} hi hl a k d tk => wpAny_pyNext_tuple_item a hl.is (x := xs[i]) (by simp [hi]) fun h' a' s' => ⟨h', d, _, rfl, k _ h' (by simp [hi]) s' a'⟩
  end_ := fun hh hl a k d tk => wpAny_pyNext_tuple_end hh a hl.is (by simp) fun h' e => ⟨h', d, _, rfl, k h' e⟩
  lot := fun a q => let ⟨o, g, hc, _⟩ := a; lot_of g hc (by decide) q
/-- tuples of two texts, alike -/
def Tup2v (h : Heap) (v : Value) (r : List Nat × List Nat) : Prop := ∃ a tn tt, v = .ref a ∧ Tup h a [.str (T r.1) tn, .str (T r.2) tt]
theorem eqr_tup2 {c : Cx} {A : Around} {h : Heap} (hu : A.units + 1 < cLine) : EqR c A h (Tup2v h) := fun v w x y ⟨a, t1, t2, e1, h1⟩ ⟨b, u1, u2, e2, h2⟩ d tk => by
  subst e1; subst e2
  by_cases q : a = b
  · subst q
    have e : x = y := by
      have e3 : (#[Value.str (T x.1) t1, .str (T x.2) t2] : Array Value) = #[Value.str (T y.1) u1, .str (T y.2) u2] := by
        have := congrArg (Option.map fun o : Obj => match o.data with | .seq a _ => a | _ => #[]) (h1.symm.trans h2)
        exact Option.some.inj this
      have e4 := congrArg (fun a : Array Value => match a[0]? with | some (.str s _) => s | _ => (⟨#[]⟩ : Str)) e3
      have e5 := congrArg (fun a : Array Value => match a[1]? with | some (.str s _) => s | _ => (⟨#[]⟩ : Str)) e3
      have e6 : T x.1 = T y.1 := e4
      have e7 : T x.2 = T y.2 := e5
      exact Prod.ext (T_inj.mp e6) (T_inj.mp e7)
    subst e
    rw [show decide (x = x) = true by simp]
    exact EqAt.same _
  · have hh := RcAt.tuples (A := A) (s := ⟨h, c.g, d, tk + 1, c.o⟩) (e := fun j => match j with | 0 => decide (x.1 = y.1) | _ => decide (x.2 = y.2)) h1.is h2.is (by omega) (fun j j1 j2 => by
      rcases j with _ | _ | j
      · exact eqr_str (c := c) (A := A.in1) (h := h) _ _ x.1 y.1 ⟨t1, rfl⟩ ⟨u1, rfl⟩ d tk
      · exact eqr_str (c := c) (A := A.in1) (h := h) _ _ x.2 y.2 ⟨t2, rfl⟩ ⟨u2, rfl⟩ d tk
      · exact absurd j1 (by simp))
    have e : ((List.range (min [Value.str (T x.1) t1, .str (T x.2) t2].toArray.size [Value.str (T y.1) u1, .str (T y.2) u2].toArray.size)).all (fun j => match j with | 0 => decide (x.1 = y.1) | _ => decide (x.2 = y.2)) && [Value.str (T x.1) t1, .str (T x.2) t2].toArray.size == [Value.str (T y.1) u1, .str (T y.2) u2].toArray.size) = decide (x = y) := by
      obtain ⟨x1, x2⟩ := x
      obtain ⟨y1, y2⟩ := y
      rw [Bool.eq_iff_iff]
      simp [List.range_succ]
    rw [e] at hh
    exact EqAt.of_refs q hh
end Mine
end

section
open PySem PySem.W PyProof.Rows PySem.Calls
set_option Elab.async false
set_option linter.unusedVariables false
set_option linter.unusedSimpArgs false
namespace Mine
/-! ## a comprehension whose own name is a cell -/
section
variable {c : Cx} {A : Around} {hb h : Heap} {V : List Addr} {env : Env} {ns : List Str} {vs : List (Option Value)} {D : List (Addr × Ob)} {P : Heap → Prop}
structure Cel (scope : Scope) (y f1 f2 : Str) : Prop where
  kind : scope.kind = .function
  shape : ∃ n0 n1, scope.names = [(n0, .local), (y, .cell), (n1, .globalImplicit), (f1, .free), (f2, .free)] ∧ (y == n0) = false ∧ (f1 == n0) = false ∧ (f2 == n0) = false ∧ (f1 == y) = false ∧ (f2 == y) = false ∧ (f1 == n1) = false ∧ (f2 == n1) = false ∧ (f2 == f1) = false
  dbg : ∀ x ∈ [y, f1, f2], (x == ("__debug__" : Str)) = false ∧ (x == ("__classdict__" : Str)) = false
theorem Cel.ly {scope : Scope} {y f1 f2 : Str} (k : Cel scope y f1 f2) : (relabel scope env).names.lookup y = some .cell := by
  obtain ⟨n0, n1, e, h1, _⟩ := k.shape
  show ((scope.names.map fun (n, k) => if (k == NameKind.free && env.scope.kind == .function && env.kindOf n == some .cell) then (n, NameKind.cell) else (n, k))).lookup y = _
  rw [e]
  simp [List.lookup_cons, h1, show ∀ s : Str, (s == s) = true from fun s => by simp]
theorem Cel.lf {scope : Scope} {y f1 f2 x : Str} (k : Cel scope y f1 f2) (hx : x = f1 ∨ x = f2) : scope.names.lookup x = some .free := by
  obtain ⟨n0, n1, e, h1, h2, h3, h4, h5, h6, h7, h8⟩ := k.shape
  rw [e]
  rcases hx with rfl | rfl
  · simp [List.lookup_cons, h2, h4, h6]
  · simp [List.lookup_cons, h3, h5, h7, h8]
theorem Cel.nd {scope : Scope} {y f1 f2 : Str} (k : Cel scope y f1 f2) : ([y, f1, f2] : List Str).Nodup := by
  obtain ⟨n0, n1, e, h1, h2, h3, h4, h5, h6, h7, h8⟩ := k.shape
  have a : y ≠ f1 := fun q => by rw [q] at h4; simp at h4
  have b : y ≠ f2 := fun q => by rw [q] at h5; simp at h5
  have d : f1 ≠ f2 := fun q => by rw [q] at h8; simp at h8
  simp [a, b, d]
theorem newEnv_cel {M : Model} {scope : Scope} {y f1 f2 : Str} (k : Cel scope y f1 f2) {g : Addr} {cl : List (Str × Addr)} {qual : Str} {E : Value → Shared → Prop} {s : Shared} {Q : Env → Shared → Prop}
    (hQ : ∀ h3, h3.Ns s.heap.objs.size (fun _ => none) → h3.IsCell (s.heap.objs.size + 1) none → (∀ b o, s.heap.get? b = some o → h3.get? b = some o) →
      Q { scope := scope, locals := s.heap.objs.size, globals := g, cells := (y, s.heap.objs.size + 1) :: cl, qual := qual, func := none, code := env.code, frame := env.frame, builtins := env.builtins } { s with heap := h3 }) :
    wpAny M A (newFunctionEnv scope g cl [] qual none .none (some env)) Q E s := by
  obtain ⟨n0, n1, e, _⟩ := k.shape
  unfold newFunctionEnv
  rw [e]
  refine wpAny_bind (wpAny_alloc ?_)
  simp only [List.forIn_cons, List.forIn_nil, show (NameKind.local == NameKind.cell) = false from rfl, show (NameKind.cell == NameKind.cell) = true from rfl, show (NameKind.globalImplicit == NameKind.cell) = false from rfl, show (NameKind.free == NameKind.cell) = false from rfl, Bool.false_eq_true, if_false, if_true, pure_bind, bind_assoc]
  refine wpAny_bind (wpAny_alloc ?_)
  have sz : (s.heap.push { cls := .type "dict", data := .dict #[] }).objs.size = s.heap.objs.size + 1 := Heap.size_push _ _
  refine wpAny_pure ?_
  have := hQ ((s.heap.push { cls := .type "dict", data := .dict #[] }).push { cls := .type "cell", data := .cell none }) ((Heap.Ns.new s.heap (.type "dict")).keeps fun b o e => Heap.get?_push_of_some _ e) ⟨_, by rw [← sz]; exact Heap.get?_push_size _ rfl, rfl⟩ (fun b o e => Heap.get?_push_of_some _ (Heap.get?_push_of_some _ e))
  simp only [Option.isSome_some, if_true, sz]
  exact this

abbrev celEnv (scope : Scope) (y : Str) (ca C : Addr) (env : Env) : Env := compEnvC scope ((y, ca) :: clOf env scope.names []) C env
theorem cel_look {scope : Scope} {y f1 f2 x : Str} (k : Cel scope y f1 f2) (hx : x = f1 ∨ x = f2) {ca b : Addr} (hb : env.cells.lookup x = some b) : ((y, ca) :: clOf env scope.names []).lookup x = some b := by
  have hne : (x == y) = false := by
    obtain ⟨n0, n1, e, h1, h2, h3, h4, h5, h6⟩ := k.shape
    rcases hx with rfl | rfl
    · exact h4
    · exact h5
  rw [List.lookup_cons, hne]
  exact clOf_look hb _ _ (.inl (mem_of_lookup (k.lf hx))) (fun b e => by cases e)
/-- a comprehension with one own name that is a cell, and two free ones; its list is the value -/
theorem Comp_cel {x : Value} {n : Nat} {T : Nat → Ob} {X : Nat → Value → Prop} {pre need : Heap → Prop} (It : It c x n T X pre need) {elt target iter : Expr} {ifs : List Expr} {scope : Scope} {pos : Pos} {y f1 f2 : Str} {fvs : List (Option Value)}
    {Q : Value → Heap → Prop} (hh : A.handled = none) (hn : n ≤ sizeLine) (S : St c hb V h env ns vs D P) (k : Cel scope y f1 f2) (hfr : ∀ x ∈ [f1, f2], x ∈ ns ∧ env.kindOf x ≠ some .local)
    (hfv : ∀ (j : Nat) (x : Str) (v : Value), ([f1, f2] : List Str)[j]? = some x → fvs[j]? = some (some v) → ∃ i : Nat, ns[i]? = some x ∧ vs[i]? = some (some v)) (hpre : pre h) (hneed : need h)
    (Inv : Nat → List Value → (Heap → Prop) → Prop) (i0 : Inv 0 [] P)
    (len : ∀ i ys P, Inv i ys P → ys.length ≤ i)
    (turn : ∀ i v acc it ca C h1 ys P1, i < n → X i v → Inv i ys P1 → h.get? acc = none → h.get? ca = none → (celEnv scope y ca C env).kindOf y = some .cell → (∀ x ∈ [f1, f2], (celEnv scope y ca C env).kindOf x ≠ some .local) → (celEnv scope y ca C env).cells.lookup y = some ca → (∀ x ∈ [f1, f2], ((celEnv scope y ca C env).cells.lookup x).isSome = true) →
      St c h [] h1 (celEnv scope y ca C env) [y, f1, f2] (none :: fvs) [(acc, .lst ys), (it, T (i + 1))] P1 →
      W c A (assign target (celEnv scope y ca C env) v) (fun _ h2 => W c A (tests ifs (celEnv scope y ca C env)) (fun ok h3 =>
        if ok = true then W c A (eval elt (celEnv scope y ca C env)) (fun z h4 => ∃ vs' P2, Keepv (none :: fvs) vs' ∧ Inv (i + 1) (ys ++ [z]) P2 ∧ St c h [] h4 (celEnv scope y ca C env) [y, f1, f2] vs' [(acc, .lst ys), (it, T (i + 1))] P2) h3
        else ∃ vs' P2, Keepv (none :: fvs) vs' ∧ Inv (i + 1) ys P2 ∧ St c h [] h3 (celEnv scope y ca C env) [y, f1, f2] vs' [(acc, .lst ys), (it, T (i + 1))] P2) h2) h1)
    (use : Option (Value → Sem Unit))
    (fin : ∀ h1 acc C ys P1, Inv n ys P1 → h.get? acc = none → h.get? C = none → (∃ m, h1.Ns C m) → acc ≠ C → Eff c [] h h1 → At h1 acc (.lst ys) → (∀ V a b, Eff c V a b → P1 a → P1 b) → P1 h1 →
      ∀ d tk, compPost (model c.prog c.w) A (fun _ _ => False) use (fun a s' => ∃ h' d' tk', s' = ⟨h', c.g, d', tk', c.o⟩ ∧ Q a h') (.ref acc) C (.ok .next) ⟨h1, c.g, d, tk + 1, c.o⟩) :
    Comp c A (.ListComp elt [⟨target, iter, ifs, 0⟩] scope pos) scope (clOf env scope.names []) env use x Q h := fun d tk => by
  refine W_any (It.opn (Q := fun v h1 => ∃ it, v = .ref it ∧ h.get? it = none ∧ Eff c [] h h1 ∧ At h1 it (T 0)) hpre fun it h' a b e => ⟨it, rfl, a, b, e⟩) ?_
  rintro v h1 d1 tk1 ⟨it, rfl, itn, e1, at1⟩
  refine wpAny_newList ?_
  refine newEnv_cel k fun h3 n3 c3 kk3 => ?_
  have accn1 : h1.get? h1.objs.size = none := get_size _
  have hl2 : (h1.push { cls := .type "list", data := .seq ([] : List Value).toArray }).get? h1.objs.size = some { cls := .type "list", data := .seq ([] : List Value).toArray } := Heap.get?_push_size _ rfl
  have Cn2 := get_size (h1.push { cls := .type "list", data := .seq ([] : List Value).toArray })
  have can2 : (h1.push { cls := .type "list", data := .seq ([] : List Value).toArray }).get? ((h1.push { cls := .type "list", data := .seq ([] : List Value).toArray }).objs.size + 1) = none := get_ge (Nat.le_succ _)
  have accn : h.get? h1.objs.size = none := by
    cases q : h.get? h1.objs.size with
    | none => rfl
    | some o => rw [e1.keep _ _ q] at accn1; cases accn1
  have e2 : Eff c [] h1 (h1.push { cls := .type "list", data := .seq ([] : List Value).toArray }) := .push _ _
  have k3 : ∀ b o, (h1.push { cls := .type "list", data := .seq ([] : List Value).toArray }).get? b = some o → h3.get? b = some o := kk3
  have E3 : Eff c [] h h3 := (e1.trans e2).trans (.of_keep k3)
  have Cn : h.get? (h1.push { cls := .type "list", data := .seq ([] : List Value).toArray }).objs.size = none := by
    cases q : h.get? (h1.push { cls := .type "list", data := .seq ([] : List Value).toArray }).objs.size with
    | none => rfl
    | some o => rw [(e1.trans e2).keep _ _ q] at Cn2; cases Cn2
  have can : h.get? ((h1.push { cls := .type "list", data := .seq ([] : List Value).toArray }).objs.size + 1) = none := by
    cases q : h.get? ((h1.push { cls := .type "list", data := .seq ([] : List Value).toArray }).objs.size + 1) with
    | none => rfl
    | some o => rw [(e1.trans e2).keep _ _ q] at can2; cases can2
  obtain ⟨oi, gi, si⟩ := at1
  have it_ne_acc : it ≠ h1.objs.size := fun q => by rw [q, accn1] at gi; cases gi
  have it_ne_C : it ≠ (h1.push { cls := .type "list", data := .seq ([] : List Value).toArray }).objs.size := fun q => by have := e2.keep _ _ gi; rw [q, Cn2] at this; cases this
  have acc_ne_C : h1.objs.size ≠ (h1.push { cls := .type "list", data := .seq ([] : List Value).toArray }).objs.size := fun q => by rw [q, Cn2] at hl2; cases hl2
  have hgl2 := k3 _ _ hl2
  have hgi := k3 _ _ (e2.keep _ _ gi)
  have n3 : h3.Ns (h1.push { cls := .type "list", data := .seq ([] : List Value).toArray }).objs.size (fun _ => none) := n3
  have c3 : h3.IsCell ((h1.push { cls := .type "list", data := .seq ([] : List Value).toArray }).objs.size + 1) none := c3
  show codeAny _ _ (.compStart (.ListComp elt [⟨target, iter, ifs, 0⟩] scope pos) 0 (.ref it) (.ref h1.objs.size) (celEnv scope y ((h1.push { cls := .type "list", data := .seq ([] : List Value).toArray }).objs.size + 1) (h1.push { cls := .type "list", data := .seq ([] : List Value).toArray }).objs.size env)) _ _
  have C_ne : (h1.push { cls := .type "list", data := .seq ([] : List Value).toArray }).objs.size ≠ (h1.push { cls := .type "list", data := .seq ([] : List Value).toArray }).objs.size + 1 := Nat.ne_of_lt (Nat.lt_succ_self _)
  dsimp only
  generalize (h1.push { cls := .type "list", data := .seq ([] : List Value).toArray }).objs.size + 1 = ca at *
  generalize (h1.push { cls := .type "list", data := .seq ([] : List Value).toArray }).objs.size = C at *
  generalize h1.objs.size = acc at *
  have ky : (celEnv scope y ca C env).kindOf y = some .cell := k.ly
  have kf : ∀ x ∈ [f1, f2], ((celEnv scope y ca C env).kindOf x = some .cell ∨ (celEnv scope y ca C env).kindOf x = some .free) := fun x m => relabel_free (k.lf (by simpa using m))
  have kfl : ∀ x ∈ [f1, f2], (celEnv scope y ca C env).kindOf x ≠ some .local := fun x m => by rcases kf x m with e | e <;> rw [e] <;> decide
  have cly : (celEnv scope y ca C env).cells.lookup y = some ca := by show List.lookup y ((y, ca) :: _) = _; rw [List.lookup_cons]; simp
  have hc : ∀ x ∈ [f1, f2], ∃ b, env.cells.lookup x = some b ∧ (celEnv scope y ca C env).cells.lookup x = some b := fun x m => by
    rcases S.fm.names x (hfr x m).1 with e | ⟨_, b, hb⟩
    · exact absurd e (hfr x m).2
    · exact ⟨b, hb, cel_look k (by simpa using m) hb⟩
  have hcs : ∀ x ∈ [f1, f2], ((celEnv scope y ca C env).cells.lookup x).isSome = true := fun x m => by obtain ⟨b, _, e⟩ := hc x m; rw [e]; rfl
  have oldcell : ∀ x ∈ [f1, f2], ∀ b, (celEnv scope y ca C env).cells.lookup x = some b → b ≠ ca := fun x m b e q => by
    obtain ⟨b', e1', e2'⟩ := hc x m
    rw [e2'] at e; cases e
    obtain ⟨v, K⟩ := S.cel x (hfr x m).1 (hfr x m).2 b e1'
    obtain ⟨o, g, _⟩ := K
    rw [q, can] at g; cases g
  have fm' : Fm (celEnv scope y ca C env) [y, f1, f2] := by
    refine ⟨k.kind, k.nd, fun x m => ?_, k.dbg, fun x mx z mz a kx kz lx lz => ?_⟩
    · rcases List.mem_cons.mp m with rfl | m
      · exact .inr ⟨.inl ky, ca, cly⟩
      · obtain ⟨b, _, e⟩ := hc x m
        exact .inr ⟨kf x m, b, e⟩
    · rcases List.mem_cons.mp mx with ex | mx <;> rcases List.mem_cons.mp mz with ez | mz
      · rw [ex, ez]
      · rw [ex, cly] at lx; cases lx; exact absurd rfl (oldcell z mz _ lz)
      · rw [ez, cly] at lz; cases lz; exact absurd rfl (oldcell x mx _ lx)
      · obtain ⟨b1, q1, q2⟩ := hc x mx
        obtain ⟨b2, q3, q4⟩ := hc z mz
        rw [q2] at lx; cases lx
        rw [q4] at lz; cases lz
        exact S.fm.inj x (hfr x mx).1 z (hfr z mz).1 _ (hfr x mx).2 (hfr z mz).2 q1 q3
  have S3 : St c h [] h3 (celEnv scope y ca C env) [y, f1, f2] (none :: fvs) [(acc, .lst []), (it, T 0)] P := {
    fm := fm'
    loc := ⟨_, n3, fun i x v hx hv => by
      cases i with
      | zero => cases hv
      | succ i =>
        have hx : ([f1, f2] : List Str)[i]? = some x := hx
        have hv : fvs[i]? = some (some v) := hv
        have xfr := List.mem_of_getElem? hx
        refine ⟨fun l => absurd l (kfl x xfr), fun a nl l => ?_⟩
        obtain ⟨b, q1, q2⟩ := hc x xfr
        rw [q2] at l; cases l
        obtain ⟨i', a1, a2⟩ := hfv _ x v hx hv
        obtain ⟨m, _, kk⟩ := S.loc
        exact ((kk i' x v a1 a2).2 _ (hfr x xfr).2 q1).keeps E3.keep⟩
    cel := fun x m kk a l => by
      rcases List.mem_cons.mp m with rfl | m
      · rw [cly] at l; cases l; exact ⟨_, c3⟩
      · obtain ⟨b, q1, q2⟩ := hc x m
        rw [q2] at l; cases l
        obtain ⟨v, K⟩ := S.cel x (hfr x m).1 (hfr x m).2 _ q1
        exact ⟨v, K.keeps E3.keep⟩
    led := fun p m => by
      rcases List.mem_cons.mp m with rfl | m
      · exact ⟨_, hgl2, 0, rfl⟩
      · rw [List.mem_singleton.mp m]
        exact ⟨oi, hgi, si⟩
    ap := by
      simp only [List.map_cons, List.map_nil, List.nodup_cons, List.mem_cons, List.not_mem_nil, or_false, not_or, not_false_eq_true, List.nodup_nil, and_true]
      exact ⟨⟨fun q => acc_ne_C q.symm, fun q => it_ne_C q.symm⟩, fun q => it_ne_acc q.symm⟩
    eff := E3
    newL := Cn
    newD := fun p m => by
      rcases List.mem_cons.mp m with rfl | m
      · exact ⟨S.okh.none accn, .inl accn⟩
      · rw [List.mem_singleton.mp m]; exact ⟨S.okh.none itn, .inl itn⟩
    ok := S.okh
    perm := S.perm
    p := S.perm _ _ _ E3 S.p }
  have loop : ∀ h3 (S3 : St c h [] h3 (celEnv scope y ca C env) [y, f1, f2] (none :: fvs) [(acc, .lst []), (it, T 0)] P),
      CW c A (.compLoop (.ListComp elt [⟨target, iter, ifs, 0⟩] scope pos) 0 (.ref it) (.ref acc) (celEnv scope y ca C env))
        (fun _ h' => ∃ ys P1, Inv n ys P1 ∧ (∃ m, h'.Ns C m) ∧ Eff c [] h h' ∧ At h' acc (.lst ys) ∧ (∀ V a b, Eff c V a b → P1 a → P1 b) ∧ P1 h') h3 := fun h3 S3 => by
    refine CW_comp (fun m h1 => ∃ i ys P1, m = n - i ∧ i ≤ n ∧ Inv i ys P1 ∧ St c h [] h1 (celEnv scope y ca C env) [y, f1, f2] (none :: fvs) [(acc, .lst ys), (it, T i)] P1) ?_ n ⟨0, [], P, by omega, by omega, i0, S3⟩
    rintro m h1 ⟨i, ys, P1, rfl, hi, inv, S1⟩
    have nd1 : need h1 := It.stb _ _ S1.eff hneed
    have S1' : St c h [] h1 (celEnv scope y ca C env) [y, f1, f2] (none :: fvs) ([(acc, .lst ys)] ++ [(it, T i)]) P1 := S1
    by_cases hlt : i < n
    · refine It.nxt hlt nd1 S1'.atLast fun v h2 xv s2 at2 => ?_
      have S2 : St c h [] h2 (celEnv scope y ca C env) [y, f1, f2] (none :: fvs) [(acc, .lst ys), (it, T (i + 1))] P1 := S1'.updLast (.of_same s2 S1'.lastLo.1 S1'.lastLo.2) at2
      refine It.lot (i := i + 1) at2 (W_mono (turn i v acc it ca C h2 ys P1 hlt xv inv accn can ky kfl cly hcs S2) fun _ h3 q => W_mono q fun ok h4 q => ?_)
      cases ok with
      | false =>
        obtain ⟨vs', P2, kv, inv', S4⟩ := q
        exact ⟨n - (i + 1), by omega, i + 1, ys, P2, rfl, hlt, inv', S4.weaken kv (List.Sublist.refl _)⟩
      | true =>
        refine W_mono (show W c A _ _ _ from q) fun z h5 q => ?_
        obtain ⟨vs', P2, kv, inv', S5⟩ := q
        have hlen := len i ys P1 inv
        refine F_append (S5.getL (j := 0) rfl) (by omega) fun h6 s6 at6 => ?_
        have S6 := S5.upd (j := 0) (b' := .lst (ys ++ [z])) rfl (.of_same s6 (S5.loSet (j := 0) rfl) (S5.ntAt (j := 0) rfl)) at6
        exact ⟨n - (i + 1), by omega, i + 1, ys ++ [z], P2, rfl, hlt, inv', S6.weaken kv (List.Sublist.refl _)⟩
    · have : i = n := by omega
      subst this
      refine It.end_ hh nd1 S1'.atLast fun h2 x2 => ?_
      have S2 := S1'.dropLast x2
      obtain ⟨m, nm, _⟩ := S2.loc
      exact ⟨ys, P1, inv, ⟨m, nm⟩, S2.eff, S2.led (acc, .lst ys) (by simp), S2.perm, S2.p⟩
  have post : ∀ h3 (S3 : St c h [] h3 (celEnv scope y ca C env) [y, f1, f2] (none :: fvs) [(acc, .lst []), (it, T 0)] P) d tk,
      codeAny (model c.prog c.w) A (.compLoop (.ListComp elt [⟨target, iter, ifs, 0⟩] scope pos) 0 (.ref it) (.ref acc) (celEnv scope y ca C env))
        (compPost (model c.prog c.w) A (fun _ _ => False) use (fun a s' => ∃ h' d' tk', s' = ⟨h', c.g, d', tk', c.o⟩ ∧ Q a h') (.ref acc) C) ⟨h3, c.g, d, tk + 1, c.o⟩ := fun h3 S3 d tk =>
    CW_any (loop h3 S3) fun f h' d' tk' q => by
      obtain ⟨ys, P1, inv, hm, E, a, pf, p1⟩ := q
      have := fin h' acc C ys P1 inv accn Cn hm acc_ne_C E a pf p1 d' tk'
      cases use <;> exact this
  have S3' : St c h [] h3 (celEnv scope y ca C env) [y, f1, f2] (none :: fvs) ([(acc, .lst [])] ++ [(it, T 0)]) P := S3
  exact codeAny_compStart_list (post h3 S3 _ _) (W_any (It.slf S3'.atLast (Q := fun v h' => v = .ref it ∧ h' = h3) ⟨rfl, rfl⟩) fun v h' d' tk' q => by obtain ⟨rfl, rfl⟩ := q; exact post _ S3 d' tk')
/-- its list is bound to a name -/
theorem Comp_cel_use {x : Value} {n : Nat} {T : Nat → Ob} {X : Nat → Value → Prop} {pre need : Heap → Prop} (It : It c x n T X pre need) {elt target iter : Expr} {ifs : List Expr} {scope : Scope} {pos py : Pos} {y f1 f2 : Str} {fvs : List (Option Value)}
    {Q : Value → Heap → Prop} (q : Nat) {z : Str} (hy : ns[q]? = some z) (hown : Own env hb z) (hh : A.handled = none) (hn : n ≤ sizeLine) (S : St c hb V h env ns vs D P) (k : Cel scope y f1 f2) (hfr : ∀ x ∈ [f1, f2], x ∈ ns ∧ env.kindOf x ≠ some .local)
    (hfv : ∀ (j : Nat) (x : Str) (v : Value), ([f1, f2] : List Str)[j]? = some x → fvs[j]? = some (some v) → ∃ i : Nat, ns[i]? = some x ∧ vs[i]? = some (some v)) (hpre : pre h) (hneed : need h)
    (Inv : Nat → List Value → (Heap → Prop) → Prop) (i0 : Inv 0 [] P)
    (len : ∀ i ys P, Inv i ys P → ys.length ≤ i)
    (turn : ∀ i v acc it ca C h1 ys P1, i < n → X i v → Inv i ys P1 → h.get? acc = none → h.get? ca = none → (celEnv scope y ca C env).kindOf y = some .cell → (∀ x ∈ [f1, f2], (celEnv scope y ca C env).kindOf x ≠ some .local) → (celEnv scope y ca C env).cells.lookup y = some ca → (∀ x ∈ [f1, f2], ((celEnv scope y ca C env).cells.lookup x).isSome = true) →
      St c h [] h1 (celEnv scope y ca C env) [y, f1, f2] (none :: fvs) [(acc, .lst ys), (it, T (i + 1))] P1 →
      W c A (assign target (celEnv scope y ca C env) v) (fun _ h2 => W c A (tests ifs (celEnv scope y ca C env)) (fun ok h3 =>
        if ok = true then W c A (eval elt (celEnv scope y ca C env)) (fun z h4 => ∃ vs' P2, Keepv (none :: fvs) vs' ∧ Inv (i + 1) (ys ++ [z]) P2 ∧ St c h [] h4 (celEnv scope y ca C env) [y, f1, f2] vs' [(acc, .lst ys), (it, T (i + 1))] P2) h3
        else ∃ vs' P2, Keepv (none :: fvs) vs' ∧ Inv (i + 1) ys P2 ∧ St c h [] h3 (celEnv scope y ca C env) [y, f1, f2] vs' [(acc, .lst ys), (it, T (i + 1))] P2) h2) h1)
    (fin : ∀ h1 acc ys P1, Inv n ys P1 → St c hb V h1 env ns (vs.set q (some (.ref acc))) (D ++ [(acc, .lst ys)]) P1 → Q .none h1) :
    Comp c A (.ListComp elt [⟨target, iter, ifs, 0⟩] scope pos) scope (clOf env scope.names []) env (some (assign (.Name z py) env)) x Q h := by
  refine Comp_cel It hh hn S k hfr hfv hpre hneed Inv i0 len turn _ ?_
  rintro h1 acc C ys P1 inv accn Cn ⟨m, nm⟩ aC E at1 pf p1 d tk
  obtain ⟨o, ao⟩ := ns_raw nm
  obtain ⟨a1, a2, a3, a4⟩ := S.new_of accn
  obtain ⟨b1, b2, b3, b4⟩ := S.new_of Cn
  have S1 := ((S.step E).less p1 pf).add a1 a2 a3 a4 at1
  have S2 := S1.add (a := C) (b := .raw o) b1 (fun p q => by
    rcases List.mem_append.mp q with q | q
    · exact b2 p q
    · rw [List.mem_singleton.mp q]; exact aC) b3 b4 ao
  refine W_any (A_name (N_store S2 q hy hown (Q := fun _ h2 => St c hb V h2 env ns (vs.set q (some (.ref acc))) (D ++ [(acc, .lst ys)] ++ [(C, .raw o)]) P1) fun h2 S3 => S3)) ?_
  intro _ h2 d2 tk2 S3
  obtain ⟨o', go, eo, _⟩ := S3.atLast
  subst eo
  obtain ⟨om, es, ep, gm, dm, km, fm⟩ := nm
  have : o' = om := by
    obtain ⟨o2, g2, e2, _⟩ := ao
    rw [gm] at g2; cases g2; exact e2.symm
  subst this
  exact ⟨m, ⟨o', es, ep, go, dm, km, fm⟩, fun h3 s3 => ⟨h3, d2, _, rfl, fin h3 acc ys P1 inv (S3.dropLast s3.extBut)⟩⟩
end
end Mine
end

section
open PySem PySem.W PyProof.Rows PySem.Calls
set_option Elab.async false
set_option linter.unusedVariables false
set_option linter.unusedSimpArgs false
namespace Mine
/-! ## set comprehensions of texts that all differ -/
section
variable {c : Cx} {A : Around} {h : Heap} {env : Env}
abbrev SetS (c : Cx) (h : Heap) (a : Addr) (S : Str → Bool) (n : Nat) : Prop := h.SetOf (PySem.strKind c.prog c.w) a S n
theorem SetS.raw {a : Addr} {S : Str → Bool} {n : Nat} (x : SetS c h a S n) : ∃ o, At h a (.raw o) ∧ ∀ h2 : Heap, h2.get? a = some o → SetS c h2 a S n := by
  obtain ⟨o, es, ep, t, ho, hex, hd, rest⟩ := x
  refine ⟨o, ⟨o, ho, rfl, fun tt => ?_, fun v e => ?_⟩, fun h2 g => ⟨o, es, ep, t, g, hex, hd, rest⟩⟩
  · obtain ⟨_, xs, k, e⟩ := tt; rw [hd] at e; cases e
  · rw [hd] at e; cases e
theorem compTurn_set (elt target iter : Expr) (ifs : List Expr) (scope : Scope) (pos : Pos) (it acc : Value) (env : Env) :
    compTurn (.SetComp elt [⟨target, iter, ifs, 0⟩] scope pos) 0 it acc env = (do
      standAt iter.pos
      match ← pyNext it with
      | none => pure (.done .next)
      | some v =>
        letOwnedTupleGo target it v
        assign target env v
        let mut ok := true
        for c in ifs do
          if ok then ok ← isTrue c env (eval c env)
        if ok then
          (do let v ← eval elt env; standAt elt.pos; let _ ← call (.builtin "set.add") [acc, v])
        again (.compLoop (.SetComp elt [⟨target, iter, ifs, 0⟩] scope pos) 0 it acc env)) := by rfl
def CompS (c : Cx) (A : Around) (e : Expr) (scope : Scope) (cl : List (Str × Addr)) (env : Env) (x : Value) (Q : Value → Heap → Prop) (h : Heap) : Prop :=
  ∀ d tk, wpAny (model c.prog c.w) A (pyIter x) (fun it s₂ => wpAny (model c.prog c.w) A (newSet (.type "set")) (fun acc s₃ => wpAny (model c.prog c.w) A (newFunctionEnv scope env.globals cl [] env.qual none .none (some env)) (fun cenv s₄ =>
    codeAny (model c.prog c.w) A (.compStart e 0 it acc { cenv with scope := relabel scope env }) (compPost (model c.prog c.w) A (fun _ _ => False) none (fun a s' => ∃ h' d' tk', s' = ⟨h', c.g, d', tk', c.o⟩ ∧ Q a h') acc cenv.locals) s₄)
    (fun _ _ => False) s₃) (fun _ _ => False) s₂) (fun _ _ => False) ⟨h, c.g, d, tk + 1, c.o⟩
theorem E_scomp {elt target iter : Expr} {ifs : List Expr} {scope : Scope} {own fr : List Str} {pos : Pos} {Q : Value → Heap → Prop} (ck : CompOk scope own fr) (hcells : ∀ x ∈ fr, (env.cells.lookup x).isSome = true)
    (k : W c A (eval iter env) (fun x h1 => CompS c A (.SetComp elt [⟨target, iter, ifs, 0⟩] scope pos) scope (clOf env scope.names []) env x Q h1) h)
    (hs : ∀ x, foldedSetIterable iter env x = pure x := by intro _; rfl) : W c A (eval (.SetComp elt [⟨target, iter, ifs, 0⟩] scope pos) env) Q h := fun d tk => by
  rw [arm_eval_SetComp]
  exact wpAny_comprehension_free (g := ⟨target, iter, ifs, 0⟩) (gs := []) rfl hs (closureFor_eq scope env fun n m => hcells n (ck.all n m)) ck.kind ck.loc (W_any k fun x h1 d1 tk1 q => q d1 tk1)
theorem codeAny_compStart_set {prog : Program} {w : World} {s : Shared} {R : Result → Shared → Prop} {elt target iter ifs rest scope pos it acc}
    (h0 : codeAny (model prog w) A (.compLoop (.SetComp elt (⟨target, iter, ifs, 0⟩ :: rest) scope pos) 0 it acc env) R s)
    (h : wpAny (model prog w) A (pyIter it) (fun it' s' => codeAny (model prog w) A (.compLoop (.SetComp elt (⟨target, iter, ifs, 0⟩ :: rest) scope pos) 0 it' acc env) R s')
      (notedBy (model prog w) A env fun x s' => R (.error x) s') s) :
    codeAny (model prog w) A (.compStart (.SetComp elt (⟨target, iter, ifs, 0⟩ :: rest) scope pos) 0 it acc env) R s := by
  refine codeAny_of_tree ?_
  show wpAny _ _ ((compStart (.SetComp elt (⟨target, iter, ifs, 0⟩ :: rest) scope pos) 0 it acc env).onRaise (fun x => do noteFrame x env; standAt theWindowsPlace)) _ _ s
  refine wpAny_notedAt ?_
  unfold compStart
  show wpAny _ _ (ask >>= _) _ _ s
  refine wpAny_bind (wpAny_askSetting (wpAny_ite ?_))
  split
  · first
      | exact wpAny_bind (wpAny_pure (wpAny_pure (And.intro rfl h0)))
      | exact wpAny_pure (And.intro rfl h0)
  · first
      | exact wpAny_bind (wpAny_rule (wpAny_bind (wpAny_standAt (wpAny_bind (wpAny_mono h (fun it' s' h' => wpAny_pure (And.intro rfl h')) fun _ _ x => x)))))
      | (refine wpAny_bind (wpAny_rule ?_); show wpAny _ _ (standAt iter.pos >>= _) _ _ s; exact wpAny_bind (wpAny_standAt (wpAny_bind (wpAny_mono h (fun it' s' h' => wpAny_pure (And.intro rfl h')) fun _ _ x => x))))
theorem CW_scomp {elt target iter : Expr} {scope : Scope} {pos : Pos} {it acc : Value} {R : Heap → Prop} (I : Nat → Heap → Prop)
    (turn : ∀ n h, I n h → W c A (pyNext it) (fun r h1 => match r with
      | none => R h1
      | some v => W c A (letOwnedTupleGo target it v) (fun _ h1 => W c A (assign target env v) (fun _ h2 => W c A (eval elt env) (fun x h4 => W c A (call (.builtin "set.add") [acc, x]) (fun _ h5 => ∃ m, m < n ∧ I m h5) h4) h2) h1) h1) h)
    (n : Nat) (i : I n h) : CW c A (.compLoop (.SetComp elt [⟨target, iter, [], 0⟩] scope pos) 0 it acc env) (fun _ => R) h := fun d tk => by
  refine codeAny_loop rfl (fun n s => ∃ h d tk, s = ⟨h, c.g, d, tk + 1, c.o⟩ ∧ I n h) (fun n s hI => ?_) n ⟨h, d, _, rfl, i⟩
  obtain ⟨h, d, _, rfl, hI⟩ := hI
  show wpAny _ A ((compTurn (.SetComp elt [⟨target, iter, [], 0⟩] scope pos) 0 it acc env).onRaise (fun x => do noteFrame x env; theTreesLotGoes x)) _ _ _
  refine wpAny_noted ?_
  rw [compTurn_set]
  refine wpAny_bind (wpAny_standAt (wpAny_bind (W_any (turn n h hI) fun r h1 d1 tk1 q => ?_)))
  cases r with
  | none => exact wpAny_pure ⟨_, h1, d1, _, rfl, rfl, q⟩
  | some v =>
    refine wpAny_bind (W_any q fun _ h1 d1 tk1 q => wpAny_bind (W_any q fun _ h2 d2 tk2 q => ?_))
    show wpAny _ _ (forIn [] true _ >>= _) _ _ _
    rw [List.forIn_nil]
    refine wpAny_bind (wpAny_pure ?_)
    refine wpAny_bind (wpAny_bind (W_any q fun x h4 d4 tk4 q => wpAny_bind (wpAny_standAt (wpAny_bind (W_any q fun _ h5 d5 tk5 q => ?_)))))
    obtain ⟨m, hm, hi⟩ := q
    exact wpAny_pure (wpAny_pure ⟨rfl, m, hm, h5, d5, _, rfl, hi⟩)
theorem F_lenset {a : Addr} {S : Str → Bool} {n : Nat} {Q : Value → Heap → Prop} (x : SetS c h a S n) (hn : n ≤ 1000) (q : ∀ t, Q (.int (n : Nat) t) h) : W c A (call (.builtin "len") [.ref a]) Q h := fun d tk => by
  obtain ⟨o, es, ep, t, ho, hex, hd, _, _, _, hf, hsz⟩ := x
  exact call_len_set ho hex hd hf (by omega) ⟨h, d, _, rfl, by rw [hsz]; exact q _⟩
end
section
variable {c : Cx} {A : Around} {hb h : Heap} {V : List Addr} {env : Env} {ns : List Str} {vs : List (Option Value)} {D : List (Addr × Ob)} {P : Heap → Prop}
theorem Comp_set {x : Value} {n : Nat} {T' : Nat → Ob} {X : Nat → Value → Prop} {pre need : Heap → Prop} (It : It c x n T' X pre need) {elt target iter : Expr} {scope : Scope} {pos : Pos} {own : List Str}
    {Q : Value → Heap → Prop} (hh : A.handled = none) (hn : n ≤ 1000) (S : St c hb V h env ns vs D P) (ck : CompOk scope own []) (hpre : pre h) (hneed : need h)
    (ks : List (List Nat)) (hks : ks.length = n) (nd : ks.Nodup)
    (turn : ∀ i v acc it o C h1, i < n → X i v → h.get? acc = none → St c h [] h1 (compEnvC scope (clOf env scope.names []) C env) own (own.map fun _ => none) [(acc, .raw o), (it, T' (i + 1))] P →
      W c A (assign target (compEnvC scope (clOf env scope.names []) C env) v) (fun _ h2 => W c A (eval elt (compEnvC scope (clOf env scope.names []) C env)) (fun y h4 => ∃ t k vs', y = .str (T k) t ∧ ks[i]? = some k ∧
        St c h [] h4 (compEnvC scope (clOf env scope.names []) C env) own vs' [(acc, .raw o), (it, T' (i + 1))] P) h2) h1)
    (fin : ∀ h1 acc Sf, SetS c h1 acc Sf n → St c hb V h1 env ns vs D P → Q (.ref acc) h1) :
    CompS c A (.SetComp elt [⟨target, iter, [], 0⟩] scope pos) scope (clOf env scope.names []) env x Q h := fun d tk => by
  refine W_any (It.opn (Q := fun v h1 => ∃ it, v = .ref it ∧ h.get? it = none ∧ Eff c [] h h1 ∧ At h1 it (T' 0)) hpre fun it h' a b e => ⟨it, rfl, a, b, e⟩) ?_
  rintro v h1 d1 tk1 ⟨it, rfl, itn, e1, at1⟩
  refine wpAny_newSet_of (knd := PySem.strKind c.prog c.w) fun led s0 => ?_
  refine wpAny_newFunctionEnv ck.nocell (fun x m => nomatch m) (fun h3 n3 s3 => ?_) ck.kind
  have accn1 : h1.get? h1.objs.size = none := get_size _
  have s0' : SetS c (h1.push { cls := .type "set", dict := none, data := .set #[] 0 (.fresh 0 0 led) }) h1.objs.size (fun _ => false) 0 := s0
  obtain ⟨o0, ⟨oo, go, eo, so1, so2⟩, ro0⟩ := s0'.raw
  subst eo
  show codeAny _ _ _ (compPost _ _ _ _ _ _ (h1.push { cls := .type "set", dict := none, data := .set #[] 0 (.fresh 0 0 led) }).objs.size) ⟨h3, c.g, d1, _, c.o⟩
  have n3 : h3.Ns (h1.push { cls := .type "set", dict := none, data := .set #[] 0 (.fresh 0 0 led) }).objs.size _ := n3
  have s3 : Heap.SameBut (h1.push { cls := .type "set", dict := none, data := .set #[] 0 (.fresh 0 0 led) }).objs.size ((h1.push { cls := .type "set", dict := none, data := .set #[] 0 (.fresh 0 0 led) }).push _) h3 := s3
  have Cn2 := get_size (h1.push { cls := .type "set", dict := none, data := .set #[] 0 (.fresh 0 0 led) })
  have accn : h.get? h1.objs.size = none := by
    cases q : h.get? h1.objs.size with
    | none => rfl
    | some o => rw [e1.keep _ _ q] at accn1; cases accn1
  have e2 : Eff c [] h1 (h1.push { cls := .type "set", dict := none, data := .set #[] 0 (.fresh 0 0 led) }) := .push _ _
  have k3 : ∀ b o, (h1.push { cls := .type "set", dict := none, data := .set #[] 0 (.fresh 0 0 led) }).get? b = some o → h3.get? b = some o := fun b o e => by
    have hne : b ≠ (h1.push { cls := .type "set", dict := none, data := .set #[] 0 (.fresh 0 0 led) }).objs.size := fun q => by rw [q, Cn2] at e; cases e
    exact s3.extBut b o hne (Heap.get?_push_of_some _ e)
  have E3 : Eff c [] h h3 := (e1.trans e2).trans (.of_keep k3)
  have Cn : h.get? (h1.push { cls := .type "set", dict := none, data := .set #[] 0 (.fresh 0 0 led) }).objs.size = none := by
    cases q : h.get? (h1.push { cls := .type "set", dict := none, data := .set #[] 0 (.fresh 0 0 led) }).objs.size with
    | none => rfl
    | some o => rw [(e1.trans e2).keep _ _ q] at Cn2; cases Cn2
  obtain ⟨oi, gi, si⟩ := at1
  have it_ne_acc : it ≠ h1.objs.size := fun q => by rw [q, accn1] at gi; cases gi
  have it_ne_C : it ≠ (h1.push { cls := .type "set", dict := none, data := .set #[] 0 (.fresh 0 0 led) }).objs.size := fun q => by have := e2.keep _ _ gi; rw [q, Cn2] at this; cases this
  have acc_ne_C : h1.objs.size ≠ (h1.push { cls := .type "set", dict := none, data := .set #[] 0 (.fresh 0 0 led) }).objs.size := fun q => by rw [q, Cn2] at go; cases go
  have hgl2 := k3 _ _ go
  have hgi := k3 _ _ (e2.keep _ _ gi)
  have fm' := Fm_comp (C := (h1.push { cls := .type "set", dict := none, data := .set #[] 0 (.fresh 0 0 led) }).objs.size) S.fm ck (fun _ m => nomatch m)
  rw [List.append_nil] at fm'
  generalize (h1.push { cls := .type "set", dict := none, data := .set #[] 0 (.fresh 0 0 led) }).objs.size = C at *
  generalize h1.objs.size = acc at *
  have hloc : ∀ x ∈ own, (compEnvC scope (clOf env scope.names []) C env).kindOf x = some .local := fun x m => lookup_relabel_local (ck.loco x m)
  have S3 : St c h [] h3 (compEnvC scope (clOf env scope.names []) C env) own (own.map fun _ => none) [(acc, .raw oo), (it, T' 0)] P := {
    fm := fm'
    loc := ⟨_, n3, fun i x v hx hv => by
      rw [List.getElem?_map] at hv
      cases q : own[i]? with
      | none => rw [q] at hv; cases hv
      | some y => rw [q] at hv; cases hv⟩
    cel := fun x m k a l => absurd (hloc x m) k
    led := fun p m => by
      rcases List.mem_cons.mp m with rfl | m
      · exact ⟨_, hgl2, rfl, so1, so2⟩
      · rw [List.mem_singleton.mp m]
        exact ⟨oi, hgi, si⟩
    ap := by
      simp only [List.map_cons, List.map_nil, List.nodup_cons, List.mem_cons, List.not_mem_nil, or_false, not_or, not_false_eq_true, List.nodup_nil, and_true]
      exact ⟨⟨fun q => acc_ne_C q.symm, fun q => it_ne_C q.symm⟩, fun q => it_ne_acc q.symm⟩
    eff := E3
    newL := Cn
    newD := fun p m => by
      rcases List.mem_cons.mp m with rfl | m
      · exact ⟨S.okh.none accn, .inl accn⟩
      · rw [List.mem_singleton.mp m]; exact ⟨S.okh.none itn, .inl itn⟩
    ok := S.okh
    perm := S.perm
    p := S.perm _ _ _ E3 S.p }
  have ss3 : SetS c h3 acc (fun k => decide (k ∈ (ks.take 0).map T)) 0 := by simpa using ro0 h3 hgl2
  clear ro0 go hgl2 s0 s0'
  have loop : ∀ h3, (∃ o, St c h [] h3 (compEnvC scope (clOf env scope.names []) C env) own (own.map fun _ => none) [(acc, .raw o), (it, T' 0)] P ∧ SetS c h3 acc (fun k => decide (k ∈ (ks.take 0).map T)) 0) →
      CW c A (.compLoop (.SetComp elt [⟨target, iter, [], 0⟩] scope pos) 0 (.ref it) (.ref acc) (compEnvC scope (clOf env scope.names []) C env))
        (fun _ h' => (∃ Sf, SetS c h' acc Sf n) ∧ (∃ m, h'.Ns C m) ∧ Eff c [] h h' ∧ P h') h3 := fun h3 ⟨o3, S3, q3⟩ => by
    refine CW_scomp (fun m h1 => ∃ i o, m = n - i ∧ i ≤ n ∧ St c h [] h1 (compEnvC scope (clOf env scope.names []) C env) own (own.map fun _ => none) [(acc, .raw o), (it, T' i)] P ∧ SetS c h1 acc (fun k => decide (k ∈ (ks.take i).map T)) i) ?_ n ⟨0, o3, by omega, by omega, S3, q3⟩
    rintro m h1 ⟨i, o, rfl, hi, S1, q1⟩
    have nd1 : need h1 := It.stb _ _ S1.eff hneed
    have S1' : St c h [] h1 (compEnvC scope (clOf env scope.names []) C env) own (own.map fun _ => none) ([(acc, .raw o)] ++ [(it, T' i)]) P := S1
    have aci : acc ≠ it := fun e => by
      have := (List.nodup_cons.mp S1.ap).2
      simp [e] at this
    by_cases hlt : i < n
    · refine It.nxt hlt nd1 S1'.atLast fun v h2 xv s2 at2 => ?_
      have S2 : St c h [] h2 (compEnvC scope (clOf env scope.names []) C env) own (own.map fun _ => none) [(acc, .raw o), (it, T' (i + 1))] P := S1'.updLast (.of_same s2 S1'.lastLo.1 S1'.lastLo.2) at2
      obtain ⟨o1, ⟨oo1, g1, e1', _⟩, r1⟩ := q1.raw
      subst e1'
      have eo : oo1 = o := by
        obtain ⟨o2, g2, e2', _⟩ := S1.get (j := 0) rfl
        rw [g1] at g2; cases g2; exact e2'
      subst eo
      refine It.lot (i := i + 1) at2 (W_mono (turn i v acc it oo1 C h2 hlt xv accn S2) fun _ h3 q => W_mono q fun y h4 q => ?_)
      obtain ⟨t, k, vs', rfl, hk, S4⟩ := q
      obtain ⟨o4, g4, e4, _⟩ := S4.get (j := 0) rfl
      subst e4
      have q4 := r1 h4 g4
      have hnew : decide (T k ∈ (ks.take i).map T) = false := by
        rw [decide_eq_false]
        intro m
        obtain ⟨k', mk, ek⟩ := List.mem_map.mp m
        have ek := T_inj.mp ek
        subst ek
        obtain ⟨j, hj, ej⟩ := List.mem_iff_getElem.mp mk
        rw [List.length_take] at hj
        rw [List.getElem_take] at ej
        have h1 := List.getElem?_eq_some_iff.mp hk
        have := (List.getElem_inj (h₀ := by omega) (h₁ := h1.1) nd).mp (ej.trans h1.2.symm)
        omega
      intro d5 tk5
      refine call_set_add (knd := PySem.strKind c.prog c.w) (k := T k) (key := .str (T k) t) (by simp [PySem.strKind, Value.isStrOf]) rfl q4 (by unfold scanBound; omega) fun h5 s5 q5 => ⟨h5, d5, _, rfl, ?_⟩
      have q5' : SetS c h5 acc (fun k' => decide (k' ∈ (ks.take (i + 1)).map T)) (i + 1) := by
        have e : (fun k' => decide (k' ∈ (ks.take i).map T) || decide (k' = T k)) = fun k' => decide (k' ∈ (ks.take (i + 1)).map T) := by
          funext k'
          rw [List.take_add_one, hk, List.map_append, Bool.eq_iff_iff]
          simp
        rw [hnew, e] at q5
        simpa using q5
      obtain ⟨o6, a6, r6⟩ := q5'.raw
      have S6 := S4.upd (j := 0) (b' := .raw o6) rfl (.of_same s5 (S4.loSet (j := 0) rfl) (S4.ntAt (j := 0) rfl)) a6
      have S6 : St c h [] h5 (compEnvC scope (clOf env scope.names []) C env) own vs' [(acc, .raw o6), (it, T' (i + 1))] P := S6
      refine ⟨n - (i + 1), by omega, i + 1, o6, rfl, hlt, S6.weaken (fun j u e => ?_) (List.Sublist.refl _), q5'⟩
      rw [List.getElem?_map] at e
      cases q : own[j]? with
      | none => rw [q] at e; cases e
      | some y => rw [q] at e; cases e
    · have : i = n := by omega
      subst this
      refine It.end_ hh nd1 S1'.atLast fun h2 x2 => ?_
      have S2 := S1'.dropLast x2
      obtain ⟨o1, ⟨oo1, g1, e1', _⟩, r1⟩ := q1.raw
      subst e1'
      obtain ⟨m, nm, _⟩ := S2.loc
      exact ⟨⟨_, r1 h2 (x2 acc _ aci g1)⟩, ⟨m, nm⟩, S2.eff, S2.p⟩
  have post : ∀ h3, (∃ o, St c h [] h3 (compEnvC scope (clOf env scope.names []) C env) own (own.map fun _ => none) [(acc, .raw o), (it, T' 0)] P ∧ SetS c h3 acc (fun k => decide (k ∈ (ks.take 0).map T)) 0) → ∀ d tk,
      codeAny (model c.prog c.w) A (.compLoop (.SetComp elt [⟨target, iter, [], 0⟩] scope pos) 0 (.ref it) (.ref acc) (compEnvC scope (clOf env scope.names []) C env))
        (compPost (model c.prog c.w) A (fun _ _ => False) none (fun a s' => ∃ h' d' tk', s' = ⟨h', c.g, d', tk', c.o⟩ ∧ Q a h') (.ref acc) C) ⟨h3, c.g, d, tk + 1, c.o⟩ := fun h3 x3 d tk =>
    CW_any (loop h3 x3) fun f h' d' tk' q => by
      obtain ⟨⟨Sf, qs⟩, ⟨m, nm⟩, E, p1⟩ := q
      refine ⟨m, nm, fun h2 s2 => ⟨h2, d', _, rfl, ?_⟩⟩
      obtain ⟨oC, aoC⟩ := ns_raw nm
      obtain ⟨b1, b2, b3, b4⟩ := S.new_of Cn
      have S1 := (S.step E).add (a := C) (b := .raw oC) b1 b2 b3 b4 aoC
      obtain ⟨o1, ⟨oo1, g1, e1', _⟩, r1⟩ := qs.raw
      subst e1'
      exact fin h2 acc Sf (r1 h2 (s2.extBut acc _ acc_ne_C g1)) (S1.dropLast s2.extBut)
  have S3' : St c h [] h3 (compEnvC scope (clOf env scope.names []) C env) own (own.map fun _ => none) ([(acc, .raw oo)] ++ [(it, T' 0)]) P := S3
  exact codeAny_compStart_set (post h3 ⟨oo, S3, ss3⟩ _ _) (W_any (It.slf S3'.atLast (Q := fun v h' => v = .ref it ∧ h' = h3) ⟨rfl, rfl⟩) fun v h' d' tk' q => by obtain ⟨rfl, rfl⟩ := q; exact post _ ⟨oo, S3, ss3⟩ d' tk')
end
end Mine
end

section
open PySem PySem.W PyProof.Rows PySem.Calls PySem.SeqAt
set_option Elab.async false
set_option linter.unusedVariables false
set_option linter.unusedSimpArgs false
namespace Mine
section
variable {c : Cx} {A : Around} {h : Heap} {env : Env}
theorem S_comp1 {elt target iter : Expr} {ifs : List Expr} {scope : Scope} {pos py spos : Pos} {y : Str} {Q : Flow → Heap → Prop} (hall : ∀ n, (n, NameKind.free) ∈ scope.names → (env.cells.lookup n).isSome = true) (hk : scope.kind = .function) (hloc : ∀ x ∈ scope.names, x.2 = .local → scope.names.lookup x.1 = some .local)
    (hsw : swapsWith (.ListComp elt [⟨target, iter, ifs, 0⟩] scope pos) (some (.Name y py)) spos.line env = pure true)
    (k : W c A (eval iter env) (fun x h1 => Comp c A (.ListComp elt [⟨target, iter, ifs, 0⟩] scope pos) scope (clOf env scope.names []) env (some (assign (.Name y py) env)) x (fun _ => Q .next) h1) h)
    (hs : ∀ x, foldedSetIterable iter env x = pure x := by intro _; rfl) : W c A (exec (.Assign [.Name y py] (.ListComp elt [⟨target, iter, ifs, 0⟩] scope pos) spos) env) Q h := fun d tk => by
  rw [exec_Assign_Name_used _ _ _ _ hsw]
  refine wpAny_bind (wpAny_standAt (wpAny_bind ?_))
  show wpAny _ A (do let _ ← comprehension (.ListComp elt [⟨target, iter, ifs, 0⟩] scope pos) scope env _ (newList []) false (eval iter env) (some (assign (.Name y py) env))) _ _ _
  refine wpAny_bind (wpAny_mono (wpAny_comprehension_free (g := ⟨target, iter, ifs, 0⟩) (gs := []) (use := some (assign (.Name y py) env)) (Q := fun _ s' => ∃ h' d' tk', s' = ⟨h', c.g, d', tk', c.o⟩ ∧ Q .next h') rfl hs
    (closureFor_eq scope env hall) hk hloc (W_any k fun x h1 d1 tk1 q => q d1 tk1)) (fun _ s' hq => wpAny_pure (wpAny_pure hq)) fun _ _ x => x)
theorem eqr_bool : EqR c A h Boolv := fun v w x y e1 e2 d tk => by
  have e1 : v = .bool x := e1
  have e2 : w = .bool y := e2
  subst e1; subst e2
  have := EqAt.bool_bool (A := A) (s := ⟨h, c.g, d, tk + 1, c.o⟩) x y
  rwa [show (x == y) = decide (x = y) by cases x <;> cases y <;> rfl] at this
end
end Mine
end

section
open PySem PySem.W PyProof.Rows PySem.Calls
set_option Elab.async false
set_option linter.unusedVariables false
set_option linter.unusedSimpArgs false
namespace Mine
/-! ## who is found has to go (plain) -/
abbrev Pm := Nat → Option Nat
def upd (f : Pm) (x y : Nat) : Pm := fun w => if w = x then some y else f w
theorem upd_self (f : Pm) (x y : Nat) : upd f x y x = some y := by unfold upd; rw [if_pos rfl]
theorem upd_ne {f : Pm} {x y w : Nat} (h : w ≠ x) : upd f x y w = f w := by unfold upd; rw [if_neg h]
def run : Nat → Nat → Pm → Nat → Nat → Nat × Pm
  | 0, _, f, _, _ => (0, f)
  | k + 1, t, f, x, y => match f x with
    | none => (t + 1, upd f x y)
    | some z => run k (t + 1) (upd f x y) z x
theorem run_none {f : Pm} {x : Nat} (h : f x = none) (k t y : Nat) : run (k + 1) t f x y = (t + 1, upd f x y) := by rw [run, h]
theorem run_some {f : Pm} {x z : Nat} (h : f x = some z) (k t y : Nat) : run (k + 1) t f x y = run k (t + 1) (upd f x y) z x := by rw [run, h]
/-- a set that no pointer leaves -/
def Clo (S : Nat → Prop) (f : Pm) : Prop := ∀ x z, S x → f x = some z → S z
theorem Clo.upd {S : Nat → Prop} {f : Pm} (h : Clo S f) {x y : Nat} (hy : S y) : Clo S (upd f x y) := fun w z sw e => by
  by_cases q : w = x
  · subst q; rw [upd_self] at e; cases e; exact hy
  · rw [upd_ne q] at e; exact h w z sw e
theorem run_facts {S : Nat → Prop} : ∀ (k t : Nat) (f : Pm) (x y : Nat), Clo S f → S x → S y →
    Clo S (run k t f x y).2 ∧ (∀ w, ¬ S w → (run k t f x y).2 w = f w) ∧ (∀ w, f w ≠ none → (run k t f x y).2 w ≠ none) ∧ ((run k t f x y).1 ≠ 0 → ∃ e, S e ∧ f e = none ∧ (run k t f x y).2 e ≠ none)
  | 0, t, f, x, y, c, sx, sy => ⟨c, fun _ _ => rfl, fun _ h => h, fun h => absurd rfl h⟩
  | k + 1, t, f, x, y, c, sx, sy => by
    cases hx : f x with
    | none =>
      rw [run_none hx]
      dsimp only
      refine ⟨c.upd sy, fun w nw => upd_ne fun e => nw (by rw [e]; exact sx), fun w h => ?_, fun _ => ⟨x, sx, hx, by rw [upd_self]; simp⟩⟩
      by_cases q : w = x
      · subst q; rw [upd_self]; simp
      · rw [upd_ne q]; exact h
    | some z =>
      rw [run_some hx]
      obtain ⟨h1, h2, h3, h4⟩ := run_facts k (t + 1) (upd f x y) z x (c.upd sy) (c x z sx hx) sx
      have hocc : ∀ w, f w ≠ none → upd f x y w ≠ none := fun w h => by
        by_cases q : w = x
        · subst q; rw [upd_self]; simp
        · rw [upd_ne q]; exact h
      refine ⟨h1, fun w nw => ?_, fun w h => h3 w (hocc w h), fun h => ?_⟩
      · rw [h2 w nw, upd_ne fun e => nw (by rw [e]; exact sx)]
      · obtain ⟨e, se, he, he'⟩ := h4 h
        refine ⟨e, se, ?_, he'⟩
        by_cases q : e = x
        · subst q; rw [upd_self] at he; cases he
        · rwa [upd_ne q] at he
/-- along the pointers to an empty house -/
def Path (f : Pm) : Nat → List Nat → Prop
  | x, [] => f x = none
  | x, z :: p => f x = some z ∧ Path f z p
theorem Path.uniq {f : Pm} : ∀ {p q : List Nat} {x : Nat}, Path f x p → Path f x q → p = q
  | [], [], _, _, _ => rfl
  | [], z :: q, x, a, b => by have a : f x = none := a; have b1 : f x = some z := b.1; rw [a] at b1; cases b1
  | z :: p, [], x, a, b => by have b : f x = none := b; have a1 : f x = some z := a.1; rw [b] at a1; cases a1
  | z :: p, w :: q, x, a, b => by
    have : z = w := by have := a.1.symm.trans b.1; cases this; rfl
    subst this
    rw [Path.uniq a.2 b.2]
theorem Path.tail {f : Pm} : ∀ {p : List Nat} {x w : Nat}, Path f x p → w ∈ p → ∃ q, Path f w q ∧ q.length < p.length
  | z :: p, x, w, a, m => by
    rcases List.mem_cons.mp m with rfl | m
    · exact ⟨p, a.2, by simp⟩
    · obtain ⟨q, h1, h2⟩ := Path.tail a.2 m
      exact ⟨q, h1, by simp; omega⟩
theorem Path.nodup {f : Pm} : ∀ {p : List Nat} {x : Nat}, Path f x p → (x :: p).Nodup
  | [], x, _ => by simp
  | z :: p, x, a => by
    refine List.nodup_cons.mpr ⟨fun m => ?_, Path.nodup a.2⟩
    obtain ⟨q, h1, h2⟩ := Path.tail a m
    rw [Path.uniq h1 a] at h2
    omega
theorem Path.of_agree {f g : Pm} : ∀ {p : List Nat} {x : Nat}, Path f x p → (∀ w ∈ x :: p, g w = f w) → Path g x p
  | [], x, a, h => by show g x = none; rw [h x (by simp)]; exact a
  | z :: p, x, a, h => ⟨by rw [h x (by simp)]; exact a.1, Path.of_agree a.2 fun w m => h w (List.mem_cons_of_mem _ m)⟩
theorem Path.clo {S : Nat → Prop} {f : Pm} (c : Clo S f) : ∀ {p : List Nat} {x : Nat}, Path f x p → S x → ∀ w ∈ x :: p, S w
  | [], x, _, sx, w, m => by rw [List.mem_singleton.mp m]; exact sx
  | z :: p, x, a, sx, w, m => by
    rcases List.mem_cons.mp m with rfl | m
    · exact sx
    · exact Path.clo c a.2 (c x z sx a.1) w m
/-- what going along a path makes -/
def revf : Pm → Nat → Nat → List Nat → Pm
  | f, y, x, [] => upd f x y
  | f, y, x, z :: p => revf (upd f x y) x z p
theorem revf_out : ∀ (p : List Nat) (f : Pm) (y x w : Nat), w ∉ x :: p → revf f y x p w = f w
  | [], f, y, x, w, h => upd_ne (by simpa using h)
  | z :: p, f, y, x, w, h => by
    rw [revf, revf_out p _ x z w (fun m => h (List.mem_cons_of_mem _ m)), upd_ne (fun e => h (by simp [e]))]
theorem run_path : ∀ (p : List Nat) (k t : Nat) (f : Pm) (x y : Nat), Path f x p → p.length < k → run k t f x y = (t + p.length + 1, revf f y x p)
  | [], 0, t, f, x, y, a, h => absurd h (by simp)
  | [], k + 1, t, f, x, y, a, _ => by rw [run_none a]; rfl
  | z :: p, 0, t, f, x, y, a, h => absurd h (by simp)
  | z :: p, k + 1, t, f, x, y, a, h => by
    have nd := a.nodup
    have hx : x ∉ z :: p := (List.nodup_cons.mp nd).1
    rw [run_some a.1, run_path p k (t + 1) (upd f x y) z x (a.2.of_agree fun w m => upd_ne fun e => hx (e ▸ m)) (by simp at h; omega)]
    rw [revf, List.length_cons]
    congr 1; omega
inductive Leads (f : Pm) (e : Nat) : Nat → Prop
  | base : f e = none → Leads f e e
  | step {x z : Nat} : f x = some z → Leads f e z → Leads f e x
theorem Leads.path {f : Pm} {e x : Nat} (h : Leads f e x) : ∃ p, Path f x p ∧ e ∈ x :: p := by
  induction h with
  | base h => exact ⟨[], h, by simp⟩
  | step h _ ih => obtain ⟨p, a, b⟩ := ih; exact ⟨_ :: p, ⟨h, a⟩, List.mem_cons_of_mem _ b⟩
theorem Leads.only {f : Pm} {e x : Nat} (h : Leads f e x) (hx : f x = none) : x = e := by
  cases h with
  | base _ => rfl
  | step h _ => rw [hx] at h; cases h
theorem rev_leads {e : Nat} : ∀ (p : List Nat) (f : Pm) (y x : Nat), (x :: p).Nodup → Leads (revf f y x p) e y → ∀ w ∈ x :: p, Leads (revf f y x p) e w
  | [], f, y, x, _, h, w, m => by rw [List.mem_singleton.mp m]; exact .step (upd_self f x y) h
  | z :: p, f, y, x, nd, h, w, m => by
    have hx : x ∉ z :: p := (List.nodup_cons.mp nd).1
    have lx : Leads (revf f y x (z :: p)) e x := .step (by rw [revf, revf_out p _ x z x hx, upd_self]) h
    rcases List.mem_cons.mp m with rfl | m
    · exact lx
    · exact rev_leads p (upd f x y) x z (List.nodup_cons.mp nd).2 lx w m
theorem Leads.of_agree {f g : Pm} {e : Nat} {S : Nat → Prop} (c : Clo S f) (ag : ∀ w, S w → g w = f w) {x : Nat} (h : Leads f e x) (sx : S x) : Leads g e x := by
  induction h with
  | base h => exact .base (by rw [ag _ sx]; exact h)
  | step h _ ih => exact .step (by rw [ag _ sx]; exact h) (ih (c _ _ sx h))
/-! ## back along a trail -/
def Trail (h : Pm) (s : Nat) : Nat → List Nat → Prop
  | x, [] => h x = some s
  | x, z :: q => h x = some z ∧ Trail h s z q
theorem Trail.of_agree {f g : Pm} {s : Nat} : ∀ {p : List Nat} {x : Nat}, Trail f s x p → (∀ w ∈ x :: p, g w = f w) → Trail g s x p
  | [], x, a, h => by show g x = some s; rw [h x (by simp)]; exact a
  | z :: p, x, a, h => ⟨by rw [h x (by simp)]; exact a.1, Trail.of_agree a.2 fun w m => h w (List.mem_cons_of_mem _ m)⟩
theorem Trail.tail {f : Pm} {s : Nat} : ∀ {p : List Nat} {x w : Nat}, Trail f s x p → w ∈ x :: p → ∃ q, Trail f s w q ∧ q.length ≤ p.length ∧ ∀ u ∈ w :: q, u ∈ x :: p
  | [], x, w, a, m => by rw [List.mem_singleton.mp m]; exact ⟨[], a, Nat.le_refl _, fun _ m => m⟩
  | z :: p, x, w, a, m => by
    rcases List.mem_cons.mp m with rfl | m
    · exact ⟨z :: p, a, Nat.le_refl _, fun _ m => m⟩
    · obtain ⟨q, h1, h2, h3⟩ := Trail.tail a.2 m
      exact ⟨q, h1, by simp; omega, fun u m => List.mem_cons_of_mem _ (h3 u m)⟩
theorem run_back {s : Nat} : ∀ (q : List Nat) (h : Pm) (x y : Nat), Trail h s x q → (x :: q).Nodup → ∃ h' y', (∀ k t, run (k + q.length + 1) t h x y = run k (t + q.length + 1) h' s y') ∧ (∀ w, w ∉ x :: q → h' w = h w)
  | [], h, x, y, a, nd => ⟨upd h x y, x, fun k t => by rw [List.length_nil]; exact run_some a _ _ _, fun w m => upd_ne (by simpa using m)⟩
  | z :: q, h, x, y, a, nd => by
    have hx : x ∉ z :: q := (List.nodup_cons.mp nd).1
    obtain ⟨h', y', e, out⟩ := run_back q (upd h x y) z x (a.2.of_agree fun w m => upd_ne fun e => hx (e ▸ m)) (List.nodup_cons.mp nd).2
    refine ⟨h', y', fun k t => ?_, fun w m => ?_⟩
    · rw [List.length_cons, show k + (q.length + 1) + 1 = (k + q.length + 1) + 1 by omega, run_some a.1, e]
      congr 1; omega
    · rw [out w (fun e => m (List.mem_cons_of_mem _ e)), upd_ne (fun e => m (by simp [e]))]
theorem Trail.nodup_tail {f : Pm} {s : Nat} : ∀ {p : List Nat} {x w : Nat}, Trail f s x p → (x :: p).Nodup → w ∈ x :: p → ∃ q, Trail f s w q ∧ (w :: q).Nodup ∧ q.length ≤ p.length ∧ ∀ u ∈ w :: q, u ∈ x :: p
  | [], x, w, a, nd, m => by rw [List.mem_singleton.mp m]; exact ⟨[], a, by simp, Nat.le_refl _, fun _ m => m⟩
  | z :: p, x, w, a, nd, m => by
    rcases List.mem_cons.mp m with rfl | m
    · exact ⟨z :: p, a, nd, Nat.le_refl _, fun _ m => m⟩
    · obtain ⟨q, h1, h0, h2, h3⟩ := Trail.nodup_tail a.2 (List.nodup_cons.mp nd).2 m
      exact ⟨q, h1, h0, by simp; omega, fun u m => List.mem_cons_of_mem _ (h3 u m)⟩
theorem nodup_sub {α : Type} [DecidableEq α] : ∀ {p l : List α}, p.Nodup → (∀ x ∈ p, x ∈ l) → p.length ≤ l.length
  | [], l, _, _ => by simp
  | x :: p, l, nd, h => by
    have hx := h x (by simp)
    have := nodup_sub (p := p) (l := l.erase x) (List.nodup_cons.mp nd).2 fun y m => by
      have : y ≠ x := fun e => (List.nodup_cons.mp nd).1 (e ▸ m)
      exact (List.mem_erase_of_ne this).mpr (h y (List.mem_cons_of_mem _ m))
    rw [List.length_erase_of_mem hx] at this
    have := List.length_pos_of_mem hx
    simp; omega
/-- in a full lot: out, round, and back to the start, then on -/
theorem run_round {S : Nat → Prop} {l : List Nat} (hl : ∀ x, S x → x ∈ l) {f : Pm} (c : Clo S f) (full : ∀ x, S x → f x ≠ none) {s : Nat} (ns : ¬ S s) :
    ∀ (m : Nat) (vs : List Nat) (h : Pm) (x y : Nat), l.length - vs.length = m → vs.Nodup → (∀ v ∈ vs, S v) → S x → (∀ w, w ∉ vs → h w = f w) →
      (match vs with | [] => y = s | v :: r => y = v ∧ Trail h s v r) →
      ∃ g h' y', g ≤ 2 * l.length - vs.length ∧ (∀ k t, run (k + g) t h x y = run k (t + g) h' s y') ∧ (∀ w, ¬ S w → h' w = f w) := by
  intro m
  induction m with
  | zero =>
    intro vs h x y hm nd hv sx ag tr
    have hx : x ∈ vs := by
      refine Classical.byContradiction fun q => ?_
      have := nodup_sub (p := x :: vs) (l := l) (List.nodup_cons.mpr ⟨q, nd⟩) fun w m => by
        rcases List.mem_cons.mp m with rfl | m
        · exact hl _ sx
        · exact hl _ (hv w m)
      simp at this; omega
    cases vs with
    | nil => cases hx
    | cons v r =>
      obtain ⟨q, t1, t2, t3, t4⟩ := Trail.nodup_tail tr.2 nd hx
      obtain ⟨h', y', e, out⟩ := run_back q h x y t1 t2
      refine ⟨q.length + 1, h', y', ?_, fun k t => by rw [← Nat.add_assoc, e, ← Nat.add_assoc], fun w nw => ?_⟩
      · have := nodup_sub (l := l) nd fun w m => hl w (hv w m)
        simp at this ⊢; omega
      · rw [out w (fun m => nw (hv w (t4 w m))), ag w (fun m => nw (hv w m))]
  | succ m ih =>
    intro vs h x y hm nd hv sx ag tr
    by_cases hx : x ∈ vs
    · cases vs with
      | nil => cases hx
      | cons v r =>
        obtain ⟨q, t1, t2, t3, t4⟩ := Trail.nodup_tail tr.2 nd hx
        obtain ⟨h', y', e, out⟩ := run_back q h x y t1 t2
        refine ⟨q.length + 1, h', y', ?_, fun k t => by rw [← Nat.add_assoc, e, ← Nat.add_assoc], fun w nw => ?_⟩
        · have := nodup_sub (l := l) nd fun w m => hl w (hv w m)
          simp at this ⊢; omega
        · rw [out w (fun m => nw (hv w (t4 w m))), ag w (fun m => nw (hv w m))]
    · obtain ⟨z, hz⟩ := Option.ne_none_iff_exists'.mp (full x sx)
      have hhx : h x = some z := by rw [ag x hx, hz]
      have hle := nodup_sub (p := x :: vs) (l := l) (List.nodup_cons.mpr ⟨hx, nd⟩) fun w m => by
        rcases List.mem_cons.mp m with rfl | m
        · exact hl _ sx
        · exact hl _ (hv w m)
      simp only [List.length_cons] at hle
      obtain ⟨g, h', y', hg, e, out⟩ := ih (x :: vs) (upd h x y) z x (by simp; omega) (List.nodup_cons.mpr ⟨hx, nd⟩) (fun w m => by
          rcases List.mem_cons.mp m with rfl | m
          · exact sx
          · exact hv w m) (c x z sx hz) (fun w m => by rw [upd_ne (fun e => m (by simp [e])), ag w (fun e => m (List.mem_cons_of_mem _ e))]) ⟨rfl, by
          cases vs with
          | nil => show upd h x y x = some s; rw [upd_self, tr]
          | cons v r => exact ⟨by rw [upd_self, tr.1], tr.2.of_agree fun w m => upd_ne fun e => hx (e ▸ m)⟩⟩
      refine ⟨g + 1, h', y', by simp at hg; omega, fun k t => ?_, out⟩
      rw [← Nat.add_assoc, run_some hhx, e]
      congr 1; omega
end Mine
end

section
open PySem PySem.W PyProof.Rows PySem.Calls
set_option Elab.async false
set_option linter.unusedVariables false
set_option linter.unusedSimpArgs false
namespace Mine
/-! ## lots of houses -/
def lotOf (lots : List Nat) (x : Nat) : Nat := lots.getD x 0
theorem lot_mem {lots : List Nat} {x : Nat} (h : x < lots.length) : lotOf lots x ∈ lots := by
  unfold lotOf; rw [List.getD_eq_getElem?_getD, List.getElem?_eq_getElem h]; exact List.getElem_mem h
theorem cnt_range (L : Nat) : ∀ lots : List Nat, ((List.range lots.length).filter fun x => decide (lotOf lots x = L)).length = lots.count L
  | [] => rfl
  | a :: r => by
    rw [List.length_cons, List.range_succ_eq_map, List.filter_cons, List.filter_map, List.count_cons]
    have e : ((fun x => decide (lotOf (a :: r) x = L)) ∘ Nat.succ) = fun x => decide (lotOf r x = L) := by funext x; rfl
    have ih := cnt_range L r
    rw [e]
    by_cases q : a = L
    · rw [if_pos (by simpa [lotOf] using q), List.length_cons, List.length_map, ih, if_pos (by simpa using q)]
    · rw [if_neg (by simpa [lotOf] using q), List.length_map, ih, if_neg (by simpa using q)]; omega
theorem count_two {A B : Nat} (h : A ≠ B) : ∀ lots : List Nat, lots.count A + lots.count B ≤ lots.length
  | [] => by simp
  | a :: r => by
    have := count_two h r
    rw [List.count_cons, List.count_cons, List.length_cons]
    by_cases q : a = A
    · subst q; rw [if_pos (by simp), if_neg (by simpa using h)]; omega
    · rw [if_neg (by simpa using q)]; split <;> omega
def joinLot (lots : List Nat) (A B : Nat) : List Nat := lots.map fun l => if l = B then A else l
theorem joinLot_lot {lots : List Nat} {A B x : Nat} (h : x < lots.length) : lotOf (joinLot lots A B) x = if lotOf lots x = B then A else lotOf lots x := by
  unfold lotOf joinLot
  simp [List.getD_eq_getElem?_getD, h]
theorem count_join {A B : Nat} : ∀ lots : List Nat, (joinLot lots A B).count A = lots.count A + (if A = B then 0 else lots.count B)
  | [] => by simp [joinLot]
  | a :: r => by
    have ih := count_join (A := A) (B := B) r
    unfold joinLot at ih ⊢
    rw [List.map_cons, List.count_cons, ih, List.count_cons, List.count_cons]
    by_cases h : A = B
    · subst h
      simp only [if_true]
      by_cases q : a = A
      · simp [q]
      · simp [q]
    · by_cases q : a = B
      · subst q
        have h' : ¬ a = A := fun e => h e.symm
        simp [h, h']; omega
      · simp [q, h]; omega
theorem count_join_ne {A B L : Nat} (hA : L ≠ A) (hB : L ≠ B) : ∀ lots : List Nat, (joinLot lots A B).count L = lots.count L
  | [] => by simp [joinLot]
  | a :: r => by
    have ih := count_join_ne hA hB r
    unfold joinLot at ih ⊢
    rw [List.map_cons, List.count_cons, ih, List.count_cons]
    by_cases q : a = B
    · subst q
      have h1 : ¬ A = L := fun e => hA e.symm
      have h2 : ¬ a = L := fun e => hB e.symm
      simp [h1, h2]
    · simp [q]
def cnt (lots fs : List Nat) (L : Nat) : Nat := (fs.filter fun x => decide (lotOf lots x = L)).length
theorem cnt_join {A B : Nat} {lots : List Nat} : ∀ fs : List Nat, (∀ x ∈ fs, x < lots.length) → cnt (joinLot lots A B) fs A = cnt lots fs A + (if A = B then 0 else cnt lots fs B)
  | [], _ => by simp [cnt]
  | a :: r, h => by
    have ih := cnt_join (A := A) (B := B) r fun x m => h x (List.mem_cons_of_mem _ m)
    have ha := joinLot_lot (A := A) (B := B) (h a (by simp))
    unfold cnt at ih ⊢
    rw [List.filter_cons, List.filter_cons, List.filter_cons, ha]
    by_cases e : A = B
    · subst e
      by_cases q : lotOf lots a = A
      · simp [q]; simpa using ih
      · simp [q]; simpa using ih
    · by_cases q : lotOf lots a = B
      · have q' : ¬ B = A := fun x => e x.symm
        simp [q, e, q'] at ih ⊢; omega
      · by_cases q2 : lotOf lots a = A
        · simp [q2, e] at ih ⊢; omega
        · simp [q, q2, e] at ih ⊢; omega
theorem cnt_join_ne {A B L : Nat} (hA : L ≠ A) (hB : L ≠ B) {lots : List Nat} (fs : List Nat) (h : ∀ x ∈ fs, x < lots.length) : cnt (joinLot lots A B) fs L = cnt lots fs L := by
  unfold cnt
  congr 1
  refine List.filter_congr fun x m => ?_
  rw [joinLot_lot (h x m)]
  by_cases q : lotOf lots x = B
  · rw [if_pos q, q, decide_eq_decide]; exact ⟨fun e => absurd e.symm hA, fun e => absurd e.symm hB⟩
  · rw [if_neg q]
theorem cnt_snoc (lots fs : List Nat) (x L : Nat) : cnt lots (fs ++ [x]) L = cnt lots fs L + (if lotOf lots x = L then 1 else 0) := by
  unfold cnt
  rw [List.filter_append, List.length_append, List.filter_cons]
  by_cases q : lotOf lots x = L
  · simp [q]
  · simp [q]
/-- a lot is full, or a tree to its one empty house -/
structure LI (n : Nat) (lots fs : List Nat) (f : Pm) : Prop where
  len : lots.length = n
  clo : ∀ x z, x < n → f x = some z → z < n ∧ lotOf lots z = lotOf lots x
  fsl : ∀ x ∈ fs, x < n
  lot : ∀ x, x < n → ((∀ w, w < n → lotOf lots w = lotOf lots x → f w ≠ none) ∧ lots.count (lotOf lots x) ≤ cnt lots fs (lotOf lots x)) ∨
    (cnt lots fs (lotOf lots x) + 1 = lots.count (lotOf lots x) ∧ ∃ e, e < n ∧ lotOf lots e = lotOf lots x ∧ f e = none ∧ ∀ w, w < n → lotOf lots w = lotOf lots x → Leads f e w)
theorem come_step {n : Nat} {lots fs : List Nat} {f : Pm} (I : LI n lots fs f) {x0 y0 : Nat} (hx : x0 < n) (hy : y0 < n) :
    ((run (2 * n) 0 f x0 y0).1 = 0 ↔ (lots.count (lotOf lots x0) ≤ cnt lots fs (lotOf lots x0) ∧ lots.count (lotOf lots y0) ≤ cnt lots fs (lotOf lots y0))) ∧
    (run (2 * n) 0 f x0 y0).1 < 2 * n ∧ LI n (joinLot lots (lotOf lots x0) (lotOf lots y0)) (fs ++ [x0]) (run (2 * n) 0 f x0 y0).2 := by
  have hA : lotOf lots x0 = lotOf lots x0 := rfl
  generalize hAe : lotOf lots x0 = A at *
  generalize hBe : lotOf lots y0 = B at *
  have hn := I.len
  have IA := I.lot x0 hx
  have IB := I.lot y0 hy
  rw [hAe] at IA
  rw [hBe] at IB
  have cS : Clo (fun x => x < n ∧ (lotOf lots x = A ∨ lotOf lots x = B)) f := fun x z sx e => by
    obtain ⟨h1, h2⟩ := I.clo x z sx.1 e
    exact ⟨h1, by rw [h2]; exact sx.2⟩
  have cL : ∀ L, Clo (fun x => x < n ∧ lotOf lots x = L) f := fun L x z sx e => by
    obtain ⟨h1, h2⟩ := I.clo x z sx.1 e
    exact ⟨h1, by rw [h2]; exact sx.2⟩
  obtain ⟨r1, r2, r3, r4⟩ := run_facts (2 * n) 0 f x0 y0 cS ⟨hx, .inl hAe⟩ ⟨hy, .inr hBe⟩
  -- paths are short
  have short : ∀ (L : Nat) (P : List Nat), P.Nodup → (∀ w ∈ P, w < n ∧ lotOf lots w = L) → P.length ≤ lots.count L := fun L P nd h => by
    rw [← cnt_range L lots]
    refine nodup_sub nd fun w m => ?_
    rw [List.mem_filter, List.mem_range, hn]
    exact ⟨(h w m).1, by simpa using (h w m).2⟩
  have posA : 0 < lots.count A := List.count_pos_iff.mpr (hAe ▸ lot_mem (by omega))
  have posB : 0 < lots.count B := List.count_pos_iff.mpr (hBe ▸ lot_mem (by omega))
  have leA : lots.count A ≤ n := by rw [← hn]; exact List.count_le_length
  have two : A ≠ B → lots.count A + lots.count B ≤ n := fun h => by rw [← hn]; exact count_two h lots
  have lot' : ∀ x, x < n → lotOf (joinLot lots A B) x = if lotOf lots x = B then A else lotOf lots x := fun x h => joinLot_lot (by omega)
  have inS : ∀ w, w < n → lotOf (joinLot lots A B) w = A → (w < n ∧ (lotOf lots w = A ∨ lotOf lots w = B)) := fun w h e => by
    rw [lot' w h] at e
    by_cases q : lotOf lots w = B
    · exact ⟨h, .inr q⟩
    · rw [if_neg q] at e; exact ⟨h, .inl e⟩
  have e0 : lotOf (joinLot lots A B) x0 = A := by rw [lot' x0 hx, hAe]; split <;> rfl
  have cntA : cnt (joinLot lots A B) (fs ++ [x0]) A = cnt lots fs A + (if A = B then 0 else cnt lots fs B) + 1 := by
    rw [cnt_snoc, cnt_join fs (fun x m => by have := I.fsl x m; omega), e0, if_pos rfl]
  -- what is left is the merged lot
  have build : ∀ (merged : ((∀ w, w < n → (lotOf lots w = A ∨ lotOf lots w = B) → (run (2 * n) 0 f x0 y0).2 w ≠ none) ∧ lots.count A + (if A = B then 0 else lots.count B) ≤ cnt lots fs A + (if A = B then 0 else cnt lots fs B) + 1) ∨
      (cnt lots fs A + (if A = B then 0 else cnt lots fs B) + 1 + 1 = lots.count A + (if A = B then 0 else lots.count B) ∧ ∃ e, e < n ∧ (lotOf lots e = A ∨ lotOf lots e = B) ∧ (run (2 * n) 0 f x0 y0).2 e = none ∧ ∀ w, w < n → (lotOf lots w = A ∨ lotOf lots w = B) → Leads (run (2 * n) 0 f x0 y0).2 e w)),
      LI n (joinLot lots A B) (fs ++ [x0]) (run (2 * n) 0 f x0 y0).2 := by
    intro merged
    generalize (run (2 * n) 0 f x0 y0).2 = f' at *
    refine ⟨by simp [joinLot, hn], fun x z h e => ?_, fun x m => ?_, fun x h => ?_⟩
    · by_cases q : lotOf lots x = A ∨ lotOf lots x = B
      · obtain ⟨h1, h2⟩ := r1 x z ⟨h, q⟩ e
        refine ⟨h1, ?_⟩
        rw [lot' z h1, lot' x h]
        rcases h2 with h2 | h2 <;> rcases q with q | q <;> rw [h2, q] <;> split <;> simp_all
      · rw [r2 x (fun s => q s.2)] at e
        obtain ⟨h1, h2⟩ := I.clo x z h e
        exact ⟨h1, by rw [lot' z h1, lot' x h, h2]⟩
    · rcases List.mem_append.mp m with m | m
      · exact I.fsl x m
      · rw [List.mem_singleton.mp m]; exact hx
    · by_cases q : lotOf lots x = A ∨ lotOf lots x = B
      · have e : lotOf (joinLot lots A B) x = A := by
          rw [lot' x h]
          by_cases q2 : lotOf lots x = B
          · rw [if_pos q2]
          · rw [if_neg q2]; exact q.resolve_right q2
        rw [e, count_join, cntA]
        rcases merged with ⟨m1, m2⟩ | ⟨m1, ed, m2, m3, m4, m5⟩
        · exact .inl ⟨fun w hw ew => m1 w hw (inS w hw ew).2, m2⟩
        · refine .inr ⟨m1, ed, m2, ?_, m4, fun w hw ew => m5 w hw (inS w hw ew).2⟩
          rw [lot' ed m2]
          by_cases q2 : lotOf lots ed = B
          · rw [if_pos q2]
          · rw [if_neg q2]; exact m3.resolve_right q2
      · have qA : lotOf lots x ≠ A := fun e => q (.inl e)
        have qB : lotOf lots x ≠ B := fun e => q (.inr e)
        have e : lotOf (joinLot lots A B) x = lotOf lots x := by rw [lot' x h, if_neg qB]
        have back : ∀ w, w < n → lotOf (joinLot lots A B) w = lotOf lots x → lotOf lots w = lotOf lots x := fun w hw ew => by
          rw [lot' w hw] at ew
          by_cases q2 : lotOf lots w = B
          · rw [if_pos q2] at ew; exact absurd ew.symm qA
          · rwa [if_neg q2] at ew
        have ag : ∀ w, (w < n ∧ lotOf lots w = lotOf lots x) → f' w = f w := fun w hw => r2 w fun s => q (by rw [← hw.2]; exact s.2)
        rw [e, count_join_ne qA qB, cnt_snoc, cnt_join_ne qA qB fs (fun y m => by have := I.fsl y m; omega)]
        have hx' : lotOf (joinLot lots A B) x0 = A := by rw [lot' x0 hx, hAe]; split <;> rfl
        rw [hx', if_neg (fun e => qA e.symm), Nat.add_zero]
        rcases I.lot x h with ⟨m1, m2⟩ | ⟨m1, ed, m2, m3, m4, m5⟩
        · exact .inl ⟨fun w hw ew => by rw [ag w ⟨hw, back w hw ew⟩]; exact m1 w hw (back w hw ew), m2⟩
        · refine .inr ⟨m1, ed, m2, ?_, by rw [ag ed ⟨m2, m3⟩]; exact m4, fun w hw ew => (m5 w hw (back w hw ew)).of_agree (cL _) ag ⟨hw, back w hw ew⟩⟩
          rw [lot' ed m2, if_neg (by rw [m3]; exact qB)]; exact m3
  -- one empty house in both lots: it is taken
  have taken : ∀ e, (∀ w, w < n → (lotOf lots w = A ∨ lotOf lots w = B) → f w = none → w = e) → (run (2 * n) 0 f x0 y0).1 ≠ 0 → ∀ w, w < n → (lotOf lots w = A ∨ lotOf lots w = B) → (run (2 * n) 0 f x0 y0).2 w ≠ none := fun e only g0 w hw sw h0 => by
    obtain ⟨e', se, he, he'⟩ := r4 g0
    have e1 := only e' se.1 se.2 he
    have e2 := only w hw sw (Classical.byContradiction fun q => r3 w q h0)
    rw [e2, ← e1] at h0
    exact he' h0
  rcases IA with ⟨a1, a2⟩ | ⟨a1, ea, a2, a3, a4, a5⟩
  · rcases IB with ⟨b1, b2⟩ | ⟨b1, eb, b2, b3, b4, b5⟩
    · have z : (run (2 * n) 0 f x0 y0).1 = 0 := Classical.byContradiction fun q => by
        obtain ⟨e', se, he, _⟩ := r4 q
        rcases se.2 with s | s
        · exact a1 e' se.1 s he
        · exact b1 e' se.1 s he
      refine ⟨⟨fun _ => ⟨a2, b2⟩, fun _ => z⟩, by omega, build (.inl ⟨fun w hw sw => r3 w ?_, by split <;> omega⟩)⟩
      rcases sw with s | s
      · exact a1 w hw s
      · exact b1 w hw s
    · -- A full, B a tree
      have ne : A ≠ B := fun e => by subst e; omega
      obtain ⟨p, hp, _⟩ := (b5 y0 hy hBe).path
      have hpl := short B (y0 :: p) hp.nodup (hp.clo (cL B) ⟨hy, hBe⟩)
      obtain ⟨g, h', y', hg, hrun, out⟩ := run_round (S := fun x => x < n ∧ lotOf lots x = A) (l := (List.range lots.length).filter fun x => decide (lotOf lots x = A)) (fun x s => List.mem_filter.mpr ⟨List.mem_range.mpr (by have := s.1; omega), by simpa using s.2⟩) (cL A) (fun x s => a1 x s.1 s.2) (s := y0) (fun s => ne (by rw [← s.2, hBe])) _ [] f x0 y0 rfl (by simp) (by simp) ⟨hx, hAe⟩ (fun _ _ => rfl) rfl
      rw [cnt_range] at hg
      simp only [List.length_nil, Nat.sub_zero, List.length_cons] at hg hpl
      have h2 := two ne
      have hp' : Path h' y0 p := hp.of_agree fun w m => out w fun s => ne (by rw [← s.2]; exact (hp.clo (cL B) ⟨hy, hBe⟩ w m).2)
      have er : run (2 * n) 0 f x0 y0 = (g + p.length + 1, revf h' y' y0 p) := by
        have := hrun (2 * n - g) 0
        rw [show 2 * n - g + g = 2 * n by omega, Nat.zero_add] at this
        rw [this, run_path p _ _ _ _ _ hp' (by omega)]
      have g1 : (run (2 * n) 0 f x0 y0).1 = g + p.length + 1 := by rw [er]
      refine ⟨⟨fun h => by omega, fun h => by omega⟩, by omega, build (.inl ⟨taken eb (fun w hw sw h0 => ?_) (by omega), by rw [if_neg ne, if_neg ne]; omega⟩)⟩
      rcases sw with s | s
      · exact absurd h0 (a1 w hw s)
      · exact (b5 w hw s).only h0
  · obtain ⟨p, hp, hep⟩ := (a5 x0 hx hAe).path
    have hin := hp.clo (cL A) ⟨hx, hAe⟩
    have hpl := short A (x0 :: p) hp.nodup hin
    simp only [List.length_cons] at hpl
    have er : run (2 * n) 0 f x0 y0 = (0 + p.length + 1, revf f y0 x0 p) := run_path p _ _ _ _ _ hp (by omega)
    have g1 : (run (2 * n) 0 f x0 y0).1 = p.length + 1 := by rw [er]; omega
    have f1 : (run (2 * n) 0 f x0 y0).2 = revf f y0 x0 p := by rw [er]
    refine ⟨⟨fun h => by omega, fun h => by omega⟩, by omega, ?_⟩
    by_cases ne : A = B
    · refine build (.inl ⟨taken ea (fun w hw sw h0 => ?_) (by omega), by rw [if_pos ne, if_pos ne]; omega⟩)
      exact (a5 w hw (sw.elim id fun e => e.trans ne.symm)).only h0
    · rcases IB with ⟨b1, b2⟩ | ⟨b1, eb, b2, b3, b4, b5⟩
      · refine build (.inl ⟨taken ea (fun w hw sw h0 => ?_) (by omega), by rw [if_neg ne, if_neg ne]; omega⟩)
        rcases sw with s | s
        · exact (a5 w hw s).only h0
        · exact absurd h0 (b1 w hw s)
      · have outA : ∀ w, (w < n ∧ lotOf lots w = B) → (revf f y0 x0 p) w = f w := fun w hw => revf_out p f y0 x0 w fun m => ne (by rw [← (hin w m).2]; exact hw.2)
        have lB : ∀ w, w < n → lotOf lots w = B → Leads (revf f y0 x0 p) eb w := fun w hw sw => (b5 w hw sw).of_agree (cL B) outA ⟨hw, sw⟩
        have lP := rev_leads p f y0 x0 hp.nodup (lB y0 hy hBe)
        refine build (.inr ⟨by rw [if_neg ne, if_neg ne]; omega, eb, b2, .inr b3, by rw [f1, outA eb ⟨b2, b3⟩]; exact b4, fun w hw sw => ?_⟩)
        rw [f1]
        rcases sw with s | s
        · have := a5 w hw s
          clear hw s
          induction this with
          | base h => exact lP _ hep
          | @step u z h _ ih =>
            by_cases m : u ∈ x0 :: p
            · exact lP u m
            · exact .step (by rw [revf_out p f y0 x0 u m]; exact h) ih
        · exact lB w hw s
end Mine
end

section
open PySem PySem.W PyProof.Rows PySem.Calls
set_option Elab.async false
set_option linter.unusedVariables false
set_option linter.unusedSimpArgs false
namespace Mine
/-! ## the same upon rows -/
abbrev Rw := List Nat × List Nat
def hs (k : Nat) : List Nat := [48 + k]
theorem hs_inj {a b : Nat} : hs a = hs b ↔ a = b := by simp [hs]
def rest (rows : List Rw) (p : List Nat) : List Rw := rows.filter fun r => decide (low r.1 ≠ low p)
def found (H : List Nat → Nat) (rows : List Rw) (p : List Nat) : List (List Nat) := (rows.filter fun r => decide (r.2 = hs (H p)) && decide (low r.1 ≠ low p)).map (·.1)
def comeL (H : List Nat → Nat) : Nat → Nat → List Nat → List Rw → Nat × List Rw
  | 0, _, p, rows => (0, rest rows p)
  | k + 1, t, p, rows => match found H rows p with
    | [] => (t + 1, rest rows p ++ [(p, hs (H p))])
    | o :: _ => comeL H k (t + 1) (swp o) (rest rows p ++ [(p, hs (H p))])
theorem found_rest (H : List Nat → Nat) (rows : List Rw) (p : List Nat) : found H rows p = ((rest rows p).filter fun r => decide (r.2 = hs (H p))).map (·.1) := by
  unfold found rest
  rw [List.filter_filter]
/-- a name of small letters and figures -/
def Nm (a : List Nat) : Prop := (∀ c ∈ a, 97 ≤ c ∧ c ≤ 122 ∨ 48 ≤ c ∧ c ≤ 57) ∧ a.length ≤ 3
theorem Nm.asc {a : List Nat} (h : Nm a) : Clean a := fun c m => by rcases h.1 c m with h | h <;> omega
theorem sg_nm (c : Nat) (h : 97 ≤ c ∧ c ≤ 122 ∨ 48 ≤ c ∧ c ≤ 57) : lo1 c = c ∧ lo1 (up1 c) = c ∧ sw1 c = up1 c ∧ sw1 (up1 c) = c := by
  have : ∀ c : Fin 128, (97 ≤ c.val ∧ c.val ≤ 122 ∨ 48 ≤ c.val ∧ c.val ≤ 57) → lo1 c.val = c.val ∧ lo1 (up1 c.val) = c.val ∧ sw1 c.val = up1 c.val ∧ sw1 (up1 c.val) = c.val := by decide +kernel
  exact this ⟨c, by omega⟩ h
theorem map_id' {f : Nat → Nat} {a : List Nat} (h : ∀ c ∈ a, f c = c) : a.map f = a := by
  induction a with
  | nil => rfl
  | cons x r ih => rw [List.map_cons, h x (by simp), ih fun c m => h c (List.mem_cons_of_mem _ m)]
theorem Nm.low {a : List Nat} (h : Nm a) : low a = a := map_id' fun c m => (sg_nm c (h.1 c m)).1
theorem Nm.low_upp {a : List Nat} (h : Nm a) : Mine.low (upp a) = a := by
  unfold Mine.low upp; rw [List.map_map]; exact map_id' fun c m => (sg_nm c (h.1 c m)).2.1
theorem Nm.swp {a : List Nat} (h : Nm a) : Mine.swp a = upp a := by
  unfold Mine.swp upp; exact List.map_congr_left fun c m => (sg_nm c (h.1 c m)).2.2.1
theorem Nm.swp_upp {a : List Nat} (h : Nm a) : Mine.swp (upp a) = a := by
  unfold Mine.swp upp; rw [List.map_map]; exact map_id' fun c m => (sg_nm c (h.1 c m)).2.2.2
/-- p is a name of the list, spelled small or great -/
def Sp (names : List (List Nat)) (p : List Nat) : Prop := ∃ a ∈ names, Nm a ∧ (p = a ∨ p = upp a)
theorem Sp.swp {names : List (List Nat)} {p : List Nat} (h : Sp names p) : Sp names (Mine.swp p) ∧ Mine.swp (Mine.swp p) = p ∧ low (Mine.swp p) = low p := by
  obtain ⟨a, m, n, e⟩ := h
  rcases e with rfl | rfl
  · rw [n.swp]; exact ⟨⟨p, m, n, .inr rfl⟩, n.swp_upp, by rw [n.low_upp, n.low]⟩
  · rw [n.swp_upp]; exact ⟨⟨a, m, n, .inl rfl⟩, n.swp, by rw [n.low_upp, n.low]⟩
/-- f tells the other house of who stands in each -/
def FR (H : List Nat → Nat) (R : List Rw) (f : Pm) : Prop := ∀ x z, f x = some z ↔ ∃ r ∈ R, r.2 = hs x ∧ H (Mine.swp r.1) = z
structure PI (H : List Nat → Nat) (names : List (List Nat)) (rows : List Rw) (p : List Nat) : Prop where
  keys : (rows.map fun r => low r.1).Nodup
  house : ∀ r ∈ rows, r.2 = hs (H r.1)
  spell : ∀ r ∈ rows, Sp names r.1
  me : Sp names p
  dist : ((rest rows p).map (·.2)).Nodup
structure RI (H : List Nat → Nat) (names : List (List Nat)) (rows : List Rw) : Prop where
  keys : (rows.map fun r => low r.1).Nodup
  house : ∀ r ∈ rows, r.2 = hs (H r.1)
  spell : ∀ r ∈ rows, Sp names r.1
  dist : (rows.map (·.2)).Nodup
theorem inj_of_nodup {α β : Type} {g : α → β} : ∀ {l : List α}, (l.map g).Nodup → ∀ {a b : α}, a ∈ l → b ∈ l → g a = g b → a = b
  | x :: l, nd, a, b, ha, hb, e => by
    rw [List.map_cons, List.nodup_cons] at nd
    rcases List.mem_cons.mp ha with ea | ha <;> rcases List.mem_cons.mp hb with eb | hb
    · rw [ea, eb]
    · exact absurd (by rw [← ea, e]; exact List.mem_map_of_mem hb) nd.1
    · exact absurd (by rw [← eb, ← e]; exact List.mem_map_of_mem ha) nd.1
    · exact inj_of_nodup nd.2 ha hb e
theorem nodup_filter_map {α β : Type} {g : α → β} {l : List α} (p : α → Bool) (nd : (l.map g).Nodup) : ((l.filter p).map g).Nodup :=
  nd.sublist (List.Sublist.map g List.filter_sublist)
theorem nodup_of_map {α β : Type} {g : α → β} : ∀ {l : List α}, (l.map g).Nodup → l.Nodup
  | [], _ => List.nodup_nil
  | x :: l, nd => by
    rw [List.map_cons, List.nodup_cons] at nd
    exact List.nodup_cons.mpr ⟨fun m => nd.1 (List.mem_map_of_mem m), nodup_of_map nd.2⟩
theorem mem_rest {rows : List Rw} {p : List Nat} {r : Rw} : r ∈ rest rows p ↔ r ∈ rows ∧ low r.1 ≠ low p := by
  unfold rest; rw [List.mem_filter, decide_eq_true_eq]
theorem nodup_snoc {α : Type} {l : List α} {a : α} (h : l.Nodup) (n : a ∉ l) : (l ++ [a]).Nodup := by
  rw [List.nodup_append]
  exact ⟨h, by simp, fun x mx y my e => n (by rw [List.mem_singleton.mp my] at e; exact e ▸ mx)⟩
theorem come_run {H : List Nat → Nat} {names : List (List Nat)} : ∀ (k t : Nat) (p : List Nat) (rows : List Rw) (f : Pm), PI H names rows p → FR H (rest rows p) f →
    (comeL H k t p rows).1 = (run k t f (H p) (H (Mine.swp p))).1 ∧ RI H names (comeL H k t p rows).2 ∧ FR H (comeL H k t p rows).2 (run k t f (H p) (H (Mine.swp p))).2
  | 0, t, p, rows, f, I, F => ⟨rfl, ⟨nodup_filter_map _ I.keys, fun r m => I.house r (mem_rest.mp m).1, fun r m => I.spell r (mem_rest.mp m).1, I.dist⟩, F⟩
  | k + 1, t, p, rows, f, I, F => by
    have keysR : ((rest rows p).map fun r => low r.1).Nodup := nodup_filter_map _ I.keys
    have pnot : low p ∉ (rest rows p).map fun r => low r.1 := fun m => by
      obtain ⟨r, mr, e⟩ := List.mem_map.mp m
      exact (mem_rest.mp mr).2 e
    have keys' : ((rest rows p ++ [(p, hs (H p))]).map fun r => low r.1).Nodup := by
      rw [List.map_append]; exact nodup_snoc keysR pnot
    have house' : ∀ r ∈ rest rows p ++ [(p, hs (H p))], r.2 = hs (H r.1) := fun r m => by
      rcases List.mem_append.mp m with m | m
      · exact I.house r (mem_rest.mp m).1
      · rw [List.mem_singleton.mp m]
    have spell' : ∀ r ∈ rest rows p ++ [(p, hs (H p))], Sp names r.1 := fun r m => by
      rcases List.mem_append.mp m with m | m
      · exact I.spell r (mem_rest.mp m).1
      · rw [List.mem_singleton.mp m]; exact I.me
    cases hf : found H rows p with
    | nil =>
      have none_in : ∀ r ∈ rest rows p, r.2 ≠ hs (H p) := fun r m e => by
        rw [found_rest] at hf
        have := List.mem_map_of_mem (f := (·.1)) (List.mem_filter (p := fun r : Rw => decide (r.2 = hs (H p))) |>.mpr ⟨m, decide_eq_true e⟩)
        rw [hf] at this; cases this
      have hn : f (H p) = none := by
        cases e : f (H p) with
        | none => rfl
        | some z => obtain ⟨r, m, e1, _⟩ := (F _ _).mp e; exact absurd e1 (none_in r m)
      have ec : comeL H (k + 1) t p rows = (t + 1, rest rows p ++ [(p, hs (H p))]) := by rw [comeL, hf]
      rw [ec, run_none hn]
      refine ⟨rfl, ⟨keys', house', spell', ?_⟩, fun x z => ?_⟩
      · rw [List.map_append]
        exact nodup_snoc I.dist fun m => by
          obtain ⟨r, mr, e⟩ := List.mem_map.mp m
          exact none_in r mr e
      · show upd f (H p) (H (Mine.swp p)) x = some z ↔ _
        by_cases q : x = H p
        · subst q
          rw [upd_self]
          constructor
          · intro e; cases e; exact ⟨(p, hs (H p)), by simp, rfl, rfl⟩
          · rintro ⟨r, m, e1, e2⟩
            rcases List.mem_append.mp m with m | m
            · exact absurd e1 (none_in r m)
            · rw [List.mem_singleton.mp m] at e2; rw [← e2]
        · rw [upd_ne q, F x z]
          constructor
          · rintro ⟨r, m, e⟩; exact ⟨r, List.mem_append_left _ m, e⟩
          · rintro ⟨r, m, e1, e2⟩
            rcases List.mem_append.mp m with m | m
            · exact ⟨r, m, e1, e2⟩
            · rw [List.mem_singleton.mp m] at e1; exact absurd (hs_inj.mp e1).symm q
    | cons o l =>
      obtain ⟨ro, mro, ero, eo⟩ : ∃ ro ∈ rest rows p, ro.2 = hs (H p) ∧ ro.1 = o := by
        have : o ∈ found H rows p := by rw [hf]; simp
        rw [found_rest] at this
        obtain ⟨r, m, e⟩ := List.mem_map.mp this
        obtain ⟨m1, m2⟩ := List.mem_filter.mp m
        exact ⟨r, m1, of_decide_eq_true m2, e⟩
      subst eo
      have hz : f (H p) = some (H (Mine.swp ro.1)) := (F _ _).mpr ⟨ro, mro, ero, rfl⟩
      have spo := I.spell ro (mem_rest.mp mro).1
      obtain ⟨so1, so2, so3⟩ := spo.swp
      have hHo : H ro.1 = H p := hs_inj.mp ((I.house ro (mem_rest.mp mro).1).symm.trans ero)
      have ec : comeL H (k + 1) t p rows = comeL H k (t + 1) (Mine.swp ro.1) (rest rows p ++ [(p, hs (H p))]) := by rw [comeL, hf]
      have only : ∀ r ∈ rest rows p, r.2 = hs (H p) → r = ro := fun r m e => inj_of_nodup I.dist m mro (e.trans ero.symm)
      have onlyk : ∀ r ∈ rest rows p, low r.1 = low ro.1 → r = ro := fun r m e => inj_of_nodup (g := fun r : Rw => low r.1) keysR m mro e
      have pne : low p ≠ low ro.1 := fun e => (mem_rest.mp mro).2 e.symm
      have mem' : ∀ r, r ∈ rest (rest rows p ++ [(p, hs (H p))]) (Mine.swp ro.1) ↔ (r ∈ rest rows p ∧ r ≠ ro) ∨ r = (p, hs (H p)) := fun r => by
        rw [mem_rest, List.mem_append, List.mem_singleton, so3]
        constructor
        · rintro ⟨m | m, e⟩
          · exact .inl ⟨m, fun q => e (by rw [q])⟩
          · exact .inr m
        · rintro (⟨m, n⟩ | m)
          · exact ⟨.inl m, fun e => n (onlyk r m e)⟩
          · subst m; exact ⟨.inr rfl, pne⟩
      have er : rest (rest rows p ++ [(p, hs (H p))]) (Mine.swp ro.1) = (rest (rest rows p) ro.1) ++ [(p, hs (H p))] := by
        unfold rest
        rw [List.filter_append, so3]
        simp [pne]
      have I' : PI H names (rest rows p ++ [(p, hs (H p))]) (Mine.swp ro.1) := by
        refine ⟨keys', house', spell', so1, ?_⟩
        rw [er, List.map_append]
        refine nodup_snoc (nodup_filter_map _ I.dist) fun m => ?_
        obtain ⟨r, mr, e⟩ := List.mem_map.mp m
        obtain ⟨m1, m2⟩ := mem_rest.mp mr
        exact m2 (by rw [only r m1 e])
      have F' : FR H (rest (rest rows p ++ [(p, hs (H p))]) (Mine.swp ro.1)) (upd f (H p) (H (Mine.swp p))) := fun x z => by
        by_cases q : x = H p
        · subst q
          rw [upd_self]
          constructor
          · intro e; cases e; exact ⟨(p, hs (H p)), (mem' _).mpr (.inr rfl), rfl, rfl⟩
          · rintro ⟨r, m, e1, e2⟩
            rcases (mem' r).mp m with ⟨m, n⟩ | m
            · exact absurd (only r m e1) n
            · rw [m] at e2; rw [← e2]
        · rw [upd_ne q, F x z]
          constructor
          · rintro ⟨r, m, e1, e2⟩
            exact ⟨r, (mem' r).mpr (.inl ⟨m, fun e => q (hs_inj.mp (by rw [← e1, e, ero]))⟩), e1, e2⟩
          · rintro ⟨r, m, e1, e2⟩
            rcases (mem' r).mp m with ⟨m, n⟩ | m
            · exact ⟨r, m, e1, e2⟩
            · rw [m] at e1; exact absurd (hs_inj.mp e1).symm q
      have ih := come_run k (t + 1) (Mine.swp ro.1) _ _ I' F'
      rw [so2, hHo] at ih
      rw [ec, run_some hz]
      exact ih
/-! ## the counts -/
theorem len_eq {α : Type} [DecidableEq α] {a b : List α} (na : a.Nodup) (nb : b.Nodup) (h : ∀ x, x ∈ a ↔ x ∈ b) : a.length = b.length :=
  Nat.le_antisymm (nodup_sub na fun x m => (h x).mp m) (nodup_sub nb fun x m => (h x).mpr m)
def keptN (H : List Nat → Nat) (lots : List Nat) (rows : List Rw) (L : Nat) : Nat := (rows.filter fun r => decide (lotOf lots (H r.1) = L)).length
theorem kept_min {H : List Nat → Nat} {names : List (List Nat)} {rows : List Rw} {n : Nat} {lots fs : List Nat} {f : Pm} (hH : ∀ x, H x < n) (R : RI H names rows) (F : FR H rows f) (I : LI n lots fs f) {L : Nat} (hL : L ∈ lots) :
    keptN H lots rows L = min (lots.count L) (cnt lots fs L) := by
  obtain ⟨x, hx, ex⟩ := List.mem_iff_getElem.mp hL
  have hx' : lotOf lots x = L := by unfold lotOf; rw [List.getD_eq_getElem?_getD, List.getElem?_eq_getElem hx]; exact ex
  have hn := I.len
  -- the houses of the rows of the lot
  have hnd : ((rows.filter fun r => decide (lotOf lots (H r.1) = L)).map fun r => H r.1).Nodup := by
    have : ((rows.filter fun r => decide (lotOf lots (H r.1) = L)).map (·.2)).Nodup := nodup_filter_map _ R.dist
    have e : (rows.filter fun r => decide (lotOf lots (H r.1) = L)).map (·.2) = ((rows.filter fun r => decide (lotOf lots (H r.1) = L)).map fun r => H r.1).map hs := by
      rw [List.map_map]
      exact List.map_congr_left fun r m => R.house r (List.mem_filter.mp m).1
    rw [e] at this
    exact nodup_of_map this
  have occ : ∀ w, w ∈ ((rows.filter fun r => decide (lotOf lots (H r.1) = L)).map fun r => H r.1) ↔ (w < n ∧ lotOf lots w = L ∧ f w ≠ none) := fun w => by
    rw [List.mem_map]
    constructor
    · rintro ⟨r, m, e⟩
      obtain ⟨m1, m2⟩ := List.mem_filter.mp m
      refine ⟨by rw [← e]; exact hH _, by rw [← e]; exact of_decide_eq_true m2, fun q => ?_⟩
      have := (F w _).mpr ⟨r, m1, by rw [R.house r m1, e], rfl⟩
      rw [q] at this; cases this
    · rintro ⟨h1, h2, h3⟩
      obtain ⟨z, hz⟩ := Option.ne_none_iff_exists'.mp h3
      obtain ⟨r, m, e1, e2⟩ := (F w z).mp hz
      have e : H r.1 = w := hs_inj.mp ((R.house r m).symm.trans e1)
      exact ⟨r, List.mem_filter.mpr ⟨m, by rw [e]; exact decide_eq_true h2⟩, e⟩
  have hk : keptN H lots rows L = ((rows.filter fun r => decide (lotOf lots (H r.1) = L)).map fun r => H r.1).length := by rw [List.length_map]; rfl
  have ndr : ((List.range lots.length).filter fun x => decide (lotOf lots x = L)).Nodup := List.Nodup.sublist List.filter_sublist List.nodup_range
  have memr : ∀ w, w ∈ ((List.range lots.length).filter fun x => decide (lotOf lots x = L)) ↔ (w < n ∧ lotOf lots w = L) := fun w => by
    rw [List.mem_filter, List.mem_range, hn, decide_eq_true_eq]
  rcases I.lot x (by omega) with ⟨m1, m2⟩ | ⟨m1, e, m2, m3, m4, m5⟩
  · rw [hx'] at m1 m2
    rw [hk, len_eq hnd ndr fun w => by
      rw [occ, memr]; exact ⟨fun h => ⟨h.1, h.2.1⟩, fun h => ⟨h.1, h.2, m1 w h.1 h.2⟩⟩, cnt_range, Nat.min_eq_left m2]
  · rw [hx'] at m1 m3 m5
    have me : e ∈ ((List.range lots.length).filter fun x => decide (lotOf lots x = L)) := (memr e).mpr ⟨m2, m3⟩
    rw [hk, len_eq hnd (ndr.erase e) fun w => by
      rw [occ, ndr.mem_erase_iff, memr]
      constructor
      · intro h; exact ⟨fun q => h.2.2 (by rw [q]; exact m4), h.1, h.2.1⟩
      · intro h
        exact ⟨h.2.1, h.2.2, fun q => h.1 ((m5 w h.2.1 h.2.2).only q)⟩, List.length_erase_of_mem me, cnt_range]
    omega
end Mine
end

section
open PySem PySem.W PyProof.Rows PySem.Calls
set_option Elab.async false
set_option linter.unusedVariables false
namespace Mine

def P0 : Params := { strHash := fun _ => 0, shareClass := fun _ => 0, mergeTok := id, idOf := fun a => a, idOfShared := fun _ _ => 8, followText := fun _ => false, idOfImm := fun _ => 16 }
def fdIn (K : Frag) (a : Addr) : FuncData := match K.lookup a with | some ⟨_, _, .func fd, _⟩ => fd | _ => default
noncomputable abbrev fdAt (a : Addr) : FuncData := fdIn (hd.heap_39 P0) a
def bodyOf (fd : FuncData) : List Stmt := match fd.body with | .stmts b => b | _ => []
def Lw (c : Cx) : Prop := c.K = hd.heap_39 c.w.params
abbrev a_crc : Addr := 182
abbrev a_rname : Addr := 43
abbrev a_rvalue : Addr := 48
abbrev a_init : Addr := 63
abbrev a_conv : Addr := 70
abbrev a_set : Addr := 84
abbrev a_del_ : Addr := 89
abbrev a_get : Addr := 118
abbrev a_keys : Addr := 123
abbrev a_values : Addr := 128
abbrev a_items : Addr := 135
abbrev a_cls : Addr := 171
abbrev a_row : Addr := 189
abbrev a_name : Addr := 194
abbrev a_house : Addr := 199
abbrev a_divided : Addr := 206
abbrev a_come : Addr := 211
abbrev a_due : Addr := 218
abbrev a_law : Addr := 223
theorem fn_crc {c : Cx} (l : Lw c) : c.K.lookup a_crc = some ⟨.type "function", none, .func (fdAt a_crc), #[]⟩ := by rw [l]; kernel_rfl
theorem cd_crc {c : Cx} (l : Lw c) : codeIn c.K (fdAt a_crc).code (fdAt a_crc).qualname = true := by rw [l]; kernel_rfl
theorem fk_crc : frameOk (fdAt a_crc).scope ["crc", "j"] = true := by decide +kernel
theorem bd_crc : (fdAt a_crc).body = .stmts (bodyOf (fdAt a_crc)) := by kernel_rfl
theorem ow_crc (h : Heap) : ∀ x ∈ ([("crc" : Str), ("j" : Str)] : List Str), Own (callEnvC (fdAt a_crc) h.objs.size a_crc) h x := fun x m => Own_call fk_crc m
theorem gf_crc {c : Cx} (l : Lw c) : nsIn c.K mainGlobals "_gen_crc" = some (some (.ref a_crc)) := by rw [l]; kernel_rfl
theorem kp_crc {c : Cx} (l : Lw c) : Kept c (.ref a_crc) := .inl (by rw [l]; kernel_rfl)
theorem fn_init {c : Cx} (l : Lw c) : c.K.lookup a_init = some ⟨.type "function", none, .func (fdAt a_init), #[]⟩ := by rw [l]; kernel_rfl
theorem cd_init {c : Cx} (l : Lw c) : codeIn c.K (fdAt a_init).code (fdAt a_init).qualname = true := by rw [l]; kernel_rfl
theorem fk_init : frameOk (fdAt a_init).scope ["self", "headers", "k", "v"] = true := by decide +kernel
theorem bd_init : (fdAt a_init).body = .stmts (bodyOf (fdAt a_init)) := by kernel_rfl
theorem ow_init (h : Heap) : ∀ x ∈ ([("self" : Str), ("headers" : Str), ("k" : Str), ("v" : Str)] : List Str), Own (callEnvC (fdAt a_init) h.objs.size a_init) h x := fun x m => Own_call fk_init m
abbrev d_init : Addr := 56
theorem fi_init {c : Cx} (l : Lw c) : findIn c.K (.ref a_cls) "__init__" = some (some (.ref a_init)) := by rw [l]; kernel_rfl
theorem if_init {c : Cx} (l : Lw c) : isFn c.K (.ref a_init) = true := by rw [l]; kernel_rfl
theorem kp_init {c : Cx} (l : Lw c) : Kept c (.ref a_init) := .inl (by rw [l]; kernel_rfl)
theorem fn_conv {c : Cx} (l : Lw c) : c.K.lookup a_conv = some ⟨.type "function", none, .func (fdAt a_conv), #[]⟩ := by rw [l]; kernel_rfl
theorem cd_conv {c : Cx} (l : Lw c) : codeIn c.K (fdAt a_conv).code (fdAt a_conv).qualname = true := by rw [l]; kernel_rfl
theorem fk_conv : frameOk (fdAt a_conv).scope ["self", "value", "name", "regex"] = true := by decide +kernel
theorem bd_conv : (fdAt a_conv).body = .stmts (bodyOf (fdAt a_conv)) := by kernel_rfl
theorem ow_conv (h : Heap) : ∀ x ∈ ([("self" : Str), ("value" : Str), ("name" : Str), ("regex" : Str)] : List Str), Own (callEnvC (fdAt a_conv) h.objs.size a_conv) h x := fun x m => Own_call fk_conv m
theorem fi_conv {c : Cx} (l : Lw c) : findIn c.K (.ref a_cls) "_convert_string_type" = some (some (.ref a_conv)) := by rw [l]; kernel_rfl
theorem if_conv {c : Cx} (l : Lw c) : isFn c.K (.ref a_conv) = true := by rw [l]; kernel_rfl
theorem kp_conv {c : Cx} (l : Lw c) : Kept c (.ref a_conv) := .inl (by rw [l]; kernel_rfl)
theorem fn_set {c : Cx} (l : Lw c) : c.K.lookup a_set = some ⟨.type "function", none, .func (fdAt a_set), #[]⟩ := by rw [l]; kernel_rfl
theorem cd_set {c : Cx} (l : Lw c) : codeIn c.K (fdAt a_set).code (fdAt a_set).qualname = true := by rw [l]; kernel_rfl
theorem fk_set : frameOk (fdAt a_set).scope ["self", "name", "val"] = true := by decide +kernel
theorem bd_set : (fdAt a_set).body = .stmts (bodyOf (fdAt a_set)) := by kernel_rfl
theorem ow_set (h : Heap) : ∀ x ∈ ([("self" : Str), ("name" : Str), ("val" : Str)] : List Str), Own (callEnvC (fdAt a_set) h.objs.size a_set) h x := fun x m => Own_call fk_set m
theorem fi_set {c : Cx} (l : Lw c) : findIn c.K (.ref a_cls) "__setitem__" = some (some (.ref a_set)) := by rw [l]; kernel_rfl
theorem if_set {c : Cx} (l : Lw c) : isFn c.K (.ref a_set) = true := by rw [l]; kernel_rfl
theorem kp_set {c : Cx} (l : Lw c) : Kept c (.ref a_set) := .inl (by rw [l]; kernel_rfl)
theorem fn_del_ {c : Cx} (l : Lw c) : c.K.lookup a_del_ = some ⟨.type "function", none, .func (fdAt a_del_), #[]⟩ := by rw [l]; kernel_rfl
theorem cd_del_ {c : Cx} (l : Lw c) : codeIn c.K (fdAt a_del_).code (fdAt a_del_).qualname = true := by rw [l]; kernel_rfl
theorem fk_del_ : frameOk (fdAt a_del_).scope ["self", "name"] = true := by decide +kernel
theorem bd_del_ : (fdAt a_del_).body = .stmts (bodyOf (fdAt a_del_)) := by kernel_rfl
theorem ow_del_ (h : Heap) : ∀ x ∈ ([("self" : Str), ("name" : Str)] : List Str), Own (callEnvC (fdAt a_del_) h.objs.size a_del_) h x := fun x m => Own_call fk_del_ m
theorem fi_del_ {c : Cx} (l : Lw c) : findIn c.K (.ref a_cls) "__delitem__" = some (some (.ref a_del_)) := by rw [l]; kernel_rfl
theorem if_del_ {c : Cx} (l : Lw c) : isFn c.K (.ref a_del_) = true := by rw [l]; kernel_rfl
theorem kp_del_ {c : Cx} (l : Lw c) : Kept c (.ref a_del_) := .inl (by rw [l]; kernel_rfl)
theorem fn_get {c : Cx} (l : Lw c) : c.K.lookup a_get = some ⟨.type "function", none, .func (fdAt a_get), #[]⟩ := by rw [l]; kernel_rfl
theorem cd_get {c : Cx} (l : Lw c) : codeIn c.K (fdAt a_get).code (fdAt a_get).qualname = true := by rw [l]; kernel_rfl
theorem fk_get : frameOk (fdAt a_get).scope ["self", "name", "default", "k", "v"] = true := by decide +kernel
theorem bd_get : (fdAt a_get).body = .stmts (bodyOf (fdAt a_get)) := by kernel_rfl
theorem ow_get (h : Heap) : ∀ x ∈ ([("self" : Str), ("name" : Str), ("default" : Str), ("k" : Str), ("v" : Str)] : List Str), Own (callEnvC (fdAt a_get) h.objs.size a_get) h x := fun x m => Own_call fk_get m
abbrev d_get : Addr := 111
theorem fi_get {c : Cx} (l : Lw c) : findIn c.K (.ref a_cls) "get" = some (some (.ref a_get)) := by rw [l]; kernel_rfl
theorem if_get {c : Cx} (l : Lw c) : isFn c.K (.ref a_get) = true := by rw [l]; kernel_rfl
theorem kp_get {c : Cx} (l : Lw c) : Kept c (.ref a_get) := .inl (by rw [l]; kernel_rfl)
theorem fn_keys {c : Cx} (l : Lw c) : c.K.lookup a_keys = some ⟨.type "function", none, .func (fdAt a_keys), #[]⟩ := by rw [l]; kernel_rfl
theorem cd_keys {c : Cx} (l : Lw c) : codeIn c.K (fdAt a_keys).code (fdAt a_keys).qualname = true := by rw [l]; kernel_rfl
theorem fk_keys : frameOk (fdAt a_keys).scope ["self"] = true := by decide +kernel
theorem bd_keys : (fdAt a_keys).body = .stmts (bodyOf (fdAt a_keys)) := by kernel_rfl
theorem ow_keys (h : Heap) : ∀ x ∈ ([("self" : Str)] : List Str), Own (callEnvC (fdAt a_keys) h.objs.size a_keys) h x := fun x m => Own_call fk_keys m
theorem fi_keys {c : Cx} (l : Lw c) : findIn c.K (.ref a_cls) "keys" = some (some (.ref a_keys)) := by rw [l]; kernel_rfl
theorem if_keys {c : Cx} (l : Lw c) : isFn c.K (.ref a_keys) = true := by rw [l]; kernel_rfl
theorem kp_keys {c : Cx} (l : Lw c) : Kept c (.ref a_keys) := .inl (by rw [l]; kernel_rfl)
theorem fn_values {c : Cx} (l : Lw c) : c.K.lookup a_values = some ⟨.type "function", none, .func (fdAt a_values), #[]⟩ := by rw [l]; kernel_rfl
theorem cd_values {c : Cx} (l : Lw c) : codeIn c.K (fdAt a_values).code (fdAt a_values).qualname = true := by rw [l]; kernel_rfl
theorem fk_values : frameOk (fdAt a_values).scope ["self"] = true := by decide +kernel
theorem bd_values : (fdAt a_values).body = .stmts (bodyOf (fdAt a_values)) := by kernel_rfl
theorem ow_values (h : Heap) : ∀ x ∈ ([("self" : Str)] : List Str), Own (callEnvC (fdAt a_values) h.objs.size a_values) h x := fun x m => Own_call fk_values m
theorem fi_values {c : Cx} (l : Lw c) : findIn c.K (.ref a_cls) "values" = some (some (.ref a_values)) := by rw [l]; kernel_rfl
theorem if_values {c : Cx} (l : Lw c) : isFn c.K (.ref a_values) = true := by rw [l]; kernel_rfl
theorem kp_values {c : Cx} (l : Lw c) : Kept c (.ref a_values) := .inl (by rw [l]; kernel_rfl)
theorem fn_items {c : Cx} (l : Lw c) : c.K.lookup a_items = some ⟨.type "function", none, .func (fdAt a_items), #[]⟩ := by rw [l]; kernel_rfl
theorem cd_items {c : Cx} (l : Lw c) : codeIn c.K (fdAt a_items).code (fdAt a_items).qualname = true := by rw [l]; kernel_rfl
theorem fk_items : frameOk (fdAt a_items).scope ["self"] = true := by decide +kernel
theorem bd_items : (fdAt a_items).body = .stmts (bodyOf (fdAt a_items)) := by kernel_rfl
theorem ow_items (h : Heap) : ∀ x ∈ ([("self" : Str)] : List Str), Own (callEnvC (fdAt a_items) h.objs.size a_items) h x := fun x m => Own_call fk_items m
theorem fi_items {c : Cx} (l : Lw c) : findIn c.K (.ref a_cls) "items" = some (some (.ref a_items)) := by rw [l]; kernel_rfl
theorem if_items {c : Cx} (l : Lw c) : isFn c.K (.ref a_items) = true := by rw [l]; kernel_rfl
theorem kp_items {c : Cx} (l : Lw c) : Kept c (.ref a_items) := .inl (by rw [l]; kernel_rfl)
theorem fn_row {c : Cx} (l : Lw c) : c.K.lookup a_row = some ⟨.type "function", none, .func (fdAt a_row), #[]⟩ := by rw [l]; kernel_rfl
theorem cd_row {c : Cx} (l : Lw c) : codeIn c.K (fdAt a_row).code (fdAt a_row).qualname = true := by rw [l]; kernel_rfl
theorem fk_row : frameOk (fdAt a_row).scope ["script", "size", "row", "mixed", "x", "k"] = true := by decide +kernel
theorem bd_row : (fdAt a_row).body = .stmts (bodyOf (fdAt a_row)) := by kernel_rfl
theorem ow_row (h : Heap) : ∀ x ∈ ([("script" : Str), ("size" : Str), ("row" : Str), ("mixed" : Str), ("x" : Str), ("k" : Str)] : List Str), Own (callEnvC (fdAt a_row) h.objs.size a_row) h x := fun x m => Own_call fk_row m
theorem gf_row {c : Cx} (l : Lw c) : nsIn c.K mainGlobals "_law_row" = some (some (.ref a_row)) := by rw [l]; kernel_rfl
theorem kp_row {c : Cx} (l : Lw c) : Kept c (.ref a_row) := .inl (by rw [l]; kernel_rfl)
theorem fn_name {c : Cx} (l : Lw c) : c.K.lookup a_name = some ⟨.type "function", none, .func (fdAt a_name), #[]⟩ := by rw [l]; kernel_rfl
theorem cd_name {c : Cx} (l : Lw c) : codeIn c.K (fdAt a_name).code (fdAt a_name).qualname = true := by rw [l]; kernel_rfl
theorem fk_name : frameOk (fdAt a_name).scope ["number"] = true := by decide +kernel
theorem bd_name : (fdAt a_name).body = .stmts (bodyOf (fdAt a_name)) := by kernel_rfl
theorem ow_name (h : Heap) : ∀ x ∈ ([("number" : Str)] : List Str), Own (callEnvC (fdAt a_name) h.objs.size a_name) h x := fun x m => Own_call fk_name m
theorem gf_name {c : Cx} (l : Lw c) : nsIn c.K mainGlobals "_law_name" = some (some (.ref a_name)) := by rw [l]; kernel_rfl
theorem kp_name {c : Cx} (l : Lw c) : Kept c (.ref a_name) := .inl (by rw [l]; kernel_rfl)
theorem fn_house {c : Cx} (l : Lw c) : c.K.lookup a_house = some ⟨.type "function", none, .func (fdAt a_house), #[]⟩ := by rw [l]; kernel_rfl
theorem cd_house {c : Cx} (l : Lw c) : codeIn c.K (fdAt a_house).code (fdAt a_house).qualname = true := by rw [l]; kernel_rfl
theorem fk_house : frameOk (fdAt a_house).scope ["name", "houses", "crc", "octet"] = true := by decide +kernel
theorem bd_house : (fdAt a_house).body = .stmts (bodyOf (fdAt a_house)) := by kernel_rfl
theorem ow_house (h : Heap) : ∀ x ∈ ([("name" : Str), ("houses" : Str), ("crc" : Str), ("octet" : Str)] : List Str), Own (callEnvC (fdAt a_house) h.objs.size a_house) h x := fun x m => Own_call fk_house m
theorem gf_house {c : Cx} (l : Lw c) : nsIn c.K mainGlobals "_law_house" = some (some (.ref a_house)) := by rw [l]; kernel_rfl
theorem kp_house {c : Cx} (l : Lw c) : Kept c (.ref a_house) := .inl (by rw [l]; kernel_rfl)
theorem fn_divided {c : Cx} (l : Lw c) : c.K.lookup a_divided = some ⟨.type "function", none, .func (fdAt a_divided), #[]⟩ := by rw [l]; kernel_rfl
theorem cd_divided {c : Cx} (l : Lw c) : codeIn c.K (fdAt a_divided).code (fdAt a_divided).qualname = true := by rw [l]; kernel_rfl
theorem fk_divided : frameOk (fdAt a_divided).scope ["name", "houses", "rest", "sign", "k", "told"] = true := by decide +kernel
theorem bd_divided : (fdAt a_divided).body = .stmts (bodyOf (fdAt a_divided)) := by kernel_rfl
theorem ow_divided (h : Heap) : ∀ x ∈ ([("name" : Str), ("houses" : Str), ("rest" : Str), ("sign" : Str), ("k" : Str), ("told" : Str)] : List Str), Own (callEnvC (fdAt a_divided) h.objs.size a_divided) h x := fun x m => Own_call fk_divided m
theorem gf_divided {c : Cx} (l : Lw c) : nsIn c.K mainGlobals "_law_divided" = some (some (.ref a_divided)) := by rw [l]; kernel_rfl
theorem kp_divided {c : Cx} (l : Lw c) : Kept c (.ref a_divided) := .inl (by rw [l]; kernel_rfl)
theorem fn_come {c : Cx} (l : Lw c) : c.K.lookup a_come = some ⟨.type "function", none, .func (fdAt a_come), #[]⟩ := by rw [l]; kernel_rfl
theorem cd_come {c : Cx} (l : Lw c) : codeIn c.K (fdAt a_come).code (fdAt a_come).qualname = true := by rw [l]; kernel_rfl
theorem fk_come : frameOk (fdAt a_come).scope ["home", "name", "houses", "order", "turn", "house", "there"] = true := by decide +kernel
theorem bd_come : (fdAt a_come).body = .stmts (bodyOf (fdAt a_come)) := by kernel_rfl
theorem ow_come (h : Heap) : ∀ x ∈ ([("home" : Str), ("name" : Str), ("houses" : Str), ("order" : Str), ("turn" : Str), ("house" : Str), ("there" : Str)] : List Str), Own (callEnvC (fdAt a_come) h.objs.size a_come) h x := fun x m => Own_call fk_come m
theorem gf_come {c : Cx} (l : Lw c) : nsIn c.K mainGlobals "_law_come" = some (some (.ref a_come)) := by rw [l]; kernel_rfl
theorem kp_come {c : Cx} (l : Lw c) : Kept c (.ref a_come) := .inl (by rw [l]; kernel_rfl)
theorem fn_due {c : Cx} (l : Lw c) : c.K.lookup a_due = some ⟨.type "function", none, .func (fdAt a_due), #[]⟩ := by rw [l]; kernel_rfl
theorem cd_due {c : Cx} (l : Lw c) : codeIn c.K (fdAt a_due).code (fdAt a_due).qualname = true := by rw [l]; kernel_rfl
theorem fk_due : frameOk (fdAt a_due).scope ["order", "come", "due", "other", "name", "first", "second"] = true := by decide +kernel
theorem bd_due : (fdAt a_due).body = .stmts (bodyOf (fdAt a_due)) := by kernel_rfl
theorem ow_due (h : Heap) : ∀ x ∈ ([("order" : Str), ("come" : Str), ("due" : Str), ("other" : Str), ("name" : Str), ("first" : Str), ("second" : Str)] : List Str), Own (callEnvC (fdAt a_due) h.objs.size a_due) h x := fun x m => Own_call fk_due m
theorem gf_due {c : Cx} (l : Lw c) : nsIn c.K mainGlobals "_law_due" = some (some (.ref a_due)) := by rw [l]; kernel_rfl
theorem kp_due {c : Cx} (l : Lw c) : Kept c (.ref a_due) := .inl (by rw [l]; kernel_rfl)
theorem fn_law {c : Cx} (l : Lw c) : c.K.lookup a_law = some ⟨.type "function", none, .func (fdAt a_law), #[]⟩ := by rw [l]; kernel_rfl
theorem cd_law {c : Cx} (l : Lw c) : codeIn c.K (fdAt a_law).code (fdAt a_law).qualname = true := by rw [l]; kernel_rfl
theorem fk_law : frameOk (fdAt a_law).scope ["script", "row", "houses", "home", "order", "lots", "come", "rows", "number", "name", "first", "second", "lot", "full", "before", "goings", "kept"] = true := by decide +kernel
theorem bd_law : (fdAt a_law).body = .stmts (bodyOf (fdAt a_law)) := by kernel_rfl
theorem ow_law (h : Heap) : ∀ x ∈ ([("script" : Str), ("row" : Str), ("houses" : Str), ("home" : Str), ("order" : Str), ("lots" : Str), ("come" : Str), ("rows" : Str), ("number" : Str), ("name" : Str), ("first" : Str), ("second" : Str), ("lot" : Str), ("full" : Str), ("before" : Str), ("goings" : Str), ("kept" : Str)] : List Str), Own (callEnvC (fdAt a_law) h.objs.size a_law) h x := fun x m => Own_call fk_law m
theorem gf_law {c : Cx} (l : Lw c) : nsIn c.K mainGlobals "law" = some (some (.ref a_law)) := by rw [l]; kernel_rfl
theorem kp_law {c : Cx} (l : Lw c) : Kept c (.ref a_law) := .inl (by rw [l]; kernel_rfl)
end Mine
end

section
open PySem PySem.W PyProof.Rows PySem.Calls
set_option Elab.async false
set_option linter.unusedVariables false
set_option linter.unusedSimpArgs false
namespace Mine
theorem gb_range {c : Cx} (l : Lw c) : nsIn c.K mainGlobals "range" = some none := by rw [l]; kernel_rfl
theorem gb_type {c : Cx} (l : Lw c) : nsIn c.K mainGlobals "type" = some none := by rw [l]; kernel_rfl
theorem gb_list {c : Cx} (l : Lw c) : nsIn c.K mainGlobals "list" = some none := by rw [l]; kernel_rfl
theorem gb_str {c : Cx} (l : Lw c) : nsIn c.K mainGlobals "str" = some none := by rw [l]; kernel_rfl
theorem gb_len {c : Cx} (l : Lw c) : nsIn c.K mainGlobals "len" = some none := by rw [l]; kernel_rfl
theorem gn_rname {c : Cx} (l : Lw c) : nsIn c.K mainGlobals "_name_disallowed_re" = some (some (.ref a_rname)) := by rw [l]; kernel_rfl
theorem gn_rvalue {c : Cx} (l : Lw c) : nsIn c.K mainGlobals "_value_disallowed_re" = some (some (.ref a_rvalue)) := by rw [l]; kernel_rfl
theorem pt_rname {c : Cx} (l : Lw c) : patOk c.K a_rname cName = true := by rw [l]; kernel_rfl
theorem pt_rvalue {c : Cx} (l : Lw c) : patOk c.K a_rvalue cValue = true := by rw [l]; kernel_rfl

/-! ## _convert_string_type -/
theorem conv {c : Cx} (l : Lw c) {A : Around} (rm : Rm A 3) {h : Heap} (ok : Ok c h) {self : Value} {x : List Nat} {t : Tok} {b : Bool} (hx : Clean x) (hs : x.length ≤ 1000000) {Q : Value → Heap → Prop}
    (q : ∀ h', Eff c [] h h' → Q (.str (T x) t) h') : W c A (call (.ref a_conv) [self, .str (T x) t] [("name", .bool b)]) Q h := by
  refine W_call (CW_def (rm.less (by omega)) ok (fn_conv l) rfl (cd_conv l) bd_conv (params := ["self", "value", "name"]) (rest := ["regex"]) (vals := [self, .str (T x) t, .bool b]) (fun _ _ => BindsTo.of_eq (by rfl)) rfl fk_conv ?_)
  intro h1 S
  have rm' : Rm (A.deeper (callEnvC (fdAt a_conv) h.objs.size a_conv)) 2 := rm.deeper _
  generalize (A.deeper (callEnvC (fdAt a_conv) h.objs.size a_conv)) = A' at rm' ⊢
  have own : ∀ x ∈ ([("self" : Str), "value", "name", "regex"] : List Str), Own (callEnvC (fdAt a_conv) h.objs.size a_conv) h x := fun x m => Own_call fk_conv m
  refine S_cons (S_if ?_)
  refine T_cmp ?_
  refine E_call (E_builtin S (by rfl) (by rfl) (by rfl) (gb_type l) (v := .type "type") (by decide +kernel) (by decide +kernel) ?_)
  refine K_pos (.inr (.inl ⟨_, rfl⟩)) (A_cons (E_name S 1 rfl rfl (A_nil ⟨S.okh, ?_⟩)))
  refine F_types ?_
  refine E_builtin S (by rfl) (by rfl) (by rfl) (gb_str l) (v := .type "str") (by decide +kernel) (by decide +kernel) ?_
  refine C_is (by decide) (B_bool ?_)
  show W c A' (execs _ _) _ _
  obtain ⟨r, code, hp, hn, ge⟩ : ∃ r code, patOk c.K r code = true ∧ NoClean code ∧ ∀ p1 p2 (Q' : Value → Heap → Prop), Q' (.ref r) h1 →
      if b = true then W c A' (eval (.Name (Str.ofString "_name_disallowed_re") p1) (callEnvC (fdAt a_conv) h.objs.size a_conv)) Q' h1 else W c A' (eval (.Name (Str.ofString "_value_disallowed_re") p2) (callEnvC (fdAt a_conv) h.objs.size a_conv)) Q' h1 := by
    cases b with
    | true => exact ⟨_, _, pt_rname l, nc_name, fun p1 p2 Q' q' => E_global S (by rfl) (by rfl) (gn_rname l) q'⟩
    | false => exact ⟨_, _, pt_rvalue l, nc_value, fun p1 p2 Q' q' => E_global S (by rfl) (by rfl) (gn_rvalue l) q'⟩
  refine S_next (S_assign (E_if (T_val (E_name S 2 rfl rfl (B_bool (ge _ _ _ (N_store S 3 rfl (own _ (by simp)) fun h2 S => ?_)))))))
  refine ⟨rfl, ?_⟩
  obtain ⟨hP, o, ho, hc, hd⟩ := pat_of hp S.okh.kin
  refine S_next (S_if (T_val (E_meth (E_name S 3 rfl rfl (M_search ho hc hd (K_pos (.inr (.inr ⟨_, rfl⟩)) (A_cons (E_name S 1 rfl rfl (A_nil ⟨S.okh, ?_⟩)))))))))
  refine F_search hP hn hx hs (B_none ?_)
  refine S_nil ⟨rfl, S_cons (S_ret (E_name S 1 rfl rfl ?_))⟩
  exact ⟨_, rfl, q _ S.eff⟩
end Mine
namespace Mine
/-! ## the table -/
def hm (l : Addr) (y : Str) : Option Value := if y = "_headers" then some (.ref l) else none
theorem cls_ok {c : Cx} (l : Lw c) : Cls c a_cls := ⟨by rw [l]; kernel_rfl, by rw [l]; kernel_rfl⟩
theorem cls_makes {c : Cx} (l : Lw c) : makesIn c.K a_cls = true := by rw [l]; kernel_rfl
theorem cls_over {c : Cx} (l : Lw c) : plainOver c.K a_cls = true := by rw [l]; kernel_rfl
theorem cls_taker {c : Cx} (l : Lw c) : takerIn c.K a_cls "_headers" = some none := by rw [l]; kernel_rfl
theorem cls_setattr {c : Cx} (l : Lw c) : findIn c.K (.ref a_cls) "__setattr__" = some (some (.builtin "object.__setattr__")) := by rw [l]; kernel_rfl
theorem cls_noSeq {c : Cx} (l : Lw c) : noSeq c.K a_cls = true := by rw [l]; kernel_rfl
theorem cls_attr {c : Cx} (l : Lw c) : findIn c.K (.ref a_cls) "_headers" = some none := by rw [l]; kernel_rfl
theorem gn_cls {c : Cx} (l : Lw c) : nsIn c.K mainGlobals "Headers" = some (some (.ref a_cls)) := by rw [l]; kernel_rfl
theorem kp_cls {c : Cx} (l : Lw c) : Kept c (.ref a_cls) := .inl (by rw [l]; kernel_rfl)
theorem ty_init {c : Cx} (l : Lw c) : typeIn c.K (.ref a_init) = some (.type "function") := by rw [l]; kernel_rfl
theorem lk_dinit {c : Cx} (l : Lw c) : c.K.lookup d_init = some ⟨.type "tuple", none, .seq #[.none] 0, #[]⟩ := by rw [l]; kernel_rfl
abbrev TI (h : Heap) (x d l : Addr) : Prop := Inst h a_cls x d (hm l)

theorem init {c : Cx} (l : Lw c) {A : Around} (rm : Rm A 3) {h : Heap} (ok : Ok c h) {x d : Addr} (i : Inst h a_cls x d (fun _ => none)) (hd0 : h.get? d = some emptyDict) (lo : c.h0.get? d = none) {R : Flow → Heap → Prop}
    (q : ∀ lst h', h.get? lst = none → Eff c [d] h h' → TI h' x d lst → At h' lst (.lst []) → R (.ret .none) h') : CW c A (.call (.ref a_init) ⟨[.ref x], []⟩) R h := by
  refine CW_def (rm.less (by omega)) ok (fn_init l) rfl (cd_init l) bd_init (params := ["self", "headers"]) (rest := ["k", "v"]) (vals := [.ref x, .none]) (fun _ _ => binds_K ok.kin rfl (lk_dinit l) rfl rfl rfl) rfl fk_init ?_
  intro h1 S
  have rm' : Rm (A.deeper (callEnvC (fdAt a_init) h.objs.size a_init)) 2 := rm.deeper _
  generalize (A.deeper (callEnvC (fdAt a_init) h.objs.size a_init)) = A' at rm' ⊢
  have own := ow_init h
  have S := S.adopt (a := d) (b := .raw emptyDict) (by rw [hd0]; intro e; cases e) ⟨_, S.eff.keep _ _ hd0, rfl, fun t => absurd (show Value.type "dict" = Value.type "tuple" from t.1) (by decide), fun v e => by cases e⟩ lo (fun _ m => nomatch m)
  have hx : h1.get? x = some (instObj a_cls d) := S.eff _ _ i.at_ (.inr (.inl fun m => by
    have e : x = d := by simpa using m
    rw [← e, i.at_] at hd0; cases hd0))
  refine S_next (S_assign (E_if (T_cmp (E_name S 1 rfl rfl (E_none (C_isnt (by decide) (B_bool ?_)))))))
  refine E_list (A_nil ⟨by decide, fun lst h2 n2 e2 g2 => ?_⟩)
  obtain ⟨_, nD, _, nn⟩ := S.new_of n2
  have hz : h.get? lst = none := nn.resolve_right fun m => nD (d, .raw emptyDict) (by simp) (List.mem_singleton.mp m).symm
  have hx2 : h2.get? x = some (instObj a_cls d) := e2.keep _ _ hx
  have S := S.enter e2 n2 g2
  refine N_store S 1 rfl (own _ (by simp)) fun h3 S => ⟨rfl, ?_⟩
  have hx3 : h3.get? x = some (instObj a_cls d) := S.eff _ _ i.at_ (.inr (.inl fun m => by
    have e : x = d := by simpa using m
    rw [← e, i.at_] at hd0; cases hd0))
  refine S_next (S_if (T_cmp (E_call (E_builtin S (by rfl) (by rfl) (by rfl) (gb_type l) (v := .type "type") (by decide +kernel) (by decide +kernel) ?_))))
  refine K_pos (.inr (.inl ⟨_, rfl⟩)) (A_cons (E_name S 1 rfl rfl (A_nil ⟨S.okh, ?_⟩)))
  refine F_typel (S.getL (j := 1) rfl).isList ?_
  refine E_builtin S (by rfl) (by rfl) (by rfl) (gb_list l) (v := .type "list") (by decide +kernel) (by decide +kernel) ?_
  refine C_isnt (by decide) (B_bool ?_)
  refine S_nil ⟨rfl, ?_⟩
  refine S_next (S_setattr (E_name S 1 rfl rfl (E_name S 0 rfl rfl ?_)))
  obtain ⟨od, gd, ed, _⟩ := S.get (j := 0) rfl
  subst ed
  have hI : Inst h3 a_cls x d (fun _ => none) := ⟨hx3, ⟨_, _, _, gd, rfl, fun _ m => by simp at m, fun _ => rfl⟩⟩
  refine G_set S.okh hI gd (cls_setattr l) (cls_over l) (cls_taker l) (cls_ok l).hd fun h4 s4 n4 => ⟨rfl, ?_⟩
  have S := S.upd (j := 0) (b' := .ns (hm lst)) rfl (.of_same s4 (S.loSet (j := 0) rfl) (S.ntAt (j := 0) rfl)) (At.ns_iff.mpr n4)
  have hx4 : h4.get? x = some (instObj a_cls d) := S.eff _ _ i.at_ (.inr (.inl fun m => by
    have e : x = d := by simpa using m
    rw [← e, i.at_] at hd0; cases hd0))
  refine S_next (S_if (T_val (E_bool (B_bool ?_))))
  refine S_next (S_for (E_name S 1 rfl rfl ?_))
  refine F_loop (It.list lst []) rm'.1 (fun i vs D P => vs = [some (.ref x), some (.ref lst), none, none] ∧ D = [(d, .ns (hm lst)), (lst, .lst [])] ∧ P = fun _ => True) S (S.getL (j := 1) rfl).isList ⟨rfl, rfl, rfl⟩ ?_ ?_ ?_
  · rintro _ h vs D P ⟨rfl, rfl, rfl⟩ S; exact (S.getL (j := 1) rfl).isList
  · intro i _ _ _ _ _ _ hi; exact absurd hi (by simp)
  · rintro h5 vs D P ⟨rfl, rfl, rfl⟩ S
    refine ⟨rfl, S_nil ⟨rfl, S_nil ?_⟩⟩
    have hx5 : h5.get? x = some (instObj a_cls d) := S.eff _ _ i.at_ (.inr (.inl fun m => by
      have e : x = d := by simpa using m
      rw [← e, i.at_] at hd0; cases hd0))
    exact q lst h5 hz S.eff ⟨hx5, At.ns_iff.mp (S.get (j := 0) rfl)⟩ (S.get (j := 1) rfl)

theorem make {c : Cx} (l : Lw c) {A : Around} (rm : Rm A 4) {h : Heap} (ok : Ok c h) {Q : Value → Heap → Prop}
    (q : ∀ x d lst h', h.get? x = none → h.get? d = none → h.get? lst = none → Eff c [] h h' → TI h' x d lst → At h' lst (.lst []) → Q (.ref x) h') : W c A (call (.ref a_cls) []) Q h := by
  refine F_make ok (cls_makes l) (fi_init l) (ty_init l) fun x d h1 nx nd ne e1 i1 hd1 A' a1 a2 a3 => ?_
  have rm' : Rm A' 3 := ⟨by rw [a1]; exact rm.1, by have := rm.2.1; rw [a2]; omega, by have := rm.2.2; rw [a3]; omega⟩
  refine init l rm' (ok.eff e1) i1 hd1 (ok.none nd) fun lst h2 nl e2 t2 g2 => ⟨rfl, ?_⟩
  refine q x d lst h2 nx nd ?_ ?_ t2 g2
  · cases e : h.get? lst with
    | none => rfl
    | some o => rw [e1.keep _ _ e] at nl; cases nl
  · exact .of_keep fun a o e => e2 a o (e1.keep _ _ e) (.inr (.inl fun m => by
      have e' : a = d := by simpa using m
      rw [← e', e] at nd; cases nd))
end Mine
end

section
open PySem PySem.W PyProof.Rows PySem.Calls
set_option Elab.async false
set_option linter.unusedVariables false
set_option linter.unusedSimpArgs false
namespace Mine
abbrev Row := List Nat × List Nat
def Rowv (h : Heap) (v : Value) (r : Row) : Prop := ∃ a tn tt, v = .ref a ∧ Tup h a [.str (T r.1) tn, .str (T r.2) tt]
def Rows (h : Heap) (vals : List Value) (rows : List Row) : Prop := Paired (Rowv h) vals rows
theorem Rowv.eff {c : Cx} {V : List Addr} {h h' : Heap} {v : Value} {r : Row} (x : Rowv h v r) (e : Eff c V h h') : Rowv h' v r := let ⟨a, tn, tt, ev, t⟩ := x; ⟨a, tn, tt, ev, t.eff e⟩
theorem Rows.eff {c : Cx} {V : List Addr} {h h' : Heap} {vals : List Value} {rows : List Row} (x : Rows h vals rows) (e : Eff c V h h') : Rows h' vals rows := P_imp (fun _ _ r => r.eff e) x
def RowOk (r : Row) : Prop := Clean r.1 ∧ Clean r.2 ∧ r.1.length ≤ 10000 ∧ r.2.length ≤ 10000
theorem clean_low {x : List Nat} (h : Clean x) : Clean (low x) := fun c m => by
  obtain ⟨d, hd, rfl⟩ := List.mem_map.mp m
  have := h d hd
  unfold lo1
  split <;> omega
theorem TI.eff {c : Cx} {h h' : Heap} {x d lst : Addr} {vs : List Value} (t : TI h x d lst) (p : At h lst (.lst vs)) (e : Eff c [lst] h h') : TI h' x d lst := by
  obtain ⟨o, g, n, eo⟩ := p
  subst eo
  refine Inst.eff t e (fun m => ?_) fun m => ?_
  · have q : x = lst := by simpa using m
    have := t.at_; rw [q, g] at this; cases this
  · have q : d = lst := by simpa using m
    obtain ⟨o, es, ep, go, dd, _⟩ := t.ns
    rw [q, g] at go; cases go; cases dd
theorem TI.eff0 {c : Cx} {h h' : Heap} {x d lst : Addr} (t : TI h x d lst) (e : Eff c [] h h') : TI h' x d lst := Inst.eff t e (fun m => nomatch m) fun m => nomatch m
theorem At.lst_of {h : Heap} {l : Addr} {vs : List Value} (p : h.PlainList l vs.toArray) : At h l (.lst vs) := let ⟨n, g⟩ := p; ⟨_, g, n, rfl⟩
theorem At.plain {h : Heap} {l : Addr} {vs : List Value} (p : At h l (.lst vs)) : h.PlainList l vs.toArray := let ⟨o, g, n, e⟩ := p; ⟨n, e ▸ g⟩
theorem At.keep {c : Cx} {h h' : Heap} {a : Addr} {b : Ob} (x : At h a b) (e : Eff c [] h h') : At h' a b := let ⟨o, g, s⟩ := x; ⟨o, e.keep _ _ g, s⟩
theorem At.some {h : Heap} {a : Addr} {b : Ob} (x : At h a b) : h.get? a ≠ none := let ⟨o, g, s⟩ := x; by rw [g]; intro e; cases e
theorem hm_at (l : Addr) : hm l "_headers" = some (.ref l) := by unfold hm; rw [if_pos rfl]
theorem hm_no (l : Addr) {y : Str} (n : y ≠ "_headers") : hm l y = none := by unfold hm; rw [if_neg n]
/-- self._headers -/
theorem G_hd {c : Cx} (l : Lw c) {A : Around} {h : Heap} (ok : Ok c h) {x d lst : Addr} (ti : TI h x d lst) {e : Bool} {Q : Value → Heap → Prop} (q : Q (.ref lst) h) : W c A (getAttr (.ref x) (Str.ofString "_headers") e) Q h :=
  G_own ok (cls_ok l) ti (cls_attr l) rfl (hm_at lst) rfl q
/-- self._convert_string_type(e, name=b) -/
theorem M_conv {c : Cx} (l : Lw c) {A : Around} {h : Heap} (ok : Ok c h) {x d lst : Addr} (ti : TI h x d lst) {pl : Sem Bool} {Q : Value × List Value → Heap → Prop} (q : Q (.ref a_conv, [.ref x]) h) : W c A (getMethod (.ref x) (Str.ofString "_convert_string_type") pl) Q h :=
  M_inst ok (cls_ok l) ti (fi_conv l) (if_conv l) (hm_no lst (by decide +kernel)) q
theorem filt_rows {h : Heap} {vals : List Value} {rows : List Row} (x : Rows h vals rows) (p : Row → Bool) : Rows h (((vals.zip rows).filter fun z => p z.2).map (·.1)) (rows.filter p) := by
  induction x with
  | nil => exact .nil
  | cons hd _ ih =>
    rename_i v r vs rs
    rw [List.zip_cons_cons, List.filter_cons, List.filter_cons]
    dsimp only
    split
    · exact .cons hd ih
    · exact ih
theorem delitem {c : Cx} (l : Lw c) {A : Around} (rm : Rm A 4) {h : Heap} (ok : Ok c h) {x d lst : Addr} {vals : List Value} {rows : List Row} {n : List Nat} {t : Tok} (ti : TI h x d lst) (lo : c.h0.get? lst = none) (hl : At h lst (.lst vals))
    (hr : Rows h vals rows) (hok : ∀ r ∈ rows, RowOk r) (hlen : rows.length ≤ 10000) (hn : Clean n) (hs : n.length ≤ 10000) {Q : Value → Heap → Prop}
    (q : ∀ vals' h', Eff c [lst] h h' → At h' lst (.lst vals') → Rows h' vals' (rows.filter fun r => low r.1 ≠ low n) → Q .none h') : W c A (call (.ref a_del_) [.ref x, .str (T n) t]) Q h := by
  refine W_call (CW_def (rm.less (by omega)) ok (fn_del_ l) rfl (cd_del_ l) bd_del_ (params := ["self", "name"]) (rest := []) (vals := [.ref x, .str (T n) t]) (fun _ _ => BindsTo.of_eq (by rfl)) rfl fk_del_ ?_)
  intro h1 S
  have rm' : Rm (A.deeper (callEnvC (fdAt a_del_) h.objs.size a_del_)) 3 := rm.deeper _
  generalize (A.deeper (callEnvC (fdAt a_del_) h.objs.size a_del_)) = A' at rm' ⊢
  have own := ow_del_ h
  have hlv : vals.length = rows.length := P_len hr
  have S := S.less (F := fun h => Rows h vals rows) (hr.eff S.eff) fun _ _ _ e x => x.eff e
  have S := S.adopt (a := lst) (b := .lst vals) hl.some (hl.keep S.eff) lo (fun _ m => nomatch m)
  have ti1 := ti.eff hl S.eff
  -- name = self._convert_string_type(name.lower(), name=True)
  refine S_next (S_assign (E_meth (E_name S 0 rfl rfl (M_conv l S.okh ti1 ?_))))
  refine K_kw1 (kp_conv l) (A_cons (E_lower (E_name S 1 rfl rfl ⟨n, t, rfl, hn.asc, by omega, S.okh, fun t1 => A_nil (E_bool ⟨S.okh, ?_⟩)⟩)))
  refine conv l rm' S.okh (clean_low hn) (by unfold low; simp; omega) fun h2 e2 => ?_
  have S := S.step e2
  refine N_store S 1 rfl (own _ (by simp)) fun h3 S => ⟨rfl, ?_⟩
  have ti3 := ti.eff hl S.eff
  -- self._headers[:] = [kv for kv in self._headers if kv[0].lower() != name]
  refine S_next (S_setitem ?_)
  refine E_comp (own := ["kv"]) (fr := ["name"]) (compOk_of (by decide +kernel)) (all1 (by rfl)) ?_
  refine E_attr (E_name S 0 rfl rfl (G_hd l S.okh ti3 ?_))
  refine Comp_val (It.list lst vals) (own := ["kv"]) (fr := ["name"]) (fvs := [some (.str (T (low n)) t1)]) rm'.1 (by rw [sizeLine_eq]; omega) S (compOk_of (by decide +kernel)) (all1 ⟨by simp, by show (fdAt a_del_).scope.names.lookup _ ≠ _; decide +kernel⟩) (fv1 1 rfl rfl) (S.getL (j := 0) rfl).isList (S.getL (j := 0) rfl).isList
    (fun i ys P1 => ys = (((vals.zip rows).take i).filter fun z => decide (low z.2.1 ≠ low n)).map (·.1) ∧ P1 = fun h => Rows h vals rows) ⟨by simp, rfl⟩ ?_ ?_ ?_
  · rintro i ys P1 ⟨rfl, _⟩
    rw [List.length_map]
    refine Nat.le_trans (List.length_filter_le _ _) ?_
    rw [List.length_take]; omega
  · rintro i v acc it C h4 ys P1 hi hv ⟨rfl, rfl⟩ hacc S
    refine A_name (N_store S 0 rfl (.inl (by rfl)) fun h5 S => ?_)
    obtain ⟨r, er, a, tn, tt, rfl, ht⟩ := P_get S.p i v hv
    have hrok := hok r (List.mem_of_getElem? er)
    refine tests1 (T_cmp (E_lower (E_sub (E_name S 0 rfl rfl (E_lit fun t2 => X_tup ht (by decide) rfl ⟨r.1, tn, rfl, hrok.1.asc, by have := hrok.2.2.1; omega, S.okh, fun t3 => E_name S 1 rfl rfl (C_nes (B_bool ?_))⟩)))))
    have ez : (vals.zip rows)[i]? = some (.ref a, r) := List.getElem?_zip_eq_some.mpr ⟨hv, er⟩
    have et : (vals.zip rows).take (i + 1) = (vals.zip rows).take i ++ [(.ref a, r)] := by rw [List.take_add_one, ez]; rfl
    refine ifd (fun hc => ?_) fun hc => ?_
    · refine E_name S 0 rfl rfl ⟨_, _, .set .refl rfl, ⟨?_, rfl⟩, S⟩
      rw [et, List.filter_append, List.map_append]
      simp [hc]
    · refine ⟨_, _, .set .refl rfl, ⟨?_, rfl⟩, S⟩
      rw [et, List.filter_append, List.map_append]
      simp [hc]
  · rintro h4 acc ys P1 ⟨rfl, rfl⟩ S
    have ti4 := ti.eff hl S.eff
    refine E_attr (E_name S 0 rfl rfl (G_hd l S.okh ti4 ?_))
    refine E_slice (E_part0 (E_part0 (E_part0 fun sl h5 n5 e5 hsl => ?_)))
    have S := S.step e5
    have gacc := S.getL (j := 1) rfl
    have hne : acc ≠ lst := fun e => by
      have := (List.nodup_cons.mp S.ap).2
      simp [e] at this
    have hys : (((vals.zip rows).take vals.length).filter fun z => decide (low z.2.1 ≠ low n)).map (·.1) = ((vals.zip rows).filter fun z => decide (low z.2.1 ≠ low n)).map (·.1) := by
      rw [List.take_of_length_le (by rw [List.length_zip]; omega)]
    rw [hys] at gacc
    refine F_setall (S.getL (j := 0) rfl) hsl gacc.isList hne (by omega) ?_ fun h6 s6 g6 => ⟨rfl, ?_⟩
    · rw [List.length_map]
      refine Nat.le_trans (List.length_filter_le _ _) ?_
      rw [List.length_zip]; omega
    have S := S.upd (j := 0) (b' := .lst _) rfl (.of_same s6 (S.loSet (j := 0) rfl) (S.ntAt (j := 0) rfl)) g6
    refine S_nil ?_
    exact ⟨_, rfl, q _ h6 S.eff (S.get (j := 0) rfl) (filt_rows S.p fun r => decide (low r.1 ≠ low n))⟩
end Mine
namespace Mine
theorem setitem {c : Cx} (l : Lw c) {A : Around} (rm : Rm A 6) {h : Heap} (ok : Ok c h) {x d lst : Addr} {vals : List Value} {rows : List Row} {n v : List Nat} {t u : Tok} (ti : TI h x d lst) (lo : c.h0.get? lst = none) (hl : At h lst (.lst vals))
    (hr : Rows h vals rows) (hok : ∀ r ∈ rows, RowOk r) (hlen : rows.length ≤ 10000) (hn : Clean n) (hs : n.length ≤ 10000) (hv : Clean v) (hvs : v.length ≤ 10000) {Q : Value → Heap → Prop}
    (q : ∀ vals' h', Eff c [lst] h h' → At h' lst (.lst vals') → Rows h' vals' ((rows.filter fun r => low r.1 ≠ low n) ++ [(n, v)]) → Q .none h') : W c A (call (.ref a_set) [.ref x, .str (T n) t, .str (T v) u]) Q h := by
  refine W_call (CW_def (rm.less (by omega)) ok (fn_set l) rfl (cd_set l) bd_set (params := ["self", "name", "val"]) (rest := []) (vals := [.ref x, .str (T n) t, .str (T v) u]) (fun _ _ => BindsTo.of_eq (by rfl)) rfl fk_set ?_)
  intro h1 S
  have rm' : Rm (A.deeper (callEnvC (fdAt a_set) h.objs.size a_set)) 5 := rm.deeper _
  generalize (A.deeper (callEnvC (fdAt a_set) h.objs.size a_set)) = A' at rm' ⊢
  have S := S.adopt (a := lst) (b := .lst vals) hl.some (hl.keep S.eff) lo (fun _ m => nomatch m)
  have ti1 := ti.eff hl S.eff
  refine S_next (S_del (E_name S 0 rfl rfl (E_name S 1 rfl rfl (D_del S.okh ti1 (cls_noSeq l) (fi_del_ l) (if_del_ l) ?_))))
  refine delitem l (rm'.less (by omega)) S.okh ti1 lo (S.get (j := 0) rfl) (hr.eff S.eff) hok hlen hn hs fun vals' h2 e2 g2 r2 => ⟨rfl, ?_⟩
  have S := S.upd (j := 0) (b' := .lst vals') rfl e2 g2
  have S := S.less (F := fun h => Rows h vals' (rows.filter fun r => low r.1 ≠ low n)) r2 fun _ _ _ e x => x.eff e
  have ti2 := ti.eff hl S.eff
  have hz : vals'.length ≤ 10000 := by rw [P_len r2]; exact Nat.le_trans (List.length_filter_le _ _) hlen
  refine S_next (S_expr (E_append (E_attr (E_name S 0 rfl rfl (G_hd l S.okh ti2 ⟨lst, rfl, ⟨_, S.getL (j := 0) rfl⟩, ?_⟩)))))
  refine E_tup (A_cons (E_meth (E_name S 0 rfl rfl (M_conv l S.okh ti2 (K_kw1 (kp_conv l) (A_cons (E_name S 1 rfl rfl (A_nil (E_bool ⟨S.okh, ?_⟩)))))))))
  refine conv l (rm'.less (by omega)) S.okh hn (by omega) fun h3 e3 => ?_
  have S := S.step e3
  have ti3 := ti.eff hl S.eff
  refine A_cons (E_meth (E_name S 0 rfl rfl (M_conv l S.okh ti3 (K_kw1 (kp_conv l) (A_cons (E_name S 2 rfl rfl (A_nil (E_bool ⟨S.okh, ?_⟩))))))))
  refine conv l (rm'.less (by omega)) S.okh hv (by omega) fun h4 e4 => A_nil ⟨by rw [sizeLine_eq]; simp, fun a h5 n5 e5 g5 => ?_⟩
  have S := (S.step e4).step e5
  have S := S.also (F := fun h => Tup h a [.str (T n) t, .str (T v) u]) g5 fun _ _ _ e x => x.eff e
  refine ⟨S.okh, vals', S.getL (j := 0) rfl, by omega, fun h6 s6 g6 => ⟨rfl, S_nil ⟨_, rfl, ?_⟩⟩⟩
  have S := S.upd (j := 0) (b' := .lst (vals' ++ [Value.ref a])) rfl (.of_same s6 (S.loSet (j := 0) rfl) (S.ntAt (j := 0) rfl)) g6
  exact q _ h6 S.eff g6 (P_snoc S.p.1 ⟨a, t, u, rfl, S.p.2⟩)
end Mine
namespace Mine
theorem items {c : Cx} (l : Lw c) {A : Around} (rm : Rm A 2) {h : Heap} (ok : Ok c h) {x d lst : Addr} {vals : List Value} (ti : TI h x d lst) (hl : At h lst (.lst vals)) (hlen : vals.length ≤ 10000) {Q : Value → Heap → Prop}
    (q : ∀ a h', h.get? a = none → Eff c [] h h' → At h' a (.lst vals) → Q (.ref a) h') : W c A (call (.ref a_items) [.ref x]) Q h := by
  refine W_call (CW_def (rm.less (by omega)) ok (fn_items l) rfl (cd_items l) bd_items (params := ["self"]) (rest := []) (vals := [.ref x]) (fun _ _ => BindsTo.of_eq (by rfl)) rfl fk_items ?_)
  intro h1 S
  generalize (A.deeper (callEnvC (fdAt a_items) h.objs.size a_items)) = A'
  refine S_cons (S_ret (E_sub (E_attr (E_name S 0 rfl rfl (G_hd l S.okh (ti.eff0 S.eff) ?_)))))
  refine E_slice (E_part0 (E_part0 (E_part0 fun sl h2 n2 e2 hsl => ?_)))
  have S1 := S
  have S := S.step e2
  refine X_slice ((hl.keep S.eff).plain).isList hsl .none .none (by omega) fun a h3 n3 e3 g3 => ⟨_, rfl, ?_⟩
  rw [slicePick_all] at g3
  have S := S.step e3
  refine q a h3 ?_ S.eff g3
  cases e : h.get? a with
  | none => rfl
  | some o => rw [(S1.eff.trans e2).keep _ _ e] at n3; cases n3
def got (rows : List Row) (n : List Nat) : Option (List Nat) := (rows.find? fun r => decide (low r.1 = low n)).map (·.2)
def OptS (v : Value) : Option (List Nat) → Prop
  | none => v = .none
  | some y => ∃ t, v = .str (T y) t
theorem lk_dget {c : Cx} (l : Lw c) : c.K.lookup d_get = some ⟨.type "tuple", none, .seq #[.none] 0, #[]⟩ := by rw [l]; kernel_rfl
theorem get {c : Cx} (l : Lw c) {A : Around} (rm : Rm A 4) {h : Heap} (ok : Ok c h) {x d lst : Addr} {vals : List Value} {rows : List Row} {n : List Nat} {t : Tok} (ti : TI h x d lst) (hl : At h lst (.lst vals))
    (hr : Rows h vals rows) (hok : ∀ r ∈ rows, RowOk r) (hlen : rows.length ≤ 10000) (hn : Clean n) (hs : n.length ≤ 10000) {Q : Value → Heap → Prop}
    (q : ∀ v h', Eff c [] h h' → OptS v (got rows n) → Q v h') : W c A (call (.ref a_get) [.ref x, .str (T n) t]) Q h := by
  refine W_call (CW_def (rm.less (by omega)) ok (fn_get l) rfl (cd_get l) bd_get (params := ["self", "name", "default"]) (rest := ["k", "v"]) (vals := [.ref x, .str (T n) t, .none]) (fun _ _ => binds_K ok.kin rfl (lk_dget l) rfl rfl rfl) rfl fk_get ?_)
  intro h1 S
  have rm' : Rm (A.deeper (callEnvC (fdAt a_get) h.objs.size a_get)) 3 := rm.deeper _
  generalize (A.deeper (callEnvC (fdAt a_get) h.objs.size a_get)) = A' at rm' ⊢
  have own := ow_get h
  have hlv : vals.length = rows.length := P_len hr
  have S := S.less (F := fun h => Rows h vals rows) (hr.eff S.eff) fun _ _ _ e x => x.eff e
  refine S_next (S_assign (E_meth (E_name S 0 rfl rfl (M_conv l S.okh (ti.eff0 S.eff) ?_))))
  refine K_kw1 (kp_conv l) (A_cons (E_lower (E_name S 1 rfl rfl ⟨n, t, rfl, hn.asc, by omega, S.okh, fun t1 => A_nil (E_bool ⟨S.okh, ?_⟩)⟩)))
  refine conv l rm' S.okh (clean_low hn) (by unfold low; simp; omega) fun h2 e2 => ?_
  have S := S.step e2
  refine N_store S 1 rfl (own _ (by simp)) fun h3 S => ⟨rfl, ?_⟩
  refine S_cons (S_for (E_attr (E_name S 0 rfl rfl (G_hd l S.okh (ti.eff0 S.eff) ?_))))
  refine F_loop (It.list lst vals) rm'.1 (fun i vs D P => (∀ r ∈ rows.take i, low r.1 ≠ low n) ∧ (∃ k w, vs = [some (.ref x), some (.str (T (low n)) t1), some .none, k, w]) ∧ D = [] ∧ P = fun h => Rows h vals rows) S ((hl.keep S.eff).plain).isList ⟨by simp, ⟨_, _, rfl⟩, rfl, rfl⟩ ?_ ?_ ?_
  · rintro _ h vs D P ⟨_, ⟨_, _, rfl⟩, rfl, rfl⟩ S; exact ((hl.keep S.eff).plain).isList
  · rintro i v it h4 vs D P hi hv ⟨hno, ⟨k, w, rfl⟩, rfl, rfl⟩ S
    obtain ⟨r, er, a, tn, tt, rfl, ht⟩ := P_get S.p i v hv
    have hrok := hok r (List.mem_of_getElem? er)
    refine A_tup2 rm'.1 ht fun h5 e5 => ?_
    have S := S.step e5
    refine A_name (N_store S 3 rfl (own _ (by simp)) fun h6 S => A_name (N_store S 4 rfl (own _ (by simp)) fun h7 S => ?_))
    refine S_cons (S_if (T_cmp (E_lower (E_name S 3 rfl rfl ⟨r.1, tn, rfl, hrok.1.asc, by have := hrok.2.2.1; omega, S.okh, fun t3 => E_name S 1 rfl rfl (C_eqs (B_bool ?_))⟩))))
    refine ifd (fun hc => ?_) fun hc => ?_
    · refine S_cons (S_ret (E_name S 4 rfl rfl ⟨_, rfl, q _ _ S.eff ?_⟩))
      have : rows.find? (fun r => decide (low r.1 = low n)) = some r := by
        rw [List.find?_eq_some_iff_getElem]
        refine ⟨by simpa using hc, i, (List.getElem?_eq_some_iff.mp er).1, (List.getElem?_eq_some_iff.mp er).2, fun j hj => ?_⟩
        have := hno rows[j] (List.mem_take_iff_getElem.mpr ⟨j, by have := (List.getElem?_eq_some_iff.mp er).1; omega, rfl⟩)
        simpa using this
      unfold got
      rw [this]
      exact ⟨tt, rfl⟩
    · refine S_nil (S_nil ⟨_, _, _, ⟨?_, ⟨_, _, rfl⟩, rfl, rfl⟩, S⟩)
      intro r' m
      rw [List.take_add_one, er] at m
      rcases List.mem_append.mp m with m | m
      · exact hno r' m
      · rw [show r' = r by simpa using m]; exact hc
  · rintro h4 vs D P ⟨hno, ⟨k, w, rfl⟩, rfl, rfl⟩ S
    refine S_cons (S_ret (E_name S 2 rfl rfl ⟨_, rfl, q _ _ S.eff ?_⟩))
    rw [List.take_of_length_le (by omega)] at hno
    have : rows.find? (fun r => decide (low r.1 = low n)) = none := by
      rw [List.find?_eq_none]; intro r m; simpa using hno r m
    unfold got
    rw [this]; rfl
end Mine
end

section
open PySem PySem.W PyProof.Rows PySem.Calls
set_option Elab.async false
set_option linter.unusedVariables false
set_option linter.unusedSimpArgs false
namespace Mine
/-! ## _gen_crc -/
def crcStep (n : Nat) : Nat := if n &&& 1 ≠ 0 then n >>> 1 ^^^ 3988292384 else n >>> 1
def crcN : Nat → Nat → Nat
  | 0, n => n
  | k + 1, n => crcStep (crcN k n)
theorem gen_crc {c : Cx} (l : Lw c) {A : Around} (rm : Rm A 3) {h : Heap} (ok : Ok c h) {n : Nat} {t : Tok} {Q : Value → Heap → Prop}
    (q : ∀ h' t', Eff c [] h h' → Q (.int (crcN 8 n) t') h') : W c A (call (.ref a_crc) [.int n t]) Q h := by
  refine W_call (CW_def (rm.less (by omega)) ok (fn_crc l) rfl (cd_crc l) bd_crc (params := ["crc"]) (rest := ["j"]) (vals := [.int n t]) (fun _ _ => BindsTo.of_eq (by rfl)) rfl fk_crc ?_)
  intro h1 S
  have rm' : Rm (A.deeper (callEnvC (fdAt a_crc) h.objs.size a_crc)) 2 := rm.deeper _
  generalize (A.deeper (callEnvC (fdAt a_crc) h.objs.size a_crc)) = A' at rm' ⊢
  have own := ow_crc h
  refine S_next (S_for (E_call (E_builtin S (by rfl) (by rfl) (by rfl) (gb_range l) (v := .type "range") (by decide +kernel) (by decide +kernel) ?_)))
  refine K_pos (.inr (.inl ⟨_, rfl⟩)) (A_cons (E_lit fun t1 => A_nil ⟨S.okh, F_range fun r u v h2 _ e2 hr => ?_⟩))
  have S2 := S.step e2
  refine F_loop (It.range (by decide)) rm'.1 (fun i vs D P => ∃ t w, vs = [some (.int (crcN i n) t), w] ∧ D = []) S2 hr ⟨t, none, rfl, rfl⟩ (fun _ _ _ _ _ _ _ => trivial) ?_ ?_
  · rintro i x it h vs D P hi ⟨u, rfl⟩ ⟨t, w, rfl, rfl⟩ S
    refine A_name (N_store S 1 rfl (own _ (by simp)) fun h' S => ?_)
    refine S_next (S_if (T_val (E_bin (E_name S 0 rfl rfl (E_lit fun t2 => O_and fun t3 => B_int (ifd (fun hc => ?_) fun hc => ?_))))))
    · refine S_next (S_assign (E_bin (E_bin (E_name S 0 rfl rfl (E_lit fun t2 => O_shr fun t3 => E_lit fun t4 => O_xor fun t5 => N_store S 0 rfl (own _ (by simp)) fun h' S => ?_)))))
      refine ⟨rfl, S_nil ⟨rfl, S_nil ?_⟩⟩
      have e : crcN (i + 1) n = crcN i n >>> 1 ^^^ 3988292384 := by rw [crcN, crcStep]; rw [if_pos hc]
      exact ⟨_, _, _, ⟨t5, _, by rw [e]; rfl, rfl⟩, S⟩
    · refine S_next (S_aug (N_load S 0 rfl rfl (E_lit fun t2 => I_shr fun t3 => N_store S 0 rfl (own _ (by simp)) fun h' S => ?_)))
      refine ⟨rfl, S_nil ⟨rfl, S_nil ?_⟩⟩
      have e : crcN (i + 1) n = crcN i n >>> 1 := by rw [crcN, crcStep]; rw [if_neg hc]
      exact ⟨_, _, _, ⟨t3, _, by rw [e]; rfl, rfl⟩, S⟩
  · rintro h vs D P ⟨t, w, rfl, rfl⟩ S
    refine ⟨rfl, S_cons (S_ret (E_name S 0 rfl rfl ⟨_, rfl, q _ _ S.eff⟩))⟩

/-! ## _law_row -/
abbrev Nats (vs : List Value) (ns : List Nat) : Prop := Paired Natv vs ns
abbrev Ints (vs : List Value) (ns : List Int) : Prop := Paired Intv vs ns
theorem isList_keep {c : Cx} {h h' : Heap} {l : Addr} {xs : Array Value} (p : h.IsList l xs) (e : Eff c [] h h') : h'.IsList l xs := isList_stb _ _ e p
theorem eqr_int {c : Cx} {A : Around} {h : Heap} : EqR c A h Intv := fun v w x y ⟨t, e1⟩ ⟨u, e2⟩ d tk => by
  subst e1; subst e2
  have := (MeetsSeq.EqGives.int x y t u).at A ⟨h, c.g, d, tk + 1, c.o⟩
  rwa [show (x == y) = decide (x = y) by rw [Bool.eq_iff_iff]; simp] at this
theorem law_row {c : Cx} (l : Lw c) {A : Around} (rm : Rm A 3) {h : Heap} (ok : Ok c h) {sc : Addr} {svs : List Value} {sns : List Int} {size : Nat} {t : Tok} (hsc : h.IsList sc svs.toArray) (hi : Ints svs sns) (hlen : sns.length ≤ 100000) (hsz : size ≤ 1000) {Q : Value → Heap → Prop}
    (q : ∀ a h' vs ns, Eff c [] h h' → h.get? a = none → At h' a (.lst vs) → Nats vs ns → ns.length = size → (∀ n ∈ ns, n < 2 ^ 32) → Q (.ref a) h') : W c A (call (.ref a_row) [.ref sc, .int size t]) Q h := by
  refine W_call (CW_def (rm.less (by omega)) ok (fn_row l) rfl (cd_row l) bd_row (params := ["script", "size"]) (rest := ["row", "mixed", "x", "k"]) (vals := [.ref sc, .int size t]) (fun _ _ => BindsTo.of_eq (by rfl)) rfl fk_row ?_)
  intro h1 S
  have rm' : Rm (A.deeper (callEnvC (fdAt a_row) h.objs.size a_row)) 2 := rm.deeper _
  generalize (A.deeper (callEnvC (fdAt a_row) h.objs.size a_row)) = A' at rm' ⊢
  have own := ow_row h
  have hlv : svs.length = sns.length := P_len hi
  refine S_next (S_assign (E_list (A_nil ⟨by decide, fun row h2 n2 e2 g2 => ?_⟩)))
  obtain ⟨_, _, _, nn⟩ := S.new_of n2
  have hz : h.get? row = none := nn.resolve_right fun m => nomatch m
  have S := S.enter e2 n2 g2
  refine N_store S 2 rfl (own _ (by simp)) fun h3 S => ⟨rfl, ?_⟩
  refine S_next (S_assign (E_lit fun t1 => N_store S 3 rfl (own _ (by simp)) fun h4 S => ⟨rfl, ?_⟩))
  refine S_next (S_for (E_name S 0 rfl rfl ?_))
  refine F_loop (It.list sc svs) rm'.1 (fun i vs D P => (∃ m t1 x, m < 65537 ∧ vs = [some (.ref sc), some (.int size t), some (.ref row), some (.int (m : Nat) t1), x, none]) ∧ D = [(row, .lst [])]) S (isList_keep hsc S.eff) ⟨⟨0, t1, none, by decide, rfl⟩, rfl⟩ ?_ ?_ ?_
  · rintro _ h vs D P _ S; exact isList_keep hsc S.eff
  · rintro i v it h5 vs D P hi' hv ⟨⟨m, t1, x, hm, rfl⟩, rfl⟩ S
    obtain ⟨n, en, u, rfl⟩ := P_get hi i v hv
    refine A_name (N_store S 4 rfl (own _ (by simp)) fun h6 S => ?_)
    refine S_next (S_assign (E_bin (E_bin (E_bin (E_int fun t2 => E_bin (E_name S 3 rfl rfl (E_name S 4 rfl rfl (OI_add fun t3 => OI_mul75 (by decide) fun t4 => E_int fun t5 => OI_add fun t6 => E_lit fun t7 => OI_mod (by decide) fun r t8 hr => ?_))))))))
    refine N_store S 3 rfl (own _ (by simp)) fun h7 S => ⟨rfl, S_nil ⟨_, _, _, ⟨⟨r, t8, _, hr, rfl⟩, rfl⟩, S⟩⟩
  · rintro h5 vs D P ⟨⟨m, t1, x, hm, rfl⟩, rfl⟩ S
    refine ⟨rfl, S_next (S_for (E_call (E_builtin S (by rfl) (by rfl) (by rfl) (gb_range l) (v := .type "range") (by decide +kernel) (by decide +kernel) ?_)))⟩
    refine K_pos (.inr (.inl ⟨_, rfl⟩)) (A_cons (E_name S 1 rfl rfl (A_nil ⟨S.okh, F_range fun r u v h6 _ e6 hr => ?_⟩)))
    have S := S.step e6
    refine F_loop (It.range (by omega)) rm'.1 (fun i vs D P => (∃ m t1 k rvs rns, m < 65537 ∧ vs = [some (.ref sc), some (.int size t), some (.ref row), some (.int (m : Nat) t1), x, k] ∧ D = [(row, .lst rvs)] ∧ Nats rvs rns ∧ rns.length = i ∧ ∀ n ∈ rns, n < 2 ^ 32)) S hr ⟨m, t1, none, [], [], hm, rfl, rfl, .nil, rfl, by simp⟩ (fun _ _ _ _ _ _ _ => trivial) ?_ ?_
    · rintro i v it h7 vs D P hi' ⟨tk, rfl⟩ ⟨m, t1, k, rvs, rns, hm, rfl, rfl, hr, hrl, hrb⟩ S
      have hrl' : rvs.length = rns.length := P_len hr
      refine A_name (N_store S 5 rfl (own _ (by simp)) fun h8 S => ?_)
      refine S_next (S_assign (E_bin (E_bin (E_bin (E_int fun t2 => E_name S 3 rfl rfl (OI_mul75 (by decide) fun t4 => E_int fun t5 => OI_add fun t6 => E_lit fun t7 => OI_mod (by decide) fun m' t8 hm' => ?_))))))
      refine N_store S 3 rfl (own _ (by simp)) fun h9 S => ⟨rfl, ?_⟩
      refine S_next (S_expr (E_append (E_name S 2 rfl rfl ⟨row, rfl, ⟨_, S.getL (j := 0) rfl⟩, ?_⟩)))
      refine E_bin (E_bin (E_name S 3 rfl rfl (E_if (T_cmp (E_name S 0 rfl rfl (E_list (A_nil ⟨by decide, fun em h10 n10 e10 g10 => ?_⟩)))))))
      have S := S.step e10
      refine C_nel eqr_int (by have := rm'.2.2; omega) (isList_keep hsc S.eff) g10.plain.isList hi .nil (B_bool (ifd (fun hc => ?_) fun hc => ?_))
      · have hpos : 0 < sns.length := List.length_pos_iff.mpr hc
        have hlt : i % svs.length < svs.length := Nat.mod_lt _ (by omega)
        obtain ⟨z, ez, tz, evz⟩ := P_get hi (i % svs.length) svs[i % svs.length] (List.getElem?_eq_getElem hlt)
        refine E_sub (E_name S 0 rfl rfl (E_bin (E_name S 5 rfl rfl (E_call (E_builtin S (by rfl) (by rfl) (by rfl) (gb_len l) (v := .builtin "len") (by decide +kernel) (by decide +kernel) ?_)))))
        refine K_pos (.inr (.inr ⟨_, rfl⟩)) (A_cons (E_name S 0 rfl rfl (A_nil ⟨S.okh, ?_⟩)))
        refine F_lenl (isList_keep hsc S.eff) (by omega) fun t9 => O_mod (by omega) fun t9 => X_list (isList_keep hsc S.eff) (by omega) (List.getElem?_eq_getElem hlt) ?_
        rw [evz]
        refine OI_add fun t10 => E_lit fun t11 => OI_mod (by decide) fun r t12 hr' => ⟨S.okh, rvs, S.getL (j := 0) rfl, by omega, fun h11 s11 g11 => ⟨rfl, S_nil ?_⟩⟩
        have S := S.upd (j := 0) (b' := .lst (rvs ++ [Value.int (r : Int) t12])) rfl (.of_same s11 (S.loSet (j := 0) rfl) (S.ntAt (j := 0) rfl)) g11
        exact ⟨_, _, _, ⟨m', t8, _, _, rns ++ [r], hm', rfl, rfl, P_snoc hr ⟨_, rfl⟩, by simp [hrl], fun n mn => by
          rcases List.mem_append.mp mn with mn | mn
          · exact hrb n mn
          · rw [show n = r by simpa using mn]; exact hr'⟩, S⟩
      · refine E_int fun t9 => OI_add fun t10 => E_lit fun t11 => OI_mod (by decide) fun r t12 hr' => ⟨S.okh, rvs, S.getL (j := 0) rfl, by omega, fun h11 s11 g11 => ⟨rfl, S_nil ?_⟩⟩
        have S := S.upd (j := 0) (b' := .lst (rvs ++ [Value.int (r : Int) t12])) rfl (.of_same s11 (S.loSet (j := 0) rfl) (S.ntAt (j := 0) rfl)) g11
        exact ⟨_, _, _, ⟨m', t8, _, _, rns ++ [r], hm', rfl, rfl, P_snoc hr ⟨_, rfl⟩, by simp [hrl], fun n mn => by
          rcases List.mem_append.mp mn with mn | mn
          · exact hrb n mn
          · rw [show n = r by simpa using mn]; exact hr'⟩, S⟩
    · rintro h7 vs D P ⟨m, t1, k, rvs, rns, hm, rfl, rfl, hr, hrl, hrb⟩ S
      refine ⟨rfl, S_cons (S_ret (E_name S 2 rfl rfl ⟨_, rfl, ?_⟩))⟩
      exact q row _ rvs rns S.eff hz (S.get (j := 0) rfl) hr hrl hrb
end Mine
end

section
open PySem PySem.W PyProof.Rows PySem.Calls
set_option Elab.async false
set_option linter.unusedVariables false
set_option linter.unusedSimpArgs false
set_option maxRecDepth 4000
namespace Mine
def crcL (x : List Nat) : Nat := x.foldl (fun c o => crcN 8 (c ^^^ o)) 4294967295
def divS (r b : Nat) : Nat := if (2 * r ^^^ b <<< 32) >>> 32 = 1 then (2 * r ^^^ b <<< 32) ^^^ 4374732215 else 2 * r ^^^ b <<< 32
def divO (r o : Nat) : Nat → Nat
  | 0 => r
  | k + 1 => divS (divO r o k) (o >>> k &&& 1)
def divL (x : List Nat) : Nat := x.foldl (fun r o => divO r o 8) 4294967295
def toldN (rest : Nat) : Nat → Nat
  | 0 => 0
  | k + 1 => 2 * toldN rest k + 1 - (rest >>> k &&& 1)
/-! ## the sum is linear -/
theorem and1_iff (n : Nat) : (n &&& 1 ≠ 0) ↔ n.testBit 0 = true := by
  rw [Nat.and_one_is_mod]; simp [Nat.testBit_zero]
theorem crcStep_eq (n : Nat) : crcStep n = n >>> 1 ^^^ (if n.testBit 0 = true then 3988292384 else 0) := by
  unfold crcStep
  by_cases h : n.testBit 0 = true
  · rw [if_pos ((and1_iff n).mpr h), if_pos h]
  · rw [if_neg (fun e => h ((and1_iff n).mp e)), if_neg h, Nat.xor_zero]
theorem xx (a b : Nat) : a ^^^ b ^^^ b = a := by rw [Nat.xor_assoc, Nat.xor_self, Nat.xor_zero]
theorem x4 (a b d e : Nat) : (a ^^^ b) ^^^ (d ^^^ e) = (a ^^^ d) ^^^ (b ^^^ e) := by
  rw [Nat.xor_assoc, Nat.xor_assoc, ← Nat.xor_assoc b, Nat.xor_comm b d, Nat.xor_assoc d]
theorem crcStep_xor (a b : Nat) : crcStep (a ^^^ b) = crcStep a ^^^ crcStep b := by
  rw [crcStep_eq, crcStep_eq, crcStep_eq, Nat.shiftRight_xor_distrib, Nat.testBit_xor, x4]
  congr 1
  cases a.testBit 0 <;> cases b.testBit 0 <;> simp
theorem crcN_xor (k a b : Nat) : crcN k (a ^^^ b) = crcN k a ^^^ crcN k b := by
  induction k with
  | zero => rfl
  | succ k ih => rw [crcN, ih, crcStep_xor]; rfl
def it8 : Nat → Nat → Nat
  | 0, e => e
  | k + 1, e => crcN 8 (it8 k e)
theorem it8_in (k e : Nat) : it8 k (crcN 8 e) = it8 (k + 1) e := by
  induction k with
  | zero => rfl
  | succ k ih => rw [it8, ih]; rfl
def crcF (s : Nat) (x : List Nat) : Nat := x.foldl (fun c o => crcN 8 (c ^^^ o)) s
theorem crcL_F (x : List Nat) : crcL x = crcF 4294967295 x := rfl
theorem crcF_lin (x : List Nat) : ∀ s e, crcF (s ^^^ e) x = crcF s x ^^^ it8 x.length e := by
  induction x with
  | nil => intro s e; rfl
  | cons o x ih =>
    intro s e
    show crcF (crcN 8 (s ^^^ e ^^^ o)) x = crcF (crcN 8 (s ^^^ o)) x ^^^ it8 (x.length + 1) e
    rw [show s ^^^ e ^^^ o = (s ^^^ o) ^^^ e by rw [Nat.xor_assoc, Nat.xor_comm e o, Nat.xor_assoc], crcN_xor, ih, it8_in]
theorem crcF_flip (s : Nat) (x y : List Nat) (o d : Nat) : crcF s (x ++ (o ^^^ d) :: y) = crcF s (x ++ o :: y) ^^^ it8 (y.length + 1) d := by
  unfold crcF
  rw [List.foldl_append, List.foldl_append, List.foldl_cons, List.foldl_cons]
  show crcF (crcN 8 (crcF s x ^^^ (o ^^^ d))) y = crcF (crcN 8 (crcF s x ^^^ o)) y ^^^ _
  rw [← Nat.xor_assoc, crcN_xor, crcF_lin, it8_in]

theorem bit_one (n k : Nat) : (n >>> k &&& 1) = if n.testBit k = true then 1 else 0 := by
  rw [Nat.and_one_is_mod]
  have : n.testBit k = decide (n >>> k % 2 = 1) := by
    rw [Nat.testBit_eq_decide_div_mod_eq, Nat.shiftRight_eq_div_pow]
  rw [this]
  by_cases h : n >>> k % 2 = 1
  · simp [h]
  · simp [h]; omega
/-! ## long division tells the sum -/
structure Rv (r c : Nat) : Prop where
  lr : r < 2 ^ 32
  lc : c < 2 ^ 32
  b : ∀ i, i < 32 → r.testBit i = c.testBit (31 - i)
theorem polys : ∀ i, i < 32 → Nat.testBit 4374732215 i = Nat.testBit 3988292384 (31 - i) := by decide +kernel
theorem bit_hi {n k i : Nat} (h : n < 2 ^ k) (hi : k ≤ i) : n.testBit i = false := Nat.testBit_lt_two_pow (Nat.lt_of_lt_of_le h (Nat.pow_le_pow_right (by omega) hi))
theorem tb_two (r i : Nat) : (2 * r).testBit i = (decide (0 < i) && r.testBit (i - 1)) := by
  rw [show 2 * r = r <<< 1 by rw [Nat.shiftLeft_eq]; omega, Nat.testBit_shiftLeft]
  rfl
theorem z32 (r b : Nat) : (2 * r ^^^ b <<< 32).testBit 32 = (r.testBit 31 ^^ b.testBit 0) := by
  rw [Nat.testBit_xor, Nat.testBit_shiftLeft, tb_two]; simp
theorem divS_eq {r b : Nat} (hr : r < 2 ^ 32) (hb : b ≤ 1) : divS r b = (2 * r ^^^ b <<< 32) ^^^ (if (r.testBit 31 ^^ b.testBit 0) = true then 4374732215 else 0) := by
  have hz : 2 * r ^^^ b <<< 32 < 2 ^ 33 := by
    refine Nat.xor_lt_two_pow (by omega) ?_
    rw [Nat.shiftLeft_eq]; omega
  have hbit := z32 r b
  have hd : (2 * r ^^^ b <<< 32) >>> 32 = 1 ↔ (2 * r ^^^ b <<< 32).testBit 32 = true := by
    rw [Nat.testBit_eq_decide_div_mod_eq, Nat.shiftRight_eq_div_pow, decide_eq_true_eq]
    omega
  unfold divS
  rw [← hbit]
  by_cases q : (2 * r ^^^ b <<< 32).testBit 32 = true
  · rw [if_pos (hd.mpr q), if_pos q]
  · rw [if_neg (fun e => q (hd.mp e)), if_neg q, Nat.xor_zero]
theorem Rv_step {r c b : Nat} (h : Rv r c) (hb : b ≤ 1) : Rv (divS r b) (crcStep (c ^^^ b)) := by
  have hb2 : b < 2 ^ 1 := by omega
  have e0 : r.testBit 31 = c.testBit 0 := h.b 31 (by omega)
  have hcar : ((c ^^^ b).testBit 0) = (r.testBit 31 ^^ b.testBit 0) := by rw [Nat.testBit_xor, e0]
  rw [divS_eq h.lr hb, crcStep_eq, hcar]
  have hz32 := z32 r b
  generalize (r.testBit 31 ^^ b.testBit 0) = k at *
  have hcb : ∀ i, ((c ^^^ b) >>> 1).testBit i = c.testBit (i + 1) := fun i => by
    rw [Nat.testBit_shiftRight, Nat.testBit_xor, bit_hi hb2 (by omega), Nat.add_comm]; simp
  have hlo : ∀ i, i < 32 → (2 * r ^^^ b <<< 32).testBit i = (decide (0 < i) && r.testBit (i - 1)) := fun i hi => by
    rw [Nat.testBit_xor, Nat.testBit_shiftLeft, tb_two]
    have : ¬ (i ≥ 32) := by omega
    simp [this]
  have hP : ∀ i, 33 ≤ i → Nat.testBit 4374732215 i = false := fun i hi => bit_hi (k := 33) (by omega) hi
  have hQ : ∀ i, 32 ≤ i → Nat.testBit 3988292384 i = false := fun i hi => bit_hi (k := 32) (by omega) hi
  refine ⟨?_, ?_, fun i hi => ?_⟩
  · refine Nat.lt_pow_two_of_testBit _ fun i hi => ?_
    have hz : 2 * r ^^^ b <<< 32 < 2 ^ 33 := by
      refine Nat.xor_lt_two_pow (by have := h.lr; omega) ?_
      rw [Nat.shiftLeft_eq]; omega
    by_cases q : i = 32
    · subst q
      rw [Nat.testBit_xor, hz32]
      cases k
      · simp
      · decide +kernel
    · rw [Nat.testBit_xor, bit_hi hz (by omega)]
      cases k <;> simp [hP i (by omega)]
  · refine Nat.lt_pow_two_of_testBit _ fun i hi => ?_
    rw [Nat.testBit_xor, hcb, bit_hi h.lc (by omega)]
    cases k <;> simp [hQ i hi]
  · rw [Nat.testBit_xor, hlo i hi, Nat.testBit_xor, hcb]
    congr 1
    · cases i with
      | zero => rw [bit_hi h.lc (by omega)]; simp
      | succ i => rw [h.b _ (by omega)]; simp; congr 1; omega
    · cases k
      · simp
      · exact polys i hi
theorem Rv_init : Rv 4294967295 4294967295 := ⟨by decide, by decide, by decide +kernel⟩
/-- the sum, bit by bit -/
def bitS (c o : Nat) : Nat → Nat
  | 0 => c
  | k + 1 => crcStep (bitS c o k ^^^ (o >>> k &&& 1))
theorem crcN_bits (c o : Nat) : ∀ k, crcN k (c ^^^ o) = bitS c o k ^^^ (o >>> k)
  | 0 => by simp [crcN, bitS]
  | k + 1 => by
    rw [crcN, crcN_bits c o k, bitS, crcStep_eq, crcStep_eq, Nat.shiftRight_xor_distrib, Nat.shiftRight_xor_distrib, Nat.testBit_xor, Nat.testBit_xor]
    have e1 : (o >>> k &&& 1) >>> 1 = 0 := by rw [Nat.and_one_is_mod, Nat.shiftRight_eq_div_pow]; omega
    have e2 : (o >>> k &&& 1).testBit 0 = (o >>> k).testBit 0 := by rw [Nat.testBit_and]; simp
    have e3 : o >>> k >>> 1 = o >>> (k + 1) := by rw [← Nat.shiftRight_add]
    rw [e1, e2, e3, Nat.xor_zero]
    generalize bitS c o k >>> 1 = u
    generalize o >>> (k + 1) = v
    rw [Nat.xor_assoc, Nat.xor_comm v, ← Nat.xor_assoc]
theorem divO_bits {r c : Nat} (h : Rv r c) (o : Nat) : ∀ k, Rv (divO r o k) (bitS c o k)
  | 0 => h
  | k + 1 => Rv_step (divO_bits h o k) Nat.and_le_right
theorem divO_crc {r c o : Nat} (h : Rv r c) (ho : o < 256) : Rv (divO r o 8) (crcN 8 (c ^^^ o)) := by
  have := divO_bits h o 8
  rw [crcN_bits, show o >>> 8 = 0 by rw [Nat.shiftRight_eq_div_pow]; omega, Nat.xor_zero]
  exact this
theorem div_fold (x : List Nat) : ∀ (r c : Nat), (∀ o ∈ x, o < 256) → Rv r c → Rv (x.foldl (fun r o => divO r o 8) r) (x.foldl (fun c o => crcN 8 (c ^^^ o)) c) := by
  induction x with
  | nil => intro r c _ h; exact h
  | cons o x ih => intro r c hx h; exact ih _ _ (fun a m => hx a (List.mem_cons_of_mem _ m)) (divO_crc h (hx o List.mem_cons_self))
theorem divL_crc {x : List Nat} (hx : ∀ o ∈ x, o < 256) : Rv (divL x) (crcL x) := div_fold x _ _ hx Rv_init
theorem toldN_succ (r n : Nat) : toldN r (n + 1) = 2 * toldN r n + (if r.testBit n = true then 0 else 1) := by
  rw [toldN, bit_one]
  split <;> omega
theorem toldN_bit (r : Nat) : ∀ n i, (toldN r n).testBit i = (decide (i < n) && !r.testBit (n - 1 - i))
  | 0, i => by simp [toldN]
  | n + 1, i => by
    rw [toldN_succ]
    cases i with
    | zero =>
      rw [Nat.testBit_zero]
      by_cases q : r.testBit n = true
      · simp [q]
      · simp [q]
    | succ i =>
      rw [Nat.testBit_succ]
      have e : (2 * toldN r n + (if r.testBit n = true then 0 else 1)) / 2 = toldN r n := by split <;> omega
      rw [e, toldN_bit r n i]
      have e1 : n + 1 - 1 - (i + 1) = n - 1 - i := by omega
      have e2 : decide (i + 1 < n + 1) = decide (i < n) := by rw [decide_eq_decide]; omega
      rw [e1, e2]
theorem told_crc {x : List Nat} (hx : ∀ o ∈ x, o < 256) : toldN (divL x) 32 = crcL x ^^^ 4294967295 := by
  have h := divL_crc hx
  apply Nat.eq_of_testBit_eq
  intro i
  rw [toldN_bit, Nat.testBit_xor, show (4294967295 : Nat) = 2 ^ 32 - 1 by decide, Nat.testBit_two_pow_sub_one]
  by_cases hi : i < 32
  · rw [h.b _ (by omega), show 31 - (32 - 1 - i) = i by omega]
    simp [hi]
  · rw [bit_hi h.lc (by omega)]
    simp [hi]

end Mine
end

section
open PySem PySem.W PyProof.Rows PySem.Calls
set_option Elab.async false
set_option linter.unusedVariables false
set_option linter.unusedSimpArgs false
set_option maxRecDepth 4000
namespace Mine
theorem gb_ord {c : Cx} (l : Lw c) : nsIn c.K mainGlobals "ord" = some none := by rw [l]; kernel_rfl
theorem gb_int {c : Cx} (l : Lw c) : nsIn c.K mainGlobals "int" = some none := by rw [l]; kernel_rfl
theorem gb_min {c : Cx} (l : Lw c) : nsIn c.K mainGlobals "min" = some none := by rw [l]; kernel_rfl
/-! ## keys, values -/
theorem keys {c : Cx} (l : Lw c) {A : Around} (rm : Rm A 2) {h : Heap} (ok : Ok c h) {x d lst : Addr} {vals : List Value} {rows : List Row} (ti : TI h x d lst) (hl : At h lst (.lst vals)) (hr : Rows h vals rows) (hlen : rows.length ≤ 10000) {Q : Value → Heap → Prop}
    (q : ∀ a vs h', Eff c [] h h' → h.get? a = none → At h' a (.lst vs) → Paired Strv vs (rows.map (·.1)) → Q (.ref a) h') : W c A (call (.ref a_keys) [.ref x]) Q h := by
  refine W_call (CW_def (rm.less (by omega)) ok (fn_keys l) rfl (cd_keys l) bd_keys (params := ["self"]) (rest := []) (vals := [.ref x]) (fun _ _ => BindsTo.of_eq (by rfl)) rfl fk_keys ?_)
  intro h1 S
  have rm' : Rm (A.deeper (callEnvC (fdAt a_keys) h.objs.size a_keys)) 1 := rm.deeper _
  generalize (A.deeper (callEnvC (fdAt a_keys) h.objs.size a_keys)) = A' at rm' ⊢
  have hlv : vals.length = rows.length := P_len hr
  have S := S.less (F := fun h => Rows h vals rows) (hr.eff S.eff) fun _ _ _ e x => x.eff e
  have hl3 := (hl.keep S.eff).plain.isList
  refine S_cons (S_ret ?_)
  refine E_comp (own := ["k", "v"]) (fr := []) (compOk_of (by decide +kernel)) all0 ?_
  refine E_attr (E_name S 0 rfl rfl (G_hd l S.okh (ti.eff0 S.eff) ?_))
  refine Comp_val (It.list lst vals) (own := ["k", "v"]) (fr := []) (fvs := []) rm'.1 (by rw [sizeLine_eq]; omega) S (compOk_of (by decide +kernel)) all0 fv0 hl3 hl3
    (fun i ys P1 => Paired Strv ys ((rows.take i).map (·.1)) ∧ P1 = fun h => Rows h vals rows) ⟨.nil, rfl⟩ ?_ ?_ ?_
  · rintro i ys P1 ⟨p, _⟩
    rw [P_len p, List.length_map, List.length_take]; omega
  · rintro i v acc it C h4 ys P1 hi hv ⟨p, rfl⟩ hacc S
    obtain ⟨r, er, a, tn, tt, rfl, ht⟩ := P_get S.p i v hv
    refine A_tup2 rm'.1 ht fun h5 e5 => ?_
    have S := S.step e5
    refine A_name (N_store S 0 rfl (.inl (by rfl)) fun h6 S => A_name (N_store S 1 rfl (.inl (by rfl)) fun h7 S => tests0 ?_))
    show W c A' (eval _ _) _ _
    refine E_name S 0 rfl rfl ⟨_, _, (Keepv.set .refl rfl).set rfl, ⟨?_, rfl⟩, S⟩
    rw [List.take_add_one, er, List.map_append]
    exact P_snoc p ⟨tn, rfl⟩
  · rintro h4 acc ys P1 ⟨p, rfl⟩ S
    rw [List.take_of_length_le (by omega)] at p
    exact ⟨_, rfl, q acc ys h4 S.eff ((S.newD _ (List.mem_singleton.mpr rfl)).2.resolve_right fun m => nomatch m) (S.get (j := 0) rfl) p⟩
theorem values {c : Cx} (l : Lw c) {A : Around} (rm : Rm A 2) {h : Heap} (ok : Ok c h) {x d lst : Addr} {vals : List Value} {rows : List Row} (ti : TI h x d lst) (hl : At h lst (.lst vals)) (hr : Rows h vals rows) (hlen : rows.length ≤ 10000) {Q : Value → Heap → Prop}
    (q : ∀ a vs h', Eff c [] h h' → h.get? a = none → At h' a (.lst vs) → Paired Strv vs (rows.map (·.2)) → Q (.ref a) h') : W c A (call (.ref a_values) [.ref x]) Q h := by
  refine W_call (CW_def (rm.less (by omega)) ok (fn_values l) rfl (cd_values l) bd_values (params := ["self"]) (rest := []) (vals := [.ref x]) (fun _ _ => BindsTo.of_eq (by rfl)) rfl fk_values ?_)
  intro h1 S
  have rm' : Rm (A.deeper (callEnvC (fdAt a_values) h.objs.size a_values)) 1 := rm.deeper _
  generalize (A.deeper (callEnvC (fdAt a_values) h.objs.size a_values)) = A' at rm' ⊢
  have hlv : vals.length = rows.length := P_len hr
  have S := S.less (F := fun h => Rows h vals rows) (hr.eff S.eff) fun _ _ _ e x => x.eff e
  have hl3 := (hl.keep S.eff).plain.isList
  refine S_cons (S_ret ?_)
  refine E_comp (own := ["k", "v"]) (fr := []) (compOk_of (by decide +kernel)) all0 ?_
  refine E_attr (E_name S 0 rfl rfl (G_hd l S.okh (ti.eff0 S.eff) ?_))
  refine Comp_val (It.list lst vals) (own := ["k", "v"]) (fr := []) (fvs := []) rm'.1 (by rw [sizeLine_eq]; omega) S (compOk_of (by decide +kernel)) all0 fv0 hl3 hl3
    (fun i ys P1 => Paired Strv ys ((rows.take i).map (·.2)) ∧ P1 = fun h => Rows h vals rows) ⟨.nil, rfl⟩ ?_ ?_ ?_
  · rintro i ys P1 ⟨p, _⟩
    rw [P_len p, List.length_map, List.length_take]; omega
  · rintro i v acc it C h4 ys P1 hi hv ⟨p, rfl⟩ hacc S
    obtain ⟨r, er, a, tn, tt, rfl, ht⟩ := P_get S.p i v hv
    refine A_tup2 rm'.1 ht fun h5 e5 => ?_
    have S := S.step e5
    refine A_name (N_store S 0 rfl (.inl (by rfl)) fun h6 S => A_name (N_store S 1 rfl (.inl (by rfl)) fun h7 S => tests0 ?_))
    show W c A' (eval _ _) _ _
    refine E_name S 1 rfl rfl ⟨_, _, (Keepv.set .refl rfl).set rfl, ⟨?_, rfl⟩, S⟩
    rw [List.take_add_one, er, List.map_append]
    exact P_snoc p ⟨tt, rfl⟩
  · rintro h4 acc ys P1 ⟨p, rfl⟩ S
    rw [List.take_of_length_le (by omega)] at p
    exact ⟨_, rfl, q acc ys h4 S.eff ((S.newD _ (List.mem_singleton.mpr rfl)).2.resolve_right fun m => nomatch m) (S.get (j := 0) rfl) p⟩
/-! ## _law_name -/
def alpha : List Nat := [97, 98, 99, 100, 101, 102, 103, 104, 105, 106, 107, 108, 109, 110, 111, 112, 113, 114, 115, 116, 117, 118, 119, 120, 121, 122, 48, 49, 50, 51, 52, 53, 54, 55, 56, 57]
def nameL (n : Nat) : List Nat := (List.range (1 + n % 3)).map fun k => alpha.getD (n / 36 ^ k % 36) 97
theorem alpha_ok : ∀ k, k < 36 → (alpha[k]? = some (alpha.getD k 97)) ∧ (97 ≤ alpha.getD k 97 ∧ alpha.getD k 97 ≤ 122 ∨ 48 ≤ alpha.getD k 97 ∧ alpha.getD k 97 ≤ 57) := by decide +kernel
theorem nameL_nm (n : Nat) : Nm (nameL n) := ⟨fun c m => by
  obtain ⟨k, _, rfl⟩ := List.mem_map.mp m
  exact (alpha_ok _ (Nat.mod_lt _ (by decide))).2, by unfold nameL; simp; omega⟩
theorem law_name {c : Cx} (l : Lw c) {A : Around} (rm : Rm A 2) {h : Heap} (ok : Ok c h) {n : Nat} {t : Tok} {Q : Value → Heap → Prop}
    (q : ∀ h' t', Eff c [] h h' → Q (.str (T (nameL n)) t') h') : W c A (call (.ref a_name) [.int n t]) Q h := by
  refine W_call (CW_def (rm.less (by omega)) ok (fn_name l) rfl (cd_name l) bd_name (params := ["number"]) (rest := []) (vals := [.int n t]) (fun _ _ => BindsTo.of_eq (by rfl)) rfl fk_name ?_)
  intro h1 S
  have rm' : Rm (A.deeper (callEnvC (fdAt a_name) h.objs.size a_name)) 1 := rm.deeper _
  generalize (A.deeper (callEnvC (fdAt a_name) h.objs.size a_name)) = A' at rm' ⊢
  refine S_cons (S_ret (E_join (E_txt [] (by decide +kernel) fun t1 => ⟨[], t1, rfl, ?_⟩)))
  refine E_comp (own := ["k"]) (fr := ["number"]) (compOk_of (by decide +kernel)) (all1 (by rfl)) ?_
  refine E_call (E_builtin S (by rfl) (by rfl) (by rfl) (gb_range l) (v := .type "range") (by decide +kernel) (by decide +kernel) ?_)
  refine K_pos (.inr (.inl ⟨_, rfl⟩)) (A_cons (E_bin (E_lit fun _ => E_bin (E_name S 0 rfl rfl (E_lit fun _ => O_mod (by decide) fun _ => O_add fun _ => A_nil ⟨S.okh, F_range fun r u' v' h2 _ e2 hr => ?_⟩)))))
  have S := S.step e2
  have h3 : n % 3 < 3 := Nat.mod_lt _ (by decide)
  refine Comp_val (It.range (show 1 + n % 3 < 2 ^ 62 by omega)) (own := ["k"]) (fr := ["number"]) (fvs := [some (.int n t)]) rm'.1 (by rw [sizeLine_eq]; omega) S (compOk_of (by decide +kernel)) (all1 ⟨by simp, by show (fdAt a_name).scope.names.lookup _ ≠ _; decide +kernel⟩) (fv1 0 rfl rfl) hr trivial
    (fun i ys P1 => Paired Strv ys ((List.range i).map fun k => [alpha.getD (n / 36 ^ k % 36) 97]) ∧ P1 = fun _ => True) ⟨.nil, rfl⟩ ?_ ?_ ?_
  · rintro i ys P1 ⟨p, _⟩
    rw [P_len p]; simp
  · rintro i w acc it C h4 ys P1 hi ⟨tk, rfl⟩ ⟨p, rfl⟩ hacc S
    have hi : i < 1 + n % 3 := hi
    refine A_name (N_store S 0 rfl (.inl (by rfl)) fun h5 S => tests0 ?_)
    show W c A' (eval _ _) _ _
    have hp : 0 < 36 ^ i ∧ 36 ^ i < 1073741824 := ⟨Nat.pow_pos (by decide), Nat.lt_of_le_of_lt (Nat.pow_le_pow_right (by decide) (show i ≤ 2 by omega)) (by decide)⟩
    refine E_sub (E_txt alpha (by decide +kernel) fun _ => E_bin (E_bin (E_name S 1 rfl rfl (E_bin (E_lit fun _ => E_name S 0 rfl rfl (O_pow (by decide) (by omega) fun _ => O_div hp.1 hp.2 fun _ => E_lit fun _ => O_mod (by decide) fun _ => ?_))))))
    have hm : n / 36 ^ i % 36 < 36 := Nat.mod_lt _ (by decide)
    refine X_str (alpha_ok _ hm).1 (by omega) fun t9 => ⟨_, _, .set .refl rfl, ⟨?_, rfl⟩, S⟩
    rw [List.range_succ, List.map_append]
    exact P_snoc p ⟨t9, rfl⟩
  · rintro h4 acc ys P1 ⟨p, rfl⟩ S
    refine ⟨S.okh, acc, ys, _, rfl, (S.getL (j := 0) rfl).isList, p, ?_, fun t14 => ⟨_, rfl, ?_⟩⟩
    · simp only [List.map_map, List.length_map, List.length_range, List.length_nil, Nat.mul_zero, Nat.add_zero]
      have e : (List.length ∘ fun k => [alpha.getD (n / 36 ^ k % 36) 97]) = fun _ => 1 := by funext k; rfl
      rw [e]
      have : ∀ m, ((List.range m).map fun _ => 1).sum = m := fun m => by induction m with
        | zero => rfl
        | succ m ih => rw [List.range_succ, List.map_append, List.sum_append, ih]; rfl
      rw [this]; omega
    · rw [joinL_nil]
      have e : ((List.range (1 + n % 3)).map fun k => [alpha.getD (n / 36 ^ k % 36) 97]).flatten = nameL n := by
        unfold nameL
        generalize List.range (1 + n % 3) = l
        induction l with
        | nil => rfl
        | cons a r ih => rw [List.map_cons, List.flatten_cons, ih]; rfl
      rw [e]; exact q _ _ S.eff
/-! ## _law_house -/
def Hn (n : Nat) (x : List Nat) : Nat := (crcL x ^^^ 4294967295) % n
abbrev ordScope : Scope := { kind := .function, names := [(Str.ofString ".0", .local), (Str.ofString "sign", .local), (Str.ofString "ord", .globalImplicit)], isGenerator := false, isCoroutine := false, more := [] }
theorem E_ords {c : Cx} (l : Lw c) {A : Around} {hb h : Heap} {V : List Addr} {env : Env} {ns : List Str} {vs : List (Option Value)} {D : List (Addr × Ob)} {P : Heap → Prop} {iter : Expr} {p1 p2 p3 ps pos : Pos} {Q : Value → Heap → Prop} (hh : A.handled = none) (hg : env.globals = mainGlobals) (hbi : env.builtins = builtinsNs)
    (k : W c A (eval iter env) (fun v h1 => ∃ x t, v = .str (T x) t ∧ Asc x ∧ x.length ≤ 1000000 ∧ St c hb V h1 env ns vs D P ∧ ∀ a ys h2, Nats ys x → St c hb V h2 env ns vs (D ++ [(a, .lst ys)]) P → Q (.ref a) h2) h)
    (hs : ∀ x, foldedSetIterable iter env x = pure x := by intro _; rfl) :
    W c A (eval (.ListComp (.Call (.Name (Str.ofString "ord") p1) [.Name (Str.ofString "sign") p2] [] p3) [⟨.Name (Str.ofString "sign") ps, iter, [], 0⟩] ordScope pos) env) Q h := by
  refine E_comp (own := ["sign"]) (fr := []) (compOk_of (by decide +kernel)) all0 (W_mono k ?_) hs
  rintro v h1 ⟨x, t, rfl, hx, hz, S, q⟩
  have hsz : (T x).cps.size = x.length := by simp [T]
  refine Comp_val (It.str (T x) t (T_asc hx)) (own := ["sign"]) (fr := []) (fvs := []) hh (by rw [sizeLine_eq, hsz]; omega) S (compOk_of (by decide +kernel)) all0 fv0 trivial trivial
    (fun i ys P1 => Nats ys (x.take i) ∧ P1 = P) ⟨.nil, rfl⟩ ?_ ?_ ?_
  · rintro i ys P1 ⟨p, _⟩
    rw [P_len p, List.length_take]; omega
  · rintro i w acc it C h4 ys P1 hi ⟨a, u4, ek, rfl⟩ ⟨p, rfl⟩ hacc S
    have ek' : x[i]? = some a := by simpa [T] using ek
    have et : x.take (i + 1) = x.take i ++ [a] := by rw [List.take_add_one, ek']; rfl
    refine A_name (N_store S 0 rfl (.inl (by rfl)) fun h5 S => ?_)
    refine tests0 ?_
    show W c A (eval _ _) _ _
    refine E_call (E_builtin S (by rfl) hg hbi (gb_ord l) (v := .builtin "ord") (by decide +kernel) (by decide +kernel) ?_)
    refine K_pos (.inr (.inr ⟨_, rfl⟩)) (A_cons (E_name S 0 rfl rfl (A_nil ⟨S.okh, ?_⟩)))
    refine F_ord (n := a) fun t5 => ⟨_, _, .set .refl rfl, ⟨?_, rfl⟩, S⟩
    rw [et]
    exact P_snoc p ⟨t5, rfl⟩
  · rintro h4 acc ys P1 ⟨p, rfl⟩ S
    rw [hsz, List.take_of_length_le (Nat.le_refl _)] at p
    exact q acc ys h4 p S
theorem law_house {c : Cx} (l : Lw c) {A : Around} (rm : Rm A 4) {h : Heap} (ok : Ok c h) {x : List Nat} {n : Nat} {t u : Tok} (hx : Asc x) (hz : x.length ≤ 1000) (hn : 0 < n ∧ n ≤ 6) {Q : Value → Heap → Prop}
    (q : ∀ h' t', Eff c [] h h' → Q (.str (T (hs (Hn n x))) t') h') : W c A (call (.ref a_house) [.str (T x) t, .int n u]) Q h := by
  refine W_call (CW_def (rm.less (by omega)) ok (fn_house l) rfl (cd_house l) bd_house (params := ["name", "houses"]) (rest := ["crc", "octet"]) (vals := [.str (T x) t, .int n u]) (fun _ _ => BindsTo.of_eq (by rfl)) rfl fk_house ?_)
  intro h1 S
  have rm' : Rm (A.deeper (callEnvC (fdAt a_house) h.objs.size a_house)) 3 := rm.deeper _
  generalize (A.deeper (callEnvC (fdAt a_house) h.objs.size a_house)) = A' at rm' ⊢
  have own := ow_house h
  refine S_next (S_assign (E_lit fun t1 => N_store S 2 rfl (own _ (by simp)) fun h2 S => ⟨rfl, ?_⟩))
  refine S_next (S_for (E_ords l rm'.1 (by rfl) (by rfl) (E_name S 0 rfl rfl ⟨x, t, rfl, hx, by omega, S, fun oa ys h3 py S => ?_⟩)))
  refine F_loop (It.list oa ys) rm'.1 (fun i vs D P => ∃ t1 w, vs = [some (.str (T x) t), some (.int n u), some (.int (crcL (x.take i) : Nat) t1), w] ∧ D = [(oa, .lst ys)]) S S.atLast.plain.isList ⟨t1, _, rfl, rfl⟩ ?_ ?_ ?_
  · rintro i h vs D P ⟨_, _, rfl, rfl⟩ S; exact (S.getL (j := 0) rfl).isList
  · rintro i v it h4 vs D P hi hv ⟨t1, w, rfl, rfl⟩ S
    obtain ⟨o, eo, to, rfl⟩ := P_get py i v hv
    refine A_name (N_store S 3 rfl (own _ (by simp)) fun h5 S => ?_)
    refine S_next (S_assign (E_call (E_global S (by rfl) (by rfl) (gf_crc l) (K_pos (kp_crc l) (A_cons (E_bin (E_name S 2 rfl rfl (E_name S 3 rfl rfl (O_xor fun t2 => A_nil ⟨S.okh, ?_⟩)))))))))
    refine gen_crc l rm' S.okh fun h6 t6 e6 => ?_
    have S := S.step e6
    have e : crcL (x.take (i + 1)) = crcN 8 (crcL (x.take i) ^^^ o) := by
      unfold crcL
      rw [List.take_add_one, eo, List.foldl_append]; rfl
    exact N_store S 2 rfl (own _ (by simp)) fun h7 S => ⟨rfl, S_nil ⟨_, _, _, ⟨t6, _, by rw [e]; rfl, rfl⟩, S⟩⟩
  · rintro h4 vs D P ⟨t1, w, rfl, rfl⟩ S
    have hyl : ys.length = x.length := P_len py
    rw [hyl, List.take_of_length_le (Nat.le_refl _)] at S
    refine ⟨rfl, S_cons (S_ret (E_call (E_builtin S (by rfl) (by rfl) (by rfl) (gb_str l) (v := .type "str") (by decide +kernel) (by decide +kernel) (K_pos (.inr (.inl ⟨_, rfl⟩)) (A_cons (E_bin (E_bin (E_name S 2 rfl rfl (E_lit fun t2 => O_xor fun t3 => E_name S 1 rfl rfl (O_mod hn.1 fun t4 => A_nil ⟨S.okh, ?_⟩))))))))))⟩
    have : (crcL x ^^^ 4294967295) % n < n := Nat.mod_lt _ hn.1
    exact F_strd (by omega) fun t5 => ⟨_, rfl, q _ t5 S.eff⟩
/-! ## _law_divided -/
theorem law_divided {c : Cx} (l : Lw c) {A : Around} (rm : Rm A 2) {h : Heap} (ok : Ok c h) {x : List Nat} {n : Nat} {t u : Tok} (hx : Asc x) (hn : 0 < n ∧ n ≤ 6) {Q : Value → Heap → Prop}
    (q : ∀ h' t', Eff c [] h h' → Q (.int ((Hn n x : Nat) : Int) t') h') : W c A (call (.ref a_divided) [.str (T x) t, .int n u]) Q h := by
  refine W_call (CW_def (rm.less (by omega)) ok (fn_divided l) rfl (cd_divided l) bd_divided (params := ["name", "houses"]) (rest := ["rest", "sign", "k", "told"]) (vals := [.str (T x) t, .int n u]) (fun _ _ => BindsTo.of_eq (by rfl)) rfl fk_divided ?_)
  intro h1 S
  have rm' : Rm (A.deeper (callEnvC (fdAt a_divided) h.objs.size a_divided)) 1 := rm.deeper _
  generalize (A.deeper (callEnvC (fdAt a_divided) h.objs.size a_divided)) = A' at rm' ⊢
  have own := ow_divided h
  have one : ∀ a : Nat, a &&& 1 < 2 ^ 64 := fun a => Nat.lt_of_le_of_lt Nat.and_le_right (by decide)
  have hsz : (T x).cps.size = x.length := by simp [T]
  refine S_next (S_assign (E_lit fun t1 => N_store S 2 rfl (own _ (by simp)) fun h2 S => ⟨rfl, ?_⟩))
  refine S_next (S_for (E_name S 0 rfl rfl ?_))
  refine F_loop (It.str (T x) t (T_asc hx)) rm'.1 (fun i vs D P => ∃ t1 w2 w3, vs = [some (.str (T x) t), some (.int n u), some (.int (divL (x.take i) : Nat) t1), w2, w3, none] ∧ D = []) S trivial ⟨t1, _, _, rfl, rfl⟩ (fun _ _ _ _ _ _ _ => trivial) ?_ ?_
  · rintro i v it h3 vs D P hi ⟨o, uo, eo, rfl⟩ ⟨t1, w2, w3, rfl, rfl⟩ S
    have ex : x[i]? = some o := by simpa [T] using eo
    refine A_name (N_store S 3 rfl (own _ (by simp)) fun h4 S => ?_)
    refine S_next (S_for (E_call (E_builtin S (by rfl) (by rfl) (by rfl) (gb_range l) (v := .type "range") (by decide +kernel) (by decide +kernel) ?_)))
    refine K_pos (.inr (.inl ⟨_, rfl⟩)) (A_cons (E_lit fun t2 => A_nil ⟨S.okh, F_range fun r u' v' h5 _ e5 hr => ?_⟩))
    have S := S.step e5
    refine F_loop (It.range (by decide)) rm'.1 (fun k vs D P => ∃ t1 w3, vs = [some (.str (T x) t), some (.int n u), some (.int (divO (divL (x.take i)) o k : Nat) t1), some (.str (T [o]) uo), w3, none] ∧ D = [(it, .fld "str_ascii_iterator" [.str (T x) t, .int ((i + 1 : Nat) : Int) 0])]) S hr ⟨t1, _, rfl, rfl⟩ (fun _ _ _ _ _ _ _ => trivial) ?_ ?_
    · rintro k v it2 h6 vs D P hk ⟨tk, rfl⟩ ⟨t1, w3, rfl, rfl⟩ S
      refine A_name (N_store S 4 rfl (own _ (by simp)) fun h7 S => ?_)
      refine S_next (S_assign (E_bin (E_bin (E_lit fun t2 => E_name S 2 rfl rfl (O_mul (.inl (by decide)) fun t3 => E_bin (E_bin (E_bin ?_))))))) 
      refine E_call (E_builtin S (by rfl) (by rfl) (by rfl) (gb_ord l) (v := .builtin "ord") (by decide +kernel) (by decide +kernel) (K_pos (.inr (.inr ⟨_, rfl⟩)) (A_cons (E_name S 3 rfl rfl (A_nil ⟨S.okh, F_ord (n := o) fun t4 => ?_⟩)))))
      refine E_name S 4 rfl rfl (O_shr fun t5 => E_lit fun t6 => O_and fun t7 => E_lit fun t8 => O_shl (one _) (by decide) fun t9 => O_xor fun t10 => N_store S 2 rfl (own _ (by simp)) fun h8 S => ⟨rfl, ?_⟩)
      refine S_next (S_if (T_cmp (E_bin (E_name S 2 rfl rfl (E_lit fun t20 => O_shr fun t11 => E_lit fun t12 => C_eq (B_bool (ifd (fun hc => ?_) fun hc => ?_)))))))
      · refine S_next (S_aug (N_load S 2 rfl rfl (E_lit fun t13 => I_xor fun t14 => N_store S 2 rfl (own _ (by simp)) fun h9 S => ?_)))
        have e : divO (divL (x.take i)) o (k + 1) = (2 * divO (divL (x.take i)) o k ^^^ (o >>> k &&& 1) <<< 32) ^^^ 4374732215 := by rw [divO, divS, if_pos hc]
        exact ⟨rfl, S_nil ⟨rfl, S_nil ⟨_, _, _, ⟨t14, _, by rw [e]; rfl, rfl⟩, S⟩⟩⟩
      · have e : divO (divL (x.take i)) o (k + 1) = 2 * divO (divL (x.take i)) o k ^^^ (o >>> k &&& 1) <<< 32 := by rw [divO, divS, if_neg hc]
        exact S_nil ⟨rfl, S_nil ⟨_, _, _, ⟨t10, _, by rw [e]; rfl, rfl⟩, S⟩⟩
    · rintro h6 vs D P ⟨t1, w3, rfl, rfl⟩ S
      have e : divL (x.take (i + 1)) = divO (divL (x.take i)) o 8 := by
        unfold divL
        rw [List.take_add_one, ex, List.foldl_append]; rfl
      exact ⟨rfl, S_nil ⟨_, [], _, ⟨t1, _, _, by rw [e], rfl⟩, S⟩⟩
  · rintro h3 vs D P ⟨t1, w2, w3, rfl, rfl⟩ S
    rw [hsz, List.take_of_length_le (Nat.le_refl _)] at S
    refine ⟨rfl, S_next (S_assign (E_lit fun t2 => N_store S 5 rfl (own _ (by simp)) fun h4 S => ⟨rfl, ?_⟩))⟩
    refine S_next (S_for (E_call (E_builtin S (by rfl) (by rfl) (by rfl) (gb_range l) (v := .type "range") (by decide +kernel) (by decide +kernel) ?_)))
    refine K_pos (.inr (.inl ⟨_, rfl⟩)) (A_cons (E_lit fun t3 => A_nil ⟨S.okh, F_range fun r u' v' h5 _ e5 hr => ?_⟩))
    have S := S.step e5
    refine F_loop (It.range (by decide)) rm'.1 (fun k vs D P => ∃ t4 w2 w3, vs = [some (.str (T x) t), some (.int n u), some (.int (divL x : Nat) t1), w2, w3, some (.int (toldN (divL x) k : Nat) t4)] ∧ D = []) S hr ⟨t2, _, _, rfl, rfl⟩ (fun _ _ _ _ _ _ _ => trivial) ?_ ?_
    · rintro k v it2 h6 vs D P hk ⟨tk, rfl⟩ ⟨t4, w2, w3, rfl, rfl⟩ S
      refine A_name (N_store S 4 rfl (own _ (by simp)) fun h7 S => ?_)
      have hle : divL x >>> k &&& 1 ≤ 2 * toldN (divL x) k + 1 := Nat.le_trans Nat.and_le_right (by omega)
      refine S_next (S_assign (E_bin (E_bin (E_bin (E_lit fun t5 => E_name S 5 rfl rfl (O_mul (.inl (by decide)) fun t6 => E_lit fun t7 => O_add fun t8 => E_bin (E_bin (E_name S 2 rfl rfl (E_name S 4 rfl rfl (O_shr fun t9 => E_lit fun t10 => O_and fun t11 => O_sub hle fun t12 => ?_))))))))))
      exact N_store S 5 rfl (own _ (by simp)) fun h8 S => ⟨rfl, S_nil ⟨_, _, _, ⟨t12, _, _, rfl, rfl⟩, S⟩⟩
    · rintro h6 vs D P ⟨t4, w2, w3, rfl, rfl⟩ S
      refine ⟨rfl, S_cons (S_ret (E_bin (E_name S 5 rfl rfl (E_name S 1 rfl rfl (O_mod hn.1 fun t5 => ⟨_, rfl, ?_⟩)))))⟩
      have e : toldN (divL x) 32 % n = Hn n x := by rw [told_crc (fun o m => by have := hx o m; omega)]; rfl
      have := q _ t5 S.eff
      rwa [← e] at this
end Mine
end

section
open PySem PySem.W PyProof.Rows PySem.Calls
set_option Elab.async false
set_option linter.unusedVariables false
set_option linter.unusedSimpArgs false
set_option maxRecDepth 4000
namespace Mine
/-! ## _law_due -/
abbrev Cm := List Nat × Nat × Nat
def Comev (h : Heap) (v : Value) (z : Cm) : Prop := ∃ a t1 t2 t3, v = .ref a ∧ Tup h a [.str (T z.1) t1, .int (z.2.1 : Nat) t2, .int (z.2.2 : Nat) t3]
def Comes (h : Heap) (vs : List Value) (zs : List Cm) : Prop := Paired (Comev h) vs zs
theorem Comes.eff {c : Cx} {V : List Addr} {h h' : Heap} {vs : List Value} {zs : List Cm} (x : Comes h vs zs) (e : Eff c V h h') : Comes h' vs zs := P_imp (fun _ _ ⟨a, t1, t2, t3, ev, t⟩ => ⟨a, t1, t2, t3, ev, t.eff e⟩) x
def due1 (o : List Nat) (z : Cm) : List Row := if o = z.1 then [(o, hs z.2.1)] else if o = upp z.1 then [(o, hs z.2.2)] else []
def dueL (order : List (List Nat)) (come : List Cm) : List Row := order.flatMap fun o => come.flatMap (due1 o)
theorem due1_len (o : List Nat) (z : Cm) : (due1 o z).length ≤ 1 := by unfold due1; split; simp; split <;> simp
theorem flat_len {α β : Type} (f : α → List β) (n : Nat) (hf : ∀ a, (f a).length ≤ n) : ∀ l : List α, (l.flatMap f).length ≤ l.length * n
  | [] => by simp
  | a :: r => by
    have := flat_len f n hf r
    have := hf a
    rw [List.flatMap_cons, List.length_append, List.length_cons, Nat.add_mul]; omega
theorem law_due {c : Cx} (l : Lw c) {A : Around} (rm : Rm A 2) {h : Heap} (ok : Ok c h) {oa ca : Addr} {ovs cvs : List Value} {order : List (List Nat)} {come : List Cm} (ho : h.IsList oa ovs.toArray) (po : Paired Strv ovs order) (hc : h.IsList ca cvs.toArray) (pc : Comes h cvs come)
    (hcl : ∀ z ∈ come, Asc z.1 ∧ z.1.length ≤ 1000 ∧ z.2.1 < 10 ∧ z.2.2 < 10) (hol : order.length ≤ 50) (hcn : come.length ≤ 50) {Q : Value → Heap → Prop}
    (q : ∀ a vs h', Eff c [] h h' → h.get? a = none → At h' a (.lst vs) → Rows h' vs (dueL order come) → Q (.ref a) h') : W c A (call (.ref a_due) [.ref oa, .ref ca]) Q h := by
  refine W_call (CW_def (rm.less (by omega)) ok (fn_due l) rfl (cd_due l) bd_due (params := ["order", "come"]) (rest := ["due", "other", "name", "first", "second"]) (vals := [.ref oa, .ref ca]) (fun _ _ => BindsTo.of_eq (by rfl)) rfl fk_due ?_)
  intro h1 S
  have rm' : Rm (A.deeper (callEnvC (fdAt a_due) h.objs.size a_due)) 1 := rm.deeper _
  generalize (A.deeper (callEnvC (fdAt a_due) h.objs.size a_due)) = A' at rm' ⊢
  have own := ow_due h
  have hovl : ovs.length = order.length := P_len po
  have hcvl : cvs.length = come.length := P_len pc
  refine S_next (S_assign (E_list (A_nil ⟨by decide, fun da h2 n2 e2 g2 => ?_⟩)))
  have hz : h.get? da = none := (S.new_of n2).2.2.2.resolve_right fun m => nomatch m
  have S := S.enter e2 n2 g2
  have S := S.less (F := fun h => Comes h cvs come ∧ Rows h [] []) ⟨pc.eff S.eff, .nil⟩ fun _ _ _ e x => ⟨x.1.eff e, x.2.eff e⟩
  refine N_store S 2 rfl (own _ (by simp)) fun h3 S => ⟨rfl, ?_⟩
  refine S_next (S_for (E_name S 0 rfl rfl ?_))
  refine F_loop (It.list oa ovs) rm'.1 (fun i vs D P => ∃ dvs w3 w4 w5 w6, vs = [some (.ref oa), some (.ref ca), some (.ref da), w3, w4, w5, w6] ∧ D = [(da, .lst dvs)] ∧ P = (fun h => Comes h cvs come ∧ Rows h dvs (dueL (order.take i) come))) S (isList_keep ho S.eff) ⟨[], none, none, none, none, rfl, rfl, rfl⟩ ?_ ?_ ?_
  · rintro i h vs D P ⟨_, _, _, _, _, rfl, rfl, rfl⟩ S; exact isList_keep ho S.eff
  · rintro i v it h4 vs D P hi hv ⟨dvs, w3, w4, w5, w6, rfl, rfl, rfl⟩ S
    obtain ⟨o, eo, to, rfl⟩ := P_get po i v hv
    refine A_name (N_store S 3 rfl (own _ (by simp)) fun h5 S => ?_)
    refine S_next (S_for (E_name S 1 rfl rfl ?_))
    have e0 : dueL (order.take i) come = dueL (order.take i) come ++ (come.take 0).flatMap (due1 o) := by simp
    rw [e0] at S
    refine F_loop (It.list ca cvs) rm'.1 (fun j vs D P => ∃ dvs w4 w5 w6, vs = [some (.ref oa), some (.ref ca), some (.ref da), some (.str (T o) to), w4, w5, w6] ∧ D = [(da, .lst dvs), (it, .fld "list_iterator" [.ref oa, .int ((i + 1 : Nat) : Int) 0])] ∧ P = (fun h => Comes h cvs come ∧ Rows h dvs (dueL (order.take i) come ++ (come.take j).flatMap (due1 o)))) S (isList_keep hc S.eff) ⟨dvs, w4, w5, w6, rfl, rfl, rfl⟩ ?_ ?_ ?_
    · rintro i h vs D P ⟨_, _, _, _, rfl, rfl, rfl⟩ S; exact isList_keep hc S.eff
    · rintro j v it2 h6 vs D P hj hv2 ⟨dvs, w4, w5, w6, rfl, rfl, rfl⟩ S
      obtain ⟨z, ez, a, t1, t2, t3, rfl, ht⟩ := P_get S.p.1 j v hv2
      have hz3 := hcl z (List.mem_of_getElem? ez)
      have ejoin : ∀ l, due1 o z = l → dueL (order.take i) come ++ (come.take (j + 1)).flatMap (due1 o) = (dueL (order.take i) come ++ (come.take j).flatMap (due1 o)) ++ l := fun l e => by
        rw [List.take_add_one, ez, List.flatMap_append]
        simp [e]
      have dl : dvs.length ≤ 10000 := by
        rw [P_len S.p.2, List.length_append]
        have h1 := flat_len (fun o => come.flatMap (due1 o)) (come.length * 1) (fun o => flat_len (due1 o) 1 (due1_len o) come) (order.take i)
        have h2 := flat_len (due1 o) 1 (due1_len o) (come.take j)
        rw [List.length_take] at h1 h2
        unfold dueL
        have h3 : min i order.length * (come.length * 1) ≤ 50 * 50 := Nat.mul_le_mul (by omega) (by omega)
        omega
      refine A_tup3 rm'.1 ht fun h7 e7 => ?_
      have S := S.step e7
      refine A_name (N_store S 4 rfl (own _ (by simp)) fun h8 S => A_name (N_store S 5 rfl (own _ (by simp)) fun h9 S => A_name (N_store S 6 rfl (own _ (by simp)) fun h10 S => ?_)))
      refine S_next (S_if (T_cmp (E_name S 3 rfl rfl (E_name S 4 rfl rfl (C_eqs (B_bool (ifd (fun hc1 => ?_) fun hc1 => ?_)))))))
      · refine S_next (S_expr (E_append (E_name S 2 rfl rfl ⟨da, rfl, ⟨_, S.getL (j := 0) rfl⟩, E_tup (A_cons (E_name S 3 rfl rfl (A_cons ?_)))⟩)))
        refine E_call (E_builtin S (by rfl) (by rfl) (by rfl) (gb_str l) (v := .type "str") (by decide +kernel) (by decide +kernel) (K_pos (.inr (.inl ⟨_, rfl⟩)) (A_cons (E_name S 5 rfl rfl (A_nil ⟨S.okh, F_strd hz3.2.2.1 fun t4 => ?_⟩)))))
        refine A_nil ⟨by rw [sizeLine_eq]; simp, fun a h11 n11 e11 g11 => ?_⟩
        have S := S.step e11
        refine ⟨S.okh, dvs, S.getL (j := 0) rfl, by omega, fun h12 s12 g12 => ⟨rfl, S_nil ⟨rfl, S_nil ?_⟩⟩⟩
        have S := S.also (F := fun h => Tup h a [.str (T o) to, .str (T [48 + z.2.1]) t4]) g11 fun _ _ _ e x => x.eff e
        have S := S.upd (j := 0) (b' := .lst (dvs ++ [Value.ref a])) rfl (.of_same s12 (S.loSet (j := 0) rfl) (S.ntAt (j := 0) rfl)) g12
        have S := S.less (F := fun h => Comes h cvs come ∧ Rows h (dvs ++ [Value.ref a]) (dueL (order.take i) come ++ (come.take (j + 1)).flatMap (due1 o))) ⟨S.p.1.1, by
          rw [ejoin [(o, hs z.2.1)] (by unfold due1; rw [if_pos hc1])]
          exact P_snoc S.p.1.2 ⟨a, to, t4, rfl, S.p.2⟩⟩ fun _ _ _ e x => ⟨x.1.eff e, x.2.eff e⟩
        exact ⟨_, [(da, .lst (dvs ++ [Value.ref a])), (it, .fld "list_iterator" [.ref oa, .int ((i + 1 : Nat) : Int) 0])], _, ⟨dvs ++ [Value.ref a], some (.str (T z.1) t1), some (.int (z.2.1 : Nat) t2), some (.int (z.2.2 : Nat) t3), rfl, rfl, rfl⟩, S⟩
      · refine S_next (S_if (T_cmp (E_name S 3 rfl rfl (E_upper (E_name S 4 rfl rfl ⟨z.1, t1, rfl, hz3.1, by omega, S.okh, fun t5 => C_eqs (B_bool (ifd (fun hc2 => ?_) fun hc2 => ?_))⟩)))))
        · refine S_next (S_expr (E_append (E_name S 2 rfl rfl ⟨da, rfl, ⟨_, S.getL (j := 0) rfl⟩, E_tup (A_cons (E_name S 3 rfl rfl (A_cons ?_)))⟩)))
          refine E_call (E_builtin S (by rfl) (by rfl) (by rfl) (gb_str l) (v := .type "str") (by decide +kernel) (by decide +kernel) (K_pos (.inr (.inl ⟨_, rfl⟩)) (A_cons (E_name S 6 rfl rfl (A_nil ⟨S.okh, F_strd hz3.2.2.2 fun t4 => ?_⟩)))))
          refine A_nil ⟨by rw [sizeLine_eq]; simp, fun a h11 n11 e11 g11 => ?_⟩
          have S := S.step e11
          refine ⟨S.okh, dvs, S.getL (j := 0) rfl, by omega, fun h12 s12 g12 => ⟨rfl, S_nil ⟨rfl, S_nil ⟨rfl, S_nil ?_⟩⟩⟩⟩
          have S := S.also (F := fun h => Tup h a [.str (T o) to, .str (T [48 + z.2.2]) t4]) g11 fun _ _ _ e x => x.eff e
          have S := S.upd (j := 0) (b' := .lst (dvs ++ [Value.ref a])) rfl (.of_same s12 (S.loSet (j := 0) rfl) (S.ntAt (j := 0) rfl)) g12
          have S := S.less (F := fun h => Comes h cvs come ∧ Rows h (dvs ++ [Value.ref a]) (dueL (order.take i) come ++ (come.take (j + 1)).flatMap (due1 o))) ⟨S.p.1.1, by
            rw [ejoin [(o, hs z.2.2)] (by unfold due1; rw [if_neg hc1, if_pos hc2])]
            exact P_snoc S.p.1.2 ⟨a, to, t4, rfl, S.p.2⟩⟩ fun _ _ _ e x => ⟨x.1.eff e, x.2.eff e⟩
          exact ⟨_, [(da, .lst (dvs ++ [Value.ref a])), (it, .fld "list_iterator" [.ref oa, .int ((i + 1 : Nat) : Int) 0])], _, ⟨dvs ++ [Value.ref a], some (.str (T z.1) t1), some (.int (z.2.1 : Nat) t2), some (.int (z.2.2 : Nat) t3), rfl, rfl, rfl⟩, S⟩
        · have ej := ejoin [] (by unfold due1; rw [if_neg hc1, if_neg hc2])
          rw [List.append_nil] at ej
          refine S_nil ⟨rfl, S_nil ⟨rfl, S_nil ⟨_, _, _, ⟨dvs, some (.str (T z.1) t1), some (.int (z.2.1 : Nat) t2), some (.int (z.2.2 : Nat) t3), rfl, rfl, by rw [ej]⟩, S⟩⟩⟩
    · rintro h6 vs D P ⟨dvs, w4, w5, w6, rfl, rfl, rfl⟩ S
      rw [hcvl, List.take_of_length_le (Nat.le_refl _)] at S
      have ej : dueL (order.take (i + 1)) come = dueL (order.take i) come ++ come.flatMap (due1 o) := by
        unfold dueL
        rw [List.take_add_one, eo, List.flatMap_append]; simp
      exact ⟨rfl, S_nil ⟨_, [(da, .lst dvs)], _, ⟨dvs, some (.str (T o) to), w4, w5, w6, rfl, rfl, by rw [ej]⟩, S⟩⟩
  · rintro h4 vs D P ⟨dvs, w3, w4, w5, w6, rfl, rfl, rfl⟩ S
    rw [hovl, List.take_of_length_le (Nat.le_refl _)] at S
    exact ⟨rfl, S_cons (S_ret (E_name S 2 rfl rfl ⟨_, rfl, q da dvs h4 S.eff hz (S.get (j := 0) rfl) S.p.2⟩))⟩
/-- what is due is what stands -/
theorem due_rows {H : List Nat → Nat} {names : List (List Nat)} (nd : names.Nodup) (hn : ∀ a ∈ names, Nm a) {rows : List Row} (R : RI H names rows) : dueL (rows.map (·.1)) (names.map fun a => (a, H a, H (upp a))) = rows := by
  have one : ∀ r ∈ rows, (names.map fun a => ((a, H a, H (upp a)) : Cm)).flatMap (due1 r.1) = [r] := fun r m => by
    obtain ⟨a, ma, na, ea⟩ := R.spell r m
    have e : due1 r.1 (a, H a, H (upp a)) = [r] := by
      unfold due1
      rcases ea with ea | ea
      · rw [if_pos ea]; rw [← ea, ← R.house r m]
      · by_cases q : r.1 = a
        · rw [if_pos q]; show [(r.1, hs (H a))] = [r]; rw [← q, ← R.house r m]
        · rw [if_neg q, if_pos ea]; show [(r.1, hs (H (upp a)))] = [r]; rw [← ea, ← R.house r m]
    have low_r : low r.1 = a := by rcases ea with ea | ea <;> rw [ea]; exact na.low; exact na.low_upp
    have off : ∀ b ∈ names, b ≠ a → due1 r.1 (b, H b, H (upp b)) = [] := fun b mb ne => by
      unfold due1
      rw [if_neg, if_neg]
      · intro q
        have : low r.1 = b := by rw [show r.1 = upp b from q]; exact (hn b mb).low_upp
        exact ne (this.symm.trans low_r)
      · intro q
        have : low r.1 = b := by rw [show r.1 = b from q]; exact (hn b mb).low
        exact ne (this.symm.trans low_r)
    clear R m ea
    induction names with
    | nil => cases ma
    | cons x l ih =>
      rw [List.nodup_cons] at nd
      rw [List.map_cons, List.flatMap_cons]
      by_cases q : x = a
      · subst q
        rw [e]
        have : ∀ l' : List (List Nat), (∀ b ∈ l', b ∈ l) → (l'.map fun a => ((a, H a, H (upp a)) : Cm)).flatMap (due1 r.1) = [] := fun l' hl' => by
          induction l' with
          | nil => rfl
          | cons y l' ih' =>
            rw [List.map_cons, List.flatMap_cons, ih' fun b mb => hl' b (List.mem_cons_of_mem _ mb), off y (List.mem_cons_of_mem _ (hl' y (by simp))) (fun q => nd.1 (q ▸ hl' y (by simp)))]
            rfl
        rw [this l fun b mb => mb]; rfl
      · rw [off x (by simp) q, List.nil_append]
        exact ih nd.2 (fun b mb => hn b (List.mem_cons_of_mem _ mb)) ((List.mem_cons.mp ma).resolve_left fun q' => q q'.symm) fun b mb => off b (List.mem_cons_of_mem _ mb)
  unfold dueL
  rw [List.flatMap_map]
  clear R
  induction rows with
  | nil => rfl
  | cons r l ih => rw [List.flatMap_cons, one r (by simp), ih fun r' m => one r' (List.mem_cons_of_mem _ m)]; rfl
end Mine
end

section
open PySem PySem.W PyProof.Rows PySem.Calls
set_option Elab.async false
set_option linter.unusedVariables false
set_option linter.unusedSimpArgs false
set_option maxRecDepth 4000
namespace Mine
theorem St.pick {c : Cx} {hb h : Heap} {V : List Addr} {env : Env} {ns : List Str} {vs : List (Option Value)} {D D' : List (Addr × Ob)} {P : Heap → Prop} (S : St c hb V h env ns vs D P) (sub : ∀ p ∈ D', p ∈ D) (nd : (D'.map (·.1)).Nodup) : St c hb V h env ns vs D' P :=
  { S with
    led := fun p m => S.led p (sub p m)
    ap := List.nodup_cons.mpr ⟨fun m => by
      obtain ⟨p, mp, e⟩ := List.mem_map.mp m
      exact (List.nodup_cons.mp S.ap).1 (List.mem_map.mpr ⟨p, sub p mp, e⟩), nd⟩
    newD := fun p m => S.newD p (sub p m) }
theorem St.mem {c : Cx} {hb h : Heap} {V : List Addr} {env : Env} {ns : List Str} {vs : List (Option Value)} {D : List (Addr × Ob)} {P : Heap → Prop} (S : St c hb V h env ns vs D P) {a : Addr} {b : Ob} (m : (a, b) ∈ D) : At h a b := S.led (a, b) m
/-- two entries of a ledger live apart -/
theorem St.ne {c : Cx} {hb h : Heap} {V : List Addr} {env : Env} {ns : List Str} {vs : List (Option Value)} {D : List (Addr × Ob)} {P : Heap → Prop} (S : St c hb V h env ns vs (D ++ [(a, b)]) P) {p : Addr × Ob} (m : p ∈ D) : p.1 ≠ a := fun e => by
  have := (List.nodup_cons.mp S.ap).2
  rw [List.map_append, List.nodup_append] at this
  exact this.2.2 _ (List.mem_map_of_mem m) a (by simp) e
/-! ## _law_come -/
theorem clean_swp {x : List Nat} (h : Clean x) : Clean (swp x) := fun c m => by
  obtain ⟨d, hd, rfl⟩ := List.mem_map.mp m
  have := h d hd
  unfold sw1
  split
  · omega
  · split <;> omega
theorem swp_len (x : List Nat) : (swp x).length = x.length := by simp [swp]
theorem rest_len (rows : List Row) (p : List Nat) : (rest rows p).length ≤ rows.length := List.length_filter_le _ _
def NmOk (p : List Nat) : Prop := Clean p ∧ p.length ≤ 3
theorem filt_names (rows : List Row) (p : List Nat) : ((rows.map (·.1)).filter fun o => decide (low o ≠ low p)) = (rest rows p).map (·.1) := by
  unfold rest
  rw [List.filter_map]; rfl
theorem come_done {H : List Nat → Nat} {p : List Nat} {rows : List Row} {i : Nat} : comeL H 0 i p rows = (0, rest rows p) := rfl
set_option maxHeartbeats 1000000 in
theorem law_come {c : Cx} (l : Lw c) {A : Around} (rm : Rm A 8) {h : Heap} (ok : Ok c h) {x d lst oa : Addr} {vals ovs : List Value} {rows : List Row} {p : List Nat} {n : Nat} {t u : Tok} (ti : TI h x d lst) (lo : c.h0.get? lst = none) (hl : At h lst (.lst vals)) (hr : Rows h vals rows)
    (ho : At h oa (.lst ovs)) (hne : oa ≠ lst) (po : Paired Strv ovs (rows.map (·.1))) (hok : ∀ r ∈ rows, NmOk r.1 ∧ RowOk r) (hp : NmOk p) (hn : 0 < n ∧ n ≤ 6) (hlen : rows.length ≤ 20) {Q : Value → Heap → Prop}
    (q : ∀ tup a' ovs' vals' t' h', Eff c [lst] h h' → Tup h' tup [.int ((comeL (Hn n) (2 * n) 0 p rows).1 : Nat) t', .ref a'] → h.get? a' = none → At h' a' (.lst ovs') → Paired Strv ovs' ((comeL (Hn n) (2 * n) 0 p rows).2.map (·.1)) →
      At h' lst (.lst vals') → Rows h' vals' (comeL (Hn n) (2 * n) 0 p rows).2 → a' ≠ lst → Q (.ref tup) h') : W c A (call (.ref a_come) [.ref x, .str (T p) t, .int n u, .ref oa]) Q h := by
  refine W_call (CW_def (rm.less (by omega)) ok (fn_come l) rfl (cd_come l) bd_come (params := ["home", "name", "houses", "order"]) (rest := ["turn", "house", "there"]) (vals := [.ref x, .str (T p) t, .int n u, .ref oa]) (fun _ _ => BindsTo.of_eq (by rfl)) rfl fk_come ?_)
  intro h1 S
  have rm' : Rm (A.deeper (callEnvC (fdAt a_come) h.objs.size a_come)) 7 := rm.deeper _
  generalize (A.deeper (callEnvC (fdAt a_come) h.objs.size a_come)) = A' at rm' ⊢
  have own := ow_come h
  have S := S.less (F := fun h => Rows h vals rows) (hr.eff S.eff) fun _ _ _ e x => x.eff e
  have S := S.adopt (a := lst) (b := .lst vals) hl.some (hl.keep S.eff) lo (fun _ m => nomatch m)
  refine S_cons (S_for (E_call (E_builtin S (by rfl) (by rfl) (by rfl) (gb_range l) (v := .type "range") (by decide +kernel) (by decide +kernel) ?_)))
  refine K_pos (.inr (.inl ⟨_, rfl⟩)) (A_cons (E_bin (E_lit fun _ => E_name S 2 rfl rfl (O_mul (.inl (by decide)) fun _ => A_nil ⟨S.okh, F_range fun r u' v' h2 _ e2 hrg => ?_⟩))))
  have S := S.step e2
  refine F_loop (It.range (show 2 * n < 2 ^ 62 by omega)) rm'.1 (fun i vs D P => ∃ p1 t1 oa1 ovs1 vals1 rows1 w4 w5 w6 Dx, vs = [some (.ref x), some (.str (T p1) t1), some (.int n u), some (.ref oa1), w4, w5, w6] ∧ D = (lst, .lst vals1) :: Dx ∧ P = (fun h => Rows h vals1 rows1) ∧
      comeL (Hn n) (2 * n - i) i p1 rows1 = comeL (Hn n) (2 * n) 0 p rows ∧ (∀ r ∈ rows1, NmOk r.1 ∧ RowOk r) ∧ NmOk p1 ∧ rows1.length ≤ 20 + i ∧ Paired Strv ovs1 (rows1.map (·.1)) ∧
      (∀ h3 vs b Dy P (S : St c h [lst] h3 (callEnvC (fdAt a_come) h.objs.size a_come) ["home", "name", "houses", "order", "turn", "house", "there"] vs ((lst, b) :: Dx ++ Dy) P), h3.IsList oa1 ovs1.toArray)) S hrg
    ⟨p, t, oa, ovs, vals, rows, none, none, none, [], rfl, rfl, rfl, rfl, hok, hp, by omega, po, fun h3 _ _ _ _ S => (show At h3 oa (.lst ovs) from let ⟨o, g, s⟩ := ho; ⟨o, S.eff _ _ g (.inr (.inl fun m => hne (List.mem_singleton.mp m))), s⟩).plain.isList⟩ (fun _ _ _ _ _ _ _ => trivial) ?_ ?_
  · rintro i v it h3 vs D P hi ⟨tk, rfl⟩ ⟨p1, t1, oa1, ovs1, vals1, rows1, w4, w5, w6, Dx, rfl, rfl, rfl, hco, hok1, hp1, hlen1, po1, hO⟩ S
    have hi : i < 2 * n := hi
    have nli : lst ≠ it := S.ne (p := (lst, .lst vals1)) (by simp)
    have hvl : vals1.length = rows1.length := P_len S.p
    have hol : ovs1.length = rows1.length := by rw [P_len po1, List.length_map]
    refine A_name (N_store S 4 rfl (own _ (by simp)) fun h4 S => ?_)
    -- house
    refine S_next (S_assign (E_call (E_global S (by rfl) (by rfl) (gf_house l) (K_pos (kp_house l) (A_cons (E_name S 1 rfl rfl (A_cons (E_name S 2 rfl rfl (A_nil ⟨S.okh, ?_⟩)))))))))
    refine law_house l (rm'.less (by omega)) S.okh hp1.1.asc (by have := hp1.2; omega) hn fun h5 t5 e5 => ?_
    have S := S.step e5
    refine N_store S 5 rfl (own _ (by simp)) fun h6 S => ⟨rfl, ?_⟩
    -- there
    refine S_next (S_comp (own := ["other", "value"]) (fr := ["house", "name"]) (compOk_of (by decide +kernel)) (all2 (by rfl) (by rfl)) (by rfl) ?_)
    have ti6 := ti.eff hl S.eff
    refine E_meth (E_name S 0 rfl rfl (M_inst S.okh (cls_ok l) ti6 (fi_items l) (if_items l) (hm_no lst (by decide +kernel)) (K_pos (kp_items l) (A_nil ⟨S.okh, ?_⟩))))
    refine items l (rm'.less (by omega)) S.okh ti6 (S.get (j := 0) rfl) (by omega) fun ia h7 n7 e7 g7 => ?_
    have S := S.step e7
    have hia := g7.plain.isList
    refine Comp_use (It.list ia vals1) (own := ["other", "value"]) (fr := ["house", "name"]) (fvs := [some (.str (T (hs (Hn n p1))) t5), some (.str (T p1) t1)]) 6 rfl (own _ (by simp)) rm'.1 (by rw [sizeLine_eq]; omega) S (compOk_of (by decide +kernel)) (all2 ⟨by simp, by show (fdAt a_come).scope.names.lookup _ ≠ _; decide +kernel⟩ ⟨by simp, by show (fdAt a_come).scope.names.lookup _ ≠ _; decide +kernel⟩) (fv2 5 1 rfl rfl rfl rfl) hia hia
      (fun i ys P1 => Paired Strv ys (((rows1.take i).filter fun r => decide (r.2 = hs (Hn n p1)) && decide (low r.1 ≠ low p1)).map (·.1)) ∧ P1 = fun h => Rows h vals1 rows1) ⟨.nil, rfl⟩ ?_ ?_ ?_
    · rintro i ys P1 ⟨pp, _⟩
      rw [P_len pp, List.length_map]
      refine Nat.le_trans (List.length_filter_le _ _) ?_
      rw [List.length_take]; omega
    · rintro i v acc it C h8 ys P1 hi hv ⟨pp, rfl⟩ hacc S
      obtain ⟨r, er, a, tn, tt, rfl, ht⟩ := P_get S.p i v hv
      have hrok := hok1 r (List.mem_of_getElem? er)
      have et : rows1.take (i + 1) = rows1.take i ++ [r] := by rw [List.take_add_one, er]; rfl
      refine A_tup2 rm'.1 ht fun h9 e9 => ?_
      have S := S.step e9
      refine A_name (N_store S 0 rfl (.inl (by rfl)) fun h10 S => A_name (N_store S 1 rfl (.inl (by rfl)) fun h11 S => tests1 (T_bool (T_and (T_cmp (E_name S 1 rfl rfl (E_name S 2 rfl rfl (C_eqs (B_bool (ifd (fun hc1 => ?_) fun hc1 => ?_))))))))))
      · refine T_and (T_cmp (E_lower (E_name S 0 rfl rfl ⟨r.1, tn, rfl, hrok.1.1.asc, by have := hrok.1.2; omega, S.okh, fun t12 => E_lower (E_name S 3 rfl rfl ⟨p1, t1, rfl, hp1.1.asc, by have := hp1.2; omega, S.okh, fun t13 => C_nes (B_bool (ifd (fun hc2 => ?_) fun hc2 => ?_))⟩)⟩)))
        · refine T_and0 ?_
          show W c A' (eval _ _) _ _
          refine E_name S 0 rfl rfl ⟨_, _, (Keepv.set .refl rfl).set rfl, ⟨?_, rfl⟩, S⟩
          rw [et, List.filter_append, List.map_append]
          refine P_app pp ?_
          simp only [List.filter_cons, List.filter_nil, hc1, hc2, ne_eq, not_false_eq_true, decide_true, Bool.and_self, if_true, List.map_cons, List.map_nil]
          exact .cons ⟨tn, rfl⟩ .nil
        · refine ⟨_, _, (Keepv.set .refl rfl).set rfl, ⟨?_, rfl⟩, S⟩
          rw [et, List.filter_append, List.map_append]
          have hc2 : low r.1 = low p1 := Classical.byContradiction hc2
          simpa [hc2] using pp
      · refine ⟨_, _, (Keepv.set .refl rfl).set rfl, ⟨?_, rfl⟩, S⟩
        rw [et, List.filter_append, List.map_append]
        simpa [hc1] using pp
    rintro h8 ta tvs P1 ⟨pt, rfl⟩ S
    refine ⟨rfl, ?_⟩
    rw [List.take_of_length_le (by omega)] at pt
    have pt : Paired Strv tvs (found (Hn n) rows1 p1) := pt
    -- home[name] = house
    have hsc : Clean (hs (Hn n p1)) := fun c m => by
      have : Hn n p1 < n := Nat.mod_lt _ hn.1
      unfold hs at m
      rw [List.mem_singleton.mp m]; omega
    refine S_next (S_setitem (E_name S 5 rfl rfl (E_name S 0 rfl rfl (E_name S 1 rfl rfl (D_set S.okh (ti.eff hl S.eff) (cls_noSeq l) (fi_set l) (if_set l) ?_)))))
    refine setitem l (rm'.less (by omega)) S.okh (ti.eff hl S.eff) lo (S.get (j := 0) rfl) S.p (fun r m => (hok1 r m).2) (by omega) hp1.1 (by have := hp1.2; omega) hsc (by simp [hs]) fun vals2 h9 e9 g9 r9 => ⟨rfl, ?_⟩
    have S := (S.upd (j := 0) (b' := .lst vals2) rfl e9 g9).less (F := fun h => Rows h vals2 (rest rows1 p1 ++ [(p1, hs (Hn n p1))])) r9 fun _ _ _ e x => x.eff e
    -- order
    have hOn := hO h9 _ _ ([(it, .raw (riter (i + 1 : Nat) ((2 * n : Nat) - (i + 1 : Nat) : Int)))] ++ [(ta, .lst tvs)]) _ (by simpa [List.append_assoc] using S)
    refine S_next (S_assign (E_bin ?_))
    refine E_comp (own := ["other"]) (fr := ["name"]) (compOk_of (by decide +kernel)) (all1 (by rfl)) ?_
    refine E_name S 3 rfl rfl ?_
    refine Comp_val (It.list oa1 ovs1) (own := ["other"]) (fr := ["name"]) (fvs := [some (.str (T p1) t1)]) rm'.1 (by rw [sizeLine_eq]; omega) S (compOk_of (by decide +kernel)) (all1 ⟨by simp, by show (fdAt a_come).scope.names.lookup _ ≠ _; decide +kernel⟩) (fv1 1 rfl rfl) hOn hOn
      (fun i ys P1 => Paired Strv ys (((rows1.map (·.1)).take i).filter fun o => decide (low o ≠ low p1)) ∧ P1 = fun h => Rows h vals2 (rest rows1 p1 ++ [(p1, hs (Hn n p1))])) ⟨.nil, rfl⟩ ?_ ?_ ?_
    · rintro i ys P1 ⟨pp, _⟩
      rw [P_len pp]
      refine Nat.le_trans (List.length_filter_le _ _) ?_
      rw [List.length_take]; omega
    · rintro i v acc it C h10 ys P1 hi hv ⟨pp, rfl⟩ hacc S
      obtain ⟨o, eo, to, rfl⟩ := P_get po1 i v hv
      have hoo : NmOk o := by
        obtain ⟨r, mr, e⟩ := List.mem_map.mp (List.mem_of_getElem? eo)
        rw [← e]; exact (hok1 r mr).1
      have et : (rows1.map (·.1)).take (i + 1) = (rows1.map (·.1)).take i ++ [o] := by rw [List.take_add_one, eo]; rfl
      refine A_name (N_store S 0 rfl (.inl (by rfl)) fun h11 S => tests1 (T_cmp (E_lower (E_name S 0 rfl rfl ⟨o, to, rfl, hoo.1.asc, by have := hoo.2; omega, S.okh, fun t12 => E_lower (E_name S 1 rfl rfl ⟨p1, t1, rfl, hp1.1.asc, by have := hp1.2; omega, S.okh, fun t13 => C_nes (B_bool (ifd (fun hc2 => ?_) fun hc2 => ?_))⟩)⟩))))
      · refine E_name S 0 rfl rfl ⟨_, _, .set .refl rfl, ⟨?_, rfl⟩, S⟩
        rw [et, List.filter_append]
        refine P_app pp ?_
        simp only [List.filter_cons, List.filter_nil, hc2, ne_eq, not_false_eq_true, decide_true, if_true]
        exact .cons ⟨to, rfl⟩ .nil
      · refine ⟨_, _, .set .refl rfl, ⟨?_, rfl⟩, S⟩
        rw [et, List.filter_append]
        have hc2 : low o = low p1 := Classical.byContradiction hc2
        simpa [hc2] using pp
    rintro h10 fa fvs P1 ⟨pf, rfl⟩ S
    rw [List.take_of_length_le (by simp; omega), filt_names] at pf
    have hfl : fvs.length ≤ 50 := by
      rw [P_len pf, List.length_map]
      refine Nat.le_trans (List.length_filter_le _ _) ?_
      omega
    refine E_list (A_cons (E_name S 1 rfl rfl (A_nil ⟨by rw [sizeLine_eq]; simp, fun ga h11 n11 e11 g11 => ?_⟩)))
    have S := S.step e11
    refine O_addl (S.mem (a := fa) (b := .lst fvs) (by simp)).plain g11.plain (by simp; omega) fun na h12 n12 e12 g12 => ?_
    have S := S.enter e12 n12 g12
    have pna : Paired Strv (fvs ++ [Value.str (T p1) t1]) ((rest rows1 p1 ++ [(p1, hs (Hn n p1))]).map (·.1)) := by
      rw [List.map_append]; exact P_snoc pf ⟨t1, rfl⟩
    have nel : na ≠ lst := fun e => S.ne (p := (lst, .lst vals2)) (by simp) e.symm
    have nei : na ≠ it := fun e => S.ne (p := (it, .raw (riter (i + 1 : Nat) ((2 * n : Nat) - (i + 1 : Nat) : Int)))) (by simp) e.symm
    have nz : h.get? na = none := (S.newD (na, .lst (fvs ++ [Value.str (T p1) t1])) (by simp)).2.resolve_right fun m => nel (List.mem_singleton.mp m)
    refine N_store S 3 rfl (own _ (by simp)) fun h13 S => ⟨rfl, ?_⟩
    refine S_cons (S_if (T_cmp (E_name S 6 rfl rfl (E_list (A_nil ⟨by decide, fun em h14 n14 e14 g14 => ?_⟩)))))
    have S := S.step e14
    have hta := S.mem (a := ta) (b := .lst tvs) (by simp)
    refine C_eql eqr_str (by have := rm'.2.2; omega) hta.plain.isList g14.plain.isList pt .nil (B_bool (ifd (fun hc => ?_) fun hc => ?_))
    · -- nobody is there
      have ec : comeL (Hn n) (2 * n) 0 p rows = (i + 1, rest rows1 p1 ++ [(p1, hs (Hn n p1))]) := by
        rw [← hco, show 2 * n - i = (2 * n - i - 1) + 1 by omega, comeL, hc]
      refine S_cons (S_ret (E_tup (A_cons (E_bin (E_name S 4 rfl rfl (E_lit fun _ => O_add fun t15 => A_cons (E_name S 3 rfl rfl (A_nil ⟨by rw [sizeLine_eq]; simp, fun tup h15 n15 e15 g15 => ?_⟩)))))))) 
      have S := S.step e15
      refine ⟨_, rfl, ?_⟩
      rw [ec] at q
      exact q tup na (fvs ++ [Value.str (T p1) t1]) vals2 t15 h15 S.eff g15 nz (S.mem (by simp)) pna (S.mem (by simp)) S.p nel
    · refine S_nil ?_
      cases hfd : found (Hn n) rows1 p1 with
      | nil => exact absurd hfd hc
      | cons o os =>
        rw [hfd] at pt
        obtain ⟨tv0, tvr, rfl, to, rfl⟩ : ∃ v r, tvs = v :: r ∧ Strv v o := by
          cases pt with
          | cons hd tl => exact ⟨_, _, rfl, hd⟩
        have hoin : ∃ r ∈ rows1, r.1 = o := by
          have : o ∈ found (Hn n) rows1 p1 := by rw [hfd]; simp
          obtain ⟨r, mr, e⟩ := List.mem_map.mp this
          exact ⟨r, (List.mem_filter.mp mr).1, e⟩
        have hoo : NmOk o := by obtain ⟨r, mr, e⟩ := hoin; rw [← e]; exact (hok1 r mr).1
        refine S_next (S_assign (E_swapcase (E_sub (E_name S 6 rfl rfl (E_lit fun _ => X_list hta.plain.isList (by decide) rfl ⟨o, to, rfl, hoo.1.asc, by have := hoo.2; omega, S.okh, fun t16 => ?_⟩)))))
        refine N_store S 1 rfl (own _ (by simp)) fun h16 S => ⟨rfl, S_nil ?_⟩
        have S := S.pick (D' := [(lst, .lst vals2), (na, .lst (fvs ++ [Value.str (T p1) t1])), (it, .raw (riter (i + 1 : Nat) ((2 * n : Nat) - (i + 1 : Nat) : Int)))]) (by
          intro z m
          simp only [List.mem_cons, List.not_mem_nil, or_false] at m
          rcases m with rfl | rfl | rfl <;> simp) (by simp [nel, nei, nli, Ne.symm nel])
        refine ⟨_, [(lst, .lst vals2), (na, .lst (fvs ++ [Value.str (T p1) t1]))], _, ⟨swp o, t16, na, fvs ++ [Value.str (T p1) t1], vals2, rest rows1 p1 ++ [(p1, hs (Hn n p1))], some (.int (i : Nat) tk), some (.str (T (hs (Hn n p1))) t5), some (.ref ta), [(na, .lst (fvs ++ [Value.str (T p1) t1]))], rfl, rfl, rfl, ?_, ?_, ⟨clean_swp hoo.1, by rw [swp_len]; exact hoo.2⟩, ?_, pna, ?_⟩, S⟩
        · rw [← hco, show 2 * n - i = (2 * n - (i + 1)) + 1 by omega]
          conv => rhs; rw [comeL, hfd]
        · intro r m
          rcases List.mem_append.mp m with m | m
          · exact hok1 r (mem_rest.mp m).1
          · rw [List.mem_singleton.mp m]
            exact ⟨hp1, hp1.1, hsc, by have := hp1.2; show p1.length ≤ _; omega, by simp [hs]⟩
        · have := rest_len rows1 p1
          rw [List.length_append, List.length_singleton]
          omega
        · rintro h17 vs b Dy P S'
          exact (S'.mem (a := na) (b := .lst (fvs ++ [Value.str (T p1) t1])) (by simp)).plain.isList
  · rintro h3 vs D P ⟨p1, t1, oa1, ovs1, vals1, rows1, w4, w5, w6, Dx, rfl, rfl, rfl, hco, hok1, hp1, hlen1, po1, hO⟩ S
    rw [Nat.sub_self] at hco
    have hvl : vals1.length = rows1.length := P_len S.p
    have hol : ovs1.length = rows1.length := by rw [P_len po1, List.length_map]
    refine S_next (S_del (E_name S 0 rfl rfl (E_name S 1 rfl rfl (D_del S.okh (ti.eff hl S.eff) (cls_noSeq l) (fi_del_ l) (if_del_ l) ?_))))
    refine delitem l (rm'.less (by omega)) S.okh (ti.eff hl S.eff) lo (S.get (j := 0) rfl) S.p (fun r m => (hok1 r m).2) (by omega) hp1.1 (by have := hp1.2; omega) fun vals2 h9 e9 g9 r9 => ⟨rfl, ?_⟩
    have S := (S.upd (j := 0) (b' := .lst vals2) rfl e9 g9).less (F := fun h => Rows h vals2 (rest rows1 p1)) r9 fun _ _ _ e x => x.eff e
    have hOn := hO h9 _ _ [] _ (by simpa using S)
    refine S_cons (S_ret (E_tup (A_cons (E_lit fun t4 => A_cons ?_))))
    refine E_comp (own := ["other"]) (fr := ["name"]) (compOk_of (by decide +kernel)) (all1 (by rfl)) ?_
    refine E_name S 3 rfl rfl ?_
    refine Comp_val (It.list oa1 ovs1) (own := ["other"]) (fr := ["name"]) (fvs := [some (.str (T p1) t1)]) rm'.1 (by rw [sizeLine_eq]; omega) S (compOk_of (by decide +kernel)) (all1 ⟨by simp, by show (fdAt a_come).scope.names.lookup _ ≠ _; decide +kernel⟩) (fv1 1 rfl rfl) hOn hOn
      (fun i ys P1 => Paired Strv ys (((rows1.map (·.1)).take i).filter fun o => decide (low o ≠ low p1)) ∧ P1 = fun h => Rows h vals2 (rest rows1 p1)) ⟨.nil, rfl⟩ ?_ ?_ ?_
    · rintro i ys P1 ⟨pp, _⟩
      rw [P_len pp]
      refine Nat.le_trans (List.length_filter_le _ _) ?_
      rw [List.length_take]; omega
    · rintro i v acc it C h10 ys P1 hi hv ⟨pp, rfl⟩ hacc S
      obtain ⟨o, eo, to, rfl⟩ := P_get po1 i v hv
      have hoo : NmOk o := by
        obtain ⟨r, mr, e⟩ := List.mem_map.mp (List.mem_of_getElem? eo)
        rw [← e]; exact (hok1 r mr).1
      have et : (rows1.map (·.1)).take (i + 1) = (rows1.map (·.1)).take i ++ [o] := by rw [List.take_add_one, eo]; rfl
      refine A_name (N_store S 0 rfl (.inl (by rfl)) fun h11 S => tests1 (T_cmp (E_lower (E_name S 0 rfl rfl ⟨o, to, rfl, hoo.1.asc, by have := hoo.2; omega, S.okh, fun t12 => E_lower (E_name S 1 rfl rfl ⟨p1, t1, rfl, hp1.1.asc, by have := hp1.2; omega, S.okh, fun t13 => C_nes (B_bool (ifd (fun hc2 => ?_) fun hc2 => ?_))⟩)⟩))))
      · refine E_name S 0 rfl rfl ⟨_, _, .set .refl rfl, ⟨?_, rfl⟩, S⟩
        rw [et, List.filter_append]
        refine P_app pp ?_
        simp only [List.filter_cons, List.filter_nil, hc2, ne_eq, not_false_eq_true, decide_true, if_true]
        exact .cons ⟨to, rfl⟩ .nil
      · refine ⟨_, _, .set .refl rfl, ⟨?_, rfl⟩, S⟩
        rw [et, List.filter_append]
        have hc2 : low o = low p1 := Classical.byContradiction hc2
        simpa [hc2] using pp
    rintro h10 na nvs P1 ⟨pf, rfl⟩ S
    rw [List.take_of_length_le (by simp; omega), filt_names] at pf
    have nel : na ≠ lst := fun e => S.ne (p := (lst, .lst vals2)) (by simp) e.symm
    have nz : h.get? na = none := (S.newD (na, .lst nvs) (by simp)).2.resolve_right fun m => nel (List.mem_singleton.mp m)
    refine A_nil ⟨by rw [sizeLine_eq]; simp, fun tup h15 n15 e15 g15 => ?_⟩
    have S := S.step e15
    refine ⟨_, rfl, ?_⟩
    rw [← hco] at q
    exact q tup na nvs vals2 t4 h15 S.eff g15 nz (S.mem (by simp)) pf (S.mem (by simp)) S.p nel
end Mine
end

section
open PySem PySem.W PyProof.Rows PySem.Calls
set_option Elab.async false
set_option linter.unusedVariables false
set_option linter.unusedSimpArgs false
set_option maxRecDepth 4000
namespace Mine
/-! ## the law: what holds behind each name -/
abbrev lawNs : List Str := ["script", "row", "houses", "home", "order", "lots", "come", "rows", "number", "name", "first", "second", "lot", "full", "before", "goings", "kept"]
noncomputable abbrev lawEnv (h : Heap) : Env := callEnvC (fdAt a_law) h.objs.size a_law
noncomputable abbrev loopB : List Stmt := match (bodyOf (fdAt a_law))[7]? with
  | some (Stmt.For _ _ b _ _) => b
  | _ => []
def tblD3 (x d lst : Addr) (vals : List Value) : List (Addr × Ob) := [(x, .raw (instObj a_cls d)), (d, .ns (hm lst)), (lst, .lst vals)]
def comesOf (n : Nat) (names : List (List Nat)) : List Cm := names.map fun a => (a, Hn n a, Hn n (upp a))
structure MI (n : Nat) (lots : List Nat) (names : List (List Nat)) (rows : List Row) (f : Pm) : Prop where
  hn : 3 ≤ n ∧ n ≤ 6
  nd : names.Nodup
  nm : ∀ a ∈ names, Nm a
  li : LI n lots (names.map (Hn n)) f
  fr : FR (Hn n) rows f
  ri : RI (Hn n) names rows
  len : names.length ≤ 10
theorem Hn_lt {n : Nat} (h : 3 ≤ n) (x : List Nat) : Hn n x < n := Nat.mod_lt _ (by omega)
theorem MI.rows_len {n : Nat} {lots : List Nat} {names : List (List Nat)} {rows : List Row} {f : Pm} (I : MI n lots names rows f) : rows.length ≤ n := by
  have nd : (rows.map fun r => Hn n r.1).Nodup := by
    have := I.ri.dist
    have e : rows.map (·.2) = (rows.map fun r => Hn n r.1).map hs := by
      rw [List.map_map]; exact List.map_congr_left fun r m => I.ri.house r m
    rw [e] at this
    exact nodup_of_map this
  have := nodup_sub (l := List.range n) nd fun x m => by
    obtain ⟨r, _, e⟩ := List.mem_map.mp m
    rw [← e]; exact List.mem_range.mpr (Hn_lt I.hn.1 _)
  simpa using this
theorem MI.row_ok {n : Nat} {lots : List Nat} {names : List (List Nat)} {rows : List Row} {f : Pm} (I : MI n lots names rows f) : ∀ r ∈ rows, NmOk r.1 ∧ RowOk r := fun r m => by
  obtain ⟨a, _, na, e⟩ := I.ri.spell r m
  have h1 : NmOk r.1 := by
    rcases e with e | e
    · rw [e]; exact ⟨na.asc, na.2⟩
    · rw [e]
      refine ⟨fun c mc => ?_, by have := na.2; unfold upp; simpa using this⟩
      obtain ⟨d, hd, rfl⟩ := List.mem_map.mp mc
      have := na.asc d hd
      unfold up1
      split <;> omega
  have h2 := I.ri.house r m
  have h3 := Hn_lt I.hn.1 r.1
  have hn := I.hn.2
  exact ⟨h1, h1.1, by rw [h2]; intro c mc; unfold hs at mc; rw [List.mem_singleton.mp mc]; omega, by have := h1.2; omega, by rw [h2]; simp [hs]⟩
theorem cnt_comes (n : Nat) (lots : List Nat) (names : List (List Nat)) (L : Nat) : ((comesOf n names).filter fun z => decide (lotOf lots z.2.1 = L)).length = cnt lots (names.map (Hn n)) L := by
  unfold cnt comesOf
  rw [List.filter_map, List.filter_map, List.length_map, List.length_map]; rfl
/-- the last loop of a turn: each lot keeps as many as there can be -/
theorem turn_lots {c : Cx} (l : Lw c) {A' : Around} (rm' : Rm A' 4) {h h1 : Heap} {la ca wa : Addr} {lvs cvs wvs : List Value} {n : Nat} {lots : List Nat} {names : List (List Nat)} {rows : List Row} {f : Pm} {D : List (Addr × Ob)} {v0 v1 v2 v3 v4 w8 w9 w10 w11 w12 w13 w14 w15 w16 : Option Value} {V : List Addr} {P : Heap → Prop}
    (I : MI n lots names rows f) (hl : Nats lvs lots) (ml : (la, Ob.lst lvs) ∈ D) (mc : (ca, Ob.lst cvs) ∈ D) (mw : (wa, Ob.lst wvs) ∈ D) (hP : ∀ h, P h → Rows h wvs rows ∧ Comes h cvs (comesOf n names)) {R : Flow → Heap → Prop}
    (fin : ∀ h2 u12 u16, St c h V h2 (lawEnv h) lawNs [v0, v1, v2, v3, v4, some (.ref la), some (.ref ca), some (.ref wa), w8, w9, w10, w11, u12, w13, w14, w15, u16] D P → R .next h2)
    (S : St c h V h1 (lawEnv h) lawNs [v0, v1, v2, v3, v4, some (.ref la), some (.ref ca), some (.ref wa), w8, w9, w10, w11, w12, w13, w14, w15, w16] D P) :
    W c A' (execs (loopB.drop 13) (lawEnv h)) R h1 := by
  have own := ow_law h
  have hlv : lvs.length = lots.length := P_len hl
  have hln := I.li.len
  have hn6 := I.hn
  have hrl := I.rows_len
  refine S_next (S_for (E_name S 5 rfl rfl ?_))
  refine F_loop (It.list la lvs) rm'.1 (fun i vs D1 P1 => ∃ u12 u16, vs = [v0, v1, v2, v3, v4, some (.ref la), some (.ref ca), some (.ref wa), w8, w9, w10, w11, u12, w13, w14, w15, u16] ∧ D = D1 ∧ P = P1) S (S.mem ml).plain.isList ⟨w12, w16, rfl, rfl, rfl⟩ ?_ ?_ ?_
  · rintro i h vs D1 P1 ⟨_, _, rfl, rfl, rfl⟩ S; exact (S.mem ml).plain.isList
  · rintro i v it h2 vs D1 P1 hi hv ⟨u12, u16, rfl, rfl, rfl⟩ S
    obtain ⟨L, eL, tL, rfl⟩ := P_get hl i v hv
    have mL := List.mem_of_getElem? eL
    have hwl : wvs.length = rows.length := P_len (hP _ S.p).1
    have hcl : cvs.length = names.length := by rw [P_len (hP _ S.p).2]; simp [comesOf]
    have hlen := I.len
    refine A_name (N_store S 12 rfl (own _ (by simp)) fun h3 S => ?_)
    -- kept
    refine S_next (S_assign (E_call (E_builtin S (by rfl) (by rfl) (by rfl) (gb_len l) (v := .builtin "len") (by decide +kernel) (by decide +kernel) (K_pos (.inr (.inr ⟨_, rfl⟩)) (A_cons ?_)))))
    refine E_comp (own := ["other", "value"]) (fr := ["lot", "lots"]) (compOk_of (by decide +kernel)) (all2 (by rfl) (by rfl)) ?_
    refine E_name S 7 rfl rfl ?_
    have ml3 := (S.mem (List.mem_append_left _ ml)).plain.isList
    have mw3 := (S.mem (List.mem_append_left _ mw)).plain.isList
    refine Comp_val (It.list wa wvs) (own := ["other", "value"]) (fr := ["lot", "lots"]) (fvs := [some (.int (L : Nat) tL), some (.ref la)]) rm'.1 (by rw [sizeLine_eq]; omega) S (compOk_of (by decide +kernel)) (all2 ⟨by simp, by show (fdAt a_law).scope.names.lookup _ ≠ _; decide +kernel⟩ ⟨by simp, by show (fdAt a_law).scope.names.lookup _ ≠ _; decide +kernel⟩) (fv2 12 5 rfl rfl rfl rfl) mw3 mw3
      (fun i ys P2 => ys.length = ((rows.take i).filter fun r => decide (lotOf lots (Hn n r.1) = L)).length ∧ P = P2) ⟨rfl, rfl⟩ ?_ ?_ ?_
    · rintro i ys P2 ⟨e, _⟩
      rw [e]
      refine Nat.le_trans (List.length_filter_le _ _) ?_
      rw [List.length_take]; omega
    · rintro j w acc it2 C h4 ys P2 hj hw ⟨ey, rfl⟩ hacc S
      obtain ⟨r, er, a, tn, tt, rfl, ht⟩ := P_get (hP _ S.p).1 j w hw
      have hr := I.ri.house r (List.mem_of_getElem? er)
      have hlt := Hn_lt hn6.1 r.1
      have et : rows.take (j + 1) = rows.take j ++ [r] := by rw [List.take_add_one, er]; rfl
      obtain ⟨lr, elr, tlr, evr⟩ := P_get hl (Hn n r.1) lvs[Hn n r.1] (List.getElem?_eq_getElem (by omega))
      have hlr : lotOf lots (Hn n r.1) = lr := by unfold lotOf; rw [List.getD_eq_getElem?_getD, elr]; rfl
      refine A_tup2 rm'.1 ht fun h5 e5 => ?_
      have S := S.step e5
      refine A_name (N_store S 0 rfl (.inl (by rfl)) fun h6 S => A_name (N_store S 1 rfl (.inl (by rfl)) fun h7 S => tests1 (T_cmp (E_sub (E_name S 3 rfl rfl ?_)))))
      have ml7 := isList_keep ml3 S.eff
      refine E_call (E_builtin S (by rfl) (by rfl) (by rfl) (gb_int l) (v := .type "int") (by decide +kernel) (by decide +kernel) (K_pos (.inr (.inl ⟨_, rfl⟩)) (A_cons (E_name S 1 rfl rfl (A_nil ⟨S.okh, ?_⟩)))))
      rw [hr]
      refine F_intd (by omega) fun t8 => X_list ml7 (by omega) (List.getElem?_eq_getElem (by omega)) ?_
      rw [evr]
      refine E_name S 2 rfl rfl (C_eq (B_bool (ifd (fun hc => ?_) fun hc => ?_)))
      · refine E_name S 1 rfl rfl ⟨_, _, (Keepv.set .refl rfl).set rfl, ⟨?_, rfl⟩, S⟩
        rw [et, List.filter_append, List.length_append, List.length_append, ey, List.filter_cons, if_pos (by rw [hlr]; exact decide_eq_true hc)]
        rfl
      · refine ⟨_, _, (Keepv.set .refl rfl).set rfl, ⟨?_, rfl⟩, S⟩
        rw [et, List.filter_append, List.length_append, ey, List.filter_cons, if_neg (by rw [hlr]; simpa using hc)]
        rfl
    rintro h4 ka kvs P2 ⟨ek, rfl⟩ S
    rw [List.take_of_length_le (by omega)] at ek
    have ek : kvs.length = keptN (Hn n) lots rows L := ek
    have hk := kept_min (Hn_lt hn6.1) I.ri I.fr I.li mL
    have hk8 : kvs.length ≤ 100 := by rw [ek]; unfold keptN; exact Nat.le_trans (List.length_filter_le _ _) (by omega)
    refine A_nil ⟨S.okh, F_lenl S.atLast.plain.isList (by omega) fun t9 => N_store S 16 rfl (own _ (by simp)) fun h5 S => ⟨rfl, ?_⟩⟩
    have S := S.forget (List.sublist_append_left _ _)
    -- if kept != min(..)
    refine S_next (S_if (T_cmp (E_name S 16 rfl rfl (E_call (E_builtin S (by rfl) (by rfl) (by rfl) (gb_min l) (v := .builtin "min") (by decide +kernel) (by decide +kernel) (K_pos (.inr (.inr ⟨_, rfl⟩)) (A_cons ?_)))))))
    refine E_count (E_name S 5 rfl rfl ⟨la, rfl, ⟨_, (S.mem (List.mem_append_left _ ml)).plain⟩, E_name S 12 rfl rfl ⟨S.okh, L, tL, lvs, lots, rfl, (S.mem (List.mem_append_left _ ml)).plain, hl, fun t10 => ?_⟩⟩)
    refine A_cons (E_call (E_builtin S (by rfl) (by rfl) (by rfl) (gb_len l) (v := .builtin "len") (by decide +kernel) (by decide +kernel) (K_pos (.inr (.inr ⟨_, rfl⟩)) (A_cons ?_))))
    refine E_comp (own := ["one"]) (fr := ["lot", "lots"]) (compOk_of (by decide +kernel)) (all2 (by rfl) (by rfl)) ?_
    refine E_name S 6 rfl rfl ?_
    have ml5 := (S.mem (List.mem_append_left _ ml)).plain.isList
    have mc5 := (S.mem (List.mem_append_left _ mc)).plain.isList
    refine Comp_val (It.list ca cvs) (own := ["one"]) (fr := ["lot", "lots"]) (fvs := [some (.int (L : Nat) tL), some (.ref la)]) rm'.1 (by rw [sizeLine_eq]; omega) S (compOk_of (by decide +kernel)) (all2 ⟨by simp, by show (fdAt a_law).scope.names.lookup _ ≠ _; decide +kernel⟩ ⟨by simp, by show (fdAt a_law).scope.names.lookup _ ≠ _; decide +kernel⟩) (fv2 12 5 rfl rfl rfl rfl) mc5 mc5
      (fun i ys P2 => ys.length = (((comesOf n names).take i).filter fun z => decide (lotOf lots z.2.1 = L)).length ∧ P = P2) ⟨rfl, rfl⟩ ?_ ?_ ?_
    · rintro i ys P2 ⟨e, _⟩
      rw [e]
      refine Nat.le_trans (List.length_filter_le _ _) ?_
      rw [List.length_take]; omega
    · rintro j w acc it2 C h6 ys P2 hj hw ⟨ey, rfl⟩ hacc S
      refine A_name (N_store S 0 rfl (.inl (by rfl)) fun h7 S => ?_)
      obtain ⟨z, ez, a, z1, z2, z3, rfl, ht⟩ := P_get (hP _ S.p).2 j w hw
      have hlt : z.2.1 < n := by
        obtain ⟨b, _, e⟩ := List.mem_map.mp (List.mem_of_getElem? ez)
        rw [← e]; exact Hn_lt hn6.1 _
      have et : (comesOf n names).take (j + 1) = (comesOf n names).take j ++ [z] := by rw [List.take_add_one, ez]; rfl
      obtain ⟨lr, elr, tlr, evr⟩ := P_get hl z.2.1 lvs[z.2.1] (List.getElem?_eq_getElem (by omega))
      have hlr : lotOf lots z.2.1 = lr := by unfold lotOf; rw [List.getD_eq_getElem?_getD, elr]; rfl
      have ml7 := isList_keep ml5 S.eff
      refine tests1 (T_cmp (E_sub (E_name S 2 rfl rfl (E_sub (E_name S 0 rfl rfl (E_lit fun _ => X_tup ht (by decide) rfl (X_list ml7 (by omega) (List.getElem?_eq_getElem (by omega)) ?_)))))))
      rw [evr]
      refine E_name S 1 rfl rfl (C_eq (B_bool (ifd (fun hc => ?_) fun hc => ?_)))
      · refine E_name S 0 rfl rfl ⟨_, _, .set .refl rfl, ⟨?_, rfl⟩, S⟩
        rw [et, List.filter_append, List.length_append, List.length_append, ey, List.filter_cons, if_pos (by rw [hlr]; exact decide_eq_true hc)]
        rfl
      · refine ⟨_, _, .set .refl rfl, ⟨?_, rfl⟩, S⟩
        rw [et, List.filter_append, List.length_append, ey, List.filter_cons, if_neg (by rw [hlr]; simpa using hc)]
        rfl
    rintro h6 na nvs P2 ⟨en, rfl⟩ S
    rw [List.take_of_length_le (by simp [comesOf]; omega), cnt_comes] at en
    have hn8 : nvs.length ≤ 100 := by rw [en]; unfold cnt; exact Nat.le_trans (List.length_filter_le _ _) (by simp; omega)
    refine A_nil ⟨S.okh, F_lenl S.atLast.plain.isList (by omega) fun t11 => ?_⟩
    refine A_nil ⟨S.okh, F_min rm'.1 fun t12 h7 e7 => C_ne (B_bool ?_)⟩
    rw [decide_eq_false (by rw [ek, hk, en]; exact fun q => q rfl)]
    have S := (S.step e7).forget (List.sublist_append_left _ _)
    exact S_nil ⟨rfl, S_nil ⟨_, _, _, ⟨some (.int (L : Nat) tL), some (.int (kvs.length : Nat) t9), rfl, rfl, rfl⟩, S⟩⟩
  · rintro h2 vs D1 P1 ⟨u12, u16, rfl, rfl, rfl⟩ S
    exact ⟨rfl, S_nil (fin h2 _ _ S)⟩
end Mine
end

section
open PySem PySem.W PyProof.Rows PySem.Calls
set_option Elab.async false
set_option linter.unusedVariables false
set_option linter.unusedSimpArgs false
set_option maxRecDepth 4000
namespace Mine
theorem tiMem {c : Cx} {hb h : Heap} {V : List Addr} {env : Env} {ns : List Str} {vs : List (Option Value)} {D : List (Addr × Ob)} {P : Heap → Prop} {x d lst : Addr} (S : St c hb V h env ns vs D P)
    (hi : (x, Ob.raw (instObj a_cls d)) ∈ D) (hj : (d, Ob.ns (hm lst)) ∈ D) : TI h x d lst := Inst.of (S.mem hi) (S.mem hj)
theorem Rows.tup {h : Heap} {vs : List Value} {rows : List Row} (x : Rows h vs rows) : Paired (Tup2v h) vs rows := x
theorem M_tb {c : Cx} (l : Lw c) {A : Around} {h : Heap} (ok : Ok c h) {x d lst : Addr} (ti : TI h x d lst) {name : Str} {f : Addr} (hf : findIn c.K (.ref a_cls) name = some (some (.ref f))) (ht : isFn c.K (.ref f) = true) (hn : name ≠ "_headers") {pl : Sem Bool} {Q : Value × List Value → Heap → Prop} (q : Q (.ref f, [.ref x]) h) : W c A (getMethod (.ref x) name pl) Q h :=
  M_inst ok (cls_ok l) ti hf ht (hm_no lst hn) q
set_option maxHeartbeats 1000000 in
theorem turn_end {c : Cx} (l : Lw c) {A' : Around} (rm' : Rm A' 6) {h h1 : Heap} {x d lst oa la ca : Addr} {vals ovs lvs cvs : List Value} {n : Nat} {lots : List Nat} {names : List (List Nat)} {rows : List Row} {f : Pm} {D : List (Addr × Ob)} {v0 v1 v2 w7 w8 w9 w10 w11 w12 w13 w14 w15 w16 : Option Value} {V : List Addr} {P : Heap → Prop}
    (I : MI n lots names rows f) (hl : Nats lvs lots) (mx : (x, Ob.raw (instObj a_cls d)) ∈ D) (md : (d, Ob.ns (hm lst)) ∈ D) (mt : (lst, Ob.lst vals) ∈ D) (mo : (oa, Ob.lst ovs) ∈ D) (ml : (la, Ob.lst lvs) ∈ D) (mc : (ca, Ob.lst cvs) ∈ D)
    (po : Paired Strv ovs (rows.map (·.1))) (hP : ∀ h, P h → Rows h vals rows ∧ Comes h cvs (comesOf n names)) {R : Flow → Heap → Prop}
    (fin : ∀ h2 wa u12 u16, St c h V h2 (lawEnv h) lawNs [v0, v1, v2, some (.ref x), some (.ref oa), some (.ref la), some (.ref ca), some (.ref wa), w8, w9, w10, w11, u12, w13, w14, w15, u16] (D ++ [(wa, .lst vals)]) P → R .next h2)
    (S : St c h V h1 (lawEnv h) lawNs [v0, v1, v2, some (.ref x), some (.ref oa), some (.ref la), some (.ref ca), w7, w8, w9, w10, w11, w12, w13, w14, w15, w16] D P) :
    W c A' (execs (loopB.drop 10) (lawEnv h)) R h1 := by
  have own := ow_law h
  have hn6 := I.hn
  have hrl := I.rows_len
  have hlen := I.len
  have hvl : vals.length = rows.length := P_len (hP _ S.p).1
  have hol : ovs.length = rows.length := by rw [P_len po, List.length_map]
  have hcl : cvs.length = names.length := by rw [P_len (hP _ S.p).2]; simp [comesOf]
  have hdue : dueL (rows.map (·.1)) (comesOf n names) = rows := due_rows I.nd I.nm I.ri
  have hcome : ∀ z ∈ comesOf n names, Asc z.1 ∧ z.1.length ≤ 1000 ∧ z.2.1 < 10 ∧ z.2.2 < 10 := fun z m => by
    obtain ⟨a, ma, e⟩ := List.mem_map.mp m
    rw [← e]
    have h1 := Hn_lt hn6.1 a
    have h2 := Hn_lt hn6.1 (upp a)
    exact ⟨(I.nm a ma).asc.asc, by have := (I.nm a ma).2; show a.length ≤ 1000; omega, by show Hn n a < 10; omega, by show Hn n (upp a) < 10; omega⟩
  -- rows = home.items()
  refine S_next (S_assign (E_meth (E_name S 3 rfl rfl (M_tb l S.okh (tiMem S mx md) (fi_items l) (if_items l) (by decide +kernel) (K_pos (kp_items l) (A_nil ⟨S.okh, ?_⟩))))))
  refine items l (rm'.less (by omega)) S.okh (tiMem S mx md) (S.mem mt) (by omega) fun wa h2 n2 e2 g2 => ?_
  have S := S.enter e2 n2 g2
  refine N_store S 7 rfl (own _ (by simp)) fun h3 S => ⟨rfl, ?_⟩
  have mx := List.mem_append_left [(wa, Ob.lst vals)] mx
  have md := List.mem_append_left [(wa, Ob.lst vals)] md
  have mt := List.mem_append_left [(wa, Ob.lst vals)] mt
  have mo := List.mem_append_left [(wa, Ob.lst vals)] mo
  have ml := List.mem_append_left [(wa, Ob.lst vals)] ml
  have mc := List.mem_append_left [(wa, Ob.lst vals)] mc
  have mw : (wa, Ob.lst vals) ∈ D ++ [(wa, Ob.lst vals)] := List.mem_append_right _ (by simp)
  have fin := fun h2 u12 u16 => fin h2 wa u12 u16
  generalize D ++ [(wa, Ob.lst vals)] = D at *
  -- the list, its halves
  refine S_next (S_if (T_bool (T_or (T_cmp (E_name S 7 rfl rfl (E_call (E_global S (by rfl) (by rfl) (gf_due l) (K_pos (kp_due l) (A_cons (E_name S 4 rfl rfl (A_cons (E_name S 6 rfl rfl (A_nil ⟨S.okh, ?_⟩)))))))))))))
  refine law_due l (rm'.less (by omega)) S.okh (S.mem mo).plain.isList po (S.mem mc).plain.isList (hP _ S.p).2 hcome (by simp; omega) (by simp [comesOf]; omega) fun da dvs h4 e4 n4 g4 r4 => ?_
  rw [hdue] at r4
  have S := S.step e4
  refine C_nel (eqr_tup2 (h := h4) (by have := rm'.2.2; show A'.units + 1 + 1 < _; omega)) (by have := rm'.2.2; omega) (S.mem mw).plain.isList g4.plain.isList (hP _ S.p).1.tup r4.tup (B_bool ?_)
  rw [show decide (rows ≠ rows) = false by simp]
  refine T_or (T_cmp (E_meth (E_name S 3 rfl rfl (M_tb l S.okh (tiMem S mx md) (fi_keys l) (if_keys l) (by decide +kernel) (K_pos (kp_keys l) (A_nil ⟨S.okh, ?_⟩))))))
  refine keys l (rm'.less (by omega)) S.okh (tiMem S mx md) (S.mem mt) (hP _ S.p).1 (by omega) fun ka kvs h5 e5 n5 g5 pk => ?_
  have S := S.step e5
  refine E_name S 4 rfl rfl (C_nel eqr_str (by have := rm'.2.2; omega) g5.plain.isList (S.mem mo).plain.isList pk po (B_bool ?_))
  rw [show decide (rows.map (·.1) ≠ rows.map (·.1)) = false by simp]
  refine T_or (T_cmp (E_meth (E_name S 3 rfl rfl (M_tb l S.okh (tiMem S mx md) (fi_values l) (if_values l) (by decide +kernel) (K_pos (kp_values l) (A_nil ⟨S.okh, ?_⟩))))))
  refine values l (rm'.less (by omega)) S.okh (tiMem S mx md) (S.mem mt) (hP _ S.p).1 (by omega) fun va vvs h6 e6 n6 g6 pv => ?_
  have S := S.enter e6 n6 g6
  refine E_comp (own := ["other", "value"]) (fr := []) (compOk_of (by decide +kernel)) all0 ?_
  refine E_name S 7 rfl rfl ?_
  have mw6 := (S.mem (List.mem_append_left _ mw)).plain.isList
  refine Comp_val (It.list wa vals) (own := ["other", "value"]) (fr := []) (fvs := []) rm'.1 (by rw [sizeLine_eq]; omega) S (compOk_of (by decide +kernel)) all0 fv0 mw6 mw6
    (fun i ys P2 => (Paired Strv ys ((rows.take i).map (·.2))) ∧ P = P2) ⟨.nil, rfl⟩ ?_ ?_ ?_
  · rintro i ys P2 ⟨p, _⟩
    rw [P_len p, List.length_map, List.length_take]; omega
  · rintro j w acc it2 C h7 ys P2 hj hw ⟨py, rfl⟩ hacc S
    obtain ⟨r, er, a, tn, tt, rfl, ht⟩ := P_get (hP _ S.p).1 j w hw
    refine A_tup2 rm'.1 ht fun h8 e8 => ?_
    have S := S.step e8
    refine A_name (N_store S 0 rfl (.inl (by rfl)) fun h9 S => A_name (N_store S 1 rfl (.inl (by rfl)) fun h10 S => tests0 ?_))
    show W c A' (eval _ _) _ _
    refine E_name S 1 rfl rfl ⟨_, _, (Keepv.set .refl rfl).set rfl, ⟨?_, rfl⟩, S⟩
    rw [List.take_add_one, er, List.map_append]
    exact P_snoc py ⟨tt, rfl⟩
  rintro h7 ya yvs P2 ⟨py, rfl⟩ S
  rw [List.take_of_length_le (by omega)] at py
  refine C_nel eqr_str (by have := rm'.2.2; omega) (S.mem (a := va) (b := .lst vvs) (by simp)).plain.isList S.atLast.plain.isList pv py (B_bool ?_)
  rw [show decide (rows.map (·.2) ≠ rows.map (·.2)) = false by simp]
  have S := (S.forget (List.sublist_append_left _ _)).forget (List.sublist_append_left _ _)
  refine T_or0 (S_nil ⟨rfl, ?_⟩)
  -- no name and no house stands twice
  refine S_next (S_if (T_bool (T_or (T_cmp (E_call (E_builtin S (by rfl) (by rfl) (by rfl) (gb_len l) (v := .builtin "len") (by decide +kernel) (by decide +kernel) (K_pos (.inr (.inr ⟨_, rfl⟩)) (A_cons ?_))))))))
  refine E_scomp (own := ["other", "value"]) (fr := []) (compOk_of (by decide +kernel)) all0 ?_
  refine E_name S 7 rfl rfl ?_
  have mw8 := (S.mem mw).plain.isList
  refine Comp_set (It.list wa vals) (own := ["other", "value"]) rm'.1 (by omega) S (compOk_of (by decide +kernel)) mw8 mw8 (rows.map (·.2)) (by simp [hvl]) I.ri.dist ?_ ?_
  · rintro i w acc it o C h9 hi hw hacc S
    obtain ⟨r, er, a, tn, tt, rfl, ht⟩ := P_get (hP _ S.p).1 i w hw
    refine A_tup2 rm'.1 ht fun h10 e10 => ?_
    have S := S.step e10
    refine A_name (N_store S 0 rfl (.inl (by rfl)) fun h11 S => A_name (N_store S 1 rfl (.inl (by rfl)) fun h12 S => ?_))
    exact E_name S 1 rfl rfl ⟨tt, r.2, _, rfl, by rw [List.getElem?_map, er]; rfl, S⟩
  intro h9 sa Sf ss S
  refine A_nil ⟨S.okh, F_lenset ss (by omega) fun t1 => ?_⟩
  refine E_call (E_builtin S (by rfl) (by rfl) (by rfl) (gb_len l) (v := .builtin "len") (by decide +kernel) (by decide +kernel) (K_pos (.inr (.inr ⟨_, rfl⟩)) (A_cons (E_name S 7 rfl rfl (A_nil ⟨S.okh, F_lenl (S.mem mw).plain.isList (by omega) fun t2 => C_ne (B_bool ?_)⟩)))))
  rw [decide_eq_false (fun q => q rfl)]
  refine T_or (T_cmp (E_call (E_builtin S (by rfl) (by rfl) (by rfl) (gb_len l) (v := .builtin "len") (by decide +kernel) (by decide +kernel) (K_pos (.inr (.inr ⟨_, rfl⟩)) (A_cons ?_)))))
  refine E_scomp (own := ["other"]) (fr := []) (compOk_of (by decide +kernel)) all0 ?_
  refine E_name S 4 rfl rfl ?_
  have mo10 := (S.mem mo).plain.isList
  refine Comp_set (It.list oa ovs) (own := ["other"]) rm'.1 (by omega) S (compOk_of (by decide +kernel)) mo10 mo10 (rows.map fun r => low r.1) (by simp [hol]) I.ri.keys ?_ ?_
  · rintro i w acc it o C h10 hi hw hacc S
    obtain ⟨z, ez, tz, rfl⟩ := P_get po i w hw
    obtain ⟨r, er, erz⟩ : ∃ r, rows[i]? = some r ∧ r.1 = z := by
      rw [List.getElem?_map] at ez
      cases q : rows[i]? with
      | none => rw [q] at ez; cases ez
      | some r => rw [q] at ez; cases ez; exact ⟨r, rfl, rfl⟩
    have hz := (I.row_ok r (List.mem_of_getElem? er)).1
    rw [erz] at hz
    refine A_name (N_store S 0 rfl (.inl (by rfl)) fun h11 S => ?_)
    exact E_lower (E_name S 0 rfl rfl ⟨z, tz, rfl, hz.1.asc, by have := hz.2; omega, S.okh, fun t3 => ⟨t3, low z, _, rfl, by rw [List.getElem?_map, er, ← erz]; rfl, S⟩⟩)
  intro h10 sb Sg sg S
  refine A_nil ⟨S.okh, F_lenset sg (by omega) fun t3 => ?_⟩
  refine E_call (E_builtin S (by rfl) (by rfl) (by rfl) (gb_len l) (v := .builtin "len") (by decide +kernel) (by decide +kernel) (K_pos (.inr (.inr ⟨_, rfl⟩)) (A_cons (E_name S 7 rfl rfl (A_nil ⟨S.okh, F_lenl (S.mem mw).plain.isList (by omega) fun t4 => C_ne (B_bool ?_)⟩)))))
  rw [decide_eq_false (by rw [hol, hvl]; exact fun q => q rfl)]
  refine T_or0 (S_nil ⟨rfl, ?_⟩)
  exact turn_lots l (rm'.less (by omega)) I hl ml mc mw hP fin S
end Mine
end

section
open PySem PySem.W PyProof.Rows PySem.Calls
set_option Elab.async false
set_option linter.unusedVariables false
set_option linter.unusedSimpArgs false
set_option maxRecDepth 4000
namespace Mine
theorem lot_get {lvs : List Value} {lots : List Nat} (hl : Nats lvs lots) {k : Nat} (hk : k < lots.length) : ∃ t, lvs[k]? = some (.int (lotOf lots k : Nat) t) := by
  have hlv : lvs.length = lots.length := P_len hl
  obtain ⟨lr, elr, tlr, evr⟩ := P_get hl k lvs[k] (List.getElem?_eq_getElem (by omega))
  have hlr : lotOf lots k = lr := by unfold lotOf; rw [List.getD_eq_getElem?_getD, elr]; rfl
  exact ⟨tlr, by rw [List.getElem?_eq_getElem (by omega), evr, hlr]⟩
set_option maxHeartbeats 1000000 in
theorem turn_grow {c : Cx} (l : Lw c) {A' : Around} (rm' : Rm A' 6) {h h1 : Heap} {ra x d lst oa0 la ca wa0 it oa : Addr} {rvs vals ovs0 lvs cvs wvs0 ovs : List Value} {ob : Ob} {n : Nat} {lots : List Nat} {names : List (List Nat)} {a : List Nat} {rows : List Row} {f : Pm} {v0 v1 v2 w8 w12 w13 w14 w15 w16 : Option Value} {t9 t10 t11 : Tok}
    (I : MI n (joinLot lots (lotOf lots (Hn n a)) (lotOf lots (Hn n (upp a)))) (names ++ [a]) rows f) (hlots : lots.length = n) (hl : Nats lvs lots) (po : Paired Strv ovs (rows.map (·.1))) {R : Flow → Heap → Prop}
    (fin : ∀ h2 la' lvs' wa' cvs' u12 u16 P', Nats lvs' (joinLot lots (lotOf lots (Hn n a)) (lotOf lots (Hn n (upp a)))) → (∀ h, P' h → Rows h vals rows ∧ Comes h cvs' (comesOf n (names ++ [a]))) →
      St c h [] h2 (lawEnv h) lawNs [v0, v1, v2, some (.ref x), some (.ref oa), some (.ref la'), some (.ref ca), some (.ref wa'), w8, some (.str (T a) t9), some (.int (Hn n a : Nat) t10), some (.int (Hn n (upp a) : Nat) t11), u12, w13, w14, w15, u16]
        ([(ra, .lst rvs)] ++ tblD3 x d lst vals ++ [(oa, .lst ovs), (la', .lst lvs'), (ca, .lst cvs'), (wa', .lst vals)] ++ [(it, ob)]) P' → R .next h2)
    (S : St c h [] h1 (lawEnv h) lawNs [v0, v1, v2, some (.ref x), some (.ref oa), some (.ref la), some (.ref ca), some (.ref wa0), w8, some (.str (T a) t9), some (.int (Hn n a : Nat) t10), some (.int (Hn n (upp a) : Nat) t11), w12, w13, w14, w15, w16]
      ([(ra, .lst rvs)] ++ tblD3 x d lst vals ++ [(oa0, .lst ovs0), (la, .lst lvs), (ca, .lst cvs), (wa0, .lst wvs0)] ++ [(it, ob)] ++ [(oa, .lst ovs)]) (fun h => Rows h vals rows ∧ Comes h cvs (comesOf n names))) :
    W c A' (execs (loopB.drop 8) (lawEnv h)) R h1 := by
  have own := ow_law h
  have hn6 := I.hn
  have hlen := I.len
  have hlv : lvs.length = lots.length := P_len hl
  have hcl : cvs.length = names.length := by rw [P_len S.p.2]; simp [comesOf]
  have hf1 := Hn_lt hn6.1 a
  have hf2 := Hn_lt hn6.1 (upp a)
  obtain ⟨ta1, ea1⟩ := lot_get hl (k := Hn n a) (by omega)
  obtain ⟨ta2, ea2⟩ := lot_get hl (k := Hn n (upp a)) (by omega)
  simp only [List.length_append, List.length_singleton] at hlen
  -- come.append
  refine S_next (S_expr (E_append (E_name S 6 rfl rfl ⟨ca, rfl, ⟨_, S.getL (j := 6) rfl⟩, E_tup (A_cons (E_name S 9 rfl rfl (A_cons (E_name S 10 rfl rfl (A_cons (E_name S 11 rfl rfl (A_nil ⟨by rw [sizeLine_eq]; simp, fun ad h2 n2 e2 g2 => ?_⟩)))))))⟩)))
  have S := S.step e2
  refine ⟨S.okh, cvs, S.getL (j := 6) rfl, by omega, fun h3 s3 g3 => ⟨rfl, ?_⟩⟩
  have S := S.also (F := fun h => Tup h ad [.str (T a) t9, .int (Hn n a : Nat) t10, .int (Hn n (upp a) : Nat) t11]) g2 fun _ _ _ e x => x.eff e
  have S := S.upd (j := 6) (b' := .lst (cvs ++ [Value.ref ad])) rfl (.of_same s3 (S.loSet (j := 6) rfl) (S.ntAt (j := 6) rfl)) g3
  have S := S.less (F := fun h => Rows h vals rows ∧ Comes h (cvs ++ [Value.ref ad]) (comesOf n (names ++ [a]))) ⟨S.p.1.1, by
    unfold comesOf
    rw [List.map_append]
    exact P_snoc S.p.1.2 ⟨ad, t9, t10, t11, rfl, S.p.2⟩⟩ fun _ _ _ e x => ⟨x.1.eff e, x.2.eff e⟩
  generalize cvs ++ [Value.ref ad] = cvs' at S
  have S : St c h [] h3 (lawEnv h) lawNs _ ([(ra, .lst rvs)] ++ tblD3 x d lst vals ++ [(oa0, .lst ovs0), (la, .lst lvs), (ca, .lst cvs'), (wa0, .lst wvs0)] ++ [(it, ob)] ++ [(oa, .lst ovs)]) _ := S
  -- lots
  have ml3 := (S.getL (j := 5) rfl).isList
  refine S_next (S_assign ?_)
  refine E_comp (own := ["lot"]) (fr := ["first", "lots", "second"]) (compOk_of (by decide +kernel)) (all3 (by rfl) (by rfl) (by rfl)) ?_
  refine E_name S 5 rfl rfl ?_
  refine Comp_val (It.list la lvs) (own := ["lot"]) (fr := ["first", "lots", "second"]) (fvs := [some (.int (Hn n a : Nat) t10), some (.ref la), some (.int (Hn n (upp a) : Nat) t11)]) rm'.1 (by rw [sizeLine_eq]; omega) S (compOk_of (by decide +kernel))
    (all3 ⟨by simp, by show (fdAt a_law).scope.names.lookup _ ≠ _; decide +kernel⟩ ⟨by simp, by show (fdAt a_law).scope.names.lookup _ ≠ _; decide +kernel⟩ ⟨by simp, by show (fdAt a_law).scope.names.lookup _ ≠ _; decide +kernel⟩) (fv3 10 5 11 rfl rfl rfl rfl rfl rfl) ml3 ml3
    (fun i ys P2 => Nats ys (joinLot (lots.take i) (lotOf lots (Hn n a)) (lotOf lots (Hn n (upp a)))) ∧ (fun h => Rows h vals rows ∧ Comes h cvs' (comesOf n (names ++ [a]))) = P2) ⟨.nil, rfl⟩ ?_ ?_ ?_
  · rintro i ys P2 ⟨p, _⟩
    rw [P_len p]; simp [joinLot]; omega
  · rintro j w acc it2 C h4 ys P2 hj hw ⟨py, rfl⟩ hacc S
    obtain ⟨L, eL, tL, rfl⟩ := P_get hl j w hw
    have et : lots.take (j + 1) = lots.take j ++ [L] := by rw [List.take_add_one, eL]; rfl
    refine A_name (N_store S 0 rfl (.inl (by rfl)) fun h5 S => tests0 ?_)
    show W c A' (eval _ _) _ _
    have ml5 := isList_keep ml3 S.eff
    refine E_if (T_cmp (E_name S 0 rfl rfl (E_sub (E_name S 2 rfl rfl (E_name S 3 rfl rfl (X_list ml5 (by omega) ea2 (C_eq (B_bool (ifd (fun hc => ?_) fun hc => ?_)))))))))
    · refine E_sub (E_name S 2 rfl rfl (E_name S 1 rfl rfl (X_list ml5 (by omega) ea1 ⟨_, _, .set .refl rfl, ⟨?_, rfl⟩, S⟩)))
      unfold joinLot
      rw [et, List.map_append]
      refine P_snoc py ⟨ta1, ?_⟩
      show _ = Value.int ((if L = lotOf lots (Hn n (upp a)) then lotOf lots (Hn n a) else L : Nat) : Int) ta1
      rw [if_pos hc]
    · refine E_name S 0 rfl rfl ⟨_, _, .set .refl rfl, ⟨?_, rfl⟩, S⟩
      unfold joinLot
      rw [et, List.map_append]
      refine P_snoc py ⟨tL, ?_⟩
      show _ = Value.int ((if L = lotOf lots (Hn n (upp a)) then lotOf lots (Hn n a) else L : Nat) : Int) tL
      rw [if_neg hc]
  rintro h4 la' lvs' P2 ⟨pl, rfl⟩ S
  rw [List.take_of_length_le (by omega)] at pl
  refine N_store S 5 rfl (own _ (by simp)) fun h5 S => ⟨rfl, ?_⟩
  refine turn_end l rm' I pl (x := x) (d := d) (lst := lst) (oa := oa) (la := la') (ca := ca) (vals := vals) (ovs := ovs) (cvs := cvs') (by simp [tblD3]) (by simp [tblD3]) (by simp [tblD3]) (by simp) (by simp) (by simp) po (fun h x => x) (fun h6 wa' u12 u16 S => ?_) S
  have nd := (List.nodup_cons.mp S.ap).2
  refine fin h6 la' lvs' wa' cvs' u12 u16 _ pl (fun h x => x) (S.pick (by
    intro z m
    simp only [tblD3, List.mem_append, List.mem_cons, List.not_mem_nil, or_false] at m ⊢
    grind) ?_)
  simp only [tblD3, List.map_append, List.map_cons, List.map_nil, List.cons_append, List.nil_append, List.nodup_cons, List.mem_cons, List.not_mem_nil, or_false, not_or, List.nodup_nil, and_true, not_false_eq_true] at nd ⊢
  grind
end Mine
end

section
open PySem PySem.W PyProof.Rows PySem.Calls
set_option Elab.async false
set_option linter.unusedVariables false
set_option linter.unusedSimpArgs false
set_option maxRecDepth 4000
namespace Mine
/-! ## what a new name makes -/
theorem step_MI {n : Nat} {lots : List Nat} {names : List (List Nat)} {rows : List Row} {f : Pm} (I : MI n lots names rows f) {a : List Nat} (na : Nm a) (nin : a ∉ names) (hlen : names.length < 10) :
    ((comeL (Hn n) (2 * n) 0 a rows).1 = 0 ↔ (lots.count (lotOf lots (Hn n a)) ≤ cnt lots (names.map (Hn n)) (lotOf lots (Hn n a)) ∧ lots.count (lotOf lots (Hn n (upp a))) ≤ cnt lots (names.map (Hn n)) (lotOf lots (Hn n (upp a))))) ∧
    (comeL (Hn n) (2 * n) 0 a rows).1 < 2 * n ∧ ∃ f', MI n (joinLot lots (lotOf lots (Hn n a)) (lotOf lots (Hn n (upp a)))) (names ++ [a]) (comeL (Hn n) (2 * n) 0 a rows).2 f' := by
  have hrest : rest rows a = rows := List.filter_eq_self.mpr fun r m => by
    rw [decide_eq_true_eq]
    intro q
    obtain ⟨b, mb, nb, e⟩ := I.ri.spell r m
    have : low r.1 = b := by rcases e with e | e <;> rw [e]; exact nb.low; exact nb.low_upp
    rw [this, na.low] at q
    exact nin (q ▸ mb)
  have P : PI (Hn n) (names ++ [a]) rows a := ⟨I.ri.keys, I.ri.house, fun r m => by
    obtain ⟨b, mb, r⟩ := I.ri.spell r m
    exact ⟨b, List.mem_append_left _ mb, r⟩, ⟨a, by simp, na, .inl rfl⟩, by rw [hrest]; exact I.ri.dist⟩
  obtain ⟨c1, c2, c3⟩ := come_run (2 * n) 0 a rows f P (by rw [hrest]; exact I.fr)
  rw [na.swp] at c1 c3
  obtain ⟨s1, s2, s3⟩ := come_step I.li (Hn_lt I.hn.1 a) (Hn_lt I.hn.1 (upp a))
  refine ⟨by rw [c1]; exact s1, by rw [c1]; exact s2, _, I.hn, ?_, ?_, ?_, c3, c2, by simp; omega⟩
  · rw [List.nodup_append]
    exact ⟨I.nd, by simp, fun x mx y my e => nin (by rw [List.mem_singleton.mp my] at e; exact e ▸ mx)⟩
  · intro b m
    rcases List.mem_append.mp m with m | m
    · exact I.nm b m
    · rw [List.mem_singleton.mp m]; exact na
  · rw [List.map_append]; exact s3
abbrev fullScope : Scope := { kind := .function, names := [(Str.ofString ".0", .local), (Str.ofString "lot", .cell), (Str.ofString "len", .globalImplicit), (Str.ofString "come", .free), (Str.ofString "lots", .free)], isGenerator := false, isCoroutine := false, more := [] }
theorem full_cel : Cel fullScope "lot" "come" "lots" := ⟨rfl, ⟨Str.ofString ".0", Str.ofString "len", rfl, by decide +kernel, by decide +kernel, by decide +kernel, by decide +kernel, by decide +kernel, by decide +kernel, by decide +kernel, by decide +kernel⟩, by decide +kernel⟩
set_option maxHeartbeats 2000000 in
theorem turn_go {c : Cx} (l : Lw c) {A' : Around} (rm' : Rm A' 9) {h h1 : Heap} {ra x d lst oa la ca wa it : Addr} {rvs vals ovs lvs cvs wvs : List Value} {ob : Ob} {n num : Nat} {lots : List Nat} {names : List (List Nat)} {rows : List Row} {f : Pm} {v0 v1 w9 w10 w11 w12 w13 w14 w15 w16 : Option Value} {tn t8 : Tok}
    (I : MI n lots names rows f) (hlen : names.length < 10) (hl : Nats lvs lots) (po : Paired Strv ovs (rows.map (·.1))) {P : Heap → Prop} (hP : ∀ h, P h → Rows h vals rows ∧ Comes h cvs (comesOf n names) ∧ Rows h wvs rows) {R : Flow → Heap → Prop}
    (lo : c.h0.get? lst = none)
    (skip : ∀ h2 u9, St c h [] h2 (lawEnv h) lawNs [v0, v1, some (.int (n : Nat) tn), some (.ref x), some (.ref oa), some (.ref la), some (.ref ca), some (.ref wa), some (.int (num : Nat) t8), u9, w10, w11, w12, w13, w14, w15, w16]
        ([(ra, .lst rvs)] ++ tblD3 x d lst vals ++ [(oa, .lst ovs), (la, .lst lvs), (ca, .lst cvs), (wa, .lst wvs)] ++ [(it, ob)]) P → R .cont h2)
    (fin : ∀ h2 oa' la' wa' ovs' vals' lvs' cvs' u9 u10 u11 u12 u13 u14 u15 u16 names' lots' rows' f' P', names'.length ≤ names.length + 1 → MI n lots' names' rows' f' → Nats lvs' lots' → Paired Strv ovs' (rows'.map (·.1)) → (∀ h, P' h → Rows h vals' rows' ∧ Comes h cvs' (comesOf n names') ∧ Rows h vals' rows') →
      St c h [] h2 (lawEnv h) lawNs [v0, v1, some (.int (n : Nat) tn), some (.ref x), some (.ref oa'), some (.ref la'), some (.ref ca), some (.ref wa'), some (.int (num : Nat) t8), u9, u10, u11, u12, u13, u14, u15, u16]
        ([(ra, .lst rvs)] ++ tblD3 x d lst vals' ++ [(oa', .lst ovs'), (la', .lst lvs'), (ca, .lst cvs'), (wa', .lst vals')] ++ [(it, ob)]) P' → R .next h2)
    (S : St c h [] h1 (lawEnv h) lawNs [v0, v1, some (.int (n : Nat) tn), some (.ref x), some (.ref oa), some (.ref la), some (.ref ca), some (.ref wa), some (.int (num : Nat) t8), w9, w10, w11, w12, w13, w14, w15, w16]
      ([(ra, .lst rvs)] ++ tblD3 x d lst vals ++ [(oa, .lst ovs), (la, .lst lvs), (ca, .lst cvs), (wa, .lst wvs)] ++ [(it, ob)]) P) :
    W c A' (execs loopB (lawEnv h)) R h1 := by
  have own := ow_law h
  have hn6 := I.hn
  have hln := I.li.len
  have hlv : lvs.length = lots.length := P_len hl
  have hcl : cvs.length = names.length := by rw [P_len (hP _ S.p).2.1]; simp [comesOf]
  have hrl := I.rows_len
  have hol : ovs.length = rows.length := by rw [P_len po, List.length_map]
  have hwl : wvs.length = rows.length := P_len (hP _ S.p).2.2
  have hdue : dueL (rows.map (·.1)) (comesOf n names) = rows := due_rows I.nd I.nm I.ri
  have hcome : ∀ z ∈ comesOf n names, Asc z.1 ∧ z.1.length ≤ 1000 ∧ z.2.1 < 10 ∧ z.2.2 < 10 := fun z m => by
    obtain ⟨a, ma, e⟩ := List.mem_map.mp m
    rw [← e]
    have h1 := Hn_lt hn6.1 a
    have h2 := Hn_lt hn6.1 (upp a)
    exact ⟨(I.nm a ma).asc.asc, by have := (I.nm a ma).2; show a.length ≤ 1000; omega, by show Hn n a < 10; omega, by show Hn n (upp a) < 10; omega⟩
  -- name
  refine S_cons (S_assign (E_call (E_global S (by rfl) (by rfl) (gf_name l) (K_pos (kp_name l) (A_cons (E_name S 8 rfl rfl (A_nil ⟨S.okh, ?_⟩)))))))
  refine law_name l (rm'.less (by omega)) S.okh fun h2 t2 e2 => ?_
  have S := S.step e2
  have na := nameL_nm num
  generalize nameL num = a at na
  refine N_store S 9 rfl (own _ (by simp)) fun h3 S => ?_
  show W c A' (execs _ _) _ _
  -- in come?
  refine S_cons (S_if (T_cmp (E_name S 9 rfl rfl ?_)))
  refine E_comp (own := ["one"]) (fr := []) (compOk_of (by decide +kernel)) all0 ?_
  refine E_name S 6 rfl rfl ?_
  have mc3 := (S.getL (j := 6) rfl).isList
  refine Comp_val (It.list ca cvs) (own := ["one"]) (fr := []) (fvs := []) rm'.1 (by rw [sizeLine_eq]; omega) S (compOk_of (by decide +kernel)) all0 fv0 mc3 mc3
    (fun i ys P2 => Paired Strv ys (names.take i) ∧ P = P2) ⟨.nil, rfl⟩ ?_ ?_ ?_
  · rintro i ys P2 ⟨p, _⟩
    rw [P_len p, List.length_take]; omega
  · rintro j w acc it2 C h4 ys P2 hj hw ⟨py, rfl⟩ hacc S
    refine A_name (N_store S 0 rfl (.inl (by rfl)) fun h5 S => ?_)
    obtain ⟨z, ez, ad, z1, z2, z3, rfl, ht⟩ := P_get (hP _ S.p).2.1 j w hw
    obtain ⟨b, eb, ebz⟩ : ∃ b, names[j]? = some b ∧ b = z.1 := by
      unfold comesOf at ez
      rw [List.getElem?_map] at ez
      cases q : names[j]? with
      | none => rw [q] at ez; cases ez
      | some b => rw [q] at ez; cases ez; exact ⟨b, rfl, rfl⟩
    refine tests0 ?_
    show W c A' (eval _ _) _ _
    refine E_sub (E_name S 0 rfl rfl (E_lit fun _ => X_tup ht (by decide) rfl ⟨_, _, .set .refl rfl, ⟨?_, rfl⟩, S⟩))
    rw [List.take_add_one, eb]
    exact P_snoc py ⟨z1, by rw [ebz]⟩
  rintro h4 na4 nvs P2 ⟨pn, rfl⟩ S
  rw [List.take_of_length_le (by omega)] at pn
  refine C_ins S.atLast.plain.isList pn (B_bool (ifd (fun hin => ?_) fun hin => ?_))
  · have S := S.forget (List.sublist_append_left _ _)
    exact S_cons (S_cont (skip h4 _ S))
  have S := S.forget (List.sublist_append_left _ _)
  refine S_nil ?_
  show W c A' (execs _ _) _ _
  -- first, second
  refine S_cons (S_assign (E_call (E_global S (by rfl) (by rfl) (gf_divided l) (K_pos (kp_divided l) (A_cons (E_name S 9 rfl rfl (A_cons (E_name S 2 rfl rfl (A_nil ⟨S.okh, ?_⟩)))))))))
  refine law_divided l (rm'.less (by omega)) S.okh na.asc.asc ⟨by omega, by omega⟩ fun h5 t10 e5 => ?_
  have S := S.step e5
  refine N_store S 10 rfl (own _ (by simp)) fun h6 S => ?_
  show W c A' (execs _ _) _ _
  refine S_cons (S_assign (E_call (E_global S (by rfl) (by rfl) (gf_divided l) (K_pos (kp_divided l) (A_cons (E_upper (E_name S 9 rfl rfl ⟨a, t2, rfl, na.asc.asc, by have := na.2; omega, S.okh, fun t3 => A_cons (E_name S 2 rfl rfl (A_nil ⟨S.okh, ?_⟩))⟩)))))))
  have hua : Asc (upp a) := fun z m => by
    obtain ⟨y, my, rfl⟩ := List.mem_map.mp m
    have := na.asc y my
    unfold up1
    split <;> omega
  refine law_divided l (rm'.less (by omega)) S.okh hua ⟨by omega, by omega⟩ fun h7 t11 e7 => ?_
  have S := S.step e7
  refine N_store S 11 rfl (own _ (by simp)) fun h8 S => ?_
  show W c A' (execs _ _) _ _
  -- full
  have hf1 := Hn_lt hn6.1 a
  have hf2 := Hn_lt hn6.1 (upp a)
  obtain ⟨ta1, ea1⟩ := lot_get hl (k := Hn n a) (by omega)
  obtain ⟨ta2, ea2⟩ := lot_get hl (k := Hn n (upp a)) (by omega)
  have ml8 := (S.getL (j := 5) rfl).isList
  refine S_cons (S_comp1 (fun m hm => ?_) rfl (by decide +kernel) (by rfl) ?_)
  · have : m = Str.ofString "come" ∨ m = Str.ofString "lots" := by simpa using hm
    rcases this with rfl | rfl <;> rfl
  refine E_tup (A_cons (E_sub (E_name S 5 rfl rfl (E_name S 10 rfl rfl (X_list ml8 (by omega) ea1 (A_cons (E_sub (E_name S 5 rfl rfl (E_name S 11 rfl rfl (X_list ml8 (by omega) ea2 (A_nil ⟨by rw [sizeLine_eq]; simp, fun ft h9 n9 e9 g9 => ?_⟩)))))))))))
  have S := S.step e9
  have ml9 := (S.getL (j := 5) rfl).isList
  have mc9 := (S.getL (j := 6) rfl).isList
  have ma9 : At h9 la (.lst lvs) := S.get (j := 5) rfl
  refine Comp_cel_use (It.tup ft _) (fvs := [some (.ref ca), some (.ref la)]) 13 rfl (own _ (by simp)) rm'.1 (by rw [sizeLine_eq]; simp) S full_cel (all2 ⟨by simp, by show (fdAt a_law).scope.names.lookup _ ≠ _; decide +kernel⟩ ⟨by simp, by show (fdAt a_law).scope.names.lookup _ ≠ _; decide +kernel⟩) (fv2 6 5 rfl rfl rfl rfl) g9 g9
    (fun i ys P2 => Paired Boolv ys (([lotOf lots (Hn n a), lotOf lots (Hn n (upp a))].take i).map fun L => decide (cnt lots (names.map (Hn n)) L ≥ lots.count L)) ∧ P = P2) ⟨.nil, rfl⟩ ?_ ?_ ?_
  · rintro i ys P2 ⟨p, _⟩
    rw [P_len p]; simp; omega
  · rintro j w acc it2 ca2 C h10 ys P2 hj hw ⟨py, rfl⟩ hacc hca ky kf cly hcs S
    obtain ⟨L, tL, eL, rfl⟩ : ∃ L tL, [lotOf lots (Hn n a), lotOf lots (Hn n (upp a))][j]? = some L ∧ w = .int (L : Nat) tL := by
      rcases j with _ | _ | j
      · cases hw; exact ⟨_, _, rfl, rfl⟩
      · cases hw; exact ⟨_, _, rfl, rfl⟩
      · have hj2 : j + 1 + 1 < 2 := hj
        omega
    refine A_name (N_store S 0 rfl (.inr ⟨ky, fun b e => by rw [cly] at e; cases e; exact hca⟩) fun h11 S => tests0 ?_)
    show W c A' (eval _ _) _ _
    have ml11 := isList_keep ml9 S.eff
    have mc11 := isList_keep mc9 S.eff
    refine E_cmp (E_call (E_builtin S (by rfl) (by rfl) (by rfl) (gb_len l) (v := .builtin "len") (by decide +kernel) (by decide +kernel) (K_pos (.inr (.inr ⟨_, rfl⟩)) (A_cons ?_))))
    refine E_comp (own := ["one"]) (fr := ["lot", "lots"]) (compOk_of (by decide +kernel)) (all2 (by rw [cly]; rfl) (hcs _ (by simp))) ?_
    refine E_name S 1 rfl rfl ?_
    refine Comp_val (It.list ca cvs) (own := ["one"]) (fr := ["lot", "lots"]) (fvs := [some (.int (L : Nat) tL), some (.ref la)]) rm'.1 (by rw [sizeLine_eq]; omega) S (compOk_of (by decide +kernel)) (all2 ⟨by simp, by rw [ky]; decide⟩ ⟨by simp, kf _ (by simp)⟩) (fv2 0 2 rfl rfl rfl rfl) mc11 mc11
      (fun i ys P2 => ys.length = (((comesOf n names).take i).filter fun z => decide (lotOf lots z.2.1 = L)).length ∧ P = P2) ⟨rfl, rfl⟩ ?_ ?_ ?_
    · rintro i ys P2 ⟨e, _⟩
      rw [e]
      refine Nat.le_trans (List.length_filter_le _ _) ?_
      rw [List.length_take]; omega
    · rintro j w acc it2 C h12 ys P2 hj hw ⟨ey, rfl⟩ hacc S
      refine A_name (N_store S 0 rfl (.inl (by rfl)) fun h13 S => ?_)
      obtain ⟨z, ez, ad, z1, z2, z3, rfl, ht⟩ := P_get (hP _ S.p).2.1 j w hw
      have hlt : z.2.1 < n := by
        obtain ⟨b, _, e⟩ := List.mem_map.mp (List.mem_of_getElem? ez)
        rw [← e]; exact Hn_lt hn6.1 _
      have et : (comesOf n names).take (j + 1) = (comesOf n names).take j ++ [z] := by rw [List.take_add_one, ez]; rfl
      obtain ⟨tz, etz⟩ := lot_get hl (k := z.2.1) (by omega)
      have ml13 := isList_keep ml11 S.eff
      refine tests1 (T_cmp (E_sub (E_name S 2 rfl rfl (E_sub (E_name S 0 rfl rfl (E_lit fun _ => X_tup ht (by decide) rfl (X_list ml13 (by omega) etz (E_name S 1 rfl rfl (C_eq (B_bool (ifd (fun hc => ?_) fun hc => ?_)))))))))))
      · refine E_name S 0 rfl rfl ⟨_, _, .set .refl rfl, ⟨?_, rfl⟩, S⟩
        rw [et, List.filter_append, List.length_append, List.length_append, ey, List.filter_cons, if_pos (decide_eq_true hc)]
        rfl
      · refine ⟨_, _, .set .refl rfl, ⟨?_, rfl⟩, S⟩
        rw [et, List.filter_append, List.length_append, ey, List.filter_cons, if_neg (by simpa using hc)]
        rfl
    rintro h12 na12 nvs12 P2 ⟨en, rfl⟩ S
    rw [List.take_of_length_le (by simp [comesOf]; omega), cnt_comes] at en
    have hn8 : nvs12.length ≤ 100 := by rw [en]; unfold cnt; exact Nat.le_trans (List.length_filter_le _ _) (by simp; omega)
    have ml12 := (ma9.keep S.eff).plain
    refine A_nil ⟨S.okh, F_lenl S.atLast.plain.isList (by omega) fun t13 => ?_⟩
    refine E_count (E_name S 2 rfl rfl ⟨la, rfl, ⟨_, ml12⟩, E_name S 0 rfl rfl ⟨S.okh, L, tL, lvs, lots, rfl, ml12, hl, fun t14 => C_ge ?_⟩⟩)
    have S := S.forget (List.sublist_append_left _ _)
    refine ⟨_, _, .set .refl rfl, ⟨?_, rfl⟩, S⟩
    rw [List.take_add_one, eL, List.map_append, en]
    exact P_snoc py rfl
  rintro h10 fa fvs P2 ⟨pf, rfl⟩ S
  rw [List.take_of_length_le (by simp)] at pf
  show W c A' (execs _ _) _ _
  -- before
  refine S_cons (S_assign (E_call (E_global S (by rfl) (by rfl) (gf_due l) (K_pos (kp_due l) (A_cons (E_name S 4 rfl rfl (A_cons (E_name S 6 rfl rfl (A_nil ⟨S.okh, ?_⟩)))))))))
  refine law_due l (rm'.less (by omega)) S.okh (S.getL (j := 4) rfl).isList po (S.getL (j := 6) rfl).isList (hP _ S.p).2.1 hcome (by simp; omega) (by simp [comesOf]; omega) fun da dvs h11 e11 n11 g11 r11 => ?_
  rw [hdue] at r11
  have S := S.enter e11 n11 g11
  have S := S.also (F := fun h => Rows h dvs rows) r11 fun _ _ _ e x => x.eff e
  have hdl : dvs.length = rows.length := P_len r11
  refine N_store S 14 rfl (own _ (by simp)) fun h12 S => ?_
  show W c A' (execs _ _) _ _
  -- come
  obtain ⟨m1, m2, f', m3⟩ := step_MI I na hin hlen
  have ne1 : oa ≠ lst := by
    have := (List.nodup_cons.mp S.ap).2
    simp [tblD3] at this
    exact fun e => by simp_all
  refine S_cons (S_assignT (E_call (E_global S (by rfl) (by rfl) (gf_come l) (K_pos (kp_come l) (A_cons (E_name S 3 rfl rfl (A_cons (E_name S 9 rfl rfl (A_cons (E_name S 2 rfl rfl (A_cons (E_name S 4 rfl rfl (A_nil ⟨S.okh, ?_⟩)))))))))))))
  refine law_come l (rm'.less (by omega)) S.okh (Inst.of (S.get (j := 1) rfl) (S.get (j := 2) rfl)) lo (S.get (j := 3) rfl) (hP _ S.p.1).1 (S.get (j := 4) rfl) ne1 po I.row_ok ⟨na.asc, na.2⟩ ⟨by omega, by omega⟩ (by omega) fun tup oa' ovs' vals' tg h13 e13 ht n13 g13 po' g13' r13 ne2 => ?_
  obtain ⟨z1, z2, z3, z4⟩ := S.new_of n13
  have S := S.upd (j := 3) (b' := .lst vals') rfl e13 g13'
  have z2' : oa' ∉ (([(ra, Ob.lst rvs)] ++ tblD3 x d lst vals ++ [(oa, Ob.lst ovs), (la, Ob.lst lvs), (ca, Ob.lst cvs), (wa, Ob.lst wvs)] ++ [(it, ob)] ++ [(fa, Ob.lst fvs)] ++ [(da, Ob.lst dvs)]).map (·.1)) := fun m => by
    obtain ⟨p, mp, e⟩ := List.mem_map.mp m
    exact z2 p mp e
  have hDne : ∀ p ∈ ([(ra, Ob.lst rvs)] ++ tblD3 x d lst vals' ++ [(oa, Ob.lst ovs), (la, Ob.lst lvs), (ca, Ob.lst cvs), (wa, Ob.lst wvs)] ++ [(it, ob)] ++ [(fa, Ob.lst fvs)] ++ [(da, Ob.lst dvs)]), p.1 ≠ oa' := fun p m e => z2' (by
    have := List.mem_map_of_mem (f := Prod.fst) m
    rw [e] at this
    simpa [tblD3] using this)
  have S : St c h [] h13 (lawEnv h) lawNs _ ([(ra, .lst rvs)] ++ tblD3 x d lst vals' ++ [(oa, .lst ovs), (la, .lst lvs), (ca, .lst cvs), (wa, .lst wvs)] ++ [(it, ob)] ++ [(fa, .lst fvs)] ++ [(da, .lst dvs)]) _ := S
  have S := S.add (a := oa') (b := .lst ovs') z1 hDne z3 z4 g13
  have S := S.less (F := fun h => Rows h vals' (comeL (Hn n) (2 * n) 0 a rows).2 ∧ Comes h cvs (comesOf n names) ∧ Rows h wvs rows ∧ Rows h dvs rows) ⟨r13, (hP _ S.p.1).2.1, (hP _ S.p.1).2.2, S.p.2⟩ fun _ _ _ e x => ⟨x.1.eff e, x.2.1.eff e, x.2.2.1.eff e, x.2.2.2.eff e⟩
  refine A_tup2 rm'.1 ht fun h14 e14 => ?_
  have S := S.step e14
  refine A_name (N_store S 15 rfl (own _ (by simp)) fun h15 S => A_name (N_store S 4 rfl (own _ (by simp)) fun h16 S => ?_))
  show W c A' (execs _ _) _ _
  generalize hcm : comeL (Hn n) (2 * n) 0 a rows = gr at *
  obtain ⟨g, rows'⟩ := gr
  dsimp only at m1 m2 m3 po' r13
  -- what is told of the goings
  have hbool : (decide (g = 0) == decide (([lotOf lots (Hn n a), lotOf lots (Hn n (upp a))].map fun L => decide (cnt lots (names.map (Hn n)) L ≥ lots.count L)) = [true, true])) = true := by
    rw [beq_iff_eq, decide_eq_decide, m1]
    simp
  refine S_cons (S_if (T_bool (T_or (T_cmp (E_cmp (E_name S 15 rfl rfl (E_lit fun _ => C_eq (E_cmp (E_name S 13 rfl rfl (E_list (A_cons (E_bool (A_cons (E_bool (A_nil ⟨by rw [sizeLine_eq]; simp, fun tl h17 n17 e17 g17 => ?_⟩)))))))))))))))
  have S := S.step e17
  refine C_eql (ys := [true, true]) eqr_bool (by have := rm'.2.2; omega) (S.mem (a := fa) (b := .lst fvs) (by simp)).plain.isList g17.plain.isList pf (.cons rfl (.cons rfl .nil)) ?_
  refine C_neb2 (by have := rm'.2.2; omega) (B_bool ?_)
  rw [hbool]
  show W c A' _ _ _
  have hg2 : ¬ g ≥ 2 * n := by omega
  refine T_or (T_cmp (E_name S 15 rfl rfl (E_bin (E_lit fun _ => E_name S 2 rfl rfl (O_mul (.inl (by decide)) fun _ => C_ge (B_bool ?_))))))
  rw [decide_eq_false hg2]
  refine T_or (T_cmp (E_name S 7 rfl rfl (E_name S 14 rfl rfl ?_)))
  refine C_nel (eqr_tup2 (h := h17) (by have := rm'.2.2; show A'.units + 1 + 1 < _; omega)) (by have := rm'.2.2; omega) (S.mem (a := wa) (b := .lst wvs) (by simp)).plain.isList (S.mem (a := da) (b := .lst dvs) (by simp)).plain.isList S.p.2.2.1.tup S.p.2.2.2.tup (B_bool ?_)
  rw [show decide (rows ≠ rows) = false by simp]
  refine T_or0 (S_nil ?_)
  show W c A' (execs _ _) _ _
  have S := (S.forget (D' := [(ra, Ob.lst rvs)] ++ tblD3 x d lst vals' ++ [(oa, Ob.lst ovs), (la, Ob.lst lvs), (ca, Ob.lst cvs), (wa, Ob.lst wvs)] ++ [(it, ob)] ++ [(oa', Ob.lst ovs')])
    (List.Sublist.append ((List.sublist_append_left _ _).trans (List.sublist_append_left _ _)) (List.Sublist.refl _))).less (F := fun h => Rows h vals' rows' ∧ Comes h cvs (comesOf n names)) ⟨S.p.1, S.p.2.1⟩ fun _ _ _ e x => ⟨x.1.eff e, x.2.eff e⟩
  exact turn_grow l (rm'.less (by omega)) m3 hln hl po' (fun h2 la' lvs' wa' cvs' u12 u16 P' q1 q2 S => fin h2 oa' la' wa' ovs' vals' lvs' cvs' _ _ _ _ _ _ _ _ (names ++ [a]) _ rows' f' P' (by simp) m3 q1 po' (fun h x => ⟨(q2 h x).1, (q2 h x).2, (q2 h x).1⟩) S) S
end Mine
end

section
open PySem PySem.W PyProof.Rows PySem.Calls
set_option Elab.async false
set_option linter.unusedVariables false
set_option linter.unusedSimpArgs false
set_option maxRecDepth 4000
namespace Mine
theorem addTable {c : Cx} {hb h h' : Heap} {V : List Addr} {env : Env} {ns : List Str} {vs : List (Option Value)} {D : List (Addr × Ob)} {P : Heap → Prop} {x d lst : Addr} {vals : List Value}
    (S : St c hb V h env ns vs D P) (nx : h.get? x = none) (nd : h.get? d = none) (nl : h.get? lst = none) (e : Eff c [] h h') (ti : TI h' x d lst) (g : At h' lst (.lst vals)) :
    St c hb V h' env ns vs (D ++ tblD3 x d lst vals) P := by
  obtain ⟨a1, a2, a3, a4⟩ := S.new_of nx
  obtain ⟨b1, b2, b3, b4⟩ := S.new_of nd
  obtain ⟨c1, c2, c3, c4⟩ := S.new_of nl
  have hx := ti.at_
  have hd : At h' d (.ns (hm lst)) := At.ns_iff.mpr ti.ns
  have nxd : x ≠ d := fun e => by
    obtain ⟨o, g, es, ep, ed, _⟩ := hd
    rw [← e, hx] at g; cases g; cases ed
  have nxl : x ≠ lst := fun e => by
    obtain ⟨o, g, n, eo⟩ := g
    rw [← e, hx] at g; cases g; cases eo
  have ndl : d ≠ lst := fun e => by
    obtain ⟨o, g, n, eo⟩ := g
    obtain ⟨o', g', es, ep, ed, _⟩ := hd
    rw [e, g] at g'; cases g'; rw [eo] at ed; cases ed
  have S1 := (S.step e).add a1 a2 a3 a4 ti.atx
  have S2 := S1.add b1 (fun p m => by
    rcases List.mem_append.mp m with m | m
    · exact b2 p m
    · rw [List.mem_singleton.mp m]; exact nxd) b3 b4 hd
  have S3 := S2.add c1 (fun p m => by
    rcases List.mem_append.mp m with m | m
    · rcases List.mem_append.mp m with m | m
      · exact c2 p m
      · rw [List.mem_singleton.mp m]; exact nxl
    · rw [List.mem_singleton.mp m]; exact ndl) c3 c4 g
  simpa [tblD3, List.append_assoc] using S3
theorem nats_cons {vs : List Value} {ns : List Nat} {n : Nat} (p : Nats vs ns) (h : ns.length = n + 1) : ∃ r t vs' ns', vs = .int (r : Nat) t :: vs' ∧ ns = r :: ns' ∧ Nats vs' ns' ∧ ns'.length = n := by
  cases p with
  | nil => simp at h
  | cons hd tl => obtain ⟨t, rfl⟩ := hd; exact ⟨_, t, _, _, rfl, rfl, tl, by simpa using h⟩

theorem range_count : ∀ n x, n < 7 → x < n → (List.range n).count x = 1 := by
  have : ∀ n : Fin 7, ∀ x : Fin 7, x.val < n.val → (List.range n.val).count x.val = 1 := by decide +kernel
  exact fun n x h1 h2 => this ⟨n, h1⟩ ⟨x, by omega⟩ h2
theorem lot_range {n x : Nat} (h : x < n) : lotOf (List.range n) x = x := by unfold lotOf; simp [List.getD_eq_getElem?_getD, h]
theorem MI_init {n : Nat} (hn : 3 ≤ n ∧ n ≤ 6) : MI n (List.range n) [] [] (fun _ => none) where
  hn := hn
  nd := List.nodup_nil
  nm := fun _ m => nomatch m
  li := ⟨by simp, fun x z _ e => (nomatch e), fun _ m => (nomatch m), fun x hx => .inr ⟨by
    rw [lot_range hx, range_count n x (by omega) hx]; rfl, x, hx, rfl, rfl, fun w hw e => by
    rw [lot_range hw, lot_range hx] at e
    subst e; exact .base rfl⟩⟩
  fr := fun x z => ⟨fun e => (nomatch e), fun ⟨r, m, _⟩ => (nomatch m)⟩
  ri := ⟨List.nodup_nil, fun _ m => (nomatch m), fun _ m => (nomatch m), List.nodup_nil⟩
  len := by simp
set_option maxHeartbeats 2000000 in
theorem law_rest {c : Cx} (l : Lw c) {A' : Around} (rm' : Rm A' 9) {h h1 : Heap} {sc ra : Addr} {rvs : List Value} {rns : List Nat} (hr : Nats rvs rns) (h9 : rns.length = 9)
    (S : St c h [] h1 (lawEnv h) lawNs [some (.ref sc), some (.ref ra), none, none, none, none, none, none, none, none, none, none, none, none, none, none, none] [(ra, .lst rvs)] (fun _ => True)) :
    W c A' (execs ((bodyOf (fdAt a_law)).drop 1) (lawEnv h)) (fun f h' => f = .ret (.bool true) ∧ Eff c [] h h') h1 := by
  have own := ow_law h
  have hrl : rvs.length = 9 := by rw [P_len hr, h9]
  obtain ⟨r0, e0, t0, er0⟩ := P_get hr 0 rvs[0] (List.getElem?_eq_getElem (by omega))
  have g0 : rvs[0]? = some (.int (r0 : Nat) t0) := by rw [List.getElem?_eq_getElem (by omega), er0]
  -- houses
  refine S_next (S_assign (E_bin (E_lit fun _ => E_bin (E_sub (E_name S 1 rfl rfl (E_lit fun _ => X_list (S.getL (j := 0) rfl).isList (by decide) g0 (E_lit fun _ => O_mod (by decide) fun _ => O_add fun tn => N_store S 2 rfl (own _ (by simp)) fun h2 S => ⟨rfl, ?_⟩)))))))
  have hn : 3 ≤ 3 + r0 % 4 ∧ 3 + r0 % 4 ≤ 6 := by omega
  generalize 3 + r0 % 4 = n at hn S
  -- home
  refine S_next (S_assign (E_call (E_global S (by rfl) (by rfl) (gn_cls l) (K_pos (kp_cls l) (A_nil ⟨S.okh, ?_⟩)))))
  refine make l (rm'.less (by omega)) S.okh fun x d lst h3 nx nd nl e3 ti g3 => ?_
  have lo : c.h0.get? lst = none := S.okh.none nl
  have S := addTable S nx nd nl e3 ti g3
  refine N_store S 3 rfl (own _ (by simp)) fun h4 S => ⟨rfl, ?_⟩
  -- order
  refine S_next (S_assign (E_list (A_nil ⟨by decide, fun oa h5 n5 e5 g5 => ?_⟩)))
  have S := S.enter e5 n5 g5
  refine N_store S 4 rfl (own _ (by simp)) fun h6 S => ⟨rfl, ?_⟩
  -- lots
  refine S_next (S_assign ?_)
  refine E_comp (own := ["k"]) (fr := []) (compOk_of (by decide +kernel)) all0 ?_
  refine E_call (E_builtin S (by rfl) (by rfl) (by rfl) (gb_range l) (v := .type "range") (by decide +kernel) (by decide +kernel) ?_)
  refine K_pos (.inr (.inl ⟨_, rfl⟩)) (A_cons (E_name S 2 rfl rfl (A_nil ⟨S.okh, F_range fun r u' v' h7 _ e7 hrg => ?_⟩)))
  have S := S.step e7
  refine Comp_val (It.range (show n < 2 ^ 62 by omega)) (own := ["k"]) (fr := []) (fvs := []) rm'.1 (by rw [sizeLine_eq]; omega) S (compOk_of (by decide +kernel)) all0 fv0 hrg trivial
    (fun i ys P2 => Nats ys (List.range i) ∧ P2 = fun _ => True) ⟨.nil, rfl⟩ ?_ ?_ ?_
  · rintro i ys P2 ⟨p, _⟩
    rw [P_len p]; simp
  · rintro i w acc it C h8 ys P2 hi ⟨tk, rfl⟩ ⟨p, rfl⟩ hacc S
    refine A_name (N_store S 0 rfl (.inl (by rfl)) fun h9 S => tests0 ?_)
    show W c A' (eval _ _) _ _
    refine E_name S 0 rfl rfl ⟨_, _, .set .refl rfl, ⟨?_, rfl⟩, S⟩
    rw [List.range_succ]
    exact P_snoc p ⟨tk, rfl⟩
  rintro h8 la lvs P2 ⟨pl, rfl⟩ S
  refine N_store S 5 rfl (own _ (by simp)) fun h9 S => ⟨rfl, ?_⟩
  -- come
  refine S_next (S_assign (E_list (A_nil ⟨by decide, fun ca h10 n10 e10 g10 => ?_⟩)))
  have S := S.enter e10 n10 g10
  refine N_store S 6 rfl (own _ (by simp)) fun h11 S => ⟨rfl, ?_⟩
  -- rows
  refine S_next (S_assign (E_meth (E_name S 3 rfl rfl (M_tb l S.okh (tiMem S (x := x) (d := d) (lst := lst) (by simp [tblD3]) (by simp [tblD3])) (fi_items l) (if_items l) (by decide +kernel) (K_pos (kp_items l) (A_nil ⟨S.okh, ?_⟩))))))
  refine items l (rm'.less (by omega)) S.okh (tiMem S (x := x) (d := d) (lst := lst) (by simp [tblD3]) (by simp [tblD3])) (S.mem (a := lst) (b := .lst []) (by simp [tblD3])) (by simp) fun wa h12 n12 e12 g12 => ?_
  have S := S.enter e12 n12 g12
  refine N_store S 7 rfl (own _ (by simp)) fun h13 S => ⟨rfl, ?_⟩
  -- the names
  have hb : r0 / 4 % 4 ≤ 9 := by omega
  refine S_next (S_for (E_sub (E_name S 1 rfl rfl (E_slice (E_part1 (E_lit fun _ => E_part1 (E_bin (E_lit fun _ => E_bin (E_bin (E_sub (E_name S 1 rfl rfl (E_lit fun _ => X_list (S.mem (a := ra) (b := .lst rvs) (by simp)).plain.isList (by decide) g0 (E_lit fun _ => O_div (by decide) (by decide) fun _ => E_lit fun _ => O_mod (by decide) fun _ => O_sub hb fun _ => E_part0 fun sl h14 n14 e14 hsl => ?_)))))))))))))
  have S := S.step e14
  refine X_slice (S.mem (a := ra) (b := .lst rvs) (by simp)).plain.isList hsl (.int _ _) (.int _ _) (by omega) fun sa h15 n15 e15 g15 => ?_
  have S := S.enter e15 n15 g15
  rw [show ((OfNat.ofNat 1 : Nat) : Int) = ((1 : Nat) : Int) from rfl] at S
  rw [slicePick_run rvs.toArray 1 (9 - r0 / 4 % 4) (by simp; omega) (by omega)] at S
  rw [show (List.take (9 - r0 / 4 % 4 - 1) (List.drop 1 rvs.toArray.toList)).toArray.toList = (rvs.drop 1).take (9 - r0 / 4 % 4 - 1) by simp] at S
  have hsl8 : ((rvs.drop 1).take (9 - r0 / 4 % 4 - 1)).length ≤ 8 := by simp; omega
  have hsn : ∀ (i : Nat) (v : Value), ((rvs.drop 1).take (9 - r0 / 4 % 4 - 1))[i]? = some v → ∃ k t, v = .int ((k : Nat) : Int) t := fun i v e => by
    have m := List.mem_of_mem_drop (List.mem_of_mem_take (List.mem_of_getElem? e))
    obtain ⟨j, hj, ej⟩ := List.mem_iff_getElem.mp m
    obtain ⟨k, _, t, ek⟩ := P_get hr j v (by rw [← ej]; exact List.getElem?_eq_getElem hj)
    exact ⟨k, t, ek⟩
  generalize (rvs.drop 1).take (9 - r0 / 4 % 4 - 1) = svs at S hsl8 hsn
  have S := S.pick (D' := [(sa, Ob.lst svs)] ++ tblD3 x d lst [] ++ [(oa, Ob.lst []), (la, Ob.lst lvs), (ca, Ob.lst []), (wa, Ob.lst [])]) (by
    intro z m
    simp only [tblD3, List.mem_append, List.mem_cons, List.not_mem_nil, or_false] at m ⊢
    grind) (by
    have nd := (List.nodup_cons.mp S.ap).2
    simp only [tblD3, List.map_append, List.map_cons, List.map_nil, List.cons_append, List.nil_append, List.nodup_cons, List.mem_cons, List.not_mem_nil, or_false, not_or, List.nodup_nil, and_true, not_false_eq_true] at nd ⊢
    grind)
  have S := S.less (F := fun h => Rows h [] [] ∧ Comes h [] (comesOf n []) ∧ Rows h [] []) ⟨.nil, .nil, .nil⟩ fun _ _ _ e x => ⟨x.1.eff e, x.2.1.eff e, x.2.2.eff e⟩
  refine F_loop (It.list sa svs) rm'.1 (fun i vs D P => ∃ oa la wa ovs vals lvs cvs wvs w8 w9 w10 w11 w12 w13 w14 w15 w16 names lots rows f,
      vs = [some (.ref sc), some (.ref ra), some (.int (n : Nat) tn), some (.ref x), some (.ref oa), some (.ref la), some (.ref ca), some (.ref wa), w8, w9, w10, w11, w12, w13, w14, w15, w16] ∧
      D = [(sa, Ob.lst svs)] ++ tblD3 x d lst vals ++ [(oa, Ob.lst ovs), (la, Ob.lst lvs), (ca, Ob.lst cvs), (wa, Ob.lst wvs)] ∧ names.length ≤ i ∧ MI n lots names rows f ∧ Nats lvs lots ∧ Paired Strv ovs (rows.map (·.1)) ∧
      (∀ h, P h → Rows h vals rows ∧ Comes h cvs (comesOf n names) ∧ Rows h wvs rows)) S (S.getL (j := 0) rfl).isList
    ⟨oa, la, wa, [], [], lvs, [], [], none, none, none, none, none, none, none, none, none, [], List.range n, [], fun _ => none, rfl, rfl, by simp, MI_init hn, pl, .nil, fun h x => x⟩ ?_ ?_ ?_
  · rintro i h vs D P ⟨_, _, _, _, _, _, _, _, _, _, _, _, _, _, _, _, _, _, _, _, _, rfl, rfl, _⟩ S
    exact (S.getL (j := 0) rfl).isList
  · rintro i v it h16 vs D P hi hv ⟨oa, la, wa, ovs, vals, lvs, cvs, wvs, w8, w9, w10, w11, w12, w13, w14, w15, w16, names, lots, rows, f, rfl, rfl, hnl, I, hl, po, hP⟩ S
    obtain ⟨num, t8, rfl⟩ := hsn i v hv
    refine A_name (N_store S 8 rfl (own _ (by simp)) fun h17 S => ?_)
    refine turn_go l rm' I (by omega) hl po hP lo (fun h18 u9 S => ?_) (fun h18 oa' la' wa' ovs' vals' lvs' cvs' u9 u10 u11 u12 u13 u14 u15 u16 names' lots' rows' f' P' q1 q2 q3 q4 q5 S => ?_) S
    · exact ⟨_, _, _, ⟨oa, la, wa, ovs, vals, lvs, cvs, wvs, some (.int (num : Nat) t8), u9, w10, w11, w12, w13, w14, w15, w16, names, lots, rows, f, rfl, rfl, by omega, I, hl, po, hP⟩, S⟩
    · exact ⟨_, _, _, ⟨oa', la', wa', ovs', vals', lvs', cvs', vals', some (.int (num : Nat) t8), u9, u10, u11, u12, u13, u14, u15, u16, names', lots', rows', f', rfl, rfl, by omega, q2, q3, q4, q5⟩, S⟩
  · rintro h16 vs D P ⟨oa, la, wa, ovs, vals, lvs, cvs, wvs, w8, w9, w10, w11, w12, w13, w14, w15, w16, names, lots, rows, f, rfl, rfl, hnl, I, hl, po, hP⟩ S
    exact ⟨rfl, S_cons (S_ret (E_bool ⟨rfl, S.eff⟩))⟩
theorem law_call {c : Cx} (l : Lw c) {A : Around} (rm : Rm A 10) {h : Heap} (ok : Ok c h) {sc : Addr} {svs : List Value} {sns : List Int} (hsc : h.IsList sc svs.toArray) (hi : Ints svs sns) (hlen : sns.length ≤ 100000) : ∀ d tk,
    codeAny (model c.prog c.w) A (.call (.ref a_law) ⟨[.ref sc], []⟩) (fun r s' => ∃ f h' d' tk', r = .ok f ∧ s' = ⟨h', c.g, d', tk', c.o⟩ ∧ f = .ret (.bool true) ∧ Eff c [] h h') ⟨h, c.g, d, tk, c.o⟩ := by
  refine CW_def0 (R := fun f h' => f = .ret (.bool true) ∧ Eff c [] h h') (rm.less (by omega)) ok (fn_law l) rfl (cd_law l) bd_law (params := ["script"]) (rest := ["row", "houses", "home", "order", "lots", "come", "rows", "number", "name", "first", "second", "lot", "full", "before", "goings", "kept"]) (vals := [.ref sc]) (fun _ _ => BindsTo.of_eq (by rfl)) rfl fk_law ?_
  intro h1 S d tk
  have rm' : Rm (A.deeper (callEnvC (fdAt a_law) h.objs.size a_law)) 9 := rm.deeper _
  generalize (A.deeper (callEnvC (fdAt a_law) h.objs.size a_law)) = A' at rm' ⊢
  have own := ow_law h
  refine S_first S (by rfl) (by rfl) (gf_row l) (kp_row l) 0 rfl rfl (fun t => ?_)
  refine law_row l (rm'.less (by omega)) S.okh (isList_keep hsc S.eff) hi hlen (by decide) fun ra h2 rvs rns e2 n2 g2 hr h9 hlt => ?_
  have S := S.enter e2 n2 g2
  refine N_store S 1 rfl (own _ (by simp)) fun h3 S => ?_
  intro d tk
  refine W_any (law_rest l rm' hr h9 S) fun f h4 d4 tk4 q => ⟨h4, d4, _, rfl, ?_, q.2⟩
  rw [q.1]
end Mine
end

open PySem PySem.W PyProof.Rows
set_option maxRecDepth 100000 in
set_option maxHeartbeats 8000000 in
theorem PySem.Challenge.cw_pu0038_03_holds : PySem.Challenge.rw_pu0038_03.Holds := by
  refine Mine.hd ?_
  k_fill
  intro w s₀ s₁ mg mb G Y fa o pm cd doc dV kV ho hd' hcd hD hmg hg args vals as hpre hlay hrd hwl hlo
  have KX := kIn_of Y
  refine Ground.open G ?_
  intro T B D TE TW
  clear B D TE TW ho hd' hcd hD
  wrow_args hpre hlay hrd hwl hlo
  rename IntsAre _ _ => hI
  rename Heap.IsList _ _ _ => hL
  rename ¬ _ < _ => hlen
  have e1 := Mine.ns_val KX T.g (Mine.gf_law (c := ⟨PySem.Challenge.rw_pu0038_03.row.prog, w, s₁.gens, s₁.os, s₁.heap, Mine.hd.heap_39 w.params, mb, KX, T.b, T.builtins, T.nolimit, ⟨mg, T.g⟩⟩) rfl)
  have e2 : mg "law" = some (.ref fa) := hmg
  rw [e1] at e2
  cases e2
  clear hmg
  refine wpAny_call (codeAny_mono (Mine.law_call (c := ⟨PySem.Challenge.rw_pu0038_03.row.prog, w, s₁.gens, s₁.os, s₁.heap, Mine.hd.heap_39 w.params, mb, KX, T.b, T.builtins, T.nolimit, ⟨mg, T.g⟩⟩) rfl (A := callerA) ⟨rfl, by decide +kernel, by decide +kernel⟩ (h := s₁.heap) (fun _ _ e => e) hL (Mine.ints_pair hI) (by omega) s₁.drawn s₁.toks) ?_)
  rintro r s' ⟨f, h', d', tk', rfl, rfl, rfl, e⟩
  refine GoodW.toG ⟨.inl ⟨.bool true, .bool true, [], rfl, fun _ => rfl, ?_, ?_, fun _ => ⟨.nil, fun _ m => (nomatch m)⟩⟩, e.keep, rfl, hg⟩
  · exact .bool true
  · refine postC_of (X := true) ?_ ?_ rfl
    · show WShape.has _ (.bool true) .bool = true
      simp [WShape.has, WShape.arms]
    · exact w_eq_bool (k := true) (l := true) (w_res rfl) (by simp [WTm.value])
