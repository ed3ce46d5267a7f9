import PyProof.Rows.All
import Wide.All
import OpenK.AllK
import Wide.FinOn
import Lean
import PySem.Challenge.RW_dm0098_12
open PySem PySem.W PyProof.Rows
set_option Elab.async false
set_option linter.unusedVariables false
namespace Mine

/-- neither the heap nor the row of generators ever shrinks -/
def Grown (s s' : Shared) : Prop := s.heap.objs.size ≤ s'.heap.objs.size ∧ s.gens.size ≤ s'.gens.size
theorem Grown.trans {a b d : Shared} (x : Grown a b) (y : Grown b d) : Grown a d := ⟨Nat.le_trans x.1 y.1, Nat.le_trans x.2 y.2⟩
theorem Grown.refl (s : Shared) : Grown s s := ⟨Nat.le_refl _, Nat.le_refl _⟩
theorem setGen_gens (s : Shared) (g : Nat) (x : GenState) : (s.setGen g x).gens.size = s.gens.size := by simp [Shared.setGen]
theorem setGen_heap (s : Shared) (g : Nat) (x : GenState) : (s.setGen g x).heap = s.heap := rfl

theorem runs_grown {M : Model} {Γ : Ctx} {p : Pos} {t : Sem Fin} {fs : List Frame} {s s' : Shared} {e : End} (h : Runs M Γ p t fs s e s') : Grown s s' := by
  induction h <;> simp only [Grown, setGen_gens, setGen_heap, Heap.size_push, Heap.size_after_update, Array.size_push] at * <;> omega
theorem wakes_grown {M : Model} {Γ : Ctx} {p : Pos} {g : Nat} {r : Resume} {s s' : Shared} {res : GenResult} (h : Wakes M Γ p g r s res s') : Grown s s' := by
  have back : ∀ {e₁ : End} {s₁ : Shared}, Grown (s.setGen g .running) s₁ → Grown s (s₁.setGen g e₁.genState) := by
    intro e₁ s₁ x
    simpa only [Grown, setGen_gens, setGen_heap] using x
  unfold Wakes at h
  split at h
  · exact h.elim
  · split at h
    · obtain ⟨e₁, s₁, hr, _, _, rfl⟩ := h; exact back (runs_grown hr)
    · rw [h.2]; exact .refl _
    · rw [h.2]; simp only [Grown, setGen_gens, setGen_heap]; exact ⟨Nat.le_refl _, Nat.le_refl _⟩
  · obtain ⟨e₁, s₁, hr, _, _, rfl⟩ := h; exact back (runs_grown hr)
  · rw [h.2]; exact .refl _
  · rw [h.2]; exact .refl _
theorem wp_grown {α : Type} (M : Model) (Γ : Ctx) (s₀ : Shared) (t : Sem α) : ∀ (Q : α → Pos → Shared → Prop) (E : Value → Pos → Shared → Prop) (p : Pos) (s : Shared), Grown s₀ s → Sem.wp M Γ t Q E p s →
    Sem.wp M Γ t (fun a p' s' => Grown s₀ s' ∧ Q a p' s') (fun e p' s' => Grown s₀ s' ∧ E e p' s') p s := by
  induction t with
  | pure a | raise a => intro Q E p s hn h; exact ⟨hn, h⟩
  | unsupported _ | finish _ | register _ _ | yield _ _ _ _ | fork _ _ | await _ _ _ _ _ => intro Q E p s _ h; exact h
  | rule _ k ih | point _ k ih => intro Q E p s hn h; exact ih () Q E p s hn h
  | «at» p' k ih => intro Q E p s hn h; exact ih () Q E p' s hn h
  | load a _ k ih | genState a k ih => intro Q E p s hn h; obtain ⟨o, ho, h⟩ := h; exact ⟨o, ho, ih _ Q E p s hn h⟩
  | update a _ f k ih => intro Q E p s hn h; exact ⟨h.1, ih () Q E p _ ⟨by simpa using hn.1, hn.2⟩ h.2⟩
  | loadIfAlive a k ih | ask k ih | handled a k ih | stack k ih | thread k ih => intro Q E p s hn h; exact ih _ Q E p s hn h
  | alloc o k ih => intro Q E p s hn h; exact ih _ Q E p _ ⟨by simpa using Nat.le_succ_of_le hn.1, hn.2⟩ h
  | fresh k ih | os _ _ k ih => intro Q E p s hn h; exact ih _ Q E p _ hn h
  | choose src m k ih => intro Q E p s hn h; exact ⟨h.1, ih _ Q E p _ hn h.2⟩
  | call c hd _ _ k ih => intro Q E p s hn h; obtain ⟨r, s', hr, h⟩ := h; exact ⟨r, s', hr, ih r Q E p s' (hn.trans (runs_grown hr)) h⟩
  | newGen c k ih => intro Q E p s hn h; exact ih _ Q E p _ ⟨hn.1, by simpa using Nat.le_succ_of_le hn.2⟩ h
  | resume g r _ k ih => intro Q E p s hn h; obtain ⟨res, s', hw, h⟩ := h; exact ⟨res, s', hw, ih res Q E p s' (hn.trans (wakes_grown hw)) h⟩

theorem wpAny_grow {α : Type} {M : Model} {A : Around} {s : Shared} {t : Sem α} {Q : α → Shared → Prop} {E : Value → Shared → Prop}
    (h : wpAny M A t (fun a s' => Grown s s' → Q a s') E s) : wpAny M A t Q E s :=
  fun Γ p hΓ => Sem.wp_mono M Γ t (fun _ _ _ x => x.2 x.1) (fun _ _ _ x => x.2) p s (wp_grown M Γ s t _ _ p s (.refl s) (h Γ p hΓ))
end Mine
open PySem PySem.W PyProof.Rows
set_option Elab.async false
namespace Mine

/-- plain values: what the law's own data are -/
inductive PV where
  | none
  | bool (b : Bool)
  | int (i : Int)
  | str (x : List Nat)
  | tup (xs : List PV)
  | ref (a : Nat)
  | rng (lo hi : Int)

/-- a list of the abstract heap: its items, and whether it may be written -/
structure LO where
  items : List PV
  own : Bool

abbrev AH := Nat → Option LO
abbrev AEnv := Nat → Option PV

def upd {α : Type} (f : Nat → Option α) (k : Nat) (v : α) : Nat → Option α := fun j => if j = k then some v else f j

theorem upd_same {α : Type} (f : Nat → Option α) (k : Nat) (v : α) : upd f k v k = some v := by simp [upd]
theorem upd_other {α : Type} (f : Nat → Option α) {k j : Nat} (v : α) (h : j ≠ k) : upd f k v j = f j := by simp [upd, h]

/-- an object that is never written: a tuple, a range -/
def Imm (h : Heap) (a : Addr) (o : Obj) : Prop := h.get? a = some o ∧ ((o.cls = .type "tuple" ∧ ∃ vs n, o.data = .seq vs n) ∨ (o.cls = .type "range" ∧ ∃ vs, o.data = .fields vs))

mutual
inductive VRel (h : Heap) : Value → PV → Prop
  | none : VRel h .none .none
  | bool (b : Bool) : VRel h (.bool b) (.bool b)
  | int (i : Int) (t : Tok) : VRel h (.int i t) (.int i)
  | str (x : List Nat) (t : Tok) : (∀ c ∈ x, c < 0x110000) → VRel h (.str ⟨x.toArray⟩ t) (.str x)
  | tup {a : Addr} {vs : List Value} {n : Nat} {ps : List PV} : IsT h a vs.toArray n → VAll h vs ps → VRel h (.ref a) (.tup ps)
  | ref (a : Addr) : VRel h (.ref a) (.ref a)
  | rng {a : Addr} {lo hi : Int} {t u v : Tok} : IsRange h a lo hi 1 t u v → VRel h (.ref a) (.rng lo hi)
inductive VAll (h : Heap) : List Value → List PV → Prop
  | nil : VAll h [] []
  | cons {v : Value} {p : PV} {vs : List Value} {ps : List PV} : VRel h v p → VAll h vs ps → VAll h (v :: vs) (p :: ps)
end

mutual
theorem VRel.mono {h h' : Heap} (hk : ∀ a o, Imm h a o → h'.get? a = some o) : ∀ {v : Value} {p : PV}, VRel h v p → VRel h' v p
  | _, _, .none => .none
  | _, _, .bool b => .bool b
  | _, _, .int i t => .int i t
  | _, _, .str x t hx => .str x t hx
  | _, _, .tup ht hv => .tup (hk _ _ ⟨ht, .inl ⟨rfl, _, _, rfl⟩⟩) (VAll.mono hk hv)
  | _, _, .ref a => .ref a
  | _, _, .rng hr => .rng (hk _ _ ⟨hr, .inr ⟨rfl, _, rfl⟩⟩)
theorem VAll.mono {h h' : Heap} (hk : ∀ a o, Imm h a o → h'.get? a = some o) : ∀ {vs : List Value} {ps : List PV}, VAll h vs ps → VAll h' vs ps
  | _, _, .nil => .nil
  | _, _, .cons hv hr => .cons (VRel.mono hk hv) (VAll.mono hk hr)
end

theorem VAll.length {h : Heap} : ∀ {vs : List Value} {ps : List PV}, VAll h vs ps → vs.length = ps.length
  | _, _, .nil => rfl
  | _, _, .cons _ hr => by simp [VAll.length hr]
theorem VAll.append {h : Heap} : ∀ {vs ws : List Value} {ps qs : List PV}, VAll h vs ps → VAll h ws qs → VAll h (vs ++ ws) (ps ++ qs)
  | _, _, _, _, .nil, k => k
  | _, _, _, _, .cons hv hr, k => .cons hv (VAll.append hr k)
theorem VAll.one {h : Heap} {v : Value} {p : PV} (x : VRel h v p) : VAll h [v] [p] := .cons x .nil
theorem VAll.get {h : Heap} : ∀ {vs : List Value} {ps : List PV} {k : Nat} {p : PV}, VAll h vs ps → ps[k]? = some p → ∃ v, vs[k]? = some v ∧ VRel h v p
  | _, _, _, _, .nil, e => by simp at e
  | _, _, 0, _, .cons hv _, e => by simp at e; subst e; exact ⟨_, rfl, hv⟩
  | _, _, k + 1, _, .cons _ hr, e => by
    obtain ⟨v, h1, h2⟩ := VAll.get (k := k) hr (by simpa using e)
    exact ⟨v, by simpa using h1, h2⟩
/-- the concrete heap bears the abstract one over the base -/
structure HR (base : Heap) (H : AH) (h : Heap) : Prop where
  keep : ∀ b o, base.get? b = some o → h.get? b = some o
  list : ∀ a x, H a = some x → ∃ vs n, IsL h a vs n ∧ VAll h vs.toList x.items
  new : ∀ a x, H a = some x → x.own = true → base.get? a = none

structure St (base : Heap) (H : AH) (s : Shared) : Prop where
  hr : HR base H s.heap
  bare : AllBare s.gens

/-- what a step leaves as it was: all but the writable lists, and what X (addresses) and Y (generators) free -/
structure Ext (X Y : Nat → Prop) (H : AH) (s : Shared) (H' : AH) (s' : Shared) : Prop where
  keep : ∀ a o, s.heap.get? a = some o → ¬ X a → (∀ x, H a = some x → x.own = false) → s'.heap.get? a = some o
  size : s.heap.objs.size ≤ s'.heap.objs.size
  dom : ∀ a x, H' a = some x → (∃ y, H a = some y ∧ y.own = x.own) ∨ s.heap.objs.size ≤ a
  gens : ∀ i g, s.gens[i]? = some g → ¬ Y i → s'.gens[i]? = some g
  gsize : s.gens.size ≤ s'.gens.size
  os : s'.os = s.os

abbrev No : Nat → Prop := fun _ => False

theorem Ext.refl {X Y H s} : Ext X Y H s H s := ⟨fun _ _ h _ _ => h, Nat.le_refl _, fun _ x h => .inl ⟨x, h, rfl⟩, fun _ _ h _ => h, Nat.le_refl _, rfl⟩
theorem Ext.trans {X Y H s H' s' H'' s''} (e : Ext X Y H s H' s') (f : Ext X Y H' s' H'' s'') : Ext X Y H s H'' s'' where
  keep a o h hx hn := by
    refine f.keep a o (e.keep a o h hx hn) hx (fun x hx' => ?_)
    rcases e.dom a x hx' with ⟨y, hy, e1⟩ | h0
    · rw [← e1]; exact hn y hy
    · exact absurd (Heap.lt_size h) (Nat.not_lt.mpr h0)
  size := Nat.le_trans e.size f.size
  dom a x hx := by
    rcases f.dom a x hx with ⟨y, hy, e1⟩ | h0
    · rcases e.dom a y hy with ⟨z, hz, e2⟩ | h1
      · exact .inl ⟨z, hz, e2.trans e1⟩
      · exact .inr h1
    · exact .inr (Nat.le_trans e.size h0)
  gens i g h hy := f.gens i g (e.gens i g h hy) hy
  gsize := Nat.le_trans e.gsize f.gsize
  os := f.os.trans e.os
theorem Ext.mono {X Y X' Y' : Nat → Prop} {H s H' s'} (e : Ext X Y H s H' s') (hX : ∀ a, X a → X' a) (hY : ∀ a, Y a → Y' a) : Ext X' Y' H s H' s' :=
  ⟨fun a o h hx hn => e.keep a o h (fun q => hx (hX a q)) hn, e.size, e.dom, fun i g h hy => e.gens i g h (fun q => hy (hY i q)), e.gsize, e.os⟩
theorem Ext.of_no {X Y : Nat → Prop} {H s H' s'} (e : Ext No No H s H' s') : Ext X Y H s H' s' := e.mono (fun _ h => h.elim) (fun _ h => h.elim)
/-- what is new since s may be freed -/
theorem Ext.then_new {X Y X' Y' : Nat → Prop} {H s H' s' H'' s''} (e : Ext X Y H s H' s') (f : Ext X' Y' H' s' H'' s'') (hX : ∀ a, X' a → X a ∨ s.heap.objs.size ≤ a) (hY : ∀ i, Y' i → Y i ∨ s.gens.size ≤ i) : Ext X Y H s H'' s'' where
  keep a o h hx hn := by
    refine f.keep a o (e.keep a o h hx hn) (fun q => ?_) (fun x hx' => ?_)
    · rcases hX a q with q | q
      · exact hx q
      · exact absurd (Heap.lt_size h) (Nat.not_lt.mpr q)
    · rcases e.dom a x hx' with ⟨y, hy, e1⟩ | h0
      · rw [← e1]; exact hn y hy
      · exact absurd (Heap.lt_size h) (Nat.not_lt.mpr h0)
  size := Nat.le_trans e.size f.size
  dom a x hx := by
    rcases f.dom a x hx with ⟨y, hy, e1⟩ | h0
    · rcases e.dom a y hy with ⟨z, hz, e2⟩ | h1
      · exact .inl ⟨z, hz, e2.trans e1⟩
      · exact .inr h1
    · exact .inr (Nat.le_trans e.size h0)
  gens i g h hy := by
    refine f.gens i g (e.gens i g h hy) (fun q => ?_)
    rcases hY i q with q | q
    · exact hy q
    · have := (Array.getElem?_eq_some_iff.mp h).1; omega
  gsize := Nat.le_trans e.gsize f.gsize
  os := f.os.trans e.os

section
variable {base : Heap} {X Y : Nat → Prop} {H H' : AH} {s s' : Shared}

/-- an object that is no list stays -/
theorem St.stay (S : St base H s) (e : Ext X Y H s H' s') {a : Addr} {o : Obj} (h : s.heap.get? a = some o) (hx : ¬ X a) (hc : o.cls ≠ .type "list") : s'.heap.get? a = some o := by
  refine e.keep a o h hx fun x hx' => ?_
  obtain ⟨vs, n, hl, _⟩ := S.hr.list a x hx'
  rw [show s.heap.get? a = _ from hl] at h
  cases h
  exact absurd rfl hc
theorem St.stayI (S : St base H s) (e : Ext X Y H s H' s') {a : Addr} {o : Obj} (h : Imm s.heap a o) (hx : ¬ X a) : s'.heap.get? a = some o :=
  S.stay e h.1 hx (by rcases h.2 with q | q <;> rw [q.1] <;> simp)
theorem VRel.ext {v : Value} {p : PV} (x : VRel s.heap v p) (S : St base H s) (e : Ext X Y H s H' s') (hX : ∀ a o, Imm s.heap a o → ¬ X a) : VRel s'.heap v p :=
  x.mono fun a o h => S.stayI e h (hX a o h)
theorem VAll.ext {v : List Value} {p : List PV} (x : VAll s.heap v p) (S : St base H s) (e : Ext X Y H s H' s') (hX : ∀ a o, Imm s.heap a o → ¬ X a) : VAll s'.heap v p :=
  x.mono fun a o h => S.stayI e h (hX a o h)
theorem VRel.ext0 {v : Value} {p : PV} (x : VRel s.heap v p) (S : St base H s) (e : Ext No No H s H' s') : VRel s'.heap v p := x.ext S e fun _ _ _ h => h
theorem VAll.ext0 {v : List Value} {p : List PV} (x : VAll s.heap v p) (S : St base H s) (e : Ext No No H s H' s') : VAll s'.heap v p := x.ext S e fun _ _ _ h => h
end

/-- the frame bears the abstract one: N numbers the names -/
def Holds (env : Env) (h : Heap) (m : Str → Option Value) (x : Str) (v : Value) : Prop :=
  (env.kindOf x = some .local ∧ m x = some v) ∨ ((env.kindOf x = some .cell ∨ env.kindOf x = some .free) ∧ ∃ c, env.cells.lookup x = some c ∧ h.IsCell c (some v))

structure ER (base : Heap) (N : List Str) (env : Env) (ρ : AEnv) (h : Heap) : Prop where
  names : ∃ m, h.Ns env.locals m ∧ ∀ k p, ρ k = some p → ∃ x v, N[k]? = some x ∧ VRel h v p ∧ Holds env h m x v
  cells : ∀ x c, env.cells.lookup x = some c → ∃ v, h.IsCell c v
  apart : env.cells.Pairwise fun x y => x.2 ≠ y.2
  new : base.get? env.locals = none
  cnew : ∀ x c, env.cells.lookup x = some c → base.get? c = none

theorem ns_no_list {h : Heap} {a : Addr} {m : Str → Option Value} (hn : h.Ns a m) : ∀ vs n, ¬ IsL h a vs n := by
  intro vs n hl
  obtain ⟨o, es, ep, ho, hd, _⟩ := hn
  rw [show h.get? a = _ from hl] at ho; cases ho; cases hd
theorem cell_no_list {h : Heap} {a : Addr} {v : Option Value} (hn : h.IsCell a v) : ∀ vs n, ¬ IsL h a vs n := by
  intro vs n hl
  obtain ⟨o, ho, hd⟩ := hn
  rw [show h.get? a = _ from hl] at ho; cases ho; cases hd

section
variable {base : Heap} {N : List Str} {env : Env} {ρ : AEnv} {X Y : Nat → Prop} {H H' : AH} {s s' : Shared}
theorem St.stay' (S : St base H s) (e : Ext X Y H s H' s') {a : Addr} {o : Obj} (h : s.heap.get? a = some o) (hx : ¬ X a) (hl : ∀ vs n, ¬ IsL s.heap a vs n) : s'.heap.get? a = some o := by
  refine e.keep a o h hx fun x hx' => ?_
  obtain ⟨vs, n, hl', _⟩ := S.hr.list a x hx'
  exact absurd hl' (hl vs n)
theorem ns_stays (S : St base H s) (e : Ext X Y H s H' s') {a : Addr} {m : Str → Option Value} (h : s.heap.Ns a m) (hx : ¬ X a) : s'.heap.Ns a m := by
  obtain ⟨o, es, ep, ho, r⟩ := id h
  exact ⟨o, es, ep, S.stay' e ho hx (ns_no_list h), r⟩
theorem cell_stays (S : St base H s) (e : Ext X Y H s H' s') {a : Addr} {v : Option Value} (h : s.heap.IsCell a v) (hx : ¬ X a) : s'.heap.IsCell a v := by
  obtain ⟨o, ho, r⟩ := id h
  exact ⟨o, S.stay' e ho hx (cell_no_list h), r⟩
theorem ER.ext (R : ER base N env ρ s.heap) (S : St base H s) (e : Ext X Y H s H' s') (hX : ∀ a o, Imm s.heap a o → ¬ X a) (hL : ¬ X env.locals) (hC : ∀ x c, env.cells.lookup x = some c → ¬ X c) : ER base N env ρ s'.heap where
  names := by
    obtain ⟨m, hn, hm⟩ := R.names
    refine ⟨m, ns_stays S e hn hL, fun k p hk => ?_⟩
    obtain ⟨x, v, h1, h2, h3⟩ := hm k p hk
    refine ⟨x, v, h1, h2.ext S e hX, ?_⟩
    rcases h3 with h3 | ⟨h3, c, h4, h5⟩
    · exact .inl h3
    · exact .inr ⟨h3, c, h4, cell_stays S e h5 (hC x c h4)⟩
  cells x c h := let ⟨v, hv⟩ := R.cells x c h; ⟨v, cell_stays S e hv (hC x c h)⟩
  apart := R.apart
  new := R.new
  cnew := R.cnew
theorem ER.ext' (R : ER base N env ρ s.heap) (S : St base H s) (e : Ext X Y H s H' s') (hX : ∀ a o, Imm s.heap a o → s'.heap.get? a = some o) (hL : ¬ X env.locals) (hC : ∀ x c, env.cells.lookup x = some c → ¬ X c) : ER base N env ρ s'.heap where
  names := by
    obtain ⟨m, hn, hm⟩ := R.names
    refine ⟨m, ns_stays S e hn hL, fun k p hk => ?_⟩
    obtain ⟨x, v, h1, h2, h3⟩ := hm k p hk
    refine ⟨x, v, h1, h2.mono hX, ?_⟩
    rcases h3 with h3 | ⟨h3, c, h4, h5⟩
    · exact .inl h3
    · exact .inr ⟨h3, c, h4, cell_stays S e h5 (hC x c h4)⟩
  cells x c h := let ⟨v, hv⟩ := R.cells x c h; ⟨v, cell_stays S e hv (hC x c h)⟩
  apart := R.apart
  new := R.new
  cnew := R.cnew
theorem ER.ext0 (R : ER base N env ρ s.heap) (S : St base H s) (e : Ext No No H s H' s') : ER base N env ρ s'.heap := R.ext S e (fun _ _ _ h => h) (fun h => h) (fun _ _ _ h => h)
end

/-- the room around: depth and C units for n more levels -/
structure AOk (n : Nat) (A : Around) : Prop where
  handled : A.handled = none
  depth : A.depth + n ≤ 900
  units : A.units + 10 * n ≤ 9000

theorem AOk.of_le {n m : Nat} {A : Around} (h : AOk n A) (hm : m ≤ n) : AOk m A := ⟨h.handled, by have := h.depth; omega, by have := h.units; omega⟩
theorem AOk.deeper {n : Nat} {A : Around} (h : AOk (n + 1) A) (env : Env) : AOk n (A.deeper env) := ⟨h.handled, by have := h.depth; show A.depth + 1 + n ≤ 900; omega, by have := h.units; show A.units + 3 + 10 * n ≤ 9000; omega⟩
theorem AOk.in1 {n : Nat} {A : Around} (h : AOk (n + 1) A) : AOk n A.in1 := ⟨h.handled, by have := h.depth; show A.depth + n ≤ 900; omega, by have := h.units; show A.units + 1 + 10 * n ≤ 9000; omega⟩

/-- a block's names, and those that it has from around -/
structure SE extends Scope where
  caps : List Str

structure EOk (sc : SE) (env : Env) : Prop where
  scope : env.scope = sc.toScope
  kind : sc.kind = .function
  globals : env.globals = mainGlobals
  builtins : env.builtins = builtinsNs
  cells : ∀ x, sc.names.lookup x = some .cell → ∃ a, env.cells.lookup x = some a ∧ (x ∉ sc.caps → env.locals < a)
theorem EOk.kindOf {sc env} (h : EOk sc env) (x : Str) : env.kindOf x = sc.names.lookup x := by unfold Env.kindOf; rw [h.scope]
theorem EOk.skind {sc env} (h : EOk sc env) : env.scope.kind = .function := by rw [h.scope]; exact h.kind

abbrev AE := (PV → AH → Prop) → AEnv → AH → Prop
abbrev AT := (Bool → AH → Prop) → AEnv → AH → Prop
abbrev AL := (List PV → AH → Prop) → AEnv → AH → Prop
inductive Fl where
  | next | brk | cont
  | ret (p : PV)
abbrev AS := (Fl → AEnv → AH → Prop) → AEnv → AH → Prop

inductive FRel (h : Heap) : Flow → Fl → Prop
  | next : FRel h .next .next
  | brk : FRel h .brk .brk
  | cont : FRel h .cont .cont
  | ret {v : Value} {p : PV} : VRel h v p → FRel h (.ret v) (.ret p)

/-- the run's own constants -/
structure Cx where
  prog : Program
  w : World
  base : Heap
  q : Program
  loose : List Str
  mean : ExcName → Option Value
  mg : Str → Option Value
  mb : Str → Option Value
  top : Top q loose mean mg mb base
  N : List Str
  nodup : N.Nodup

/-- a step's end: a value borne, the heap borne, all else as it was -/
def Res (c : Cx) (H : AH) (s : Shared) (Q : PV → AH → Prop) (v : Value) (s' : Shared) : Prop :=
  ∃ p H', VRel s'.heap v p ∧ St c.base H' s' ∧ Ext No No H s H' s' ∧ Q p H'
def ResL (c : Cx) (H : AH) (s : Shared) (Q : List PV → AH → Prop) (vs : List Value) (s' : Shared) : Prop :=
  ∃ ps H', VAll s'.heap vs ps ∧ St c.base H' s' ∧ Ext No No H s H' s' ∧ Q ps H'
def ResB (c : Cx) (H : AH) (s : Shared) (Q : Bool → AH → Prop) (b : Bool) (s' : Shared) : Prop :=
  ∃ H', St c.base H' s' ∧ Ext No No H s H' s' ∧ Q b H'
def Own (env : Env) (a : Nat) : Prop := a = env.locals ∨ (env.locals < a ∧ ∃ x, env.cells.lookup x = some a)
def ResS (c : Cx) (env : Env) (H : AH) (s : Shared) (Q : Fl → AEnv → AH → Prop) (f : Flow) (s' : Shared) : Prop :=
  ∃ fl ρ' H', FRel s'.heap f fl ∧ ER c.base c.N env ρ' s'.heap ∧ St c.base H' s' ∧ Ext (Own env) No H s H' s' ∧ Q fl ρ' H'

def SoundE (c : Cx) (n : Nat) (sc : SE) (e : Expr) (ae : AE) : Prop :=
  ∀ (A : Around) (env : Env) (ρ : AEnv) (H : AH) (s : Shared) (Q : PV → AH → Prop) (E : Value → Shared → Prop), AOk n A → EOk sc env → ER c.base c.N env ρ s.heap → St c.base H s → ae Q ρ H →
    wpAny (model c.prog c.w) A (eval e env) (Res c H s Q) E s
def SoundL (c : Cx) (n : Nat) (sc : SE) (es : List Expr) (al : AL) : Prop :=
  ∀ (A : Around) (env : Env) (ρ : AEnv) (H : AH) (s : Shared) (Q : List PV → AH → Prop) (E : Value → Shared → Prop) (pos : Pos), AOk n A → EOk sc env → ER c.base c.N env ρ s.heap → St c.base H s → al Q ρ H →
    wpAny (model c.prog c.w) A (spliced (backTo pos (starEach es env))) (ResL c H s Q) E s
def SoundT (c : Cx) (n : Nat) (sc : SE) (e : Expr) (a : AT) : Prop :=
  ∀ (A : Around) (env : Env) (ρ : AEnv) (H : AH) (s : Shared) (Q : Bool → AH → Prop) (E : Value → Shared → Prop), AOk n A → EOk sc env → ER c.base c.N env ρ s.heap → St c.base H s → a Q ρ H →
    wpAny (model c.prog c.w) A (isTrue e env (eval e env)) (ResB c H s Q) E s
def SoundS (c : Cx) (n : Nat) (sc : SE) (st : Stmt) (a : AS) : Prop :=
  ∀ (A : Around) (env : Env) (ρ : AEnv) (H : AH) (s : Shared) (Q : Fl → AEnv → AH → Prop) (E : Value → Shared → Prop), AOk n A → EOk sc env → ER c.base c.N env ρ s.heap → St c.base H s → a Q ρ H →
    wpAny (model c.prog c.w) A (exec st env) (ResS c env H s Q) E s
def SoundB (c : Cx) (n : Nat) (sc : SE) (sts : List Stmt) (a : AS) : Prop :=
  ∀ (A : Around) (env : Env) (ρ : AEnv) (H : AH) (s : Shared) (Q : Fl → AEnv → AH → Prop) (E : Value → Shared → Prop), AOk n A → EOk sc env → ER c.base c.N env ρ s.heap → St c.base H s → a Q ρ H →
    wpAny (model c.prog c.w) A (execs sts env) (ResS c env H s Q) E s
end Mine
open PySem PySem.W PyProof.Rows
set_option Elab.async false
namespace Mine

section
variable {base : Heap} {X Y : Nat → Prop} {H H' : AH} {s s' : Shared}

theorem St.tok (S : St base H s) (tk : Nat) : St base H { s with toks := tk } := ⟨S.hr, S.bare⟩
theorem Ext.tok (tk : Nat) : Ext X Y H s H { s with toks := tk } := ⟨fun _ _ h _ _ => h, Nat.le_refl _, fun _ x h => .inl ⟨x, h, rfl⟩, fun _ _ h _ => h, Nat.le_refl _, rfl⟩

theorem St.lt (S : St base H s) {a : Nat} {x : LO} (h : H a = some x) : a < s.heap.objs.size := by
  obtain ⟨vs, n, hl, _⟩ := S.hr.list a x h
  exact Heap.lt_size hl
theorem St.fresh (S : St base H s) {a : Nat} (h : s.heap.objs.size ≤ a) : H a = none := by
  cases hq : H a with
  | none => rfl
  | some x => exact absurd (S.lt hq) (Nat.not_lt.mpr h)
theorem St.bsize (S : St base H s) {a : Nat} (h : s.heap.objs.size ≤ a) : base.get? a = none := by
  cases hq : base.get? a with
  | none => rfl
  | some o => exact absurd (Heap.lt_size (S.hr.keep a o hq)) (Nat.not_lt.mpr h)

/-- the heap changed only at X, where nothing of ours lies -/
theorem St.of_keep {h' : Heap} {tk : Nat} (S : St base H s) (hk : ∀ b o, ¬ X b → s.heap.get? b = some o → h'.get? b = some o)
    (hB : ∀ b, X b → base.get? b = none) (hL : ∀ b, X b → ∀ vs n, ¬ IsL s.heap b vs n) (hT : ∀ b, X b → ∀ o, ¬ Imm s.heap b o) : St base H { s with heap := h', toks := tk } where
  hr := {
    keep := fun b o h => hk b o (fun q => by rw [hB b q] at h; cases h) (S.hr.keep b o h)
    list := fun a x h => by
      obtain ⟨vs, n, hl, hv⟩ := S.hr.list a x h
      exact ⟨vs, n, hk a _ (fun q => hL a q vs n hl) hl, hv.mono fun b o ht => hk b _ (fun q => hT b q o ht) ht.1⟩
    new := S.hr.new }
  bare := S.bare
theorem Ext.of_keep {h' : Heap} {tk : Nat} (hk : ∀ b o, ¬ X b → s.heap.get? b = some o → h'.get? b = some o) (hz : s.heap.objs.size ≤ h'.objs.size) : Ext X Y H s H { s with heap := h', toks := tk } :=
  ⟨fun a o h hx _ => hk a o hx h, hz, fun _ x h => .inl ⟨x, h, rfl⟩, fun _ _ h _ => h, Nat.le_refl _, rfl⟩

theorem St.push (S : St base H s) (o : Obj) : St base H { s with heap := s.heap.push o } :=
  S.of_keep (X := No) (tk := s.toks) (fun _ _ _ h => Heap.get?_push_of_some o h) (fun _ h => h.elim) (fun _ h => h.elim) (fun _ h => h.elim)
theorem Ext.push (o : Obj) : Ext X Y H s H { s with heap := s.heap.push o } :=
  Ext.of_keep (tk := s.toks) (fun _ _ _ h => Heap.get?_push_of_some o h) (by simp)

theorem St.newList (S : St base H s) {vs : Array Value} {ps : List PV} (hv : VAll s.heap vs.toList ps) :
    St base (upd H s.heap.objs.size ⟨ps, true⟩) { s with heap := s.heap.push { cls := .type "list", data := .seq vs } } where
  hr := {
    keep := fun b o h => Heap.get?_push_of_some _ (S.hr.keep b o h)
    list := fun a x h => by
      by_cases ha : a = s.heap.objs.size
      · subst ha
        rw [upd_same] at h; cases h
        exact ⟨vs, 0, IsL.new _ _, hv.mono fun b o ht => Heap.get?_push_of_some _ ht.1⟩
      · rw [upd_other _ _ ha] at h
        obtain ⟨ws, n, hl, hw⟩ := S.hr.list a x h
        exact ⟨ws, n, IsL.push hl _, hw.mono fun b o ht => Heap.get?_push_of_some _ ht.1⟩
    new := fun a x h ho => by
      by_cases ha : a = s.heap.objs.size
      · subst ha; exact S.bsize (Nat.le_refl _)
      · rw [upd_other _ _ ha] at h; exact S.hr.new a x h ho }
  bare := S.bare
theorem Ext.newList (o : Obj) (x : LO) : Ext X Y H s (upd H s.heap.objs.size x) { s with heap := s.heap.push o } where
  keep a o' h _ _ := Heap.get?_push_of_some _ h
  size := by simp
  dom a y h := by
    by_cases ha : a = s.heap.objs.size
    · exact .inr (by omega)
    · rw [upd_other _ _ ha] at h; exact .inl ⟨y, h, rfl⟩
  gens _ _ h _ := h
  gsize := Nat.le_refl _
  os := rfl

theorem St.setList (S : St base H s) {a : Addr} {x : LO} {vs' : Array Value} {n' : Nat} {ps : List PV} {h' : Heap} {tk : Nat} (hx : H a = some x) (ho : x.own = true) (hl : IsL h' a vs' n') (hs : Heap.SameBut a s.heap h') (hv : VAll s.heap vs'.toList ps) :
    St base (upd H a ⟨ps, true⟩) { s with heap := h', toks := tk } := by
  have hT : ∀ b o, Imm s.heap b o → h'.get? b = some o := fun b o ht => by
    have : b ≠ a := by
      rintro rfl
      obtain ⟨us, m, hl', _⟩ := S.hr.list b x hx
      have e := hl'.symm.trans ht.1
      cases e
      rcases ht.2 with q | q <;> simp at q
    exact (hs.2 b this).trans ht.1
  refine ⟨⟨fun b o h => ?_, fun b y h => ?_, fun b y h hy => ?_⟩, S.bare⟩
  · have : b ≠ a := by rintro rfl; rw [S.hr.new b x hx ho] at h; cases h
    exact (hs.2 b this).trans (S.hr.keep b o h)
  · by_cases hb : b = a
    · subst hb; rw [upd_same] at h; cases h; exact ⟨vs', n', hl, hv.mono hT⟩
    · rw [upd_other _ _ hb] at h
      obtain ⟨ws, n, hl', hw⟩ := S.hr.list b y h
      exact ⟨ws, n, (hs.2 b hb).trans hl', hw.mono hT⟩
  · by_cases hb : b = a
    · subst hb; exact S.hr.new b x hx ho
    · rw [upd_other _ _ hb] at h; exact S.hr.new b y h hy
theorem Ext.setList {a : Addr} {x : LO} {ps : List PV} {h' : Heap} {tk : Nat} (hx : H a = some x) (ho : x.own = true) (hs : Heap.SameBut a s.heap h') : Ext X Y H s (upd H a ⟨ps, true⟩) { s with heap := h', toks := tk } where
  keep b o h _ hn := by
    have : b ≠ a := by rintro rfl; rw [hn x hx] at ho; cases ho
    exact (hs.2 b this).trans h
  size := Nat.le_of_eq hs.1.symm
  dom b y h := by
    by_cases hb : b = a
    · subst hb; rw [upd_same] at h; cases h; exact .inl ⟨x, hx, ho⟩
    · rw [upd_other _ _ hb] at h; exact .inl ⟨y, h, rfl⟩
  gens _ _ h _ := h
  gsize := Nat.le_refl _
  os := rfl
end

section
variable {c : Cx} {H : AH} {s : Shared} {Q : PV → AH → Prop}
theorem res_tok {v : Value} {p : PV} {tk : Nat} (S : St c.base H s) (hv : VRel s.heap v p) (hq : Q p H) : Res c H s Q v { s with toks := tk } := ⟨p, H, hv, S.tok tk, Ext.tok tk, hq⟩
theorem res_pure {v : Value} {p : PV} (S : St c.base H s) (hv : VRel s.heap v p) (hq : Q p H) : Res c H s Q v s := ⟨p, H, hv, S, Ext.refl, hq⟩
theorem Res.trans {H' : AH} {s' : Shared} {v : Value} {s'' : Shared} (e : Ext No No H s H' s') (r : Res c H' s' Q v s'') : Res c H s Q v s'' :=
  let ⟨p, H'', h1, h2, h3, h4⟩ := r; ⟨p, H'', h1, h2, e.trans h3, h4⟩
theorem ResB.trans {H' : AH} {s' : Shared} {Q : Bool → AH → Prop} {v : Bool} {s'' : Shared} (e : Ext No No H s H' s') (r : ResB c H' s' Q v s'') : ResB c H s Q v s'' :=
  let ⟨H'', h2, h3, h4⟩ := r; ⟨H'', h2, e.trans h3, h4⟩
theorem res_tuple {vs : List Value} {ps : List PV} (S : St c.base H s) (hv : VAll s.heap vs ps) (hq : Q (.tup ps) H) : Res c H s Q (.ref s.heap.objs.size) { s with heap := s.heap.push { cls := .type "tuple", data := .seq vs.toArray } } :=
  ⟨.tup ps, H, .tup (IsT.new _ _) (hv.mono fun b o ht => Heap.get?_push_of_some _ ht.1), S.push _, Ext.push _, hq⟩
theorem res_list {vs : Array Value} {ps : List PV} (S : St c.base H s) (hv : VAll s.heap vs.toList ps) (hq : ∀ a, H a = none → Q (.ref a) (upd H a ⟨ps, true⟩)) : Res c H s Q (.ref s.heap.objs.size) { s with heap := s.heap.push { cls := .type "list", data := .seq vs } } :=
  ⟨.ref _, _, .ref _, S.newList hv, Ext.newList _ _, hq _ (S.fresh (Nat.le_refl _))⟩
end

/-- a new list -/
def newL (ps : List PV) (Q : PV → AH → Prop) (H : AH) : Prop := ∀ a, H a = none → Q (.ref a) (upd H a ⟨ps, true⟩)

-- names, constants
def aVar (k : Nat) : AE := fun Q ρ H => match ρ k with | some p => Q p H | none => False
def aCst (p : PV) : AE := fun Q _ H => Q p H

section
variable {c : Cx} {n : Nat} {sc : SE}
theorem load_var {A : Around} {env : Env} {ρ : AEnv} {s : Shared} {Q : Value → Shared → Prop} {E : Value → Shared → Prop} {x : Str} {k : Nat} {p : PV} (he : EOk sc env) (R : ER c.base c.N env ρ s.heap) (hx : c.N[k]? = some x) (hp : ρ k = some p)
    (h : ∀ v, VRel s.heap v p → Q v s) (hn : (x == ("__classdict__" : Str)) = false := by decide) : wpAny (model c.prog c.w) A (loadName env x) Q E s := by
  obtain ⟨m, hm, hk⟩ := R.names
  obtain ⟨y, v, h1, h2, h3⟩ := hk k p hp
  rw [hx] at h1; cases h1
  rcases h3 with ⟨k1, k2⟩ | ⟨k1 | k1, cc, k2, k3⟩
  · exact wpAny_loadName_local he.skind k1 hm k2 (h v h2)
  · exact wpAny_loadName_cell he.skind k1 k2 k3 (h v h2)
  · exact wpAny_loadName_free he.skind k1 k2 k3 (h v h2) hn

theorem sound_var {x : Str} {pos : Pos} {k : Nat} (hx : c.N[k]? = some x) (hd : (x == ("__debug__" : Str)) = false := by decide) (hn : (x == ("__classdict__" : Str)) = false := by decide) : SoundE c n sc (.Name x pos) (aVar k) := by
  intro A env ρ H s Q E hA he R S h
  unfold aVar at h
  cases hp : ρ k with
  | none => rw [hp] at h; exact h.elim
  | some p =>
    rw [hp] at h
    exact wpAny_Name (load_var he R hx hp (fun v hv => res_pure S hv h) hn) hd

theorem sound_none {k : Nat} {pos : Pos} : SoundE c n sc (.Constant .none k pos) (aCst .none) := fun _ _ _ _ _ _ _ _ _ _ S h => wpAny_Constant_none (res_pure S .none h)
theorem sound_bool {b : Bool} {k : Nat} {pos : Pos} : SoundE c n sc (.Constant (.bool b) k pos) (aCst (.bool b)) := fun _ _ _ _ _ _ _ _ _ _ S h => wpAny_Constant_bool (res_pure S (.bool b) h)
theorem sound_int {i : Int} {k : Nat} {pos : Pos} : SoundE c n sc (.Constant (.int i) k pos) (aCst (.int i)) := fun _ _ _ _ _ _ _ _ _ _ S h => wpAny_Constant_int (res_tok S (.int i _) h)
theorem sound_str {x : Str} {y : List Nat} {k : Nat} {pos : Pos} (hx : x.cps.toList = y := by rfl) (hy : (y.all fun c => c < 0x110000) = true := by rfl) : SoundE c n sc (.Constant (.str x) k pos) (aCst (.str y)) := by
  intro A env ρ H s Q E hA he R S h
  refine wpAny_Constant_str (res_tok (p := .str y) S ?_ h)
  have : x = ⟨y.toArray⟩ := by subst hx; cases x; simp
  rw [this]
  exact .str y _ (by simpa using hy)

theorem seq1 {A : Around} {env : Env} {ρ : AEnv} {H : AH} {s : Shared} {E : Value → Shared → Prop} {l : Expr} {al : AE} {P : Value → Shared → Prop} {F : PV → AH → Prop} (hl : SoundE c n sc l al) (hA : AOk n A) (he : EOk sc env) (R : ER c.base c.N env ρ s.heap) (S : St c.base H s)
    (h : al F ρ H) (k : ∀ va a H1 s1, VRel s1.heap va a → ER c.base c.N env ρ s1.heap → St c.base H1 s1 → Ext No No H s H1 s1 → F a H1 → P va s1) :
    wpAny (model c.prog c.w) A (eval l env) P E s :=
  wpAny_mono (hl A env ρ H s _ E hA he R S h) (fun va s1 ⟨a, H1, h1, S1, e1, q1⟩ => k va a H1 s1 h1 (R.ext0 S e1) S1 e1 q1) fun _ _ x => x
theorem seq2 {A : Around} {env : Env} {ρ : AEnv} {H : AH} {s : Shared} {E : Value → Shared → Prop} {l r : Expr} {al ar : AE} {P : Value → Value → Shared → Prop} {F : PV → PV → AH → Prop} (hl : SoundE c n sc l al) (hr : SoundE c n sc r ar) (hA : AOk n A) (he : EOk sc env) (R : ER c.base c.N env ρ s.heap) (S : St c.base H s)
    (h : al (fun a H1 => ar (fun b H2 => F a b H2) ρ H1) ρ H)
    (k : ∀ va vb a b H2 s2, VRel s2.heap va a → VRel s2.heap vb b → ER c.base c.N env ρ s2.heap → St c.base H2 s2 → Ext No No H s H2 s2 → F a b H2 → P va vb s2) :
    wpAny (model c.prog c.w) A (eval l env) (fun va s1 => wpAny (model c.prog c.w) A (eval r env) (fun vb s2 => P va vb s2) E s1) E s :=
  seq1 hl hA he R S h fun va a _ s1 h1 R1 S1 e1 q1 => seq1 hr hA he R1 S1 q1 fun vb b H2 s2 h2 R2 S2 e2 q2 => k va vb a b H2 s2 (h1.ext0 S1 e2) h2 R2 S2 (e1.trans e2) q2

-- two-place operations
/-- what may be said of a two-place operation's value -/
def SoundOp2 (c : Cx) (n : Nat) (t : Value → Value → Sem Value) (f : PV → PV → (PV → AH → Prop) → AH → Prop) : Prop :=
  ∀ (A : Around) (H : AH) (s : Shared) (va vb : Value) (a b : PV) (Q : PV → AH → Prop) (E : Value → Shared → Prop), AOk n A → VRel s.heap va a → VRel s.heap vb b → St c.base H s → f a b Q H →
    wpAny (model c.prog c.w) A (t va vb) (Res c H s Q) E s
def aBin (f : PV → PV → (PV → AH → Prop) → AH → Prop) (l r : AE) : AE := fun Q ρ H => l (fun a H1 => r (fun b H2 => f a b Q H2) ρ H1) ρ H
def aUn (f : PV → (PV → AH → Prop) → AH → Prop) (l : AE) : AE := fun Q ρ H => l (fun a H1 => f a Q H1) ρ H

theorem sound_bin {l r : Expr} {op : Operator} {pos : Pos} {al ar : AE} {f} (ho : SoundOp2 c n (binaryOp op) f) (hl : SoundE c n sc l al) (hr : SoundE c n sc r ar) : SoundE c n sc (.BinOp l op r pos) (aBin f al ar) := by
  intro A env ρ H s Q E hA he R S h
  refine wpAny_BinOp (seq2 (F := fun a b H2 => f a b Q H2) hl hr hA he R S h ?_)
  intro va vb a b H2 s2 h1 h2 R2 S2 e2 q2
  exact wpAny_mono (ho A H2 s2 va vb a b Q E hA h1 h2 S2 q2) (fun _ _ r => r.trans e2) fun _ _ x => x
/-- a bound on a size -/
def szOk (k : Nat) : Prop := k ≤ 2 ^ 24

def opAdd (a b : PV) (Q : PV → AH → Prop) (H : AH) : Prop := match a, b with
  | .int x, .int y => Q (.int (x + y)) H
  | .str x, .str y => szOk (x.length + y.length) ∧ Q (.str (x ++ y)) H
  | .ref a, .ref b => (match H a, H b with | some x, some y => szOk (x.items.length + y.items.length) ∧ newL (x.items ++ y.items) Q H | _, _ => False)
  | _, _ => False
def opSub (a b : PV) (Q : PV → AH → Prop) (H : AH) : Prop := match a, b with
  | .int x, .int y => Q (.int (x - y)) H
  | _, _ => False
def opMul (a b : PV) (Q : PV → AH → Prop) (H : AH) : Prop := match a, b with
  | .int x, .int y => IntMulOk x y ∧ Q (.int (x * y)) H
  | .str x, .int k => (0 ≤ k ∧ k ≤ 1000 ∧ x.length ≤ 1000) ∧ Q (.str (List.replicate k.toNat x).flatten) H
  | _, _ => False
def opDiv (a b : PV) (Q : PV → AH → Prop) (H : AH) : Prop := match a, b with
  | .int x, .int y => (0 < y ∧ y < 1073741824) ∧ Q (.int (x / y)) H
  | _, _ => False
def opMod (a b : PV) (Q : PV → AH → Prop) (H : AH) : Prop := match a, b with
  | .int x, .int y => 0 < y ∧ Q (.int (x % y)) H
  | _, _ => False

theorem str_app (x y : List Nat) : (⟨x.toArray⟩ : Str) ++ (⟨y.toArray⟩ : Str) = ⟨(x ++ y).toArray⟩ := by
  show Str.mk (x.toArray ++ y.toArray) = _
  simp
theorem str_len (x : List Nat) : (⟨x.toArray⟩ : Str).length = x.length := by
  show x.toArray.size = _
  simp

theorem opAdd_elim {a b : PV} {Q : PV → AH → Prop} {H : AH} (h : opAdd a b Q H) : (∃ x y, a = .int x ∧ b = .int y ∧ Q (.int (x + y)) H) ∨ (∃ x y, a = .str x ∧ b = .str y ∧ szOk (x.length + y.length) ∧ Q (.str (x ++ y)) H) ∨ ∃ i j x y, a = .ref i ∧ b = .ref j ∧ H i = some x ∧ H j = some y ∧ szOk (x.items.length + y.items.length) ∧ newL (x.items ++ y.items) Q H := by
  unfold opAdd at h
  split at h
  · exact .inl ⟨_, _, rfl, rfl, h⟩
  · exact .inr (.inl ⟨_, _, rfl, rfl, h⟩)
  · split at h
    · rename_i e1 e2; exact .inr (.inr ⟨_, _, _, _, rfl, rfl, e1, e2, h⟩)
    · exact h.elim
  · exact h.elim
theorem op_add : SoundOp2 c n (binaryOp .Add) opAdd := by
  intro A H s va vb a b Q E hA h1 h2 S h
  rcases opAdd_elim h with ⟨x, y, rfl, rfl, h⟩ | ⟨x, y, rfl, rfl, h⟩ | ⟨i, j, x, y, rfl, rfl, ha, hb, h⟩
  · cases h1; cases h2; exact add_int (res_tok S (.int _ _) h)
  · cases h1 with
    | str _ t hx =>
    cases h2 with
    | str _ u hy =>
    refine add_str (fun t' tk => ?_) (by rw [str_len, str_len]; exact h.1)
    rw [str_app]
    exact res_tok S (.str _ _ (by simpa [or_imp, forall_and] using ⟨hx, hy⟩)) h.2
  · cases h1; cases h2
    obtain ⟨vs, k, hl, hv⟩ := S.hr.list i x ha
    obtain ⟨ws, k', hl', hv'⟩ := S.hr.list j y hb
    have l1 := hv.length
    have l2 := hv'.length
    refine PySem.P.add_list hl hl' (res_list S (by simpa using hv.append hv') h.2) ?_
    have := h.1; simp only [szOk] at this; rw [sizeLine_eq]
    simp at l1 l2; omega
theorem opSub_elim {a b : PV} {Q : PV → AH → Prop} {H : AH} (h : opSub a b Q H) : ∃ x y, a = .int x ∧ b = .int y ∧ Q (.int (x - y)) H := by
  unfold opSub at h
  split at h
  · exact ⟨_, _, rfl, rfl, h⟩
  · exact h.elim
theorem opMul_elim {a b : PV} {Q : PV → AH → Prop} {H : AH} (h : opMul a b Q H) : (∃ x y, a = .int x ∧ b = .int y ∧ IntMulOk x y ∧ Q (.int (x * y)) H) ∨ ∃ x k, a = .str x ∧ b = .int k ∧ (0 ≤ k ∧ k ≤ 1000 ∧ x.length ≤ 1000) ∧ Q (.str (List.replicate k.toNat x).flatten) H := by
  unfold opMul at h
  split at h
  · exact .inl ⟨_, _, rfl, rfl, h⟩
  · exact .inr ⟨_, _, rfl, rfl, h⟩
  · exact h.elim
theorem opDiv_elim {a b : PV} {Q : PV → AH → Prop} {H : AH} (h : opDiv a b Q H) : ∃ x y, a = .int x ∧ b = .int y ∧ (0 < y ∧ y < 1073741824) ∧ Q (.int (x / y)) H := by
  unfold opDiv at h
  split at h
  · exact ⟨_, _, rfl, rfl, h⟩
  · exact h.elim
theorem opMod_elim {a b : PV} {Q : PV → AH → Prop} {H : AH} (h : opMod a b Q H) : ∃ x y, a = .int x ∧ b = .int y ∧ 0 < y ∧ Q (.int (x % y)) H := by
  unfold opMod at h
  split at h
  · exact ⟨_, _, rfl, rfl, h⟩
  · exact h.elim
theorem op_sub : SoundOp2 c n (binaryOp .Sub) opSub := by
  intro A H s va vb a b Q E hA h1 h2 S h
  obtain ⟨x, y, rfl, rfl, h⟩ := opSub_elim h
  cases h1; cases h2
  exact sub_int (res_tok S (.int _ _) h)
theorem reps_flat (x : List Nat) : ∀ (k : Nat) (acc : Array Nat), ((List.replicate k x.toArray).foldl (· ++ ·) acc).toList = acc.toList ++ (List.replicate k x).flatten
  | 0, acc => by simp
  | k + 1, acc => by simp [List.replicate_succ, reps_flat x k]
theorem txt_mul (x : List Nat) {k : Int} (hk : 0 ≤ k) : Txt.mul ⟨x.toArray⟩ k = ⟨((List.replicate k.toNat x).flatten).toArray⟩ := by
  unfold Txt.mul
  split
  · have : k = 0 := by omega
    subst this; rfl
  · split
    · rename_i h1 h2
      rw [Bool.or_eq_true] at h2
      rcases h2 with h2 | h2
      · have : k = 1 := by simpa using h2
        subst this; simp
      · have : x = [] := by simpa [str_len] using h2
        subst this
        have : ∀ m, (List.replicate m ([] : List Nat)).flatten = [] := fun m => by induction m with | zero => rfl | succ m ih => simp [List.replicate_succ, ih]
        rw [this]
    · have := reps_flat x k.toNat #[]
      simp only [List.nil_append] at this
      rw [← this]
theorem op_mul : SoundOp2 c n (binaryOp .Mult) opMul := by
  intro A H s va vb a b Q E hA h1 h2 S h
  rcases opMul_elim h with ⟨x, y, rfl, rfl, h⟩ | ⟨x, k, rfl, rfl, ⟨k0, k1, k2⟩, h⟩
  · cases h1; cases h2; exact AutoIntOps.mul_0 (res_tok S (.int _ _) h.2) h.1
  · cases h1 with
    | str _ t hx =>
    cases h2
    refine SB.mul ⟨by rw [Bool.or_eq_false_iff]; exact ⟨decide_eq_false (by omega), decide_eq_false (by omega)⟩, fun h1 _ => ?_, fun h1 _ => ?_⟩ fun t' tk => ?_
    · rw [str_len]
      have : (1000 : Int) ≤ (2 ^ 63 - 1) / k := by
        rw [Int.le_ediv_iff_mul_le (by omega)]; omega
      omega
    · rw [str_len]
      unfold Builtin.Str.tooLong
      have : x.length * k.toNat ≤ 1000 * 1000 := Nat.mul_le_mul k2 (by omega)
      exact decide_eq_false (by rw [sizeLine_eq]; omega)
    · rw [txt_mul x k0]
      refine res_tok S (.str _ _ ?_) h
      intro ch hch
      obtain ⟨y, hy, hc⟩ := List.mem_flatten.mp hch
      rw [(List.mem_replicate.mp hy).2] at hc
      exact hx ch hc
theorem op_mod : SoundOp2 c n (binaryOp .Mod) opMod := by
  intro A H s va vb a b Q E hA h1 h2 S h
  obtain ⟨i, j, rfl, rfl, h⟩ := opMod_elim h
  cases h1; cases h2
  refine mod_int (by omega) ?_
  rw [Int.fmod_eq_emod_of_nonneg _ (by omega)]
  exact res_tok S (.int _ _) h.2
theorem op_div : SoundOp2 c n (binaryOp .FloorDiv) opDiv := by
  intro A H s va vb a b Q E hA h1 h2 S h
  obtain ⟨i, j, rfl, rfl, h⟩ := opDiv_elim h
  cases h1; cases h2
  refine floordiv_int (by omega) ?_ (.inl (PyProof.noPylong_small (by omega)))
  rw [Int.fdiv_eq_ediv_of_nonneg _ (by omega)]
  exact res_tok S (.int _ _) h.2
end
end Mine
open PySem PySem.W PyProof.Rows
set_option Elab.async false
set_option linter.unusedVariables false
namespace Mine

-- comparisons
mutual
inductive Rd (H : AH) : Nat → PV → PyData → Prop
  | none (n : Nat) : Rd H n .none .none
  | bool (n : Nat) (b : Bool) : Rd H n (.bool b) (.bool b)
  | int (n : Nat) (i : Int) : Rd H n (.int i) (.int i)
  | str (n : Nat) (x : List Nat) : Rd H n (.str x) (.str ⟨x.toArray⟩)
  | tup {n : Nat} {ps : List PV} {ds : List PyData} : RdAll H n ps ds → Rd H (n + 1) (.tup ps) (.tuple ds)
  | ref {n : Nat} {a : Nat} {x : LO} {ds : List PyData} : H a = some x → RdAll H n x.items ds → Rd H (n + 1) (.ref a) (.list ds)
inductive RdAll (H : AH) : Nat → List PV → List PyData → Prop
  | nil (n : Nat) : RdAll H n [] []
  | cons {n : Nat} {p : PV} {d : PyData} {ps : List PV} {ds : List PyData} : Rd H n p d → RdAll H n ps ds → RdAll H n (p :: ps) (d :: ds)
end

mutual
theorem Rd.reads {base : Heap} {H : AH} {s : Shared} (S : St base H s) : ∀ {n : Nat} {p : PV} {d : PyData}, Rd H n p d → ∀ v, VRel s.heap v p → (∃ as, Reads s.heap v d as) ∧ d.canLay0 = true ∧ d.depth ≤ n
  | _, _, _, .none n, v, hv => by cases hv; exact ⟨⟨_, .none⟩, rfl, Nat.zero_le _⟩
  | _, _, _, .bool n b, v, hv => by cases hv; exact ⟨⟨_, .bool b⟩, rfl, Nat.zero_le _⟩
  | _, _, _, .int n i, v, hv => by cases hv; exact ⟨⟨_, .int i _⟩, rfl, Nat.zero_le _⟩
  | _, _, _, .str n x, v, hv => by
    cases hv with
    | str _ t hx =>
      refine ⟨⟨_, .str _ _⟩, ?_, Nat.zero_le _⟩
      simp only [PyData.canLay0, PyData.strOk]
      simpa using hx
  | _, _, _, .tup h, v, hv => by
    cases hv with
    | tup ht hvs =>
      obtain ⟨⟨as, h1⟩, h2, h3⟩ := RdAll.reads S h _ hvs
      refine ⟨⟨_, .tuple ht rfl rfl (by simpa using h1)⟩, h2, ?_⟩
      simp only [PyData.depth]; omega
  | _, _, _, .ref ha h, v, hv => by
    cases hv with
    | ref a =>
      obtain ⟨vs, k, hl, hvs⟩ := S.hr.list _ _ ha
      obtain ⟨⟨as, h1⟩, h2, h3⟩ := RdAll.reads S h _ hvs
      refine ⟨⟨_, .list hl rfl rfl h1⟩, h2, ?_⟩
      simp only [PyData.depth]; omega
theorem RdAll.reads {base : Heap} {H : AH} {s : Shared} (S : St base H s) : ∀ {n : Nat} {ps : List PV} {ds : List PyData}, RdAll H n ps ds → ∀ vs, VAll s.heap vs ps → (∃ as, ReadsAll s.heap vs ds as) ∧ PyData.canLayAll0 ds = true ∧ PyData.depthAll ds ≤ n
  | _, _, _, .nil n, vs, hv => by cases hv; exact ⟨⟨_, .nil⟩, rfl, Nat.zero_le _⟩
  | _, _, _, .cons h r, vs, hv => by
    cases hv with
    | cons h1 h2 =>
      obtain ⟨⟨as, k1⟩, k2, k3⟩ := Rd.reads S h _ h1
      obtain ⟨⟨bs, m1⟩, m2, m3⟩ := RdAll.reads S r _ h2
      refine ⟨⟨_, .cons k1 m1⟩, ?_, ?_⟩
      · simp [PyData.canLayAll0, k2, m2]
      · simp only [PyData.depthAll]; omega
end

def cmpEq (a b : PV) (Q : Bool → AH → Prop) (H : AH) : Prop := match a, b with
  | .int x, .int y => Q (decide (x = y)) H
  | .str x, .str y => Q (decide (x = y)) H
  | .bool x, .bool y => Q (decide (x = y)) H
  | a, b => ∃ d e, Rd H 20 a d ∧ Rd H 20 b e ∧ Q (PyData.eqv d e) H
def occIn (y x : List Nat) : Bool := !(Builtin.Str.occurrences ⟨x.toArray⟩ ⟨y.toArray⟩ 0 x.length 1).isEmpty
def cmpIn (a b : PV) (Q : Bool → AH → Prop) (H : AH) : Prop := match b with
  | .str x => (match a with | .str y => Q (occIn y x) H | _ => False)
  | .tup ps => ∃ d ds, Rd H 20 a d ∧ RdAll H 20 ps ds ∧ Q (ds.any fun y => PyData.eqv y d) H
  | .ref l => (match H l with | some x => ∃ d ds, Rd H 20 a d ∧ RdAll H 20 x.items ds ∧ Q (ds.any fun y => PyData.eqv y d) H | none => False)
  | _ => False
def cmpIs (a b : PV) (Q : Bool → AH → Prop) (H : AH) : Prop := match a, b with
  | .none, .none => Q true H
  | _, .none => Q false H
  | .bool x, .bool y => Q (decide (x = y)) H
  | _, _ => False
def cmpLt (f : Int → Int → Bool) (a b : PV) (Q : Bool → AH → Prop) (H : AH) : Prop := match a, b with
  | .int x, .int y => Q (f x y) H
  | _, _ => False
def cmpOp (op : CmpOp) (a b : PV) (Q : Bool → AH → Prop) (H : AH) : Prop := match op with
  | .Eq => cmpEq a b Q H
  | .NotEq => cmpEq a b (fun r H => Q (!r) H) H
  | .Lt => cmpLt (fun x y => decide (x < y)) a b Q H
  | .LtE => cmpLt (fun x y => decide (x ≤ y)) a b Q H
  | .Gt => cmpLt (fun x y => decide (x > y)) a b Q H
  | .GtE => cmpLt (fun x y => decide (x ≥ y)) a b Q H
  | .Is => cmpIs a b Q H
  | .IsNot => cmpIs a b (fun r H => Q (!r) H) H
  | .In => cmpIn a b Q H
  | .NotIn => cmpIn a b (fun r H => Q (!r) H) H

section
variable {c : Cx} {n : Nat} {sc : SE}

theorem bd {α : Type} [DecidableEq α] (x y : α) : (x == y) = decide (x = y) := by by_cases h : x = y <;> simp [h]
theorem mk_inj (x y : List Nat) : ((⟨x.toArray⟩ : Str) == ⟨y.toArray⟩) = decide (x = y) := by
  by_cases h : x = y
  · subst h; simp
  · have : ¬ ((⟨x.toArray⟩ : Str) = ⟨y.toArray⟩) := by simpa using h
    simp [h]

/-- all comparisons of equality by what is read -/
theorem cmpEq_reads {base : Heap} {A : Around} {H : AH} {s : Shared} {va vb : Value} {a b : PV} {Q : Bool → AH → Prop} (hA : AOk n A) (h1 : VRel s.heap va a) (h2 : VRel s.heap vb b) (S : St base H s) (h : cmpEq a b Q H) :
    ∃ d e as bs, Reads s.heap va d as ∧ Reads s.heap vb e bs ∧ d.canLay0 = true ∧ e.canLay0 = true ∧ A.units + min d.depth e.depth < cLine ∧ Q (PyData.eqv d e) H := by
  have key : (∃ d e, Rd H 20 a d ∧ Rd H 20 b e ∧ Q (PyData.eqv d e) H) := by
    unfold cmpEq at h
    split at h
    · refine ⟨_, _, .int _ _, .int _ _, ?_⟩
      rename_i x y
      have e : PyData.eqv (.int x) (.int y) = decide (x = y) := bd x y
      rw [e]; exact h
    · refine ⟨_, _, .str _ _, .str _ _, ?_⟩
      rename_i x y
      have e : PyData.eqv (.str ⟨x.toArray⟩) (.str ⟨y.toArray⟩) = decide (x = y) := by
        show ((⟨x.toArray⟩ : Str) == ⟨y.toArray⟩) = _
        exact mk_inj x y
      rw [e]; exact h
    · refine ⟨_, _, .bool _ _, .bool _ _, ?_⟩
      rename_i x y
      have e : PyData.eqv (.bool x) (.bool y) = decide (x = y) := by cases x <;> cases y <;> rfl
      rw [e]; exact h
    · exact h
  obtain ⟨d, e, k1, k2, k3⟩ := key
  obtain ⟨⟨as, m1⟩, m2, m3⟩ := k1.reads S va h1
  obtain ⟨⟨bs, l1⟩, l2, l3⟩ := k2.reads S vb h2
  refine ⟨d, e, as, bs, m1, l1, m2, l2, ?_, k3⟩
  have := hA.units
  simp only [cLine]
  omega

theorem cmpLt_elim {f : Int → Int → Bool} {a b : PV} {Q : Bool → AH → Prop} {H : AH} (h : cmpLt f a b Q H) : ∃ x y, a = .int x ∧ b = .int y ∧ Q (f x y) H := by
  unfold cmpLt at h
  split at h
  · exact ⟨_, _, rfl, rfl, h⟩
  · exact h.elim
theorem op_cmp (op : CmpOp) : SoundOp2 c n (compareOp op) (fun a b Q H => cmpOp op a b (fun r H' => Q (.bool r) H') H) := by
  intro A H s va vb a b Q E hA h1 h2 S h
  have fin : ∀ r : Bool, Q (.bool r) H → Res c H s Q (.bool r) s := fun r q => res_pure S (.bool r) q
  cases op <;> simp only [cmpOp] at h
  case Eq =>
    obtain ⟨d, e, as, bs, k1, k2, k3, k4, k5, k6⟩ := cmpEq_reads hA h1 h2 S h
    exact SeqAt.compareEq_reads k1 k2 k3 k4 k5 (fin _ k6)
  case NotEq =>
    obtain ⟨d, e, as, bs, k1, k2, k3, k4, k5, k6⟩ := cmpEq_reads hA h1 h2 S h
    exact SeqAt.compareNe_reads k1 k2 k3 k4 k5 (fin _ k6)
  case Lt =>
    obtain ⟨x, y, rfl, rfl, h⟩ := cmpLt_elim h
    cases h1; cases h2
    exact lt_int (fin _ h)
  case LtE =>
    obtain ⟨x, y, rfl, rfl, h⟩ := cmpLt_elim h
    cases h1; cases h2
    exact le_int (fin _ h)
  case Gt =>
    obtain ⟨x, y, rfl, rfl, h⟩ := cmpLt_elim h
    cases h1; cases h2
    exact gt_int (fin _ h)
  case GtE =>
    obtain ⟨x, y, rfl, rfl, h⟩ := cmpLt_elim h
    cases h1; cases h2
    exact ge_int (fin _ h)
  case Is =>
    cases h2 with
    | none => cases h1 <;> exact is_none_gen (fin _ h)
    | bool y =>
      cases h1 with
      | bool x => exact is_bool (by rw [bd]; exact fin _ h)
      | _ => exact h.elim
    | _ => cases h1 <;> exact h.elim
  case IsNot =>
    cases h2 with
    | none => cases h1 <;> exact isnot_none_gen (fin _ h)
    | bool y =>
      cases h1 with
      | bool x => exact isnot_bool (by rw [bne, bd]; exact fin _ h)
      | _ => exact h.elim
    | _ => cases h1 <;> exact h.elim
  case In =>
    cases h2 with
    | str x t hx =>
      cases h1 with
      | str y u hy => exact in_str (by rw [str_len]; exact fin _ h)
      | _ => exact h.elim
    | tup ht hvs =>
      obtain ⟨d, ds, k1, k2, k3⟩ := h
      obtain ⟨⟨as, m1⟩, m2, m3⟩ := k1.reads S va h1
      obtain ⟨⟨bs, l1⟩, l2, l3⟩ := k2.reads S _ hvs
      exact SeqAt.in_tuple_reads (.tuple ht rfl rfl (by simpa using l1)) m1 l2 m2 (by have := hA.units; simp only [cLine]; omega) (fin _ k3)
    | ref l =>
      simp only [cmpIn] at h
      cases hl : H l with
      | none => rw [hl] at h; exact h.elim
      | some x =>
        rw [hl] at h
        obtain ⟨d, ds, k1, k2, k3⟩ := h
        obtain ⟨vs, k, hl', hvs⟩ := S.hr.list _ _ hl
        obtain ⟨⟨as, m1⟩, m2, m3⟩ := k1.reads S va h1
        obtain ⟨⟨bs, l1⟩, l2, l3⟩ := k2.reads S _ hvs
        exact SeqAt.in_list_reads (.list hl' rfl rfl l1) m1 l2 m2 (by have := hA.units; simp only [cLine]; omega) (fin _ k3)
    | _ => exact h.elim
  case NotIn =>
    cases h2 with
    | str x t hx =>
      cases h1 with
      | str y u hy => exact notIn_str (by rw [str_len]; exact fin _ h)
      | _ => exact h.elim
    | tup ht hvs =>
      obtain ⟨d, ds, k1, k2, k3⟩ := h
      obtain ⟨⟨as, m1⟩, m2, m3⟩ := k1.reads S va h1
      obtain ⟨⟨bs, l1⟩, l2, l3⟩ := k2.reads S _ hvs
      exact SeqAt.notIn_tuple_reads (.tuple ht rfl rfl (by simpa using l1)) m1 l2 m2 (by have := hA.units; simp only [cLine]; omega) (fin _ k3)
    | ref l =>
      simp only [cmpIn] at h
      cases hl : H l with
      | none => rw [hl] at h; exact h.elim
      | some x =>
        rw [hl] at h
        obtain ⟨d, ds, k1, k2, k3⟩ := h
        obtain ⟨vs, k, hl', hvs⟩ := S.hr.list _ _ hl
        obtain ⟨⟨as, m1⟩, m2, m3⟩ := k1.reads S va h1
        obtain ⟨⟨bs, l1⟩, l2, l3⟩ := k2.reads S _ hvs
        exact SeqAt.notIn_list_reads (.list hl' rfl rfl l1) m1 l2 m2 (by have := hA.units; simp only [cLine]; omega) (fin _ k3)
    | _ => exact h.elim

/-- what is behind «in» is no display of a set -/
def aCmp (op : CmpOp) (l r : AE) : AE := aBin (fun a b Q H => cmpOp op a b (fun r H' => Q (.bool r) H') H) l r
theorem sound_cmp {l r : Expr} {op : CmpOp} {pos : Pos} {al ar : AE} (hl : SoundE c n sc l al) (hr : SoundE c n sc r ar) (hm : behindInMarks op r = false := by with_unfolding_all rfl) : SoundE c n sc (.Compare l [op] [r] pos) (aCmp op al ar) := by
  intro A env ρ H s Q E hA he R S h
  refine wpAny_Compare1 (seq2 (F := fun a b H2 => cmpOp op a b (fun r H' => Q (.bool r) H') H2) hl hr hA he R S h ?_) hm
  intro va vb a b H2 s2 h1 h2 R2 S2 e2 q2
  exact wpAny_mono (op_cmp op A H2 s2 va vb a b Q E hA h1 h2 S2 q2) (fun _ _ r => r.trans e2) fun _ _ x => x

-- truth
def truth (a : PV) (Q : Bool → AH → Prop) (H : AH) : Prop := match a with
  | .none => Q false H
  | .bool b => Q b H
  | .int i => Q (decide (i ≠ 0)) H
  | .str x => szOk x.length ∧ Q (!x.isEmpty) H
  | .ref a => (match H a with | some x => szOk x.items.length ∧ Q (!x.items.isEmpty) H | none => False)
  | .tup _ => False
  | .rng _ _ => False
theorem truth_sound {A : Around} {H : AH} {s : Shared} {v : Value} {a : PV} {Q : Bool → AH → Prop} {E : Value → Shared → Prop} (h1 : VRel s.heap v a) (S : St c.base H s) (h : truth a Q H) :
    wpAny (model c.prog c.w) A (truthy v) (ResB c H s Q) E s := by
  cases h1 with
  | none => exact fun _ _ _ => ⟨H, S, .refl, h⟩
  | bool b => exact wpAny_truthy_bool ⟨H, S, .refl, h⟩
  | int i t => exact PyProof.Rows.truthy_int (by rw [bne, bd, show (!decide (i = 0)) = decide (i ≠ 0) from by simp]; exact ⟨H, S, .refl, h⟩)
  | str x t hx =>
    refine PySem.P.truthy_str ?_ ⟨H, S.tok _, .tok _, ?_⟩
    · rw [str_len]; have := h.1; simp only [szOk] at this; omega
    · rw [str_len, show (((x.length : Nat) : Int) != 0) = !x.isEmpty from by cases x <;> simp [bne]; omega]; exact h.2
  | tup ht hv => exact h.elim
  | rng hr => exact h.elim
  | ref a =>
    simp only [truth] at h
    cases hl : H a with
    | none => rw [hl] at h; exact h.elim
    | some x =>
      rw [hl] at h
      obtain ⟨vs, k, hl', hvs⟩ := S.hr.list _ _ hl
      have := hvs.length
      refine wpAny_truthy_list hl'.isList ?_ ⟨H, S.tok _, .tok _, ?_⟩
      · have := h.1; simp only [szOk] at this; simp at *; omega
      · have e : vs.isEmpty = x.items.isEmpty := by
          have e2 : vs.size = x.items.length := by simpa using this
          cases hx : x.items with
          | nil => rw [hx] at e2; simpa using e2
          | cons a l => rw [hx] at e2; simp only [List.isEmpty_cons]; rw [Array.isEmpty_eq_false_iff_exists_mem]; exact ⟨vs[0]'(by simp at e2; omega), by simp⟩
        rw [e]; exact h.2

-- tests
def tVal (l : AE) : AT := fun Q ρ H => l (fun a H1 => truth a Q H1) ρ H
def tNot (l : AT) : AT := fun Q ρ H => l (fun b H1 => Q (!b) H1) ρ H
def tAnd (l r : AT) : AT := fun Q ρ H => l (fun b H1 => if b then r Q ρ H1 else Q false H1) ρ H
def tOr (l r : AT) : AT := fun Q ρ H => l (fun b H1 => if b then Q true H1 else r Q ρ H1) ρ H
def tTrue : AT := fun Q _ H => Q true H
def tFalse : AT := fun Q _ H => Q false H
def tCmp (op : CmpOp) (l r : AE) : AT := fun Q ρ H => l (fun a H1 => r (fun b H2 => cmpOp op a b Q H2) ρ H1) ρ H
def tCmp2 (op : CmpOp) (l : AE) (op' : CmpOp) (m r : AE) : AT := fun Q ρ H => l (fun a H1 => m (fun b H2 => cmpOp op a b (fun k H3 => if k then r (fun d H4 => cmpOp op' b d Q H4) ρ H3 else Q false H3) H2) ρ H1) ρ H

theorem test_val {e : Expr} {al : AE} (hl : SoundE c n sc e al) (hv : ∀ env whole, isTrue e env whole = (do let v ← whole; standAt e.pos; holding [v] (truthy v)) := by intro _ _; rfl) : SoundT c n sc e (tVal al) := by
  intro A env ρ H s Q E hA he R S h
  refine wpAny_isTrue_value (seq1 (F := fun a H1 => truth a Q H1) hl hA he R S h ?_) (hv env _)
  intro va a H1 s1 h1 R1 S1 e1 q1
  exact wpAny_mono (truth_sound h1 S1 q1) (fun _ _ r => r.trans e1) fun _ _ x => x
theorem test_not {e : Expr} {pos : Pos} {al : AT} (hl : SoundT c n sc e al) : SoundT c n sc (.UnaryOp .Not e pos) (tNot al) := by
  intro A env ρ H s Q E hA he R S h
  exact wpAny_isTrue_Not (hl A env ρ H s (fun b H1 => Q (!b) H1) E hA he R S h)
theorem bool_mono {A : Around} {H : AH} {s : Shared} {t : Sem Bool} {F : Bool → AH → Prop} {P : Bool → Shared → Prop} {E : Value → Shared → Prop} (h : wpAny (model c.prog c.w) A t (ResB c H s F) E s)
    (k : ∀ b H1 s1, St c.base H1 s1 → Ext No No H s H1 s1 → F b H1 → P b s1) : wpAny (model c.prog c.w) A t P E s :=
  wpAny_mono h (fun b s1 ⟨H1, S1, e1, q1⟩ => k b H1 s1 S1 e1 q1) fun _ _ x => x
/-- a row of tests joined by and, or -/
def SoundAnd (c : Cx) (n : Nat) (sc : SE) (op : BoolOp) (es : List Expr) (a : AT) : Prop :=
  ∀ (A : Around) (env : Env) (ρ : AEnv) (H : AH) (s : Shared) (Q : Bool → AH → Prop) (E : Value → Shared → Prop), AOk n A → EOk sc env → ER c.base c.N env ρ s.heap → St c.base H s → a Q ρ H →
    wpAny (model c.prog c.w) A (allTrue op es env) (ResB c H s Q) E s
theorem or_nil : SoundAnd c n sc .Or [] tFalse := fun _ _ _ H _ _ _ _ _ _ S h => wpAny_allTrue_Or_nil ⟨H, S, .refl, h⟩
theorem or_cons {e : Expr} {es : List Expr} {a b : AT} (h1 : SoundT c n sc e a) (h2 : SoundAnd c n sc .Or es b) : SoundAnd c n sc .Or (e :: es) (tOr a b) := by
  intro A env ρ H s Q E hA he R S h
  refine wpAny_allTrue_Or_cons (bool_mono (h1 A env ρ H s _ E hA he R S h) fun k H1 s1 S1 e1 q1 => ?_)
  cases k with
  | false => exact wpAny_mono (h2 A env ρ H1 s1 Q E hA he (R.ext0 S e1) S1 (by simpa using q1)) (fun _ _ r => r.trans e1) fun _ _ x => x
  | true => exact ⟨H1, S1, e1, by simpa using q1⟩
theorem test_bool {op : BoolOp} {es : List Expr} {pos : Pos} {a : AT} (h : SoundAnd c n sc op es a) : SoundT c n sc (.BoolOp op es pos) a :=
  fun A env ρ H s Q E hA he R S q => wpAny_isTrue_BoolOp (h A env ρ H s Q E hA he R S q)
theorem cmpEq_mono {a b : PV} {F G : Bool → AH → Prop} {H : AH} (hFG : ∀ k H, F k H → G k H) (hF : cmpEq a b F H) : cmpEq a b G H := by
  unfold cmpEq at *
  split <;> simp_all only []
  obtain ⟨d, e, x1, x2, x3⟩ := hF; exact ⟨d, e, x1, x2, hFG _ _ x3⟩
theorem cmpIn_mono {a b : PV} {F G : Bool → AH → Prop} {H : AH} (hFG : ∀ k H, F k H → G k H) (hF : cmpIn a b F H) : cmpIn a b G H := by
  unfold cmpIn at *
  split <;> simp_all only []
  · split <;> simp_all only []
  · obtain ⟨d, e, x1, x2, x3⟩ := hF; exact ⟨d, e, x1, x2, hFG _ _ x3⟩
  · split <;> simp_all only []
    obtain ⟨d, e, x1, x2, x3⟩ := hF; exact ⟨d, e, x1, x2, hFG _ _ x3⟩
theorem cmpIs_mono {a b : PV} {F G : Bool → AH → Prop} {H : AH} (hFG : ∀ k H, F k H → G k H) (hF : cmpIs a b F H) : cmpIs a b G H := by
  unfold cmpIs at *
  split <;> simp_all only []
theorem cmpLt_mono {f : Int → Int → Bool} {a b : PV} {F G : Bool → AH → Prop} {H : AH} (hFG : ∀ k H, F k H → G k H) (hF : cmpLt f a b F H) : cmpLt f a b G H := by
  unfold cmpLt at *
  split <;> simp_all only []
theorem cmpOp_mono {op : CmpOp} {a b : PV} {F G : Bool → AH → Prop} {H : AH} (hFG : ∀ k H, F k H → G k H) (hF : cmpOp op a b F H) : cmpOp op a b G H := by
  cases op <;> simp only [cmpOp] at hF ⊢
  · exact cmpEq_mono hFG hF
  · exact cmpEq_mono (fun k H q => hFG _ _ q) hF
  · exact cmpLt_mono hFG hF
  · exact cmpLt_mono hFG hF
  · exact cmpLt_mono hFG hF
  · exact cmpLt_mono hFG hF
  · exact cmpIs_mono hFG hF
  · exact cmpIs_mono (fun k H q => hFG _ _ q) hF
  · exact cmpIn_mono hFG hF
  · exact cmpIn_mono (fun k H q => hFG _ _ q) hF
theorem cmp_bool {A : Around} {op : CmpOp} {H : AH} {s : Shared} {va vb : Value} {a b : PV} {Q : Bool → AH → Prop} {E : Value → Shared → Prop} {P : Value → Shared → Prop} (hA : AOk n A) (h1 : VRel s.heap va a) (h2 : VRel s.heap vb b) (S : St c.base H s) (h : cmpOp op a b Q H)
    (k : ∀ r H' s', St c.base H' s' → Ext No No H s H' s' → Q r H' → P (.bool r) s') : wpAny (model c.prog c.w) A (compareOp op va vb) P E s := by
  refine wpAny_mono (op_cmp op A H s va vb a b (fun p H' => ∃ k, p = .bool k ∧ Q k H') E hA h1 h2 S (cmpOp_mono (fun k H q => ⟨k, rfl, q⟩) h)) (fun v s3 ⟨p, H3, k1, S3, e3, r, hr, k4⟩ => ?_) fun _ _ x => x
  subst hr; cases k1
  exact k r H3 s3 S3 e3 k4
theorem test_cmp {l r : Expr} {op : CmpOp} {pos : Pos} {al ar : AE} (hl : SoundE c n sc l al) (hr : SoundE c n sc r ar) (hm : behindInMarks op r = false := by with_unfolding_all rfl) : SoundT c n sc (.Compare l [op] [r] pos) (tCmp op al ar) := by
  intro A env ρ H s Q E hA he R S h
  refine wpAny_isTrue_Compare1 (seq2 (F := fun a b H2 => cmpOp op a b Q H2) hl hr hA he R S h ?_) hm
  intro va vb a b H2 s2 h1 h2 R2 S2 e2 q2
  exact cmp_bool hA h1 h2 S2 q2 fun r H3 s3 S3 e3 q3 => wpAny_truthy_bool ⟨H3, S3, e2.trans e3, q3⟩
-- values by tests
def aIf (t : AT) (l r : AE) : AE := fun Q ρ H => t (fun b H1 => if b then l Q ρ H1 else r Q ρ H1) ρ H
theorem sound_if {e l r : Expr} {pos : Pos} {t : AT} {al ar : AE} (ht : SoundT c n sc e t) (hl : SoundE c n sc l al) (hr : SoundE c n sc r ar) : SoundE c n sc (.IfExp e l r pos) (aIf t al ar) := by
  intro A env ρ H s Q E hA he R S h
  refine wpAny_IfExp (bool_mono (ht A env ρ H s _ E hA he R S h) fun b H1 s1 S1 e1 q1 => ?_)
  cases b with
  | true => exact wpAny_mono (hl A env ρ H1 s1 Q E hA he (R.ext0 S e1) S1 (by simpa using q1)) (fun _ _ r => r.trans e1) fun _ _ x => x
  | false => exact wpAny_mono (hr A env ρ H1 s1 Q E hA he (R.ext0 S e1) S1 (by simpa using q1)) (fun _ _ r => r.trans e1) fun _ _ x => x
-- rows of expressions, displays
def lNil : AL := fun Q _ H => Q [] H
def lCons (a : AE) (l : AL) : AL := fun Q ρ H => a (fun p H1 => l (fun ps H2 => Q (p :: ps) H2) ρ H1) ρ H
theorem list_nil : SoundL c n sc [] lNil := fun _ _ _ H _ _ _ _ _ _ _ S h => wpAny_items_nil ⟨[], H, .nil, S, .refl, h⟩
theorem list_cons {e : Expr} {es : List Expr} {a : AE} {l : AL} (h : SoundE c n sc e a) (k : SoundL c n sc es l) (hs : ∀ env, starEach (e :: es) env = (false, eval e env) :: starEach es env := by intro _; rfl) : SoundL c n sc (e :: es) (lCons a l) := by
  intro A env ρ H s Q E pos hA he R S q
  refine wpAny_items_cons (seq1 (F := fun p H1 => l (fun ps H2 => Q (p :: ps) H2) ρ H1) h hA he R S q ?_) (hs env)
  intro va a H1 s1 h1 R1 S1 e1 q1
  exact wpAny_mono (k A env ρ H1 s1 _ E pos hA he R1 S1 q1) (fun vs s2 ⟨ps, H2, h2, S2, e2, q2⟩ => ⟨a :: ps, H2, .cons (h1.ext0 S1 e2) h2, S2, e1.trans e2, q2⟩) fun _ _ x => x
def aTup (l : AL) : AE := fun Q ρ H => l (fun ps H1 => szOk ps.length ∧ Q (.tup ps) H1) ρ H
def aList (l : AL) : AE := fun Q ρ H => l (fun ps H1 => szOk ps.length ∧ newL ps Q H1) ρ H
theorem sz_line {k : Nat} (h : szOk k) : k ≤ sizeLine := by rw [sizeLine_eq]; simpa [szOk] using h
theorem sound_tup {es : List Expr} {k : Nat} {pos : Pos} {l : AL} (h : SoundL c n sc es l) : SoundE c n sc (.Tuple es k pos) (aTup l) := by
  intro A env ρ H s Q E hA he R S q
  exact wpAny_Tuple (wpAny_mono (h A env ρ H s _ E pos hA he R S q) (fun vs s1 ⟨ps, H1, h1, S1, e1, q1⟩ => ⟨by rw [h1.length]; exact sz_line q1.1, (res_tuple S1 h1 q1.2).trans e1⟩) fun _ _ x => x)
theorem sound_list {es : List Expr} {pos : Pos} {l : AL} (h : SoundL c n sc es l) : SoundE c n sc (.List es pos) (aList l) := by
  intro A env ρ H s Q E hA he R S q
  exact wpAny_List (wpAny_mono (h A env ρ H s _ E pos hA he R S q) (fun vs s1 ⟨ps, H1, h1, S1, e1, q1⟩ => ⟨by rw [h1.length]; exact sz_line q1.1, (res_list S1 (by simpa using h1) q1.2).trans e1⟩) fun _ _ x => x)
end
end Mine
open PySem PySem.W PyProof.Rows
set_option Elab.async false
set_option linter.unusedVariables false
namespace Mine

theorem imm_data {h : Heap} {a : Addr} {o : Obj} (x : Imm h a o) : (∃ vs n, o.data = .seq vs n) ∨ ∃ vs, o.data = .fields vs := x.2.imp (fun q => q.2) fun q => q.2

section
variable {c : Cx} {n : Nat} {sc : SE}

theorem imm_upd {h h' : Heap} {a : Addr} (hs : Heap.SameBut a h h') (hd : ∀ o, h.get? a = some o → (∃ es ep, o.data = .dict es ep) ∨ ∃ v, o.data = .cell v) : ∀ b o, Imm h b o → h'.get? b = some o := by
  intro b o hb
  have : b ≠ a := by
    rintro rfl
    rcases hd o hb.1 with ⟨es, ep, e1⟩ | ⟨v, e1⟩ <;> rcases imm_data hb with ⟨vs, k, e2⟩ | ⟨vs, e2⟩ <;> rw [e1] at e2 <;> cases e2
  exact (hs.2 b this).trans hb.1
theorem vrel_upd {h h' : Heap} {a : Addr} (hs : Heap.SameBut a h h') (hd : ∀ o, h.get? a = some o → (∃ es ep, o.data = .dict es ep) ∨ ∃ v, o.data = .cell v) {v : Value} {p : PV} (hv : VRel h v p) : VRel h' v p := hv.mono (imm_upd hs hd)

theorem st_upd {base : Heap} {H : AH} {s : Shared} {h' : Heap} {a : Addr} {tk : Nat} (S : St base H s) (hs : Heap.SameBut a s.heap h') (hb : base.get? a = none) (hd : ∀ o, s.heap.get? a = some o → (∃ es ep, o.data = .dict es ep) ∨ ∃ v, o.data = .cell v) :
    St base H { s with heap := h', toks := tk } where
  hr := {
    keep := fun b o h => by
      have : b ≠ a := by rintro rfl; rw [hb] at h; cases h
      exact (hs.2 b this).trans (S.hr.keep b o h)
    list := fun b x h => by
      obtain ⟨vs, k, hl, hv⟩ := S.hr.list b x h
      have : b ≠ a := by
        rintro rfl
        rcases hd _ hl with ⟨es, ep, e⟩ | ⟨v, e⟩ <;> cases e
      exact ⟨vs, k, (hs.2 b this).trans hl, hv.mono (imm_upd hs hd)⟩
    new := S.hr.new }
  bare := S.bare
theorem ext_upd {X Y : Nat → Prop} {H : AH} {s : Shared} {h' : Heap} {a : Addr} {tk : Nat} (hs : Heap.SameBut a s.heap h') (hX : X a) : Ext X Y H s H { s with heap := h', toks := tk } :=
  ⟨fun b o h hx _ => (hs.2 b (fun e => hx (e ▸ hX))).trans h, Nat.le_of_eq hs.1.symm, fun _ x h => .inl ⟨x, h, rfl⟩, fun _ _ h _ => h, Nat.le_refl _, rfl⟩

theorem ns_dict {h : Heap} {a : Addr} {m : Str → Option Value} (hn : h.Ns a m) : ∀ o, h.get? a = some o → (∃ es ep, o.data = .dict es ep) ∨ ∃ v, o.data = .cell v := by
  intro o ho
  obtain ⟨o', es, ep, ho', hd, _⟩ := hn
  rw [ho] at ho'; cases ho'; exact .inl ⟨es, ep, hd⟩
theorem cell_dict {h : Heap} {a : Addr} {w : Option Value} (hn : h.IsCell a w) : ∀ o, h.get? a = some o → (∃ es ep, o.data = .dict es ep) ∨ ∃ v, o.data = .cell v := by
  intro o ho
  obtain ⟨o', ho', hd⟩ := hn
  rw [ho] at ho'; cases ho'; exact .inr ⟨w, hd⟩
theorem ns_ne_cell {h : Heap} {a b : Addr} {m : Str → Option Value} {v : Option Value} (hn : h.Ns a m) (hc : h.IsCell b v) : b ≠ a := by
  rintro rfl
  obtain ⟨o, ho, hd⟩ := hc
  obtain ⟨o', es, ep, ho', hd', _⟩ := hn
  rw [ho] at ho'; cases ho'; rw [hd] at hd'; cases hd'

theorem store_var {A : Around} {env : Env} {ρ : AEnv} {H : AH} {s : Shared} {Q : Unit → Shared → Prop} {E : Value → Shared → Prop} {x : Str} {k : Nat} {v : Value} {p : PV} (he : EOk sc env) (R : ER c.base c.N env ρ s.heap) (S : St c.base H s) (hx : c.N[k]? = some x)
    (hk : sc.names.lookup x = some .local ∨ (sc.names.lookup x = some .cell ∧ x ∉ sc.caps)) (hv : VRel s.heap v p)
    (h : ∀ s', ER c.base c.N env (upd ρ k p) s'.heap → St c.base H s' → Ext (Own env) No H s H s' → Q () s') : wpAny (model c.prog c.w) A (storeName env x v) Q E s := by
  obtain ⟨m, hm, hmk⟩ := R.names
  have inj : ∀ j y, j ≠ k → c.N[j]? = some y → y ≠ x := by
    rintro j y hj hy rfl
    exact hj ((List.getElem?_inj (List.getElem?_eq_some_iff.mp hy).1 c.nodup).mp (hy.trans hx.symm))
  rcases hk with hk | ⟨hk, hcap⟩
  · have hkl : env.kindOf x = some .local := by rw [he.kindOf]; exact hk
    refine wpAny_storeName_local hkl hm (fun h' hn hs => ?_) (by rw [he.skind]; rfl)
    have hd := ns_dict hm
    have hC : ∀ cc w, s.heap.IsCell cc w → h'.IsCell cc w := fun cc w hc => hc.sameBut hs (ns_ne_cell hm hc)
    refine h _ ⟨⟨_, hn, fun j q hj => ?_⟩, fun y cc hy => let ⟨w, hw⟩ := R.cells y cc hy; ⟨w, hC cc w hw⟩, R.apart, R.new, R.cnew⟩ (st_upd S hs R.new hd) (ext_upd hs (.inl rfl))
    by_cases e : j = k
    · subst e
      rw [upd_same] at hj; cases hj
      exact ⟨x, v, hx, vrel_upd hs hd hv, .inl ⟨hkl, by simp⟩⟩
    · rw [upd_other _ _ e] at hj
      obtain ⟨y, w, h1, h2, h3⟩ := hmk j q hj
      refine ⟨y, w, h1, vrel_upd hs hd h2, ?_⟩
      rcases h3 with ⟨k1, k2⟩ | ⟨k1, cc, k2, k3⟩
      · exact .inl ⟨k1, by simp [inj j y e h1, k2]⟩
      · exact .inr ⟨k1, cc, k2, hC cc _ k3⟩
  · have hkl : env.kindOf x = some .cell := by rw [he.kindOf]; exact hk
    obtain ⟨cc, hcc, hown⟩ := he.cells x hk
    obtain ⟨w0, hw0⟩ := R.cells x cc hcc
    refine wpAny_storeName_cell he.skind hkl hcc hw0 (fun h' hc' hs => ?_)
    have hd := cell_dict hw0
    have hnL : h'.Ns env.locals m := hm.sameBut hs (Ne.symm (ns_ne_cell hm hw0))
    have other : ∀ y c2 w, env.cells.lookup y = some c2 → y ≠ x → s.heap.IsCell c2 w → h'.IsCell c2 w := by
      intro y c2 w hy hne hw
      refine hw.sameBut hs ?_
      rintro rfl
      exact hne (name_of_addr R.apart (mem_of_lookup hy) (mem_of_lookup hcc))
    refine h { s with heap := h' } ⟨⟨_, hnL, fun j q hj => ?_⟩, fun y c2 hy => ?_, R.apart, R.new, R.cnew⟩ (st_upd (tk := s.toks) S hs (R.cnew x cc hcc) hd) (ext_upd (tk := s.toks) hs (.inr ⟨hown hcap, x, hcc⟩))
    · by_cases e : j = k
      · subst e
        rw [upd_same] at hj; cases hj
        exact ⟨x, v, hx, vrel_upd hs hd hv, .inr ⟨.inl hkl, cc, hcc, hc'⟩⟩
      · rw [upd_other _ _ e] at hj
        obtain ⟨y, w, h1, h2, h3⟩ := hmk j q hj
        refine ⟨y, w, h1, vrel_upd hs hd h2, ?_⟩
        rcases h3 with ⟨k1, k2⟩ | ⟨k1, c2, k2, k3⟩
        · exact .inl ⟨k1, k2⟩
        · exact .inr ⟨k1, c2, k2, other y c2 _ k2 (inj j y e h1) k3⟩
    · by_cases e : y = x
      · subst e; rw [hcc] at hy; cases hy; exact ⟨_, hc'⟩
      · obtain ⟨w, hw⟩ := R.cells y c2 hy
        exact ⟨w, other y c2 w hy e hw⟩

theorem own_no_imm {env : Env} {ρ : AEnv} {h : Heap} (R : ER c.base c.N env ρ h) : ∀ a o, Imm h a o → ¬ Own env a := by
  rintro a o hi (rfl | ⟨_, x, hx⟩)
  · obtain ⟨m, hm, _⟩ := R.names
    rcases ns_dict hm o hi.1 with ⟨es, ep, e1⟩ | ⟨v, e1⟩ <;> rcases imm_data hi with ⟨vs, k, e2⟩ | ⟨vs, e2⟩ <;> rw [e1] at e2 <;> cases e2
  · obtain ⟨w, hw⟩ := R.cells x a hx
    rcases cell_dict hw o hi.1 with ⟨es, ep, e1⟩ | ⟨v, e1⟩ <;> rcases imm_data hi with ⟨vs, k, e2⟩ | ⟨vs, e2⟩ <;> rw [e1] at e2 <;> cases e2

-- targets
abbrev ATg := PV → (AEnv → AH → Prop) → AEnv → AH → Prop
def SoundA (c : Cx) (n : Nat) (sc : SE) (t : Expr) (f : ATg) : Prop :=
  ∀ (A : Around) (env : Env) (ρ : AEnv) (H : AH) (s : Shared) (v : Value) (p : PV) (Q : AEnv → AH → Prop) (P : Unit → Shared → Prop) (E : Value → Shared → Prop), AOk n A → EOk sc env → ER c.base c.N env ρ s.heap → St c.base H s → VRel s.heap v p → f p Q ρ H →
    (∀ ρ' H' s', ER c.base c.N env ρ' s'.heap → St c.base H' s' → Ext (Own env) No H s H' s' → Q ρ' H' → P () s') → wpAny (model c.prog c.w) A (assign t env v) P E s
def gName (k : Nat) : ATg := fun p Q ρ H => Q (upd ρ k p) H
theorem tgt_name {x : Str} {pos : Pos} {k : Nat} (hx : c.N[k]? = some x) (hk : sc.names.lookup x = some .local ∨ (sc.names.lookup x = some .cell ∧ x ∉ sc.caps)) : SoundA c n sc (.Name x pos) (gName k) := by
  intro A env ρ H s v p Q P E hA he R S hv q h
  exact wpAny_assign_Name (store_var he R S hx hk hv fun s' R' S' e' => h _ _ s' R' S' e' q)

-- blocks
def sNil : AS := fun Q ρ H => Q .next ρ H
def sCons (a b : AS) : AS := fun Q ρ H => a (fun fl ρ1 H1 => match fl with | .next => b Q ρ1 H1 | fl => Q fl ρ1 H1) ρ H
theorem ResS.trans {env : Env} {H H' : AH} {s s' : Shared} {Q : Fl → AEnv → AH → Prop} {f : Flow} {s'' : Shared} (e : Ext (Own env) No H s H' s') (r : ResS c env H' s' Q f s'') : ResS c env H s Q f s'' :=
  let ⟨fl, ρ', H'', h1, h2, h3, h4, h5⟩ := r; ⟨fl, ρ', H'', h1, h2, h3, e.trans h4, h5⟩
theorem block_nil : SoundB c n sc [] sNil := fun _ _ ρ H _ _ _ _ _ R S q => wpAny_execs_nil ⟨.next, ρ, H, .next, R, S, .refl, q⟩
theorem block_cons {st : Stmt} {sts : List Stmt} {a b : AS} (h : SoundS c n sc st a) (k : SoundB c n sc sts b) : SoundB c n sc (st :: sts) (sCons a b) := by
  intro A env ρ H s Q E hA he R S q
  refine wpAny_execs_cons (wpAny_mono (h A env ρ H s _ E hA he R S q) (fun f s1 ⟨fl, ρ1, H1, hf, R1, S1, e1, q1⟩ => ?_) fun _ _ x => x)
  cases hf with
  | next => exact wpAny_mono (k A env ρ1 H1 s1 Q E hA he R1 S1 q1) (fun _ _ r => r.trans e1) fun _ _ x => x
  | brk => exact ⟨_, ρ1, H1, .brk, R1, S1, e1, q1⟩
  | cont => exact ⟨_, ρ1, H1, .cont, R1, S1, e1, q1⟩
  | ret hv => exact ⟨_, ρ1, H1, .ret hv, R1, S1, e1, q1⟩

def sAssign (g : ATg) (a : AE) : AS := fun Q ρ H => a (fun p H1 => g p (fun ρ' H2 => Q .next ρ' H2) ρ H1) ρ H
theorem stmt_assign {tg : Expr} {pos : Pos} {v : Expr} {a : AE} {g : ATg} (ha : SoundE c n sc v a) (hg : SoundA c n sc tg g) (hs : ∀ env, EOk sc env → swapsWithSole [tg] v pos.line env = pure false := by intro _ _; rfl)
    (hw : ∀ env, EOk sc env → swappedStores [tg] v env = pure none := by intro _ _; rfl) (ht : ∀ env, assignEach [tg] env = [(false, assign tg env)] := by intro _; rfl) : SoundS c n sc (.Assign [tg] v pos) (sAssign g a) := by
  intro A env ρ H s Q E hA he R S q
  show wpAny _ _ (do
    standAt pos
    if ← swapsWithSole [tg] v pos.line env then do
      evalThenUse v env fun v => assignAll v ((assignEach [tg] env).map (·.2))
      pure .next
    else do
      let v' ← eval v env
      assignStores env v' (← swappedStores [tg] v env) ((assignEach [tg] env).map (·.2))) _ _ _
  rw [hs env he, hw env he, ht env]
  refine wpAny_bind (wpAny_standAt (wpAny_bind (wpAny_pure ?_)))
  simp only [Bool.false_eq_true, if_false]
  refine wpAny_bind (seq1 (F := fun p H1 => g p (fun ρ' H2 => Q .next ρ' H2) ρ H1) ha hA he R S q ?_)
  intro va a H1 s1 h1 R1 S1 e1 q1
  refine wpAny_bind (wpAny_pure ?_)
  show wpAny _ _ (assign tg env va >>= fun _ => pure Flow.next) _ _ _
  exact wpAny_bind (hg A env ρ H1 s1 va a (fun ρ' H2 => Q .next ρ' H2) _ E hA he R1 S1 h1 q1 (fun ρ' H' s' R' S' e' q' => wpAny_pure ⟨.next, ρ', H', .next, R', S', e1.of_no.trans e', q'⟩))

def sRet (a : AE) : AS := fun Q ρ H => a (fun p H1 => Q (.ret p) ρ H1) ρ H
theorem stmt_ret {e : Expr} {pos : Pos} {a : AE} (ha : SoundE c n sc e a) : SoundS c n sc (.Return (some e) pos) (sRet a) := by
  intro A env ρ H s Q E hA he R S q
  exact wpAny_Return_some (seq1 (F := fun p H1 => Q (.ret p) ρ H1) ha hA he R S q fun va a H1 s1 h1 R1 S1 e1 q1 => ⟨.ret a, ρ, H1, .ret h1, R1, S1, e1.of_no, q1⟩)
def sRet0 : AS := fun Q ρ H => Q (.ret .none) ρ H
def sCont : AS := fun Q ρ H => Q .cont ρ H
def sIf (t : AT) (a b : AS) : AS := fun Q ρ H => t (fun k H1 => if k then a Q ρ H1 else b Q ρ H1) ρ H
theorem stmt_if {e : Expr} {body orelse : List Stmt} {pos : Pos} {t : AT} {a b : AS} (ht : SoundT c n sc e t) (ha : SoundB c n sc body a) (hb : SoundB c n sc orelse b) : SoundS c n sc (.If e body orelse pos) (sIf t a b) := by
  intro A env ρ H s Q E hA he R S q
  refine wpAny_If (bool_mono (ht A env ρ H s _ E hA he R S q) fun k H1 s1 S1 e1 q1 => ?_)
  cases k with
  | true => exact wpAny_mono (ha A env ρ H1 s1 Q E hA he (R.ext0 S e1) S1 (by simpa using q1)) (fun _ _ r => r.trans e1.of_no) fun _ _ x => x
  | false => exact wpAny_mono (hb A env ρ H1 s1 Q E hA he (R.ext0 S e1) S1 (by simpa using q1)) (fun _ _ r => r.trans e1.of_no) fun _ _ x => x
def sExpr (a : AE) : AS := fun Q ρ H => a (fun _ H1 => Q .next ρ H1) ρ H
theorem stmt_expr {e : Expr} {pos : Pos} {a : AE} (ha : SoundE c n sc e a) (hi : ∀ env, EOk sc env → interactive env = false) (hs : ∀ env, swapsWith e none pos.line env = pure false := by intro _; rfl) : SoundS c n sc (.Expr e pos) (sExpr a) := by
  intro A env ρ H s Q E hA he R S q
  rw [exec_Expr (hi := hi env he) (hs := hs env)]
  refine wpAny_bind (wpAny_standAt (wpAny_bind (seq1 (F := fun p H1 => Q .next ρ H1) ha hA he R S q ?_)))
  intro va a H1 s1 h1 R1 S1 e1 q1
  have r : ResS c env H s Q .next s1 := ⟨.next, ρ, H1, .next, R1, S1, e1.of_no, q1⟩
  unfold dropValue
  split
  · exact wpAny_pure r
  · exact wpAny_bind (wpAny_standAt (wpAny_bind (wpAny_runValue (codeAny_builtin entry_let_go (show wpAny _ _ (ret .none) _ _ s1 from wpAny_pure (wpAny_pure r))))))
  · exact wpAny_pure r
end
end Mine
open PySem PySem.W PyProof.Rows
set_option Elab.async false
set_option linter.unusedVariables false
namespace Mine

section
variable {base : Heap} {H : AH} {s : Shared}
/-- an object that only an iterator of ours knows -/
structure Priv (base : Heap) (h : Heap) (I : Addr) : Prop where
  new : base.get? I = none
  there : ∃ o, h.get? I = some o ∧ o.cls ≠ .type "list" ∧ o.cls ≠ .type "tuple" ∧ o.cls ≠ .type "range"
theorem st_priv {h' : Heap} {tk : Nat} {I : Addr} (S : St base H s) (p : Priv base s.heap I) (hk : ∀ b o, b ≠ I → s.heap.get? b = some o → h'.get? b = some o) : St base H { s with heap := h', toks := tk } := by
  obtain ⟨o, ho, c1, c2, c3⟩ := p.there
  refine S.of_keep (X := fun b => b = I) (fun b o' hb h => hk b o' hb h) (fun b hb => hb ▸ p.new) (fun b hb vs n hl => ?_) (fun b hb o' hi => ?_)
  · subst hb; rw [show s.heap.get? b = _ from hl] at ho; cases ho; exact c1 rfl
  · subst hb; rw [hi.1] at ho; cases ho; rcases hi.2 with q | q; exact c2 q.1; exact c3 q.1
theorem vrel_priv {h h' : Heap} {I : Addr} (p : Priv base h I) (hk : ∀ b o, b ≠ I → h.get? b = some o → h'.get? b = some o) : ∀ b o, Imm h b o → h'.get? b = some o := by
  intro b o hi
  refine hk b o ?_ hi.1
  rintro rfl
  obtain ⟨o', ho, c1, c2, c3⟩ := p.there
  rw [hi.1] at ho; cases ho; rcases hi.2 with q | q; exact c2 q.1; exact c3 q.1
theorem ext_priv {Y : Nat → Prop} {h' : Heap} {tk : Nat} {I : Addr} (hk : ∀ b o, b ≠ I → s.heap.get? b = some o → h'.get? b = some o) (hz : s.heap.objs.size ≤ h'.objs.size) : Ext (fun b => b = I) Y H s H { s with heap := h', toks := tk } :=
  Ext.of_keep (fun b o hb h => hk b o hb h) hz
theorem Priv.ext {X Y : Nat → Prop} {I : Addr} {H' : AH} {s' : Shared} (p : Priv base s.heap I) (S : St base H s) (e : Ext X Y H s H' s') (hx : ¬ X I) : Priv base s'.heap I :=
  let ⟨o, ho, c1, c2⟩ := p.there; ⟨p.new, o, S.stay e ho hx c1, c1, c2⟩
end

/-- an iterator: what is left of it, by J -/
structure Iter (c : Cx) (n : Nat) (I : Addr) (P PG : Nat → Prop) (G : AH → Prop) (J : List PV → AH → Shared → Prop) : Prop where
  item : ∀ (A : Around) (p : PV) (rest : List PV) (H : AH) (s : Shared) (E : Value → Shared → Prop) (Q : Option Value → Shared → Prop), AOk n A → J (p :: rest) H s → St c.base H s →
    (∀ v s', VRel s'.heap v p → St c.base H s' → Ext P PG H s H s' → J rest H s' → (∀ b o, Imm s.heap b o → s'.heap.get? b = some o) → Q (some v) s') → wpAny (model c.prog c.w) A (pyNext (.ref I)) Q E s
  done : ∀ (A : Around) (H : AH) (s : Shared) (E : Value → Shared → Prop) (Q : Option Value → Shared → Prop), AOk n A → J [] H s → St c.base H s →
    (∀ s', St c.base H s' → Ext P PG H s H s' → (∀ b o, Imm s.heap b o → s'.heap.get? b = some o) → Q none s') → wpAny (model c.prog c.w) A (pyNext (.ref I)) Q E s
  frame : ∀ (X : Nat → Prop) (l : List PV) (H : AH) (s : Shared) (H' : AH) (s' : Shared), J l H s → St c.base H s → Ext X No H s H' s' → St c.base H' s' → (∀ a, X a → ¬ P a) → (∀ a o, Imm s.heap a o → ¬ X a) → G H' → J l H' s'
  owned : ∀ (A : Around) (l : List PV) (H : AH) (s : Shared) (E : Value → Shared → Prop) (Q : Unit → Shared → Prop) (elts : List Expr) (k : Nat) (pos : Pos) (v : Value), J l H s → Q () s → wpAny (model c.prog c.w) A (letOwnedTupleGo (.Tuple elts k pos) (.ref I) v) Q E s
  self : ∀ (A : Around) (l : List PV) (H : AH) (s : Shared) (E : Value → Shared → Prop) (Q : Value → Shared → Prop), J l H s → Q (.ref I) s → wpAny (model c.prog c.w) A (pyIter (.ref I)) Q E s

/-- the same, within one place of the run -/
structure IterA (c : Cx) (A : Around) (I : Addr) (P PG : Nat → Prop) (G : AH → Prop) (J : List PV → AH → Shared → Prop) : Prop where
  item : ∀ (p : PV) (rest : List PV) (H : AH) (s : Shared) (E : Value → Shared → Prop) (Q : Option Value → Shared → Prop), J (p :: rest) H s → St c.base H s →
    (∀ v s', VRel s'.heap v p → St c.base H s' → Ext P PG H s H s' → J rest H s' → (∀ b o, Imm s.heap b o → s'.heap.get? b = some o) → Q (some v) s') → wpAny (model c.prog c.w) A (pyNext (.ref I)) Q E s
  done : ∀ (H : AH) (s : Shared) (E : Value → Shared → Prop) (Q : Option Value → Shared → Prop), J [] H s → St c.base H s →
    (∀ s', St c.base H s' → Ext P PG H s H s' → (∀ b o, Imm s.heap b o → s'.heap.get? b = some o) → Q none s') → wpAny (model c.prog c.w) A (pyNext (.ref I)) Q E s
  frame : ∀ (X : Nat → Prop) (l : List PV) (H : AH) (s : Shared) (H' : AH) (s' : Shared), J l H s → St c.base H s → Ext X No H s H' s' → St c.base H' s' → (∀ a, X a → ¬ P a) → (∀ a o, Imm s.heap a o → ¬ X a) → G H' → J l H' s'
  owned : ∀ (l : List PV) (H : AH) (s : Shared) (E : Value → Shared → Prop) (Q : Unit → Shared → Prop) (elts : List Expr) (k : Nat) (pos : Pos) (v : Value), J l H s → Q () s → wpAny (model c.prog c.w) A (letOwnedTupleGo (.Tuple elts k pos) (.ref I) v) Q E s
theorem Iter.at {c : Cx} {n : Nat} {A : Around} {I : Addr} {P PG : Nat → Prop} {G : AH → Prop} {J : List PV → AH → Shared → Prop} (it : Iter c n I P PG G J) (hA : AOk n A) : IterA c A I P PG G J :=
  ⟨fun p rest H s E Q => it.item A p rest H s E Q hA, fun H s E Q => it.done A H s E Q hA, it.frame, it.owned A⟩

theorem owned_other {prog : Program} {w : World} {A : Around} {s : Shared} {E : Value → Shared → Prop} {Q : Unit → Shared → Prop} {elts : List Expr} {k : Nat} {pos : Pos} {I : Addr} {v : Value} {o : Obj} {T : String} (ho : s.heap.get? I = some o) (hc : o.cls = .type T)
    (hT : ["enumerate", "zip", "dict_itemiterator", "dict_reverseitemiterator", "odict_iterator", "itertools.zip_longest", "itertools.pairwise"].contains T = false) (h : Q () s) : wpAny (model prog w) A (letOwnedTupleGo (.Tuple elts k pos) (.ref I) v) Q E s := by
  unfold letOwnedTupleGo
  cases v with
  | ref a =>
    refine wpAny_bind (wpAny_load ho ?_)
    rw [hc]
    cases hd : o.data with
    | fields vs => simp only [hT, Bool.false_and, Bool.false_eq_true, if_false]; exact wpAny_pure h
    | _ => exact wpAny_pure h
  | _ => exact wpAny_pure h

section
variable {c : Cx} {n : Nat}

theorem iter_list {I a : Addr} {x : LO} : Iter c n I (fun b => b = I) No (fun H' => H' a = some x)
    (fun l H s => ∃ i, s.heap.IsListIter I a i ∧ H a = some x ∧ l = x.items.drop i ∧ Priv c.base s.heap I) where
  item A p rest H s E Q hA hj S h := by
    obtain ⟨i, hi, ha, hl, hp⟩ := hj
    obtain ⟨vs, k, hL, hv⟩ := S.hr.list a x ha
    have hx : x.items[i]? = some p := by
      have := congrArg (fun l => l[0]?) hl
      simpa using this.symm
    obtain ⟨v, hv1, hv2⟩ := hv.get hx
    refine wpAny_pyNext_list_item hi hL.isList (by simpa using hv1) fun h' hi' hs => ?_
    have hk : ∀ b o, b ≠ I → s.heap.get? b = some o → h'.get? b = some o := fun b o hb e => (hs.2 b hb).trans e
    refine h v { s with heap := h' } (hv2.mono (vrel_priv hp hk)) (st_priv (tk := s.toks) S hp hk) (ext_priv (tk := s.toks) hk (Nat.le_of_eq hs.1.symm)) ⟨i + 1, hi', ha, ?_, hp.new, ?_⟩ (vrel_priv hp hk)
    · have := congrArg (fun l => l.drop 1) hl
      simpa [Nat.add_comm] using this
    · obtain ⟨o, ho, hc, _⟩ := hi'
      exact ⟨o, ho, by rw [hc]; simp, by rw [hc]; simp, by rw [hc]; simp⟩
  done A H s E Q hA hj S h := by
    obtain ⟨i, hi, ha, hl, hp⟩ := hj
    obtain ⟨vs, k, hL, hv⟩ := S.hr.list a x ha
    have hx : x.items.length ≤ i := by
      have := congrArg List.length hl
      simp at this; omega
    have hlen := hv.length
    refine wpAny_grow (wpAny_pyNext_list_end hA.handled hi hL.isList ?_ fun h' he hg => ?_)
    · simp at hlen; simp; omega
    · have hk : ∀ b o, b ≠ I → s.heap.get? b = some o → h'.get? b = some o := fun b o hb e => he b o hb e
      exact h { s with heap := h' } (st_priv (tk := s.toks) S hp hk) (ext_priv (tk := s.toks) hk hg.1) (vrel_priv hp hk)
  frame X l H s H' s' hj S e S' hX hI hG := by
    obtain ⟨i, hi, ha, hl, hp⟩ := hj
    have hx : ¬ X I := fun q => hX I q rfl
    obtain ⟨o, ho, hc, r⟩ := hi
    exact ⟨i, ⟨o, S.stay e ho hx (by rw [hc]; simp), hc, r⟩, hG, hl, hp.ext S e hx⟩
  owned A l H s E Q elts k pos v hj h := by
    obtain ⟨i, ⟨o, ho, hc, _⟩, _⟩ := hj
    exact owned_other ho hc (by decide) h
  self A l H s E Q hj h := by
    obtain ⟨i, hi, _⟩ := hj
    exact wpAny_pyIter_listiter hi h

theorem iter_tuple {I a : Addr} {vs : List Value} {ps : List PV} : Iter c n I (fun b => b = I) No (fun _ => True)
    (fun l H s => ∃ i k, s.heap.IsTupleIter I a i ∧ IsT s.heap a vs.toArray k ∧ VAll s.heap vs ps ∧ l = ps.drop i ∧ Priv c.base s.heap I) where
  item A p rest H s E Q hA hj S h := by
    obtain ⟨i, k, hi, hT, hv, hl, hp⟩ := hj
    have hx : ps[i]? = some p := by
      have := congrArg (fun l => l[0]?) hl
      simpa using this.symm
    obtain ⟨v, hv1, hv2⟩ := hv.get hx
    have hne : a ≠ I := by
      rintro rfl
      obtain ⟨o, ho, _, c2, _⟩ := hp.there
      rw [show s.heap.get? a = _ from hT] at ho; cases ho; exact c2 rfl
    refine wpAny_pyNext_tuple_item hi ⟨_, hT, rfl, _, rfl⟩ (by simpa using hv1) fun h' hi' hs => ?_
    have hk : ∀ b o, b ≠ I → s.heap.get? b = some o → h'.get? b = some o := fun b o hb e => (hs.2 b hb).trans e
    refine h v { s with heap := h' } (hv2.mono (vrel_priv hp hk)) (st_priv (tk := s.toks) S hp hk) (ext_priv (tk := s.toks) hk (Nat.le_of_eq hs.1.symm)) ⟨i + 1, k, hi', hk a _ hne hT, hv.mono (vrel_priv hp hk), ?_, hp.new, ?_⟩ (vrel_priv hp hk)
    · have := congrArg (fun l => l.drop 1) hl
      simpa [Nat.add_comm] using this
    · obtain ⟨o, ho, hc, _⟩ := hi'
      exact ⟨o, ho, by rw [hc]; simp, by rw [hc]; simp, by rw [hc]; simp⟩
  done A H s E Q hA hj S h := by
    obtain ⟨i, k, hi, hT, hv, hl, hp⟩ := hj
    have hx : ps.length ≤ i := by
      have := congrArg List.length hl
      simp at this; omega
    have hlen := hv.length
    refine wpAny_grow (wpAny_pyNext_tuple_end hA.handled hi ⟨_, hT, rfl, _, rfl⟩ ?_ fun h' he hg => ?_)
    · simp; omega
    · have hk : ∀ b o, b ≠ I → s.heap.get? b = some o → h'.get? b = some o := fun b o hb e => he b o hb e
      exact h { s with heap := h' } (st_priv (tk := s.toks) S hp hk) (ext_priv (tk := s.toks) hk hg.1) (vrel_priv hp hk)
  frame X l H s H' s' hj S e S' hX hI hG := by
    obtain ⟨i, k, hi, hT, hv, hl, hp⟩ := hj
    have hx : ¬ X I := fun q => hX I q rfl
    obtain ⟨o, ho, hc, r⟩ := hi
    have hi' : Imm s.heap a _ := ⟨hT, .inl ⟨rfl, _, _, rfl⟩⟩
    exact ⟨i, k, ⟨o, S.stay e ho hx (by rw [hc]; simp), hc, r⟩, S.stayI e hi' (hI a _ hi'), hv.ext S e hI, hl, hp.ext S e hx⟩
  owned A l H s E Q elts k pos v hj h := by
    obtain ⟨i, _, ⟨o, ho, hc, _⟩, _⟩ := hj
    exact owned_other ho hc (by decide) h
  self A l H s E Q hj h := by
    obtain ⟨i, _, hi, _⟩ := hj
    exact wpAny_pyIter_tupleiter hi h

def rngItems (lo hi : Int) : List PV := (List.range (hi - lo).toNat).map fun (i : Nat) => .int (lo + (i : Int))
theorem rng_drop (lo hi : Int) (k : Nat) : (rngItems lo hi).drop k = rngItems (lo + k) hi := by
  apply List.ext_getElem
  · simp [rngItems]; omega
  · intro j h1 h2
    simp [rngItems]; omega
theorem rng_cons {lo hi : Int} (h : lo < hi) : rngItems lo hi = .int lo :: rngItems (lo + 1) hi := by
  have h1 : (rngItems lo hi)[0]? = some (.int lo) := by
    have : 0 < (hi - lo).toNat := by omega
    simp [rngItems, this]
  have h2 := rng_drop lo hi 1
  cases hr : rngItems lo hi with
  | nil => rw [hr] at h1; simp at h1
  | cons a l =>
    rw [hr] at h1 h2
    simp at h1 h2
    rw [h1, h2]
theorem rng_nil {lo hi : Int} (h : hi ≤ lo) : rngItems lo hi = [] := by
  have : (hi - lo).toNat = 0 := by omega
  simp [rngItems, this]

theorem iter_range {I : Addr} {hi : Int} : Iter c n I (fun b => b = I) No (fun _ => True)
    (fun l H s => ∃ x : Int, IsRangeIter s.heap I x (if x ≤ hi then hi - x else 0) 1 ∧ l = rngItems x hi ∧ Priv c.base s.heap I) where
  item A p rest H s E Q hA hj S h := by
    obtain ⟨x, hi', hl, hp⟩ := hj
    have hlt : x < hi := by
      by_cases q : x < hi
      · exact q
      · rw [rng_nil (by omega)] at hl; cases hl
    rw [rng_cons hlt] at hl
    cases hl
    refine wpAny_pyNext_range_item hi' (by split <;> omega) fun h' hi2 hs => ?_
    have hk : ∀ b o, b ≠ I → s.heap.get? b = some o → h'.get? b = some o := fun b o hb e => (hs.2 b hb).trans e
    refine h (.int x s.toks) { s with heap := h', toks := s.toks + 1 } (.int x _) (st_priv S hp hk) (ext_priv hk (Nat.le_of_eq hs.1.symm)) ⟨x + 1, ?_, rfl, hp.new, ⟨_, hi2, by simp, by simp, by simp⟩⟩ (vrel_priv hp hk)
    have e : (if x + 1 ≤ hi then hi - (x + 1) else 0) = (if x ≤ hi then hi - x else 0) - 1 := by split <;> split <;> omega
    rw [e]; exact hi2
  done A H s E Q hA hj S h := by
    obtain ⟨x, hi', hl, hp⟩ := hj
    have hge : ¬ x < hi := by
      intro q; rw [rng_cons q] at hl; cases hl
    refine wpAny_grow (wpAny_pyNext_range_end hA.handled hi' (by split <;> omega) fun h' he hg => ?_)
    have hk : ∀ b o, b ≠ I → s.heap.get? b = some o → h'.get? b = some o := fun b o hb e => he b o hb e
    exact h { s with heap := h' } (st_priv (tk := s.toks) S hp hk) (ext_priv (tk := s.toks) hk hg.1) (vrel_priv hp hk)
  frame X l H s H' s' hj S e S' hX hI hG := by
    obtain ⟨x, hi', hl, hp⟩ := hj
    have hx : ¬ X I := fun q => hX I q rfl
    exact ⟨x, S.stay e hi' hx (by simp), hl, hp.ext S e hx⟩
  owned A l H s E Q elts k pos v hj h := by
    obtain ⟨x, hi', _⟩ := hj
    exact owned_other hi' rfl (by decide) h
  self A l H s E Q hj h := by
    obtain ⟨x, hi', _⟩ := hj
    exact wpAny_pyIter_rangeiter hi' h

/-- a text's signs -/
def signs (x : List Nat) : List PV := x.map fun ch => .str [ch]
theorem iter_str {I : Addr} {x : List Nat} {t : Tok} {ty : String} (hty : ty = (if (x.all fun ch => ch < 128) = true then "str_ascii_iterator" else "str_iterator")) (hx : ∀ ch ∈ x, ch < 0x110000) : Iter c n I (fun b => b = I) No (fun _ => True)
    (fun l H s => ∃ i, s.heap.IsStrIter I ty ⟨x.toArray⟩ t i ∧ l = signs (x.drop i) ∧ Priv c.base s.heap I) where
  item A p rest H s E Q hA hj S h := by
    obtain ⟨i, hi, hl, hp⟩ := hj
    have hlt : i < x.length := by
      by_cases q : i < x.length
      · exact q
      · rw [List.drop_eq_nil_of_le (by omega)] at hl; cases hl
    rw [List.drop_eq_getElem_cons hlt] at hl
    cases hl
    have fin : ∀ h' : Heap, h'.IsStrIter I ty ⟨x.toArray⟩ t (i + 1) → Heap.SameBut I s.heap h' → Q (some (.str ⟨#[x[i]]⟩ s.toks)) { s with heap := h', toks := s.toks + 1 } := by
      intro h' hi2 hs
      have hk : ∀ b o, b ≠ I → s.heap.get? b = some o → h'.get? b = some o := fun b o hb e => (hs.2 b hb).trans e
      refine h (.str ⟨#[x[i]]⟩ s.toks) { s with heap := h', toks := s.toks + 1 } (.str [x[i]] _ (by simpa using hx _ (List.getElem_mem hlt))) (st_priv S hp hk) (ext_priv hk (Nat.le_of_eq hs.1.symm)) ⟨i + 1, hi2, rfl, hp.new, ?_⟩ (vrel_priv hp hk)
      obtain ⟨o, ho, hc, _⟩ := hi2
      refine ⟨o, ho, ?_⟩
      rw [hc, hty]; split <;> simp
    by_cases ha : (x.all fun ch => ch < 128) = true
    · rw [if_pos ha] at hty; subst hty
      exact wpAny_pyNext_ascii_item hi (by simp [hlt]) fin
    · rw [if_neg ha] at hty; subst hty
      exact wpAny_pyNext_wide_item hi (by simp [hlt]) fin
  done A H s E Q hA hj S h := by
    obtain ⟨i, hi, hl, hp⟩ := hj
    have hge : x.length ≤ i := by
      by_cases q : i < x.length
      · rw [List.drop_eq_getElem_cons q] at hl; cases hl
      · omega
    refine wpAny_grow ?_
    have fin : ∀ h' : Heap, Heap.ExtBut I s.heap h' → Grown s { s with heap := h' } → Q none { s with heap := h' } := by
      intro h' he hg
      have hk : ∀ b o, b ≠ I → s.heap.get? b = some o → h'.get? b = some o := fun b o hb e => he b o hb e
      exact h { s with heap := h' } (st_priv (tk := s.toks) S hp hk) (ext_priv (tk := s.toks) hk hg.1) (vrel_priv hp hk)
    by_cases ha : (x.all fun ch => ch < 128) = true
    · rw [if_pos ha] at hty; subst hty
      exact wpAny_pyNext_ascii_end hA.handled hi (by simp; omega) fin
    · rw [if_neg ha] at hty; subst hty
      exact wpAny_pyNext_wide_end hA.handled hi (by simp; omega) fin
  frame X l H s H' s' hj S e S' hX hI hG := by
    obtain ⟨i, hi, hl, hp⟩ := hj
    have hx : ¬ X I := fun q => hX I q rfl
    obtain ⟨o, ho, hc, r⟩ := hi
    exact ⟨i, ⟨o, S.stay e ho hx (by rw [hc, hty]; split <;> simp), hc, r⟩, hl, hp.ext S e hx⟩
  owned A l H s E Q elts k pos v hj h := by
    obtain ⟨i, ⟨o, ho, hc, _⟩, _⟩ := hj
    exact owned_other ho hc (by rw [hty]; split <;> decide) h
  self A l H s E Q hj h := by
    obtain ⟨i, hi, _⟩ := hj
    by_cases ha : (x.all fun ch => ch < 128) = true
    · rw [if_pos ha] at hty; subst hty
      exact wpAny_pyIter_striter_ascii hi h
    · rw [if_neg ha] at hty; subst hty
      exact wpAny_pyIter_striter_wide hi h

/-- what is walked over -/
def withItems (p : PV) (k : List PV → (AH → Prop) → AH → Prop) (H : AH) : Prop := match p with
  | .ref a => (match H a with | some x => k x.items (fun H' => H' a = some x) H | none => False)
  | .tup ps => k ps (fun _ => True) H
  | .str x => k (signs x) (fun _ => True) H
  | .rng lo hi => ((-1000000000 ≤ lo ∧ lo ≤ 1000000000) ∧ -1000000000 ≤ hi ∧ hi ≤ 1000000000) ∧ k (rngItems lo hi) (fun _ => True) H
  | _ => False

theorem iter_sound {A : Around} {H : AH} {s : Shared} {v : Value} {p : PV} {k : List PV → (AH → Prop) → AH → Prop} {E : Value → Shared → Prop} {Q : Value → Shared → Prop} (hv : VRel s.heap v p) (S : St c.base H s) (h : withItems p k H)
    (fin : ∀ I items P G J s', Iter c n I P No G J → J items H s' → St c.base H s' → Ext No No H s H s' → (∀ a, P a → s.heap.objs.size ≤ a ∧ a < s'.heap.objs.size) → G H → k items G H → Q (.ref I) s') : wpAny (model c.prog c.w) A (pyIter v) Q E s := by
  have newI : ∀ (o : Obj) b, b = s.heap.objs.size → s.heap.objs.size ≤ b ∧ b < (s.heap.push o).objs.size := fun o b e => ⟨Nat.le_of_eq e.symm, by rw [e, Heap.size_push]; exact Nat.lt_succ_self _⟩
  have priv : ∀ o : Obj, o.isFreed = false → o.cls ≠ .type "list" → o.cls ≠ .type "tuple" → o.cls ≠ .type "range" → Priv c.base (s.heap.push o) s.heap.objs.size := fun o hf c1 c2 c3 => ⟨S.bsize (Nat.le_refl _), o, Heap.get?_push_size _ hf, c1, c2, c3⟩
  cases hv with
  | ref a =>
    simp only [withItems] at h
    cases ha : H a with
    | none => rw [ha] at h; exact h.elim
    | some x =>
      rw [ha] at h
      obtain ⟨vs, j, hL, hv⟩ := S.hr.list a x ha
      exact wpAny_pyIter_list hL.isList (fin _ x.items _ _ _ _ (iter_list (a := a) (x := x)) ⟨0, ⟨_, Heap.get?_push_size _ rfl, rfl, rfl⟩, ha, by simp, priv _ rfl (by simp) (by simp) (by simp)⟩ (S.push _) (Ext.push _) (newI _) ha h)
  | tup hT hvs =>
    exact wpAny_pyIter_tuple ⟨_, hT, rfl, _, rfl⟩ (fin _ _ _ _ _ _ iter_tuple ⟨0, _, ⟨_, Heap.get?_push_size _ rfl, rfl, rfl⟩, Heap.get?_push_of_some _ hT, hvs.mono fun b o hi => Heap.get?_push_of_some _ hi.1, by simp, priv _ rfl (by simp) (by simp) (by simp)⟩ (S.push _) (Ext.push _) (newI _) trivial h)
  | str x t hx =>
    by_cases ha : (x.all fun ch => ch < 128) = true
    · exact wpAny_pyIter_ascii (by simpa using ha) (fin _ _ _ _ _ _ (iter_str (ty := "str_ascii_iterator") (t := t) (by rw [if_pos ha]) hx) ⟨0, ⟨_, Heap.get?_push_size _ rfl, rfl, rfl⟩, rfl, priv _ rfl (by simp) (by simp) (by simp)⟩ (S.push _) (Ext.push _) (newI _) trivial h)
    · exact wpAny_pyIter_wide (by simpa using ha) (fin _ _ _ _ _ _ (iter_str (ty := "str_iterator") (t := t) (by rw [if_neg ha]) hx) ⟨0, ⟨_, Heap.get?_push_size _ rfl, rfl, rfl⟩, rfl, priv _ rfl (by simp) (by simp) (by simp)⟩ (S.push _) (Ext.push _) (newI _) trivial h)
  | rng hr =>
    rename_i a lo hi t u v
    obtain ⟨⟨⟨b1, b2⟩, b3, b4⟩, h⟩ := h
    have esz : Builtin.Range.rangeSize lo hi 1 = if lo ≤ hi then hi - lo else 0 := by
      unfold Builtin.Range.rangeSize
      rw [if_pos (by decide)]
      split <;> split <;> omega
    refine wpAny_pyIter_range hr ?_ (fin _ _ _ _ _ _ (iter_range (hi := hi)) ⟨lo, ?_, rfl, priv _ rfl (by simp) (by simp) (by simp)⟩ (S.push _) (Ext.push _) (newI _) trivial h)
    · unfold Builtin.Range.small
      rw [esz]
      have hsz : 0 ≤ (if lo ≤ hi then hi - lo else 0) ∧ (if lo ≤ hi then hi - lo else 0) ≤ 2000000000 := by split <;> omega
      generalize (if lo ≤ hi then hi - lo else 0) = z at hsz
      simp only [Builtin.Range.rangeFitsLong]
      simp only [Bool.and_eq_true, Bool.or_eq_true, decide_eq_true_eq]
      refine ⟨⟨⟨⟨⟨by omega, by omega⟩, by omega, by omega⟩, by decide⟩, by omega, by omega⟩, .inr ?_⟩
      rw [if_pos (by decide)]
      simp only [Bool.and_eq_true, decide_eq_true_eq]; omega
    · rw [← esz]; exact Heap.get?_push_size _ rfl
  | _ => exact h.elim

-- for
def forL (g : ATg) (body : AS) (G : AH → Prop) (Q : Fl → AEnv → AH → Prop) : List PV → AEnv → AH → Prop
  | [], ρ, H => Q .next ρ H
  | p :: ps, ρ, H => g p (fun ρ1 H1 => body (fun fl ρ2 H2 => match fl with
      | .next => G H2 ∧ forL g body G Q ps ρ2 H2
      | .cont => G H2 ∧ forL g body G Q ps ρ2 H2
      | .brk => Q .next ρ2 H2
      | .ret v => Q (.ret v) ρ2 H2) ρ1 H1) ρ H
def sFor (g : ATg) (src : AE) (body : AS) : AS := fun Q ρ H => src (fun p H1 => withItems p (fun items G H2 => forL g body G Q items ρ H2) H1) ρ H

variable {sc : SE}
theorem own_lt {env : Env} {ρ : AEnv} {h : Heap} (R : ER c.base c.N env ρ h) {a : Nat} (ha : Own env a) : a < h.objs.size := by
  rcases ha with rfl | ⟨_, x, hx⟩
  · obtain ⟨m, hm, _⟩ := R.names; exact hm.lt
  · obtain ⟨w, hw⟩ := R.cells x a hx; exact hw.lt
theorem owned_any {I : Addr} {P PG : Nat → Prop} {G : AH → Prop} {J : List PV → AH → Shared → Prop} (it : Iter c n I P PG G J) {A : Around} {l : List PV} {H : AH} {s : Shared} {E : Value → Shared → Prop} {Q : Unit → Shared → Prop} {tg : Expr} {v : Value} (hj : J l H s)
    (ht : (∃ elts k pos, tg = .Tuple elts k pos) ∨ ∀ it v, letOwnedTupleGo tg it v = pure ()) (h : Q () s) : wpAny (model c.prog c.w) A (letOwnedTupleGo tg (.ref I) v) Q E s := by
  rcases ht with ⟨elts, k, pos, rfl⟩ | ht
  · exact it.owned A l H s E Q elts k pos v hj h
  · rw [ht]; exact wpAny_pure h

theorem owned_anyA {I : Addr} {P PG : Nat → Prop} {G : AH → Prop} {J : List PV → AH → Shared → Prop} {A : Around} (it : IterA c A I P PG G J) {l : List PV} {H : AH} {s : Shared} {E : Value → Shared → Prop} {Q : Unit → Shared → Prop} {tg : Expr} {v : Value} (hj : J l H s)
    (ht : (∃ elts k pos, tg = .Tuple elts k pos) ∨ ∀ it v, letOwnedTupleGo tg it v = pure ()) (h : Q () s) : wpAny (model c.prog c.w) A (letOwnedTupleGo tg (.ref I) v) Q E s := by
  rcases ht with ⟨elts, k, pos, rfl⟩ | ht
  · exact it.owned l H s E Q elts k pos v hj h
  · rw [ht]; exact wpAny_pure h

theorem for_loop {A : Around} {env : Env} {ρ₀ : AEnv} {H₀ : AH} {s₀ s : Shared} {I : Addr} {P PG : Nat → Prop} {G : AH → Prop} {J : List PV → AH → Shared → Prop} {tg : Expr} {body : List Stmt} {g : ATg} {b : AS} {Q : Fl → AEnv → AH → Prop} {R' : Result → Shared → Prop} {items : List PV} {H : AH} {ρ : AEnv}
    (it : IterA c A I P PG G J) (hg : SoundA c n sc tg g) (hb : SoundB c n sc body b) (hA : AOk n A) (he : EOk sc env) (ht : (∃ elts k pos, tg = .Tuple elts k pos) ∨ ∀ it v, letOwnedTupleGo tg it v = pure ())
    (R₀ : ER c.base c.N env ρ₀ s₀.heap) (hP : ∀ a, P a → s₀.heap.objs.size ≤ a) (hPG : ∀ i, PG i → s₀.gens.size ≤ i)
    (hj : J items H s) (R : ER c.base c.N env ρ s.heap) (S : St c.base H s) (e : Ext (Own env) No H₀ s₀ H s) (q : forL g b G Q items ρ H)
    (hR : ∀ f s', ResS c env H₀ s₀ Q f s' → R' (.ok f) s') : codeAny (model c.prog c.w) A (.forLoop tg (.ref I) body [] env) R' s := by
  have ownP : ∀ a, Own env a → ¬ P a := fun a ha hp => Nat.lt_irrefl _ (Nat.lt_of_lt_of_le (own_lt R₀ ha) (hP a hp))
  refine codeAny_forLoop_any (fun k s => ∃ items H ρ, k = items.length ∧ J items H s ∧ ER c.base c.N env ρ s.heap ∧ St c.base H s ∧ Ext (Own env) No H₀ s₀ H s ∧ forL g b G Q items ρ H) ?_ _ ⟨items, H, ρ, rfl, hj, R, S, e, q⟩
  rintro k s ⟨items, H, ρ, rfl, hj, R, S, e, q⟩
  have noP : ∀ s' : Shared, Ext P PG H s H s' → Ext (Own env) No H₀ s₀ H s' := fun s' e' => e.then_new e' (fun a ha => .inr (hP a ha)) (fun i hi => .inr (hPG i hi))
  have keepR : ∀ s' : Shared, Ext P PG H s H s' → (∀ b o, Imm s.heap b o → s'.heap.get? b = some o) → ER c.base c.N env ρ s'.heap := fun s' e' hi => by
    exact R.ext' S e' hi (fun hp => ownP _ (.inl rfl) hp) (fun x cc hx hp => let ⟨w, hw⟩ := R₀.cells x cc hx; Nat.lt_irrefl _ (Nat.lt_of_lt_of_le hw.lt (hP cc hp)))
  cases items with
  | nil =>
    refine it.done H s _ _ hj S fun s' S' e' hi => ?_
    exact wpAny_execs_nil (hR _ _ ⟨.next, ρ, H, .next, keepR s' e' hi, S', noP s' e', q⟩)
  | cons p ps =>
    refine it.item p ps H s _ _ hj S fun v s' hv S' e' hj' hi => ?_
    refine owned_anyA it hj' ht ?_
    have R' := keepR s' e' hi
    refine hg A env ρ H s' v p _ _ _ hA he R' S' hv q fun ρ1 H1 s1 R1 S1 e1 q1 => ?_
    refine wpAny_mono (hb A env ρ1 H1 s1 _ _ hA he R1 S1 q1) (fun f s2 ⟨fl, ρ2, H2, hf, R2, S2, e2, q2⟩ => ?_) fun _ _ x => x
    have e02 := ((noP s' e').trans e1).trans e2
    have again : G H2 ∧ forL g b G Q ps ρ2 H2 → ∃ m, m < (p :: ps).length ∧ ∃ items H ρ, m = items.length ∧ J items H s2 ∧ ER c.base c.N env ρ s2.heap ∧ St c.base H s2 ∧ Ext (Own env) No H₀ s₀ H s2 ∧ forL g b G Q items ρ H := fun hq =>
      ⟨ps.length, by simp, ps, H2, ρ2, rfl, it.frame (Own env) ps H s' H2 s2 hj' S' (e1.trans e2) S2 ownP (own_no_imm R') hq.1, R2, S2, e02, hq.2⟩
    cases hf with
    | next => exact again q2
    | cont => exact again q2
    | brk => exact hR _ _ ⟨.next, ρ2, H2, .next, R2, S2, e02, q2⟩
    | ret hv => exact hR _ _ ⟨.ret _, ρ2, H2, .ret hv, R2, S2, e02, q2⟩

theorem stmt_for {tg iter : Expr} {body : List Stmt} {pos : Pos} {g : ATg} {src : AE} {b : AS} (hs : SoundE c n sc iter src) (hg : SoundA c n sc tg g) (hb : SoundB c n sc body b) (hf : ∀ env x, foldedSetIterable iter env x = pure x := by intro _ _; rfl)
    (ht : (∃ elts k pos, tg = .Tuple elts k pos) ∨ ∀ it v, letOwnedTupleGo tg it v = pure () := by first | exact .inl ⟨_, _, _, rfl⟩ | exact .inr fun _ _ => rfl) : SoundS c n sc (.For tg iter body [] pos) (sFor g src b) := by
  intro A env ρ H s Q E hA he R S q
  refine wpAny_For (seq1 (F := fun p H1 => withItems p (fun items G H2 => forL g b G Q items ρ H2) H1) hs hA he R S q ?_) (hf env)
  intro va a H1 s1 h1 R1 S1 e1 q1
  refine iter_sound (n := n) h1 S1 q1 fun I items P G J s2 it hj S2 e2 hP hG q2 => ?_
  exact for_loop (it.at hA) hg hb hA he ht R1 (fun a h => (hP a h).1) (fun _ h => h.elim) hj (R1.ext0 S1 e2) S2 e2.of_no q2 fun f s' r => r.trans e1.of_no
end
end Mine
open PySem PySem.W PySem.Calls PyProof.Rows
set_option Elab.async false
set_option linter.unusedVariables false
namespace Mine
section
variable {c : Cx} {n : Nat} {sc : SE}

-- while
def whileN (t : AT) (b : AS) (Q : Fl → AEnv → AH → Prop) : Nat → AEnv → AH → Prop
  | 0, _, _ => False
  | k + 1, ρ, H => t (fun r H1 => if r then b (fun fl ρ2 H2 => match fl with
      | .next => whileN t b Q k ρ2 H2
      | .cont => whileN t b Q k ρ2 H2
      | .brk => Q .next ρ2 H2
      | .ret v => Q (.ret v) ρ2 H2) ρ H1 else Q .next ρ H1) ρ H
def sWhile (t : AT) (b : AS) : AS := fun Q ρ H => ∃ k, whileN t b Q k ρ H
theorem stmt_while {e : Expr} {body : List Stmt} {pos : Pos} {t : AT} {b : AS} (ht : SoundT c n sc e t) (hb : SoundB c n sc body b) : SoundS c n sc (.While e body [] pos) (sWhile t b) := by
  intro A env ρ H s Q E hA he R S q
  obtain ⟨k, q⟩ := q
  refine wpAny_While (codeAny_whileLoop (fun k s' => ∃ ρ' H', ER c.base c.N env ρ' s'.heap ∧ St c.base H' s' ∧ Ext (Own env) No H s H' s' ∧ whileN t b Q k ρ' H') ?_ k ⟨ρ, H, R, S, .refl, q⟩)
  rintro k s' ⟨ρ', H', R', S', e', q'⟩
  cases k with
  | zero => exact q'.elim
  | succ k =>
    refine bool_mono (ht A env ρ' H' s' _ _ hA he R' S' q') fun r H1 s1 S1 e1 q1 => ?_
    have R1 := R'.ext0 S' e1
    have e01 := e'.trans e1.of_no
    cases r with
    | false => exact wpAny_execs_nil ⟨.next, ρ', H1, .next, R1, S1, e01, by simpa using q1⟩
    | true =>
      simp only [if_true] at q1 ⊢
      refine wpAny_mono (hb A env ρ' H1 s1 _ _ hA he R1 S1 q1) (fun f s2 ⟨fl, ρ2, H2, hf, R2, S2, e2, q2⟩ => ?_) fun _ _ x => x
      have e02 := e01.trans e2
      cases hf with
      | next => exact ⟨k, Nat.lt_succ_self _, ρ2, H2, R2, S2, e02, q2⟩
      | cont => exact ⟨k, Nat.lt_succ_self _, ρ2, H2, R2, S2, e02, q2⟩
      | brk => exact ⟨.next, ρ2, H2, .next, R2, S2, e02, q2⟩
      | ret hv => exact ⟨.ret _, ρ2, H2, .ret hv, R2, S2, e02, q2⟩

-- the text's own functions
abbrev AF := List PV → (PV → AH → Prop) → AH → Prop
def SoundV (c : Cx) (n : Nat) (cv : Value) (f : AF) : Prop :=
  ∀ (A : Around) (H : AH) (s : Shared) (vs : List Value) (ps : List PV) (Q : PV → AH → Prop) (E : Value → Shared → Prop), AOk n A → VAll s.heap vs ps → St c.base H s → f ps Q H → wpAny (model c.prog c.w) A (call cv vs) (Res c H s Q) E s
def SoundF (c : Cx) (n : Nat) (name : Str) (f : AF) : Prop := ∃ a o fd, c.mg name = some (.ref a) ∧ c.base.get? a = some o ∧ o.data = .func fd ∧ SoundV c n (.ref a) f
def aCall (f : AF) (l : AL) : AE := fun Q ρ H => l (fun ps H1 => f ps Q H1) ρ H

theorem seqL {A : Around} {env : Env} {ρ : AEnv} {H : AH} {s : Shared} {E : Value → Shared → Prop} {es : List Expr} {al : AL} {pos : Pos} {P : List Value → Shared → Prop} {F : List PV → AH → Prop} (hl : SoundL c n sc es al) (hA : AOk n A) (he : EOk sc env) (R : ER c.base c.N env ρ s.heap) (S : St c.base H s)
    (h : al F ρ H) (k : ∀ vs ps H1 s1, VAll s1.heap vs ps → ER c.base c.N env ρ s1.heap → St c.base H1 s1 → Ext No No H s H1 s1 → F ps H1 → P vs s1) :
    wpAny (model c.prog c.w) A (spliced (backTo pos (starEach es env))) P E s :=
  wpAny_mono (hl A env ρ H s _ E pos hA he R S h) (fun va s1 ⟨a, H1, h1, S1, e1, q1⟩ => k va a H1 s1 h1 (R.ext0 S e1) S1 e1 q1) fun _ _ x => x

theorem sound_call {name : Str} {f : AF} {e : Expr} {es : List Expr} {l : AL} {p pos : Pos} {m : Nat} (hf : SoundF c m name f) (hl : SoundL c n sc (e :: es) l) (hk : sc.names.lookup name = some .globalImplicit) (hm : m ≤ n)
    (hd : (name == ("__debug__" : Str)) = false := by decide) (he' : ∀ env, starEach (e :: es) env = (false, eval e env) :: starEach es env := by intro _; rfl) : SoundE c n sc (.Call (.Name name p) (e :: es) [] pos) (aCall f l) := by
  intro A env ρ H s Q E hA he R S q
  obtain ⟨a, o, fd, h1, h2, h3, h4⟩ := hf
  have T := c.top.keeps S.hr.keep
  refine Call_ (Name_function_global he.skind (by rw [he.kindOf]; exact hk) (loadGlobal_global (mg := c.mg) (by rw [he.globals]; exact T.g) h1 ?_) hd)
  refine callWith_def h3 (seqL (F := fun ps H1 => f ps Q H1) hl hA he R S q fun vs ps H1 s1 hv R1 S1 e1 q1 => ⟨S1.hr.keep a o h2, ?_⟩) (he' env)
  exact wpAny_mono (h4 A H1 s1 vs ps Q E (hA.of_le hm) hv S1 q1) (fun _ _ r => r.trans e1) fun _ _ x => x

-- built-in functions and types
def isCallee : Value → Bool
  | .builtin _ => true
  | .type _ => true
  | _ => false
theorem sound_bi {name : Str} {cv : Value} {f : AF} {e : Expr} {es : List Expr} {l : AL} {p pos : Pos} (hf : SoundV c n cv f) (hc : isCallee cv = true) (hm : c.mg name = none) (hb : bootBuiltins name = some cv) (hn : name ≠ ("__name__" : Str)) (hl : SoundL c n sc (e :: es) l) (hk : sc.names.lookup name = some .globalImplicit)
    (hd : (name == ("__debug__" : Str)) = false := by decide) (he' : ∀ env, starEach (e :: es) env = (false, eval e env) :: starEach es env := by intro _; rfl) (hp : ∀ env, (backTo pos (starEach es env)).any (·.1) = false := by intro _; rfl) : SoundE c n sc (.Call (.Name name p) (e :: es) [] pos) (aCall f l) := by
  intro A env ρ H s Q E hA he R S q
  have T := c.top.keeps S.hr.keep
  refine Call_ (Name_function_global he.skind (by rw [he.kindOf]; exact hk) (loadGlobal_builtin (mg := c.mg) (mb := c.mb) (by rw [he.globals]; exact T.g) hm (by rw [he.builtins]; exact T.b) ((T.builtins name hn).trans hb) ?_) hd)
  have args : wpAny (model c.prog c.w) A (spliced (backTo pos (starEach (e :: es) env))) (fun vs s1 => wpAny (model c.prog c.w) A (call cv vs) (Res c H s Q) E s1) E s :=
    seqL (F := fun ps H1 => f ps Q H1) hl hA he R S q fun vs ps H1 s1 hv R1 S1 e1 q1 => wpAny_mono (hf A H1 s1 vs ps Q E hA hv S1 q1) (fun _ _ r => r.trans e1) fun _ _ x => x
  cases cv with
  | builtin id => exact callWith_builtin1 args (he' env) (hp env)
  | type T =>
    rw [he' env] at args ⊢
    exact PySem.callWith_type (by show (false || (backTo pos (starEach es env)).any (·.1)) = false; rw [hp env]; rfl) (evalArgs_plain args)
  | _ => cases hc

-- entering
theorem bindL_other {kd : Str → Option NameKind} : ∀ (binds : List (Str × Value)) (m : Str → Option Value) (y : Str), (∀ v, (y, v) ∉ binds) → bindL kd binds m y = m y
  | [], _, _, _ => rfl
  | (x, v) :: r, m, y, h => by
    unfold bindL
    rw [bindL_other r _ y fun w hw => h w (.tail _ hw)]
    have : y ≠ x := by rintro rfl; exact h v (.head _)
    split <;> simp [this]
theorem bindC_other {kd : Str → Option NameKind} : ∀ (binds : List (Str × Value)) (m : Str → Option Value) (y : Str), (∀ v, (y, v) ∉ binds) → bindC kd binds m y = m y
  | [], _, _, _ => rfl
  | (x, v) :: r, m, y, h => by
    unfold bindC
    rw [bindC_other r _ y fun w hw => h w (.tail _ hw)]
    have : y ≠ x := by rintro rfl; exact h v (.head _)
    split <;> simp [this]
theorem nodup_head {x : Str} {v : Value} {r : List (Str × Value)} (h : (((x, v) :: r).map (·.1)).Nodup) : ∀ w, (x, w) ∉ r := by
  intro w hw
  simp at h
  exact h.1 _ hw
theorem bindL_at {kd : Str → Option NameKind} : ∀ (binds : List (Str × Value)) (m : Str → Option Value) {x : Str} {v : Value}, (binds.map (·.1)).Nodup → (x, v) ∈ binds → kd x = some .local → bindL kd binds m x = some v
  | (y, w) :: r, m, x, v, hn, hm, hk => by
    unfold bindL
    rcases List.mem_cons.mp hm with e | hm
    · cases e
      rw [bindL_other r _ _ (nodup_head hn), if_pos hk]; simp
    · exact bindL_at r _ (by simp at hn ⊢; exact hn.2) hm hk
theorem bindC_at {kd : Str → Option NameKind} : ∀ (binds : List (Str × Value)) (m : Str → Option Value) {x : Str} {v : Value}, (binds.map (·.1)).Nodup → (x, v) ∈ binds → kd x ≠ some .local → bindC kd binds m x = some v
  | (y, w) :: r, m, x, v, hn, hm, hk => by
    unfold bindC
    rcases List.mem_cons.mp hm with e | hm
    · cases e
      rw [bindC_other r _ _ (nodup_head hn), if_neg hk]; simp
    · exact bindC_at r _ (by simp at hn ⊢; exact hn.2) hm hk

def bindP : List Nat → List PV → AEnv
  | k :: ks, p :: ps => upd (bindP ks ps) k p
  | _, _ => fun _ => none
theorem bindP_at {N : List Str} {h : Heap} : ∀ (ks : List Nat) (xs : List Str) (vs : List Value) (ps : List PV), ks.map (N[·]?) = xs.map some → VAll h vs ps → ps.length = ks.length → ∀ k p, bindP ks ps k = some p → ∃ x v, N[k]? = some x ∧ (x, v) ∈ xs.zip vs ∧ VRel h v p
  | [], _, _, _, _, _, _, k, p, h => by simp [bindP] at h
  | k0 :: ks, [], _, _, hx, _, _, _, _, _ => by simp at hx
  | k0 :: ks, x :: xs, [], _, _, hv, hl, _, _, _ => by cases hv; simp at hl
  | k0 :: ks, x :: xs, v :: vs, _, hx, .cons hv hr, hl, k, p, hp => by
    simp only [bindP] at hp
    by_cases e : k = k0
    · subst e
      rw [upd_same] at hp; cases hp
      exact ⟨x, v, by simpa using (List.cons.inj hx).1, by simp, hv⟩
    · rw [upd_other _ _ e] at hp
      obtain ⟨y, w, h1, h2, h3⟩ := bindP_at ks xs vs _ (List.cons.inj hx).2 hr (by simpa using hl) k p hp
      exact ⟨y, w, h1, by simp [h2], h3⟩

/-- what a call of a def gives -/
def aFn (ks : List Nat) (b : AS) : AF := fun ps Q H => ps.length = ks.length ∧ b (fun fl _ H' => match fl with
  | .ret p => Q p H'
  | .next => Q .none H'
  | .brk => False
  | .cont => False) (bindP ks ps) H

theorem sound_fn {d : DefRec} {ks : List Nat} {xs : List Str} {b : AS} (hd : d ∈ recsOf c.q) (hb : SoundB c n ⟨d.scope, []⟩ d.body b) (hx : ks.map (c.N[·]?) = xs.map some) (hnd : xs.Nodup)
    (hbind : ∀ pm cd doc vs, vs.length = xs.length → bindArgs (Calls.docDef d.name d.params d.body d.scope pm cd doc) ⟨vs, []⟩ = pure (xs.zip vs))
    (hkind : ∀ x ∈ xs, d.scope.names.lookup x = some .local ∨ d.scope.names.lookup x = some .cell)
    (hco : d.scope.isCoroutine = false := by rfl) (hgen : d.scope.isGenerator = false := by rfl) (hk : d.scope.kind = .function := by rfl) : SoundF c (n + 1) d.name (aFn ks b) := by
  obtain ⟨a, o, pm, cd, doc, h1, h2, h3, h4⟩ := c.top.fn d hd
  refine ⟨a, o, _, h1, h2, h3, ?_⟩
  intro A H s vs ps Q E hA hv S q
  obtain ⟨ql, q⟩ := q
  have hlen : ks.length = xs.length := by simpa using congrArg List.length hx
  have T := c.top.keeps S.hr.keep
  refine wpAny_call (codeAny_call_cells (by have := hA.depth; simp only [recursionLimit]; omega) (S.hr.keep a o h2) h3 T.nolimit (h4.keeps S.hr.keep) rfl (hbind pm cd doc vs (by rw [hv.length, ql, hlen])) rfl ?_ (fun s1 x => ?_) hco hgen hk)
  · intro y hy
    have hmem : y.1 ∈ xs := (List.of_mem_zip hy).1
    rcases hkind _ hmem with k | k
    · exact .inl k
    · exact .inr ⟨k, cellsFrom_some _ _ _ (.inl k)⟩
  · generalize henv : callEnvC (Calls.docDef d.name d.params d.body d.scope pm cd doc) s.heap.objs.size a = env at x ⊢
    have eL : env.locals = s.heap.objs.size := by rw [← henv]; rfl
    have eS : env.scope = d.scope := by rw [← henv]; rfl
    have eC : env.cells = cellsFrom (s.heap.objs.size + 1) d.scope.names [] := by rw [← henv]; rfl
    have he : EOk ⟨d.scope, []⟩ env := ⟨eS, hk, by rw [← henv]; rfl, by rw [← henv]; rfl, fun y hy => by
      obtain ⟨a', ha'⟩ := Option.isSome_iff_exists.mp (cellsFrom_some d.scope.names (s.heap.objs.size + 1) [] (.inl hy))
      exact ⟨a', by rw [eC]; exact ha', fun _ => x.above y a' (mem_of_lookup (by rw [eC]; exact ha'))⟩⟩
    obtain ⟨h', tk, rfl⟩ := x.toInCall.same
    have hgrow : s.heap.objs.size ≤ h'.objs.size := Nat.le_of_lt (Nat.lt_of_le_of_lt x.toInCall.fresh x.toInCall.ns.lt)
    have S1 : St c.base H { s with heap := h', toks := tk } := S.of_keep (X := No) (fun b o _ h => x.toInCall.keep b o h) (fun _ h => h.elim) (fun _ h => h.elim) (fun _ h => h.elim)
    have e1 : Ext No No H s H { s with heap := h', toks := tk } := Ext.of_keep (fun b o _ h => x.toInCall.keep b o h) hgrow
    have hv' : VAll h' vs ps := hv.mono fun b o h => x.toInCall.keep b o h.1
    have hz : (xs.zip vs).map (·.1) = xs := by
      rw [List.map_fst_zip]; rw [hv.length, ql, hlen]; exact Nat.le_refl _
    have R1 : ER c.base c.N env (bindP ks ps) h' := {
      names := ⟨_, x.toInCall.ns, fun k p hp => by
        obtain ⟨y, v, k1, k2, k3⟩ := bindP_at ks xs vs ps hx hv' ql k p hp
        refine ⟨y, v, k1, k3, ?_⟩
        have hkd := hkind y (List.of_mem_zip k2).1
        rcases hkd with kd | kd
        · have kd' : env.kindOf y = some .local := by rw [he.kindOf]; exact kd
          exact .inl ⟨kd', bindL_at _ _ (by rw [hz]; exact hnd) k2 kd'⟩
        · have kd' : env.kindOf y = some .cell := by rw [he.kindOf]; exact kd
          obtain ⟨cc, hcc, _⟩ := he.cells y kd
          refine .inr ⟨.inl kd', cc, hcc, ?_⟩
          have := x.cell y cc hcc
          rwa [bindC_at _ _ (by rw [hz]; exact hnd) k2 (by rw [kd']; simp)] at this⟩
      cells := fun y cc hy => ⟨_, x.cell y cc hy⟩
      apart := x.apart
      new := S.bsize x.toInCall.fresh
      cnew := fun y cc hy => S.bsize (Nat.le_of_lt (Nat.lt_of_le_of_lt x.toInCall.fresh (x.above y cc (mem_of_lookup hy)))) }
    refine wpAny_mono (hb _ env (bindP ks ps) H _ _ _ (hA.deeper env) he R1 S1 q) (fun f s' ⟨fl, ρ', H', hf, R', S', e', q'⟩ => ?_) fun _ _ x => x
    have own : ∀ b, Own env b → No b ∨ s.heap.objs.size ≤ b := by
      rintro b (rfl | ⟨_, y, hy⟩)
      · exact .inr x.toInCall.fresh
      · exact .inr (Nat.le_of_lt (Nat.lt_of_le_of_lt x.toInCall.fresh (x.above y b (mem_of_lookup hy))))
    have e2 := e1.then_new e' own (fun _ h => h.elim)
    cases hf with
    | next => exact ⟨.none, H', .none, S', e2, q'⟩
    | brk => exact q'.elim
    | cont => exact q'.elim
    | ret hv => exact ⟨_, H', hv, S', e2, q'⟩
end
end Mine
open PySem PySem.W PySem.Calls PyProof.Rows
set_option Elab.async false
set_option linter.unusedVariables false
namespace Mine
section
variable {c : Cx} {n : Nat} {sc : SE}

-- items
def nth {α : Type} (xs : List α) (k : Int) : Option α := if 0 ≤ k then xs[k.toNat]? else if -(xs.length : Int) ≤ k then xs[(k + xs.length).toNat]? else none
def kOk (k : Int) : Prop := -1000000000 ≤ k ∧ k ≤ 1000000000
theorem nth_seq {α : Type} {xs : List α} {k : Int} {x : α} (h : nth xs k = some x) : ∃ j, seqIndex? k xs.length = some j ∧ xs[j]? = some x := by
  unfold nth at h
  by_cases h0 : 0 ≤ k
  · rw [if_pos h0] at h
    have hl := (List.getElem?_eq_some_iff.mp h).1
    exact ⟨k.toNat, seqIndex_of h0 (by omega), h⟩
  · rw [if_neg h0] at h
    by_cases h1 : -(xs.length : Int) ≤ k
    · rw [if_pos h1] at h
      exact ⟨_, seqIndex_neg (by omega) h1, h⟩
    · rw [if_neg h1] at h; cases h
def opItem (o i : PV) (Q : PV → AH → Prop) (H : AH) : Prop := match o, i with
  | .ref a, .int k => (match H a with | some x => (match nth x.items k with | some p => kOk k ∧ Q p H | none => False) | none => False)
  | .tup ps, .int k => (match nth ps k with | some p => kOk k ∧ Q p H | none => False)
  | .str x, .int k => (match nth x k with | some ch => kOk k ∧ Q (.str [ch]) H | none => False)
  | _, _ => False
theorem op_item : SoundOp2 c n getItem opItem := by
  intro A H s va vb a b Q E hA h1 h2 S h
  cases h2 with
  | int k t =>
    cases h1 with
    | ref a =>
      simp only [opItem] at h
      cases ha : H a with
      | none => simp [ha] at h
      | some x =>
        simp only [ha] at h
        cases hn : nth x.items k with
        | none => simp [hn] at h
        | some p =>
          simp only [hn] at h
          obtain ⟨vs, j, hL, hv⟩ := S.hr.list a x ha
          obtain ⟨i, hi, hx⟩ := nth_seq hn
          obtain ⟨v, hv1, hv2⟩ := hv.get hx
          have hlen : vs.size = x.items.length := by simpa using hv.length
          by_cases h0 : 0 ≤ k
          · have : i = k.toNat := by
              have := (List.getElem?_eq_some_iff.mp hx).1
              by_cases hlt : k < x.items.length
              · rw [seqIndex_of h0 hlt] at hi; cases hi; rfl
              · unfold nth at hn; rw [if_pos h0] at hn; rw [List.getElem?_eq_none (by omega)] at hn; cases hn
            subst this
            exact wpAny_getItem_list hL.isList h0 (by have := h.1.2; omega) (by simpa using hv1) (res_pure S hv2 h.2)
          · have h1 : -(x.items.length : Int) ≤ k := by
              by_cases q : -(x.items.length : Int) ≤ k
              · exact q
              · unfold nth at hn; rw [if_neg h0, if_neg q] at hn; cases hn
            have : i = (k + x.items.length).toNat := by rw [seqIndex_neg (by omega) h1] at hi; cases hi; rfl
            subst this
            exact wpAny_getItem_list_neg hL.isList (by omega) (by rw [hlen]; exact h1) (by have := h.1.1; omega) (by rw [hlen]; simpa using hv1) (res_pure S hv2 h.2)
    | tup hT hvs =>
      simp only [opItem] at h
      rename_i aa vs nn ps
      cases hn : nth ps k with
      | none => simp [hn] at h
      | some p =>
        simp only [hn] at h
        obtain ⟨i, hi, hx⟩ := nth_seq hn
        obtain ⟨v, hv1, hv2⟩ := hvs.get hx
        have hlen : vs.length = ps.length := hvs.length
        exact PySem.P.getItem_tuple hT (by have := h.1.1; omega) (by have := h.1.2; omega) (by simpa [hlen] using hi) (by simpa using hv1) (res_pure S hv2 h.2)
    | str x t hx =>
      simp only [opItem] at h
      cases hn : nth x k with
      | none => simp [hn] at h
      | some ch =>
        simp only [hn] at h
        obtain ⟨i, hi, hx'⟩ := nth_seq hn
        refine PyProof.Rows.getItem_str ?_ (c := ch) ?_ (res_tok (p := .str [ch]) S (.str [ch] _ ?_) h.2)
        · have := h.1.1; have := h.1.2
          simp; omega
        · rw [str_len, hi]; simpa using hx'
        · have := List.mem_of_getElem? hx'
          simpa using hx ch this
    | _ => exact h.elim
  | _ => cases h1 <;> exact h.elim

theorem typ_get {H : AH} {s : Shared} {v : Value} {p : PV} {k : Int} {Q : PV → AH → Prop} (h1 : VRel s.heap v p) (S : St c.base H s) (h : ∃ a x, (p = .ref a ∧ H a = some x) ∨ (∃ ps, p = .tup ps) ∨ ∃ y, p = .str y) :
    ∃ T id, s.TypeIs v T ∧ typeLookup (.type T) "__getitem__" = pure (some (.builtin id)) := by
  obtain ⟨a, x, ⟨rfl, ha⟩ | ⟨ps, rfl⟩ | ⟨y, rfl⟩⟩ := h
  · cases h1
    obtain ⟨vs, j, hL, hv⟩ := S.hr.list a x ha
    exact ⟨"list", _, ⟨_, hL, rfl⟩, list_getitem_lookup⟩
  · cases h1 with
    | tup hT _ => exact ⟨"tuple", _, ⟨_, hT, rfl⟩, F.slot_tuple_getitem.lookup⟩
  · cases h1
    exact ⟨"str", _, typeIs_str _ _ _, F.slot_str_getitem.lookup⟩

theorem sub_any {M : Model} {A : Around} {env : Env} {s : Shared} {E : Value → Shared → Prop} {value slice : Expr} {pos : Pos} {Q : Value → Shared → Prop} {prog : Program} {w : World}
    (h : wpAny (model prog w) A (eval value env) (fun o s₁ => wpAny (model prog w) A (eval slice env) (fun i s₂ => (∃ T id, s₂.TypeIs o T ∧ typeLookup (.type T) "__getitem__" = pure (some (.builtin id))) ∧ wpAny (model prog w) A (getItem o i) Q E s₂) E s₁) E s) :
    wpAny (model prog w) A (eval (.Subscript value slice pos) env) Q E s := by
  rw [eval_Subscript]
  refine wpAny_bind (wpAny_mono h (fun o s1 h1 => wpAny_bind (wpAny_holding (wpAny_mono h1 (fun i s2 ⟨⟨T, id, hT, hl⟩, h2⟩ => ?_) fun _ _ x => x))) fun _ _ x => x)
  refine wpAny_bind (wpAny_standAt ?_)
  rw [getitemInPython_of_ne hT.not_modules]
  refine wpAny_bind (wpAny_bind (wpAny_specialOf hT hl (wpAny_pure ?_)))
  have e : subscripted slice false o i = operate [i, o] (getItem o i) ∨ subscripted slice false o i = operate [o, i] (getItem o i) := by
    unfold subscripted; split <;> simp_all
  rcases e with e | e <;> rw [e] <;>
  exact wpAny_bind (wpAny_operating (wpAny_mono h2 (fun r s3 h3 => wpAny_bind (wpAny_letTemporaryGo (wpAny_pure h3))) fun _ _ x => x))
theorem sound_sub {value slice : Expr} {pos : Pos} {ao ai : AE} (ho : SoundE c n sc value ao) (hi : SoundE c n sc slice ai) : SoundE c n sc (.Subscript value slice pos) (aBin opItem ao ai) := by
  intro A env ρ H s Q E hA he R S q
  refine sub_any (M := model c.prog c.w) (seq2 (F := fun a b H2 => opItem a b Q H2) ho hi hA he R S q ?_)
  intro va vb a b H2 s2 h1 h2 R2 S2 e2 q2
  refine ⟨typ_get (k := 0) (Q := Q) h1 S2 ?_, wpAny_mono (op_item A H2 s2 va vb a b Q E hA h1 h2 S2 q2) (fun _ _ r => r.trans e2) fun _ _ x => x⟩
  unfold opItem at q2
  split at q2
  · rename_i l k
    cases ha : H2 l with
    | none => rw [ha] at q2; exact q2.elim
    | some x => exact ⟨l, x, .inl ⟨rfl, ha⟩⟩
  · exact ⟨0, ⟨[], true⟩, .inr (.inl ⟨_, rfl⟩)⟩
  · exact ⟨0, ⟨[], true⟩, .inr (.inr ⟨_, rfl⟩)⟩
  · exact q2.elim
end
end Mine
open PySem PySem.W PySem.Calls PyProof.Rows
set_option Elab.async false
set_option linter.unusedVariables false
namespace Mine
section
variable {c : Cx} {n : Nat} {sc : SE}

-- writing lists
theorem res_set {H : AH} {s : Shared} {Q : PV → AH → Prop} {a : Addr} {x : LO} {items : Array Value} {m : Nat} {f : Array Value → Array Value} {ps : List PV} {v : Value} {p : PV} (S : St c.base H s) (hx : H a = some x) (ho : x.own = true) (hl : IsL s.heap a items m) (hv : VAll s.heap (f items).toList ps)
    (hr : VRel s.heap v p) (q : Q p (upd H a ⟨ps, true⟩)) : Res c H s Q v { s with heap := s.heap.update a (Obj.mapSeq f) } := by
  have hs := Heap.SameBut.update s.heap a (Obj.mapSeq f)
  have e : Ext No No H s (upd H a ⟨ps, true⟩) { s with heap := s.heap.update a (Obj.mapSeq f) } := Ext.setList (tk := s.toks) hx ho hs
  exact ⟨p, _, hr.ext0 S e, S.setList (tk := s.toks) hx ho (hl.update f) hs hv, e, q⟩

/-- a list of ours that may be written -/
def withOwn (p : PV) (k : Nat → List PV → Prop) (H : AH) : Prop := match p with
  | .ref a => (match H a with | some x => x.own = true ∧ k a x.items | none => False)
  | _ => False
theorem withOwn_elim {p : PV} {k : Nat → List PV → Prop} {H : AH} (h : withOwn p k H) : ∃ a x, p = .ref a ∧ H a = some x ∧ x.own = true ∧ k a x.items := by
  unfold withOwn at h
  split at h
  · rename_i a
    cases ha : H a with
    | none => rw [ha] at h; exact h.elim
    | some x => rw [ha] at h; exact ⟨a, x, rfl, ha, h.1, h.2⟩
  · exact h.elim

def setAt (o i p : PV) (Q : AH → Prop) (H : AH) : Prop := match i with
  | .int k => withOwn o (fun a xs => (0 ≤ k ∧ k ≤ 1000000000 ∧ k < xs.length) ∧ Q (upd H a ⟨xs.set k.toNat p, true⟩)) H
  | _ => False
def gSub (ao ai : AE) : ATg := fun p Q ρ H => ao (fun o H1 => ai (fun i H2 => setAt o i p (fun H3 => Q ρ H3) H2) ρ H1) ρ H
-- rows of targets
def gTup (gs : List ATg) : ATg := fun p Q ρ H => match p with
  | .tup ps => ps.length = gs.length ∧ go gs ps Q ρ H
  | _ => False
where
  go : List ATg → List PV → (AEnv → AH → Prop) → AEnv → AH → Prop
    | g :: gs, p :: ps, Q, ρ, H => g p (fun ρ1 H1 => go gs ps Q ρ1 H1) ρ H
    | _, _, Q, ρ, H => Q ρ H
inductive SoundAs (c : Cx) (n : Nat) (sc : SE) : List Expr → List ATg → Prop
  | nil : SoundAs c n sc [] []
  | cons {t : Expr} {ts : List Expr} {g : ATg} {gs : List ATg} : SoundA c n sc t g → (∀ env, assignEach (t :: ts) env = (false, assign t env) :: assignEach ts env) → SoundAs c n sc ts gs → SoundAs c n sc (t :: ts) (g :: gs)
theorem SoundAs.length {ts : List Expr} {gs : List ATg} (h : SoundAs c n sc ts gs) (env : Env) : (assignEach ts env).length = gs.length ∧ (assignEach ts env).findIdx? (·.1) = none := by
  induction h with
  | nil => exact ⟨rfl, rfl⟩
  | cons h1 h2 h3 ih => rw [h2]; exact ⟨by simp [ih.1], by simp [List.findIdx?_cons, ih.2]⟩
theorem assign_row {A : Around} {env : Env} (hA : AOk n A) (he : EOk sc env) {P : Unit → Shared → Prop} {E : Value → Shared → Prop} : ∀ {ts : List Expr} {gs : List ATg}, SoundAs c n sc ts gs → ∀ (ρ : AEnv) (H : AH) (s : Shared) (vs : List Value) (ps : List PV) (Q : AEnv → AH → Prop), ER c.base c.N env ρ s.heap → St c.base H s → VAll s.heap vs ps → ps.length = gs.length → gTup.go gs ps Q ρ H →
    (∀ ρ' H' s', ER c.base c.N env ρ' s'.heap → St c.base H' s' → Ext (Own env) No H s H' s' → Q ρ' H' → P () s') → wpAny (model c.prog c.w) A (assignInOrder ((assignEach ts env).map (·.2)) vs) P E s := by
  intro ts gs h
  induction h with
  | nil =>
    intro ρ H s vs ps Q R S hv hl q k
    cases hv with
    | nil => exact wpAny_pure (k ρ H s R S .refl q)
    | cons _ _ => simp at hl
  | @cons t ts g gs h1 h2 h3 ih =>
    intro ρ H s vs ps Q R S hv hl q k
    cases hv with
    | nil => simp at hl
    | @cons v p vs ps hv hr =>
      rw [h2]
      show wpAny _ _ (holding vs (assign t env v) >>= fun _ => assignInOrder ((assignEach ts env).map (·.2)) vs) _ _ _
      refine wpAny_bind (wpAny_holding (h1 A env ρ H s v p _ _ _ hA he R S hv q fun ρ1 H1 s1 R1 S1 e1 q1 => ?_))
      exact ih ρ1 H1 s1 vs ps Q R1 S1 (hr.ext S e1 (own_no_imm R)) (by simpa using hl) q1 fun ρ' H' s' R' S' e' q' => k ρ' H' s' R' S' (e1.trans e') q'
theorem tgt_tup {ts : List Expr} {gs : List ATg} {k : Nat} {pos : Pos} (h : SoundAs c n sc ts gs) : SoundA c n sc (.Tuple ts k pos) (gTup gs) := by
  intro A env ρ H s v p Q P E hA he R S hv q kk
  cases hv with
  | tup hT hvs =>
    obtain ⟨ql, q⟩ := q
    rename_i a vs m ps
    have hlen := h.length env
    show wpAny _ _ (do standAt pos; unpack (.ref a) (assignEach ts env)) _ _ _
    unfold unpack
    rw [hlen.1, hlen.2]
    have hsz : gs.length = vs.toArray.size := by simp [hvs.length, ql]
    rw [hsz]
    refine wpAny_bind (wpAny_standAt (wpAny_bind (wpAny_holding (wpAny_grow (wpAny_unpackItems_tuple hA.handled ⟨_, hT, rfl, _, rfl⟩ fun h' hx hg => ?_)))))
    have hk : ∀ b o, s.heap.get? b = some o → h'.get? b = some o := fun b o hb => hx b o (Nat.ne_of_lt (Heap.lt_size hb)) hb
    have S1 : St c.base H { s with heap := h' } := S.of_keep (X := No) (tk := s.toks) (fun b o _ h => hk b o h) (fun _ h => h.elim) (fun _ h => h.elim) (fun _ h => h.elim)
    have e1 : Ext No No H s H { s with heap := h' } := Ext.of_keep (tk := s.toks) (fun b o _ h => hk b o h) hg.1
    exact assign_row hA he h ρ H { s with heap := h' } _ _ _ (R.ext0 S e1) S1 (by simpa using hvs.ext0 S e1) ql q fun ρ' H' s' R' S' e' q' => kk ρ' H' s' R' S' (e1.of_no.trans e') q'
  | _ => exact q.elim
end
end Mine
open PySem PySem.W PySem.Calls PyProof.Rows
set_option Elab.async false
set_option linter.unusedVariables false
namespace Mine
section
variable {c : Cx} {n : Nat} {sc : SE}

-- slices
def slcG {α : Type} (xs : List α) (lo hi st : Option Int) : List α := (sliceRange (sliceBounds lo hi st xs.length).1 (sliceBounds lo hi st xs.length).2.1 (sliceBounds lo hi st xs.length).2.2).filterMap (xs[·]?)
def slc {α : Type} (xs : List α) (lo hi : Option Int) : List α := (xs.drop (lo.elim 0 (clipAt xs.length))).take (hi.elim xs.length (clipAt xs.length) - lo.elim 0 (clipAt xs.length))
theorem clipAt_le (n : Nat) (i : Int) : clipAt n i ≤ n := by unfold clipAt; split <;> omega
theorem slcG_plain {α : Type} (xs : List α) (lo hi : Option Int) : slcG xs lo hi none = slc xs lo hi := by
  unfold slcG slc
  rw [sliceBounds_plain]
  simp only
  rw [sliceRange_one]
  have := pick_run xs.toArray (lo.elim 0 (clipAt xs.length)) (hi.elim xs.length (clipAt xs.length) - lo.elim 0 (clipAt xs.length))
  simpa using this
theorem VAll.picks {h : Heap} {vs : List Value} {ps : List PV} (hv : VAll h vs ps) : ∀ is : List Nat, VAll h (is.filterMap (vs[·]?)) (is.filterMap (ps[·]?))
  | [] => .nil
  | i :: is => by
    rw [List.filterMap_cons, List.filterMap_cons]
    cases hp : ps[i]? with
    | none =>
      have : vs[i]? = none := by
        rw [List.getElem?_eq_none_iff] at hp ⊢; rw [hv.length]; exact hp
      rw [this]; exact hv.picks is
    | some p =>
      obtain ⟨v, h1, h2⟩ := hv.get hp
      rw [h1]; exact .cons h2 (hv.picks is)
def partOf : PV → Option (Option Int)
  | .none => some none
  | .int i => some (some i)
  | _ => none
def opSlice (o l u st : PV) (Q : PV → AH → Prop) (H : AH) : Prop := match partOf l, partOf u, partOf st with
  | some l, some u, some st => (match o with
    | .ref a => (match H a with | some x => (st ≠ some 0 ∧ szOk x.items.length) ∧ newL (slcG x.items l u st) Q H | none => False)
    | .str x => (st = none ∧ szOk x.length) ∧ Q (.str (slc x l u)) H
    | _ => False)
  | _, _, _ => False
theorem part_is {h : Heap} {v : Value} {p : PV} {k : Option Int} (hv : VRel h v p) (hp : partOf p = some k) : IsPart v k ∧ ∃ q : Option (Int × Tok), v = partValue q ∧ q.map (·.1) = k := by
  cases hv <;> simp [partOf] at hp
  · subst hp; exact ⟨.none, none, rfl, rfl⟩
  · subst hp; exact ⟨.int _ _, some (_, _), rfl, rfl⟩
theorem slc_full {α : Type} {xs : List α} {lo hi : Option Int} (h : (slc xs lo hi).length = xs.length) : slc xs lo hi = xs := by
  unfold slc at *
  generalize lo.elim 0 (clipAt xs.length) = a at *
  generalize hi.elim xs.length (clipAt xs.length) = b at *
  simp at h
  cases xs with
  | nil => simp
  | cons x xs =>
    have ha : a = 0 := by simp at h; omega
    subst ha
    have hb : (x :: xs).length ≤ b := by simp at h ⊢; omega
    rw [List.drop_zero, Nat.sub_zero, List.take_of_length_le hb]
theorem mem_slc {α : Type} {xs : List α} {lo hi : Option Int} {x : α} (h : x ∈ slc xs lo hi) : x ∈ xs := List.mem_of_mem_drop (List.mem_of_mem_take h)

theorem slice_sound {A : Around} {H : AH} {s : Shared} {vo vl vu vs : Value} {o l u st : PV} {Q : PV → AH → Prop} {E : Value → Shared → Prop} (h0 : VRel s.heap vo o) (h1 : VRel s.heap vl l) (h2 : VRel s.heap vu u) (h3 : VRel s.heap vs st) (S : St c.base H s) (h : opSlice o l u st Q H) :
    (∃ T id, ({ s with heap := s.heap.push { cls := .type "slice", data := .fields #[vl, vu, vs] } } : Shared).TypeIs vo T ∧ typeLookup (.type T) "__getitem__" = pure (some (.builtin id))) ∧
    wpAny (model c.prog c.w) A (getItem vo (.ref s.heap.objs.size)) (Res c H s Q) E { s with heap := s.heap.push { cls := .type "slice", data := .fields #[vl, vu, vs] } } := by
  unfold opSlice at h
  split at h
  · rename_i l' u' st' el eu es
    obtain ⟨p1, q1, r1, t1⟩ := part_is h1 el
    obtain ⟨p2, q2, r2, t2⟩ := part_is h2 eu
    obtain ⟨p3, q3, r3, t3⟩ := part_is h3 es
    have S1 := S.push { cls := .type "slice", data := .fields #[vl, vu, vs] }
    have e1 : Ext No No H s H { s with heap := s.heap.push { cls := .type "slice", data := .fields #[vl, vu, vs] } } := Ext.push _
    split at h
    · rename_i a
      cases h0
      cases ha : H a with
      | none => rw [ha] at h; exact h.elim
      | some x =>
        rw [ha] at h
        obtain ⟨⟨k1, k2⟩, k3⟩ := h
        obtain ⟨ws, m, hL, hv⟩ := S1.hr.list a x ha
        have hlen : ws.size = x.items.length := by simpa using hv.length
        refine ⟨⟨"list", _, ⟨_, hL, rfl⟩, list_getitem_lookup⟩, ?_⟩
        refine wpAny_getItem_list_slice (hL.isList) (Heap.IsSliceOf.new _ _ _ _) p1 p2 p3 k1 ((res_list S1 ?_ k3).trans e1) (by rw [hlen]; exact sz_line k2)
        have := hv.picks (sliceRange (sliceBounds l' u' st' x.items.length).1 (sliceBounds l' u' st' x.items.length).2.1 (sliceBounds l' u' st' x.items.length).2.2)
        unfold slicePick
        rw [hlen]
        simpa [slcG] using this
    · rename_i x
      cases h0 with
      | str _ t hx =>
        obtain ⟨⟨k1, k2⟩, k3⟩ := h
        subst k1
        refine ⟨⟨"str", _, typeIs_str _ _ _, F.slot_str_getitem.lookup⟩, ?_⟩
        subst r1 r2 r3
        have hq3 : q3 = none := by cases q3 with | none => rfl | some _ => simp at t3
        subst hq3
        refine wpAny_getItem_str_slice (l := q1) (u := q2) (st := none) ⟨_, Heap.get?_push_size _ rfl, rfl, rfl⟩ rfl ?_
        unfold sliceMade
        have ep : slicePicked ⟨x.toArray⟩ q1 q2 none = sliceRange (sliceBounds l' u' none x.length).1 (sliceBounds l' u' none x.length).2.1 (sliceBounds l' u' none x.length).2.2 := by
          unfold slicePicked; rw [t1, t2, str_len]; rfl
        have ef : (slicePicked ⟨x.toArray⟩ q1 q2 none).filterMap ((⟨x.toArray⟩ : Str).cps[·]?) = slc x l' u' := by
          rw [ep, ← slcG_plain]; unfold slcG; simp
        have elen : (slicePicked ⟨x.toArray⟩ q1 q2 none).length = (slc x l' u').length := by
          rw [ep, sliceBounds_plain]
          simp only
          rw [sliceRange_one]
          have b1 : l'.elim 0 (clipAt x.length) ≤ x.length := by cases l' with | none => simp | some i => exact clipAt_le _ _
          have b2 : u'.elim x.length (clipAt x.length) ≤ x.length := by cases u' with | none => simp | some i => exact clipAt_le _ _
          simp [slc]; omega
        rw [ef]
        split
        · rename_i hc
          have hl : (slc x l' u').length = x.length := by
            rw [← elen]; simpa [str_len] using hc
          rw [slc_full hl] at k3
          exact ⟨_, H, .str x t hx, S1, e1, k3⟩
        · refine ⟨?_, _, H, .str (slc x l' u') _ (fun ch hch => hx ch (mem_slc hch)), S1.tok _, e1.trans (.tok _), k3⟩
          rw [str_len]
          have : (slc x l' u').length ≤ x.length := by simp [slc]; omega
          exact Nat.le_trans this (sz_line k2)
    · exact h.elim
  · exact h.elim

def SoundP (c : Cx) (n : Nat) (sc : SE) (x : Option Expr) (a : AE) : Prop :=
  ∀ (A : Around) (env : Env) (ρ : AEnv) (H : AH) (s : Shared) (Q : PV → AH → Prop) (E : Value → Shared → Prop), AOk n A → EOk sc env → ER c.base c.N env ρ s.heap → St c.base H s → a Q ρ H → wpAny (model c.prog c.w) A (evalPart x env) (Res c H s Q) E s
theorem part_none : SoundP c n sc none (aCst .none) := fun _ _ _ _ _ _ _ _ _ _ S h => wpAny_pure (res_pure S .none h)
theorem part_some {e : Expr} {a : AE} (h : SoundE c n sc e a) : SoundP c n sc (some e) a := fun A env ρ H s Q E hA he R S q => h A env ρ H s Q E hA he R S q
theorem seqP {A : Around} {env : Env} {ρ : AEnv} {H : AH} {s : Shared} {E : Value → Shared → Prop} {l : Option Expr} {al : AE} {P : Value → Shared → Prop} {F : PV → AH → Prop} (hl : SoundP c n sc l al) (hA : AOk n A) (he : EOk sc env) (R : ER c.base c.N env ρ s.heap) (S : St c.base H s)
    (h : al F ρ H) (k : ∀ va a H1 s1, VRel s1.heap va a → ER c.base c.N env ρ s1.heap → St c.base H1 s1 → Ext No No H s H1 s1 → F a H1 → P va s1) :
    wpAny (model c.prog c.w) A (evalPart l env) P E s :=
  wpAny_mono (hl A env ρ H s _ E hA he R S h) (fun va s1 ⟨a, H1, h1, S1, e1, q1⟩ => k va a H1 s1 h1 (R.ext0 S e1) S1 e1 q1) fun _ _ x => x
def aSlice (o l u st : AE) : AE := fun Q ρ H => o (fun po H1 => l (fun pl H2 => u (fun pu H3 => st (fun pst H4 => opSlice po pl pu pst Q H4) ρ H3) ρ H2) ρ H1) ρ H
theorem sound_slice {o : Expr} {l u st : Option Expr} {p pos : Pos} {ao al au ast : AE} (ho : SoundE c n sc o ao) (hl : SoundP c n sc l al) (hu : SoundP c n sc u au) (hst : SoundP c n sc st ast) : SoundE c n sc (.Subscript o (.Slice l u st p) pos) (aSlice ao al au ast) := by
  intro A env ρ H s Q E hA he R S q
  refine sub_any (M := model c.prog c.w) (seq1 (F := fun po H1 => al (fun pl H2 => au (fun pu H3 => ast (fun pst H4 => opSlice po pl pu pst Q H4) ρ H3) ρ H2) ρ H1) ho hA he R S q fun vo po H1 s1 h1 R1 S1 e1 q1 => ?_)
  refine wpAny_Slice (seqP (F := fun pl H2 => au (fun pu H3 => ast (fun pst H4 => opSlice po pl pu pst Q H4) ρ H3) ρ H2) hl hA he R1 S1 q1 fun vl pl H2 s2 h2 R2 S2 e2 q2 => ?_)
  refine seqP (F := fun pu H3 => ast (fun pst H4 => opSlice po pl pu pst Q H4) ρ H3) hu hA he R2 S2 q2 fun vu pu H3 s3 h3 R3 S3 e3 q3 => ?_
  refine seqP (F := fun pst H4 => opSlice po pl pu pst Q H4) hst hA he R3 S3 q3 fun vs pst H4 s4 h4 R4 S4 e4 q4 => ?_
  obtain ⟨k1, k2⟩ := slice_sound (A := A) (E := E) (((h1.ext0 S1 e2).ext0 S2 e3).ext0 S3 e4) ((h2.ext0 S2 e3).ext0 S3 e4) (h3.ext0 S3 e4) h4 S4 q4
  exact ⟨k1, wpAny_mono k2 (fun _ _ r => r.trans (((e1.trans e2).trans e3).trans e4)) fun _ _ x => x⟩

-- methods
def kList (p : PV) (H : AH) : Prop := match p with | .ref a => (match H a with | some _ => True | none => False) | _ => False
def kStr (p : PV) (_ : AH) : Prop := match p with | .str _ => True | _ => False
def KindOk (c : Cx) (T : String) (K : PV → AH → Prop) : Prop := ∀ (H : AH) (s : Shared) (v : Value) (p : PV), VRel s.heap v p → St c.base H s → K p H → s.TypeIs v T ∧ ∀ a, v = .ref a → ∃ ob, s.heap.get? a = some ob ∧ ob.dict = none
theorem kind_list : KindOk c "list" kList := by
  intro H s v p hv S hk
  cases hv with
  | ref a =>
    simp only [kList] at hk
    cases ha : H a with
    | none => rw [ha] at hk; exact hk.elim
    | some x =>
      obtain ⟨vs, m, hL, _⟩ := S.hr.list a x ha
      exact ⟨⟨_, hL, rfl⟩, fun b hb => by cases hb; exact ⟨_, hL, rfl⟩⟩
  | _ => exact hk.elim
theorem kind_str : KindOk c "str" kStr := by
  intro H s v p hv S hk
  cases hv with
  | str x t hx => exact ⟨typeIs_str _ _ _, fun _ h => nomatch h⟩
  | _ => exact hk.elim
def aMeth (K : PV → AH → Prop) (f : AF) (o : AE) (l : AL) : AE := fun Q ρ H => o (fun p H1 => K p H1 ∧ l (fun ps H2 => f (p :: ps) Q H2) ρ H1) ρ H
theorem sound_meth {o : Expr} {name : Str} {args : List Expr} {apos pos : Pos} {T id : String} {K : PV → AH → Prop} {f : AF} {ao : AE} {al : AL} (slot : Slot T name id) (ty : typeOf (.builtin id) = pure (.type "method_descriptor")) (pa : PlainAttrs T) (hK : KindOk c T K) (hf : SoundV c n (.builtin id) f)
    (ho : SoundE c n sc o ao) (hl : SoundL c n sc args al) (hs : args = [] ∨ ∃ e es, args = e :: es ∧ ∀ env, starEach (e :: es) env = (false, eval e env) :: starEach es env ∧ (backTo pos (starEach es env)).any (·.1) = false)
    (hbase : ∀ env, attributeBase o name env (eval o env) = eval o env := by intro _; rfl)
    (hfew : ∀ env, ((backTo pos (starEach args env)).all (fun x => !x.1) && (backToKw pos (keywordEach [] env)).all (fun x => x.1.isSome) && decide (args.length + ([] : List Keyword).length + (if ([] : List Keyword).isEmpty then 0 else 1) < 30)) = true := by intro _; rfl)
    (hline : (apos.endLine == pos.line) = true := by rfl) : SoundE c n sc (.Call (.Attribute o name apos) args [] pos) (aMeth K f ao al) := by
  intro A env ρ H s Q E hA he R S q
  refine wpAny_Call_method (hbase env) (hfew env) hline pa slot ty (seq1 (F := fun p H1 => K p H1 ∧ al (fun ps H2 => f (p :: ps) Q H2) ρ H1) ho hA he R S q fun vo p H1 s1 h1 R1 S1 e1 q1 => ?_)
  obtain ⟨t1, t2⟩ := hK H1 s1 vo p h1 S1 q1.1
  refine ⟨t1, t2, ?_⟩
  have args' : wpAny (model c.prog c.w) A (spliced (backTo pos (starEach args env))) (fun vs s2 => wpAny (model c.prog c.w) A (call (.builtin id) (vo :: vs)) (Res c H s Q) E s2) E s1 :=
    seqL (F := fun ps H2 => f (p :: ps) Q H2) hl hA he R1 S1 q1.2 fun vs ps H2 s2 hv R2 S2 e2 q2 => wpAny_mono (hf A H2 s2 (vo :: vs) (p :: ps) Q E hA (.cons (h1.ext0 S1 e2) hv) S2 q2) (fun _ _ r => r.trans (e1.trans e2)) fun _ _ x => x
  rcases hs with rfl | ⟨e, es, rfl, hs⟩
  · refine callWith_builtin rfl (PySem.evalArgs_none ?_)
    have : wpAny (model c.prog c.w) A (spliced []) (fun vs s2 => wpAny (model c.prog c.w) A (call (.builtin id) (vo :: vs)) (Res c H s Q) E s2) E s1 := args'
    intro Γ pp hΓ
    have t := this Γ pp hΓ
    exact t Γ pp hΓ
  · rw [(hs env).1] at args' ⊢
    exact callWith_builtin (by show (false || (backTo pos (starEach es env)).any (·.1)) = false; rw [(hs env).2]; rfl) (evalArgs_plain args')
end
end Mine
open PySem PySem.W PySem.Calls PyProof.Rows
set_option Elab.async false
set_option linter.unusedVariables false
namespace Mine
section
variable {c : Cx} {n : Nat} {sc : SE}

def fLen : AF := fun ps Q H => match ps with
  | [.ref a] => (match H a with | some x => szOk x.items.length ∧ Q (.int x.items.length) H | none => False)
  | [.str x] => szOk x.length ∧ Q (.int x.length) H
  | [.tup xs] => szOk xs.length ∧ Q (.int xs.length) H
  | _ => False
theorem bi_len : SoundV c n (.builtin "len") fLen := by
  intro A H s vs ps Q E hA hv S q
  unfold fLen at q
  split at q
  · cases hv with
    | cons h1 h2 =>
      cases h2; cases h1
      rename_i a
      cases ha : H a with
      | none => rw [ha] at q; exact q.elim
      | some x =>
        rw [ha] at q
        obtain ⟨ws, m, hL, hw⟩ := S.hr.list a x ha
        have hlen : ws.size = x.items.length := by simpa using hw.length
        have := q.1; simp only [szOk] at this
        refine call_len_list hL.isList (by omega) ?_
        rw [hlen]; exact res_tok S (.int _ _) q.2
  · cases hv with
    | cons h1 h2 =>
      cases h2; cases h1
      have := q.1; simp only [szOk] at this
      refine PyProof.Rows.len_str (by rw [str_len]; omega) ?_
      rw [str_len]; exact res_tok S (.int _ _) q.2
  · cases hv with
    | cons h1 h2 =>
      cases h2
      cases h1 with
      | tup hT hvs =>
        have := q.1; simp only [szOk] at this
        have hlen := hvs.length
        refine PySem.P.len_tuple hT (by simp; omega) ?_
        simp only [List.size_toArray, hlen]
        exact res_tok S (.int _ _) q.2
  · exact q.elim
def fRange : AF := fun ps Q H => match ps with
  | [.int k] => Q (.rng 0 k) H
  | [.int a, .int b] => Q (.rng a b) H
  | _ => False
theorem bi_range : SoundV c n (.type "range") fRange := by
  intro A H s vs ps Q E hA hv S q
  unfold fRange at q
  split at q
  · cases hv with
    | cons h1 h2 =>
      cases h2; cases h1
      exact call_range_1 ⟨_, H, .rng (IsRange.new ..), ((S.push _).tok _), (Ext.push _).trans (.tok _), q⟩
  · cases hv with
    | cons h1 h2 =>
      cases h2 with
      | cons h2 h3 =>
        cases h3; cases h1; cases h2
        exact call_range_2 ⟨_, H, .rng (IsRange.new ..), ((S.push _).tok _), (Ext.push _).trans (.tok _), q⟩
  · exact q.elim
def fList : AF := fun ps Q H => match ps with
  | [.ref a] => (match H a with | some x => szOk x.items.length ∧ newL x.items Q H | none => False)
  | [.tup xs] => szOk xs.length ∧ newL xs Q H
  | _ => False
def fTuple : AF := fun ps Q H => match ps with
  | [.ref a] => (match H a with | some x => szOk x.items.length ∧ Q (.tup x.items) H | none => False)
  | _ => False
-- methods of lists
def fAppend : AF := fun ps Q H => match ps with
  | [o, p] => withOwn o (fun a xs => szOk xs.length ∧ Q .none (upd H a ⟨xs ++ [p], true⟩)) H
  | _ => False
theorem me_append : SoundV c n (.builtin "list.append") fAppend := by
  intro A H s vs ps Q E hA hv S q
  unfold fAppend at q
  split at q
  · cases hv with
    | cons h1 h2 =>
      cases h2 with
      | cons h2 h3 =>
        cases h3
        obtain ⟨a, x, rfl, ha, ho, q1, q2⟩ := withOwn_elim q
        cases h1
        obtain ⟨ws, m, hL, hw⟩ := S.hr.list a x ha
        have hlen : ws.size = x.items.length := by simpa using hw.length
        exact call_meets F.slot_list_append ⟨_, hL, rfl⟩ F.entry_list_append (F.args_list_append_2 _ _) (list_append a ws m _ (by rw [hlen]; exact sz_line q1)) ⟨hL, res_set (f := fun y => y.push _) S ha ho hL (by simpa using hw.append (.one h2)) .none q2⟩
  · exact q.elim
def fInsert : AF := fun ps Q H => match ps with
  | [o, .int k, p] => withOwn o (fun a xs => (szOk xs.length ∧ 0 ≤ k ∧ k ≤ xs.length) ∧ Q .none (upd H a ⟨xs.take k.toNat ++ p :: xs.drop k.toNat, true⟩)) H
  | _ => False
def fPop : AF := fun ps Q H => match ps with
  | [o] => withOwn o (fun a xs => szOk xs.length ∧ match xs.getLast? with | some p => Q p (upd H a ⟨xs.dropLast, true⟩) | none => False) H
  | [o, .int k] => withOwn o (fun a xs => (szOk xs.length ∧ 0 ≤ k) ∧ match xs[k.toNat]? with | some p => Q p (upd H a ⟨xs.eraseIdx k.toNat, true⟩) | none => False) H
  | _ => False
end
end Mine
open PySem PySem.W PySem.Calls PyProof.Rows
set_option Elab.async false
set_option linter.unusedVariables false
namespace Mine
section
variable {c : Cx} {n : Nat} {sc : SE}

-- augmented assignments
def opIAdd (a b : PV) (Q : PV → AH → Prop) (H : AH) : Prop := match a, b with
  | .int x, .int y => Q (.int (x + y)) H
  | .str x, .str y => szOk (x.length + y.length) ∧ Q (.str (x ++ y)) H
  | _, _ => False
theorem op_isub : SoundOp2 c n (inplaceOp .Sub) opSub := by
  intro A H s va vb a b Q E hA h1 h2 S h
  obtain ⟨x, y, rfl, rfl, h⟩ := opSub_elim h
  cases h1; cases h2
  exact AutoIntOps.isub_0 (res_tok S (.int _ _) h)
def sAug (k : Nat) (f : PV → PV → (PV → AH → Prop) → AH → Prop) (a : AE) : AS := fun Q ρ H => match ρ k with
  | some p => a (fun b H1 => f p b (fun r H2 => Q .next (upd ρ k r) H2) H1) ρ H
  | none => False
theorem stmt_aug {x : Str} {pos' pos : Pos} {op : Operator} {v : Expr} {k : Nat} {f} {a : AE} (ho : SoundOp2 c n (inplaceOp op) f) (ha : SoundE c n sc v a) (hx : c.N[k]? = some x) (hk : sc.names.lookup x = some .local ∨ (sc.names.lookup x = some .cell ∧ x ∉ sc.caps))
    (hn : (x == ("__classdict__" : Str)) = false := by decide) : SoundS c n sc (.AugAssign (.Name x pos') op v pos) (sAug k f a) := by
  intro A env ρ H s Q E hA he R S q
  unfold sAug at q
  cases hp : ρ k with
  | none => rw [hp] at q; exact q.elim
  | some p =>
    rw [hp] at q
    refine wpAny_AugAssign_Name (load_var he R hx hp (fun v0 hv0 => ?_) hn)
    refine seq1 (F := fun b H1 => f p b (fun r H2 => Q .next (upd ρ k r) H2) H1) ha hA he R S q fun vb b H1 s1 h1 R1 S1 e1 q1 => ?_
    refine wpAny_mono (ho A H1 s1 v0 vb p b _ _ hA (hv0.ext0 S e1) h1 S1 q1) (fun vr s2 ⟨r, H2, hr, S2, e2, q2⟩ => ?_) fun _ _ x => x
    exact store_var he (R1.ext0 S1 e2) S2 hx hk hr fun s3 R3 S3 e3 => ⟨.next, _, H2, .next, R3, S3, (e1.trans e2).of_no.trans e3, q2⟩
def sAugSub (o i : AE) (f : PV → PV → (PV → AH → Prop) → AH → Prop) (a : AE) : AS := fun Q ρ H => o (fun po H1 => i (fun pi H2 => opItem po pi (fun old H3 => a (fun b H4 => f old b (fun r H5 => setAt po pi r (fun H6 => Q .next ρ H6) H5) H4) ρ H3) H2) ρ H1) ρ H
-- comprehensions
def relabelS (scope : Scope) (sc : SE) : Scope := { scope with names := scope.names.map fun (n, k) => if (k == .free && sc.kind == .function && sc.names.lookup n == some .cell) then (n, .cell) else (n, k) }
theorem relabel_eq {scope : Scope} {env : Env} (he : EOk sc env) : relabel scope env = relabelS scope sc := by
  unfold relabel relabelS Env.kindOf; rw [he.scope]
def freeOf (names : List (Str × NameKind)) : List Str := (names.filter (·.2 == .free)).map (·.1)
def clOf (env : Env) : List (Str × NameKind) → List (Str × Addr) → List (Str × Addr)
  | [], acc => acc
  | (x, k) :: r, acc => if k == .free then clOf env r ((x, (env.cells.lookup x).getD 0) :: acc) else clOf env r acc
theorem closure_eq {env : Env} {scope : Scope} (h : ∀ x ∈ freeOf scope.names, (env.cells.lookup x).isSome = true) : closureFor scope env = pure (clOf env scope.names []) := by
  have key : ∀ (names : List (Str × NameKind)) (acc : List (Str × Addr)), (∀ x ∈ freeOf names, (env.cells.lookup x).isSome = true) →
      (forIn names acc fun (x : Str × NameKind) cs => (if (x.2 == .free) = true then do let a ← cellOf env x.1; pure (ForInStep.yield ((x.1, a) :: cs)) else pure (ForInStep.yield cs) : Sem (ForInStep (List (Str × Addr))))) = pure (clOf env names acc) := by
    intro names
    induction names with
    | nil => intro acc _; rfl
    | cons x r ih =>
      intro acc hx
      obtain ⟨y, k⟩ := x
      rw [List.forIn_cons]
      unfold clOf
      by_cases hk : (k == .free) = true
      · simp only [hk, if_true]
        have hy : (env.cells.lookup y).isSome = true := hx y (by simp [freeOf, hk])
        obtain ⟨a, ha⟩ := Option.isSome_iff_exists.mp hy
        have : cellOf env y = pure a := by unfold cellOf; rw [ha]
        rw [this, ha]
        simp only [pure_bind, Option.getD_some]
        exact ih _ fun z hz => hx z (by simp only [freeOf, List.filter_cons, hk, if_true] at hz ⊢; simp; exact .inr (by simpa using hz))
      · simp only [hk, if_false, pure_bind]
        exact ih _ fun z hz => hx z (by simp only [freeOf, List.filter_cons, hk] at hz ⊢; simpa using hz)
  unfold closureFor
  have := key scope.names [] h
  simp only [bind_pure] 
  exact this
theorem clOf_sub {env : Env} : ∀ (names : List (Str × NameKind)) (acc : List (Str × Addr)), (∀ x ∈ freeOf names, (env.cells.lookup x).isSome = true) → (∀ p ∈ acc, env.cells.lookup p.1 = some p.2) → ∀ p ∈ clOf env names acc, env.cells.lookup p.1 = some p.2
  | [], acc, _, h, p, hp => h p hp
  | (x, k) :: r, acc, hx, h, p, hp => by
    unfold clOf at hp
    by_cases hk : (k == .free) = true
    · rw [if_pos hk] at hp
      have hy : (env.cells.lookup x).isSome = true := hx x (by simp [freeOf, hk])
      obtain ⟨a, ha⟩ := Option.isSome_iff_exists.mp hy
      refine clOf_sub r _ (fun z hz => hx z (by simp only [freeOf, List.filter_cons, hk, if_true] at hz ⊢; simp; exact .inr (by simpa using hz))) ?_ p hp
      intro q hq
      rcases List.mem_cons.mp hq with rfl | hq
      · simp [ha]
      · exact h q hq
    · rw [if_neg hk] at hp
      exact clOf_sub r _ (fun z hz => hx z (by simp only [freeOf, List.filter_cons, hk] at hz ⊢; simpa using hz)) h p hp
theorem clOf_mem {env : Env} {y : Str} : ∀ (names : List (Str × NameKind)) (acc : List (Str × Addr)), y ∈ freeOf names ∨ (∃ a, (y, a) ∈ acc) → ∃ a, (y, a) ∈ clOf env names acc
  | [], acc, h => by simpa [freeOf, clOf] using h
  | (x, k) :: r, acc, h => by
    unfold clOf
    by_cases hk : (k == .free) = true
    · rw [if_pos hk]
      refine clOf_mem r _ ?_
      rcases h with h | ⟨a, h⟩
      · simp only [freeOf, List.filter_cons, hk, if_true, List.map_cons, List.mem_cons] at h
        rcases h with rfl | h
        · exact .inr ⟨_, .head _⟩
        · exact .inl h
      · exact .inr ⟨a, .tail _ h⟩
    · rw [if_neg hk]
      refine clOf_mem r _ ?_
      rcases h with h | h
      · simp only [freeOf, List.filter_cons, hk] at h; exact .inl (by simpa [freeOf] using h)
      · exact .inr h
theorem lookup_of_mem {l : List (Str × Addr)} {y : Str} {a : Addr} (h : (y, a) ∈ l) : ∃ b, l.lookup y = some b := by
  induction l with
  | nil => cases h
  | cons p r ih =>
    obtain ⟨z, b⟩ := p
    rw [List.lookup_cons]
    by_cases e : (y == z) = true
    · rw [e]; exact ⟨b, rfl⟩
    · simp only [Bool.not_eq_true] at e
      rw [e]
      rcases List.mem_cons.mp h with q | q
      · cases q; simp at e
      · exact ih q
theorem clOf_lookup {env : Env} {names : List (Str × NameKind)} (hx : ∀ x ∈ freeOf names, (env.cells.lookup x).isSome = true) {y : Str} (hy : y ∈ freeOf names) : (clOf env names []).lookup y = env.cells.lookup y := by
  obtain ⟨a, ha⟩ := clOf_mem (env := env) names [] (.inl hy)
  obtain ⟨b, hb⟩ := lookup_of_mem ha
  rw [hb]
  exact (clOf_sub names [] hx (fun _ h => nomatch h) _ (mem_of_lookup hb)).symm
theorem clOf_apart {env : Env} {base : Heap} (hA : env.cells.Pairwise fun x y => x.2 ≠ y.2) : ∀ (names : List (Str × NameKind)) (acc : List (Str × Addr)), (∀ x ∈ freeOf names, (env.cells.lookup x).isSome = true) → (freeOf names).Nodup → (∀ p ∈ acc, env.cells.lookup p.1 = some p.2 ∧ p.1 ∉ freeOf names) → acc.Pairwise (fun x y => x.2 ≠ y.2) → (clOf env names acc).Pairwise fun x y => x.2 ≠ y.2
  | [], acc, _, _, _, h => h
  | (x, k) :: r, acc, hx, hn, ha, h => by
    unfold clOf
    by_cases hk : (k == .free) = true
    · rw [if_pos hk]
      have ef : freeOf ((x, k) :: r) = x :: freeOf r := by simp [freeOf, hk]
      rw [ef] at hx hn ha
      obtain ⟨a, hxa⟩ := Option.isSome_iff_exists.mp (hx x (.head _))
      refine clOf_apart (base := base) hA r _ (fun z hz => hx z (.tail _ hz)) (List.nodup_cons.mp hn).2 ?_ ?_
      · intro p hp
        rcases List.mem_cons.mp hp with rfl | hp
        · exact ⟨by simp [hxa], (List.nodup_cons.mp hn).1⟩
        · exact ⟨(ha p hp).1, fun q => (ha p hp).2 (.tail _ q)⟩
      · refine List.pairwise_cons.mpr ⟨fun p hp e => ?_, h⟩
        have h1 := (ha p hp).1
        rw [hxa] at e
        simp only [Option.getD_some] at e
        have : x = p.1 := name_of_addr hA (mem_of_lookup hxa) (mem_of_lookup (by rw [h1, ← e]))
        exact (ha p hp).2 (this ▸ .head _)
    · rw [if_neg hk]
      have ef : freeOf ((x, k) :: r) = freeOf r := by simp [freeOf, hk]
      rw [ef] at hx hn ha
      exact clOf_apart (base := base) hA r _ hx hn ha h

def capt (ks : List Nat) (ρ : AEnv) : AEnv := fun k => if ks.contains k then ρ k else none
def compL (g : ATg) (t : AT) (e : AE) (a : Nat) (G : AH → Prop) (Q : AH → Prop) : List PV → AEnv → AH → Prop
  | [], _, H => Q H
  | p :: ps, ρ, H => g p (fun ρ1 H1 => t (fun b H2 => if b then e (fun v H3 => fAppend [.ref a, v] (fun _ H4 => G H4 ∧ compL g t e a G Q ps ρ1 H4) H3) ρ1 H2 else G H2 ∧ compL g t e a G Q ps ρ1 H2) ρ1 H1) ρ H
def aComp (ks : List Nat) (g : ATg) (src : AE) (t : AT) (e : AE) : AE := fun Q ρ H => src (fun p H1 => withItems p (fun items G H2 => ∀ a, H2 a = none → G (upd H2 a ⟨[], true⟩) ∧ compL g t e a G (fun H3 => Q (.ref a) H3) items (capt ks ρ) (upd H2 a ⟨[], true⟩)) H1) ρ H

def SoundCond (c : Cx) (n : Nat) (sc : SE) (ifs : List Expr) (t : AT) : Prop :=
  ∀ (A : Around) (env : Env) (ρ : AEnv) (H : AH) (s : Shared) (Q : Bool → AH → Prop) (E : Value → Shared → Prop), AOk n A → EOk sc env → ER c.base c.N env ρ s.heap → St c.base H s → t Q ρ H →
    wpAny (model c.prog c.w) A (forIn ifs true fun e r => if r = true then do let ok ← isTrue e env (eval e env); pure (ForInStep.yield ok) else pure (ForInStep.yield r)) (ResB c H s Q) E s
theorem cond_nil : SoundCond c n sc [] tTrue := fun A env ρ H s Q E hA he R S q => wpAny_tests_nil ⟨H, S, .refl, q⟩
theorem cond_one {e : Expr} {t : AT} (h : SoundT c n sc e t) : SoundCond c n sc [e] t := fun A env ρ H s Q E hA he R S q => wpAny_tests_one (h A env ρ H s Q E hA he R S q)

theorem comp_loop {A : Around} {env : Env} {H₀ : AH} {s₀ s : Shared} {I : Addr} {P PG : Nat → Prop} {G : AH → Prop} {J : List PV → AH → Shared → Prop} {tg iter elt : Expr} {ifs : List Expr} {scope : Scope} {pos : Pos} {g : ATg} {t : AT} {e : AE} {a : Addr} {Q : AH → Prop} {RR : Result → Shared → Prop} {items : List PV} {H : AH} {ρ : AEnv}
    (it : Iter c n I P PG G J) (hg : SoundA c n sc tg g) (ht : SoundCond c n sc ifs t) (hel : SoundE c n sc elt e) (hA : AOk n A) (he : EOk sc env) (hto : (∃ elts k pos, tg = .Tuple elts k pos) ∨ ∀ it v, letOwnedTupleGo tg it v = pure ())
    (ownP : ∀ b, Own env b → ¬ P b) (hPC : ∀ x cc, env.cells.lookup x = some cc → ¬ P cc)
    (hj : J items H s) (R : ER c.base c.N env ρ s.heap) (S : St c.base H s) (ex : Ext (fun b => Own env b ∨ P b) PG H₀ s₀ H s) (q : compL g t e a G Q items ρ H)
    (hR : ∀ H' s' ρ', ER c.base c.N env ρ' s'.heap → St c.base H' s' → Ext (fun b => Own env b ∨ P b) PG H₀ s₀ H' s' → Q H' → RR (.ok .next) s') : codeAny (model c.prog c.w) A (.compLoop (.ListComp elt [⟨tg, iter, ifs, 0⟩] scope pos) 0 (.ref I) (.ref a) env) RR s := by
  refine codeAny_loop rfl (fun k s => ∃ items H ρ, k = items.length ∧ J items H s ∧ ER c.base c.N env ρ s.heap ∧ St c.base H s ∧ Ext (fun b => Own env b ∨ P b) PG H₀ s₀ H s ∧ compL g t e a G Q items ρ H) ?_ _ ⟨items, H, ρ, rfl, hj, R, S, ex, q⟩
  rintro k s ⟨items, H, ρ, rfl, hj, R, S, ex, q⟩
  show wpAny _ A ((compTurn (.ListComp elt [⟨tg, iter, ifs, 0⟩] scope pos) 0 (.ref I) (.ref a) env).onRaise (fun x => do noteFrame x env; theTreesLotGoes x)) _ _ s
  refine wpAny_noted ?_
  rw [compTurn_list]
  have wid : ∀ {H1 s1 H2 s2}, Ext (Own env) No H1 s1 H2 s2 → Ext (fun b => Own env b ∨ P b) PG H1 s1 H2 s2 := fun x => x.mono (fun _ h => .inl h) (fun _ h => h.elim)
  have widP : ∀ {H1 s1 H2 s2}, Ext P PG H1 s1 H2 s2 → Ext (fun b => Own env b ∨ P b) PG H1 s1 H2 s2 := fun x => x.mono (fun _ h => .inr h) (fun _ h => h)
  have keepR : ∀ s' : Shared, Ext P PG H s H s' → (∀ b o, Imm s.heap b o → s'.heap.get? b = some o) → ER c.base c.N env ρ s'.heap := fun s' e' hi => R.ext' S e' hi (ownP _ (.inl rfl)) hPC
  refine wpAny_bind (wpAny_standAt (wpAny_bind ?_))
  cases items with
  | nil =>
    refine it.done A H s _ _ hA hj S fun s' S' e' hi => ?_
    exact wpAny_pure (hR H s' ρ (keepR s' e' hi) S' (ex.trans (widP e')) q)
  | cons p ps =>
    refine it.item A p ps H s _ _ hA hj S fun v s' hv S' e' hj' hi => ?_
    have R' := keepR s' e' hi
    refine wpAny_bind (owned_any it hj' hto ?_)
    refine wpAny_bind (hg A env ρ H s' v p _ _ _ hA he R' S' hv q fun ρ1 H1 s1 R1 S1 e1 q1 => ?_)
    refine wpAny_bind (bool_mono (ht A env ρ1 H1 s1 _ _ hA he R1 S1 q1) fun b H2 s2 S2 e2 q2 => ?_)
    have R2 := R1.ext0 S1 e2
    have more : ∀ H3 s3, ER c.base c.N env ρ1 s3.heap → St c.base H3 s3 → Ext (Own env) No H s' H3 s3 → G H3 ∧ compL g t e a G Q ps ρ1 H3 →
        ∃ m, m < (p :: ps).length ∧ ∃ items H ρ, m = items.length ∧ J items H s3 ∧ ER c.base c.N env ρ s3.heap ∧ St c.base H s3 ∧ Ext (fun b => Own env b ∨ P b) PG H₀ s₀ H s3 ∧ compL g t e a G Q items ρ H := fun H3 s3 R3 S3 e3 hq =>
      ⟨ps.length, by simp, ps, H3, ρ1, rfl, it.frame (Own env) ps H s' H3 s3 hj' S' e3 S3 ownP (own_no_imm R') hq.1, R3, S3, (ex.trans (widP e')).trans (wid e3), hq.2⟩
    cases b with
    | false =>
      simp only [Bool.false_eq_true, if_false] at q2 ⊢
      exact wpAny_pure ⟨rfl, more H2 s2 R2 S2 (e1.trans e2.of_no) q2⟩
    | true =>
      simp only [if_true] at q2 ⊢
      refine wpAny_bind (wpAny_bind (seq1 (F := fun v H3 => fAppend [.ref a, v] (fun _ H4 => G H4 ∧ compL g t e a G Q ps ρ1 H4) H3) hel hA he R2 S2 q2 fun vx px H3 s3 h3 R3 S3 e3 q3 => ?_))
      refine wpAny_bind (wpAny_mono (me_append (c := c) (n := n) A H3 s3 [.ref a, vx] [.ref a, px] _ _ hA (.cons (.ref a) (.one h3)) S3 q3) (fun _ s4 ⟨_, H4, _, S4, e4, q4⟩ => ?_) fun _ _ x => x)
      exact wpAny_pure (wpAny_pure ⟨rfl, more H4 s4 (R3.ext0 S3 e4) S4 (((e1.trans e2.of_no).trans e3.of_no).trans e4.of_no) q4⟩)

/-- what is checked of a comprehension's block -/
def compChk (N : List Str) (scope : Scope) (sc : SE) (ks : List Nat) : Bool :=
  (freeOf scope.names).all (fun x => sc.names.lookup x == some .cell) && decide (freeOf scope.names).Nodup && scope.names.all (fun x => x.2 != .cell) &&
  scope.names.all (fun x => x.2 != .local || scope.names.lookup x.1 == some .local) &&
  ks.all fun k => match N[k]? with
    | some x => (freeOf scope.names).contains x && (relabelS scope sc).names.lookup x == some .cell
    | none => false
theorem relabel_cell {scope : Scope} {x : Str} (hc : ∀ y ∈ scope.names, y.2 ≠ .cell) (h : (relabelS scope sc).names.lookup x = some .cell) : x ∈ freeOf scope.names := by
  unfold relabelS at h
  simp only at h
  generalize hn : scope.names = names at *
  clear hn
  induction names with
  | nil => simp at h
  | cons p r ih =>
    obtain ⟨y, k⟩ := p
    simp only [List.map_cons] at h
    have hr : ∀ y ∈ r, y.2 ≠ .cell := fun z hz => hc z (.tail _ hz)
    by_cases hcond : (k == NameKind.free && sc.kind == .function && sc.names.lookup y == some .cell) = true
    · rw [if_pos hcond, List.lookup_cons] at h
      have hk : (k == .free) = true := by simp only [Bool.and_eq_true] at hcond; exact hcond.1.1
      by_cases e : (x == y) = true
      · have := beq_iff_eq.mp e; subst this; simp [freeOf, hk]
      · simp only [Bool.not_eq_true] at e
        rw [e] at h
        have := ih hr h
        simp only [freeOf, List.filter_cons, hk, if_true, List.map_cons, List.mem_cons]; exact .inr this
    · rw [if_neg hcond, List.lookup_cons] at h
      by_cases e : (x == y) = true
      · rw [e] at h; cases h; exact absurd rfl (hc (y, .cell) (.head _))
      · simp only [Bool.not_eq_true] at e
        rw [e] at h
        have := ih hr h
        unfold freeOf at this ⊢
        by_cases hk : (k == .free) = true
        · simp only [List.filter_cons, hk, if_true, List.map_cons, List.mem_cons]; exact .inr this
        · simp only [List.filter_cons, hk]; simpa using this

theorem comp_sound {A : Around} {env : Env} {ρ : AEnv} {H : AH} {s : Shared} {E : Value → Shared → Prop} {elt tg iter : Expr} {ifs : List Expr} {scope : Scope} {pos p : Pos} {ks : List Nat} {g : ATg} {src : AE} {t : AT} {e : AE} {Q : PV → AH → Prop} {use : Option (Value → Sem Unit)} {QQ : Value → Shared → Prop}
    (hs : SoundE c n sc iter src) (hg : SoundA c n ⟨relabelS scope sc, freeOf scope.names⟩ tg g) (ht : SoundCond c n ⟨relabelS scope sc, freeOf scope.names⟩ ifs t) (hel : SoundE c n ⟨relabelS scope sc, freeOf scope.names⟩ elt e) (hchk : compChk c.N scope sc ks = true) (hkind : scope.kind = .function)
    (hf : ∀ env x, foldedSetIterable iter env x = pure x) (hto : (∃ elts k pos, tg = .Tuple elts k pos) ∨ ∀ it v, letOwnedTupleGo tg it v = pure ())
    (hA : AOk n A) (he : EOk sc env) (R : ER c.base c.N env ρ s.heap) (S : St c.base H s) (q : aComp ks g src t e Q ρ H)
    (fin : ∀ a H' s' C, c.base.get? C = none → s.heap.objs.size ≤ C → (∃ m, s'.heap.Ns C m) → St c.base H' s' → Ext No No H s H' s' → Q (.ref a) H' → compPost (model c.prog c.w) A E use QQ (.ref a) C (.ok .next) s') :
    wpAny (model c.prog c.w) A (comprehension (.ListComp elt [⟨tg, iter, ifs, 0⟩] scope pos) scope env p (newList []) false (eval iter env) use) QQ E s := by
  unfold compChk at hchk
  simp only [Bool.and_eq_true, List.all_eq_true, beq_iff_eq, bne_iff_ne, ne_eq, Bool.or_eq_true, decide_eq_true_eq] at hchk
  obtain ⟨⟨⟨⟨c1, c2⟩, c3⟩, c4⟩, c5⟩ := hchk
  have hfr : ∀ x ∈ freeOf scope.names, ∃ cc, env.cells.lookup x = some cc := fun x hx => let ⟨cc, h1, _⟩ := he.cells x (c1 x hx); ⟨cc, h1⟩
  have hfr' : ∀ x ∈ freeOf scope.names, (env.cells.lookup x).isSome = true := fun x hx => by obtain ⟨cc, h1⟩ := hfr x hx; rw [h1]; rfl
  refine wpAny_comprehension_free (g := ⟨tg, iter, ifs, 0⟩) (gs := []) rfl (hf env) (closure_eq hfr') hkind (fun x hx h => (c4 x hx).resolve_left (fun q => q h)) ?_
  refine seq1 (F := fun p H1 => withItems p (fun items G H2 => ∀ a, H2 a = none → G (upd H2 a ⟨[], true⟩) ∧ compL g t e a G (fun H3 => Q (.ref a) H3) items (capt ks ρ) (upd H2 a ⟨[], true⟩)) H1) hs hA he R S q fun va pa H1 s1 h1 R1 S1 e1 q1 => ?_
  refine iter_sound (n := n) h1 S1 q1 fun I items P G J s2 it hj S2 e2 hP hG q2 => ?_
  have newAcc : wpAny (model c.prog c.w) A (newList []) (fun acc s3 => ∃ a H3, acc = .ref a ∧ a = s2.heap.objs.size ∧ H3 = upd H1 a ⟨[], true⟩ ∧ St c.base H3 s3 ∧ Ext No No H1 s2 H3 s3 ∧ s3 = { s2 with heap := s2.heap.push { cls := .type "list", data := .seq #[] } }) E s2 :=
    wpAny_newObj_type ⟨_, _, rfl, rfl, rfl, S2.newList (vs := #[]) .nil, Ext.newList _ _, rfl⟩ (by show (#[] : Array Value).size ≤ sizeLine; simp)
  refine wpAny_mono newAcc (fun acc s3 ⟨a, H3, e4, e5, e6, S3, e3, e7⟩ => ?_) fun _ _ x => x
  subst e4
  have ha : H1 a = none := S2.fresh (by rw [e5]; exact Nat.le_refl _)
  obtain ⟨q3, q4⟩ := q2 a ha
  rw [← e6] at q3 q4
  refine wpAny_newFunctionEnv c3 (fun _ h => nomatch h) (fun h' hn hsb => ?_) hkind
  generalize hC : s3.heap.objs.size = C at *
  have hk4 : ∀ b o, s3.heap.get? b = some o → h'.get? b = some o := fun b o hb => (hsb.2 b (fun e => by subst e; exact Nat.lt_irrefl _ (hC ▸ Heap.lt_size hb))).trans (Heap.get?_push_of_some _ hb)
  have hz4 : s3.heap.objs.size ≤ h'.objs.size := by rw [hsb.1]; simp
  have S4 : St c.base H3 { s3 with heap := h', toks := s3.toks + ([] : List (Str × Value)).length } := S3.of_keep (X := No) (fun b o _ h => hk4 b o h) (fun _ h => h.elim) (fun _ h => h.elim) (fun _ h => h.elim)
  have e34 : Ext No No H3 s3 H3 { s3 with heap := h', toks := s3.toks + ([] : List (Str × Value)).length } := Ext.of_keep (fun b o _ h => hk4 b o h) hz4
  have hs2 : s1.heap.objs.size ≤ s2.heap.objs.size := e2.size
  have hs3 : s2.heap.objs.size ≤ s3.heap.objs.size := e3.size
  have hs1 : s.heap.objs.size ≤ s1.heap.objs.size := e1.size
  rw [relabel_eq he]
  generalize hce : newEnv scope C env.globals (clOf env scope.names []) env.qual none .none (some env) builtinsNs = cenv0
  have hL0 : cenv0.locals = C := by rw [← hce]; rfl
  have hC0 : cenv0.cells = clOf env scope.names [] := by rw [← hce]; rfl
  have hG0 : cenv0.globals = env.globals := by rw [← hce]; rfl
  have hB0 : cenv0.builtins = env.builtins := by rw [← hce]; rfl
  have e14 : Ext No No H1 s1 H3 { s3 with heap := h', toks := s3.toks + ([] : List (Str × Value)).length } := (e2.trans e3).trans e34
  have R4 := R1.ext0 S1 e14
  have hcl : ∀ x cc, (clOf env scope.names []).lookup x = some cc → env.cells.lookup x = some cc := fun x cc h => clOf_sub scope.names [] hfr' (fun _ h => nomatch h) _ (mem_of_lookup h)
  have hbC : c.base.get? C = none := S3.bsize (by rw [hC]; exact Nat.le_refl _)
  have hlow : ∀ x cc, env.cells.lookup x = some cc → cc < s.heap.objs.size := fun x cc h => let ⟨w, hw⟩ := R.cells x cc h; hw.lt
  have hsC : s.heap.objs.size ≤ C := by rw [← hC]; omega
  have he4 : EOk ⟨relabelS scope sc, freeOf scope.names⟩ { cenv0 with scope := relabelS scope sc } := ⟨rfl, hkind, hG0.trans he.globals, hB0.trans he.builtins, fun x hx => by
    have hm := relabel_cell c3 hx
    obtain ⟨cc, hcc⟩ := hfr x hm
    exact ⟨cc, by show cenv0.cells.lookup x = _; rw [hC0, clOf_lookup hfr' hm]; exact hcc, fun h => absurd hm h⟩⟩
  have own4 : ∀ b, Own { cenv0 with scope := relabelS scope sc } b → b = C := by
    rintro b (h | ⟨h1, x, h2⟩)
    · exact h.trans hL0
    · have h3 := hlow x b (hcl x b (by rw [← hC0]; exact h2))
      have h4 : C < b := by rw [← hL0]; exact h1
      exact absurd (Nat.lt_of_lt_of_le h3 hsC) (Nat.lt_asymm h4)
  have ER4 : ER c.base c.N { cenv0 with scope := relabelS scope sc } (capt ks ρ) h' := {
    names := ⟨_, by show h'.Ns cenv0.locals _; rw [hL0]; exact hn, fun k p hp => by
      unfold capt at hp
      by_cases hkc : ks.contains k = true
      · rw [if_pos hkc] at hp
        obtain ⟨m, hm, hmk⟩ := R4.names
        obtain ⟨x, v, k1, k2, k3⟩ := hmk k p hp
        have c5' := c5 k (by simpa using hkc)
        rw [k1] at c5'
        simp only [Bool.and_eq_true, List.contains_iff_mem, beq_iff_eq] at c5'
        refine ⟨x, v, k1, k2, .inr ⟨.inl c5'.2, ?_⟩⟩
        have hsx : env.kindOf x = some .cell := by rw [he.kindOf]; exact c1 x c5'.1
        rcases k3 with ⟨k4, _⟩ | ⟨_, cc, k4, k5⟩
        · rw [hsx] at k4; cases k4
        · exact ⟨cc, by show cenv0.cells.lookup x = _; rw [hC0, clOf_lookup hfr' c5'.1]; exact k4, k5⟩
      · rw [if_neg hkc] at hp; cases hp⟩
    cells := fun x cc hx => R4.cells x cc (hcl x cc (by rw [← hC0]; exact hx))
    apart := by show cenv0.cells.Pairwise _; rw [hC0]; exact clOf_apart (base := c.base) R.apart scope.names [] hfr' c2 (fun _ h => nomatch h) .nil
    new := by show c.base.get? cenv0.locals = none; rw [hL0]; exact hbC
    cnew := fun x cc hx => R.cnew x cc (hcl x cc (by rw [← hC0]; exact hx)) }
  have hPC : ¬ P C := fun h => by have h1 := (hP C h).2; rw [← hC] at h1; omega
  have ownP : ∀ b, Own { cenv0 with scope := relabelS scope sc } b → ¬ P b := fun b hb => by rw [own4 b hb]; exact hPC
  have loop : codeAny (model c.prog c.w) A (.compLoop (.ListComp elt [⟨tg, iter, ifs, 0⟩] scope pos) 0 (.ref I) (.ref a) { cenv0 with scope := relabelS scope sc }) (compPost (model c.prog c.w) A E use QQ (.ref a) cenv0.locals) { s3 with heap := h', toks := s3.toks + ([] : List (Str × Value)).length } := by
    refine comp_loop (H₀ := H1) (s₀ := s1) (sc := ⟨relabelS scope sc, freeOf scope.names⟩) it hg ht hel hA he4 hto ownP (fun x cc hx hp => ?_) (it.frame No items H1 s2 H3 _ hj S2 (e3.trans e34) S4 (fun _ h => h.elim) (fun _ _ _ h => h) q3) ER4 S4 e14.of_no q4 fun H' s' ρ' R' S' ex' hQ => ?_
    · have h1 := hlow x cc (hcl x cc (by rw [← hC0]; exact hx))
      have h2 := (hP cc hp).1
      exact absurd (Nat.lt_of_lt_of_le h1 hs1) (Nat.not_lt.mpr h2)
    · have ee : Ext No No H s H' s' := e1.then_new ex' (fun b hb => .inr (by
        rcases hb with hb | hb
        · rw [own4 b hb]; exact hsC
        · exact Nat.le_trans hs1 (hP b hb).1)) (fun _ h => h.elim)
      rw [hL0]
      obtain ⟨m, hm, _⟩ := R'.names
      exact fin a H' s' C hbC hsC ⟨m, by rw [← hL0]; exact hm⟩ S' ee hQ
  exact codeAny_compStart_list loop (it.self A items H3 _ _ _ (it.frame No items H1 s2 H3 _ hj S2 (e3.trans e34) S4 (fun _ h => h.elim) (fun _ _ _ h => h) q3) loop)

theorem sound_comp {elt tg iter : Expr} {ifs : List Expr} {scope : Scope} {pos : Pos} {ks : List Nat} {g : ATg} {src : AE} {t : AT} {e : AE}
    (hs : SoundE c n sc iter src) (hg : SoundA c n ⟨relabelS scope sc, freeOf scope.names⟩ tg g) (ht : SoundCond c n ⟨relabelS scope sc, freeOf scope.names⟩ ifs t) (hel : SoundE c n ⟨relabelS scope sc, freeOf scope.names⟩ elt e) (hchk : compChk c.N scope sc ks = true) (hkind : scope.kind = .function := by rfl)
    (hf : ∀ env x, foldedSetIterable iter env x = pure x := by intro _ _; rfl) (hto : (∃ elts k pos, tg = .Tuple elts k pos) ∨ ∀ it v, letOwnedTupleGo tg it v = pure () := by first | exact .inl ⟨_, _, _, rfl⟩ | exact .inr fun _ _ => rfl) :
    SoundE c n sc (.ListComp elt [⟨tg, iter, ifs, 0⟩] scope pos) (aComp ks g src t e) := by
  intro A env ρ H s Q E hA he R S q
  rw [eval_ListComp]
  refine comp_sound (use := none) hs hg ht hel hchk hkind hf hto hA he R S q fun a H' s' C hb hsC hm S' ee hQ => ?_
  obtain ⟨m, hm⟩ := hm
  refine ⟨m, hm, fun h2 hs2 => ?_⟩
  have S2 : St c.base H' { s' with heap := h2 } := st_upd (tk := s'.toks) S' hs2 hb (ns_dict hm)
  exact ⟨.ref a, H', .ref a, S2, ee.then_new (ext_upd (X := fun b => b = C) (tk := s'.toks) hs2 rfl) (fun b hb => .inr (hb ▸ hsC)) (fun _ h => h), hQ⟩
theorem exec_assign1 (tg v : Expr) (pos : Pos) (env : Env) : exec (.Assign [tg] v pos) env = (do
    standAt pos
    if ← swapsWithSole [tg] v pos.line env then do
      evalThenUse v env fun v => assignAll v ((assignEach [tg] env).map (·.2))
      pure .next
    else do
      let v' ← eval v env
      assignStores env v' (← swappedStores [tg] v env) ((assignEach [tg] env).map (·.2))) := rfl
theorem use_comp (elt : Expr) (gens : List Comprehension) (scope : Scope) (pos : Pos) (env : Env) (use : Value → Sem Unit) : evalThenUse (.ListComp elt gens scope pos) env use = (do
    let _ ← comprehension (.ListComp elt gens scope pos) scope env (firstIterPos gens pos) (newList []) (firstAsync gens) (firstIter gens env) (some use)) := rfl
theorem stmt_assign_comp {elt tg iter : Expr} {ifs : List Expr} {scope : Scope} {pos spos xpos : Pos} {x : Str} {k : Nat} {ks : List Nat} {g : ATg} {src : AE} {t : AT} {e : AE}
    (hs : SoundE c n sc iter src) (hg : SoundA c n ⟨relabelS scope sc, freeOf scope.names⟩ tg g) (ht : SoundCond c n ⟨relabelS scope sc, freeOf scope.names⟩ ifs t) (hel : SoundE c n ⟨relabelS scope sc, freeOf scope.names⟩ elt e) (hchk : compChk c.N scope sc ks = true) (hx : c.N[k]? = some x) (hk : sc.names.lookup x = some .local)
    (hsw : (xpos.line == pos.line && !(scope.names.any fun (n, k) => n == x && (k == .local || k == .cell))) = true) (hkind : scope.kind = .function := by rfl)
    (hf : ∀ env x, foldedSetIterable iter env x = pure x := by intro _ _; rfl) (hto : (∃ elts k pos, tg = .Tuple elts k pos) ∨ ∀ it v, letOwnedTupleGo tg it v = pure () := by first | exact .inl ⟨_, _, _, rfl⟩ | exact .inr fun _ _ => rfl) :
    SoundS c n sc (.Assign [.Name x xpos] (.ListComp elt [⟨tg, iter, ifs, 0⟩] scope pos) spos) (sAssign (gName k) (aComp ks g src t e)) := by
  intro A env ρ H s Q E hA he R S q
  have hsole : swapsWithSole [.Name x xpos] (.ListComp elt [⟨tg, iter, ifs, 0⟩] scope pos) spos.line env = pure true := by
    show (pure (env.blockKind == .function && env.kindOf x == some .local && xpos.line == pos.line && !(scope.names.any fun (n, k) => n == x && (k == .local || k == .cell))) : Sem Bool) = _
    have h1 : env.kindOf x = some .local := by rw [he.kindOf]; exact hk
    have h2 : env.blockKind = .function := by unfold Env.blockKind; rw [he.skind]; rfl
    rw [h1, h2]
    simp only [Bool.and_eq_true] at hsw
    simp [hsw.1, hsw.2]
  rw [exec_assign1, hsole]
  refine wpAny_bind (wpAny_standAt (wpAny_bind (wpAny_pure ?_)))
  simp only [if_true]
  rw [use_comp]
  refine wpAny_bind (wpAny_bind ?_)
  show wpAny _ _ (comprehension (.ListComp elt [⟨tg, iter, ifs, 0⟩] scope pos) scope env iter.pos (newList []) false (eval iter env) (some fun v => assign (.Name x xpos) env v)) _ _ _
  refine comp_sound (use := some fun v => assign (.Name x xpos) env v) (Q := fun p H1 => Q .next (upd ρ k p) H1) hs hg ht hel hchk hkind hf hto hA he R S q fun a H' s' C hb hsC hm S' ee hQ => ?_
  obtain ⟨m, hm⟩ := hm
  show wpAny _ _ (assign (.Name x xpos) env (.ref a)) _ _ _
  refine wpAny_assign_Name (store_var he (R.ext0 S ee) S' hx (.inl hk) (.ref a) fun s3 R3 S3 e3 => ?_)
  have hCO : ¬ Own env C := fun h => Nat.lt_irrefl _ (Nat.lt_of_lt_of_le (own_lt R h) hsC)
  have hm3 := ns_stays S' e3 hm hCO
  refine ⟨m, hm3, fun h4 hs4 => wpAny_pure (wpAny_pure ?_)⟩
  have S4 : St c.base H' { s3 with heap := h4 } := st_upd (tk := s3.toks) S3 hs4 hb (ns_dict hm3)
  have e4 : Ext (fun b => b = C) No H' s3 H' { s3 with heap := h4 } := ext_upd (tk := s3.toks) hs4 rfl
  have R4 : ER c.base c.N env (upd ρ k (.ref a)) h4 := R3.ext' S3 e4 (imm_upd hs4 (ns_dict hm3)) (fun h => hCO (.inl h.symm)) (fun y cc hy h => by
    subst h
    obtain ⟨w, hw⟩ := R.cells y cc hy
    exact Nat.lt_irrefl _ (Nat.lt_of_lt_of_le hw.lt hsC))
  exact ⟨.next, _, H', .next, R4, S4, (ee.of_no.trans e3).then_new e4 (fun b hb => .inr (hb ▸ hsC)) (fun _ h => h.elim), hQ⟩
end
end Mine
open PySem PySem.W PySem.Calls PyProof.Rows
set_option Elab.async false
set_option linter.unusedVariables false
namespace Mine

theorem shape_ints {R : WRecords} : ∀ (xs : List WData), WShape.hasItems R xs .int = true → ∃ ns : List Int, xs = ns.map .int
  | [], _ => ⟨[], rfl⟩
  | d :: xs, h => by
    simp only [WShape.hasItems, Bool.and_eq_true] at h
    obtain ⟨ns, rfl⟩ := shape_ints xs h.2
    obtain ⟨i, rfl⟩ := hasW_int h.1
    exact ⟨i :: ns, rfl⟩

theorem well_ints {P : Params} {h : Heap} : ∀ (vs : List Value) (ns : List Int), WellAll P h vs (ns.map .int) → VAll h vs (ns.map .int)
  | _, [], .nil => .nil
  | _, i :: ns, .cons hv hr => by
    cases hv
    exact .cons (.int i _) (well_ints _ ns hr)

/-- the same run, its names numbered by N -/
abbrev Cx.on (c : Cx) (N : List Str) (h : N.Nodup) : Cx := { c with N := N, nodup := h }

/-- the text's i-th statement, a def: its parts -/
def fnRec (p : Program) (i : Nat) : DefRec := match p.main.body[i]? with
  | some (.FunctionDef name a b _ _ _ sc _ _ pos) => ⟨name, a, b, sc, pos⟩
  | _ => ⟨Str.empty, ⟨[], [], none, [], [], none, []⟩, [], { kind := .function, names := [], isGenerator := false, isCoroutine := false }, ⟨0, 0, 0, 0⟩⟩

/-- from the law's own function to the claim -/
theorem link {l : OpenLaw} {q : Program} {loose : List Str} {XP : (Str → Option Value) → Heap → Prop} {YP : World → Heap → Prop} {d : DefRec} {kwd : List (Str × Expr)} (N : List Str) (hN : N.Nodup) (hm : l.most = some 63) (hb : l.bound = none)
    (main : ∀ c : Cx, c.q = q → c.loose = looseW q loose → ∃ k f, k ≤ 500 ∧ SoundF (c.on N hN) k d.name f ∧ ∀ (ns : List Int) (a : Nat) (H : AH), ns.length ≤ 63 → H a = some ⟨ns.map .int, false⟩ → f [.ref a] (fun p _ => p = .bool true) H) :
    WalkO q loose XP YP l.row.toRowW d kwd fun f vs => PySem.call f vs := by
  intro w s₀ s₁ mg mb G Y fa o pm cd doc dV kV ho hd hcd hD hmg hg args vals as hpre hlay hrd hwl hlo
  have hpre' : (WShape.hasAll [] args [.list .int] && l.pre.holds [] { args := args }) = true := hpre
  simp only [Bool.and_eq_true] at hpre'
  obtain ⟨p1, p2⟩ := hpre'
  obtain ⟨x, rfl⟩ : ∃ x, args = [x] := by
    match args, p1 with
    | [x], _ => exact ⟨x, rfl⟩
    | [], h => cases h
    | x :: y :: r, h => simp only [WShape.hasAll, Bool.and_eq_true] at h; exact absurd h.2 (by intro q; cases q)
  obtain ⟨xs, rfl⟩ : ∃ xs, x = .list xs := by
    cases x with
    | list xs => exact ⟨xs, rfl⟩
    | _ => simp [WShape.hasAll, WShape.has, WShape.arms] at p1
  have p1' : WShape.hasItems [] xs .int = true := by
    simp only [WShape.hasAll, Bool.and_eq_true] at p1
    simpa [WShape.has, WShape.arms] using p1.1
  obtain ⟨ns, rfl⟩ := shape_ints xs p1'
  have hlen : ns.length ≤ 63 := by
    unfold OpenLaw.pre at p2
    rw [hm, hb] at p2
    have hv := w_and (w_not (w_lt (w_lit (R := []) (e := { args := [.list (ns.map .int)] }) (d := .int (63 : Nat))) (w_len_list (w_arg (i := 0) rfl)))) (w_lit (d := .bool true))
    unfold WTm.holds at p2
    rw [hv] at p2
    cases hd : decide (((63 : Nat) : Int) < (((ns.map WData.int).length : Nat) : Int)) with
    | true => rw [hd] at p2; cases p2
    | false => have := of_decide_eq_false hd; simp at this; omega
  obtain ⟨vl, rfl⟩ : ∃ vl, vals = [vl] := by
    cases hwl with
    | cons h1 h2 => cases h2; exact ⟨_, rfl⟩
  cases hwl with
  | cons h1 h2 =>
    cases h1 with
    | list hget hws =>
      rename_i la vs
      let c : Cx := ⟨l.prog, w, s₁.heap, q, looseW q loose, _, mg, mb, G.T, N, hN⟩
      obtain ⟨k, f, hk, ⟨a', o', fd, m1, m2, m3, hf⟩, hmain⟩ := main c rfl rfl
      have ea : a' = fa := by
        have : mg d.name = some (.ref a') := m1
        rw [hmg] at this; cases this; rfl
      subst ea
      let H : AH := fun b => if b = la then some ⟨ns.map .int, false⟩ else none
      have hH : ∀ b x, H b = some x → b = la ∧ x = ⟨ns.map .int, false⟩ := by
        intro b x hx
        by_cases e : b = la
        · simp [H, e] at hx; exact ⟨e, hx.symm⟩
        · simp [H, e] at hx
      have S : St c.base H s₁ := ⟨⟨fun _ _ h => h, fun b x hx => by
          obtain ⟨rfl, rfl⟩ := hH b x hx
          exact ⟨vs.toArray, 0, hget, by simpa using well_ints vs ns hws⟩, fun b x hx ho => by
          obtain ⟨rfl, rfl⟩ := hH b x hx
          cases ho⟩, by rw [hg]; exact AllBare.empty⟩
      have hA : AOk k callerA := ⟨rfl, by show 1 + claimMargin + k ≤ 900; simp only [claimMargin]; omega, by show 4 + 10 * k ≤ 9000; omega⟩
      refine wpAny_mono (hf callerA H s₁ [.ref la] [.ref la] _ _ hA (.one (.ref la)) S (hmain ns la H hlen (by simp [H]))) (fun v s' ⟨p, H', hv, S', e, hp⟩ => ?_) fun _ _ x => x
      subst hp
      cases hv
      refine ⟨.inl ⟨.bool true, .bool true, [], rfl, fun _ => rfl, .bool true, postW_of (r := l.row.toRowW) (X := true == true) (by show WShape.has [] (.bool true) .bool = true; simp [WShape.has, WShape.arms]) (by show (WTm.eq .res (.lit (.bool true))).value [] _ = _; exact w_eq_bool (w_res rfl) w_lit) rfl, fun _ => ⟨List.nodup_nil, fun _ h => nomatch h⟩⟩, OldK.of_keep fun b o hb => e.keep b o hb (fun h => h) fun x hx => ?_, e.os, S'.bare⟩
      obtain ⟨_, rfl⟩ := hH b x hx
      rfl
end Mine
open PySem PySem.W PySem.Calls PyProof.Rows
set_option Elab.async false
set_option linter.unusedVariables false
namespace Mine
section
variable {c : Cx} {n : Nat} {sc : SE}
theorem no_inter {env : Env} (h : EOk sc env) : interactive env = false := by
  unfold interactive; rw [h.skind]; rfl
def opNeg (a : PV) (Q : PV → AH → Prop) (H : AH) : Prop := match a with | .int x => Q (.int (-x)) H | _ => False
end
end Mine
open PySem PySem.W PySem.Calls PyProof.Rows
set_option Elab.async false
set_option linter.unusedVariables false
namespace Mine

-- plain data without lists
mutual
def pd : PV → PyData
  | .none => .none
  | .bool b => .bool b
  | .int i => .int i
  | .str x => .str ⟨x.toArray⟩
  | .tup xs => .tuple (pds xs)
  | .ref _ => .none
  | .rng _ _ => .none
def pds : List PV → List PyData
  | [] => []
  | x :: xs => pd x :: pds xs
end
mutual
def flat : Nat → PV → Bool
  | n + 1, .tup xs => flats n xs
  | 0, .tup _ => false
  | _, .ref _ => false
  | _, .rng _ _ => false
  | _, _ => true
def flats : Nat → List PV → Bool
  | _, [] => true
  | n, x :: xs => flat n x && flats n xs
end
mutual
theorem rd_flat {H : AH} : ∀ (n : Nat) (p : PV), flat n p = true → Rd H n p (pd p)
  | n, .none, _ => by cases n <;> exact .none _
  | n, .bool b, _ => by cases n <;> exact .bool _ b
  | n, .int i, _ => by cases n <;> exact .int _ i
  | n, .str x, _ => by cases n <;> exact .str _ x
  | n + 1, .tup xs, h => .tup (rd_flats n xs (by simpa [flat] using h))
  | 0, .tup xs, h => by simp [flat] at h
  | n, .ref _, h => by cases n <;> simp [flat] at h
  | n, .rng _ _, h => by cases n <;> simp [flat] at h
theorem rd_flats {H : AH} : ∀ (n : Nat) (ps : List PV), flats n ps = true → RdAll H n ps (pds ps)
  | n, [], _ => .nil n
  | n, p :: ps, h => by
    simp only [flats, Bool.and_eq_true] at h
    exact .cons (rd_flat n p h.1) (rd_flats n ps h.2)
end
theorem flats_all {n : Nat} : ∀ {ps : List PV}, (∀ p ∈ ps, flat n p = true) → flats n ps = true
  | [], _ => rfl
  | p :: ps, h => by simp only [flats, Bool.and_eq_true]; exact ⟨h p (.head _), flats_all fun q hq => h q (.tail _ hq)⟩
mutual
theorem Rd.same {H : AH} : ∀ {n : Nat} {p : PV} {d : PyData}, Rd H n p d → PyData.eqv d d = true
  | _, _, _, .none _ => rfl
  | _, _, _, .bool _ b => by simp [PyData.eqv]
  | _, _, _, .int _ i => by simp [PyData.eqv]
  | _, _, _, .str _ x => by simp [PyData.eqv]
  | _, _, _, .tup h => by simp [PyData.eqv, RdAll.same h]
  | _, _, _, .ref _ h => by simp [PyData.eqv, RdAll.same h]
theorem RdAll.same {H : AH} : ∀ {n : Nat} {ps : List PV} {ds : List PyData}, RdAll H n ps ds → PyData.eqvAll ds ds = true
  | _, _, _, .nil _ => rfl
  | _, _, _, .cons h k => by simp [PyData.eqvAll, Rd.same h, RdAll.same k]
end

/-- two lists of flat items, equal ones -/
theorem cmp_lists {H : AH} {a b : Nat} {x y : LO} {Q : Bool → AH → Prop} (ha : H a = some x) (hb : H b = some y) (hf : flats 19 x.items = true) (he : y.items = x.items) (q : Q true H) : cmpEq (.ref a) (.ref b) Q H := by
  have r1 : Rd H 20 (.ref a) (.list (pds x.items)) := .ref ha (rd_flats 19 _ hf)
  have r2 : Rd H 20 (.ref b) (.list (pds x.items)) := .ref hb (by rw [he]; exact rd_flats 19 _ hf)
  exact ⟨_, _, r1, r2, by rw [r1.same]; exact q⟩
theorem upd_at {α : Type} (f : Nat → Option α) (k j : Nat) (v : α) : upd f k v j = if j = k then some v else f j := rfl
theorem upd_upd {α : Type} (f : Nat → Option α) (k : Nat) (v w : α) : upd (upd f k v) k w = upd f k w := by
  funext j; simp only [upd]; split <;> rfl
end Mine
open PySem PySem.W PySem.Calls PyProof.Rows
set_option Elab.async false
set_option linter.unusedVariables false
namespace Mine

-- all is monotone in what is asked of the end
def MonoE (e : AE) : Prop := ∀ (Q Q' : PV → AH → Prop) (ρ : AEnv) (H : AH), (∀ p H, Q p H → Q' p H) → e Q ρ H → e Q' ρ H
def MonoL (e : AL) : Prop := ∀ (Q Q' : List PV → AH → Prop) (ρ : AEnv) (H : AH), (∀ p H, Q p H → Q' p H) → e Q ρ H → e Q' ρ H
def MonoT (e : AT) : Prop := ∀ (Q Q' : Bool → AH → Prop) (ρ : AEnv) (H : AH), (∀ p H, Q p H → Q' p H) → e Q ρ H → e Q' ρ H
def MonoS (e : AS) : Prop := ∀ (Q Q' : Fl → AEnv → AH → Prop) (ρ : AEnv) (H : AH), (∀ f ρ H, Q f ρ H → Q' f ρ H) → e Q ρ H → e Q' ρ H
def MonoG (g : ATg) : Prop := ∀ (p : PV) (Q Q' : AEnv → AH → Prop) (ρ : AEnv) (H : AH), (∀ ρ H, Q ρ H → Q' ρ H) → g p Q ρ H → g p Q' ρ H
def MonoF (f : AF) : Prop := ∀ (ps : List PV) (Q Q' : PV → AH → Prop) (H : AH), (∀ p H, Q p H → Q' p H) → f ps Q H → f ps Q' H
def MonoO2 (f : PV → PV → (PV → AH → Prop) → AH → Prop) : Prop := ∀ (a b : PV) (Q Q' : PV → AH → Prop) (H : AH), (∀ p H, Q p H → Q' p H) → f a b Q H → f a b Q' H
theorem newL_mono {ps : List PV} {Q Q' : PV → AH → Prop} {H : AH} (h : ∀ p H, Q p H → Q' p H) (q : newL ps Q H) : newL ps Q' H := fun a ha => h _ _ (q a ha)

theorem m_var {k : Nat} : MonoE (aVar k) := by intro Q Q' ρ H h q; unfold aVar at *; split <;> simp_all
theorem m_cst {p : PV} : MonoE (aCst p) := fun Q Q' ρ H h q => h _ _ q
theorem m_bin {f} {a b : AE} (hf : MonoO2 f) (ha : MonoE a) (hb : MonoE b) : MonoE (aBin f a b) := fun Q Q' ρ H h q => ha _ _ _ _ (fun p H1 q1 => hb _ _ _ _ (fun p2 H2 q2 => hf _ _ _ _ _ h q2) q1) q
theorem mo_add : MonoO2 opAdd := by
  intro a b Q Q' H h q
  unfold opAdd at *
  split at q
  · exact h _ _ q
  · exact ⟨q.1, h _ _ q.2⟩
  · split at q
    · exact ⟨q.1, newL_mono h q.2⟩
    · exact q.elim
  · exact q.elim
theorem mo_sub : MonoO2 opSub := by
  intro a b Q Q' H h q; unfold opSub at *; split at q
  · exact h _ _ q
  · exact q.elim
theorem mo_mul : MonoO2 opMul := by
  intro a b Q Q' H h q; unfold opMul at *; split at q
  · exact ⟨q.1, h _ _ q.2⟩
  · exact ⟨q.1, h _ _ q.2⟩
  · exact q.elim
theorem mo_div : MonoO2 opDiv := by
  intro a b Q Q' H h q; unfold opDiv at *; split at q
  · exact ⟨q.1, h _ _ q.2⟩
  · exact q.elim
theorem mo_mod : MonoO2 opMod := by
  intro a b Q Q' H h q; unfold opMod at *; split at q
  · exact ⟨q.1, h _ _ q.2⟩
  · exact q.elim
theorem mo_item : MonoO2 opItem := by
  intro a b Q Q' H h q; unfold opItem at *
  split at q
  · split at q
    · skip
      split at q
      · exact ⟨q.1, h _ _ q.2⟩
      · exact q.elim
    · exact q.elim
  · split at q
    · exact ⟨q.1, h _ _ q.2⟩
    · exact q.elim
  · split at q
    · exact ⟨q.1, h _ _ q.2⟩
    · exact q.elim
  · exact q.elim
theorem m_cmp {op : CmpOp} {a b : AE} (ha : MonoE a) (hb : MonoE b) : MonoE (aCmp op a b) :=
  m_bin (fun a b Q Q' H h q => cmpOp_mono (fun k H => h _ H) q) ha hb
theorem truth_mono {a : PV} {Q Q' : Bool → AH → Prop} {H : AH} (h : ∀ p H, Q p H → Q' p H) (q : truth a Q H) : truth a Q' H := by
  unfold truth at *
  split at q
  · exact h _ _ q
  · exact h _ _ q
  · exact h _ _ q
  · exact ⟨q.1, h _ _ q.2⟩
  · split at q
    · exact ⟨q.1, h _ _ q.2⟩
    · exact q.elim
  · exact q.elim
  · exact q.elim
theorem mt_val {a : AE} (ha : MonoE a) : MonoT (tVal a) := fun Q Q' ρ H h q => ha _ _ _ _ (fun p H1 q1 => truth_mono h q1) q
theorem mt_not {a : AT} (ha : MonoT a) : MonoT (tNot a) := fun Q Q' ρ H h q => ha _ _ _ _ (fun p H1 q1 => h _ _ q1) q
theorem mt_or {a b : AT} (ha : MonoT a) (hb : MonoT b) : MonoT (tOr a b) := fun Q Q' ρ H h q => ha _ _ _ _ (fun p H1 q1 => by
  cases p
  · exact hb _ _ _ _ h (by simpa using q1)
  · exact h _ _ (by simpa using q1)) q
theorem mt_true : MonoT tTrue := fun Q Q' ρ H h q => h _ _ q
theorem mt_false : MonoT tFalse := fun Q Q' ρ H h q => h _ _ q
theorem mt_cmp {op : CmpOp} {a b : AE} (ha : MonoE a) (hb : MonoE b) : MonoT (tCmp op a b) := fun Q Q' ρ H h q => ha _ _ _ _ (fun p H1 q1 => hb _ _ _ _ (fun p2 H2 q2 => cmpOp_mono h q2) q1) q
theorem m_if {t : AT} {a b : AE} (ht : MonoT t) (ha : MonoE a) (hb : MonoE b) : MonoE (aIf t a b) := fun Q Q' ρ H h q => ht _ _ _ _ (fun p H1 q1 => by
  cases p
  · exact hb _ _ _ _ h (by simpa using q1)
  · exact ha _ _ _ _ h (by simpa using q1)) q
theorem ml_nil : MonoL lNil := fun Q Q' ρ H h q => h _ _ q
theorem ml_cons {a : AE} {l : AL} (ha : MonoE a) (hl : MonoL l) : MonoL (lCons a l) := fun Q Q' ρ H h q => ha _ _ _ _ (fun p H1 q1 => hl _ _ _ _ (fun ps H2 q2 => h _ _ q2) q1) q
theorem m_tup {l : AL} (hl : MonoL l) : MonoE (aTup l) := fun Q Q' ρ H h q => hl _ _ _ _ (fun p H1 q1 => ⟨q1.1, h _ _ q1.2⟩) q
theorem m_list {l : AL} (hl : MonoL l) : MonoE (aList l) := fun Q Q' ρ H h q => hl _ _ _ _ (fun p H1 q1 => ⟨q1.1, newL_mono h q1.2⟩) q
theorem m_call {f : AF} {l : AL} (hf : MonoF f) (hl : MonoL l) : MonoE (aCall f l) := fun Q Q' ρ H h q => hl _ _ _ _ (fun p H1 q1 => hf _ _ _ _ h q1) q
theorem m_meth {K} {f : AF} {o : AE} {l : AL} (hf : MonoF f) (ho : MonoE o) (hl : MonoL l) : MonoE (aMeth K f o l) := fun Q Q' ρ H h q => ho _ _ _ _ (fun p H1 q1 => ⟨q1.1, hl _ _ _ _ (fun ps H2 q2 => hf _ _ _ _ h q2) q1.2⟩) q
theorem m_slice {a b d e : AE} (ha : MonoE a) (hb : MonoE b) (hd : MonoE d) (he : MonoE e) : MonoE (aSlice a b d e) := fun Q Q' ρ H h q =>
  ha _ _ _ _ (fun p1 H1 q1 => hb _ _ _ _ (fun p2 H2 q2 => hd _ _ _ _ (fun p3 H3 q3 => he _ _ _ _ (fun p4 H4 q4 => by
    unfold opSlice at *
    split at q4
    · split at q4
      · split at q4
        · exact ⟨q4.1, newL_mono h q4.2⟩
        · exact q4.elim
      · exact ⟨q4.1, h _ _ q4.2⟩
      · exact q4.elim
    · exact q4.elim) q3) q2) q1) q
theorem withOwn_mono {p : PV} {k k' : Nat → List PV → Prop} {H : AH} (h : ∀ a xs, k a xs → k' a xs) (q : withOwn p k H) : withOwn p k' H := by
  unfold withOwn at *
  split at q
  · split at q
    · exact ⟨q.1, h _ _ q.2⟩
    · exact q.elim
  · exact q.elim
theorem mf_len : MonoF fLen := by
  intro ps Q Q' H h q; unfold fLen at *
  split at q
  · split at q
    · exact ⟨q.1, h _ _ q.2⟩
    · exact q.elim
  · exact ⟨q.1, h _ _ q.2⟩
  · exact ⟨q.1, h _ _ q.2⟩
  · exact q.elim
theorem mf_range : MonoF fRange := by
  intro ps Q Q' H h q; unfold fRange at *
  split at q
  · exact h _ _ q
  · exact h _ _ q
  · exact q.elim
theorem mf_append : MonoF fAppend := by
  intro ps Q Q' H h q; unfold fAppend at *
  split at q
  · exact withOwn_mono (fun a xs q => ⟨q.1, h _ _ q.2⟩) q
  · exact q.elim
theorem mg_name {k : Nat} : MonoG (gName k) := fun p Q Q' ρ H h q => h _ _ q
inductive MonoGs : List ATg → Prop
  | nil : MonoGs []
  | cons {g : ATg} {gs : List ATg} : MonoG g → MonoGs gs → MonoGs (g :: gs)
theorem go_mono : ∀ {gs : List ATg}, MonoGs gs → ∀ (ps : List PV) (Q Q' : AEnv → AH → Prop) (ρ : AEnv) (H : AH), (∀ ρ H, Q ρ H → Q' ρ H) → gTup.go gs ps Q ρ H → gTup.go gs ps Q' ρ H
  | _, .nil, ps, Q, Q', ρ, H, h, q => by simp only [gTup.go] at *; exact h _ _ q
  | _, .cons hg hgs, [], Q, Q', ρ, H, h, q => by simp only [gTup.go] at *; exact h _ _ q
  | _, .cons hg hgs, p :: ps, Q, Q', ρ, H, h, q => by
    simp only [gTup.go] at *
    exact hg _ _ _ _ _ (fun ρ1 H1 q1 => go_mono hgs ps Q Q' ρ1 H1 h q1) q
theorem mg_tup {gs : List ATg} (hg : MonoGs gs) : MonoG (gTup gs) := by
  intro p Q Q' ρ H h q; unfold gTup at *
  split at q
  · exact ⟨q.1, go_mono hg _ _ _ _ _ h q.2⟩
  · exact q.elim

-- statements
theorem ms_nil : MonoS sNil := fun Q Q' ρ H h q => h _ _ _ q
theorem ms_cons {a b : AS} (ha : MonoS a) (hb : MonoS b) : MonoS (sCons a b) := fun Q Q' ρ H h q => ha _ _ _ _ (fun fl ρ1 H1 q1 => by
  cases fl with
  | next => exact hb _ _ _ _ h q1
  | brk => exact h _ _ _ q1
  | cont => exact h _ _ _ q1
  | ret p => exact h _ _ _ q1) q
theorem ms_assign {g : ATg} {a : AE} (ha : MonoE a) (hg : MonoG g) : MonoS (sAssign g a) := fun Q Q' ρ H h q => ha _ _ _ _ (fun p H1 q1 => hg _ _ _ _ _ (fun ρ2 H2 q2 => h _ _ _ q2) q1) q
theorem ms_ret {a : AE} (ha : MonoE a) : MonoS (sRet a) := fun Q Q' ρ H h q => ha _ _ _ _ (fun p H1 q1 => h _ _ _ q1) q
theorem ms_if {t : AT} {a b : AS} (ht : MonoT t) (ha : MonoS a) (hb : MonoS b) : MonoS (sIf t a b) := fun Q Q' ρ H h q => ht _ _ _ _ (fun p H1 q1 => by
  cases p
  · exact hb _ _ _ _ h (by simpa using q1)
  · exact ha _ _ _ _ h (by simpa using q1)) q
theorem ms_expr {a : AE} (ha : MonoE a) : MonoS (sExpr a) := fun Q Q' ρ H h q => ha _ _ _ _ (fun p H1 q1 => h _ _ _ q1) q
theorem ms_aug {k : Nat} {f} {a : AE} (hf : MonoO2 f) (ha : MonoE a) : MonoS (sAug k f a) := by
  intro Q Q' ρ H h q; unfold sAug at *
  split at q
  · exact ha _ _ _ _ (fun p H1 q1 => hf _ _ _ _ _ (fun p2 H2 q2 => h _ _ _ q2) q1) q
  · exact q.elim
theorem withItems_mono {p : PV} {k k' : List PV → (AH → Prop) → AH → Prop} {H : AH} (h : ∀ xs G H, k xs G H → k' xs G H) (q : withItems p k H) : withItems p k' H := by
  unfold withItems at *
  split at q
  · split at q
    · exact h _ _ _ q
    · exact q.elim
  · exact h _ _ _ q
  · exact h _ _ _ q
  · exact ⟨q.1, h _ _ _ q.2⟩
  · exact q.elim

/-- a loop by what holds ahead of each turn -/
theorem forL_inv {g : ATg} {body : AS} {G : AH → Prop} {Q : Fl → AEnv → AH → Prop} (mg : MonoG g) (mb : MonoS body) (I : List PV → AEnv → AH → Prop)
    (step : ∀ p ps ρ H, I (p :: ps) ρ H → g p (fun ρ1 H1 => body (fun fl ρ2 H2 => match fl with
      | .next => G H2 ∧ I ps ρ2 H2
      | .cont => G H2 ∧ I ps ρ2 H2
      | .brk => Q .next ρ2 H2
      | .ret v => Q (.ret v) ρ2 H2) ρ1 H1) ρ H) (fin : ∀ ρ H, I [] ρ H → Q .next ρ H) : ∀ (items : List PV) (ρ : AEnv) (H : AH), I items ρ H → forL g body G Q items ρ H
  | [], ρ, H, hi => fin ρ H hi
  | p :: ps, ρ, H, hi => by
    refine mg _ _ _ _ _ (fun ρ1 H1 q1 => mb _ _ _ _ (fun fl ρ2 H2 q2 => ?_) q1) (step p ps ρ H hi)
    cases fl with
    | next => exact ⟨q2.1, forL_inv mg mb I step fin ps ρ2 H2 q2.2⟩
    | cont => exact ⟨q2.1, forL_inv mg mb I step fin ps ρ2 H2 q2.2⟩
    | brk => exact q2
    | ret v => exact q2
theorem whileN_inv {t : AT} {body : AS} {Q : Fl → AEnv → AH → Prop} (mt : MonoT t) (mb : MonoS body) (I : Nat → AEnv → AH → Prop)
    (step : ∀ k ρ H, I k ρ H → t (fun r H1 => if r then body (fun fl ρ2 H2 => match fl with
      | .next => ∃ j, j < k ∧ I j ρ2 H2
      | .cont => ∃ j, j < k ∧ I j ρ2 H2
      | .brk => Q .next ρ2 H2
      | .ret v => Q (.ret v) ρ2 H2) ρ H1 else Q .next ρ H1) ρ H) : ∀ (n k : Nat), k < n → ∀ (ρ : AEnv) (H : AH), I k ρ H → whileN t body Q n ρ H
  | 0, k, hk, _, _, _ => absurd hk (Nat.not_lt_zero _)
  | n + 1, k, hk, ρ, H, hi => by
    refine mt _ _ _ _ (fun r H1 q1 => ?_) (step k ρ H hi)
    cases r with
    | false => simpa using q1
    | true =>
      simp only [if_true] at q1 ⊢
      refine mb _ _ _ _ (fun fl ρ2 H2 q2 => ?_) q1
      cases fl with
      | next => obtain ⟨j, hj, q2⟩ := q2; exact whileN_inv mt mb I step n j (by omega) ρ2 H2 q2
      | cont => obtain ⟨j, hj, q2⟩ := q2; exact whileN_inv mt mb I step n j (by omega) ρ2 H2 q2
      | brk => exact q2
      | ret v => exact q2
theorem while_inv {t : AT} {body : AS} {Q : Fl → AEnv → AH → Prop} {ρ : AEnv} {H : AH} (mt : MonoT t) (mb : MonoS body) (I : Nat → AEnv → AH → Prop) (k : Nat) (hi : I k ρ H)
    (step : ∀ k ρ H, I k ρ H → t (fun r H1 => if r then body (fun fl ρ2 H2 => match fl with
      | .next => ∃ j, j < k ∧ I j ρ2 H2
      | .cont => ∃ j, j < k ∧ I j ρ2 H2
      | .brk => Q .next ρ2 H2
      | .ret v => Q (.ret v) ρ2 H2) ρ H1 else Q .next ρ H1) ρ H) : sWhile t body Q ρ H := ⟨k + 1, whileN_inv mt mb I step (k + 1) k (Nat.lt_succ_self _) ρ H hi⟩
theorem mf_fn {ks : List Nat} {b : AS} (hb : MonoS b) : MonoF (aFn ks b) := fun ps Q Q' H h q => ⟨q.1, hb _ _ _ _ (fun fl ρ1 H1 q1 => by
  cases fl with
  | next => exact h _ _ q1
  | brk => exact q1
  | cont => exact q1
  | ret p => exact h _ _ q1) q.2⟩

-- comprehensions
def Keep (H H' : AH) : Prop := ∀ a x, H a = some x → H' a = some x
theorem Keep.refl {H : AH} : Keep H H := fun _ _ h => h
theorem Keep.trans {H H' H'' : AH} (h : Keep H H') (k : Keep H' H'') : Keep H H'' := fun a x q => k a x (h a x q)
theorem Keep.upd {H H' : AH} {a : Nat} {y : LO} (h : Keep H H') (ha : H a = none) : Keep H (upd H' a y) := fun b x q => by
  have : b ≠ a := by rintro rfl; rw [ha] at q; cases q
  rw [upd_other _ _ this]; exact h b x q
theorem Keep.new {H : AH} {a : Nat} {y : LO} (ha : H a = none) : Keep H (Mine.upd H a y) := Keep.refl.upd ha
theorem ne_new {H : AH} {a b : Nat} {x : LO} (h : H b = some x) (ha : H a = none) : b ≠ a := by rintro rfl; rw [ha] at h; cases h

/-- a comprehension whose parts write nothing -/
theorem compL_run {g : ATg} {t : AT} {e : AE} {a : Nat} {G Q : AH → Prop} (mg : MonoG g) (mt : MonoT t) (me : MonoE e) (J : AEnv → Prop) (val : PV → Option PV) {H₀ : AH} (h0 : H₀ a = none) (hG : ∀ H, Keep H₀ H → G H) : ∀ (items : List PV),
    (∀ p ∈ items, ∀ ρ H acc, J ρ → Keep H₀ H → H a = some ⟨acc, true⟩ → g p (fun ρ1 H1 => t (fun b H2 => if b then e (fun v H3 => J ρ1 ∧ Keep H₀ H3 ∧ H3 a = some ⟨acc, true⟩ ∧ val p = some v) ρ1 H2 else J ρ1 ∧ Keep H₀ H2 ∧ H2 a = some ⟨acc, true⟩ ∧ val p = none) ρ1 H1) ρ H) →
    ∀ (acc : List PV) (ρ : AEnv) (H : AH), J ρ → Keep H₀ H → H a = some ⟨acc, true⟩ → acc.length + items.length ≤ 16777216 → (∀ H', Keep H₀ H' → H' a = some ⟨acc ++ items.filterMap val, true⟩ → Q H') → compL g t e a G Q items ρ H
  | [], hst, acc, ρ, H, hJ, hK, hA, hl, hQ => hQ H hK (by simpa using hA)
  | p :: ps, hst, acc, ρ, H, hJ, hK, hA, hl, hQ => by
    have hst' := fun q hq => hst q (.tail _ hq)
    simp only [List.length_cons] at hl
    refine mg _ _ _ _ _ (fun ρ1 H1 q1 => mt _ _ _ _ (fun b H2 q2 => ?_) q1) (hst p (.head _) ρ H acc hJ hK hA)
    cases b with
    | false =>
      simp only [Bool.false_eq_true, if_false] at q2 ⊢
      obtain ⟨j, k, l, m⟩ := q2
      exact ⟨hG _ k, compL_run mg mt me J val h0 hG ps hst' acc ρ1 H2 j k l (by omega) fun H' k' l' => hQ H' k' (by rw [l', List.filterMap_cons, m])⟩
    | true =>
      simp only [if_true] at q2 ⊢
      refine me _ _ _ _ (fun v H3 q3 => ?_) q2
      obtain ⟨j, k, l, m⟩ := q3
      simp only [fAppend, withOwn, l]
      have kk : Keep H₀ (upd H3 a ⟨acc ++ [v], true⟩) := k.upd h0
      refine ⟨trivial, by simp only [szOk]; omega, hG _ kk, compL_run mg mt me J val h0 hG ps hst' (acc ++ [v]) ρ1 _ j kk (upd_same _ _ _) (by simp; omega) fun H' k' l' => hQ H' k' (by rw [l', List.filterMap_cons, m]; simp)⟩
/-- from the source's items -/
theorem aComp_run {ks : List Nat} {g : ATg} {src : AE} {t : AT} {e : AE} {Q : PV → AH → Prop} {ρ : AEnv} {H : AH} (mg : MonoG g) (mt : MonoT t) (me : MonoE e) (ms : MonoE src)
    (h : src (fun p H1 => withItems p (fun items G H2 => ∃ (J : AEnv → Prop) (val : PV → Option PV), (∀ H', Keep H2 H' → G H') ∧ J (capt ks ρ) ∧ items.length ≤ 16777216 ∧
      (∀ p ∈ items, ∀ ρ' H', J ρ' → Keep H2 H' → g p (fun ρ1 H1 => t (fun b H4 => if b then e (fun v H3 => J ρ1 ∧ (∀ b x, H' b = some x → H3 b = some x) ∧ val p = some v) ρ1 H4 else J ρ1 ∧ (∀ b x, H' b = some x → H4 b = some x) ∧ val p = none) ρ1 H1) ρ' H') ∧
      ∀ a H', H2 a = none → Keep H2 H' → H' a = some ⟨items.filterMap val, true⟩ → Q (.ref a) H') H1) ρ H) : aComp ks g src t e Q ρ H := by
  refine ms _ _ _ _ (fun p H1 q1 => withItems_mono (fun items G H2 ⟨J, val, hG, hJ, hl, hst, hQ⟩ a ha => ?_) q1) h
  refine ⟨hG _ (Keep.new ha), compL_run mg mt me J val ha hG items (fun p hp ρ' H' acc j k l => ?_) [] _ _ hJ (Keep.new ha) (upd_same _ _ _) (by simpa using hl) fun H' k' l' => hQ a H' ha k' (by simpa using l')⟩
  refine mg _ _ _ _ _ (fun ρ1 H1 q1 => mt _ _ _ _ (fun b H2 q2 => ?_) q1) (hst p hp ρ' H' j k)
  cases b with
  | false => simp only [Bool.false_eq_true, if_false] at q2 ⊢; exact ⟨q2.1, fun b x hx => q2.2.1 b x (k b x hx), q2.2.1 a _ l, q2.2.2⟩
  | true =>
    simp only [if_true] at q2 ⊢
    exact me _ _ _ _ (fun v H3 q3 => ⟨q3.1, fun b x hx => q3.2.1 b x (k b x hx), q3.2.1 a _ l, q3.2.2⟩) q2
end Mine
open PySem PySem.W PySem.Calls PyProof.Rows
set_option Elab.async false
namespace Mine
theorem occ_one (ch : Nat) (x : List Nat) : occIn [ch] x = decide (ch ∈ x) := by
  unfold occIn
  have := StrLaws.found_one ⟨x.toArray⟩ ch
  simpa [str_len] using this
/-- what a function leaves: the old lists as they were -/
theorem Keep.at {H H' : AH} {a : Nat} {x : LO} (k : Keep H H') (h : H a = some x) : H' a = some x := k a x h
theorem Keep.none {H H' : AH} {a : Nat} (k : Keep H H') (h : H' a = Option.none) : H a = Option.none := by
  cases hq : H a with
  | none => rfl
  | some x => rw [k a x hq] at h; cases h
theorem nth_zero {α : Type} (x : α) (xs : List α) : nth (x :: xs) 0 = some x := by simp [nth]
theorem nth_one {α : Type} (x y : α) (xs : List α) : nth (x :: y :: xs) 1 = some y := by simp [nth]
theorem nth_two {α : Type} (x y z : α) (xs : List α) : nth (x :: y :: z :: xs) 2 = some z := by simp [nth]
theorem nth_last {α : Type} (xs : List α) : nth xs (-1) = xs.getLast? := by
  unfold nth
  rw [if_neg (by decide)]
  cases xs with
  | nil => simp
  | cons x xs =>
    rw [if_pos (by simp; omega), List.getLast?_eq_getElem?]
    congr 1
    simp; omega
theorem nth_of {α : Type} {xs : List α} {i : Int} {k : Nat} {x : α} (h : i = k) (hx : xs[k]? = some x) : nth xs i = some x := by
  subst h
  unfold nth
  rw [if_pos (Int.natCast_nonneg _)]; simpa using hx
theorem capt_in {ks : List Nat} {ρ : AEnv} {k : Nat} (h : ks.contains k = true) : capt ks ρ k = ρ k := by unfold capt; rw [if_pos h]
theorem rng_len (lo hi : Int) : (rngItems lo hi).length = (hi - lo).toNat := by simp [rngItems]
theorem rng_mem {lo hi : Int} {p : PV} (h : p ∈ rngItems lo hi) : ∃ k : Nat, p = .int (lo + k) ∧ lo + k < hi := by
  unfold rngItems at h
  obtain ⟨k, hk, rfl⟩ := List.mem_map.mp h
  rw [List.mem_range] at hk
  exact ⟨k, rfl, by omega⟩
theorem eq_int (x y : Int) (Q : Bool → AH → Prop) (H : AH) : cmpEq (.int x) (.int y) Q H = Q (decide (x = y)) H := rfl
theorem eq_str (x y : List Nat) (Q : Bool → AH → Prop) (H : AH) : cmpEq (.str x) (.str y) Q H = Q (decide (x = y)) H := rfl
theorem eq_bool (x y : Bool) (Q : Bool → AH → Prop) (H : AH) : cmpEq (.bool x) (.bool y) Q H = Q (decide (x = y)) H := rfl
/-- one statement at a time: what follows stays behind a name -/
def after (b : AS) (Q : Fl → AEnv → AH → Prop) : Fl → AEnv → AH → Prop := fun fl ρ1 H1 => match fl with | .next => b Q ρ1 H1 | fl => Q fl ρ1 H1
theorem seq {a b : AS} {Q : Fl → AEnv → AH → Prop} {ρ : AEnv} {H : AH} (h : a (after b Q) ρ H) : sCons a b Q ρ H := h
theorem after_next {b : AS} {Q : Fl → AEnv → AH → Prop} {ρ : AEnv} {H : AH} (h : b Q ρ H) : after b Q .next ρ H := h
theorem after_ret {b : AS} {Q : Fl → AEnv → AH → Prop} {ρ : AEnv} {H : AH} {p : PV} (h : Q (.ret p) ρ H) : after b Q (.ret p) ρ H := h
/-- a function's end -/
def endF (Q : PV → AH → Prop) : Fl → AEnv → AH → Prop := fun fl _ H' => match fl with
  | .ret p => Q p H'
  | .next => Q .none H'
  | .brk => False
  | .cont => False
theorem fn {ks : List Nat} {b : AS} {ps : List PV} {Q : PV → AH → Prop} {H : AH} (hl : ps.length = ks.length) (h : b (endF Q) (bindP ks ps) H) : aFn ks b ps Q H := ⟨hl, h⟩
theorem end_ret {Q : PV → AH → Prop} {p : PV} {ρ : AEnv} {H : AH} (h : Q p H) : endF Q (.ret p) ρ H := h
end Mine
open PySem PySem.W PySem.Calls PyProof.Rows
set_option Elab.async false
namespace Mine
def freeChk (q : Program) (loose : List Str) (x : Str) : Bool := !(startupNames.contains x) && !(loose.contains x) && !(((recsOf q).map (·.name)).contains x) && !(((litsOf q).map (·.1)).contains x) && !(((clssOf q loose).map (·.name)).contains x)
theorem free_of {c : Cx} {q : Program} {loose : List Str} (hq : c.q = q) (hl : c.loose = looseW q loose) {x : Str} (h : freeChk q (looseW q loose) x = true) : c.mg x = none := by
  rw [← hl, ← hq] at h
  simp only [freeChk, Bool.and_eq_true, Bool.not_eq_true', List.contains_eq_mem, decide_eq_false_iff_not] at h
  obtain ⟨⟨⟨⟨h1, h2⟩, h3⟩, h4⟩, h5⟩ := h
  exact c.top.free x h1 h2 h3 h4 h5
theorem mem_rec {c : Cx} {q : Program} {d : DefRec} {i : Nat} (hq : c.q = q) (h : (recsOf q)[i]? = some d) : d ∈ recsOf c.q := by rw [hq]; exact List.mem_of_getElem? h
end Mine
open PySem PySem.W PySem.Calls PyProof.Rows
set_option Elab.async false
set_option linter.unusedVariables false
namespace Mine

-- generators: their own run, with no list in sight
abbrev H0 : AH := fun _ => none
theorem St.alone {base : Heap} {H : AH} {s : Shared} (S : St base H s) : St base H0 s := ⟨⟨S.hr.keep, fun _ _ h => (nomatch h), fun _ _ h => (nomatch h)⟩, S.bare⟩

/-- an object that others may hold -/
def shr (o : Obj) : Prop := (∃ vs n, o.data = .seq vs n) ∨ ((o.cls = .type "range" ∨ o.cls = .type "generator") ∧ ∃ vs, o.data = .fields vs)
theorem imm_shr {h : Heap} {a : Addr} {o : Obj} (x : Imm h a o) : shr o := by
  rcases x.2 with q | q
  · exact .inl q.2
  · exact .inr ⟨.inl q.1, q.2⟩
structure Kp (z : Nat) (s s' : Shared) : Prop where
  keep : ∀ a o, s.heap.get? a = some o → (a < z ∨ shr o) → s'.heap.get? a = some o
  size : s.heap.objs.size ≤ s'.heap.objs.size
  gens : ∀ (i : Nat) (g : GenState), s.gens[i]? = some g → s'.gens[i]? = some g
  gsize : s.gens.size ≤ s'.gens.size
  os : s'.os = s.os
theorem Kp.refl {z : Nat} {s : Shared} : Kp z s s := ⟨fun _ _ h _ => h, Nat.le_refl _, fun _ _ h => h, Nat.le_refl _, rfl⟩
theorem Kp.trans {z : Nat} {s s' s'' : Shared} (k : Kp z s s') (l : Kp z s' s'') : Kp z s s'' :=
  ⟨fun a o h q => l.keep a o (k.keep a o h q) q, Nat.le_trans k.size l.size, fun i g h => l.gens i g (k.gens i g h), Nat.le_trans k.gsize l.gsize, l.os.trans k.os⟩
theorem Kp.imm {z : Nat} {s s' : Shared} (k : Kp z s s') : ∀ a o, Imm s.heap a o → s'.heap.get? a = some o := fun a o h => k.keep a o h.1 (.inr (imm_shr h))
theorem Kp.st {z : Nat} {base : Heap} {H : AH} {s s' : Shared} (k : Kp z s s') (S : St base H s) (S' : St base H0 s') : St base H s' :=
  ⟨⟨S'.hr.keep, fun a x h => by
    obtain ⟨vs, n, hl, hv⟩ := S.hr.list a x h
    exact ⟨vs, n, k.keep a _ hl (.inr (.inl ⟨_, _, rfl⟩)), hv.mono k.imm⟩, S.hr.new⟩, S'.bare⟩
theorem Kp.of_ext {z : Nat} {X : Nat → Prop} {s s' : Shared} (e : Ext X No H0 s H0 s') (hX : ∀ a, X a → z ≤ a ∧ ∀ o, s.heap.get? a = some o → ¬ shr o) : Kp z s s' :=
  ⟨fun a o h q => e.keep a o h (fun hx => by
    rcases q with q | q
    · exact absurd q (Nat.not_lt.mpr (hX a hx).1)
    · exact (hX a hx).2 o h q) (fun _ h => (nomatch h)), e.size, fun i g h => e.gens i g h (fun h => h), e.gsize, e.os⟩

/-- the generator's own objects -/
def Pv (z : Nat) (pv : List Nat) (s : Shared) : Prop := ∀ a ∈ pv, z ≤ a ∧ ∃ o, s.heap.get? a = some o ∧ ¬ shr o
def Kc (base : Heap) (pv : List Nat) (s s' : Shared) : Prop := (∀ a ∈ pv, ∀ o, s.heap.get? a = some o → s'.heap.get? a = some o) ∧ (∀ b o, Imm s.heap b o → s'.heap.get? b = some o) ∧ St base H0 s'
theorem Pv.kc {z : Nat} {base : Heap} {pv : List Nat} {s s' : Shared} (p : Pv z pv s) (k : Kc base pv s s') : Pv z pv s' := fun a ha => let ⟨h1, o, h2, h3⟩ := p a ha; ⟨h1, o, k.1 a ha o h2, h3⟩

def Yg (c : Cx) (z : Nat) (tot : List PV) : Protocol := fun n s₀ v s' kap => ∃ p pv, tot.reverse[n]? = some p ∧ VRel s'.heap v p ∧ Kp z s₀ s' ∧ St c.base H0 s' ∧ Pv z pv s' ∧ ∀ s'', Kc c.base pv s' s'' → kap (.send .none) s''
def Rg (c : Cx) (z : Nat) : GenEnd := fun n s₀ r s₁ => r = .ok (.ret .none) ∧ (n = 0 ∧ Kp z s₀ s₁ ∧ St c.base H0 s₁)
abbrev SegG (c : Cx) (A : Around) (z : Nat) (tot : List PV) := Seg (model c.prog c.w) A (Rg c z) (Yg c z tot)

structure GAt (c : Cx) (z : Nat) (env : Env) (ρ : AEnv) (rst : List Nat) (s₀ s : Shared) : Prop where
  er : ER c.base c.N env ρ s.heap
  st : St c.base H0 s
  kp : Kp z s₀ s
  pv : Pv z (env.locals :: rst) s
  ne : env.locals ∉ rst
  nb : ∀ a, z ≤ a → c.base.get? a = none

structure GOk (n : Nat) (A : Around) (cd : Code) (fs : List Frame) (sc : SE) (env : Env) : Prop where
  room : AOk n (A.over cd fs)
  sp : splitAtGen fs = none
  gd : fs.any Frame.guarded = false
  ok : EOk sc env
  nc : env.cells = []
  co : sc.isCoroutine = false

abbrev AG := (Fl → AEnv → List PV → Prop) → AEnv → List PV → Prop
def SoundGB (c : Cx) (n : Nat) (sc : SE) (sts : List Stmt) (a : AG) : Prop := ∀ (A : Around) (env : Env) (ρ : AEnv) (l tot : List PV) (z : Nat) (rst : List Nat) (s₀ s : Shared) (cd : Code) (fs : List Frame) (K : Flow → Sem Fin) (Hx : Value → Sem Fin) (gd : Bool → Bool) (lv : List Value → List Value) (Q : Fl → AEnv → List PV → Prop),
  GOk n A cd fs sc env → gd false = false → GAt c z env ρ rst s₀ s → l <:+ tot → a Q ρ l →
  (∀ fl f ρ' l' s₀' s', FRel s'.heap f fl → GAt c z env ρ' rst s₀' s' → (∀ a ∈ rst, ∀ o, s.heap.get? a = some o → s'.heap.get? a = some o) → l' <:+ tot → Q fl ρ' l' → SegG c A z tot l'.length s₀' cd (K f) fs s') →
  SegG c A z tot l.length s₀ cd ((execs sts env).wrap K Hx gd lv) fs s
def SoundGS (c : Cx) (n : Nat) (sc : SE) (st : Stmt) (a : AG) : Prop := ∀ (A : Around) (env : Env) (ρ : AEnv) (l tot : List PV) (z : Nat) (rst : List Nat) (s₀ s : Shared) (cd : Code) (fs : List Frame) (K : Flow → Sem Fin) (Hx : Value → Sem Fin) (gd : Bool → Bool) (lv : List Value → List Value) (Q : Fl → AEnv → List PV → Prop),
  GOk n A cd fs sc env → gd false = false → GAt c z env ρ rst s₀ s → l <:+ tot → a Q ρ l →
  (∀ fl f ρ' l' s₀' s', FRel s'.heap f fl → GAt c z env ρ' rst s₀' s' → (∀ a ∈ rst, ∀ o, s.heap.get? a = some o → s'.heap.get? a = some o) → l' <:+ tot → Q fl ρ' l' → SegG c A z tot l'.length s₀' cd (K f) fs s') →
  SegG c A z tot l.length s₀ cd ((exec st env).wrap K Hx gd lv) fs s

section
variable {c : Cx} {n : Nat} {sc : SE} {z : Nat} {env : Env} {ρ : AEnv} {rst : List Nat} {s₀ s : Shared}
theorem dict_shr {h : Heap} {a : Addr} {m : Str → Option Value} (hn : h.Ns a m) : ∃ o, h.get? a = some o ∧ ¬ shr o := by
  obtain ⟨o, es, ep, ho, hd, _⟩ := hn
  refine ⟨o, ho, ?_⟩
  rintro (⟨vs, n, q⟩ | ⟨_, vs, q⟩) <;> rw [hd] at q <;> cases q
theorem own_only (hc : env.cells = []) {a : Nat} (h : Own env a) : a = env.locals := by
  rcases h with h | ⟨_, x, hx⟩
  · exact h
  · rw [hc] at hx; cases hx
/-- on from a step of the generator's own -/
theorem GAt.step {ρ' : AEnv} {s' : Shared} (g : GAt c z env ρ rst s₀ s) (hc : env.cells = []) (R : ER c.base c.N env ρ' s'.heap) (S : St c.base H0 s') (e : Ext (Own env) No H0 s H0 s') : GAt c z env ρ' rst s₀ s' ∧ ∀ a ∈ rst, ∀ o, s.heap.get? a = some o → s'.heap.get? a = some o := by
  have hk : ∀ a ∈ rst, ∀ o, s.heap.get? a = some o → s'.heap.get? a = some o := fun a ha o ho => e.keep a o ho (fun q => g.ne (own_only hc q ▸ ha)) (fun _ h => (nomatch h))
  refine ⟨⟨R, S, g.kp.trans (Kp.of_ext e fun a ha => ?_), fun a ha => ?_, g.ne, g.nb⟩, hk⟩
  · have := own_only hc ha
    subst this
    obtain ⟨h1, o, h2, h3⟩ := g.pv env.locals (.head _)
    exact ⟨h1, fun o' ho' => by rw [h2] at ho'; cases ho'; exact h3⟩
  · obtain ⟨h1, o, h2, h3⟩ := g.pv a ha
    rcases List.mem_cons.mp ha with rfl | hr
    · obtain ⟨m, hm, _⟩ := R.names
      exact ⟨h1, dict_shr hm⟩
    · exact ⟨h1, o, hk a hr o h2, h3⟩
theorem GAt.step0 {s' : Shared} (g : GAt c z env ρ rst s₀ s) (hc : env.cells = []) (S : St c.base H0 s') (e : Ext No No H0 s H0 s') : GAt c z env ρ rst s₀ s' ∧ ∀ a ∈ rst, ∀ o, s.heap.get? a = some o → s'.heap.get? a = some o :=
  g.step hc (g.er.ext0 g.st e) S e.of_no
/-- on from a halt -/
theorem GAt.again {s' : Shared} (g : GAt c z env ρ rst s₀ s) (hc : env.cells = []) (k : Kc c.base (env.locals :: rst) s s') : GAt c z env ρ rst s' s' := by
  refine ⟨⟨?_, ?_, g.er.apart, g.er.new, g.er.cnew⟩, k.2.2, .refl, g.pv.kc k, g.ne, g.nb⟩
  · obtain ⟨m, hn, hm⟩ := g.er.names
    refine ⟨m, ?_, fun i p hi => ?_⟩
    · obtain ⟨o, es, ep, ho, r⟩ := id hn
      exact ⟨o, es, ep, k.1 _ (.head _) o ho, r⟩
    · obtain ⟨x, v, h1, h2, h3⟩ := hm i p hi
      refine ⟨x, v, h1, h2.mono k.2.1, ?_⟩
      rcases h3 with h3 | ⟨_, cc, h4, _⟩
      · exact .inl h3
      · rw [hc] at h4; cases h4
  · intro x cc hx; rw [hc] at hx; cases hx

def gNil : AG := fun Q ρ l => Q .next ρ l
def gCons (a b : AG) : AG := fun Q ρ l => a (fun fl ρ1 l1 => match fl with | .next => b Q ρ1 l1 | fl => Q fl ρ1 l1) ρ l
def gLift (a : AS) : AG := fun Q ρ l => a (fun fl ρ1 H1 => H1 = H0 ∧ Q fl ρ1 l) ρ H0
def gYield (e : AE) : AG := fun Q ρ l => l ≠ [] ∧ e (fun p H1 => H1 = H0 ∧ ∃ l', l = p :: l' ∧ Q .next ρ l') ρ H0
def gIf (t : AT) (a b : AG) : AG := fun Q ρ l => t (fun k H1 => H1 = H0 ∧ if k then a Q ρ l else b Q ρ l) ρ H0

theorem g_nil : SoundGB c n sc [] gNil := by
  intro A env ρ l tot z rst s₀ s cd fs K Hx gd lv Q ok hgd g hl q k
  exact seg_execs_nil (k .next .next ρ l s₀ s .next g (fun _ _ _ h => h) hl q)
theorem g_cons {st : Stmt} {sts : List Stmt} {a b : AG} (ha : SoundGS c n sc st a) (hb : SoundGB c n sc sts b) : SoundGB c n sc (st :: sts) (gCons a b) := by
  intro A env ρ l tot z rst s₀ s cd fs K Hx gd lv Q ok hgd g hl q k
  refine seg_execs_cons (ha A env ρ l tot z rst s₀ s cd fs _ Hx gd lv _ ok hgd g hl q fun fl f ρ' l' s₀' s' hf g' hr hl' q' => ?_)
  cases hf with
  | next => exact hb A env ρ' l' tot z rst s₀' s' cd fs K Hx gd lv Q ok hgd g' hl' q' fun fl f ρ2 l2 s2 s3 hf g2 hr2 hl2 q2 => k fl f ρ2 l2 s2 s3 hf g2 (fun a ha o ho => hr2 a ha o (hr a ha o ho)) hl2 q2
  | brk => exact k .brk .brk ρ' l' s₀' s' .brk g' hr hl' q'
  | cont => exact k .cont .cont ρ' l' s₀' s' .cont g' hr hl' q'
  | ret hv => exact k (.ret _) (.ret _) ρ' l' s₀' s' (.ret hv) g' hr hl' q'
theorem g_lift {st : Stmt} {a : AS} (ha : SoundS c n sc st a) : SoundGS c n sc st (gLift a) := by
  intro A env ρ l tot z rst s₀ s cd fs K Hx gd lv Q ok hgd g hl q k
  refine seg_wrap (wpAny_mono (ha (A.over cd fs) env ρ H0 s _ _ ok.room ok.ok g.er g.st q) (fun f s' ⟨fl, ρ1, H1, hf, R1, S1, e1, hH, q1⟩ => ?_) fun _ _ x => x)
  subst hH
  obtain ⟨g', hr⟩ := g.step ok.nc R1 S1 e1
  exact k fl f ρ1 l s₀ s' hf g' hr hl q1
theorem g_if {e : Expr} {body orelse : List Stmt} {pos : Pos} {t : AT} {a b : AG} (ht : SoundT c n sc e t) (ha : SoundGB c n sc body a) (hb : SoundGB c n sc orelse b) : SoundGS c n sc (.If e body orelse pos) (gIf t a b) := by
  intro A env ρ l tot z rst s₀ s cd fs K Hx gd lv Q ok hgd g hl q k
  rw [exec_If]
  show Seg _ _ _ _ _ _ _ (.at pos fun _ => ((isTrue e env (eval e env)) >>= fun r => if r = true then execs body env else execs orelse env).wrap K Hx gd lv) fs s
  refine seg_at ?_
  rw [Sem.bind_eq_wrap', Sem.wrap_wrap]
  refine seg_wrap (wpAny_mono (ht (A.over cd fs) env ρ H0 s _ _ ok.room ok.ok g.er g.st q) (fun r s' ⟨H1, S1, e1, hH, q1⟩ => ?_) fun _ _ x => x)
  subst hH
  obtain ⟨g', hr⟩ := g.step0 ok.nc S1 e1
  cases r with
  | true => exact ha A env ρ l tot z rst s₀ s' cd fs K Hx gd lv Q ok hgd g' hl q1 fun fl f ρ2 l2 s2 s3 hf g2 hr2 hl2 q2 => k fl f ρ2 l2 s2 s3 hf g2 (fun a ha o ho => hr2 a ha o (hr a ha o ho)) hl2 q2
  | false => exact hb A env ρ l tot z rst s₀ s' cd fs K Hx gd lv Q ok hgd g' hl q1 fun fl f ρ2 l2 s2 s3 hf g2 hr2 hl2 q2 => k fl f ρ2 l2 s2 s3 hf g2 (fun a ha o ho => hr2 a ha o (hr a ha o ho)) hl2 q2
theorem suf_at {p : PV} {l tot : List PV} (h : p :: l <:+ tot) : tot.reverse[l.length]? = some p ∧ l <:+ tot := by
  obtain ⟨pre, rfl⟩ := h
  refine ⟨by simp, ⟨pre ++ [p], by simp⟩⟩
theorem g_yield {e : Expr} {ypos pos : Pos} {a : AE} (ha : SoundE c n sc e a) : SoundGS c n sc (.Expr (.Yield (some e) ypos) pos) (gYield a) := by
  intro A env ρ l tot z rst s₀ s cd fs K Hx gd lv Q ok hgd g hl q k
  obtain ⟨m, hm⟩ : ∃ m, l.length = m := ⟨_, rfl⟩
  cases m with
  | zero =>
    exact absurd (List.length_eq_zero_iff.mp hm) q.1
  | succ m =>
    rw [hm]
    refine seg_Expr_Yield ok.sp hgd ok.gd (wpAny_mono (ha (A.over cd fs) env ρ H0 s _ _ ok.room ok.ok g.er g.st q.2) (fun v s' ⟨p, H1, hv, S1, e1, hH, l', hl', q1⟩ kap hkap => ?_) fun _ _ x => x) (by rw [ok.ok.scope]; exact ok.co) (no_inter ok.ok)
    subst hH hl'
    obtain ⟨g', hr⟩ := g.step0 ok.nc S1 e1
    have hm' : l'.length = m := by simpa using hm
    obtain ⟨h1, h2⟩ := suf_at hl
    refine ⟨p, env.locals :: rst, by rw [← hm']; exact h1, hv, g'.kp, S1, g'.pv, fun s'' kc => hkap .none s'' ?_⟩
    show Seg _ _ _ _ m s'' cd (K .next) fs s''
    rw [← hm']
    exact k .next .next ρ l' s'' s'' .next (g'.again ok.nc kc) (fun a ha o ho => kc.1 a (.tail _ ha) o (hr a ha o ho)) h2 q1
end
end Mine
open PySem PySem.W PySem.Calls PyProof.Rows
set_option Elab.async false
set_option linter.unusedVariables false
namespace Mine

def enumItems : Nat → List Nat → List PV
  | _, [] => []
  | i, ch :: x => .tup [.int i, .str [ch]] :: enumItems (i + 1) x
def forG (g : ATg) (b : AG) (Q : Fl → AEnv → List PV → Prop) : List PV → AEnv → List PV → Prop
  | [], ρ, l => Q .next ρ l
  | p :: ps, ρ, l => g p (fun ρ1 H1 => H1 = H0 ∧ b (fun fl ρ2 l2 => match fl with
      | .next => forG g b Q ps ρ2 l2
      | .cont => forG g b Q ps ρ2 l2
      | .brk => Q .next ρ2 l2
      | .ret v => Q (.ret v) ρ2 l2) ρ1 l) ρ H0
def gForEnum (g : ATg) (src : AE) (b : AG) : AG := fun Q ρ l => src (fun p H1 => H1 = H0 ∧ match p with
  | .str x => forG g b Q (enumItems 0 x) ρ l
  | _ => False) ρ H0

section
variable {c : Cx} {n : Nat} {sc : SE} {z : Nat} {env : Env} {tot : List PV} {A : Around} {fs : List Frame}

theorem draws_str {A : Around} (hh : A.handled = none) (it : Addr) (x : Str) (t : Tok) :
    Draws c.prog c.w A it [it] x.cps.size (fun i v => ∃ ch u, x.cps[i]? = some ch ∧ v = .str ⟨#[ch]⟩ u) (fun i h => h.IsStrIter it (strIterType x) x t i) := by
  unfold strIterType
  split
  · exact Draws.strAscii hh it x t
  · exact Draws.strWide hh it x t
theorem iter_shr {h : Heap} {a : Addr} {x : Str} {t : Tok} {i : Nat} (y : h.IsStrIter a (strIterType x) x t i) : ∃ o, h.get? a = some o ∧ ¬ shr o := by
  obtain ⟨o, ho, hc, hd⟩ := y
  refine ⟨o, ho, ?_⟩
  have : strIterType x = "str_ascii_iterator" ∨ strIterType x = "str_iterator" := by unfold strIterType; split <;> simp
  rintro (⟨vs, k, q⟩ | ⟨q | q, _⟩)
  · rw [hd] at q; cases q
  · rw [hc] at q; rcases this with e | e <;> rw [e] at q <;> simp at q
  · rw [hc] at q; rcases this with e | e <;> rw [e] at q <;> simp at q
theorem enum_shr {h : Heap} {e it : Addr} {i : Int} {o : Value} {a : Value} (y : h.get? e = some { cls := .type "enumerate", dict := none, data := .fields #[a, .bool false, .ref it, rawInt i, .none, o], slots := #[] }) : ∃ o, h.get? e = some o ∧ ¬ shr o := by
  refine ⟨_, y, ?_⟩
  rintro (⟨vs, k, q⟩ | ⟨q | q, _⟩)
  · cases q
  · simp at q
  · simp at q
theorem GAt.drop {ρ : AEnv} {rst : List Nat} {s₀ s : Shared} {e it : Addr} (g : GAt c z env ρ (e :: it :: rst) s₀ s) : GAt c z env ρ rst s₀ s :=
  ⟨g.er, g.st, g.kp, fun a ha => g.pv a (by
    rcases List.mem_cons.mp ha with rfl | ha
    · exact .head _
    · exact .tail _ (.tail _ (.tail _ ha))), fun h => g.ne (.tail _ (.tail _ h)), g.nb⟩
/-- a step that turns but two of the generator's own objects -/
theorem GAt.turn0 {ρ : AEnv} {rst : List Nat} {s₀ s : Shared} {e it : Addr} {h' : Heap} {tk : Nat} (g : GAt c z env ρ (e :: it :: rst) s₀ s) (hc : env.cells = []) (hk : ∀ b o, b ≠ e → b ≠ it → s.heap.get? b = some o → h'.get? b = some o) (hz : s.heap.objs.size ≤ h'.objs.size)
    (hr : e ∉ rst) (hr' : it ∉ rst) : GAt c z env ρ rst s₀ { s with heap := h', toks := tk } ∧ ∀ a ∈ rst, ∀ o, s.heap.get? a = some o → h'.get? a = some o := by
  have hK : Kp z s { s with heap := h', toks := tk } := ⟨fun a o h q => by
    have own : ∀ b, b ∈ e :: it :: rst → b ≠ a := by
      rintro b hb rfl
      obtain ⟨h1, o', h2, h3⟩ := g.pv b (.tail _ hb)
      rw [h] at h2; cases h2
      rcases q with q | q
      · exact absurd q (Nat.not_lt.mpr h1)
      · exact h3 q
    exact hk a o (own e (.head _)).symm (own it (.tail _ (.head _))).symm h, hz, fun _ _ h => h, Nat.le_refl _, rfl⟩
  have hL : ∀ o, s.heap.get? env.locals = some o → h'.get? env.locals = some o := fun o ho => hk _ _ (fun q => g.ne (q ▸ .head _)) (fun q => g.ne (q ▸ .tail _ (.head _))) ho
  have hR : ∀ a ∈ rst, ∀ o, s.heap.get? a = some o → h'.get? a = some o := fun a ha o ho => hk _ _ (fun q => hr (q ▸ ha)) (fun q => hr' (q ▸ ha)) ho
  have hbase : St c.base H0 { s with heap := h', toks := tk } := ⟨⟨fun b o h => by
    have own : ∀ b', b' ∈ e :: it :: rst → b' ≠ b := by
      rintro b' hb rfl
      obtain ⟨h1, o', h2, h3⟩ := g.pv b' (.tail _ hb)
      rw [g.nb b' h1] at h; cases h
    exact hk b o (own e (.head _)).symm (own it (.tail _ (.head _))).symm (g.st.hr.keep b o h), fun _ _ h => (nomatch h), fun _ _ h => (nomatch h)⟩, g.st.bare⟩
  refine ⟨⟨⟨?_, ?_, g.er.apart, g.er.new, g.er.cnew⟩, hbase, g.kp.trans hK, fun a ha => ?_, fun h => g.ne (.tail _ (.tail _ h)), g.nb⟩, hR⟩
  · obtain ⟨m, hn, hm⟩ := g.er.names
    refine ⟨m, ?_, fun i p hi => ?_⟩
    · obtain ⟨o, es, ep, ho, r⟩ := id hn
      exact ⟨o, es, ep, hL o ho, r⟩
    · obtain ⟨x, v, h1, h2, h3⟩ := hm i p hi
      refine ⟨x, v, h1, h2.mono hK.imm, ?_⟩
      rcases h3 with h3 | ⟨_, cc, h4, _⟩
      · exact .inl h3
      · rw [hc] at h4; cases h4
  · intro x cc hx; rw [hc] at hx; cases hx
  · rcases List.mem_cons.mp ha with rfl | ha
    · obtain ⟨h1, o, h2, h3⟩ := g.pv env.locals (.head _)
      exact ⟨h1, o, hL o h2, h3⟩
    · obtain ⟨h1, o, h2, h3⟩ := g.pv a (.tail _ (.tail _ (.tail _ ha)))
      exact ⟨h1, o, hR a ha o h2, h3⟩
theorem GAt.turn {ρ : AEnv} {rst : List Nat} {s₀ s : Shared} {e it : Addr} {h' : Heap} {tk : Nat} (g : GAt c z env ρ (e :: it :: rst) s₀ s) (hc : env.cells = []) (hk : ∀ b o, b ≠ e → b ≠ it → s.heap.get? b = some o → h'.get? b = some o) (hz : s.heap.objs.size ≤ h'.objs.size)
    (he : ∃ o, h'.get? e = some o ∧ ¬ shr o) (hi : ∃ o, h'.get? it = some o ∧ ¬ shr o) (hr : e ∉ rst) (hr' : it ∉ rst) : GAt c z env ρ (e :: it :: rst) s₀ { s with heap := h', toks := tk } ∧ ∀ a ∈ rst, ∀ o, s.heap.get? a = some o → h'.get? a = some o := by
  obtain ⟨g', hR⟩ := g.turn0 (tk := tk) hc hk hz hr hr'
  refine ⟨⟨g'.er, g'.st, g'.kp, fun a ha => ?_, g.ne, g.nb⟩, hR⟩
  rcases List.mem_cons.mp ha with rfl | ha
  · exact g'.pv _ (.head _)
  · rcases List.mem_cons.mp ha with rfl | ha
    · exact ⟨(g.pv a (.tail _ (.head _))).1, he⟩
    · rcases List.mem_cons.mp ha with rfl | ha
      · exact ⟨(g.pv a (.tail _ (.tail _ (.head _)))).1, hi⟩
      · exact g'.pv _ (.tail _ ha)

theorem drop_cons {x : List Nat} {i : Nat} {ch : Nat} (h : x.toArray[i]? = some ch) : enumItems i (x.drop i) = .tup [.int i, .str [ch]] :: enumItems (i + 1) (x.drop (i + 1)) := by
  have h' : x[i]? = some ch := by simpa using h
  obtain ⟨hi, e⟩ := List.getElem?_eq_some_iff.mp h'
  rw [List.drop_eq_getElem_cons hi, e]; rfl

def turnOn (tg : Expr) (it : Value) (body : List Stmt) (env : Env) : Option Value → Sem Fin
  | none => again (.block [] env)
  | some v => letOwnedTupleGo tg it v >>= fun _ => assign tg env v >>= fun _ => execs body env >>= fun f => match f with
    | .next => again (.forLoop tg it body [] env)
    | .cont => again (.forLoop tg it body [] env)
    | .brk => pure (.done .next)
    | .ret v => pure (.done (.ret v))
theorem forTurn_eq (tg : Expr) (it : Value) (body : List Stmt) (env : Env) : forTurn tg it body [] env = Sem.at tg.pos fun _ => ((pyNext it).onRaise (fun _ => standAt { tg.pos with line := 0 })) >>= turnOn tg it body env := by
  unfold forTurn turnOn
  show (Sem.at _ fun _ => _) = _
  congr 1

theorem loop_enum {elts : List Expr} {kk : Nat} {tpos : Pos} {g : ATg} {body : List Stmt} {b : AG} {e it : Addr} {x : List Nat} {t : Tok} {rst : List Nat} {Q : Fl → AEnv → List PV → Prop} {sS : Shared} (hg : SoundA c n sc (.Tuple elts kk tpos) g) (hb : SoundGB c n sc body b)
    (hx : ∀ ch ∈ x, ch < 0x110000) (hei : e ≠ it) (her : e ∉ rst) (hir : it ∉ rst) (ok : GOk n A (.forLoop (.Tuple elts kk tpos) (.ref e) body [] env) fs sc env)
    (fin : ∀ cd fl f ρ' l' s₀' s', FRel s'.heap f fl → GAt c z env ρ' rst s₀' s' → (∀ a ∈ rst, ∀ o, sS.heap.get? a = some o → s'.heap.get? a = some o) → l' <:+ tot → Q fl ρ' l' → SegG c A z tot l'.length s₀' cd (leafOf (.ok f)) fs s') :
    ∀ (m i : Nat) (ρ : AEnv) (l : List PV) (s₀ s : Shared) (old : Value), x.length - i = m → i ≤ x.length → GAt c z env ρ (e :: it :: rst) s₀ s → (∀ a ∈ rst, ∀ o, sS.heap.get? a = some o → s.heap.get? a = some o) → IsEnum s.heap e it i old → s.heap.IsStrIter it (strIterType ⟨x.toArray⟩) ⟨x.toArray⟩ t i → l <:+ tot → forG g b Q (enumItems i (x.drop i)) ρ l →
    SegG c A z tot l.length s₀ (.forLoop (.Tuple elts kk tpos) (.ref e) body [] env) ((model c.prog c.w).den (.forLoop (.Tuple elts kk tpos) (.ref e) body [] env)) fs s := by
  intro m
  have hh : (A.over (.forLoop (.Tuple elts kk tpos) (.ref e) body [] env) fs).in1.handled = none := ok.room.handled
  have D := draws_str (c := c) (A := (A.over (.forLoop (.Tuple elts kk tpos) (.ref e) body [] env) fs).in1) hh it ⟨x.toArray⟩ t
  induction m with
  | zero =>
    intro i ρ l s₀ s old hm hi gat hr he hit hl q
    have hi' : i = x.length := by omega
    subst hi'
    show Seg _ _ _ _ _ _ _ ((forTurn (.Tuple elts kk tpos) (.ref e) body [] env).onRaise (fun x => do noteFrame x env; theTreesLotGoes x)) fs s
    rw [forTurn_eq, Sem.onRaise_eq_wrap]
    refine seg_at ?_
    show Seg _ _ _ _ _ _ _ (Sem.wrap _ _ _ _ (_ >>= turnOn _ _ _ _)) fs s
    rw [Sem.bind_eq_wrap', Sem.wrap_wrap]
    refine seg_wrap (wpAny_onRaise (wpAny_grow (wpAny_pyNext_enum_endD D he hit fun h' hs' gr => ?_)))
    show Seg _ _ _ _ _ _ _ (.pure (.again (.block [] env))) fs _
    refine seg_again rfl ?_
    show Seg _ _ _ _ _ _ _ (leafOf (.ok .next)) fs _
    obtain ⟨g1, r1⟩ := gat.turn0 (h' := h') (tk := s.toks) ok.nc (fun b o _ h2 h => hs' b o h2 h) gr.1 her hir
    rw [List.drop_length] at q
    exact fin _ .next .next ρ l s₀ _ .next g1 (fun a ha o ho => r1 a ha o (hr a ha o ho)) hl q
  | succ m ih =>
    intro i ρ l s₀ s old hm hi gat hr he hit hl q
    show Seg _ _ _ _ _ _ _ ((forTurn (.Tuple elts kk tpos) (.ref e) body [] env).onRaise (fun x => do noteFrame x env; theTreesLotGoes x)) fs s
    rw [forTurn_eq, Sem.onRaise_eq_wrap]
    refine seg_at ?_
    show Seg _ _ _ _ _ _ _ (Sem.wrap _ _ _ _ (_ >>= turnOn _ _ _ _)) fs s
    rw [Sem.bind_eq_wrap', Sem.wrap_wrap]
    refine seg_wrap (wpAny_onRaise (wpAny_pyNext_enum_itemD D he hit (by simp; omega) hei (by simpa using hei) fun v h' tk hP ho hit' hT hsz hk => ?_))
    obtain ⟨ch, u, hch, rfl⟩ := hP
    obtain ⟨g1, r1⟩ := gat.turn (h' := h') (tk := tk + 1) ok.nc hk (by omega) (enum_shr ho) (iter_shr hit') her hir
    show Seg _ _ _ _ _ _ _ (Sem.wrap _ _ _ _ (letOwnedTupleGo _ _ _ >>= _)) fs _
    rw [Sem.bind_eq_wrap', Sem.wrap_wrap]
    refine seg_wrap (wpAny_letOwnedTupleGo_enum ho fun h2 he2 hs2 => ?_)
    have hit2 : h2.IsStrIter it (strIterType ⟨x.toArray⟩) ⟨x.toArray⟩ t (i + 1) := by
      obtain ⟨o, h1, h3⟩ := hit'
      exact ⟨o, (hs2.2 it hei.symm).trans h1, h3⟩
    obtain ⟨g2, r2⟩ := g1.turn (h' := h2) (tk := tk + 1) ok.nc (fun b o h1 h2 h => (hs2.2 b h1).trans h) (Nat.le_of_eq hs2.1.symm) (enum_shr he2) (iter_shr hit2) her hir
    show Seg _ _ _ _ _ _ _ (Sem.wrap _ _ _ _ (assign _ _ _ >>= _)) fs _
    rw [Sem.bind_eq_wrap', Sem.wrap_wrap]
    rw [drop_cons hch] at q
    have hTe : s.heap.objs.size ≠ e := Nat.ne_of_gt (Heap.lt_size he)
    have hch' : ch < 0x110000 := hx ch (by
      have : x[i]? = some ch := by simpa using hch
      exact List.mem_of_getElem? this)
    have hv : VRel h2 (.ref s.heap.objs.size) (.tup [.int i, .str [ch]]) := .tup (vs := [.int i tk, .str ⟨#[ch]⟩ u]) (n := 0) ((hs2.2 _ hTe).trans hT) (.cons (.int _ _) (.one (.str [ch] u (by simpa using hch'))))
    refine seg_wrap (hg _ env ρ H0 _ _ (.tup [.int i, .str [ch]]) _ _ _ ok.room ok.ok g2.er g2.st hv q fun ρ3 H3 s3 R3 S3 e3 q3 => ?_)
    obtain ⟨rfl, q3⟩ := q3
    obtain ⟨g3, r3⟩ := g2.step ok.nc R3 S3 e3
    show Seg _ _ _ _ _ _ _ (Sem.wrap _ _ _ _ (execs _ _ >>= _)) fs _
    rw [Sem.bind_eq_wrap', Sem.wrap_wrap]
    refine hb A env ρ3 l tot z (e :: it :: rst) s₀ s3 _ fs _ _ _ _ _ ok rfl g3 hl q3 fun fl f ρ4 l4 s₀4 s4 hf g4 r4 hl4 q4 => ?_
    have rr : ∀ a ∈ rst, ∀ o, sS.heap.get? a = some o → s4.heap.get? a = some o := fun a ha o ho => r4 a (.tail _ (.tail _ ha)) o (r3 a (.tail _ (.tail _ ha)) o (r2 a ha o (r1 a ha o (hr a ha o ho))))
    have next : forG g b Q (enumItems (i + 1) (x.drop (i + 1))) ρ4 l4 → SegG c A z tot l4.length s₀4 (.forLoop (.Tuple elts kk tpos) (.ref e) body [] env) (.pure (.again (.forLoop (.Tuple elts kk tpos) (.ref e) body [] env))) fs s4 := by
      intro q5
      have he4 : IsEnum s4.heap e it ((i : Int) + 1) (.str ⟨#[ch]⟩ u) := r4 e (.head _) _ (r3 e (.head _) _ he2)
      have hit4 : s4.heap.IsStrIter it (strIterType ⟨x.toArray⟩) ⟨x.toArray⟩ t (i + 1) := by
        obtain ⟨o, h1, h3⟩ := hit2
        exact ⟨o, r4 it (.tail _ (.head _)) o (r3 it (.tail _ (.head _)) o h1), h3⟩
      exact seg_again rfl (ih (i + 1) ρ4 l4 s₀4 s4 (.str ⟨#[ch]⟩ u) (by omega) (by omega) g4 rr he4 hit4 hl4 q5)
    cases hf with
    | next => exact next q4
    | cont => exact next q4
    | brk => exact fin _ .next .next ρ4 l4 s₀4 s4 .next g4.drop rr hl4 q4
    | ret hv => exact fin _ (.ret _) (.ret _) ρ4 l4 s₀4 s4 (.ret hv) g4.drop rr hl4 q4
end
end Mine
open PySem PySem.W PySem.Calls PyProof.Rows
set_option Elab.async false
set_option linter.unusedVariables false
namespace Mine
section
variable {c : Cx} {n : Nat} {sc : SE} {z : Nat}

theorem bi_core {A : Around} {env : Env} {H : AH} {s : Shared} {E : Value → Shared → Prop} {QQ : Value → Shared → Prop} {name : Str} {T : String} {e : Expr} {es : List Expr} {p pos : Pos} (he : EOk sc env) (S : St c.base H s) (hm : c.mg name = none) (hb : bootBuiltins name = some (.type T)) (hn : name ≠ ("__name__" : Str)) (hk : sc.names.lookup name = some .globalImplicit)
    (args : wpAny (model c.prog c.w) A (spliced (backTo pos (starEach (e :: es) env))) (fun vs s1 => wpAny (model c.prog c.w) A (call (.type T) vs) QQ E s1) E s)
    (hd : (name == ("__debug__" : Str)) = false := by decide) (he' : ∀ env, starEach (e :: es) env = (false, eval e env) :: starEach es env := by intro _; rfl) (hp : ∀ env, (backTo pos (starEach es env)).any (·.1) = false := by intro _; rfl) : wpAny (model c.prog c.w) A (eval (.Call (.Name name p) (e :: es) [] pos) env) QQ E s := by
  have TT := c.top.keeps S.hr.keep
  refine Call_ (Name_function_global he.skind (by rw [he.kindOf]; exact hk) (loadGlobal_builtin (mg := c.mg) (mb := c.mb) (by rw [he.globals]; exact TT.g) hm (by rw [he.builtins]; exact TT.b) ((TT.builtins name hn).trans hb) ?_) hd)
  rw [he' env] at args ⊢
  exact PySem.callWith_type (by show (false || (backTo pos (starEach es env)).any (·.1)) = false; rw [hp env]; rfl) (evalArgs_plain args)

theorem over_loop {A : Around} {cd : Code} {fs : List Frame} {tg : Expr} {it : Value} {body : List Stmt} {env : Env} {k : Result → Sem Fin} {g : Bool} {l : List Value} {p : Pos} (h : AOk n (A.over cd fs)) : AOk n (A.over (.forLoop tg it body [] env) (.ret k none g l cd p [] :: fs)) := by
  refine ⟨?_, ?_, ?_⟩
  · exact h.handled
  · have := h.depth
    show A.depth + frameCount ((cd, p) :: fs.map Frame.where_) + 0 + n ≤ 900
    rw [frameCount_cons]
    have e : (A.over cd fs).depth = A.depth + frameCount (fs.map Frame.where_) + cd.weight := rfl
    omega
  · have := h.units
    show A.units + unitsOf ((cd, p) :: fs.map Frame.where_) + 0 + 10 * n ≤ 9000
    rw [unitsOf_cons]
    have e : (A.over cd fs).units = A.units + unitsOf (fs.map Frame.where_) + cd.cUnits := rfl
    omega

theorem g_for_enum {elts : List Expr} {kk : Nat} {tpos npos cpos pos : Pos} {e : Expr} {g : ATg} {src : AE} {body : List Stmt} {b : AG} (hs : SoundE c n sc e src) (hg : SoundA c n sc (.Tuple elts kk tpos) g) (hb : SoundGB c n sc body b)
    (hm : c.mg (Str.ofString "enumerate") = none) (hk : sc.names.lookup (Str.ofString "enumerate") = some .globalImplicit) (hbt : bootBuiltins (Str.ofString "enumerate") = some (.type "enumerate"))
    (hst : ∀ env, starEach [e] env = [(false, eval e env)] := by intro _; rfl) (hfs : ∀ env x, foldedSetIterable (.Call (.Name (Str.ofString "enumerate") npos) [e] [] cpos) env x = pure x := by intro _ _; rfl) :
    SoundGS c n sc (.For (.Tuple elts kk tpos) (.Call (.Name (Str.ofString "enumerate") npos) [e] [] cpos) body [] pos) (gForEnum g src b) := by
  intro A env ρ l tot z rst s₀ s cd fs K Hx gd lv Q ok hgd gat hl q k
  rw [exec_For]
  refine seg_at ?_
  show Seg _ _ _ _ _ _ _ (Sem.wrap _ _ _ _ (eval _ env >>= _)) fs s
  rw [Sem.bind_eq_wrap', Sem.wrap_wrap]
  refine seg_wrap (bi_core ok.ok gat.st hm hbt (by decide +kernel) hk ?_ (by decide +kernel) (fun env => hst env))
  refine seqL (F := fun ps H1 => match ps with | [p] => H1 = H0 ∧ (match p with | .str x => forG g b Q (enumItems 0 x) ρ l | _ => False) | _ => False) (list_cons hs list_nil (fun env => hst env)) ok.room ok.ok gat.er gat.st q fun vs ps H1 s1 hv R1 S1 e1 q1 => ?_
  cases hv with
  | nil => exact q1.elim
  | cons hv hr =>
    cases hr with
    | cons _ _ => exact q1.elim
    | nil =>
      obtain ⟨rfl, q1⟩ := q1
      cases hv with
      | str x t hx =>
        obtain ⟨g1, r1⟩ := gat.step0 ok.nc S1 e1
        refine call_enumerate_str fun h' he hit hsz hkk => ?_
        have hz : s1.heap.objs.size ≤ h'.objs.size := by omega
        obtain ⟨g2, r2⟩ := g1.step0 (s' := { s1 with heap := h' }) ok.nc (S1.of_keep (X := No) (tk := s1.toks) (fun b o _ h => hkk b o h) (fun _ h => h.elim) (fun _ h => h.elim) (fun _ h => h.elim)) (Ext.of_keep (tk := s1.toks) (fun b o _ h => hkk b o h) hz)
        have below : ∀ a ∈ env.locals :: rst, a < s1.heap.objs.size := fun a ha => by
          obtain ⟨_, o, ho, _⟩ := g1.pv a ha
          exact Heap.lt_size ho
        have hzL : z ≤ s1.heap.objs.size := Nat.le_of_lt (Nat.lt_of_le_of_lt (g1.pv env.locals (.head _)).1 (below _ (.head _)))
        have her : s1.heap.objs.size + 1 ∉ rst := fun h => Nat.lt_irrefl _ (Nat.lt_trans (Nat.lt_succ_self _) (below _ (.tail _ h)))
        have hir : s1.heap.objs.size ∉ rst := fun h => Nat.lt_irrefl _ (below _ (.tail _ h))
        have g3 : GAt c z env ρ ((s1.heap.objs.size + 1) :: s1.heap.objs.size :: rst) s₀ { s1 with heap := h' } := by
          refine ⟨g2.er, g2.st, g2.kp, fun a ha => ?_, fun h => ?_, g2.nb⟩
          · rcases List.mem_cons.mp ha with rfl | ha
            · exact g2.pv _ (.head _)
            · rcases List.mem_cons.mp ha with rfl | ha
              · exact ⟨by omega, enum_shr he⟩
              · rcases List.mem_cons.mp ha with rfl | ha
                · exact ⟨hzL, iter_shr hit⟩
                · exact g2.pv _ (.tail _ ha)
          · have hL := below _ (.head _)
            rcases List.mem_cons.mp h with h | h
            · rw [h] at hL; exact Nat.lt_irrefl _ (Nat.lt_trans (Nat.lt_succ_self _) hL)
            · rcases List.mem_cons.mp h with h | h
              · rw [h] at hL; exact Nat.lt_irrefl _ hL
              · exact g1.ne h
        show Seg _ _ _ _ _ _ _ (Sem.wrap _ _ _ _ (foldedSetIterable _ env _ >>= _)) fs _
        rw [hfs]
        refine seg_at ?_
        show Seg _ _ _ _ _ _ _ (Sem.wrap _ _ _ _ (holding _ _ >>= _)) fs _
        rw [Sem.bind_eq_wrap', Sem.wrap_wrap]
        refine seg_wrap (wpAny_holding (wpAny_pyIter_enum he ?_))
        refine seg_call fun p => ?_
        refine loop_enum (sS := { s1 with heap := h' }) (x := x) (t := t) (e := s1.heap.objs.size + 1) (it := s1.heap.objs.size) (rst := rst) (Q := Q) hg hb hx (Nat.succ_ne_self _) her hir ⟨over_loop ok.room, by simp [splitAtGen, ok.sp], by simp [Frame.guarded, hgd, ok.gd], ok.ok, ok.nc, ok.co⟩ (fun cd' fl f ρ' l' s₀' s' hf g' hr' hl' q' => ?_) x.length 0 ρ l s₀ _ .none (by omega) (by omega) g3 (fun _ _ _ h => h) he hit hl (by simpa using q1)
        exact seg_leaf (.ok f) (k fl f ρ' l' s₀' s' hf g' (fun a ha o ho => hr' a ha o (r2 a ha o (r1 a ha o ho))) hl' q')
      | _ => exact q1.elim
end
end Mine
open PySem PySem.W PySem.Calls PyProof.Rows
set_option Elab.async false
set_option linter.unusedVariables false
namespace Mine

def gFn (ks : List Nat) (b : AG) (ps tot : List PV) : Prop := ps.length = ks.length ∧ b (fun fl _ l => (fl = .next ∨ fl = .ret .none) ∧ l = []) (bindP ks ps) tot

/-- a generator that has yet to give l -/
structure GJ (c : Cx) (B : Around) (z : Nat) (tot : List PV) (I g : Nat) (l : List PV) (s : Shared) : Prop where
  isg : s.heap.IsGen I g
  suf : l <:+ tot
  go : ∃ gs pv, s.gens[g]? = some gs ∧ Pv z pv s ∧ ∀ s'', Kc c.base pv s s'' → gs.Goes (model c.prog c.w) B (Rg c z) (Yg c z tot) l.length (.send .none) s''

def GenF (c : Cx) (n : Nat) (name : Str) (ks : List Nat) (b : AG) : Prop := ∃ a o fd, c.mg name = some (.ref a) ∧ c.base.get? a = some o ∧ o.data = .func fd ∧
  ∀ (A : Around) (H : AH) (s : Shared) (vs : List Value) (ps tot : List PV) (QQ : Value → Shared → Prop) (E : Value → Shared → Prop), AOk (n + 1) A → VAll s.heap vs ps → St c.base H s → gFn ks b ps tot →
    (∀ I s', St c.base H s' → Ext No No H s H s' → s.heap.objs.size ≤ I → (∀ B, AOk (n + 1) B → GJ c B.in1 s.heap.objs.size tot I s.gens.size tot s') → QQ (.ref I) s') → wpAny (model c.prog c.w) A (call (.ref a) vs) QQ E s

theorem zip_lookup : ∀ (xs : List Str) (vs : List Value), xs.Nodup → ∀ x v, (x, v) ∈ xs.zip vs → (xs.zip vs).reverse.lookup x = some v := by
  intro xs vs hn x v hm
  have key : ∀ (l : List (Str × Value)), (∀ y, (x, y) ∈ l → y = v) → (x, v) ∈ l → l.lookup x = some v := by
    intro l
    induction l with
    | nil => intro _ h; cases h
    | cons p l ih =>
      intro h1 h2
      obtain ⟨y, w⟩ := p
      simp only [List.lookup]
      by_cases e : x = y
      · subst e
        simp [h1 w (.head _)]
      · have : (x == y) = false := by simpa using e
        rw [this]
        refine ih (fun y' h => h1 y' (.tail _ h)) ?_
        rcases List.mem_cons.mp h2 with h2 | h2
        · cases h2; exact absurd rfl e
        · exact h2
  refine key _ (fun y hy => ?_) (List.mem_reverse.mpr hm)
  rw [List.mem_reverse] at hy
  obtain ⟨i, hi⟩ := List.mem_iff_getElem?.mp hy
  obtain ⟨j, hj⟩ := List.mem_iff_getElem?.mp hm
  rw [List.getElem?_zip_eq_some] at hi hj
  have hij : i = j := by
    obtain ⟨h1, e1⟩ := List.getElem?_eq_some_iff.mp hi.1
    obtain ⟨h2, e2⟩ := List.getElem?_eq_some_iff.mp hj.1
    rcases Nat.lt_trichotomy i j with h | h | h
    · exact absurd (e1.trans e2.symm) (List.pairwise_iff_getElem.mp hn i j h1 h2 h)
    · exact h
    · exact absurd (e2.trans e1.symm) (List.pairwise_iff_getElem.mp hn j i h2 h1 h)
  subst hij
  have := hi.2.symm.trans hj.2
  cases this; rfl

section
variable {c : Cx} {n : Nat}
theorem over_func {B : Around} {body : List Stmt} {env : Env} (h : AOk (n + 1) B) : AOk n (B.in1.over (.func body env) []) := by
  refine ⟨h.handled, ?_, ?_⟩
  · have := h.depth
    show B.depth + 0 + 1 + n ≤ 900
    omega
  · have := h.units
    show B.units + 1 + 0 + 3 + 10 * n ≤ 9000
    omega

theorem sound_gen {d : DefRec} {ks : List Nat} {xs : List Str} {b : AG} (hd : d ∈ recsOf c.q) (hb : SoundGB c n ⟨d.scope, []⟩ d.body b) (hx : ks.map (c.N[·]?) = xs.map some) (hnd : xs.Nodup)
    (hbind : ∀ pm cd doc vs, vs.length = xs.length → bindArgs (Calls.docDef d.name d.params d.body d.scope pm cd doc) ⟨vs, []⟩ = pure (xs.zip vs))
    (hkind : ∀ x ∈ xs, d.scope.names.lookup x = some .local) (hcell : ∀ x ∈ d.scope.names, x.2 ≠ .cell)
    (hco : d.scope.isCoroutine = false := by rfl) (hgen : d.scope.isGenerator = true := by rfl) (hk : d.scope.kind = .function := by rfl) : GenF c n d.name ks b := by
  obtain ⟨a, o, pm, cd, doc, h1, h2, h3, h4⟩ := c.top.fn d hd
  refine ⟨a, o, _, h1, h2, h3, ?_⟩
  intro A H s vs ps tot QQ E hA hv S q fin
  obtain ⟨ql, q⟩ := q
  have hlen : ks.length = xs.length := by simpa using congrArg List.length hx
  have T := c.top.keeps S.hr.keep
  refine wpAny_call (codeAny_call_generator (by have := hA.depth; simp only [recursionLimit]; omega) (S.hr.keep a o h2) h3 hco hgen rfl (h4.keeps S.hr.keep) ?_)
  rw [hbind pm cd doc vs (by rw [hv.length, ql, hlen])]
  refine wpAny_pure (wpAny_newFunctionEnv hcell (fun x hx' => hkind _ (List.of_mem_zip hx').1) (fun h' hns hsb => ⟨T.nolimit.fresh _ hsb, ?_⟩) hk)
  have hk1 : ∀ b o, s.heap.get? b = some o → h'.get? b = some o := fun b o h => by
    have : b ≠ s.heap.objs.size := Nat.ne_of_lt (Heap.lt_size h)
    exact (hsb.2 b this).trans (Heap.get?_push_of_some _ h)
  have hz1 : h'.objs.size = s.heap.objs.size + 1 := by rw [hsb.1]; simp
  generalize henv : newEnv _ _ _ _ _ _ _ _ _ = env
  have eL : env.locals = s.heap.objs.size := by rw [← henv]; rfl
  have eS : env.scope = d.scope := by rw [← henv]; rfl
  have eC : env.cells = [] := by rw [← henv]; rfl
  have he : EOk ⟨d.scope, []⟩ env := ⟨eS, hk, by rw [← henv]; rfl, by rw [← henv]; rfl, fun y hy => absurd rfl (hcell _ (mem_of_lookup hy))⟩
  have S1 : St c.base H { s with heap := h', toks := s.toks + (xs.zip vs).length } := S.of_keep (X := No) (fun b o _ h => hk1 b o h) (fun _ h => h.elim) (fun _ h => h.elim) (fun _ h => h.elim)
  have hv1 : VAll h' vs ps := hv.mono fun b o h => hk1 b o h.1
  let gob : Obj := { cls := .type "generator", data := .fields #[.int s.gens.size 0, .str d.name (s.toks + (xs.zip vs).length), .str d.name (s.toks + (xs.zip vs).length + 1)] }
  have hk2 : ∀ b o, s.heap.get? b = some o → (h'.push gob).get? b = some o := fun b o h => Heap.get?_push_of_some _ (hk1 b o h)
  have nb : ∀ a, s.heap.objs.size ≤ a → c.base.get? a = none := fun a ha => S.bsize ha
  refine fin h'.objs.size { s with gens := s.gens.push (.fresh (.func d.body env)), toks := s.toks + (xs.zip vs).length + 1 + 1, heap := h'.push gob } ?_ ?_ (by omega) fun B hB => ?_
  · exact ⟨⟨fun b o h => hk2 b o (S.hr.keep b o h), fun a x h => by
      obtain ⟨us, m, hl, hu⟩ := S.hr.list a x h
      exact ⟨us, m, hk2 a _ hl, hu.mono fun b o h => hk2 b o h.1⟩, S.hr.new⟩, S.bare.push rfl⟩
  · refine ⟨fun a o h _ _ => hk2 a o h, by simp; omega, fun _ x h => .inl ⟨x, h, rfl⟩, fun i g h _ => ?_, by simp, rfl⟩
    have hi := (Array.getElem?_eq_some_iff.mp h).1
    show (s.gens.push _)[i]? = some g
    rw [Array.getElem?_push, if_neg (Nat.ne_of_lt hi)]; exact h
  · have hns2 : (h'.push gob).Ns env.locals (fun x => (xs.zip vs).reverse.lookup x) := by
      rw [eL]; exact hns.keeps fun b o h => Heap.get?_push_of_some _ h
    have hv2 : VAll (h'.push gob) vs ps := hv.mono fun b o h => hk2 b o h.1
    have g0 : GAt c s.heap.objs.size env (bindP ks ps) [] { s with gens := s.gens.push (.fresh (.func d.body env)), toks := s.toks + (xs.zip vs).length + 1 + 1, heap := h'.push gob } { s with gens := s.gens.push (.fresh (.func d.body env)), toks := s.toks + (xs.zip vs).length + 1 + 1, heap := h'.push gob } := by
      refine ⟨⟨⟨_, hns2, fun k p hp => ?_⟩, (fun x cc hx => by rw [eC] at hx; cases hx), by rw [eC]; exact .nil, by rw [eL]; exact nb _ (Nat.le_refl _), (fun x cc hx => by rw [eC] at hx; cases hx)⟩, ⟨⟨fun b o h => hk2 b o (S.hr.keep b o h), fun _ _ h => (nomatch h), fun _ _ h => (nomatch h)⟩, S.bare.push rfl⟩, .refl, fun a ha => ?_, List.not_mem_nil, nb⟩
      · obtain ⟨y, v, k1, k2, k3⟩ := bindP_at ks xs vs ps hx hv2 ql k p hp
        exact ⟨y, v, k1, k3, .inl ⟨by rw [he.kindOf]; exact hkind y (List.of_mem_zip k2).1, zip_lookup xs vs hnd y v k2⟩⟩
      · have : a = env.locals := by simpa using ha
        subst this
        exact ⟨Nat.le_of_eq eL.symm, dict_shr hns2⟩
    refine ⟨⟨gob, _, _, Heap.get?_push_size _ rfl, rfl, rfl, rfl⟩, List.suffix_refl _, .fresh (.func d.body env), [env.locals], by simp, g0.pv, fun s'' kc => ⟨rfl, ?_⟩⟩
    refine seg_func (hb B.in1 env (bindP ks ps) tot tot s.heap.objs.size [] s'' s'' _ [] _ _ _ _ _ ⟨over_func hB, rfl, rfl, he, eC, hco⟩ rfl (g0.again eC kc) (List.suffix_refl _) q fun fl f ρ' l' s₀' s' hf g' hr hl q' => ?_)
    obtain ⟨hfl, rfl⟩ := q'
    rcases hfl with rfl | rfl
    · cases hf
      exact seg_end (.ok (.ret .none)) ⟨rfl, rfl, g'.kp, g'.st⟩
    · cases hf with
      | ret hv =>
        cases hv
        exact seg_end (.ok (.ret .none)) ⟨rfl, rfl, g'.kp, g'.st⟩

theorem next_gen {A : Around} {E : Value → Shared → Prop} {s : Shared} {a : Addr} {g m : Nat} {gs : GenState} {P : Nat → Shared → Shared → Prop} {Y : Protocol} {Q : Option Value → Shared → Prop} (hh : A.handled = none) (hl : s.heap.NoLimit) (hroom : A.depth < recursionLimit)
    (hg : s.heap.IsGen a g) (hgs : s.gens[g]? = some gs) (hgo : gs.Goes (model c.prog c.w) A.in1 (fun n s₀ r s₁ => r = .ok (.ret .none) ∧ P n s₀ s₁) Y m (.send .none) (s.setGen g .running))
    (hY : ∀ v s₁ gs', gs'.bare = true → Y (m - 1) (s.setGen g .running) v s₁ (fun r' s'' => match m with
        | 0 => False
        | j + 1 => gs'.Goes (model c.prog c.w) A.in1 (fun n s₀ r s₁ => r = .ok (.ret .none) ∧ P n s₀ s₁) Y j r' s'') → Q (some v) (s₁.setGen g gs'))
    (hP : ∀ s₁, P m (s.setGen g .running) s₁ → ∀ h', (∀ b o, s₁.heap.get? b = some o → h'.get? b = some o) → Q none { s₁.setGen g .finished with heap := h' }) : wpAny (model c.prog c.w) A (pyNext (.ref a)) Q E s := by
  unfold pyNext
  refine wpAny_bind (wpAny_attempt (wpAny_callSpecial?_slot (name := Str.ofString "__next__") hg.typeIs slot_gen_next (wpAny_call_entry slot_gen_next hg.typeIs entry_gen_next ?_ (args_gen_next _))))
  show wpAny _ A.in1 (Builtin.Generator.genWake (.ref a) (.send .none)) _ _ s
  unfold Builtin.Generator.genWake
  refine wpAny_bind (wpAny_holding (wpAny_genNumber hg (wpAny_bind (wpAny_genState hgs ?_))))
  cases gs with
  | running => exact hgo.elim
  | finished => exact hgo.elim
  | _ =>
    refine wpAny_bind (wpAny_roomToWake hl hroom ?_)
    show wpAny _ A.in1 (.resume g (.send .none) [] _) _ _ s
    refine wpAny_resumeQ hgs hgo (fun x s₁ hx => ?_) (fun v s₁ gs' hb hv => wpAny_pure ⟨v, rfl, wpAny_pure (hY v s₁ gs' hb hv)⟩)
    obtain ⟨rfl, hp⟩ := hx
    show wpAny _ A.in1 (newExc (.type "StopIteration") [] >>= _) _ _ _
    simp only [newExc, newTuple, raiseNew]
    refine wpAny_bind (wpAny_bind (wpAny_newObj_type ?_ (by size_fits)))
    refine wpAny_bind (m := firstArgMember _ _) (wpAny_of_eq (a := Value.none) (by first | rfl | (simp only [firstArgMember]; rfl)) ?_)
    refine wpAny_newObj_type (wpAny_bind (wpAny_bind (wpAny_handled ?_))) (by size_fits)
    rw [show A.in1.handled = none from hh]
    refine wpAny_throw (wpAny_bind (wpAny_isInstance (T := "StopIteration") (b := true) ⟨_, Heap.get?_push_size _ rfl, rfl⟩ isSubtype_stop ?_))
    exact wpAny_pure (hP s₁ hp _ fun b o hb => Heap.get?_push_of_some _ (Heap.get?_push_of_some _ hb))

theorem setGen_at {s : Shared} {g : Nat} {gs x : GenState} (h : s.gens[g]? = some gs) : (s.setGen g x).gens[g]? = some x := by
  have hi := (Array.getElem?_eq_some_iff.mp h).1
  simp [Shared.setGen, hi]
theorem setGen_other {s : Shared} {g i : Nat} {x : GenState} (h : i ≠ g) : (s.setGen g x).gens[i]? = s.gens[i]? := by
  simp [Shared.setGen, Array.getElem?_setIfInBounds, h.symm]
theorem bare_set {s : Shared} {g : Nat} {x : GenState} (h : AllBare s.gens) (hx : x.bare = true) : AllBare (s.setGen g x).gens := by
  intro y hy
  obtain ⟨i, hi, rfl⟩ := Array.mem_iff_getElem.mp hy
  have e : (s.setGen g x).gens[i]? = some ((s.setGen g x).gens[i]) := Array.getElem?_eq_getElem hi
  by_cases q : i = g
  · subst q
    have hi' : i < s.gens.size := by simpa [Shared.setGen] using hi
    rw [setGen_at (Array.getElem?_eq_getElem hi')] at e
    have := Option.some.inj e
    rw [← this]; exact hx
  · rw [setGen_other q] at e
    obtain ⟨hi', e'⟩ := Array.getElem?_eq_some_iff.mp e
    rw [← e']; exact h _ (Array.getElem_mem hi')
theorem st_setGen {base : Heap} {H : AH} {s : Shared} {g : Nat} {x : GenState} (S : St base H s) (hx : x.bare = true) : St base H (s.setGen g x) := ⟨⟨S.hr.keep, S.hr.list, S.hr.new⟩, bare_set S.bare hx⟩

theorem gen_iter {B : Around} {z : Nat} {tot : List PV} {I g : Nat} (hB : AOk (n + 1) B) (hzI : z ≤ I) : IterA c B I (fun a => z ≤ a) (fun i => i = g) (fun _ => True) (fun l H s => GJ c B.in1 z tot I g l s) where
  item := by
    intro p rest H s E Q j S hQ
    obtain ⟨gs, pv, h1, h2, h3⟩ := j.go
    have T := c.top.keeps S.hr.keep
    refine next_gen (m := (p :: rest).length) (P := fun n s₀ s₁ => n = 0 ∧ Kp z s₀ s₁ ∧ St c.base H0 s₁) (Y := Yg c z tot) hB.handled T.nolimit (by have := hB.depth; simp only [recursionLimit]; omega) j.isg h1 (h3 _ ⟨fun _ _ _ h => h, fun _ _ h => h.1, st_setGen S.alone rfl⟩) (fun v s₁ gs' hb hv => ?_) (fun s₁ hp => by cases hp.1)
    obtain ⟨p', pv', e1, hv', kp, S1, pvv, cl⟩ := hv
    obtain ⟨e2, hsuf⟩ := suf_at j.suf
    have e3 : some p' = some p := by rw [← e1, ← e2]; rfl
    cases e3
    have S2 : St c.base H s₁ := by
      have S' : St c.base H (s.setGen g .running) := st_setGen S rfl
      exact kp.st S' S1
    have hg1 : s₁.gens[g]? = some .running := kp.gens g _ (setGen_at h1)
    refine hQ v _ hv' (st_setGen S2 hb) ?_ ⟨?_, hsuf, gs', pv', setGen_at hg1, pvv, fun s'' kc => cl s'' kc⟩ (fun b o h => kp.imm b o h)
    · refine ⟨fun a o h hx _ => kp.keep a o h (.inl (Nat.lt_of_not_le hx)), kp.size, fun _ x h => .inl ⟨x, h, rfl⟩, fun i gi hi hne => ?_, ?_, kp.os⟩
      · rw [setGen_other hne]
        exact kp.gens i gi (by rw [setGen_other hne]; exact hi)
      · have := kp.gsize
        simp only [setGen_gens] at this ⊢
        exact this
    · obtain ⟨o, nm, qn, ho, hc, hd, hs⟩ := j.isg
      exact ⟨o, nm, qn, kp.keep I o ho (.inr (.inr ⟨.inr hc, _, hd⟩)), hc, hd, hs⟩
  done := by
    intro H s E Q j S hQ
    obtain ⟨gs, pv, h1, h2, h3⟩ := j.go
    have T := c.top.keeps S.hr.keep
    refine wpAny_grow (next_gen (m := 0) (P := fun n s₀ s₁ => n = 0 ∧ Kp z s₀ s₁ ∧ St c.base H0 s₁) (Y := Yg c z tot) hB.handled T.nolimit (by have := hB.depth; simp only [recursionLimit]; omega) j.isg h1 (h3 _ ⟨fun _ _ _ h => h, fun _ _ h => h.1, st_setGen S.alone rfl⟩) (fun v s₁ gs' hb hv => ?_) (fun s₁ hp h' hk gr => ?_))
    · obtain ⟨p', pv', e1, hv', kp, S1, pvv, cl⟩ := hv
      intro _
      exact (cl s₁ ⟨fun _ _ _ h => h, fun _ _ h => h.1, S1⟩).elim
    · obtain ⟨_, kp, S1⟩ := hp
      have S2 : St c.base H s₁ := kp.st (st_setGen S rfl) S1
      have S3 := st_setGen (g := g) (x := .finished) S2 rfl
      refine hQ _ (S3.of_keep (X := No) (tk := s₁.toks) (fun b o _ h => hk b o h) (fun _ h => h.elim) (fun _ h => h.elim) (fun _ h => h.elim)) ?_ (fun b o h => hk b o (kp.imm b o h))
      refine ⟨fun a o h hx _ => hk a o (kp.keep a o h (.inl (Nat.lt_of_not_le hx))), gr.1, fun _ x h => .inl ⟨x, h, rfl⟩, fun i gi hi hne => ?_, gr.2, kp.os⟩
      show (s₁.setGen g .finished).gens[i]? = some gi
      rw [setGen_other hne]
      exact kp.gens i gi (by rw [setGen_other hne]; exact hi)
  frame := by
    intro X l H s H' s' j S e S' hX hI _
    obtain ⟨gs, pv, h1, h2, h3⟩ := j.go
    have hz : ∀ a, z ≤ a → ¬ X a := fun a ha hx => hX a hx ha
    obtain ⟨o, nm, qn, ho, hc, hd, hs⟩ := j.isg
    have pvk : ∀ a ∈ pv, ∀ o, s.heap.get? a = some o → s'.heap.get? a = some o := fun a ha o ho => by
      obtain ⟨k1, o', k2, k3⟩ := h2 a ha
      rw [ho] at k2; cases k2
      refine S.stay' e ho (hz a k1) fun vs m hl => k3 (.inl ?_)
      rw [show s.heap.get? a = _ from hl] at ho; cases ho; exact ⟨_, _, rfl⟩
    refine ⟨⟨o, nm, qn, S.stay e ho (hz I hzI) (by rw [hc]; simp), hc, hd, hs⟩, j.suf, gs, pv, e.gens g gs h1 (fun h => h), fun a ha => ?_, fun s'' kc => h3 s'' ⟨fun a ha o ho => kc.1 a ha o (pvk a ha o ho), fun b o h => kc.2.1 b o ⟨S.stayI e h (hI b o h), h.2⟩, kc.2.2⟩⟩
    obtain ⟨k1, o', k2, k3⟩ := h2 a ha
    exact ⟨k1, o', pvk a ha o' k2, k3⟩
  owned := by
    intro l H s E Q elts k pos v j h
    obtain ⟨o, nm, qn, ho, hc, hd, hs⟩ := j.isg
    exact owned_other ho hc (by decide) h
end
end Mine
open PySem PySem.W PySem.Calls PyProof.Rows
set_option Elab.async false
set_option linter.unusedVariables false
namespace Mine
section
variable {c : Cx} {n m : Nat} {sc : SE}

/-- a call of a generator's def gives a generator -/
theorem gen_call {A : Around} {env : Env} {ρ : AEnv} {H : AH} {s : Shared} {E : Value → Shared → Prop} {QQ : Value → Shared → Prop} {name : Str} {ks : List Nat} {b : AG} {e : Expr} {es : List Expr} {l : AL} {p pos : Pos} {F : List PV → List PV → AH → Prop} (hf : GenF c m name ks b) (hl : SoundL c n sc (e :: es) l) (hk : sc.names.lookup name = some .globalImplicit) (hm : m + 1 ≤ n)
    (hA : AOk n A) (he : EOk sc env) (R : ER c.base c.N env ρ s.heap) (S : St c.base H s) (q : l (fun ps H1 => ∃ tot, gFn ks b ps tot ∧ F ps tot H1) ρ H)
    (fin : ∀ I z g ps tot H1 s1, z ≤ I → s.heap.objs.size ≤ z → s.gens.size ≤ g → ER c.base c.N env ρ s1.heap → St c.base H1 s1 → Ext No No H s H1 s1 → (∀ B, AOk (m + 1) B → GJ c B.in1 z tot I g tot s1) → I < s1.heap.objs.size → F ps tot H1 → QQ (.ref I) s1)
    (hd : (name == ("__debug__" : Str)) = false := by decide) (he' : ∀ env, starEach (e :: es) env = (false, eval e env) :: starEach es env := by intro _; rfl) : wpAny (model c.prog c.w) A (eval (.Call (.Name name p) (e :: es) [] pos) env) QQ E s := by
  obtain ⟨a, o, fd, h1, h2, h3, h4⟩ := hf
  have T := c.top.keeps S.hr.keep
  refine Call_ (Name_function_global he.skind (by rw [he.kindOf]; exact hk) (loadGlobal_global (mg := c.mg) (by rw [he.globals]; exact T.g) h1 ?_) hd)
  refine callWith_def h3 (seqL (F := fun ps H1 => ∃ tot, gFn ks b ps tot ∧ F ps tot H1) hl hA he R S q fun vs ps H1 s1 hv R1 S1 e1 ⟨tot, hg, q1⟩ => ⟨S1.hr.keep a o h2, ?_⟩) (he' env)
  refine h4 A H1 s1 vs ps tot QQ E (hA.of_le hm) hv S1 hg fun I s' S' e' hI gj => ?_
  have hlt : I < s'.heap.objs.size := by
    obtain ⟨o, _, _, ho, _⟩ := (gj A (hA.of_le hm)).isg
    exact Heap.lt_size ho
  exact fin I _ _ ps tot H1 s' hI e1.size e1.gsize (R1.ext0 S1 e') S' (e1.trans e') gj hlt q1

def sForG (g : ATg) (ks : List Nat) (gb : AG) (l : AL) (b : AS) : AS := fun Q ρ H => l (fun ps H1 => ∃ tot, gFn ks gb ps tot ∧ forL g b (fun _ => True) Q tot ρ H1) ρ H
theorem stmt_for_gen {tg : Expr} {name : Str} {ks : List Nat} {gb : AG} {e : Expr} {es : List Expr} {l : AL} {p cpos pos : Pos} {body : List Stmt} {g : ATg} {b : AS} (hf : GenF c m name ks gb) (hl : SoundL c n sc (e :: es) l) (hk : sc.names.lookup name = some .globalImplicit) (hm : m + 1 ≤ n) (hg : SoundA c n sc tg g) (hb : SoundB c n sc body b)
    (hfs : ∀ env x, foldedSetIterable (.Call (.Name name p) (e :: es) [] cpos) env x = pure x := by intro _ _; rfl) (ht : (∃ elts k pos, tg = .Tuple elts k pos) ∨ ∀ it v, letOwnedTupleGo tg it v = pure () := by first | exact .inl ⟨_, _, _, rfl⟩ | exact .inr fun _ _ => rfl)
    (hd : (name == ("__debug__" : Str)) = false := by decide) (he' : ∀ env, starEach (e :: es) env = (false, eval e env) :: starEach es env := by intro _; rfl) : SoundS c n sc (.For tg (.Call (.Name name p) (e :: es) [] cpos) body [] pos) (sForG g ks gb l b) := by
  intro A env ρ H s Q E hA he R S q
  refine wpAny_For (gen_call (F := fun ps tot H1 => forL g b (fun _ => True) Q tot ρ H1) hf hl hk hm hA he R S q (fun I z gi ps tot H1 s1 hI hz hgz R1 S1 e1 gj hlt q1 => ?_) hd he') (hfs env)
  have hB := hA.of_le hm
  refine wpAny_pyIter_gen (gj A hB).isg ?_
  exact for_loop (gen_iter (n := m) hB hI) hg hb hA he ht R (fun a ha => Nat.le_trans hz ha) (fun i hi => by subst hi; exact hgz) (gj A hB) R1 S1 e1.of_no q1 fun f s' r => r

-- list(gen(..))
theorem extend_loop {A : Around} {I : Addr} {P PG : Nat → Prop} {G : AH → Prop} {J : List PV → AH → Shared → Prop} (it : IterA c A.in1 I P PG G J) {Hb H₀ : AH} {s₀ : Shared} {S : Addr} {R : Result → Shared → Prop} {tot : List PV} (hP : ∀ a, P a → s₀.heap.objs.size ≤ a) (hPG : ∀ i, PG i → s₀.gens.size ≤ i) (hS0 : H₀ S = none) (hSs : s₀.heap.objs.size ≤ S)
    (hz : tot.length ≤ 16777216) (hG : ∀ H, G H) (hR : ∀ s', St c.base (upd H₀ S ⟨tot, true⟩) s' → Ext No No Hb s₀ (upd H₀ S ⟨tot, true⟩) s' → R (.ok (.ret .none)) s') :
    ∀ (l acc : List PV) (s : Shared), acc ++ l = tot → J l (upd H₀ S ⟨acc, true⟩) s → St c.base (upd H₀ S ⟨acc, true⟩) s → Ext No No Hb s₀ (upd H₀ S ⟨acc, true⟩) s → codeAny (model c.prog c.w) A (.builtin "list.extend.loop" ⟨[.ref S, .ref I, .none], []⟩) R s
  | [], acc, s, ht, hj, hS, e => by
    refine codeAny_builtin F.entry_extend_loop ?_
    rw [Around.under_plainId F.plain_extend_loop _]
    show wpAny _ A.in1 (pyNext (.ref I) >>= _) _ _ s
    refine wpAny_bind (it.done _ s _ _ hj hS fun s' S' e' _ => wpAny_pure ?_)
    rw [List.append_nil] at ht
    subst ht
    exact hR s' S' (e.then_new e' (fun a ha => .inr (hP a ha)) (fun i hi => .inr (hPG i hi)))
  | p :: l, acc, s, ht, hj, hS, e => by
    refine codeAny_builtin F.entry_extend_loop ?_
    rw [Around.under_plainId F.plain_extend_loop _]
    show wpAny _ A.in1 (pyNext (.ref I) >>= _) _ _ s
    refine wpAny_bind (it.item p l _ s _ _ hj hS fun v s' hv S' e' hj' _ => ?_)
    show wpAny _ A.in1 (updateSeq S (·.push v) >>= _) _ _ _
    obtain ⟨vs, k, hl, hvs⟩ := S'.hr.list S _ (upd_same _ _ _)
    have hlen : vs.size = acc.length := by have := hvs.length; simpa using this
    have hlt : acc.length < 16777216 := by
      have : tot.length = acc.length + (l.length + 1) := by rw [← ht]; simp
      omega
    refine wpAny_bind (wpAny_updateSeq hl rfl (wpAny_pure ⟨plainId_quiet F.plain_extend_loop _, ?_⟩) (by rw [sizeLine_eq]; omega) (by rw [sizeLine_eq, Array.size_push]; omega))
    have hl2 := Heap.get?_update_self (Obj.mapSeq (·.push v)) hl rfl
    have hsb : Heap.SameBut S s'.heap (s'.heap.update S (Obj.mapSeq (·.push v))) := Heap.SameBut.update ..
    have S2 : St c.base (upd (upd H₀ S ⟨acc, true⟩) S ⟨acc ++ [p], true⟩) { s' with heap := s'.heap.update S (Obj.mapSeq (·.push v)) } := S'.setList (tk := s'.toks) (upd_same _ _ _) rfl hl2 hsb (by simpa using hvs.append (.one hv))
    have e2 : Ext No No (upd H₀ S ⟨acc, true⟩) s' (upd (upd H₀ S ⟨acc, true⟩) S ⟨acc ++ [p], true⟩) { s' with heap := s'.heap.update S (Obj.mapSeq (·.push v)) } := Ext.setList (tk := s'.toks) (upd_same _ _ _) rfl hsb
    rw [upd_upd] at S2 e2
    refine extend_loop it hP hPG hS0 hSs hz hG hR l (acc ++ [p]) _ (by simpa using ht) (it.frame No l _ s' _ _ hj' S' e2 S2 (fun _ h => h.elim) (fun _ _ _ h => h) (hG _)) S2 ?_
    exact (e.then_new e' (fun a ha => .inr (hP a ha)) (fun i hi => .inr (hPG i hi))).trans e2

theorem list_of_gen {A : Around} {Hb H : AH} {s₀ s : Shared} {E : Value → Shared → Prop} {QQ : Value → Shared → Prop} {I z g : Nat} {tot : List PV} (gj : ∀ B, AOk (m + 1) B → GJ c B.in1 z tot I g tot s) (hA : AOk (m + 3) A) (hS : St c.base H s) (e : Ext No No Hb s₀ H s) (hI : z ≤ I) (hz0 : s₀.heap.objs.size ≤ z) (hg0 : s₀.gens.size ≤ g) (hlt : I < s.heap.objs.size) (hz : tot.length ≤ 16777216)
    (fin : ∀ a s', H a = none → St c.base (upd H a ⟨tot, true⟩) s' → Ext No No Hb s₀ (upd H a ⟨tot, true⟩) s' → QQ (.ref a) s') : wpAny (model c.prog c.w) A (call (.type "list") [.ref I]) QQ E s := by
  have hB : AOk (m + 1) A.in1.in1 := AOk.in1 (AOk.in1 hA)
  have it := gen_iter (c := c) (z := z) (tot := tot) (g := g) hB hI
  have hfresh : H s.heap.objs.size = none := hS.fresh (Nat.le_refl _)
  refine callType_codes (Q₁ := fun obj s₁ => obj = .ref s.heap.objs.size ∧ s₁ = { s with heap := s.heap.push { cls := .type "list", data := .seq #[] } }) F.called_list (F.typeCall_list_1 _) F.entry_list_init (code_list_new _ ⟨rfl, rfl⟩) fun obj s₁ h₁ => ?_
  obtain ⟨rfl, rfl⟩ := h₁
  have S1 : St c.base (upd H s.heap.objs.size ⟨[], true⟩) { s with heap := s.heap.push { cls := .type "list", data := .seq #[] } } := hS.newList (vs := #[]) (ps := []) .nil
  have e1 : Ext No No H s (upd H s.heap.objs.size ⟨[], true⟩) { s with heap := s.heap.push { cls := .type "list", data := .seq #[] } } := Ext.newList _ _
  have hl1 : (s.heap.push { cls := .type "list", data := .seq #[] }).get? s.heap.objs.size = some { cls := .type "list", data := .seq #[] } := Heap.get?_push_size _ rfl
  have isg := (gj A.in1.in1 hB).isg
  refine ⟨⟨_, hl1, rfl⟩, F.args_list_init_2 _ _, ?_⟩
  have hSI : s.heap.objs.size ≠ I := Nat.ne_of_gt hlt
  show wpAny _ A.in1.in1 (do let old ← Builtin.List.listItems (.ref s.heap.objs.size); Builtin.List.listUpdate (.ref s.heap.objs.size) (fun _ => #[]); letGo old.toList.reverse; Builtin.List.listExtendWith (.ref s.heap.objs.size) (.ref I) .none) _ _ _
  refine wpAny_bind ?_
  unfold Builtin.List.listItems
  refine wpAny_bind (wpAny_seqItems hl1 rfl (wpAny_pure ?_))
  show wpAny _ A.in1.in1 (updateSeq s.heap.objs.size (fun _ => #[]) >>= fun _ => letGo (#[] : Array Value).toList.reverse >>= fun _ => Builtin.List.listExtendWith (.ref s.heap.objs.size) (.ref I) .none) _ _ _
  refine wpAny_bind (wpAny_updateSeq hl1 rfl ?_)
  have hl2 := Heap.get?_update_self (Obj.mapSeq (fun _ => (#[] : Array Value))) hl1 rfl
  refine wpAny_bind (wpAny_letGo ?_)
  unfold Builtin.List.listExtendWith
  have isg1 : (s.heap.push { cls := .type "list", data := .seq #[] }).IsGen I g := isg.push _
  have sb2 := Heap.SameBut.update (s.heap.push { cls := .type "list", data := .seq #[] }) s.heap.objs.size (Obj.mapSeq (fun _ => (#[] : Array Value)))
  have isg2 := isg1.sameBut sb2 hSI.symm
  have hT : ({ s with heap := (s.heap.push { cls := .type "list", data := .seq #[] }).update s.heap.objs.size (Obj.mapSeq (fun _ => (#[] : Array Value))) } : Shared).TypeIs (.ref I) "generator" := isg2.typeIs
  refine wpAny_bind (wpAny_typeOf hT ?_)
  have h1 : Builtin.List.listSameRef (.ref s.heap.objs.size) (.ref I) = false := by simp [Builtin.List.listSameRef, hSI]
  have h2 : (Value.type "generator" == Value.type "list") = false := by decide
  have h3 : (Value.type "generator" == Value.type "tuple") = false := by decide
  simp only [h1, h2, h3, Bool.or_false, Bool.false_eq_true, if_false]
  refine wpAny_bind (wpAny_pyIter_gen isg2 ?_)
  refine wpAny_bind (wpAny_holding ?_)
  unfold Builtin.List.listLengthHint
  refine wpAny_bind (wpAny_specialOf hT F.gen_no_len ?_)
  show wpAny _ A.in1.in1 (specialOf (Value.ref I) (Str.ofString "__length_hint__") >>= _) _ _ _
  refine wpAny_bind (wpAny_specialOf hT F.gen_no_hint ?_)
  refine wpAny_pure ?_
  show wpAny _ A.in1.in1 (rule "list.extend.makes-room" >>= fun _ => Builtin.List.listTouch (.ref s.heap.objs.size) >>= fun _ => again (.builtin "list.extend.loop" ⟨[.ref s.heap.objs.size, .ref I, .none], []⟩)) _ _ _
  refine wpAny_bind (wpAny_rule ?_)
  refine wpAny_bind ?_
  show wpAny _ A.in1.in1 (updateSeq s.heap.objs.size (·.push .none) >>= fun _ => updateSeq s.heap.objs.size (·.pop)) _ _ _
  refine wpAny_bind (wpAny_updateSeq hl2 rfl ?_)
  have hl3 := Heap.get?_update_self (Obj.mapSeq (·.push Value.none)) hl2 rfl
  refine wpAny_updateSeq (hz := by seq_fits) hl3 rfl ?_
  have hl4 := Heap.get?_update_self (Obj.mapSeq (·.pop)) hl3 rfl
  refine wpAny_pure ⟨plainId_quiet F.plain_extend_loop _, ?_⟩
  have sb3 := Heap.SameBut.update ((s.heap.push { cls := .type "list", data := .seq #[] }).update s.heap.objs.size (Obj.mapSeq (fun _ => (#[] : Array Value)))) s.heap.objs.size (Obj.mapSeq (·.push Value.none))
  have sb4 := Heap.SameBut.update (((s.heap.push { cls := .type "list", data := .seq #[] }).update s.heap.objs.size (Obj.mapSeq (fun _ => (#[] : Array Value)))).update s.heap.objs.size (Obj.mapSeq (·.push Value.none))) s.heap.objs.size (Obj.mapSeq (·.pop))
  have sb : Heap.SameBut s.heap.objs.size (s.heap.push { cls := .type "list", data := .seq #[] }) ((((s.heap.push { cls := .type "list", data := .seq #[] }).update s.heap.objs.size (Obj.mapSeq (fun _ => (#[] : Array Value)))).update s.heap.objs.size (Obj.mapSeq (·.push Value.none))).update s.heap.objs.size (Obj.mapSeq (·.pop))) :=
    ⟨sb4.1.trans (sb3.1.trans sb2.1), fun b hb => (sb4.2 b hb).trans ((sb3.2 b hb).trans (sb2.2 b hb))⟩
  generalize hh4 : ((((s.heap.push { cls := .type "list", data := .seq #[] }).update s.heap.objs.size (Obj.mapSeq (fun _ => (#[] : Array Value)))).update s.heap.objs.size (Obj.mapSeq (·.push Value.none))).update s.heap.objs.size (Obj.mapSeq (·.pop))) = h4 at sb
  obtain ⟨k5, hl5⟩ : ∃ k, IsL h4 s.heap.objs.size #[] k := ⟨_, by rw [← hh4]; exact hl4⟩
  have S4 : St c.base (upd (upd H s.heap.objs.size ⟨[], true⟩) s.heap.objs.size ⟨[], true⟩) { s with heap := h4 } := S1.setList (tk := s.toks) (upd_same _ _ _) rfl hl5 sb .nil
  have e4 : Ext No No (upd H s.heap.objs.size ⟨[], true⟩) { s with heap := s.heap.push { cls := .type "list", data := .seq #[] } } (upd (upd H s.heap.objs.size ⟨[], true⟩) s.heap.objs.size ⟨[], true⟩) { s with heap := h4 } := Ext.setList (tk := s.toks) (upd_same _ _ _) rfl sb
  rw [upd_upd] at S4 e4
  have j4 := it.frame No tot _ _ _ _ (it.frame No tot _ _ _ _ (gj A.in1.in1 hB) hS e1 S1 (fun _ h => h.elim) (fun _ _ _ h => h) trivial) S1 e4 S4 (fun _ h => h.elim) (fun _ _ _ h => h) trivial
  exact extend_loop it (H₀ := H) (s₀ := s₀) (tot := tot) (fun a ha => Nat.le_trans hz0 ha) (fun i hi => by subst hi; exact hg0) hfresh (Nat.le_trans hz0 (Nat.le_trans hI (Nat.le_of_lt hlt))) hz (fun _ => trivial) (fun s' S' e' => ⟨rfl, fin _ s' hfresh S' e'⟩) tot [] _ rfl j4 S4 ((e.trans e1).trans e4)

/-- list(gen(..)) -/
def aGenList (ks : List Nat) (gb : AG) (l : AL) : AE := fun Q ρ H => l (fun ps H1 => ∃ tot, gFn ks gb ps tot ∧ tot.length ≤ 16777216 ∧ newL tot Q H1) ρ H
theorem sound_list_gen {name : Str} {ks : List Nat} {gb : AG} {e : Expr} {es : List Expr} {l : AL} {p cpos p' pos : Pos} (hf : GenF c m name ks gb) (hl : SoundL c n sc (e :: es) l) (hk : sc.names.lookup name = some .globalImplicit) (hm : m + 3 ≤ n) (hmg : c.mg (Str.ofString "list") = none) (hb : bootBuiltins (Str.ofString "list") = some (.type "list")) (hkl : sc.names.lookup (Str.ofString "list") = some .globalImplicit)
    (hd : (name == ("__debug__" : Str)) = false := by decide) (he' : ∀ env, starEach (e :: es) env = (false, eval e env) :: starEach es env := by intro _; rfl) : SoundE c n sc (.Call (.Name (Str.ofString "list") p') [.Call (.Name name p) (e :: es) [] cpos] [] pos) (aGenList ks gb l) := by
  intro A env ρ H s Q E hA he R S q
  refine bi_core he S hmg hb (by decide +kernel) hkl (wpAny_items_cons ?_ rfl) (by decide +kernel) (fun _ => rfl)
  refine gen_call (F := fun ps tot H1 => tot.length ≤ 16777216 ∧ newL tot Q H1) hf hl hk (by omega) hA he R S q (fun I z gi ps tot H1 s1 hI hz hgz R1 S1 e1 gj hlt q1 => wpAny_items_nil ?_) hd he'
  refine list_of_gen gj (hA.of_le hm) S1 e1 hI hz hgz hlt q1.1 fun a s' ha S' e' => ?_
  exact ⟨.ref a, _, .ref a, S', e', q1.2 a ha⟩
end
end Mine
open PySem PySem.W PySem.Calls PyProof.Rows
set_option Elab.async false
namespace Mine
theorem ms_forg {g : ATg} {ks : List Nat} {gb : AG} {l : AL} {b : AS} (hl : MonoL l) (mg : MonoG g) (mb : MonoS b) : MonoS (sForG g ks gb l b) := fun Q Q' ρ H h q =>
  hl _ _ _ _ (fun ps H1 ⟨tot, h1, h2⟩ => ⟨tot, h1, by
    refine forL_inv mg mb (fun ps ρ H => forL g b (fun _ => True) Q ps ρ H) (fun p ps ρ H hi => ?_) (fun ρ H hi => h _ _ _ hi) tot ρ H1 h2
    refine mg _ _ _ _ _ (fun ρ1 H1 q1 => mb _ _ _ _ (fun fl ρ2 H2 q2 => ?_) q1) hi
    cases fl with
    | next => exact q2
    | cont => exact q2
    | brk => exact h _ _ _ q2
    | ret v => exact h _ _ _ q2⟩) q
end Mine
open PySem PySem.W PySem.Calls PyProof.Rows
set_option Elab.async false
set_option linter.unusedVariables false
namespace Mine
section
variable {c : Cx} {n : Nat}

def fChr : AF := fun ps Q H => match ps with
  | [.int i] => (0 ≤ i ∧ i < 0x110000) ∧ Q (.str [i.toNat]) H
  | _ => False
theorem bi_chr : SoundV c n (.builtin "chr") fChr := by
  intro A H s vs ps Q E hA hv S q
  unfold fChr at q
  split at q
  · cases hv with
    | cons h1 h2 =>
      cases h2; cases h1
      obtain ⟨⟨h0, h1⟩, q⟩ := q
      refine PySem.P.chr_of_int (by rw [Bool.or_eq_false_iff]; exact ⟨decide_eq_false (by omega), decide_eq_false (by omega)⟩) (res_tok S (.str [_] _ ?_) q)
      intro ch hc
      rw [List.mem_singleton] at hc
      omega
  · exact q.elim
theorem mf_chr : MonoF fChr := by
  intro ps Q Q' H h q; unfold fChr at *
  split at q
  · exact ⟨q.1, h _ _ q.2⟩
  · exact q.elim

def strsOf : List PV → Option (List (List Nat))
  | [] => some []
  | .str x :: r => (strsOf r).map (x :: ·)
  | _ :: _ => none
def joinL (sep : List Nat) : List (List Nat) → List Nat
  | [] => []
  | [x] => x
  | x :: r => x ++ sep ++ joinL sep r
theorem joinL_nil : ∀ xs : List (List Nat), joinL [] xs = xs.flatten
  | [] => rfl
  | [x] => by simp [joinL]
  | x :: y :: r => by simp only [joinL, List.append_nil, List.flatten_cons]; rw [joinL_nil (y :: r), List.flatten_cons]
theorem strs_are {h : Heap} : ∀ {vs : List Value} {ps : List PV} {ys : List (List Nat)}, VAll h vs ps → strsOf ps = some ys → StrsAre vs (ys.map fun y => ⟨y.toArray⟩) ∧ ∀ y ∈ ys, ∀ ch ∈ y, ch < 0x110000
  | _, _, ys, .nil, e => by cases e; exact ⟨.nil, fun _ h => by cases h⟩
  | _, _, ys, .cons hv hr, e => by
    cases hv with
    | str x t hx =>
      simp only [strsOf, Option.map_eq_some_iff] at e
      obtain ⟨zs, e1, rfl⟩ := e
      obtain ⟨h1, h2⟩ := strs_are hr e1
      refine ⟨.cons _ _ h1, fun y hy => ?_⟩
      rcases List.mem_cons.mp hy with rfl | hy
      · exact hx
      · exact h2 y hy
    | _ => cases e
theorem str_join_eq (sep : List Nat) : ∀ ys : List (List Nat), Str.join ⟨sep.toArray⟩ (ys.map fun y => ⟨y.toArray⟩) = ⟨(joinL sep ys).toArray⟩
  | [] => rfl
  | [x] => rfl
  | x :: y :: r => by
    have ih := str_join_eq sep (y :: r)
    simp only [List.map_cons] at ih
    simp only [List.map_cons, Str.join, joinL]
    rw [ih, str_app, str_app]
theorem join_mem {sep : List Nat} : ∀ {ys : List (List Nat)} {ch : Nat}, ch ∈ joinL sep ys → ch ∈ sep ∨ ∃ y ∈ ys, ch ∈ y
  | [], _, h => by cases h
  | [x], _, h => .inr ⟨x, .head _, h⟩
  | x :: y :: r, ch, h => by
    simp only [joinL, List.mem_append] at h
    rcases h with (h | h) | h
    · exact .inr ⟨x, .head _, h⟩
    · exact .inl h
    · rcases join_mem h with h | ⟨z, hz, h⟩
      · exact .inl h
      · exact .inr ⟨z, .tail _ hz, h⟩
def fSJoin : AF := fun ps Q H => match ps with
  | [.str sep, .ref a] => (match H a with
    | some x => (match strsOf x.items with
      | some ys => (ys.map List.length).sum + ys.length * sep.length ≤ 16777216 ∧ Q (.str (joinL sep ys)) H
      | none => False)
    | none => False)
  | _ => False
theorem me_sjoin : SoundV c n (.builtin "str.join") fSJoin := by
  intro A H s vs ps Q E hA hv S q
  unfold fSJoin at q
  split at q
  · rename_i sep a
    cases hv with
    | cons h1 h2 =>
      cases h2 with
      | cons h2 h3 =>
        cases h3
        cases h1 with
        | str _ t hsep =>
          cases h2
          split at q
          · rename_i x hx
            split at q
            · rename_i ys hy
              obtain ⟨vs, k, hl, hv⟩ := S.hr.list _ x hx
              obtain ⟨h1, h2⟩ := strs_are hv hy
              refine join_list hl.isList h1 ?_ fun t' tk => ?_
              · have : (List.map (fun y : Str => y.length) (ys.map fun y => (⟨y.toArray⟩ : Str))) = ys.map List.length := by
                  rw [List.map_map]; exact List.map_congr_left fun y _ => str_len y
                rw [this, str_len, List.length_map]; exact q.1
              · have : Txt.join ⟨sep.toArray⟩ (ys.map fun y => (⟨y.toArray⟩ : Str)) = ⟨(joinL sep ys).toArray⟩ := by
                  show Builtin.Str.glued _ _ = _
                  rw [StrLaws.glued_eq_join, str_join_eq]
                rw [this]
                refine res_tok S (.str _ _ fun ch hc => ?_) q.2
                rcases join_mem hc with h | ⟨y, hy, h⟩
                · exact hsep ch h
                · exact h2 y hy ch h
            · exact q.elim
          · exact q.elim
  · exact q.elim
theorem mf_sjoin : MonoF fSJoin := by
  intro ps Q Q' H h q; unfold fSJoin at *
  split at q
  · split at q
    · split at q
      · exact ⟨q.1, h _ _ q.2⟩
      · exact q.elim
    · exact q.elim
  · exact q.elim
end
end Mine
open PySem PySem.W PySem.Calls PyProof.Rows
set_option Elab.async false
namespace Mine
/-- what the escaped chars of a text are: places and units -/
def esc : Nat → Bool → List Nat → List (Nat × List Nat)
  | i, b, [] => if b then [(i - 1, [92])] else []
  | i, true, c :: x => (i, [92, c]) :: esc (i + 1) false x
  | i, false, c :: x => if c = 92 then esc (i + 1) true x else (i, [c]) :: esc (i + 1) false x
def up (p : Nat × List Nat) : PV := .tup [.int p.1, .str p.2]
theorem flat_up (l : List (Nat × List Nat)) : flats 19 (l.map up) = true := flats_all fun p hp => by
  obtain ⟨q, _, rfl⟩ := List.mem_map.mp hp; simp [up, flat, flats]
theorem esc_len : ∀ (x : List Nat) (i : Nat) (b : Bool), (esc i b x).length ≤ x.length + (if b then 1 else 0)
  | [], i, b => by unfold esc; cases b <;> simp
  | c :: x, i, true => by
    have := esc_len x (i + 1) false
    simp [esc] at this ⊢; omega
  | c :: x, i, false => by
    have h1 := esc_len x (i + 1) false
    have h2 := esc_len x (i + 1) true
    simp only [esc]
    split
    · simp at h2 ⊢; omega
    · simp at h1 ⊢; omega
/-- the text's slices, within bounds or not -/
theorem clip_nat (n a : Nat) : clipAt n (a : Int) = min a n := by unfold clipAt; split <;> omega
theorem slc_mid {α : Type} (x : List α) (a b : Nat) : slc x (some (a : Int)) (some (b : Int)) = (x.drop a).take (b - a) := by
  unfold slc
  simp only [Option.elim, clip_nat]
  rcases Nat.le_total a x.length with h | h
  · rw [Nat.min_eq_left h]
    rcases Nat.le_total b x.length with h' | h'
    · rw [Nat.min_eq_left h']
    · rw [Nat.min_eq_right h', List.take_of_length_le (by simp), List.take_of_length_le (by simp; omega)]
  · rw [List.drop_eq_nil_of_le h, Nat.min_eq_right h, List.drop_eq_nil_of_le (Nat.le_refl _)]; simp
theorem slc_from {α : Type} (x : List α) (a : Nat) : slc x (some (a : Int)) none = x.drop a := by
  unfold slc
  simp only [Option.elim, clip_nat]
  rcases Nat.le_total a x.length with h | h
  · rw [Nat.min_eq_left h, List.take_of_length_le (by simp)]
  · rw [List.drop_eq_nil_of_le h, Nat.min_eq_right h, List.drop_eq_nil_of_le (Nat.le_refl _)]; simp
theorem slc_to {α : Type} (x : List α) (b : Nat) : slc x none (some (b : Int)) = x.take b := by
  have := slc_mid x 0 b
  unfold slc at this ⊢
  simp only [Option.elim, clip_nat] at this ⊢
  simpa using this
end Mine
open PySem PySem.W PySem.Calls PyProof.Rows
set_option Elab.async false
set_option linter.unusedVariables false
namespace Mine
section
variable {c : Cx} {n : Nat} {sc : SE}

theorem res_kept {H : AH} {s : Shared} {Q : PV → AH → Prop} {v : Value} {p : PV} {h' : Heap} {tk : Nat} (S : St c.base H s) (hk : ∀ b o, s.heap.get? b = some o → h'.get? b = some o) (hz : s.heap.objs.size ≤ h'.objs.size) (hv : VRel s.heap v p) (q : Q p H) : Res c H s Q v { s with heap := h', toks := tk } :=
  ⟨p, H, hv.mono fun b o h => hk b o h.1, S.of_keep (X := No) (fun b o _ h => hk b o h) (fun _ h => h.elim) (fun _ h => h.elim) (fun _ h => h.elim), Ext.of_keep (fun b o _ h => hk b o h) hz, q⟩

def boolsOf : List PV → Option (List Bool)
  | [] => some []
  | .bool b :: r => (boolsOf r).map (b :: ·)
  | _ :: _ => none
def intsOf : List PV → Option (List Int)
  | [] => some []
  | .int i :: r => (intsOf r).map (i :: ·)
  | _ :: _ => none
theorem intsOf_map : ∀ bs : List Int, intsOf (bs.map .int) = some bs
  | [] => rfl
  | b :: r => by simp [intsOf, intsOf_map r]
theorem ints_are {h : Heap} : ∀ {vs : List Value} {ps : List PV} {ns : List Int}, VAll h vs ps → intsOf ps = some ns → ∃ ys : List (Int × Tok), vs = ys.map (fun p => .int p.1 p.2) ∧ ys.map (·.1) = ns
  | _, _, ns, .nil, e => by cases e; exact ⟨[], rfl, rfl⟩
  | _, _, ns, .cons hv hr, e => by
    cases hv with
    | int i t =>
      simp only [intsOf, Option.map_eq_some_iff] at e
      obtain ⟨zs, e1, rfl⟩ := e
      obtain ⟨ys, h1, h2⟩ := ints_are hr e1
      exact ⟨(i, t) :: ys, by rw [h1]; rfl, by simp [h2]⟩
    | _ => cases e
def fAll : AF := fun ps Q H => match ps with
  | [.ref a] => (match H a with | some x => (match boolsOf x.items with | some bs => Q (.bool (bs.all id)) H | none => False) | none => False)
  | _ => False
def fAny : AF := fun ps Q H => match ps with
  | [.ref a] => (match H a with | some x => (match boolsOf x.items with | some bs => Q (.bool (bs.any id)) H | none => False) | none => False)
  | _ => False
def fSum : AF := fun ps Q H => match ps with
  | [.ref a] => (match H a with | some x => (match intsOf x.items with | some ns => Q (.int ns.sum) H | none => False) | none => False)
  | _ => False
def fMin : AF := fun ps Q H => match ps with
  | [.int a, .int b] => Q (.int (if b < a then b else a)) H
  | _ => False
theorem bi_sum : SoundV c n (.builtin "sum") fSum := by
  intro A H s vs ps Q E hA hv S q
  unfold fSum at q
  split at q
  · rename_i a
    cases hv with
    | cons h1 h2 =>
      cases h2; cases h1
      split at q
      · rename_i x hx
        split at q
        · rename_i ns hb
          obtain ⟨ws, m, hL, hw⟩ := S.hr.list _ x hx
          obtain ⟨ys, e1, e2⟩ := ints_are hw hb
          have ew : ws = intItems ys.toArray := by
            have : ws = ws.toList.toArray := by simp
            rw [this, e1]; simp [intItems]
          have hL' := hL.isList
          rw [ew] at hL'
          refine wpAny_grow (sum_intListG hA.handled hL' fun h' tk t' hk hg => ?_)
          have e3 : preSum (numAt ys.toArray) ys.toArray.size = ns.sum := by
            rw [preSum_eq, List.take_of_length_le (by simp), ← e2]
          rw [e3]
          exact res_kept S hk hg.1 (.int _ _) q
        · exact q.elim
      · exact q.elim
  · exact q.elim
end
end Mine
open PySem PySem.W PySem.Calls PyProof.Rows
open Builtin Builtin.Str
set_option Elab.async false
set_option linter.unusedVariables false
namespace Mine
section
variable {c : Cx} {n : Nat} {sc : SE}

theorem str_mk (x : Str) : x = ⟨x.cps.toList.toArray⟩ := by cases x; simp
theorem join_list_eq (sep : List Nat) (l : List Str) : (Str.join ⟨sep.toArray⟩ l).cps.toList = joinL sep (l.map fun y => y.cps.toList) := by
  have := str_join_eq sep (l.map fun y => y.cps.toList)
  rw [List.map_map] at this
  have e : l.map ((fun y : List Nat => (⟨y.toArray⟩ : Str)) ∘ fun y : Str => y.cps.toList) = l := by
    have : ((fun y : List Nat => (⟨y.toArray⟩ : Str)) ∘ fun y : Str => y.cps.toList) = _root_.id := by funext y; exact (str_mk y).symm
    rw [this, List.map_id]
  rw [e] at this
  rw [this]
theorem mem_join {sep : List Nat} : ∀ {ys : List (List Nat)} {y : List Nat} {ch : Nat}, y ∈ ys → ch ∈ y → ch ∈ joinL sep ys
  | [x], y, ch, hy, hc => by rcases List.mem_cons.mp hy with rfl | h; exact hc; cases h
  | x :: z :: r, y, ch, hy, hc => by
    simp only [joinL, List.mem_append]
    rcases List.mem_cons.mp hy with rfl | h
    · exact .inl (.inl hc)
    · exact .inr (mem_join h hc)

/-- how many of this sign stand at the end -/
def trl (ch : Nat) (x : List Nat) : Nat := (x.reverse.takeWhile fun d => d == ch).length
def fSRstrip : AF := fun ps Q H => match ps with
  | [.str x, .str [ch]] => szOk x.length ∧ Q (.str (x.take (x.length - trl ch x))) H
  | _ => False
end
end Mine
open PySem PySem.W PySem.Calls PyProof.Rows
open Builtin.Str
set_option Elab.async false
set_option linter.unusedVariables false
namespace Mine
section
variable {c : Cx} {n : Nat} {sc : SE}

-- a list lengthened in its place
theorem seq_list_iadd : seqSlot? (.type "list") (dunderI "add") = pure (some (.builtin "list.__iadd__")) := PySem.seqSlot_of F.slot_list_iadd.lookup (by decide +kernel)
theorem noFill_list_iadd : fillsInplaceSlot (.type "list") "add" (Operator.Add == .Add) = pure false := by
  unfold fillsInplaceSlot
  show (typeLookup (.type "list") (dunderI "add") >>= fun fi => pure (fi.isSome && !isSeqSlot fi)) = pure false
  rw [F.slot_list_iadd.lookup]
  have : ((some (Value.builtin "list.__iadd__")).isSome && !isSeqSlot (some (Value.builtin "list.__iadd__"))) = false := by decide +kernel
  show (pure ((some (Value.builtin "list.__iadd__")).isSome && !isSeqSlot (some (Value.builtin "list.__iadd__"))) : Sem Bool) = pure false
  rw [this]
theorem iadd_lists {prog : Program} {w : World} {A : Around} {E : Value → Shared → Prop} {s : Shared} {a b : Value} {Q : Value → Shared → Prop} (ha : s.TypeIs a "list") (hb : s.TypeIs b "list") (hc : wpAny (model prog w) A (call (.builtin "list.__iadd__") [a, b]) Q E s) :
    wpAny (model prog w) A (inplaceOp .Add a b) Q E s := by
  unfold inplaceOp
  refine wpAny_holding ?_
  refine wpAny_bind (wpAny_typeOf ha (wpAny_bind (wpAny_of_eq noFill_list_iadd ?_)))
  show wpAny (model prog w) A (if false = true then _ else _) Q E s
  rw [if_neg Bool.false_ne_true]
  refine wpAny_bind (PySem.wpAny_binaryOp1_none (nm := "add") ha hb noFill_list_add ?_)
  refine wpAny_bind (wpAny_of_eq seq_list_iadd ?_)
  exact wpAny_bind (wpAny_rule hc)
def opIAddX (a b : PV) (Q : PV → AH → Prop) (H : AH) : Prop := match a, b with
  | .int x, .int y => Q (.int (x + y)) H
  | .str x, .str y => szOk (x.length + y.length) ∧ Q (.str (x ++ y)) H
  | .ref a, .ref b => (match H a, H b with | some x, some y => (x.own = true ∧ x.items.length ≤ 1000000 ∧ y.items.length ≤ 1000000) ∧ Q (.ref a) (upd H a ⟨x.items ++ y.items, true⟩) | _, _ => False)
  | _, _ => False
theorem opIAddX_elim {a b : PV} {Q : PV → AH → Prop} {H : AH} (h : opIAddX a b Q H) : (∃ x y, a = .int x ∧ b = .int y ∧ Q (.int (x + y)) H) ∨ (∃ x y, a = .str x ∧ b = .str y ∧ szOk (x.length + y.length) ∧ Q (.str (x ++ y)) H) ∨ ∃ i j x y, a = .ref i ∧ b = .ref j ∧ H i = some x ∧ H j = some y ∧ (x.own = true ∧ x.items.length ≤ 1000000 ∧ y.items.length ≤ 1000000) ∧ Q (.ref i) (upd H i ⟨x.items ++ y.items, true⟩) := by
  unfold opIAddX at h
  split at h
  · exact .inl ⟨_, _, rfl, rfl, h⟩
  · exact .inr (.inl ⟨_, _, rfl, rfl, h⟩)
  · split at h
    · rename_i e1 e2; exact .inr (.inr ⟨_, _, _, _, rfl, rfl, e1, e2, h⟩)
    · exact h.elim
  · exact h.elim
theorem op_iaddx : SoundOp2 c n (inplaceOp .Add) opIAddX := by
  intro A H s va vb a b Q E hA h1 h2 S h
  rcases opIAddX_elim h with ⟨x, y, rfl, rfl, h⟩ | ⟨x, y, rfl, rfl, h⟩ | ⟨a, b, x, y, rfl, rfl, ha, hb, ⟨ho, hl1, hl2⟩, q⟩
  · cases h1; cases h2; exact PyProof.Rows.iadd_int (res_tok S (.int _ _) h)
  · cases h1 with
    | str _ t hx =>
    cases h2 with
    | str _ u hy =>
    refine PyProof.Rows.iadd_str (fun t' tk => ?_) (by rw [str_len, str_len]; exact sz_line h.1)
    rw [str_app]
    exact res_tok S (.str _ _ (by simpa [or_imp, forall_and] using ⟨hx, hy⟩)) h.2
  · cases h1; cases h2
    obtain ⟨vs, k, hL, hv⟩ := S.hr.list a x ha
    obtain ⟨ws, k', hL', hv'⟩ := S.hr.list b y hb
    have l1 : vs.size = x.items.length := by simpa using hv.length
    have l2 : ws.size = y.items.length := by simpa using hv'.length
    refine iadd_lists ⟨_, hL, rfl⟩ ⟨_, hL', rfl⟩ (call_meets F.slot_list_iadd ⟨_, hL, rfl⟩ F.entry_list_iadd (F.args_list_iadd_2 _ _) (AutoSeq1.list___iadd___list_list_0 a vs k b ws k' ?_ ?_ ?_) ⟨hL, hL', ?_⟩)
    · rw [l1, l2]
      intro e
      simp only [Bool.and_eq_true] at e
      have := e.2
      unfold Builtin.List.listTooLong at this
      simp only [decide_eq_true_eq] at this
      rw [sizeLine_eq] at this
      omega
    · rw [l1, sizeLine_eq]; omega
    · rw [l1, l2, sizeLine_eq]; omega
    · exact res_set (f := fun x => x ++ ws) S ha ho hL (by simpa using hv.append hv') (.ref a) q
theorem mo_iaddx : MonoO2 opIAddX := by
  intro a b Q Q' H h q
  unfold opIAddX at *
  split at q
  · exact h _ _ q
  · exact ⟨q.1, h _ _ q.2⟩
  · split at q
    · exact ⟨q.1, h _ _ q.2⟩
    · exact q.elim
  · exact q.elim

-- how often a text is in a list
def fCount : AF := fun ps Q H => match ps with
  | [.ref a, .str y] => (match H a with | some x => (match strsOf x.items with | some ys => Q (.int (ys.count y : Nat)) H | none => False) | none => False)
  | _ => False
theorem mf_count : MonoF fCount := by
  intro ps Q Q' H h q; unfold fCount at *
  split at q
  · split at q
    · split at q
      · exact h _ _ q
      · exact q.elim
    · exact q.elim
  · exact q.elim
theorem countIn_eq (y : List Nat) : ∀ ys : List (List Nat), Spec.countIn (.str ⟨y.toArray⟩) ((ys.map fun z => (⟨z.toArray⟩ : Str)).map PyData.str) = (ys.count y : Nat)
  | [] => rfl
  | z :: r => by
    have ih := countIn_eq y r
    simp only [List.map_cons, Spec.countIn]
    rw [ih, List.count_cons]
    have e : Spec.same (.str ⟨z.toArray⟩) (.str ⟨y.toArray⟩) = (z == y) := by
      show ((⟨z.toArray⟩ : Str) == ⟨y.toArray⟩) = _
      rw [mk_inj]; by_cases h : z = y <;> simp [h]
    rw [e]
    split <;> simp <;> omega
theorem me_count : SoundV c n (.builtin "list.count") fCount := by
  intro A H s vs ps Q E hA hv S q
  unfold fCount at q
  split at q
  · rename_i a y
    cases hv with
    | cons h1 h2 =>
      cases h2 with
      | cons h2 h3 =>
        cases h3
        cases h1
        cases h2 with
        | str _ t hy =>
        split at q
        · rename_i x hx
          split at q
          · rename_i ys hys
            obtain ⟨ws, k, hl, hv⟩ := S.hr.list _ x hx
            obtain ⟨h1, h2⟩ := strs_are hv hys
            refine count_list_strs (vs := ws.toList) (by simpa using hl.isList) h1 ?_
            rw [countIn_eq]
            exact res_tok S (.int _ _) q
          · exact q.elim
        · exact q.elim
  · exact q.elim

-- where a text lies in a text
def AtL (x y : List Nat) (k : Nat) : Prop := ∃ p q, x = p ++ y ++ q ∧ p.length = k
theorem at_iff (x y : List Nat) (k : Nat) : StrLaws.At ⟨x.toArray⟩ ⟨y.toArray⟩ (⟨x.toArray⟩ : Str).length k ↔ AtL x y k := by
  unfold StrLaws.At subAt AtL
  rw [str_len, str_len]
  have e : ((⟨x.toArray⟩ : Str).cps.extract k (k + y.length) == (⟨y.toArray⟩ : Str).cps) = decide ((x.drop k).take y.length = y) := by
    by_cases h : (x.drop k).take y.length = y
    · rw [decide_eq_true h, beq_iff_eq]
      apply Array.toList_inj.mp
      simpa using h
    · rw [decide_eq_false h, beq_eq_false_iff_ne]
      intro q
      have := congrArg Array.toList q
      exact h (by simpa using this)
  rw [e, decide_eq_true_eq]
  constructor
  · rintro ⟨h1, h2⟩
    refine ⟨x.take k, (x.drop k).drop y.length, ?_, by simp; omega⟩
    conv => lhs; rw [← List.take_append_drop k x, ← List.take_append_drop y.length (x.drop k), h2]
    simp
  · rintro ⟨p, q, rfl, rfl⟩
    exact ⟨by simp, by simp⟩
theorem occ_iff (x y : List Nat) : occIn y x = true ↔ ∃ k, AtL x y k := by
  unfold occIn
  have := StrLaws.found_iff ⟨x.toArray⟩ ⟨y.toArray⟩
  rw [← str_len x, this]
  constructor
  · rintro ⟨i, h⟩; exact ⟨i, (at_iff x y i).mp h⟩
  · rintro ⟨i, h⟩; exact ⟨i, (at_iff x y i).mpr h⟩
-- one text laid in another's place, all over
def fSReplace : AF := fun ps Q H => match ps with
  | [.str x, .str y, .str z] => (y ≠ z ∧ y ≠ [] ∧ x.length ≤ 10000 ∧ z.length ≤ 100) ∧ ∀ ws : List (List Nat), ws ≠ [] → joinL y ws = x → (occIn y x = true → 2 ≤ ws.length) → Q (.str (joinL z ws)) H
  | _ => False
theorem mf_sreplace : MonoF fSReplace := by
  intro ps Q Q' H h q; unfold fSReplace at *
  split at q
  · exact ⟨q.1, fun ws h1 h2 h3 => h _ _ (q.2 ws h1 h2 h3)⟩
  · exact q.elim
theorem replace_parts (x y z : List Nat) (hy : y ≠ []) : ∃ ws : List (List Nat), ws ≠ [] ∧ joinL y ws = x ∧ (occIn y x = true → 2 ≤ ws.length) ∧ Txt.replace ⟨x.toArray⟩ ⟨y.toArray⟩ ⟨z.toArray⟩ = ⟨(joinL z ws).toArray⟩ := by
  have hyl : 1 ≤ (⟨y.toArray⟩ : Str).length := by rw [str_len]; cases y with | nil => exact absurd rfl hy | cons _ _ => simp
  obtain ⟨f, hc, hf⟩ := StrLaws.occ_tight ⟨x.toArray⟩ ⟨y.toArray⟩ hyl
  obtain ⟨f', hc'⟩ := StrLaws.occ_chain ⟨x.toArray⟩ ⟨y.toArray⟩ ((⟨x.toArray⟩ : Str).length + 1)
  have hy0 : ((⟨y.toArray⟩ : Str).length == 0) = false := by
    have : (⟨y.toArray⟩ : Str).length ≠ 0 := by omega
    simpa using this
  unfold Txt.replace
  rw [hy0, Bool.false_and, Bool.or_false]
  cases ho : occurrences ⟨x.toArray⟩ ⟨y.toArray⟩ 0 (⟨x.toArray⟩ : Str).length ((⟨x.toArray⟩ : Str).length + 1) with
  | nil =>
    refine ⟨[x], by simp, rfl, fun h => ?_, by simp [joinL]⟩
    rw [ho] at hc
    have e : f = 0 := hc
    obtain ⟨k, hk⟩ := (occ_iff x y).mp h
    exact absurd ((at_iff x y k).mpr hk) (hf k (by omega))
  | cons c0 r =>
    have hj := StrLaws.join_partsFrom ⟨x.toArray⟩ ⟨y.toArray⟩ _ 0 f' hc'
    rw [StrLaws.sub_whole, ho] at hj
    obtain ⟨p, q, e⟩ := StrLaws.partsFrom_ne ⟨x.toArray⟩ (⟨y.toArray⟩ : Str).length (c0 + (⟨y.toArray⟩ : Str).length) r
    generalize hw : StrLaws.partsFrom ⟨x.toArray⟩ (⟨y.toArray⟩ : Str).length 0 (c0 :: r) = parts at hj
    have hlen : 2 ≤ parts.length := by
      rw [← hw]
      show 2 ≤ (strSub _ _ _ :: StrLaws.partsFrom ⟨x.toArray⟩ (⟨y.toArray⟩ : Str).length (c0 + (⟨y.toArray⟩ : Str).length) r).length
      rw [e]; simp
    refine ⟨parts.map fun w => w.cps.toList, by intro q; rw [List.map_eq_nil_iff] at q; rw [q] at hlen; simp at hlen, ?_, fun _ => by simpa using hlen, ?_⟩
    · rw [← join_list_eq, hj]
    · simp only [List.isEmpty_cons, Bool.false_eq_true, if_false]
      rw [StrLaws.partsBetween_eq, hw, StrLaws.glued_eq_join]
      rw [← join_list_eq, ← str_mk]
end
end Mine
open PySem PySem.W PySem.Calls PyProof.Rows
set_option Elab.async false
set_option linter.unusedVariables false
namespace Mine
section
variable {c : Cx} {n : Nat} {sc : SE}

theorem str_is {x : Str} {y : List Nat} (hx : x.cps.toList = y) : x = ⟨y.toArray⟩ := by subst hx; exact str_mk x
/-- x.replace(y, z), its two arguments constants, once a token is out -/
theorem replace_sound {A : Around} {env : Env} {ρ : AEnv} {H : AH} {s : Shared} {E : Value → Shared → Prop} {Q : PV → AH → Prop} {x : Str} {k ky kz : Nat} {y z : Str} {y' z' : List Nat} {p1 p2 p3 apos pos : Pos} (hA : AOk n A) (he : EOk sc env) (R : ER c.base c.N env ρ s.heap) (S : St c.base H s) (htk : 1 ≤ s.toks)
    (hx : c.N[k]? = some x) (hd : (x == ("__debug__" : Str)) = false) (hn : (x == ("__classdict__" : Str)) = false) (hy : y.cps.toList = y') (hz : z.cps.toList = z') (hy1 : (y'.all fun c => c < 0x110000) = true) (hz1 : (z'.all fun c => c < 0x110000) = true) (hline : (apos.endLine == pos.line) = true)
    (q : aMeth kStr fSReplace (aVar k) (lCons (aCst (.str y')) (lCons (aCst (.str z')) lNil)) Q ρ H) :
    wpAny (model c.prog c.w) A (eval (.Call (.Attribute (.Name x p1) "replace" apos) [.Constant (.str y) ky p2, .Constant (.str z) kz p3] [] pos) env) (Res c H s Q) E s := by
  refine wpAny_Call_method rfl rfl hline F.plainAttrs_str F.slot_str_replace F.type_str_replace ?_
  simp only [aMeth, aVar] at q
  cases hp : ρ k with
  | none => rw [hp] at q; exact q.elim
  | some p =>
    rw [hp] at q
    refine wpAny_Name (load_var he R hx hp (fun v hv => ?_) hn) hd
    obtain ⟨qk, q⟩ := q
    cases hv with
    | str w t hw =>
      refine ⟨typeIs_str _ _ _, fun a h => (nomatch h), ?_⟩
      refine callWith_builtin rfl (evalArgs_plain ?_)
      have : wpAny (model c.prog c.w) A (spliced (backTo pos (starEach [.Constant (.str y) ky p2, .Constant (.str z) kz p3] env))) (fun vs s' => wpAny (model c.prog c.w) A (call (.builtin "str.replace") (.str ⟨w.toArray⟩ t :: vs)) (Res c H s Q) E s') E s := by
        refine wpAny_items_cons (wpAny_Constant_str (wpAny_items_cons (wpAny_Constant_str (wpAny_items_nil ?_)))) rfl
        have q' : fSReplace [.str w, .str y', .str z'] Q H := q
        obtain ⟨⟨h1, h2, h3, h4⟩, q'⟩ := q'
        rw [str_is hy, str_is hz]
        refine SC.replace (by show s.toks ≠ 0; omega) (by show s.toks + 1 ≠ 0; omega) (by show s.toks ≠ s.toks + 1; omega) (by rw [mk_inj]; simpa using h1) ?_ fun t' tk => ?_
        · rw [str_len, str_len]
          have : (w.length + 1) * z'.length ≤ 10001 * 100 := Nat.mul_le_mul (by omega) h4
          omega
        · obtain ⟨ws, g1, g2, g3, g4⟩ := replace_parts w y' z' h2
          rw [g4]
          refine res_tok (s := s) S (.str _ _ fun ch hc => ?_) (q' ws g1 g2 g3)
          rcases join_mem hc with h | ⟨u, hu, h⟩
          · simpa using List.all_eq_true.mp hz1 ch h
          · exact hw ch (by rw [← g2]; exact mem_join hu h)
      exact this
    | _ => exact qk.elim

/-- while y in x: x = x.replace(y, z) -/
theorem stmt_while_replace {x : Str} {k ky kz kt : Nat} {y z : Str} {y' z' : List Nat} {p0 p1 p2 p3 p4 p5 p6 p7 p8 apos pos : Pos} (hx : c.N[k]? = some x)
    (hk : sc.names.lookup x = some .local ∨ (sc.names.lookup x = some .cell ∧ x ∉ sc.caps)) (hy : y.cps.toList = y' := by rfl) (hz : z.cps.toList = z' := by rfl) (hy1 : (y'.all fun c => c < 0x110000) = true := by rfl) (hz1 : (z'.all fun c => c < 0x110000) = true := by rfl)
    (hd : (x == ("__debug__" : Str)) = false := by decide) (hn : (x == ("__classdict__" : Str)) = false := by decide) (hline : (apos.endLine == pos.line) = true := by rfl) :
    SoundS c n sc (.While (.Compare (.Constant (.str y) kt p0) [.In] [.Name x p4] p5) [.Assign [.Name x p6] (.Call (.Attribute (.Name x p1) "replace" apos) [.Constant (.str y) ky p2, .Constant (.str z) kz p3] [] pos) p7] [] p8)
      (sWhile (tCmp .In (aCst (.str y')) (aVar k)) (sCons (sAssign (gName k) (aMeth kStr fSReplace (aVar k) (lCons (aCst (.str y')) (lCons (aCst (.str z')) lNil)))) sNil)) := by
  intro A env ρ H s Q E hA he R S q
  obtain ⟨m, q⟩ := q
  generalize hb : (sCons (sAssign (gName k) (aMeth kStr fSReplace (aVar k) (lCons (aCst (.str y')) (lCons (aCst (.str z')) lNil)))) sNil : AS) = b at q
  generalize ht : (tCmp .In (aCst (.str y')) (aVar k) : AT) = t at q
  refine wpAny_While (codeAny_whileLoop (fun k s' => ∃ ρ' H', ER c.base c.N env ρ' s'.heap ∧ St c.base H' s' ∧ Ext (Own env) No H s H' s' ∧ whileN t b Q k ρ' H') ?_ m ⟨ρ, H, R, S, .refl, q⟩)
  rintro m s' ⟨ρ', H', R', S', e', q'⟩
  cases m with
  | zero => exact q'.elim
  | succ m =>
    obtain ⟨F, hF, q'⟩ : ∃ F, F = (fun r H1 => if r then b (fun fl ρ2 H2 => match fl with
      | .next => whileN t b Q m ρ2 H2
      | .cont => whileN t b Q m ρ2 H2
      | .brk => Q .next ρ2 H2
      | .ret v => Q (.ret v) ρ2 H2) ρ' H1 else Q .next ρ' H1) ∧ t F ρ' H' := ⟨_, rfl, q'⟩
    rw [← ht] at q'
    refine wpAny_isTrue_Compare1 (wpAny_Constant_str ?_) rfl
    have S1 : St c.base H' { s' with toks := s'.toks + 1 } := S'.tok _
    have e1 : Ext No No H' s' H' { s' with toks := s'.toks + 1 } := .tok _
    simp only [tCmp, aCst] at q'
    have W : ∀ EE : Value → Shared → Prop, wpAny (model c.prog c.w) A (eval (.Name x p4) env) (fun vb s2 => wpAny (model c.prog c.w) A (compareOp .In (.str y s'.toks) vb) (fun cc s3 => wpAny (model c.prog c.w) A (truthy cc) (ResB c H' { s' with toks := s'.toks + 1 } F) EE s3) EE s2) EE { s' with toks := s'.toks + 1 } := by
      intro EE
      refine seq1 (sound_var (n := n) hx hd hn) hA he R' S1 q' fun vb pb H2 s2 h2 R2 S2 e2 q2 => ?_
      refine cmp_bool (a := .str y') hA (by rw [str_is hy]; exact .str y' _ (by simpa using hy1)) h2 S2 q2 fun r H3 s3 S3 e3 q3 => ?_
      exact wpAny_truthy_bool ⟨H3, S3, e2.trans e3, q3⟩
    have h1 : 1 ≤ ({ s' with toks := s'.toks + 1 } : Shared).toks := Nat.le_add_left _ _
    refine wpAny_mono (wpAny_toks_of h1 (W _)) (fun vb s2 ⟨t2, w2⟩ => wpAny_mono (wpAny_toks_of t2 w2) (fun cc s3 ⟨t3, w3⟩ => wpAny_mono (wpAny_toks_of t3 w3) (fun r s4 ⟨t4, H4, S4, e4, q4⟩ => ?_) fun _ _ x => x.2) fun _ _ x => x.2) fun _ _ x => x.2
    subst hF
    have e04 := e1.trans e4
    have R4 := R'.ext0 S' e04
    have e4' := e'.trans e04.of_no
    cases r with
    | false => exact wpAny_execs_nil ⟨.next, ρ', H4, .next, R4, S4, e4', by simpa using q4⟩
    | true =>
      simp only [if_true] at q4 ⊢
      have q5 : (sCons (sAssign (gName k) (aMeth kStr fSReplace (aVar k) (lCons (aCst (.str y')) (lCons (aCst (.str z')) lNil)))) sNil : AS) (fun fl ρ2 H2 => match fl with
        | .next => whileN t b Q m ρ2 H2
        | .cont => whileN t b Q m ρ2 H2
        | .brk => Q .next ρ2 H2
        | .ret v => Q (.ret v) ρ2 H2) ρ' H4 := by rw [hb]; exact q4
      have q6 : aMeth kStr fSReplace (aVar k) (lCons (aCst (.str y')) (lCons (aCst (.str z')) lNil)) (fun p H5 => whileN t b Q m (upd ρ' k p) H5) ρ' H4 := q5
      refine wpAny_execs_cons ?_
      show wpAny _ _ (do
        standAt p7
        if ← swapsWithSole [.Name x p6] _ p7.line env then do
          evalThenUse _ env fun v => assignAll v ((assignEach [.Name x p6] env).map (·.2))
          pure .next
        else do
          let v' ← eval (.Call (.Attribute (.Name x p1) "replace" apos) [.Constant (.str y) ky p2, .Constant (.str z) kz p3] [] pos) env
          assignStores env v' (← swappedStores [.Name x p6] (.Call (.Attribute (.Name x p1) "replace" apos) [.Constant (.str y) ky p2, .Constant (.str z) kz p3] [] pos) env) ((assignEach [.Name x p6] env).map (·.2))) _ _ _
      refine wpAny_bind (wpAny_standAt (wpAny_bind (wpAny_pure ?_)))
      simp only [Bool.false_eq_true, if_false]
      refine wpAny_bind (wpAny_mono (replace_sound hA he R4 S4 t4 hx hd hn hy hz hy1 hz1 hline q6) (fun va s5 ⟨pa, H5, h5, S5, e5, q5⟩ => ?_) fun _ _ x => x)
      refine wpAny_bind (wpAny_pure ?_)
      show wpAny _ _ (assign (.Name x p6) env va >>= fun _ => pure Flow.next) _ _ _
      refine wpAny_bind (wpAny_assign_Name (store_var he (R4.ext0 S4 e5) S5 hx hk h5 fun s6 R6 S6 e6 => wpAny_pure ?_))
      exact wpAny_execs_nil ⟨m, Nat.lt_succ_self _, _, H5, R6, S6, (e4'.trans e5.of_no).trans e6, q5⟩
end
end Mine
open PySem PySem.W PySem.Calls PyProof.Rows
set_option Elab.async false
set_option linter.unusedVariables false
set_option linter.unusedSimpArgs false
set_option maxRecDepth 100000
set_option maxHeartbeats 8000000
namespace Mine
local macro_rules | `(tactic| walk_at "ev") => `(tactic| try simp only [sCons, sNil, sAssign, sRet, sRet0, sIf, sExpr, sFor, sAugSub, sAug, sCont, gName, gSub, gTup, gTup.go, aVar, aCst, aBin, aUn, aIf, aTup, aList, lCons, lNil, aCall, aMeth, aCmp, aSlice, tCmp, tCmp2, tAnd, tOr, tNot, tVal, tTrue, tFalse, upd_at, if_true, if_false, Bool.false_eq_true, decide_true, decide_false, decide_eq_true_eq, opItem, opAdd, opIAdd, opIAddX, opSub, opMul, opDiv, opMod, opNeg, cmpOp, cmpLt, cmpIn, cmpIs, eq_int, eq_str, eq_bool, occ_one, truth, kList, kStr, fLen, fRange, fList, fTuple, fChr, fSJoin, fAll, fAny, fCount, fSRstrip, fSum, fMin, joinL_nil, fAppend, fInsert, fPop, withOwn, withItems, setAt, nth_zero, nth_one, nth_two, nth_last, kOk, bindP, List.length_cons, List.length_nil, List.isEmpty_cons, List.isEmpty_nil, List.map_nil, List.map_cons, Nat.reduceAdd, Nat.reduceEqDiff, Nat.succ_ne_self, Int.reduceNeg, Int.reduceLE, Int.reduceLT, Int.reduceEq, Int.cast_ofNat_Int, Int.toNat_zero, Int.toNat_one, Int.reduceToNat, Int.le_refl, List.getElem?_cons_zero, List.getElem?_cons_succ, reduceIte, reduceCtorEq, true_and, and_true, and_self, not_true_eq_false, not_false_eq_true, Bool.not_true, Bool.not_false, Bool.not_eq_true, Bool.not_eq_false, ne_eq, decide_not])
local macro_rules | `(tactic| exists $es,*) => `(tactic| try simp only [$[$es:term],*, sNil, sAssign, sRet, sRet0, sIf, sExpr, sAugSub, sAug, sCont, gName, gSub, gTup, gTup.go, aVar, aCst, aBin, aUn, aIf, aTup, aList, lCons, lNil, aCall, aMeth, aCmp, aSlice, tCmp, tCmp2, tAnd, tOr, tNot, tVal, tTrue, tFalse, upd_at, if_true, if_false, Bool.false_eq_true, decide_true, decide_false, decide_eq_true_eq, opItem, opAdd, opIAdd, opIAddX, opSub, opMul, opDiv, opMod, opNeg, cmpOp, cmpLt, cmpIn, cmpIs, eq_int, eq_str, eq_bool, occ_one, truth, kList, kStr, fLen, fRange, fList, fTuple, fChr, fSJoin, fAll, fAny, fCount, fSRstrip, fSum, fMin, joinL_nil, fAppend, fInsert, fPop, withOwn, withItems, setAt, nth_zero, nth_one, nth_two, nth_last, kOk, bindP, List.length_cons, List.length_nil, List.isEmpty_cons, List.isEmpty_nil, List.map_nil, List.map_cons, Nat.reduceAdd, Nat.reduceEqDiff, Nat.succ_ne_self, Int.reduceNeg, Int.reduceLE, Int.reduceLT, Int.reduceEq, Int.cast_ofNat_Int, Int.toNat_zero, Int.toNat_one, Int.reduceToNat, Int.le_refl, List.getElem?_cons_zero, List.getElem?_cons_succ, reduceIte, reduceCtorEq, true_and, and_true, and_self, not_true_eq_false, not_false_eq_true, Bool.not_true, Bool.not_false, Bool.not_eq_true, Bool.not_eq_false, ne_eq, decide_not])
local macro_rules | `(tactic| walk_at "st") => `(tactic| refine seq ?_)
abbrev prg : Program := PySem.Challenge.pw_dm0098_12
def NN : List Str := [Str.ofString "addr", Str.ofString "escape", Str.ofString "pos", Str.ofString "ch", Str.ofString "result", Str.ofString "start", Str.ofString "open_pos", Str.ofString "opens", Str.ofString "email_header_fields", Str.ofString "accepted_values", Str.ofString "v", Str.ofString "n", Str.ofString "c", Str.ofString "k", Str.ofString "m", Str.ofString "units", Str.ofString "out", Str.ofString "at", Str.ofString "marks", Str.ofString "j", Str.ofString "i", Str.ofString "unit", Str.ofString "width", Str.ofString "text", Str.ofString "script", Str.ofString "fields", Str.ofString "behind", Str.ofString "want", Str.ofString "good", Str.ofString "cut", Str.ofString "left", Str.ofString "outer", Str.ofString "ahead"]
theorem NN_nodup : NN.Nodup := by decide +kernel
def gl__iter_escaped_chars_1 : AG := gCons (gIf (tVal (aVar 1)) (gCons (gYield (aTup (lCons (aVar 2) (lCons (aBin opAdd (aCst (.str [92])) (aVar 3)) (lNil))))) <|
    gCons (gLift (sAssign (gName 1) (aCst (.bool false)))) <|
    gNil) (gCons (gIf (tCmp .Eq (aVar 3) (aCst (.str [92]))) (gCons (gLift (sAssign (gName 1) (aCst (.bool true)))) <|
    gNil) (gCons (gYield (aTup (lCons (aVar 2) (lCons (aVar 3) (lNil))))) <|
    gNil)) <|
    gNil)) <|
    gNil
def g__iter_escaped_chars : AG := gCons (gLift (sAssign (gName 2) (aCst (.int 0)))) <|
    gCons (gLift (sAssign (gName 1) (aCst (.bool false)))) <|
    gCons (gForEnum (gTup [gName 2, gName 3]) (aVar 0) (gl__iter_escaped_chars_1)) <|
    gCons (gIf (tVal (aVar 1)) (gCons (gYield (aTup (lCons (aVar 2) (lCons (aCst (.str [92])) (lNil))))) <|
    gNil) (gNil)) <|
    gNil
theorem s__iter_escaped_chars (c : Cx) (hd : fnRec prg 1 ∈ recsOf c.q) (b_enumerate : c.mg (Str.ofString "enumerate") = none) : GenF (c.on NN NN_nodup) 1 (Str.ofString "_iter_escaped_chars") [0] g__iter_escaped_chars :=
  sound_gen (c := c.on NN NN_nodup) (d := fnRec prg 1) (xs := [Str.ofString "addr"]) hd (
    g_cons (g_lift (stmt_assign (sound_int) (tgt_name rfl (.inl (by decide +kernel))))) <|
    g_cons (g_lift (stmt_assign (sound_bool) (tgt_name rfl (.inl (by decide +kernel))))) <|
    g_cons (g_for_enum (sound_var rfl) (tgt_tup (.cons (tgt_name rfl (.inl (by decide +kernel))) (fun _ => rfl) (.cons (tgt_name rfl (.inl (by decide +kernel))) (fun _ => rfl) (.nil)))) (g_cons (g_if (test_val (sound_var rfl)) (g_cons (g_yield (sound_tup (list_cons (sound_var rfl) (list_cons (sound_bin op_add (sound_str) (sound_var rfl)) (list_nil))))) <|
    g_cons (g_lift (stmt_assign (sound_bool) (tgt_name rfl (.inl (by decide +kernel))))) <|
    g_nil) (g_cons (g_if (test_cmp (sound_var rfl) (sound_str)) (g_cons (g_lift (stmt_assign (sound_bool) (tgt_name rfl (.inl (by decide +kernel))))) <|
    g_nil) (g_cons (g_yield (sound_tup (list_cons (sound_var rfl) (list_cons (sound_var rfl) (list_nil))))) <|
    g_nil)) <|
    g_nil)) <|
    g_nil) b_enumerate (by decide +kernel) (by decide +kernel)) <|
    g_cons (g_if (test_val (sound_var rfl)) (g_cons (g_yield (sound_tup (list_cons (sound_var rfl) (list_cons (sound_str) (list_nil))))) <|
    g_nil) (g_nil)) <|
    g_nil) rfl (by decide +kernel) (fun _ _ _ vs h => by match vs, h with | [v0], _ => rfl) (by decide +kernel) (by decide +kernel)
def l__strip_quoted_realnames_1 : AS := sCons (sExpr (aMeth kList fAppend (aVar 4) (lCons (aSlice (aVar 0) (aVar 5) (aCst .none) (aCst .none)) (lNil)))) <|
    sNil
theorem m_l__strip_quoted_realnames_1 : MonoS l__strip_quoted_realnames_1 := by
  unfold l__strip_quoted_realnames_1
  repeat' first | with_reducible apply m_var | with_reducible apply m_cst | with_reducible apply ms_nil | with_reducible apply ms_cons | with_reducible apply ms_assign | with_reducible apply ms_ret | with_reducible apply ms_ret0 | with_reducible apply ms_cont | with_reducible apply ms_if | with_reducible apply ms_expr | with_reducible apply ms_aug | with_reducible apply ms_augsub | with_reducible apply ms_for | with_reducible apply ms_while | with_reducible apply m_bin | with_reducible apply m_un | with_reducible apply m_cmp | with_reducible apply mt_val | with_reducible apply mt_not | with_reducible apply mt_and | with_reducible apply mt_or | with_reducible apply mt_true | with_reducible apply mt_false | with_reducible apply mt_cmp | with_reducible apply mt_cmp2 | with_reducible apply m_not | with_reducible apply m_if | with_reducible apply m_and | with_reducible apply m_or | with_reducible apply ml_nil | with_reducible apply ml_cons | with_reducible apply m_tup | with_reducible apply m_list | with_reducible apply m_call | with_reducible apply m_meth | with_reducible apply m_slice | with_reducible apply m_comp | with_reducible apply m_genlist | with_reducible apply ms_forg | with_reducible apply mg_name | with_reducible apply mg_sub | with_reducible apply mg_tup | with_reducible apply MonoGs.nil | with_reducible apply MonoGs.cons | with_reducible apply mo_add | with_reducible apply mo_iadd | with_reducible apply mo_sub | with_reducible apply mo_mul | with_reducible apply mo_div | with_reducible apply mo_mod | with_reducible apply mo_neg | with_reducible apply mo_item | with_reducible apply mf_len | with_reducible apply mf_range | with_reducible apply mf_list | with_reducible apply mf_tuple | with_reducible apply mf_append | with_reducible apply mf_insert | with_reducible apply mf_pop | with_reducible apply mf_chr | with_reducible apply mf_sjoin | with_reducible apply mf_all | with_reducible apply mf_any | with_reducible apply mf_sum | with_reducible apply mf_min | with_reducible apply mf_ssplit | with_reducible apply mf_srstrip | with_reducible apply mf_count | with_reducible apply mf_srfind | with_reducible apply mf_sreplace | with_reducible apply mo_iaddx
def l__strip_quoted_realnames_2 : AS := sCons (sAssign (gName 6) (aVar 2)) <|
    sNil
theorem m_l__strip_quoted_realnames_2 : MonoS l__strip_quoted_realnames_2 := by
  unfold l__strip_quoted_realnames_2
  repeat' first | with_reducible apply m_var | with_reducible apply m_cst | with_reducible apply ms_nil | with_reducible apply ms_cons | with_reducible apply ms_assign | with_reducible apply ms_ret | with_reducible apply ms_ret0 | with_reducible apply ms_cont | with_reducible apply ms_if | with_reducible apply ms_expr | with_reducible apply ms_aug | with_reducible apply ms_augsub | with_reducible apply ms_for | with_reducible apply ms_while | with_reducible apply m_bin | with_reducible apply m_un | with_reducible apply m_cmp | with_reducible apply mt_val | with_reducible apply mt_not | with_reducible apply mt_and | with_reducible apply mt_or | with_reducible apply mt_true | with_reducible apply mt_false | with_reducible apply mt_cmp | with_reducible apply mt_cmp2 | with_reducible apply m_not | with_reducible apply m_if | with_reducible apply m_and | with_reducible apply m_or | with_reducible apply ml_nil | with_reducible apply ml_cons | with_reducible apply m_tup | with_reducible apply m_list | with_reducible apply m_call | with_reducible apply m_meth | with_reducible apply m_slice | with_reducible apply m_comp | with_reducible apply m_genlist | with_reducible apply ms_forg | with_reducible apply mg_name | with_reducible apply mg_sub | with_reducible apply mg_tup | with_reducible apply MonoGs.nil | with_reducible apply MonoGs.cons | with_reducible apply mo_add | with_reducible apply mo_iadd | with_reducible apply mo_sub | with_reducible apply mo_mul | with_reducible apply mo_div | with_reducible apply mo_mod | with_reducible apply mo_neg | with_reducible apply mo_item | with_reducible apply mf_len | with_reducible apply mf_range | with_reducible apply mf_list | with_reducible apply mf_tuple | with_reducible apply mf_append | with_reducible apply mf_insert | with_reducible apply mf_pop | with_reducible apply mf_chr | with_reducible apply mf_sjoin | with_reducible apply mf_all | with_reducible apply mf_any | with_reducible apply mf_sum | with_reducible apply mf_min | with_reducible apply mf_ssplit | with_reducible apply mf_srstrip | with_reducible apply mf_count | with_reducible apply mf_srfind | with_reducible apply mf_sreplace | with_reducible apply mo_iaddx | with_reducible apply m_l__strip_quoted_realnames_1
def l__strip_quoted_realnames_3 : AS := sCons (sExpr (aMeth kList fAppend (aVar 4) (lCons (aSlice (aVar 0) (aVar 5) (aVar 6) (aCst .none)) (lNil)))) <|
    sNil
theorem m_l__strip_quoted_realnames_3 : MonoS l__strip_quoted_realnames_3 := by
  unfold l__strip_quoted_realnames_3
  repeat' first | with_reducible apply m_var | with_reducible apply m_cst | with_reducible apply ms_nil | with_reducible apply ms_cons | with_reducible apply ms_assign | with_reducible apply ms_ret | with_reducible apply ms_ret0 | with_reducible apply ms_cont | with_reducible apply ms_if | with_reducible apply ms_expr | with_reducible apply ms_aug | with_reducible apply ms_augsub | with_reducible apply ms_for | with_reducible apply ms_while | with_reducible apply m_bin | with_reducible apply m_un | with_reducible apply m_cmp | with_reducible apply mt_val | with_reducible apply mt_not | with_reducible apply mt_and | with_reducible apply mt_or | with_reducible apply mt_true | with_reducible apply mt_false | with_reducible apply mt_cmp | with_reducible apply mt_cmp2 | with_reducible apply m_not | with_reducible apply m_if | with_reducible apply m_and | with_reducible apply m_or | with_reducible apply ml_nil | with_reducible apply ml_cons | with_reducible apply m_tup | with_reducible apply m_list | with_reducible apply m_call | with_reducible apply m_meth | with_reducible apply m_slice | with_reducible apply m_comp | with_reducible apply m_genlist | with_reducible apply ms_forg | with_reducible apply mg_name | with_reducible apply mg_sub | with_reducible apply mg_tup | with_reducible apply MonoGs.nil | with_reducible apply MonoGs.cons | with_reducible apply mo_add | with_reducible apply mo_iadd | with_reducible apply mo_sub | with_reducible apply mo_mul | with_reducible apply mo_div | with_reducible apply mo_mod | with_reducible apply mo_neg | with_reducible apply mo_item | with_reducible apply mf_len | with_reducible apply mf_range | with_reducible apply mf_list | with_reducible apply mf_tuple | with_reducible apply mf_append | with_reducible apply mf_insert | with_reducible apply mf_pop | with_reducible apply mf_chr | with_reducible apply mf_sjoin | with_reducible apply mf_all | with_reducible apply mf_any | with_reducible apply mf_sum | with_reducible apply mf_min | with_reducible apply mf_ssplit | with_reducible apply mf_srstrip | with_reducible apply mf_count | with_reducible apply mf_srfind | with_reducible apply mf_sreplace | with_reducible apply mo_iaddx | with_reducible apply m_l__strip_quoted_realnames_1 | with_reducible apply m_l__strip_quoted_realnames_2
def l__strip_quoted_realnames_4 : AS := sCons (sIf (tCmp .NotEq (aVar 5) (aVar 6)) (l__strip_quoted_realnames_3) (sNil)) <|
    sCons (sAssign (gName 5) (aBin opAdd (aVar 2) (aCst (.int 1)))) <|
    sCons (sAssign (gName 6) (aCst .none)) <|
    sNil
theorem m_l__strip_quoted_realnames_4 : MonoS l__strip_quoted_realnames_4 := by
  unfold l__strip_quoted_realnames_4
  repeat' first | with_reducible apply m_var | with_reducible apply m_cst | with_reducible apply ms_nil | with_reducible apply ms_cons | with_reducible apply ms_assign | with_reducible apply ms_ret | with_reducible apply ms_ret0 | with_reducible apply ms_cont | with_reducible apply ms_if | with_reducible apply ms_expr | with_reducible apply ms_aug | with_reducible apply ms_augsub | with_reducible apply ms_for | with_reducible apply ms_while | with_reducible apply m_bin | with_reducible apply m_un | with_reducible apply m_cmp | with_reducible apply mt_val | with_reducible apply mt_not | with_reducible apply mt_and | with_reducible apply mt_or | with_reducible apply mt_true | with_reducible apply mt_false | with_reducible apply mt_cmp | with_reducible apply mt_cmp2 | with_reducible apply m_not | with_reducible apply m_if | with_reducible apply m_and | with_reducible apply m_or | with_reducible apply ml_nil | with_reducible apply ml_cons | with_reducible apply m_tup | with_reducible apply m_list | with_reducible apply m_call | with_reducible apply m_meth | with_reducible apply m_slice | with_reducible apply m_comp | with_reducible apply m_genlist | with_reducible apply ms_forg | with_reducible apply mg_name | with_reducible apply mg_sub | with_reducible apply mg_tup | with_reducible apply MonoGs.nil | with_reducible apply MonoGs.cons | with_reducible apply mo_add | with_reducible apply mo_iadd | with_reducible apply mo_sub | with_reducible apply mo_mul | with_reducible apply mo_div | with_reducible apply mo_mod | with_reducible apply mo_neg | with_reducible apply mo_item | with_reducible apply mf_len | with_reducible apply mf_range | with_reducible apply mf_list | with_reducible apply mf_tuple | with_reducible apply mf_append | with_reducible apply mf_insert | with_reducible apply mf_pop | with_reducible apply mf_chr | with_reducible apply mf_sjoin | with_reducible apply mf_all | with_reducible apply mf_any | with_reducible apply mf_sum | with_reducible apply mf_min | with_reducible apply mf_ssplit | with_reducible apply mf_srstrip | with_reducible apply mf_count | with_reducible apply mf_srfind | with_reducible apply mf_sreplace | with_reducible apply mo_iaddx | with_reducible apply m_l__strip_quoted_realnames_1 | with_reducible apply m_l__strip_quoted_realnames_2 | with_reducible apply m_l__strip_quoted_realnames_3
def l__strip_quoted_realnames_5 : AS := sCons (sIf (tCmp .Is (aVar 6) (aCst .none)) (l__strip_quoted_realnames_2) (l__strip_quoted_realnames_4)) <|
    sNil
theorem m_l__strip_quoted_realnames_5 : MonoS l__strip_quoted_realnames_5 := by
  unfold l__strip_quoted_realnames_5
  repeat' first | with_reducible apply m_var | with_reducible apply m_cst | with_reducible apply ms_nil | with_reducible apply ms_cons | with_reducible apply ms_assign | with_reducible apply ms_ret | with_reducible apply ms_ret0 | with_reducible apply ms_cont | with_reducible apply ms_if | with_reducible apply ms_expr | with_reducible apply ms_aug | with_reducible apply ms_augsub | with_reducible apply ms_for | with_reducible apply ms_while | with_reducible apply m_bin | with_reducible apply m_un | with_reducible apply m_cmp | with_reducible apply mt_val | with_reducible apply mt_not | with_reducible apply mt_and | with_reducible apply mt_or | with_reducible apply mt_true | with_reducible apply mt_false | with_reducible apply mt_cmp | with_reducible apply mt_cmp2 | with_reducible apply m_not | with_reducible apply m_if | with_reducible apply m_and | with_reducible apply m_or | with_reducible apply ml_nil | with_reducible apply ml_cons | with_reducible apply m_tup | with_reducible apply m_list | with_reducible apply m_call | with_reducible apply m_meth | with_reducible apply m_slice | with_reducible apply m_comp | with_reducible apply m_genlist | with_reducible apply ms_forg | with_reducible apply mg_name | with_reducible apply mg_sub | with_reducible apply mg_tup | with_reducible apply MonoGs.nil | with_reducible apply MonoGs.cons | with_reducible apply mo_add | with_reducible apply mo_iadd | with_reducible apply mo_sub | with_reducible apply mo_mul | with_reducible apply mo_div | with_reducible apply mo_mod | with_reducible apply mo_neg | with_reducible apply mo_item | with_reducible apply mf_len | with_reducible apply mf_range | with_reducible apply mf_list | with_reducible apply mf_tuple | with_reducible apply mf_append | with_reducible apply mf_insert | with_reducible apply mf_pop | with_reducible apply mf_chr | with_reducible apply mf_sjoin | with_reducible apply mf_all | with_reducible apply mf_any | with_reducible apply mf_sum | with_reducible apply mf_min | with_reducible apply mf_ssplit | with_reducible apply mf_srstrip | with_reducible apply mf_count | with_reducible apply mf_srfind | with_reducible apply mf_sreplace | with_reducible apply mo_iaddx | with_reducible apply m_l__strip_quoted_realnames_1 | with_reducible apply m_l__strip_quoted_realnames_2 | with_reducible apply m_l__strip_quoted_realnames_3 | with_reducible apply m_l__strip_quoted_realnames_4
def l__strip_quoted_realnames_6 : AS := sCons (sIf (tCmp .Eq (aVar 3) (aCst (.str [34]))) (l__strip_quoted_realnames_5) (sNil)) <|
    sNil
theorem m_l__strip_quoted_realnames_6 : MonoS l__strip_quoted_realnames_6 := by
  unfold l__strip_quoted_realnames_6
  repeat' first | with_reducible apply m_var | with_reducible apply m_cst | with_reducible apply ms_nil | with_reducible apply ms_cons | with_reducible apply ms_assign | with_reducible apply ms_ret | with_reducible apply ms_ret0 | with_reducible apply ms_cont | with_reducible apply ms_if | with_reducible apply ms_expr | with_reducible apply ms_aug | with_reducible apply ms_augsub | with_reducible apply ms_for | with_reducible apply ms_while | with_reducible apply m_bin | with_reducible apply m_un | with_reducible apply m_cmp | with_reducible apply mt_val | with_reducible apply mt_not | with_reducible apply mt_and | with_reducible apply mt_or | with_reducible apply mt_true | with_reducible apply mt_false | with_reducible apply mt_cmp | with_reducible apply mt_cmp2 | with_reducible apply m_not | with_reducible apply m_if | with_reducible apply m_and | with_reducible apply m_or | with_reducible apply ml_nil | with_reducible apply ml_cons | with_reducible apply m_tup | with_reducible apply m_list | with_reducible apply m_call | with_reducible apply m_meth | with_reducible apply m_slice | with_reducible apply m_comp | with_reducible apply m_genlist | with_reducible apply ms_forg | with_reducible apply mg_name | with_reducible apply mg_sub | with_reducible apply mg_tup | with_reducible apply MonoGs.nil | with_reducible apply MonoGs.cons | with_reducible apply mo_add | with_reducible apply mo_iadd | with_reducible apply mo_sub | with_reducible apply mo_mul | with_reducible apply mo_div | with_reducible apply mo_mod | with_reducible apply mo_neg | with_reducible apply mo_item | with_reducible apply mf_len | with_reducible apply mf_range | with_reducible apply mf_list | with_reducible apply mf_tuple | with_reducible apply mf_append | with_reducible apply mf_insert | with_reducible apply mf_pop | with_reducible apply mf_chr | with_reducible apply mf_sjoin | with_reducible apply mf_all | with_reducible apply mf_any | with_reducible apply mf_sum | with_reducible apply mf_min | with_reducible apply mf_ssplit | with_reducible apply mf_srstrip | with_reducible apply mf_count | with_reducible apply mf_srfind | with_reducible apply mf_sreplace | with_reducible apply mo_iaddx | with_reducible apply m_l__strip_quoted_realnames_1 | with_reducible apply m_l__strip_quoted_realnames_2 | with_reducible apply m_l__strip_quoted_realnames_3 | with_reducible apply m_l__strip_quoted_realnames_4 | with_reducible apply m_l__strip_quoted_realnames_5
def l__strip_quoted_realnames_7 : AS := sCons (sRet (aVar 0)) <|
    sNil
theorem m_l__strip_quoted_realnames_7 : MonoS l__strip_quoted_realnames_7 := by
  unfold l__strip_quoted_realnames_7
  repeat' first | with_reducible apply m_var | with_reducible apply m_cst | with_reducible apply ms_nil | with_reducible apply ms_cons | with_reducible apply ms_assign | with_reducible apply ms_ret | with_reducible apply ms_ret0 | with_reducible apply ms_cont | with_reducible apply ms_if | with_reducible apply ms_expr | with_reducible apply ms_aug | with_reducible apply ms_augsub | with_reducible apply ms_for | with_reducible apply ms_while | with_reducible apply m_bin | with_reducible apply m_un | with_reducible apply m_cmp | with_reducible apply mt_val | with_reducible apply mt_not | with_reducible apply mt_and | with_reducible apply mt_or | with_reducible apply mt_true | with_reducible apply mt_false | with_reducible apply mt_cmp | with_reducible apply mt_cmp2 | with_reducible apply m_not | with_reducible apply m_if | with_reducible apply m_and | with_reducible apply m_or | with_reducible apply ml_nil | with_reducible apply ml_cons | with_reducible apply m_tup | with_reducible apply m_list | with_reducible apply m_call | with_reducible apply m_meth | with_reducible apply m_slice | with_reducible apply m_comp | with_reducible apply m_genlist | with_reducible apply ms_forg | with_reducible apply mg_name | with_reducible apply mg_sub | with_reducible apply mg_tup | with_reducible apply MonoGs.nil | with_reducible apply MonoGs.cons | with_reducible apply mo_add | with_reducible apply mo_iadd | with_reducible apply mo_sub | with_reducible apply mo_mul | with_reducible apply mo_div | with_reducible apply mo_mod | with_reducible apply mo_neg | with_reducible apply mo_item | with_reducible apply mf_len | with_reducible apply mf_range | with_reducible apply mf_list | with_reducible apply mf_tuple | with_reducible apply mf_append | with_reducible apply mf_insert | with_reducible apply mf_pop | with_reducible apply mf_chr | with_reducible apply mf_sjoin | with_reducible apply mf_all | with_reducible apply mf_any | with_reducible apply mf_sum | with_reducible apply mf_min | with_reducible apply mf_ssplit | with_reducible apply mf_srstrip | with_reducible apply mf_count | with_reducible apply mf_srfind | with_reducible apply mf_sreplace | with_reducible apply mo_iaddx | with_reducible apply m_l__strip_quoted_realnames_1 | with_reducible apply m_l__strip_quoted_realnames_2 | with_reducible apply m_l__strip_quoted_realnames_3 | with_reducible apply m_l__strip_quoted_realnames_4 | with_reducible apply m_l__strip_quoted_realnames_5 | with_reducible apply m_l__strip_quoted_realnames_6
def f__strip_quoted_realnames : AF := aFn [0] <|
    sCons (sIf (tCmp .NotIn (aCst (.str [34])) (aVar 0)) (l__strip_quoted_realnames_7) (sNil)) <|
    sCons (sAssign (gName 5) (aCst (.int 0))) <|
    sCons (sAssign (gName 6) (aCst .none)) <|
    sCons (sAssign (gName 4) (aList (lNil))) <|
    sCons (sForG (gTup [gName 2, gName 3]) [0] g__iter_escaped_chars (lCons (aVar 0) (lNil)) (l__strip_quoted_realnames_6)) <|
    sCons (sIf (tCmp .Lt (aVar 5) (aCall fLen (lCons (aVar 0) (lNil)))) (l__strip_quoted_realnames_1) (sNil)) <|
    sCons (sRet (aMeth kStr fSJoin (aCst (.str [])) (lCons (aVar 4) (lNil)))) <|
    sNil
theorem m_f__strip_quoted_realnames : MonoF f__strip_quoted_realnames := by
  unfold f__strip_quoted_realnames
  apply mf_fn
  repeat' first | with_reducible apply m_var | with_reducible apply m_cst | with_reducible apply ms_nil | with_reducible apply ms_cons | with_reducible apply ms_assign | with_reducible apply ms_ret | with_reducible apply ms_ret0 | with_reducible apply ms_cont | with_reducible apply ms_if | with_reducible apply ms_expr | with_reducible apply ms_aug | with_reducible apply ms_augsub | with_reducible apply ms_for | with_reducible apply ms_while | with_reducible apply m_bin | with_reducible apply m_un | with_reducible apply m_cmp | with_reducible apply mt_val | with_reducible apply mt_not | with_reducible apply mt_and | with_reducible apply mt_or | with_reducible apply mt_true | with_reducible apply mt_false | with_reducible apply mt_cmp | with_reducible apply mt_cmp2 | with_reducible apply m_not | with_reducible apply m_if | with_reducible apply m_and | with_reducible apply m_or | with_reducible apply ml_nil | with_reducible apply ml_cons | with_reducible apply m_tup | with_reducible apply m_list | with_reducible apply m_call | with_reducible apply m_meth | with_reducible apply m_slice | with_reducible apply m_comp | with_reducible apply m_genlist | with_reducible apply ms_forg | with_reducible apply mg_name | with_reducible apply mg_sub | with_reducible apply mg_tup | with_reducible apply MonoGs.nil | with_reducible apply MonoGs.cons | with_reducible apply mo_add | with_reducible apply mo_iadd | with_reducible apply mo_sub | with_reducible apply mo_mul | with_reducible apply mo_div | with_reducible apply mo_mod | with_reducible apply mo_neg | with_reducible apply mo_item | with_reducible apply mf_len | with_reducible apply mf_range | with_reducible apply mf_list | with_reducible apply mf_tuple | with_reducible apply mf_append | with_reducible apply mf_insert | with_reducible apply mf_pop | with_reducible apply mf_chr | with_reducible apply mf_sjoin | with_reducible apply mf_all | with_reducible apply mf_any | with_reducible apply mf_sum | with_reducible apply mf_min | with_reducible apply mf_ssplit | with_reducible apply mf_srstrip | with_reducible apply mf_count | with_reducible apply mf_srfind | with_reducible apply mf_sreplace | with_reducible apply mo_iaddx | with_reducible apply m_l__strip_quoted_realnames_1 | with_reducible apply m_l__strip_quoted_realnames_2 | with_reducible apply m_l__strip_quoted_realnames_3 | with_reducible apply m_l__strip_quoted_realnames_4 | with_reducible apply m_l__strip_quoted_realnames_5 | with_reducible apply m_l__strip_quoted_realnames_6 | with_reducible apply m_l__strip_quoted_realnames_7
theorem s__strip_quoted_realnames (c : Cx) (hd : fnRec prg 2 ∈ recsOf c.q) (h__iter_escaped_chars : GenF (c.on NN NN_nodup) 1 (Str.ofString "_iter_escaped_chars") [0] g__iter_escaped_chars) (b_len : c.mg (Str.ofString "len") = none) : SoundF (c.on NN NN_nodup) 5 (Str.ofString "_strip_quoted_realnames") f__strip_quoted_realnames :=
  sound_fn (c := c.on NN NN_nodup) (d := fnRec prg 2) (xs := [Str.ofString "addr"]) hd (
    block_cons (stmt_if (test_cmp (sound_str) (sound_var rfl)) (block_cons (stmt_ret (sound_var rfl)) <|
    block_nil) (block_nil)) <|
    block_cons (stmt_assign (sound_int) (tgt_name rfl (.inl (by decide +kernel)))) <|
    block_cons (stmt_assign (sound_none) (tgt_name rfl (.inl (by decide +kernel)))) <|
    block_cons (stmt_assign (sound_list (list_nil)) (tgt_name rfl (.inl (by decide +kernel)))) <|
    block_cons (stmt_for_gen h__iter_escaped_chars (list_cons (sound_var rfl) (list_nil)) (by decide +kernel) (by decide) (tgt_tup (.cons (tgt_name rfl (.inl (by decide +kernel))) (fun _ => rfl) (.cons (tgt_name rfl (.inl (by decide +kernel))) (fun _ => rfl) (.nil)))) (block_cons (stmt_if (test_cmp (sound_var rfl) (sound_str)) (block_cons (stmt_if (test_cmp (sound_var rfl) (sound_none)) (block_cons (stmt_assign (sound_var rfl) (tgt_name rfl (.inl (by decide +kernel)))) <|
    block_nil) (block_cons (stmt_if (test_cmp (sound_var rfl) (sound_var rfl)) (block_cons (stmt_expr (sound_meth F.slot_list_append F.type_list_append F.plainAttrs_list kind_list me_append (sound_var rfl) (list_cons (sound_slice (sound_var rfl) (part_some (sound_var rfl)) (part_some (sound_var rfl)) (part_none)) (list_nil)) (.inr ⟨_, _, rfl, fun _ => ⟨rfl, rfl⟩⟩)) (fun _ h => no_inter h)) <|
    block_nil) (block_nil)) <|
    block_cons (stmt_assign (sound_bin op_add (sound_var rfl) (sound_int)) (tgt_name rfl (.inl (by decide +kernel)))) <|
    block_cons (stmt_assign (sound_none) (tgt_name rfl (.inl (by decide +kernel)))) <|
    block_nil)) <|
    block_nil) (block_nil)) <|
    block_nil)) <|
    block_cons (stmt_if (test_cmp (sound_var rfl) (sound_bi bi_len rfl b_len (by decide +kernel) (by decide +kernel) (list_cons (sound_var rfl) (list_nil)) (by decide +kernel))) (block_cons (stmt_expr (sound_meth F.slot_list_append F.type_list_append F.plainAttrs_list kind_list me_append (sound_var rfl) (list_cons (sound_slice (sound_var rfl) (part_some (sound_var rfl)) (part_none) (part_none)) (list_nil)) (.inr ⟨_, _, rfl, fun _ => ⟨rfl, rfl⟩⟩)) (fun _ h => no_inter h)) <|
    block_nil) (block_nil)) <|
    block_cons (stmt_ret (sound_meth F.slot_str_join F.type_str_join F.plainAttrs_str kind_str me_sjoin (sound_str) (list_cons (sound_var rfl) (list_nil)) (.inr ⟨_, _, rfl, fun _ => ⟨rfl, rfl⟩⟩))) <|
    block_nil) rfl (by decide +kernel) (fun _ _ _ vs h => by match vs, h with | [v0], _ => rfl) (by decide +kernel)
def l__check_parenthesis_1 : AS := sCons (sAug 7 opIAddX (aCst (.int 1))) <|
    sNil
theorem m_l__check_parenthesis_1 : MonoS l__check_parenthesis_1 := by
  unfold l__check_parenthesis_1
  repeat' first | with_reducible apply m_var | with_reducible apply m_cst | with_reducible apply ms_nil | with_reducible apply ms_cons | with_reducible apply ms_assign | with_reducible apply ms_ret | with_reducible apply ms_ret0 | with_reducible apply ms_cont | with_reducible apply ms_if | with_reducible apply ms_expr | with_reducible apply ms_aug | with_reducible apply ms_augsub | with_reducible apply ms_for | with_reducible apply ms_while | with_reducible apply m_bin | with_reducible apply m_un | with_reducible apply m_cmp | with_reducible apply mt_val | with_reducible apply mt_not | with_reducible apply mt_and | with_reducible apply mt_or | with_reducible apply mt_true | with_reducible apply mt_false | with_reducible apply mt_cmp | with_reducible apply mt_cmp2 | with_reducible apply m_not | with_reducible apply m_if | with_reducible apply m_and | with_reducible apply m_or | with_reducible apply ml_nil | with_reducible apply ml_cons | with_reducible apply m_tup | with_reducible apply m_list | with_reducible apply m_call | with_reducible apply m_meth | with_reducible apply m_slice | with_reducible apply m_comp | with_reducible apply m_genlist | with_reducible apply ms_forg | with_reducible apply mg_name | with_reducible apply mg_sub | with_reducible apply mg_tup | with_reducible apply MonoGs.nil | with_reducible apply MonoGs.cons | with_reducible apply mo_add | with_reducible apply mo_iadd | with_reducible apply mo_sub | with_reducible apply mo_mul | with_reducible apply mo_div | with_reducible apply mo_mod | with_reducible apply mo_neg | with_reducible apply mo_item | with_reducible apply mf_len | with_reducible apply mf_range | with_reducible apply mf_list | with_reducible apply mf_tuple | with_reducible apply mf_append | with_reducible apply mf_insert | with_reducible apply mf_pop | with_reducible apply mf_chr | with_reducible apply mf_sjoin | with_reducible apply mf_all | with_reducible apply mf_any | with_reducible apply mf_sum | with_reducible apply mf_min | with_reducible apply mf_ssplit | with_reducible apply mf_srstrip | with_reducible apply mf_count | with_reducible apply mf_srfind | with_reducible apply mf_sreplace | with_reducible apply mo_iaddx | with_reducible apply m_f__strip_quoted_realnames
def l__check_parenthesis_2 : AS := sCons (sRet (aCst (.bool false))) <|
    sNil
theorem m_l__check_parenthesis_2 : MonoS l__check_parenthesis_2 := by
  unfold l__check_parenthesis_2
  repeat' first | with_reducible apply m_var | with_reducible apply m_cst | with_reducible apply ms_nil | with_reducible apply ms_cons | with_reducible apply ms_assign | with_reducible apply ms_ret | with_reducible apply ms_ret0 | with_reducible apply ms_cont | with_reducible apply ms_if | with_reducible apply ms_expr | with_reducible apply ms_aug | with_reducible apply ms_augsub | with_reducible apply ms_for | with_reducible apply ms_while | with_reducible apply m_bin | with_reducible apply m_un | with_reducible apply m_cmp | with_reducible apply mt_val | with_reducible apply mt_not | with_reducible apply mt_and | with_reducible apply mt_or | with_reducible apply mt_true | with_reducible apply mt_false | with_reducible apply mt_cmp | with_reducible apply mt_cmp2 | with_reducible apply m_not | with_reducible apply m_if | with_reducible apply m_and | with_reducible apply m_or | with_reducible apply ml_nil | with_reducible apply ml_cons | with_reducible apply m_tup | with_reducible apply m_list | with_reducible apply m_call | with_reducible apply m_meth | with_reducible apply m_slice | with_reducible apply m_comp | with_reducible apply m_genlist | with_reducible apply ms_forg | with_reducible apply mg_name | with_reducible apply mg_sub | with_reducible apply mg_tup | with_reducible apply MonoGs.nil | with_reducible apply MonoGs.cons | with_reducible apply mo_add | with_reducible apply mo_iadd | with_reducible apply mo_sub | with_reducible apply mo_mul | with_reducible apply mo_div | with_reducible apply mo_mod | with_reducible apply mo_neg | with_reducible apply mo_item | with_reducible apply mf_len | with_reducible apply mf_range | with_reducible apply mf_list | with_reducible apply mf_tuple | with_reducible apply mf_append | with_reducible apply mf_insert | with_reducible apply mf_pop | with_reducible apply mf_chr | with_reducible apply mf_sjoin | with_reducible apply mf_all | with_reducible apply mf_any | with_reducible apply mf_sum | with_reducible apply mf_min | with_reducible apply mf_ssplit | with_reducible apply mf_srstrip | with_reducible apply mf_count | with_reducible apply mf_srfind | with_reducible apply mf_sreplace | with_reducible apply mo_iaddx | with_reducible apply m_f__strip_quoted_realnames | with_reducible apply m_l__check_parenthesis_1
def l__check_parenthesis_3 : AS := sCons (sAug 7 opSub (aCst (.int 1))) <|
    sCons (sIf (tCmp .Lt (aVar 7) (aCst (.int 0))) (l__check_parenthesis_2) (sNil)) <|
    sNil
theorem m_l__check_parenthesis_3 : MonoS l__check_parenthesis_3 := by
  unfold l__check_parenthesis_3
  repeat' first | with_reducible apply m_var | with_reducible apply m_cst | with_reducible apply ms_nil | with_reducible apply ms_cons | with_reducible apply ms_assign | with_reducible apply ms_ret | with_reducible apply ms_ret0 | with_reducible apply ms_cont | with_reducible apply ms_if | with_reducible apply ms_expr | with_reducible apply ms_aug | with_reducible apply ms_augsub | with_reducible apply ms_for | with_reducible apply ms_while | with_reducible apply m_bin | with_reducible apply m_un | with_reducible apply m_cmp | with_reducible apply mt_val | with_reducible apply mt_not | with_reducible apply mt_and | with_reducible apply mt_or | with_reducible apply mt_true | with_reducible apply mt_false | with_reducible apply mt_cmp | with_reducible apply mt_cmp2 | with_reducible apply m_not | with_reducible apply m_if | with_reducible apply m_and | with_reducible apply m_or | with_reducible apply ml_nil | with_reducible apply ml_cons | with_reducible apply m_tup | with_reducible apply m_list | with_reducible apply m_call | with_reducible apply m_meth | with_reducible apply m_slice | with_reducible apply m_comp | with_reducible apply m_genlist | with_reducible apply ms_forg | with_reducible apply mg_name | with_reducible apply mg_sub | with_reducible apply mg_tup | with_reducible apply MonoGs.nil | with_reducible apply MonoGs.cons | with_reducible apply mo_add | with_reducible apply mo_iadd | with_reducible apply mo_sub | with_reducible apply mo_mul | with_reducible apply mo_div | with_reducible apply mo_mod | with_reducible apply mo_neg | with_reducible apply mo_item | with_reducible apply mf_len | with_reducible apply mf_range | with_reducible apply mf_list | with_reducible apply mf_tuple | with_reducible apply mf_append | with_reducible apply mf_insert | with_reducible apply mf_pop | with_reducible apply mf_chr | with_reducible apply mf_sjoin | with_reducible apply mf_all | with_reducible apply mf_any | with_reducible apply mf_sum | with_reducible apply mf_min | with_reducible apply mf_ssplit | with_reducible apply mf_srstrip | with_reducible apply mf_count | with_reducible apply mf_srfind | with_reducible apply mf_sreplace | with_reducible apply mo_iaddx | with_reducible apply m_f__strip_quoted_realnames | with_reducible apply m_l__check_parenthesis_1 | with_reducible apply m_l__check_parenthesis_2
def l__check_parenthesis_4 : AS := sCons (sIf (tCmp .Eq (aVar 3) (aCst (.str [41]))) (l__check_parenthesis_3) (sNil)) <|
    sNil
theorem m_l__check_parenthesis_4 : MonoS l__check_parenthesis_4 := by
  unfold l__check_parenthesis_4
  repeat' first | with_reducible apply m_var | with_reducible apply m_cst | with_reducible apply ms_nil | with_reducible apply ms_cons | with_reducible apply ms_assign | with_reducible apply ms_ret | with_reducible apply ms_ret0 | with_reducible apply ms_cont | with_reducible apply ms_if | with_reducible apply ms_expr | with_reducible apply ms_aug | with_reducible apply ms_augsub | with_reducible apply ms_for | with_reducible apply ms_while | with_reducible apply m_bin | with_reducible apply m_un | with_reducible apply m_cmp | with_reducible apply mt_val | with_reducible apply mt_not | with_reducible apply mt_and | with_reducible apply mt_or | with_reducible apply mt_true | with_reducible apply mt_false | with_reducible apply mt_cmp | with_reducible apply mt_cmp2 | with_reducible apply m_not | with_reducible apply m_if | with_reducible apply m_and | with_reducible apply m_or | with_reducible apply ml_nil | with_reducible apply ml_cons | with_reducible apply m_tup | with_reducible apply m_list | with_reducible apply m_call | with_reducible apply m_meth | with_reducible apply m_slice | with_reducible apply m_comp | with_reducible apply m_genlist | with_reducible apply ms_forg | with_reducible apply mg_name | with_reducible apply mg_sub | with_reducible apply mg_tup | with_reducible apply MonoGs.nil | with_reducible apply MonoGs.cons | with_reducible apply mo_add | with_reducible apply mo_iadd | with_reducible apply mo_sub | with_reducible apply mo_mul | with_reducible apply mo_div | with_reducible apply mo_mod | with_reducible apply mo_neg | with_reducible apply mo_item | with_reducible apply mf_len | with_reducible apply mf_range | with_reducible apply mf_list | with_reducible apply mf_tuple | with_reducible apply mf_append | with_reducible apply mf_insert | with_reducible apply mf_pop | with_reducible apply mf_chr | with_reducible apply mf_sjoin | with_reducible apply mf_all | with_reducible apply mf_any | with_reducible apply mf_sum | with_reducible apply mf_min | with_reducible apply mf_ssplit | with_reducible apply mf_srstrip | with_reducible apply mf_count | with_reducible apply mf_srfind | with_reducible apply mf_sreplace | with_reducible apply mo_iaddx | with_reducible apply m_f__strip_quoted_realnames | with_reducible apply m_l__check_parenthesis_1 | with_reducible apply m_l__check_parenthesis_2 | with_reducible apply m_l__check_parenthesis_3
def l__check_parenthesis_5 : AS := sCons (sIf (tCmp .Eq (aVar 3) (aCst (.str [40]))) (l__check_parenthesis_1) (l__check_parenthesis_4)) <|
    sNil
theorem m_l__check_parenthesis_5 : MonoS l__check_parenthesis_5 := by
  unfold l__check_parenthesis_5
  repeat' first | with_reducible apply m_var | with_reducible apply m_cst | with_reducible apply ms_nil | with_reducible apply ms_cons | with_reducible apply ms_assign | with_reducible apply ms_ret | with_reducible apply ms_ret0 | with_reducible apply ms_cont | with_reducible apply ms_if | with_reducible apply ms_expr | with_reducible apply ms_aug | with_reducible apply ms_augsub | with_reducible apply ms_for | with_reducible apply ms_while | with_reducible apply m_bin | with_reducible apply m_un | with_reducible apply m_cmp | with_reducible apply mt_val | with_reducible apply mt_not | with_reducible apply mt_and | with_reducible apply mt_or | with_reducible apply mt_true | with_reducible apply mt_false | with_reducible apply mt_cmp | with_reducible apply mt_cmp2 | with_reducible apply m_not | with_reducible apply m_if | with_reducible apply m_and | with_reducible apply m_or | with_reducible apply ml_nil | with_reducible apply ml_cons | with_reducible apply m_tup | with_reducible apply m_list | with_reducible apply m_call | with_reducible apply m_meth | with_reducible apply m_slice | with_reducible apply m_comp | with_reducible apply m_genlist | with_reducible apply ms_forg | with_reducible apply mg_name | with_reducible apply mg_sub | with_reducible apply mg_tup | with_reducible apply MonoGs.nil | with_reducible apply MonoGs.cons | with_reducible apply mo_add | with_reducible apply mo_iadd | with_reducible apply mo_sub | with_reducible apply mo_mul | with_reducible apply mo_div | with_reducible apply mo_mod | with_reducible apply mo_neg | with_reducible apply mo_item | with_reducible apply mf_len | with_reducible apply mf_range | with_reducible apply mf_list | with_reducible apply mf_tuple | with_reducible apply mf_append | with_reducible apply mf_insert | with_reducible apply mf_pop | with_reducible apply mf_chr | with_reducible apply mf_sjoin | with_reducible apply mf_all | with_reducible apply mf_any | with_reducible apply mf_sum | with_reducible apply mf_min | with_reducible apply mf_ssplit | with_reducible apply mf_srstrip | with_reducible apply mf_count | with_reducible apply mf_srfind | with_reducible apply mf_sreplace | with_reducible apply mo_iaddx | with_reducible apply m_f__strip_quoted_realnames | with_reducible apply m_l__check_parenthesis_1 | with_reducible apply m_l__check_parenthesis_2 | with_reducible apply m_l__check_parenthesis_3 | with_reducible apply m_l__check_parenthesis_4
def f__check_parenthesis : AF := aFn [0] <|
    sCons (sAssign (gName 0) (aCall f__strip_quoted_realnames (lCons (aVar 0) (lNil)))) <|
    sCons (sAssign (gName 7) (aCst (.int 0))) <|
    sCons (sForG (gTup [gName 2, gName 3]) [0] g__iter_escaped_chars (lCons (aVar 0) (lNil)) (l__check_parenthesis_5)) <|
    sCons (sRet (aCmp .Eq (aVar 7) (aCst (.int 0)))) <|
    sNil
theorem m_f__check_parenthesis : MonoF f__check_parenthesis := by
  unfold f__check_parenthesis
  apply mf_fn
  repeat' first | with_reducible apply m_var | with_reducible apply m_cst | with_reducible apply ms_nil | with_reducible apply ms_cons | with_reducible apply ms_assign | with_reducible apply ms_ret | with_reducible apply ms_ret0 | with_reducible apply ms_cont | with_reducible apply ms_if | with_reducible apply ms_expr | with_reducible apply ms_aug | with_reducible apply ms_augsub | with_reducible apply ms_for | with_reducible apply ms_while | with_reducible apply m_bin | with_reducible apply m_un | with_reducible apply m_cmp | with_reducible apply mt_val | with_reducible apply mt_not | with_reducible apply mt_and | with_reducible apply mt_or | with_reducible apply mt_true | with_reducible apply mt_false | with_reducible apply mt_cmp | with_reducible apply mt_cmp2 | with_reducible apply m_not | with_reducible apply m_if | with_reducible apply m_and | with_reducible apply m_or | with_reducible apply ml_nil | with_reducible apply ml_cons | with_reducible apply m_tup | with_reducible apply m_list | with_reducible apply m_call | with_reducible apply m_meth | with_reducible apply m_slice | with_reducible apply m_comp | with_reducible apply m_genlist | with_reducible apply ms_forg | with_reducible apply mg_name | with_reducible apply mg_sub | with_reducible apply mg_tup | with_reducible apply MonoGs.nil | with_reducible apply MonoGs.cons | with_reducible apply mo_add | with_reducible apply mo_iadd | with_reducible apply mo_sub | with_reducible apply mo_mul | with_reducible apply mo_div | with_reducible apply mo_mod | with_reducible apply mo_neg | with_reducible apply mo_item | with_reducible apply mf_len | with_reducible apply mf_range | with_reducible apply mf_list | with_reducible apply mf_tuple | with_reducible apply mf_append | with_reducible apply mf_insert | with_reducible apply mf_pop | with_reducible apply mf_chr | with_reducible apply mf_sjoin | with_reducible apply mf_all | with_reducible apply mf_any | with_reducible apply mf_sum | with_reducible apply mf_min | with_reducible apply mf_ssplit | with_reducible apply mf_srstrip | with_reducible apply mf_count | with_reducible apply mf_srfind | with_reducible apply mf_sreplace | with_reducible apply mo_iaddx | with_reducible apply m_f__strip_quoted_realnames | with_reducible apply m_l__check_parenthesis_1 | with_reducible apply m_l__check_parenthesis_2 | with_reducible apply m_l__check_parenthesis_3 | with_reducible apply m_l__check_parenthesis_4 | with_reducible apply m_l__check_parenthesis_5
theorem s__check_parenthesis (c : Cx) (hd : fnRec prg 3 ∈ recsOf c.q) (h__iter_escaped_chars : GenF (c.on NN NN_nodup) 1 (Str.ofString "_iter_escaped_chars") [0] g__iter_escaped_chars) (h__strip_quoted_realnames : SoundF (c.on NN NN_nodup) 5 (Str.ofString "_strip_quoted_realnames") f__strip_quoted_realnames) : SoundF (c.on NN NN_nodup) 6 (Str.ofString "_check_parenthesis") f__check_parenthesis :=
  sound_fn (c := c.on NN NN_nodup) (d := fnRec prg 3) (xs := [Str.ofString "addr"]) hd (
    block_cons (stmt_assign (sound_call h__strip_quoted_realnames (list_cons (sound_var rfl) (list_nil)) (by decide +kernel) (by decide)) (tgt_name rfl (.inl (by decide +kernel)))) <|
    block_cons (stmt_assign (sound_int) (tgt_name rfl (.inl (by decide +kernel)))) <|
    block_cons (stmt_for_gen h__iter_escaped_chars (list_cons (sound_var rfl) (list_nil)) (by decide +kernel) (by decide) (tgt_tup (.cons (tgt_name rfl (.inl (by decide +kernel))) (fun _ => rfl) (.cons (tgt_name rfl (.inl (by decide +kernel))) (fun _ => rfl) (.nil)))) (block_cons (stmt_if (test_cmp (sound_var rfl) (sound_str)) (block_cons (stmt_aug op_iaddx (sound_int) rfl (.inl (by decide +kernel))) <|
    block_nil) (block_cons (stmt_if (test_cmp (sound_var rfl) (sound_str)) (block_cons (stmt_aug op_isub (sound_int) rfl (.inl (by decide +kernel))) <|
    block_cons (stmt_if (test_cmp (sound_var rfl) (sound_int)) (block_cons (stmt_ret (sound_bool)) <|
    block_nil) (block_nil)) <|
    block_nil) (block_nil)) <|
    block_nil)) <|
    block_nil)) <|
    block_cons (stmt_ret (sound_cmp (sound_var rfl) (sound_int))) <|
    block_nil) rfl (by decide +kernel) (fun _ _ _ vs h => by match vs, h with | [v0], _ => rfl) (by decide +kernel)
def l__pre_parse_validation_1 : AS := sCons (sAssign (gName 10) (aCst (.str [40, 39, 39, 44, 32, 39, 39, 41]))) <|
    sNil
theorem m_l__pre_parse_validation_1 : MonoS l__pre_parse_validation_1 := by
  unfold l__pre_parse_validation_1
  repeat' first | with_reducible apply m_var | with_reducible apply m_cst | with_reducible apply ms_nil | with_reducible apply ms_cons | with_reducible apply ms_assign | with_reducible apply ms_ret | with_reducible apply ms_ret0 | with_reducible apply ms_cont | with_reducible apply ms_if | with_reducible apply ms_expr | with_reducible apply ms_aug | with_reducible apply ms_augsub | with_reducible apply ms_for | with_reducible apply ms_while | with_reducible apply m_bin | with_reducible apply m_un | with_reducible apply m_cmp | with_reducible apply mt_val | with_reducible apply mt_not | with_reducible apply mt_and | with_reducible apply mt_or | with_reducible apply mt_true | with_reducible apply mt_false | with_reducible apply mt_cmp | with_reducible apply mt_cmp2 | with_reducible apply m_not | with_reducible apply m_if | with_reducible apply m_and | with_reducible apply m_or | with_reducible apply ml_nil | with_reducible apply ml_cons | with_reducible apply m_tup | with_reducible apply m_list | with_reducible apply m_call | with_reducible apply m_meth | with_reducible apply m_slice | with_reducible apply m_comp | with_reducible apply m_genlist | with_reducible apply ms_forg | with_reducible apply mg_name | with_reducible apply mg_sub | with_reducible apply mg_tup | with_reducible apply MonoGs.nil | with_reducible apply MonoGs.cons | with_reducible apply mo_add | with_reducible apply mo_iadd | with_reducible apply mo_sub | with_reducible apply mo_mul | with_reducible apply mo_div | with_reducible apply mo_mod | with_reducible apply mo_neg | with_reducible apply mo_item | with_reducible apply mf_len | with_reducible apply mf_range | with_reducible apply mf_list | with_reducible apply mf_tuple | with_reducible apply mf_append | with_reducible apply mf_insert | with_reducible apply mf_pop | with_reducible apply mf_chr | with_reducible apply mf_sjoin | with_reducible apply mf_all | with_reducible apply mf_any | with_reducible apply mf_sum | with_reducible apply mf_min | with_reducible apply mf_ssplit | with_reducible apply mf_srstrip | with_reducible apply mf_count | with_reducible apply mf_srfind | with_reducible apply mf_sreplace | with_reducible apply mo_iaddx | with_reducible apply m_f__check_parenthesis
def l__pre_parse_validation_2 : AS := sCons (sIf (tNot (tVal (aCall f__check_parenthesis (lCons (aVar 10) (lNil))))) (l__pre_parse_validation_1) (sNil)) <|
    sCons (sExpr (aMeth kList fAppend (aVar 9) (lCons (aVar 10) (lNil)))) <|
    sNil
theorem m_l__pre_parse_validation_2 : MonoS l__pre_parse_validation_2 := by
  unfold l__pre_parse_validation_2
  repeat' first | with_reducible apply m_var | with_reducible apply m_cst | with_reducible apply ms_nil | with_reducible apply ms_cons | with_reducible apply ms_assign | with_reducible apply ms_ret | with_reducible apply ms_ret0 | with_reducible apply ms_cont | with_reducible apply ms_if | with_reducible apply ms_expr | with_reducible apply ms_aug | with_reducible apply ms_augsub | with_reducible apply ms_for | with_reducible apply ms_while | with_reducible apply m_bin | with_reducible apply m_un | with_reducible apply m_cmp | with_reducible apply mt_val | with_reducible apply mt_not | with_reducible apply mt_and | with_reducible apply mt_or | with_reducible apply mt_true | with_reducible apply mt_false | with_reducible apply mt_cmp | with_reducible apply mt_cmp2 | with_reducible apply m_not | with_reducible apply m_if | with_reducible apply m_and | with_reducible apply m_or | with_reducible apply ml_nil | with_reducible apply ml_cons | with_reducible apply m_tup | with_reducible apply m_list | with_reducible apply m_call | with_reducible apply m_meth | with_reducible apply m_slice | with_reducible apply m_comp | with_reducible apply m_genlist | with_reducible apply ms_forg | with_reducible apply mg_name | with_reducible apply mg_sub | with_reducible apply mg_tup | with_reducible apply MonoGs.nil | with_reducible apply MonoGs.cons | with_reducible apply mo_add | with_reducible apply mo_iadd | with_reducible apply mo_sub | with_reducible apply mo_mul | with_reducible apply mo_div | with_reducible apply mo_mod | with_reducible apply mo_neg | with_reducible apply mo_item | with_reducible apply mf_len | with_reducible apply mf_range | with_reducible apply mf_list | with_reducible apply mf_tuple | with_reducible apply mf_append | with_reducible apply mf_insert | with_reducible apply mf_pop | with_reducible apply mf_chr | with_reducible apply mf_sjoin | with_reducible apply mf_all | with_reducible apply mf_any | with_reducible apply mf_sum | with_reducible apply mf_min | with_reducible apply mf_ssplit | with_reducible apply mf_srstrip | with_reducible apply mf_count | with_reducible apply mf_srfind | with_reducible apply mf_sreplace | with_reducible apply mo_iaddx | with_reducible apply m_f__check_parenthesis | with_reducible apply m_l__pre_parse_validation_1
def f__pre_parse_validation : AF := aFn [8] <|
    sCons (sAssign (gName 9) (aList (lNil))) <|
    sCons (sFor (gName 10) (aVar 8) (l__pre_parse_validation_2)) <|
    sCons (sRet (aVar 9)) <|
    sNil
theorem s__pre_parse_validation (c : Cx) (hd : fnRec prg 4 ∈ recsOf c.q) (h__check_parenthesis : SoundF (c.on NN NN_nodup) 6 (Str.ofString "_check_parenthesis") f__check_parenthesis) : SoundF (c.on NN NN_nodup) 7 (Str.ofString "_pre_parse_validation") f__pre_parse_validation :=
  sound_fn (c := c.on NN NN_nodup) (d := fnRec prg 4) (xs := [Str.ofString "email_header_fields"]) hd (
    block_cons (stmt_assign (sound_list (list_nil)) (tgt_name rfl (.inl (by decide +kernel)))) <|
    block_cons (stmt_for (sound_var rfl) (tgt_name rfl (.inl (by decide +kernel))) (block_cons (stmt_if (test_not (test_val (sound_call h__check_parenthesis (list_cons (sound_var rfl) (list_nil)) (by decide +kernel) (by decide)))) (block_cons (stmt_assign (sound_str) (tgt_name rfl (.inl (by decide +kernel)))) <|
    block_nil) (block_nil)) <|
    block_cons (stmt_expr (sound_meth F.slot_list_append F.type_list_append F.plainAttrs_list kind_list me_append (sound_var rfl) (list_cons (sound_var rfl) (list_nil)) (.inr ⟨_, _, rfl, fun _ => ⟨rfl, rfl⟩⟩)) (fun _ h => no_inter h)) <|
    block_nil)) <|
    block_cons (stmt_ret (sound_var rfl)) <|
    block_nil) rfl (by decide +kernel) (fun _ _ _ vs h => by match vs, h with | [v0], _ => rfl) (by decide +kernel)
def l__law_unit_1 : AS := sCons (sRet (aBin opAdd (aCst (.str [92])) (aVar 12))) <|
    sNil
theorem m_l__law_unit_1 : MonoS l__law_unit_1 := by
  unfold l__law_unit_1
  repeat' first | with_reducible apply m_var | with_reducible apply m_cst | with_reducible apply ms_nil | with_reducible apply ms_cons | with_reducible apply ms_assign | with_reducible apply ms_ret | with_reducible apply ms_ret0 | with_reducible apply ms_cont | with_reducible apply ms_if | with_reducible apply ms_expr | with_reducible apply ms_aug | with_reducible apply ms_augsub | with_reducible apply ms_for | with_reducible apply ms_while | with_reducible apply m_bin | with_reducible apply m_un | with_reducible apply m_cmp | with_reducible apply mt_val | with_reducible apply mt_not | with_reducible apply mt_and | with_reducible apply mt_or | with_reducible apply mt_true | with_reducible apply mt_false | with_reducible apply mt_cmp | with_reducible apply mt_cmp2 | with_reducible apply m_not | with_reducible apply m_if | with_reducible apply m_and | with_reducible apply m_or | with_reducible apply ml_nil | with_reducible apply ml_cons | with_reducible apply m_tup | with_reducible apply m_list | with_reducible apply m_call | with_reducible apply m_meth | with_reducible apply m_slice | with_reducible apply m_comp | with_reducible apply m_genlist | with_reducible apply ms_forg | with_reducible apply mg_name | with_reducible apply mg_sub | with_reducible apply mg_tup | with_reducible apply MonoGs.nil | with_reducible apply MonoGs.cons | with_reducible apply mo_add | with_reducible apply mo_iadd | with_reducible apply mo_sub | with_reducible apply mo_mul | with_reducible apply mo_div | with_reducible apply mo_mod | with_reducible apply mo_neg | with_reducible apply mo_item | with_reducible apply mf_len | with_reducible apply mf_range | with_reducible apply mf_list | with_reducible apply mf_tuple | with_reducible apply mf_append | with_reducible apply mf_insert | with_reducible apply mf_pop | with_reducible apply mf_chr | with_reducible apply mf_sjoin | with_reducible apply mf_all | with_reducible apply mf_any | with_reducible apply mf_sum | with_reducible apply mf_min | with_reducible apply mf_ssplit | with_reducible apply mf_srstrip | with_reducible apply mf_count | with_reducible apply mf_srfind | with_reducible apply mf_sreplace | with_reducible apply mo_iaddx
def l__law_unit_2 : AS := sCons (sRet (aBin opAdd (aCst (.str [92])) (aBin opItem (aCst (.str [34, 92, 40, 41, 92, 91, 34])) (aBin opMod (aVar 14) (aCst (.int 7)))))) <|
    sNil
theorem m_l__law_unit_2 : MonoS l__law_unit_2 := by
  unfold l__law_unit_2
  repeat' first | with_reducible apply m_var | with_reducible apply m_cst | with_reducible apply ms_nil | with_reducible apply ms_cons | with_reducible apply ms_assign | with_reducible apply ms_ret | with_reducible apply ms_ret0 | with_reducible apply ms_cont | with_reducible apply ms_if | with_reducible apply ms_expr | with_reducible apply ms_aug | with_reducible apply ms_augsub | with_reducible apply ms_for | with_reducible apply ms_while | with_reducible apply m_bin | with_reducible apply m_un | with_reducible apply m_cmp | with_reducible apply mt_val | with_reducible apply mt_not | with_reducible apply mt_and | with_reducible apply mt_or | with_reducible apply mt_true | with_reducible apply mt_false | with_reducible apply mt_cmp | with_reducible apply mt_cmp2 | with_reducible apply m_not | with_reducible apply m_if | with_reducible apply m_and | with_reducible apply m_or | with_reducible apply ml_nil | with_reducible apply ml_cons | with_reducible apply m_tup | with_reducible apply m_list | with_reducible apply m_call | with_reducible apply m_meth | with_reducible apply m_slice | with_reducible apply m_comp | with_reducible apply m_genlist | with_reducible apply ms_forg | with_reducible apply mg_name | with_reducible apply mg_sub | with_reducible apply mg_tup | with_reducible apply MonoGs.nil | with_reducible apply MonoGs.cons | with_reducible apply mo_add | with_reducible apply mo_iadd | with_reducible apply mo_sub | with_reducible apply mo_mul | with_reducible apply mo_div | with_reducible apply mo_mod | with_reducible apply mo_neg | with_reducible apply mo_item | with_reducible apply mf_len | with_reducible apply mf_range | with_reducible apply mf_list | with_reducible apply mf_tuple | with_reducible apply mf_append | with_reducible apply mf_insert | with_reducible apply mf_pop | with_reducible apply mf_chr | with_reducible apply mf_sjoin | with_reducible apply mf_all | with_reducible apply mf_any | with_reducible apply mf_sum | with_reducible apply mf_min | with_reducible apply mf_ssplit | with_reducible apply mf_srstrip | with_reducible apply mf_count | with_reducible apply mf_srfind | with_reducible apply mf_sreplace | with_reducible apply mo_iaddx | with_reducible apply m_l__law_unit_1
def l__law_unit_3 : AS := sCons (sRet (aBin opItem (aCst (.str [34, 34, 34, 40, 40, 41, 41, 41, 91, 32])) (aVar 13))) <|
    sNil
theorem m_l__law_unit_3 : MonoS l__law_unit_3 := by
  unfold l__law_unit_3
  repeat' first | with_reducible apply m_var | with_reducible apply m_cst | with_reducible apply ms_nil | with_reducible apply ms_cons | with_reducible apply ms_assign | with_reducible apply ms_ret | with_reducible apply ms_ret0 | with_reducible apply ms_cont | with_reducible apply ms_if | with_reducible apply ms_expr | with_reducible apply ms_aug | with_reducible apply ms_augsub | with_reducible apply ms_for | with_reducible apply ms_while | with_reducible apply m_bin | with_reducible apply m_un | with_reducible apply m_cmp | with_reducible apply mt_val | with_reducible apply mt_not | with_reducible apply mt_and | with_reducible apply mt_or | with_reducible apply mt_true | with_reducible apply mt_false | with_reducible apply mt_cmp | with_reducible apply mt_cmp2 | with_reducible apply m_not | with_reducible apply m_if | with_reducible apply m_and | with_reducible apply m_or | with_reducible apply ml_nil | with_reducible apply ml_cons | with_reducible apply m_tup | with_reducible apply m_list | with_reducible apply m_call | with_reducible apply m_meth | with_reducible apply m_slice | with_reducible apply m_comp | with_reducible apply m_genlist | with_reducible apply ms_forg | with_reducible apply mg_name | with_reducible apply mg_sub | with_reducible apply mg_tup | with_reducible apply MonoGs.nil | with_reducible apply MonoGs.cons | with_reducible apply mo_add | with_reducible apply mo_iadd | with_reducible apply mo_sub | with_reducible apply mo_mul | with_reducible apply mo_div | with_reducible apply mo_mod | with_reducible apply mo_neg | with_reducible apply mo_item | with_reducible apply mf_len | with_reducible apply mf_range | with_reducible apply mf_list | with_reducible apply mf_tuple | with_reducible apply mf_append | with_reducible apply mf_insert | with_reducible apply mf_pop | with_reducible apply mf_chr | with_reducible apply mf_sjoin | with_reducible apply mf_all | with_reducible apply mf_any | with_reducible apply mf_sum | with_reducible apply mf_min | with_reducible apply mf_ssplit | with_reducible apply mf_srstrip | with_reducible apply mf_count | with_reducible apply mf_srfind | with_reducible apply mf_sreplace | with_reducible apply mo_iaddx | with_reducible apply m_l__law_unit_1 | with_reducible apply m_l__law_unit_2
def f__law_unit : AF := aFn [11] <|
    sCons (sAssign (gName 13) (aBin opMod (aVar 11) (aCst (.int 20)))) <|
    sCons (sAssign (gName 14) (aBin opDiv (aVar 11) (aCst (.int 20)))) <|
    sCons (sIf (tCmp .Lt (aVar 13) (aCst (.int 10))) (l__law_unit_3) (sNil)) <|
    sCons (sIf (tCmp .Lt (aVar 13) (aCst (.int 17))) (l__law_unit_2) (sNil)) <|
    sCons (sAssign (gName 14) (aBin opMod (aVar 14) (aCst (.int 60000)))) <|
    sCons (sAssign (gName 12) (aCall fChr (lCons (aIf (tCmp .Lt (aVar 14) (aCst (.int 55296))) (aVar 14) (aBin opAdd (aVar 14) (aCst (.int 8192)))) (lNil)))) <|
    sCons (sIf (tOr (tCmp .Eq (aVar 13) (aCst (.int 17))) (tOr (tCmp .Eq (aVar 12) (aCst (.str [92]))) (tFalse))) (l__law_unit_1) (sNil)) <|
    sCons (sRet (aVar 12)) <|
    sNil
theorem m_f__law_unit : MonoF f__law_unit := by
  unfold f__law_unit
  apply mf_fn
  repeat' first | with_reducible apply m_var | with_reducible apply m_cst | with_reducible apply ms_nil | with_reducible apply ms_cons | with_reducible apply ms_assign | with_reducible apply ms_ret | with_reducible apply ms_ret0 | with_reducible apply ms_cont | with_reducible apply ms_if | with_reducible apply ms_expr | with_reducible apply ms_aug | with_reducible apply ms_augsub | with_reducible apply ms_for | with_reducible apply ms_while | with_reducible apply m_bin | with_reducible apply m_un | with_reducible apply m_cmp | with_reducible apply mt_val | with_reducible apply mt_not | with_reducible apply mt_and | with_reducible apply mt_or | with_reducible apply mt_true | with_reducible apply mt_false | with_reducible apply mt_cmp | with_reducible apply mt_cmp2 | with_reducible apply m_not | with_reducible apply m_if | with_reducible apply m_and | with_reducible apply m_or | with_reducible apply ml_nil | with_reducible apply ml_cons | with_reducible apply m_tup | with_reducible apply m_list | with_reducible apply m_call | with_reducible apply m_meth | with_reducible apply m_slice | with_reducible apply m_comp | with_reducible apply m_genlist | with_reducible apply ms_forg | with_reducible apply mg_name | with_reducible apply mg_sub | with_reducible apply mg_tup | with_reducible apply MonoGs.nil | with_reducible apply MonoGs.cons | with_reducible apply mo_add | with_reducible apply mo_iadd | with_reducible apply mo_sub | with_reducible apply mo_mul | with_reducible apply mo_div | with_reducible apply mo_mod | with_reducible apply mo_neg | with_reducible apply mo_item | with_reducible apply mf_len | with_reducible apply mf_range | with_reducible apply mf_list | with_reducible apply mf_tuple | with_reducible apply mf_append | with_reducible apply mf_insert | with_reducible apply mf_pop | with_reducible apply mf_chr | with_reducible apply mf_sjoin | with_reducible apply mf_all | with_reducible apply mf_any | with_reducible apply mf_sum | with_reducible apply mf_min | with_reducible apply mf_ssplit | with_reducible apply mf_srstrip | with_reducible apply mf_count | with_reducible apply mf_srfind | with_reducible apply mf_sreplace | with_reducible apply mo_iaddx | with_reducible apply m_l__law_unit_1 | with_reducible apply m_l__law_unit_2 | with_reducible apply m_l__law_unit_3
theorem s__law_unit (c : Cx) (hd : fnRec prg 6 ∈ recsOf c.q) (b_chr : c.mg (Str.ofString "chr") = none) : SoundF (c.on NN NN_nodup) 1 (Str.ofString "_law_unit") f__law_unit :=
  sound_fn (c := c.on NN NN_nodup) (d := fnRec prg 6) (xs := [Str.ofString "n"]) hd (
    block_cons (stmt_assign (sound_bin op_mod (sound_var rfl) (sound_int)) (tgt_name rfl (.inl (by decide +kernel)))) <|
    block_cons (stmt_assign (sound_bin op_div (sound_var rfl) (sound_int)) (tgt_name rfl (.inl (by decide +kernel)))) <|
    block_cons (stmt_if (test_cmp (sound_var rfl) (sound_int)) (block_cons (stmt_ret (sound_sub (sound_str) (sound_var rfl))) <|
    block_nil) (block_nil)) <|
    block_cons (stmt_if (test_cmp (sound_var rfl) (sound_int)) (block_cons (stmt_ret (sound_bin op_add (sound_str) (sound_sub (sound_str) (sound_bin op_mod (sound_var rfl) (sound_int))))) <|
    block_nil) (block_nil)) <|
    block_cons (stmt_assign (sound_bin op_mod (sound_var rfl) (sound_int)) (tgt_name rfl (.inl (by decide +kernel)))) <|
    block_cons (stmt_assign (sound_bi bi_chr rfl b_chr (by decide +kernel) (by decide +kernel) (list_cons (sound_if (test_cmp (sound_var rfl) (sound_int)) (sound_var rfl) (sound_bin op_add (sound_var rfl) (sound_int))) (list_nil)) (by decide +kernel)) (tgt_name rfl (.inl (by decide +kernel)))) <|
    block_cons (stmt_if (test_bool (or_cons (test_cmp (sound_var rfl) (sound_int)) (or_cons (test_cmp (sound_var rfl) (sound_str)) (or_nil)))) (block_cons (stmt_ret (sound_bin op_add (sound_str) (sound_var rfl))) <|
    block_nil) (block_nil)) <|
    block_cons (stmt_ret (sound_var rfl)) <|
    block_nil) rfl (by decide +kernel) (fun _ _ _ vs h => by match vs, h with | [v0], _ => rfl) (by decide +kernel)
def l__law_outer_1 : AS := sCons (sAug 16 opIAddX (aSlice (aVar 15) (aVar 17) (aBin opItem (aVar 18) (aBin opMul (aCst (.int 2)) (aVar 19))) (aCst .none))) <|
    sCons (sAssign (gName 17) (aBin opAdd (aBin opItem (aVar 18) (aBin opAdd (aBin opMul (aCst (.int 2)) (aVar 19)) (aCst (.int 1)))) (aCst (.int 1)))) <|
    sNil
theorem m_l__law_outer_1 : MonoS l__law_outer_1 := by
  unfold l__law_outer_1
  repeat' first | with_reducible apply m_var | with_reducible apply m_cst | with_reducible apply ms_nil | with_reducible apply ms_cons | with_reducible apply ms_assign | with_reducible apply ms_ret | with_reducible apply ms_ret0 | with_reducible apply ms_cont | with_reducible apply ms_if | with_reducible apply ms_expr | with_reducible apply ms_aug | with_reducible apply ms_augsub | with_reducible apply ms_for | with_reducible apply ms_while | with_reducible apply m_bin | with_reducible apply m_un | with_reducible apply m_cmp | with_reducible apply mt_val | with_reducible apply mt_not | with_reducible apply mt_and | with_reducible apply mt_or | with_reducible apply mt_true | with_reducible apply mt_false | with_reducible apply mt_cmp | with_reducible apply mt_cmp2 | with_reducible apply m_not | with_reducible apply m_if | with_reducible apply m_and | with_reducible apply m_or | with_reducible apply ml_nil | with_reducible apply ml_cons | with_reducible apply m_tup | with_reducible apply m_list | with_reducible apply m_call | with_reducible apply m_meth | with_reducible apply m_slice | with_reducible apply m_comp | with_reducible apply m_genlist | with_reducible apply ms_forg | with_reducible apply mg_name | with_reducible apply mg_sub | with_reducible apply mg_tup | with_reducible apply MonoGs.nil | with_reducible apply MonoGs.cons | with_reducible apply mo_add | with_reducible apply mo_iadd | with_reducible apply mo_sub | with_reducible apply mo_mul | with_reducible apply mo_div | with_reducible apply mo_mod | with_reducible apply mo_neg | with_reducible apply mo_item | with_reducible apply mf_len | with_reducible apply mf_range | with_reducible apply mf_list | with_reducible apply mf_tuple | with_reducible apply mf_append | with_reducible apply mf_insert | with_reducible apply mf_pop | with_reducible apply mf_chr | with_reducible apply mf_sjoin | with_reducible apply mf_all | with_reducible apply mf_any | with_reducible apply mf_sum | with_reducible apply mf_min | with_reducible apply mf_ssplit | with_reducible apply mf_srstrip | with_reducible apply mf_count | with_reducible apply mf_srfind | with_reducible apply mf_sreplace | with_reducible apply mo_iaddx
def f__law_outer : AF := aFn [15] <|
    sCons (sAssign (gName 18) (aComp [15] (gName 20) (aCall fRange (lCons (aCall fLen (lCons (aVar 15) (lNil))) (lNil))) (tCmp .Eq (aBin opItem (aVar 15) (aVar 20)) (aCst (.str [34]))) (aVar 20))) <|
    sCons (sAssign (gName 16) (aList (lNil))) <|
    sCons (sAssign (gName 17) (aCst (.int 0))) <|
    sCons (sFor (gName 19) (aCall fRange (lCons (aBin opDiv (aCall fLen (lCons (aVar 18) (lNil))) (aCst (.int 2))) (lNil))) (l__law_outer_1)) <|
    sCons (sRet (aBin opAdd (aVar 16) (aSlice (aVar 15) (aVar 17) (aCst .none) (aCst .none)))) <|
    sNil
theorem s__law_outer (c : Cx) (hd : fnRec prg 7 ∈ recsOf c.q) (b_len : c.mg (Str.ofString "len") = none) (b_range : c.mg (Str.ofString "range") = none) : SoundF (c.on NN NN_nodup) 1 (Str.ofString "_law_outer") f__law_outer :=
  sound_fn (c := c.on NN NN_nodup) (d := fnRec prg 7) (xs := [Str.ofString "units"]) hd (
    block_cons (stmt_assign_comp (sound_bi bi_range rfl b_range (by decide +kernel) (by decide +kernel) (list_cons (sound_bi bi_len rfl b_len (by decide +kernel) (by decide +kernel) (list_cons (sound_var rfl) (list_nil)) (by decide +kernel)) (list_nil)) (by decide +kernel)) (tgt_name rfl (.inl (by decide +kernel))) (cond_one (test_cmp (sound_sub (sound_var rfl) (sound_var rfl)) (sound_str))) (sound_var rfl) (by show compChk NN _ _ _ = true; decide +kernel) rfl (by decide +kernel) (by decide +kernel)) <|
    block_cons (stmt_assign (sound_list (list_nil)) (tgt_name rfl (.inl (by decide +kernel)))) <|
    block_cons (stmt_assign (sound_int) (tgt_name rfl (.inl (by decide +kernel)))) <|
    block_cons (stmt_for (sound_bi bi_range rfl b_range (by decide +kernel) (by decide +kernel) (list_cons (sound_bin op_div (sound_bi bi_len rfl b_len (by decide +kernel) (by decide +kernel) (list_cons (sound_var rfl) (list_nil)) (by decide +kernel)) (sound_int)) (list_nil)) (by decide +kernel)) (tgt_name rfl (.inl (by decide +kernel))) (block_cons (stmt_aug op_iaddx (sound_slice (sound_var rfl) (part_some (sound_var rfl)) (part_some (sound_sub (sound_var rfl) (sound_bin op_mul (sound_int) (sound_var rfl)))) (part_none)) rfl (.inl (by decide +kernel))) <|
    block_cons (stmt_assign (sound_bin op_add (sound_sub (sound_var rfl) (sound_bin op_add (sound_bin op_mul (sound_int) (sound_var rfl)) (sound_int))) (sound_int)) (tgt_name rfl (.inl (by decide +kernel)))) <|
    block_nil)) <|
    block_cons (stmt_ret (sound_bin op_add (sound_var rfl) (sound_slice (sound_var rfl) (part_some (sound_var rfl)) (part_none) (part_none)))) <|
    block_nil) rfl (by decide +kernel) (fun _ _ _ vs h => by match vs, h with | [v0], _ => rfl) (by decide +kernel)
def l__law_placed_1 : AS := sCons (sAug 22 opIAddX (aCall fLen (lCons (aVar 21) (lNil)))) <|
    sCons (sExpr (aMeth kList fAppend (aVar 16) (lCons (aTup (lCons (aBin opSub (aVar 22) (aCst (.int 1))) (lCons (aVar 21) (lNil)))) (lNil)))) <|
    sNil
theorem m_l__law_placed_1 : MonoS l__law_placed_1 := by
  unfold l__law_placed_1
  repeat' first | with_reducible apply m_var | with_reducible apply m_cst | with_reducible apply ms_nil | with_reducible apply ms_cons | with_reducible apply ms_assign | with_reducible apply ms_ret | with_reducible apply ms_ret0 | with_reducible apply ms_cont | with_reducible apply ms_if | with_reducible apply ms_expr | with_reducible apply ms_aug | with_reducible apply ms_augsub | with_reducible apply ms_for | with_reducible apply ms_while | with_reducible apply m_bin | with_reducible apply m_un | with_reducible apply m_cmp | with_reducible apply mt_val | with_reducible apply mt_not | with_reducible apply mt_and | with_reducible apply mt_or | with_reducible apply mt_true | with_reducible apply mt_false | with_reducible apply mt_cmp | with_reducible apply mt_cmp2 | with_reducible apply m_not | with_reducible apply m_if | with_reducible apply m_and | with_reducible apply m_or | with_reducible apply ml_nil | with_reducible apply ml_cons | with_reducible apply m_tup | with_reducible apply m_list | with_reducible apply m_call | with_reducible apply m_meth | with_reducible apply m_slice | with_reducible apply m_comp | with_reducible apply m_genlist | with_reducible apply ms_forg | with_reducible apply mg_name | with_reducible apply mg_sub | with_reducible apply mg_tup | with_reducible apply MonoGs.nil | with_reducible apply MonoGs.cons | with_reducible apply mo_add | with_reducible apply mo_iadd | with_reducible apply mo_sub | with_reducible apply mo_mul | with_reducible apply mo_div | with_reducible apply mo_mod | with_reducible apply mo_neg | with_reducible apply mo_item | with_reducible apply mf_len | with_reducible apply mf_range | with_reducible apply mf_list | with_reducible apply mf_tuple | with_reducible apply mf_append | with_reducible apply mf_insert | with_reducible apply mf_pop | with_reducible apply mf_chr | with_reducible apply mf_sjoin | with_reducible apply mf_all | with_reducible apply mf_any | with_reducible apply mf_sum | with_reducible apply mf_min | with_reducible apply mf_ssplit | with_reducible apply mf_srstrip | with_reducible apply mf_count | with_reducible apply mf_srfind | with_reducible apply mf_sreplace | with_reducible apply mo_iaddx
def f__law_placed : AF := aFn [15] <|
    sCons (sAssign (gName 16) (aList (lNil))) <|
    sCons (sAssign (gName 22) (aCst (.int 0))) <|
    sCons (sFor (gName 21) (aVar 15) (l__law_placed_1)) <|
    sCons (sRet (aVar 16)) <|
    sNil
theorem s__law_placed (c : Cx) (hd : fnRec prg 8 ∈ recsOf c.q) (b_len : c.mg (Str.ofString "len") = none) : SoundF (c.on NN NN_nodup) 1 (Str.ofString "_law_placed") f__law_placed :=
  sound_fn (c := c.on NN NN_nodup) (d := fnRec prg 8) (xs := [Str.ofString "units"]) hd (
    block_cons (stmt_assign (sound_list (list_nil)) (tgt_name rfl (.inl (by decide +kernel)))) <|
    block_cons (stmt_assign (sound_int) (tgt_name rfl (.inl (by decide +kernel)))) <|
    block_cons (stmt_for (sound_var rfl) (tgt_name rfl (.inl (by decide +kernel))) (block_cons (stmt_aug op_iaddx (sound_bi bi_len rfl b_len (by decide +kernel) (by decide +kernel) (list_cons (sound_var rfl) (list_nil)) (by decide +kernel)) rfl (.inl (by decide +kernel))) <|
    block_cons (stmt_expr (sound_meth F.slot_list_append F.type_list_append F.plainAttrs_list kind_list me_append (sound_var rfl) (list_cons (sound_tup (list_cons (sound_bin op_sub (sound_var rfl) (sound_int)) (list_cons (sound_var rfl) (list_nil)))) (list_nil)) (.inr ⟨_, _, rfl, fun _ => ⟨rfl, rfl⟩⟩)) (fun _ h => no_inter h)) <|
    block_nil)) <|
    block_cons (stmt_ret (sound_var rfl)) <|
    block_nil) rfl (by decide +kernel) (fun _ _ _ vs h => by match vs, h with | [v0], _ => rfl) (by decide +kernel)
def l__law_closed_1 : AS := sCons (sAssign (gName 23) (aMeth kStr fSReplace (aVar 23) (lCons (aCst (.str [40, 41])) (lCons (aCst (.str [])) (lNil))))) <|
    sNil
def f__law_closed : AF := aFn [15] <|
    sCons (sAssign (gName 23) (aMeth kStr fSJoin (aCst (.str [])) (lCons (aComp [] (gName 21) (aVar 15) (tOr (tCmp .Eq (aVar 21) (aCst (.str [40]))) (tOr (tCmp .Eq (aVar 21) (aCst (.str [41]))) (tFalse))) (aVar 21)) (lNil)))) <|
    sCons (sWhile (tCmp .In (aCst (.str [40, 41])) (aVar 23)) (l__law_closed_1)) <|
    sCons (sRet (aCmp .Eq (aVar 23) (aCst (.str [])))) <|
    sNil
theorem s__law_closed (c : Cx) (hd : fnRec prg 9 ∈ recsOf c.q) : SoundF (c.on NN NN_nodup) 1 (Str.ofString "_law_closed") f__law_closed :=
  sound_fn (c := c.on NN NN_nodup) (d := fnRec prg 9) (xs := [Str.ofString "units"]) hd (
    block_cons (stmt_assign (sound_meth F.slot_str_join F.type_str_join F.plainAttrs_str kind_str me_sjoin (sound_str) (list_cons (sound_comp (sound_var rfl) (tgt_name rfl (.inl (by decide +kernel))) (cond_one (test_bool (or_cons (test_cmp (sound_var rfl) (sound_str)) (or_cons (test_cmp (sound_var rfl) (sound_str)) (or_nil))))) (sound_var rfl) (by show compChk NN _ _ _ = true; decide +kernel)) (list_nil)) (.inr ⟨_, _, rfl, fun _ => ⟨rfl, rfl⟩⟩)) (tgt_name rfl (.inl (by decide +kernel)))) <|
    block_cons (stmt_while_replace rfl (.inl (by decide +kernel))) <|
    block_cons (stmt_ret (sound_cmp (sound_var rfl) (sound_str))) <|
    block_nil) rfl (by decide +kernel) (fun _ _ _ vs h => by match vs, h with | [v0], _ => rfl) (by decide +kernel)
def l_law_1 : AS := sCons (sRet (aCst (.bool false))) <|
    sNil
def l_law_2 : AS := sCons (sRet (aCst (.bool false))) <|
    sNil
def l_law_3 : AS := sCons (sRet (aCst (.bool false))) <|
    sNil
def l_law_4 : AS := sCons (sAug 29 opSub (aCst (.int 1))) <|
    sNil
theorem m_l_law_4 : MonoS l_law_4 := by
  unfold l_law_4
  repeat' first | with_reducible apply m_var | with_reducible apply m_cst | with_reducible apply ms_nil | with_reducible apply ms_cons | with_reducible apply ms_assign | with_reducible apply ms_ret | with_reducible apply ms_ret0 | with_reducible apply ms_cont | with_reducible apply ms_if | with_reducible apply ms_expr | with_reducible apply ms_aug | with_reducible apply ms_augsub | with_reducible apply ms_for | with_reducible apply ms_while | with_reducible apply m_bin | with_reducible apply m_un | with_reducible apply m_cmp | with_reducible apply mt_val | with_reducible apply mt_not | with_reducible apply mt_and | with_reducible apply mt_or | with_reducible apply mt_true | with_reducible apply mt_false | with_reducible apply mt_cmp | with_reducible apply mt_cmp2 | with_reducible apply m_not | with_reducible apply m_if | with_reducible apply m_and | with_reducible apply m_or | with_reducible apply ml_nil | with_reducible apply ml_cons | with_reducible apply m_tup | with_reducible apply m_list | with_reducible apply m_call | with_reducible apply m_meth | with_reducible apply m_slice | with_reducible apply m_comp | with_reducible apply m_genlist | with_reducible apply ms_forg | with_reducible apply mg_name | with_reducible apply mg_sub | with_reducible apply mg_tup | with_reducible apply MonoGs.nil | with_reducible apply MonoGs.cons | with_reducible apply mo_add | with_reducible apply mo_iadd | with_reducible apply mo_sub | with_reducible apply mo_mul | with_reducible apply mo_div | with_reducible apply mo_mod | with_reducible apply mo_neg | with_reducible apply mo_item | with_reducible apply mf_len | with_reducible apply mf_range | with_reducible apply mf_list | with_reducible apply mf_tuple | with_reducible apply mf_append | with_reducible apply mf_insert | with_reducible apply mf_pop | with_reducible apply mf_chr | with_reducible apply mf_sjoin | with_reducible apply mf_all | with_reducible apply mf_any | with_reducible apply mf_sum | with_reducible apply mf_min | with_reducible apply mf_ssplit | with_reducible apply mf_srstrip | with_reducible apply mf_count | with_reducible apply mf_srfind | with_reducible apply mf_sreplace | with_reducible apply mo_iaddx | with_reducible apply m_f__check_parenthesis | with_reducible apply m_f__law_closed | with_reducible apply m_f__law_outer | with_reducible apply m_f__law_placed | with_reducible apply m_f__law_unit | with_reducible apply m_f__pre_parse_validation | with_reducible apply m_f__strip_quoted_realnames | with_reducible apply m_l_law_1 | with_reducible apply m_l_law_2 | with_reducible apply m_l_law_3
def l_law_5 : AS := sCons (sRet (aCst (.bool false))) <|
    sNil
def l_law_6 : AS := sCons (sRet (aCst (.bool false))) <|
    sNil
def l_law_7 : AS := sCons (sExpr (aMeth kList fAppend (aVar 15) (lCons (aCst (.str [92])) (lNil)))) <|
    sNil
theorem m_l_law_7 : MonoS l_law_7 := by
  unfold l_law_7
  repeat' first | with_reducible apply m_var | with_reducible apply m_cst | with_reducible apply ms_nil | with_reducible apply ms_cons | with_reducible apply ms_assign | with_reducible apply ms_ret | with_reducible apply ms_ret0 | with_reducible apply ms_cont | with_reducible apply ms_if | with_reducible apply ms_expr | with_reducible apply ms_aug | with_reducible apply ms_augsub | with_reducible apply ms_for | with_reducible apply ms_while | with_reducible apply m_bin | with_reducible apply m_un | with_reducible apply m_cmp | with_reducible apply mt_val | with_reducible apply mt_not | with_reducible apply mt_and | with_reducible apply mt_or | with_reducible apply mt_true | with_reducible apply mt_false | with_reducible apply mt_cmp | with_reducible apply mt_cmp2 | with_reducible apply m_not | with_reducible apply m_if | with_reducible apply m_and | with_reducible apply m_or | with_reducible apply ml_nil | with_reducible apply ml_cons | with_reducible apply m_tup | with_reducible apply m_list | with_reducible apply m_call | with_reducible apply m_meth | with_reducible apply m_slice | with_reducible apply m_comp | with_reducible apply m_genlist | with_reducible apply ms_forg | with_reducible apply mg_name | with_reducible apply mg_sub | with_reducible apply mg_tup | with_reducible apply MonoGs.nil | with_reducible apply MonoGs.cons | with_reducible apply mo_add | with_reducible apply mo_iadd | with_reducible apply mo_sub | with_reducible apply mo_mul | with_reducible apply mo_div | with_reducible apply mo_mod | with_reducible apply mo_neg | with_reducible apply mo_item | with_reducible apply mf_len | with_reducible apply mf_range | with_reducible apply mf_list | with_reducible apply mf_tuple | with_reducible apply mf_append | with_reducible apply mf_insert | with_reducible apply mf_pop | with_reducible apply mf_chr | with_reducible apply mf_sjoin | with_reducible apply mf_all | with_reducible apply mf_any | with_reducible apply mf_sum | with_reducible apply mf_min | with_reducible apply mf_ssplit | with_reducible apply mf_srstrip | with_reducible apply mf_count | with_reducible apply mf_srfind | with_reducible apply mf_sreplace | with_reducible apply mo_iaddx | with_reducible apply m_f__check_parenthesis | with_reducible apply m_f__law_closed | with_reducible apply m_f__law_outer | with_reducible apply m_f__law_placed | with_reducible apply m_f__law_unit | with_reducible apply m_f__pre_parse_validation | with_reducible apply m_f__strip_quoted_realnames | with_reducible apply m_l_law_1 | with_reducible apply m_l_law_2 | with_reducible apply m_l_law_3 | with_reducible apply m_l_law_4 | with_reducible apply m_l_law_5 | with_reducible apply m_l_law_6
def f_law : AF := aFn [24] <|
    sCons (sAssign (gName 15) (aComp [] (gName 11) (aBin opAdd (aVar 24) (aList (lCons (aCall fLen (lCons (aVar 24) (lNil))) (lNil)))) (tTrue) (aCall f__law_unit (lCons (aVar 11) (lNil))))) <|
    sCons (sIf (tCmp .Eq (aBin opMod (aCall fLen (lCons (aVar 24) (lNil))) (aCst (.int 3))) (aCst (.int 1))) (l_law_7) (sNil)) <|
    sCons (sAssign (gName 23) (aMeth kStr fSJoin (aCst (.str [])) (lCons (aVar 15) (lNil)))) <|
    sCons (sAssign (gName 31) (aCall f__law_outer (lCons (aVar 15) (lNil)))) <|
    sCons (sAssign (gName 30) (aCall f__strip_quoted_realnames (lCons (aVar 23) (lNil)))) <|
    sCons (sIf (tCmp .NotEq (aGenList [0] g__iter_escaped_chars (lCons (aVar 30) (lNil))) (aCall f__law_placed (lCons (aVar 31) (lNil)))) (l_law_6) (sNil)) <|
    sCons (sIf (tCmp .NotEq (aCall f__strip_quoted_realnames (lCons (aVar 30) (lNil))) (aVar 30)) (l_law_5) (sNil)) <|
    sCons (sAssign (gName 29) (aBin opMod (aCall fSum (lCons (aVar 24) (lNil))) (aCall fLen (lCons (aVar 15) (lNil))))) <|
    sCons (sWhile (tCmp .Eq (aBin opMod (aMeth kList fCount (aSlice (aVar 15) (aCst .none) (aVar 29) (aCst .none)) (lCons (aCst (.str [34])) (lNil))) (aCst (.int 2))) (aCst (.int 1))) (l_law_4)) <|
    sCons (sAssign (gName 32) (aMeth kStr fSJoin (aCst (.str [])) (lCons (aSlice (aVar 15) (aCst .none) (aVar 29) (aCst .none)) (lNil)))) <|
    sCons (sAssign (gName 26) (aMeth kStr fSJoin (aCst (.str [])) (lCons (aSlice (aVar 15) (aVar 29) (aCst .none) (aCst .none)) (lNil)))) <|
    sCons (sIf (tCmp .NotEq (aBin opAdd (aCall f__strip_quoted_realnames (lCons (aVar 32) (lNil))) (aCall f__strip_quoted_realnames (lCons (aVar 26) (lNil)))) (aVar 30)) (l_law_3) (sNil)) <|
    sCons (sAssign (gName 28) (aCall f__law_closed (lCons (aVar 31) (lNil)))) <|
    sCons (sIf (tOr (tCmp .IsNot (aCall f__check_parenthesis (lCons (aVar 23) (lNil))) (aVar 28)) (tOr (tCmp .IsNot (aCall f__check_parenthesis (lCons (aVar 30) (lNil))) (aVar 28)) (tFalse))) (l_law_2) (sNil)) <|
    sCons (sAssign (gName 25) (aList (lCons (aVar 26) (lCons (aVar 23) (lNil))))) <|
    sCons (sAssign (gName 27) (aList (lCons (aIf (tVal (aCall f__law_closed (lCons (aCall f__law_outer (lCons (aSlice (aVar 15) (aVar 29) (aCst .none) (aCst .none)) (lNil))) (lNil)))) (aVar 26) (aCst (.str [40, 39, 39, 44, 32, 39, 39, 41]))) (lNil)))) <|
    sCons (sExpr (aMeth kList fAppend (aVar 27) (lCons (aIf (tVal (aVar 28)) (aVar 23) (aCst (.str [40, 39, 39, 44, 32, 39, 39, 41]))) (lNil)))) <|
    sCons (sIf (tCmp .NotEq (aCall f__pre_parse_validation (lCons (aVar 25) (lNil))) (aVar 27)) (l_law_1) (sNil)) <|
    sCons (sRet (aCmp .Eq (aVar 25) (aList (lCons (aVar 26) (lCons (aVar 23) (lNil)))))) <|
    sNil
theorem s_law (c : Cx) (hd : fnRec prg 10 ∈ recsOf c.q) (h__check_parenthesis : SoundF (c.on NN NN_nodup) 6 (Str.ofString "_check_parenthesis") f__check_parenthesis) (h__iter_escaped_chars : GenF (c.on NN NN_nodup) 1 (Str.ofString "_iter_escaped_chars") [0] g__iter_escaped_chars) (h__law_closed : SoundF (c.on NN NN_nodup) 1 (Str.ofString "_law_closed") f__law_closed) (h__law_outer : SoundF (c.on NN NN_nodup) 1 (Str.ofString "_law_outer") f__law_outer) (h__law_placed : SoundF (c.on NN NN_nodup) 1 (Str.ofString "_law_placed") f__law_placed) (h__law_unit : SoundF (c.on NN NN_nodup) 1 (Str.ofString "_law_unit") f__law_unit) (h__pre_parse_validation : SoundF (c.on NN NN_nodup) 7 (Str.ofString "_pre_parse_validation") f__pre_parse_validation) (h__strip_quoted_realnames : SoundF (c.on NN NN_nodup) 5 (Str.ofString "_strip_quoted_realnames") f__strip_quoted_realnames) (b_len : c.mg (Str.ofString "len") = none) (b_list : c.mg (Str.ofString "list") = none) (b_sum : c.mg (Str.ofString "sum") = none) : SoundF (c.on NN NN_nodup) 8 (Str.ofString "law") f_law :=
  sound_fn (c := c.on NN NN_nodup) (d := fnRec prg 10) (xs := [Str.ofString "script"]) hd (
    block_cons (stmt_assign_comp (sound_bin op_add (sound_var rfl) (sound_list (list_cons (sound_bi bi_len rfl b_len (by decide +kernel) (by decide +kernel) (list_cons (sound_var rfl) (list_nil)) (by decide +kernel)) (list_nil)))) (tgt_name rfl (.inl (by decide +kernel))) (cond_nil) (sound_call h__law_unit (list_cons (sound_var rfl) (list_nil)) (by decide +kernel) (by decide)) (by show compChk NN _ _ _ = true; decide +kernel) rfl (by decide +kernel) (by decide +kernel)) <|
    block_cons (stmt_if (test_cmp (sound_bin op_mod (sound_bi bi_len rfl b_len (by decide +kernel) (by decide +kernel) (list_cons (sound_var rfl) (list_nil)) (by decide +kernel)) (sound_int)) (sound_int)) (block_cons (stmt_expr (sound_meth F.slot_list_append F.type_list_append F.plainAttrs_list kind_list me_append (sound_var rfl) (list_cons (sound_str) (list_nil)) (.inr ⟨_, _, rfl, fun _ => ⟨rfl, rfl⟩⟩)) (fun _ h => no_inter h)) <|
    block_nil) (block_nil)) <|
    block_cons (stmt_assign (sound_meth F.slot_str_join F.type_str_join F.plainAttrs_str kind_str me_sjoin (sound_str) (list_cons (sound_var rfl) (list_nil)) (.inr ⟨_, _, rfl, fun _ => ⟨rfl, rfl⟩⟩)) (tgt_name rfl (.inl (by decide +kernel)))) <|
    block_cons (stmt_assign (sound_call h__law_outer (list_cons (sound_var rfl) (list_nil)) (by decide +kernel) (by decide)) (tgt_name rfl (.inl (by decide +kernel)))) <|
    block_cons (stmt_assign (sound_call h__strip_quoted_realnames (list_cons (sound_var rfl) (list_nil)) (by decide +kernel) (by decide)) (tgt_name rfl (.inl (by decide +kernel)))) <|
    block_cons (stmt_if (test_cmp (sound_list_gen h__iter_escaped_chars (list_cons (sound_var rfl) (list_nil)) (by decide +kernel) (by decide) b_list (by decide +kernel) (by decide +kernel)) (sound_call h__law_placed (list_cons (sound_var rfl) (list_nil)) (by decide +kernel) (by decide))) (block_cons (stmt_ret (sound_bool)) <|
    block_nil) (block_nil)) <|
    block_cons (stmt_if (test_cmp (sound_call h__strip_quoted_realnames (list_cons (sound_var rfl) (list_nil)) (by decide +kernel) (by decide)) (sound_var rfl)) (block_cons (stmt_ret (sound_bool)) <|
    block_nil) (block_nil)) <|
    block_cons (stmt_assign (sound_bin op_mod (sound_bi bi_sum rfl b_sum (by decide +kernel) (by decide +kernel) (list_cons (sound_var rfl) (list_nil)) (by decide +kernel)) (sound_bi bi_len rfl b_len (by decide +kernel) (by decide +kernel) (list_cons (sound_var rfl) (list_nil)) (by decide +kernel))) (tgt_name rfl (.inl (by decide +kernel)))) <|
    block_cons (stmt_while (test_cmp (sound_bin op_mod (sound_meth F.slot_list_count F.type_list_count F.plainAttrs_list kind_list me_count (sound_slice (sound_var rfl) (part_none) (part_some (sound_var rfl)) (part_none)) (list_cons (sound_str) (list_nil)) (.inr ⟨_, _, rfl, fun _ => ⟨rfl, rfl⟩⟩)) (sound_int)) (sound_int)) (block_cons (stmt_aug op_isub (sound_int) rfl (.inl (by decide +kernel))) <|
    block_nil)) <|
    block_cons (stmt_assign (sound_meth F.slot_str_join F.type_str_join F.plainAttrs_str kind_str me_sjoin (sound_str) (list_cons (sound_slice (sound_var rfl) (part_none) (part_some (sound_var rfl)) (part_none)) (list_nil)) (.inr ⟨_, _, rfl, fun _ => ⟨rfl, rfl⟩⟩)) (tgt_name rfl (.inl (by decide +kernel)))) <|
    block_cons (stmt_assign (sound_meth F.slot_str_join F.type_str_join F.plainAttrs_str kind_str me_sjoin (sound_str) (list_cons (sound_slice (sound_var rfl) (part_some (sound_var rfl)) (part_none) (part_none)) (list_nil)) (.inr ⟨_, _, rfl, fun _ => ⟨rfl, rfl⟩⟩)) (tgt_name rfl (.inl (by decide +kernel)))) <|
    block_cons (stmt_if (test_cmp (sound_bin op_add (sound_call h__strip_quoted_realnames (list_cons (sound_var rfl) (list_nil)) (by decide +kernel) (by decide)) (sound_call h__strip_quoted_realnames (list_cons (sound_var rfl) (list_nil)) (by decide +kernel) (by decide))) (sound_var rfl)) (block_cons (stmt_ret (sound_bool)) <|
    block_nil) (block_nil)) <|
    block_cons (stmt_assign (sound_call h__law_closed (list_cons (sound_var rfl) (list_nil)) (by decide +kernel) (by decide)) (tgt_name rfl (.inl (by decide +kernel)))) <|
    block_cons (stmt_if (test_bool (or_cons (test_cmp (sound_call h__check_parenthesis (list_cons (sound_var rfl) (list_nil)) (by decide +kernel) (by decide)) (sound_var rfl)) (or_cons (test_cmp (sound_call h__check_parenthesis (list_cons (sound_var rfl) (list_nil)) (by decide +kernel) (by decide)) (sound_var rfl)) (or_nil)))) (block_cons (stmt_ret (sound_bool)) <|
    block_nil) (block_nil)) <|
    block_cons (stmt_assign (sound_list (list_cons (sound_var rfl) (list_cons (sound_var rfl) (list_nil)))) (tgt_name rfl (.inl (by decide +kernel)))) <|
    block_cons (stmt_assign (sound_list (list_cons (sound_if (test_val (sound_call h__law_closed (list_cons (sound_call h__law_outer (list_cons (sound_slice (sound_var rfl) (part_some (sound_var rfl)) (part_none) (part_none)) (list_nil)) (by decide +kernel) (by decide)) (list_nil)) (by decide +kernel) (by decide))) (sound_var rfl) (sound_str)) (list_nil))) (tgt_name rfl (.inl (by decide +kernel)))) <|
    block_cons (stmt_expr (sound_meth F.slot_list_append F.type_list_append F.plainAttrs_list kind_list me_append (sound_var rfl) (list_cons (sound_if (test_val (sound_var rfl)) (sound_var rfl) (sound_str)) (list_nil)) (.inr ⟨_, _, rfl, fun _ => ⟨rfl, rfl⟩⟩)) (fun _ h => no_inter h)) <|
    block_cons (stmt_if (test_cmp (sound_call h__pre_parse_validation (list_cons (sound_var rfl) (list_nil)) (by decide +kernel) (by decide)) (sound_var rfl)) (block_cons (stmt_ret (sound_bool)) <|
    block_nil) (block_nil)) <|
    block_cons (stmt_ret (sound_cmp (sound_var rfl) (sound_list (list_cons (sound_var rfl) (list_cons (sound_var rfl) (list_nil)))))) <|
    block_nil) rfl (by decide +kernel) (fun _ _ _ vs h => by match vs, h with | [v0], _ => rfl) (by decide +kernel)
end Mine
open PySem PySem.W PySem.Calls PyProof.Rows
set_option Elab.async false
set_option linter.unusedVariables false
set_option linter.unusedSimpArgs false
set_option maxRecDepth 100000
set_option maxHeartbeats 8000000
namespace Mine
local macro_rules | `(tactic| walk_at "ev") => `(tactic| try simp only [sCons, sNil, sAssign, sRet, sRet0, sIf, sExpr, sFor, sAugSub, sAug, sCont, gName, gSub, gTup, gTup.go, aVar, aCst, aBin, aUn, aIf, aTup, aList, lCons, lNil, aCall, aMeth, aCmp, aSlice, tCmp, tCmp2, tAnd, tOr, tNot, tVal, tTrue, tFalse, upd_at, if_true, if_false, Bool.false_eq_true, decide_true, decide_false, decide_eq_true_eq, opItem, opAdd, opIAdd, opIAddX, opSub, opMul, opDiv, opMod, opNeg, cmpOp, cmpLt, cmpIn, cmpIs, eq_int, eq_str, eq_bool, occ_one, truth, kList, kStr, fLen, fRange, fList, fTuple, fChr, fSJoin, fAll, fAny, fCount, fSRstrip, fSum, fMin, joinL_nil, fAppend, fInsert, fPop, withOwn, withItems, setAt, nth_zero, nth_one, nth_two, nth_last, kOk, bindP, List.length_cons, List.length_nil, List.isEmpty_cons, List.isEmpty_nil, List.map_nil, List.map_cons, Nat.reduceAdd, Nat.reduceEqDiff, Nat.succ_ne_self, Int.reduceNeg, Int.reduceLE, Int.reduceLT, Int.reduceEq, Int.cast_ofNat_Int, Int.toNat_zero, Int.toNat_one, Int.reduceToNat, Int.le_refl, List.getElem?_cons_zero, List.getElem?_cons_succ, reduceIte, reduceCtorEq, true_and, and_true, and_self, not_true_eq_false, not_false_eq_true, Bool.not_true, Bool.not_false, Bool.not_eq_true, Bool.not_eq_false, ne_eq, decide_not])
local macro_rules | `(tactic| exists $es,*) => `(tactic| try simp only [$[$es:term],*, sNil, sAssign, sRet, sRet0, sIf, sExpr, sAugSub, sAug, sCont, gName, gSub, gTup, gTup.go, aVar, aCst, aBin, aUn, aIf, aTup, aList, lCons, lNil, aCall, aMeth, aCmp, aSlice, tCmp, tCmp2, tAnd, tOr, tNot, tVal, tTrue, tFalse, upd_at, if_true, if_false, Bool.false_eq_true, decide_true, decide_false, decide_eq_true_eq, opItem, opAdd, opIAdd, opIAddX, opSub, opMul, opDiv, opMod, opNeg, cmpOp, cmpLt, cmpIn, cmpIs, eq_int, eq_str, eq_bool, occ_one, truth, kList, kStr, fLen, fRange, fList, fTuple, fChr, fSJoin, fAll, fAny, fCount, fSRstrip, fSum, fMin, joinL_nil, fAppend, fInsert, fPop, withOwn, withItems, setAt, nth_zero, nth_one, nth_two, nth_last, kOk, bindP, List.length_cons, List.length_nil, List.isEmpty_cons, List.isEmpty_nil, List.map_nil, List.map_cons, Nat.reduceAdd, Nat.reduceEqDiff, Nat.succ_ne_self, Int.reduceNeg, Int.reduceLE, Int.reduceLT, Int.reduceEq, Int.cast_ofNat_Int, Int.toNat_zero, Int.toNat_one, Int.reduceToNat, Int.le_refl, List.getElem?_cons_zero, List.getElem?_cons_succ, reduceIte, reduceCtorEq, true_and, and_true, and_self, not_true_eq_false, not_false_eq_true, Bool.not_true, Bool.not_false, Bool.not_eq_true, Bool.not_eq_false, ne_eq, decide_not])
local macro_rules | `(tactic| walk_at "st") => `(tactic| refine seq ?_)
theorem iter_loop {Q : Fl → AEnv → List PV → Prop} : ∀ (x : List Nat) (i : Nat) (b : Bool) (ρ : AEnv), ρ 1 = some (.bool b) → ρ 2 = some (.int ((i - 1 : Nat) : Int)) →
    (∀ ρ' b' k, ρ' 1 = some (.bool b') → ρ' 2 = some (.int (k : Nat)) → Q .next ρ' ((if b' then [(k, [92])] else []).map up)) →
    forG (gTup [gName 2, gName 3]) gl__iter_escaped_chars_1 Q (enumItems i x) ρ ((esc i b x).map up)
  | [], i, b, ρ, h1, h2, hQ => hQ ρ b (i - 1) h1 h2
  | ch :: x, i, true, ρ, h1, h2, hQ => by
    have ih := fun ρ' e1 e2 => iter_loop (Q := Q) x (i + 1) false ρ' e1 e2 hQ
    simp only [enumItems, forG, gl__iter_escaped_chars_1, gCons, gIf, gYield, gLift, gNil, esc, List.map_cons]
    exists h1
    refine ⟨by simp [szOk], by simp [szOk], _, rfl, ?_⟩
    exact ih _ (by simp [upd_at]) (by simp [upd_at])
  | ch :: x, i, false, ρ, h1, h2, hQ => by
    have ih := fun b ρ' e1 e2 => iter_loop (Q := Q) x (i + 1) b ρ' e1 e2 hQ
    simp only [enumItems, forG, gl__iter_escaped_chars_1, gCons, gIf, gYield, gLift, gNil, esc, List.map_cons]
    by_cases h : ch = 92
    · subst h
      exists h1
      exact ih true _ (by simp [upd_at]) (by simp [upd_at])
    · have h' : ¬ ([ch] = [92]) := by simpa using h
      exists h1, h', h
      refine ⟨by simp [szOk], _, rfl, ?_⟩
      exact ih false _ (by simp [upd_at, h1]) (by simp [upd_at])
theorem iter_gen (x : List Nat) : gFn [0] g__iter_escaped_chars [.str x] ((esc 0 false x).map up) := by
  refine ⟨rfl, ?_⟩
  simp only [g__iter_escaped_chars, gCons, gLift, gForEnum]
  walk_at "ev"
  refine iter_loop x 0 false _ (by simp [upd_at]) (by simp [upd_at]) fun ρ' b' k e1 e2 => ?_
  cases b'
  · simp only [gIf, gNil]
    exists e1
    simp
  · simp only [gIf, gNil, gCons, gYield]
    exists e1, e2
    exact ⟨by simp [szOk], [], rfl, .inl trivial, rfl⟩
theorem gen_list {l : AL} {Q : PV → AH → Prop} {ρ : AEnv} {H : AH} (ml : MonoL l) (h : l (fun ps H1 => ∃ x, ps = [.str x] ∧ x.length ≤ 16777216 ∧ ∀ a, H1 a = none → Q (.ref a) (upd H1 a ⟨(esc 0 false x).map up, true⟩)) ρ H) : aGenList [0] g__iter_escaped_chars l Q ρ H := by
  refine ml _ _ _ _ (fun ps H1 q => ?_) h
  obtain ⟨x, rfl, hx, q⟩ := q
  exact ⟨_, iter_gen x, by have := esc_len x 0 false; simp at this ⊢; omega, q⟩
def onInt (f : Int → PV) : PV → Option PV
  | .int n => some (f n)
  | _ => none
theorem onInt_all (f : Int → PV) : ∀ ns : List Int, (ns.map PV.int).filterMap (onInt f) = ns.map f
  | [] => rfl
  | n :: ns => by simp [onInt, onInt_all f ns]
theorem strsOf_map : ∀ l : List (List Nat), strsOf (l.map .str) = some l
  | [] => rfl
  | x :: l => by simp [strsOf, strsOf_map l]
-- units of a text, their places
abbrev Us := List (List Nat)
def uOk (u : List Nat) : Prop := (∃ c, c ≠ 92 ∧ u = [c]) ∨ ∃ c, u = [92, c]
/-- whole units, a lone backslash at the end at most -/
def WU : Us → Prop
  | [] => True
  | [u] => uOk u ∨ u = [92]
  | u :: v :: r => uOk u ∧ WU (v :: r)
def plc : Nat → Us → List (Nat × List Nat)
  | _, [] => []
  | w, u :: r => (w + u.length - 1, u) :: plc (w + u.length) r
theorem plc_snd : ∀ (V : Us) (w : Nat), (plc w V).map (·.2) = V
  | [], _ => rfl
  | u :: r, w => by simp [plc, plc_snd r]
theorem WU.tail {u : List Nat} {r : Us} (h : WU (u :: r)) : WU r := by
  cases r with
  | nil => trivial
  | cons v r => exact h.2
theorem esc_plc : ∀ (V : Us) (w : Nat), WU V → esc w false V.flatten = plc w V
  | [], w, _ => rfl
  | [u], w, h => by
    rcases h with (⟨c, hc, rfl⟩ | ⟨c, rfl⟩) | rfl
    · simp [plc, esc, hc]
    · simp [plc, esc]
    · simp [plc, esc]
  | u :: v :: r, w, h => by
    have ih := esc_plc (v :: r) (w + u.length) h.2
    rw [List.flatten_cons]
    rcases h.1 with ⟨c, hc, rfl⟩ | ⟨c, rfl⟩
    · have e : plc w ([c] :: v :: r) = (w, [c]) :: plc (w + 1) (v :: r) := rfl
      simp only [List.length_singleton] at ih
      rw [e, ← ih]
      simp only [List.singleton_append, esc, hc, if_false]
    · have e : plc w ([92, c] :: v :: r) = (w + 1, [92, c]) :: plc (w + 2) (v :: r) := rfl
      simp only [List.length_cons, List.length_nil, Nat.zero_add, Nat.reduceAdd] at ih
      rw [e, ← ih]
      simp only [List.cons_append, List.nil_append, esc, if_true]
theorem WU.app_left : ∀ {a b : Us}, WU (a ++ b) → WU a
  | [], _, _ => trivial
  | [u], [], h => h
  | [u], v :: b, h => .inl h.1
  | u :: v :: a, b, h => ⟨h.1, WU.app_left (a := v :: a) h.2⟩
theorem WU.app_right : ∀ {a b : Us}, WU (a ++ b) → WU b
  | [], _, h => h
  | u :: a, b, h => WU.app_right (a := a) h.tail
theorem WU_all : ∀ {V : Us}, (∀ u ∈ V, uOk u) → WU V
  | [], _ => trivial
  | [u], h => .inl (h u (.head _))
  | u :: v :: r, h => ⟨h u (.head _), WU_all fun w hw => h w (.tail _ hw)⟩
theorem WU_snoc : ∀ {V : Us}, (∀ u ∈ V, uOk u) → WU (V ++ [[92]])
  | [], _ => .inr rfl
  | [u], h => ⟨h u (.head _), .inr rfl⟩
  | u :: v :: r, h => ⟨h u (.head _), WU_snoc (V := v :: r) fun w hw => h w (.tail _ hw)⟩
/-- outside of the closed quoted stretches -/
def otr : Option Us → Us → Us
  | none, [] => []
  | some p, [] => [34] :: p
  | none, u :: r => if u = [34] then otr (some []) r else u :: otr none r
  | some p, u :: r => if u = [34] then otr none r else otr (some (p ++ [u])) r
theorem WU_cons {u : List Nat} {r : Us} (hu : uOk u) (hr : WU r) : WU (u :: r) := by
  cases r with
  | nil => exact .inl hu
  | cons v r => exact ⟨hu, hr⟩
theorem uOk34 : uOk [34] := .inl ⟨34, by decide, rfl⟩
theorem WU.head {u : List Nat} {r : Us} (h : WU (u :: r)) (hr : r ≠ []) : uOk u := by
  cases r with
  | nil => exact absurd rfl hr
  | cons v r => exact h.1
/-- all in a row of whole units -/
theorem WU_app : ∀ {a b : Us}, (∀ u ∈ a, uOk u) → WU b → WU (a ++ b)
  | [], _, _, h => h
  | u :: a, b, h, hb => WU_cons (h u (.head _)) (WU_app (fun v hv => h v (.tail _ hv)) hb)
theorem otr_WU : ∀ (V : Us), WU V → WU (otr none V) ∧ ∀ p, (∀ u ∈ p, uOk u) → WU (otr (some p) V)
  | [], _ => ⟨trivial, fun p hp => WU_cons uOk34 (WU_all hp)⟩
  | u :: r, h => by
    obtain ⟨i1, i2⟩ := otr_WU r h.tail
    refine ⟨?_, fun p hp => ?_⟩
    · simp only [otr]
      split
      · exact i2 [] fun _ h => by cases h
      · by_cases hr : r = []
        · subst hr; exact h
        · exact WU_cons (h.head hr) i1
    · simp only [otr]
      split
      · exact i1
      · by_cases hr : r = []
        · subst hr
          have : otr (some (p ++ [u])) [] = ([34] :: p) ++ [u] := rfl
          rw [this]
          exact WU_app (fun v hv => by rcases List.mem_cons.mp hv with rfl | hv; exact uOk34; exact hp v hv) h
        · exact i2 _ fun v hv => by
            rcases List.mem_append.mp hv with hv | hv
            · exact hp v hv
            · rw [List.mem_singleton.mp hv]; exact h.head hr
theorem otr_free : ∀ (V : Us), [34] ∉ V → otr none V = V ∧ ∀ p, otr (some p) V = [34] :: (p ++ V)
  | [], _ => ⟨rfl, fun p => by simp [otr]⟩
  | u :: r, h => by
    have hu : u ≠ [34] := fun e => h (by rw [e]; exact .head _)
    obtain ⟨i1, i2⟩ := otr_free r fun q => h (.tail _ q)
    refine ⟨by simp only [otr, hu, if_false, i1], fun p => ?_⟩
    simp only [otr, hu, if_false]
    rw [i2]; simp
theorem otr_app : ∀ (a b : Us), (a.count [34] % 2 = 0 → otr none (a ++ b) = otr none a ++ otr none b) ∧ (a.count [34] % 2 = 1 → ∀ p, otr (some p) (a ++ b) = otr (some p) a ++ otr none b)
  | [], b => ⟨fun _ => rfl, fun h => by simp at h⟩
  | u :: a, b => by
    obtain ⟨i1, i2⟩ := otr_app a b
    by_cases hu : u = [34]
    · subst hu
      simp only [List.cons_append, List.count_cons_self, otr, if_true]
      exact ⟨fun h => i2 (by omega) [], fun h p => i1 (by omega)⟩
    · have hc : (u :: a).count [34] = a.count [34] := by rw [List.count_cons_of_ne hu]
      simp only [List.cons_append, otr, hu, if_false, hc]
      exact ⟨fun h => by rw [i1 h], fun h p => i2 h _⟩
/-- what is left: no mark, or one and none behind it -/
def Lf (V : Us) : Prop := [34] ∉ V ∨ ∃ a p, V = a ++ [34] :: p ∧ [34] ∉ a ∧ [34] ∉ p
theorem otr_left : ∀ (V : Us), Lf (otr none V) ∧ ∀ p, [34] ∉ p → Lf (otr (some p) V)
  | [] => ⟨.inl (by simp [otr]), fun p hp => .inr ⟨[], p, rfl, by simp, hp⟩⟩
  | u :: r => by
    obtain ⟨i1, i2⟩ := otr_left r
    by_cases hu : u = [34]
    · simp only [otr, hu, if_true]; exact ⟨i2 [] (by simp), fun _ _ => i1⟩
    · simp only [otr, hu, if_false]
      refine ⟨?_, fun p hp => i2 _ (by simp [hp]; exact fun e => hu e.symm)⟩
      rcases i1 with h | ⟨a, p, e, ha, hp⟩
      · exact .inl (by simp [h]; exact fun e => hu e.symm)
      · exact .inr ⟨u :: a, p, by rw [e]; rfl, by simp [ha]; exact fun e => hu e.symm, hp⟩
theorem otr_lf {V : Us} (h : Lf V) : otr none V = V := by
  rcases h with h | ⟨a, p, rfl, ha, hp⟩
  · exact (otr_free V h).1
  · have h0 : a.count [34] = 0 := List.count_eq_zero.mpr ha
    rw [(otr_app a ([34] :: p)).1 (by omega), (otr_free a ha).1]
    simp only [otr, if_true]
    rw [(otr_free p hp).2]; simp
theorem otr_idem (V : Us) : otr none (otr none V) = otr none V := otr_lf (otr_left V).1
/-- brackets that close each other -/
def bal : Nat → Us → Bool
  | k, [] => decide (k = 0)
  | k, u :: r => if u = [40] then bal (k + 1) r else if u = [41] then (if k = 0 then false else bal (k - 1) r) else bal k r
/-- the units of a text -/
def uts (x : List Nat) : Us := (esc 0 false x).map (·.2)
theorem uts_flat (x : List Nat) : (uts x).flatten = x := by
  have : ∀ (x : List Nat) (i : Nat) (b : Bool), ((esc i b x).map (·.2)).flatten = (if b then [92] else []) ++ x := by
    intro x
    induction x with
    | nil => intro i b; cases b <;> rfl
    | cons c x ih =>
      intro i b
      cases b with
      | true => simp [esc, ih]
      | false =>
        by_cases h : c = 92
        · simp only [esc, h, if_true]; rw [ih]; rfl
        · simp [esc, h, ih]
  exact this x 0 false
theorem uts_of {V : Us} (h : WU V) : uts V.flatten = V := by unfold uts; rw [esc_plc V 0 h, plc_snd]
theorem uts_WU (x : List Nat) : WU (uts x) ∧ esc 0 false x = plc 0 (uts x) := by
  have key : ∀ (x : List Nat) (i : Nat), (WU ((esc i false x).map (·.2)) ∧ esc i false x = plc i ((esc i false x).map (·.2))) ∧ (0 < i → (WU ((esc i true x).map (·.2)) ∧ esc i true x = plc (i - 1) ((esc i true x).map (·.2)))) := by
    intro x
    induction x with
    | nil => exact fun i => ⟨⟨trivial, rfl⟩, fun hi => ⟨.inr rfl, by simp [esc, plc]⟩⟩
    | cons c x ih =>
      intro i
      obtain ⟨⟨j1, j2⟩, j3⟩ := ih (i + 1)
      refine ⟨?_, fun hi => ?_⟩
      · by_cases h : c = 92
        · simp only [esc, h, if_true]
          have := j3 (by omega)
          rwa [Nat.add_sub_cancel] at this
        · simp only [esc, h, if_false, List.map_cons]
          refine ⟨WU_cons (.inl ⟨c, h, rfl⟩) j1, ?_⟩
          simp only [plc, List.length_cons, List.length_nil, Nat.zero_add, Nat.add_sub_cancel]
          rw [← j2]
      · simp only [esc, List.map_cons]
        refine ⟨WU_cons (.inr ⟨c, rfl⟩) j1, ?_⟩
        have e1 : i - 1 + 2 = i + 1 := by omega
        simp only [plc, List.length_cons, List.length_nil, Nat.zero_add, Nat.reduceAdd, e1, Nat.add_sub_cancel]
        rw [← j2]
  exact (key x 0).1
/-- what is left of a text, and whether its brackets close -/
def lft (x : List Nat) : List Nat := (otr none (uts x)).flatten
def clo (x : List Nat) : Bool := bal 0 (otr none (uts x))
theorem lft_uts (x : List Nat) : uts (lft x) = otr none (uts x) := uts_of (otr_WU _ (uts_WU x).1).1
theorem lft_len (x : List Nat) : (lft x).length ≤ x.length := by
  have : ∀ (V : Us), (otr none V).flatten.length ≤ V.flatten.length ∧ ∀ p, (otr (some p) V).flatten.length ≤ 1 + p.flatten.length + V.flatten.length := by
    intro V
    induction V with
    | nil => exact ⟨Nat.le_refl _, fun p => by simp [otr]; omega⟩
    | cons u r ih =>
      obtain ⟨i1, i2⟩ := ih
      refine ⟨?_, fun p => ?_⟩
      · simp only [otr]
        split
        · rename_i hu; subst hu; have := i2 []; simp at this ⊢; omega
        · simp at i1 ⊢; omega
      · simp only [otr]
        split
        · simp at i1 ⊢; omega
        · have := i2 (p ++ [u]); simp at this ⊢; omega
  have h := (this (uts x)).1
  rw [uts_flat] at h
  exact h

def sqF (x : List Nat) (a : Nat) (acc : List (List Nat)) (st w : Nat) (rest : Us) (o : PV) : Prop :=
  (o = .none ∧ acc.flatten ++ (x.take w).drop st ++ (otr none rest).flatten = lft x ∧ st ≤ w) ∨
  ∃ (op : Nat) (pend : Us), o = .int op ∧ acc.flatten ++ (x.drop st).take (op - st) ++ (otr (some pend) rest).flatten = lft x ∧ [34] ++ pend.flatten = (x.take w).drop op ∧ st ≤ op ∧ op < w
def sqI (x : List Nat) (a : Nat) (H₀ : AH) (ps : List PV) (ρ : AEnv) (H : AH) : Prop := ∃ (rest : Us) (w st : Nat) (acc : List (List Nat)) (o : PV), ps = (plc w rest).map up ∧ x.take w ++ rest.flatten = x ∧ w ≤ x.length ∧ (∀ u ∈ rest, 0 < u.length) ∧ ρ 0 = some (.str x) ∧ ρ 4 = some (.ref a) ∧ ρ 5 = some (.int (st : Nat)) ∧ ρ 6 = some o ∧
  acc.length ≤ w ∧ sqF x a acc st w rest o ∧ H a = some ⟨acc.map .str, true⟩ ∧ Keep H₀ H
theorem WU_pos : ∀ {V : Us}, WU V → ∀ u ∈ V, 0 < u.length
  | [], _, _, h => by cases h
  | [u], h, v, hv => by
    rw [List.mem_singleton.mp hv]
    rcases h with (⟨c, _, rfl⟩ | ⟨c, rfl⟩) | rfl <;> simp
  | u :: w :: r, h, v, hv => by
    rcases List.mem_cons.mp hv with rfl | hv
    · rcases h.1 with ⟨c, _, rfl⟩ | ⟨c, rfl⟩ <;> simp
    · exact WU_pos h.2 v hv
theorem take_add_unit {x u : List Nat} {r : Us} {w : Nat} (h : x.take w ++ (u :: r).flatten = x) (hw : w ≤ x.length) : x.take (w + u.length) = x.take w ++ u ∧ x.take (w + u.length) ++ r.flatten = x ∧ w + u.length ≤ x.length := by
  have hl : (x.take w).length = w := by simp; omega
  have h' := h
  rw [List.flatten_cons, ← List.append_assoc] at h'
  have e : x.take (w + u.length) = x.take w ++ u := by
    conv => lhs; rw [← h']
    rw [List.take_left' (by simp; omega)]
  refine ⟨e, by rw [e]; exact h', ?_⟩
  have := congrArg List.length h'
  simp at this; omega
theorem sums_le : ∀ acc : List (List Nat), (acc.map List.length).sum = acc.flatten.length := fun acc => by rw [List.length_flatten]
theorem strip_spec {Q : PV → AH → Prop} {H₀ : AH} {x : List Nat} (hx : x.length ≤ 100000) (hQ : ∀ H', Keep H₀ H' → Q (.str (lft x)) H') : f__strip_quoted_realnames [.str x] Q H₀ := by
  refine fn rfl ?_
  walk_at "st"
  by_cases h34 : 34 ∈ x
  · exists eq_true h34
    refine after_next ?_
    walk_at "st"
    walk_at "ev"
    refine after_next ?_
    walk_at "st"
    walk_at "ev"
    refine after_next ?_
    walk_at "st"
    walk_at "ev"
    refine ⟨by simp [szOk], fun a ha => after_next ?_⟩
    walk_at "st"
    simp only [sForG]
    walk_at "ev"
    refine ⟨_, iter_gen x, ?_⟩
    obtain ⟨w1, w2⟩ := uts_WU x
    rw [w2]
    refine forL_inv (mg_tup (.cons mg_name (.cons mg_name .nil))) m_l__strip_quoted_realnames_6 (sqI x a H₀) ?_ ?_ _ _ _ ⟨uts x, 0, 0, [], .none, rfl, by simp [uts_flat], Nat.zero_le _, WU_pos w1, rfl, rfl, rfl, rfl, Nat.le_refl _, .inl ⟨rfl, by simp [lft], Nat.le_refl _⟩, upd_same _ _ _, Keep.new ha⟩
    · rintro p ps ρ H ⟨rest, w, st, acc, o, e1, e2, e3, epos, r0, r4, r5, r6, eal, eF, ea, ek⟩
      obtain ⟨u, rest, rfl⟩ : ∃ q r, rest = q :: r := by cases rest with | nil => cases e1 | cons q r => exact ⟨q, r, rfl⟩
      obtain ⟨rfl, rfl⟩ := List.cons.inj e1
      obtain ⟨t1, t2, t3⟩ := take_add_unit e2 e3
      have hup := epos u (.head _)
      have epos' : ∀ v ∈ rest, 0 < v.length := fun v hv => epos v (.tail _ hv)
      have goOn : ∀ (ρ' : AEnv) (H' : AH) (st' : Nat) (acc' : List (List Nat)) (o' : PV), ρ' 0 = some (.str x) → ρ' 4 = some (.ref a) → ρ' 5 = some (.int (st' : Nat)) → ρ' 6 = some o' → acc'.length ≤ w + u.length → sqF x a acc' st' (w + u.length) rest o' → H' a = some ⟨acc'.map .str, true⟩ → Keep H₀ H' → sqI x a H₀ ((plc (w + u.length) rest).map up) ρ' H' :=
        fun ρ' H' st' acc' o' q0 q4 q5 q6 ql qF qa qk => ⟨rest, w + u.length, st', acc', o', rfl, t2, t3, epos', q0, q4, q5, q6, ql, qF, qa, qk⟩
      simp only [up, l__strip_quoted_realnames_6]
      by_cases hu : u = [34]
      · subst hu
        have ep : ((w + [34].length - 1 : Nat) : Int) = (w : Nat) := by simp
        simp only [ep]
        have egu : (x.take (w + 1)).drop w = [34] := by
          rw [show w + 1 = w + [34].length from rfl, t1, List.drop_left' (by simp; omega)]
        walk_at "ev"
        exists l__strip_quoted_realnames_5
        rcases eF with ⟨rfl, f1, f2⟩ | ⟨op, pend, rfl, f1, f2, f3, f4⟩
        · walk_at "ev"
          exists r6, l__strip_quoted_realnames_2
          walk_at "ev"
          refine goOn _ _ st acc (.int (w : Nat)) (by simp [upd_at, r0]) (by simp [upd_at, r4]) (by simp [upd_at, r5]) (by simp [upd_at]) (by simp; omega) (.inr ⟨w, [], rfl, ?_, ?_, f2, by simp⟩) ea ek
          · have : (x.take w).drop st = (x.drop st).take (w - st) := by rw [List.drop_take]
            rw [← this]
            simpa [otr] using f1
          · simpa using egu.symm
        · walk_at "ev"
          exists r6, l__strip_quoted_realnames_4
          have fin : ∀ (ρ' : AEnv) (H' : AH) (acc' : List (List Nat)), ρ' 0 = some (.str x) → ρ' 4 = some (.ref a) → ρ' 5 = some (.int ((w : Int) + 1)) → ρ' 6 = some .none → acc'.length ≤ w + 1 → acc'.flatten = acc.flatten ++ (x.drop st).take (op - st) → H' a = some ⟨acc'.map .str, true⟩ → Keep H₀ H' → sqI x a H₀ ((plc (w + [34].length) rest).map up) ρ' H' := by
            intro ρ' H' acc' q0 q4 q5 q6 ql qe qa qk
            refine goOn ρ' H' (w + 1) acc' .none q0 q4 q5 q6 (by simpa using ql) (.inl ⟨rfl, ?_, by simp⟩) qa qk
            have : (x.take (w + [34].length)).drop (w + 1) = [] := List.drop_eq_nil_of_le (by simp; omega)
            rw [this, qe]
            simpa [otr] using f1
          walk_at "ev"
          by_cases hso : (st : Int) = (op : Int)
          · have hso' : st = op := by omega
            exists r5, r6, eq_true hso
            refine fin _ _ acc (by simp [upd_at, r0]) (by simp [upd_at, r4]) (by simp [upd_at]) (by simp [upd_at]) (by omega) ?_ ea ek
            rw [hso']; simp
          · exists r5, r6, eq_false hso, l__strip_quoted_realnames_3
            walk_at "ev"
            exists r0, r4, r5, r6, ea, opSlice, partOf, slc_mid
            refine ⟨by simp only [szOk]; omega, by simp [szOk]; omega, ?_⟩
            refine fin _ _ (acc ++ [(x.drop st).take (op - st)]) (by simp [upd_at, r0]) (by simp [upd_at, r4]) (by simp [upd_at]) (by simp [upd_at]) (by simp; omega) (by simp) (by simp [upd_at]) (ek.upd ha)
      · walk_at "ev"
        exists eq_false hu
        refine goOn _ _ st acc o (by simp [upd_at, r0]) (by simp [upd_at, r4]) (by simp [upd_at, r5]) (by simp [upd_at, r6]) (by omega) ?_ ea ek
        rcases eF with ⟨rfl, f1, f2⟩ | ⟨op, pend, rfl, f1, f2, f3, f4⟩
        · refine .inl ⟨rfl, ?_, by omega⟩
          rw [t1, List.drop_append_of_le_length (by simp; omega)]
          simp only [otr, hu, if_false, List.flatten_cons] at f1
          simpa using f1
        · refine .inr ⟨op, pend ++ [u], rfl, ?_, ?_, f3, by omega⟩
          · simpa [otr, hu] using f1
          · rw [t1, List.drop_append_of_le_length (by simp; omega), ← f2]; simp
    · rintro ρ H ⟨rest, w, st, acc, o, e1, e2, e3, epos, r0, r4, r5, r6, eal, eF, ea, ek⟩
      have : rest = [] := by cases rest with | nil => rfl | cons q r => cases e1
      subst this
      simp only [List.flatten_nil, List.append_nil] at e2
      have hw : w = x.length := by have := congrArg List.length e2; simp at this; omega
      have eT : acc.flatten ++ x.drop st = lft x := by
        rcases eF with ⟨rfl, f1, f2⟩ | ⟨op, pend, rfl, f1, f2, f3, f4⟩
        · simpa [otr, e2] using f1
        · rw [e2] at f2
          simp only [otr, List.flatten_cons] at f1
          rw [f2, List.append_assoc] at f1
          have : (x.drop st).take (op - st) ++ x.drop op = x.drop st := by
            have := List.take_append_drop (op - st) (x.drop st)
            rw [List.drop_drop] at this
            have e : st + (op - st) = op := by omega
            rwa [e] at this
          rw [this] at f1; exact f1
      have hal : acc.flatten.length ≤ 100000 := by
        have := congrArg List.length eT
        have := lft_len x
        simp at *; omega
      refine after_next ?_
      walk_at "st"
      by_cases hst : (st : Int) < (x.length : Nat)
      · exists r0, r5, eq_true hst, l__strip_quoted_realnames_1
        refine ⟨by simp only [szOk]; omega, ?_⟩
        walk_at "st"
        exists r0, r4, r5, ea, opSlice, partOf, slc_from
        refine ⟨by simp only [szOk]; omega, by simp [szOk]; omega, after_next (after_next ?_)⟩
        have es : strsOf (acc.map .str ++ [.str (x.drop st)]) = some (acc ++ [x.drop st]) := by
          have := strsOf_map (acc ++ [x.drop st])
          simpa using this
        walk_at "st"
        exists r4, es
        refine ⟨?_, after_ret (end_ret ?_)⟩
        · rw [sums_le]; simp at hal ⊢; omega
        · rw [List.flatten_append]
          have := hQ _ (ek.upd ha (y := ⟨acc.map .str ++ [.str (x.drop st)], true⟩))
          rw [← eT] at this
          simpa using this
      · exists r0, r5, eq_false hst
        refine ⟨by simp only [szOk]; omega, after_next ?_⟩
        walk_at "st"
        exists r4, ea, strsOf_map
        refine ⟨by rw [sums_le]; simp only [List.length_nil, Nat.mul_zero, Nat.add_zero]; omega, after_ret (end_ret ?_)⟩
        have := hQ _ ek
        rw [← eT, List.drop_eq_nil_of_le (by omega), List.append_nil] at this
        exact this
  · exists eq_false h34, l__strip_quoted_realnames_7
    walk_at "st"
    walk_at "ev"
    refine after_ret (after_ret (end_ret ?_))
    have : lft x = x := by
      unfold lft
      have hn : [34] ∉ uts x := fun h => h34 (by
        have : (34 : Nat) ∈ (uts x).flatten := List.mem_flatten.mpr ⟨[34], h, by simp⟩
        rwa [uts_flat] at this)
      rw [(otr_free _ hn).1, uts_flat]
    have q := hQ H₀ Keep.refl
    rw [this] at q
    exact q
def ckI (V : Us) (b : Bool) (ps : List PV) (ρ : AEnv) (H : AH) : Prop := ∃ (rest : Us) (w k : Nat), ps = (plc w rest).map up ∧ ρ 7 = some (.int (k : Nat)) ∧ bal k rest = b ∧ k + rest.length ≤ 100000
theorem check_spec {Q : PV → AH → Prop} {H₀ : AH} {x : List Nat} (hx : x.length ≤ 50000) (hQ : ∀ H', Keep H₀ H' → Q (.bool (clo x)) H') : f__check_parenthesis [.str x] Q H₀ := by
  refine fn rfl ?_
  walk_at "st"
  walk_at "ev"
  refine strip_spec (by omega) fun H1 K1 => after_next ?_
  walk_at "st"
  walk_at "ev"
  refine after_next ?_
  walk_at "st"
  simp only [sForG]
  walk_at "ev"
  refine ⟨_, iter_gen (lft x), ?_⟩
  obtain ⟨w1, w2⟩ := uts_WU (lft x)
  have hb : bal 0 (uts (lft x)) = clo x := by rw [lft_uts]; rfl
  have hl : (uts (lft x)).length ≤ 100000 := by
    have h1 := esc_len (lft x) 0 false
    have h2 := lft_len x
    unfold uts; simp at h1 ⊢; omega
  rw [w2]
  refine forL_inv (mg_tup (.cons mg_name (.cons mg_name .nil))) m_l__check_parenthesis_5 (fun ps ρ H => ckI (uts (lft x)) (clo x) ps ρ H ∧ Keep H₀ H) ?_ ?_ _ _ _ ⟨⟨uts (lft x), 0, 0, rfl, rfl, hb, by omega⟩, K1⟩
  · rintro p ps ρ H ⟨⟨rest, w, k, e1, r7, eb, hz⟩, ek⟩
    obtain ⟨u, rest, rfl⟩ : ∃ q r, rest = q :: r := by cases rest with | nil => cases e1 | cons q r => exact ⟨q, r, rfl⟩
    obtain ⟨rfl, rfl⟩ := List.cons.inj e1
    simp only [List.length_cons] at hz
    simp only [up, l__check_parenthesis_5]
    by_cases h40 : u = [40]
    · simp only [bal, h40, if_true] at eb
      walk_at "ev"
      exists eq_true h40, l__check_parenthesis_1
      walk_at "ev"
      exists r7
      exact ⟨⟨rest, w + u.length, k + 1, rfl, by simp [upd_at], eb, by omega⟩, ek⟩
    · by_cases h41 : u = [41]
      · replace eb : (if k = 0 then false else bal (k - 1) rest) = clo x := by rw [h41] at eb; simpa [bal] using eb
        walk_at "ev"
        exists eq_false h40, l__check_parenthesis_4
        walk_at "ev"
        exists eq_true h41, l__check_parenthesis_3
        walk_at "ev"
        by_cases hk : k = 0
        · subst hk
          have : ((0 : Nat) : Int) - 1 < 0 := by decide
          exists r7, eq_true this, l__check_parenthesis_2
          simp only [if_true] at eb
          walk_at "ev"
          have := hQ H ek
          rw [← eb] at this
          exact this
        · have : ¬ ((k : Nat) : Int) - 1 < 0 := by omega
          exists r7, eq_false this
          rw [if_neg hk] at eb
          exact ⟨⟨rest, w + u.length, k - 1, rfl, by simp [upd_at]; omega, eb, by omega⟩, ek⟩
      · simp only [bal, h40, h41, if_false] at eb
        walk_at "ev"
        exists eq_false h40, l__check_parenthesis_4
        walk_at "ev"
        exists eq_false h41
        exact ⟨⟨rest, w + u.length, k, rfl, by simp [upd_at, r7], eb, by omega⟩, ek⟩
  · rintro ρ H ⟨⟨rest, w, k, e1, r7, eb, hz⟩, ek⟩
    have : rest = [] := by cases rest with | nil => rfl | cons q r => cases e1
    subst this
    simp only [bal] at eb
    refine after_next ?_
    walk_at "st"
    exists r7
    refine after_ret (end_ret ?_)
    have := hQ H ek
    rw [← eb] at this
    have e : decide ((k : Int) = 0) = decide (k = 0) := by by_cases h : k = 0 <;> simp [h]
    rw [e]; exact this
def ppw : List Nat := [40, 39, 39, 44, 32, 39, 39, 41]
def pre1 (x : List Nat) : List Nat := if clo x then x else ppw
def preI (l : Us) (a b : Nat) (o : Bool) (H₀ : AH) (ps : List PV) (ρ : AEnv) (H : AH) : Prop := ∃ done rest : Us, l = done ++ rest ∧ ps = rest.map .str ∧ ρ 9 = some (.ref a) ∧ H a = some ⟨(done.map pre1).map .str, true⟩ ∧ Keep H₀ H
theorem pre_spec {Q : PV → AH → Prop} {H₀ : AH} {b : Nat} {o : Bool} {l : Us} (hl : l.length ≤ 10000) (hx : ∀ x ∈ l, x.length ≤ 50000) (hb : H₀ b = some ⟨l.map .str, o⟩)
    (hQ : ∀ a H', H₀ a = none → Keep H₀ H' → H' a = some ⟨(l.map pre1).map .str, true⟩ → Q (.ref a) H') : f__pre_parse_validation [.ref b] Q H₀ := by
  refine fn rfl ?_
  walk_at "st"
  walk_at "ev"
  refine ⟨by simp [szOk], fun a ha => after_next ?_⟩
  have hba := ne_new hb ha
  walk_at "st"
  exists sFor, hba, hb
  refine forL_inv mg_name m_l__pre_parse_validation_2 (preI l a b o H₀) ?_ ?_ _ _ _ ⟨[], l, rfl, rfl, rfl, upd_same _ _ _, Keep.new ha⟩
  · rintro p ps ρ H ⟨done, rest, e1, e2, r9, ea, ek⟩
    obtain ⟨x, rest, rfl⟩ : ∃ q r, rest = q :: r := by cases rest with | nil => cases e2 | cons q r => exact ⟨q, r, rfl⟩
    obtain ⟨rfl, rfl⟩ := List.cons.inj e2
    subst e1
    have hxx := hx x (by simp)
    simp only [List.length_append, List.length_cons] at hl
    have fin : ∀ (ρ' : AEnv) (H' : AH) w, ρ' 9 = some (.ref a) → pre1 x = w → Keep H₀ H' → (upd H' a ⟨(done.map pre1).map .str ++ [.str w], true⟩) b = some ⟨(done ++ x :: rest).map .str, o⟩ ∧ preI (done ++ x :: rest) a b o H₀ (rest.map .str) ρ' (upd H' a ⟨(done.map pre1).map .str ++ [.str w], true⟩) := fun ρ' H' w h hw hk =>
      ⟨(hk.upd ha).at hb, done ++ [x], rest, by simp, rfl, h, by simp [upd_same, hw], hk.upd ha⟩
    have hz : szOk ((done.map pre1).map PV.str).length := by simp only [szOk, List.length_map]; omega
    simp only [gName, l__pre_parse_validation_2]
    walk_at "st"
    walk_at "ev"
    refine check_spec hxx fun H1 K1 => ?_
    cases hc : clo x with
    | true =>
      walk_at "ev"
      refine after_next ?_
      walk_at "st"
      exists r9, K1.at ea
      exact ⟨hz, after_next (fin _ _ _ (by simp [upd_at, r9]) (by simp [pre1, hc]) (ek.trans K1))⟩
    | false =>
      exists l__pre_parse_validation_1
      walk_at "st"
      walk_at "ev"
      refine after_next (after_next ?_)
      walk_at "st"
      exists r9, K1.at ea
      exact ⟨hz, after_next (fin _ _ _ (by simp [upd_at, r9]) (by simp [pre1, hc, ppw]) (ek.trans K1))⟩
  · rintro ρ H ⟨done, rest, e1, e2, r9, ea, ek⟩
    have : rest = [] := by cases rest with | nil => rfl | cons q r => cases e2
    subst this
    simp only [List.append_nil] at e1
    subst e1
    refine after_next ?_
    walk_at "st"
    exists r9
    exact after_ret (end_ret (hQ a H ha ek ea))
-- striking out () again and again
def bl : Nat → List Nat → Bool
  | k, [] => decide (k = 0)
  | k, c :: r => if c = 40 then bl (k + 1) r else if c = 41 then (if k = 0 then false else bl (k - 1) r) else bl k r
theorem bl_pair : ∀ (p q : List Nat) (k : Nat), bl k (p ++ ([40, 41] ++ q)) = bl k (p ++ q)
  | [], q, k => by simp [bl]
  | c :: p, q, k => by
    simp only [List.cons_append, bl]
    split
    · exact bl_pair p q (k + 1)
    · split
      · split
        · rfl
        · exact bl_pair p q (k - 1)
      · exact bl_pair p q k
theorem bl_join (k : Nat) : ∀ (ws : List (List Nat)) (p : List Nat), bl k (p ++ joinL [40, 41] ws) = bl k (p ++ joinL [] ws)
  | [], p => rfl
  | [x], p => rfl
  | x :: y :: r, p => by
    have ih := bl_join k (y :: r) (p ++ x)
    simp only [joinL, List.append_nil, List.append_assoc] at ih ⊢
    have h2 := bl_pair (p ++ x) (joinL [40, 41] (y :: r)) k
    simp only [List.append_assoc, List.cons_append, List.nil_append] at h2 ⊢
    rw [h2, ih]
theorem join_len : ∀ (ws : List (List Nat)), ws ≠ [] → (joinL [40, 41] ws).length = (joinL [] ws).length + 2 * (ws.length - 1)
  | [], h => absurd rfl h
  | [x], _ => by simp [joinL]
  | x :: y :: r, _ => by
    have ih := join_len (y :: r) (by simp)
    simp only [joinL, List.length_append, List.length_cons, List.length_nil] at ih ⊢
    omega
theorem join_sub {c : Nat} : ∀ (ws : List (List Nat)), c ∈ joinL [] ws → c ∈ joinL [40, 41] ws
  | [], h => h
  | [x], h => h
  | x :: y :: r, h => by
    have ih := join_sub (c := c) (y :: r)
    simp only [joinL, List.append_nil, List.mem_append] at h ⊢
    rcases h with h | h
    · exact .inl (.inl h)
    · exact .inr (ih h)
theorem no_pair_all : ∀ r : List Nat, (∀ c ∈ r, c = 40 ∨ c = 41) → (∀ k, ¬ AtL (40 :: r) [40, 41] k) → ∀ c ∈ r, c = 40
  | [], _, _, c, h => by cases h
  | d :: r, hb, hn, c, h => by
    have hd : d = 40 := by
      rcases hb d (.head _) with e | e
      · exact e
      · exact absurd ⟨[], r, by simp [e], rfl⟩ (hn 0)
    subst hd
    rcases List.mem_cons.mp h with rfl | h
    · rfl
    · refine no_pair_all r (fun c hc => hb c (.tail _ hc)) (fun k ⟨p, q, e, hk⟩ => hn (k + 1) ⟨40 :: p, q, by rw [e]; rfl, by simp [hk]⟩) c h
theorem bl_forty : ∀ (r : List Nat) (k : Nat), (∀ c ∈ r, c = 40) → bl k r = decide (k + r.length = 0)
  | [], k, _ => by simp [bl]
  | c :: r, k, h => by
    have hc := h c (.head _)
    subst hc
    simp only [bl, if_true]
    rw [bl_forty r (k + 1) fun c hc => h c (.tail _ hc)]
    simp
theorem bl_end {y : List Nat} (hb : ∀ c ∈ y, c = 40 ∨ c = 41) (hn : ∀ k, ¬ AtL y [40, 41] k) : bl 0 y = decide (y = []) := by
  cases y with
  | nil => rfl
  | cons c r =>
    rcases hb c (.head _) with rfl | rfl
    · have h := no_pair_all r (fun c hc => hb c (.tail _ hc)) hn
      rw [bl_forty (40 :: r) 0 fun c hc => by rcases List.mem_cons.mp hc with rfl | hc; rfl; exact h c hc]
      simp
    · simp [bl]
theorem close_loop {v : Nat} {Q : Fl → AEnv → AH → Prop} {ρ : AEnv} {H : AH} {y : List Nat} (hb : ∀ c ∈ y, c = 40 ∨ c = 41) (hl : y.length ≤ 5000) (r : ρ v = some (.str y)) (hQ : ∀ ρ' z, ρ' v = some (.str z) → (∀ k, k ≠ v → ρ' k = ρ k) → decide (z = []) = bl 0 y → Q .next ρ' H) :
    sWhile (tCmp .In (aCst (.str [40, 41])) (aVar v)) (sCons (sAssign (gName v) (aMeth kStr fSReplace (aVar v) (lCons (aCst (.str [40, 41])) (lCons (aCst (.str [])) (lNil))))) sNil) Q ρ H := by
  refine while_inv (mt_cmp m_cst m_var) (ms_cons (ms_assign (m_meth mf_sreplace m_var (ml_cons m_cst (ml_cons m_cst ml_nil))) mg_name) ms_nil) (fun k ρ' H' => H' = H ∧ ∃ z, k = z.length ∧ z.length ≤ 5000 ∧ (∀ c ∈ z, c = 40 ∨ c = 41) ∧ ρ' v = some (.str z) ∧ (∀ k, k ≠ v → ρ' k = ρ k) ∧ bl 0 z = bl 0 y) y.length ⟨rfl, y, rfl, hl, hb, r, fun _ _ => rfl, rfl⟩ ?_
  rintro k ρ' H' ⟨rfl, z, rfl, hz, hzb, rz, rk, eb⟩
  cases ho : occIn [40, 41] z with
  | false =>
    exists rz, ho
    refine hQ ρ' z rz rk ?_
    rw [← eb, bl_end hzb]
    intro k hk
    have := (occ_iff z [40, 41]).mpr ⟨k, hk⟩
    rw [ho] at this; cases this
  | true =>
    exists rz, ho
    walk_at "st"
    exists rz, fSReplace
    refine ⟨by first | omega | (simp; omega), fun ws h1 h2 h3 => after_next ?_⟩
    have h4 := h3 ho
    have h5 := join_len ws h1
    rw [h2] at h5
    refine ⟨(joinL [] ws).length, by omega, rfl, joinL [] ws, rfl, by omega, fun c hc => hzb c (by rw [← h2]; exact join_sub ws hc), by rw [joinL_nil]; exact upd_same _ _ _, fun k hk => by rw [upd_other _ _ hk, rk k hk], ?_⟩
    have := bl_join 0 ws []
    rw [← eb, ← h2]
    exact this.symm
def isB (u : List Nat) : Bool := decide (u = [40]) || decide (u = [41])
theorem bal_bl : ∀ (V : Us) (k : Nat), bl k (V.filter isB).flatten = bal k V
  | [], k => rfl
  | u :: r, k => by
    by_cases h1 : u = [40]
    · subst h1
      rw [show ([40] :: r).filter isB = [40] :: r.filter isB from rfl]
      simp only [List.flatten_cons, List.singleton_append, bl, bal, if_true]
      exact bal_bl r (k + 1)
    · by_cases h2 : u = [41]
      · subst h2
        rw [show ([41] :: r).filter isB = [41] :: r.filter isB from rfl]
        simp only [List.flatten_cons, List.singleton_append, bl, bal, if_true]
        rw [bal_bl r (k - 1)]
        simp
      · have : isB u = false := by simp [isB, h1, h2]
        rw [List.filter_cons_of_neg (by simp [this])]
        simp only [bal, h1, h2, if_false]
        exact bal_bl r k
theorem isB_mem {V : Us} : ∀ c ∈ (V.filter isB).flatten, c = 40 ∨ c = 41 := by
  intro c hc
  obtain ⟨u, hu, hc⟩ := List.mem_flatten.mp hc
  have := (List.mem_filter.mp hu).2
  simp [isB] at this
  rcases this with rfl | rfl
  · exact .inl (by simpa using hc)
  · exact .inr (by simpa using hc)
theorem isB_sum (V : Us) : ((V.filter isB).map List.length).sum ≤ V.length := by
  induction V with
  | nil => simp
  | cons u r ih =>
    cases h : isB u with
    | false => rw [List.filter_cons_of_neg (by simp [h])]; simp; omega
    | true =>
      rw [List.filter_cons_of_pos h]
      simp [isB] at h
      have : u.length = 1 := by rcases h with rfl | rfl <;> rfl
      simp [this]; omega
def selB : PV → Option PV
  | .str u => if isB u then some (.str u) else none
  | _ => none
theorem selB_all (V : Us) : (V.map PV.str).filterMap selB = (V.filter isB).map .str := by
  induction V with
  | nil => rfl
  | cons u r ih =>
    simp only [List.map_cons, List.filterMap_cons, selB]
    cases h : isB u with
    | false => rw [List.filter_cons_of_neg (by simp [h])]; simpa using ih
    | true => rw [List.filter_cons_of_pos h]; simpa using ih
theorem closed_spec {Q : PV → AH → Prop} {H : AH} {t : Nat} {o : Bool} {V : Us} (hl : V.length ≤ 2000) (ht : H t = some ⟨V.map .str, o⟩) (hQ : ∀ H', Keep H H' → Q (.bool (bal 0 V)) H') : f__law_closed [.ref t] Q H := by
  refine fn rfl ?_
  walk_at "st"
  simp only [sAssign, aMeth, lCons, aCst, lNil, kStr]
  refine ⟨trivial, ?_⟩
  refine aComp_run mg_name (mt_or (mt_cmp m_var m_cst) (mt_or (mt_cmp m_var m_cst) mt_false)) m_var m_var ?_
  exists ht
  refine ⟨fun _ => True, selB, fun H' k => k.at ht, trivial, by simp; omega, ?_, fun a H1 ha K1 E1 => ?_⟩
  · intro p hp ρ' H' _ _
    obtain ⟨u, _, rfl⟩ := List.mem_map.mp hp
    by_cases h1 : u = [40]
    · exists eq_true h1
      exact ⟨fun _ _ h => h, by simp [selB, isB, h1]⟩
    · by_cases h2 : u = [41]
      · exists eq_false h1, eq_true h2
        exact ⟨fun _ _ h => h, by simp [selB, isB, h2]⟩
      · exists eq_false h1, eq_false h2
        exact ⟨fun _ _ h => h, by simp [selB, isB, h1, h2]⟩
  rw [selB_all] at E1
  have hs := isB_sum V
  exists E1, strsOf_map
  refine ⟨by omega, after_next ?_⟩
  walk_at "st"
  refine close_loop (v := 23) (y := (V.filter isB).flatten) isB_mem (by rw [List.length_flatten]; omega) (by simp [upd_at]) fun ρ' z rz rk eb => after_next ?_
  walk_at "st"
  exists rz
  refine after_ret (end_ret ?_)
  rw [eb, bal_bl]
  exact hQ _ K1
def chr12 (m : Int) : Nat := if m % 60000 < 55296 then (m % 60000).toNat else (m % 60000 + 8192).toNat
def un (n : Int) : List Nat := if n % 20 < 10 then [[34, 34, 34, 40, 40, 41, 41, 41, 91, 32].getD (n % 20).toNat 0] else if n % 20 < 17 then [92, [34, 92, 40, 41, 92, 91, 34].getD (n / 20 % 7).toNat 0] else if n % 20 = 17 ∨ chr12 (n / 20) = 92 then [92, chr12 (n / 20)] else [chr12 (n / 20)]
theorem getD_nth {l : List Nat} {i : Int} (h0 : 0 ≤ i) (h1 : i.toNat < l.length) : nth l i = some (l.getD i.toNat 0) := by
  unfold nth
  rw [if_pos h0, List.getD_eq_getElem?_getD, List.getElem?_eq_getElem h1]; rfl
theorem un_ok (n : Int) : uOk (un n) := by
  unfold un
  have h0 : 0 ≤ n % 20 := Int.emod_nonneg _ (by decide)
  split
  · rename_i h
    refine .inl ⟨_, ?_, rfl⟩
    have : (n % 20).toNat < 10 := by omega
    generalize (n % 20).toNat = k at this
    match k, this with
    | 0, _ | 1, _ | 2, _ | 3, _ | 4, _ | 5, _ | 6, _ | 7, _ | 8, _ | 9, _ => decide
  · split
    · exact .inr ⟨_, rfl⟩
    · split
      · exact .inr ⟨_, rfl⟩
      · rename_i h
        exact .inl ⟨_, fun e => h (.inr e), rfl⟩
theorem unit_spec {Q : PV → AH → Prop} {H : AH} {n : Int} (hQ : Q (.str (un n)) H) : f__law_unit [.int n] Q H := by
  have h0 : 0 ≤ n % 20 := Int.emod_nonneg _ (by decide)
  have h1 : n % 20 < 20 := Int.emod_lt_of_pos _ (by decide)
  have k0 : 0 ≤ n / 20 % 7 := Int.emod_nonneg _ (by decide)
  have k1 : n / 20 % 7 < 7 := Int.emod_lt_of_pos _ (by decide)
  have m0 : 0 ≤ n / 20 % 60000 := Int.emod_nonneg _ (by decide)
  have m1 : n / 20 % 60000 < 60000 := Int.emod_lt_of_pos _ (by decide)
  unfold un at hQ
  refine fn rfl ?_
  walk_at "st"
  walk_at "ev"
  refine after_next ?_
  walk_at "st"
  walk_at "ev"
  refine after_next ?_
  walk_at "st"
  by_cases c1 : n % 20 < 10
  · have e := getD_nth (l := [34, 34, 34, 40, 40, 41, 41, 41, 91, 32]) h0 (by simp; omega)
    exists eq_true c1, l__law_unit_3
    walk_at "st"
    exists e
    simp only [c1, if_true] at hQ
    exact ⟨⟨by omega, by omega⟩, after_ret (after_ret (end_ret hQ))⟩
  · exists eq_false c1
    refine after_next ?_
    walk_at "st"
    by_cases c2 : n % 20 < 17
    · have e := getD_nth (l := [34, 92, 40, 41, 92, 91, 34]) k0 (by simp; omega)
      exists eq_true c2, l__law_unit_2
      walk_at "st"
      exists e
      simp only [c1, c2, if_true, if_false] at hQ
      exact ⟨⟨by omega, by omega⟩, by simp [szOk], after_ret (after_ret (end_ret hQ))⟩
    · exists eq_false c2
      refine after_next ?_
      walk_at "st"
      walk_at "ev"
      refine after_next ?_
      simp only [c1, c2, if_false] at hQ
      walk_at "st"
      simp only [sAssign, aCall, lCons, lNil]
      have hch : ∀ F : PV → AH → Prop, F (.str [chr12 (n / 20)]) H → ∀ ρ : AEnv, ρ 14 = some (.int (n / 20 % 60000)) → aIf (tCmp .Lt (aVar 14) (aCst (.int 55296))) (aVar 14) (aBin opAdd (aVar 14) (aCst (.int 8192))) (fun p H1 => fChr [p] F H1) ρ H := by
        intro F hF ρ r
        unfold chr12 at hF
        by_cases c3 : n / 20 % 60000 < 55296
        · exists r, eq_true c3
          simp only [c3, if_true] at hF
          exact ⟨⟨by omega, by omega⟩, hF⟩
        · exists r, eq_false c3
          simp only [c3, if_false] at hF
          exact ⟨⟨by omega, by omega⟩, hF⟩
      refine hch _ ?_ _ (by simp [upd_at])
      simp only [gName]
      refine after_next ?_
      walk_at "st"
      by_cases c4 : n % 20 = 17
      · exists eq_true c4, l__law_unit_1
        walk_at "st"
        walk_at "ev"
        simp only [c4, true_or, if_true] at hQ
        exact ⟨by simp [szOk], after_ret (after_ret (end_ret hQ))⟩
      · by_cases c5 : [chr12 (n / 20)] = [92]
        · have c5' : chr12 (n / 20) = 92 := by simpa using c5
          exists eq_false c4, eq_true c5, l__law_unit_1
          walk_at "st"
          walk_at "ev"
          simp only [c5', or_true, if_true] at hQ
          rw [c5']
          exact ⟨by simp [szOk], after_ret (after_ret (end_ret hQ))⟩
        · have c5' : ¬ chr12 (n / 20) = 92 := by simpa using c5
          exists eq_false c4, eq_false c5
          refine after_next ?_
          walk_at "st"
          walk_at "ev"
          simp only [c4, c5', or_self, if_false] at hQ
          exact after_ret (end_ret hQ)
-- the law's own reading of the stretches
def pos34 : Nat → Us → List Nat
  | _, [] => []
  | w, u :: r => if u = [34] then w :: pos34 (w + 1) r else pos34 (w + 1) r
theorem pos_len : ∀ (V : Us) (w : Nat), (pos34 w V).length = V.count [34]
  | [], _ => rfl
  | u :: r, w => by
    simp only [pos34]
    by_cases h : u = [34]
    · simp [h, pos_len r]
    · rw [if_neg h, List.count_cons_of_ne h]; exact pos_len r _
theorem pos_cons : ∀ (V : Us) (w m : Nat) (ms : List Nat), pos34 w V = m :: ms → ∃ A B, V = A ++ [34] :: B ∧ [34] ∉ A ∧ m = w + A.length ∧ ms = pos34 (m + 1) B
  | [], w, m, ms, h => by cases h
  | u :: r, w, m, ms, h => by
    simp only [pos34] at h
    by_cases hu : u = [34]
    · rw [if_pos hu] at h
      obtain ⟨rfl, rfl⟩ := List.cons.inj h
      exact ⟨[], r, by rw [hu]; rfl, by simp, by simp, rfl⟩
    · rw [if_neg hu] at h
      obtain ⟨A, B, e1, e2, e3, e4⟩ := pos_cons r (w + 1) m ms h
      exact ⟨u :: A, B, by rw [e1]; rfl, by simp [e2]; exact fun e => hu e.symm, by simp; omega, e4⟩
theorem otr_two {A C B : Us} (hA : [34] ∉ A) (hC : [34] ∉ C) : otr none (A ++ [34] :: (C ++ [34] :: B)) = A ++ otr none B := by
  have a0 : A.count [34] = 0 := List.count_eq_zero.mpr hA
  have c0 : ([34] :: (C ++ [[34]]) : Us).count [34] = 2 := by simp [List.count_eq_zero.mpr hC]
  rw [(otr_app A _).1 (by omega), (otr_free A hA).1]
  congr 1
  have e : ([34] :: (C ++ [34] :: B) : Us) = ([34] :: (C ++ [[34]])) ++ B := by simp
  rw [e, (otr_app ([34] :: (C ++ [[34]])) B).1 (by omega)]
  have : otr none ([34] :: (C ++ [[34]])) = [] := by
    simp only [otr, if_true]
    have h1 : ∀ (C : Us) (p : Us), [34] ∉ C → otr (some p) (C ++ [[34]]) = [] := by
      intro C
      induction C with
      | nil => intro p _; simp [otr]
      | cons u C ih =>
        intro p h
        have hu : u ≠ [34] := fun e => h (by rw [e]; exact .head _)
        simp only [List.cons_append, otr, hu, if_false]
        exact ih _ fun q => h (.tail _ q)
    exact h1 C [] hC
  rw [this]; rfl
theorem otr_cnt' : ∀ V : Us, (otr none V).length ≤ V.length ∧ ∀ p, (otr (some p) V).length ≤ 1 + p.length + V.length
  | [] => ⟨Nat.le_refl _, fun p => by simp [otr]; omega⟩
  | u :: r => by
    obtain ⟨i1, i2⟩ := otr_cnt' r
    refine ⟨?_, fun p => ?_⟩
    · simp only [otr]
      split
      · have := i2 []; simp at this ⊢; omega
      · simpa using i1
    · simp only [otr]
      split
      · simp; omega
      · have := i2 (p ++ [u]); simp at this ⊢; omega
theorem otr_cnt (V : Us) : (otr none V).length ≤ V.length := (otr_cnt' V).1
def selM (V : Us) : PV → Option PV
  | .int i => if V[i.toNat]? = some [34] then some (.int i) else none
  | _ => none
theorem selM_all (V : Us) : (rngItems 0 (V.length : Nat)).filterMap (selM V) = (pos34 0 V).map (fun (k : Nat) => PV.int k) := by
  have : ∀ (D R : Us), V = D ++ R → (rngItems (D.length : Nat) (V.length : Nat)).filterMap (selM V) = (pos34 D.length R).map (fun (k : Nat) => PV.int k) := by
    intro D R
    induction R generalizing D with
    | nil => intro e; rw [e, rng_nil (by simp)]; rfl
    | cons u r ih =>
      intro e
      have h := ih (D ++ [u]) (by rw [e]; simp)
      have hg : V[(D.length : Int).toNat]? = some u := by rw [e]; simp
      simp only [List.length_append, List.length_cons, List.length_nil] at h
      rw [rng_cons (by rw [e]; simp; omega), List.filterMap_cons]
      have e2 : ((D.length : Int) + 1) = ((D.length + (0 + 1) : Nat) : Int) := by omega
      rw [e2, h]
      simp only [selM, pos34, hg, Option.some.injEq]
      by_cases hu : u = [34] <;> simp [hu]
  exact this [] V rfl
def otI (V : Us) (t a M : Nat) (H₀ : AH) (ps : List PV) (ρ : AEnv) (H : AH) : Prop := ∃ (j : Nat) (D R : Us) (acc : Us), V = D ++ R ∧ ps = rngItems (j : Nat) (((pos34 0 V).length / 2 : Nat) : Int) ∧ (pos34 0 V).drop (2 * j) = pos34 D.length R ∧ acc ++ otr none R = otr none V ∧ acc.length ≤ V.length ∧ ρ 15 = some (.ref t) ∧ ρ 16 = some (.ref a) ∧ ρ 17 = some (.int (D.length : Nat)) ∧ ρ 18 = some (.ref M) ∧
  H a = some ⟨acc.map .str, true⟩ ∧ Keep H₀ H
theorem slcG_mid {α : Type} (x : List α) (a b : Nat) : slcG x (some (a : Int)) (some (b : Int)) none = (x.drop a).take (b - a) := by rw [slcG_plain, slc_mid]
theorem slcG_from {α : Type} (x : List α) (a : Nat) : slcG x (some (a : Int)) none none = x.drop a := by rw [slcG_plain, slc_from]
theorem slcG_to {α : Type} (x : List α) (a : Nat) : slcG x none (some (a : Int)) none = x.take a := by rw [slcG_plain, slc_to]
theorem outer_spec {Q : PV → AH → Prop} {H₀ : AH} {t : Nat} {o : Bool} {V : Us} (hl : V.length ≤ 2000) (ht : H₀ t = some ⟨V.map .str, o⟩) (hQ : ∀ a H', H₀ a = none → Keep H₀ H' → H' a = some ⟨(otr none V).map .str, true⟩ → Q (.ref a) H') : f__law_outer [.ref t] Q H₀ := by
  have hml : szOk (V.map PV.str).length := by simp [szOk]; omega
  refine fn rfl ?_
  walk_at "st"
  simp only [sAssign]
  refine aComp_run mg_name (mt_cmp (m_bin mo_item m_var m_var) m_cst) m_var (m_call mf_range (ml_cons (m_call mf_len (ml_cons m_var ml_nil)) ml_nil)) ?_
  exists ht
  have elen : ((V.map PV.str).length : Int) = (V.length : Nat) := by simp
  rw [elen]
  refine ⟨hml, ⟨by omega, by omega⟩, fun ρ => ρ 15 = some (.ref t), selM V, fun _ _ => trivial, ?_, by rw [rng_len]; omega, ?_, fun M H1 hM K1 E1 => ?_⟩
  · show capt [15] _ 15 = _
    rw [capt_in (by decide)]; rfl
  · intro p hp ρ' H' hJ hK
    obtain ⟨k, rfl, hk⟩ := rng_mem hp
    simp only [Int.zero_add] at hk ⊢
    have hkl : k < V.length := by omega
    have hg : nth (V.map PV.str) (k : Int) = some (.str V[k]) := nth_of rfl (by simp [hkl])
    have b1 : -1000000000 ≤ (k : Int) := by omega
    have b2 : (k : Int) ≤ 1000000000 := by omega
    have hkn : ((k : Int)).toNat = k := by omega
    have hs : V[k]? = some V[k] := List.getElem?_eq_getElem hkl
    by_cases hu : V[k] = [34]
    · exists hJ, hK.at ht, hg, b1, b2, eq_true hu
      refine ⟨fun _ _ h => h, ?_⟩
      simp only [selM, hkn, hs, hu, if_true]
    · exists hJ, hK.at ht, hg, b1, b2, eq_false hu
      refine ⟨fun _ _ h => h, ?_⟩
      simp only [selM, hkn, hs, Option.some.injEq, hu, if_false]
  rw [selM_all] at E1
  generalize hms : pos34 0 V = ms at E1
  have hmsl : ms.length ≤ V.length := by rw [← hms, pos_len]; exact List.count_le_length
  refine after_next ?_
  walk_at "st"
  walk_at "ev"
  refine ⟨by simp [szOk], fun a ha => after_next ?_⟩
  have nMa := ne_new E1 ha
  have nta := ne_new (K1.at ht) ha
  walk_at "st"
  walk_at "ev"
  refine after_next ?_
  walk_at "st"
  exists sFor, nMa, E1, List.length_map
  have ed : ((ms.length : Int) / 2) = ((ms.length / 2 : Nat) : Int) := by omega
  rw [ed]
  refine ⟨by simp only [szOk]; omega, ⟨by omega, by omega⟩, ?_⟩
  have hKa : Keep H₀ (upd H1 a ⟨[], true⟩) := K1.trans (Keep.new ha)
  have hKa1 : Keep H1 (upd H1 a ⟨[], true⟩) := Keep.new ha
  refine forL_inv mg_name m_l__law_outer_1 (otI V t a M H1) ?_ ?_ _ _ _ ⟨0, [], V, [], rfl, by rw [hms]; rfl, rfl, rfl, Nat.zero_le _, rfl, rfl, rfl, rfl, upd_same _ _ _, hKa1⟩
  · rintro p ps ρ H ⟨j, D, R, acc, e1, e2, e3, e4, e5, r15, r16, r17, r18, ea, ek⟩
    rw [hms] at e2 e3
    have hlt : j < ms.length / 2 := by
      by_cases q : j < ms.length / 2
      · exact q
      · rw [rng_nil (by omega)] at e2; cases e2
    rw [rng_cons (by omega)] at e2
    obtain ⟨rfl, rfl⟩ := List.cons.inj e2
    obtain ⟨m0, m1, mr, em⟩ : ∃ m0 m1 mr, ms.drop (2 * j) = m0 :: m1 :: mr := by
      have h2 : 2 ≤ (ms.drop (2 * j)).length := by simp; omega
      match h : ms.drop (2 * j), h2 with
      | m0 :: m1 :: mr, _ => exact ⟨m0, m1, mr, rfl⟩
    have g0 : ms[2 * j]? = some m0 := by have := congrArg (fun l => l[0]?) em; simpa using this
    have g1 : ms[2 * j + 1]? = some m1 := by have := congrArg (fun l => l[1]?) em; simpa using this
    have gr : ms.drop (2 * (j + 1)) = mr := by
      have := congrArg (fun l => l.drop 2) em
      rw [List.drop_drop] at this
      have e : 2 * j + 2 = 2 * (j + 1) := by omega
      rw [e] at this; simpa using this
    rw [em] at e3
    obtain ⟨A, B1, a1, a2, a3, a4⟩ := pos_cons R _ _ _ e3.symm
    obtain ⟨C, B, c1, c2, c3, c4⟩ := pos_cons B1 _ _ _ a4.symm
    subst a1 c1
    have hVl : V.length = D.length + (A.length + (1 + (C.length + (1 + B.length)))) := by rw [e1]; simp; omega
    have n0 : nth (ms.map fun (k : Nat) => PV.int k) (2 * (j : Int)) = some (.int (m0 : Nat)) := nth_of (k := 2 * j) (by omega) (by rw [List.getElem?_map, g0]; rfl)
    have n1 : nth (ms.map fun (k : Nat) => PV.int k) (2 * (j : Int) + 1) = some (.int (m1 : Nat)) := nth_of (k := 2 * j + 1) (by omega) (by rw [List.getElem?_map, g1]; rfl)
    have b1 : -1000000000 ≤ 2 * (j : Int) := by omega
    have b2 : 2 * (j : Int) ≤ 1000000000 := by omega
    have b3 : -1000000000 ≤ 2 * (j : Int) + 1 := by omega
    have b4 : 2 * (j : Int) + 1 ≤ 1000000000 := by omega
    have imo : IntMulOk 2 (j : Int) := IntMulOk.of_left (by decide)
    have EM := ek.at E1
    have Et := ek.at (K1.at ht)
    have esl : slcG (V.map PV.str) (some ((D.length : Nat) : Int)) (some ((m0 : Nat) : Int)) none = A.map .str := by
      rw [slcG_mid, ← List.map_drop, ← List.map_take, e1, List.drop_left' rfl, a3]
      congr 1
      rw [List.take_left' (by omega)]
    simp only [gName, l__law_outer_1]
    walk_at "st"
    exists r15, r16, r17, r18, EM, Et, n0, b1, b2, opSlice, partOf, esl
    refine ⟨imo, hml, fun L hL => ?_⟩
    have nLa : a ≠ L := ne_new ea hL
    exists nLa, ea
    refine ⟨⟨by simp; omega, by simp; omega⟩, after_next ?_⟩
    have nML := ne_new EM hL
    have nMa' : M ≠ a := nMa
    walk_at "st"
    exists r18, nMa', nML, EM, n1, b3, b4
    refine ⟨imo, after_next ?_⟩
    have K2 : Keep H1 (upd (upd H L ⟨A.map .str, true⟩) a ⟨acc.map .str ++ A.map .str, true⟩) := by
      intro b z hb
      have nb := ne_new hb ha
      rw [upd_other _ _ nb]
      exact (Keep.new hL).at (ek.at hb)
    have hacc : (acc ++ A).length ≤ V.length := by
      have h3 := congrArg List.length e4
      have h4 : (otr none (A ++ [34] :: (C ++ [34] :: B))).length = A.length + (otr none B).length := by rw [otr_two a2 c2]; simp
      rw [List.length_append, h4] at h3
      have h5 := otr_cnt V
      rw [List.length_append]; omega
    refine ⟨j + 1, D ++ (A ++ [34] :: (C ++ [[34]])), B, acc ++ A, by rw [e1]; simp, by simp [hms], ?_, ?_, hacc, by simp [upd_at, r15], by simp [upd_at], by simp [upd_at]; omega, by simp [upd_at, r18], by simp [upd_at], K2⟩
    · rw [hms, gr, c4]
      congr 1
      simp; omega
    · rw [← e4, otr_two a2 c2]; simp
  · rintro ρ H ⟨j, D, R, acc, e1, e2, e3, e4, e5, r15, r16, r17, r18, ea, ek⟩
    rw [hms] at e2 e3
    have hge : ¬ j < ms.length / 2 := by intro q; rw [rng_cons (by omega)] at e2; cases e2
    have hR : otr none R = R := by
      have hl1 : (pos34 D.length R).length ≤ 1 := by rw [← e3]; simp; omega
      cases hp : pos34 D.length R with
      | nil =>
        have : R.count [34] = 0 := by rw [← pos_len R D.length, hp]; rfl
        exact otr_lf (.inl (List.count_eq_zero.mp this))
      | cons m mr =>
        obtain ⟨A, B, a1, a2, a3, a4⟩ := pos_cons R _ _ _ hp
        have hmr : mr = [] := by
          rw [hp] at hl1
          cases mr with
          | nil => rfl
          | cons _ _ => simp at hl1
        have : B.count [34] = 0 := by rw [← pos_len B (m + 1), ← a4, hmr]; rfl
        exact otr_lf (.inr ⟨A, B, a1, a2, List.count_eq_zero.mp this⟩)
    have Et := ek.at (K1.at ht)
    have esl : slcG (V.map PV.str) (some ((D.length : Nat) : Int)) none none = R.map .str := by
      rw [slcG_from, ← List.map_drop, e1, List.drop_left' rfl]
    have hRl : R.length ≤ V.length := by rw [e1]; simp
    refine after_next ?_
    walk_at "st"
    exists r15, r16, r17, ea, Et, opSlice, partOf, esl
    refine ⟨hml, fun L hL => ?_⟩
    have nLa : a ≠ L := ne_new ea hL
    exists nLa, ea
    refine ⟨by simp [szOk]; omega, fun F hF => after_ret (end_ret (hQ F _ ?_ ?_ ?_))⟩
    · exact K1.none (ek.none ((Keep.new hL).none hF))
    · exact (K1.trans ek).trans ((Keep.new hL).trans (Keep.new hF))
    · rw [upd_same, ← e4, hR]; simp
def plI (V : Us) (a : Nat) (H₀ : AH) (ps : List PV) (ρ : AEnv) (H : AH) : Prop := ∃ (D R : Us) (w : Nat), V = D ++ R ∧ ps = R.map .str ∧ w = D.flatten.length ∧ ρ 16 = some (.ref a) ∧ ρ 22 = some (.int (w : Nat)) ∧ H a = some ⟨(plc 0 D).map up, true⟩ ∧ Keep H₀ H
theorem plc_app : ∀ (D R : Us) (w : Nat), plc w (D ++ R) = plc w D ++ plc (w + D.flatten.length) R
  | [], R, w => by simp [plc]
  | u :: D, R, w => by simp [plc, plc_app D R, Nat.add_assoc]
theorem plc_len : ∀ (V : Us) (w : Nat), (plc w V).length = V.length
  | [], _ => rfl
  | u :: r, w => by simp [plc, plc_len r]
theorem placed_spec {Q : PV → AH → Prop} {H₀ : AH} {t : Nat} {o : Bool} {V : Us} (hl : V.length ≤ 2000) (hp : ∀ u ∈ V, 0 < u.length ∧ u.length ≤ 1000) (ht : H₀ t = some ⟨V.map .str, o⟩) (hQ : ∀ a H', H₀ a = none → Keep H₀ H' → H' a = some ⟨(plc 0 V).map up, true⟩ → Q (.ref a) H') : f__law_placed [.ref t] Q H₀ := by
  refine fn rfl ?_
  walk_at "st"
  walk_at "ev"
  refine ⟨by simp [szOk], fun a ha => after_next ?_⟩
  have nta := ne_new ht ha
  walk_at "st"
  walk_at "ev"
  refine after_next ?_
  walk_at "st"
  exists sFor, nta, ht
  refine forL_inv mg_name m_l__law_placed_1 (plI V a H₀) ?_ ?_ _ _ _ ⟨[], V, 0, rfl, rfl, rfl, rfl, rfl, upd_same _ _ _, Keep.new ha⟩
  · rintro p ps ρ H ⟨D, R, w, e1, e2, e3, r16, r22, ea, ek⟩
    obtain ⟨u, R, rfl⟩ : ∃ q r, R = q :: r := by cases R with | nil => cases e2 | cons q r => exact ⟨q, r, rfl⟩
    obtain ⟨rfl, rfl⟩ := List.cons.inj e2
    subst e1
    obtain ⟨hu1, hu2⟩ := hp u (by simp)
    simp only [List.length_append, List.length_cons] at hl
    simp only [gName, l__law_placed_1]
    walk_at "st"
    exists r22
    refine ⟨by simp only [szOk]; omega, after_next ?_⟩
    walk_at "st"
    exists r16, ea
    refine ⟨by simp [szOk], by simp [szOk, plc_len]; omega, after_next ?_⟩
    refine ⟨(ek.upd ha).at ht, D ++ [u], R, w + u.length, by simp, rfl, by simp [e3], by simp [upd_at, r16], by simp [upd_at], ?_, ek.upd ha⟩
    rw [upd_same, plc_app, List.map_append, ← e3]
    have : ((w : Int) + (u.length : Nat) - 1) = ((w + u.length - 1 : Nat) : Int) := by omega
    rw [this]; simp [plc, up]
  · rintro ρ H ⟨D, R, w, e1, e2, e3, r16, r22, ea, ek⟩
    have : R = [] := by cases R with | nil => rfl | cons q r => cases e2
    subst this
    simp only [List.append_nil] at e1
    subst e1
    refine after_next ?_
    walk_at "st"
    exists r16
    exact after_ret (end_ret (hQ a H ha ek ea))
theorem flat_strs (V : Us) : flats 19 (V.map PV.str) = true := flats_all fun p hp => by obtain ⟨q, _, rfl⟩ := List.mem_map.mp hp; rfl
theorem flat_le {V : Us} {m : Nat} (h : ∀ u ∈ V, u.length ≤ m) : V.flatten.length ≤ m * V.length := by
  induction V with
  | nil => simp
  | cons u r ih =>
    have h1 := h u (.head _)
    have h2 := ih fun v hv => h v (.tail _ hv)
    simp only [List.flatten_cons, List.length_append, List.length_cons, Nat.mul_succ]; omega
theorem WU_len2 : ∀ {V : Us}, WU V → ∀ u ∈ V, u.length ≤ 2
  | [], _, _, h => by cases h
  | [u], h, v, hv => by
    rw [List.mem_singleton.mp hv]
    rcases h with (⟨c, _, rfl⟩ | ⟨c, rfl⟩) | rfl <;> simp
  | u :: w :: r, h, v, hv => by
    rcases List.mem_cons.mp hv with rfl | hv
    · rcases h.1 with ⟨c, _, rfl⟩ | ⟨c, rfl⟩ <;> simp
    · exact WU_len2 h.2 v hv
theorem WU_fl {V : Us} (h : WU V) (hl : V.length ≤ 66) : V.flatten.length ≤ 132 := by have := flat_le (WU_len2 h); omega
theorem WU_sum {V : Us} (h : WU V) (hl : V.length ≤ 66) : (V.map List.length).sum ≤ 132 := by rw [← List.length_flatten]; exact WU_fl h hl
theorem units_spec {Q : PV → AH → Prop} {H : AH} {ρ : AEnv} {ns : List Int} {s : Nat} {o : Bool} (hn : ns.length ≤ 63) (r : ρ 24 = some (.ref s)) (hs : H s = some ⟨ns.map .int, o⟩) (hQ : ∀ a H', H a = none → Keep H H' → H' a = some ⟨((ns ++ [(ns.length : Int)]).map un).map .str, true⟩ → Q (.ref a) H') :
    aComp [] (gName 11) (aBin opAdd (aVar 24) (aList (lCons (aCall fLen (lCons (aVar 24) (lNil))) (lNil)))) (tTrue) (aCall f__law_unit (lCons (aVar 11) (lNil))) Q ρ H := by
  refine aComp_run mg_name mt_true (m_call m_f__law_unit (ml_cons m_var ml_nil)) (m_bin mo_add m_var (m_list (ml_cons (m_call mf_len (ml_cons m_var ml_nil)) ml_nil))) ?_
  exists r, hs, List.length_map
  refine ⟨by simp only [szOk]; omega, by simp [szOk], fun a1 h1 => ?_⟩
  have n1 := ne_new hs h1
  exists n1, hs
  refine ⟨by simp [szOk]; omega, fun L hL => ?_⟩
  exists upd_same
  have eit : ns.map PV.int ++ [PV.int (ns.length : Nat)] = (ns ++ [(ns.length : Int)]).map .int := by simp
  rw [eit]
  have KL : Keep H (upd (upd H a1 ⟨[PV.int (ns.length : Nat)], true⟩) L ⟨(ns ++ [(ns.length : Int)]).map .int, true⟩) := (Keep.new h1).trans (Keep.new hL)
  refine ⟨fun _ => True, onInt fun n => .str (un n), fun H' k => k.at (upd_same _ _ _), trivial, by simp; omega, ?_, fun a H' ha hK h => hQ a H' (KL.none ha) (KL.trans hK) (by rw [h, onInt_all]; simp)⟩
  intro p hp ρ' H' _ _
  obtain ⟨n, _, rfl⟩ := List.mem_map.mp hp
  walk_at "ev"
  exact unit_spec ⟨fun _ _ h => h, rfl⟩
theorem sumints {ns : List Int} : intsOf (ns.map .int) = some ns := intsOf_map ns
def ctI (V : Us) (t : Nat) (ρ₀ : AEnv) (H₀ : AH) (k : Nat) (ρ : AEnv) (H : AH) : Prop := k ≤ V.length ∧ ρ 29 = some (.int (k : Nat)) ∧ (∀ i, i ≠ 29 → ρ i = ρ₀ i) ∧ Keep H₀ H
theorem law_spec {ns : List Int} {s : Nat} {H : AH} (hn : ns.length ≤ 63) (hs : H s = some ⟨ns.map .int, false⟩) : f_law [.ref s] (fun p _ => p = .bool true) H := by
  have hlen : szOk ns.length := by simp only [szOk]; omega
  refine fn rfl ?_
  walk_at "st"
  simp only [sAssign]
  refine units_spec hn rfl hs fun t H1 h1 K1 E1 => ?_
  generalize hV0 : (ns ++ [(ns.length : Int)]).map un = V0 at E1
  have hV0l : V0.length = ns.length + 1 := by rw [← hV0]; simp
  have hV0o : ∀ u ∈ V0, uOk u := fun u hu => by rw [← hV0] at hu; obtain ⟨n, _, rfl⟩ := List.mem_map.mp hu; exact un_ok n
  have hs1 := K1.at hs
  have nst : s ≠ t := ne_new hs h1
  simp only [gName]
  refine after_next ?_
  walk_at "st"
  refine ms_if (mt_cmp (m_bin mo_mod (m_call mf_len (ml_cons m_var ml_nil)) m_cst) m_cst) m_l_law_7 ms_nil (fun fl ρ' H' => fl = .next ∧ ∃ V : Us, WU V ∧ V ≠ [] ∧ V.length ≤ 65 ∧ ρ' 15 = some (.ref t) ∧ ρ' 24 = some (.ref s) ∧ H' t = some ⟨V.map .str, true⟩ ∧ H' s = some ⟨ns.map .int, false⟩) _ _ _ ?_ ?_
  rotate_left
  · by_cases h : (ns.length : Int) % 3 = 1
    · exists hs1, List.length_map, eq_true h, l_law_7
      refine ⟨hlen, ?_⟩
      walk_at "st"
      exists E1
      refine ⟨by simp [szOk]; omega, after_next ⟨rfl, V0 ++ [[92]], WU_snoc hV0o, by simp, by simp; omega, rfl, rfl, by simp [upd_at], by rw [upd_other _ _ nst, hs1]⟩⟩
    · exists hs1, List.length_map, eq_false h
      exact ⟨hlen, V0, WU_all hV0o, by intro e; rw [e] at hV0l; simp at hV0l, by omega, E1⟩
  rintro fl ρ H2 ⟨rfl, V, hW, hne, hVl, r15, r24, E2, hs2⟩
  refine after_next ?_
  have hfl := WU_fl hW (by omega)
  have hsum := WU_sum hW (by omega)
  have hut := uts_of hW
  walk_at "st"
  exists r15, E2, strsOf_map
  refine ⟨by omega, after_next ?_⟩
  generalize hx : V.flatten = x at hfl hut
  walk_at "st"
  exists r15
  refine outer_spec (V := V) (by omega) E2 fun O H3 h3 K3 E3 => after_next ?_
  have hWo := (otr_WU V hW).1
  have hol := otr_cnt V
  generalize hO : otr none V = Ou at E3 hWo hol
  have hOl : Ou.flatten.length ≤ 132 := WU_fl hWo (by omega)
  have hlx : lft x = Ou.flatten := by unfold lft; rw [hut, hO]
  walk_at "st"
  walk_at "ev"
  refine strip_spec (by omega) fun H4 K4 => after_next ?_
  rw [hlx]
  walk_at "st"
  simp only [sIf, tCmp]
  refine gen_list (ml_cons m_var ml_nil) ?_
  walk_at "ev"
  refine ⟨Ou.flatten, rfl, by omega, fun a5 h5 => ?_⟩
  rw [esc_plc Ou 0 hWo]
  have K5 : Keep H4 (upd H4 a5 ⟨(plc 0 Ou).map up, true⟩) := Keep.new h5
  have E5 : (upd H4 a5 ⟨(plc 0 Ou).map up, true⟩) a5 = some ⟨(plc 0 Ou).map up, true⟩ := upd_same _ _ _
  generalize upd H4 a5 ⟨(plc 0 Ou).map up, true⟩ = H5 at K5 E5 ⊢
  refine placed_spec (V := Ou) (by omega) (fun u hu => ⟨WU_pos hWo u hu, by have := WU_len2 hWo u hu; omega⟩) ((K4.trans K5).at E3) fun a6 H6 h6 K6 E6 => ?_
  refine cmp_lists (K6.at E5) E6 (flat_up _) rfl ?_
  walk_at "ev"
  refine after_next ?_
  have hll : lft Ou.flatten = Ou.flatten := by unfold lft; rw [uts_of hWo, ← hO, otr_idem]
  walk_at "st"
  walk_at "ev"
  refine strip_spec (by omega) fun H7 K7 => ?_
  rw [hll]
  walk_at "ev"
  refine after_next ?_
  have K27 := K3.trans (K4.trans (K5.trans (K6.trans K7)))
  have E7 := K27.at E2
  have hs7 := K27.at hs2
  have EO7 := (K4.trans (K5.trans (K6.trans K7))).at E3
  have hVpos : 0 < V.length := List.length_pos_iff.mpr hne
  have hVi : (0 : Int) < (V.length : Nat) := by omega
  have hVz : szOk V.length := by simp only [szOk]; omega
  walk_at "st"
  exists r15, r24, E7, hs7, sumints, List.length_map
  refine ⟨hVz, hVi, after_next ?_⟩
  have c0 := Int.emod_nonneg ns.sum (b := (V.length : Int)) (by omega)
  have c1 := Int.emod_lt_of_pos ns.sum (b := (V.length : Int)) hVi
  generalize hc : ns.sum % (V.length : Int) = cu at c0 c1
  obtain ⟨k0, rfl⟩ : ∃ k : Nat, cu = (k : Int) := ⟨cu.toNat, by omega⟩
  walk_at "st"
  refine while_inv (mt_cmp (m_bin mo_mod (m_meth mf_count (m_slice m_var m_cst m_var m_cst) (ml_cons m_cst ml_nil)) m_cst) m_cst) m_l_law_4 (ctI V t _ H7) k0 ⟨by omega, rfl, fun _ _ => rfl, Keep.refl⟩ ?_
  rintro k ρ8 H8 ⟨hk, r29, rr, K8⟩
  have q15 := (rr 15 (by decide)).trans (by simp [upd_at, r15] : _ = some (PV.ref t))
  have E8 := K8.at E7
  have esl : slcG (V.map PV.str) none (some ((k : Nat) : Int)) none = (V.take k).map .str := by rw [slcG_to, List.map_take]
  exists q15, r29, E8, opSlice, partOf, esl
  refine ⟨by simp [szOk]; omega, fun L hL => ?_⟩
  exists strsOf_map
  have K9 : Keep H8 (upd H8 L ⟨(V.take k).map .str, true⟩) := Keep.new hL
  generalize upd H8 L ⟨(V.take k).map .str, true⟩ = H9 at K9 ⊢
  by_cases hod : (((V.take k).count [34] : Nat) : Int) % 2 = 1
  · exists eq_true hod
    have hk1 : 1 ≤ k := by
      rcases Nat.eq_zero_or_pos k with e | e
      · subst e; simp at hod
      · exact e
    simp only [l_law_4]
    walk_at "st"
    exists r29
    refine after_next ?_
    exact ⟨k - 1, by omega, by omega, by simp [upd_at]; omega, fun i hi => by rw [upd_other _ _ hi]; exact rr i hi, K8.trans K9⟩
  · exists eq_false hod
    refine after_next ?_
    have hev : (V.take k).count [34] % 2 = 0 := by omega
    have q24 := (rr 24 (by decide)).trans (by simp [upd_at, r24] : _ = some (PV.ref s))
    have q23 := (rr 23 (by decide)).trans (by simp [upd_at] : _ = some (PV.str x))
    have q30 := (rr 30 (by decide)).trans (by simp [upd_at] : _ = some (PV.str Ou.flatten))
    have q31 := (rr 31 (by decide)).trans (by simp [upd_at] : _ = some (PV.ref O))
    have K79 := K8.trans K9
    have E9 := K79.at E7
    have EO9 := K79.at EO7
    have hAW : WU (V.take k) := WU.app_left (b := V.drop k) (by rw [List.take_append_drop]; exact hW)
    have hBW : WU (V.drop k) := WU.app_right (a := V.take k) (by rw [List.take_append_drop]; exact hW)
    have hAl : (V.take k).length ≤ 65 := by simp; omega
    have hBl : (V.drop k).length ≤ 65 := by simp; omega
    have esl2 : slcG (V.map PV.str) (some ((k : Nat) : Int)) none none = (V.drop k).map .str := by rw [slcG_from, List.map_drop]
    have eAB := (otr_app (V.take k) (V.drop k)).1 hev
    rw [List.take_append_drop, hO] at eAB
    generalize hA : V.take k = A at *
    generalize hB : V.drop k = B at *
    have hAs := WU_sum hAW (by omega)
    have hBs := WU_sum hBW (by omega)
    have hAf := WU_fl hAW (by omega)
    have hBf := WU_fl hBW (by omega)
    walk_at "st"
    exists q15, r29, E9, opSlice, partOf, esl
    refine ⟨by simp [szOk]; omega, fun L1 hL1 => ?_⟩
    exists strsOf_map
    refine ⟨by omega, after_next ?_⟩
    have K10 : Keep H9 (upd H9 L1 ⟨A.map .str, true⟩) := Keep.new hL1
    generalize upd H9 L1 ⟨A.map .str, true⟩ = H10 at K10 ⊢
    walk_at "st"
    exists q15, r29, K10.at E9, opSlice, partOf, esl2
    refine ⟨by simp [szOk]; omega, fun L2 hL2 => ?_⟩
    exists strsOf_map
    refine ⟨by omega, after_next ?_⟩
    have K11 : Keep H10 (upd H10 L2 ⟨B.map .str, true⟩) := Keep.new hL2
    generalize upd H10 L2 ⟨B.map .str, true⟩ = H11 at K11 ⊢
    have hlA : lft A.flatten = (otr none A).flatten := by unfold lft; rw [uts_of hAW]
    have hlB : lft B.flatten = (otr none B).flatten := by unfold lft; rw [uts_of hBW]
    have hlAl := lft_len A.flatten
    have hlBl := lft_len B.flatten
    walk_at "st"
    walk_at "ev"
    refine strip_spec (by omega) fun H12 K12 => strip_spec (by omega) fun H13 K13 => ?_
    exists q30
    have eS : lft A.flatten ++ lft B.flatten = Ou.flatten := by rw [hlA, hlB, ← List.flatten_append, ← eAB]
    refine ⟨by simp only [szOk]; omega, ?_⟩
    rw [eS]
    walk_at "ev"
    refine after_next ?_
    have EO13 := (K10.trans (K11.trans (K12.trans K13))).at EO9
    have E13 := (K10.trans (K11.trans (K12.trans K13))).at E9
    walk_at "st"
    exists q31
    refine closed_spec (V := Ou) (by omega) EO13 fun H14 K14 => after_next ?_
    have hcx : clo x = bal 0 Ou := by unfold clo; rw [hut, hO]
    have hcl : clo Ou.flatten = bal 0 Ou := by unfold clo; rw [uts_of hWo, ← hO, otr_idem]
    have hcb : clo B.flatten = bal 0 (otr none B) := by unfold clo; rw [uts_of hBW]
    generalize hg : bal 0 Ou = g at hcx hcl
    walk_at "st"
    exists q23
    refine check_spec (by omega) fun H15 K15 => ?_
    rw [hcx]
    exists q30
    refine check_spec (by omega) fun H16 K16 => ?_
    rw [hcl]
    walk_at "ev"
    refine after_next ?_
    have E16 := (K14.trans (K15.trans K16)).at E13
    walk_at "st"
    exists q23
    refine ⟨by simp [szOk], fun fi hfi => after_next ?_⟩
    have K17 : Keep H16 (upd H16 fi ⟨[.str B.flatten, .str x], true⟩) := Keep.new hfi
    have E17 : (upd H16 fi ⟨[.str B.flatten, .str x], true⟩) fi = some ⟨[.str B.flatten, .str x], true⟩ := upd_same _ _ _
    generalize upd H16 fi ⟨[.str B.flatten, .str x], true⟩ = H17 at K17 E17 ⊢
    walk_at "st"
    exists q15, r29, K17.at E16, opSlice, partOf, esl2
    refine ⟨by simp [szOk]; omega, fun L3 hL3 => ?_⟩
    have K18 : Keep H17 (upd H17 L3 ⟨B.map .str, true⟩) := Keep.new hL3
    have E18 : (upd H17 L3 ⟨B.map .str, true⟩) L3 = some ⟨B.map .str, true⟩ := upd_same _ _ _
    generalize upd H17 L3 ⟨B.map .str, true⟩ = H18 at K18 E18 ⊢
    refine outer_spec (V := B) (by omega) E18 fun O2 H19 h19 K19 E19 => ?_
    have hB2 := otr_cnt B
    refine closed_spec (V := otr none B) (by omega) E19 fun H20 K20 => ?_
    rw [← hcb]
    have hw1 : ∀ R : PV → AH → Prop, R (.str (pre1 B.flatten)) H20 → (if clo B.flatten = true then R (.str B.flatten) H20 else R (.str [40, 39, 39, 44, 32, 39, 39, 41]) H20) := by
      intro R hR
      unfold pre1 ppw at hR
      split
      · rename_i h; simpa [h] using hR
      · rename_i h; simpa [h] using hR
    walk_at "ev"
    refine hw1 (fun p H1 => szOk 1 ∧ newL [p] _ H1) ?_
    refine ⟨by simp [szOk], fun w hw => after_next ?_⟩
    have K21 : Keep H20 (upd H20 w ⟨[.str (pre1 B.flatten)], true⟩) := Keep.new hw
    have E21 : (upd H20 w ⟨[.str (pre1 B.flatten)], true⟩) w = some ⟨[.str (pre1 B.flatten)], true⟩ := upd_same _ _ _
    have Kf : Keep H17 H20 := K18.trans (K19.trans K20)
    have nfw : fi ≠ w := ne_new (Kf.at E17) hw
    have E17' : (upd H20 w ⟨[.str (pre1 B.flatten)], true⟩) fi = some ⟨[.str B.flatten, .str x], true⟩ := K21.at (Kf.at E17)
    generalize upd H20 w ⟨[.str (pre1 B.flatten)], true⟩ = H21 at K21 E21 E17' ⊢
    walk_at "st"
    have hw2 : ∀ R : PV → Prop, R (.str (pre1 x)) → (if g = true then R (.str x) else R (.str [40, 39, 39, 44, 32, 39, 39, 41])) := by
      intro R hR
      unfold pre1 ppw at hR
      rw [hcx] at hR
      split
      · rename_i h; simpa [h] using hR
      · rename_i h; simpa [h] using hR
    exists E21, q23
    refine hw2 (fun p => szOk _ ∧ after _ _ .next _ (upd H21 w ⟨[.str (pre1 B.flatten)] ++ [p], true⟩)) ?_
    refine ⟨by simp [szOk], after_next ?_⟩
    have E22 : (upd H21 w ⟨[.str (pre1 B.flatten)] ++ [.str (pre1 x)], true⟩) w = some ⟨[.str (pre1 B.flatten), .str (pre1 x)], true⟩ := upd_same _ _ _
    have F22 : (upd H21 w ⟨[.str (pre1 B.flatten)] ++ [.str (pre1 x)], true⟩) fi = some ⟨[.str B.flatten, .str x], true⟩ := by rw [upd_other _ _ nfw, E17']
    generalize (upd H21 w ⟨[.str (pre1 B.flatten)] ++ [.str (pre1 x)], true⟩) = H22 at E22 F22 ⊢
    walk_at "st"
    walk_at "ev"
    refine pre_spec (l := [B.flatten, x]) (o := true) (by simp) (by intro y hy; simp at hy; rcases hy with rfl | rfl <;> omega) F22 fun a23 H23 h23 K23 E23 => ?_
    refine cmp_lists E23 (K23.at E22) (flat_strs _) rfl ?_
    walk_at "ev"
    refine after_next ?_
    walk_at "st"
    exists q23
    refine ⟨by simp [szOk], fun a24 h24 => ?_⟩
    refine cmp_lists (x := ⟨[.str B.flatten, .str x], true⟩) ((Keep.new h24).at (K23.at F22)) (upd_same _ _ _) (by simp [flats, flat]) rfl ?_
    exact after_ret (end_ret rfl)
end Mine
namespace Mine
open_top hd for PySem.Challenge.rw_dm0098_12
end Mine
open Mine
theorem PySem.Challenge.cw_dm0098_12_holds : PySem.Challenge.rw_dm0098_12.Holds :=
  Mine.hd (Mine.link Mine.NN Mine.NN_nodup rfl rfl fun c hq hl => by
  have b_chr : c.mg (Str.ofString "chr") = none := free_of hq hl (by decide +kernel)
  have b_enumerate : c.mg (Str.ofString "enumerate") = none := free_of hq hl (by decide +kernel)
  have b_len : c.mg (Str.ofString "len") = none := free_of hq hl (by decide +kernel)
  have b_list : c.mg (Str.ofString "list") = none := free_of hq hl (by decide +kernel)
  have b_range : c.mg (Str.ofString "range") = none := free_of hq hl (by decide +kernel)
  have b_sum : c.mg (Str.ofString "sum") = none := free_of hq hl (by decide +kernel)
  have h__iter_escaped_chars := s__iter_escaped_chars c (mem_rec (i := 0) hq rfl) b_enumerate
  have h__strip_quoted_realnames := s__strip_quoted_realnames c (mem_rec (i := 1) hq rfl) h__iter_escaped_chars b_len
  have h__check_parenthesis := s__check_parenthesis c (mem_rec (i := 2) hq rfl) h__iter_escaped_chars h__strip_quoted_realnames
  have h__pre_parse_validation := s__pre_parse_validation c (mem_rec (i := 3) hq rfl) h__check_parenthesis
  have h__law_unit := s__law_unit c (mem_rec (i := 4) hq rfl) b_chr
  have h__law_outer := s__law_outer c (mem_rec (i := 5) hq rfl) b_len b_range
  have h__law_placed := s__law_placed c (mem_rec (i := 6) hq rfl) b_len
  have h__law_closed := s__law_closed c (mem_rec (i := 7) hq rfl)
  have h_law := s_law c (mem_rec (i := 8) hq rfl) h__check_parenthesis h__iter_escaped_chars h__law_closed h__law_outer h__law_placed h__law_unit h__pre_parse_validation h__strip_quoted_realnames b_len b_list b_sum
  exact ⟨8, _, by decide, h_law, fun ns a H hn ha => law_spec hn ha⟩)
