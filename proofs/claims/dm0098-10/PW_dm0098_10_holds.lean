import PyProof.Rows.All
import Wide.All
import OpenK.AllK
import Wide.FinOn
import Lean
import PySem.Challenge.RW_dm0098_10
open PySem PySem.W PyProof.Rows
set_option Elab.async false
set_option linter.unusedVariables false
namespace Mine

/-- neither the heap nor the row of generators ever shrinks -/
def Grown (s s' : Shared) : Prop := s.heap.objs.size ≤ s'.heap.objs.size ∧ s.gens.size ≤ s'.gens.size
theorem Grown.trans {a b d : Shared} (x : Grown a b) (y : Grown b d) : Grown a d := ⟨Nat.le_trans x.1 y.1, Nat.le_trans x.2 y.2⟩
theorem Grown.refl (s : Shared) : Grown s s := ⟨Nat.le_refl _, Nat.le_refl _⟩
theorem setGen_gens (s : Shared) (g : Nat) (x : GenState) : (s.setGen g x).gens.size = s.gens.size := by simp [Shared.setGen]
theorem setGen_heap (s : Shared) (g : Nat) (x : GenState) : (s.setGen g x).heap = s.heap := rfl

theorem runs_grown {M : Model} {Γ : Ctx} {p : Pos} {t : Sem Fin} {fs : List Frame} {s s' : Shared} {e : End} (h : Runs M Γ p t fs s e s') : Grown s s' := by
  induction h <;> simp only [Grown, setGen_gens, setGen_heap, Heap.size_push, Heap.size_after_update, Array.size_push] at * <;> omega
theorem wakes_grown {M : Model} {Γ : Ctx} {p : Pos} {g : Nat} {r : Resume} {s s' : Shared} {res : GenResult} (h : Wakes M Γ p g r s res s') : Grown s s' := by
  have back : ∀ {e₁ : End} {s₁ : Shared}, Grown (s.setGen g .running) s₁ → Grown s (s₁.setGen g e₁.genState) := by
    intro e₁ s₁ x
    simpa only [Grown, setGen_gens, setGen_heap] using x
  unfold Wakes at h
  split at h
  · exact h.elim
  · split at h
    · obtain ⟨e₁, s₁, hr, _, _, rfl⟩ := h; exact back (runs_grown hr)
    · rw [h.2]; exact .refl _
    · rw [h.2]; simp only [Grown, setGen_gens, setGen_heap]; exact ⟨Nat.le_refl _, Nat.le_refl _⟩
  · obtain ⟨e₁, s₁, hr, _, _, rfl⟩ := h; exact back (runs_grown hr)
  · rw [h.2]; exact .refl _
  · rw [h.2]; exact .refl _
theorem wp_grown {α : Type} (M : Model) (Γ : Ctx) (s₀ : Shared) (t : Sem α) : ∀ (Q : α → Pos → Shared → Prop) (E : Value → Pos → Shared → Prop) (p : Pos) (s : Shared), Grown s₀ s → Sem.wp M Γ t Q E p s →
    Sem.wp M Γ t (fun a p' s' => Grown s₀ s' ∧ Q a p' s') (fun e p' s' => Grown s₀ s' ∧ E e p' s') p s := by
  induction t with
  | pure a | raise a => intro Q E p s hn h; exact ⟨hn, h⟩
  | unsupported _ | finish _ | register _ _ | yield _ _ _ _ | fork _ _ | await _ _ _ _ _ => intro Q E p s _ h; exact h
  | rule _ k ih | point _ k ih => intro Q E p s hn h; exact ih () Q E p s hn h
  | «at» p' k ih => intro Q E p s hn h; exact ih () Q E p' s hn h
  | load a _ k ih | genState a k ih => intro Q E p s hn h; obtain ⟨o, ho, h⟩ := h; exact ⟨o, ho, ih _ Q E p s hn h⟩
  | update a _ f k ih => intro Q E p s hn h; exact ⟨h.1, ih () Q E p _ ⟨by simpa using hn.1, hn.2⟩ h.2⟩
  | loadIfAlive a k ih | ask k ih | handled a k ih | stack k ih | thread k ih => intro Q E p s hn h; exact ih _ Q E p s hn h
  | alloc o k ih => intro Q E p s hn h; exact ih _ Q E p _ ⟨by simpa using Nat.le_succ_of_le hn.1, hn.2⟩ h
  | fresh k ih | os _ _ k ih => intro Q E p s hn h; exact ih _ Q E p _ hn h
  | choose src m k ih => intro Q E p s hn h; exact ⟨h.1, ih _ Q E p _ hn h.2⟩
  | call c hd _ _ k ih => intro Q E p s hn h; obtain ⟨r, s', hr, h⟩ := h; exact ⟨r, s', hr, ih r Q E p s' (hn.trans (runs_grown hr)) h⟩
  | newGen c k ih => intro Q E p s hn h; exact ih _ Q E p _ ⟨hn.1, by simpa using Nat.le_succ_of_le hn.2⟩ h
  | resume g r _ k ih => intro Q E p s hn h; obtain ⟨res, s', hw, h⟩ := h; exact ⟨res, s', hw, ih res Q E p s' (hn.trans (wakes_grown hw)) h⟩

theorem wpAny_grow {α : Type} {M : Model} {A : Around} {s : Shared} {t : Sem α} {Q : α → Shared → Prop} {E : Value → Shared → Prop}
    (h : wpAny M A t (fun a s' => Grown s s' → Q a s') E s) : wpAny M A t Q E s :=
  fun Γ p hΓ => Sem.wp_mono M Γ t (fun _ _ _ x => x.2 x.1) (fun _ _ _ x => x.2) p s (wp_grown M Γ s t _ _ p s (.refl s) (h Γ p hΓ))
end Mine
open PySem PySem.W PyProof.Rows
set_option Elab.async false
namespace Mine

/-- plain values: what the law's own data are -/
inductive PV where
  | none
  | bool (b : Bool)
  | int (i : Int)
  | str (x : List Nat)
  | tup (xs : List PV)
  | ref (a : Nat)
  | rng (lo hi : Int)

/-- a list of the abstract heap: its items, and whether it may be written -/
structure LO where
  items : List PV
  own : Bool

abbrev AH := Nat → Option LO
abbrev AEnv := Nat → Option PV

def upd {α : Type} (f : Nat → Option α) (k : Nat) (v : α) : Nat → Option α := fun j => if j = k then some v else f j

theorem upd_same {α : Type} (f : Nat → Option α) (k : Nat) (v : α) : upd f k v k = some v := by simp [upd]
theorem upd_other {α : Type} (f : Nat → Option α) {k j : Nat} (v : α) (h : j ≠ k) : upd f k v j = f j := by simp [upd, h]

/-- an object that is never written: a tuple, a range -/
def Imm (h : Heap) (a : Addr) (o : Obj) : Prop := h.get? a = some o ∧ ((o.cls = .type "tuple" ∧ ∃ vs n, o.data = .seq vs n) ∨ (o.cls = .type "range" ∧ ∃ vs, o.data = .fields vs))

mutual
inductive VRel (h : Heap) : Value → PV → Prop
  | none : VRel h .none .none
  | bool (b : Bool) : VRel h (.bool b) (.bool b)
  | int (i : Int) (t : Tok) : VRel h (.int i t) (.int i)
  | str (x : List Nat) (t : Tok) : (∀ c ∈ x, c < 0x110000) → VRel h (.str ⟨x.toArray⟩ t) (.str x)
  | tup {a : Addr} {vs : List Value} {n : Nat} {ps : List PV} : IsT h a vs.toArray n → VAll h vs ps → VRel h (.ref a) (.tup ps)
  | ref (a : Addr) : VRel h (.ref a) (.ref a)
  | rng {a : Addr} {lo hi : Int} {t u v : Tok} : IsRange h a lo hi 1 t u v → VRel h (.ref a) (.rng lo hi)
inductive VAll (h : Heap) : List Value → List PV → Prop
  | nil : VAll h [] []
  | cons {v : Value} {p : PV} {vs : List Value} {ps : List PV} : VRel h v p → VAll h vs ps → VAll h (v :: vs) (p :: ps)
end

section
variable {h h' : Heap} (hk : ∀ a o, Imm h a o → h'.get? a = some o)
include hk
theorem VRel.mono {v : Value} {p : PV} (r : VRel h v p) : VRel h' v p :=
  VRel.rec (motive_1 := fun v p _ => VRel h' v p) (motive_2 := fun vs ps _ => VAll h' vs ps) .none .bool .int .str (fun ht _ hv => .tup (hk _ _ ⟨ht, .inl ⟨rfl, _, _, rfl⟩⟩) hv) .ref (fun hr => .rng (hk _ _ ⟨hr, .inr ⟨rfl, _, rfl⟩⟩)) .nil (fun _ _ hv hr => .cons hv hr) r
theorem VAll.mono {vs : List Value} {ps : List PV} (r : VAll h vs ps) : VAll h' vs ps :=
  VAll.rec (motive_1 := fun v p _ => VRel h' v p) (motive_2 := fun vs ps _ => VAll h' vs ps) .none .bool .int .str (fun ht _ hv => .tup (hk _ _ ⟨ht, .inl ⟨rfl, _, _, rfl⟩⟩) hv) .ref (fun hr => .rng (hk _ _ ⟨hr, .inr ⟨rfl, _, rfl⟩⟩)) .nil (fun _ _ hv hr => .cons hv hr) r
end

theorem VAll.length {h : Heap} : ∀ {vs : List Value} {ps : List PV}, VAll h vs ps → vs.length = ps.length
  | _, _, .nil => rfl
  | _, _, .cons _ hr => by simp [VAll.length hr]
theorem VAll.append {h : Heap} : ∀ {vs ws : List Value} {ps qs : List PV}, VAll h vs ps → VAll h ws qs → VAll h (vs ++ ws) (ps ++ qs)
  | _, _, _, _, .nil, k => k
  | _, _, _, _, .cons hv hr, k => .cons hv (VAll.append hr k)
theorem VAll.one {h : Heap} {v : Value} {p : PV} (x : VRel h v p) : VAll h [v] [p] := .cons x .nil
theorem VAll.get {h : Heap} : ∀ {vs : List Value} {ps : List PV} {k : Nat} {p : PV}, VAll h vs ps → ps[k]? = some p → ∃ v, vs[k]? = some v ∧ VRel h v p
  | _, _, _, _, .nil, e => by simp at e
  | _, _, 0, _, .cons hv _, e => by simp at e; subst e; exact ⟨_, rfl, hv⟩
  | _, _, k + 1, _, .cons _ hr, e => by
    obtain ⟨v, h1, h2⟩ := VAll.get (k := k) hr (by simpa using e)
    exact ⟨v, by simpa using h1, h2⟩
/-- the concrete heap bears the abstract one over the base -/
structure HR (base : Heap) (H : AH) (h : Heap) : Prop where
  keep : ∀ b o, base.get? b = some o → h.get? b = some o
  list : ∀ a x, H a = some x → ∃ vs n, IsL h a vs n ∧ VAll h vs.toList x.items
  new : ∀ a x, H a = some x → x.own = true → base.get? a = none

structure St (base : Heap) (H : AH) (s : Shared) : Prop where
  hr : HR base H s.heap
  bare : AllBare s.gens

/-- what a step leaves as it was: all but the writable lists, and what X (addresses) and Y (generators) free -/
structure Ext (X Y : Nat → Prop) (H : AH) (s : Shared) (H' : AH) (s' : Shared) : Prop where
  keep : ∀ a o, s.heap.get? a = some o → ¬ X a → (∀ x, H a = some x → x.own = false) → s'.heap.get? a = some o
  size : s.heap.objs.size ≤ s'.heap.objs.size
  dom : ∀ a x, H' a = some x → (∃ y, H a = some y ∧ y.own = x.own) ∨ s.heap.objs.size ≤ a
  gens : ∀ i g, s.gens[i]? = some g → ¬ Y i → s'.gens[i]? = some g
  gsize : s.gens.size ≤ s'.gens.size
  os : s'.os = s.os

abbrev No : Nat → Prop := fun _ => False

theorem Ext.refl {X Y H s} : Ext X Y H s H s := ⟨fun _ _ h _ _ => h, Nat.le_refl _, fun _ x h => .inl ⟨x, h, rfl⟩, fun _ _ h _ => h, Nat.le_refl _, rfl⟩
theorem Ext.trans {X Y H s H' s' H'' s''} (e : Ext X Y H s H' s') (f : Ext X Y H' s' H'' s'') : Ext X Y H s H'' s'' where
  keep a o h hx hn := by
    refine f.keep a o (e.keep a o h hx hn) hx (fun x hx' => ?_)
    rcases e.dom a x hx' with ⟨y, hy, e1⟩ | h0
    · rw [← e1]; exact hn y hy
    · exact absurd (Heap.lt_size h) (Nat.not_lt.mpr h0)
  size := Nat.le_trans e.size f.size
  dom a x hx := by
    rcases f.dom a x hx with ⟨y, hy, e1⟩ | h0
    · rcases e.dom a y hy with ⟨z, hz, e2⟩ | h1
      · exact .inl ⟨z, hz, e2.trans e1⟩
      · exact .inr h1
    · exact .inr (Nat.le_trans e.size h0)
  gens i g h hy := f.gens i g (e.gens i g h hy) hy
  gsize := Nat.le_trans e.gsize f.gsize
  os := f.os.trans e.os
theorem Ext.mono {X Y X' Y' : Nat → Prop} {H s H' s'} (e : Ext X Y H s H' s') (hX : ∀ a, X a → X' a) (hY : ∀ a, Y a → Y' a) : Ext X' Y' H s H' s' :=
  ⟨fun a o h hx hn => e.keep a o h (fun q => hx (hX a q)) hn, e.size, e.dom, fun i g h hy => e.gens i g h (fun q => hy (hY i q)), e.gsize, e.os⟩
theorem Ext.of_no {X Y : Nat → Prop} {H s H' s'} (e : Ext No No H s H' s') : Ext X Y H s H' s' := e.mono (fun _ h => h.elim) (fun _ h => h.elim)
/-- what is new since s may be freed -/
theorem Ext.then_new {X Y X' Y' : Nat → Prop} {H s H' s' H'' s''} (e : Ext X Y H s H' s') (f : Ext X' Y' H' s' H'' s'') (hX : ∀ a, X' a → X a ∨ s.heap.objs.size ≤ a) (hY : ∀ i, Y' i → Y i ∨ s.gens.size ≤ i) : Ext X Y H s H'' s'' where
  keep a o h hx hn := by
    refine f.keep a o (e.keep a o h hx hn) (fun q => ?_) (fun x hx' => ?_)
    · rcases hX a q with q | q
      · exact hx q
      · exact absurd (Heap.lt_size h) (Nat.not_lt.mpr q)
    · rcases e.dom a x hx' with ⟨y, hy, e1⟩ | h0
      · rw [← e1]; exact hn y hy
      · exact absurd (Heap.lt_size h) (Nat.not_lt.mpr h0)
  size := Nat.le_trans e.size f.size
  dom a x hx := by
    rcases f.dom a x hx with ⟨y, hy, e1⟩ | h0
    · rcases e.dom a y hy with ⟨z, hz, e2⟩ | h1
      · exact .inl ⟨z, hz, e2.trans e1⟩
      · exact .inr h1
    · exact .inr (Nat.le_trans e.size h0)
  gens i g h hy := by
    refine f.gens i g (e.gens i g h hy) (fun q => ?_)
    rcases hY i q with q | q
    · exact hy q
    · have := (Array.getElem?_eq_some_iff.mp h).1; omega
  gsize := Nat.le_trans e.gsize f.gsize
  os := f.os.trans e.os

section
variable {base : Heap} {X Y : Nat → Prop} {H H' : AH} {s s' : Shared}

/-- an object that is no list stays -/
theorem St.stay (S : St base H s) (e : Ext X Y H s H' s') {a : Addr} {o : Obj} (h : s.heap.get? a = some o) (hx : ¬ X a) (hc : o.cls ≠ .type "list") : s'.heap.get? a = some o := by
  refine e.keep a o h hx fun x hx' => ?_
  obtain ⟨vs, n, hl, _⟩ := S.hr.list a x hx'
  rw [show s.heap.get? a = _ from hl] at h
  cases h
  exact absurd rfl hc
theorem St.stayI (S : St base H s) (e : Ext X Y H s H' s') {a : Addr} {o : Obj} (h : Imm s.heap a o) (hx : ¬ X a) : s'.heap.get? a = some o :=
  S.stay e h.1 hx (by rcases h.2 with q | q <;> rw [q.1] <;> simp)
theorem VRel.ext {v : Value} {p : PV} (x : VRel s.heap v p) (S : St base H s) (e : Ext X Y H s H' s') (hX : ∀ a o, Imm s.heap a o → ¬ X a) : VRel s'.heap v p :=
  x.mono fun a o h => S.stayI e h (hX a o h)
theorem VAll.ext {v : List Value} {p : List PV} (x : VAll s.heap v p) (S : St base H s) (e : Ext X Y H s H' s') (hX : ∀ a o, Imm s.heap a o → ¬ X a) : VAll s'.heap v p :=
  x.mono fun a o h => S.stayI e h (hX a o h)
theorem VRel.ext0 {v : Value} {p : PV} (x : VRel s.heap v p) (S : St base H s) (e : Ext No No H s H' s') : VRel s'.heap v p := x.ext S e fun _ _ _ h => h
theorem VAll.ext0 {v : List Value} {p : List PV} (x : VAll s.heap v p) (S : St base H s) (e : Ext No No H s H' s') : VAll s'.heap v p := x.ext S e fun _ _ _ h => h
end

/-- the frame bears the abstract one: N numbers the names -/
def Holds (env : Env) (h : Heap) (m : Str → Option Value) (x : Str) (v : Value) : Prop :=
  (env.kindOf x = some .local ∧ m x = some v) ∨ ((env.kindOf x = some .cell ∨ env.kindOf x = some .free) ∧ ∃ c, env.cells.lookup x = some c ∧ h.IsCell c (some v))

structure ER (base : Heap) (N : List Str) (env : Env) (ρ : AEnv) (h : Heap) : Prop where
  names : ∃ m, h.Ns env.locals m ∧ ∀ k p, ρ k = some p → ∃ x v, N[k]? = some x ∧ VRel h v p ∧ Holds env h m x v
  cells : ∀ x c, env.cells.lookup x = some c → ∃ v, h.IsCell c v
  apart : env.cells.Pairwise fun x y => x.2 ≠ y.2
  new : base.get? env.locals = none
  cnew : ∀ x c, env.cells.lookup x = some c → base.get? c = none

theorem ns_no_list {h : Heap} {a : Addr} {m : Str → Option Value} (hn : h.Ns a m) : ∀ vs n, ¬ IsL h a vs n := by
  intro vs n hl
  obtain ⟨o, es, ep, ho, hd, _⟩ := hn
  rw [show h.get? a = _ from hl] at ho; cases ho; cases hd
theorem cell_no_list {h : Heap} {a : Addr} {v : Option Value} (hn : h.IsCell a v) : ∀ vs n, ¬ IsL h a vs n := by
  intro vs n hl
  obtain ⟨o, ho, hd⟩ := hn
  rw [show h.get? a = _ from hl] at ho; cases ho; cases hd

section
variable {base : Heap} {N : List Str} {env : Env} {ρ : AEnv} {X Y : Nat → Prop} {H H' : AH} {s s' : Shared}
theorem St.stay' (S : St base H s) (e : Ext X Y H s H' s') {a : Addr} {o : Obj} (h : s.heap.get? a = some o) (hx : ¬ X a) (hl : ∀ vs n, ¬ IsL s.heap a vs n) : s'.heap.get? a = some o := by
  refine e.keep a o h hx fun x hx' => ?_
  obtain ⟨vs, n, hl', _⟩ := S.hr.list a x hx'
  exact absurd hl' (hl vs n)
theorem ns_stays (S : St base H s) (e : Ext X Y H s H' s') {a : Addr} {m : Str → Option Value} (h : s.heap.Ns a m) (hx : ¬ X a) : s'.heap.Ns a m := by
  obtain ⟨o, es, ep, ho, r⟩ := id h
  exact ⟨o, es, ep, S.stay' e ho hx (ns_no_list h), r⟩
theorem cell_stays (S : St base H s) (e : Ext X Y H s H' s') {a : Addr} {v : Option Value} (h : s.heap.IsCell a v) (hx : ¬ X a) : s'.heap.IsCell a v := by
  obtain ⟨o, ho, r⟩ := id h
  exact ⟨o, S.stay' e ho hx (cell_no_list h), r⟩
theorem ER.ext (R : ER base N env ρ s.heap) (S : St base H s) (e : Ext X Y H s H' s') (hX : ∀ a o, Imm s.heap a o → ¬ X a) (hL : ¬ X env.locals) (hC : ∀ x c, env.cells.lookup x = some c → ¬ X c) : ER base N env ρ s'.heap where
  names := by
    obtain ⟨m, hn, hm⟩ := R.names
    refine ⟨m, ns_stays S e hn hL, fun k p hk => ?_⟩
    obtain ⟨x, v, h1, h2, h3⟩ := hm k p hk
    refine ⟨x, v, h1, h2.ext S e hX, ?_⟩
    rcases h3 with h3 | ⟨h3, c, h4, h5⟩
    · exact .inl h3
    · exact .inr ⟨h3, c, h4, cell_stays S e h5 (hC x c h4)⟩
  cells x c h := let ⟨v, hv⟩ := R.cells x c h; ⟨v, cell_stays S e hv (hC x c h)⟩
  apart := R.apart
  new := R.new
  cnew := R.cnew
theorem ER.ext' (R : ER base N env ρ s.heap) (S : St base H s) (e : Ext X Y H s H' s') (hX : ∀ a o, Imm s.heap a o → s'.heap.get? a = some o) (hL : ¬ X env.locals) (hC : ∀ x c, env.cells.lookup x = some c → ¬ X c) : ER base N env ρ s'.heap where
  names := by
    obtain ⟨m, hn, hm⟩ := R.names
    refine ⟨m, ns_stays S e hn hL, fun k p hk => ?_⟩
    obtain ⟨x, v, h1, h2, h3⟩ := hm k p hk
    refine ⟨x, v, h1, h2.mono hX, ?_⟩
    rcases h3 with h3 | ⟨h3, c, h4, h5⟩
    · exact .inl h3
    · exact .inr ⟨h3, c, h4, cell_stays S e h5 (hC x c h4)⟩
  cells x c h := let ⟨v, hv⟩ := R.cells x c h; ⟨v, cell_stays S e hv (hC x c h)⟩
  apart := R.apart
  new := R.new
  cnew := R.cnew
theorem ER.ext0 (R : ER base N env ρ s.heap) (S : St base H s) (e : Ext No No H s H' s') : ER base N env ρ s'.heap := R.ext S e (fun _ _ _ h => h) (fun h => h) (fun _ _ _ h => h)
end

/-- the room around: depth and C units for n more levels -/
structure AOk (n : Nat) (A : Around) : Prop where
  handled : A.handled = none
  depth : A.depth + n ≤ 900
  units : A.units + 10 * n ≤ 9000

theorem AOk.of_le {n m : Nat} {A : Around} (h : AOk n A) (hm : m ≤ n) : AOk m A := ⟨h.handled, by have := h.depth; omega, by have := h.units; omega⟩
theorem AOk.deeper {n : Nat} {A : Around} (h : AOk (n + 1) A) (env : Env) : AOk n (A.deeper env) := ⟨h.handled, by have := h.depth; show A.depth + 1 + n ≤ 900; omega, by have := h.units; show A.units + 3 + 10 * n ≤ 9000; omega⟩
/-- a block's names, and those that it has from around -/
structure SE extends Scope where
  caps : List Str

structure EOk (sc : SE) (env : Env) : Prop where
  scope : env.scope = sc.toScope
  kind : sc.kind = .function
  globals : env.globals = mainGlobals
  builtins : env.builtins = builtinsNs
  cells : ∀ x, sc.names.lookup x = some .cell → ∃ a, env.cells.lookup x = some a ∧ (x ∉ sc.caps → env.locals < a)
theorem EOk.kindOf {sc env} (h : EOk sc env) (x : Str) : env.kindOf x = sc.names.lookup x := by unfold Env.kindOf; rw [h.scope]
theorem EOk.skind {sc env} (h : EOk sc env) : env.scope.kind = .function := by rw [h.scope]; exact h.kind

abbrev AE := (PV → AH → Prop) → AEnv → AH → Prop
abbrev AT := (Bool → AH → Prop) → AEnv → AH → Prop
abbrev AL := (List PV → AH → Prop) → AEnv → AH → Prop
inductive Fl where
  | next | brk | cont
  | ret (p : PV)
abbrev AS := (Fl → AEnv → AH → Prop) → AEnv → AH → Prop

inductive FRel (h : Heap) : Flow → Fl → Prop
  | next : FRel h .next .next
  | brk : FRel h .brk .brk
  | cont : FRel h .cont .cont
  | ret {v : Value} {p : PV} : VRel h v p → FRel h (.ret v) (.ret p)

/-- the run's own constants -/
structure Cx where
  prog : Program
  w : World
  base : Heap
  q : Program
  loose : List Str
  mean : ExcName → Option Value
  mg : Str → Option Value
  mb : Str → Option Value
  top : Top q loose mean mg mb base
  N : List Str
  nodup : N.Nodup

/-- a step's end: a value borne, the heap borne, all else as it was -/
def Res (c : Cx) (H : AH) (s : Shared) (Q : PV → AH → Prop) (v : Value) (s' : Shared) : Prop :=
  ∃ p H', VRel s'.heap v p ∧ St c.base H' s' ∧ Ext No No H s H' s' ∧ Q p H'
def ResL (c : Cx) (H : AH) (s : Shared) (Q : List PV → AH → Prop) (vs : List Value) (s' : Shared) : Prop :=
  ∃ ps H', VAll s'.heap vs ps ∧ St c.base H' s' ∧ Ext No No H s H' s' ∧ Q ps H'
def ResB (c : Cx) (H : AH) (s : Shared) (Q : Bool → AH → Prop) (b : Bool) (s' : Shared) : Prop :=
  ∃ H', St c.base H' s' ∧ Ext No No H s H' s' ∧ Q b H'
def Own (env : Env) (a : Nat) : Prop := a = env.locals ∨ (env.locals < a ∧ ∃ x, env.cells.lookup x = some a)
def ResS (c : Cx) (env : Env) (H : AH) (s : Shared) (Q : Fl → AEnv → AH → Prop) (f : Flow) (s' : Shared) : Prop :=
  ∃ fl ρ' H', FRel s'.heap f fl ∧ ER c.base c.N env ρ' s'.heap ∧ St c.base H' s' ∧ Ext (Own env) No H s H' s' ∧ Q fl ρ' H'

theorem Res.elim {c : Cx} {H : AH} {s : Shared} {Q : PV → AH → Prop} {v : Value} {s' : Shared} {P : Prop} (r : Res c H s Q v s') (k : ∀ p H', VRel s'.heap v p → St c.base H' s' → Ext No No H s H' s' → Q p H' → P) : P := Exists.elim r fun p r => Exists.elim r fun H' r => k p H' r.1 r.2.1 r.2.2.1 r.2.2.2
theorem ResL.elim {c : Cx} {H : AH} {s : Shared} {Q : List PV → AH → Prop} {v : List Value} {s' : Shared} {P : Prop} (r : ResL c H s Q v s') (k : ∀ p H', VAll s'.heap v p → St c.base H' s' → Ext No No H s H' s' → Q p H' → P) : P := Exists.elim r fun p r => Exists.elim r fun H' r => k p H' r.1 r.2.1 r.2.2.1 r.2.2.2
theorem ResB.elim {c : Cx} {H : AH} {s : Shared} {Q : Bool → AH → Prop} {v : Bool} {s' : Shared} {P : Prop} (r : ResB c H s Q v s') (k : ∀ H', St c.base H' s' → Ext No No H s H' s' → Q v H' → P) : P := Exists.elim r fun H' r => k H' r.1 r.2.1 r.2.2
theorem ResS.elim {c : Cx} {env : Env} {H : AH} {s : Shared} {Q : Fl → AEnv → AH → Prop} {f : Flow} {s' : Shared} {P : Prop} (r : ResS c env H s Q f s') (k : ∀ fl ρ' H', FRel s'.heap f fl → ER c.base c.N env ρ' s'.heap → St c.base H' s' → Ext (Own env) No H s H' s' → Q fl ρ' H' → P) : P := Exists.elim r fun fl r => Exists.elim r fun ρ' r => Exists.elim r fun H' r => k fl ρ' H' r.1 r.2.1 r.2.2.1 r.2.2.2.1 r.2.2.2.2
def SoundE (c : Cx) (n : Nat) (sc : SE) (e : Expr) (ae : AE) : Prop :=
  ∀ (A : Around) (env : Env) (ρ : AEnv) (H : AH) (s : Shared) (Q : PV → AH → Prop) (E : Value → Shared → Prop), AOk n A → EOk sc env → ER c.base c.N env ρ s.heap → St c.base H s → ae Q ρ H →
    wpAny (model c.prog c.w) A (eval e env) (Res c H s Q) E s
def SoundL (c : Cx) (n : Nat) (sc : SE) (es : List Expr) (al : AL) : Prop :=
  ∀ (A : Around) (env : Env) (ρ : AEnv) (H : AH) (s : Shared) (Q : List PV → AH → Prop) (E : Value → Shared → Prop) (pos : Pos), AOk n A → EOk sc env → ER c.base c.N env ρ s.heap → St c.base H s → al Q ρ H →
    wpAny (model c.prog c.w) A (spliced (backTo pos (starEach es env))) (ResL c H s Q) E s
def SoundT (c : Cx) (n : Nat) (sc : SE) (e : Expr) (a : AT) : Prop :=
  ∀ (A : Around) (env : Env) (ρ : AEnv) (H : AH) (s : Shared) (Q : Bool → AH → Prop) (E : Value → Shared → Prop), AOk n A → EOk sc env → ER c.base c.N env ρ s.heap → St c.base H s → a Q ρ H →
    wpAny (model c.prog c.w) A (isTrue e env (eval e env)) (ResB c H s Q) E s
def SoundS (c : Cx) (n : Nat) (sc : SE) (st : Stmt) (a : AS) : Prop :=
  ∀ (A : Around) (env : Env) (ρ : AEnv) (H : AH) (s : Shared) (Q : Fl → AEnv → AH → Prop) (E : Value → Shared → Prop), AOk n A → EOk sc env → ER c.base c.N env ρ s.heap → St c.base H s → a Q ρ H →
    wpAny (model c.prog c.w) A (exec st env) (ResS c env H s Q) E s
def SoundB (c : Cx) (n : Nat) (sc : SE) (sts : List Stmt) (a : AS) : Prop :=
  ∀ (A : Around) (env : Env) (ρ : AEnv) (H : AH) (s : Shared) (Q : Fl → AEnv → AH → Prop) (E : Value → Shared → Prop), AOk n A → EOk sc env → ER c.base c.N env ρ s.heap → St c.base H s → a Q ρ H →
    wpAny (model c.prog c.w) A (execs sts env) (ResS c env H s Q) E s
end Mine
open PySem PySem.W PyProof.Rows
set_option Elab.async false
namespace Mine

section
variable {base : Heap} {X Y : Nat → Prop} {H H' : AH} {s s' : Shared}

theorem St.tok (S : St base H s) (tk : Nat) : St base H { s with toks := tk } := ⟨S.hr, S.bare⟩
theorem Ext.tok (tk : Nat) : Ext X Y H s H { s with toks := tk } := ⟨fun _ _ h _ _ => h, Nat.le_refl _, fun _ x h => .inl ⟨x, h, rfl⟩, fun _ _ h _ => h, Nat.le_refl _, rfl⟩

theorem St.lt (S : St base H s) {a : Nat} {x : LO} (h : H a = some x) : a < s.heap.objs.size := by
  obtain ⟨vs, n, hl, _⟩ := S.hr.list a x h
  exact Heap.lt_size hl
theorem St.fresh (S : St base H s) {a : Nat} (h : s.heap.objs.size ≤ a) : H a = none := by
  cases hq : H a with
  | none => rfl
  | some x => exact absurd (S.lt hq) (Nat.not_lt.mpr h)
theorem St.bsize (S : St base H s) {a : Nat} (h : s.heap.objs.size ≤ a) : base.get? a = none := by
  cases hq : base.get? a with
  | none => rfl
  | some o => exact absurd (Heap.lt_size (S.hr.keep a o hq)) (Nat.not_lt.mpr h)

/-- the heap changed only at X, where nothing of ours lies -/
theorem St.of_keep {h' : Heap} {tk : Nat} (S : St base H s) (hk : ∀ b o, ¬ X b → s.heap.get? b = some o → h'.get? b = some o)
    (hB : ∀ b, X b → base.get? b = none) (hL : ∀ b, X b → ∀ vs n, ¬ IsL s.heap b vs n) (hT : ∀ b, X b → ∀ o, ¬ Imm s.heap b o) : St base H { s with heap := h', toks := tk } where
  hr := {
    keep := fun b o h => hk b o (fun q => by rw [hB b q] at h; cases h) (S.hr.keep b o h)
    list := fun a x h => by
      obtain ⟨vs, n, hl, hv⟩ := S.hr.list a x h
      exact ⟨vs, n, hk a _ (fun q => hL a q vs n hl) hl, hv.mono fun b o ht => hk b _ (fun q => hT b q o ht) ht.1⟩
    new := S.hr.new }
  bare := S.bare
theorem Ext.of_keep {h' : Heap} {tk : Nat} (hk : ∀ b o, ¬ X b → s.heap.get? b = some o → h'.get? b = some o) (hz : s.heap.objs.size ≤ h'.objs.size) : Ext X Y H s H { s with heap := h', toks := tk } :=
  ⟨fun a o h hx _ => hk a o hx h, hz, fun _ x h => .inl ⟨x, h, rfl⟩, fun _ _ h _ => h, Nat.le_refl _, rfl⟩

theorem St.push (S : St base H s) (o : Obj) : St base H { s with heap := s.heap.push o } :=
  S.of_keep (X := No) (tk := s.toks) (fun _ _ _ h => Heap.get?_push_of_some o h) (fun _ h => h.elim) (fun _ h => h.elim) (fun _ h => h.elim)
theorem Ext.push (o : Obj) : Ext X Y H s H { s with heap := s.heap.push o } :=
  Ext.of_keep (tk := s.toks) (fun _ _ _ h => Heap.get?_push_of_some o h) (by simp)

theorem St.newList (S : St base H s) {vs : Array Value} {ps : List PV} (hv : VAll s.heap vs.toList ps) :
    St base (upd H s.heap.objs.size ⟨ps, true⟩) { s with heap := s.heap.push { cls := .type "list", data := .seq vs } } where
  hr := {
    keep := fun b o h => Heap.get?_push_of_some _ (S.hr.keep b o h)
    list := fun a x h => by
      by_cases ha : a = s.heap.objs.size
      · subst ha
        rw [upd_same] at h; cases h
        exact ⟨vs, 0, IsL.new _ _, hv.mono fun b o ht => Heap.get?_push_of_some _ ht.1⟩
      · rw [upd_other _ _ ha] at h
        obtain ⟨ws, n, hl, hw⟩ := S.hr.list a x h
        exact ⟨ws, n, IsL.push hl _, hw.mono fun b o ht => Heap.get?_push_of_some _ ht.1⟩
    new := fun a x h ho => by
      by_cases ha : a = s.heap.objs.size
      · subst ha; exact S.bsize (Nat.le_refl _)
      · rw [upd_other _ _ ha] at h; exact S.hr.new a x h ho }
  bare := S.bare
theorem Ext.newList (o : Obj) (x : LO) : Ext X Y H s (upd H s.heap.objs.size x) { s with heap := s.heap.push o } where
  keep a o' h _ _ := Heap.get?_push_of_some _ h
  size := by simp
  dom a y h := by
    by_cases ha : a = s.heap.objs.size
    · exact .inr (by omega)
    · rw [upd_other _ _ ha] at h; exact .inl ⟨y, h, rfl⟩
  gens _ _ h _ := h
  gsize := Nat.le_refl _
  os := rfl

theorem St.setList (S : St base H s) {a : Addr} {x : LO} {vs' : Array Value} {n' : Nat} {ps : List PV} {h' : Heap} {tk : Nat} (hx : H a = some x) (ho : x.own = true) (hl : IsL h' a vs' n') (hs : Heap.SameBut a s.heap h') (hv : VAll s.heap vs'.toList ps) :
    St base (upd H a ⟨ps, true⟩) { s with heap := h', toks := tk } := by
  have hT : ∀ b o, Imm s.heap b o → h'.get? b = some o := fun b o ht => by
    have : b ≠ a := by
      rintro rfl
      obtain ⟨us, m, hl', _⟩ := S.hr.list b x hx
      have e := hl'.symm.trans ht.1
      cases e
      rcases ht.2 with q | q <;> simp at q
    exact (hs.2 b this).trans ht.1
  refine ⟨⟨fun b o h => ?_, fun b y h => ?_, fun b y h hy => ?_⟩, S.bare⟩
  · have : b ≠ a := by rintro rfl; rw [S.hr.new b x hx ho] at h; cases h
    exact (hs.2 b this).trans (S.hr.keep b o h)
  · by_cases hb : b = a
    · subst hb; rw [upd_same] at h; cases h; exact ⟨vs', n', hl, hv.mono hT⟩
    · rw [upd_other _ _ hb] at h
      obtain ⟨ws, n, hl', hw⟩ := S.hr.list b y h
      exact ⟨ws, n, (hs.2 b hb).trans hl', hw.mono hT⟩
  · by_cases hb : b = a
    · subst hb; exact S.hr.new b x hx ho
    · rw [upd_other _ _ hb] at h; exact S.hr.new b y h hy
theorem Ext.setList {a : Addr} {x : LO} {ps : List PV} {h' : Heap} {tk : Nat} (hx : H a = some x) (ho : x.own = true) (hs : Heap.SameBut a s.heap h') : Ext X Y H s (upd H a ⟨ps, true⟩) { s with heap := h', toks := tk } where
  keep b o h _ hn := by
    have : b ≠ a := by rintro rfl; rw [hn x hx] at ho; cases ho
    exact (hs.2 b this).trans h
  size := Nat.le_of_eq hs.1.symm
  dom b y h := by
    by_cases hb : b = a
    · subst hb; rw [upd_same] at h; cases h; exact .inl ⟨x, hx, ho⟩
    · rw [upd_other _ _ hb] at h; exact .inl ⟨y, h, rfl⟩
  gens _ _ h _ := h
  gsize := Nat.le_refl _
  os := rfl
end

section
variable {c : Cx} {H : AH} {s : Shared} {Q : PV → AH → Prop}
theorem res_tok {v : Value} {p : PV} {tk : Nat} (S : St c.base H s) (hv : VRel s.heap v p) (hq : Q p H) : Res c H s Q v { s with toks := tk } := ⟨p, H, hv, S.tok tk, Ext.tok tk, hq⟩
theorem res_pure {v : Value} {p : PV} (S : St c.base H s) (hv : VRel s.heap v p) (hq : Q p H) : Res c H s Q v s := ⟨p, H, hv, S, Ext.refl, hq⟩
theorem Res.trans {H' : AH} {s' : Shared} {v : Value} {s'' : Shared} (e : Ext No No H s H' s') (r : Res c H' s' Q v s'') : Res c H s Q v s'' :=
  let ⟨p, H'', h1, h2, h3, h4⟩ := r; ⟨p, H'', h1, h2, e.trans h3, h4⟩
theorem ResB.trans {H' : AH} {s' : Shared} {Q : Bool → AH → Prop} {v : Bool} {s'' : Shared} (e : Ext No No H s H' s') (r : ResB c H' s' Q v s'') : ResB c H s Q v s'' :=
  let ⟨H'', h2, h3, h4⟩ := r; ⟨H'', h2, e.trans h3, h4⟩
theorem res_tuple {vs : List Value} {ps : List PV} (S : St c.base H s) (hv : VAll s.heap vs ps) (hq : Q (.tup ps) H) : Res c H s Q (.ref s.heap.objs.size) { s with heap := s.heap.push { cls := .type "tuple", data := .seq vs.toArray } } :=
  ⟨.tup ps, H, .tup (IsT.new _ _) (hv.mono fun b o ht => Heap.get?_push_of_some _ ht.1), S.push _, Ext.push _, hq⟩
theorem res_list {vs : Array Value} {ps : List PV} (S : St c.base H s) (hv : VAll s.heap vs.toList ps) (hq : ∀ a, H a = none → Q (.ref a) (upd H a ⟨ps, true⟩)) : Res c H s Q (.ref s.heap.objs.size) { s with heap := s.heap.push { cls := .type "list", data := .seq vs } } :=
  ⟨.ref _, _, .ref _, S.newList hv, Ext.newList _ _, hq _ (S.fresh (Nat.le_refl _))⟩
end

/-- a new list -/
def newL (ps : List PV) (Q : PV → AH → Prop) (H : AH) : Prop := ∀ a, H a = none → Q (.ref a) (upd H a ⟨ps, true⟩)

-- names, constants
def aVar (k : Nat) : AE := fun Q ρ H => match ρ k with | some p => Q p H | none => False
def aCst (p : PV) : AE := fun Q _ H => Q p H

section
variable {c : Cx} {n : Nat} {sc : SE}
theorem load_var {A : Around} {env : Env} {ρ : AEnv} {s : Shared} {Q : Value → Shared → Prop} {E : Value → Shared → Prop} {x : Str} {k : Nat} {p : PV} (he : EOk sc env) (R : ER c.base c.N env ρ s.heap) (hx : c.N[k]? = some x) (hp : ρ k = some p)
    (h : ∀ v, VRel s.heap v p → Q v s) (hn : (x == ("__classdict__" : Str)) = false) : wpAny (model c.prog c.w) A (loadName env x) Q E s := by
  obtain ⟨m, hm, hk⟩ := R.names
  obtain ⟨y, v, h1, h2, h3⟩ := hk k p hp
  rw [hx] at h1; cases h1
  rcases h3 with ⟨k1, k2⟩ | ⟨k1 | k1, cc, k2, k3⟩
  · exact wpAny_loadName_local he.skind k1 hm k2 (h v h2)
  · exact wpAny_loadName_cell he.skind k1 k2 k3 (h v h2)
  · exact wpAny_loadName_free he.skind k1 k2 k3 (h v h2) hn

theorem sound_var {x : Str} {pos : Pos} {k : Nat} (hx : c.N[k]? = some x) (hd : (x == ("__debug__" : Str)) = false) (hn : (x == ("__classdict__" : Str)) = false) : SoundE c n sc (.Name x pos) (aVar k) := by
  intro A env ρ H s Q E hA he R S h
  unfold aVar at h
  cases hp : ρ k with
  | none => rw [hp] at h; exact h.elim
  | some p =>
    rw [hp] at h
    exact wpAny_Name (load_var he R hx hp (fun v hv => res_pure S hv h) hn) hd

theorem sound_none {k : Nat} {pos : Pos} : SoundE c n sc (.Constant .none k pos) (aCst .none) := fun _ _ _ _ _ _ _ _ _ _ S h => wpAny_Constant_none (res_pure S .none h)
theorem sound_bool {b : Bool} {k : Nat} {pos : Pos} : SoundE c n sc (.Constant (.bool b) k pos) (aCst (.bool b)) := fun _ _ _ _ _ _ _ _ _ _ S h => wpAny_Constant_bool (res_pure S (.bool b) h)
theorem sound_int {i : Int} {k : Nat} {pos : Pos} : SoundE c n sc (.Constant (.int i) k pos) (aCst (.int i)) := fun _ _ _ _ _ _ _ _ _ _ S h => wpAny_Constant_int (res_tok S (.int i _) h)
theorem sound_str {x : Str} {y : List Nat} {k : Nat} {pos : Pos} (hx : x.cps.toList = y) (hy : (y.all fun c => c < 0x110000) = true) : SoundE c n sc (.Constant (.str x) k pos) (aCst (.str y)) := by
  intro A env ρ H s Q E hA he R S h
  refine wpAny_Constant_str (res_tok (p := .str y) S ?_ h)
  have : x = ⟨y.toArray⟩ := by subst hx; cases x; simp
  rw [this]
  exact .str y _ (by simpa using hy)

theorem seq1 {A : Around} {env : Env} {ρ : AEnv} {H : AH} {s : Shared} {E : Value → Shared → Prop} {l : Expr} {al : AE} {P : Value → Shared → Prop} {F : PV → AH → Prop} (hl : SoundE c n sc l al) (hA : AOk n A) (he : EOk sc env) (R : ER c.base c.N env ρ s.heap) (S : St c.base H s)
    (h : al F ρ H) (k : ∀ va a H1 s1, VRel s1.heap va a → ER c.base c.N env ρ s1.heap → St c.base H1 s1 → Ext No No H s H1 s1 → F a H1 → P va s1) :
    wpAny (model c.prog c.w) A (eval l env) P E s :=
  wpAny_mono (hl A env ρ H s _ E hA he R S h) (fun va s1 rr => rr.elim fun a H1 h1 S1 e1 q1 => k va a H1 s1 h1 (R.ext0 S e1) S1 e1 q1) fun _ _ x => x
theorem seq2 {A : Around} {env : Env} {ρ : AEnv} {H : AH} {s : Shared} {E : Value → Shared → Prop} {l r : Expr} {al ar : AE} {P : Value → Value → Shared → Prop} {F : PV → PV → AH → Prop} (hl : SoundE c n sc l al) (hr : SoundE c n sc r ar) (hA : AOk n A) (he : EOk sc env) (R : ER c.base c.N env ρ s.heap) (S : St c.base H s)
    (h : al (fun a H1 => ar (fun b H2 => F a b H2) ρ H1) ρ H)
    (k : ∀ va vb a b H2 s2, VRel s2.heap va a → VRel s2.heap vb b → ER c.base c.N env ρ s2.heap → St c.base H2 s2 → Ext No No H s H2 s2 → F a b H2 → P va vb s2) :
    wpAny (model c.prog c.w) A (eval l env) (fun va s1 => wpAny (model c.prog c.w) A (eval r env) (fun vb s2 => P va vb s2) E s1) E s :=
  seq1 hl hA he R S h fun va a _ s1 h1 R1 S1 e1 q1 => seq1 hr hA he R1 S1 q1 fun vb b H2 s2 h2 R2 S2 e2 q2 => k va vb a b H2 s2 (h1.ext0 S1 e2) h2 R2 S2 (e1.trans e2) q2

-- two-place operations
/-- what may be said of a two-place operation's value -/
def SoundOp2 (c : Cx) (n : Nat) (t : Value → Value → Sem Value) (f : PV → PV → (PV → AH → Prop) → AH → Prop) : Prop :=
  ∀ (A : Around) (H : AH) (s : Shared) (va vb : Value) (a b : PV) (Q : PV → AH → Prop) (E : Value → Shared → Prop), AOk n A → VRel s.heap va a → VRel s.heap vb b → St c.base H s → f a b Q H →
    wpAny (model c.prog c.w) A (t va vb) (Res c H s Q) E s
def SoundOp1 (c : Cx) (n : Nat) (t : Value → Sem Value) (f : PV → (PV → AH → Prop) → AH → Prop) : Prop :=
  ∀ (A : Around) (H : AH) (s : Shared) (va : Value) (a : PV) (Q : PV → AH → Prop) (E : Value → Shared → Prop), AOk n A → VRel s.heap va a → St c.base H s → f a Q H →
    wpAny (model c.prog c.w) A (t va) (Res c H s Q) E s

def aBin (f : PV → PV → (PV → AH → Prop) → AH → Prop) (l r : AE) : AE := fun Q ρ H => l (fun a H1 => r (fun b H2 => f a b Q H2) ρ H1) ρ H
def aUn (f : PV → (PV → AH → Prop) → AH → Prop) (l : AE) : AE := fun Q ρ H => l (fun a H1 => f a Q H1) ρ H

theorem sound_bin {l r : Expr} {op : Operator} {pos : Pos} {al ar : AE} {f} (ho : SoundOp2 c n (binaryOp op) f) (hl : SoundE c n sc l al) (hr : SoundE c n sc r ar) : SoundE c n sc (.BinOp l op r pos) (aBin f al ar) := by
  intro A env ρ H s Q E hA he R S h
  refine wpAny_BinOp (seq2 (F := fun a b H2 => f a b Q H2) hl hr hA he R S h ?_)
  intro va vb a b H2 s2 h1 h2 R2 S2 e2 q2
  exact wpAny_mono (ho A H2 s2 va vb a b Q E hA h1 h2 S2 q2) (fun _ _ r => r.trans e2) fun _ _ x => x
theorem sound_un {l : Expr} {op : UnaryOp} {pos : Pos} {al : AE} {f} (ho : SoundOp1 c n (unaryOp op) f) (hl : SoundE c n sc l al) : SoundE c n sc (.UnaryOp op l pos) (aUn f al) := by
  intro A env ρ H s Q E hA he R S h
  refine wpAny_UnaryOp (seq1 (F := fun a H2 => f a Q H2) hl hA he R S h ?_)
  intro va a H2 s2 h1 R2 S2 e2 q2
  exact wpAny_mono (ho A H2 s2 va a Q E hA h1 S2 q2) (fun _ _ r => r.trans e2) fun _ _ x => x

/-- a bound on a size -/
def szOk (k : Nat) : Prop := k ≤ 2 ^ 24

def opAdd (a b : PV) (Q : PV → AH → Prop) (H : AH) : Prop := match a, b with
  | .int x, .int y => Q (.int (x + y)) H
  | .str x, .str y => szOk (x.length + y.length) ∧ Q (.str (x ++ y)) H
  | .ref a, .ref b => (match H a, H b with | some x, some y => szOk (x.items.length + y.items.length) ∧ newL (x.items ++ y.items) Q H | _, _ => False)
  | _, _ => False
def opSub (a b : PV) (Q : PV → AH → Prop) (H : AH) : Prop := match a, b with
  | .int x, .int y => Q (.int (x - y)) H
  | _, _ => False
def opMul (a b : PV) (Q : PV → AH → Prop) (H : AH) : Prop := match a, b with
  | .int x, .int y => IntMulOk x y ∧ Q (.int (x * y)) H
  | .str x, .int k => (0 ≤ k ∧ k ≤ 1000 ∧ x.length ≤ 1000) ∧ Q (.str (List.replicate k.toNat x).flatten) H
  | _, _ => False
def opDiv (a b : PV) (Q : PV → AH → Prop) (H : AH) : Prop := match a, b with
  | .int x, .int y => (0 < y ∧ y < 1073741824) ∧ Q (.int (x / y)) H
  | _, _ => False
def opMod (a b : PV) (Q : PV → AH → Prop) (H : AH) : Prop := match a, b with
  | .int x, .int y => 0 < y ∧ Q (.int (x % y)) H
  | _, _ => False

theorem str_app (x y : List Nat) : (⟨x.toArray⟩ : Str) ++ (⟨y.toArray⟩ : Str) = ⟨(x ++ y).toArray⟩ := by
  show Str.mk (x.toArray ++ y.toArray) = _
  simp
theorem str_len (x : List Nat) : (⟨x.toArray⟩ : Str).length = x.length := by
  show x.toArray.size = _
  simp

theorem opAdd_elim {a b : PV} {Q : PV → AH → Prop} {H : AH} (h : opAdd a b Q H) : (∃ x y, a = .int x ∧ b = .int y ∧ Q (.int (x + y)) H) ∨ (∃ x y, a = .str x ∧ b = .str y ∧ szOk (x.length + y.length) ∧ Q (.str (x ++ y)) H) ∨ ∃ i j x y, a = .ref i ∧ b = .ref j ∧ H i = some x ∧ H j = some y ∧ szOk (x.items.length + y.items.length) ∧ newL (x.items ++ y.items) Q H := by
  unfold opAdd at h
  split at h
  · exact .inl ⟨_, _, rfl, rfl, h⟩
  · exact .inr (.inl ⟨_, _, rfl, rfl, h⟩)
  · split at h
    · rename_i e1 e2; exact .inr (.inr ⟨_, _, _, _, rfl, rfl, e1, e2, h⟩)
    · exact h.elim
  · exact h.elim
theorem op_add : SoundOp2 c n (binaryOp .Add) opAdd := by
  intro A H s va vb a b Q E hA h1 h2 S h
  rcases opAdd_elim h with ⟨x, y, rfl, rfl, h⟩ | ⟨x, y, rfl, rfl, h⟩ | ⟨i, j, x, y, rfl, rfl, ha, hb, h⟩
  · cases h1; cases h2; exact add_int (res_tok S (.int _ _) h)
  · cases h1 with
    | str _ t hx =>
    cases h2 with
    | str _ u hy =>
    refine add_str (fun t' tk => ?_) (by rw [str_len, str_len]; exact h.1)
    rw [str_app]
    exact res_tok S (.str _ _ (by simpa [or_imp, forall_and] using ⟨hx, hy⟩)) h.2
  · cases h1; cases h2
    obtain ⟨vs, k, hl, hv⟩ := S.hr.list i x ha
    obtain ⟨ws, k', hl', hv'⟩ := S.hr.list j y hb
    have l1 := hv.length
    have l2 := hv'.length
    refine PySem.P.add_list hl hl' (res_list S (by simpa using hv.append hv') h.2) ?_
    have := h.1; simp only [szOk] at this; rw [sizeLine_eq]
    simp at l1 l2; omega
theorem opSub_elim {a b : PV} {Q : PV → AH → Prop} {H : AH} (h : opSub a b Q H) : ∃ x y, a = .int x ∧ b = .int y ∧ Q (.int (x - y)) H := by
  unfold opSub at h
  split at h
  · exact ⟨_, _, rfl, rfl, h⟩
  · exact h.elim
theorem opDiv_elim {a b : PV} {Q : PV → AH → Prop} {H : AH} (h : opDiv a b Q H) : ∃ x y, a = .int x ∧ b = .int y ∧ (0 < y ∧ y < 1073741824) ∧ Q (.int (x / y)) H := by
  unfold opDiv at h
  split at h
  · exact ⟨_, _, rfl, rfl, h⟩
  · exact h.elim
theorem opMod_elim {a b : PV} {Q : PV → AH → Prop} {H : AH} (h : opMod a b Q H) : ∃ x y, a = .int x ∧ b = .int y ∧ 0 < y ∧ Q (.int (x % y)) H := by
  unfold opMod at h
  split at h
  · exact ⟨_, _, rfl, rfl, h⟩
  · exact h.elim
theorem op_mod : SoundOp2 c n (binaryOp .Mod) opMod := by
  intro A H s va vb a b Q E hA h1 h2 S h
  obtain ⟨i, j, rfl, rfl, h⟩ := opMod_elim h
  cases h1; cases h2
  refine mod_int (by omega) ?_
  rw [Int.fmod_eq_emod_of_nonneg _ (by omega)]
  exact res_tok S (.int _ _) h.2
theorem op_div : SoundOp2 c n (binaryOp .FloorDiv) opDiv := by
  intro A H s va vb a b Q E hA h1 h2 S h
  obtain ⟨i, j, rfl, rfl, h⟩ := opDiv_elim h
  cases h1; cases h2
  refine floordiv_int (by omega) ?_ (.inl (PyProof.noPylong_small (by omega)))
  rw [Int.fdiv_eq_ediv_of_nonneg _ (by omega)]
  exact res_tok S (.int _ _) h.2
theorem op_neg : SoundOp1 c n (unaryOp .USub) (fun a Q H => match a with | .int x => Q (.int (-x)) H | _ => False) := by
  intro A H s va a Q E hA h1 S h
  cases h1 <;> simp only at h
  exact PyProof.Rows.neg_int (res_tok S (.int _ _) h)
end
end Mine
open PySem PySem.W PyProof.Rows
set_option Elab.async false
set_option linter.unusedVariables false
namespace Mine

-- comparisons
mutual
inductive Rd (H : AH) : Nat → PV → PyData → Prop
  | none (n : Nat) : Rd H n .none .none
  | bool (n : Nat) (b : Bool) : Rd H n (.bool b) (.bool b)
  | int (n : Nat) (i : Int) : Rd H n (.int i) (.int i)
  | str (n : Nat) (x : List Nat) : Rd H n (.str x) (.str ⟨x.toArray⟩)
  | tup {n : Nat} {ps : List PV} {ds : List PyData} : RdAll H n ps ds → Rd H (n + 1) (.tup ps) (.tuple ds)
  | ref {n : Nat} {a : Nat} {x : LO} {ds : List PyData} : H a = some x → RdAll H n x.items ds → Rd H (n + 1) (.ref a) (.list ds)
inductive RdAll (H : AH) : Nat → List PV → List PyData → Prop
  | nil (n : Nat) : RdAll H n [] []
  | cons {n : Nat} {p : PV} {d : PyData} {ps : List PV} {ds : List PyData} : Rd H n p d → RdAll H n ps ds → RdAll H n (p :: ps) (d :: ds)
end

/-- what a value reads as -/
def RdP (s : Shared) (n : Nat) (p : PV) (d : PyData) : Prop := ∀ v, VRel s.heap v p → (∃ as, Reads s.heap v d as) ∧ d.canLay0 = true ∧ d.depth ≤ n
def RdPs (s : Shared) (n : Nat) (ps : List PV) (ds : List PyData) : Prop := ∀ vs, VAll s.heap vs ps → (∃ as, ReadsAll s.heap vs ds as) ∧ PyData.canLayAll0 ds = true ∧ PyData.depthAll ds ≤ n
section
variable {base : Heap} {H : AH} {s : Shared}
theorem rp_none (n : Nat) : RdP s n .none .none := fun v hv => by cases hv; exact ⟨⟨_, .none⟩, rfl, Nat.zero_le _⟩
theorem rp_bool (n : Nat) (b : Bool) : RdP s n (.bool b) (.bool b) := fun v hv => by cases hv; exact ⟨⟨_, .bool b⟩, rfl, Nat.zero_le _⟩
theorem rp_int (n : Nat) (i : Int) : RdP s n (.int i) (.int i) := fun v hv => by cases hv; exact ⟨⟨_, .int i _⟩, rfl, Nat.zero_le _⟩
theorem rp_str (n : Nat) (x : List Nat) : RdP s n (.str x) (.str ⟨x.toArray⟩) := fun v hv => by
  cases hv with
  | str _ t hx =>
    refine ⟨⟨_, .str _ _⟩, ?_, Nat.zero_le _⟩
    simp only [PyData.canLay0, PyData.strOk]
    simpa using hx
theorem rp_tup {n : Nat} {ps : List PV} {ds : List PyData} (h : RdPs s n ps ds) : RdP s (n + 1) (.tup ps) (.tuple ds) := fun v hv => by
  cases hv with
  | tup ht hvs =>
    obtain ⟨⟨as, h1⟩, h2, h3⟩ := h _ hvs
    refine ⟨⟨_, .tuple ht rfl rfl (by simpa using h1)⟩, h2, ?_⟩
    simp only [PyData.depth]; omega
theorem rp_ref (S : St base H s) {n : Nat} {a : Nat} {x : LO} {ds : List PyData} (ha : H a = some x) (h : RdPs s n x.items ds) : RdP s (n + 1) (.ref a) (.list ds) := fun v hv => by
  cases hv with
  | ref a =>
    obtain ⟨vs, k, hl, hvs⟩ := S.hr.list _ _ ha
    obtain ⟨⟨as, h1⟩, h2, h3⟩ := h _ hvs
    refine ⟨⟨_, .list hl rfl rfl h1⟩, h2, ?_⟩
    simp only [PyData.depth]; omega
theorem rp_nil (n : Nat) : RdPs s n [] [] := fun vs hv => by cases hv; exact ⟨⟨_, .nil⟩, rfl, Nat.zero_le _⟩
theorem rp_cons {n : Nat} {p : PV} {d : PyData} {ps : List PV} {ds : List PyData} (h : RdP s n p d) (r : RdPs s n ps ds) : RdPs s n (p :: ps) (d :: ds) := fun vs hv => by
  cases hv with
  | cons h1 h2 =>
    obtain ⟨⟨as, k1⟩, k2, k3⟩ := h _ h1
    obtain ⟨⟨bs, m1⟩, m2, m3⟩ := r _ h2
    refine ⟨⟨_, .cons k1 m1⟩, ?_, ?_⟩
    · simp [PyData.canLayAll0, k2, m2]
    · simp only [PyData.depthAll]; omega
theorem Rd.reads (S : St base H s) {n : Nat} {p : PV} {d : PyData} (h : Rd H n p d) : RdP s n p d :=
  Rd.rec (motive_1 := fun n p d _ => RdP s n p d) (motive_2 := fun n ps ds _ => RdPs s n ps ds) rp_none rp_bool rp_int rp_str (fun _ h => rp_tup h) (fun ha _ h => rp_ref S ha h) rp_nil (fun _ _ h r => rp_cons h r) h
theorem RdAll.reads (S : St base H s) {n : Nat} {ps : List PV} {ds : List PyData} (h : RdAll H n ps ds) : RdPs s n ps ds :=
  RdAll.rec (motive_1 := fun n p d _ => RdP s n p d) (motive_2 := fun n ps ds _ => RdPs s n ps ds) rp_none rp_bool rp_int rp_str (fun _ h => rp_tup h) (fun ha _ h => rp_ref S ha h) rp_nil (fun _ _ h r => rp_cons h r) h
end

def cmpEq (a b : PV) (Q : Bool → AH → Prop) (H : AH) : Prop := match a, b with
  | .int x, .int y => Q (decide (x = y)) H
  | .str x, .str y => Q (decide (x = y)) H
  | .bool x, .bool y => Q (decide (x = y)) H
  | a, b => ∃ d e, Rd H 20 a d ∧ Rd H 20 b e ∧ Q (PyData.eqv d e) H
def occIn (y x : List Nat) : Bool := !(Builtin.Str.occurrences ⟨x.toArray⟩ ⟨y.toArray⟩ 0 x.length 1).isEmpty
def cmpIn (a b : PV) (Q : Bool → AH → Prop) (H : AH) : Prop := match b with
  | .str x => (match a with | .str y => Q (occIn y x) H | _ => False)
  | .tup ps => ∃ d ds, Rd H 20 a d ∧ RdAll H 20 ps ds ∧ Q (ds.any fun y => PyData.eqv y d) H
  | .ref l => (match H l with | some x => ∃ d ds, Rd H 20 a d ∧ RdAll H 20 x.items ds ∧ Q (ds.any fun y => PyData.eqv y d) H | none => False)
  | _ => False
def cmpIs (a b : PV) (Q : Bool → AH → Prop) (H : AH) : Prop := match a, b with
  | .none, .none => Q true H
  | _, .none => Q false H
  | .bool x, .bool y => Q (decide (x = y)) H
  | _, _ => False
def cmpLt (f : Int → Int → Bool) (a b : PV) (Q : Bool → AH → Prop) (H : AH) : Prop := match a, b with
  | .int x, .int y => Q (f x y) H
  | _, _ => False
def cmpOp (op : CmpOp) (a b : PV) (Q : Bool → AH → Prop) (H : AH) : Prop := match op with
  | .Eq => cmpEq a b Q H
  | .NotEq => cmpEq a b (fun r H => Q (!r) H) H
  | .Lt => cmpLt (fun x y => decide (x < y)) a b Q H
  | .LtE => cmpLt (fun x y => decide (x ≤ y)) a b Q H
  | .Gt => cmpLt (fun x y => decide (x > y)) a b Q H
  | .GtE => cmpLt (fun x y => decide (x ≥ y)) a b Q H
  | .Is => cmpIs a b Q H
  | .IsNot => cmpIs a b (fun r H => Q (!r) H) H
  | .In => cmpIn a b Q H
  | .NotIn => cmpIn a b (fun r H => Q (!r) H) H

section
variable {c : Cx} {n : Nat} {sc : SE}

theorem bd {α : Type} [DecidableEq α] (x y : α) : (x == y) = decide (x = y) := by by_cases h : x = y <;> simp [h]
theorem mk_inj (x y : List Nat) : ((⟨x.toArray⟩ : Str) == ⟨y.toArray⟩) = decide (x = y) := by
  by_cases h : x = y
  · subst h; simp
  · have : ¬ ((⟨x.toArray⟩ : Str) = ⟨y.toArray⟩) := by simpa using h
    simp [h]

/-- all comparisons of equality by what is read -/
theorem cmpEq_reads {base : Heap} {A : Around} {H : AH} {s : Shared} {va vb : Value} {a b : PV} {Q : Bool → AH → Prop} (hA : AOk n A) (h1 : VRel s.heap va a) (h2 : VRel s.heap vb b) (S : St base H s) (h : cmpEq a b Q H) :
    ∃ d e as bs, Reads s.heap va d as ∧ Reads s.heap vb e bs ∧ d.canLay0 = true ∧ e.canLay0 = true ∧ A.units + min d.depth e.depth < cLine ∧ Q (PyData.eqv d e) H := by
  have key : (∃ d e, Rd H 20 a d ∧ Rd H 20 b e ∧ Q (PyData.eqv d e) H) := by
    unfold cmpEq at h
    split at h
    · refine ⟨_, _, .int _ _, .int _ _, ?_⟩
      rename_i x y
      have e : PyData.eqv (.int x) (.int y) = decide (x = y) := bd x y
      rw [e]; exact h
    · refine ⟨_, _, .str _ _, .str _ _, ?_⟩
      rename_i x y
      have e : PyData.eqv (.str ⟨x.toArray⟩) (.str ⟨y.toArray⟩) = decide (x = y) := by
        show ((⟨x.toArray⟩ : Str) == ⟨y.toArray⟩) = _
        exact mk_inj x y
      rw [e]; exact h
    · refine ⟨_, _, .bool _ _, .bool _ _, ?_⟩
      rename_i x y
      have e : PyData.eqv (.bool x) (.bool y) = decide (x = y) := by cases x <;> cases y <;> rfl
      rw [e]; exact h
    · exact h
  obtain ⟨d, e, k1, k2, k3⟩ := key
  obtain ⟨⟨as, m1⟩, m2, m3⟩ := k1.reads S va h1
  obtain ⟨⟨bs, l1⟩, l2, l3⟩ := k2.reads S vb h2
  refine ⟨d, e, as, bs, m1, l1, m2, l2, ?_, k3⟩
  have := hA.units
  simp only [cLine]
  omega

theorem cmpLt_elim {f : Int → Int → Bool} {a b : PV} {Q : Bool → AH → Prop} {H : AH} (h : cmpLt f a b Q H) : ∃ x y, a = .int x ∧ b = .int y ∧ Q (f x y) H := by
  unfold cmpLt at h
  split at h
  · exact ⟨_, _, rfl, rfl, h⟩
  · exact h.elim
theorem in_sound {A : Around} {H : AH} {s : Shared} {va vb : Value} {a b : PV} {Q : Bool → AH → Prop} {E : Value → Shared → Prop} (hA : AOk n A) (h1 : VRel s.heap va a) (h2 : VRel s.heap vb b) (S : St c.base H s) (h : cmpIn a b Q H) :
    ∃ r, Q r H ∧ (∀ P : Value → Shared → Prop, P (.bool r) s → wpAny (model c.prog c.w) A (compareOp .In va vb) P E s) ∧ ∀ P : Value → Shared → Prop, P (.bool (!r)) s → wpAny (model c.prog c.w) A (compareOp .NotIn va vb) P E s := by
  have hu := hA.units
  unfold cmpIn at h
  split at h
  · rename_i x
    split at h
    · rename_i y
      cases h1 with
      | str _ u hy =>
      cases h2 with
      | str _ t hx =>
      exact ⟨_, h, fun P p => in_str (by rw [str_len]; exact p), fun P p => notIn_str (by rw [str_len]; exact p)⟩
    · exact h.elim
  · obtain ⟨d, ds, k1, k2, k3⟩ := h
    cases h2 with
    | tup ht hvs =>
      obtain ⟨⟨as, m1⟩, m2, m3⟩ := k1.reads S va h1
      obtain ⟨⟨bs, l1⟩, l2, l3⟩ := k2.reads S _ hvs
      have hc : A.units + d.depth < cLine := by simp only [cLine]; omega
      exact ⟨_, k3, fun P p => SeqAt.in_tuple_reads (.tuple ht rfl rfl (by simpa using l1)) m1 l2 m2 (by simp only [cLine]; omega) p, fun P p => SeqAt.notIn_tuple_reads (.tuple ht rfl rfl (by simpa using l1)) m1 l2 m2 (by simp only [cLine]; omega) p⟩
  · rename_i l
    split at h
    · rename_i x hl
      obtain ⟨d, ds, k1, k2, k3⟩ := h
      cases h2
      obtain ⟨vs, k, hl', hvs⟩ := S.hr.list _ _ hl
      obtain ⟨⟨as, m1⟩, m2, m3⟩ := k1.reads S va h1
      obtain ⟨⟨bs, l1⟩, l2, l3⟩ := k2.reads S _ hvs
      exact ⟨_, k3, fun P p => SeqAt.in_list_reads (.list hl' rfl rfl l1) m1 l2 m2 (by simp only [cLine]; omega) p, fun P p => SeqAt.notIn_list_reads (.list hl' rfl rfl l1) m1 l2 m2 (by simp only [cLine]; omega) p⟩
    · exact h.elim
  · exact h.elim
theorem cmpIs_elim {a b : PV} {Q : Bool → AH → Prop} {H : AH} (h : cmpIs a b Q H) : b = .none ∨ ∃ x y, a = .bool x ∧ b = .bool y ∧ Q (decide (x = y)) H := by
  unfold cmpIs at h
  split at h
  · exact .inl rfl
  · exact .inl rfl
  · exact .inr ⟨_, _, rfl, rfl, h⟩
  · exact h.elim
theorem op_cmp (op : CmpOp) : SoundOp2 c n (compareOp op) (fun a b Q H => cmpOp op a b (fun r H' => Q (.bool r) H') H) := by
  intro A H s va vb a b Q E hA h1 h2 S h
  have fin : ∀ r : Bool, Q (.bool r) H → Res c H s Q (.bool r) s := fun r q => res_pure S (.bool r) q
  cases op <;> simp only [cmpOp] at h
  case Eq =>
    obtain ⟨d, e, as, bs, k1, k2, k3, k4, k5, k6⟩ := cmpEq_reads hA h1 h2 S h
    exact SeqAt.compareEq_reads k1 k2 k3 k4 k5 (fin _ k6)
  case NotEq =>
    obtain ⟨d, e, as, bs, k1, k2, k3, k4, k5, k6⟩ := cmpEq_reads hA h1 h2 S h
    exact SeqAt.compareNe_reads k1 k2 k3 k4 k5 (fin _ k6)
  case Lt =>
    obtain ⟨x, y, rfl, rfl, h⟩ := cmpLt_elim h
    cases h1; cases h2
    exact lt_int (fin _ h)
  case LtE =>
    obtain ⟨x, y, rfl, rfl, h⟩ := cmpLt_elim h
    cases h1; cases h2
    exact le_int (fin _ h)
  case Gt =>
    obtain ⟨x, y, rfl, rfl, h⟩ := cmpLt_elim h
    cases h1; cases h2
    exact gt_int (fin _ h)
  case GtE =>
    obtain ⟨x, y, rfl, rfl, h⟩ := cmpLt_elim h
    cases h1; cases h2
    exact ge_int (fin _ h)
  case Is =>
    rcases cmpIs_elim h with rfl | ⟨x, y, rfl, rfl, q⟩
    · cases h2; cases h1 <;> exact is_none_gen (fin _ h)
    · cases h1; cases h2; exact is_bool (by rw [bd]; exact fin _ q)
  case IsNot =>
    rcases cmpIs_elim h with rfl | ⟨x, y, rfl, rfl, q⟩
    · cases h2; cases h1 <;> exact isnot_none_gen (fin _ h)
    · cases h1; cases h2; exact isnot_bool (by rw [bne, bd]; exact fin _ q)
  case In =>
    obtain ⟨r, q, k1, _⟩ := in_sound (E := E) hA h1 h2 S h
    exact k1 _ (fin _ q)
  case NotIn =>
    obtain ⟨r, q, _, k2⟩ := in_sound (E := E) hA h1 h2 S h
    exact k2 _ (fin _ q)

/-- what is behind «in» is no display of a set -/
def aCmp (op : CmpOp) (l r : AE) : AE := aBin (fun a b Q H => cmpOp op a b (fun r H' => Q (.bool r) H') H) l r
theorem sound_cmp {l r : Expr} {op : CmpOp} {pos : Pos} {al ar : AE} (hl : SoundE c n sc l al) (hr : SoundE c n sc r ar) (hm : behindInMarks op r = false) : SoundE c n sc (.Compare l [op] [r] pos) (aCmp op al ar) := by
  intro A env ρ H s Q E hA he R S h
  refine wpAny_Compare1 (seq2 (F := fun a b H2 => cmpOp op a b (fun r H' => Q (.bool r) H') H2) hl hr hA he R S h ?_) hm
  intro va vb a b H2 s2 h1 h2 R2 S2 e2 q2
  exact wpAny_mono (op_cmp op A H2 s2 va vb a b Q E hA h1 h2 S2 q2) (fun _ _ r => r.trans e2) fun _ _ x => x

-- truth
def truth (a : PV) (Q : Bool → AH → Prop) (H : AH) : Prop := match a with
  | .none => Q false H
  | .bool b => Q b H
  | .int i => Q (decide (i ≠ 0)) H
  | .str x => szOk x.length ∧ Q (!x.isEmpty) H
  | .ref a => (match H a with | some x => szOk x.items.length ∧ Q (!x.items.isEmpty) H | none => False)
  | .tup _ => False
  | .rng _ _ => False
theorem truth_sound {A : Around} {H : AH} {s : Shared} {v : Value} {a : PV} {Q : Bool → AH → Prop} {E : Value → Shared → Prop} (h1 : VRel s.heap v a) (S : St c.base H s) (h : truth a Q H) :
    wpAny (model c.prog c.w) A (truthy v) (ResB c H s Q) E s := by
  cases h1 with
  | none => exact fun _ _ _ => ⟨H, S, .refl, h⟩
  | bool b => exact wpAny_truthy_bool ⟨H, S, .refl, h⟩
  | int i t => exact PyProof.Rows.truthy_int (by rw [bne, bd, show (!decide (i = 0)) = decide (i ≠ 0) from by simp]; exact ⟨H, S, .refl, h⟩)
  | str x t hx =>
    refine PySem.P.truthy_str ?_ ⟨H, S.tok _, .tok _, ?_⟩
    · rw [str_len]; have := h.1; simp only [szOk] at this; omega
    · rw [str_len, show (((x.length : Nat) : Int) != 0) = !x.isEmpty from by cases x <;> simp [bne]; omega]; exact h.2
  | tup ht hv => exact h.elim
  | rng hr => exact h.elim
  | ref a =>
    simp only [truth] at h
    cases hl : H a with
    | none => rw [hl] at h; exact h.elim
    | some x =>
      rw [hl] at h
      obtain ⟨vs, k, hl', hvs⟩ := S.hr.list _ _ hl
      have := hvs.length
      refine wpAny_truthy_list hl'.isList ?_ ⟨H, S.tok _, .tok _, ?_⟩
      · have := h.1; simp only [szOk] at this; simp at *; omega
      · have e : vs.isEmpty = x.items.isEmpty := by
          have e2 : vs.size = x.items.length := by simpa using this
          cases hx : x.items with
          | nil => rw [hx] at e2; simpa using e2
          | cons a l => rw [hx] at e2; simp only [List.isEmpty_cons]; rw [Array.isEmpty_eq_false_iff_exists_mem]; exact ⟨vs[0]'(by simp at e2; omega), by simp⟩
        rw [e]; exact h.2

-- tests
def tVal (l : AE) : AT := fun Q ρ H => l (fun a H1 => truth a Q H1) ρ H
def tNot (l : AT) : AT := fun Q ρ H => l (fun b H1 => Q (!b) H1) ρ H
def tAnd (l r : AT) : AT := fun Q ρ H => l (fun b H1 => if b then r Q ρ H1 else Q false H1) ρ H
def tOr (l r : AT) : AT := fun Q ρ H => l (fun b H1 => if b then Q true H1 else r Q ρ H1) ρ H
def tTrue : AT := fun Q _ H => Q true H
def tFalse : AT := fun Q _ H => Q false H
def tCmp (op : CmpOp) (l r : AE) : AT := fun Q ρ H => l (fun a H1 => r (fun b H2 => cmpOp op a b Q H2) ρ H1) ρ H
def tCmp2 (op : CmpOp) (l : AE) (op' : CmpOp) (m r : AE) : AT := fun Q ρ H => l (fun a H1 => m (fun b H2 => cmpOp op a b (fun k H3 => if k then r (fun d H4 => cmpOp op' b d Q H4) ρ H3 else Q false H3) H2) ρ H1) ρ H

theorem test_val {e : Expr} {al : AE} (hl : SoundE c n sc e al) (hv : ∀ env whole, isTrue e env whole = (do let v ← whole; standAt e.pos; holding [v] (truthy v))) : SoundT c n sc e (tVal al) := by
  intro A env ρ H s Q E hA he R S h
  refine wpAny_isTrue_value (seq1 (F := fun a H1 => truth a Q H1) hl hA he R S h ?_) (hv env _)
  intro va a H1 s1 h1 R1 S1 e1 q1
  exact wpAny_mono (truth_sound h1 S1 q1) (fun _ _ r => r.trans e1) fun _ _ x => x
theorem test_not {e : Expr} {pos : Pos} {al : AT} (hl : SoundT c n sc e al) : SoundT c n sc (.UnaryOp .Not e pos) (tNot al) := by
  intro A env ρ H s Q E hA he R S h
  exact wpAny_isTrue_Not (hl A env ρ H s (fun b H1 => Q (!b) H1) E hA he R S h)
theorem bool_mono {A : Around} {H : AH} {s : Shared} {t : Sem Bool} {F : Bool → AH → Prop} {P : Bool → Shared → Prop} {E : Value → Shared → Prop} (h : wpAny (model c.prog c.w) A t (ResB c H s F) E s)
    (k : ∀ b H1 s1, St c.base H1 s1 → Ext No No H s H1 s1 → F b H1 → P b s1) : wpAny (model c.prog c.w) A t P E s :=
  wpAny_mono h (fun b s1 rr => rr.elim fun H1 S1 e1 q1 => k b H1 s1 S1 e1 q1) fun _ _ x => x
/-- a row of tests joined by and, or -/
def SoundAnd (c : Cx) (n : Nat) (sc : SE) (op : BoolOp) (es : List Expr) (a : AT) : Prop :=
  ∀ (A : Around) (env : Env) (ρ : AEnv) (H : AH) (s : Shared) (Q : Bool → AH → Prop) (E : Value → Shared → Prop), AOk n A → EOk sc env → ER c.base c.N env ρ s.heap → St c.base H s → a Q ρ H →
    wpAny (model c.prog c.w) A (allTrue op es env) (ResB c H s Q) E s
theorem and_nil : SoundAnd c n sc .And [] tTrue := fun _ _ _ H _ _ _ _ _ _ S h => wpAny_allTrue_And_nil ⟨H, S, .refl, h⟩
theorem or_nil : SoundAnd c n sc .Or [] tFalse := fun _ _ _ H _ _ _ _ _ _ S h => wpAny_allTrue_Or_nil ⟨H, S, .refl, h⟩
theorem and_cons {e : Expr} {es : List Expr} {a b : AT} (h1 : SoundT c n sc e a) (h2 : SoundAnd c n sc .And es b) : SoundAnd c n sc .And (e :: es) (tAnd a b) := by
  intro A env ρ H s Q E hA he R S h
  refine wpAny_allTrue_And_cons (bool_mono (h1 A env ρ H s _ E hA he R S h) fun k H1 s1 S1 e1 q1 => ?_)
  cases k with
  | true => exact wpAny_mono (h2 A env ρ H1 s1 Q E hA he (R.ext0 S e1) S1 (by simpa using q1)) (fun _ _ r => r.trans e1) fun _ _ x => x
  | false => exact ⟨H1, S1, e1, by simpa using q1⟩
theorem or_cons {e : Expr} {es : List Expr} {a b : AT} (h1 : SoundT c n sc e a) (h2 : SoundAnd c n sc .Or es b) : SoundAnd c n sc .Or (e :: es) (tOr a b) := by
  intro A env ρ H s Q E hA he R S h
  refine wpAny_allTrue_Or_cons (bool_mono (h1 A env ρ H s _ E hA he R S h) fun k H1 s1 S1 e1 q1 => ?_)
  cases k with
  | false => exact wpAny_mono (h2 A env ρ H1 s1 Q E hA he (R.ext0 S e1) S1 (by simpa using q1)) (fun _ _ r => r.trans e1) fun _ _ x => x
  | true => exact ⟨H1, S1, e1, by simpa using q1⟩
theorem test_bool {op : BoolOp} {es : List Expr} {pos : Pos} {a : AT} (h : SoundAnd c n sc op es a) : SoundT c n sc (.BoolOp op es pos) a :=
  fun A env ρ H s Q E hA he R S q => wpAny_isTrue_BoolOp (h A env ρ H s Q E hA he R S q)
theorem cmpEq_mono {a b : PV} {F G : Bool → AH → Prop} {H : AH} (hFG : ∀ k H, F k H → G k H) (hF : cmpEq a b F H) : cmpEq a b G H := by
  unfold cmpEq at *
  split <;> simp_all only []
  obtain ⟨d, e, x1, x2, x3⟩ := hF; exact ⟨d, e, x1, x2, hFG _ _ x3⟩
theorem cmpIn_mono {a b : PV} {F G : Bool → AH → Prop} {H : AH} (hFG : ∀ k H, F k H → G k H) (hF : cmpIn a b F H) : cmpIn a b G H := by
  unfold cmpIn at *
  split <;> simp_all only []
  · split <;> simp_all only []
  · obtain ⟨d, e, x1, x2, x3⟩ := hF; exact ⟨d, e, x1, x2, hFG _ _ x3⟩
  · split <;> simp_all only []
    obtain ⟨d, e, x1, x2, x3⟩ := hF; exact ⟨d, e, x1, x2, hFG _ _ x3⟩
theorem cmpIs_mono {a b : PV} {F G : Bool → AH → Prop} {H : AH} (hFG : ∀ k H, F k H → G k H) (hF : cmpIs a b F H) : cmpIs a b G H := by
  unfold cmpIs at *
  split <;> simp_all only []
theorem cmpLt_mono {f : Int → Int → Bool} {a b : PV} {F G : Bool → AH → Prop} {H : AH} (hFG : ∀ k H, F k H → G k H) (hF : cmpLt f a b F H) : cmpLt f a b G H := by
  unfold cmpLt at *
  split <;> simp_all only []
theorem cmpOp_mono {op : CmpOp} {a b : PV} {F G : Bool → AH → Prop} {H : AH} (hFG : ∀ k H, F k H → G k H) (hF : cmpOp op a b F H) : cmpOp op a b G H := by
  cases op <;> simp only [cmpOp] at hF ⊢
  · exact cmpEq_mono hFG hF
  · exact cmpEq_mono (fun k H q => hFG _ _ q) hF
  · exact cmpLt_mono hFG hF
  · exact cmpLt_mono hFG hF
  · exact cmpLt_mono hFG hF
  · exact cmpLt_mono hFG hF
  · exact cmpIs_mono hFG hF
  · exact cmpIs_mono (fun k H q => hFG _ _ q) hF
  · exact cmpIn_mono hFG hF
  · exact cmpIn_mono (fun k H q => hFG _ _ q) hF
theorem cmp_bool {A : Around} {op : CmpOp} {H : AH} {s : Shared} {va vb : Value} {a b : PV} {Q : Bool → AH → Prop} {E : Value → Shared → Prop} {P : Value → Shared → Prop} (hA : AOk n A) (h1 : VRel s.heap va a) (h2 : VRel s.heap vb b) (S : St c.base H s) (h : cmpOp op a b Q H)
    (k : ∀ r H' s', St c.base H' s' → Ext No No H s H' s' → Q r H' → P (.bool r) s') : wpAny (model c.prog c.w) A (compareOp op va vb) P E s := by
  refine wpAny_mono (op_cmp op A H s va vb a b (fun p H' => ∃ k, p = .bool k ∧ Q k H') E hA h1 h2 S (cmpOp_mono (fun k H q => ⟨k, rfl, q⟩) h)) (fun v s3 ⟨p, H3, k1, S3, e3, r, hr, k4⟩ => ?_) fun _ _ x => x
  subst hr; cases k1
  exact k r H3 s3 S3 e3 k4
theorem test_cmp {l r : Expr} {op : CmpOp} {pos : Pos} {al ar : AE} (hl : SoundE c n sc l al) (hr : SoundE c n sc r ar) (hm : behindInMarks op r = false) : SoundT c n sc (.Compare l [op] [r] pos) (tCmp op al ar) := by
  intro A env ρ H s Q E hA he R S h
  refine wpAny_isTrue_Compare1 (seq2 (F := fun a b H2 => cmpOp op a b Q H2) hl hr hA he R S h ?_) hm
  intro va vb a b H2 s2 h1 h2 R2 S2 e2 q2
  exact cmp_bool hA h1 h2 S2 q2 fun r H3 s3 S3 e3 q3 => wpAny_truthy_bool ⟨H3, S3, e2.trans e3, q3⟩
-- values by tests
def aNot (l : AE) : AE := fun Q ρ H => l (fun a H1 => truth a (fun b H2 => Q (.bool (!b)) H2) H1) ρ H
theorem sound_not {e : Expr} {pos : Pos} {al : AE} (hl : SoundE c n sc e al) : SoundE c n sc (.UnaryOp .Not e pos) (aNot al) := by
  intro A env ρ H s Q E hA he R S h
  refine wpAny_UnaryOp (seq1 (F := fun a H1 => truth a (fun b H2 => Q (.bool (!b)) H2) H1) hl hA he R S h ?_)
  intro va a H1 s1 h1 R1 S1 e1 q1
  exact not_value (bool_mono (truth_sound h1 S1 q1) fun b H2 s2 S2 e2 q2 => ⟨_, H2, .bool _, S2, e1.trans e2, q2⟩)
def aIf (t : AT) (l r : AE) : AE := fun Q ρ H => t (fun b H1 => if b then l Q ρ H1 else r Q ρ H1) ρ H
theorem sound_if {e l r : Expr} {pos : Pos} {t : AT} {al ar : AE} (ht : SoundT c n sc e t) (hl : SoundE c n sc l al) (hr : SoundE c n sc r ar) : SoundE c n sc (.IfExp e l r pos) (aIf t al ar) := by
  intro A env ρ H s Q E hA he R S h
  refine wpAny_IfExp (bool_mono (ht A env ρ H s _ E hA he R S h) fun b H1 s1 S1 e1 q1 => ?_)
  cases b with
  | true => exact wpAny_mono (hl A env ρ H1 s1 Q E hA he (R.ext0 S e1) S1 (by simpa using q1)) (fun _ _ r => r.trans e1) fun _ _ x => x
  | false => exact wpAny_mono (hr A env ρ H1 s1 Q E hA he (R.ext0 S e1) S1 (by simpa using q1)) (fun _ _ r => r.trans e1) fun _ _ x => x
/-- and, or as values -/
def aAnd (l r : AE) : AE := fun Q ρ H => l (fun a H1 => truth a (fun b H2 => if b then r Q ρ H2 else Q a H2) H1) ρ H
def aOr (l r : AE) : AE := fun Q ρ H => l (fun a H1 => truth a (fun b H2 => if b then Q a H2 else r Q ρ H2) H1) ρ H
def SoundBo (c : Cx) (n : Nat) (sc : SE) (op : BoolOp) (es : List Expr) (a : AE) : Prop :=
  ∀ (A : Around) (env : Env) (ρ : AEnv) (H : AH) (s : Shared) (Q : PV → AH → Prop) (E : Value → Shared → Prop) (pos : Pos), AOk n A → EOk sc env → ER c.base c.N env ρ s.heap → St c.base H s → a Q ρ H →
    wpAny (model c.prog c.w) A (boolOp pos op (evalEach es env)) (Res c H s Q) E s
-- rows of expressions, displays
def lNil : AL := fun Q _ H => Q [] H
def lCons (a : AE) (l : AL) : AL := fun Q ρ H => a (fun p H1 => l (fun ps H2 => Q (p :: ps) H2) ρ H1) ρ H
theorem list_nil : SoundL c n sc [] lNil := fun _ _ _ H _ _ _ _ _ _ _ S h => wpAny_items_nil ⟨[], H, .nil, S, .refl, h⟩
theorem list_cons {e : Expr} {es : List Expr} {a : AE} {l : AL} (h : SoundE c n sc e a) (k : SoundL c n sc es l) (hs : ∀ env, starEach (e :: es) env = (false, eval e env) :: starEach es env) : SoundL c n sc (e :: es) (lCons a l) := by
  intro A env ρ H s Q E pos hA he R S q
  refine wpAny_items_cons (seq1 (F := fun p H1 => l (fun ps H2 => Q (p :: ps) H2) ρ H1) h hA he R S q ?_) (hs env)
  intro va a H1 s1 h1 R1 S1 e1 q1
  exact wpAny_mono (k A env ρ H1 s1 _ E pos hA he R1 S1 q1) (fun vs s2 rr => rr.elim fun ps H2 h2 S2 e2 q2 => ⟨a :: ps, H2, .cons (h1.ext0 S1 e2) h2, S2, e1.trans e2, q2⟩) fun _ _ x => x
def aTup (l : AL) : AE := fun Q ρ H => l (fun ps H1 => szOk ps.length ∧ Q (.tup ps) H1) ρ H
def aList (l : AL) : AE := fun Q ρ H => l (fun ps H1 => szOk ps.length ∧ newL ps Q H1) ρ H
theorem sz_line {k : Nat} (h : szOk k) : k ≤ sizeLine := by rw [sizeLine_eq]; simpa [szOk] using h
theorem sound_tup {es : List Expr} {k : Nat} {pos : Pos} {l : AL} (h : SoundL c n sc es l) : SoundE c n sc (.Tuple es k pos) (aTup l) := by
  intro A env ρ H s Q E hA he R S q
  exact wpAny_Tuple (wpAny_mono (h A env ρ H s _ E pos hA he R S q) (fun vs s1 rr => rr.elim fun ps H1 h1 S1 e1 q1 => ⟨by rw [h1.length]; exact sz_line q1.1, (res_tuple S1 h1 q1.2).trans e1⟩) fun _ _ x => x)
theorem sound_list {es : List Expr} {pos : Pos} {l : AL} (h : SoundL c n sc es l) : SoundE c n sc (.List es pos) (aList l) := by
  intro A env ρ H s Q E hA he R S q
  exact wpAny_List (wpAny_mono (h A env ρ H s _ E pos hA he R S q) (fun vs s1 rr => rr.elim fun ps H1 h1 S1 e1 q1 => ⟨by rw [h1.length]; exact sz_line q1.1, (res_list S1 (by simpa using h1) q1.2).trans e1⟩) fun _ _ x => x)
end
end Mine
open PySem PySem.W PyProof.Rows
set_option Elab.async false
set_option linter.unusedVariables false
namespace Mine

theorem imm_data {h : Heap} {a : Addr} {o : Obj} (x : Imm h a o) : (∃ vs n, o.data = .seq vs n) ∨ ∃ vs, o.data = .fields vs := x.2.imp (fun q => q.2) fun q => q.2

section
variable {c : Cx} {n : Nat} {sc : SE}

theorem imm_upd {h h' : Heap} {a : Addr} (hs : Heap.SameBut a h h') (hd : ∀ o, h.get? a = some o → (∃ es ep, o.data = .dict es ep) ∨ ∃ v, o.data = .cell v) : ∀ b o, Imm h b o → h'.get? b = some o := by
  intro b o hb
  have : b ≠ a := by
    rintro rfl
    rcases hd o hb.1 with ⟨es, ep, e1⟩ | ⟨v, e1⟩ <;> rcases imm_data hb with ⟨vs, k, e2⟩ | ⟨vs, e2⟩ <;> rw [e1] at e2 <;> cases e2
  exact (hs.2 b this).trans hb.1
theorem vrel_upd {h h' : Heap} {a : Addr} (hs : Heap.SameBut a h h') (hd : ∀ o, h.get? a = some o → (∃ es ep, o.data = .dict es ep) ∨ ∃ v, o.data = .cell v) {v : Value} {p : PV} (hv : VRel h v p) : VRel h' v p := hv.mono (imm_upd hs hd)

theorem st_upd {base : Heap} {H : AH} {s : Shared} {h' : Heap} {a : Addr} {tk : Nat} (S : St base H s) (hs : Heap.SameBut a s.heap h') (hb : base.get? a = none) (hd : ∀ o, s.heap.get? a = some o → (∃ es ep, o.data = .dict es ep) ∨ ∃ v, o.data = .cell v) :
    St base H { s with heap := h', toks := tk } where
  hr := {
    keep := fun b o h => by
      have : b ≠ a := by rintro rfl; rw [hb] at h; cases h
      exact (hs.2 b this).trans (S.hr.keep b o h)
    list := fun b x h => by
      obtain ⟨vs, k, hl, hv⟩ := S.hr.list b x h
      have : b ≠ a := by
        rintro rfl
        rcases hd _ hl with ⟨es, ep, e⟩ | ⟨v, e⟩ <;> cases e
      exact ⟨vs, k, (hs.2 b this).trans hl, hv.mono (imm_upd hs hd)⟩
    new := S.hr.new }
  bare := S.bare
theorem ext_upd {X Y : Nat → Prop} {H : AH} {s : Shared} {h' : Heap} {a : Addr} {tk : Nat} (hs : Heap.SameBut a s.heap h') (hX : X a) : Ext X Y H s H { s with heap := h', toks := tk } :=
  ⟨fun b o h hx _ => (hs.2 b (fun e => hx (e ▸ hX))).trans h, Nat.le_of_eq hs.1.symm, fun _ x h => .inl ⟨x, h, rfl⟩, fun _ _ h _ => h, Nat.le_refl _, rfl⟩

theorem ns_dict {h : Heap} {a : Addr} {m : Str → Option Value} (hn : h.Ns a m) : ∀ o, h.get? a = some o → (∃ es ep, o.data = .dict es ep) ∨ ∃ v, o.data = .cell v := by
  intro o ho
  obtain ⟨o', es, ep, ho', hd, _⟩ := hn
  rw [ho] at ho'; cases ho'; exact .inl ⟨es, ep, hd⟩
theorem cell_dict {h : Heap} {a : Addr} {w : Option Value} (hn : h.IsCell a w) : ∀ o, h.get? a = some o → (∃ es ep, o.data = .dict es ep) ∨ ∃ v, o.data = .cell v := by
  intro o ho
  obtain ⟨o', ho', hd⟩ := hn
  rw [ho] at ho'; cases ho'; exact .inr ⟨w, hd⟩
theorem ns_ne_cell {h : Heap} {a b : Addr} {m : Str → Option Value} {v : Option Value} (hn : h.Ns a m) (hc : h.IsCell b v) : b ≠ a := by
  rintro rfl
  obtain ⟨o, ho, hd⟩ := hc
  obtain ⟨o', es, ep, ho', hd', _⟩ := hn
  rw [ho] at ho'; cases ho'; rw [hd] at hd'; cases hd'

theorem store_var {A : Around} {env : Env} {ρ : AEnv} {H : AH} {s : Shared} {Q : Unit → Shared → Prop} {E : Value → Shared → Prop} {x : Str} {k : Nat} {v : Value} {p : PV} (he : EOk sc env) (R : ER c.base c.N env ρ s.heap) (S : St c.base H s) (hx : c.N[k]? = some x)
    (hk : sc.names.lookup x = some .local ∨ (sc.names.lookup x = some .cell ∧ x ∉ sc.caps)) (hv : VRel s.heap v p)
    (h : ∀ s', ER c.base c.N env (upd ρ k p) s'.heap → St c.base H s' → Ext (Own env) No H s H s' → Q () s') : wpAny (model c.prog c.w) A (storeName env x v) Q E s := by
  obtain ⟨m, hm, hmk⟩ := R.names
  have inj : ∀ j y, j ≠ k → c.N[j]? = some y → y ≠ x := by
    rintro j y hj hy rfl
    exact hj ((List.getElem?_inj (List.getElem?_eq_some_iff.mp hy).1 c.nodup).mp (hy.trans hx.symm))
  rcases hk with hk | ⟨hk, hcap⟩
  · have hkl : env.kindOf x = some .local := by rw [he.kindOf]; exact hk
    refine wpAny_storeName_local hkl hm (fun h' hn hs => ?_) (by rw [he.skind]; rfl)
    have hd := ns_dict hm
    have hC : ∀ cc w, s.heap.IsCell cc w → h'.IsCell cc w := fun cc w hc => hc.sameBut hs (ns_ne_cell hm hc)
    refine h _ ⟨⟨_, hn, fun j q hj => ?_⟩, fun y cc hy => let ⟨w, hw⟩ := R.cells y cc hy; ⟨w, hC cc w hw⟩, R.apart, R.new, R.cnew⟩ (st_upd S hs R.new hd) (ext_upd hs (.inl rfl))
    by_cases e : j = k
    · subst e
      rw [upd_same] at hj; cases hj
      exact ⟨x, v, hx, vrel_upd hs hd hv, .inl ⟨hkl, by simp⟩⟩
    · rw [upd_other _ _ e] at hj
      obtain ⟨y, w, h1, h2, h3⟩ := hmk j q hj
      refine ⟨y, w, h1, vrel_upd hs hd h2, ?_⟩
      rcases h3 with ⟨k1, k2⟩ | ⟨k1, cc, k2, k3⟩
      · exact .inl ⟨k1, by simp [inj j y e h1, k2]⟩
      · exact .inr ⟨k1, cc, k2, hC cc _ k3⟩
  · have hkl : env.kindOf x = some .cell := by rw [he.kindOf]; exact hk
    obtain ⟨cc, hcc, hown⟩ := he.cells x hk
    obtain ⟨w0, hw0⟩ := R.cells x cc hcc
    refine wpAny_storeName_cell he.skind hkl hcc hw0 (fun h' hc' hs => ?_)
    have hd := cell_dict hw0
    have hnL : h'.Ns env.locals m := hm.sameBut hs (Ne.symm (ns_ne_cell hm hw0))
    have other : ∀ y c2 w, env.cells.lookup y = some c2 → y ≠ x → s.heap.IsCell c2 w → h'.IsCell c2 w := by
      intro y c2 w hy hne hw
      refine hw.sameBut hs ?_
      rintro rfl
      exact hne (name_of_addr R.apart (mem_of_lookup hy) (mem_of_lookup hcc))
    refine h { s with heap := h' } ⟨⟨_, hnL, fun j q hj => ?_⟩, fun y c2 hy => ?_, R.apart, R.new, R.cnew⟩ (st_upd (tk := s.toks) S hs (R.cnew x cc hcc) hd) (ext_upd (tk := s.toks) hs (.inr ⟨hown hcap, x, hcc⟩))
    · by_cases e : j = k
      · subst e
        rw [upd_same] at hj; cases hj
        exact ⟨x, v, hx, vrel_upd hs hd hv, .inr ⟨.inl hkl, cc, hcc, hc'⟩⟩
      · rw [upd_other _ _ e] at hj
        obtain ⟨y, w, h1, h2, h3⟩ := hmk j q hj
        refine ⟨y, w, h1, vrel_upd hs hd h2, ?_⟩
        rcases h3 with ⟨k1, k2⟩ | ⟨k1, c2, k2, k3⟩
        · exact .inl ⟨k1, k2⟩
        · exact .inr ⟨k1, c2, k2, other y c2 _ k2 (inj j y e h1) k3⟩
    · by_cases e : y = x
      · subst e; rw [hcc] at hy; cases hy; exact ⟨_, hc'⟩
      · obtain ⟨w, hw⟩ := R.cells y c2 hy
        exact ⟨w, other y c2 w hy e hw⟩

theorem own_no_imm {env : Env} {ρ : AEnv} {h : Heap} (R : ER c.base c.N env ρ h) : ∀ a o, Imm h a o → ¬ Own env a := by
  rintro a o hi (rfl | ⟨_, x, hx⟩)
  · obtain ⟨m, hm, _⟩ := R.names
    rcases ns_dict hm o hi.1 with ⟨es, ep, e1⟩ | ⟨v, e1⟩ <;> rcases imm_data hi with ⟨vs, k, e2⟩ | ⟨vs, e2⟩ <;> rw [e1] at e2 <;> cases e2
  · obtain ⟨w, hw⟩ := R.cells x a hx
    rcases cell_dict hw o hi.1 with ⟨es, ep, e1⟩ | ⟨v, e1⟩ <;> rcases imm_data hi with ⟨vs, k, e2⟩ | ⟨vs, e2⟩ <;> rw [e1] at e2 <;> cases e2

-- targets
abbrev ATg := PV → (AEnv → AH → Prop) → AEnv → AH → Prop
def SoundA (c : Cx) (n : Nat) (sc : SE) (t : Expr) (f : ATg) : Prop :=
  ∀ (A : Around) (env : Env) (ρ : AEnv) (H : AH) (s : Shared) (v : Value) (p : PV) (Q : AEnv → AH → Prop) (P : Unit → Shared → Prop) (E : Value → Shared → Prop), AOk n A → EOk sc env → ER c.base c.N env ρ s.heap → St c.base H s → VRel s.heap v p → f p Q ρ H →
    (∀ ρ' H' s', ER c.base c.N env ρ' s'.heap → St c.base H' s' → Ext (Own env) No H s H' s' → Q ρ' H' → P () s') → wpAny (model c.prog c.w) A (assign t env v) P E s
def gName (k : Nat) : ATg := fun p Q ρ H => Q (upd ρ k p) H
theorem tgt_name {x : Str} {pos : Pos} {k : Nat} (hx : c.N[k]? = some x) (hk : sc.names.lookup x = some .local ∨ (sc.names.lookup x = some .cell ∧ x ∉ sc.caps)) : SoundA c n sc (.Name x pos) (gName k) := by
  intro A env ρ H s v p Q P E hA he R S hv q h
  exact wpAny_assign_Name (store_var he R S hx hk hv fun s' R' S' e' => h _ _ s' R' S' e' q)

-- blocks
def sNil : AS := fun Q ρ H => Q .next ρ H
def sCons (a b : AS) : AS := fun Q ρ H => a (fun fl ρ1 H1 => match fl with | .next => b Q ρ1 H1 | fl => Q fl ρ1 H1) ρ H
theorem ResS.trans {env : Env} {H H' : AH} {s s' : Shared} {Q : Fl → AEnv → AH → Prop} {f : Flow} {s'' : Shared} (e : Ext (Own env) No H s H' s') (r : ResS c env H' s' Q f s'') : ResS c env H s Q f s'' :=
  let ⟨fl, ρ', H'', h1, h2, h3, h4, h5⟩ := r; ⟨fl, ρ', H'', h1, h2, h3, e.trans h4, h5⟩
theorem block_nil : SoundB c n sc [] sNil := fun _ _ ρ H _ _ _ _ _ R S q => wpAny_execs_nil ⟨.next, ρ, H, .next, R, S, .refl, q⟩
theorem block_cons {st : Stmt} {sts : List Stmt} {a b : AS} (h : SoundS c n sc st a) (k : SoundB c n sc sts b) : SoundB c n sc (st :: sts) (sCons a b) := by
  intro A env ρ H s Q E hA he R S q
  refine wpAny_execs_cons (wpAny_mono (h A env ρ H s _ E hA he R S q) (fun f s1 rr => rr.elim fun fl ρ1 H1 hf R1 S1 e1 q1 => ?_) fun _ _ x => x)
  cases hf with
  | next => exact wpAny_mono (k A env ρ1 H1 s1 Q E hA he R1 S1 q1) (fun _ _ r => r.trans e1) fun _ _ x => x
  | brk => exact ⟨_, ρ1, H1, .brk, R1, S1, e1, q1⟩
  | cont => exact ⟨_, ρ1, H1, .cont, R1, S1, e1, q1⟩
  | ret hv => exact ⟨_, ρ1, H1, .ret hv, R1, S1, e1, q1⟩

def sAssign (g : ATg) (a : AE) : AS := fun Q ρ H => a (fun p H1 => g p (fun ρ' H2 => Q .next ρ' H2) ρ H1) ρ H
theorem stmt_assign {tg : Expr} {pos : Pos} {v : Expr} {a : AE} {g : ATg} (ha : SoundE c n sc v a) (hg : SoundA c n sc tg g) (hs : ∀ env, EOk sc env → swapsWithSole [tg] v pos.line env = pure false)
    (hw : ∀ env, EOk sc env → swappedStores [tg] v env = pure none) (ht : ∀ env, assignEach [tg] env = [(false, assign tg env)]) : SoundS c n sc (.Assign [tg] v pos) (sAssign g a) := by
  intro A env ρ H s Q E hA he R S q
  show wpAny _ _ (do
    standAt pos
    if ← swapsWithSole [tg] v pos.line env then do
      evalThenUse v env fun v => assignAll v ((assignEach [tg] env).map (·.2))
      pure .next
    else do
      let v' ← eval v env
      assignStores env v' (← swappedStores [tg] v env) ((assignEach [tg] env).map (·.2))) _ _ _
  rw [hs env he, hw env he, ht env]
  refine wpAny_bind (wpAny_standAt (wpAny_bind (wpAny_pure ?_)))
  simp only [Bool.false_eq_true, if_false]
  refine wpAny_bind (seq1 (F := fun p H1 => g p (fun ρ' H2 => Q .next ρ' H2) ρ H1) ha hA he R S q ?_)
  intro va a H1 s1 h1 R1 S1 e1 q1
  refine wpAny_bind (wpAny_pure ?_)
  show wpAny _ _ (assign tg env va >>= fun _ => pure Flow.next) _ _ _
  exact wpAny_bind (hg A env ρ H1 s1 va a (fun ρ' H2 => Q .next ρ' H2) _ E hA he R1 S1 h1 q1 (fun ρ' H' s' R' S' e' q' => wpAny_pure ⟨.next, ρ', H', .next, R', S', e1.of_no.trans e', q'⟩))

def sRet (a : AE) : AS := fun Q ρ H => a (fun p H1 => Q (.ret p) ρ H1) ρ H
theorem stmt_ret {e : Expr} {pos : Pos} {a : AE} (ha : SoundE c n sc e a) : SoundS c n sc (.Return (some e) pos) (sRet a) := by
  intro A env ρ H s Q E hA he R S q
  exact wpAny_Return_some (seq1 (F := fun p H1 => Q (.ret p) ρ H1) ha hA he R S q fun va a H1 s1 h1 R1 S1 e1 q1 => ⟨.ret a, ρ, H1, .ret h1, R1, S1, e1.of_no, q1⟩)
def sRet0 : AS := fun Q ρ H => Q (.ret .none) ρ H
def sCont : AS := fun Q ρ H => Q .cont ρ H
def sIf (t : AT) (a b : AS) : AS := fun Q ρ H => t (fun k H1 => if k then a Q ρ H1 else b Q ρ H1) ρ H
theorem stmt_if {e : Expr} {body orelse : List Stmt} {pos : Pos} {t : AT} {a b : AS} (ht : SoundT c n sc e t) (ha : SoundB c n sc body a) (hb : SoundB c n sc orelse b) : SoundS c n sc (.If e body orelse pos) (sIf t a b) := by
  intro A env ρ H s Q E hA he R S q
  refine wpAny_If (bool_mono (ht A env ρ H s _ E hA he R S q) fun k H1 s1 S1 e1 q1 => ?_)
  cases k with
  | true => exact wpAny_mono (ha A env ρ H1 s1 Q E hA he (R.ext0 S e1) S1 (by simpa using q1)) (fun _ _ r => r.trans e1.of_no) fun _ _ x => x
  | false => exact wpAny_mono (hb A env ρ H1 s1 Q E hA he (R.ext0 S e1) S1 (by simpa using q1)) (fun _ _ r => r.trans e1.of_no) fun _ _ x => x
def sExpr (a : AE) : AS := fun Q ρ H => a (fun _ H1 => Q .next ρ H1) ρ H
theorem stmt_expr {e : Expr} {pos : Pos} {a : AE} (ha : SoundE c n sc e a) (hi : ∀ env, EOk sc env → interactive env = false) (hs : ∀ env, swapsWith e none pos.line env = pure false) : SoundS c n sc (.Expr e pos) (sExpr a) := by
  intro A env ρ H s Q E hA he R S q
  rw [exec_Expr (hi := hi env he) (hs := hs env)]
  refine wpAny_bind (wpAny_standAt (wpAny_bind (seq1 (F := fun p H1 => Q .next ρ H1) ha hA he R S q ?_)))
  intro va a H1 s1 h1 R1 S1 e1 q1
  have r : ResS c env H s Q .next s1 := ⟨.next, ρ, H1, .next, R1, S1, e1.of_no, q1⟩
  unfold dropValue
  split
  · exact wpAny_pure r
  · exact wpAny_bind (wpAny_standAt (wpAny_bind (wpAny_runValue (codeAny_builtin entry_let_go (show wpAny _ _ (ret .none) _ _ s1 from wpAny_pure (wpAny_pure r))))))
  · exact wpAny_pure r
end
end Mine
open PySem PySem.W PyProof.Rows
set_option Elab.async false
set_option linter.unusedVariables false
namespace Mine

section
variable {base : Heap} {H : AH} {s : Shared}
/-- an object that only an iterator of ours knows -/
structure Priv (base : Heap) (h : Heap) (I : Addr) : Prop where
  new : base.get? I = none
  there : ∃ o, h.get? I = some o ∧ o.cls ≠ .type "list" ∧ o.cls ≠ .type "tuple" ∧ o.cls ≠ .type "range"
theorem st_priv {h' : Heap} {tk : Nat} {I : Addr} (S : St base H s) (p : Priv base s.heap I) (hk : ∀ b o, b ≠ I → s.heap.get? b = some o → h'.get? b = some o) : St base H { s with heap := h', toks := tk } := by
  obtain ⟨o, ho, c1, c2, c3⟩ := p.there
  refine S.of_keep (X := fun b => b = I) (fun b o' hb h => hk b o' hb h) (fun b hb => hb ▸ p.new) (fun b hb vs n hl => ?_) (fun b hb o' hi => ?_)
  · subst hb; rw [show s.heap.get? b = _ from hl] at ho; cases ho; exact c1 rfl
  · subst hb; rw [hi.1] at ho; cases ho; rcases hi.2 with q | q; exact c2 q.1; exact c3 q.1
theorem vrel_priv {h h' : Heap} {I : Addr} (p : Priv base h I) (hk : ∀ b o, b ≠ I → h.get? b = some o → h'.get? b = some o) : ∀ b o, Imm h b o → h'.get? b = some o := by
  intro b o hi
  refine hk b o ?_ hi.1
  rintro rfl
  obtain ⟨o', ho, c1, c2, c3⟩ := p.there
  rw [hi.1] at ho; cases ho; rcases hi.2 with q | q; exact c2 q.1; exact c3 q.1
theorem ext_priv {Y : Nat → Prop} {h' : Heap} {tk : Nat} {I : Addr} (hk : ∀ b o, b ≠ I → s.heap.get? b = some o → h'.get? b = some o) (hz : s.heap.objs.size ≤ h'.objs.size) : Ext (fun b => b = I) Y H s H { s with heap := h', toks := tk } :=
  Ext.of_keep (fun b o hb h => hk b o hb h) hz
theorem Priv.ext {X Y : Nat → Prop} {I : Addr} {H' : AH} {s' : Shared} (p : Priv base s.heap I) (S : St base H s) (e : Ext X Y H s H' s') (hx : ¬ X I) : Priv base s'.heap I :=
  let ⟨o, ho, c1, c2⟩ := p.there; ⟨p.new, o, S.stay e ho hx c1, c1, c2⟩
end

/-- an iterator: what is left of it, by J -/
structure Iter (c : Cx) (n : Nat) (I : Addr) (P PG : Nat → Prop) (G : AH → Prop) (J : List PV → AH → Shared → Prop) : Prop where
  item : ∀ (A : Around) (p : PV) (rest : List PV) (H : AH) (s : Shared) (E : Value → Shared → Prop) (Q : Option Value → Shared → Prop), AOk n A → J (p :: rest) H s → St c.base H s →
    (∀ v s', VRel s'.heap v p → St c.base H s' → Ext P PG H s H s' → J rest H s' → (∀ b o, Imm s.heap b o → s'.heap.get? b = some o) → Q (some v) s') → wpAny (model c.prog c.w) A (pyNext (.ref I)) Q E s
  done : ∀ (A : Around) (H : AH) (s : Shared) (E : Value → Shared → Prop) (Q : Option Value → Shared → Prop), AOk n A → J [] H s → St c.base H s →
    (∀ s', St c.base H s' → Ext P PG H s H s' → (∀ b o, Imm s.heap b o → s'.heap.get? b = some o) → Q none s') → wpAny (model c.prog c.w) A (pyNext (.ref I)) Q E s
  frame : ∀ (X : Nat → Prop) (l : List PV) (H : AH) (s : Shared) (H' : AH) (s' : Shared), J l H s → St c.base H s → Ext X No H s H' s' → St c.base H' s' → (∀ a, X a → ¬ P a) → (∀ a o, Imm s.heap a o → ¬ X a) → G H' → J l H' s'
  owned : ∀ (A : Around) (l : List PV) (H : AH) (s : Shared) (E : Value → Shared → Prop) (Q : Unit → Shared → Prop) (elts : List Expr) (k : Nat) (pos : Pos) (v : Value), J l H s → Q () s → wpAny (model c.prog c.w) A (letOwnedTupleGo (.Tuple elts k pos) (.ref I) v) Q E s
  self : ∀ (A : Around) (l : List PV) (H : AH) (s : Shared) (E : Value → Shared → Prop) (Q : Value → Shared → Prop), J l H s → Q (.ref I) s → wpAny (model c.prog c.w) A (pyIter (.ref I)) Q E s

/-- the same, within one place of the run -/
structure IterA (c : Cx) (A : Around) (I : Addr) (P PG : Nat → Prop) (G : AH → Prop) (J : List PV → AH → Shared → Prop) : Prop where
  item : ∀ (p : PV) (rest : List PV) (H : AH) (s : Shared) (E : Value → Shared → Prop) (Q : Option Value → Shared → Prop), J (p :: rest) H s → St c.base H s →
    (∀ v s', VRel s'.heap v p → St c.base H s' → Ext P PG H s H s' → J rest H s' → (∀ b o, Imm s.heap b o → s'.heap.get? b = some o) → Q (some v) s') → wpAny (model c.prog c.w) A (pyNext (.ref I)) Q E s
  done : ∀ (H : AH) (s : Shared) (E : Value → Shared → Prop) (Q : Option Value → Shared → Prop), J [] H s → St c.base H s →
    (∀ s', St c.base H s' → Ext P PG H s H s' → (∀ b o, Imm s.heap b o → s'.heap.get? b = some o) → Q none s') → wpAny (model c.prog c.w) A (pyNext (.ref I)) Q E s
  frame : ∀ (X : Nat → Prop) (l : List PV) (H : AH) (s : Shared) (H' : AH) (s' : Shared), J l H s → St c.base H s → Ext X No H s H' s' → St c.base H' s' → (∀ a, X a → ¬ P a) → (∀ a o, Imm s.heap a o → ¬ X a) → G H' → J l H' s'
  owned : ∀ (l : List PV) (H : AH) (s : Shared) (E : Value → Shared → Prop) (Q : Unit → Shared → Prop) (elts : List Expr) (k : Nat) (pos : Pos) (v : Value), J l H s → Q () s → wpAny (model c.prog c.w) A (letOwnedTupleGo (.Tuple elts k pos) (.ref I) v) Q E s
theorem Iter.at {c : Cx} {n : Nat} {A : Around} {I : Addr} {P PG : Nat → Prop} {G : AH → Prop} {J : List PV → AH → Shared → Prop} (it : Iter c n I P PG G J) (hA : AOk n A) : IterA c A I P PG G J :=
  ⟨fun p rest H s E Q => it.item A p rest H s E Q hA, fun H s E Q => it.done A H s E Q hA, it.frame, it.owned A⟩

theorem owned_other {prog : Program} {w : World} {A : Around} {s : Shared} {E : Value → Shared → Prop} {Q : Unit → Shared → Prop} {elts : List Expr} {k : Nat} {pos : Pos} {I : Addr} {v : Value} {o : Obj} {T : String} (ho : s.heap.get? I = some o) (hc : o.cls = .type T)
    (hT : ["enumerate", "zip", "dict_itemiterator", "dict_reverseitemiterator", "odict_iterator", "itertools.zip_longest", "itertools.pairwise"].contains T = false) (h : Q () s) : wpAny (model prog w) A (letOwnedTupleGo (.Tuple elts k pos) (.ref I) v) Q E s := by
  unfold letOwnedTupleGo
  cases v with
  | ref a =>
    refine wpAny_bind (wpAny_load ho ?_)
    rw [hc]
    cases hd : o.data with
    | fields vs => simp only [hT, Bool.false_and, Bool.false_eq_true, if_false]; exact wpAny_pure h
    | _ => exact wpAny_pure h
  | _ => exact wpAny_pure h

section
variable {c : Cx} {n : Nat}

theorem iter_list {I a : Addr} {x : LO} : Iter c n I (fun b => b = I) No (fun H' => H' a = some x)
    (fun l H s => ∃ i, s.heap.IsListIter I a i ∧ H a = some x ∧ l = x.items.drop i ∧ Priv c.base s.heap I) where
  item A p rest H s E Q hA hj S h := by
    obtain ⟨i, hi, ha, hl, hp⟩ := hj
    obtain ⟨vs, k, hL, hv⟩ := S.hr.list a x ha
    have hx : x.items[i]? = some p := by
      have := congrArg (fun l => l[0]?) hl
      simpa using this.symm
    obtain ⟨v, hv1, hv2⟩ := hv.get hx
    refine wpAny_pyNext_list_item hi hL.isList (by simpa using hv1) fun h' hi' hs => ?_
    have hk : ∀ b o, b ≠ I → s.heap.get? b = some o → h'.get? b = some o := fun b o hb e => (hs.2 b hb).trans e
    refine h v { s with heap := h' } (hv2.mono (vrel_priv hp hk)) (st_priv (tk := s.toks) S hp hk) (ext_priv (tk := s.toks) hk (Nat.le_of_eq hs.1.symm)) ⟨i + 1, hi', ha, ?_, hp.new, ?_⟩ (vrel_priv hp hk)
    · have := congrArg (fun l => l.drop 1) hl
      simpa [Nat.add_comm] using this
    · obtain ⟨o, ho, hc, _⟩ := hi'
      exact ⟨o, ho, by rw [hc]; simp, by rw [hc]; simp, by rw [hc]; simp⟩
  done A H s E Q hA hj S h := by
    obtain ⟨i, hi, ha, hl, hp⟩ := hj
    obtain ⟨vs, k, hL, hv⟩ := S.hr.list a x ha
    have hx : x.items.length ≤ i := by
      have := congrArg List.length hl
      simp at this; omega
    have hlen := hv.length
    refine wpAny_grow (wpAny_pyNext_list_end hA.handled hi hL.isList ?_ fun h' he hg => ?_)
    · simp at hlen; simp; omega
    · have hk : ∀ b o, b ≠ I → s.heap.get? b = some o → h'.get? b = some o := fun b o hb e => he b o hb e
      exact h { s with heap := h' } (st_priv (tk := s.toks) S hp hk) (ext_priv (tk := s.toks) hk hg.1) (vrel_priv hp hk)
  frame X l H s H' s' hj S e S' hX hI hG := by
    obtain ⟨i, hi, ha, hl, hp⟩ := hj
    have hx : ¬ X I := fun q => hX I q rfl
    obtain ⟨o, ho, hc, r⟩ := hi
    exact ⟨i, ⟨o, S.stay e ho hx (by rw [hc]; simp), hc, r⟩, hG, hl, hp.ext S e hx⟩
  owned A l H s E Q elts k pos v hj h := by
    obtain ⟨i, ⟨o, ho, hc, _⟩, _⟩ := hj
    exact owned_other ho hc (by decide) h
  self A l H s E Q hj h := by
    obtain ⟨i, hi, _⟩ := hj
    exact wpAny_pyIter_listiter hi h

theorem iter_tuple {I a : Addr} {vs : List Value} {ps : List PV} : Iter c n I (fun b => b = I) No (fun _ => True)
    (fun l H s => ∃ i k, s.heap.IsTupleIter I a i ∧ IsT s.heap a vs.toArray k ∧ VAll s.heap vs ps ∧ l = ps.drop i ∧ Priv c.base s.heap I) where
  item A p rest H s E Q hA hj S h := by
    obtain ⟨i, k, hi, hT, hv, hl, hp⟩ := hj
    have hx : ps[i]? = some p := by
      have := congrArg (fun l => l[0]?) hl
      simpa using this.symm
    obtain ⟨v, hv1, hv2⟩ := hv.get hx
    have hne : a ≠ I := by
      rintro rfl
      obtain ⟨o, ho, _, c2, _⟩ := hp.there
      rw [show s.heap.get? a = _ from hT] at ho; cases ho; exact c2 rfl
    refine wpAny_pyNext_tuple_item hi ⟨_, hT, rfl, _, rfl⟩ (by simpa using hv1) fun h' hi' hs => ?_
    have hk : ∀ b o, b ≠ I → s.heap.get? b = some o → h'.get? b = some o := fun b o hb e => (hs.2 b hb).trans e
    refine h v { s with heap := h' } (hv2.mono (vrel_priv hp hk)) (st_priv (tk := s.toks) S hp hk) (ext_priv (tk := s.toks) hk (Nat.le_of_eq hs.1.symm)) ⟨i + 1, k, hi', hk a _ hne hT, hv.mono (vrel_priv hp hk), ?_, hp.new, ?_⟩ (vrel_priv hp hk)
    · have := congrArg (fun l => l.drop 1) hl
      simpa [Nat.add_comm] using this
    · obtain ⟨o, ho, hc, _⟩ := hi'
      exact ⟨o, ho, by rw [hc]; simp, by rw [hc]; simp, by rw [hc]; simp⟩
  done A H s E Q hA hj S h := by
    obtain ⟨i, k, hi, hT, hv, hl, hp⟩ := hj
    have hx : ps.length ≤ i := by
      have := congrArg List.length hl
      simp at this; omega
    have hlen := hv.length
    refine wpAny_grow (wpAny_pyNext_tuple_end hA.handled hi ⟨_, hT, rfl, _, rfl⟩ ?_ fun h' he hg => ?_)
    · simp; omega
    · have hk : ∀ b o, b ≠ I → s.heap.get? b = some o → h'.get? b = some o := fun b o hb e => he b o hb e
      exact h { s with heap := h' } (st_priv (tk := s.toks) S hp hk) (ext_priv (tk := s.toks) hk hg.1) (vrel_priv hp hk)
  frame X l H s H' s' hj S e S' hX hI hG := by
    obtain ⟨i, k, hi, hT, hv, hl, hp⟩ := hj
    have hx : ¬ X I := fun q => hX I q rfl
    obtain ⟨o, ho, hc, r⟩ := hi
    have hi' : Imm s.heap a _ := ⟨hT, .inl ⟨rfl, _, _, rfl⟩⟩
    exact ⟨i, k, ⟨o, S.stay e ho hx (by rw [hc]; simp), hc, r⟩, S.stayI e hi' (hI a _ hi'), hv.ext S e hI, hl, hp.ext S e hx⟩
  owned A l H s E Q elts k pos v hj h := by
    obtain ⟨i, _, ⟨o, ho, hc, _⟩, _⟩ := hj
    exact owned_other ho hc (by decide) h
  self A l H s E Q hj h := by
    obtain ⟨i, _, hi, _⟩ := hj
    exact wpAny_pyIter_tupleiter hi h

def rngItems (lo hi : Int) : List PV := (List.range (hi - lo).toNat).map fun (i : Nat) => .int (lo + (i : Int))
theorem rng_drop (lo hi : Int) (k : Nat) : (rngItems lo hi).drop k = rngItems (lo + k) hi := by
  apply List.ext_getElem
  · simp [rngItems]; omega
  · intro j h1 h2
    simp [rngItems]; omega
theorem rng_cons {lo hi : Int} (h : lo < hi) : rngItems lo hi = .int lo :: rngItems (lo + 1) hi := by
  have h1 : (rngItems lo hi)[0]? = some (.int lo) := by
    have : 0 < (hi - lo).toNat := by omega
    simp [rngItems, this]
  have h2 := rng_drop lo hi 1
  cases hr : rngItems lo hi with
  | nil => rw [hr] at h1; simp at h1
  | cons a l =>
    rw [hr] at h1 h2
    simp at h1 h2
    rw [h1, h2]
theorem rng_nil {lo hi : Int} (h : hi ≤ lo) : rngItems lo hi = [] := by
  have : (hi - lo).toNat = 0 := by omega
  simp [rngItems, this]

theorem iter_range {I : Addr} {hi : Int} : Iter c n I (fun b => b = I) No (fun _ => True)
    (fun l H s => ∃ x : Int, IsRangeIter s.heap I x (if x ≤ hi then hi - x else 0) 1 ∧ l = rngItems x hi ∧ Priv c.base s.heap I) where
  item A p rest H s E Q hA hj S h := by
    obtain ⟨x, hi', hl, hp⟩ := hj
    have hlt : x < hi := by
      by_cases q : x < hi
      · exact q
      · rw [rng_nil (by omega)] at hl; cases hl
    rw [rng_cons hlt] at hl
    cases hl
    refine wpAny_pyNext_range_item hi' (by split <;> omega) fun h' hi2 hs => ?_
    have hk : ∀ b o, b ≠ I → s.heap.get? b = some o → h'.get? b = some o := fun b o hb e => (hs.2 b hb).trans e
    refine h (.int x s.toks) { s with heap := h', toks := s.toks + 1 } (.int x _) (st_priv S hp hk) (ext_priv hk (Nat.le_of_eq hs.1.symm)) ⟨x + 1, ?_, rfl, hp.new, ⟨_, hi2, by simp, by simp, by simp⟩⟩ (vrel_priv hp hk)
    have e : (if x + 1 ≤ hi then hi - (x + 1) else 0) = (if x ≤ hi then hi - x else 0) - 1 := by split <;> split <;> omega
    rw [e]; exact hi2
  done A H s E Q hA hj S h := by
    obtain ⟨x, hi', hl, hp⟩ := hj
    have hge : ¬ x < hi := by
      intro q; rw [rng_cons q] at hl; cases hl
    refine wpAny_grow (wpAny_pyNext_range_end hA.handled hi' (by split <;> omega) fun h' he hg => ?_)
    have hk : ∀ b o, b ≠ I → s.heap.get? b = some o → h'.get? b = some o := fun b o hb e => he b o hb e
    exact h { s with heap := h' } (st_priv (tk := s.toks) S hp hk) (ext_priv (tk := s.toks) hk hg.1) (vrel_priv hp hk)
  frame X l H s H' s' hj S e S' hX hI hG := by
    obtain ⟨x, hi', hl, hp⟩ := hj
    have hx : ¬ X I := fun q => hX I q rfl
    exact ⟨x, S.stay e hi' hx (by simp), hl, hp.ext S e hx⟩
  owned A l H s E Q elts k pos v hj h := by
    obtain ⟨x, hi', _⟩ := hj
    exact owned_other hi' rfl (by decide) h
  self A l H s E Q hj h := by
    obtain ⟨x, hi', _⟩ := hj
    exact wpAny_pyIter_rangeiter hi' h

/-- a text's signs -/
def signs (x : List Nat) : List PV := x.map fun ch => .str [ch]
theorem iter_str {I : Addr} {x : List Nat} {t : Tok} {ty : String} (hty : ty = (if (x.all fun ch => ch < 128) = true then "str_ascii_iterator" else "str_iterator")) (hx : ∀ ch ∈ x, ch < 0x110000) : Iter c n I (fun b => b = I) No (fun _ => True)
    (fun l H s => ∃ i, s.heap.IsStrIter I ty ⟨x.toArray⟩ t i ∧ l = signs (x.drop i) ∧ Priv c.base s.heap I) where
  item A p rest H s E Q hA hj S h := by
    obtain ⟨i, hi, hl, hp⟩ := hj
    have hlt : i < x.length := by
      by_cases q : i < x.length
      · exact q
      · rw [List.drop_eq_nil_of_le (by omega)] at hl; cases hl
    rw [List.drop_eq_getElem_cons hlt] at hl
    cases hl
    have fin : ∀ h' : Heap, h'.IsStrIter I ty ⟨x.toArray⟩ t (i + 1) → Heap.SameBut I s.heap h' → Q (some (.str ⟨#[x[i]]⟩ s.toks)) { s with heap := h', toks := s.toks + 1 } := by
      intro h' hi2 hs
      have hk : ∀ b o, b ≠ I → s.heap.get? b = some o → h'.get? b = some o := fun b o hb e => (hs.2 b hb).trans e
      refine h (.str ⟨#[x[i]]⟩ s.toks) { s with heap := h', toks := s.toks + 1 } (.str [x[i]] _ (by simpa using hx _ (List.getElem_mem hlt))) (st_priv S hp hk) (ext_priv hk (Nat.le_of_eq hs.1.symm)) ⟨i + 1, hi2, rfl, hp.new, ?_⟩ (vrel_priv hp hk)
      obtain ⟨o, ho, hc, _⟩ := hi2
      refine ⟨o, ho, ?_⟩
      rw [hc, hty]; split <;> simp
    by_cases ha : (x.all fun ch => ch < 128) = true
    · rw [if_pos ha] at hty; subst hty
      exact wpAny_pyNext_ascii_item hi (by simp [hlt]) fin
    · rw [if_neg ha] at hty; subst hty
      exact wpAny_pyNext_wide_item hi (by simp [hlt]) fin
  done A H s E Q hA hj S h := by
    obtain ⟨i, hi, hl, hp⟩ := hj
    have hge : x.length ≤ i := by
      by_cases q : i < x.length
      · rw [List.drop_eq_getElem_cons q] at hl; cases hl
      · omega
    refine wpAny_grow ?_
    have fin : ∀ h' : Heap, Heap.ExtBut I s.heap h' → Grown s { s with heap := h' } → Q none { s with heap := h' } := by
      intro h' he hg
      have hk : ∀ b o, b ≠ I → s.heap.get? b = some o → h'.get? b = some o := fun b o hb e => he b o hb e
      exact h { s with heap := h' } (st_priv (tk := s.toks) S hp hk) (ext_priv (tk := s.toks) hk hg.1) (vrel_priv hp hk)
    by_cases ha : (x.all fun ch => ch < 128) = true
    · rw [if_pos ha] at hty; subst hty
      exact wpAny_pyNext_ascii_end hA.handled hi (by simp; omega) fin
    · rw [if_neg ha] at hty; subst hty
      exact wpAny_pyNext_wide_end hA.handled hi (by simp; omega) fin
  frame X l H s H' s' hj S e S' hX hI hG := by
    obtain ⟨i, hi, hl, hp⟩ := hj
    have hx : ¬ X I := fun q => hX I q rfl
    obtain ⟨o, ho, hc, r⟩ := hi
    exact ⟨i, ⟨o, S.stay e ho hx (by rw [hc, hty]; split <;> simp), hc, r⟩, hl, hp.ext S e hx⟩
  owned A l H s E Q elts k pos v hj h := by
    obtain ⟨i, ⟨o, ho, hc, _⟩, _⟩ := hj
    exact owned_other ho hc (by rw [hty]; split <;> decide) h
  self A l H s E Q hj h := by
    obtain ⟨i, hi, _⟩ := hj
    by_cases ha : (x.all fun ch => ch < 128) = true
    · rw [if_pos ha] at hty; subst hty
      exact wpAny_pyIter_striter_ascii hi h
    · rw [if_neg ha] at hty; subst hty
      exact wpAny_pyIter_striter_wide hi h

/-- what is walked over -/
def withItems (p : PV) (k : List PV → (AH → Prop) → AH → Prop) (H : AH) : Prop := match p with
  | .ref a => (match H a with | some x => k x.items (fun H' => H' a = some x) H | none => False)
  | .tup ps => k ps (fun _ => True) H
  | .str x => k (signs x) (fun _ => True) H
  | .rng lo hi => ((-1000000000 ≤ lo ∧ lo ≤ 1000000000) ∧ -1000000000 ≤ hi ∧ hi ≤ 1000000000) ∧ k (rngItems lo hi) (fun _ => True) H
  | _ => False

theorem iter_sound {A : Around} {H : AH} {s : Shared} {v : Value} {p : PV} {k : List PV → (AH → Prop) → AH → Prop} {E : Value → Shared → Prop} {Q : Value → Shared → Prop} (hv : VRel s.heap v p) (S : St c.base H s) (h : withItems p k H)
    (fin : ∀ I items P G J s', Iter c n I P No G J → J items H s' → St c.base H s' → Ext No No H s H s' → (∀ a, P a → s.heap.objs.size ≤ a ∧ a < s'.heap.objs.size) → G H → k items G H → Q (.ref I) s') : wpAny (model c.prog c.w) A (pyIter v) Q E s := by
  have newI : ∀ (o : Obj) b, b = s.heap.objs.size → s.heap.objs.size ≤ b ∧ b < (s.heap.push o).objs.size := fun o b e => ⟨Nat.le_of_eq e.symm, by rw [e, Heap.size_push]; exact Nat.lt_succ_self _⟩
  have priv : ∀ o : Obj, o.isFreed = false → o.cls ≠ .type "list" → o.cls ≠ .type "tuple" → o.cls ≠ .type "range" → Priv c.base (s.heap.push o) s.heap.objs.size := fun o hf c1 c2 c3 => ⟨S.bsize (Nat.le_refl _), o, Heap.get?_push_size _ hf, c1, c2, c3⟩
  cases hv with
  | ref a =>
    simp only [withItems] at h
    cases ha : H a with
    | none => rw [ha] at h; exact h.elim
    | some x =>
      rw [ha] at h
      obtain ⟨vs, j, hL, hv⟩ := S.hr.list a x ha
      exact wpAny_pyIter_list hL.isList (fin _ x.items _ _ _ _ (iter_list (a := a) (x := x)) ⟨0, ⟨_, Heap.get?_push_size _ rfl, rfl, rfl⟩, ha, by simp, priv _ rfl (by simp) (by simp) (by simp)⟩ (S.push _) (Ext.push _) (newI _) ha h)
  | tup hT hvs =>
    exact wpAny_pyIter_tuple ⟨_, hT, rfl, _, rfl⟩ (fin _ _ _ _ _ _ iter_tuple ⟨0, _, ⟨_, Heap.get?_push_size _ rfl, rfl, rfl⟩, Heap.get?_push_of_some _ hT, hvs.mono fun b o hi => Heap.get?_push_of_some _ hi.1, by simp, priv _ rfl (by simp) (by simp) (by simp)⟩ (S.push _) (Ext.push _) (newI _) trivial h)
  | str x t hx =>
    by_cases ha : (x.all fun ch => ch < 128) = true
    · exact wpAny_pyIter_ascii (by simpa using ha) (fin _ _ _ _ _ _ (iter_str (ty := "str_ascii_iterator") (t := t) (by rw [if_pos ha]) hx) ⟨0, ⟨_, Heap.get?_push_size _ rfl, rfl, rfl⟩, rfl, priv _ rfl (by simp) (by simp) (by simp)⟩ (S.push _) (Ext.push _) (newI _) trivial h)
    · exact wpAny_pyIter_wide (by simpa using ha) (fin _ _ _ _ _ _ (iter_str (ty := "str_iterator") (t := t) (by rw [if_neg ha]) hx) ⟨0, ⟨_, Heap.get?_push_size _ rfl, rfl, rfl⟩, rfl, priv _ rfl (by simp) (by simp) (by simp)⟩ (S.push _) (Ext.push _) (newI _) trivial h)
  | rng hr =>
    rename_i a lo hi t u v
    obtain ⟨⟨⟨b1, b2⟩, b3, b4⟩, h⟩ := h
    have esz : Builtin.Range.rangeSize lo hi 1 = if lo ≤ hi then hi - lo else 0 := by
      unfold Builtin.Range.rangeSize
      rw [if_pos (by decide)]
      split <;> split <;> omega
    refine wpAny_pyIter_range hr ?_ (fin _ _ _ _ _ _ (iter_range (hi := hi)) ⟨lo, ?_, rfl, priv _ rfl (by simp) (by simp) (by simp)⟩ (S.push _) (Ext.push _) (newI _) trivial h)
    · unfold Builtin.Range.small
      rw [esz]
      have hsz : 0 ≤ (if lo ≤ hi then hi - lo else 0) ∧ (if lo ≤ hi then hi - lo else 0) ≤ 2000000000 := by split <;> omega
      generalize (if lo ≤ hi then hi - lo else 0) = z at hsz
      simp only [Builtin.Range.rangeFitsLong]
      simp only [Bool.and_eq_true, Bool.or_eq_true, decide_eq_true_eq]
      refine ⟨⟨⟨⟨⟨by omega, by omega⟩, by omega, by omega⟩, by decide⟩, by omega, by omega⟩, .inr ?_⟩
      rw [if_pos (by decide)]
      simp only [Bool.and_eq_true, decide_eq_true_eq]; omega
    · rw [← esz]; exact Heap.get?_push_size _ rfl
  | _ => exact h.elim

-- for
def forL (g : ATg) (body : AS) (G : AH → Prop) (Q : Fl → AEnv → AH → Prop) : List PV → AEnv → AH → Prop
  | [], ρ, H => Q .next ρ H
  | p :: ps, ρ, H => g p (fun ρ1 H1 => body (fun fl ρ2 H2 => match fl with
      | .next => G H2 ∧ forL g body G Q ps ρ2 H2
      | .cont => G H2 ∧ forL g body G Q ps ρ2 H2
      | .brk => Q .next ρ2 H2
      | .ret v => Q (.ret v) ρ2 H2) ρ1 H1) ρ H
def sFor (g : ATg) (src : AE) (body : AS) : AS := fun Q ρ H => src (fun p H1 => withItems p (fun items G H2 => forL g body G Q items ρ H2) H1) ρ H

variable {sc : SE}
theorem own_lt {env : Env} {ρ : AEnv} {h : Heap} (R : ER c.base c.N env ρ h) {a : Nat} (ha : Own env a) : a < h.objs.size := by
  rcases ha with rfl | ⟨_, x, hx⟩
  · obtain ⟨m, hm, _⟩ := R.names; exact hm.lt
  · obtain ⟨w, hw⟩ := R.cells x a hx; exact hw.lt
theorem owned_any {I : Addr} {P PG : Nat → Prop} {G : AH → Prop} {J : List PV → AH → Shared → Prop} (it : Iter c n I P PG G J) {A : Around} {l : List PV} {H : AH} {s : Shared} {E : Value → Shared → Prop} {Q : Unit → Shared → Prop} {tg : Expr} {v : Value} (hj : J l H s)
    (ht : (∃ elts k pos, tg = .Tuple elts k pos) ∨ ∀ it v, letOwnedTupleGo tg it v = pure ()) (h : Q () s) : wpAny (model c.prog c.w) A (letOwnedTupleGo tg (.ref I) v) Q E s := by
  rcases ht with ⟨elts, k, pos, rfl⟩ | ht
  · exact it.owned A l H s E Q elts k pos v hj h
  · rw [ht]; exact wpAny_pure h

theorem owned_anyA {I : Addr} {P PG : Nat → Prop} {G : AH → Prop} {J : List PV → AH → Shared → Prop} {A : Around} (it : IterA c A I P PG G J) {l : List PV} {H : AH} {s : Shared} {E : Value → Shared → Prop} {Q : Unit → Shared → Prop} {tg : Expr} {v : Value} (hj : J l H s)
    (ht : (∃ elts k pos, tg = .Tuple elts k pos) ∨ ∀ it v, letOwnedTupleGo tg it v = pure ()) (h : Q () s) : wpAny (model c.prog c.w) A (letOwnedTupleGo tg (.ref I) v) Q E s := by
  rcases ht with ⟨elts, k, pos, rfl⟩ | ht
  · exact it.owned l H s E Q elts k pos v hj h
  · rw [ht]; exact wpAny_pure h

theorem for_loop {A : Around} {env : Env} {ρ₀ : AEnv} {H₀ : AH} {s₀ s : Shared} {I : Addr} {P PG : Nat → Prop} {G : AH → Prop} {J : List PV → AH → Shared → Prop} {tg : Expr} {body : List Stmt} {g : ATg} {b : AS} {Q : Fl → AEnv → AH → Prop} {R' : Result → Shared → Prop} {items : List PV} {H : AH} {ρ : AEnv}
    (it : IterA c A I P PG G J) (hg : SoundA c n sc tg g) (hb : SoundB c n sc body b) (hA : AOk n A) (he : EOk sc env) (ht : (∃ elts k pos, tg = .Tuple elts k pos) ∨ ∀ it v, letOwnedTupleGo tg it v = pure ())
    (R₀ : ER c.base c.N env ρ₀ s₀.heap) (hP : ∀ a, P a → s₀.heap.objs.size ≤ a) (hPG : ∀ i, PG i → s₀.gens.size ≤ i)
    (hj : J items H s) (R : ER c.base c.N env ρ s.heap) (S : St c.base H s) (e : Ext (Own env) No H₀ s₀ H s) (q : forL g b G Q items ρ H)
    (hR : ∀ f s', ResS c env H₀ s₀ Q f s' → R' (.ok f) s') : codeAny (model c.prog c.w) A (.forLoop tg (.ref I) body [] env) R' s := by
  have ownP : ∀ a, Own env a → ¬ P a := fun a ha hp => Nat.lt_irrefl _ (Nat.lt_of_lt_of_le (own_lt R₀ ha) (hP a hp))
  refine codeAny_forLoop_any (fun k s => ∃ items H ρ, k = items.length ∧ J items H s ∧ ER c.base c.N env ρ s.heap ∧ St c.base H s ∧ Ext (Own env) No H₀ s₀ H s ∧ forL g b G Q items ρ H) ?_ _ ⟨items, H, ρ, rfl, hj, R, S, e, q⟩
  rintro k s ⟨items, H, ρ, rfl, hj, R, S, e, q⟩
  have noP : ∀ s' : Shared, Ext P PG H s H s' → Ext (Own env) No H₀ s₀ H s' := fun s' e' => e.then_new e' (fun a ha => .inr (hP a ha)) (fun i hi => .inr (hPG i hi))
  have keepR : ∀ s' : Shared, Ext P PG H s H s' → (∀ b o, Imm s.heap b o → s'.heap.get? b = some o) → ER c.base c.N env ρ s'.heap := fun s' e' hi => by
    exact R.ext' S e' hi (fun hp => ownP _ (.inl rfl) hp) (fun x cc hx hp => let ⟨w, hw⟩ := R₀.cells x cc hx; Nat.lt_irrefl _ (Nat.lt_of_lt_of_le hw.lt (hP cc hp)))
  cases items with
  | nil =>
    refine it.done H s _ _ hj S fun s' S' e' hi => ?_
    exact wpAny_execs_nil (hR _ _ ⟨.next, ρ, H, .next, keepR s' e' hi, S', noP s' e', q⟩)
  | cons p ps =>
    refine it.item p ps H s _ _ hj S fun v s' hv S' e' hj' hi => ?_
    refine owned_anyA it hj' ht ?_
    have R' := keepR s' e' hi
    refine hg A env ρ H s' v p _ _ _ hA he R' S' hv q fun ρ1 H1 s1 R1 S1 e1 q1 => ?_
    refine wpAny_mono (hb A env ρ1 H1 s1 _ _ hA he R1 S1 q1) (fun f s2 rr => rr.elim fun fl ρ2 H2 hf R2 S2 e2 q2 => ?_) fun _ _ x => x
    have e02 := ((noP s' e').trans e1).trans e2
    have again : G H2 ∧ forL g b G Q ps ρ2 H2 → ∃ m, m < (p :: ps).length ∧ ∃ items H ρ, m = items.length ∧ J items H s2 ∧ ER c.base c.N env ρ s2.heap ∧ St c.base H s2 ∧ Ext (Own env) No H₀ s₀ H s2 ∧ forL g b G Q items ρ H := fun hq =>
      ⟨ps.length, by simp, ps, H2, ρ2, rfl, it.frame (Own env) ps H s' H2 s2 hj' S' (e1.trans e2) S2 ownP (own_no_imm R') hq.1, R2, S2, e02, hq.2⟩
    cases hf with
    | next => exact again q2
    | cont => exact again q2
    | brk => exact hR _ _ ⟨.next, ρ2, H2, .next, R2, S2, e02, q2⟩
    | ret hv => exact hR _ _ ⟨.ret _, ρ2, H2, .ret hv, R2, S2, e02, q2⟩

theorem stmt_for {tg iter : Expr} {body : List Stmt} {pos : Pos} {g : ATg} {src : AE} {b : AS} (hs : SoundE c n sc iter src) (hg : SoundA c n sc tg g) (hb : SoundB c n sc body b) (hf : ∀ env x, foldedSetIterable iter env x = pure x)
    (ht : (∃ elts k pos, tg = .Tuple elts k pos) ∨ ∀ it v, letOwnedTupleGo tg it v = pure ()) : SoundS c n sc (.For tg iter body [] pos) (sFor g src b) := by
  intro A env ρ H s Q E hA he R S q
  refine wpAny_For (seq1 (F := fun p H1 => withItems p (fun items G H2 => forL g b G Q items ρ H2) H1) hs hA he R S q ?_) (hf env)
  intro va a H1 s1 h1 R1 S1 e1 q1
  refine iter_sound (n := n) h1 S1 q1 fun I items P G J s2 it hj S2 e2 hP hG q2 => ?_
  exact for_loop (it.at hA) hg hb hA he ht R1 (fun a h => (hP a h).1) (fun _ h => h.elim) hj (R1.ext0 S1 e2) S2 e2.of_no q2 fun f s' r => r.trans e1.of_no
end
end Mine
open PySem PySem.W PySem.Calls PyProof.Rows
set_option Elab.async false
set_option linter.unusedVariables false
namespace Mine
section
variable {c : Cx} {n : Nat} {sc : SE}

-- while
def whileN (t : AT) (b : AS) (Q : Fl → AEnv → AH → Prop) : Nat → AEnv → AH → Prop
  | 0, _, _ => False
  | k + 1, ρ, H => t (fun r H1 => if r then b (fun fl ρ2 H2 => match fl with
      | .next => whileN t b Q k ρ2 H2
      | .cont => whileN t b Q k ρ2 H2
      | .brk => Q .next ρ2 H2
      | .ret v => Q (.ret v) ρ2 H2) ρ H1 else Q .next ρ H1) ρ H
def sWhile (t : AT) (b : AS) : AS := fun Q ρ H => ∃ k, whileN t b Q k ρ H
-- the text's own functions
abbrev AF := List PV → (PV → AH → Prop) → AH → Prop
def SoundV (c : Cx) (n : Nat) (cv : Value) (f : AF) : Prop :=
  ∀ (A : Around) (H : AH) (s : Shared) (vs : List Value) (ps : List PV) (Q : PV → AH → Prop) (E : Value → Shared → Prop), AOk n A → VAll s.heap vs ps → St c.base H s → f ps Q H → wpAny (model c.prog c.w) A (call cv vs) (Res c H s Q) E s
def SoundF (c : Cx) (n : Nat) (name : Str) (f : AF) : Prop := ∃ a o fd, c.mg name = some (.ref a) ∧ c.base.get? a = some o ∧ o.data = .func fd ∧ SoundV c n (.ref a) f
def aCall (f : AF) (l : AL) : AE := fun Q ρ H => l (fun ps H1 => f ps Q H1) ρ H

theorem seqL {A : Around} {env : Env} {ρ : AEnv} {H : AH} {s : Shared} {E : Value → Shared → Prop} {es : List Expr} {al : AL} {pos : Pos} {P : List Value → Shared → Prop} {F : List PV → AH → Prop} (hl : SoundL c n sc es al) (hA : AOk n A) (he : EOk sc env) (R : ER c.base c.N env ρ s.heap) (S : St c.base H s)
    (h : al F ρ H) (k : ∀ vs ps H1 s1, VAll s1.heap vs ps → ER c.base c.N env ρ s1.heap → St c.base H1 s1 → Ext No No H s H1 s1 → F ps H1 → P vs s1) :
    wpAny (model c.prog c.w) A (spliced (backTo pos (starEach es env))) P E s :=
  wpAny_mono (hl A env ρ H s _ E pos hA he R S h) (fun va s1 rr => rr.elim fun a H1 h1 S1 e1 q1 => k va a H1 s1 h1 (R.ext0 S e1) S1 e1 q1) fun _ _ x => x

theorem sound_call {name : Str} {f : AF} {e : Expr} {es : List Expr} {l : AL} {p pos : Pos} {m : Nat} (hf : SoundF c m name f) (hl : SoundL c n sc (e :: es) l) (hk : sc.names.lookup name = some .globalImplicit) (hm : m ≤ n)
    (hd : (name == ("__debug__" : Str)) = false) (he' : ∀ env, starEach (e :: es) env = (false, eval e env) :: starEach es env) : SoundE c n sc (.Call (.Name name p) (e :: es) [] pos) (aCall f l) := by
  intro A env ρ H s Q E hA he R S q
  obtain ⟨a, o, fd, h1, h2, h3, h4⟩ := hf
  have T := c.top.keeps S.hr.keep
  refine Call_ (Name_function_global he.skind (by rw [he.kindOf]; exact hk) (loadGlobal_global (mg := c.mg) (by rw [he.globals]; exact T.g) h1 ?_) hd)
  refine callWith_def h3 (seqL (F := fun ps H1 => f ps Q H1) hl hA he R S q fun vs ps H1 s1 hv R1 S1 e1 q1 => ⟨S1.hr.keep a o h2, ?_⟩) (he' env)
  exact wpAny_mono (h4 A H1 s1 vs ps Q E (hA.of_le hm) hv S1 q1) (fun _ _ r => r.trans e1) fun _ _ x => x

-- built-in functions and types
def isCallee : Value → Bool
  | .builtin _ => true
  | .type _ => true
  | _ => false
theorem sound_bi {name : Str} {cv : Value} {f : AF} {e : Expr} {es : List Expr} {l : AL} {p pos : Pos} (hf : SoundV c n cv f) (hc : isCallee cv = true) (hm : c.mg name = none) (hb : bootBuiltins name = some cv) (hn : name ≠ ("__name__" : Str)) (hl : SoundL c n sc (e :: es) l) (hk : sc.names.lookup name = some .globalImplicit)
    (hd : (name == ("__debug__" : Str)) = false) (he' : ∀ env, starEach (e :: es) env = (false, eval e env) :: starEach es env) (hp : ∀ env, (backTo pos (starEach es env)).any (·.1) = false) : SoundE c n sc (.Call (.Name name p) (e :: es) [] pos) (aCall f l) := by
  intro A env ρ H s Q E hA he R S q
  have T := c.top.keeps S.hr.keep
  refine Call_ (Name_function_global he.skind (by rw [he.kindOf]; exact hk) (loadGlobal_builtin (mg := c.mg) (mb := c.mb) (by rw [he.globals]; exact T.g) hm (by rw [he.builtins]; exact T.b) ((T.builtins name hn).trans hb) ?_) hd)
  have args : wpAny (model c.prog c.w) A (spliced (backTo pos (starEach (e :: es) env))) (fun vs s1 => wpAny (model c.prog c.w) A (call cv vs) (Res c H s Q) E s1) E s :=
    seqL (F := fun ps H1 => f ps Q H1) hl hA he R S q fun vs ps H1 s1 hv R1 S1 e1 q1 => wpAny_mono (hf A H1 s1 vs ps Q E hA hv S1 q1) (fun _ _ r => r.trans e1) fun _ _ x => x
  cases cv with
  | builtin id => exact callWith_builtin1 args (he' env) (hp env)
  | type T =>
    rw [he' env] at args ⊢
    exact PySem.callWith_type (by show (false || (backTo pos (starEach es env)).any (·.1)) = false; rw [hp env]; rfl) (evalArgs_plain args)
  | _ => cases hc

-- entering
theorem bindL_other {kd : Str → Option NameKind} : ∀ (binds : List (Str × Value)) (m : Str → Option Value) (y : Str), (∀ v, (y, v) ∉ binds) → bindL kd binds m y = m y
  | [], _, _, _ => rfl
  | (x, v) :: r, m, y, h => by
    unfold bindL
    rw [bindL_other r _ y fun w hw => h w (.tail _ hw)]
    have : y ≠ x := by rintro rfl; exact h v (.head _)
    split <;> simp [this]
theorem bindC_other {kd : Str → Option NameKind} : ∀ (binds : List (Str × Value)) (m : Str → Option Value) (y : Str), (∀ v, (y, v) ∉ binds) → bindC kd binds m y = m y
  | [], _, _, _ => rfl
  | (x, v) :: r, m, y, h => by
    unfold bindC
    rw [bindC_other r _ y fun w hw => h w (.tail _ hw)]
    have : y ≠ x := by rintro rfl; exact h v (.head _)
    split <;> simp [this]
theorem nodup_head {x : Str} {v : Value} {r : List (Str × Value)} (h : (((x, v) :: r).map (·.1)).Nodup) : ∀ w, (x, w) ∉ r := by
  intro w hw
  simp at h
  exact h.1 _ hw
theorem bindL_at {kd : Str → Option NameKind} : ∀ (binds : List (Str × Value)) (m : Str → Option Value) {x : Str} {v : Value}, (binds.map (·.1)).Nodup → (x, v) ∈ binds → kd x = some .local → bindL kd binds m x = some v
  | (y, w) :: r, m, x, v, hn, hm, hk => by
    unfold bindL
    rcases List.mem_cons.mp hm with e | hm
    · cases e
      rw [bindL_other r _ _ (nodup_head hn), if_pos hk]; simp
    · exact bindL_at r _ (by simp at hn ⊢; exact hn.2) hm hk
theorem bindC_at {kd : Str → Option NameKind} : ∀ (binds : List (Str × Value)) (m : Str → Option Value) {x : Str} {v : Value}, (binds.map (·.1)).Nodup → (x, v) ∈ binds → kd x ≠ some .local → bindC kd binds m x = some v
  | (y, w) :: r, m, x, v, hn, hm, hk => by
    unfold bindC
    rcases List.mem_cons.mp hm with e | hm
    · cases e
      rw [bindC_other r _ _ (nodup_head hn), if_neg hk]; simp
    · exact bindC_at r _ (by simp at hn ⊢; exact hn.2) hm hk

def bindP : List Nat → List PV → AEnv
  | k :: ks, p :: ps => upd (bindP ks ps) k p
  | _, _ => fun _ => none
theorem bindP_at {N : List Str} {h : Heap} : ∀ (ks : List Nat) (xs : List Str) (vs : List Value) (ps : List PV), ks.map (N[·]?) = xs.map some → VAll h vs ps → ps.length = ks.length → ∀ k p, bindP ks ps k = some p → ∃ x v, N[k]? = some x ∧ (x, v) ∈ xs.zip vs ∧ VRel h v p
  | [], _, _, _, _, _, _, k, p, h => by simp [bindP] at h
  | k0 :: ks, [], _, _, hx, _, _, _, _, _ => by simp at hx
  | k0 :: ks, x :: xs, [], _, _, hv, hl, _, _, _ => by cases hv; simp at hl
  | k0 :: ks, x :: xs, v :: vs, _, hx, .cons hv hr, hl, k, p, hp => by
    simp only [bindP] at hp
    by_cases e : k = k0
    · subst e
      rw [upd_same] at hp; cases hp
      exact ⟨x, v, by simpa using (List.cons.inj hx).1, by simp, hv⟩
    · rw [upd_other _ _ e] at hp
      obtain ⟨y, w, h1, h2, h3⟩ := bindP_at ks xs vs _ (List.cons.inj hx).2 hr (by simpa using hl) k p hp
      exact ⟨y, w, h1, by simp [h2], h3⟩

/-- what a call of a def gives -/
def aFn (ks : List Nat) (b : AS) : AF := fun ps Q H => ps.length = ks.length ∧ b (fun fl _ H' => match fl with
  | .ret p => Q p H'
  | .next => Q .none H'
  | .brk => False
  | .cont => False) (bindP ks ps) H

theorem sound_fn {d : DefRec} {ks : List Nat} {xs : List Str} {b : AS} (hd : d ∈ recsOf c.q) (hb : SoundB c n ⟨d.scope, []⟩ d.body b) (hx : ks.map (c.N[·]?) = xs.map some) (hnd : xs.Nodup)
    (hbind : ∀ pm cd doc vs, vs.length = xs.length → bindArgs (Calls.docDef d.name d.params d.body d.scope pm cd doc) ⟨vs, []⟩ = pure (xs.zip vs))
    (hkind : ∀ x ∈ xs, d.scope.names.lookup x = some .local ∨ d.scope.names.lookup x = some .cell)
    (hco : d.scope.isCoroutine = false) (hgen : d.scope.isGenerator = false) (hk : d.scope.kind = .function) : SoundF c (n + 1) d.name (aFn ks b) := by
  obtain ⟨a, o, pm, cd, doc, h1, h2, h3, h4⟩ := c.top.fn d hd
  refine ⟨a, o, _, h1, h2, h3, ?_⟩
  intro A H s vs ps Q E hA hv S q
  obtain ⟨ql, q⟩ := q
  have hlen : ks.length = xs.length := by simpa using congrArg List.length hx
  have T := c.top.keeps S.hr.keep
  refine wpAny_call (codeAny_call_cells (by have := hA.depth; simp only [recursionLimit]; omega) (S.hr.keep a o h2) h3 T.nolimit (h4.keeps S.hr.keep) rfl (hbind pm cd doc vs (by rw [hv.length, ql, hlen])) rfl ?_ (fun s1 x => ?_) hco hgen hk)
  · intro y hy
    have hmem : y.1 ∈ xs := (List.of_mem_zip hy).1
    rcases hkind _ hmem with k | k
    · exact .inl k
    · exact .inr ⟨k, cellsFrom_some _ _ _ (.inl k)⟩
  · generalize henv : callEnvC (Calls.docDef d.name d.params d.body d.scope pm cd doc) s.heap.objs.size a = env at x ⊢
    have eL : env.locals = s.heap.objs.size := by rw [← henv]; rfl
    have eS : env.scope = d.scope := by rw [← henv]; rfl
    have eC : env.cells = cellsFrom (s.heap.objs.size + 1) d.scope.names [] := by rw [← henv]; rfl
    have he : EOk ⟨d.scope, []⟩ env := ⟨eS, hk, by rw [← henv]; rfl, by rw [← henv]; rfl, fun y hy => by
      obtain ⟨a', ha'⟩ := Option.isSome_iff_exists.mp (cellsFrom_some d.scope.names (s.heap.objs.size + 1) [] (.inl hy))
      exact ⟨a', by rw [eC]; exact ha', fun _ => x.above y a' (mem_of_lookup (by rw [eC]; exact ha'))⟩⟩
    obtain ⟨h', tk, rfl⟩ := x.toInCall.same
    have hgrow : s.heap.objs.size ≤ h'.objs.size := Nat.le_of_lt (Nat.lt_of_le_of_lt x.toInCall.fresh x.toInCall.ns.lt)
    have S1 : St c.base H { s with heap := h', toks := tk } := S.of_keep (X := No) (fun b o _ h => x.toInCall.keep b o h) (fun _ h => h.elim) (fun _ h => h.elim) (fun _ h => h.elim)
    have e1 : Ext No No H s H { s with heap := h', toks := tk } := Ext.of_keep (fun b o _ h => x.toInCall.keep b o h) hgrow
    have hv' : VAll h' vs ps := hv.mono fun b o h => x.toInCall.keep b o h.1
    have hz : (xs.zip vs).map (·.1) = xs := by
      rw [List.map_fst_zip]; rw [hv.length, ql, hlen]; exact Nat.le_refl _
    have R1 : ER c.base c.N env (bindP ks ps) h' := {
      names := ⟨_, x.toInCall.ns, fun k p hp => by
        obtain ⟨y, v, k1, k2, k3⟩ := bindP_at ks xs vs ps hx hv' ql k p hp
        refine ⟨y, v, k1, k3, ?_⟩
        have hkd := hkind y (List.of_mem_zip k2).1
        rcases hkd with kd | kd
        · have kd' : env.kindOf y = some .local := by rw [he.kindOf]; exact kd
          exact .inl ⟨kd', bindL_at _ _ (by rw [hz]; exact hnd) k2 kd'⟩
        · have kd' : env.kindOf y = some .cell := by rw [he.kindOf]; exact kd
          obtain ⟨cc, hcc, _⟩ := he.cells y kd
          refine .inr ⟨.inl kd', cc, hcc, ?_⟩
          have := x.cell y cc hcc
          rwa [bindC_at _ _ (by rw [hz]; exact hnd) k2 (by rw [kd']; simp)] at this⟩
      cells := fun y cc hy => ⟨_, x.cell y cc hy⟩
      apart := x.apart
      new := S.bsize x.toInCall.fresh
      cnew := fun y cc hy => S.bsize (Nat.le_of_lt (Nat.lt_of_le_of_lt x.toInCall.fresh (x.above y cc (mem_of_lookup hy)))) }
    refine wpAny_mono (hb _ env (bindP ks ps) H _ _ _ (hA.deeper env) he R1 S1 q) (fun f s' rr => rr.elim fun fl ρ' H' hf R' S' e' q' => ?_) fun _ _ x => x
    have own : ∀ b, Own env b → No b ∨ s.heap.objs.size ≤ b := by
      rintro b (rfl | ⟨_, y, hy⟩)
      · exact .inr x.toInCall.fresh
      · exact .inr (Nat.le_of_lt (Nat.lt_of_le_of_lt x.toInCall.fresh (x.above y b (mem_of_lookup hy))))
    have e2 := e1.then_new e' own (fun _ h => h.elim)
    cases hf with
    | next => exact ⟨.none, H', .none, S', e2, q'⟩
    | brk => exact q'.elim
    | cont => exact q'.elim
    | ret hv => exact ⟨_, H', hv, S', e2, q'⟩
end
end Mine
open PySem PySem.W PySem.Calls PyProof.Rows
set_option Elab.async false
set_option linter.unusedVariables false
namespace Mine
section
variable {c : Cx} {n : Nat} {sc : SE}

-- items
def nth {α : Type} (xs : List α) (k : Int) : Option α := if 0 ≤ k then xs[k.toNat]? else if -(xs.length : Int) ≤ k then xs[(k + xs.length).toNat]? else none
def kOk (k : Int) : Prop := -1000000000 ≤ k ∧ k ≤ 1000000000
theorem nth_seq {α : Type} {xs : List α} {k : Int} {x : α} (h : nth xs k = some x) : ∃ j, seqIndex? k xs.length = some j ∧ xs[j]? = some x := by
  unfold nth at h
  by_cases h0 : 0 ≤ k
  · rw [if_pos h0] at h
    have hl := (List.getElem?_eq_some_iff.mp h).1
    exact ⟨k.toNat, seqIndex_of h0 (by omega), h⟩
  · rw [if_neg h0] at h
    by_cases h1 : -(xs.length : Int) ≤ k
    · rw [if_pos h1] at h
      exact ⟨_, seqIndex_neg (by omega) h1, h⟩
    · rw [if_neg h1] at h; cases h
def opItem (o i : PV) (Q : PV → AH → Prop) (H : AH) : Prop := match o, i with
  | .ref a, .int k => (match H a with | some x => (match nth x.items k with | some p => kOk k ∧ Q p H | none => False) | none => False)
  | .tup ps, .int k => (match nth ps k with | some p => kOk k ∧ Q p H | none => False)
  | .str x, .int k => (match nth x k with | some ch => kOk k ∧ Q (.str [ch]) H | none => False)
  | _, _ => False
theorem op_item : SoundOp2 c n getItem opItem := by
  intro A H s va vb a b Q E hA h1 h2 S h
  cases h2 with
  | int k t =>
    cases h1 with
    | ref a =>
      simp only [opItem] at h
      cases ha : H a with
      | none => simp [ha] at h
      | some x =>
        simp only [ha] at h
        cases hn : nth x.items k with
        | none => simp [hn] at h
        | some p =>
          simp only [hn] at h
          obtain ⟨vs, j, hL, hv⟩ := S.hr.list a x ha
          obtain ⟨i, hi, hx⟩ := nth_seq hn
          obtain ⟨v, hv1, hv2⟩ := hv.get hx
          have hlen : vs.size = x.items.length := by simpa using hv.length
          by_cases h0 : 0 ≤ k
          · have : i = k.toNat := by
              have := (List.getElem?_eq_some_iff.mp hx).1
              by_cases hlt : k < x.items.length
              · rw [seqIndex_of h0 hlt] at hi; cases hi; rfl
              · unfold nth at hn; rw [if_pos h0] at hn; rw [List.getElem?_eq_none (by omega)] at hn; cases hn
            subst this
            exact wpAny_getItem_list hL.isList h0 (by have := h.1.2; omega) (by simpa using hv1) (res_pure S hv2 h.2)
          · have h1 : -(x.items.length : Int) ≤ k := by
              by_cases q : -(x.items.length : Int) ≤ k
              · exact q
              · unfold nth at hn; rw [if_neg h0, if_neg q] at hn; cases hn
            have : i = (k + x.items.length).toNat := by rw [seqIndex_neg (by omega) h1] at hi; cases hi; rfl
            subst this
            exact wpAny_getItem_list_neg hL.isList (by omega) (by rw [hlen]; exact h1) (by have := h.1.1; omega) (by rw [hlen]; simpa using hv1) (res_pure S hv2 h.2)
    | tup hT hvs =>
      simp only [opItem] at h
      rename_i aa vs nn ps
      cases hn : nth ps k with
      | none => simp [hn] at h
      | some p =>
        simp only [hn] at h
        obtain ⟨i, hi, hx⟩ := nth_seq hn
        obtain ⟨v, hv1, hv2⟩ := hvs.get hx
        have hlen : vs.length = ps.length := hvs.length
        exact PySem.P.getItem_tuple hT (by have := h.1.1; omega) (by have := h.1.2; omega) (by simpa [hlen] using hi) (by simpa using hv1) (res_pure S hv2 h.2)
    | str x t hx =>
      simp only [opItem] at h
      cases hn : nth x k with
      | none => simp [hn] at h
      | some ch =>
        simp only [hn] at h
        obtain ⟨i, hi, hx'⟩ := nth_seq hn
        refine PyProof.Rows.getItem_str ?_ (c := ch) ?_ (res_tok (p := .str [ch]) S (.str [ch] _ ?_) h.2)
        · have := h.1.1; have := h.1.2
          simp; omega
        · rw [str_len, hi]; simpa using hx'
        · have := List.mem_of_getElem? hx'
          simpa using hx ch this
    | _ => exact h.elim
  | _ => cases h1 <;> exact h.elim

theorem typ_get {H : AH} {s : Shared} {v : Value} {p : PV} {k : Int} {Q : PV → AH → Prop} (h1 : VRel s.heap v p) (S : St c.base H s) (h : ∃ a x, (p = .ref a ∧ H a = some x) ∨ (∃ ps, p = .tup ps) ∨ ∃ y, p = .str y) :
    ∃ T id, s.TypeIs v T ∧ typeLookup (.type T) "__getitem__" = pure (some (.builtin id)) := by
  obtain ⟨a, x, ⟨rfl, ha⟩ | ⟨ps, rfl⟩ | ⟨y, rfl⟩⟩ := h
  · cases h1
    obtain ⟨vs, j, hL, hv⟩ := S.hr.list a x ha
    exact ⟨"list", _, ⟨_, hL, rfl⟩, list_getitem_lookup⟩
  · cases h1 with
    | tup hT _ => exact ⟨"tuple", _, ⟨_, hT, rfl⟩, F.slot_tuple_getitem.lookup⟩
  · cases h1
    exact ⟨"str", _, typeIs_str _ _ _, F.slot_str_getitem.lookup⟩

theorem sub_any {M : Model} {A : Around} {env : Env} {s : Shared} {E : Value → Shared → Prop} {value slice : Expr} {pos : Pos} {Q : Value → Shared → Prop} {prog : Program} {w : World}
    (h : wpAny (model prog w) A (eval value env) (fun o s₁ => wpAny (model prog w) A (eval slice env) (fun i s₂ => (∃ T id, s₂.TypeIs o T ∧ typeLookup (.type T) "__getitem__" = pure (some (.builtin id))) ∧ wpAny (model prog w) A (getItem o i) Q E s₂) E s₁) E s) :
    wpAny (model prog w) A (eval (.Subscript value slice pos) env) Q E s := by
  rw [eval_Subscript]
  refine wpAny_bind (wpAny_mono h (fun o s1 h1 => wpAny_bind (wpAny_holding (wpAny_mono h1 (fun i s2 ⟨⟨T, id, hT, hl⟩, h2⟩ => ?_) fun _ _ x => x))) fun _ _ x => x)
  refine wpAny_bind (wpAny_standAt ?_)
  rw [getitemInPython_of_ne hT.not_modules]
  refine wpAny_bind (wpAny_bind (wpAny_specialOf hT hl (wpAny_pure ?_)))
  have e : subscripted slice false o i = operate [i, o] (getItem o i) ∨ subscripted slice false o i = operate [o, i] (getItem o i) := by
    unfold subscripted; split <;> simp_all
  rcases e with e | e <;> rw [e] <;>
  exact wpAny_bind (wpAny_operating (wpAny_mono h2 (fun r s3 h3 => wpAny_bind (wpAny_letTemporaryGo (wpAny_pure h3))) fun _ _ x => x))
theorem sound_sub {value slice : Expr} {pos : Pos} {ao ai : AE} (ho : SoundE c n sc value ao) (hi : SoundE c n sc slice ai) : SoundE c n sc (.Subscript value slice pos) (aBin opItem ao ai) := by
  intro A env ρ H s Q E hA he R S q
  refine sub_any (M := model c.prog c.w) (seq2 (F := fun a b H2 => opItem a b Q H2) ho hi hA he R S q ?_)
  intro va vb a b H2 s2 h1 h2 R2 S2 e2 q2
  refine ⟨typ_get (k := 0) (Q := Q) h1 S2 ?_, wpAny_mono (op_item A H2 s2 va vb a b Q E hA h1 h2 S2 q2) (fun _ _ r => r.trans e2) fun _ _ x => x⟩
  unfold opItem at q2
  split at q2
  · rename_i l k
    cases ha : H2 l with
    | none => rw [ha] at q2; exact q2.elim
    | some x => exact ⟨l, x, .inl ⟨rfl, ha⟩⟩
  · exact ⟨0, ⟨[], true⟩, .inr (.inl ⟨_, rfl⟩)⟩
  · exact ⟨0, ⟨[], true⟩, .inr (.inr ⟨_, rfl⟩)⟩
  · exact q2.elim
end
end Mine
open PySem PySem.W PySem.Calls PyProof.Rows
set_option Elab.async false
set_option linter.unusedVariables false
namespace Mine
section
variable {c : Cx} {n : Nat} {sc : SE}

-- writing lists
theorem res_set {H : AH} {s : Shared} {Q : PV → AH → Prop} {a : Addr} {x : LO} {items : Array Value} {m : Nat} {f : Array Value → Array Value} {ps : List PV} {v : Value} {p : PV} (S : St c.base H s) (hx : H a = some x) (ho : x.own = true) (hl : IsL s.heap a items m) (hv : VAll s.heap (f items).toList ps)
    (hr : VRel s.heap v p) (q : Q p (upd H a ⟨ps, true⟩)) : Res c H s Q v { s with heap := s.heap.update a (Obj.mapSeq f) } := by
  have hs := Heap.SameBut.update s.heap a (Obj.mapSeq f)
  have e : Ext No No H s (upd H a ⟨ps, true⟩) { s with heap := s.heap.update a (Obj.mapSeq f) } := Ext.setList (tk := s.toks) hx ho hs
  exact ⟨p, _, hr.ext0 S e, S.setList (tk := s.toks) hx ho (hl.update f) hs hv, e, q⟩

/-- a list of ours that may be written -/
def withOwn (p : PV) (k : Nat → List PV → Prop) (H : AH) : Prop := match p with
  | .ref a => (match H a with | some x => x.own = true ∧ k a x.items | none => False)
  | _ => False
theorem withOwn_elim {p : PV} {k : Nat → List PV → Prop} {H : AH} (h : withOwn p k H) : ∃ a x, p = .ref a ∧ H a = some x ∧ x.own = true ∧ k a x.items := by
  unfold withOwn at h
  split at h
  · rename_i a
    cases ha : H a with
    | none => rw [ha] at h; exact h.elim
    | some x => rw [ha] at h; exact ⟨a, x, rfl, ha, h.1, h.2⟩
  · exact h.elim

def setAt (o i p : PV) (Q : AH → Prop) (H : AH) : Prop := match i with
  | .int k => withOwn o (fun a xs => (0 ≤ k ∧ k ≤ 1000000000 ∧ k < xs.length) ∧ Q (upd H a ⟨xs.set k.toNat p, true⟩)) H
  | _ => False
def gSub (ao ai : AE) : ATg := fun p Q ρ H => ao (fun o H1 => ai (fun i H2 => setAt o i p (fun H3 => Q ρ H3) H2) ρ H1) ρ H
-- rows of targets
def gTup (gs : List ATg) : ATg := fun p Q ρ H => match p with
  | .tup ps => ps.length = gs.length ∧ go gs ps Q ρ H
  | _ => False
where
  go : List ATg → List PV → (AEnv → AH → Prop) → AEnv → AH → Prop
    | g :: gs, p :: ps, Q, ρ, H => g p (fun ρ1 H1 => go gs ps Q ρ1 H1) ρ H
    | _, _, Q, ρ, H => Q ρ H
inductive SoundAs (c : Cx) (n : Nat) (sc : SE) : List Expr → List ATg → Prop
  | nil : SoundAs c n sc [] []
  | cons {t : Expr} {ts : List Expr} {g : ATg} {gs : List ATg} : SoundA c n sc t g → (∀ env, assignEach (t :: ts) env = (false, assign t env) :: assignEach ts env) → SoundAs c n sc ts gs → SoundAs c n sc (t :: ts) (g :: gs)
theorem SoundAs.length {ts : List Expr} {gs : List ATg} (h : SoundAs c n sc ts gs) (env : Env) : (assignEach ts env).length = gs.length ∧ (assignEach ts env).findIdx? (·.1) = none := by
  induction h with
  | nil => exact ⟨rfl, rfl⟩
  | cons h1 h2 h3 ih => rw [h2]; exact ⟨by simp [ih.1], by simp [List.findIdx?_cons, ih.2]⟩
theorem assign_row {A : Around} {env : Env} (hA : AOk n A) (he : EOk sc env) {P : Unit → Shared → Prop} {E : Value → Shared → Prop} : ∀ {ts : List Expr} {gs : List ATg}, SoundAs c n sc ts gs → ∀ (ρ : AEnv) (H : AH) (s : Shared) (vs : List Value) (ps : List PV) (Q : AEnv → AH → Prop), ER c.base c.N env ρ s.heap → St c.base H s → VAll s.heap vs ps → ps.length = gs.length → gTup.go gs ps Q ρ H →
    (∀ ρ' H' s', ER c.base c.N env ρ' s'.heap → St c.base H' s' → Ext (Own env) No H s H' s' → Q ρ' H' → P () s') → wpAny (model c.prog c.w) A (assignInOrder ((assignEach ts env).map (·.2)) vs) P E s := by
  intro ts gs h
  induction h with
  | nil =>
    intro ρ H s vs ps Q R S hv hl q k
    cases hv with
    | nil => exact wpAny_pure (k ρ H s R S .refl q)
    | cons _ _ => simp at hl
  | @cons t ts g gs h1 h2 h3 ih =>
    intro ρ H s vs ps Q R S hv hl q k
    cases hv with
    | nil => simp at hl
    | @cons v p vs ps hv hr =>
      rw [h2]
      show wpAny _ _ (holding vs (assign t env v) >>= fun _ => assignInOrder ((assignEach ts env).map (·.2)) vs) _ _ _
      refine wpAny_bind (wpAny_holding (h1 A env ρ H s v p _ _ _ hA he R S hv q fun ρ1 H1 s1 R1 S1 e1 q1 => ?_))
      exact ih ρ1 H1 s1 vs ps Q R1 S1 (hr.ext S e1 (own_no_imm R)) (by simpa using hl) q1 fun ρ' H' s' R' S' e' q' => k ρ' H' s' R' S' (e1.trans e') q'
theorem tgt_tup {ts : List Expr} {gs : List ATg} {k : Nat} {pos : Pos} (h : SoundAs c n sc ts gs) : SoundA c n sc (.Tuple ts k pos) (gTup gs) := by
  intro A env ρ H s v p Q P E hA he R S hv q kk
  cases hv with
  | tup hT hvs =>
    obtain ⟨ql, q⟩ := q
    rename_i a vs m ps
    have hlen := h.length env
    show wpAny _ _ (do standAt pos; unpack (.ref a) (assignEach ts env)) _ _ _
    unfold unpack
    rw [hlen.1, hlen.2]
    have hsz : gs.length = vs.toArray.size := by simp [hvs.length, ql]
    rw [hsz]
    refine wpAny_bind (wpAny_standAt (wpAny_bind (wpAny_holding (wpAny_grow (wpAny_unpackItems_tuple hA.handled ⟨_, hT, rfl, _, rfl⟩ fun h' hx hg => ?_)))))
    have hk : ∀ b o, s.heap.get? b = some o → h'.get? b = some o := fun b o hb => hx b o (Nat.ne_of_lt (Heap.lt_size hb)) hb
    have S1 : St c.base H { s with heap := h' } := S.of_keep (X := No) (tk := s.toks) (fun b o _ h => hk b o h) (fun _ h => h.elim) (fun _ h => h.elim) (fun _ h => h.elim)
    have e1 : Ext No No H s H { s with heap := h' } := Ext.of_keep (tk := s.toks) (fun b o _ h => hk b o h) hg.1
    exact assign_row hA he h ρ H { s with heap := h' } _ _ _ (R.ext0 S e1) S1 (by simpa using hvs.ext0 S e1) ql q fun ρ' H' s' R' S' e' q' => kk ρ' H' s' R' S' (e1.of_no.trans e') q'
  | _ => exact q.elim
end
end Mine
open PySem PySem.W PySem.Calls PyProof.Rows
set_option Elab.async false
set_option linter.unusedVariables false
namespace Mine
section
variable {c : Cx} {n : Nat} {sc : SE}

-- slices
def slcG {α : Type} (xs : List α) (lo hi st : Option Int) : List α := (sliceRange (sliceBounds lo hi st xs.length).1 (sliceBounds lo hi st xs.length).2.1 (sliceBounds lo hi st xs.length).2.2).filterMap (xs[·]?)
def slc {α : Type} (xs : List α) (lo hi : Option Int) : List α := (xs.drop (lo.elim 0 (clipAt xs.length))).take (hi.elim xs.length (clipAt xs.length) - lo.elim 0 (clipAt xs.length))
theorem clipAt_le (n : Nat) (i : Int) : clipAt n i ≤ n := by unfold clipAt; split <;> omega
theorem slcG_plain {α : Type} (xs : List α) (lo hi : Option Int) : slcG xs lo hi none = slc xs lo hi := by
  unfold slcG slc
  rw [sliceBounds_plain]
  simp only
  rw [sliceRange_one]
  have := pick_run xs.toArray (lo.elim 0 (clipAt xs.length)) (hi.elim xs.length (clipAt xs.length) - lo.elim 0 (clipAt xs.length))
  simpa using this
theorem VAll.picks {h : Heap} {vs : List Value} {ps : List PV} (hv : VAll h vs ps) : ∀ is : List Nat, VAll h (is.filterMap (vs[·]?)) (is.filterMap (ps[·]?))
  | [] => .nil
  | i :: is => by
    rw [List.filterMap_cons, List.filterMap_cons]
    cases hp : ps[i]? with
    | none =>
      have : vs[i]? = none := by
        rw [List.getElem?_eq_none_iff] at hp ⊢; rw [hv.length]; exact hp
      rw [this]; exact hv.picks is
    | some p =>
      obtain ⟨v, h1, h2⟩ := hv.get hp
      rw [h1]; exact .cons h2 (hv.picks is)
def partOf : PV → Option (Option Int)
  | .none => some none
  | .int i => some (some i)
  | _ => none
def opSlice (o l u st : PV) (Q : PV → AH → Prop) (H : AH) : Prop := match partOf l, partOf u, partOf st with
  | some l, some u, some st => (match o with
    | .ref a => (match H a with | some x => (st ≠ some 0 ∧ szOk x.items.length) ∧ newL (slcG x.items l u st) Q H | none => False)
    | .str x => (st = none ∧ szOk x.length) ∧ Q (.str (slc x l u)) H
    | _ => False)
  | _, _, _ => False
theorem part_is {h : Heap} {v : Value} {p : PV} {k : Option Int} (hv : VRel h v p) (hp : partOf p = some k) : IsPart v k ∧ ∃ q : Option (Int × Tok), v = partValue q ∧ q.map (·.1) = k := by
  cases hv <;> simp [partOf] at hp
  · subst hp; exact ⟨.none, none, rfl, rfl⟩
  · subst hp; exact ⟨.int _ _, some (_, _), rfl, rfl⟩
theorem slc_full {α : Type} {xs : List α} {lo hi : Option Int} (h : (slc xs lo hi).length = xs.length) : slc xs lo hi = xs := by
  unfold slc at *
  generalize lo.elim 0 (clipAt xs.length) = a at *
  generalize hi.elim xs.length (clipAt xs.length) = b at *
  simp at h
  cases xs with
  | nil => simp
  | cons x xs =>
    have ha : a = 0 := by simp at h; omega
    subst ha
    have hb : (x :: xs).length ≤ b := by simp at h ⊢; omega
    rw [List.drop_zero, Nat.sub_zero, List.take_of_length_le hb]
theorem mem_slc {α : Type} {xs : List α} {lo hi : Option Int} {x : α} (h : x ∈ slc xs lo hi) : x ∈ xs := List.mem_of_mem_drop (List.mem_of_mem_take h)

theorem slice_sound {A : Around} {H : AH} {s : Shared} {vo vl vu vs : Value} {o l u st : PV} {Q : PV → AH → Prop} {E : Value → Shared → Prop} (h0 : VRel s.heap vo o) (h1 : VRel s.heap vl l) (h2 : VRel s.heap vu u) (h3 : VRel s.heap vs st) (S : St c.base H s) (h : opSlice o l u st Q H) :
    (∃ T id, ({ s with heap := s.heap.push { cls := .type "slice", data := .fields #[vl, vu, vs] } } : Shared).TypeIs vo T ∧ typeLookup (.type T) "__getitem__" = pure (some (.builtin id))) ∧
    wpAny (model c.prog c.w) A (getItem vo (.ref s.heap.objs.size)) (Res c H s Q) E { s with heap := s.heap.push { cls := .type "slice", data := .fields #[vl, vu, vs] } } := by
  unfold opSlice at h
  split at h
  · rename_i l' u' st' el eu es
    obtain ⟨p1, q1, r1, t1⟩ := part_is h1 el
    obtain ⟨p2, q2, r2, t2⟩ := part_is h2 eu
    obtain ⟨p3, q3, r3, t3⟩ := part_is h3 es
    have S1 := S.push { cls := .type "slice", data := .fields #[vl, vu, vs] }
    have e1 : Ext No No H s H { s with heap := s.heap.push { cls := .type "slice", data := .fields #[vl, vu, vs] } } := Ext.push _
    split at h
    · rename_i a
      cases h0
      cases ha : H a with
      | none => rw [ha] at h; exact h.elim
      | some x =>
        rw [ha] at h
        obtain ⟨⟨k1, k2⟩, k3⟩ := h
        obtain ⟨ws, m, hL, hv⟩ := S1.hr.list a x ha
        have hlen : ws.size = x.items.length := by simpa using hv.length
        refine ⟨⟨"list", _, ⟨_, hL, rfl⟩, list_getitem_lookup⟩, ?_⟩
        refine wpAny_getItem_list_slice (hL.isList) (Heap.IsSliceOf.new _ _ _ _) p1 p2 p3 k1 ((res_list S1 ?_ k3).trans e1) (by rw [hlen]; exact sz_line k2)
        have := hv.picks (sliceRange (sliceBounds l' u' st' x.items.length).1 (sliceBounds l' u' st' x.items.length).2.1 (sliceBounds l' u' st' x.items.length).2.2)
        unfold slicePick
        rw [hlen]
        simpa [slcG] using this
    · rename_i x
      cases h0 with
      | str _ t hx =>
        obtain ⟨⟨k1, k2⟩, k3⟩ := h
        subst k1
        refine ⟨⟨"str", _, typeIs_str _ _ _, F.slot_str_getitem.lookup⟩, ?_⟩
        subst r1 r2 r3
        have hq3 : q3 = none := by cases q3 with | none => rfl | some _ => simp at t3
        subst hq3
        refine wpAny_getItem_str_slice (l := q1) (u := q2) (st := none) ⟨_, Heap.get?_push_size _ rfl, rfl, rfl⟩ rfl ?_
        unfold sliceMade
        have ep : slicePicked ⟨x.toArray⟩ q1 q2 none = sliceRange (sliceBounds l' u' none x.length).1 (sliceBounds l' u' none x.length).2.1 (sliceBounds l' u' none x.length).2.2 := by
          unfold slicePicked; rw [t1, t2, str_len]; rfl
        have ef : (slicePicked ⟨x.toArray⟩ q1 q2 none).filterMap ((⟨x.toArray⟩ : Str).cps[·]?) = slc x l' u' := by
          rw [ep, ← slcG_plain]; unfold slcG; simp
        have elen : (slicePicked ⟨x.toArray⟩ q1 q2 none).length = (slc x l' u').length := by
          rw [ep, sliceBounds_plain]
          simp only
          rw [sliceRange_one]
          have b1 : l'.elim 0 (clipAt x.length) ≤ x.length := by cases l' with | none => simp | some i => exact clipAt_le _ _
          have b2 : u'.elim x.length (clipAt x.length) ≤ x.length := by cases u' with | none => simp | some i => exact clipAt_le _ _
          simp [slc]; omega
        rw [ef]
        split
        · rename_i hc
          have hl : (slc x l' u').length = x.length := by
            rw [← elen]; simpa [str_len] using hc
          rw [slc_full hl] at k3
          exact ⟨_, H, .str x t hx, S1, e1, k3⟩
        · refine ⟨?_, _, H, .str (slc x l' u') _ (fun ch hch => hx ch (mem_slc hch)), S1.tok _, e1.trans (.tok _), k3⟩
          rw [str_len]
          have : (slc x l' u').length ≤ x.length := by simp [slc]; omega
          exact Nat.le_trans this (sz_line k2)
    · exact h.elim
  · exact h.elim

def SoundP (c : Cx) (n : Nat) (sc : SE) (x : Option Expr) (a : AE) : Prop :=
  ∀ (A : Around) (env : Env) (ρ : AEnv) (H : AH) (s : Shared) (Q : PV → AH → Prop) (E : Value → Shared → Prop), AOk n A → EOk sc env → ER c.base c.N env ρ s.heap → St c.base H s → a Q ρ H → wpAny (model c.prog c.w) A (evalPart x env) (Res c H s Q) E s
theorem part_none : SoundP c n sc none (aCst .none) := fun _ _ _ _ _ _ _ _ _ _ S h => wpAny_pure (res_pure S .none h)
theorem part_some {e : Expr} {a : AE} (h : SoundE c n sc e a) : SoundP c n sc (some e) a := fun A env ρ H s Q E hA he R S q => h A env ρ H s Q E hA he R S q
theorem seqP {A : Around} {env : Env} {ρ : AEnv} {H : AH} {s : Shared} {E : Value → Shared → Prop} {l : Option Expr} {al : AE} {P : Value → Shared → Prop} {F : PV → AH → Prop} (hl : SoundP c n sc l al) (hA : AOk n A) (he : EOk sc env) (R : ER c.base c.N env ρ s.heap) (S : St c.base H s)
    (h : al F ρ H) (k : ∀ va a H1 s1, VRel s1.heap va a → ER c.base c.N env ρ s1.heap → St c.base H1 s1 → Ext No No H s H1 s1 → F a H1 → P va s1) :
    wpAny (model c.prog c.w) A (evalPart l env) P E s :=
  wpAny_mono (hl A env ρ H s _ E hA he R S h) (fun va s1 rr => rr.elim fun a H1 h1 S1 e1 q1 => k va a H1 s1 h1 (R.ext0 S e1) S1 e1 q1) fun _ _ x => x
def aSlice (o l u st : AE) : AE := fun Q ρ H => o (fun po H1 => l (fun pl H2 => u (fun pu H3 => st (fun pst H4 => opSlice po pl pu pst Q H4) ρ H3) ρ H2) ρ H1) ρ H
theorem sound_slice {o : Expr} {l u st : Option Expr} {p pos : Pos} {ao al au ast : AE} (ho : SoundE c n sc o ao) (hl : SoundP c n sc l al) (hu : SoundP c n sc u au) (hst : SoundP c n sc st ast) : SoundE c n sc (.Subscript o (.Slice l u st p) pos) (aSlice ao al au ast) := by
  intro A env ρ H s Q E hA he R S q
  refine sub_any (M := model c.prog c.w) (seq1 (F := fun po H1 => al (fun pl H2 => au (fun pu H3 => ast (fun pst H4 => opSlice po pl pu pst Q H4) ρ H3) ρ H2) ρ H1) ho hA he R S q fun vo po H1 s1 h1 R1 S1 e1 q1 => ?_)
  refine wpAny_Slice (seqP (F := fun pl H2 => au (fun pu H3 => ast (fun pst H4 => opSlice po pl pu pst Q H4) ρ H3) ρ H2) hl hA he R1 S1 q1 fun vl pl H2 s2 h2 R2 S2 e2 q2 => ?_)
  refine seqP (F := fun pu H3 => ast (fun pst H4 => opSlice po pl pu pst Q H4) ρ H3) hu hA he R2 S2 q2 fun vu pu H3 s3 h3 R3 S3 e3 q3 => ?_
  refine seqP (F := fun pst H4 => opSlice po pl pu pst Q H4) hst hA he R3 S3 q3 fun vs pst H4 s4 h4 R4 S4 e4 q4 => ?_
  obtain ⟨k1, k2⟩ := slice_sound (A := A) (E := E) (((h1.ext0 S1 e2).ext0 S2 e3).ext0 S3 e4) ((h2.ext0 S2 e3).ext0 S3 e4) (h3.ext0 S3 e4) h4 S4 q4
  exact ⟨k1, wpAny_mono k2 (fun _ _ r => r.trans (((e1.trans e2).trans e3).trans e4)) fun _ _ x => x⟩

-- methods
def kList (p : PV) (H : AH) : Prop := match p with | .ref a => (match H a with | some _ => True | none => False) | _ => False
def kStr (p : PV) (_ : AH) : Prop := match p with | .str _ => True | _ => False
def KindOk (c : Cx) (T : String) (K : PV → AH → Prop) : Prop := ∀ (H : AH) (s : Shared) (v : Value) (p : PV), VRel s.heap v p → St c.base H s → K p H → s.TypeIs v T ∧ ∀ a, v = .ref a → ∃ ob, s.heap.get? a = some ob ∧ ob.dict = none
theorem kind_list : KindOk c "list" kList := by
  intro H s v p hv S hk
  cases hv with
  | ref a =>
    simp only [kList] at hk
    cases ha : H a with
    | none => rw [ha] at hk; exact hk.elim
    | some x =>
      obtain ⟨vs, m, hL, _⟩ := S.hr.list a x ha
      exact ⟨⟨_, hL, rfl⟩, fun b hb => by cases hb; exact ⟨_, hL, rfl⟩⟩
  | _ => exact hk.elim
theorem kind_str : KindOk c "str" kStr := by
  intro H s v p hv S hk
  cases hv with
  | str x t hx => exact ⟨typeIs_str _ _ _, fun _ h => nomatch h⟩
  | _ => exact hk.elim
def aMeth (K : PV → AH → Prop) (f : AF) (o : AE) (l : AL) : AE := fun Q ρ H => o (fun p H1 => K p H1 ∧ l (fun ps H2 => f (p :: ps) Q H2) ρ H1) ρ H
theorem sound_meth {o : Expr} {name : Str} {args : List Expr} {apos pos : Pos} {T id : String} {K : PV → AH → Prop} {f : AF} {ao : AE} {al : AL} (slot : Slot T name id) (ty : typeOf (.builtin id) = pure (.type "method_descriptor")) (pa : PlainAttrs T) (hK : KindOk c T K) (hf : SoundV c n (.builtin id) f)
    (ho : SoundE c n sc o ao) (hl : SoundL c n sc args al) (hs : args = [] ∨ ∃ e es, args = e :: es ∧ ∀ env, starEach (e :: es) env = (false, eval e env) :: starEach es env ∧ (backTo pos (starEach es env)).any (·.1) = false)
    (hbase : ∀ env, attributeBase o name env (eval o env) = eval o env)
    (hfew : ∀ env, ((backTo pos (starEach args env)).all (fun x => !x.1) && (backToKw pos (keywordEach [] env)).all (fun x => x.1.isSome) && decide (args.length + ([] : List Keyword).length + (if ([] : List Keyword).isEmpty then 0 else 1) < 30)) = true)
    (hline : (apos.endLine == pos.line) = true) : SoundE c n sc (.Call (.Attribute o name apos) args [] pos) (aMeth K f ao al) := by
  intro A env ρ H s Q E hA he R S q
  refine wpAny_Call_method (hbase env) (hfew env) hline pa slot ty (seq1 (F := fun p H1 => K p H1 ∧ al (fun ps H2 => f (p :: ps) Q H2) ρ H1) ho hA he R S q fun vo p H1 s1 h1 R1 S1 e1 q1 => ?_)
  obtain ⟨t1, t2⟩ := hK H1 s1 vo p h1 S1 q1.1
  refine ⟨t1, t2, ?_⟩
  have args' : wpAny (model c.prog c.w) A (spliced (backTo pos (starEach args env))) (fun vs s2 => wpAny (model c.prog c.w) A (call (.builtin id) (vo :: vs)) (Res c H s Q) E s2) E s1 :=
    seqL (F := fun ps H2 => f (p :: ps) Q H2) hl hA he R1 S1 q1.2 fun vs ps H2 s2 hv R2 S2 e2 q2 => wpAny_mono (hf A H2 s2 (vo :: vs) (p :: ps) Q E hA (.cons (h1.ext0 S1 e2) hv) S2 q2) (fun _ _ r => r.trans (e1.trans e2)) fun _ _ x => x
  rcases hs with rfl | ⟨e, es, rfl, hs⟩
  · refine callWith_builtin rfl (PySem.evalArgs_none ?_)
    have : wpAny (model c.prog c.w) A (spliced []) (fun vs s2 => wpAny (model c.prog c.w) A (call (.builtin id) (vo :: vs)) (Res c H s Q) E s2) E s1 := args'
    intro Γ pp hΓ
    have t := this Γ pp hΓ
    exact t Γ pp hΓ
  · rw [(hs env).1] at args' ⊢
    exact callWith_builtin (by show (false || (backTo pos (starEach es env)).any (·.1)) = false; rw [(hs env).2]; rfl) (evalArgs_plain args')
end
end Mine
open PySem PySem.W PySem.Calls PyProof.Rows
set_option Elab.async false
set_option linter.unusedVariables false
namespace Mine
section
variable {c : Cx} {n : Nat} {sc : SE}

theorem res_newL {H : AH} {s : Shared} {Q : PV → AH → Prop} {a : Addr} {vs : Array Value} {m : Nat} {ps : List PV} {h' : Heap} {tk : Nat} (S : St c.base H s) (hk : ∀ b o, s.heap.get? b = some o → h'.get? b = some o) (hl : IsL h' a vs m) (ha : s.heap.objs.size ≤ a) (hv : VAll s.heap vs.toList ps)
    (q : newL ps Q H) : Res c H s Q (.ref a) { s with heap := h', toks := tk } := by
  have hz : s.heap.objs.size ≤ h'.objs.size := Nat.le_of_lt (Nat.lt_of_le_of_lt ha (Heap.lt_size hl))
  refine ⟨.ref a, upd H a ⟨ps, true⟩, .ref a, ⟨⟨fun b o h => hk b o (S.hr.keep b o h), fun b x h => ?_, fun b x h ho => ?_⟩, S.bare⟩, ⟨fun b o h _ _ => hk b o h, hz, fun b x h => ?_, fun _ _ h _ => h, Nat.le_refl _, rfl⟩, q a (S.fresh ha)⟩
  · by_cases e : b = a
    · subst e; rw [upd_same] at h; cases h; exact ⟨vs, m, hl, hv.mono fun b o h => hk b o h.1⟩
    · rw [upd_other _ _ e] at h
      obtain ⟨ws, k, hl', hw⟩ := S.hr.list b x h
      exact ⟨ws, k, hk _ _ hl', hw.mono fun b o h => hk b o h.1⟩
  · by_cases e : b = a
    · subst e; exact S.bsize ha
    · rw [upd_other _ _ e] at h; exact S.hr.new b x h ho
  · by_cases e : b = a
    · subst e; exact .inr ha
    · rw [upd_other _ _ e] at h; exact .inl ⟨x, h, rfl⟩

def fLen : AF := fun ps Q H => match ps with
  | [.ref a] => (match H a with | some x => szOk x.items.length ∧ Q (.int x.items.length) H | none => False)
  | [.str x] => szOk x.length ∧ Q (.int x.length) H
  | [.tup xs] => szOk xs.length ∧ Q (.int xs.length) H
  | _ => False
theorem bi_len : SoundV c n (.builtin "len") fLen := by
  intro A H s vs ps Q E hA hv S q
  unfold fLen at q
  split at q
  · cases hv with
    | cons h1 h2 =>
      cases h2; cases h1
      rename_i a
      cases ha : H a with
      | none => rw [ha] at q; exact q.elim
      | some x =>
        rw [ha] at q
        obtain ⟨ws, m, hL, hw⟩ := S.hr.list a x ha
        have hlen : ws.size = x.items.length := by simpa using hw.length
        have := q.1; simp only [szOk] at this
        refine call_len_list hL.isList (by omega) ?_
        rw [hlen]; exact res_tok S (.int _ _) q.2
  · cases hv with
    | cons h1 h2 =>
      cases h2; cases h1
      have := q.1; simp only [szOk] at this
      refine PyProof.Rows.len_str (by rw [str_len]; omega) ?_
      rw [str_len]; exact res_tok S (.int _ _) q.2
  · cases hv with
    | cons h1 h2 =>
      cases h2
      cases h1 with
      | tup hT hvs =>
        have := q.1; simp only [szOk] at this
        have hlen := hvs.length
        refine PySem.P.len_tuple hT (by simp; omega) ?_
        simp only [List.size_toArray, hlen]
        exact res_tok S (.int _ _) q.2
  · exact q.elim
def fRange : AF := fun ps Q H => match ps with
  | [.int k] => Q (.rng 0 k) H
  | [.int a, .int b] => Q (.rng a b) H
  | _ => False
def fList : AF := fun ps Q H => match ps with
  | [.ref a] => (match H a with | some x => szOk x.items.length ∧ newL x.items Q H | none => False)
  | [.tup xs] => szOk xs.length ∧ newL xs Q H
  | _ => False
theorem bi_list : SoundV c n (.type "list") fList := by
  intro A H s vs ps Q E hA hv S q
  unfold fList at q
  split at q
  · cases hv with
    | cons h1 h2 =>
      cases h2; cases h1
      rename_i a
      cases ha : H a with
      | none => rw [ha] at q; exact q.elim
      | some x =>
        rw [ha] at q
        obtain ⟨ws, m, hL, hw⟩ := S.hr.list a x ha
        have hlen : ws.size = x.items.length := by simpa using hw.length
        exact call_list_seq a (.inl rfl) hL rfl rfl (fun h' c' hk hn => res_newL (tk := s.toks) S hk hn (Nat.le_refl _) hw q.2) (by rw [hlen]; exact sz_line q.1)
  · cases hv with
    | cons h1 h2 =>
      cases h2
      cases h1 with
      | tup hT hvs =>
        exact call_list_seq _ (.inr rfl) hT rfl rfl (fun h' c' hk hn => res_newL (tk := s.toks) S hk hn (Nat.le_refl _) (by simpa using hvs) q.2) (by simp [hvs.length]; exact sz_line q.1)
  · exact q.elim
def fTuple : AF := fun ps Q H => match ps with
  | [.ref a] => (match H a with | some x => szOk x.items.length ∧ Q (.tup x.items) H | none => False)
  | _ => False
-- methods of lists
def fAppend : AF := fun ps Q H => match ps with
  | [o, p] => withOwn o (fun a xs => szOk xs.length ∧ Q .none (upd H a ⟨xs ++ [p], true⟩)) H
  | _ => False
theorem me_append : SoundV c n (.builtin "list.append") fAppend := by
  intro A H s vs ps Q E hA hv S q
  unfold fAppend at q
  split at q
  · cases hv with
    | cons h1 h2 =>
      cases h2 with
      | cons h2 h3 =>
        cases h3
        obtain ⟨a, x, rfl, ha, ho, q1, q2⟩ := withOwn_elim q
        cases h1
        obtain ⟨ws, m, hL, hw⟩ := S.hr.list a x ha
        have hlen : ws.size = x.items.length := by simpa using hw.length
        exact call_meets F.slot_list_append ⟨_, hL, rfl⟩ F.entry_list_append (F.args_list_append_2 _ _) (list_append a ws m _ (by rw [hlen]; exact sz_line q1)) ⟨hL, res_set (f := fun y => y.push _) S ha ho hL (by simpa using hw.append (.one h2)) .none q2⟩
  · exact q.elim
def fInsert : AF := fun ps Q H => match ps with
  | [o, .int k, p] => withOwn o (fun a xs => (szOk xs.length ∧ 0 ≤ k ∧ k ≤ xs.length) ∧ Q .none (upd H a ⟨xs.take k.toNat ++ p :: xs.drop k.toNat, true⟩)) H
  | _ => False
def fPop : AF := fun ps Q H => match ps with
  | [o] => withOwn o (fun a xs => szOk xs.length ∧ match xs.getLast? with | some p => Q p (upd H a ⟨xs.dropLast, true⟩) | none => False) H
  | [o, .int k] => withOwn o (fun a xs => (szOk xs.length ∧ 0 ≤ k) ∧ match xs[k.toNat]? with | some p => Q p (upd H a ⟨xs.eraseIdx k.toNat, true⟩) | none => False) H
  | _ => False
end
end Mine
open PySem PySem.W PySem.Calls PyProof.Rows
set_option Elab.async false
set_option linter.unusedVariables false
namespace Mine
section
variable {c : Cx} {n : Nat} {sc : SE}

-- augmented assignments
def opIAdd (a b : PV) (Q : PV → AH → Prop) (H : AH) : Prop := match a, b with
  | .int x, .int y => Q (.int (x + y)) H
  | .str x, .str y => szOk (x.length + y.length) ∧ Q (.str (x ++ y)) H
  | _, _ => False
theorem op_isub : SoundOp2 c n (inplaceOp .Sub) opSub := by
  intro A H s va vb a b Q E hA h1 h2 S h
  obtain ⟨x, y, rfl, rfl, h⟩ := opSub_elim h
  cases h1; cases h2
  exact AutoIntOps.isub_0 (res_tok S (.int _ _) h)
def sAug (k : Nat) (f : PV → PV → (PV → AH → Prop) → AH → Prop) (a : AE) : AS := fun Q ρ H => match ρ k with
  | some p => a (fun b H1 => f p b (fun r H2 => Q .next (upd ρ k r) H2) H1) ρ H
  | none => False
theorem stmt_aug {x : Str} {pos' pos : Pos} {op : Operator} {v : Expr} {k : Nat} {f} {a : AE} (ho : SoundOp2 c n (inplaceOp op) f) (ha : SoundE c n sc v a) (hx : c.N[k]? = some x) (hk : sc.names.lookup x = some .local ∨ (sc.names.lookup x = some .cell ∧ x ∉ sc.caps))
    (hn : (x == ("__classdict__" : Str)) = false) : SoundS c n sc (.AugAssign (.Name x pos') op v pos) (sAug k f a) := by
  intro A env ρ H s Q E hA he R S q
  unfold sAug at q
  cases hp : ρ k with
  | none => rw [hp] at q; exact q.elim
  | some p =>
    rw [hp] at q
    refine wpAny_AugAssign_Name (load_var he R hx hp (fun v0 hv0 => ?_) hn)
    refine seq1 (F := fun b H1 => f p b (fun r H2 => Q .next (upd ρ k r) H2) H1) ha hA he R S q fun vb b H1 s1 h1 R1 S1 e1 q1 => ?_
    refine wpAny_mono (ho A H1 s1 v0 vb p b _ _ hA (hv0.ext0 S e1) h1 S1 q1) (fun vr s2 rr => rr.elim fun r H2 hr S2 e2 q2 => ?_) fun _ _ x => x
    exact store_var he (R1.ext0 S1 e2) S2 hx hk hr fun s3 R3 S3 e3 => ⟨.next, _, H2, .next, R3, S3, (e1.trans e2).of_no.trans e3, q2⟩
def sAugSub (o i : AE) (f : PV → PV → (PV → AH → Prop) → AH → Prop) (a : AE) : AS := fun Q ρ H => o (fun po H1 => i (fun pi H2 => opItem po pi (fun old H3 => a (fun b H4 => f old b (fun r H5 => setAt po pi r (fun H6 => Q .next ρ H6) H5) H4) ρ H3) H2) ρ H1) ρ H
-- comprehensions
def relabelS (scope : Scope) (sc : SE) : Scope := { scope with names := scope.names.map fun (n, k) => if (k == .free && sc.kind == .function && sc.names.lookup n == some .cell) then (n, .cell) else (n, k) }
theorem relabel_eq {scope : Scope} {env : Env} (he : EOk sc env) : relabel scope env = relabelS scope sc := by
  unfold relabel relabelS Env.kindOf; rw [he.scope]
def freeOf (names : List (Str × NameKind)) : List Str := (names.filter (·.2 == .free)).map (·.1)
def clOf (env : Env) : List (Str × NameKind) → List (Str × Addr) → List (Str × Addr)
  | [], acc => acc
  | (x, k) :: r, acc => if k == .free then clOf env r ((x, (env.cells.lookup x).getD 0) :: acc) else clOf env r acc
theorem closure_eq {env : Env} {scope : Scope} (h : ∀ x ∈ freeOf scope.names, (env.cells.lookup x).isSome = true) : closureFor scope env = pure (clOf env scope.names []) := by
  have key : ∀ (names : List (Str × NameKind)) (acc : List (Str × Addr)), (∀ x ∈ freeOf names, (env.cells.lookup x).isSome = true) →
      (forIn names acc fun (x : Str × NameKind) cs => (if (x.2 == .free) = true then do let a ← cellOf env x.1; pure (ForInStep.yield ((x.1, a) :: cs)) else pure (ForInStep.yield cs) : Sem (ForInStep (List (Str × Addr))))) = pure (clOf env names acc) := by
    intro names
    induction names with
    | nil => intro acc _; rfl
    | cons x r ih =>
      intro acc hx
      obtain ⟨y, k⟩ := x
      rw [List.forIn_cons]
      unfold clOf
      by_cases hk : (k == .free) = true
      · simp only [hk, if_true]
        have hy : (env.cells.lookup y).isSome = true := hx y (by simp [freeOf, hk])
        obtain ⟨a, ha⟩ := Option.isSome_iff_exists.mp hy
        have : cellOf env y = pure a := by unfold cellOf; rw [ha]
        rw [this, ha]
        simp only [pure_bind, Option.getD_some]
        exact ih _ fun z hz => hx z (by simp only [freeOf, List.filter_cons, hk, if_true] at hz ⊢; simp; exact .inr (by simpa using hz))
      · simp only [hk, if_false, pure_bind]
        exact ih _ fun z hz => hx z (by simp only [freeOf, List.filter_cons, hk] at hz ⊢; simpa using hz)
  unfold closureFor
  have := key scope.names [] h
  simp only [bind_pure] 
  exact this
theorem clOf_sub {env : Env} : ∀ (names : List (Str × NameKind)) (acc : List (Str × Addr)), (∀ x ∈ freeOf names, (env.cells.lookup x).isSome = true) → (∀ p ∈ acc, env.cells.lookup p.1 = some p.2) → ∀ p ∈ clOf env names acc, env.cells.lookup p.1 = some p.2
  | [], acc, _, h, p, hp => h p hp
  | (x, k) :: r, acc, hx, h, p, hp => by
    unfold clOf at hp
    by_cases hk : (k == .free) = true
    · rw [if_pos hk] at hp
      have hy : (env.cells.lookup x).isSome = true := hx x (by simp [freeOf, hk])
      obtain ⟨a, ha⟩ := Option.isSome_iff_exists.mp hy
      refine clOf_sub r _ (fun z hz => hx z (by simp only [freeOf, List.filter_cons, hk, if_true] at hz ⊢; simp; exact .inr (by simpa using hz))) ?_ p hp
      intro q hq
      rcases List.mem_cons.mp hq with rfl | hq
      · simp [ha]
      · exact h q hq
    · rw [if_neg hk] at hp
      exact clOf_sub r _ (fun z hz => hx z (by simp only [freeOf, List.filter_cons, hk] at hz ⊢; simpa using hz)) h p hp
theorem clOf_mem {env : Env} {y : Str} : ∀ (names : List (Str × NameKind)) (acc : List (Str × Addr)), y ∈ freeOf names ∨ (∃ a, (y, a) ∈ acc) → ∃ a, (y, a) ∈ clOf env names acc
  | [], acc, h => by simpa [freeOf, clOf] using h
  | (x, k) :: r, acc, h => by
    unfold clOf
    by_cases hk : (k == .free) = true
    · rw [if_pos hk]
      refine clOf_mem r _ ?_
      rcases h with h | ⟨a, h⟩
      · simp only [freeOf, List.filter_cons, hk, if_true, List.map_cons, List.mem_cons] at h
        rcases h with rfl | h
        · exact .inr ⟨_, .head _⟩
        · exact .inl h
      · exact .inr ⟨a, .tail _ h⟩
    · rw [if_neg hk]
      refine clOf_mem r _ ?_
      rcases h with h | h
      · simp only [freeOf, List.filter_cons, hk] at h; exact .inl (by simpa [freeOf] using h)
      · exact .inr h
theorem lookup_of_mem {l : List (Str × Addr)} {y : Str} {a : Addr} (h : (y, a) ∈ l) : ∃ b, l.lookup y = some b := by
  induction l with
  | nil => cases h
  | cons p r ih =>
    obtain ⟨z, b⟩ := p
    rw [List.lookup_cons]
    by_cases e : (y == z) = true
    · rw [e]; exact ⟨b, rfl⟩
    · simp only [Bool.not_eq_true] at e
      rw [e]
      rcases List.mem_cons.mp h with q | q
      · cases q; simp at e
      · exact ih q
theorem clOf_lookup {env : Env} {names : List (Str × NameKind)} (hx : ∀ x ∈ freeOf names, (env.cells.lookup x).isSome = true) {y : Str} (hy : y ∈ freeOf names) : (clOf env names []).lookup y = env.cells.lookup y := by
  obtain ⟨a, ha⟩ := clOf_mem (env := env) names [] (.inl hy)
  obtain ⟨b, hb⟩ := lookup_of_mem ha
  rw [hb]
  exact (clOf_sub names [] hx (fun _ h => nomatch h) _ (mem_of_lookup hb)).symm
theorem clOf_apart {env : Env} {base : Heap} (hA : env.cells.Pairwise fun x y => x.2 ≠ y.2) : ∀ (names : List (Str × NameKind)) (acc : List (Str × Addr)), (∀ x ∈ freeOf names, (env.cells.lookup x).isSome = true) → (freeOf names).Nodup → (∀ p ∈ acc, env.cells.lookup p.1 = some p.2 ∧ p.1 ∉ freeOf names) → acc.Pairwise (fun x y => x.2 ≠ y.2) → (clOf env names acc).Pairwise fun x y => x.2 ≠ y.2
  | [], acc, _, _, _, h => h
  | (x, k) :: r, acc, hx, hn, ha, h => by
    unfold clOf
    by_cases hk : (k == .free) = true
    · rw [if_pos hk]
      have ef : freeOf ((x, k) :: r) = x :: freeOf r := by simp [freeOf, hk]
      rw [ef] at hx hn ha
      obtain ⟨a, hxa⟩ := Option.isSome_iff_exists.mp (hx x (.head _))
      refine clOf_apart (base := base) hA r _ (fun z hz => hx z (.tail _ hz)) (List.nodup_cons.mp hn).2 ?_ ?_
      · intro p hp
        rcases List.mem_cons.mp hp with rfl | hp
        · exact ⟨by simp [hxa], (List.nodup_cons.mp hn).1⟩
        · exact ⟨(ha p hp).1, fun q => (ha p hp).2 (.tail _ q)⟩
      · refine List.pairwise_cons.mpr ⟨fun p hp e => ?_, h⟩
        have h1 := (ha p hp).1
        rw [hxa] at e
        simp only [Option.getD_some] at e
        have : x = p.1 := name_of_addr hA (mem_of_lookup hxa) (mem_of_lookup (by rw [h1, ← e]))
        exact (ha p hp).2 (this ▸ .head _)
    · rw [if_neg hk]
      have ef : freeOf ((x, k) :: r) = freeOf r := by simp [freeOf, hk]
      rw [ef] at hx hn ha
      exact clOf_apart (base := base) hA r _ hx hn ha h

def capt (ks : List Nat) (ρ : AEnv) : AEnv := fun k => if ks.contains k then ρ k else none
def compL (g : ATg) (t : AT) (e : AE) (a : Nat) (G : AH → Prop) (Q : AH → Prop) : List PV → AEnv → AH → Prop
  | [], _, H => Q H
  | p :: ps, ρ, H => g p (fun ρ1 H1 => t (fun b H2 => if b then e (fun v H3 => fAppend [.ref a, v] (fun _ H4 => G H4 ∧ compL g t e a G Q ps ρ1 H4) H3) ρ1 H2 else G H2 ∧ compL g t e a G Q ps ρ1 H2) ρ1 H1) ρ H
def aComp (ks : List Nat) (g : ATg) (src : AE) (t : AT) (e : AE) : AE := fun Q ρ H => src (fun p H1 => withItems p (fun items G H2 => ∀ a, H2 a = none → G (upd H2 a ⟨[], true⟩) ∧ compL g t e a G (fun H3 => Q (.ref a) H3) items (capt ks ρ) (upd H2 a ⟨[], true⟩)) H1) ρ H

def SoundCond (c : Cx) (n : Nat) (sc : SE) (ifs : List Expr) (t : AT) : Prop :=
  ∀ (A : Around) (env : Env) (ρ : AEnv) (H : AH) (s : Shared) (Q : Bool → AH → Prop) (E : Value → Shared → Prop), AOk n A → EOk sc env → ER c.base c.N env ρ s.heap → St c.base H s → t Q ρ H →
    wpAny (model c.prog c.w) A (forIn ifs true fun e r => if r = true then do let ok ← isTrue e env (eval e env); pure (ForInStep.yield ok) else pure (ForInStep.yield r)) (ResB c H s Q) E s
theorem cond_nil : SoundCond c n sc [] tTrue := fun A env ρ H s Q E hA he R S q => wpAny_tests_nil ⟨H, S, .refl, q⟩
theorem cond_one {e : Expr} {t : AT} (h : SoundT c n sc e t) : SoundCond c n sc [e] t := fun A env ρ H s Q E hA he R S q => wpAny_tests_one (h A env ρ H s Q E hA he R S q)

theorem comp_loop {A : Around} {env : Env} {H₀ : AH} {s₀ s : Shared} {I : Addr} {P PG : Nat → Prop} {G : AH → Prop} {J : List PV → AH → Shared → Prop} {tg iter elt : Expr} {ifs : List Expr} {scope : Scope} {pos : Pos} {g : ATg} {t : AT} {e : AE} {a : Addr} {Q : AH → Prop} {RR : Result → Shared → Prop} {items : List PV} {H : AH} {ρ : AEnv}
    (it : Iter c n I P PG G J) (hg : SoundA c n sc tg g) (ht : SoundCond c n sc ifs t) (hel : SoundE c n sc elt e) (hA : AOk n A) (he : EOk sc env) (hto : (∃ elts k pos, tg = .Tuple elts k pos) ∨ ∀ it v, letOwnedTupleGo tg it v = pure ())
    (ownP : ∀ b, Own env b → ¬ P b) (hPC : ∀ x cc, env.cells.lookup x = some cc → ¬ P cc)
    (hj : J items H s) (R : ER c.base c.N env ρ s.heap) (S : St c.base H s) (ex : Ext (fun b => Own env b ∨ P b) PG H₀ s₀ H s) (q : compL g t e a G Q items ρ H)
    (hR : ∀ H' s' ρ', ER c.base c.N env ρ' s'.heap → St c.base H' s' → Ext (fun b => Own env b ∨ P b) PG H₀ s₀ H' s' → Q H' → RR (.ok .next) s') : codeAny (model c.prog c.w) A (.compLoop (.ListComp elt [⟨tg, iter, ifs, 0⟩] scope pos) 0 (.ref I) (.ref a) env) RR s := by
  refine codeAny_loop rfl (fun k s => ∃ items H ρ, k = items.length ∧ J items H s ∧ ER c.base c.N env ρ s.heap ∧ St c.base H s ∧ Ext (fun b => Own env b ∨ P b) PG H₀ s₀ H s ∧ compL g t e a G Q items ρ H) ?_ _ ⟨items, H, ρ, rfl, hj, R, S, ex, q⟩
  rintro k s ⟨items, H, ρ, rfl, hj, R, S, ex, q⟩
  show wpAny _ A ((compTurn (.ListComp elt [⟨tg, iter, ifs, 0⟩] scope pos) 0 (.ref I) (.ref a) env).onRaise (fun x => do noteFrame x env; theTreesLotGoes x)) _ _ s
  refine wpAny_noted ?_
  rw [compTurn_list]
  have wid : ∀ {H1 s1 H2 s2}, Ext (Own env) No H1 s1 H2 s2 → Ext (fun b => Own env b ∨ P b) PG H1 s1 H2 s2 := fun x => x.mono (fun _ h => .inl h) (fun _ h => h.elim)
  have widP : ∀ {H1 s1 H2 s2}, Ext P PG H1 s1 H2 s2 → Ext (fun b => Own env b ∨ P b) PG H1 s1 H2 s2 := fun x => x.mono (fun _ h => .inr h) (fun _ h => h)
  have keepR : ∀ s' : Shared, Ext P PG H s H s' → (∀ b o, Imm s.heap b o → s'.heap.get? b = some o) → ER c.base c.N env ρ s'.heap := fun s' e' hi => R.ext' S e' hi (ownP _ (.inl rfl)) hPC
  refine wpAny_bind (wpAny_standAt (wpAny_bind ?_))
  cases items with
  | nil =>
    refine it.done A H s _ _ hA hj S fun s' S' e' hi => ?_
    exact wpAny_pure (hR H s' ρ (keepR s' e' hi) S' (ex.trans (widP e')) q)
  | cons p ps =>
    refine it.item A p ps H s _ _ hA hj S fun v s' hv S' e' hj' hi => ?_
    have R' := keepR s' e' hi
    refine wpAny_bind (owned_any it hj' hto ?_)
    refine wpAny_bind (hg A env ρ H s' v p _ _ _ hA he R' S' hv q fun ρ1 H1 s1 R1 S1 e1 q1 => ?_)
    refine wpAny_bind (bool_mono (ht A env ρ1 H1 s1 _ _ hA he R1 S1 q1) fun b H2 s2 S2 e2 q2 => ?_)
    have R2 := R1.ext0 S1 e2
    have more : ∀ H3 s3, ER c.base c.N env ρ1 s3.heap → St c.base H3 s3 → Ext (Own env) No H s' H3 s3 → G H3 ∧ compL g t e a G Q ps ρ1 H3 →
        ∃ m, m < (p :: ps).length ∧ ∃ items H ρ, m = items.length ∧ J items H s3 ∧ ER c.base c.N env ρ s3.heap ∧ St c.base H s3 ∧ Ext (fun b => Own env b ∨ P b) PG H₀ s₀ H s3 ∧ compL g t e a G Q items ρ H := fun H3 s3 R3 S3 e3 hq =>
      ⟨ps.length, by simp, ps, H3, ρ1, rfl, it.frame (Own env) ps H s' H3 s3 hj' S' e3 S3 ownP (own_no_imm R') hq.1, R3, S3, (ex.trans (widP e')).trans (wid e3), hq.2⟩
    cases b with
    | false =>
      simp only [Bool.false_eq_true, if_false] at q2 ⊢
      exact wpAny_pure ⟨rfl, more H2 s2 R2 S2 (e1.trans e2.of_no) q2⟩
    | true =>
      simp only [if_true] at q2 ⊢
      refine wpAny_bind (wpAny_bind (seq1 (F := fun v H3 => fAppend [.ref a, v] (fun _ H4 => G H4 ∧ compL g t e a G Q ps ρ1 H4) H3) hel hA he R2 S2 q2 fun vx px H3 s3 h3 R3 S3 e3 q3 => ?_))
      refine wpAny_bind (wpAny_mono (me_append (c := c) (n := n) A H3 s3 [.ref a, vx] [.ref a, px] _ _ hA (.cons (.ref a) (.one h3)) S3 q3) (fun _ s4 rr => rr.elim fun _ H4 _ S4 e4 q4 => ?_) fun _ _ x => x)
      exact wpAny_pure (wpAny_pure ⟨rfl, more H4 s4 (R3.ext0 S3 e4) S4 (((e1.trans e2.of_no).trans e3.of_no).trans e4.of_no) q4⟩)

/-- what is checked of a comprehension's block -/
def compChk (N : List Str) (scope : Scope) (sc : SE) (ks : List Nat) : Bool :=
  (freeOf scope.names).all (fun x => sc.names.lookup x == some .cell) && decide (freeOf scope.names).Nodup && scope.names.all (fun x => x.2 != .cell) &&
  scope.names.all (fun x => x.2 != .local || scope.names.lookup x.1 == some .local) &&
  ks.all fun k => match N[k]? with
    | some x => (freeOf scope.names).contains x && (relabelS scope sc).names.lookup x == some .cell
    | none => false
theorem relabel_cell {scope : Scope} {x : Str} (hc : ∀ y ∈ scope.names, y.2 ≠ .cell) (h : (relabelS scope sc).names.lookup x = some .cell) : x ∈ freeOf scope.names := by
  unfold relabelS at h
  simp only at h
  generalize hn : scope.names = names at *
  clear hn
  induction names with
  | nil => simp at h
  | cons p r ih =>
    obtain ⟨y, k⟩ := p
    simp only [List.map_cons] at h
    have hr : ∀ y ∈ r, y.2 ≠ .cell := fun z hz => hc z (.tail _ hz)
    by_cases hcond : (k == NameKind.free && sc.kind == .function && sc.names.lookup y == some .cell) = true
    · rw [if_pos hcond, List.lookup_cons] at h
      have hk : (k == .free) = true := by simp only [Bool.and_eq_true] at hcond; exact hcond.1.1
      by_cases e : (x == y) = true
      · have := beq_iff_eq.mp e; subst this; simp [freeOf, hk]
      · simp only [Bool.not_eq_true] at e
        rw [e] at h
        have := ih hr h
        simp only [freeOf, List.filter_cons, hk, if_true, List.map_cons, List.mem_cons]; exact .inr this
    · rw [if_neg hcond, List.lookup_cons] at h
      by_cases e : (x == y) = true
      · rw [e] at h; cases h; exact absurd rfl (hc (y, .cell) (.head _))
      · simp only [Bool.not_eq_true] at e
        rw [e] at h
        have := ih hr h
        unfold freeOf at this ⊢
        by_cases hk : (k == .free) = true
        · simp only [List.filter_cons, hk, if_true, List.map_cons, List.mem_cons]; exact .inr this
        · simp only [List.filter_cons, hk]; simpa using this

theorem comp_sound {A : Around} {env : Env} {ρ : AEnv} {H : AH} {s : Shared} {E : Value → Shared → Prop} {elt tg iter : Expr} {ifs : List Expr} {scope : Scope} {pos p : Pos} {ks : List Nat} {g : ATg} {src : AE} {t : AT} {e : AE} {Q : PV → AH → Prop} {use : Option (Value → Sem Unit)} {QQ : Value → Shared → Prop}
    (hs : SoundE c n sc iter src) (hg : SoundA c n ⟨relabelS scope sc, freeOf scope.names⟩ tg g) (ht : SoundCond c n ⟨relabelS scope sc, freeOf scope.names⟩ ifs t) (hel : SoundE c n ⟨relabelS scope sc, freeOf scope.names⟩ elt e) (hchk : compChk c.N scope sc ks = true) (hkind : scope.kind = .function)
    (hf : ∀ env x, foldedSetIterable iter env x = pure x) (hto : (∃ elts k pos, tg = .Tuple elts k pos) ∨ ∀ it v, letOwnedTupleGo tg it v = pure ())
    (hA : AOk n A) (he : EOk sc env) (R : ER c.base c.N env ρ s.heap) (S : St c.base H s) (q : aComp ks g src t e Q ρ H)
    (fin : ∀ a H' s' C, c.base.get? C = none → s.heap.objs.size ≤ C → (∃ m, s'.heap.Ns C m) → St c.base H' s' → Ext No No H s H' s' → Q (.ref a) H' → compPost (model c.prog c.w) A E use QQ (.ref a) C (.ok .next) s') :
    wpAny (model c.prog c.w) A (comprehension (.ListComp elt [⟨tg, iter, ifs, 0⟩] scope pos) scope env p (newList []) false (eval iter env) use) QQ E s := by
  unfold compChk at hchk
  simp only [Bool.and_eq_true, List.all_eq_true, beq_iff_eq, bne_iff_ne, ne_eq, Bool.or_eq_true, decide_eq_true_eq] at hchk
  obtain ⟨⟨⟨⟨c1, c2⟩, c3⟩, c4⟩, c5⟩ := hchk
  have hfr : ∀ x ∈ freeOf scope.names, ∃ cc, env.cells.lookup x = some cc := fun x hx => let ⟨cc, h1, _⟩ := he.cells x (c1 x hx); ⟨cc, h1⟩
  have hfr' : ∀ x ∈ freeOf scope.names, (env.cells.lookup x).isSome = true := fun x hx => by obtain ⟨cc, h1⟩ := hfr x hx; rw [h1]; rfl
  refine wpAny_comprehension_free (g := ⟨tg, iter, ifs, 0⟩) (gs := []) rfl (hf env) (closure_eq hfr') hkind (fun x hx h => (c4 x hx).resolve_left (fun q => q h)) ?_
  refine seq1 (F := fun p H1 => withItems p (fun items G H2 => ∀ a, H2 a = none → G (upd H2 a ⟨[], true⟩) ∧ compL g t e a G (fun H3 => Q (.ref a) H3) items (capt ks ρ) (upd H2 a ⟨[], true⟩)) H1) hs hA he R S q fun va pa H1 s1 h1 R1 S1 e1 q1 => ?_
  refine iter_sound (n := n) h1 S1 q1 fun I items P G J s2 it hj S2 e2 hP hG q2 => ?_
  have newAcc : wpAny (model c.prog c.w) A (newList []) (fun acc s3 => ∃ a H3, acc = .ref a ∧ a = s2.heap.objs.size ∧ H3 = upd H1 a ⟨[], true⟩ ∧ St c.base H3 s3 ∧ Ext No No H1 s2 H3 s3 ∧ s3 = { s2 with heap := s2.heap.push { cls := .type "list", data := .seq #[] } }) E s2 :=
    wpAny_newObj_type ⟨_, _, rfl, rfl, rfl, S2.newList (vs := #[]) .nil, Ext.newList _ _, rfl⟩ (by show (#[] : Array Value).size ≤ sizeLine; simp)
  refine wpAny_mono newAcc (fun acc s3 ⟨a, H3, e4, e5, e6, S3, e3, e7⟩ => ?_) fun _ _ x => x
  subst e4
  have ha : H1 a = none := S2.fresh (by rw [e5]; exact Nat.le_refl _)
  obtain ⟨q3, q4⟩ := q2 a ha
  rw [← e6] at q3 q4
  refine wpAny_newFunctionEnv c3 (fun _ h => nomatch h) (fun h' hn hsb => ?_) hkind
  generalize hC : s3.heap.objs.size = C at *
  have hk4 : ∀ b o, s3.heap.get? b = some o → h'.get? b = some o := fun b o hb => (hsb.2 b (fun e => by subst e; exact Nat.lt_irrefl _ (hC ▸ Heap.lt_size hb))).trans (Heap.get?_push_of_some _ hb)
  have hz4 : s3.heap.objs.size ≤ h'.objs.size := by rw [hsb.1]; simp
  have S4 : St c.base H3 { s3 with heap := h', toks := s3.toks + ([] : List (Str × Value)).length } := S3.of_keep (X := No) (fun b o _ h => hk4 b o h) (fun _ h => h.elim) (fun _ h => h.elim) (fun _ h => h.elim)
  have e34 : Ext No No H3 s3 H3 { s3 with heap := h', toks := s3.toks + ([] : List (Str × Value)).length } := Ext.of_keep (fun b o _ h => hk4 b o h) hz4
  have hs2 : s1.heap.objs.size ≤ s2.heap.objs.size := e2.size
  have hs3 : s2.heap.objs.size ≤ s3.heap.objs.size := e3.size
  have hs1 : s.heap.objs.size ≤ s1.heap.objs.size := e1.size
  rw [relabel_eq he]
  generalize hce : newEnv scope C env.globals (clOf env scope.names []) env.qual none .none (some env) builtinsNs = cenv0
  have hL0 : cenv0.locals = C := by rw [← hce]; rfl
  have hC0 : cenv0.cells = clOf env scope.names [] := by rw [← hce]; rfl
  have hG0 : cenv0.globals = env.globals := by rw [← hce]; rfl
  have hB0 : cenv0.builtins = env.builtins := by rw [← hce]; rfl
  have e14 : Ext No No H1 s1 H3 { s3 with heap := h', toks := s3.toks + ([] : List (Str × Value)).length } := (e2.trans e3).trans e34
  have R4 := R1.ext0 S1 e14
  have hcl : ∀ x cc, (clOf env scope.names []).lookup x = some cc → env.cells.lookup x = some cc := fun x cc h => clOf_sub scope.names [] hfr' (fun _ h => nomatch h) _ (mem_of_lookup h)
  have hbC : c.base.get? C = none := S3.bsize (by rw [hC]; exact Nat.le_refl _)
  have hlow : ∀ x cc, env.cells.lookup x = some cc → cc < s.heap.objs.size := fun x cc h => let ⟨w, hw⟩ := R.cells x cc h; hw.lt
  have hsC : s.heap.objs.size ≤ C := by rw [← hC]; omega
  have he4 : EOk ⟨relabelS scope sc, freeOf scope.names⟩ { cenv0 with scope := relabelS scope sc } := ⟨rfl, hkind, hG0.trans he.globals, hB0.trans he.builtins, fun x hx => by
    have hm := relabel_cell c3 hx
    obtain ⟨cc, hcc⟩ := hfr x hm
    exact ⟨cc, by show cenv0.cells.lookup x = _; rw [hC0, clOf_lookup hfr' hm]; exact hcc, fun h => absurd hm h⟩⟩
  have own4 : ∀ b, Own { cenv0 with scope := relabelS scope sc } b → b = C := by
    rintro b (h | ⟨h1, x, h2⟩)
    · exact h.trans hL0
    · have h3 := hlow x b (hcl x b (by rw [← hC0]; exact h2))
      have h4 : C < b := by rw [← hL0]; exact h1
      exact absurd (Nat.lt_of_lt_of_le h3 hsC) (Nat.lt_asymm h4)
  have ER4 : ER c.base c.N { cenv0 with scope := relabelS scope sc } (capt ks ρ) h' := {
    names := ⟨_, by show h'.Ns cenv0.locals _; rw [hL0]; exact hn, fun k p hp => by
      unfold capt at hp
      by_cases hkc : ks.contains k = true
      · rw [if_pos hkc] at hp
        obtain ⟨m, hm, hmk⟩ := R4.names
        obtain ⟨x, v, k1, k2, k3⟩ := hmk k p hp
        have c5' := c5 k (by simpa using hkc)
        rw [k1] at c5'
        simp only [Bool.and_eq_true, List.contains_iff_mem, beq_iff_eq] at c5'
        refine ⟨x, v, k1, k2, .inr ⟨.inl c5'.2, ?_⟩⟩
        have hsx : env.kindOf x = some .cell := by rw [he.kindOf]; exact c1 x c5'.1
        rcases k3 with ⟨k4, _⟩ | ⟨_, cc, k4, k5⟩
        · rw [hsx] at k4; cases k4
        · exact ⟨cc, by show cenv0.cells.lookup x = _; rw [hC0, clOf_lookup hfr' c5'.1]; exact k4, k5⟩
      · rw [if_neg hkc] at hp; cases hp⟩
    cells := fun x cc hx => R4.cells x cc (hcl x cc (by rw [← hC0]; exact hx))
    apart := by show cenv0.cells.Pairwise _; rw [hC0]; exact clOf_apart (base := c.base) R.apart scope.names [] hfr' c2 (fun _ h => nomatch h) .nil
    new := by show c.base.get? cenv0.locals = none; rw [hL0]; exact hbC
    cnew := fun x cc hx => R.cnew x cc (hcl x cc (by rw [← hC0]; exact hx)) }
  have hPC : ¬ P C := fun h => by have h1 := (hP C h).2; rw [← hC] at h1; omega
  have ownP : ∀ b, Own { cenv0 with scope := relabelS scope sc } b → ¬ P b := fun b hb => by rw [own4 b hb]; exact hPC
  have loop : codeAny (model c.prog c.w) A (.compLoop (.ListComp elt [⟨tg, iter, ifs, 0⟩] scope pos) 0 (.ref I) (.ref a) { cenv0 with scope := relabelS scope sc }) (compPost (model c.prog c.w) A E use QQ (.ref a) cenv0.locals) { s3 with heap := h', toks := s3.toks + ([] : List (Str × Value)).length } := by
    refine comp_loop (H₀ := H1) (s₀ := s1) (sc := ⟨relabelS scope sc, freeOf scope.names⟩) it hg ht hel hA he4 hto ownP (fun x cc hx hp => ?_) (it.frame No items H1 s2 H3 _ hj S2 (e3.trans e34) S4 (fun _ h => h.elim) (fun _ _ _ h => h) q3) ER4 S4 e14.of_no q4 fun H' s' ρ' R' S' ex' hQ => ?_
    · have h1 := hlow x cc (hcl x cc (by rw [← hC0]; exact hx))
      have h2 := (hP cc hp).1
      exact absurd (Nat.lt_of_lt_of_le h1 hs1) (Nat.not_lt.mpr h2)
    · have ee : Ext No No H s H' s' := e1.then_new ex' (fun b hb => .inr (by
        rcases hb with hb | hb
        · rw [own4 b hb]; exact hsC
        · exact Nat.le_trans hs1 (hP b hb).1)) (fun _ h => h.elim)
      rw [hL0]
      obtain ⟨m, hm, _⟩ := R'.names
      exact fin a H' s' C hbC hsC ⟨m, by rw [← hL0]; exact hm⟩ S' ee hQ
  exact codeAny_compStart_list loop (it.self A items H3 _ _ _ (it.frame No items H1 s2 H3 _ hj S2 (e3.trans e34) S4 (fun _ h => h.elim) (fun _ _ _ h => h) q3) loop)

theorem sound_comp {elt tg iter : Expr} {ifs : List Expr} {scope : Scope} {pos : Pos} {ks : List Nat} {g : ATg} {src : AE} {t : AT} {e : AE}
    (hs : SoundE c n sc iter src) (hg : SoundA c n ⟨relabelS scope sc, freeOf scope.names⟩ tg g) (ht : SoundCond c n ⟨relabelS scope sc, freeOf scope.names⟩ ifs t) (hel : SoundE c n ⟨relabelS scope sc, freeOf scope.names⟩ elt e) (hchk : compChk c.N scope sc ks = true) (hkind : scope.kind = .function)
    (hf : ∀ env x, foldedSetIterable iter env x = pure x) (hto : (∃ elts k pos, tg = .Tuple elts k pos) ∨ ∀ it v, letOwnedTupleGo tg it v = pure ()) :
    SoundE c n sc (.ListComp elt [⟨tg, iter, ifs, 0⟩] scope pos) (aComp ks g src t e) := by
  intro A env ρ H s Q E hA he R S q
  rw [eval_ListComp]
  refine comp_sound (use := none) hs hg ht hel hchk hkind hf hto hA he R S q fun a H' s' C hb hsC hm S' ee hQ => ?_
  obtain ⟨m, hm⟩ := hm
  refine ⟨m, hm, fun h2 hs2 => ?_⟩
  have S2 : St c.base H' { s' with heap := h2 } := st_upd (tk := s'.toks) S' hs2 hb (ns_dict hm)
  exact ⟨.ref a, H', .ref a, S2, ee.then_new (ext_upd (X := fun b => b = C) (tk := s'.toks) hs2 rfl) (fun b hb => .inr (hb ▸ hsC)) (fun _ h => h), hQ⟩
theorem exec_assign1 (tg v : Expr) (pos : Pos) (env : Env) : exec (.Assign [tg] v pos) env = (do
    standAt pos
    if ← swapsWithSole [tg] v pos.line env then do
      evalThenUse v env fun v => assignAll v ((assignEach [tg] env).map (·.2))
      pure .next
    else do
      let v' ← eval v env
      assignStores env v' (← swappedStores [tg] v env) ((assignEach [tg] env).map (·.2))) := rfl
theorem use_comp (elt : Expr) (gens : List Comprehension) (scope : Scope) (pos : Pos) (env : Env) (use : Value → Sem Unit) : evalThenUse (.ListComp elt gens scope pos) env use = (do
    let _ ← comprehension (.ListComp elt gens scope pos) scope env (firstIterPos gens pos) (newList []) (firstAsync gens) (firstIter gens env) (some use)) := rfl
theorem stmt_assign_comp {elt tg iter : Expr} {ifs : List Expr} {scope : Scope} {pos spos xpos : Pos} {x : Str} {k : Nat} {ks : List Nat} {g : ATg} {src : AE} {t : AT} {e : AE}
    (hs : SoundE c n sc iter src) (hg : SoundA c n ⟨relabelS scope sc, freeOf scope.names⟩ tg g) (ht : SoundCond c n ⟨relabelS scope sc, freeOf scope.names⟩ ifs t) (hel : SoundE c n ⟨relabelS scope sc, freeOf scope.names⟩ elt e) (hchk : compChk c.N scope sc ks = true) (hx : c.N[k]? = some x) (hk : sc.names.lookup x = some .local)
    (hsw : (xpos.line == pos.line && !(scope.names.any fun (n, k) => n == x && (k == .local || k == .cell))) = true) (hkind : scope.kind = .function)
    (hf : ∀ env x, foldedSetIterable iter env x = pure x) (hto : (∃ elts k pos, tg = .Tuple elts k pos) ∨ ∀ it v, letOwnedTupleGo tg it v = pure ()) :
    SoundS c n sc (.Assign [.Name x xpos] (.ListComp elt [⟨tg, iter, ifs, 0⟩] scope pos) spos) (sAssign (gName k) (aComp ks g src t e)) := by
  intro A env ρ H s Q E hA he R S q
  have hsole : swapsWithSole [.Name x xpos] (.ListComp elt [⟨tg, iter, ifs, 0⟩] scope pos) spos.line env = pure true := by
    show (pure (env.blockKind == .function && env.kindOf x == some .local && xpos.line == pos.line && !(scope.names.any fun (n, k) => n == x && (k == .local || k == .cell))) : Sem Bool) = _
    have h1 : env.kindOf x = some .local := by rw [he.kindOf]; exact hk
    have h2 : env.blockKind = .function := by unfold Env.blockKind; rw [he.skind]; rfl
    rw [h1, h2]
    simp only [Bool.and_eq_true] at hsw
    simp [hsw.1, hsw.2]
  rw [exec_assign1, hsole]
  refine wpAny_bind (wpAny_standAt (wpAny_bind (wpAny_pure ?_)))
  simp only [if_true]
  rw [use_comp]
  refine wpAny_bind (wpAny_bind ?_)
  show wpAny _ _ (comprehension (.ListComp elt [⟨tg, iter, ifs, 0⟩] scope pos) scope env iter.pos (newList []) false (eval iter env) (some fun v => assign (.Name x xpos) env v)) _ _ _
  refine comp_sound (use := some fun v => assign (.Name x xpos) env v) (Q := fun p H1 => Q .next (upd ρ k p) H1) hs hg ht hel hchk hkind hf hto hA he R S q fun a H' s' C hb hsC hm S' ee hQ => ?_
  obtain ⟨m, hm⟩ := hm
  show wpAny _ _ (assign (.Name x xpos) env (.ref a)) _ _ _
  refine wpAny_assign_Name (store_var he (R.ext0 S ee) S' hx (.inl hk) (.ref a) fun s3 R3 S3 e3 => ?_)
  have hCO : ¬ Own env C := fun h => Nat.lt_irrefl _ (Nat.lt_of_lt_of_le (own_lt R h) hsC)
  have hm3 := ns_stays S' e3 hm hCO
  refine ⟨m, hm3, fun h4 hs4 => wpAny_pure (wpAny_pure ?_)⟩
  have S4 : St c.base H' { s3 with heap := h4 } := st_upd (tk := s3.toks) S3 hs4 hb (ns_dict hm3)
  have e4 : Ext (fun b => b = C) No H' s3 H' { s3 with heap := h4 } := ext_upd (tk := s3.toks) hs4 rfl
  have R4 : ER c.base c.N env (upd ρ k (.ref a)) h4 := R3.ext' S3 e4 (imm_upd hs4 (ns_dict hm3)) (fun h => hCO (.inl h.symm)) (fun y cc hy h => by
    subst h
    obtain ⟨w, hw⟩ := R.cells y cc hy
    exact Nat.lt_irrefl _ (Nat.lt_of_lt_of_le hw.lt hsC))
  exact ⟨.next, _, H', .next, R4, S4, (ee.of_no.trans e3).then_new e4 (fun b hb => .inr (hb ▸ hsC)) (fun _ h => h.elim), hQ⟩
end
end Mine
open PySem PySem.W PySem.Calls PyProof.Rows
set_option Elab.async false
set_option linter.unusedVariables false
namespace Mine

theorem well_ints {P : Params} {h : Heap} : ∀ (vs : List Value) (ns : List Int), WellAll P h vs (ns.map .int) → VAll h vs (ns.map .int)
  | _, [], .nil => .nil
  | _, i :: ns, .cons hv hr => by
    cases hv
    exact .cons (.int i _) (well_ints _ ns hr)

/-- the same run, its names numbered by N -/
abbrev Cx.on (c : Cx) (N : List Str) (h : N.Nodup) : Cx := { c with N := N, nodup := h }

/-- the text's i-th statement, a def: its parts -/
def fnRec (p : Program) (i : Nat) : DefRec := match p.main.body[i]? with
  | some (.FunctionDef name a b _ _ _ sc _ _ pos) => ⟨name, a, b, sc, pos⟩
  | _ => ⟨Str.empty, ⟨[], [], none, [], [], none, []⟩, [], { kind := .function, names := [], isGenerator := false, isCoroutine := false }, ⟨0, 0, 0, 0⟩⟩

/-- from the law's own function to the claim -/
theorem link {l : OpenLaw} {q : Program} {loose : List Str} {XP : (Str → Option Value) → Heap → Prop} {YP : World → Heap → Prop} {d : DefRec} {kwd : List (Str × Expr)} (N : List Str) (hN : N.Nodup) (hm : l.most = some 63) (hb : l.bound = none)
    (main : ∀ c : Cx, c.q = q → c.loose = looseW q loose → ∃ k f, k ≤ 500 ∧ SoundF (c.on N hN) k d.name f ∧ ∀ (ns : List Int) (a : Nat) (H : AH), ns.length ≤ 63 → H a = some ⟨ns.map .int, false⟩ → f [.ref a] (fun p _ => p = .bool true) H) :
    WalkO q loose XP YP l.row.toRowW d kwd fun f vs => PySem.call f vs := by
  intro w s₀ s₁ mg mb G Y fa o pm cd doc dV kV ho hd hcd hD hmg hg args vals as hpre hlay hrd hwl hlo
  have hpre' : (WShape.hasAll [] args [.list .int] && l.pre.holds [] { args := args }) = true := hpre
  simp only [Bool.and_eq_true] at hpre'
  obtain ⟨p1, p2⟩ := hpre'
  have one : ∃ ns : List Int, args = [.list (ns.map .int)] := by
    cases args with
    | nil => cases p1
    | cons x r =>
      have p3 : (WShape.has [] x (.list .int) && WShape.hasAll [] r []) = true := p1
      simp only [Bool.and_eq_true] at p3
      cases r with
      | cons y r => exact nomatch p3.2
      | nil =>
        obtain ⟨xs, e1, h1⟩ := hasW_list p3.1
        obtain ⟨ns, e2⟩ := items_int h1
        exact ⟨ns, by rw [e1, e2]⟩
  obtain ⟨ns, rfl⟩ := one
  have hlen : ns.length ≤ 63 := by
    unfold OpenLaw.pre at p2
    rw [hm, hb] at p2
    have hv := w_and (w_not (w_lt (w_lit (R := []) (e := { args := [.list (ns.map .int)] }) (d := .int (63 : Nat))) (w_len_list (w_arg (i := 0) rfl)))) (w_lit (d := .bool true))
    unfold WTm.holds at p2
    rw [hv] at p2
    cases hd : decide (((63 : Nat) : Int) < (((ns.map WData.int).length : Nat) : Int)) with
    | true => rw [hd] at p2; cases p2
    | false => have := of_decide_eq_false hd; simp at this; omega
  obtain ⟨vl, rfl⟩ : ∃ vl, vals = [vl] := by
    cases hwl with
    | cons h1 h2 => cases h2; exact ⟨_, rfl⟩
  cases hwl with
  | cons h1 h2 =>
    cases h1 with
    | list hget hws =>
      rename_i la vs
      let c : Cx := ⟨l.prog, w, s₁.heap, q, looseW q loose, _, mg, mb, G.T, N, hN⟩
      obtain ⟨k, f, hk, ⟨a', o', fd, m1, m2, m3, hf⟩, hmain⟩ := main c rfl rfl
      have ea : a' = fa := by
        have : mg d.name = some (.ref a') := m1
        rw [hmg] at this; cases this; rfl
      subst ea
      let H : AH := fun b => if b = la then some ⟨ns.map .int, false⟩ else none
      have hH : ∀ b x, H b = some x → b = la ∧ x = ⟨ns.map .int, false⟩ := by
        intro b x hx
        by_cases e : b = la
        · simp [H, e] at hx; exact ⟨e, hx.symm⟩
        · simp [H, e] at hx
      have S : St c.base H s₁ := ⟨⟨fun _ _ h => h, fun b x hx => by
          obtain ⟨rfl, rfl⟩ := hH b x hx
          exact ⟨vs.toArray, 0, hget, by simpa using well_ints vs ns hws⟩, fun b x hx ho => by
          obtain ⟨rfl, rfl⟩ := hH b x hx
          cases ho⟩, by rw [hg]; exact AllBare.empty⟩
      have hA : AOk k callerA := ⟨rfl, by show 1 + claimMargin + k ≤ 900; simp only [claimMargin]; omega, by show 4 + 10 * k ≤ 9000; omega⟩
      refine wpAny_mono (hf callerA H s₁ [.ref la] [.ref la] _ _ hA (.one (.ref la)) S (hmain ns la H hlen (by simp [H]))) (fun v s' rr => rr.elim fun p H' hv S' e hp => ?_) fun _ _ x => x
      subst hp
      cases hv
      refine ⟨.inl ⟨.bool true, .bool true, [], rfl, fun _ => rfl, .bool true, postW_of (r := l.row.toRowW) (X := true == true) (by show WShape.has [] (.bool true) .bool = true; decide +kernel) (by show (WTm.eq .res (.lit (.bool true))).value [] _ = _; exact w_eq_bool (w_res rfl) w_lit) rfl, fun _ => ⟨List.nodup_nil, fun _ h => nomatch h⟩⟩, OldK.of_keep fun b o hb => e.keep b o hb (fun h => h) fun x hx => ?_, e.os, S'.bare⟩
      obtain ⟨_, rfl⟩ := hH b x hx
      rfl
end Mine
open PySem PySem.W PySem.Calls PyProof.Rows
set_option Elab.async false
set_option linter.unusedVariables false
namespace Mine
section
variable {c : Cx} {n : Nat} {sc : SE}
theorem no_inter {env : Env} (h : EOk sc env) : interactive env = false := by
  unfold interactive; rw [h.skind]; rfl
def opNeg (a : PV) (Q : PV → AH → Prop) (H : AH) : Prop := match a with | .int x => Q (.int (-x)) H | _ => False
theorem op_negI : SoundOp1 c n (unaryOp .USub) opNeg := op_neg
def noSwap (ts : List Expr) : Bool := ts.any fun | .Name .. => false | _ => true
end
end Mine
open PySem PySem.W PySem.Calls PyProof.Rows
set_option Elab.async false
set_option linter.unusedVariables false
namespace Mine

-- plain data without lists
mutual
def pd : PV → PyData
  | .none => .none
  | .bool b => .bool b
  | .int i => .int i
  | .str x => .str ⟨x.toArray⟩
  | .tup xs => .tuple (pds xs)
  | .ref _ => .none
  | .rng _ _ => .none
def pds : List PV → List PyData
  | [] => []
  | x :: xs => pd x :: pds xs
end
mutual
def flat : Nat → PV → Bool
  | n + 1, .tup xs => flats n xs
  | 0, .tup _ => false
  | _, .ref _ => false
  | _, .rng _ _ => false
  | _, _ => true
def flats : Nat → List PV → Bool
  | _, [] => true
  | n, x :: xs => flat n x && flats n xs
end
mutual
theorem rd_flat {H : AH} : ∀ (n : Nat) (p : PV), flat n p = true → Rd H n p (pd p)
  | n, .none, _ => by cases n <;> exact .none _
  | n, .bool b, _ => by cases n <;> exact .bool _ b
  | n, .int i, _ => by cases n <;> exact .int _ i
  | n, .str x, _ => by cases n <;> exact .str _ x
  | n + 1, .tup xs, h => .tup (rd_flats n xs (by simpa [flat] using h))
  | 0, .tup xs, h => by simp [flat] at h
  | n, .ref _, h => by cases n <;> simp [flat] at h
  | n, .rng _ _, h => by cases n <;> simp [flat] at h
theorem rd_flats {H : AH} : ∀ (n : Nat) (ps : List PV), flats n ps = true → RdAll H n ps (pds ps)
  | n, [], _ => .nil n
  | n, p :: ps, h => by
    simp only [flats, Bool.and_eq_true] at h
    exact .cons (rd_flat n p h.1) (rd_flats n ps h.2)
end
theorem flats_all {n : Nat} : ∀ {ps : List PV}, (∀ p ∈ ps, flat n p = true) → flats n ps = true
  | [], _ => rfl
  | p :: ps, h => by simp only [flats, Bool.and_eq_true]; exact ⟨h p (.head _), flats_all fun q hq => h q (.tail _ hq)⟩
theorem Rd.same {H : AH} {n : Nat} {p : PV} {d : PyData} (h : Rd H n p d) : PyData.eqv d d = true :=
  Rd.rec (motive_1 := fun _ _ d _ => PyData.eqv d d = true) (motive_2 := fun _ _ ds _ => PyData.eqvAll ds ds = true) (fun _ => rfl) (fun _ b => by simp [PyData.eqv]) (fun _ i => by simp [PyData.eqv]) (fun _ x => by simp [PyData.eqv]) (fun _ h => by simp [PyData.eqv, h]) (fun _ _ h => by simp [PyData.eqv, h]) (fun _ => rfl) (fun _ _ h k => by simp [PyData.eqvAll, h, k]) h

/-- two lists of flat items, equal ones -/
theorem cmp_lists {H : AH} {a b : Nat} {x y : LO} {Q : Bool → AH → Prop} (ha : H a = some x) (hb : H b = some y) (hf : flats 19 x.items = true) (he : y.items = x.items) (q : Q true H) : cmpEq (.ref a) (.ref b) Q H := by
  have r1 : Rd H 20 (.ref a) (.list (pds x.items)) := .ref ha (rd_flats 19 _ hf)
  have r2 : Rd H 20 (.ref b) (.list (pds x.items)) := .ref hb (by rw [he]; exact rd_flats 19 _ hf)
  exact ⟨_, _, r1, r2, by rw [r1.same]; exact q⟩
theorem upd_at {α : Type} (f : Nat → Option α) (k j : Nat) (v : α) : upd f k v j = if j = k then some v else f j := rfl
end Mine
open PySem PySem.W PySem.Calls PyProof.Rows
set_option Elab.async false
set_option linter.unusedVariables false
namespace Mine

-- all is monotone in what is asked of the end
def MonoE (e : AE) : Prop := ∀ (Q Q' : PV → AH → Prop) (ρ : AEnv) (H : AH), (∀ p H, Q p H → Q' p H) → e Q ρ H → e Q' ρ H
def MonoL (e : AL) : Prop := ∀ (Q Q' : List PV → AH → Prop) (ρ : AEnv) (H : AH), (∀ p H, Q p H → Q' p H) → e Q ρ H → e Q' ρ H
def MonoT (e : AT) : Prop := ∀ (Q Q' : Bool → AH → Prop) (ρ : AEnv) (H : AH), (∀ p H, Q p H → Q' p H) → e Q ρ H → e Q' ρ H
def MonoS (e : AS) : Prop := ∀ (Q Q' : Fl → AEnv → AH → Prop) (ρ : AEnv) (H : AH), (∀ f ρ H, Q f ρ H → Q' f ρ H) → e Q ρ H → e Q' ρ H
def MonoG (g : ATg) : Prop := ∀ (p : PV) (Q Q' : AEnv → AH → Prop) (ρ : AEnv) (H : AH), (∀ ρ H, Q ρ H → Q' ρ H) → g p Q ρ H → g p Q' ρ H
def MonoF (f : AF) : Prop := ∀ (ps : List PV) (Q Q' : PV → AH → Prop) (H : AH), (∀ p H, Q p H → Q' p H) → f ps Q H → f ps Q' H
def MonoO2 (f : PV → PV → (PV → AH → Prop) → AH → Prop) : Prop := ∀ (a b : PV) (Q Q' : PV → AH → Prop) (H : AH), (∀ p H, Q p H → Q' p H) → f a b Q H → f a b Q' H
def MonoO1 (f : PV → (PV → AH → Prop) → AH → Prop) : Prop := ∀ (a : PV) (Q Q' : PV → AH → Prop) (H : AH), (∀ p H, Q p H → Q' p H) → f a Q H → f a Q' H

theorem newL_mono {ps : List PV} {Q Q' : PV → AH → Prop} {H : AH} (h : ∀ p H, Q p H → Q' p H) (q : newL ps Q H) : newL ps Q' H := fun a ha => h _ _ (q a ha)

theorem m_var {k : Nat} : MonoE (aVar k) := by intro Q Q' ρ H h q; unfold aVar at *; split <;> simp_all
theorem m_cst {p : PV} : MonoE (aCst p) := fun Q Q' ρ H h q => h _ _ q
theorem m_bin {f} {a b : AE} (hf : MonoO2 f) (ha : MonoE a) (hb : MonoE b) : MonoE (aBin f a b) := fun Q Q' ρ H h q => ha _ _ _ _ (fun p H1 q1 => hb _ _ _ _ (fun p2 H2 q2 => hf _ _ _ _ _ h q2) q1) q
theorem m_un {f} {a : AE} (hf : MonoO1 f) (ha : MonoE a) : MonoE (aUn f a) := fun Q Q' ρ H h q => ha _ _ _ _ (fun p H1 q1 => hf _ _ _ _ h q1) q
theorem mo_add : MonoO2 opAdd := by
  intro a b Q Q' H h q
  unfold opAdd at *
  split at q
  · exact h _ _ q
  · exact ⟨q.1, h _ _ q.2⟩
  · split at q
    · exact ⟨q.1, newL_mono h q.2⟩
    · exact q.elim
  · exact q.elim
theorem mo_sub : MonoO2 opSub := by
  intro a b Q Q' H h q; unfold opSub at *; split at q
  · exact h _ _ q
  · exact q.elim
theorem mo_div : MonoO2 opDiv := by
  intro a b Q Q' H h q; unfold opDiv at *; split at q
  · exact ⟨q.1, h _ _ q.2⟩
  · exact q.elim
theorem mo_mod : MonoO2 opMod := by
  intro a b Q Q' H h q; unfold opMod at *; split at q
  · exact ⟨q.1, h _ _ q.2⟩
  · exact q.elim
theorem mo_neg : MonoO1 opNeg := by
  intro a Q Q' H h q; unfold opNeg at *; split at q
  · exact h _ _ q
  · exact q.elim
theorem mo_item : MonoO2 opItem := by
  intro a b Q Q' H h q; unfold opItem at *
  split at q
  · split at q
    · skip
      split at q
      · exact ⟨q.1, h _ _ q.2⟩
      · exact q.elim
    · exact q.elim
  · split at q
    · exact ⟨q.1, h _ _ q.2⟩
    · exact q.elim
  · split at q
    · exact ⟨q.1, h _ _ q.2⟩
    · exact q.elim
  · exact q.elim
theorem m_cmp {op : CmpOp} {a b : AE} (ha : MonoE a) (hb : MonoE b) : MonoE (aCmp op a b) :=
  m_bin (fun a b Q Q' H h q => cmpOp_mono (fun k H => h _ H) q) ha hb
theorem truth_mono {a : PV} {Q Q' : Bool → AH → Prop} {H : AH} (h : ∀ p H, Q p H → Q' p H) (q : truth a Q H) : truth a Q' H := by
  unfold truth at *
  split at q
  · exact h _ _ q
  · exact h _ _ q
  · exact h _ _ q
  · exact ⟨q.1, h _ _ q.2⟩
  · split at q
    · exact ⟨q.1, h _ _ q.2⟩
    · exact q.elim
  · exact q.elim
  · exact q.elim
theorem mt_val {a : AE} (ha : MonoE a) : MonoT (tVal a) := fun Q Q' ρ H h q => ha _ _ _ _ (fun p H1 q1 => truth_mono h q1) q
theorem mt_not {a : AT} (ha : MonoT a) : MonoT (tNot a) := fun Q Q' ρ H h q => ha _ _ _ _ (fun p H1 q1 => h _ _ q1) q
theorem mt_and {a b : AT} (ha : MonoT a) (hb : MonoT b) : MonoT (tAnd a b) := fun Q Q' ρ H h q => ha _ _ _ _ (fun p H1 q1 => by
  cases p
  · exact h _ _ (by simpa using q1)
  · exact hb _ _ _ _ h (by simpa using q1)) q
theorem mt_or {a b : AT} (ha : MonoT a) (hb : MonoT b) : MonoT (tOr a b) := fun Q Q' ρ H h q => ha _ _ _ _ (fun p H1 q1 => by
  cases p
  · exact hb _ _ _ _ h (by simpa using q1)
  · exact h _ _ (by simpa using q1)) q
theorem mt_true : MonoT tTrue := fun Q Q' ρ H h q => h _ _ q
theorem mt_false : MonoT tFalse := fun Q Q' ρ H h q => h _ _ q
theorem mt_cmp {op : CmpOp} {a b : AE} (ha : MonoE a) (hb : MonoE b) : MonoT (tCmp op a b) := fun Q Q' ρ H h q => ha _ _ _ _ (fun p H1 q1 => hb _ _ _ _ (fun p2 H2 q2 => cmpOp_mono h q2) q1) q
theorem m_not {a : AE} (ha : MonoE a) : MonoE (aNot a) := fun Q Q' ρ H h q => ha _ _ _ _ (fun p H1 q1 => truth_mono (fun _ _ x => h _ _ x) q1) q
theorem m_if {t : AT} {a b : AE} (ht : MonoT t) (ha : MonoE a) (hb : MonoE b) : MonoE (aIf t a b) := fun Q Q' ρ H h q => ht _ _ _ _ (fun p H1 q1 => by
  cases p
  · exact hb _ _ _ _ h (by simpa using q1)
  · exact ha _ _ _ _ h (by simpa using q1)) q
theorem ml_nil : MonoL lNil := fun Q Q' ρ H h q => h _ _ q
theorem ml_cons {a : AE} {l : AL} (ha : MonoE a) (hl : MonoL l) : MonoL (lCons a l) := fun Q Q' ρ H h q => ha _ _ _ _ (fun p H1 q1 => hl _ _ _ _ (fun ps H2 q2 => h _ _ q2) q1) q
theorem m_tup {l : AL} (hl : MonoL l) : MonoE (aTup l) := fun Q Q' ρ H h q => hl _ _ _ _ (fun p H1 q1 => ⟨q1.1, h _ _ q1.2⟩) q
theorem m_list {l : AL} (hl : MonoL l) : MonoE (aList l) := fun Q Q' ρ H h q => hl _ _ _ _ (fun p H1 q1 => ⟨q1.1, newL_mono h q1.2⟩) q
theorem m_call {f : AF} {l : AL} (hf : MonoF f) (hl : MonoL l) : MonoE (aCall f l) := fun Q Q' ρ H h q => hl _ _ _ _ (fun p H1 q1 => hf _ _ _ _ h q1) q
theorem m_meth {K} {f : AF} {o : AE} {l : AL} (hf : MonoF f) (ho : MonoE o) (hl : MonoL l) : MonoE (aMeth K f o l) := fun Q Q' ρ H h q => ho _ _ _ _ (fun p H1 q1 => ⟨q1.1, hl _ _ _ _ (fun ps H2 q2 => hf _ _ _ _ h q2) q1.2⟩) q
theorem m_slice {a b d e : AE} (ha : MonoE a) (hb : MonoE b) (hd : MonoE d) (he : MonoE e) : MonoE (aSlice a b d e) := fun Q Q' ρ H h q =>
  ha _ _ _ _ (fun p1 H1 q1 => hb _ _ _ _ (fun p2 H2 q2 => hd _ _ _ _ (fun p3 H3 q3 => he _ _ _ _ (fun p4 H4 q4 => by
    unfold opSlice at *
    split at q4
    · split at q4
      · split at q4
        · exact ⟨q4.1, newL_mono h q4.2⟩
        · exact q4.elim
      · exact ⟨q4.1, h _ _ q4.2⟩
      · exact q4.elim
    · exact q4.elim) q3) q2) q1) q
theorem withOwn_mono {p : PV} {k k' : Nat → List PV → Prop} {H : AH} (h : ∀ a xs, k a xs → k' a xs) (q : withOwn p k H) : withOwn p k' H := by
  unfold withOwn at *
  split at q
  · split at q
    · exact ⟨q.1, h _ _ q.2⟩
    · exact q.elim
  · exact q.elim
theorem mf_len : MonoF fLen := by
  intro ps Q Q' H h q; unfold fLen at *
  split at q
  · split at q
    · exact ⟨q.1, h _ _ q.2⟩
    · exact q.elim
  · exact ⟨q.1, h _ _ q.2⟩
  · exact ⟨q.1, h _ _ q.2⟩
  · exact q.elim
theorem mf_append : MonoF fAppend := by
  intro ps Q Q' H h q; unfold fAppend at *
  split at q
  · exact withOwn_mono (fun a xs q => ⟨q.1, h _ _ q.2⟩) q
  · exact q.elim
theorem mg_name {k : Nat} : MonoG (gName k) := fun p Q Q' ρ H h q => h _ _ q
inductive MonoGs : List ATg → Prop
  | nil : MonoGs []
  | cons {g : ATg} {gs : List ATg} : MonoG g → MonoGs gs → MonoGs (g :: gs)
theorem go_mono : ∀ {gs : List ATg}, MonoGs gs → ∀ (ps : List PV) (Q Q' : AEnv → AH → Prop) (ρ : AEnv) (H : AH), (∀ ρ H, Q ρ H → Q' ρ H) → gTup.go gs ps Q ρ H → gTup.go gs ps Q' ρ H
  | _, .nil, ps, Q, Q', ρ, H, h, q => by simp only [gTup.go] at *; exact h _ _ q
  | _, .cons hg hgs, [], Q, Q', ρ, H, h, q => by simp only [gTup.go] at *; exact h _ _ q
  | _, .cons hg hgs, p :: ps, Q, Q', ρ, H, h, q => by
    simp only [gTup.go] at *
    exact hg _ _ _ _ _ (fun ρ1 H1 q1 => go_mono hgs ps Q Q' ρ1 H1 h q1) q
theorem mg_tup {gs : List ATg} (hg : MonoGs gs) : MonoG (gTup gs) := by
  intro p Q Q' ρ H h q; unfold gTup at *
  split at q
  · exact ⟨q.1, go_mono hg _ _ _ _ _ h q.2⟩
  · exact q.elim

-- statements
theorem ms_nil : MonoS sNil := fun Q Q' ρ H h q => h _ _ _ q
theorem ms_cons {a b : AS} (ha : MonoS a) (hb : MonoS b) : MonoS (sCons a b) := fun Q Q' ρ H h q => ha _ _ _ _ (fun fl ρ1 H1 q1 => by
  cases fl with
  | next => exact hb _ _ _ _ h q1
  | brk => exact h _ _ _ q1
  | cont => exact h _ _ _ q1
  | ret p => exact h _ _ _ q1) q
theorem ms_assign {g : ATg} {a : AE} (ha : MonoE a) (hg : MonoG g) : MonoS (sAssign g a) := fun Q Q' ρ H h q => ha _ _ _ _ (fun p H1 q1 => hg _ _ _ _ _ (fun ρ2 H2 q2 => h _ _ _ q2) q1) q
theorem ms_ret {a : AE} (ha : MonoE a) : MonoS (sRet a) := fun Q Q' ρ H h q => ha _ _ _ _ (fun p H1 q1 => h _ _ _ q1) q
theorem ms_if {t : AT} {a b : AS} (ht : MonoT t) (ha : MonoS a) (hb : MonoS b) : MonoS (sIf t a b) := fun Q Q' ρ H h q => ht _ _ _ _ (fun p H1 q1 => by
  cases p
  · exact hb _ _ _ _ h (by simpa using q1)
  · exact ha _ _ _ _ h (by simpa using q1)) q
theorem ms_expr {a : AE} (ha : MonoE a) : MonoS (sExpr a) := fun Q Q' ρ H h q => ha _ _ _ _ (fun p H1 q1 => h _ _ _ q1) q
theorem ms_aug {k : Nat} {f} {a : AE} (hf : MonoO2 f) (ha : MonoE a) : MonoS (sAug k f a) := by
  intro Q Q' ρ H h q; unfold sAug at *
  split at q
  · exact ha _ _ _ _ (fun p H1 q1 => hf _ _ _ _ _ (fun p2 H2 q2 => h _ _ _ q2) q1) q
  · exact q.elim
theorem withItems_mono {p : PV} {k k' : List PV → (AH → Prop) → AH → Prop} {H : AH} (h : ∀ xs G H, k xs G H → k' xs G H) (q : withItems p k H) : withItems p k' H := by
  unfold withItems at *
  split at q
  · split at q
    · exact h _ _ _ q
    · exact q.elim
  · exact h _ _ _ q
  · exact h _ _ _ q
  · exact ⟨q.1, h _ _ _ q.2⟩
  · exact q.elim

/-- a loop by what holds ahead of each turn -/
theorem forL_inv {g : ATg} {body : AS} {G : AH → Prop} {Q : Fl → AEnv → AH → Prop} (mg : MonoG g) (mb : MonoS body) (I : List PV → AEnv → AH → Prop)
    (step : ∀ p ps ρ H, I (p :: ps) ρ H → g p (fun ρ1 H1 => body (fun fl ρ2 H2 => match fl with
      | .next => G H2 ∧ I ps ρ2 H2
      | .cont => G H2 ∧ I ps ρ2 H2
      | .brk => Q .next ρ2 H2
      | .ret v => Q (.ret v) ρ2 H2) ρ1 H1) ρ H) (fin : ∀ ρ H, I [] ρ H → Q .next ρ H) : ∀ (items : List PV) (ρ : AEnv) (H : AH), I items ρ H → forL g body G Q items ρ H
  | [], ρ, H, hi => fin ρ H hi
  | p :: ps, ρ, H, hi => by
    refine mg _ _ _ _ _ (fun ρ1 H1 q1 => mb _ _ _ _ (fun fl ρ2 H2 q2 => ?_) q1) (step p ps ρ H hi)
    cases fl with
    | next => exact ⟨q2.1, forL_inv mg mb I step fin ps ρ2 H2 q2.2⟩
    | cont => exact ⟨q2.1, forL_inv mg mb I step fin ps ρ2 H2 q2.2⟩
    | brk => exact q2
    | ret v => exact q2
theorem whileN_inv {t : AT} {body : AS} {Q : Fl → AEnv → AH → Prop} (mt : MonoT t) (mb : MonoS body) (I : Nat → AEnv → AH → Prop)
    (step : ∀ k ρ H, I k ρ H → t (fun r H1 => if r then body (fun fl ρ2 H2 => match fl with
      | .next => ∃ j, j < k ∧ I j ρ2 H2
      | .cont => ∃ j, j < k ∧ I j ρ2 H2
      | .brk => Q .next ρ2 H2
      | .ret v => Q (.ret v) ρ2 H2) ρ H1 else Q .next ρ H1) ρ H) : ∀ (n k : Nat), k < n → ∀ (ρ : AEnv) (H : AH), I k ρ H → whileN t body Q n ρ H
  | 0, k, hk, _, _, _ => absurd hk (Nat.not_lt_zero _)
  | n + 1, k, hk, ρ, H, hi => by
    refine mt _ _ _ _ (fun r H1 q1 => ?_) (step k ρ H hi)
    cases r with
    | false => simpa using q1
    | true =>
      simp only [if_true] at q1 ⊢
      refine mb _ _ _ _ (fun fl ρ2 H2 q2 => ?_) q1
      cases fl with
      | next => obtain ⟨j, hj, q2⟩ := q2; exact whileN_inv mt mb I step n j (by omega) ρ2 H2 q2
      | cont => obtain ⟨j, hj, q2⟩ := q2; exact whileN_inv mt mb I step n j (by omega) ρ2 H2 q2
      | brk => exact q2
      | ret v => exact q2
theorem while_inv {t : AT} {body : AS} {Q : Fl → AEnv → AH → Prop} {ρ : AEnv} {H : AH} (mt : MonoT t) (mb : MonoS body) (I : Nat → AEnv → AH → Prop) (k : Nat) (hi : I k ρ H)
    (step : ∀ k ρ H, I k ρ H → t (fun r H1 => if r then body (fun fl ρ2 H2 => match fl with
      | .next => ∃ j, j < k ∧ I j ρ2 H2
      | .cont => ∃ j, j < k ∧ I j ρ2 H2
      | .brk => Q .next ρ2 H2
      | .ret v => Q (.ret v) ρ2 H2) ρ H1 else Q .next ρ H1) ρ H) : sWhile t body Q ρ H := ⟨k + 1, whileN_inv mt mb I step (k + 1) k (Nat.lt_succ_self _) ρ H hi⟩
theorem ms_while {t : AT} {body : AS} (mt : MonoT t) (mb : MonoS body) : MonoS (sWhile t body) := by
  intro Q Q' ρ H h ⟨k, q⟩
  refine ⟨k, ?_⟩
  revert ρ H
  induction k with
  | zero => intro ρ H q; exact q
  | succ k ih =>
    intro ρ H q
    refine mt _ _ _ _ (fun r H1 q1 => ?_) q
    cases r with
    | false => simp only [Bool.false_eq_true, if_false] at q1 ⊢; exact h _ _ _ q1
    | true =>
      simp only [if_true] at q1 ⊢
      refine mb _ _ _ _ (fun fl ρ2 H2 q2 => ?_) q1
      cases fl with
      | next => exact ih _ _ q2
      | cont => exact ih _ _ q2
      | brk => exact h _ _ _ q2
      | ret v => exact h _ _ _ q2
theorem mf_fn {ks : List Nat} {b : AS} (hb : MonoS b) : MonoF (aFn ks b) := fun ps Q Q' H h q => ⟨q.1, hb _ _ _ _ (fun fl ρ1 H1 q1 => by
  cases fl with
  | next => exact h _ _ q1
  | brk => exact q1
  | cont => exact q1
  | ret p => exact h _ _ q1) q.2⟩

-- comprehensions
theorem m_comp {ks : List Nat} {g : ATg} {src : AE} {t : AT} {e : AE} (hs : MonoE src) (mg : MonoG g) (mt : MonoT t) (me : MonoE e) : MonoE (aComp ks g src t e) := fun Q Q' ρ H h q =>
  hs _ _ _ _ (fun p H1 q1 => withItems_mono (fun xs G H2 q2 a ha => ⟨(q2 a ha).1, by
    have := (q2 a ha).2
    revert this
    generalize upd H2 a ⟨[], true⟩ = H3
    generalize capt ks ρ = ρ3
    clear q2
    induction xs generalizing ρ3 H3 with
    | nil => intro q; exact h _ _ q
    | cons p ps ih =>
      intro q
      refine mg _ _ _ _ _ (fun ρ1 H1 q1 => mt _ _ _ _ (fun b H2 q2 => ?_) q1) q
      cases b with
      | false => simp only [Bool.false_eq_true, if_false] at q2 ⊢; exact ⟨q2.1, ih _ _ q2.2⟩
      | true =>
        simp only [if_true] at q2 ⊢
        exact me _ _ _ _ (fun v H3 q3 => mf_append _ _ _ _ (fun _ H4 q4 => ⟨q4.1, ih _ _ q4.2⟩) q3) q2⟩) q1) q

def Keep (H H' : AH) : Prop := ∀ a x, H a = some x → H' a = some x
def KeepBut (X : List Nat) (H H' : AH) : Prop := ∀ a x, a ∉ X → H a = some x → H' a = some x
theorem Keep.refl {H : AH} : Keep H H := fun _ _ h => h
theorem Keep.trans {H H' H'' : AH} (h : Keep H H') (k : Keep H' H'') : Keep H H'' := fun a x q => k a x (h a x q)
theorem Keep.upd {H H' : AH} {a : Nat} {y : LO} (h : Keep H H') (ha : H a = none) : Keep H (upd H' a y) := fun b x q => by
  have : b ≠ a := by rintro rfl; rw [ha] at q; cases q
  rw [upd_other _ _ this]; exact h b x q
theorem Keep.new {H : AH} {a : Nat} {y : LO} (ha : H a = none) : Keep H (Mine.upd H a y) := Keep.refl.upd ha
theorem ne_new {H : AH} {a b : Nat} {x : LO} (h : H b = some x) (ha : H a = none) : b ≠ a := by rintro rfl; rw [ha] at h; cases h

/-- a comprehension whose parts write nothing -/
theorem compL_run {g : ATg} {t : AT} {e : AE} {a : Nat} {G Q : AH → Prop} (mg : MonoG g) (mt : MonoT t) (me : MonoE e) (J : AEnv → Prop) (val : PV → Option PV) {H₀ : AH} (h0 : H₀ a = none) (hG : ∀ H, Keep H₀ H → G H) : ∀ (items : List PV),
    (∀ p ∈ items, ∀ ρ H acc, J ρ → Keep H₀ H → H a = some ⟨acc, true⟩ → g p (fun ρ1 H1 => t (fun b H2 => if b then e (fun v H3 => J ρ1 ∧ Keep H₀ H3 ∧ H3 a = some ⟨acc, true⟩ ∧ val p = some v) ρ1 H2 else J ρ1 ∧ Keep H₀ H2 ∧ H2 a = some ⟨acc, true⟩ ∧ val p = none) ρ1 H1) ρ H) →
    ∀ (acc : List PV) (ρ : AEnv) (H : AH), J ρ → Keep H₀ H → H a = some ⟨acc, true⟩ → acc.length + items.length ≤ 16777216 → (∀ H', Keep H₀ H' → H' a = some ⟨acc ++ items.filterMap val, true⟩ → Q H') → compL g t e a G Q items ρ H
  | [], hst, acc, ρ, H, hJ, hK, hA, hl, hQ => hQ H hK (by simpa using hA)
  | p :: ps, hst, acc, ρ, H, hJ, hK, hA, hl, hQ => by
    have hst' := fun q hq => hst q (.tail _ hq)
    simp only [List.length_cons] at hl
    refine mg _ _ _ _ _ (fun ρ1 H1 q1 => mt _ _ _ _ (fun b H2 q2 => ?_) q1) (hst p (.head _) ρ H acc hJ hK hA)
    cases b with
    | false =>
      simp only [Bool.false_eq_true, if_false] at q2 ⊢
      obtain ⟨j, k, l, m⟩ := q2
      exact ⟨hG _ k, compL_run mg mt me J val h0 hG ps hst' acc ρ1 H2 j k l (by omega) fun H' k' l' => hQ H' k' (by rw [l', List.filterMap_cons, m])⟩
    | true =>
      simp only [if_true] at q2 ⊢
      refine me _ _ _ _ (fun v H3 q3 => ?_) q2
      obtain ⟨j, k, l, m⟩ := q3
      simp only [fAppend, withOwn, l]
      have kk : Keep H₀ (upd H3 a ⟨acc ++ [v], true⟩) := k.upd h0
      refine ⟨trivial, by simp only [szOk]; omega, hG _ kk, compL_run mg mt me J val h0 hG ps hst' (acc ++ [v]) ρ1 _ j kk (upd_same _ _ _) (by simp; omega) fun H' k' l' => hQ H' k' (by rw [l', List.filterMap_cons, m]; simp)⟩
/-- from the source's items -/
theorem aComp_run {ks : List Nat} {g : ATg} {src : AE} {t : AT} {e : AE} {Q : PV → AH → Prop} {ρ : AEnv} {H : AH} (mg : MonoG g) (mt : MonoT t) (me : MonoE e) (ms : MonoE src)
    (h : src (fun p H1 => withItems p (fun items G H2 => ∃ (J : AEnv → Prop) (val : PV → Option PV), (∀ H', Keep H2 H' → G H') ∧ J (capt ks ρ) ∧ items.length ≤ 16777216 ∧
      (∀ p ∈ items, ∀ ρ' H', J ρ' → Keep H2 H' → g p (fun ρ1 H1 => t (fun b H4 => if b then e (fun v H3 => J ρ1 ∧ (∀ b x, H' b = some x → H3 b = some x) ∧ val p = some v) ρ1 H4 else J ρ1 ∧ (∀ b x, H' b = some x → H4 b = some x) ∧ val p = none) ρ1 H1) ρ' H') ∧
      ∀ a H', H2 a = none → Keep H2 H' → H' a = some ⟨items.filterMap val, true⟩ → Q (.ref a) H') H1) ρ H) : aComp ks g src t e Q ρ H := by
  refine ms _ _ _ _ (fun p H1 q1 => withItems_mono (fun items G H2 ⟨J, val, hG, hJ, hl, hst, hQ⟩ a ha => ?_) q1) h
  refine ⟨hG _ (Keep.new ha), compL_run mg mt me J val ha hG items (fun p hp ρ' H' acc j k l => ?_) [] _ _ hJ (Keep.new ha) (upd_same _ _ _) (by simpa using hl) fun H' k' l' => hQ a H' ha k' (by simpa using l')⟩
  refine mg _ _ _ _ _ (fun ρ1 H1 q1 => mt _ _ _ _ (fun b H2 q2 => ?_) q1) (hst p hp ρ' H' j k)
  cases b with
  | false => simp only [Bool.false_eq_true, if_false] at q2 ⊢; exact ⟨q2.1, fun b x hx => q2.2.1 b x (k b x hx), q2.2.1 a _ l, q2.2.2⟩
  | true =>
    simp only [if_true] at q2 ⊢
    exact me _ _ _ _ (fun v H3 q3 => ⟨q3.1, fun b x hx => q3.2.1 b x (k b x hx), q3.2.1 a _ l, q3.2.2⟩) q2
end Mine
open PySem PySem.W PySem.Calls PyProof.Rows
set_option Elab.async false
namespace Mine
theorem occ_one (ch : Nat) (x : List Nat) : occIn [ch] x = decide (ch ∈ x) := by
  unfold occIn
  have := StrLaws.found_one ⟨x.toArray⟩ ch
  simpa [str_len] using this
/-- what a function leaves: the old lists as they were -/
theorem Keep.at {H H' : AH} {a : Nat} {x : LO} (k : Keep H H') (h : H a = some x) : H' a = some x := k a x h
theorem Keep.none {H H' : AH} {a : Nat} (k : Keep H H') (h : H' a = Option.none) : H a = Option.none := by
  cases hq : H a with
  | none => rfl
  | some x => rw [k a x hq] at h; cases h
theorem nth_zero {α : Type} (x : α) (xs : List α) : nth (x :: xs) 0 = some x := by simp [nth]
theorem nth_one {α : Type} (x y : α) (xs : List α) : nth (x :: y :: xs) 1 = some y := by simp [nth]
theorem nth_two {α : Type} (x y z : α) (xs : List α) : nth (x :: y :: z :: xs) 2 = some z := by simp [nth]
theorem nth_last {α : Type} (xs : List α) : nth xs (-1) = xs.getLast? := by
  unfold nth
  rw [if_neg (by decide)]
  cases xs with
  | nil => simp
  | cons x xs =>
    rw [if_pos (by simp; omega), List.getLast?_eq_getElem?]
    congr 1
    simp; omega
/-- the items of range(len(l)), looked up -/
def atI {α : Type} (l : List α) (f : α → PV) : PV → Option PV
  | .int i => (l[i.toNat]?).map f
  | _ => none
theorem eq_int (x y : Int) (Q : Bool → AH → Prop) (H : AH) : cmpEq (.int x) (.int y) Q H = Q (decide (x = y)) H := rfl
theorem eq_str (x y : List Nat) (Q : Bool → AH → Prop) (H : AH) : cmpEq (.str x) (.str y) Q H = Q (decide (x = y)) H := rfl
theorem eq_bool (x y : Bool) (Q : Bool → AH → Prop) (H : AH) : cmpEq (.bool x) (.bool y) Q H = Q (decide (x = y)) H := rfl
/-- one statement at a time: what follows stays behind a name -/
def after (b : AS) (Q : Fl → AEnv → AH → Prop) : Fl → AEnv → AH → Prop := fun fl ρ1 H1 => match fl with | .next => b Q ρ1 H1 | fl => Q fl ρ1 H1
theorem seq {a b : AS} {Q : Fl → AEnv → AH → Prop} {ρ : AEnv} {H : AH} (h : a (after b Q) ρ H) : sCons a b Q ρ H := h
theorem after_next {b : AS} {Q : Fl → AEnv → AH → Prop} {ρ : AEnv} {H : AH} (h : b Q ρ H) : after b Q .next ρ H := h
theorem after_ret {b : AS} {Q : Fl → AEnv → AH → Prop} {ρ : AEnv} {H : AH} {p : PV} (h : Q (.ret p) ρ H) : after b Q (.ret p) ρ H := h
/-- a function's end -/
def endF (Q : PV → AH → Prop) : Fl → AEnv → AH → Prop := fun fl _ H' => match fl with
  | .ret p => Q p H'
  | .next => Q .none H'
  | .brk => False
  | .cont => False
theorem fn {ks : List Nat} {b : AS} {ps : List PV} {Q : PV → AH → Prop} {H : AH} (hl : ps.length = ks.length) (h : b (endF Q) (bindP ks ps) H) : aFn ks b ps Q H := ⟨hl, h⟩
theorem end_ret {Q : PV → AH → Prop} {p : PV} {ρ : AEnv} {H : AH} (h : Q p H) : endF Q (.ret p) ρ H := h
end Mine
open PySem PySem.W PySem.Calls PyProof.Rows
set_option Elab.async false
namespace Mine
def freeChk (q : Program) (loose : List Str) (x : Str) : Bool := !(startupNames.contains x) && !(loose.contains x) && !(((recsOf q).map (·.name)).contains x) && !(((litsOf q).map (·.1)).contains x) && !(((clssOf q loose).map (·.name)).contains x)
theorem free_of {c : Cx} {q : Program} {loose : List Str} (hq : c.q = q) (hl : c.loose = looseW q loose) {x : Str} (h : freeChk q (looseW q loose) x = true) : c.mg x = none := by
  rw [← hl, ← hq] at h
  simp only [freeChk, Bool.and_eq_true, Bool.not_eq_true', List.contains_eq_mem, decide_eq_false_iff_not] at h
  obtain ⟨⟨⟨⟨h1, h2⟩, h3⟩, h4⟩, h5⟩ := h
  exact c.top.free x h1 h2 h3 h4 h5
theorem mem_rec {c : Cx} {q : Program} {d : DefRec} {i : Nat} (hq : c.q = q) (h : (recsOf q)[i]? = some d) : d ∈ recsOf c.q := by rw [hq]; exact List.mem_of_getElem? h
end Mine
open PySem PySem.W PySem.Calls PyProof.Rows
set_option Elab.async false
set_option linter.unusedVariables false
namespace Mine

-- generators: their own run, with no list in sight
abbrev H0 : AH := fun _ => none
theorem St.alone {base : Heap} {H : AH} {s : Shared} (S : St base H s) : St base H0 s := ⟨⟨S.hr.keep, fun _ _ h => (nomatch h), fun _ _ h => (nomatch h)⟩, S.bare⟩

/-- an object that others may hold -/
def shr (o : Obj) : Prop := (∃ vs n, o.data = .seq vs n) ∨ ((o.cls = .type "range" ∨ o.cls = .type "generator") ∧ ∃ vs, o.data = .fields vs)
theorem imm_shr {h : Heap} {a : Addr} {o : Obj} (x : Imm h a o) : shr o := by
  rcases x.2 with q | q
  · exact .inl q.2
  · exact .inr ⟨.inl q.1, q.2⟩
structure Kp (z : Nat) (s s' : Shared) : Prop where
  keep : ∀ a o, s.heap.get? a = some o → (a < z ∨ shr o) → s'.heap.get? a = some o
  size : s.heap.objs.size ≤ s'.heap.objs.size
  gens : ∀ (i : Nat) (g : GenState), s.gens[i]? = some g → s'.gens[i]? = some g
  gsize : s.gens.size ≤ s'.gens.size
  os : s'.os = s.os
theorem Kp.refl {z : Nat} {s : Shared} : Kp z s s := ⟨fun _ _ h _ => h, Nat.le_refl _, fun _ _ h => h, Nat.le_refl _, rfl⟩
theorem Kp.trans {z : Nat} {s s' s'' : Shared} (k : Kp z s s') (l : Kp z s' s'') : Kp z s s'' :=
  ⟨fun a o h q => l.keep a o (k.keep a o h q) q, Nat.le_trans k.size l.size, fun i g h => l.gens i g (k.gens i g h), Nat.le_trans k.gsize l.gsize, l.os.trans k.os⟩
theorem Kp.imm {z : Nat} {s s' : Shared} (k : Kp z s s') : ∀ a o, Imm s.heap a o → s'.heap.get? a = some o := fun a o h => k.keep a o h.1 (.inr (imm_shr h))
theorem Kp.st {z : Nat} {base : Heap} {H : AH} {s s' : Shared} (k : Kp z s s') (S : St base H s) (S' : St base H0 s') : St base H s' :=
  ⟨⟨S'.hr.keep, fun a x h => by
    obtain ⟨vs, n, hl, hv⟩ := S.hr.list a x h
    exact ⟨vs, n, k.keep a _ hl (.inr (.inl ⟨_, _, rfl⟩)), hv.mono k.imm⟩, S.hr.new⟩, S'.bare⟩
theorem Kp.of_ext {z : Nat} {X : Nat → Prop} {s s' : Shared} (e : Ext X No H0 s H0 s') (hX : ∀ a, X a → z ≤ a ∧ ∀ o, s.heap.get? a = some o → ¬ shr o) : Kp z s s' :=
  ⟨fun a o h q => e.keep a o h (fun hx => by
    rcases q with q | q
    · exact absurd q (Nat.not_lt.mpr (hX a hx).1)
    · exact (hX a hx).2 o h q) (fun _ h => (nomatch h)), e.size, fun i g h => e.gens i g h (fun h => h), e.gsize, e.os⟩

/-- the generator's own objects -/
def Pv (z : Nat) (pv : List Nat) (s : Shared) : Prop := ∀ a ∈ pv, z ≤ a ∧ ∃ o, s.heap.get? a = some o ∧ ¬ shr o
def Kc (base : Heap) (pv : List Nat) (s s' : Shared) : Prop := (∀ a ∈ pv, ∀ o, s.heap.get? a = some o → s'.heap.get? a = some o) ∧ (∀ b o, Imm s.heap b o → s'.heap.get? b = some o) ∧ St base H0 s'
theorem Pv.kc {z : Nat} {base : Heap} {pv : List Nat} {s s' : Shared} (p : Pv z pv s) (k : Kc base pv s s') : Pv z pv s' := fun a ha => let ⟨h1, o, h2, h3⟩ := p a ha; ⟨h1, o, k.1 a ha o h2, h3⟩

def Yg (c : Cx) (z : Nat) (tot : List PV) : Protocol := fun n s₀ v s' kap => ∃ p pv, tot.reverse[n]? = some p ∧ VRel s'.heap v p ∧ Kp z s₀ s' ∧ St c.base H0 s' ∧ Pv z pv s' ∧ ∀ s'', Kc c.base pv s' s'' → kap (.send .none) s''
def Rg (c : Cx) (z : Nat) : GenEnd := fun n s₀ r s₁ => r = .ok (.ret .none) ∧ (n = 0 ∧ Kp z s₀ s₁ ∧ St c.base H0 s₁)
abbrev SegG (c : Cx) (A : Around) (z : Nat) (tot : List PV) := Seg (model c.prog c.w) A (Rg c z) (Yg c z tot)

structure GAt (c : Cx) (z : Nat) (env : Env) (ρ : AEnv) (rst : List Nat) (s₀ s : Shared) : Prop where
  er : ER c.base c.N env ρ s.heap
  st : St c.base H0 s
  kp : Kp z s₀ s
  pv : Pv z (env.locals :: rst) s
  ne : env.locals ∉ rst
  nb : ∀ a, z ≤ a → c.base.get? a = none

structure GOk (n : Nat) (A : Around) (cd : Code) (fs : List Frame) (sc : SE) (env : Env) : Prop where
  room : AOk n (A.over cd fs)
  sp : splitAtGen fs = none
  gd : fs.any Frame.guarded = false
  ok : EOk sc env
  nc : env.cells = []
  co : sc.isCoroutine = false

abbrev AG := (Fl → AEnv → List PV → Prop) → AEnv → List PV → Prop
def SoundGB (c : Cx) (n : Nat) (sc : SE) (sts : List Stmt) (a : AG) : Prop := ∀ (A : Around) (env : Env) (ρ : AEnv) (l tot : List PV) (z : Nat) (rst : List Nat) (s₀ s : Shared) (cd : Code) (fs : List Frame) (K : Flow → Sem Fin) (Hx : Value → Sem Fin) (gd : Bool → Bool) (lv : List Value → List Value) (Q : Fl → AEnv → List PV → Prop),
  GOk n A cd fs sc env → gd false = false → GAt c z env ρ rst s₀ s → l <:+ tot → a Q ρ l →
  (∀ fl f ρ' l' s₀' s', FRel s'.heap f fl → GAt c z env ρ' rst s₀' s' → (∀ a ∈ rst, ∀ o, s.heap.get? a = some o → s'.heap.get? a = some o) → l' <:+ tot → Q fl ρ' l' → SegG c A z tot l'.length s₀' cd (K f) fs s') →
  SegG c A z tot l.length s₀ cd ((execs sts env).wrap K Hx gd lv) fs s
def SoundGS (c : Cx) (n : Nat) (sc : SE) (st : Stmt) (a : AG) : Prop := ∀ (A : Around) (env : Env) (ρ : AEnv) (l tot : List PV) (z : Nat) (rst : List Nat) (s₀ s : Shared) (cd : Code) (fs : List Frame) (K : Flow → Sem Fin) (Hx : Value → Sem Fin) (gd : Bool → Bool) (lv : List Value → List Value) (Q : Fl → AEnv → List PV → Prop),
  GOk n A cd fs sc env → gd false = false → GAt c z env ρ rst s₀ s → l <:+ tot → a Q ρ l →
  (∀ fl f ρ' l' s₀' s', FRel s'.heap f fl → GAt c z env ρ' rst s₀' s' → (∀ a ∈ rst, ∀ o, s.heap.get? a = some o → s'.heap.get? a = some o) → l' <:+ tot → Q fl ρ' l' → SegG c A z tot l'.length s₀' cd (K f) fs s') →
  SegG c A z tot l.length s₀ cd ((exec st env).wrap K Hx gd lv) fs s

section
variable {c : Cx} {n : Nat} {sc : SE} {z : Nat} {env : Env} {ρ : AEnv} {rst : List Nat} {s₀ s : Shared}
theorem dict_shr {h : Heap} {a : Addr} {m : Str → Option Value} (hn : h.Ns a m) : ∃ o, h.get? a = some o ∧ ¬ shr o := by
  obtain ⟨o, es, ep, ho, hd, _⟩ := hn
  refine ⟨o, ho, ?_⟩
  rintro (⟨vs, n, q⟩ | ⟨_, vs, q⟩) <;> rw [hd] at q <;> cases q
theorem own_only (hc : env.cells = []) {a : Nat} (h : Own env a) : a = env.locals := by
  rcases h with h | ⟨_, x, hx⟩
  · exact h
  · rw [hc] at hx; cases hx
/-- on from a step of the generator's own -/
theorem GAt.step {ρ' : AEnv} {s' : Shared} (g : GAt c z env ρ rst s₀ s) (hc : env.cells = []) (R : ER c.base c.N env ρ' s'.heap) (S : St c.base H0 s') (e : Ext (Own env) No H0 s H0 s') : GAt c z env ρ' rst s₀ s' ∧ ∀ a ∈ rst, ∀ o, s.heap.get? a = some o → s'.heap.get? a = some o := by
  have hk : ∀ a ∈ rst, ∀ o, s.heap.get? a = some o → s'.heap.get? a = some o := fun a ha o ho => e.keep a o ho (fun q => g.ne (own_only hc q ▸ ha)) (fun _ h => (nomatch h))
  refine ⟨⟨R, S, g.kp.trans (Kp.of_ext e fun a ha => ?_), fun a ha => ?_, g.ne, g.nb⟩, hk⟩
  · have := own_only hc ha
    subst this
    obtain ⟨h1, o, h2, h3⟩ := g.pv env.locals (.head _)
    exact ⟨h1, fun o' ho' => by rw [h2] at ho'; cases ho'; exact h3⟩
  · obtain ⟨h1, o, h2, h3⟩ := g.pv a ha
    rcases List.mem_cons.mp ha with rfl | hr
    · obtain ⟨m, hm, _⟩ := R.names
      exact ⟨h1, dict_shr hm⟩
    · exact ⟨h1, o, hk a hr o h2, h3⟩
theorem GAt.step0 {s' : Shared} (g : GAt c z env ρ rst s₀ s) (hc : env.cells = []) (S : St c.base H0 s') (e : Ext No No H0 s H0 s') : GAt c z env ρ rst s₀ s' ∧ ∀ a ∈ rst, ∀ o, s.heap.get? a = some o → s'.heap.get? a = some o :=
  g.step hc (g.er.ext0 g.st e) S e.of_no
/-- on from a halt -/
theorem GAt.again {s' : Shared} (g : GAt c z env ρ rst s₀ s) (hc : env.cells = []) (k : Kc c.base (env.locals :: rst) s s') : GAt c z env ρ rst s' s' := by
  refine ⟨⟨?_, ?_, g.er.apart, g.er.new, g.er.cnew⟩, k.2.2, .refl, g.pv.kc k, g.ne, g.nb⟩
  · obtain ⟨m, hn, hm⟩ := g.er.names
    refine ⟨m, ?_, fun i p hi => ?_⟩
    · obtain ⟨o, es, ep, ho, r⟩ := id hn
      exact ⟨o, es, ep, k.1 _ (.head _) o ho, r⟩
    · obtain ⟨x, v, h1, h2, h3⟩ := hm i p hi
      refine ⟨x, v, h1, h2.mono k.2.1, ?_⟩
      rcases h3 with h3 | ⟨_, cc, h4, _⟩
      · exact .inl h3
      · rw [hc] at h4; cases h4
  · intro x cc hx; rw [hc] at hx; cases hx

def gNil : AG := fun Q ρ l => Q .next ρ l
def gCons (a b : AG) : AG := fun Q ρ l => a (fun fl ρ1 l1 => match fl with | .next => b Q ρ1 l1 | fl => Q fl ρ1 l1) ρ l
def gLift (a : AS) : AG := fun Q ρ l => a (fun fl ρ1 H1 => H1 = H0 ∧ Q fl ρ1 l) ρ H0
def gYield (e : AE) : AG := fun Q ρ l => l ≠ [] ∧ e (fun p H1 => H1 = H0 ∧ ∃ l', l = p :: l' ∧ Q .next ρ l') ρ H0
def gIf (t : AT) (a b : AG) : AG := fun Q ρ l => t (fun k H1 => H1 = H0 ∧ if k then a Q ρ l else b Q ρ l) ρ H0

theorem g_nil : SoundGB c n sc [] gNil := by
  intro A env ρ l tot z rst s₀ s cd fs K Hx gd lv Q ok hgd g hl q k
  exact seg_execs_nil (k .next .next ρ l s₀ s .next g (fun _ _ _ h => h) hl q)
theorem g_cons {st : Stmt} {sts : List Stmt} {a b : AG} (ha : SoundGS c n sc st a) (hb : SoundGB c n sc sts b) : SoundGB c n sc (st :: sts) (gCons a b) := by
  intro A env ρ l tot z rst s₀ s cd fs K Hx gd lv Q ok hgd g hl q k
  refine seg_execs_cons (ha A env ρ l tot z rst s₀ s cd fs _ Hx gd lv _ ok hgd g hl q fun fl f ρ' l' s₀' s' hf g' hr hl' q' => ?_)
  cases hf with
  | next => exact hb A env ρ' l' tot z rst s₀' s' cd fs K Hx gd lv Q ok hgd g' hl' q' fun fl f ρ2 l2 s2 s3 hf g2 hr2 hl2 q2 => k fl f ρ2 l2 s2 s3 hf g2 (fun a ha o ho => hr2 a ha o (hr a ha o ho)) hl2 q2
  | brk => exact k .brk .brk ρ' l' s₀' s' .brk g' hr hl' q'
  | cont => exact k .cont .cont ρ' l' s₀' s' .cont g' hr hl' q'
  | ret hv => exact k (.ret _) (.ret _) ρ' l' s₀' s' (.ret hv) g' hr hl' q'
theorem g_lift {st : Stmt} {a : AS} (ha : SoundS c n sc st a) : SoundGS c n sc st (gLift a) := by
  intro A env ρ l tot z rst s₀ s cd fs K Hx gd lv Q ok hgd g hl q k
  refine seg_wrap (wpAny_mono (ha (A.over cd fs) env ρ H0 s _ _ ok.room ok.ok g.er g.st q) (fun f s' ⟨fl, ρ1, H1, hf, R1, S1, e1, hH, q1⟩ => ?_) fun _ _ x => x)
  subst hH
  obtain ⟨g', hr⟩ := g.step ok.nc R1 S1 e1
  exact k fl f ρ1 l s₀ s' hf g' hr hl q1
theorem g_if {e : Expr} {body orelse : List Stmt} {pos : Pos} {t : AT} {a b : AG} (ht : SoundT c n sc e t) (ha : SoundGB c n sc body a) (hb : SoundGB c n sc orelse b) : SoundGS c n sc (.If e body orelse pos) (gIf t a b) := by
  intro A env ρ l tot z rst s₀ s cd fs K Hx gd lv Q ok hgd g hl q k
  rw [exec_If]
  show Seg _ _ _ _ _ _ _ (.at pos fun _ => ((isTrue e env (eval e env)) >>= fun r => if r = true then execs body env else execs orelse env).wrap K Hx gd lv) fs s
  refine seg_at ?_
  rw [Sem.bind_eq_wrap', Sem.wrap_wrap]
  refine seg_wrap (wpAny_mono (ht (A.over cd fs) env ρ H0 s _ _ ok.room ok.ok g.er g.st q) (fun r s' ⟨H1, S1, e1, hH, q1⟩ => ?_) fun _ _ x => x)
  subst hH
  obtain ⟨g', hr⟩ := g.step0 ok.nc S1 e1
  cases r with
  | true => exact ha A env ρ l tot z rst s₀ s' cd fs K Hx gd lv Q ok hgd g' hl q1 fun fl f ρ2 l2 s2 s3 hf g2 hr2 hl2 q2 => k fl f ρ2 l2 s2 s3 hf g2 (fun a ha o ho => hr2 a ha o (hr a ha o ho)) hl2 q2
  | false => exact hb A env ρ l tot z rst s₀ s' cd fs K Hx gd lv Q ok hgd g' hl q1 fun fl f ρ2 l2 s2 s3 hf g2 hr2 hl2 q2 => k fl f ρ2 l2 s2 s3 hf g2 (fun a ha o ho => hr2 a ha o (hr a ha o ho)) hl2 q2
theorem suf_at {p : PV} {l tot : List PV} (h : p :: l <:+ tot) : tot.reverse[l.length]? = some p ∧ l <:+ tot := by
  obtain ⟨pre, rfl⟩ := h
  refine ⟨by simp, ⟨pre ++ [p], by simp⟩⟩
theorem g_yield {e : Expr} {ypos pos : Pos} {a : AE} (ha : SoundE c n sc e a) : SoundGS c n sc (.Expr (.Yield (some e) ypos) pos) (gYield a) := by
  intro A env ρ l tot z rst s₀ s cd fs K Hx gd lv Q ok hgd g hl q k
  obtain ⟨m, hm⟩ : ∃ m, l.length = m := ⟨_, rfl⟩
  cases m with
  | zero =>
    exact absurd (List.length_eq_zero_iff.mp hm) q.1
  | succ m =>
    rw [hm]
    refine seg_Expr_Yield ok.sp hgd ok.gd (wpAny_mono (ha (A.over cd fs) env ρ H0 s _ _ ok.room ok.ok g.er g.st q.2) (fun v s' ⟨p, H1, hv, S1, e1, hH, l', hl', q1⟩ kap hkap => ?_) fun _ _ x => x) (by rw [ok.ok.scope]; exact ok.co) (no_inter ok.ok)
    subst hH hl'
    obtain ⟨g', hr⟩ := g.step0 ok.nc S1 e1
    have hm' : l'.length = m := by simpa using hm
    obtain ⟨h1, h2⟩ := suf_at hl
    refine ⟨p, env.locals :: rst, by rw [← hm']; exact h1, hv, g'.kp, S1, g'.pv, fun s'' kc => hkap .none s'' ?_⟩
    show Seg _ _ _ _ m s'' cd (K .next) fs s''
    rw [← hm']
    exact k .next .next ρ l' s'' s'' .next (g'.again ok.nc kc) (fun a ha o ho => kc.1 a (.tail _ ha) o (hr a ha o ho)) h2 q1
end
end Mine
open PySem PySem.W PySem.Calls PyProof.Rows
set_option Elab.async false
set_option linter.unusedVariables false
namespace Mine

def enumItems : Nat → List Nat → List PV
  | _, [] => []
  | i, ch :: x => .tup [.int i, .str [ch]] :: enumItems (i + 1) x
def forG (g : ATg) (b : AG) (Q : Fl → AEnv → List PV → Prop) : List PV → AEnv → List PV → Prop
  | [], ρ, l => Q .next ρ l
  | p :: ps, ρ, l => g p (fun ρ1 H1 => H1 = H0 ∧ b (fun fl ρ2 l2 => match fl with
      | .next => forG g b Q ps ρ2 l2
      | .cont => forG g b Q ps ρ2 l2
      | .brk => Q .next ρ2 l2
      | .ret v => Q (.ret v) ρ2 l2) ρ1 l) ρ H0
def gForEnum (g : ATg) (src : AE) (b : AG) : AG := fun Q ρ l => src (fun p H1 => H1 = H0 ∧ match p with
  | .str x => forG g b Q (enumItems 0 x) ρ l
  | _ => False) ρ H0

section
variable {c : Cx} {n : Nat} {sc : SE} {z : Nat} {env : Env} {tot : List PV} {A : Around} {fs : List Frame}

theorem draws_str {A : Around} (hh : A.handled = none) (it : Addr) (x : Str) (t : Tok) :
    Draws c.prog c.w A it [it] x.cps.size (fun i v => ∃ ch u, x.cps[i]? = some ch ∧ v = .str ⟨#[ch]⟩ u) (fun i h => h.IsStrIter it (strIterType x) x t i) := by
  unfold strIterType
  split
  · exact Draws.strAscii hh it x t
  · exact Draws.strWide hh it x t
theorem iter_shr {h : Heap} {a : Addr} {x : Str} {t : Tok} {i : Nat} (y : h.IsStrIter a (strIterType x) x t i) : ∃ o, h.get? a = some o ∧ ¬ shr o := by
  obtain ⟨o, ho, hc, hd⟩ := y
  refine ⟨o, ho, ?_⟩
  have : strIterType x = "str_ascii_iterator" ∨ strIterType x = "str_iterator" := by unfold strIterType; split <;> simp
  rintro (⟨vs, k, q⟩ | ⟨q | q, _⟩)
  · rw [hd] at q; cases q
  · rw [hc] at q; rcases this with e | e <;> rw [e] at q <;> simp at q
  · rw [hc] at q; rcases this with e | e <;> rw [e] at q <;> simp at q
theorem enum_shr {h : Heap} {e it : Addr} {i : Int} {o : Value} {a : Value} (y : h.get? e = some { cls := .type "enumerate", dict := none, data := .fields #[a, .bool false, .ref it, rawInt i, .none, o], slots := #[] }) : ∃ o, h.get? e = some o ∧ ¬ shr o := by
  refine ⟨_, y, ?_⟩
  rintro (⟨vs, k, q⟩ | ⟨q | q, _⟩)
  · cases q
  · simp at q
  · simp at q
theorem GAt.drop {ρ : AEnv} {rst : List Nat} {s₀ s : Shared} {e it : Addr} (g : GAt c z env ρ (e :: it :: rst) s₀ s) : GAt c z env ρ rst s₀ s :=
  ⟨g.er, g.st, g.kp, fun a ha => g.pv a (by
    rcases List.mem_cons.mp ha with rfl | ha
    · exact .head _
    · exact .tail _ (.tail _ (.tail _ ha))), fun h => g.ne (.tail _ (.tail _ h)), g.nb⟩
/-- a step that turns but two of the generator's own objects -/
theorem GAt.turn0 {ρ : AEnv} {rst : List Nat} {s₀ s : Shared} {e it : Addr} {h' : Heap} {tk : Nat} (g : GAt c z env ρ (e :: it :: rst) s₀ s) (hc : env.cells = []) (hk : ∀ b o, b ≠ e → b ≠ it → s.heap.get? b = some o → h'.get? b = some o) (hz : s.heap.objs.size ≤ h'.objs.size)
    (hr : e ∉ rst) (hr' : it ∉ rst) : GAt c z env ρ rst s₀ { s with heap := h', toks := tk } ∧ ∀ a ∈ rst, ∀ o, s.heap.get? a = some o → h'.get? a = some o := by
  have hK : Kp z s { s with heap := h', toks := tk } := ⟨fun a o h q => by
    have own : ∀ b, b ∈ e :: it :: rst → b ≠ a := by
      rintro b hb rfl
      obtain ⟨h1, o', h2, h3⟩ := g.pv b (.tail _ hb)
      rw [h] at h2; cases h2
      rcases q with q | q
      · exact absurd q (Nat.not_lt.mpr h1)
      · exact h3 q
    exact hk a o (own e (.head _)).symm (own it (.tail _ (.head _))).symm h, hz, fun _ _ h => h, Nat.le_refl _, rfl⟩
  have hL : ∀ o, s.heap.get? env.locals = some o → h'.get? env.locals = some o := fun o ho => hk _ _ (fun q => g.ne (q ▸ .head _)) (fun q => g.ne (q ▸ .tail _ (.head _))) ho
  have hR : ∀ a ∈ rst, ∀ o, s.heap.get? a = some o → h'.get? a = some o := fun a ha o ho => hk _ _ (fun q => hr (q ▸ ha)) (fun q => hr' (q ▸ ha)) ho
  have hbase : St c.base H0 { s with heap := h', toks := tk } := ⟨⟨fun b o h => by
    have own : ∀ b', b' ∈ e :: it :: rst → b' ≠ b := by
      rintro b' hb rfl
      obtain ⟨h1, o', h2, h3⟩ := g.pv b' (.tail _ hb)
      rw [g.nb b' h1] at h; cases h
    exact hk b o (own e (.head _)).symm (own it (.tail _ (.head _))).symm (g.st.hr.keep b o h), fun _ _ h => (nomatch h), fun _ _ h => (nomatch h)⟩, g.st.bare⟩
  refine ⟨⟨⟨?_, ?_, g.er.apart, g.er.new, g.er.cnew⟩, hbase, g.kp.trans hK, fun a ha => ?_, fun h => g.ne (.tail _ (.tail _ h)), g.nb⟩, hR⟩
  · obtain ⟨m, hn, hm⟩ := g.er.names
    refine ⟨m, ?_, fun i p hi => ?_⟩
    · obtain ⟨o, es, ep, ho, r⟩ := id hn
      exact ⟨o, es, ep, hL o ho, r⟩
    · obtain ⟨x, v, h1, h2, h3⟩ := hm i p hi
      refine ⟨x, v, h1, h2.mono hK.imm, ?_⟩
      rcases h3 with h3 | ⟨_, cc, h4, _⟩
      · exact .inl h3
      · rw [hc] at h4; cases h4
  · intro x cc hx; rw [hc] at hx; cases hx
  · rcases List.mem_cons.mp ha with rfl | ha
    · obtain ⟨h1, o, h2, h3⟩ := g.pv env.locals (.head _)
      exact ⟨h1, o, hL o h2, h3⟩
    · obtain ⟨h1, o, h2, h3⟩ := g.pv a (.tail _ (.tail _ (.tail _ ha)))
      exact ⟨h1, o, hR a ha o h2, h3⟩
theorem GAt.turn {ρ : AEnv} {rst : List Nat} {s₀ s : Shared} {e it : Addr} {h' : Heap} {tk : Nat} (g : GAt c z env ρ (e :: it :: rst) s₀ s) (hc : env.cells = []) (hk : ∀ b o, b ≠ e → b ≠ it → s.heap.get? b = some o → h'.get? b = some o) (hz : s.heap.objs.size ≤ h'.objs.size)
    (he : ∃ o, h'.get? e = some o ∧ ¬ shr o) (hi : ∃ o, h'.get? it = some o ∧ ¬ shr o) (hr : e ∉ rst) (hr' : it ∉ rst) : GAt c z env ρ (e :: it :: rst) s₀ { s with heap := h', toks := tk } ∧ ∀ a ∈ rst, ∀ o, s.heap.get? a = some o → h'.get? a = some o := by
  obtain ⟨g', hR⟩ := g.turn0 (tk := tk) hc hk hz hr hr'
  refine ⟨⟨g'.er, g'.st, g'.kp, fun a ha => ?_, g.ne, g.nb⟩, hR⟩
  rcases List.mem_cons.mp ha with rfl | ha
  · exact g'.pv _ (.head _)
  · rcases List.mem_cons.mp ha with rfl | ha
    · exact ⟨(g.pv a (.tail _ (.head _))).1, he⟩
    · rcases List.mem_cons.mp ha with rfl | ha
      · exact ⟨(g.pv a (.tail _ (.tail _ (.head _)))).1, hi⟩
      · exact g'.pv _ (.tail _ ha)

theorem drop_cons {x : List Nat} {i : Nat} {ch : Nat} (h : x.toArray[i]? = some ch) : enumItems i (x.drop i) = .tup [.int i, .str [ch]] :: enumItems (i + 1) (x.drop (i + 1)) := by
  have h' : x[i]? = some ch := by simpa using h
  obtain ⟨hi, e⟩ := List.getElem?_eq_some_iff.mp h'
  rw [List.drop_eq_getElem_cons hi, e]; rfl

def turnOn (tg : Expr) (it : Value) (body : List Stmt) (env : Env) : Option Value → Sem Fin
  | none => again (.block [] env)
  | some v => letOwnedTupleGo tg it v >>= fun _ => assign tg env v >>= fun _ => execs body env >>= fun f => match f with
    | .next => again (.forLoop tg it body [] env)
    | .cont => again (.forLoop tg it body [] env)
    | .brk => pure (.done .next)
    | .ret v => pure (.done (.ret v))
theorem forTurn_eq (tg : Expr) (it : Value) (body : List Stmt) (env : Env) : forTurn tg it body [] env = Sem.at tg.pos fun _ => ((pyNext it).onRaise (fun _ => standAt { tg.pos with line := 0 })) >>= turnOn tg it body env := by
  unfold forTurn turnOn
  show (Sem.at _ fun _ => _) = _
  congr 1

theorem loop_enum {elts : List Expr} {kk : Nat} {tpos : Pos} {g : ATg} {body : List Stmt} {b : AG} {e it : Addr} {x : List Nat} {t : Tok} {rst : List Nat} {Q : Fl → AEnv → List PV → Prop} {sS : Shared} (hg : SoundA c n sc (.Tuple elts kk tpos) g) (hb : SoundGB c n sc body b)
    (hx : ∀ ch ∈ x, ch < 0x110000) (hei : e ≠ it) (her : e ∉ rst) (hir : it ∉ rst) (ok : GOk n A (.forLoop (.Tuple elts kk tpos) (.ref e) body [] env) fs sc env)
    (fin : ∀ cd fl f ρ' l' s₀' s', FRel s'.heap f fl → GAt c z env ρ' rst s₀' s' → (∀ a ∈ rst, ∀ o, sS.heap.get? a = some o → s'.heap.get? a = some o) → l' <:+ tot → Q fl ρ' l' → SegG c A z tot l'.length s₀' cd (leafOf (.ok f)) fs s') :
    ∀ (m i : Nat) (ρ : AEnv) (l : List PV) (s₀ s : Shared) (old : Value), x.length - i = m → i ≤ x.length → GAt c z env ρ (e :: it :: rst) s₀ s → (∀ a ∈ rst, ∀ o, sS.heap.get? a = some o → s.heap.get? a = some o) → IsEnum s.heap e it i old → s.heap.IsStrIter it (strIterType ⟨x.toArray⟩) ⟨x.toArray⟩ t i → l <:+ tot → forG g b Q (enumItems i (x.drop i)) ρ l →
    SegG c A z tot l.length s₀ (.forLoop (.Tuple elts kk tpos) (.ref e) body [] env) ((model c.prog c.w).den (.forLoop (.Tuple elts kk tpos) (.ref e) body [] env)) fs s := by
  intro m
  have hh : (A.over (.forLoop (.Tuple elts kk tpos) (.ref e) body [] env) fs).in1.handled = none := ok.room.handled
  have D := draws_str (c := c) (A := (A.over (.forLoop (.Tuple elts kk tpos) (.ref e) body [] env) fs).in1) hh it ⟨x.toArray⟩ t
  induction m with
  | zero =>
    intro i ρ l s₀ s old hm hi gat hr he hit hl q
    have hi' : i = x.length := by omega
    subst hi'
    show Seg _ _ _ _ _ _ _ ((forTurn (.Tuple elts kk tpos) (.ref e) body [] env).onRaise (fun x => do noteFrame x env; theTreesLotGoes x)) fs s
    rw [forTurn_eq, Sem.onRaise_eq_wrap]
    refine seg_at ?_
    show Seg _ _ _ _ _ _ _ (Sem.wrap _ _ _ _ (_ >>= turnOn _ _ _ _)) fs s
    rw [Sem.bind_eq_wrap', Sem.wrap_wrap]
    refine seg_wrap (wpAny_onRaise (wpAny_grow (wpAny_pyNext_enum_endD D he hit fun h' hs' gr => ?_)))
    show Seg _ _ _ _ _ _ _ (.pure (.again (.block [] env))) fs _
    refine seg_again rfl ?_
    show Seg _ _ _ _ _ _ _ (leafOf (.ok .next)) fs _
    obtain ⟨g1, r1⟩ := gat.turn0 (h' := h') (tk := s.toks) ok.nc (fun b o _ h2 h => hs' b o h2 h) gr.1 her hir
    rw [List.drop_length] at q
    exact fin _ .next .next ρ l s₀ _ .next g1 (fun a ha o ho => r1 a ha o (hr a ha o ho)) hl q
  | succ m ih =>
    intro i ρ l s₀ s old hm hi gat hr he hit hl q
    show Seg _ _ _ _ _ _ _ ((forTurn (.Tuple elts kk tpos) (.ref e) body [] env).onRaise (fun x => do noteFrame x env; theTreesLotGoes x)) fs s
    rw [forTurn_eq, Sem.onRaise_eq_wrap]
    refine seg_at ?_
    show Seg _ _ _ _ _ _ _ (Sem.wrap _ _ _ _ (_ >>= turnOn _ _ _ _)) fs s
    rw [Sem.bind_eq_wrap', Sem.wrap_wrap]
    refine seg_wrap (wpAny_onRaise (wpAny_pyNext_enum_itemD D he hit (by simp; omega) hei (by simpa using hei) fun v h' tk hP ho hit' hT hsz hk => ?_))
    obtain ⟨ch, u, hch, rfl⟩ := hP
    obtain ⟨g1, r1⟩ := gat.turn (h' := h') (tk := tk + 1) ok.nc hk (by omega) (enum_shr ho) (iter_shr hit') her hir
    show Seg _ _ _ _ _ _ _ (Sem.wrap _ _ _ _ (letOwnedTupleGo _ _ _ >>= _)) fs _
    rw [Sem.bind_eq_wrap', Sem.wrap_wrap]
    refine seg_wrap (wpAny_letOwnedTupleGo_enum ho fun h2 he2 hs2 => ?_)
    have hit2 : h2.IsStrIter it (strIterType ⟨x.toArray⟩) ⟨x.toArray⟩ t (i + 1) := by
      obtain ⟨o, h1, h3⟩ := hit'
      exact ⟨o, (hs2.2 it hei.symm).trans h1, h3⟩
    obtain ⟨g2, r2⟩ := g1.turn (h' := h2) (tk := tk + 1) ok.nc (fun b o h1 h2 h => (hs2.2 b h1).trans h) (Nat.le_of_eq hs2.1.symm) (enum_shr he2) (iter_shr hit2) her hir
    show Seg _ _ _ _ _ _ _ (Sem.wrap _ _ _ _ (assign _ _ _ >>= _)) fs _
    rw [Sem.bind_eq_wrap', Sem.wrap_wrap]
    rw [drop_cons hch] at q
    have hTe : s.heap.objs.size ≠ e := Nat.ne_of_gt (Heap.lt_size he)
    have hch' : ch < 0x110000 := hx ch (by
      have : x[i]? = some ch := by simpa using hch
      exact List.mem_of_getElem? this)
    have hv : VRel h2 (.ref s.heap.objs.size) (.tup [.int i, .str [ch]]) := .tup (vs := [.int i tk, .str ⟨#[ch]⟩ u]) (n := 0) ((hs2.2 _ hTe).trans hT) (.cons (.int _ _) (.one (.str [ch] u (by simpa using hch'))))
    refine seg_wrap (hg _ env ρ H0 _ _ (.tup [.int i, .str [ch]]) _ _ _ ok.room ok.ok g2.er g2.st hv q fun ρ3 H3 s3 R3 S3 e3 q3 => ?_)
    obtain ⟨rfl, q3⟩ := q3
    obtain ⟨g3, r3⟩ := g2.step ok.nc R3 S3 e3
    show Seg _ _ _ _ _ _ _ (Sem.wrap _ _ _ _ (execs _ _ >>= _)) fs _
    rw [Sem.bind_eq_wrap', Sem.wrap_wrap]
    refine hb A env ρ3 l tot z (e :: it :: rst) s₀ s3 _ fs _ _ _ _ _ ok rfl g3 hl q3 fun fl f ρ4 l4 s₀4 s4 hf g4 r4 hl4 q4 => ?_
    have rr : ∀ a ∈ rst, ∀ o, sS.heap.get? a = some o → s4.heap.get? a = some o := fun a ha o ho => r4 a (.tail _ (.tail _ ha)) o (r3 a (.tail _ (.tail _ ha)) o (r2 a ha o (r1 a ha o (hr a ha o ho))))
    have next : forG g b Q (enumItems (i + 1) (x.drop (i + 1))) ρ4 l4 → SegG c A z tot l4.length s₀4 (.forLoop (.Tuple elts kk tpos) (.ref e) body [] env) (.pure (.again (.forLoop (.Tuple elts kk tpos) (.ref e) body [] env))) fs s4 := by
      intro q5
      have he4 : IsEnum s4.heap e it ((i : Int) + 1) (.str ⟨#[ch]⟩ u) := r4 e (.head _) _ (r3 e (.head _) _ he2)
      have hit4 : s4.heap.IsStrIter it (strIterType ⟨x.toArray⟩) ⟨x.toArray⟩ t (i + 1) := by
        obtain ⟨o, h1, h3⟩ := hit2
        exact ⟨o, r4 it (.tail _ (.head _)) o (r3 it (.tail _ (.head _)) o h1), h3⟩
      exact seg_again rfl (ih (i + 1) ρ4 l4 s₀4 s4 (.str ⟨#[ch]⟩ u) (by omega) (by omega) g4 rr he4 hit4 hl4 q5)
    cases hf with
    | next => exact next q4
    | cont => exact next q4
    | brk => exact fin _ .next .next ρ4 l4 s₀4 s4 .next g4.drop rr hl4 q4
    | ret hv => exact fin _ (.ret _) (.ret _) ρ4 l4 s₀4 s4 (.ret hv) g4.drop rr hl4 q4
end
end Mine
open PySem PySem.W PySem.Calls PyProof.Rows
set_option Elab.async false
set_option linter.unusedVariables false
namespace Mine
section
variable {c : Cx} {n : Nat} {sc : SE} {z : Nat}

theorem bi_core {A : Around} {env : Env} {H : AH} {s : Shared} {E : Value → Shared → Prop} {QQ : Value → Shared → Prop} {name : Str} {T : String} {e : Expr} {es : List Expr} {p pos : Pos} (he : EOk sc env) (S : St c.base H s) (hm : c.mg name = none) (hb : bootBuiltins name = some (.type T)) (hn : name ≠ ("__name__" : Str)) (hk : sc.names.lookup name = some .globalImplicit)
    (args : wpAny (model c.prog c.w) A (spliced (backTo pos (starEach (e :: es) env))) (fun vs s1 => wpAny (model c.prog c.w) A (call (.type T) vs) QQ E s1) E s)
    (hd : (name == ("__debug__" : Str)) = false) (he' : ∀ env, starEach (e :: es) env = (false, eval e env) :: starEach es env) (hp : ∀ env, (backTo pos (starEach es env)).any (·.1) = false) : wpAny (model c.prog c.w) A (eval (.Call (.Name name p) (e :: es) [] pos) env) QQ E s := by
  have TT := c.top.keeps S.hr.keep
  refine Call_ (Name_function_global he.skind (by rw [he.kindOf]; exact hk) (loadGlobal_builtin (mg := c.mg) (mb := c.mb) (by rw [he.globals]; exact TT.g) hm (by rw [he.builtins]; exact TT.b) ((TT.builtins name hn).trans hb) ?_) hd)
  rw [he' env] at args ⊢
  exact PySem.callWith_type (by show (false || (backTo pos (starEach es env)).any (·.1)) = false; rw [hp env]; rfl) (evalArgs_plain args)

theorem over_loop {A : Around} {cd : Code} {fs : List Frame} {tg : Expr} {it : Value} {body : List Stmt} {env : Env} {k : Result → Sem Fin} {g : Bool} {l : List Value} {p : Pos} (h : AOk n (A.over cd fs)) : AOk n (A.over (.forLoop tg it body [] env) (.ret k none g l cd p [] :: fs)) := by
  refine ⟨?_, ?_, ?_⟩
  · exact h.handled
  · have := h.depth
    show A.depth + frameCount ((cd, p) :: fs.map Frame.where_) + 0 + n ≤ 900
    rw [frameCount_cons]
    have e : (A.over cd fs).depth = A.depth + frameCount (fs.map Frame.where_) + cd.weight := rfl
    omega
  · have := h.units
    show A.units + unitsOf ((cd, p) :: fs.map Frame.where_) + 0 + 10 * n ≤ 9000
    rw [unitsOf_cons]
    have e : (A.over cd fs).units = A.units + unitsOf (fs.map Frame.where_) + cd.cUnits := rfl
    omega

theorem g_for_enum {elts : List Expr} {kk : Nat} {tpos npos cpos pos : Pos} {e : Expr} {g : ATg} {src : AE} {body : List Stmt} {b : AG} (hs : SoundE c n sc e src) (hg : SoundA c n sc (.Tuple elts kk tpos) g) (hb : SoundGB c n sc body b)
    (hm : c.mg (Str.ofString "enumerate") = none) (hk : sc.names.lookup (Str.ofString "enumerate") = some .globalImplicit) (hbt : bootBuiltins (Str.ofString "enumerate") = some (.type "enumerate"))
    (hst : ∀ env, starEach [e] env = [(false, eval e env)]) (hfs : ∀ env x, foldedSetIterable (.Call (.Name (Str.ofString "enumerate") npos) [e] [] cpos) env x = pure x) :
    SoundGS c n sc (.For (.Tuple elts kk tpos) (.Call (.Name (Str.ofString "enumerate") npos) [e] [] cpos) body [] pos) (gForEnum g src b) := by
  intro A env ρ l tot z rst s₀ s cd fs K Hx gd lv Q ok hgd gat hl q k
  rw [exec_For]
  refine seg_at ?_
  show Seg _ _ _ _ _ _ _ (Sem.wrap _ _ _ _ (eval _ env >>= _)) fs s
  rw [Sem.bind_eq_wrap', Sem.wrap_wrap]
  refine seg_wrap (bi_core ok.ok gat.st hm hbt (by decide +kernel) hk ?_ (by decide +kernel) (fun env => hst env) (fun _ => rfl))
  refine seqL (F := fun ps H1 => match ps with | [p] => H1 = H0 ∧ (match p with | .str x => forG g b Q (enumItems 0 x) ρ l | _ => False) | _ => False) (list_cons hs list_nil (fun env => hst env)) ok.room ok.ok gat.er gat.st q fun vs ps H1 s1 hv R1 S1 e1 q1 => ?_
  cases hv with
  | nil => exact q1.elim
  | cons hv hr =>
    cases hr with
    | cons _ _ => exact q1.elim
    | nil =>
      obtain ⟨rfl, q1⟩ := q1
      cases hv with
      | str x t hx =>
        obtain ⟨g1, r1⟩ := gat.step0 ok.nc S1 e1
        refine call_enumerate_str fun h' he hit hsz hkk => ?_
        have hz : s1.heap.objs.size ≤ h'.objs.size := by omega
        obtain ⟨g2, r2⟩ := g1.step0 (s' := { s1 with heap := h' }) ok.nc (S1.of_keep (X := No) (tk := s1.toks) (fun b o _ h => hkk b o h) (fun _ h => h.elim) (fun _ h => h.elim) (fun _ h => h.elim)) (Ext.of_keep (tk := s1.toks) (fun b o _ h => hkk b o h) hz)
        have below : ∀ a ∈ env.locals :: rst, a < s1.heap.objs.size := fun a ha => by
          obtain ⟨_, o, ho, _⟩ := g1.pv a ha
          exact Heap.lt_size ho
        have hzL : z ≤ s1.heap.objs.size := Nat.le_of_lt (Nat.lt_of_le_of_lt (g1.pv env.locals (.head _)).1 (below _ (.head _)))
        have her : s1.heap.objs.size + 1 ∉ rst := fun h => Nat.lt_irrefl _ (Nat.lt_trans (Nat.lt_succ_self _) (below _ (.tail _ h)))
        have hir : s1.heap.objs.size ∉ rst := fun h => Nat.lt_irrefl _ (below _ (.tail _ h))
        have g3 : GAt c z env ρ ((s1.heap.objs.size + 1) :: s1.heap.objs.size :: rst) s₀ { s1 with heap := h' } := by
          refine ⟨g2.er, g2.st, g2.kp, fun a ha => ?_, fun h => ?_, g2.nb⟩
          · rcases List.mem_cons.mp ha with rfl | ha
            · exact g2.pv _ (.head _)
            · rcases List.mem_cons.mp ha with rfl | ha
              · exact ⟨by omega, enum_shr he⟩
              · rcases List.mem_cons.mp ha with rfl | ha
                · exact ⟨hzL, iter_shr hit⟩
                · exact g2.pv _ (.tail _ ha)
          · have hL := below _ (.head _)
            rcases List.mem_cons.mp h with h | h
            · rw [h] at hL; exact Nat.lt_irrefl _ (Nat.lt_trans (Nat.lt_succ_self _) hL)
            · rcases List.mem_cons.mp h with h | h
              · rw [h] at hL; exact Nat.lt_irrefl _ hL
              · exact g1.ne h
        show Seg _ _ _ _ _ _ _ (Sem.wrap _ _ _ _ (foldedSetIterable _ env _ >>= _)) fs _
        rw [hfs]
        refine seg_at ?_
        show Seg _ _ _ _ _ _ _ (Sem.wrap _ _ _ _ (holding _ _ >>= _)) fs _
        rw [Sem.bind_eq_wrap', Sem.wrap_wrap]
        refine seg_wrap (wpAny_holding (wpAny_pyIter_enum he ?_))
        refine seg_call fun p => ?_
        refine loop_enum (sS := { s1 with heap := h' }) (x := x) (t := t) (e := s1.heap.objs.size + 1) (it := s1.heap.objs.size) (rst := rst) (Q := Q) hg hb hx (Nat.succ_ne_self _) her hir ⟨over_loop ok.room, by simp [splitAtGen, ok.sp], by simp [Frame.guarded, hgd, ok.gd], ok.ok, ok.nc, ok.co⟩ (fun cd' fl f ρ' l' s₀' s' hf g' hr' hl' q' => ?_) x.length 0 ρ l s₀ _ .none (by omega) (by omega) g3 (fun _ _ _ h => h) he hit hl (by simpa using q1)
        exact seg_leaf (.ok f) (k fl f ρ' l' s₀' s' hf g' (fun a ha o ho => hr' a ha o (r2 a ha o (r1 a ha o ho))) hl' q')
      | _ => exact q1.elim
end
end Mine
open PySem PySem.W PySem.Calls PyProof.Rows
set_option Elab.async false
set_option linter.unusedVariables false
namespace Mine

def gFn (ks : List Nat) (b : AG) (ps tot : List PV) : Prop := ps.length = ks.length ∧ b (fun fl _ l => (fl = .next ∨ fl = .ret .none) ∧ l = []) (bindP ks ps) tot

/-- a generator that has yet to give l -/
structure GJ (c : Cx) (B : Around) (z : Nat) (tot : List PV) (I g : Nat) (l : List PV) (s : Shared) : Prop where
  isg : s.heap.IsGen I g
  suf : l <:+ tot
  go : ∃ gs pv, s.gens[g]? = some gs ∧ Pv z pv s ∧ ∀ s'', Kc c.base pv s s'' → gs.Goes (model c.prog c.w) B (Rg c z) (Yg c z tot) l.length (.send .none) s''

def GenF (c : Cx) (n : Nat) (name : Str) (ks : List Nat) (b : AG) : Prop := ∃ a o fd, c.mg name = some (.ref a) ∧ c.base.get? a = some o ∧ o.data = .func fd ∧
  ∀ (A : Around) (H : AH) (s : Shared) (vs : List Value) (ps tot : List PV) (QQ : Value → Shared → Prop) (E : Value → Shared → Prop), AOk (n + 1) A → VAll s.heap vs ps → St c.base H s → gFn ks b ps tot →
    (∀ I s', St c.base H s' → Ext No No H s H s' → s.heap.objs.size ≤ I → (∀ B, AOk (n + 1) B → GJ c B.in1 s.heap.objs.size tot I s.gens.size tot s') → QQ (.ref I) s') → wpAny (model c.prog c.w) A (call (.ref a) vs) QQ E s

theorem zip_lookup : ∀ (xs : List Str) (vs : List Value), xs.Nodup → ∀ x v, (x, v) ∈ xs.zip vs → (xs.zip vs).reverse.lookup x = some v := by
  intro xs vs hn x v hm
  have key : ∀ (l : List (Str × Value)), (∀ y, (x, y) ∈ l → y = v) → (x, v) ∈ l → l.lookup x = some v := by
    intro l
    induction l with
    | nil => intro _ h; cases h
    | cons p l ih =>
      intro h1 h2
      obtain ⟨y, w⟩ := p
      simp only [List.lookup]
      by_cases e : x = y
      · subst e
        simp [h1 w (.head _)]
      · have : (x == y) = false := by simpa using e
        rw [this]
        refine ih (fun y' h => h1 y' (.tail _ h)) ?_
        rcases List.mem_cons.mp h2 with h2 | h2
        · cases h2; exact absurd rfl e
        · exact h2
  refine key _ (fun y hy => ?_) (List.mem_reverse.mpr hm)
  rw [List.mem_reverse] at hy
  obtain ⟨i, hi⟩ := List.mem_iff_getElem?.mp hy
  obtain ⟨j, hj⟩ := List.mem_iff_getElem?.mp hm
  rw [List.getElem?_zip_eq_some] at hi hj
  have hij : i = j := by
    obtain ⟨h1, e1⟩ := List.getElem?_eq_some_iff.mp hi.1
    obtain ⟨h2, e2⟩ := List.getElem?_eq_some_iff.mp hj.1
    rcases Nat.lt_trichotomy i j with h | h | h
    · exact absurd (e1.trans e2.symm) (List.pairwise_iff_getElem.mp hn i j h1 h2 h)
    · exact h
    · exact absurd (e2.trans e1.symm) (List.pairwise_iff_getElem.mp hn j i h2 h1 h)
  subst hij
  have := hi.2.symm.trans hj.2
  cases this; rfl

section
variable {c : Cx} {n : Nat}
theorem over_func {B : Around} {body : List Stmt} {env : Env} (h : AOk (n + 1) B) : AOk n (B.in1.over (.func body env) []) := by
  refine ⟨h.handled, ?_, ?_⟩
  · have := h.depth
    show B.depth + 0 + 1 + n ≤ 900
    omega
  · have := h.units
    show B.units + 1 + 0 + 3 + 10 * n ≤ 9000
    omega

theorem sound_gen {d : DefRec} {ks : List Nat} {xs : List Str} {b : AG} (hd : d ∈ recsOf c.q) (hb : SoundGB c n ⟨d.scope, []⟩ d.body b) (hx : ks.map (c.N[·]?) = xs.map some) (hnd : xs.Nodup)
    (hbind : ∀ pm cd doc vs, vs.length = xs.length → bindArgs (Calls.docDef d.name d.params d.body d.scope pm cd doc) ⟨vs, []⟩ = pure (xs.zip vs))
    (hkind : ∀ x ∈ xs, d.scope.names.lookup x = some .local) (hcell : ∀ x ∈ d.scope.names, x.2 ≠ .cell)
    (hco : d.scope.isCoroutine = false) (hgen : d.scope.isGenerator = true) (hk : d.scope.kind = .function) : GenF c n d.name ks b := by
  obtain ⟨a, o, pm, cd, doc, h1, h2, h3, h4⟩ := c.top.fn d hd
  refine ⟨a, o, _, h1, h2, h3, ?_⟩
  intro A H s vs ps tot QQ E hA hv S q fin
  obtain ⟨ql, q⟩ := q
  have hlen : ks.length = xs.length := by simpa using congrArg List.length hx
  have T := c.top.keeps S.hr.keep
  refine wpAny_call (codeAny_call_generator (by have := hA.depth; simp only [recursionLimit]; omega) (S.hr.keep a o h2) h3 hco hgen rfl (h4.keeps S.hr.keep) ?_)
  rw [hbind pm cd doc vs (by rw [hv.length, ql, hlen])]
  refine wpAny_pure (wpAny_newFunctionEnv hcell (fun x hx' => hkind _ (List.of_mem_zip hx').1) (fun h' hns hsb => ⟨T.nolimit.fresh _ hsb, ?_⟩) hk)
  have hk1 : ∀ b o, s.heap.get? b = some o → h'.get? b = some o := fun b o h => by
    have : b ≠ s.heap.objs.size := Nat.ne_of_lt (Heap.lt_size h)
    exact (hsb.2 b this).trans (Heap.get?_push_of_some _ h)
  have hz1 : h'.objs.size = s.heap.objs.size + 1 := by rw [hsb.1]; simp
  generalize henv : newEnv _ _ _ _ _ _ _ _ _ = env
  have eL : env.locals = s.heap.objs.size := by rw [← henv]; rfl
  have eS : env.scope = d.scope := by rw [← henv]; rfl
  have eC : env.cells = [] := by rw [← henv]; rfl
  have he : EOk ⟨d.scope, []⟩ env := ⟨eS, hk, by rw [← henv]; rfl, by rw [← henv]; rfl, fun y hy => absurd rfl (hcell _ (mem_of_lookup hy))⟩
  have S1 : St c.base H { s with heap := h', toks := s.toks + (xs.zip vs).length } := S.of_keep (X := No) (fun b o _ h => hk1 b o h) (fun _ h => h.elim) (fun _ h => h.elim) (fun _ h => h.elim)
  have hv1 : VAll h' vs ps := hv.mono fun b o h => hk1 b o h.1
  let gob : Obj := { cls := .type "generator", data := .fields #[.int s.gens.size 0, .str d.name (s.toks + (xs.zip vs).length), .str d.name (s.toks + (xs.zip vs).length + 1)] }
  have hk2 : ∀ b o, s.heap.get? b = some o → (h'.push gob).get? b = some o := fun b o h => Heap.get?_push_of_some _ (hk1 b o h)
  have nb : ∀ a, s.heap.objs.size ≤ a → c.base.get? a = none := fun a ha => S.bsize ha
  refine fin h'.objs.size { s with gens := s.gens.push (.fresh (.func d.body env)), toks := s.toks + (xs.zip vs).length + 1 + 1, heap := h'.push gob } ?_ ?_ (by omega) fun B hB => ?_
  · exact ⟨⟨fun b o h => hk2 b o (S.hr.keep b o h), fun a x h => by
      obtain ⟨us, m, hl, hu⟩ := S.hr.list a x h
      exact ⟨us, m, hk2 a _ hl, hu.mono fun b o h => hk2 b o h.1⟩, S.hr.new⟩, S.bare.push rfl⟩
  · refine ⟨fun a o h _ _ => hk2 a o h, by simp; omega, fun _ x h => .inl ⟨x, h, rfl⟩, fun i g h _ => ?_, by simp, rfl⟩
    have hi := (Array.getElem?_eq_some_iff.mp h).1
    show (s.gens.push _)[i]? = some g
    rw [Array.getElem?_push, if_neg (Nat.ne_of_lt hi)]; exact h
  · have hns2 : (h'.push gob).Ns env.locals (fun x => (xs.zip vs).reverse.lookup x) := by
      rw [eL]; exact hns.keeps fun b o h => Heap.get?_push_of_some _ h
    have hv2 : VAll (h'.push gob) vs ps := hv.mono fun b o h => hk2 b o h.1
    have g0 : GAt c s.heap.objs.size env (bindP ks ps) [] { s with gens := s.gens.push (.fresh (.func d.body env)), toks := s.toks + (xs.zip vs).length + 1 + 1, heap := h'.push gob } { s with gens := s.gens.push (.fresh (.func d.body env)), toks := s.toks + (xs.zip vs).length + 1 + 1, heap := h'.push gob } := by
      refine ⟨⟨⟨_, hns2, fun k p hp => ?_⟩, (fun x cc hx => by rw [eC] at hx; cases hx), by rw [eC]; exact .nil, by rw [eL]; exact nb _ (Nat.le_refl _), (fun x cc hx => by rw [eC] at hx; cases hx)⟩, ⟨⟨fun b o h => hk2 b o (S.hr.keep b o h), fun _ _ h => (nomatch h), fun _ _ h => (nomatch h)⟩, S.bare.push rfl⟩, .refl, fun a ha => ?_, List.not_mem_nil, nb⟩
      · obtain ⟨y, v, k1, k2, k3⟩ := bindP_at ks xs vs ps hx hv2 ql k p hp
        exact ⟨y, v, k1, k3, .inl ⟨by rw [he.kindOf]; exact hkind y (List.of_mem_zip k2).1, zip_lookup xs vs hnd y v k2⟩⟩
      · have : a = env.locals := by simpa using ha
        subst this
        exact ⟨Nat.le_of_eq eL.symm, dict_shr hns2⟩
    refine ⟨⟨gob, _, _, Heap.get?_push_size _ rfl, rfl, rfl, rfl⟩, List.suffix_refl _, .fresh (.func d.body env), [env.locals], by simp, g0.pv, fun s'' kc => ⟨rfl, ?_⟩⟩
    refine seg_func (hb B.in1 env (bindP ks ps) tot tot s.heap.objs.size [] s'' s'' _ [] _ _ _ _ _ ⟨over_func hB, rfl, rfl, he, eC, hco⟩ rfl (g0.again eC kc) (List.suffix_refl _) q fun fl f ρ' l' s₀' s' hf g' hr hl q' => ?_)
    obtain ⟨hfl, rfl⟩ := q'
    rcases hfl with rfl | rfl
    · cases hf
      exact seg_end (.ok (.ret .none)) ⟨rfl, rfl, g'.kp, g'.st⟩
    · cases hf with
      | ret hv =>
        cases hv
        exact seg_end (.ok (.ret .none)) ⟨rfl, rfl, g'.kp, g'.st⟩

theorem next_gen {A : Around} {E : Value → Shared → Prop} {s : Shared} {a : Addr} {g m : Nat} {gs : GenState} {P : Nat → Shared → Shared → Prop} {Y : Protocol} {Q : Option Value → Shared → Prop} (hh : A.handled = none) (hl : s.heap.NoLimit) (hroom : A.depth < recursionLimit)
    (hg : s.heap.IsGen a g) (hgs : s.gens[g]? = some gs) (hgo : gs.Goes (model c.prog c.w) A.in1 (fun n s₀ r s₁ => r = .ok (.ret .none) ∧ P n s₀ s₁) Y m (.send .none) (s.setGen g .running))
    (hY : ∀ v s₁ gs', gs'.bare = true → Y (m - 1) (s.setGen g .running) v s₁ (fun r' s'' => match m with
        | 0 => False
        | j + 1 => gs'.Goes (model c.prog c.w) A.in1 (fun n s₀ r s₁ => r = .ok (.ret .none) ∧ P n s₀ s₁) Y j r' s'') → Q (some v) (s₁.setGen g gs'))
    (hP : ∀ s₁, P m (s.setGen g .running) s₁ → ∀ h', (∀ b o, s₁.heap.get? b = some o → h'.get? b = some o) → Q none { s₁.setGen g .finished with heap := h' }) : wpAny (model c.prog c.w) A (pyNext (.ref a)) Q E s := by
  unfold pyNext
  refine wpAny_bind (wpAny_attempt (wpAny_callSpecial?_slot (name := Str.ofString "__next__") hg.typeIs slot_gen_next (wpAny_call_entry slot_gen_next hg.typeIs entry_gen_next ?_ (args_gen_next _))))
  show wpAny _ A.in1 (Builtin.Generator.genWake (.ref a) (.send .none)) _ _ s
  unfold Builtin.Generator.genWake
  refine wpAny_bind (wpAny_holding (wpAny_genNumber hg (wpAny_bind (wpAny_genState hgs ?_))))
  cases gs with
  | running => exact hgo.elim
  | finished => exact hgo.elim
  | _ =>
    refine wpAny_bind (wpAny_roomToWake hl hroom ?_)
    show wpAny _ A.in1 (.resume g (.send .none) [] _) _ _ s
    refine wpAny_resumeQ hgs hgo (fun x s₁ hx => ?_) (fun v s₁ gs' hb hv => wpAny_pure ⟨v, rfl, wpAny_pure (hY v s₁ gs' hb hv)⟩)
    obtain ⟨rfl, hp⟩ := hx
    show wpAny _ A.in1 (newExc (.type "StopIteration") [] >>= _) _ _ _
    simp only [newExc, newTuple, raiseNew]
    refine wpAny_bind (wpAny_bind (wpAny_newObj_type ?_ (by size_fits)))
    refine wpAny_bind (m := firstArgMember _ _) (wpAny_of_eq (a := Value.none) (by first | rfl | (simp only [firstArgMember]; rfl)) ?_)
    refine wpAny_newObj_type (wpAny_bind (wpAny_bind (wpAny_handled ?_))) (by size_fits)
    rw [show A.in1.handled = none from hh]
    refine wpAny_throw (wpAny_bind (wpAny_isInstance (T := "StopIteration") (b := true) ⟨_, Heap.get?_push_size _ rfl, rfl⟩ isSubtype_stop ?_))
    exact wpAny_pure (hP s₁ hp _ fun b o hb => Heap.get?_push_of_some _ (Heap.get?_push_of_some _ hb))

theorem setGen_at {s : Shared} {g : Nat} {gs x : GenState} (h : s.gens[g]? = some gs) : (s.setGen g x).gens[g]? = some x := by
  have hi := (Array.getElem?_eq_some_iff.mp h).1
  simp [Shared.setGen, hi]
theorem setGen_other {s : Shared} {g i : Nat} {x : GenState} (h : i ≠ g) : (s.setGen g x).gens[i]? = s.gens[i]? := by
  simp [Shared.setGen, Array.getElem?_setIfInBounds, h.symm]
theorem bare_set {s : Shared} {g : Nat} {x : GenState} (h : AllBare s.gens) (hx : x.bare = true) : AllBare (s.setGen g x).gens := by
  intro y hy
  obtain ⟨i, hi, rfl⟩ := Array.mem_iff_getElem.mp hy
  have e : (s.setGen g x).gens[i]? = some ((s.setGen g x).gens[i]) := Array.getElem?_eq_getElem hi
  by_cases q : i = g
  · subst q
    have hi' : i < s.gens.size := by simpa [Shared.setGen] using hi
    rw [setGen_at (Array.getElem?_eq_getElem hi')] at e
    have := Option.some.inj e
    rw [← this]; exact hx
  · rw [setGen_other q] at e
    obtain ⟨hi', e'⟩ := Array.getElem?_eq_some_iff.mp e
    rw [← e']; exact h _ (Array.getElem_mem hi')
theorem st_setGen {base : Heap} {H : AH} {s : Shared} {g : Nat} {x : GenState} (S : St base H s) (hx : x.bare = true) : St base H (s.setGen g x) := ⟨⟨S.hr.keep, S.hr.list, S.hr.new⟩, bare_set S.bare hx⟩

theorem gen_iter {B : Around} {z : Nat} {tot : List PV} {I g : Nat} (hB : AOk (n + 1) B) (hzI : z ≤ I) : IterA c B I (fun a => z ≤ a) (fun i => i = g) (fun _ => True) (fun l H s => GJ c B.in1 z tot I g l s) where
  item := by
    intro p rest H s E Q j S hQ
    obtain ⟨gs, pv, h1, h2, h3⟩ := j.go
    have T := c.top.keeps S.hr.keep
    refine next_gen (m := (p :: rest).length) (P := fun n s₀ s₁ => n = 0 ∧ Kp z s₀ s₁ ∧ St c.base H0 s₁) (Y := Yg c z tot) hB.handled T.nolimit (by have := hB.depth; simp only [recursionLimit]; omega) j.isg h1 (h3 _ ⟨fun _ _ _ h => h, fun _ _ h => h.1, st_setGen S.alone rfl⟩) (fun v s₁ gs' hb hv => ?_) (fun s₁ hp => by cases hp.1)
    obtain ⟨p', pv', e1, hv', kp, S1, pvv, cl⟩ := hv
    obtain ⟨e2, hsuf⟩ := suf_at j.suf
    have e3 : some p' = some p := by rw [← e1, ← e2]; rfl
    cases e3
    have S2 : St c.base H s₁ := by
      have S' : St c.base H (s.setGen g .running) := st_setGen S rfl
      exact kp.st S' S1
    have hg1 : s₁.gens[g]? = some .running := kp.gens g _ (setGen_at h1)
    refine hQ v _ hv' (st_setGen S2 hb) ?_ ⟨?_, hsuf, gs', pv', setGen_at hg1, pvv, fun s'' kc => cl s'' kc⟩ (fun b o h => kp.imm b o h)
    · refine ⟨fun a o h hx _ => kp.keep a o h (.inl (Nat.lt_of_not_le hx)), kp.size, fun _ x h => .inl ⟨x, h, rfl⟩, fun i gi hi hne => ?_, ?_, kp.os⟩
      · rw [setGen_other hne]
        exact kp.gens i gi (by rw [setGen_other hne]; exact hi)
      · have := kp.gsize
        simp only [setGen_gens] at this ⊢
        exact this
    · obtain ⟨o, nm, qn, ho, hc, hd, hs⟩ := j.isg
      exact ⟨o, nm, qn, kp.keep I o ho (.inr (.inr ⟨.inr hc, _, hd⟩)), hc, hd, hs⟩
  done := by
    intro H s E Q j S hQ
    obtain ⟨gs, pv, h1, h2, h3⟩ := j.go
    have T := c.top.keeps S.hr.keep
    refine wpAny_grow (next_gen (m := 0) (P := fun n s₀ s₁ => n = 0 ∧ Kp z s₀ s₁ ∧ St c.base H0 s₁) (Y := Yg c z tot) hB.handled T.nolimit (by have := hB.depth; simp only [recursionLimit]; omega) j.isg h1 (h3 _ ⟨fun _ _ _ h => h, fun _ _ h => h.1, st_setGen S.alone rfl⟩) (fun v s₁ gs' hb hv => ?_) (fun s₁ hp h' hk gr => ?_))
    · obtain ⟨p', pv', e1, hv', kp, S1, pvv, cl⟩ := hv
      intro _
      exact (cl s₁ ⟨fun _ _ _ h => h, fun _ _ h => h.1, S1⟩).elim
    · obtain ⟨_, kp, S1⟩ := hp
      have S2 : St c.base H s₁ := kp.st (st_setGen S rfl) S1
      have S3 := st_setGen (g := g) (x := .finished) S2 rfl
      refine hQ _ (S3.of_keep (X := No) (tk := s₁.toks) (fun b o _ h => hk b o h) (fun _ h => h.elim) (fun _ h => h.elim) (fun _ h => h.elim)) ?_ (fun b o h => hk b o (kp.imm b o h))
      refine ⟨fun a o h hx _ => hk a o (kp.keep a o h (.inl (Nat.lt_of_not_le hx))), gr.1, fun _ x h => .inl ⟨x, h, rfl⟩, fun i gi hi hne => ?_, gr.2, kp.os⟩
      show (s₁.setGen g .finished).gens[i]? = some gi
      rw [setGen_other hne]
      exact kp.gens i gi (by rw [setGen_other hne]; exact hi)
  frame := by
    intro X l H s H' s' j S e S' hX hI _
    obtain ⟨gs, pv, h1, h2, h3⟩ := j.go
    have hz : ∀ a, z ≤ a → ¬ X a := fun a ha hx => hX a hx ha
    obtain ⟨o, nm, qn, ho, hc, hd, hs⟩ := j.isg
    have pvk : ∀ a ∈ pv, ∀ o, s.heap.get? a = some o → s'.heap.get? a = some o := fun a ha o ho => by
      obtain ⟨k1, o', k2, k3⟩ := h2 a ha
      rw [ho] at k2; cases k2
      refine S.stay' e ho (hz a k1) fun vs m hl => k3 (.inl ?_)
      rw [show s.heap.get? a = _ from hl] at ho; cases ho; exact ⟨_, _, rfl⟩
    refine ⟨⟨o, nm, qn, S.stay e ho (hz I hzI) (by rw [hc]; simp), hc, hd, hs⟩, j.suf, gs, pv, e.gens g gs h1 (fun h => h), fun a ha => ?_, fun s'' kc => h3 s'' ⟨fun a ha o ho => kc.1 a ha o (pvk a ha o ho), fun b o h => kc.2.1 b o ⟨S.stayI e h (hI b o h), h.2⟩, kc.2.2⟩⟩
    obtain ⟨k1, o', k2, k3⟩ := h2 a ha
    exact ⟨k1, o', pvk a ha o' k2, k3⟩
  owned := by
    intro l H s E Q elts k pos v j h
    obtain ⟨o, nm, qn, ho, hc, hd, hs⟩ := j.isg
    exact owned_other ho hc (by decide) h
end
end Mine
open PySem PySem.W PySem.Calls PyProof.Rows
set_option Elab.async false
set_option linter.unusedVariables false
namespace Mine
section
variable {c : Cx} {n m : Nat} {sc : SE}

/-- a call of a generator's def gives a generator -/
theorem gen_call {A : Around} {env : Env} {ρ : AEnv} {H : AH} {s : Shared} {E : Value → Shared → Prop} {QQ : Value → Shared → Prop} {name : Str} {ks : List Nat} {b : AG} {e : Expr} {es : List Expr} {l : AL} {p pos : Pos} {F : List PV → List PV → AH → Prop} (hf : GenF c m name ks b) (hl : SoundL c n sc (e :: es) l) (hk : sc.names.lookup name = some .globalImplicit) (hm : m + 1 ≤ n)
    (hA : AOk n A) (he : EOk sc env) (R : ER c.base c.N env ρ s.heap) (S : St c.base H s) (q : l (fun ps H1 => ∃ tot, gFn ks b ps tot ∧ F ps tot H1) ρ H)
    (fin : ∀ I z g ps tot H1 s1, z ≤ I → s.heap.objs.size ≤ z → s.gens.size ≤ g → ER c.base c.N env ρ s1.heap → St c.base H1 s1 → Ext No No H s H1 s1 → (∀ B, AOk (m + 1) B → GJ c B.in1 z tot I g tot s1) → I < s1.heap.objs.size → F ps tot H1 → QQ (.ref I) s1)
    (hd : (name == ("__debug__" : Str)) = false) (he' : ∀ env, starEach (e :: es) env = (false, eval e env) :: starEach es env) : wpAny (model c.prog c.w) A (eval (.Call (.Name name p) (e :: es) [] pos) env) QQ E s := by
  obtain ⟨a, o, fd, h1, h2, h3, h4⟩ := hf
  have T := c.top.keeps S.hr.keep
  refine Call_ (Name_function_global he.skind (by rw [he.kindOf]; exact hk) (loadGlobal_global (mg := c.mg) (by rw [he.globals]; exact T.g) h1 ?_) hd)
  refine callWith_def h3 (seqL (F := fun ps H1 => ∃ tot, gFn ks b ps tot ∧ F ps tot H1) hl hA he R S q fun vs ps H1 s1 hv R1 S1 e1 ⟨tot, hg, q1⟩ => ⟨S1.hr.keep a o h2, ?_⟩) (he' env)
  refine h4 A H1 s1 vs ps tot QQ E (hA.of_le hm) hv S1 hg fun I s' S' e' hI gj => ?_
  have hlt : I < s'.heap.objs.size := by
    obtain ⟨o, _, _, ho, _⟩ := (gj A (hA.of_le hm)).isg
    exact Heap.lt_size ho
  exact fin I _ _ ps tot H1 s' hI e1.size e1.gsize (R1.ext0 S1 e') S' (e1.trans e') gj hlt q1

def sForG (g : ATg) (ks : List Nat) (gb : AG) (l : AL) (b : AS) : AS := fun Q ρ H => l (fun ps H1 => ∃ tot, gFn ks gb ps tot ∧ forL g b (fun _ => True) Q tot ρ H1) ρ H
theorem stmt_for_gen {tg : Expr} {name : Str} {ks : List Nat} {gb : AG} {e : Expr} {es : List Expr} {l : AL} {p cpos pos : Pos} {body : List Stmt} {g : ATg} {b : AS} (hf : GenF c m name ks gb) (hl : SoundL c n sc (e :: es) l) (hk : sc.names.lookup name = some .globalImplicit) (hm : m + 1 ≤ n) (hg : SoundA c n sc tg g) (hb : SoundB c n sc body b)
    (hfs : ∀ env x, foldedSetIterable (.Call (.Name name p) (e :: es) [] cpos) env x = pure x) (ht : (∃ elts k pos, tg = .Tuple elts k pos) ∨ ∀ it v, letOwnedTupleGo tg it v = pure ())
    (hd : (name == ("__debug__" : Str)) = false) (he' : ∀ env, starEach (e :: es) env = (false, eval e env) :: starEach es env) : SoundS c n sc (.For tg (.Call (.Name name p) (e :: es) [] cpos) body [] pos) (sForG g ks gb l b) := by
  intro A env ρ H s Q E hA he R S q
  refine wpAny_For (gen_call (F := fun ps tot H1 => forL g b (fun _ => True) Q tot ρ H1) hf hl hk hm hA he R S q (fun I z gi ps tot H1 s1 hI hz hgz R1 S1 e1 gj hlt q1 => ?_) hd he') (hfs env)
  have hB := hA.of_le hm
  refine wpAny_pyIter_gen (gj A hB).isg ?_
  exact for_loop (gen_iter (n := m) hB hI) hg hb hA he ht R (fun a ha => Nat.le_trans hz ha) (fun i hi => by subst hi; exact hgz) (gj A hB) R1 S1 e1.of_no q1 fun f s' r => r

-- list(gen(..))
/-- list(gen(..)) -/
def aGenList (ks : List Nat) (gb : AG) (l : AL) : AE := fun Q ρ H => l (fun ps H1 => ∃ tot, gFn ks gb ps tot ∧ tot.length ≤ 16777216 ∧ newL tot Q H1) ρ H
end
end Mine
open PySem PySem.W PySem.Calls PyProof.Rows
set_option Elab.async false
namespace Mine
theorem ms_forg {g : ATg} {ks : List Nat} {gb : AG} {l : AL} {b : AS} (hl : MonoL l) (mg : MonoG g) (mb : MonoS b) : MonoS (sForG g ks gb l b) := fun Q Q' ρ H h q =>
  hl _ _ _ _ (fun ps H1 ⟨tot, h1, h2⟩ => ⟨tot, h1, by
    refine forL_inv mg mb (fun ps ρ H => forL g b (fun _ => True) Q ps ρ H) (fun p ps ρ H hi => ?_) (fun ρ H hi => h _ _ _ hi) tot ρ H1 h2
    refine mg _ _ _ _ _ (fun ρ1 H1 q1 => mb _ _ _ _ (fun fl ρ2 H2 q2 => ?_) q1) hi
    cases fl with
    | next => exact q2
    | cont => exact q2
    | brk => exact h _ _ _ q2
    | ret v => exact h _ _ _ q2⟩) q
end Mine
open PySem PySem.W PySem.Calls PyProof.Rows
set_option Elab.async false
set_option linter.unusedVariables false
namespace Mine
section
variable {c : Cx} {n : Nat}

def fChr : AF := fun ps Q H => match ps with
  | [.int i] => (0 ≤ i ∧ i < 0x110000) ∧ Q (.str [i.toNat]) H
  | _ => False
def strsOf : List PV → Option (List (List Nat))
  | [] => some []
  | .str x :: r => (strsOf r).map (x :: ·)
  | _ :: _ => none
def joinL (sep : List Nat) : List (List Nat) → List Nat
  | [] => []
  | [x] => x
  | x :: r => x ++ sep ++ joinL sep r
theorem joinL_nil : ∀ xs : List (List Nat), joinL [] xs = xs.flatten
  | [] => rfl
  | [x] => by simp [joinL]
  | x :: y :: r => by simp only [joinL, List.append_nil, List.flatten_cons]; rw [joinL_nil (y :: r), List.flatten_cons]
theorem strs_are {h : Heap} : ∀ {vs : List Value} {ps : List PV} {ys : List (List Nat)}, VAll h vs ps → strsOf ps = some ys → StrsAre vs (ys.map fun y => ⟨y.toArray⟩) ∧ ∀ y ∈ ys, ∀ ch ∈ y, ch < 0x110000
  | _, _, ys, .nil, e => by cases e; exact ⟨.nil, fun _ h => by cases h⟩
  | _, _, ys, .cons hv hr, e => by
    cases hv with
    | str x t hx =>
      simp only [strsOf, Option.map_eq_some_iff] at e
      obtain ⟨zs, e1, rfl⟩ := e
      obtain ⟨h1, h2⟩ := strs_are hr e1
      refine ⟨.cons _ _ h1, fun y hy => ?_⟩
      rcases List.mem_cons.mp hy with rfl | hy
      · exact hx
      · exact h2 y hy
    | _ => cases e
theorem str_join_eq (sep : List Nat) : ∀ ys : List (List Nat), Str.join ⟨sep.toArray⟩ (ys.map fun y => ⟨y.toArray⟩) = ⟨(joinL sep ys).toArray⟩
  | [] => rfl
  | [x] => rfl
  | x :: y :: r => by
    have ih := str_join_eq sep (y :: r)
    simp only [List.map_cons] at ih
    simp only [List.map_cons, Str.join, joinL]
    rw [ih, str_app, str_app]
theorem join_mem {sep : List Nat} : ∀ {ys : List (List Nat)} {ch : Nat}, ch ∈ joinL sep ys → ch ∈ sep ∨ ∃ y ∈ ys, ch ∈ y
  | [], _, h => by cases h
  | [x], _, h => .inr ⟨x, .head _, h⟩
  | x :: y :: r, ch, h => by
    simp only [joinL, List.mem_append] at h
    rcases h with (h | h) | h
    · exact .inr ⟨x, .head _, h⟩
    · exact .inl h
    · rcases join_mem h with h | ⟨z, hz, h⟩
      · exact .inl h
      · exact .inr ⟨z, .tail _ hz, h⟩
def fSJoin : AF := fun ps Q H => match ps with
  | [.str sep, .ref a] => (match H a with
    | some x => (match strsOf x.items with
      | some ys => (ys.map List.length).sum + ys.length * sep.length ≤ 16777216 ∧ Q (.str (joinL sep ys)) H
      | none => False)
    | none => False)
  | _ => False
theorem me_sjoin : SoundV c n (.builtin "str.join") fSJoin := by
  intro A H s vs ps Q E hA hv S q
  unfold fSJoin at q
  split at q
  · rename_i sep a
    cases hv with
    | cons h1 h2 =>
      cases h2 with
      | cons h2 h3 =>
        cases h3
        cases h1 with
        | str _ t hsep =>
          cases h2
          split at q
          · rename_i x hx
            split at q
            · rename_i ys hy
              obtain ⟨vs, k, hl, hv⟩ := S.hr.list _ x hx
              obtain ⟨h1, h2⟩ := strs_are hv hy
              refine join_list hl.isList h1 ?_ fun t' tk => ?_
              · have : (List.map (fun y : Str => y.length) (ys.map fun y => (⟨y.toArray⟩ : Str))) = ys.map List.length := by
                  rw [List.map_map]; exact List.map_congr_left fun y _ => str_len y
                rw [this, str_len, List.length_map]; exact q.1
              · have : Txt.join ⟨sep.toArray⟩ (ys.map fun y => (⟨y.toArray⟩ : Str)) = ⟨(joinL sep ys).toArray⟩ := by
                  show Builtin.Str.glued _ _ = _
                  rw [StrLaws.glued_eq_join, str_join_eq]
                rw [this]
                refine res_tok S (.str _ _ fun ch hc => ?_) q.2
                rcases join_mem hc with h | ⟨y, hy, h⟩
                · exact hsep ch h
                · exact h2 y hy ch h
            · exact q.elim
          · exact q.elim
  · exact q.elim
theorem mf_sjoin : MonoF fSJoin := by
  intro ps Q Q' H h q; unfold fSJoin at *
  split at q
  · split at q
    · split at q
      · exact ⟨q.1, h _ _ q.2⟩
      · exact q.elim
    · exact q.elim
  · exact q.elim
end
end Mine
open PySem PySem.W PySem.Calls PyProof.Rows
set_option Elab.async false
namespace Mine
/-- what the escaped chars of a text are: places and units -/
def esc : Nat → Bool → List Nat → List (Nat × List Nat)
  | i, b, [] => if b then [(i - 1, [92])] else []
  | i, true, c :: x => (i, [92, c]) :: esc (i + 1) false x
  | i, false, c :: x => if c = 92 then esc (i + 1) true x else (i, [c]) :: esc (i + 1) false x
def up (p : Nat × List Nat) : PV := .tup [.int p.1, .str p.2]
theorem esc_len : ∀ (x : List Nat) (i : Nat) (b : Bool), (esc i b x).length ≤ x.length + (if b then 1 else 0)
  | [], i, b => by unfold esc; cases b <;> simp
  | c :: x, i, true => by
    have := esc_len x (i + 1) false
    simp [esc] at this ⊢; omega
  | c :: x, i, false => by
    have h1 := esc_len x (i + 1) false
    have h2 := esc_len x (i + 1) true
    simp only [esc]
    split
    · simp at h2 ⊢; omega
    · simp at h1 ⊢; omega
/-- the units that are whole, and whether a backslash is open -/
def escU : Nat → Bool → List Nat → List (Nat × List Nat)
  | _, _, [] => []
  | i, true, c :: x => (i, [92, c]) :: escU (i + 1) false x
  | i, false, c :: x => if c = 92 then escU (i + 1) true x else (i, [c]) :: escU (i + 1) false x
def stt : Bool → List Nat → Bool
  | b, [] => b
  | true, _ :: x => stt false x
  | false, c :: x => stt (decide (c = 92)) x
/-- the text's slices, within bounds or not -/
theorem clip_nat (n a : Nat) : clipAt n (a : Int) = min a n := by unfold clipAt; split <;> omega
theorem slc_mid {α : Type} (x : List α) (a b : Nat) : slc x (some (a : Int)) (some (b : Int)) = (x.drop a).take (b - a) := by
  unfold slc
  simp only [Option.elim, clip_nat]
  rcases Nat.le_total a x.length with h | h
  · rw [Nat.min_eq_left h]
    rcases Nat.le_total b x.length with h' | h'
    · rw [Nat.min_eq_left h']
    · rw [Nat.min_eq_right h', List.take_of_length_le (by simp), List.take_of_length_le (by simp; omega)]
  · rw [List.drop_eq_nil_of_le h, Nat.min_eq_right h, List.drop_eq_nil_of_le (Nat.le_refl _)]; simp
theorem slc_from {α : Type} (x : List α) (a : Nat) : slc x (some (a : Int)) none = x.drop a := by
  unfold slc
  simp only [Option.elim, clip_nat]
  rcases Nat.le_total a x.length with h | h
  · rw [Nat.min_eq_left h, List.take_of_length_le (by simp)]
  · rw [List.drop_eq_nil_of_le h, Nat.min_eq_right h, List.drop_eq_nil_of_le (Nat.le_refl _)]; simp
theorem slc_to {α : Type} (x : List α) (b : Nat) : slc x none (some (b : Int)) = x.take b := by
  have := slc_mid x 0 b
  unfold slc at this ⊢
  simp only [Option.elim, clip_nat] at this ⊢
  simpa using this
end Mine
open PySem PySem.W PySem.Calls PyProof.Rows
set_option Elab.async false
set_option linter.unusedVariables false
namespace Mine
section
variable {c : Cx} {n : Nat} {sc : SE}

theorem res_kept {H : AH} {s : Shared} {Q : PV → AH → Prop} {v : Value} {p : PV} {h' : Heap} {tk : Nat} (S : St c.base H s) (hk : ∀ b o, s.heap.get? b = some o → h'.get? b = some o) (hz : s.heap.objs.size ≤ h'.objs.size) (hv : VRel s.heap v p) (q : Q p H) : Res c H s Q v { s with heap := h', toks := tk } :=
  ⟨p, H, hv.mono fun b o h => hk b o h.1, S.of_keep (X := No) (fun b o _ h => hk b o h) (fun _ h => h.elim) (fun _ h => h.elim) (fun _ h => h.elim), Ext.of_keep (fun b o _ h => hk b o h) hz, q⟩

def boolsOf : List PV → Option (List Bool)
  | [] => some []
  | .bool b :: r => (boolsOf r).map (b :: ·)
  | _ :: _ => none
def intsOf : List PV → Option (List Int)
  | [] => some []
  | .int i :: r => (intsOf r).map (i :: ·)
  | _ :: _ => none
theorem boolsOf_map : ∀ bs : List Bool, boolsOf (bs.map .bool) = some bs
  | [] => rfl
  | b :: r => by simp [boolsOf, boolsOf_map r]
theorem intsOf_map : ∀ bs : List Int, intsOf (bs.map .int) = some bs
  | [] => rfl
  | b :: r => by simp [intsOf, intsOf_map r]
theorem bools_are {h : Heap} : ∀ {vs : List Value} {ps : List PV} {bs : List Bool}, VAll h vs ps → boolsOf ps = some bs → vs = bs.map .bool
  | _, _, bs, .nil, e => by cases e; rfl
  | _, _, bs, .cons hv hr, e => by
    cases hv with
    | bool b =>
      simp only [boolsOf, Option.map_eq_some_iff] at e
      obtain ⟨zs, e1, rfl⟩ := e
      rw [bools_are hr e1]; rfl
    | _ => cases e
theorem ints_are {h : Heap} : ∀ {vs : List Value} {ps : List PV} {ns : List Int}, VAll h vs ps → intsOf ps = some ns → ∃ ys : List (Int × Tok), vs = ys.map (fun p => .int p.1 p.2) ∧ ys.map (·.1) = ns
  | _, _, ns, .nil, e => by cases e; exact ⟨[], rfl, rfl⟩
  | _, _, ns, .cons hv hr, e => by
    cases hv with
    | int i t =>
      simp only [intsOf, Option.map_eq_some_iff] at e
      obtain ⟨zs, e1, rfl⟩ := e
      obtain ⟨ys, h1, h2⟩ := ints_are hr e1
      exact ⟨(i, t) :: ys, by rw [h1]; rfl, by simp [h2]⟩
    | _ => cases e
theorem range_anyB (bs : List Bool) : ((List.range bs.length).any fun i => (bs[i]?).getD false) = bs.any id := by
  induction bs with
  | nil => rfl
  | cons b bs ih => rw [List.length_cons, List.range_succ_eq_map, List.any_cons, List.any_map, List.any_cons]; simp only [Function.comp_def, List.getElem?_cons_succ, List.getElem?_cons_zero, Option.getD_some, id]; rw [ih]
theorem kept_it {s : Shared} {h' : Heap} {o : Obj} (hk : ∀ b x, b ∉ [s.heap.objs.size] → (s.heap.push o).get? b = some x → h'.get? b = some x) : ∀ b x, s.heap.get? b = some x → h'.get? b = some x :=
  fun b x e => hk b x (fun hm => by rw [List.mem_singleton.mp hm] at e; exact Nat.lt_irrefl _ (Heap.lt_size e)) (Heap.get?_push_of_some _ e)

def fAll : AF := fun ps Q H => match ps with
  | [.ref a] => (match H a with | some x => (match boolsOf x.items with | some bs => Q (.bool (bs.all id)) H | none => False) | none => False)
  | _ => False
def fAny : AF := fun ps Q H => match ps with
  | [.ref a] => (match H a with | some x => (match boolsOf x.items with | some bs => Q (.bool (bs.any id)) H | none => False) | none => False)
  | _ => False
def fSum : AF := fun ps Q H => match ps with
  | [.ref a] => (match H a with | some x => (match intsOf x.items with | some ns => Q (.int ns.sum) H | none => False) | none => False)
  | _ => False
def fMin : AF := fun ps Q H => match ps with
  | [.int a, .int b] => Q (.int (if b < a then b else a)) H
  | _ => False
theorem mf_any : MonoF fAny := by
  intro ps Q Q' H h q; unfold fAny at *
  split at q
  · split at q
    · split at q
      · exact h _ _ q
      · exact q.elim
    · exact q.elim
  · exact q.elim
theorem bi_any : SoundV c n (.builtin "any") fAny := by
  intro A H s vs ps Q E hA hv S q
  unfold fAny at q
  split at q
  · rename_i a
    cases hv with
    | cons h1 h2 =>
      cases h2; cases h1
      split at q
      · rename_i x hx
        split at q
        · rename_i bs hb
          obtain ⟨ws, m, hL, hw⟩ := S.hr.list _ x hx
          have e := bools_are hw hb
          have hlt : a < s.heap.objs.size := Heap.lt_size hL
          refine wpAny_grow (call_any_walk (wpAny_pyIter_list hL.isList ?_))
          refine ⟨s.heap.objs.size, [s.heap.objs.size, a], [s.heap.objs.size], ws.size, _, _, fun i => (bs[i]?).getD false, rfl, Walks.list (A := A.in1) hA.handled _ a (Nat.ne_of_lt hlt) ws, ⟨⟨_, Heap.get?_push_size _ rfl, rfl, rfl⟩, hL.isList.push _⟩, fun i v s' Q' E' hP hQ => ?_, fun h' tk hk hg => ?_⟩
          · have hP' : ws.toList[i]? = some v := by simpa using hP
            rw [e, List.getElem?_map, Option.map_eq_some_iff] at hP'
            obtain ⟨b, eb, rfl⟩ := hP'
            simp only [eb, Option.getD_some] at hQ
            exact wpAny_truthy_bool hQ
          · have el : ws.size = bs.length := by have := congrArg List.length e; simpa using this
            rw [el, range_anyB]
            exact res_kept S (kept_it hk) hg.1 (.bool _) q
        · exact q.elim
      · exact q.elim
  · exact q.elim
theorem bi_sum : SoundV c n (.builtin "sum") fSum := by
  intro A H s vs ps Q E hA hv S q
  unfold fSum at q
  split at q
  · rename_i a
    cases hv with
    | cons h1 h2 =>
      cases h2; cases h1
      split at q
      · rename_i x hx
        split at q
        · rename_i ns hb
          obtain ⟨ws, m, hL, hw⟩ := S.hr.list _ x hx
          obtain ⟨ys, e1, e2⟩ := ints_are hw hb
          have ew : ws = intItems ys.toArray := by
            have : ws = ws.toList.toArray := by simp
            rw [this, e1]; simp [intItems]
          have hL' := hL.isList
          rw [ew] at hL'
          refine wpAny_grow (sum_intListG hA.handled hL' fun h' tk t' hk hg => ?_)
          have e3 : preSum (numAt ys.toArray) ys.toArray.size = ns.sum := by
            rw [preSum_eq, List.take_of_length_le (by simp), ← e2]
          rw [e3]
          exact res_kept S hk hg.1 (.int _ _) q
        · exact q.elim
      · exact q.elim
  · exact q.elim
end
end Mine
open PySem PySem.W PySem.Calls PyProof.Rows
open Builtin Builtin.Str
set_option Elab.async false
set_option linter.unusedVariables false
namespace Mine
section
variable {c : Cx} {n : Nat} {sc : SE}

theorem str_mk (x : Str) : x = ⟨x.cps.toList.toArray⟩ := by cases x; simp
theorem join_list_eq (sep : List Nat) (l : List Str) : (Str.join ⟨sep.toArray⟩ l).cps.toList = joinL sep (l.map fun y => y.cps.toList) := by
  have := str_join_eq sep (l.map fun y => y.cps.toList)
  rw [List.map_map] at this
  have e : l.map ((fun y : List Nat => (⟨y.toArray⟩ : Str)) ∘ fun y : Str => y.cps.toList) = l := by
    have : ((fun y : List Nat => (⟨y.toArray⟩ : Str)) ∘ fun y : Str => y.cps.toList) = _root_.id := by funext y; exact (str_mk y).symm
    rw [this, List.map_id]
  rw [e] at this
  rw [this]
theorem mem_join {sep : List Nat} : ∀ {ys : List (List Nat)} {y : List Nat} {ch : Nat}, y ∈ ys → ch ∈ y → ch ∈ joinL sep ys
  | [x], y, ch, hy, hc => by rcases List.mem_cons.mp hy with rfl | h; exact hc; cases h
  | x :: z :: r, y, ch, hy, hc => by
    simp only [joinL, List.mem_append]
    rcases List.mem_cons.mp hy with rfl | h
    · exact .inl (.inl hc)
    · exact .inr (mem_join h hc)

def fSSplit : AF := fun ps Q H => match ps with
  | [.str x, .str [ch]] => x.length ≤ 1000000 ∧ ∀ ys : List (List Nat), ys ≠ [] → joinL [ch] ys = x → (∀ y ∈ ys, ch ∉ y) → newL (ys.map .str) Q H
  | _ => False
/-- how many of this sign stand at the end -/
def trl (ch : Nat) (x : List Nat) : Nat := (x.reverse.takeWhile fun d => d == ch).length
def fSRstrip : AF := fun ps Q H => match ps with
  | [.str x, .str [ch]] => szOk x.length ∧ Q (.str (x.take (x.length - trl ch x))) H
  | _ => False
end
end Mine
open PySem PySem.W PySem.Calls PyProof.Rows
open Builtin.Str
set_option Elab.async false
set_option linter.unusedVariables false
namespace Mine
section
variable {c : Cx} {n : Nat} {sc : SE}

-- a list lengthened in its place
theorem seq_list_iadd : seqSlot? (.type "list") (dunderI "add") = pure (some (.builtin "list.__iadd__")) := PySem.seqSlot_of F.slot_list_iadd.lookup (by decide +kernel)
theorem noFill_list_iadd : fillsInplaceSlot (.type "list") "add" (Operator.Add == .Add) = pure false := by
  unfold fillsInplaceSlot
  show (typeLookup (.type "list") (dunderI "add") >>= fun fi => pure (fi.isSome && !isSeqSlot fi)) = pure false
  rw [F.slot_list_iadd.lookup]
  have : ((some (Value.builtin "list.__iadd__")).isSome && !isSeqSlot (some (Value.builtin "list.__iadd__"))) = false := by decide +kernel
  show (pure ((some (Value.builtin "list.__iadd__")).isSome && !isSeqSlot (some (Value.builtin "list.__iadd__"))) : Sem Bool) = pure false
  rw [this]
theorem iadd_lists {prog : Program} {w : World} {A : Around} {E : Value → Shared → Prop} {s : Shared} {a b : Value} {Q : Value → Shared → Prop} (ha : s.TypeIs a "list") (hb : s.TypeIs b "list") (hc : wpAny (model prog w) A (call (.builtin "list.__iadd__") [a, b]) Q E s) :
    wpAny (model prog w) A (inplaceOp .Add a b) Q E s := by
  unfold inplaceOp
  refine wpAny_holding ?_
  refine wpAny_bind (wpAny_typeOf ha (wpAny_bind (wpAny_of_eq noFill_list_iadd ?_)))
  show wpAny (model prog w) A (if false = true then _ else _) Q E s
  rw [if_neg Bool.false_ne_true]
  refine wpAny_bind (PySem.wpAny_binaryOp1_none (nm := "add") ha hb noFill_list_add ?_)
  refine wpAny_bind (wpAny_of_eq seq_list_iadd ?_)
  exact wpAny_bind (wpAny_rule hc)
def opIAddX (a b : PV) (Q : PV → AH → Prop) (H : AH) : Prop := match a, b with
  | .int x, .int y => Q (.int (x + y)) H
  | .str x, .str y => szOk (x.length + y.length) ∧ Q (.str (x ++ y)) H
  | .ref a, .ref b => (match H a, H b with | some x, some y => (x.own = true ∧ x.items.length ≤ 1000000 ∧ y.items.length ≤ 1000000) ∧ Q (.ref a) (upd H a ⟨x.items ++ y.items, true⟩) | _, _ => False)
  | _, _ => False
theorem opIAddX_elim {a b : PV} {Q : PV → AH → Prop} {H : AH} (h : opIAddX a b Q H) : (∃ x y, a = .int x ∧ b = .int y ∧ Q (.int (x + y)) H) ∨ (∃ x y, a = .str x ∧ b = .str y ∧ szOk (x.length + y.length) ∧ Q (.str (x ++ y)) H) ∨ ∃ i j x y, a = .ref i ∧ b = .ref j ∧ H i = some x ∧ H j = some y ∧ (x.own = true ∧ x.items.length ≤ 1000000 ∧ y.items.length ≤ 1000000) ∧ Q (.ref i) (upd H i ⟨x.items ++ y.items, true⟩) := by
  unfold opIAddX at h
  split at h
  · exact .inl ⟨_, _, rfl, rfl, h⟩
  · exact .inr (.inl ⟨_, _, rfl, rfl, h⟩)
  · split at h
    · rename_i e1 e2; exact .inr (.inr ⟨_, _, _, _, rfl, rfl, e1, e2, h⟩)
    · exact h.elim
  · exact h.elim
theorem op_iaddx : SoundOp2 c n (inplaceOp .Add) opIAddX := by
  intro A H s va vb a b Q E hA h1 h2 S h
  rcases opIAddX_elim h with ⟨x, y, rfl, rfl, h⟩ | ⟨x, y, rfl, rfl, h⟩ | ⟨a, b, x, y, rfl, rfl, ha, hb, ⟨ho, hl1, hl2⟩, q⟩
  · cases h1; cases h2; exact PyProof.Rows.iadd_int (res_tok S (.int _ _) h)
  · cases h1 with
    | str _ t hx =>
    cases h2 with
    | str _ u hy =>
    refine PyProof.Rows.iadd_str (fun t' tk => ?_) (by rw [str_len, str_len]; exact sz_line h.1)
    rw [str_app]
    exact res_tok S (.str _ _ (by simpa [or_imp, forall_and] using ⟨hx, hy⟩)) h.2
  · cases h1; cases h2
    obtain ⟨vs, k, hL, hv⟩ := S.hr.list a x ha
    obtain ⟨ws, k', hL', hv'⟩ := S.hr.list b y hb
    have l1 : vs.size = x.items.length := by simpa using hv.length
    have l2 : ws.size = y.items.length := by simpa using hv'.length
    refine iadd_lists ⟨_, hL, rfl⟩ ⟨_, hL', rfl⟩ (call_meets F.slot_list_iadd ⟨_, hL, rfl⟩ F.entry_list_iadd (F.args_list_iadd_2 _ _) (AutoSeq1.list___iadd___list_list_0 a vs k b ws k' ?_ ?_ ?_) ⟨hL, hL', ?_⟩)
    · rw [l1, l2]
      intro e
      simp only [Bool.and_eq_true] at e
      have := e.2
      unfold Builtin.List.listTooLong at this
      simp only [decide_eq_true_eq] at this
      rw [sizeLine_eq] at this
      omega
    · rw [l1, sizeLine_eq]; omega
    · rw [l1, l2, sizeLine_eq]; omega
    · exact res_set (f := fun x => x ++ ws) S ha ho hL (by simpa using hv.append hv') (.ref a) q
theorem mo_iaddx : MonoO2 opIAddX := by
  intro a b Q Q' H h q
  unfold opIAddX at *
  split at q
  · exact h _ _ q
  · exact ⟨q.1, h _ _ q.2⟩
  · split at q
    · exact ⟨q.1, h _ _ q.2⟩
    · exact q.elim
  · exact q.elim

-- how often a text is in a list
def fCount : AF := fun ps Q H => match ps with
  | [.ref a, .str y] => (match H a with | some x => (match strsOf x.items with | some ys => Q (.int (ys.count y : Nat)) H | none => False) | none => False)
  | _ => False
-- where a text lies in a text
def AtL (x y : List Nat) (k : Nat) : Prop := ∃ p q, x = p ++ y ++ q ∧ p.length = k
theorem at_iff (x y : List Nat) (k : Nat) : StrLaws.At ⟨x.toArray⟩ ⟨y.toArray⟩ (⟨x.toArray⟩ : Str).length k ↔ AtL x y k := by
  unfold StrLaws.At subAt AtL
  rw [str_len, str_len]
  have e : ((⟨x.toArray⟩ : Str).cps.extract k (k + y.length) == (⟨y.toArray⟩ : Str).cps) = decide ((x.drop k).take y.length = y) := by
    by_cases h : (x.drop k).take y.length = y
    · rw [decide_eq_true h, beq_iff_eq]
      apply Array.toList_inj.mp
      simpa using h
    · rw [decide_eq_false h, beq_eq_false_iff_ne]
      intro q
      have := congrArg Array.toList q
      exact h (by simpa using this)
  rw [e, decide_eq_true_eq]
  constructor
  · rintro ⟨h1, h2⟩
    refine ⟨x.take k, (x.drop k).drop y.length, ?_, by simp; omega⟩
    conv => lhs; rw [← List.take_append_drop k x, ← List.take_append_drop y.length (x.drop k), h2]
    simp
  · rintro ⟨p, q, rfl, rfl⟩
    exact ⟨by simp, by simp⟩
theorem occ_iff (x y : List Nat) : occIn y x = true ↔ ∃ k, AtL x y k := by
  unfold occIn
  have := StrLaws.found_iff ⟨x.toArray⟩ ⟨y.toArray⟩
  rw [← str_len x, this]
  constructor
  · rintro ⟨i, h⟩; exact ⟨i, (at_iff x y i).mp h⟩
  · rintro ⟨i, h⟩; exact ⟨i, (at_iff x y i).mpr h⟩
def fSRfind : AF := fun ps Q H => match ps with
  | [.str x, .str y] => ∀ i : Int, ((i = -1 ∧ ∀ k, ¬ AtL x y k) ∨ ∃ k : Nat, i = k ∧ AtL x y k ∧ ∀ j, k < j → ¬ AtL x y j) → Q (.int i) H
  | _ => False
theorem mf_srfind : MonoF fSRfind := by
  intro ps Q Q' H h q; unfold fSRfind at *
  split at q
  · exact fun i hi => h _ _ (q i hi)
  · exact q.elim
theorem me_srfind : SoundV c n (.builtin "str.rfind") fSRfind := by
  intro A H s vs ps Q E hA hv S q
  unfold fSRfind at q
  split at q
  · rename_i x y
    cases hv with
    | cons h1 h2 =>
      cases h2 with
      | cons h2 h3 =>
        cases h3
        cases h1 with
        | str _ t hx =>
        cases h2 with
        | str _ u hy =>
        refine SC.rfind (res_tok S (.int _ _) (q _ ?_))
        have e : Txt.rfind ⟨x.toArray⟩ ⟨y.toArray⟩ = (match lastOccurrence ⟨x.toArray⟩ ⟨y.toArray⟩ 0 (⟨x.toArray⟩ : Str).length with | some i => (i : Int) | none => -1) := rfl
        rcases StrLaws.last_spec ⟨x.toArray⟩ ⟨y.toArray⟩ with ⟨h1, h2⟩ | ⟨i, h1, h2, h3⟩
        · rw [h1] at e
          exact .inl ⟨e, fun k hk => h2 k ((at_iff x y k).mpr hk)⟩
        · rw [h1] at e
          exact .inr ⟨i, e, (at_iff x y i).mp h2, fun j hj hk => h3 j hj ((at_iff x y j).mpr hk)⟩
  · exact q.elim

-- one text laid in another's place, all over
def fSReplace : AF := fun ps Q H => match ps with
  | [.str x, .str y, .str z] => (y ≠ z ∧ y ≠ [] ∧ x.length ≤ 10000 ∧ z.length ≤ 100) ∧ ∀ ws : List (List Nat), ws ≠ [] → joinL y ws = x → (occIn y x = true → 2 ≤ ws.length) → Q (.str (joinL z ws)) H
  | _ => False
theorem mf_sreplace : MonoF fSReplace := by
  intro ps Q Q' H h q; unfold fSReplace at *
  split at q
  · exact ⟨q.1, fun ws h1 h2 h3 => h _ _ (q.2 ws h1 h2 h3)⟩
  · exact q.elim
theorem replace_parts (x y z : List Nat) (hy : y ≠ []) : ∃ ws : List (List Nat), ws ≠ [] ∧ joinL y ws = x ∧ (occIn y x = true → 2 ≤ ws.length) ∧ Txt.replace ⟨x.toArray⟩ ⟨y.toArray⟩ ⟨z.toArray⟩ = ⟨(joinL z ws).toArray⟩ := by
  have hyl : 1 ≤ (⟨y.toArray⟩ : Str).length := by rw [str_len]; cases y with | nil => exact absurd rfl hy | cons _ _ => simp
  obtain ⟨f, hc, hf⟩ := StrLaws.occ_tight ⟨x.toArray⟩ ⟨y.toArray⟩ hyl
  obtain ⟨f', hc'⟩ := StrLaws.occ_chain ⟨x.toArray⟩ ⟨y.toArray⟩ ((⟨x.toArray⟩ : Str).length + 1)
  have hy0 : ((⟨y.toArray⟩ : Str).length == 0) = false := by
    have : (⟨y.toArray⟩ : Str).length ≠ 0 := by omega
    simpa using this
  unfold Txt.replace
  rw [hy0, Bool.false_and, Bool.or_false]
  cases ho : occurrences ⟨x.toArray⟩ ⟨y.toArray⟩ 0 (⟨x.toArray⟩ : Str).length ((⟨x.toArray⟩ : Str).length + 1) with
  | nil =>
    refine ⟨[x], by simp, rfl, fun h => ?_, by simp [joinL]⟩
    rw [ho] at hc
    have e : f = 0 := hc
    obtain ⟨k, hk⟩ := (occ_iff x y).mp h
    exact absurd ((at_iff x y k).mpr hk) (hf k (by omega))
  | cons c0 r =>
    have hj := StrLaws.join_partsFrom ⟨x.toArray⟩ ⟨y.toArray⟩ _ 0 f' hc'
    rw [StrLaws.sub_whole, ho] at hj
    obtain ⟨p, q, e⟩ := StrLaws.partsFrom_ne ⟨x.toArray⟩ (⟨y.toArray⟩ : Str).length (c0 + (⟨y.toArray⟩ : Str).length) r
    generalize hw : StrLaws.partsFrom ⟨x.toArray⟩ (⟨y.toArray⟩ : Str).length 0 (c0 :: r) = parts at hj
    have hlen : 2 ≤ parts.length := by
      rw [← hw]
      show 2 ≤ (strSub _ _ _ :: StrLaws.partsFrom ⟨x.toArray⟩ (⟨y.toArray⟩ : Str).length (c0 + (⟨y.toArray⟩ : Str).length) r).length
      rw [e]; simp
    refine ⟨parts.map fun w => w.cps.toList, by intro q; rw [List.map_eq_nil_iff] at q; rw [q] at hlen; simp at hlen, ?_, fun _ => by simpa using hlen, ?_⟩
    · rw [← join_list_eq, hj]
    · simp only [List.isEmpty_cons, Bool.false_eq_true, if_false]
      rw [StrLaws.partsBetween_eq, hw, StrLaws.glued_eq_join]
      rw [← join_list_eq, ← str_mk]
end
end Mine
open PySem PySem.W PySem.Calls PyProof.Rows
set_option Elab.async false
set_option linter.unusedVariables false
namespace Mine
section
variable {c : Cx} {n : Nat} {sc : SE}

theorem str_is {x : Str} {y : List Nat} (hx : x.cps.toList = y) : x = ⟨y.toArray⟩ := by subst hx; exact str_mk x
/-- x.replace(y, z), its two arguments constants, once a token is out -/
theorem replace_sound {A : Around} {env : Env} {ρ : AEnv} {H : AH} {s : Shared} {E : Value → Shared → Prop} {Q : PV → AH → Prop} {x : Str} {k ky kz : Nat} {y z : Str} {y' z' : List Nat} {p1 p2 p3 apos pos : Pos} (hA : AOk n A) (he : EOk sc env) (R : ER c.base c.N env ρ s.heap) (S : St c.base H s) (htk : 1 ≤ s.toks)
    (hx : c.N[k]? = some x) (hd : (x == ("__debug__" : Str)) = false) (hn : (x == ("__classdict__" : Str)) = false) (hy : y.cps.toList = y') (hz : z.cps.toList = z') (hy1 : (y'.all fun c => c < 0x110000) = true) (hz1 : (z'.all fun c => c < 0x110000) = true) (hline : (apos.endLine == pos.line) = true)
    (q : aMeth kStr fSReplace (aVar k) (lCons (aCst (.str y')) (lCons (aCst (.str z')) lNil)) Q ρ H) :
    wpAny (model c.prog c.w) A (eval (.Call (.Attribute (.Name x p1) "replace" apos) [.Constant (.str y) ky p2, .Constant (.str z) kz p3] [] pos) env) (Res c H s Q) E s := by
  refine wpAny_Call_method rfl rfl hline F.plainAttrs_str F.slot_str_replace F.type_str_replace ?_
  simp only [aMeth, aVar] at q
  cases hp : ρ k with
  | none => rw [hp] at q; exact q.elim
  | some p =>
    rw [hp] at q
    refine wpAny_Name (load_var he R hx hp (fun v hv => ?_) hn) hd
    obtain ⟨qk, q⟩ := q
    cases hv with
    | str w t hw =>
      refine ⟨typeIs_str _ _ _, fun a h => (nomatch h), ?_⟩
      refine callWith_builtin rfl (evalArgs_plain ?_)
      have : wpAny (model c.prog c.w) A (spliced (backTo pos (starEach [.Constant (.str y) ky p2, .Constant (.str z) kz p3] env))) (fun vs s' => wpAny (model c.prog c.w) A (call (.builtin "str.replace") (.str ⟨w.toArray⟩ t :: vs)) (Res c H s Q) E s') E s := by
        refine wpAny_items_cons (wpAny_Constant_str (wpAny_items_cons (wpAny_Constant_str (wpAny_items_nil ?_)))) rfl
        have q' : fSReplace [.str w, .str y', .str z'] Q H := q
        obtain ⟨⟨h1, h2, h3, h4⟩, q'⟩ := q'
        rw [str_is hy, str_is hz]
        refine SC.replace (by show s.toks ≠ 0; omega) (by show s.toks + 1 ≠ 0; omega) (by show s.toks ≠ s.toks + 1; omega) (by rw [mk_inj]; simpa using h1) ?_ fun t' tk => ?_
        · rw [str_len, str_len]
          have : (w.length + 1) * z'.length ≤ 10001 * 100 := Nat.mul_le_mul (by omega) h4
          omega
        · obtain ⟨ws, g1, g2, g3, g4⟩ := replace_parts w y' z' h2
          rw [g4]
          refine res_tok (s := s) S (.str _ _ fun ch hc => ?_) (q' ws g1 g2 g3)
          rcases join_mem hc with h | ⟨u, hu, h⟩
          · simpa using List.all_eq_true.mp hz1 ch h
          · exact hw ch (by rw [← g2]; exact mem_join hu h)
      exact this
    | _ => exact qk.elim

/-- while y in x: x = x.replace(y, z) -/
theorem stmt_while_replace {x : Str} {k ky kz kt : Nat} {y z : Str} {y' z' : List Nat} {p0 p1 p2 p3 p4 p5 p6 p7 p8 apos pos : Pos} (hx : c.N[k]? = some x)
    (hk : sc.names.lookup x = some .local ∨ (sc.names.lookup x = some .cell ∧ x ∉ sc.caps)) (hy : y.cps.toList = y') (hz : z.cps.toList = z') (hy1 : (y'.all fun c => c < 0x110000) = true) (hz1 : (z'.all fun c => c < 0x110000) = true)
    (hd : (x == ("__debug__" : Str)) = false) (hn : (x == ("__classdict__" : Str)) = false) (hline : (apos.endLine == pos.line) = true) :
    SoundS c n sc (.While (.Compare (.Constant (.str y) kt p0) [.In] [.Name x p4] p5) [.Assign [.Name x p6] (.Call (.Attribute (.Name x p1) "replace" apos) [.Constant (.str y) ky p2, .Constant (.str z) kz p3] [] pos) p7] [] p8)
      (sWhile (tCmp .In (aCst (.str y')) (aVar k)) (sCons (sAssign (gName k) (aMeth kStr fSReplace (aVar k) (lCons (aCst (.str y')) (lCons (aCst (.str z')) lNil)))) sNil)) := by
  intro A env ρ H s Q E hA he R S q
  obtain ⟨m, q⟩ := q
  generalize hb : (sCons (sAssign (gName k) (aMeth kStr fSReplace (aVar k) (lCons (aCst (.str y')) (lCons (aCst (.str z')) lNil)))) sNil : AS) = b at q
  generalize ht : (tCmp .In (aCst (.str y')) (aVar k) : AT) = t at q
  refine wpAny_While (codeAny_whileLoop (fun k s' => ∃ ρ' H', ER c.base c.N env ρ' s'.heap ∧ St c.base H' s' ∧ Ext (Own env) No H s H' s' ∧ whileN t b Q k ρ' H') ?_ m ⟨ρ, H, R, S, .refl, q⟩)
  rintro m s' ⟨ρ', H', R', S', e', q'⟩
  cases m with
  | zero => exact q'.elim
  | succ m =>
    obtain ⟨F, hF, q'⟩ : ∃ F, F = (fun r H1 => if r then b (fun fl ρ2 H2 => match fl with
      | .next => whileN t b Q m ρ2 H2
      | .cont => whileN t b Q m ρ2 H2
      | .brk => Q .next ρ2 H2
      | .ret v => Q (.ret v) ρ2 H2) ρ' H1 else Q .next ρ' H1) ∧ t F ρ' H' := ⟨_, rfl, q'⟩
    rw [← ht] at q'
    refine wpAny_isTrue_Compare1 (wpAny_Constant_str ?_) rfl
    have S1 : St c.base H' { s' with toks := s'.toks + 1 } := S'.tok _
    have e1 : Ext No No H' s' H' { s' with toks := s'.toks + 1 } := .tok _
    simp only [tCmp, aCst] at q'
    have W : ∀ EE : Value → Shared → Prop, wpAny (model c.prog c.w) A (eval (.Name x p4) env) (fun vb s2 => wpAny (model c.prog c.w) A (compareOp .In (.str y s'.toks) vb) (fun cc s3 => wpAny (model c.prog c.w) A (truthy cc) (ResB c H' { s' with toks := s'.toks + 1 } F) EE s3) EE s2) EE { s' with toks := s'.toks + 1 } := by
      intro EE
      refine seq1 (sound_var (n := n) hx hd hn) hA he R' S1 q' fun vb pb H2 s2 h2 R2 S2 e2 q2 => ?_
      refine cmp_bool (a := .str y') hA (by rw [str_is hy]; exact .str y' _ (by simpa using hy1)) h2 S2 q2 fun r H3 s3 S3 e3 q3 => ?_
      exact wpAny_truthy_bool ⟨H3, S3, e2.trans e3, q3⟩
    have h1 : 1 ≤ ({ s' with toks := s'.toks + 1 } : Shared).toks := Nat.le_add_left _ _
    refine wpAny_mono (wpAny_toks_of h1 (W _)) (fun vb s2 ⟨t2, w2⟩ => wpAny_mono (wpAny_toks_of t2 w2) (fun cc s3 ⟨t3, w3⟩ => wpAny_mono (wpAny_toks_of t3 w3) (fun r s4 ⟨t4, H4, S4, e4, q4⟩ => ?_) fun _ _ x => x.2) fun _ _ x => x.2) fun _ _ x => x.2
    subst hF
    have e04 := e1.trans e4
    have R4 := R'.ext0 S' e04
    have e4' := e'.trans e04.of_no
    cases r with
    | false => exact wpAny_execs_nil ⟨.next, ρ', H4, .next, R4, S4, e4', by simpa using q4⟩
    | true =>
      simp only [if_true] at q4 ⊢
      have q5 : (sCons (sAssign (gName k) (aMeth kStr fSReplace (aVar k) (lCons (aCst (.str y')) (lCons (aCst (.str z')) lNil)))) sNil : AS) (fun fl ρ2 H2 => match fl with
        | .next => whileN t b Q m ρ2 H2
        | .cont => whileN t b Q m ρ2 H2
        | .brk => Q .next ρ2 H2
        | .ret v => Q (.ret v) ρ2 H2) ρ' H4 := by rw [hb]; exact q4
      have q6 : aMeth kStr fSReplace (aVar k) (lCons (aCst (.str y')) (lCons (aCst (.str z')) lNil)) (fun p H5 => whileN t b Q m (upd ρ' k p) H5) ρ' H4 := q5
      refine wpAny_execs_cons ?_
      show wpAny _ _ (do
        standAt p7
        if ← swapsWithSole [.Name x p6] _ p7.line env then do
          evalThenUse _ env fun v => assignAll v ((assignEach [.Name x p6] env).map (·.2))
          pure .next
        else do
          let v' ← eval (.Call (.Attribute (.Name x p1) "replace" apos) [.Constant (.str y) ky p2, .Constant (.str z) kz p3] [] pos) env
          assignStores env v' (← swappedStores [.Name x p6] (.Call (.Attribute (.Name x p1) "replace" apos) [.Constant (.str y) ky p2, .Constant (.str z) kz p3] [] pos) env) ((assignEach [.Name x p6] env).map (·.2))) _ _ _
      refine wpAny_bind (wpAny_standAt (wpAny_bind (wpAny_pure ?_)))
      simp only [Bool.false_eq_true, if_false]
      refine wpAny_bind (wpAny_mono (replace_sound hA he R4 S4 t4 hx hd hn hy hz hy1 hz1 hline q6) (fun va s5 rr => rr.elim fun pa H5 h5 S5 e5 q5 => ?_) fun _ _ x => x)
      refine wpAny_bind (wpAny_pure ?_)
      show wpAny _ _ (assign (.Name x p6) env va >>= fun _ => pure Flow.next) _ _ _
      refine wpAny_bind (wpAny_assign_Name (store_var he (R4.ext0 S4 e5) S5 hx hk h5 fun s6 R6 S6 e6 => wpAny_pure ?_))
      exact wpAny_execs_nil ⟨m, Nat.lt_succ_self _, _, H5, R6, S6, (e4'.trans e5.of_no).trans e6, q5⟩
end
end Mine
open PySem PySem.W PySem.Calls PyProof.Rows
set_option Elab.async false
set_option linter.unusedVariables false
namespace Mine

/-- all lists as they are, none to be written -/
def ro (H : AH) : AH := fun a => (H a).map fun x => ⟨x.items, false⟩
theorem ro_own {H : AH} {a : Nat} {x : LO} (h : ro H a = some x) : x.own = false := by
  unfold ro at h
  obtain ⟨y, _, rfl⟩ := Option.map_eq_some_iff.mp h
  rfl
theorem ro_at {H : AH} {a : Nat} {x : LO} (h : ro H a = some x) : ∃ y, H a = some y ∧ x.items = y.items := by
  unfold ro at h
  obtain ⟨y, hy, rfl⟩ := Option.map_eq_some_iff.mp h
  exact ⟨y, hy, rfl⟩
theorem ro_some {H : AH} {a : Nat} {x : LO} (h : H a = some x) : ro H a = some ⟨x.items, false⟩ := by unfold ro; rw [h]; rfl

/-- [e for g in zip(l..)], its items texts -/
def aCompZ (g : ATg) (l : AL) (e : AE) : AE := fun Q ρ H => l (fun ps H1 => match ps with
  | [.ref a, .ref b] => (match H1 a, H1 b with
    | some x, some y => ∃ vals : List (List Nat), vals.length = min x.items.length y.items.length ∧ vals.length ≤ 1000000 ∧ (∀ (i : Nat) px py u, x.items[i]? = some px → y.items[i]? = some py → vals[i]? = some u → g (.tup [px, py]) (fun ρ1 H2 => e (fun v _ => v = .str u) ρ1 H2) (fun _ => none) (ro H1)) ∧ newL (vals.map .str) Q H1
    | _, _ => False)
  | _ => False) ρ H

section
variable {c : Cx} {n : Nat} {sc : SE}

structure ZAd (s1 : Shared) (z TI TO i1 i2 l1 l2 C a : Addr) : Prop where
  D : ZipApart z TI TO i1 i2 l1 l2
  zn : s1.heap.objs.size ≤ z
  ton : s1.heap.objs.size ≤ TO
  i1n : s1.heap.objs.size ≤ i1
  i2n : s1.heap.objs.size ≤ i2
  an : s1.heap.objs.size ≤ a
  cn : s1.heap.objs.size ≤ C
  az : a ≠ z
  aTI : a ≠ TI
  aTO : a ≠ TO
  ai1 : a ≠ i1
  ai2 : a ≠ i2
  cz : C ≠ z
  cTI : C ≠ TI
  cTO : C ≠ TO
  ci1 : C ≠ i1
  ci2 : C ≠ i2
  ca : C ≠ a
  l1o : l1 < s1.heap.objs.size
  l2o : l2 < s1.heap.objs.size
def ZSt (z TI TO i1 i2 l1 l2 : Addr) (vs ws : Array Value) (i : Nat) (h : Heap) : Prop := IsZip h z TI TO .none ∧ IsPair h TI (.ref i1) (.ref i2) ∧ (∃ p q, IsPair h TO p q) ∧ h.IsListIter i1 l1 i ∧ h.IsListIter i2 l2 i ∧ h.IsList l1 vs ∧ h.IsList l2 ws
structure ZI (c : Cx) (s1 : Shared) (z TI TO i1 i2 l1 l2 C a : Addr) (vs ws : Array Value) (acc : List (List Nat)) (i : Nat) (s : Shared) : Prop where
  kall : ∀ b o, s1.heap.get? b = some o → s.heap.get? b = some o
  size : s1.heap.objs.size ≤ s.heap.objs.size
  gens : ∀ (i : Nat) (g : GenState), s1.gens[i]? = some g → s.gens[i]? = some g
  gsize : s1.gens.size ≤ s.gens.size
  os : s.os = s1.os
  bare : AllBare s.gens
  ns : ∃ m, s.heap.Ns C m
  acc : ∃ us n, IsL s.heap a us n ∧ VAll s.heap us.toList (acc.map .str)
  zip : ZSt z TI TO i1 i2 l1 l2 vs ws i s.heap
variable {s1 : Shared} {H1 : AH} {z TI TO i1 i2 l1 l2 C a : Addr} {vs ws : Array Value} {acc : List (List Nat)} {i : Nat} {s : Shared}
theorem ZI.st (Z : ZI c s1 z TI TO i1 i2 l1 l2 C a vs ws acc i s) (S1 : St c.base H1 s1) : St c.base (ro H1) s where
  hr := {
    keep := fun b o h => Z.kall b o (S1.hr.keep b o h)
    list := fun b x h => by
      obtain ⟨y, hy, e⟩ := ro_at h
      obtain ⟨us, m, hL, hv⟩ := S1.hr.list b y hy
      exact ⟨us, m, Z.kall b _ hL, by rw [e]; exact hv.mono fun b o h => Z.kall b o h.1⟩
    new := fun b x h ho => by rw [ro_own h] at ho; cases ho }
  bare := Z.bare
theorem ZI.sta (Z : ZI c s1 z TI TO i1 i2 l1 l2 C a vs ws acc i s) (S1 : St c.base H1 s1) (ha : s1.heap.objs.size ≤ a) : St c.base (upd (ro H1) a ⟨acc.map .str, true⟩) s where
  hr := {
    keep := (Z.st S1).hr.keep
    list := fun b x h => by
      by_cases e : b = a
      · subst e; rw [upd_same] at h; cases h; exact Z.acc
      · rw [upd_other _ _ e] at h; exact (Z.st S1).hr.list b x h
    new := fun b x h ho => by
      by_cases e : b = a
      · subst e; exact S1.bsize ha
      · rw [upd_other _ _ e] at h; exact (Z.st S1).hr.new b x h ho }
  bare := Z.bare
/-- a step that leaves all but z, TO, i1, i2 -/
theorem strs_mono {h h' : Heap} : ∀ {us : List Value} {acc : List (List Nat)}, VAll h us (acc.map .str) → VAll h' us (acc.map .str)
  | _, [], .nil => .nil
  | _, x :: r, .cons hv hr => .cons (by cases hv with | str _ t hx => exact .str x t hx) (strs_mono hr)
theorem ZI.step {h' : Heap} {tk : Nat} {i' : Nat} (Z : ZI c s1 z TI TO i1 i2 l1 l2 C a vs ws acc i s) (ad : ZAd s1 z TI TO i1 i2 l1 l2 C a) (hk : ∀ b o, b ≠ z → b ≠ TO → b ≠ i1 → b ≠ i2 → s.heap.get? b = some o → h'.get? b = some o) (hz : s.heap.objs.size ≤ h'.objs.size) :
    (ZSt z TI TO i1 i2 l1 l2 vs ws i' h' → ZI c s1 z TI TO i1 i2 l1 l2 C a vs ws acc i' { s with heap := h', toks := tk }) ∧ (∀ b o, s1.heap.get? b = some o → h'.get? b = some o) ∧ (∃ m, h'.Ns C m) ∧ (∃ us n, IsL h' a us n ∧ VAll h' us.toList (acc.map .str)) ∧ s1.heap.objs.size ≤ h'.objs.size := by
  have hne : ∀ b o, s1.heap.get? b = some o → b ≠ z ∧ b ≠ TO ∧ b ≠ i1 ∧ b ≠ i2 := fun b o h => by
    have := Heap.lt_size h
    have h1 := ad.zn; have h2 := ad.ton; have h3 := ad.i1n; have h4 := ad.i2n
    exact ⟨Nat.ne_of_lt (Nat.lt_of_lt_of_le this h1), Nat.ne_of_lt (Nat.lt_of_lt_of_le this h2), Nat.ne_of_lt (Nat.lt_of_lt_of_le this h3), Nat.ne_of_lt (Nat.lt_of_lt_of_le this h4)⟩
  have k1 : ∀ b o, s1.heap.get? b = some o → h'.get? b = some o := fun b o h => let ⟨a1, a2, a3, a4⟩ := hne b o h; hk b o a1 a2 a3 a4 (Z.kall b o h)
  have k2 : ∃ m, h'.Ns C m := by
    obtain ⟨m, o, es, ep, ho, r⟩ := Z.ns
    exact ⟨m, o, es, ep, hk C o ad.cz ad.cTO ad.ci1 ad.ci2 ho, r⟩
  have k3 : ∃ us n, IsL h' a us n ∧ VAll h' us.toList (acc.map .str) := by
    obtain ⟨us, m, hL, hv⟩ := Z.acc
    exact ⟨us, m, hk a _ ad.az ad.aTO ad.ai1 ad.ai2 hL, strs_mono hv⟩
  exact ⟨fun hzs => ⟨k1, Nat.le_trans Z.size hz, Z.gens, Z.gsize, Z.os, Z.bare, k2, k3, hzs⟩, k1, k2, k3, Nat.le_trans Z.size hz⟩

theorem zip_loop {A : Around} {env : Env} {elts : List Expr} {kt : Nat} {tpos : Pos} {iter elt : Expr} {scope : Scope} {pos : Pos} {g : ATg} {e : AE} {xs ys : List PV} {vals : List (List Nat)} {RR : Result → Shared → Prop} {s0 : Shared}
    (ad : ZAd s1 z TI TO i1 i2 l1 l2 C a) (S1 : St c.base H1 s1) (hvs : VAll s1.heap vs.toList xs) (hws : VAll s1.heap ws.toList ys) (hlen : vals.length = min xs.length ys.length) (hbig : vals.length ≤ 1000000)
    (hg : SoundA c n sc (.Tuple elts kt tpos) g) (hel : SoundE c n sc elt e) (hA : AOk n A) (he : EOk sc env) (hL : env.locals = C) (hC : env.cells = []) (hbC : c.base.get? C = none)
    (hq : ∀ (i : Nat) px py u, xs[i]? = some px → ys[i]? = some py → vals[i]? = some u → g (.tup [px, py]) (fun ρ1 H2 => e (fun v _ => v = .str u) ρ1 H2) (fun _ => none) (ro H1))
    (Z0 : ZI c s1 z TI TO i1 i2 l1 l2 C a vs ws [] 0 s0)
    (hR' : ∀ (s' : Shared) (h' : Heap), (∀ b o, s1.heap.get? b = some o → h'.get? b = some o) → (∃ m, h'.Ns C m) → (∃ us n, IsL h' a us n ∧ VAll h' us.toList (vals.map .str)) → s1.heap.objs.size ≤ h'.objs.size → (∀ (i : Nat) (g : GenState), s1.gens[i]? = some g → s'.gens[i]? = some g) → s1.gens.size ≤ s'.gens.size → s'.os = s1.os → AllBare s'.gens → RR (.ok .next) { s' with heap := h' }) :
    codeAny (model c.prog c.w) A (.compLoop (.ListComp elt [⟨.Tuple elts kt tpos, iter, [], 0⟩] scope pos) 0 (.ref z) (.ref a) env) RR s0 := by
  have erOf : ∀ h : Heap, (∃ m, h.Ns C m) → ER c.base c.N env (fun _ => none) h := fun h ⟨m, hm⟩ => {
    names := ⟨m, by rw [hL]; exact hm, fun k p hp => by cases hp⟩
    cells := fun x cc hx => by rw [hC] at hx; cases hx
    apart := by rw [hC]; exact .nil
    new := by rw [hL]; exact hbC
    cnew := fun x cc hx => by rw [hC] at hx; cases hx }
  have own : ∀ b, Own env b → b = C := by
    rintro b (h | ⟨_, x, h2⟩)
    · exact h.trans hL
    · rw [hC] at h2; cases h2
  refine codeAny_loop rfl (fun k s => ∃ i, i ≤ vals.length ∧ k = vals.length - i ∧ ZI c s1 z TI TO i1 i2 l1 l2 C a vs ws (vals.take i) i s) ?_ _ ⟨0, Nat.zero_le _, rfl, by simpa using Z0⟩
  rintro k s ⟨i, hi, rfl, Z⟩
  show wpAny _ A ((compTurn (.ListComp elt [⟨.Tuple elts kt tpos, iter, [], 0⟩] scope pos) 0 (.ref z) (.ref a) env).onRaise (fun x => do noteFrame x env; theTreesLotGoes x)) _ _ s
  refine wpAny_noted ?_
  rw [compTurn_list]
  refine wpAny_bind (wpAny_standAt (wpAny_bind ?_))
  obtain ⟨z1, z2, ⟨p0, q0, z3⟩, z4, z5, z6, z7⟩ := Z.zip
  have hvl : vs.size = xs.length := by simpa using hvs.length
  have hwl : ws.size = ys.length := by simpa using hws.length
  by_cases hlt : i < vals.length
  · have hix : i < xs.length := by omega
    have hiy : i < ys.length := by omega
    obtain ⟨vx, gx, rx⟩ := hvs.get (List.getElem?_eq_getElem hix)
    obtain ⟨vy, gy, ry⟩ := hws.get (List.getElem?_eq_getElem hiy)
    refine wpAny_grow (wpAny_pyNext_zip_item ad.D z1 z2 z3 z4 z5 z6 z7 (by simpa using gx) (by simpa using gy) fun h2 a1 a2 a3 a4 a5 a6 a7 hgr => ?_)
    refine wpAny_bind (wpAny_letOwnedTupleGo_zip a1 fun h3 b1 b2 => ?_)
    have D := ad.D
    have hk3 : ∀ b o, b ≠ z → b ≠ TO → b ≠ i1 → b ≠ i2 → s.heap.get? b = some o → h3.get? b = some o := fun b o n1 n2 n3 n4 h => (b2.2 b n1).trans (a7 b o n1 n2 n3 n4 h)
    have hz3 : s.heap.objs.size ≤ h3.objs.size := by rw [b2.1]; show s.heap.objs.size ≤ h2.objs.size; rw [a6]; exact Nat.le_succ _
    have zs3 : ZSt z TI TO i1 i2 l1 l2 vs ws (i + 1) h3 := by
      have k1 : ∀ b o, b ≠ z → h2.get? b = some o → h3.get? b = some o := fun b o nb h => (b2.2 b nb).trans h
      refine ⟨b1, hk3 _ _ D.TIz D.TITO D.TIi1 D.TIi2 z2, ⟨_, _, k1 _ _ D.TOz a2⟩, a3.at fun o h => k1 _ o D.i1z h, a4.at fun o h => k1 _ o D.i2z h, z6.at fun o h => hk3 _ o D.l1z D.l1TO D.l1i1 D.l1i2 h, z7.at fun o h => hk3 _ o D.l2z D.l2TO D.l2i1 D.l2i2 h⟩
    obtain ⟨mk, k1, k2, k3, k4⟩ := Z.step (tk := s.toks) (i' := i + 1) ad hk3 hz3
    have Z3 : ZI c s1 z TI TO i1 i2 l1 l2 C a vs ws (vals.take i) (i + 1) { s with heap := h3 } := mk zs3
    have hT : IsT h3 s.heap.objs.size [vx, vy].toArray 0 := (b2.2 s.heap.objs.size (fun e => by rw [← e] at z1; exact Nat.lt_irrefl _ (Heap.lt_size z1))).trans a5
    have hv3 : VRel h3 (.ref s.heap.objs.size) (.tup [xs[i], ys[i]]) := .tup hT (.cons (rx.mono fun b o h => k1 b o h.1) (.one (ry.mono fun b o h => k1 b o h.1)))
    have S3 := Z3.st S1
    have R3 := erOf h3 k2
    have hu : vals[i]? = some vals[i] := List.getElem?_eq_getElem hlt
    refine wpAny_bind (hg A env (fun _ => none) (ro H1) { s with heap := h3 } _ _ _ _ _ hA he R3 S3 hv3 (hq i _ _ _ (List.getElem?_eq_getElem hix) (List.getElem?_eq_getElem hiy) hu) fun ρ4 H4 s4 R4 S4 e4 q4 => ?_)
    refine wpAny_bind (wpAny_tests_nil ?_)
    simp only [if_true]
    refine wpAny_bind (wpAny_bind (seq1 (F := fun v _ => v = .str vals[i]) hel hA he R4 S4 q4 fun vv pv H5 s5 h5 R5 S5 e5 q5 => ?_))
    subst q5
    have e35 := e4.trans e5.of_no
    have keep5 : ∀ b o, b ≠ C → h3.get? b = some o → s5.heap.get? b = some o := fun b o nb h => e35.keep b o h (fun q => nb (own b q)) fun x hx => ro_own hx
    have Z5 : ZI c s1 z TI TO i1 i2 l1 l2 C a vs ws (vals.take i) (i + 1) s5 := by
      have lt1 : ∀ {b}, b < s1.heap.objs.size → b ≠ C := fun h => Nat.ne_of_lt (Nat.lt_of_lt_of_le h ad.cn)
      refine ⟨fun b o h => keep5 b o (lt1 (Heap.lt_size h)) (k1 b o h), Nat.le_trans k4 e35.size, fun i g h => e35.gens i g (Z3.gens i g h) (fun q => q), Nat.le_trans Z3.gsize e35.gsize, e35.os.trans Z3.os, S5.bare, ?_, ?_, ?_⟩
      · obtain ⟨m, hm, _⟩ := R5.names
        exact ⟨m, by rw [← hL]; exact hm⟩
      · obtain ⟨us, m, hL', hv⟩ := k3
        exact ⟨us, m, keep5 a _ (Ne.symm ad.ca) hL', strs_mono hv⟩
      · obtain ⟨y1, y2, ⟨p1, q1, y3⟩, y4, y5, y6, y7⟩ := zs3
        refine ⟨keep5 z _ (Ne.symm ad.cz) y1, keep5 TI _ (Ne.symm ad.cTI) y2, ⟨_, _, keep5 TO _ (Ne.symm ad.cTO) y3⟩, y4.at fun o h => keep5 _ o (Ne.symm ad.ci1) h, y5.at fun o h => keep5 _ o (Ne.symm ad.ci2) h, y6.at fun o h => keep5 _ o (lt1 ad.l1o) h, y7.at fun o h => keep5 _ o (lt1 ad.l2o) h⟩
    have S5a := Z5.sta S1 ad.an
    have qa : fAppend [.ref a, .str vals[i]] (fun _ H6 => H6 = upd (upd (ro H1) a ⟨(vals.take i).map .str, true⟩) a ⟨(vals.take i).map .str ++ [.str vals[i]], true⟩) (upd (ro H1) a ⟨(vals.take i).map .str, true⟩) := by
      simp only [fAppend, withOwn, upd_same]
      refine ⟨trivial, ?_, trivial⟩
      simp [szOk]; omega
    refine wpAny_bind (wpAny_mono (me_append (c := c) (n := n) A _ s5 [.ref a, vv] [.ref a, .str vals[i]] _ _ hA (.cons (.ref a) (.one h5)) S5a qa) (fun _ s6 rr => rr.elim fun _ H6 _ S6 e6 q6 => ?_) fun _ _ x => x)
    refine wpAny_pure (wpAny_pure ⟨rfl, vals.length - (i + 1), by omega, i + 1, by omega, rfl, ?_⟩)
    subst q6
    have keep6 : ∀ b o, b ≠ a → s5.heap.get? b = some o → s6.heap.get? b = some o := fun b o nb h => e6.keep b o h (fun q => q) fun x hx => by rw [upd_other _ _ nb] at hx; exact ro_own hx
    have lt2 : ∀ {b}, b < s1.heap.objs.size → b ≠ a := fun h => Nat.ne_of_lt (Nat.lt_of_lt_of_le h ad.an)
    refine ⟨fun b o h => keep6 b o (lt2 (Heap.lt_size h)) (Z5.kall b o h), Nat.le_trans Z5.size e6.size, fun i g h => e6.gens i g (Z5.gens i g h) (fun q => q), Nat.le_trans Z5.gsize e6.gsize, e6.os.trans Z5.os, S6.bare, ?_, ?_, ?_⟩
    · obtain ⟨m, o, es, ep, ho, r⟩ := Z5.ns
      exact ⟨m, o, es, ep, keep6 C o ad.ca ho, r⟩
    · have := S6.hr.list a _ (upd_same _ _ _)
      have e : (vals.take (i + 1)).map PV.str = (vals.take i).map .str ++ [.str vals[i]] := by rw [List.take_add_one, hu, List.map_append]; rfl
      rw [e]; exact this
    · obtain ⟨y1, y2, ⟨p1, q1, y3⟩, y4, y5, y6, y7⟩ := Z5.zip
      refine ⟨keep6 z _ (Ne.symm ad.az) y1, keep6 TI _ (Ne.symm ad.aTI) y2, ⟨_, _, keep6 TO _ (Ne.symm ad.aTO) y3⟩, y4.at fun o h => keep6 _ o (Ne.symm ad.ai1) h, y5.at fun o h => keep6 _ o (Ne.symm ad.ai2) h, y6.at fun o h => keep6 _ o (lt2 ad.l1o) h, y7.at fun o h => keep6 _ o (lt2 ad.l2o) h⟩
  · have hie : i = vals.length := by omega
    subst hie
    have hend : vs[vals.length]? = none ∨ ws[vals.length]? = none := by
      rcases Nat.le_total xs.length ys.length with h | h
      · exact .inl (Array.getElem?_eq_none (by rw [hvl, hlen]; omega))
      · exact .inr (Array.getElem?_eq_none (by rw [hwl, hlen]; omega))
    refine wpAny_grow (wpAny_pyNext_zip_end hA.handled ad.D z1 z2 z3 z4 z5 z6 z7 hend fun h2 hk hgr => ?_)
    obtain ⟨_, k1, k2, k3, k4⟩ := Z.step (tk := s.toks) (i' := 0) ad hk hgr.1
    rw [List.take_length] at k3
    exact wpAny_pure (hR' s h2 k1 k2 k3 k4 Z.gens Z.gsize Z.os Z.bare)
end
end Mine
open PySem PySem.W PySem.Calls PyProof.Rows
set_option Elab.async false
set_option linter.unusedVariables false
namespace Mine
section
variable {c : Cx} {n : Nat} {sc : SE}
/-- what is checked of a comprehension's block without names from around -/
def compChk0 (scope : Scope) : Bool := (freeOf scope.names).isEmpty && scope.names.all (fun x => x.2 != .cell) && scope.names.all (fun x => x.2 != .local || scope.names.lookup x.1 == some .local)
theorem clOf_nil {env : Env} : ∀ (names : List (Str × NameKind)) (acc : List (Str × Addr)), freeOf names = [] → clOf env names acc = acc
  | [], acc, _ => rfl
  | (x, k) :: r, acc, h => by
    unfold freeOf at h
    by_cases hk : (k == .free) = true
    · simp [List.filter_cons, hk] at h
    · have hk' : (k == NameKind.free) = false := by simpa using hk
      have hr : freeOf r = [] := by simpa [freeOf, List.filter_cons, hk'] using h
      unfold clOf
      simp only [hk', Bool.false_eq_true, if_false]
      exact clOf_nil r acc hr
theorem zad_of {s1 : Shared} {la lb : Addr} {N : Nat} (hN : s1.heap.objs.size = N) (D : ZipApart (N + 4) (N + 2) (N + 3) N (N + 1) la lb) (h1 : la < N) (h2 : lb < N) : ZAd s1 (N + 4) (N + 2) (N + 3) N (N + 1) la lb (N + 6) (N + 5) := by
  subst hN
  refine ⟨D, Nat.le_add_right _ _, Nat.le_add_right _ _, Nat.le_refl _, Nat.le_add_right _ _, Nat.le_add_right _ _, Nat.le_add_right _ _, ?_, ?_, ?_, ?_, ?_, ?_, ?_, ?_, ?_, ?_, ?_, h1, h2⟩
  all_goals (generalize s1.heap.objs.size = N; intro h; have h' : _ = (_ : Nat) := h; omega)
theorem comp_sound_zip {A : Around} {env : Env} {ρ : AEnv} {H : AH} {s : Shared} {E : Value → Shared → Prop} {elt : Expr} {elts : List Expr} {kt : Nat} {tpos : Pos} {zp zpos : Pos} {x y : Expr} {scope : Scope} {pos p : Pos} {g : ATg} {l : AL} {e : AE} {Q : PV → AH → Prop} {use : Option (Value → Sem Unit)} {QQ : Value → Shared → Prop}
    (hl : SoundL c n sc [x, y] l) (hg : SoundA c n ⟨relabelS scope sc, freeOf scope.names⟩ (.Tuple elts kt tpos) g) (hel : SoundE c n ⟨relabelS scope sc, freeOf scope.names⟩ elt e) (hchk : compChk0 scope = true) (hkind : scope.kind = .function)
    (hm : c.mg (Str.ofString "zip") = none) (hb : bootBuiltins (Str.ofString "zip") = some (.type "zip")) (hkz : sc.names.lookup (Str.ofString "zip") = some .globalImplicit) (hs2 : ∀ env, starEach [x, y] env = (false, eval x env) :: starEach [y] env) (hp2 : ∀ env, (backTo zpos (starEach [y] env)).any (·.1) = false)
    (hA : AOk n A) (he : EOk sc env) (R : ER c.base c.N env ρ s.heap) (S : St c.base H s) (q : aCompZ g l e Q ρ H)
    (fin : ∀ a H' s' C, c.base.get? C = none → s.heap.objs.size ≤ C → (∃ m, s'.heap.Ns C m) → St c.base H' s' → Ext No No H s H' s' → Q (.ref a) H' → compPost (model c.prog c.w) A E use QQ (.ref a) C (.ok .next) s') :
    wpAny (model c.prog c.w) A (comprehension (.ListComp elt [⟨.Tuple elts kt tpos, .Call (.Name (Str.ofString "zip") zp) [x, y] [] zpos, [], 0⟩] scope pos) scope env p (newList []) false (eval (.Call (.Name (Str.ofString "zip") zp) [x, y] [] zpos) env) use) QQ E s := by
  unfold compChk0 at hchk
  simp only [Bool.and_eq_true, List.all_eq_true, beq_iff_eq, bne_iff_ne, ne_eq, Bool.or_eq_true, List.isEmpty_iff] at hchk
  obtain ⟨⟨c1, c3⟩, c4⟩ := hchk
  refine wpAny_comprehension_free (g := ⟨.Tuple elts kt tpos, .Call (.Name (Str.ofString "zip") zp) [x, y] [] zpos, [], 0⟩) (gs := []) rfl (fun _ => rfl) (closure_eq (fun x hx => by rw [c1] at hx; cases hx)) hkind (fun x hx h => (c4 x hx).resolve_left (fun q => q h)) ?_
  refine bi_core (T := "zip") he S hm hb (by decide) hkz ?_ rfl hs2 hp2
  refine seqL (F := _) hl hA he R S q fun vv ps H1 s1 hv R1 S1 e1 q1 => ?_
  split at q1
  · rename_i la lb
    split at q1
    · rename_i X Y hX hY
      obtain ⟨vals, v1, v2, v3, v4⟩ := q1
      cases hv with
      | cons ha hr =>
      cases hr with
      | cons hb' hr' =>
      cases hr'; cases ha; cases hb'
      obtain ⟨vs, k1, hL1, hvs⟩ := S1.hr.list la X hX
      obtain ⟨ws, k2, hL2, hws⟩ := S1.hr.list lb Y hY
      have lt1 : la < s1.heap.objs.size := Heap.lt_size hL1
      have lt2 : lb < s1.heap.objs.size := Heap.lt_size hL2
      refine call_zip_2 hL1.isList hL2.isList fun h' hz hTI hTO hi1 hi2 hsz hk => ?_
      refine wpAny_pyIter_zip hz ?_
      have newAcc : wpAny (model c.prog c.w) A (newList []) (fun acc s3 => acc = .ref (s1.heap.objs.size + 5) ∧ s3 = { s1 with heap := h'.push { cls := .type "list", data := .seq #[] } }) E { s1 with heap := h' } :=
        wpAny_newObj_type ⟨by show Value.ref h'.objs.size = _; rw [hsz], rfl⟩ (by show (#[] : Array Value).size ≤ sizeLine; simp)
      refine wpAny_mono newAcc (fun acc s3 ⟨e4, e5⟩ => ?_) fun _ _ x => x
      subst e4 e5
      refine wpAny_newFunctionEnv c3 (fun _ h => nomatch h) (fun h4 hn hsb => ?_) hkind
      have hsz3 : (h'.push { cls := .type "list", data := .seq #[] }).objs.size = s1.heap.objs.size + 6 := by rw [Heap.size_push, hsz]
      have hC : ({ s1 with heap := h'.push { cls := .type "list", data := .seq #[] } } : Shared).heap.objs.size = s1.heap.objs.size + 6 := hsz3
      rw [relabel_eq he, clOf_nil _ _ c1]
      rw [hC] at hn hsb ⊢
      generalize hce : newEnv scope (s1.heap.objs.size + 6) env.globals [] env.qual none .none (some env) builtinsNs = cenv0
      have hL0 : cenv0.locals = s1.heap.objs.size + 6 := by rw [← hce]; rfl
      have hC0 : cenv0.cells = [] := by rw [← hce]; rfl
      have hG0 : cenv0.globals = env.globals := by rw [← hce]; rfl
      have hB0 : cenv0.builtins = env.builtins := by rw [← hce]; rfl
      have hkp : ∀ b o, b < s1.heap.objs.size + 6 → (h'.push { cls := .type "list", data := .seq #[] }).get? b = some o → h4.get? b = some o := fun b o hb h => (hsb.2 b (Nat.ne_of_lt hb)).trans (Heap.get?_push_of_some _ h)
      have hk' : ∀ b o, h'.get? b = some o → h4.get? b = some o := fun b o h => hkp b o (Nat.lt_of_lt_of_le (Heap.lt_size h) (by rw [hsz]; exact Nat.le_succ _)) (Heap.get?_push_of_some _ h)
      have he4 : EOk ⟨relabelS scope sc, freeOf scope.names⟩ { cenv0 with scope := relabelS scope sc } := ⟨rfl, hkind, hG0.trans he.globals, hB0.trans he.builtins, fun x hx => by
        have hm := relabel_cell c3 hx
        rw [c1] at hm; cases hm⟩
      have hbC : c.base.get? (s1.heap.objs.size + 6) = none := S1.bsize (Nat.le_add_right _ _)
      have D := zipApart_new lt1 lt2
      have ad : ZAd s1 (s1.heap.objs.size + 4) (s1.heap.objs.size + 2) (s1.heap.objs.size + 3) s1.heap.objs.size (s1.heap.objs.size + 1) la lb (s1.heap.objs.size + 6) (s1.heap.objs.size + 5) :=
        zad_of rfl D lt1 lt2
      have hz4 : h'.objs.size ≤ h4.objs.size := by rw [hsb.1]; simp; omega
      have Z0 : ZI c s1 (s1.heap.objs.size + 4) (s1.heap.objs.size + 2) (s1.heap.objs.size + 3) s1.heap.objs.size (s1.heap.objs.size + 1) la lb (s1.heap.objs.size + 6) (s1.heap.objs.size + 5) vs ws [] 0 { s1 with heap := h4, toks := s1.toks + ([] : List (Str × Value)).length } := by
        refine ⟨fun b o h => hk' b o (hk b o h), ?_, fun _ _ h => h, Nat.le_refl _, rfl, S1.bare, ⟨_, hn⟩, ⟨#[], 0, hkp _ _ (Nat.lt_succ_self _) ?_, .nil⟩, hk' _ _ hz, hk' _ _ hTI, ⟨_, _, hk' _ _ hTO⟩, hi1.at fun o h => hk' _ o h, hi2.at fun o h => hk' _ o h, hL1.isList.at fun o h => hk' _ o (hk _ o h), hL2.isList.at fun o h => hk' _ o (hk _ o h)⟩
        · show s1.heap.objs.size ≤ h4.objs.size
          rw [hsz] at hz4; exact Nat.le_trans (Nat.le_add_right _ _) hz4
        · have := IsL.new h' #[]
          rwa [hsz] at this
      have loop : codeAny (model c.prog c.w) A (.compLoop (.ListComp elt [⟨.Tuple elts kt tpos, .Call (.Name (Str.ofString "zip") zp) [x, y] [] zpos, [], 0⟩] scope pos) 0 (.ref (s1.heap.objs.size + 4)) (.ref (s1.heap.objs.size + 5)) { cenv0 with scope := relabelS scope sc }) (compPost (model c.prog c.w) A E use QQ (.ref (s1.heap.objs.size + 5)) cenv0.locals) { s1 with heap := h4, toks := s1.toks + ([] : List (Str × Value)).length } := by
        refine zip_loop (n := n) (sc := ⟨relabelS scope sc, freeOf scope.names⟩) ad S1 hvs hws v1 v2 hg hel hA he4 hL0 hC0 hbC v3 Z0 fun s' h5 w1 w2 w3 w4 w5 w6 w7 w8 => ?_
        rw [hL0]
        have St5 : St c.base (upd H1 (s1.heap.objs.size + 5) ⟨vals.map .str, true⟩) { s' with heap := h5 } := by
          refine ⟨⟨fun b o h => w1 b o (S1.hr.keep b o h), fun b X h => ?_, fun b X h ho => ?_⟩, w8⟩
          · by_cases eb : b = s1.heap.objs.size + 5
            · subst eb; rw [upd_same] at h; cases h; exact w3
            · rw [upd_other _ _ eb] at h
              obtain ⟨us, m, hL, hv⟩ := S1.hr.list b X h
              exact ⟨us, m, w1 b _ hL, hv.mono fun b o h => w1 b o h.1⟩
          · by_cases eb : b = s1.heap.objs.size + 5
            · subst eb; exact S1.bsize (Nat.le_add_right _ _)
            · rw [upd_other _ _ eb] at h; exact S1.hr.new b X h ho
        have Ex5 : Ext No No H1 s1 (upd H1 (s1.heap.objs.size + 5) ⟨vals.map .str, true⟩) { s' with heap := h5 } := by
          refine ⟨fun b o h _ _ => w1 b o h, w4, fun b X h => ?_, fun i g h _ => w5 i g h, w6, w7⟩
          by_cases eb : b = s1.heap.objs.size + 5
          · exact .inr (by rw [eb]; exact Nat.le_add_right _ _)
          · rw [upd_other _ _ eb] at h; exact .inl ⟨X, h, rfl⟩
        exact fin _ _ _ _ hbC (Nat.le_trans e1.size (Nat.le_add_right _ _)) w2 St5 (e1.trans Ex5) (v4 _ (S1.fresh (Nat.le_add_right _ _)))
      exact codeAny_compStart_list loop (wpAny_pyIter_zip (hk' _ _ hz) loop)
    · exact q1.elim
  · exact q1.elim
theorem stmt_assign_zip {elt : Expr} {elts : List Expr} {kt : Nat} {tpos : Pos} {zp zpos : Pos} {ex ey : Expr} {scope : Scope} {pos spos xpos : Pos} {x : Str} {k : Nat} {g : ATg} {l : AL} {e : AE}
    (hl : SoundL c n sc [ex, ey] l) (hg : SoundA c n ⟨relabelS scope sc, freeOf scope.names⟩ (.Tuple elts kt tpos) g) (hel : SoundE c n ⟨relabelS scope sc, freeOf scope.names⟩ elt e) (hmz : c.mg (Str.ofString "zip") = none) (hkz : sc.names.lookup (Str.ofString "zip") = some .globalImplicit) (hchk : compChk0 scope = true) (hx : c.N[k]? = some x) (hk : sc.names.lookup x = some .local)
    (hsw : (xpos.line == pos.line && !(scope.names.any fun (n, k) => n == x && (k == .local || k == .cell))) = true) (hkind : scope.kind = .function) (hb : bootBuiltins (Str.ofString "zip") = some (.type "zip"))
    (hs2 : ∀ env, starEach [ex, ey] env = (false, eval ex env) :: starEach [ey] env) (hp2 : ∀ env, (backTo zpos (starEach [ey] env)).any (·.1) = false) :
    SoundS c n sc (.Assign [.Name x xpos] (.ListComp elt [⟨.Tuple elts kt tpos, .Call (.Name (Str.ofString "zip") zp) [ex, ey] [] zpos, [], 0⟩] scope pos) spos) (sAssign (gName k) (aCompZ g l e)) := by
  intro A env ρ H s Q E hA he R S q
  have hsole : swapsWithSole [.Name x xpos] (.ListComp elt [⟨.Tuple elts kt tpos, .Call (.Name (Str.ofString "zip") zp) [ex, ey] [] zpos, [], 0⟩] scope pos) spos.line env = pure true := by
    show (pure (env.blockKind == .function && env.kindOf x == some .local && xpos.line == pos.line && !(scope.names.any fun (n, k) => n == x && (k == .local || k == .cell))) : Sem Bool) = _
    have h1 : env.kindOf x = some .local := by rw [he.kindOf]; exact hk
    have h2 : env.blockKind = .function := by unfold Env.blockKind; rw [he.skind]; rfl
    rw [h1, h2]
    simp only [Bool.and_eq_true] at hsw
    simp [hsw.1, hsw.2]
  rw [exec_assign1, hsole]
  refine wpAny_bind (wpAny_standAt (wpAny_bind (wpAny_pure ?_)))
  simp only [if_true]
  rw [use_comp]
  refine wpAny_bind (wpAny_bind ?_)
  show wpAny _ _ (comprehension (.ListComp elt [⟨.Tuple elts kt tpos, .Call (.Name (Str.ofString "zip") zp) [ex, ey] [] zpos, [], 0⟩] scope pos) scope env zpos (newList []) false (eval (.Call (.Name (Str.ofString "zip") zp) [ex, ey] [] zpos) env) (some fun v => assign (.Name x xpos) env v)) _ _ _
  refine comp_sound_zip (use := some fun v => assign (.Name x xpos) env v) (Q := fun p H1 => Q .next (upd ρ k p) H1) hl hg hel hchk hkind hmz hb hkz hs2 hp2 hA he R S q fun a H' s' C hb hsC hm S' ee hQ => ?_
  obtain ⟨m, hm⟩ := hm
  show wpAny _ _ (assign (.Name x xpos) env (.ref a)) _ _ _
  refine wpAny_assign_Name (store_var he (R.ext0 S ee) S' hx (.inl hk) (.ref a) fun s3 R3 S3 e3 => ?_)
  have hCO : ¬ Own env C := fun h => Nat.lt_irrefl _ (Nat.lt_of_lt_of_le (own_lt R h) hsC)
  have hm3 := ns_stays S' e3 hm hCO
  refine ⟨m, hm3, fun h4 hs4 => wpAny_pure (wpAny_pure ?_)⟩
  have S4 : St c.base H' { s3 with heap := h4 } := st_upd (tk := s3.toks) S3 hs4 hb (ns_dict hm3)
  have e4 : Ext (fun b => b = C) No H' s3 H' { s3 with heap := h4 } := ext_upd (tk := s3.toks) hs4 rfl
  have R4 : ER c.base c.N env (upd ρ k (.ref a)) h4 := R3.ext' S3 e4 (imm_upd hs4 (ns_dict hm3)) (fun h => hCO (.inl h.symm)) (fun y cc hy h => by
    subst h
    obtain ⟨w, hw⟩ := R.cells y cc hy
    exact Nat.lt_irrefl _ (Nat.lt_of_lt_of_le hw.lt hsC))
  exact ⟨.next, _, H', .next, R4, S4, (ee.of_no.trans e3).then_new e4 (fun b hb => .inr (hb ▸ hsC)) (fun _ h => h.elim), hQ⟩
def isStar : Expr → Bool
  | .Starred .. => true
  | _ => false
theorem star_plain (e : Expr) (es : List Expr) (h : isStar e = false) (env : Env) : starEach (e :: es) env = (false, eval e env) :: starEach es env := by
  cases e <;> first | rfl | cases h
theorem list_consP {e : Expr} {es : List Expr} {a : AE} {l : AL} (h : SoundE c n sc e a) (k : SoundL c n sc es l) (hs : isStar e = false) : SoundL c n sc (e :: es) (lCons a l) := list_cons h k (star_plain e es hs)
theorem len1 {α : Type} {vs : List α} (h : vs.length = 1) : ∃ a, vs = [a] := by
  cases vs with
  | nil => cases h
  | cons a r => cases r with
    | nil => exact ⟨a, rfl⟩
    | cons _ _ => simp at h
end
end Mine
open PySem PySem.W PySem.Calls PyProof.Rows
set_option Elab.async false
set_option linter.unusedVariables false
set_option linter.unusedSimpArgs false
set_option maxRecDepth 100000
set_option maxHeartbeats 8000000
namespace Mine
abbrev prg : Program := PySem.Challenge.pw_dm0098_10
def NN : List Str := [Str.ofString "addr", Str.ofString "escape", Str.ofString "pos", Str.ofString "ch", Str.ofString "result", Str.ofString "start", Str.ofString "open_pos", Str.ofString "opens", Str.ofString "email_header_fields", Str.ofString "accepted_values", Str.ofString "v", Str.ofString "parsed_email_header_tuples", Str.ofString "n", Str.ofString "k", Str.ofString "script", Str.ofString "fields", Str.ofString "m", Str.ofString "field", Str.ofString "name", Str.ofString "remark", Str.ofString "address", Str.ofString "text", Str.ofString "at", Str.ofString "bare", Str.ofString "unit", Str.ofString "texts", Str.ofString "out", Str.ofString "pairs", Str.ofString "given", Str.ofString "checked", Str.ofString "before", Str.ofString "ahead", Str.ofString "behind", Str.ofString "want", Str.ofString "cut"]
theorem NN_nodup : NN.Nodup := by decide +kernel
def gl__iter_escaped_chars_1 : AG := gCons (gIf (tVal (aVar 1)) (gCons (gYield (aTup (lCons (aVar 2) (lCons (aBin opAdd (aCst (.str [92])) (aVar 3)) (lNil))))) <|
    gCons (gLift (sAssign (gName 1) (aCst (.bool false)))) <|
    gNil) (gCons (gIf (tCmp .Eq (aVar 3) (aCst (.str [92]))) (gCons (gLift (sAssign (gName 1) (aCst (.bool true)))) <|
    gNil) (gCons (gYield (aTup (lCons (aVar 2) (lCons (aVar 3) (lNil))))) <|
    gNil)) <|
    gNil)) <|
    gNil
def g__iter_escaped_chars : AG := gCons (gLift (sAssign (gName 2) (aCst (.int 0)))) <|
    gCons (gLift (sAssign (gName 1) (aCst (.bool false)))) <|
    gCons (gForEnum (gTup [gName 2, gName 3]) (aVar 0) (gl__iter_escaped_chars_1)) <|
    gCons (gIf (tVal (aVar 1)) (gCons (gYield (aTup (lCons (aVar 2) (lCons (aCst (.str [92])) (lNil))))) <|
    gNil) (gNil)) <|
    gNil
theorem s__iter_escaped_chars (c : Cx) (hd : fnRec prg 1 ∈ recsOf c.q) (b_enumerate : c.mg (Str.ofString "enumerate") = none) : GenF (c.on NN NN_nodup) 1 (Str.ofString "_iter_escaped_chars") [0] g__iter_escaped_chars :=
  sound_gen (c := c.on NN NN_nodup) (d := fnRec prg 1) (xs := [Str.ofString "addr"]) hd (
    g_cons (g_lift (@stmt_assign _ _ _ _ _ _ _ _ (sound_int) (tgt_name rfl (.inl (by decide +kernel))) (fun _ _ => rfl) (fun _ _ => rfl) (fun _ => rfl))) <|
    g_cons (g_lift (@stmt_assign _ _ _ _ _ _ _ _ (sound_bool) (tgt_name rfl (.inl (by decide +kernel))) (fun _ _ => rfl) (fun _ _ => rfl) (fun _ => rfl))) <|
    g_cons (g_for_enum (sound_var rfl (hd := by decide) (hn := by decide)) (tgt_tup (.cons (tgt_name rfl (.inl (by decide +kernel))) (fun _ => rfl) (.cons (tgt_name rfl (.inl (by decide +kernel))) (fun _ => rfl) (.nil)))) (g_cons (g_if (test_val (sound_var rfl (hd := by decide) (hn := by decide)) (hv := fun _ _ => rfl)) (g_cons (g_yield (@sound_tup _ _ _ _ _ _ _ (@list_consP _ _ _ _ _ _ _ (sound_var rfl (hd := by decide) (hn := by decide)) (@list_consP _ _ _ _ _ _ _ (@sound_bin _ _ _ _ _ _ _ _ _ _ op_add (sound_str (hx := rfl) (hy := rfl)) (sound_var rfl (hd := by decide) (hn := by decide))) (list_nil) rfl) rfl))) <|
    g_cons (g_lift (@stmt_assign _ _ _ _ _ _ _ _ (sound_bool) (tgt_name rfl (.inl (by decide +kernel))) (fun _ _ => rfl) (fun _ _ => rfl) (fun _ => rfl))) <|
    g_nil) (g_cons (g_if (test_cmp (sound_var rfl (hd := by decide) (hn := by decide)) (sound_str (hx := rfl) (hy := rfl)) (hm := by with_unfolding_all rfl)) (g_cons (g_lift (@stmt_assign _ _ _ _ _ _ _ _ (sound_bool) (tgt_name rfl (.inl (by decide +kernel))) (fun _ _ => rfl) (fun _ _ => rfl) (fun _ => rfl))) <|
    g_nil) (g_cons (g_yield (@sound_tup _ _ _ _ _ _ _ (@list_consP _ _ _ _ _ _ _ (sound_var rfl (hd := by decide) (hn := by decide)) (@list_consP _ _ _ _ _ _ _ (sound_var rfl (hd := by decide) (hn := by decide)) (list_nil) rfl) rfl))) <|
    g_nil)) <|
    g_nil)) <|
    g_nil) b_enumerate (by decide +kernel) (by decide +kernel) (hst := fun _ => rfl) (hfs := fun _ _ => rfl)) <|
    g_cons (g_if (test_val (sound_var rfl (hd := by decide) (hn := by decide)) (hv := fun _ _ => rfl)) (g_cons (g_yield (@sound_tup _ _ _ _ _ _ _ (@list_consP _ _ _ _ _ _ _ (sound_var rfl (hd := by decide) (hn := by decide)) (@list_consP _ _ _ _ _ _ _ (sound_str (hx := rfl) (hy := rfl)) (list_nil) rfl) rfl))) <|
    g_nil) (g_nil)) <|
    g_nil) rfl (by decide +kernel) (fun _ _ _ vs h => by obtain ⟨v0, rfl⟩ := len1 h; rfl) (by decide +kernel) (by decide +kernel) (hco := rfl) (hgen := rfl) (hk := rfl)
def l__strip_quoted_realnames_1 : AS := sCons (sExpr (aMeth kList fAppend (aVar 4) (lCons (aSlice (aVar 0) (aVar 5) (aCst .none) (aCst .none)) (lNil)))) <|
    sNil
theorem m_l__strip_quoted_realnames_1 : MonoS l__strip_quoted_realnames_1 := by
  unfold l__strip_quoted_realnames_1
  repeat' first | with_reducible apply m_var | with_reducible apply m_cst | with_reducible apply ms_nil | with_reducible apply ms_cons | with_reducible apply ms_assign | with_reducible apply ms_ret | with_reducible apply ms_ret0 | with_reducible apply ms_cont | with_reducible apply ms_if | with_reducible apply ms_expr | with_reducible apply ms_aug | with_reducible apply ms_augsub | with_reducible apply ms_for | with_reducible apply ms_while | with_reducible apply m_bin | with_reducible apply m_un | with_reducible apply m_cmp | with_reducible apply mt_val | with_reducible apply mt_not | with_reducible apply mt_and | with_reducible apply mt_or | with_reducible apply mt_true | with_reducible apply mt_false | with_reducible apply mt_cmp | with_reducible apply mt_cmp2 | with_reducible apply m_not | with_reducible apply m_if | with_reducible apply m_and | with_reducible apply m_or | with_reducible apply ml_nil | with_reducible apply ml_cons | with_reducible apply m_tup | with_reducible apply m_list | with_reducible apply m_call | with_reducible apply m_meth | with_reducible apply m_slice | with_reducible apply m_comp | with_reducible apply m_genlist | with_reducible apply ms_forg | with_reducible apply mg_name | with_reducible apply mg_sub | with_reducible apply mg_tup | with_reducible apply MonoGs.nil | with_reducible apply MonoGs.cons | with_reducible apply mo_add | with_reducible apply mo_iadd | with_reducible apply mo_sub | with_reducible apply mo_mul | with_reducible apply mo_div | with_reducible apply mo_mod | with_reducible apply mo_neg | with_reducible apply mo_item | with_reducible apply mf_len | with_reducible apply mf_range | with_reducible apply mf_list | with_reducible apply mf_tuple | with_reducible apply mf_append | with_reducible apply mf_insert | with_reducible apply mf_pop | with_reducible apply mf_chr | with_reducible apply mf_sjoin | with_reducible apply mf_all | with_reducible apply mf_any | with_reducible apply mf_sum | with_reducible apply mf_min | with_reducible apply mf_ssplit | with_reducible apply mf_srstrip | with_reducible apply mf_count | with_reducible apply mf_srfind | with_reducible apply mf_sreplace | with_reducible apply mo_iaddx | with_reducible apply m_compz
def l__strip_quoted_realnames_2 : AS := sCons (sAssign (gName 6) (aVar 2)) <|
    sNil
theorem m_l__strip_quoted_realnames_2 : MonoS l__strip_quoted_realnames_2 := by
  unfold l__strip_quoted_realnames_2
  repeat' first | with_reducible apply m_var | with_reducible apply m_cst | with_reducible apply ms_nil | with_reducible apply ms_cons | with_reducible apply ms_assign | with_reducible apply ms_ret | with_reducible apply ms_ret0 | with_reducible apply ms_cont | with_reducible apply ms_if | with_reducible apply ms_expr | with_reducible apply ms_aug | with_reducible apply ms_augsub | with_reducible apply ms_for | with_reducible apply ms_while | with_reducible apply m_bin | with_reducible apply m_un | with_reducible apply m_cmp | with_reducible apply mt_val | with_reducible apply mt_not | with_reducible apply mt_and | with_reducible apply mt_or | with_reducible apply mt_true | with_reducible apply mt_false | with_reducible apply mt_cmp | with_reducible apply mt_cmp2 | with_reducible apply m_not | with_reducible apply m_if | with_reducible apply m_and | with_reducible apply m_or | with_reducible apply ml_nil | with_reducible apply ml_cons | with_reducible apply m_tup | with_reducible apply m_list | with_reducible apply m_call | with_reducible apply m_meth | with_reducible apply m_slice | with_reducible apply m_comp | with_reducible apply m_genlist | with_reducible apply ms_forg | with_reducible apply mg_name | with_reducible apply mg_sub | with_reducible apply mg_tup | with_reducible apply MonoGs.nil | with_reducible apply MonoGs.cons | with_reducible apply mo_add | with_reducible apply mo_iadd | with_reducible apply mo_sub | with_reducible apply mo_mul | with_reducible apply mo_div | with_reducible apply mo_mod | with_reducible apply mo_neg | with_reducible apply mo_item | with_reducible apply mf_len | with_reducible apply mf_range | with_reducible apply mf_list | with_reducible apply mf_tuple | with_reducible apply mf_append | with_reducible apply mf_insert | with_reducible apply mf_pop | with_reducible apply mf_chr | with_reducible apply mf_sjoin | with_reducible apply mf_all | with_reducible apply mf_any | with_reducible apply mf_sum | with_reducible apply mf_min | with_reducible apply mf_ssplit | with_reducible apply mf_srstrip | with_reducible apply mf_count | with_reducible apply mf_srfind | with_reducible apply mf_sreplace | with_reducible apply mo_iaddx | with_reducible apply m_compz | with_reducible apply m_l__strip_quoted_realnames_1
def l__strip_quoted_realnames_3 : AS := sCons (sExpr (aMeth kList fAppend (aVar 4) (lCons (aSlice (aVar 0) (aVar 5) (aVar 6) (aCst .none)) (lNil)))) <|
    sNil
theorem m_l__strip_quoted_realnames_3 : MonoS l__strip_quoted_realnames_3 := by
  unfold l__strip_quoted_realnames_3
  repeat' first | with_reducible apply m_var | with_reducible apply m_cst | with_reducible apply ms_nil | with_reducible apply ms_cons | with_reducible apply ms_assign | with_reducible apply ms_ret | with_reducible apply ms_ret0 | with_reducible apply ms_cont | with_reducible apply ms_if | with_reducible apply ms_expr | with_reducible apply ms_aug | with_reducible apply ms_augsub | with_reducible apply ms_for | with_reducible apply ms_while | with_reducible apply m_bin | with_reducible apply m_un | with_reducible apply m_cmp | with_reducible apply mt_val | with_reducible apply mt_not | with_reducible apply mt_and | with_reducible apply mt_or | with_reducible apply mt_true | with_reducible apply mt_false | with_reducible apply mt_cmp | with_reducible apply mt_cmp2 | with_reducible apply m_not | with_reducible apply m_if | with_reducible apply m_and | with_reducible apply m_or | with_reducible apply ml_nil | with_reducible apply ml_cons | with_reducible apply m_tup | with_reducible apply m_list | with_reducible apply m_call | with_reducible apply m_meth | with_reducible apply m_slice | with_reducible apply m_comp | with_reducible apply m_genlist | with_reducible apply ms_forg | with_reducible apply mg_name | with_reducible apply mg_sub | with_reducible apply mg_tup | with_reducible apply MonoGs.nil | with_reducible apply MonoGs.cons | with_reducible apply mo_add | with_reducible apply mo_iadd | with_reducible apply mo_sub | with_reducible apply mo_mul | with_reducible apply mo_div | with_reducible apply mo_mod | with_reducible apply mo_neg | with_reducible apply mo_item | with_reducible apply mf_len | with_reducible apply mf_range | with_reducible apply mf_list | with_reducible apply mf_tuple | with_reducible apply mf_append | with_reducible apply mf_insert | with_reducible apply mf_pop | with_reducible apply mf_chr | with_reducible apply mf_sjoin | with_reducible apply mf_all | with_reducible apply mf_any | with_reducible apply mf_sum | with_reducible apply mf_min | with_reducible apply mf_ssplit | with_reducible apply mf_srstrip | with_reducible apply mf_count | with_reducible apply mf_srfind | with_reducible apply mf_sreplace | with_reducible apply mo_iaddx | with_reducible apply m_compz | with_reducible apply m_l__strip_quoted_realnames_1 | with_reducible apply m_l__strip_quoted_realnames_2
def l__strip_quoted_realnames_4 : AS := sCons (sIf (tCmp .NotEq (aVar 5) (aVar 6)) (l__strip_quoted_realnames_3) (sNil)) <|
    sCons (sAssign (gName 5) (aBin opAdd (aVar 2) (aCst (.int 1)))) <|
    sCons (sAssign (gName 6) (aCst .none)) <|
    sNil
theorem m_l__strip_quoted_realnames_4 : MonoS l__strip_quoted_realnames_4 := by
  unfold l__strip_quoted_realnames_4
  repeat' first | with_reducible apply m_var | with_reducible apply m_cst | with_reducible apply ms_nil | with_reducible apply ms_cons | with_reducible apply ms_assign | with_reducible apply ms_ret | with_reducible apply ms_ret0 | with_reducible apply ms_cont | with_reducible apply ms_if | with_reducible apply ms_expr | with_reducible apply ms_aug | with_reducible apply ms_augsub | with_reducible apply ms_for | with_reducible apply ms_while | with_reducible apply m_bin | with_reducible apply m_un | with_reducible apply m_cmp | with_reducible apply mt_val | with_reducible apply mt_not | with_reducible apply mt_and | with_reducible apply mt_or | with_reducible apply mt_true | with_reducible apply mt_false | with_reducible apply mt_cmp | with_reducible apply mt_cmp2 | with_reducible apply m_not | with_reducible apply m_if | with_reducible apply m_and | with_reducible apply m_or | with_reducible apply ml_nil | with_reducible apply ml_cons | with_reducible apply m_tup | with_reducible apply m_list | with_reducible apply m_call | with_reducible apply m_meth | with_reducible apply m_slice | with_reducible apply m_comp | with_reducible apply m_genlist | with_reducible apply ms_forg | with_reducible apply mg_name | with_reducible apply mg_sub | with_reducible apply mg_tup | with_reducible apply MonoGs.nil | with_reducible apply MonoGs.cons | with_reducible apply mo_add | with_reducible apply mo_iadd | with_reducible apply mo_sub | with_reducible apply mo_mul | with_reducible apply mo_div | with_reducible apply mo_mod | with_reducible apply mo_neg | with_reducible apply mo_item | with_reducible apply mf_len | with_reducible apply mf_range | with_reducible apply mf_list | with_reducible apply mf_tuple | with_reducible apply mf_append | with_reducible apply mf_insert | with_reducible apply mf_pop | with_reducible apply mf_chr | with_reducible apply mf_sjoin | with_reducible apply mf_all | with_reducible apply mf_any | with_reducible apply mf_sum | with_reducible apply mf_min | with_reducible apply mf_ssplit | with_reducible apply mf_srstrip | with_reducible apply mf_count | with_reducible apply mf_srfind | with_reducible apply mf_sreplace | with_reducible apply mo_iaddx | with_reducible apply m_compz | with_reducible apply m_l__strip_quoted_realnames_1 | with_reducible apply m_l__strip_quoted_realnames_2 | with_reducible apply m_l__strip_quoted_realnames_3
def l__strip_quoted_realnames_5 : AS := sCons (sIf (tCmp .Is (aVar 6) (aCst .none)) (l__strip_quoted_realnames_2) (l__strip_quoted_realnames_4)) <|
    sNil
theorem m_l__strip_quoted_realnames_5 : MonoS l__strip_quoted_realnames_5 := by
  unfold l__strip_quoted_realnames_5
  repeat' first | with_reducible apply m_var | with_reducible apply m_cst | with_reducible apply ms_nil | with_reducible apply ms_cons | with_reducible apply ms_assign | with_reducible apply ms_ret | with_reducible apply ms_ret0 | with_reducible apply ms_cont | with_reducible apply ms_if | with_reducible apply ms_expr | with_reducible apply ms_aug | with_reducible apply ms_augsub | with_reducible apply ms_for | with_reducible apply ms_while | with_reducible apply m_bin | with_reducible apply m_un | with_reducible apply m_cmp | with_reducible apply mt_val | with_reducible apply mt_not | with_reducible apply mt_and | with_reducible apply mt_or | with_reducible apply mt_true | with_reducible apply mt_false | with_reducible apply mt_cmp | with_reducible apply mt_cmp2 | with_reducible apply m_not | with_reducible apply m_if | with_reducible apply m_and | with_reducible apply m_or | with_reducible apply ml_nil | with_reducible apply ml_cons | with_reducible apply m_tup | with_reducible apply m_list | with_reducible apply m_call | with_reducible apply m_meth | with_reducible apply m_slice | with_reducible apply m_comp | with_reducible apply m_genlist | with_reducible apply ms_forg | with_reducible apply mg_name | with_reducible apply mg_sub | with_reducible apply mg_tup | with_reducible apply MonoGs.nil | with_reducible apply MonoGs.cons | with_reducible apply mo_add | with_reducible apply mo_iadd | with_reducible apply mo_sub | with_reducible apply mo_mul | with_reducible apply mo_div | with_reducible apply mo_mod | with_reducible apply mo_neg | with_reducible apply mo_item | with_reducible apply mf_len | with_reducible apply mf_range | with_reducible apply mf_list | with_reducible apply mf_tuple | with_reducible apply mf_append | with_reducible apply mf_insert | with_reducible apply mf_pop | with_reducible apply mf_chr | with_reducible apply mf_sjoin | with_reducible apply mf_all | with_reducible apply mf_any | with_reducible apply mf_sum | with_reducible apply mf_min | with_reducible apply mf_ssplit | with_reducible apply mf_srstrip | with_reducible apply mf_count | with_reducible apply mf_srfind | with_reducible apply mf_sreplace | with_reducible apply mo_iaddx | with_reducible apply m_compz | with_reducible apply m_l__strip_quoted_realnames_1 | with_reducible apply m_l__strip_quoted_realnames_2 | with_reducible apply m_l__strip_quoted_realnames_3 | with_reducible apply m_l__strip_quoted_realnames_4
def l__strip_quoted_realnames_6 : AS := sCons (sIf (tCmp .Eq (aVar 3) (aCst (.str [34]))) (l__strip_quoted_realnames_5) (sNil)) <|
    sNil
theorem m_l__strip_quoted_realnames_6 : MonoS l__strip_quoted_realnames_6 := by
  unfold l__strip_quoted_realnames_6
  repeat' first | with_reducible apply m_var | with_reducible apply m_cst | with_reducible apply ms_nil | with_reducible apply ms_cons | with_reducible apply ms_assign | with_reducible apply ms_ret | with_reducible apply ms_ret0 | with_reducible apply ms_cont | with_reducible apply ms_if | with_reducible apply ms_expr | with_reducible apply ms_aug | with_reducible apply ms_augsub | with_reducible apply ms_for | with_reducible apply ms_while | with_reducible apply m_bin | with_reducible apply m_un | with_reducible apply m_cmp | with_reducible apply mt_val | with_reducible apply mt_not | with_reducible apply mt_and | with_reducible apply mt_or | with_reducible apply mt_true | with_reducible apply mt_false | with_reducible apply mt_cmp | with_reducible apply mt_cmp2 | with_reducible apply m_not | with_reducible apply m_if | with_reducible apply m_and | with_reducible apply m_or | with_reducible apply ml_nil | with_reducible apply ml_cons | with_reducible apply m_tup | with_reducible apply m_list | with_reducible apply m_call | with_reducible apply m_meth | with_reducible apply m_slice | with_reducible apply m_comp | with_reducible apply m_genlist | with_reducible apply ms_forg | with_reducible apply mg_name | with_reducible apply mg_sub | with_reducible apply mg_tup | with_reducible apply MonoGs.nil | with_reducible apply MonoGs.cons | with_reducible apply mo_add | with_reducible apply mo_iadd | with_reducible apply mo_sub | with_reducible apply mo_mul | with_reducible apply mo_div | with_reducible apply mo_mod | with_reducible apply mo_neg | with_reducible apply mo_item | with_reducible apply mf_len | with_reducible apply mf_range | with_reducible apply mf_list | with_reducible apply mf_tuple | with_reducible apply mf_append | with_reducible apply mf_insert | with_reducible apply mf_pop | with_reducible apply mf_chr | with_reducible apply mf_sjoin | with_reducible apply mf_all | with_reducible apply mf_any | with_reducible apply mf_sum | with_reducible apply mf_min | with_reducible apply mf_ssplit | with_reducible apply mf_srstrip | with_reducible apply mf_count | with_reducible apply mf_srfind | with_reducible apply mf_sreplace | with_reducible apply mo_iaddx | with_reducible apply m_compz | with_reducible apply m_l__strip_quoted_realnames_1 | with_reducible apply m_l__strip_quoted_realnames_2 | with_reducible apply m_l__strip_quoted_realnames_3 | with_reducible apply m_l__strip_quoted_realnames_4 | with_reducible apply m_l__strip_quoted_realnames_5
def l__strip_quoted_realnames_7 : AS := sCons (sRet (aVar 0)) <|
    sNil
theorem m_l__strip_quoted_realnames_7 : MonoS l__strip_quoted_realnames_7 := by
  unfold l__strip_quoted_realnames_7
  repeat' first | with_reducible apply m_var | with_reducible apply m_cst | with_reducible apply ms_nil | with_reducible apply ms_cons | with_reducible apply ms_assign | with_reducible apply ms_ret | with_reducible apply ms_ret0 | with_reducible apply ms_cont | with_reducible apply ms_if | with_reducible apply ms_expr | with_reducible apply ms_aug | with_reducible apply ms_augsub | with_reducible apply ms_for | with_reducible apply ms_while | with_reducible apply m_bin | with_reducible apply m_un | with_reducible apply m_cmp | with_reducible apply mt_val | with_reducible apply mt_not | with_reducible apply mt_and | with_reducible apply mt_or | with_reducible apply mt_true | with_reducible apply mt_false | with_reducible apply mt_cmp | with_reducible apply mt_cmp2 | with_reducible apply m_not | with_reducible apply m_if | with_reducible apply m_and | with_reducible apply m_or | with_reducible apply ml_nil | with_reducible apply ml_cons | with_reducible apply m_tup | with_reducible apply m_list | with_reducible apply m_call | with_reducible apply m_meth | with_reducible apply m_slice | with_reducible apply m_comp | with_reducible apply m_genlist | with_reducible apply ms_forg | with_reducible apply mg_name | with_reducible apply mg_sub | with_reducible apply mg_tup | with_reducible apply MonoGs.nil | with_reducible apply MonoGs.cons | with_reducible apply mo_add | with_reducible apply mo_iadd | with_reducible apply mo_sub | with_reducible apply mo_mul | with_reducible apply mo_div | with_reducible apply mo_mod | with_reducible apply mo_neg | with_reducible apply mo_item | with_reducible apply mf_len | with_reducible apply mf_range | with_reducible apply mf_list | with_reducible apply mf_tuple | with_reducible apply mf_append | with_reducible apply mf_insert | with_reducible apply mf_pop | with_reducible apply mf_chr | with_reducible apply mf_sjoin | with_reducible apply mf_all | with_reducible apply mf_any | with_reducible apply mf_sum | with_reducible apply mf_min | with_reducible apply mf_ssplit | with_reducible apply mf_srstrip | with_reducible apply mf_count | with_reducible apply mf_srfind | with_reducible apply mf_sreplace | with_reducible apply mo_iaddx | with_reducible apply m_compz | with_reducible apply m_l__strip_quoted_realnames_1 | with_reducible apply m_l__strip_quoted_realnames_2 | with_reducible apply m_l__strip_quoted_realnames_3 | with_reducible apply m_l__strip_quoted_realnames_4 | with_reducible apply m_l__strip_quoted_realnames_5 | with_reducible apply m_l__strip_quoted_realnames_6
def f__strip_quoted_realnames : AF := aFn [0] <|
    sCons (sIf (tCmp .NotIn (aCst (.str [34])) (aVar 0)) (l__strip_quoted_realnames_7) (sNil)) <|
    sCons (sAssign (gName 5) (aCst (.int 0))) <|
    sCons (sAssign (gName 6) (aCst .none)) <|
    sCons (sAssign (gName 4) (aList (lNil))) <|
    sCons (sForG (gTup [gName 2, gName 3]) [0] g__iter_escaped_chars (lCons (aVar 0) (lNil)) (l__strip_quoted_realnames_6)) <|
    sCons (sIf (tCmp .Lt (aVar 5) (aCall fLen (lCons (aVar 0) (lNil)))) (l__strip_quoted_realnames_1) (sNil)) <|
    sCons (sRet (aMeth kStr fSJoin (aCst (.str [])) (lCons (aVar 4) (lNil)))) <|
    sNil
theorem m_f__strip_quoted_realnames : MonoF f__strip_quoted_realnames := by
  unfold f__strip_quoted_realnames
  apply mf_fn
  repeat' first | with_reducible apply m_var | with_reducible apply m_cst | with_reducible apply ms_nil | with_reducible apply ms_cons | with_reducible apply ms_assign | with_reducible apply ms_ret | with_reducible apply ms_ret0 | with_reducible apply ms_cont | with_reducible apply ms_if | with_reducible apply ms_expr | with_reducible apply ms_aug | with_reducible apply ms_augsub | with_reducible apply ms_for | with_reducible apply ms_while | with_reducible apply m_bin | with_reducible apply m_un | with_reducible apply m_cmp | with_reducible apply mt_val | with_reducible apply mt_not | with_reducible apply mt_and | with_reducible apply mt_or | with_reducible apply mt_true | with_reducible apply mt_false | with_reducible apply mt_cmp | with_reducible apply mt_cmp2 | with_reducible apply m_not | with_reducible apply m_if | with_reducible apply m_and | with_reducible apply m_or | with_reducible apply ml_nil | with_reducible apply ml_cons | with_reducible apply m_tup | with_reducible apply m_list | with_reducible apply m_call | with_reducible apply m_meth | with_reducible apply m_slice | with_reducible apply m_comp | with_reducible apply m_genlist | with_reducible apply ms_forg | with_reducible apply mg_name | with_reducible apply mg_sub | with_reducible apply mg_tup | with_reducible apply MonoGs.nil | with_reducible apply MonoGs.cons | with_reducible apply mo_add | with_reducible apply mo_iadd | with_reducible apply mo_sub | with_reducible apply mo_mul | with_reducible apply mo_div | with_reducible apply mo_mod | with_reducible apply mo_neg | with_reducible apply mo_item | with_reducible apply mf_len | with_reducible apply mf_range | with_reducible apply mf_list | with_reducible apply mf_tuple | with_reducible apply mf_append | with_reducible apply mf_insert | with_reducible apply mf_pop | with_reducible apply mf_chr | with_reducible apply mf_sjoin | with_reducible apply mf_all | with_reducible apply mf_any | with_reducible apply mf_sum | with_reducible apply mf_min | with_reducible apply mf_ssplit | with_reducible apply mf_srstrip | with_reducible apply mf_count | with_reducible apply mf_srfind | with_reducible apply mf_sreplace | with_reducible apply mo_iaddx | with_reducible apply m_compz | with_reducible apply m_l__strip_quoted_realnames_1 | with_reducible apply m_l__strip_quoted_realnames_2 | with_reducible apply m_l__strip_quoted_realnames_3 | with_reducible apply m_l__strip_quoted_realnames_4 | with_reducible apply m_l__strip_quoted_realnames_5 | with_reducible apply m_l__strip_quoted_realnames_6 | with_reducible apply m_l__strip_quoted_realnames_7
theorem s__strip_quoted_realnames (c : Cx) (hd : fnRec prg 2 ∈ recsOf c.q) (h__iter_escaped_chars : GenF (c.on NN NN_nodup) 1 (Str.ofString "_iter_escaped_chars") [0] g__iter_escaped_chars) (b_len : c.mg (Str.ofString "len") = none) : SoundF (c.on NN NN_nodup) 5 (Str.ofString "_strip_quoted_realnames") f__strip_quoted_realnames :=
  sound_fn (c := c.on NN NN_nodup) (d := fnRec prg 2) (xs := [Str.ofString "addr"]) hd (
    @block_cons _ _ _ _ _ _ _ (stmt_if (test_cmp (sound_str (hx := rfl) (hy := rfl)) (sound_var rfl (hd := by decide) (hn := by decide)) (hm := by with_unfolding_all rfl)) (@block_cons _ _ _ _ _ _ _ (@stmt_ret _ _ _ _ _ _ (sound_var rfl (hd := by decide) (hn := by decide))) <|
    block_nil) (block_nil)) <|
    @block_cons _ _ _ _ _ _ _ (@stmt_assign _ _ _ _ _ _ _ _ (sound_int) (tgt_name rfl (.inl (by decide +kernel))) (fun _ _ => rfl) (fun _ _ => rfl) (fun _ => rfl)) <|
    @block_cons _ _ _ _ _ _ _ (@stmt_assign _ _ _ _ _ _ _ _ (sound_none) (tgt_name rfl (.inl (by decide +kernel))) (fun _ _ => rfl) (fun _ _ => rfl) (fun _ => rfl)) <|
    @block_cons _ _ _ _ _ _ _ (@stmt_assign _ _ _ _ _ _ _ _ (@sound_list _ _ _ _ _ _ (list_nil)) (tgt_name rfl (.inl (by decide +kernel))) (fun _ _ => rfl) (fun _ _ => rfl) (fun _ => rfl)) <|
    @block_cons _ _ _ _ _ _ _ (stmt_for_gen h__iter_escaped_chars (@list_consP _ _ _ _ _ _ _ (sound_var rfl (hd := by decide) (hn := by decide)) (list_nil) rfl) (by decide +kernel) (by decide) (tgt_tup (.cons (tgt_name rfl (.inl (by decide +kernel))) (fun _ => rfl) (.cons (tgt_name rfl (.inl (by decide +kernel))) (fun _ => rfl) (.nil)))) (@block_cons _ _ _ _ _ _ _ (stmt_if (test_cmp (sound_var rfl (hd := by decide) (hn := by decide)) (sound_str (hx := rfl) (hy := rfl)) (hm := by with_unfolding_all rfl)) (@block_cons _ _ _ _ _ _ _ (stmt_if (test_cmp (sound_var rfl (hd := by decide) (hn := by decide)) (sound_none) (hm := by with_unfolding_all rfl)) (@block_cons _ _ _ _ _ _ _ (@stmt_assign _ _ _ _ _ _ _ _ (sound_var rfl (hd := by decide) (hn := by decide)) (tgt_name rfl (.inl (by decide +kernel))) (fun _ _ => rfl) (fun _ _ => rfl) (fun _ => rfl)) <|
    block_nil) (@block_cons _ _ _ _ _ _ _ (stmt_if (test_cmp (sound_var rfl (hd := by decide) (hn := by decide)) (sound_var rfl (hd := by decide) (hn := by decide)) (hm := by with_unfolding_all rfl)) (@block_cons _ _ _ _ _ _ _ (stmt_expr (@sound_meth _ _ _ _ _ _ _ _ _ _ _ _ _ _ F.slot_list_append F.type_list_append F.plainAttrs_list kind_list me_append (sound_var rfl (hd := by decide) (hn := by decide)) (@list_consP _ _ _ _ _ _ _ (sound_slice (sound_var rfl (hd := by decide) (hn := by decide)) (part_some (sound_var rfl (hd := by decide) (hn := by decide))) (part_some (sound_var rfl (hd := by decide) (hn := by decide))) (part_none)) (list_nil) rfl) (.inr ⟨_, _, rfl, fun _ => ⟨rfl, rfl⟩⟩) (fun _ => rfl) (fun _ => rfl) rfl) (fun _ h => no_inter h) (hs := fun _ => rfl)) <|
    block_nil) (block_nil)) <|
    @block_cons _ _ _ _ _ _ _ (@stmt_assign _ _ _ _ _ _ _ _ (@sound_bin _ _ _ _ _ _ _ _ _ _ op_add (sound_var rfl (hd := by decide) (hn := by decide)) (sound_int)) (tgt_name rfl (.inl (by decide +kernel))) (fun _ _ => rfl) (fun _ _ => rfl) (fun _ => rfl)) <|
    @block_cons _ _ _ _ _ _ _ (@stmt_assign _ _ _ _ _ _ _ _ (sound_none) (tgt_name rfl (.inl (by decide +kernel))) (fun _ _ => rfl) (fun _ _ => rfl) (fun _ => rfl)) <|
    block_nil)) <|
    block_nil) (block_nil)) <|
    block_nil) (hfs := fun _ _ => rfl) (ht := by first | exact .inl ⟨_, _, _, rfl⟩ | exact .inr fun _ _ => rfl) (hd := by decide) (he' := fun _ => rfl)) <|
    @block_cons _ _ _ _ _ _ _ (stmt_if (test_cmp (sound_var rfl (hd := by decide) (hn := by decide)) (sound_bi bi_len rfl b_len (by decide +kernel) (by decide +kernel) (@list_consP _ _ _ _ _ _ _ (sound_var rfl (hd := by decide) (hn := by decide)) (list_nil) rfl) (by decide +kernel) (hd := by decide) (he' := fun _ => rfl) (hp := fun _ => rfl)) (hm := by with_unfolding_all rfl)) (@block_cons _ _ _ _ _ _ _ (stmt_expr (@sound_meth _ _ _ _ _ _ _ _ _ _ _ _ _ _ F.slot_list_append F.type_list_append F.plainAttrs_list kind_list me_append (sound_var rfl (hd := by decide) (hn := by decide)) (@list_consP _ _ _ _ _ _ _ (sound_slice (sound_var rfl (hd := by decide) (hn := by decide)) (part_some (sound_var rfl (hd := by decide) (hn := by decide))) (part_none) (part_none)) (list_nil) rfl) (.inr ⟨_, _, rfl, fun _ => ⟨rfl, rfl⟩⟩) (fun _ => rfl) (fun _ => rfl) rfl) (fun _ h => no_inter h) (hs := fun _ => rfl)) <|
    block_nil) (block_nil)) <|
    @block_cons _ _ _ _ _ _ _ (@stmt_ret _ _ _ _ _ _ (@sound_meth _ _ _ _ _ _ _ _ _ _ _ _ _ _ F.slot_str_join F.type_str_join F.plainAttrs_str kind_str me_sjoin (sound_str (hx := rfl) (hy := rfl)) (@list_consP _ _ _ _ _ _ _ (sound_var rfl (hd := by decide) (hn := by decide)) (list_nil) rfl) (.inr ⟨_, _, rfl, fun _ => ⟨rfl, rfl⟩⟩) (fun _ => rfl) (fun _ => rfl) rfl)) <|
    block_nil) rfl (by decide +kernel) (fun _ _ _ vs h => by obtain ⟨v0, rfl⟩ := len1 h; rfl) (by decide +kernel) (hco := rfl) (hgen := rfl) (hk := rfl)
def l__check_parenthesis_1 : AS := sCons (sAug 7 opIAddX (aCst (.int 1))) <|
    sNil
theorem m_l__check_parenthesis_1 : MonoS l__check_parenthesis_1 := by
  unfold l__check_parenthesis_1
  repeat' first | with_reducible apply m_var | with_reducible apply m_cst | with_reducible apply ms_nil | with_reducible apply ms_cons | with_reducible apply ms_assign | with_reducible apply ms_ret | with_reducible apply ms_ret0 | with_reducible apply ms_cont | with_reducible apply ms_if | with_reducible apply ms_expr | with_reducible apply ms_aug | with_reducible apply ms_augsub | with_reducible apply ms_for | with_reducible apply ms_while | with_reducible apply m_bin | with_reducible apply m_un | with_reducible apply m_cmp | with_reducible apply mt_val | with_reducible apply mt_not | with_reducible apply mt_and | with_reducible apply mt_or | with_reducible apply mt_true | with_reducible apply mt_false | with_reducible apply mt_cmp | with_reducible apply mt_cmp2 | with_reducible apply m_not | with_reducible apply m_if | with_reducible apply m_and | with_reducible apply m_or | with_reducible apply ml_nil | with_reducible apply ml_cons | with_reducible apply m_tup | with_reducible apply m_list | with_reducible apply m_call | with_reducible apply m_meth | with_reducible apply m_slice | with_reducible apply m_comp | with_reducible apply m_genlist | with_reducible apply ms_forg | with_reducible apply mg_name | with_reducible apply mg_sub | with_reducible apply mg_tup | with_reducible apply MonoGs.nil | with_reducible apply MonoGs.cons | with_reducible apply mo_add | with_reducible apply mo_iadd | with_reducible apply mo_sub | with_reducible apply mo_mul | with_reducible apply mo_div | with_reducible apply mo_mod | with_reducible apply mo_neg | with_reducible apply mo_item | with_reducible apply mf_len | with_reducible apply mf_range | with_reducible apply mf_list | with_reducible apply mf_tuple | with_reducible apply mf_append | with_reducible apply mf_insert | with_reducible apply mf_pop | with_reducible apply mf_chr | with_reducible apply mf_sjoin | with_reducible apply mf_all | with_reducible apply mf_any | with_reducible apply mf_sum | with_reducible apply mf_min | with_reducible apply mf_ssplit | with_reducible apply mf_srstrip | with_reducible apply mf_count | with_reducible apply mf_srfind | with_reducible apply mf_sreplace | with_reducible apply mo_iaddx | with_reducible apply m_compz | with_reducible apply m_f__strip_quoted_realnames
def l__check_parenthesis_2 : AS := sCons (sRet (aCst (.bool false))) <|
    sNil
theorem m_l__check_parenthesis_2 : MonoS l__check_parenthesis_2 := by
  unfold l__check_parenthesis_2
  repeat' first | with_reducible apply m_var | with_reducible apply m_cst | with_reducible apply ms_nil | with_reducible apply ms_cons | with_reducible apply ms_assign | with_reducible apply ms_ret | with_reducible apply ms_ret0 | with_reducible apply ms_cont | with_reducible apply ms_if | with_reducible apply ms_expr | with_reducible apply ms_aug | with_reducible apply ms_augsub | with_reducible apply ms_for | with_reducible apply ms_while | with_reducible apply m_bin | with_reducible apply m_un | with_reducible apply m_cmp | with_reducible apply mt_val | with_reducible apply mt_not | with_reducible apply mt_and | with_reducible apply mt_or | with_reducible apply mt_true | with_reducible apply mt_false | with_reducible apply mt_cmp | with_reducible apply mt_cmp2 | with_reducible apply m_not | with_reducible apply m_if | with_reducible apply m_and | with_reducible apply m_or | with_reducible apply ml_nil | with_reducible apply ml_cons | with_reducible apply m_tup | with_reducible apply m_list | with_reducible apply m_call | with_reducible apply m_meth | with_reducible apply m_slice | with_reducible apply m_comp | with_reducible apply m_genlist | with_reducible apply ms_forg | with_reducible apply mg_name | with_reducible apply mg_sub | with_reducible apply mg_tup | with_reducible apply MonoGs.nil | with_reducible apply MonoGs.cons | with_reducible apply mo_add | with_reducible apply mo_iadd | with_reducible apply mo_sub | with_reducible apply mo_mul | with_reducible apply mo_div | with_reducible apply mo_mod | with_reducible apply mo_neg | with_reducible apply mo_item | with_reducible apply mf_len | with_reducible apply mf_range | with_reducible apply mf_list | with_reducible apply mf_tuple | with_reducible apply mf_append | with_reducible apply mf_insert | with_reducible apply mf_pop | with_reducible apply mf_chr | with_reducible apply mf_sjoin | with_reducible apply mf_all | with_reducible apply mf_any | with_reducible apply mf_sum | with_reducible apply mf_min | with_reducible apply mf_ssplit | with_reducible apply mf_srstrip | with_reducible apply mf_count | with_reducible apply mf_srfind | with_reducible apply mf_sreplace | with_reducible apply mo_iaddx | with_reducible apply m_compz | with_reducible apply m_f__strip_quoted_realnames | with_reducible apply m_l__check_parenthesis_1
def l__check_parenthesis_3 : AS := sCons (sAug 7 opSub (aCst (.int 1))) <|
    sCons (sIf (tCmp .Lt (aVar 7) (aCst (.int 0))) (l__check_parenthesis_2) (sNil)) <|
    sNil
theorem m_l__check_parenthesis_3 : MonoS l__check_parenthesis_3 := by
  unfold l__check_parenthesis_3
  repeat' first | with_reducible apply m_var | with_reducible apply m_cst | with_reducible apply ms_nil | with_reducible apply ms_cons | with_reducible apply ms_assign | with_reducible apply ms_ret | with_reducible apply ms_ret0 | with_reducible apply ms_cont | with_reducible apply ms_if | with_reducible apply ms_expr | with_reducible apply ms_aug | with_reducible apply ms_augsub | with_reducible apply ms_for | with_reducible apply ms_while | with_reducible apply m_bin | with_reducible apply m_un | with_reducible apply m_cmp | with_reducible apply mt_val | with_reducible apply mt_not | with_reducible apply mt_and | with_reducible apply mt_or | with_reducible apply mt_true | with_reducible apply mt_false | with_reducible apply mt_cmp | with_reducible apply mt_cmp2 | with_reducible apply m_not | with_reducible apply m_if | with_reducible apply m_and | with_reducible apply m_or | with_reducible apply ml_nil | with_reducible apply ml_cons | with_reducible apply m_tup | with_reducible apply m_list | with_reducible apply m_call | with_reducible apply m_meth | with_reducible apply m_slice | with_reducible apply m_comp | with_reducible apply m_genlist | with_reducible apply ms_forg | with_reducible apply mg_name | with_reducible apply mg_sub | with_reducible apply mg_tup | with_reducible apply MonoGs.nil | with_reducible apply MonoGs.cons | with_reducible apply mo_add | with_reducible apply mo_iadd | with_reducible apply mo_sub | with_reducible apply mo_mul | with_reducible apply mo_div | with_reducible apply mo_mod | with_reducible apply mo_neg | with_reducible apply mo_item | with_reducible apply mf_len | with_reducible apply mf_range | with_reducible apply mf_list | with_reducible apply mf_tuple | with_reducible apply mf_append | with_reducible apply mf_insert | with_reducible apply mf_pop | with_reducible apply mf_chr | with_reducible apply mf_sjoin | with_reducible apply mf_all | with_reducible apply mf_any | with_reducible apply mf_sum | with_reducible apply mf_min | with_reducible apply mf_ssplit | with_reducible apply mf_srstrip | with_reducible apply mf_count | with_reducible apply mf_srfind | with_reducible apply mf_sreplace | with_reducible apply mo_iaddx | with_reducible apply m_compz | with_reducible apply m_f__strip_quoted_realnames | with_reducible apply m_l__check_parenthesis_1 | with_reducible apply m_l__check_parenthesis_2
def l__check_parenthesis_4 : AS := sCons (sIf (tCmp .Eq (aVar 3) (aCst (.str [41]))) (l__check_parenthesis_3) (sNil)) <|
    sNil
theorem m_l__check_parenthesis_4 : MonoS l__check_parenthesis_4 := by
  unfold l__check_parenthesis_4
  repeat' first | with_reducible apply m_var | with_reducible apply m_cst | with_reducible apply ms_nil | with_reducible apply ms_cons | with_reducible apply ms_assign | with_reducible apply ms_ret | with_reducible apply ms_ret0 | with_reducible apply ms_cont | with_reducible apply ms_if | with_reducible apply ms_expr | with_reducible apply ms_aug | with_reducible apply ms_augsub | with_reducible apply ms_for | with_reducible apply ms_while | with_reducible apply m_bin | with_reducible apply m_un | with_reducible apply m_cmp | with_reducible apply mt_val | with_reducible apply mt_not | with_reducible apply mt_and | with_reducible apply mt_or | with_reducible apply mt_true | with_reducible apply mt_false | with_reducible apply mt_cmp | with_reducible apply mt_cmp2 | with_reducible apply m_not | with_reducible apply m_if | with_reducible apply m_and | with_reducible apply m_or | with_reducible apply ml_nil | with_reducible apply ml_cons | with_reducible apply m_tup | with_reducible apply m_list | with_reducible apply m_call | with_reducible apply m_meth | with_reducible apply m_slice | with_reducible apply m_comp | with_reducible apply m_genlist | with_reducible apply ms_forg | with_reducible apply mg_name | with_reducible apply mg_sub | with_reducible apply mg_tup | with_reducible apply MonoGs.nil | with_reducible apply MonoGs.cons | with_reducible apply mo_add | with_reducible apply mo_iadd | with_reducible apply mo_sub | with_reducible apply mo_mul | with_reducible apply mo_div | with_reducible apply mo_mod | with_reducible apply mo_neg | with_reducible apply mo_item | with_reducible apply mf_len | with_reducible apply mf_range | with_reducible apply mf_list | with_reducible apply mf_tuple | with_reducible apply mf_append | with_reducible apply mf_insert | with_reducible apply mf_pop | with_reducible apply mf_chr | with_reducible apply mf_sjoin | with_reducible apply mf_all | with_reducible apply mf_any | with_reducible apply mf_sum | with_reducible apply mf_min | with_reducible apply mf_ssplit | with_reducible apply mf_srstrip | with_reducible apply mf_count | with_reducible apply mf_srfind | with_reducible apply mf_sreplace | with_reducible apply mo_iaddx | with_reducible apply m_compz | with_reducible apply m_f__strip_quoted_realnames | with_reducible apply m_l__check_parenthesis_1 | with_reducible apply m_l__check_parenthesis_2 | with_reducible apply m_l__check_parenthesis_3
def l__check_parenthesis_5 : AS := sCons (sIf (tCmp .Eq (aVar 3) (aCst (.str [40]))) (l__check_parenthesis_1) (l__check_parenthesis_4)) <|
    sNil
theorem m_l__check_parenthesis_5 : MonoS l__check_parenthesis_5 := by
  unfold l__check_parenthesis_5
  repeat' first | with_reducible apply m_var | with_reducible apply m_cst | with_reducible apply ms_nil | with_reducible apply ms_cons | with_reducible apply ms_assign | with_reducible apply ms_ret | with_reducible apply ms_ret0 | with_reducible apply ms_cont | with_reducible apply ms_if | with_reducible apply ms_expr | with_reducible apply ms_aug | with_reducible apply ms_augsub | with_reducible apply ms_for | with_reducible apply ms_while | with_reducible apply m_bin | with_reducible apply m_un | with_reducible apply m_cmp | with_reducible apply mt_val | with_reducible apply mt_not | with_reducible apply mt_and | with_reducible apply mt_or | with_reducible apply mt_true | with_reducible apply mt_false | with_reducible apply mt_cmp | with_reducible apply mt_cmp2 | with_reducible apply m_not | with_reducible apply m_if | with_reducible apply m_and | with_reducible apply m_or | with_reducible apply ml_nil | with_reducible apply ml_cons | with_reducible apply m_tup | with_reducible apply m_list | with_reducible apply m_call | with_reducible apply m_meth | with_reducible apply m_slice | with_reducible apply m_comp | with_reducible apply m_genlist | with_reducible apply ms_forg | with_reducible apply mg_name | with_reducible apply mg_sub | with_reducible apply mg_tup | with_reducible apply MonoGs.nil | with_reducible apply MonoGs.cons | with_reducible apply mo_add | with_reducible apply mo_iadd | with_reducible apply mo_sub | with_reducible apply mo_mul | with_reducible apply mo_div | with_reducible apply mo_mod | with_reducible apply mo_neg | with_reducible apply mo_item | with_reducible apply mf_len | with_reducible apply mf_range | with_reducible apply mf_list | with_reducible apply mf_tuple | with_reducible apply mf_append | with_reducible apply mf_insert | with_reducible apply mf_pop | with_reducible apply mf_chr | with_reducible apply mf_sjoin | with_reducible apply mf_all | with_reducible apply mf_any | with_reducible apply mf_sum | with_reducible apply mf_min | with_reducible apply mf_ssplit | with_reducible apply mf_srstrip | with_reducible apply mf_count | with_reducible apply mf_srfind | with_reducible apply mf_sreplace | with_reducible apply mo_iaddx | with_reducible apply m_compz | with_reducible apply m_f__strip_quoted_realnames | with_reducible apply m_l__check_parenthesis_1 | with_reducible apply m_l__check_parenthesis_2 | with_reducible apply m_l__check_parenthesis_3 | with_reducible apply m_l__check_parenthesis_4
def f__check_parenthesis : AF := aFn [0] <|
    sCons (sAssign (gName 0) (aCall f__strip_quoted_realnames (lCons (aVar 0) (lNil)))) <|
    sCons (sAssign (gName 7) (aCst (.int 0))) <|
    sCons (sForG (gTup [gName 2, gName 3]) [0] g__iter_escaped_chars (lCons (aVar 0) (lNil)) (l__check_parenthesis_5)) <|
    sCons (sRet (aCmp .Eq (aVar 7) (aCst (.int 0)))) <|
    sNil
theorem m_f__check_parenthesis : MonoF f__check_parenthesis := by
  unfold f__check_parenthesis
  apply mf_fn
  repeat' first | with_reducible apply m_var | with_reducible apply m_cst | with_reducible apply ms_nil | with_reducible apply ms_cons | with_reducible apply ms_assign | with_reducible apply ms_ret | with_reducible apply ms_ret0 | with_reducible apply ms_cont | with_reducible apply ms_if | with_reducible apply ms_expr | with_reducible apply ms_aug | with_reducible apply ms_augsub | with_reducible apply ms_for | with_reducible apply ms_while | with_reducible apply m_bin | with_reducible apply m_un | with_reducible apply m_cmp | with_reducible apply mt_val | with_reducible apply mt_not | with_reducible apply mt_and | with_reducible apply mt_or | with_reducible apply mt_true | with_reducible apply mt_false | with_reducible apply mt_cmp | with_reducible apply mt_cmp2 | with_reducible apply m_not | with_reducible apply m_if | with_reducible apply m_and | with_reducible apply m_or | with_reducible apply ml_nil | with_reducible apply ml_cons | with_reducible apply m_tup | with_reducible apply m_list | with_reducible apply m_call | with_reducible apply m_meth | with_reducible apply m_slice | with_reducible apply m_comp | with_reducible apply m_genlist | with_reducible apply ms_forg | with_reducible apply mg_name | with_reducible apply mg_sub | with_reducible apply mg_tup | with_reducible apply MonoGs.nil | with_reducible apply MonoGs.cons | with_reducible apply mo_add | with_reducible apply mo_iadd | with_reducible apply mo_sub | with_reducible apply mo_mul | with_reducible apply mo_div | with_reducible apply mo_mod | with_reducible apply mo_neg | with_reducible apply mo_item | with_reducible apply mf_len | with_reducible apply mf_range | with_reducible apply mf_list | with_reducible apply mf_tuple | with_reducible apply mf_append | with_reducible apply mf_insert | with_reducible apply mf_pop | with_reducible apply mf_chr | with_reducible apply mf_sjoin | with_reducible apply mf_all | with_reducible apply mf_any | with_reducible apply mf_sum | with_reducible apply mf_min | with_reducible apply mf_ssplit | with_reducible apply mf_srstrip | with_reducible apply mf_count | with_reducible apply mf_srfind | with_reducible apply mf_sreplace | with_reducible apply mo_iaddx | with_reducible apply m_compz | with_reducible apply m_f__strip_quoted_realnames | with_reducible apply m_l__check_parenthesis_1 | with_reducible apply m_l__check_parenthesis_2 | with_reducible apply m_l__check_parenthesis_3 | with_reducible apply m_l__check_parenthesis_4 | with_reducible apply m_l__check_parenthesis_5
theorem s__check_parenthesis (c : Cx) (hd : fnRec prg 3 ∈ recsOf c.q) (h__iter_escaped_chars : GenF (c.on NN NN_nodup) 1 (Str.ofString "_iter_escaped_chars") [0] g__iter_escaped_chars) (h__strip_quoted_realnames : SoundF (c.on NN NN_nodup) 5 (Str.ofString "_strip_quoted_realnames") f__strip_quoted_realnames) : SoundF (c.on NN NN_nodup) 6 (Str.ofString "_check_parenthesis") f__check_parenthesis :=
  sound_fn (c := c.on NN NN_nodup) (d := fnRec prg 3) (xs := [Str.ofString "addr"]) hd (
    @block_cons _ _ _ _ _ _ _ (@stmt_assign _ _ _ _ _ _ _ _ (sound_call h__strip_quoted_realnames (@list_consP _ _ _ _ _ _ _ (sound_var rfl (hd := by decide) (hn := by decide)) (list_nil) rfl) (by decide +kernel) (by decide) (hd := by decide) (he' := fun _ => rfl)) (tgt_name rfl (.inl (by decide +kernel))) (fun _ _ => rfl) (fun _ _ => rfl) (fun _ => rfl)) <|
    @block_cons _ _ _ _ _ _ _ (@stmt_assign _ _ _ _ _ _ _ _ (sound_int) (tgt_name rfl (.inl (by decide +kernel))) (fun _ _ => rfl) (fun _ _ => rfl) (fun _ => rfl)) <|
    @block_cons _ _ _ _ _ _ _ (stmt_for_gen h__iter_escaped_chars (@list_consP _ _ _ _ _ _ _ (sound_var rfl (hd := by decide) (hn := by decide)) (list_nil) rfl) (by decide +kernel) (by decide) (tgt_tup (.cons (tgt_name rfl (.inl (by decide +kernel))) (fun _ => rfl) (.cons (tgt_name rfl (.inl (by decide +kernel))) (fun _ => rfl) (.nil)))) (@block_cons _ _ _ _ _ _ _ (stmt_if (test_cmp (sound_var rfl (hd := by decide) (hn := by decide)) (sound_str (hx := rfl) (hy := rfl)) (hm := by with_unfolding_all rfl)) (@block_cons _ _ _ _ _ _ _ (stmt_aug op_iaddx (sound_int) rfl (.inl (by decide +kernel)) (hn := by decide)) <|
    block_nil) (@block_cons _ _ _ _ _ _ _ (stmt_if (test_cmp (sound_var rfl (hd := by decide) (hn := by decide)) (sound_str (hx := rfl) (hy := rfl)) (hm := by with_unfolding_all rfl)) (@block_cons _ _ _ _ _ _ _ (stmt_aug op_isub (sound_int) rfl (.inl (by decide +kernel)) (hn := by decide)) <|
    @block_cons _ _ _ _ _ _ _ (stmt_if (test_cmp (sound_var rfl (hd := by decide) (hn := by decide)) (sound_int) (hm := by with_unfolding_all rfl)) (@block_cons _ _ _ _ _ _ _ (@stmt_ret _ _ _ _ _ _ (sound_bool)) <|
    block_nil) (block_nil)) <|
    block_nil) (block_nil)) <|
    block_nil)) <|
    block_nil) (hfs := fun _ _ => rfl) (ht := by first | exact .inl ⟨_, _, _, rfl⟩ | exact .inr fun _ _ => rfl) (hd := by decide) (he' := fun _ => rfl)) <|
    @block_cons _ _ _ _ _ _ _ (@stmt_ret _ _ _ _ _ _ (sound_cmp (sound_var rfl (hd := by decide) (hn := by decide)) (sound_int) (hm := by with_unfolding_all rfl))) <|
    block_nil) rfl (by decide +kernel) (fun _ _ _ vs h => by obtain ⟨v0, rfl⟩ := len1 h; rfl) (by decide +kernel) (hco := rfl) (hgen := rfl) (hk := rfl)
def l__pre_parse_validation_1 : AS := sCons (sAssign (gName 10) (aCst (.str [40, 39, 39, 44, 32, 39, 39, 41]))) <|
    sNil
theorem m_l__pre_parse_validation_1 : MonoS l__pre_parse_validation_1 := by
  unfold l__pre_parse_validation_1
  repeat' first | with_reducible apply m_var | with_reducible apply m_cst | with_reducible apply ms_nil | with_reducible apply ms_cons | with_reducible apply ms_assign | with_reducible apply ms_ret | with_reducible apply ms_ret0 | with_reducible apply ms_cont | with_reducible apply ms_if | with_reducible apply ms_expr | with_reducible apply ms_aug | with_reducible apply ms_augsub | with_reducible apply ms_for | with_reducible apply ms_while | with_reducible apply m_bin | with_reducible apply m_un | with_reducible apply m_cmp | with_reducible apply mt_val | with_reducible apply mt_not | with_reducible apply mt_and | with_reducible apply mt_or | with_reducible apply mt_true | with_reducible apply mt_false | with_reducible apply mt_cmp | with_reducible apply mt_cmp2 | with_reducible apply m_not | with_reducible apply m_if | with_reducible apply m_and | with_reducible apply m_or | with_reducible apply ml_nil | with_reducible apply ml_cons | with_reducible apply m_tup | with_reducible apply m_list | with_reducible apply m_call | with_reducible apply m_meth | with_reducible apply m_slice | with_reducible apply m_comp | with_reducible apply m_genlist | with_reducible apply ms_forg | with_reducible apply mg_name | with_reducible apply mg_sub | with_reducible apply mg_tup | with_reducible apply MonoGs.nil | with_reducible apply MonoGs.cons | with_reducible apply mo_add | with_reducible apply mo_iadd | with_reducible apply mo_sub | with_reducible apply mo_mul | with_reducible apply mo_div | with_reducible apply mo_mod | with_reducible apply mo_neg | with_reducible apply mo_item | with_reducible apply mf_len | with_reducible apply mf_range | with_reducible apply mf_list | with_reducible apply mf_tuple | with_reducible apply mf_append | with_reducible apply mf_insert | with_reducible apply mf_pop | with_reducible apply mf_chr | with_reducible apply mf_sjoin | with_reducible apply mf_all | with_reducible apply mf_any | with_reducible apply mf_sum | with_reducible apply mf_min | with_reducible apply mf_ssplit | with_reducible apply mf_srstrip | with_reducible apply mf_count | with_reducible apply mf_srfind | with_reducible apply mf_sreplace | with_reducible apply mo_iaddx | with_reducible apply m_compz | with_reducible apply m_f__check_parenthesis
def l__pre_parse_validation_2 : AS := sCons (sIf (tNot (tVal (aCall f__check_parenthesis (lCons (aVar 10) (lNil))))) (l__pre_parse_validation_1) (sNil)) <|
    sCons (sExpr (aMeth kList fAppend (aVar 9) (lCons (aVar 10) (lNil)))) <|
    sNil
theorem m_l__pre_parse_validation_2 : MonoS l__pre_parse_validation_2 := by
  unfold l__pre_parse_validation_2
  repeat' first | with_reducible apply m_var | with_reducible apply m_cst | with_reducible apply ms_nil | with_reducible apply ms_cons | with_reducible apply ms_assign | with_reducible apply ms_ret | with_reducible apply ms_ret0 | with_reducible apply ms_cont | with_reducible apply ms_if | with_reducible apply ms_expr | with_reducible apply ms_aug | with_reducible apply ms_augsub | with_reducible apply ms_for | with_reducible apply ms_while | with_reducible apply m_bin | with_reducible apply m_un | with_reducible apply m_cmp | with_reducible apply mt_val | with_reducible apply mt_not | with_reducible apply mt_and | with_reducible apply mt_or | with_reducible apply mt_true | with_reducible apply mt_false | with_reducible apply mt_cmp | with_reducible apply mt_cmp2 | with_reducible apply m_not | with_reducible apply m_if | with_reducible apply m_and | with_reducible apply m_or | with_reducible apply ml_nil | with_reducible apply ml_cons | with_reducible apply m_tup | with_reducible apply m_list | with_reducible apply m_call | with_reducible apply m_meth | with_reducible apply m_slice | with_reducible apply m_comp | with_reducible apply m_genlist | with_reducible apply ms_forg | with_reducible apply mg_name | with_reducible apply mg_sub | with_reducible apply mg_tup | with_reducible apply MonoGs.nil | with_reducible apply MonoGs.cons | with_reducible apply mo_add | with_reducible apply mo_iadd | with_reducible apply mo_sub | with_reducible apply mo_mul | with_reducible apply mo_div | with_reducible apply mo_mod | with_reducible apply mo_neg | with_reducible apply mo_item | with_reducible apply mf_len | with_reducible apply mf_range | with_reducible apply mf_list | with_reducible apply mf_tuple | with_reducible apply mf_append | with_reducible apply mf_insert | with_reducible apply mf_pop | with_reducible apply mf_chr | with_reducible apply mf_sjoin | with_reducible apply mf_all | with_reducible apply mf_any | with_reducible apply mf_sum | with_reducible apply mf_min | with_reducible apply mf_ssplit | with_reducible apply mf_srstrip | with_reducible apply mf_count | with_reducible apply mf_srfind | with_reducible apply mf_sreplace | with_reducible apply mo_iaddx | with_reducible apply m_compz | with_reducible apply m_f__check_parenthesis | with_reducible apply m_l__pre_parse_validation_1
def f__pre_parse_validation : AF := aFn [8] <|
    sCons (sAssign (gName 9) (aList (lNil))) <|
    sCons (sFor (gName 10) (aVar 8) (l__pre_parse_validation_2)) <|
    sCons (sRet (aVar 9)) <|
    sNil
theorem s__pre_parse_validation (c : Cx) (hd : fnRec prg 4 ∈ recsOf c.q) (h__check_parenthesis : SoundF (c.on NN NN_nodup) 6 (Str.ofString "_check_parenthesis") f__check_parenthesis) : SoundF (c.on NN NN_nodup) 7 (Str.ofString "_pre_parse_validation") f__pre_parse_validation :=
  sound_fn (c := c.on NN NN_nodup) (d := fnRec prg 4) (xs := [Str.ofString "email_header_fields"]) hd (
    @block_cons _ _ _ _ _ _ _ (@stmt_assign _ _ _ _ _ _ _ _ (@sound_list _ _ _ _ _ _ (list_nil)) (tgt_name rfl (.inl (by decide +kernel))) (fun _ _ => rfl) (fun _ _ => rfl) (fun _ => rfl)) <|
    @block_cons _ _ _ _ _ _ _ (stmt_for (sound_var rfl (hd := by decide) (hn := by decide)) (tgt_name rfl (.inl (by decide +kernel))) (@block_cons _ _ _ _ _ _ _ (stmt_if (test_not (test_val (sound_call h__check_parenthesis (@list_consP _ _ _ _ _ _ _ (sound_var rfl (hd := by decide) (hn := by decide)) (list_nil) rfl) (by decide +kernel) (by decide) (hd := by decide) (he' := fun _ => rfl)) (hv := fun _ _ => rfl))) (@block_cons _ _ _ _ _ _ _ (@stmt_assign _ _ _ _ _ _ _ _ (sound_str (hx := rfl) (hy := rfl)) (tgt_name rfl (.inl (by decide +kernel))) (fun _ _ => rfl) (fun _ _ => rfl) (fun _ => rfl)) <|
    block_nil) (block_nil)) <|
    @block_cons _ _ _ _ _ _ _ (stmt_expr (@sound_meth _ _ _ _ _ _ _ _ _ _ _ _ _ _ F.slot_list_append F.type_list_append F.plainAttrs_list kind_list me_append (sound_var rfl (hd := by decide) (hn := by decide)) (@list_consP _ _ _ _ _ _ _ (sound_var rfl (hd := by decide) (hn := by decide)) (list_nil) rfl) (.inr ⟨_, _, rfl, fun _ => ⟨rfl, rfl⟩⟩) (fun _ => rfl) (fun _ => rfl) rfl) (fun _ h => no_inter h) (hs := fun _ => rfl)) <|
    block_nil) (hf := fun _ _ => rfl) (ht := by first | exact .inl ⟨_, _, _, rfl⟩ | exact .inr fun _ _ => rfl)) <|
    @block_cons _ _ _ _ _ _ _ (@stmt_ret _ _ _ _ _ _ (sound_var rfl (hd := by decide) (hn := by decide))) <|
    block_nil) rfl (by decide +kernel) (fun _ _ _ vs h => by obtain ⟨v0, rfl⟩ := len1 h; rfl) (by decide +kernel) (hco := rfl) (hgen := rfl) (hk := rfl)
def l__post_parse_validation_1 : AS := sCons (sAssign (gName 10) (aTup (lCons (aCst (.str [])) (lCons (aCst (.str [])) (lNil))))) <|
    sNil
theorem m_l__post_parse_validation_1 : MonoS l__post_parse_validation_1 := by
  unfold l__post_parse_validation_1
  repeat' first | with_reducible apply m_var | with_reducible apply m_cst | with_reducible apply ms_nil | with_reducible apply ms_cons | with_reducible apply ms_assign | with_reducible apply ms_ret | with_reducible apply ms_ret0 | with_reducible apply ms_cont | with_reducible apply ms_if | with_reducible apply ms_expr | with_reducible apply ms_aug | with_reducible apply ms_augsub | with_reducible apply ms_for | with_reducible apply ms_while | with_reducible apply m_bin | with_reducible apply m_un | with_reducible apply m_cmp | with_reducible apply mt_val | with_reducible apply mt_not | with_reducible apply mt_and | with_reducible apply mt_or | with_reducible apply mt_true | with_reducible apply mt_false | with_reducible apply mt_cmp | with_reducible apply mt_cmp2 | with_reducible apply m_not | with_reducible apply m_if | with_reducible apply m_and | with_reducible apply m_or | with_reducible apply ml_nil | with_reducible apply ml_cons | with_reducible apply m_tup | with_reducible apply m_list | with_reducible apply m_call | with_reducible apply m_meth | with_reducible apply m_slice | with_reducible apply m_comp | with_reducible apply m_genlist | with_reducible apply ms_forg | with_reducible apply mg_name | with_reducible apply mg_sub | with_reducible apply mg_tup | with_reducible apply MonoGs.nil | with_reducible apply MonoGs.cons | with_reducible apply mo_add | with_reducible apply mo_iadd | with_reducible apply mo_sub | with_reducible apply mo_mul | with_reducible apply mo_div | with_reducible apply mo_mod | with_reducible apply mo_neg | with_reducible apply mo_item | with_reducible apply mf_len | with_reducible apply mf_range | with_reducible apply mf_list | with_reducible apply mf_tuple | with_reducible apply mf_append | with_reducible apply mf_insert | with_reducible apply mf_pop | with_reducible apply mf_chr | with_reducible apply mf_sjoin | with_reducible apply mf_all | with_reducible apply mf_any | with_reducible apply mf_sum | with_reducible apply mf_min | with_reducible apply mf_ssplit | with_reducible apply mf_srstrip | with_reducible apply mf_count | with_reducible apply mf_srfind | with_reducible apply mf_sreplace | with_reducible apply mo_iaddx | with_reducible apply m_compz
def l__post_parse_validation_2 : AS := sCons (sIf (tCmp .In (aCst (.str [91])) (aBin opItem (aVar 10) (aCst (.int 1)))) (l__post_parse_validation_1) (sNil)) <|
    sCons (sExpr (aMeth kList fAppend (aVar 9) (lCons (aVar 10) (lNil)))) <|
    sNil
theorem m_l__post_parse_validation_2 : MonoS l__post_parse_validation_2 := by
  unfold l__post_parse_validation_2
  repeat' first | with_reducible apply m_var | with_reducible apply m_cst | with_reducible apply ms_nil | with_reducible apply ms_cons | with_reducible apply ms_assign | with_reducible apply ms_ret | with_reducible apply ms_ret0 | with_reducible apply ms_cont | with_reducible apply ms_if | with_reducible apply ms_expr | with_reducible apply ms_aug | with_reducible apply ms_augsub | with_reducible apply ms_for | with_reducible apply ms_while | with_reducible apply m_bin | with_reducible apply m_un | with_reducible apply m_cmp | with_reducible apply mt_val | with_reducible apply mt_not | with_reducible apply mt_and | with_reducible apply mt_or | with_reducible apply mt_true | with_reducible apply mt_false | with_reducible apply mt_cmp | with_reducible apply mt_cmp2 | with_reducible apply m_not | with_reducible apply m_if | with_reducible apply m_and | with_reducible apply m_or | with_reducible apply ml_nil | with_reducible apply ml_cons | with_reducible apply m_tup | with_reducible apply m_list | with_reducible apply m_call | with_reducible apply m_meth | with_reducible apply m_slice | with_reducible apply m_comp | with_reducible apply m_genlist | with_reducible apply ms_forg | with_reducible apply mg_name | with_reducible apply mg_sub | with_reducible apply mg_tup | with_reducible apply MonoGs.nil | with_reducible apply MonoGs.cons | with_reducible apply mo_add | with_reducible apply mo_iadd | with_reducible apply mo_sub | with_reducible apply mo_mul | with_reducible apply mo_div | with_reducible apply mo_mod | with_reducible apply mo_neg | with_reducible apply mo_item | with_reducible apply mf_len | with_reducible apply mf_range | with_reducible apply mf_list | with_reducible apply mf_tuple | with_reducible apply mf_append | with_reducible apply mf_insert | with_reducible apply mf_pop | with_reducible apply mf_chr | with_reducible apply mf_sjoin | with_reducible apply mf_all | with_reducible apply mf_any | with_reducible apply mf_sum | with_reducible apply mf_min | with_reducible apply mf_ssplit | with_reducible apply mf_srstrip | with_reducible apply mf_count | with_reducible apply mf_srfind | with_reducible apply mf_sreplace | with_reducible apply mo_iaddx | with_reducible apply m_compz | with_reducible apply m_l__post_parse_validation_1
def f__post_parse_validation : AF := aFn [11] <|
    sCons (sAssign (gName 9) (aList (lNil))) <|
    sCons (sFor (gName 10) (aVar 11) (l__post_parse_validation_2)) <|
    sCons (sRet (aVar 9)) <|
    sNil
theorem s__post_parse_validation (c : Cx) (hd : fnRec prg 5 ∈ recsOf c.q) : SoundF (c.on NN NN_nodup) 1 (Str.ofString "_post_parse_validation") f__post_parse_validation :=
  sound_fn (c := c.on NN NN_nodup) (d := fnRec prg 5) (xs := [Str.ofString "parsed_email_header_tuples"]) hd (
    @block_cons _ _ _ _ _ _ _ (@stmt_assign _ _ _ _ _ _ _ _ (@sound_list _ _ _ _ _ _ (list_nil)) (tgt_name rfl (.inl (by decide +kernel))) (fun _ _ => rfl) (fun _ _ => rfl) (fun _ => rfl)) <|
    @block_cons _ _ _ _ _ _ _ (stmt_for (sound_var rfl (hd := by decide) (hn := by decide)) (tgt_name rfl (.inl (by decide +kernel))) (@block_cons _ _ _ _ _ _ _ (stmt_if (test_cmp (sound_str (hx := rfl) (hy := rfl)) (@sound_sub _ _ _ _ _ _ _ _ (sound_var rfl (hd := by decide) (hn := by decide)) (sound_int)) (hm := by with_unfolding_all rfl)) (@block_cons _ _ _ _ _ _ _ (@stmt_assign _ _ _ _ _ _ _ _ (@sound_tup _ _ _ _ _ _ _ (@list_consP _ _ _ _ _ _ _ (sound_str (hx := rfl) (hy := rfl)) (@list_consP _ _ _ _ _ _ _ (sound_str (hx := rfl) (hy := rfl)) (list_nil) rfl) rfl)) (tgt_name rfl (.inl (by decide +kernel))) (fun _ _ => rfl) (fun _ _ => rfl) (fun _ => rfl)) <|
    block_nil) (block_nil)) <|
    @block_cons _ _ _ _ _ _ _ (stmt_expr (@sound_meth _ _ _ _ _ _ _ _ _ _ _ _ _ _ F.slot_list_append F.type_list_append F.plainAttrs_list kind_list me_append (sound_var rfl (hd := by decide) (hn := by decide)) (@list_consP _ _ _ _ _ _ _ (sound_var rfl (hd := by decide) (hn := by decide)) (list_nil) rfl) (.inr ⟨_, _, rfl, fun _ => ⟨rfl, rfl⟩⟩) (fun _ => rfl) (fun _ => rfl) rfl) (fun _ h => no_inter h) (hs := fun _ => rfl)) <|
    block_nil) (hf := fun _ _ => rfl) (ht := by first | exact .inl ⟨_, _, _, rfl⟩ | exact .inr fun _ _ => rfl)) <|
    @block_cons _ _ _ _ _ _ _ (@stmt_ret _ _ _ _ _ _ (sound_var rfl (hd := by decide) (hn := by decide))) <|
    block_nil) rfl (by decide +kernel) (fun _ _ _ vs h => by obtain ⟨v0, rfl⟩ := len1 h; rfl) (by decide +kernel) (hco := rfl) (hgen := rfl) (hk := rfl)
def l__law_unit_1 : AS := sCons (sRet (aBin opAdd (aCst (.str [92])) (aBin opItem (aCst (.str [40, 41, 92, 34, 91])) (aBin opMod (aBin opDiv (aVar 12) (aCst (.int 14))) (aCst (.int 5)))))) <|
    sNil
theorem m_l__law_unit_1 : MonoS l__law_unit_1 := by
  unfold l__law_unit_1
  repeat' first | with_reducible apply m_var | with_reducible apply m_cst | with_reducible apply ms_nil | with_reducible apply ms_cons | with_reducible apply ms_assign | with_reducible apply ms_ret | with_reducible apply ms_ret0 | with_reducible apply ms_cont | with_reducible apply ms_if | with_reducible apply ms_expr | with_reducible apply ms_aug | with_reducible apply ms_augsub | with_reducible apply ms_for | with_reducible apply ms_while | with_reducible apply m_bin | with_reducible apply m_un | with_reducible apply m_cmp | with_reducible apply mt_val | with_reducible apply mt_not | with_reducible apply mt_and | with_reducible apply mt_or | with_reducible apply mt_true | with_reducible apply mt_false | with_reducible apply mt_cmp | with_reducible apply mt_cmp2 | with_reducible apply m_not | with_reducible apply m_if | with_reducible apply m_and | with_reducible apply m_or | with_reducible apply ml_nil | with_reducible apply ml_cons | with_reducible apply m_tup | with_reducible apply m_list | with_reducible apply m_call | with_reducible apply m_meth | with_reducible apply m_slice | with_reducible apply m_comp | with_reducible apply m_genlist | with_reducible apply ms_forg | with_reducible apply mg_name | with_reducible apply mg_sub | with_reducible apply mg_tup | with_reducible apply MonoGs.nil | with_reducible apply MonoGs.cons | with_reducible apply mo_add | with_reducible apply mo_iadd | with_reducible apply mo_sub | with_reducible apply mo_mul | with_reducible apply mo_div | with_reducible apply mo_mod | with_reducible apply mo_neg | with_reducible apply mo_item | with_reducible apply mf_len | with_reducible apply mf_range | with_reducible apply mf_list | with_reducible apply mf_tuple | with_reducible apply mf_append | with_reducible apply mf_insert | with_reducible apply mf_pop | with_reducible apply mf_chr | with_reducible apply mf_sjoin | with_reducible apply mf_all | with_reducible apply mf_any | with_reducible apply mf_sum | with_reducible apply mf_min | with_reducible apply mf_ssplit | with_reducible apply mf_srstrip | with_reducible apply mf_count | with_reducible apply mf_srfind | with_reducible apply mf_sreplace | with_reducible apply mo_iaddx | with_reducible apply m_compz
def l__law_unit_2 : AS := sCons (sRet (aBin opItem (aCst (.str [40, 40, 41, 41, 41, 91, 97, 46, 93])) (aVar 13))) <|
    sNil
theorem m_l__law_unit_2 : MonoS l__law_unit_2 := by
  unfold l__law_unit_2
  repeat' first | with_reducible apply m_var | with_reducible apply m_cst | with_reducible apply ms_nil | with_reducible apply ms_cons | with_reducible apply ms_assign | with_reducible apply ms_ret | with_reducible apply ms_ret0 | with_reducible apply ms_cont | with_reducible apply ms_if | with_reducible apply ms_expr | with_reducible apply ms_aug | with_reducible apply ms_augsub | with_reducible apply ms_for | with_reducible apply ms_while | with_reducible apply m_bin | with_reducible apply m_un | with_reducible apply m_cmp | with_reducible apply mt_val | with_reducible apply mt_not | with_reducible apply mt_and | with_reducible apply mt_or | with_reducible apply mt_true | with_reducible apply mt_false | with_reducible apply mt_cmp | with_reducible apply mt_cmp2 | with_reducible apply m_not | with_reducible apply m_if | with_reducible apply m_and | with_reducible apply m_or | with_reducible apply ml_nil | with_reducible apply ml_cons | with_reducible apply m_tup | with_reducible apply m_list | with_reducible apply m_call | with_reducible apply m_meth | with_reducible apply m_slice | with_reducible apply m_comp | with_reducible apply m_genlist | with_reducible apply ms_forg | with_reducible apply mg_name | with_reducible apply mg_sub | with_reducible apply mg_tup | with_reducible apply MonoGs.nil | with_reducible apply MonoGs.cons | with_reducible apply mo_add | with_reducible apply mo_iadd | with_reducible apply mo_sub | with_reducible apply mo_mul | with_reducible apply mo_div | with_reducible apply mo_mod | with_reducible apply mo_neg | with_reducible apply mo_item | with_reducible apply mf_len | with_reducible apply mf_range | with_reducible apply mf_list | with_reducible apply mf_tuple | with_reducible apply mf_append | with_reducible apply mf_insert | with_reducible apply mf_pop | with_reducible apply mf_chr | with_reducible apply mf_sjoin | with_reducible apply mf_all | with_reducible apply mf_any | with_reducible apply mf_sum | with_reducible apply mf_min | with_reducible apply mf_ssplit | with_reducible apply mf_srstrip | with_reducible apply mf_count | with_reducible apply mf_srfind | with_reducible apply mf_sreplace | with_reducible apply mo_iaddx | with_reducible apply m_compz | with_reducible apply m_l__law_unit_1
def f__law_unit : AF := aFn [12] <|
    sCons (sAssign (gName 13) (aBin opMod (aVar 12) (aCst (.int 14)))) <|
    sCons (sIf (tCmp .Lt (aVar 13) (aCst (.int 9))) (l__law_unit_2) (sNil)) <|
    sCons (sIf (tCmp .Lt (aVar 13) (aCst (.int 13))) (l__law_unit_1) (sNil)) <|
    sCons (sRet (aCst (.str [98]))) <|
    sNil
theorem m_f__law_unit : MonoF f__law_unit := by
  unfold f__law_unit
  apply mf_fn
  repeat' first | with_reducible apply m_var | with_reducible apply m_cst | with_reducible apply ms_nil | with_reducible apply ms_cons | with_reducible apply ms_assign | with_reducible apply ms_ret | with_reducible apply ms_ret0 | with_reducible apply ms_cont | with_reducible apply ms_if | with_reducible apply ms_expr | with_reducible apply ms_aug | with_reducible apply ms_augsub | with_reducible apply ms_for | with_reducible apply ms_while | with_reducible apply m_bin | with_reducible apply m_un | with_reducible apply m_cmp | with_reducible apply mt_val | with_reducible apply mt_not | with_reducible apply mt_and | with_reducible apply mt_or | with_reducible apply mt_true | with_reducible apply mt_false | with_reducible apply mt_cmp | with_reducible apply mt_cmp2 | with_reducible apply m_not | with_reducible apply m_if | with_reducible apply m_and | with_reducible apply m_or | with_reducible apply ml_nil | with_reducible apply ml_cons | with_reducible apply m_tup | with_reducible apply m_list | with_reducible apply m_call | with_reducible apply m_meth | with_reducible apply m_slice | with_reducible apply m_comp | with_reducible apply m_genlist | with_reducible apply ms_forg | with_reducible apply mg_name | with_reducible apply mg_sub | with_reducible apply mg_tup | with_reducible apply MonoGs.nil | with_reducible apply MonoGs.cons | with_reducible apply mo_add | with_reducible apply mo_iadd | with_reducible apply mo_sub | with_reducible apply mo_mul | with_reducible apply mo_div | with_reducible apply mo_mod | with_reducible apply mo_neg | with_reducible apply mo_item | with_reducible apply mf_len | with_reducible apply mf_range | with_reducible apply mf_list | with_reducible apply mf_tuple | with_reducible apply mf_append | with_reducible apply mf_insert | with_reducible apply mf_pop | with_reducible apply mf_chr | with_reducible apply mf_sjoin | with_reducible apply mf_all | with_reducible apply mf_any | with_reducible apply mf_sum | with_reducible apply mf_min | with_reducible apply mf_ssplit | with_reducible apply mf_srstrip | with_reducible apply mf_count | with_reducible apply mf_srfind | with_reducible apply mf_sreplace | with_reducible apply mo_iaddx | with_reducible apply m_compz | with_reducible apply m_l__law_unit_1 | with_reducible apply m_l__law_unit_2
theorem s__law_unit (c : Cx) (hd : fnRec prg 7 ∈ recsOf c.q) : SoundF (c.on NN NN_nodup) 1 (Str.ofString "_law_unit") f__law_unit :=
  sound_fn (c := c.on NN NN_nodup) (d := fnRec prg 7) (xs := [Str.ofString "n"]) hd (
    @block_cons _ _ _ _ _ _ _ (@stmt_assign _ _ _ _ _ _ _ _ (@sound_bin _ _ _ _ _ _ _ _ _ _ op_mod (sound_var rfl (hd := by decide) (hn := by decide)) (sound_int)) (tgt_name rfl (.inl (by decide +kernel))) (fun _ _ => rfl) (fun _ _ => rfl) (fun _ => rfl)) <|
    @block_cons _ _ _ _ _ _ _ (stmt_if (test_cmp (sound_var rfl (hd := by decide) (hn := by decide)) (sound_int) (hm := by with_unfolding_all rfl)) (@block_cons _ _ _ _ _ _ _ (@stmt_ret _ _ _ _ _ _ (@sound_sub _ _ _ _ _ _ _ _ (sound_str (hx := rfl) (hy := rfl)) (sound_var rfl (hd := by decide) (hn := by decide)))) <|
    block_nil) (block_nil)) <|
    @block_cons _ _ _ _ _ _ _ (stmt_if (test_cmp (sound_var rfl (hd := by decide) (hn := by decide)) (sound_int) (hm := by with_unfolding_all rfl)) (@block_cons _ _ _ _ _ _ _ (@stmt_ret _ _ _ _ _ _ (@sound_bin _ _ _ _ _ _ _ _ _ _ op_add (sound_str (hx := rfl) (hy := rfl)) (@sound_sub _ _ _ _ _ _ _ _ (sound_str (hx := rfl) (hy := rfl)) (@sound_bin _ _ _ _ _ _ _ _ _ _ op_mod (@sound_bin _ _ _ _ _ _ _ _ _ _ op_div (sound_var rfl (hd := by decide) (hn := by decide)) (sound_int)) (sound_int))))) <|
    block_nil) (block_nil)) <|
    @block_cons _ _ _ _ _ _ _ (@stmt_ret _ _ _ _ _ _ (sound_str (hx := rfl) (hy := rfl))) <|
    block_nil) rfl (by decide +kernel) (fun _ _ _ vs h => by obtain ⟨v0, rfl⟩ := len1 h; rfl) (by decide +kernel) (hco := rfl) (hgen := rfl) (hk := rfl)
def l__law_fields_1 : AS := sCons (sExpr (aMeth kList fAppend (aVar 15) (lCons (aTup (lCons (aList (lNil)) (lCons (aList (lNil)) (lCons (aList (lCons (aCall f__law_unit (lCons (aVar 16) (lNil))) (lNil))) (lNil))))) (lNil)))) <|
    sNil
theorem m_l__law_fields_1 : MonoS l__law_fields_1 := by
  unfold l__law_fields_1
  repeat' first | with_reducible apply m_var | with_reducible apply m_cst | with_reducible apply ms_nil | with_reducible apply ms_cons | with_reducible apply ms_assign | with_reducible apply ms_ret | with_reducible apply ms_ret0 | with_reducible apply ms_cont | with_reducible apply ms_if | with_reducible apply ms_expr | with_reducible apply ms_aug | with_reducible apply ms_augsub | with_reducible apply ms_for | with_reducible apply ms_while | with_reducible apply m_bin | with_reducible apply m_un | with_reducible apply m_cmp | with_reducible apply mt_val | with_reducible apply mt_not | with_reducible apply mt_and | with_reducible apply mt_or | with_reducible apply mt_true | with_reducible apply mt_false | with_reducible apply mt_cmp | with_reducible apply mt_cmp2 | with_reducible apply m_not | with_reducible apply m_if | with_reducible apply m_and | with_reducible apply m_or | with_reducible apply ml_nil | with_reducible apply ml_cons | with_reducible apply m_tup | with_reducible apply m_list | with_reducible apply m_call | with_reducible apply m_meth | with_reducible apply m_slice | with_reducible apply m_comp | with_reducible apply m_genlist | with_reducible apply ms_forg | with_reducible apply mg_name | with_reducible apply mg_sub | with_reducible apply mg_tup | with_reducible apply MonoGs.nil | with_reducible apply MonoGs.cons | with_reducible apply mo_add | with_reducible apply mo_iadd | with_reducible apply mo_sub | with_reducible apply mo_mul | with_reducible apply mo_div | with_reducible apply mo_mod | with_reducible apply mo_neg | with_reducible apply mo_item | with_reducible apply mf_len | with_reducible apply mf_range | with_reducible apply mf_list | with_reducible apply mf_tuple | with_reducible apply mf_append | with_reducible apply mf_insert | with_reducible apply mf_pop | with_reducible apply mf_chr | with_reducible apply mf_sjoin | with_reducible apply mf_all | with_reducible apply mf_any | with_reducible apply mf_sum | with_reducible apply mf_min | with_reducible apply mf_ssplit | with_reducible apply mf_srstrip | with_reducible apply mf_count | with_reducible apply mf_srfind | with_reducible apply mf_sreplace | with_reducible apply mo_iaddx | with_reducible apply m_compz | with_reducible apply m_f__law_unit
def l__law_fields_2 : AS := sCons (sExpr (aMeth kList fAppend (aBin opItem (aBin opItem (aVar 15) (aUn opNeg (aCst (.int 1)))) (aBin opMod (aVar 16) (aCst (.int 3)))) (lCons (aCall f__law_unit (lCons (aBin opDiv (aVar 16) (aCst (.int 3))) (lNil))) (lNil)))) <|
    sNil
theorem m_l__law_fields_2 : MonoS l__law_fields_2 := by
  unfold l__law_fields_2
  repeat' first | with_reducible apply m_var | with_reducible apply m_cst | with_reducible apply ms_nil | with_reducible apply ms_cons | with_reducible apply ms_assign | with_reducible apply ms_ret | with_reducible apply ms_ret0 | with_reducible apply ms_cont | with_reducible apply ms_if | with_reducible apply ms_expr | with_reducible apply ms_aug | with_reducible apply ms_augsub | with_reducible apply ms_for | with_reducible apply ms_while | with_reducible apply m_bin | with_reducible apply m_un | with_reducible apply m_cmp | with_reducible apply mt_val | with_reducible apply mt_not | with_reducible apply mt_and | with_reducible apply mt_or | with_reducible apply mt_true | with_reducible apply mt_false | with_reducible apply mt_cmp | with_reducible apply mt_cmp2 | with_reducible apply m_not | with_reducible apply m_if | with_reducible apply m_and | with_reducible apply m_or | with_reducible apply ml_nil | with_reducible apply ml_cons | with_reducible apply m_tup | with_reducible apply m_list | with_reducible apply m_call | with_reducible apply m_meth | with_reducible apply m_slice | with_reducible apply m_comp | with_reducible apply m_genlist | with_reducible apply ms_forg | with_reducible apply mg_name | with_reducible apply mg_sub | with_reducible apply mg_tup | with_reducible apply MonoGs.nil | with_reducible apply MonoGs.cons | with_reducible apply mo_add | with_reducible apply mo_iadd | with_reducible apply mo_sub | with_reducible apply mo_mul | with_reducible apply mo_div | with_reducible apply mo_mod | with_reducible apply mo_neg | with_reducible apply mo_item | with_reducible apply mf_len | with_reducible apply mf_range | with_reducible apply mf_list | with_reducible apply mf_tuple | with_reducible apply mf_append | with_reducible apply mf_insert | with_reducible apply mf_pop | with_reducible apply mf_chr | with_reducible apply mf_sjoin | with_reducible apply mf_all | with_reducible apply mf_any | with_reducible apply mf_sum | with_reducible apply mf_min | with_reducible apply mf_ssplit | with_reducible apply mf_srstrip | with_reducible apply mf_count | with_reducible apply mf_srfind | with_reducible apply mf_sreplace | with_reducible apply mo_iaddx | with_reducible apply m_compz | with_reducible apply m_f__law_unit | with_reducible apply m_l__law_fields_1
def l__law_fields_3 : AS := sCons (sAssign (gName 16) (aBin opDiv (aVar 12) (aCst (.int 3)))) <|
    sCons (sIf (tAnd (tCmp .Eq (aBin opMod (aVar 12) (aCst (.int 3))) (aCst (.int 0))) (tAnd (tCmp .Lt (aCall fLen (lCons (aVar 15) (lNil))) (aCst (.int 12))) (tTrue))) (l__law_fields_1) (l__law_fields_2)) <|
    sNil
theorem m_l__law_fields_3 : MonoS l__law_fields_3 := by
  unfold l__law_fields_3
  repeat' first | with_reducible apply m_var | with_reducible apply m_cst | with_reducible apply ms_nil | with_reducible apply ms_cons | with_reducible apply ms_assign | with_reducible apply ms_ret | with_reducible apply ms_ret0 | with_reducible apply ms_cont | with_reducible apply ms_if | with_reducible apply ms_expr | with_reducible apply ms_aug | with_reducible apply ms_augsub | with_reducible apply ms_for | with_reducible apply ms_while | with_reducible apply m_bin | with_reducible apply m_un | with_reducible apply m_cmp | with_reducible apply mt_val | with_reducible apply mt_not | with_reducible apply mt_and | with_reducible apply mt_or | with_reducible apply mt_true | with_reducible apply mt_false | with_reducible apply mt_cmp | with_reducible apply mt_cmp2 | with_reducible apply m_not | with_reducible apply m_if | with_reducible apply m_and | with_reducible apply m_or | with_reducible apply ml_nil | with_reducible apply ml_cons | with_reducible apply m_tup | with_reducible apply m_list | with_reducible apply m_call | with_reducible apply m_meth | with_reducible apply m_slice | with_reducible apply m_comp | with_reducible apply m_genlist | with_reducible apply ms_forg | with_reducible apply mg_name | with_reducible apply mg_sub | with_reducible apply mg_tup | with_reducible apply MonoGs.nil | with_reducible apply MonoGs.cons | with_reducible apply mo_add | with_reducible apply mo_iadd | with_reducible apply mo_sub | with_reducible apply mo_mul | with_reducible apply mo_div | with_reducible apply mo_mod | with_reducible apply mo_neg | with_reducible apply mo_item | with_reducible apply mf_len | with_reducible apply mf_range | with_reducible apply mf_list | with_reducible apply mf_tuple | with_reducible apply mf_append | with_reducible apply mf_insert | with_reducible apply mf_pop | with_reducible apply mf_chr | with_reducible apply mf_sjoin | with_reducible apply mf_all | with_reducible apply mf_any | with_reducible apply mf_sum | with_reducible apply mf_min | with_reducible apply mf_ssplit | with_reducible apply mf_srstrip | with_reducible apply mf_count | with_reducible apply mf_srfind | with_reducible apply mf_sreplace | with_reducible apply mo_iaddx | with_reducible apply m_compz | with_reducible apply m_f__law_unit | with_reducible apply m_l__law_fields_1 | with_reducible apply m_l__law_fields_2
def f__law_fields : AF := aFn [14] <|
    sCons (sAssign (gName 15) (aList (lCons (aTup (lCons (aList (lNil)) (lCons (aList (lCons (aCst (.str [40])) (lNil))) (lCons (aList (lNil)) (lNil))))) (lCons (aTup (lCons (aList (lNil)) (lCons (aList (lNil)) (lCons (aList (lCons (aCst (.str [91])) (lNil))) (lNil))))) (lCons (aTup (lCons (aList (lNil)) (lCons (aList (lCons (aCst (.str [40])) (lCons (aCst (.str [41])) (lNil)))) (lCons (aList (lNil)) (lNil))))) (lNil)))))) <|
    sCons (sFor (gName 12) (aVar 14) (l__law_fields_3)) <|
    sCons (sRet (aVar 15)) <|
    sNil
theorem s__law_fields (c : Cx) (hd : fnRec prg 8 ∈ recsOf c.q) (h__law_unit : SoundF (c.on NN NN_nodup) 1 (Str.ofString "_law_unit") f__law_unit) (b_len : c.mg (Str.ofString "len") = none) : SoundF (c.on NN NN_nodup) 2 (Str.ofString "_law_fields") f__law_fields :=
  sound_fn (c := c.on NN NN_nodup) (d := fnRec prg 8) (xs := [Str.ofString "script"]) hd (
    @block_cons _ _ _ _ _ _ _ (@stmt_assign _ _ _ _ _ _ _ _ (@sound_list _ _ _ _ _ _ (@list_consP _ _ _ _ _ _ _ (@sound_tup _ _ _ _ _ _ _ (@list_consP _ _ _ _ _ _ _ (@sound_list _ _ _ _ _ _ (list_nil)) (@list_consP _ _ _ _ _ _ _ (@sound_list _ _ _ _ _ _ (@list_consP _ _ _ _ _ _ _ (sound_str (hx := rfl) (hy := rfl)) (list_nil) rfl)) (@list_consP _ _ _ _ _ _ _ (@sound_list _ _ _ _ _ _ (list_nil)) (list_nil) rfl) rfl) rfl)) (@list_consP _ _ _ _ _ _ _ (@sound_tup _ _ _ _ _ _ _ (@list_consP _ _ _ _ _ _ _ (@sound_list _ _ _ _ _ _ (list_nil)) (@list_consP _ _ _ _ _ _ _ (@sound_list _ _ _ _ _ _ (list_nil)) (@list_consP _ _ _ _ _ _ _ (@sound_list _ _ _ _ _ _ (@list_consP _ _ _ _ _ _ _ (sound_str (hx := rfl) (hy := rfl)) (list_nil) rfl)) (list_nil) rfl) rfl) rfl)) (@list_consP _ _ _ _ _ _ _ (@sound_tup _ _ _ _ _ _ _ (@list_consP _ _ _ _ _ _ _ (@sound_list _ _ _ _ _ _ (list_nil)) (@list_consP _ _ _ _ _ _ _ (@sound_list _ _ _ _ _ _ (@list_consP _ _ _ _ _ _ _ (sound_str (hx := rfl) (hy := rfl)) (@list_consP _ _ _ _ _ _ _ (sound_str (hx := rfl) (hy := rfl)) (list_nil) rfl) rfl)) (@list_consP _ _ _ _ _ _ _ (@sound_list _ _ _ _ _ _ (list_nil)) (list_nil) rfl) rfl) rfl)) (list_nil) rfl) rfl) rfl)) (tgt_name rfl (.inl (by decide +kernel))) (fun _ _ => rfl) (fun _ _ => rfl) (fun _ => rfl)) <|
    @block_cons _ _ _ _ _ _ _ (stmt_for (sound_var rfl (hd := by decide) (hn := by decide)) (tgt_name rfl (.inl (by decide +kernel))) (@block_cons _ _ _ _ _ _ _ (@stmt_assign _ _ _ _ _ _ _ _ (@sound_bin _ _ _ _ _ _ _ _ _ _ op_div (sound_var rfl (hd := by decide) (hn := by decide)) (sound_int)) (tgt_name rfl (.inl (by decide +kernel))) (fun _ _ => rfl) (fun _ _ => rfl) (fun _ => rfl)) <|
    @block_cons _ _ _ _ _ _ _ (stmt_if (test_bool (and_cons (test_cmp (@sound_bin _ _ _ _ _ _ _ _ _ _ op_mod (sound_var rfl (hd := by decide) (hn := by decide)) (sound_int)) (sound_int) (hm := by with_unfolding_all rfl)) (and_cons (test_cmp (sound_bi bi_len rfl b_len (by decide +kernel) (by decide +kernel) (@list_consP _ _ _ _ _ _ _ (sound_var rfl (hd := by decide) (hn := by decide)) (list_nil) rfl) (by decide +kernel) (hd := by decide) (he' := fun _ => rfl) (hp := fun _ => rfl)) (sound_int) (hm := by with_unfolding_all rfl)) (and_nil)))) (@block_cons _ _ _ _ _ _ _ (stmt_expr (@sound_meth _ _ _ _ _ _ _ _ _ _ _ _ _ _ F.slot_list_append F.type_list_append F.plainAttrs_list kind_list me_append (sound_var rfl (hd := by decide) (hn := by decide)) (@list_consP _ _ _ _ _ _ _ (@sound_tup _ _ _ _ _ _ _ (@list_consP _ _ _ _ _ _ _ (@sound_list _ _ _ _ _ _ (list_nil)) (@list_consP _ _ _ _ _ _ _ (@sound_list _ _ _ _ _ _ (list_nil)) (@list_consP _ _ _ _ _ _ _ (@sound_list _ _ _ _ _ _ (@list_consP _ _ _ _ _ _ _ (sound_call h__law_unit (@list_consP _ _ _ _ _ _ _ (sound_var rfl (hd := by decide) (hn := by decide)) (list_nil) rfl) (by decide +kernel) (by decide) (hd := by decide) (he' := fun _ => rfl)) (list_nil) rfl)) (list_nil) rfl) rfl) rfl)) (list_nil) rfl) (.inr ⟨_, _, rfl, fun _ => ⟨rfl, rfl⟩⟩) (fun _ => rfl) (fun _ => rfl) rfl) (fun _ h => no_inter h) (hs := fun _ => rfl)) <|
    block_nil) (@block_cons _ _ _ _ _ _ _ (stmt_expr (@sound_meth _ _ _ _ _ _ _ _ _ _ _ _ _ _ F.slot_list_append F.type_list_append F.plainAttrs_list kind_list me_append (@sound_sub _ _ _ _ _ _ _ _ (@sound_sub _ _ _ _ _ _ _ _ (sound_var rfl (hd := by decide) (hn := by decide)) (@sound_un _ _ _ _ _ _ _ _ op_negI (sound_int))) (@sound_bin _ _ _ _ _ _ _ _ _ _ op_mod (sound_var rfl (hd := by decide) (hn := by decide)) (sound_int))) (@list_consP _ _ _ _ _ _ _ (sound_call h__law_unit (@list_consP _ _ _ _ _ _ _ (@sound_bin _ _ _ _ _ _ _ _ _ _ op_div (sound_var rfl (hd := by decide) (hn := by decide)) (sound_int)) (list_nil) rfl) (by decide +kernel) (by decide) (hd := by decide) (he' := fun _ => rfl)) (list_nil) rfl) (.inr ⟨_, _, rfl, fun _ => ⟨rfl, rfl⟩⟩) (fun _ => rfl) (fun _ => rfl) rfl) (fun _ h => no_inter h) (hs := fun _ => rfl)) <|
    block_nil)) <|
    block_nil) (hf := fun _ _ => rfl) (ht := by first | exact .inl ⟨_, _, _, rfl⟩ | exact .inr fun _ _ => rfl)) <|
    @block_cons _ _ _ _ _ _ _ (@stmt_ret _ _ _ _ _ _ (sound_var rfl (hd := by decide) (hn := by decide))) <|
    block_nil) rfl (by decide +kernel) (fun _ _ _ vs h => by obtain ⟨v0, rfl⟩ := len1 h; rfl) (by decide +kernel) (hco := rfl) (hgen := rfl) (hk := rfl)
def f__law_text : AF := aFn [17] <|
    sCons (sAssign (gTup [gName 18, gName 19, gName 20]) (aVar 17)) <|
    sCons (sRet (aBin opAdd (aBin opAdd (aBin opAdd (aBin opAdd (aBin opAdd (aBin opAdd (aCst (.str [34])) (aMeth kStr fSJoin (aCst (.str [])) (lCons (aVar 18) (lNil)))) (aCst (.str [34, 32]))) (aMeth kStr fSJoin (aCst (.str [])) (lCons (aVar 19) (lNil)))) (aCst (.str [32, 60]))) (aMeth kStr fSJoin (aCst (.str [])) (lCons (aVar 20) (lNil)))) (aCst (.str [62])))) <|
    sNil
theorem m_f__law_text : MonoF f__law_text := by
  unfold f__law_text
  apply mf_fn
  repeat' first | with_reducible apply m_var | with_reducible apply m_cst | with_reducible apply ms_nil | with_reducible apply ms_cons | with_reducible apply ms_assign | with_reducible apply ms_ret | with_reducible apply ms_ret0 | with_reducible apply ms_cont | with_reducible apply ms_if | with_reducible apply ms_expr | with_reducible apply ms_aug | with_reducible apply ms_augsub | with_reducible apply ms_for | with_reducible apply ms_while | with_reducible apply m_bin | with_reducible apply m_un | with_reducible apply m_cmp | with_reducible apply mt_val | with_reducible apply mt_not | with_reducible apply mt_and | with_reducible apply mt_or | with_reducible apply mt_true | with_reducible apply mt_false | with_reducible apply mt_cmp | with_reducible apply mt_cmp2 | with_reducible apply m_not | with_reducible apply m_if | with_reducible apply m_and | with_reducible apply m_or | with_reducible apply ml_nil | with_reducible apply ml_cons | with_reducible apply m_tup | with_reducible apply m_list | with_reducible apply m_call | with_reducible apply m_meth | with_reducible apply m_slice | with_reducible apply m_comp | with_reducible apply m_genlist | with_reducible apply ms_forg | with_reducible apply mg_name | with_reducible apply mg_sub | with_reducible apply mg_tup | with_reducible apply MonoGs.nil | with_reducible apply MonoGs.cons | with_reducible apply mo_add | with_reducible apply mo_iadd | with_reducible apply mo_sub | with_reducible apply mo_mul | with_reducible apply mo_div | with_reducible apply mo_mod | with_reducible apply mo_neg | with_reducible apply mo_item | with_reducible apply mf_len | with_reducible apply mf_range | with_reducible apply mf_list | with_reducible apply mf_tuple | with_reducible apply mf_append | with_reducible apply mf_insert | with_reducible apply mf_pop | with_reducible apply mf_chr | with_reducible apply mf_sjoin | with_reducible apply mf_all | with_reducible apply mf_any | with_reducible apply mf_sum | with_reducible apply mf_min | with_reducible apply mf_ssplit | with_reducible apply mf_srstrip | with_reducible apply mf_count | with_reducible apply mf_srfind | with_reducible apply mf_sreplace | with_reducible apply mo_iaddx | with_reducible apply m_compz
theorem s__law_text (c : Cx) (hd : fnRec prg 9 ∈ recsOf c.q) : SoundF (c.on NN NN_nodup) 1 (Str.ofString "_law_text") f__law_text :=
  sound_fn (c := c.on NN NN_nodup) (d := fnRec prg 9) (xs := [Str.ofString "field"]) hd (
    @block_cons _ _ _ _ _ _ _ (@stmt_assign _ _ _ _ _ _ _ _ (sound_var rfl (hd := by decide) (hn := by decide)) (tgt_tup (.cons (tgt_name rfl (.inl (by decide +kernel))) (fun _ => rfl) (.cons (tgt_name rfl (.inl (by decide +kernel))) (fun _ => rfl) (.cons (tgt_name rfl (.inl (by decide +kernel))) (fun _ => rfl) (.nil))))) (fun _ _ => rfl) (fun _ _ => rfl) (fun _ => rfl)) <|
    @block_cons _ _ _ _ _ _ _ (@stmt_ret _ _ _ _ _ _ (@sound_bin _ _ _ _ _ _ _ _ _ _ op_add (@sound_bin _ _ _ _ _ _ _ _ _ _ op_add (@sound_bin _ _ _ _ _ _ _ _ _ _ op_add (@sound_bin _ _ _ _ _ _ _ _ _ _ op_add (@sound_bin _ _ _ _ _ _ _ _ _ _ op_add (@sound_bin _ _ _ _ _ _ _ _ _ _ op_add (sound_str (hx := rfl) (hy := rfl)) (@sound_meth _ _ _ _ _ _ _ _ _ _ _ _ _ _ F.slot_str_join F.type_str_join F.plainAttrs_str kind_str me_sjoin (sound_str (hx := rfl) (hy := rfl)) (@list_consP _ _ _ _ _ _ _ (sound_var rfl (hd := by decide) (hn := by decide)) (list_nil) rfl) (.inr ⟨_, _, rfl, fun _ => ⟨rfl, rfl⟩⟩) (fun _ => rfl) (fun _ => rfl) rfl)) (sound_str (hx := rfl) (hy := rfl))) (@sound_meth _ _ _ _ _ _ _ _ _ _ _ _ _ _ F.slot_str_join F.type_str_join F.plainAttrs_str kind_str me_sjoin (sound_str (hx := rfl) (hy := rfl)) (@list_consP _ _ _ _ _ _ _ (sound_var rfl (hd := by decide) (hn := by decide)) (list_nil) rfl) (.inr ⟨_, _, rfl, fun _ => ⟨rfl, rfl⟩⟩) (fun _ => rfl) (fun _ => rfl) rfl)) (sound_str (hx := rfl) (hy := rfl))) (@sound_meth _ _ _ _ _ _ _ _ _ _ _ _ _ _ F.slot_str_join F.type_str_join F.plainAttrs_str kind_str me_sjoin (sound_str (hx := rfl) (hy := rfl)) (@list_consP _ _ _ _ _ _ _ (sound_var rfl (hd := by decide) (hn := by decide)) (list_nil) rfl) (.inr ⟨_, _, rfl, fun _ => ⟨rfl, rfl⟩⟩) (fun _ => rfl) (fun _ => rfl) rfl)) (sound_str (hx := rfl) (hy := rfl)))) <|
    block_nil) rfl (by decide +kernel) (fun _ _ _ vs h => by obtain ⟨v0, rfl⟩ := len1 h; rfl) (by decide +kernel) (hco := rfl) (hgen := rfl) (hk := rfl)
def f__law_pair : AF := aFn [17] <|
    sCons (sAssign (gTup [gName 18, gName 19, gName 20]) (aVar 17)) <|
    sCons (sRet (aTup (lCons (aBin opAdd (aBin opAdd (aBin opAdd (aCst (.str [34])) (aMeth kStr fSJoin (aCst (.str [])) (lCons (aVar 18) (lNil)))) (aCst (.str [34, 32]))) (aMeth kStr fSJoin (aCst (.str [])) (lCons (aVar 19) (lNil)))) (lCons (aMeth kStr fSJoin (aCst (.str [])) (lCons (aVar 20) (lNil))) (lNil))))) <|
    sNil
theorem m_f__law_pair : MonoF f__law_pair := by
  unfold f__law_pair
  apply mf_fn
  repeat' first | with_reducible apply m_var | with_reducible apply m_cst | with_reducible apply ms_nil | with_reducible apply ms_cons | with_reducible apply ms_assign | with_reducible apply ms_ret | with_reducible apply ms_ret0 | with_reducible apply ms_cont | with_reducible apply ms_if | with_reducible apply ms_expr | with_reducible apply ms_aug | with_reducible apply ms_augsub | with_reducible apply ms_for | with_reducible apply ms_while | with_reducible apply m_bin | with_reducible apply m_un | with_reducible apply m_cmp | with_reducible apply mt_val | with_reducible apply mt_not | with_reducible apply mt_and | with_reducible apply mt_or | with_reducible apply mt_true | with_reducible apply mt_false | with_reducible apply mt_cmp | with_reducible apply mt_cmp2 | with_reducible apply m_not | with_reducible apply m_if | with_reducible apply m_and | with_reducible apply m_or | with_reducible apply ml_nil | with_reducible apply ml_cons | with_reducible apply m_tup | with_reducible apply m_list | with_reducible apply m_call | with_reducible apply m_meth | with_reducible apply m_slice | with_reducible apply m_comp | with_reducible apply m_genlist | with_reducible apply ms_forg | with_reducible apply mg_name | with_reducible apply mg_sub | with_reducible apply mg_tup | with_reducible apply MonoGs.nil | with_reducible apply MonoGs.cons | with_reducible apply mo_add | with_reducible apply mo_iadd | with_reducible apply mo_sub | with_reducible apply mo_mul | with_reducible apply mo_div | with_reducible apply mo_mod | with_reducible apply mo_neg | with_reducible apply mo_item | with_reducible apply mf_len | with_reducible apply mf_range | with_reducible apply mf_list | with_reducible apply mf_tuple | with_reducible apply mf_append | with_reducible apply mf_insert | with_reducible apply mf_pop | with_reducible apply mf_chr | with_reducible apply mf_sjoin | with_reducible apply mf_all | with_reducible apply mf_any | with_reducible apply mf_sum | with_reducible apply mf_min | with_reducible apply mf_ssplit | with_reducible apply mf_srstrip | with_reducible apply mf_count | with_reducible apply mf_srfind | with_reducible apply mf_sreplace | with_reducible apply mo_iaddx | with_reducible apply m_compz
theorem s__law_pair (c : Cx) (hd : fnRec prg 10 ∈ recsOf c.q) : SoundF (c.on NN NN_nodup) 1 (Str.ofString "_law_pair") f__law_pair :=
  sound_fn (c := c.on NN NN_nodup) (d := fnRec prg 10) (xs := [Str.ofString "field"]) hd (
    @block_cons _ _ _ _ _ _ _ (@stmt_assign _ _ _ _ _ _ _ _ (sound_var rfl (hd := by decide) (hn := by decide)) (tgt_tup (.cons (tgt_name rfl (.inl (by decide +kernel))) (fun _ => rfl) (.cons (tgt_name rfl (.inl (by decide +kernel))) (fun _ => rfl) (.cons (tgt_name rfl (.inl (by decide +kernel))) (fun _ => rfl) (.nil))))) (fun _ _ => rfl) (fun _ _ => rfl) (fun _ => rfl)) <|
    @block_cons _ _ _ _ _ _ _ (@stmt_ret _ _ _ _ _ _ (@sound_tup _ _ _ _ _ _ _ (@list_consP _ _ _ _ _ _ _ (@sound_bin _ _ _ _ _ _ _ _ _ _ op_add (@sound_bin _ _ _ _ _ _ _ _ _ _ op_add (@sound_bin _ _ _ _ _ _ _ _ _ _ op_add (sound_str (hx := rfl) (hy := rfl)) (@sound_meth _ _ _ _ _ _ _ _ _ _ _ _ _ _ F.slot_str_join F.type_str_join F.plainAttrs_str kind_str me_sjoin (sound_str (hx := rfl) (hy := rfl)) (@list_consP _ _ _ _ _ _ _ (sound_var rfl (hd := by decide) (hn := by decide)) (list_nil) rfl) (.inr ⟨_, _, rfl, fun _ => ⟨rfl, rfl⟩⟩) (fun _ => rfl) (fun _ => rfl) rfl)) (sound_str (hx := rfl) (hy := rfl))) (@sound_meth _ _ _ _ _ _ _ _ _ _ _ _ _ _ F.slot_str_join F.type_str_join F.plainAttrs_str kind_str me_sjoin (sound_str (hx := rfl) (hy := rfl)) (@list_consP _ _ _ _ _ _ _ (sound_var rfl (hd := by decide) (hn := by decide)) (list_nil) rfl) (.inr ⟨_, _, rfl, fun _ => ⟨rfl, rfl⟩⟩) (fun _ => rfl) (fun _ => rfl) rfl)) (@list_consP _ _ _ _ _ _ _ (@sound_meth _ _ _ _ _ _ _ _ _ _ _ _ _ _ F.slot_str_join F.type_str_join F.plainAttrs_str kind_str me_sjoin (sound_str (hx := rfl) (hy := rfl)) (@list_consP _ _ _ _ _ _ _ (sound_var rfl (hd := by decide) (hn := by decide)) (list_nil) rfl) (.inr ⟨_, _, rfl, fun _ => ⟨rfl, rfl⟩⟩) (fun _ => rfl) (fun _ => rfl) rfl) (list_nil) rfl) rfl))) <|
    block_nil) rfl (by decide +kernel) (fun _ _ _ vs h => by obtain ⟨v0, rfl⟩ := len1 h; rfl) (by decide +kernel) (hco := rfl) (hgen := rfl) (hk := rfl)
def l__law_read_1 : AS := sCons (sRet (aTup (lCons (aCst (.str [])) (lCons (aCst (.str [])) (lNil))))) <|
    sNil
theorem m_l__law_read_1 : MonoS l__law_read_1 := by
  unfold l__law_read_1
  repeat' first | with_reducible apply m_var | with_reducible apply m_cst | with_reducible apply ms_nil | with_reducible apply ms_cons | with_reducible apply ms_assign | with_reducible apply ms_ret | with_reducible apply ms_ret0 | with_reducible apply ms_cont | with_reducible apply ms_if | with_reducible apply ms_expr | with_reducible apply ms_aug | with_reducible apply ms_augsub | with_reducible apply ms_for | with_reducible apply ms_while | with_reducible apply m_bin | with_reducible apply m_un | with_reducible apply m_cmp | with_reducible apply mt_val | with_reducible apply mt_not | with_reducible apply mt_and | with_reducible apply mt_or | with_reducible apply mt_true | with_reducible apply mt_false | with_reducible apply mt_cmp | with_reducible apply mt_cmp2 | with_reducible apply m_not | with_reducible apply m_if | with_reducible apply m_and | with_reducible apply m_or | with_reducible apply ml_nil | with_reducible apply ml_cons | with_reducible apply m_tup | with_reducible apply m_list | with_reducible apply m_call | with_reducible apply m_meth | with_reducible apply m_slice | with_reducible apply m_comp | with_reducible apply m_genlist | with_reducible apply ms_forg | with_reducible apply mg_name | with_reducible apply mg_sub | with_reducible apply mg_tup | with_reducible apply MonoGs.nil | with_reducible apply MonoGs.cons | with_reducible apply mo_add | with_reducible apply mo_iadd | with_reducible apply mo_sub | with_reducible apply mo_mul | with_reducible apply mo_div | with_reducible apply mo_mod | with_reducible apply mo_neg | with_reducible apply mo_item | with_reducible apply mf_len | with_reducible apply mf_range | with_reducible apply mf_list | with_reducible apply mf_tuple | with_reducible apply mf_append | with_reducible apply mf_insert | with_reducible apply mf_pop | with_reducible apply mf_chr | with_reducible apply mf_sjoin | with_reducible apply mf_all | with_reducible apply mf_any | with_reducible apply mf_sum | with_reducible apply mf_min | with_reducible apply mf_ssplit | with_reducible apply mf_srstrip | with_reducible apply mf_count | with_reducible apply mf_srfind | with_reducible apply mf_sreplace | with_reducible apply mo_iaddx | with_reducible apply m_compz
def f__law_read : AF := aFn [21] <|
    sCons (sAssign (gName 22) (aMeth kStr fSRfind (aVar 21) (lCons (aCst (.str [32, 60])) (lNil)))) <|
    sCons (sIf (tOr (tCmp .Lt (aVar 22) (aCst (.int 0))) (tOr (tCmp .NotEq (aBin opItem (aVar 21) (aUn opNeg (aCst (.int 1)))) (aCst (.str [62]))) (tFalse))) (l__law_read_1) (sNil)) <|
    sCons (sRet (aTup (lCons (aSlice (aVar 21) (aCst .none) (aVar 22) (aCst .none)) (lCons (aSlice (aVar 21) (aBin opAdd (aVar 22) (aCst (.int 2))) (aUn opNeg (aCst (.int 1))) (aCst .none)) (lNil))))) <|
    sNil
theorem m_f__law_read : MonoF f__law_read := by
  unfold f__law_read
  apply mf_fn
  repeat' first | with_reducible apply m_var | with_reducible apply m_cst | with_reducible apply ms_nil | with_reducible apply ms_cons | with_reducible apply ms_assign | with_reducible apply ms_ret | with_reducible apply ms_ret0 | with_reducible apply ms_cont | with_reducible apply ms_if | with_reducible apply ms_expr | with_reducible apply ms_aug | with_reducible apply ms_augsub | with_reducible apply ms_for | with_reducible apply ms_while | with_reducible apply m_bin | with_reducible apply m_un | with_reducible apply m_cmp | with_reducible apply mt_val | with_reducible apply mt_not | with_reducible apply mt_and | with_reducible apply mt_or | with_reducible apply mt_true | with_reducible apply mt_false | with_reducible apply mt_cmp | with_reducible apply mt_cmp2 | with_reducible apply m_not | with_reducible apply m_if | with_reducible apply m_and | with_reducible apply m_or | with_reducible apply ml_nil | with_reducible apply ml_cons | with_reducible apply m_tup | with_reducible apply m_list | with_reducible apply m_call | with_reducible apply m_meth | with_reducible apply m_slice | with_reducible apply m_comp | with_reducible apply m_genlist | with_reducible apply ms_forg | with_reducible apply mg_name | with_reducible apply mg_sub | with_reducible apply mg_tup | with_reducible apply MonoGs.nil | with_reducible apply MonoGs.cons | with_reducible apply mo_add | with_reducible apply mo_iadd | with_reducible apply mo_sub | with_reducible apply mo_mul | with_reducible apply mo_div | with_reducible apply mo_mod | with_reducible apply mo_neg | with_reducible apply mo_item | with_reducible apply mf_len | with_reducible apply mf_range | with_reducible apply mf_list | with_reducible apply mf_tuple | with_reducible apply mf_append | with_reducible apply mf_insert | with_reducible apply mf_pop | with_reducible apply mf_chr | with_reducible apply mf_sjoin | with_reducible apply mf_all | with_reducible apply mf_any | with_reducible apply mf_sum | with_reducible apply mf_min | with_reducible apply mf_ssplit | with_reducible apply mf_srstrip | with_reducible apply mf_count | with_reducible apply mf_srfind | with_reducible apply mf_sreplace | with_reducible apply mo_iaddx | with_reducible apply m_compz | with_reducible apply m_l__law_read_1
theorem s__law_read (c : Cx) (hd : fnRec prg 11 ∈ recsOf c.q) : SoundF (c.on NN NN_nodup) 1 (Str.ofString "_law_read") f__law_read :=
  sound_fn (c := c.on NN NN_nodup) (d := fnRec prg 11) (xs := [Str.ofString "text"]) hd (
    @block_cons _ _ _ _ _ _ _ (@stmt_assign _ _ _ _ _ _ _ _ (@sound_meth _ _ _ _ _ _ _ _ _ _ _ _ _ _ F.slot_str_rfind F.type_str_rfind F.plainAttrs_str kind_str me_srfind (sound_var rfl (hd := by decide) (hn := by decide)) (@list_consP _ _ _ _ _ _ _ (sound_str (hx := rfl) (hy := rfl)) (list_nil) rfl) (.inr ⟨_, _, rfl, fun _ => ⟨rfl, rfl⟩⟩) (fun _ => rfl) (fun _ => rfl) rfl) (tgt_name rfl (.inl (by decide +kernel))) (fun _ _ => rfl) (fun _ _ => rfl) (fun _ => rfl)) <|
    @block_cons _ _ _ _ _ _ _ (stmt_if (test_bool (or_cons (test_cmp (sound_var rfl (hd := by decide) (hn := by decide)) (sound_int) (hm := by with_unfolding_all rfl)) (or_cons (test_cmp (@sound_sub _ _ _ _ _ _ _ _ (sound_var rfl (hd := by decide) (hn := by decide)) (@sound_un _ _ _ _ _ _ _ _ op_negI (sound_int))) (sound_str (hx := rfl) (hy := rfl)) (hm := by with_unfolding_all rfl)) (or_nil)))) (@block_cons _ _ _ _ _ _ _ (@stmt_ret _ _ _ _ _ _ (@sound_tup _ _ _ _ _ _ _ (@list_consP _ _ _ _ _ _ _ (sound_str (hx := rfl) (hy := rfl)) (@list_consP _ _ _ _ _ _ _ (sound_str (hx := rfl) (hy := rfl)) (list_nil) rfl) rfl))) <|
    block_nil) (block_nil)) <|
    @block_cons _ _ _ _ _ _ _ (@stmt_ret _ _ _ _ _ _ (@sound_tup _ _ _ _ _ _ _ (@list_consP _ _ _ _ _ _ _ (sound_slice (sound_var rfl (hd := by decide) (hn := by decide)) (part_none) (part_some (sound_var rfl (hd := by decide) (hn := by decide))) (part_none)) (@list_consP _ _ _ _ _ _ _ (sound_slice (sound_var rfl (hd := by decide) (hn := by decide)) (part_some (@sound_bin _ _ _ _ _ _ _ _ _ _ op_add (sound_var rfl (hd := by decide) (hn := by decide)) (sound_int))) (part_some (@sound_un _ _ _ _ _ _ _ _ op_negI (sound_int))) (part_none)) (list_nil) rfl) rfl))) <|
    block_nil) rfl (by decide +kernel) (fun _ _ _ vs h => by obtain ⟨v0, rfl⟩ := len1 h; rfl) (by decide +kernel) (hco := rfl) (hgen := rfl) (hk := rfl)
def l__law_closed_1 : AS := sCons (sAssign (gName 23) (aMeth kStr fSReplace (aVar 23) (lCons (aCst (.str [40, 41])) (lCons (aCst (.str [])) (lNil))))) <|
    sNil
theorem m_l__law_closed_1 : MonoS l__law_closed_1 := by
  unfold l__law_closed_1
  repeat' first | with_reducible apply m_var | with_reducible apply m_cst | with_reducible apply ms_nil | with_reducible apply ms_cons | with_reducible apply ms_assign | with_reducible apply ms_ret | with_reducible apply ms_ret0 | with_reducible apply ms_cont | with_reducible apply ms_if | with_reducible apply ms_expr | with_reducible apply ms_aug | with_reducible apply ms_augsub | with_reducible apply ms_for | with_reducible apply ms_while | with_reducible apply m_bin | with_reducible apply m_un | with_reducible apply m_cmp | with_reducible apply mt_val | with_reducible apply mt_not | with_reducible apply mt_and | with_reducible apply mt_or | with_reducible apply mt_true | with_reducible apply mt_false | with_reducible apply mt_cmp | with_reducible apply mt_cmp2 | with_reducible apply m_not | with_reducible apply m_if | with_reducible apply m_and | with_reducible apply m_or | with_reducible apply ml_nil | with_reducible apply ml_cons | with_reducible apply m_tup | with_reducible apply m_list | with_reducible apply m_call | with_reducible apply m_meth | with_reducible apply m_slice | with_reducible apply m_comp | with_reducible apply m_genlist | with_reducible apply ms_forg | with_reducible apply mg_name | with_reducible apply mg_sub | with_reducible apply mg_tup | with_reducible apply MonoGs.nil | with_reducible apply MonoGs.cons | with_reducible apply mo_add | with_reducible apply mo_iadd | with_reducible apply mo_sub | with_reducible apply mo_mul | with_reducible apply mo_div | with_reducible apply mo_mod | with_reducible apply mo_neg | with_reducible apply mo_item | with_reducible apply mf_len | with_reducible apply mf_range | with_reducible apply mf_list | with_reducible apply mf_tuple | with_reducible apply mf_append | with_reducible apply mf_insert | with_reducible apply mf_pop | with_reducible apply mf_chr | with_reducible apply mf_sjoin | with_reducible apply mf_all | with_reducible apply mf_any | with_reducible apply mf_sum | with_reducible apply mf_min | with_reducible apply mf_ssplit | with_reducible apply mf_srstrip | with_reducible apply mf_count | with_reducible apply mf_srfind | with_reducible apply mf_sreplace | with_reducible apply mo_iaddx | with_reducible apply m_compz
def f__law_closed : AF := aFn [17] <|
    sCons (sAssign (gTup [gName 18, gName 19, gName 20]) (aVar 17)) <|
    sCons (sAssign (gName 23) (aMeth kStr fSJoin (aCst (.str [])) (lCons (aComp [] (gName 24) (aBin opAdd (aVar 19) (aVar 20)) (tOr (tCmp .Eq (aVar 24) (aCst (.str [40]))) (tOr (tCmp .Eq (aVar 24) (aCst (.str [41]))) (tFalse))) (aVar 24)) (lNil)))) <|
    sCons (sWhile (tCmp .In (aCst (.str [40, 41])) (aVar 23)) (l__law_closed_1)) <|
    sCons (sRet (aCmp .Eq (aVar 23) (aCst (.str [])))) <|
    sNil
theorem m_f__law_closed : MonoF f__law_closed := by
  unfold f__law_closed
  apply mf_fn
  repeat' first | with_reducible apply m_var | with_reducible apply m_cst | with_reducible apply ms_nil | with_reducible apply ms_cons | with_reducible apply ms_assign | with_reducible apply ms_ret | with_reducible apply ms_ret0 | with_reducible apply ms_cont | with_reducible apply ms_if | with_reducible apply ms_expr | with_reducible apply ms_aug | with_reducible apply ms_augsub | with_reducible apply ms_for | with_reducible apply ms_while | with_reducible apply m_bin | with_reducible apply m_un | with_reducible apply m_cmp | with_reducible apply mt_val | with_reducible apply mt_not | with_reducible apply mt_and | with_reducible apply mt_or | with_reducible apply mt_true | with_reducible apply mt_false | with_reducible apply mt_cmp | with_reducible apply mt_cmp2 | with_reducible apply m_not | with_reducible apply m_if | with_reducible apply m_and | with_reducible apply m_or | with_reducible apply ml_nil | with_reducible apply ml_cons | with_reducible apply m_tup | with_reducible apply m_list | with_reducible apply m_call | with_reducible apply m_meth | with_reducible apply m_slice | with_reducible apply m_comp | with_reducible apply m_genlist | with_reducible apply ms_forg | with_reducible apply mg_name | with_reducible apply mg_sub | with_reducible apply mg_tup | with_reducible apply MonoGs.nil | with_reducible apply MonoGs.cons | with_reducible apply mo_add | with_reducible apply mo_iadd | with_reducible apply mo_sub | with_reducible apply mo_mul | with_reducible apply mo_div | with_reducible apply mo_mod | with_reducible apply mo_neg | with_reducible apply mo_item | with_reducible apply mf_len | with_reducible apply mf_range | with_reducible apply mf_list | with_reducible apply mf_tuple | with_reducible apply mf_append | with_reducible apply mf_insert | with_reducible apply mf_pop | with_reducible apply mf_chr | with_reducible apply mf_sjoin | with_reducible apply mf_all | with_reducible apply mf_any | with_reducible apply mf_sum | with_reducible apply mf_min | with_reducible apply mf_ssplit | with_reducible apply mf_srstrip | with_reducible apply mf_count | with_reducible apply mf_srfind | with_reducible apply mf_sreplace | with_reducible apply mo_iaddx | with_reducible apply m_compz | with_reducible apply m_l__law_closed_1
theorem s__law_closed (c : Cx) (hd : fnRec prg 12 ∈ recsOf c.q) : SoundF (c.on NN NN_nodup) 1 (Str.ofString "_law_closed") f__law_closed :=
  sound_fn (c := c.on NN NN_nodup) (d := fnRec prg 12) (xs := [Str.ofString "field"]) hd (
    @block_cons _ _ _ _ _ _ _ (@stmt_assign _ _ _ _ _ _ _ _ (sound_var rfl (hd := by decide) (hn := by decide)) (tgt_tup (.cons (tgt_name rfl (.inl (by decide +kernel))) (fun _ => rfl) (.cons (tgt_name rfl (.inl (by decide +kernel))) (fun _ => rfl) (.cons (tgt_name rfl (.inl (by decide +kernel))) (fun _ => rfl) (.nil))))) (fun _ _ => rfl) (fun _ _ => rfl) (fun _ => rfl)) <|
    @block_cons _ _ _ _ _ _ _ (@stmt_assign _ _ _ _ _ _ _ _ (@sound_meth _ _ _ _ _ _ _ _ _ _ _ _ _ _ F.slot_str_join F.type_str_join F.plainAttrs_str kind_str me_sjoin (sound_str (hx := rfl) (hy := rfl)) (@list_consP _ _ _ _ _ _ _ (sound_comp (@sound_bin _ _ _ _ _ _ _ _ _ _ op_add (sound_var rfl (hd := by decide) (hn := by decide)) (sound_var rfl (hd := by decide) (hn := by decide))) (tgt_name rfl (.inl (by decide +kernel))) (cond_one (test_bool (or_cons (test_cmp (sound_var rfl (hd := by decide) (hn := by decide)) (sound_str (hx := rfl) (hy := rfl)) (hm := by with_unfolding_all rfl)) (or_cons (test_cmp (sound_var rfl (hd := by decide) (hn := by decide)) (sound_str (hx := rfl) (hy := rfl)) (hm := by with_unfolding_all rfl)) (or_nil))))) (sound_var rfl (hd := by decide) (hn := by decide)) (by show compChk NN _ _ _ = true; decide +kernel) (hkind := rfl) (hf := fun _ _ => rfl) (hto := by first | exact .inl ⟨_, _, _, rfl⟩ | exact .inr fun _ _ => rfl)) (list_nil) rfl) (.inr ⟨_, _, rfl, fun _ => ⟨rfl, rfl⟩⟩) (fun _ => rfl) (fun _ => rfl) rfl) (tgt_name rfl (.inl (by decide +kernel))) (fun _ _ => rfl) (fun _ _ => rfl) (fun _ => rfl)) <|
    @block_cons _ _ _ _ _ _ _ (stmt_while_replace rfl (.inl (by decide +kernel)) (hy := rfl) (hz := rfl) (hy1 := rfl) (hz1 := rfl) (hd := by decide) (hn := by decide) (hline := rfl)) <|
    @block_cons _ _ _ _ _ _ _ (@stmt_ret _ _ _ _ _ _ (sound_cmp (sound_var rfl (hd := by decide) (hn := by decide)) (sound_str (hx := rfl) (hy := rfl)) (hm := by with_unfolding_all rfl))) <|
    block_nil) rfl (by decide +kernel) (fun _ _ _ vs h => by obtain ⟨v0, rfl⟩ := len1 h; rfl) (by decide +kernel) (hco := rfl) (hgen := rfl) (hk := rfl)
def f__law_bare : AF := aFn [17] <|
    sCons (sAssign (gTup [gName 18, gName 19, gName 20]) (aVar 17)) <|
    sCons (sRet (aNot (aCall fAny (lCons (aComp [] (gName 24) (aVar 20) (tTrue) (aCmp .In (aCst (.str [91])) (aVar 24))) (lNil))))) <|
    sNil
theorem m_f__law_bare : MonoF f__law_bare := by
  unfold f__law_bare
  apply mf_fn
  repeat' first | with_reducible apply m_var | with_reducible apply m_cst | with_reducible apply ms_nil | with_reducible apply ms_cons | with_reducible apply ms_assign | with_reducible apply ms_ret | with_reducible apply ms_ret0 | with_reducible apply ms_cont | with_reducible apply ms_if | with_reducible apply ms_expr | with_reducible apply ms_aug | with_reducible apply ms_augsub | with_reducible apply ms_for | with_reducible apply ms_while | with_reducible apply m_bin | with_reducible apply m_un | with_reducible apply m_cmp | with_reducible apply mt_val | with_reducible apply mt_not | with_reducible apply mt_and | with_reducible apply mt_or | with_reducible apply mt_true | with_reducible apply mt_false | with_reducible apply mt_cmp | with_reducible apply mt_cmp2 | with_reducible apply m_not | with_reducible apply m_if | with_reducible apply m_and | with_reducible apply m_or | with_reducible apply ml_nil | with_reducible apply ml_cons | with_reducible apply m_tup | with_reducible apply m_list | with_reducible apply m_call | with_reducible apply m_meth | with_reducible apply m_slice | with_reducible apply m_comp | with_reducible apply m_genlist | with_reducible apply ms_forg | with_reducible apply mg_name | with_reducible apply mg_sub | with_reducible apply mg_tup | with_reducible apply MonoGs.nil | with_reducible apply MonoGs.cons | with_reducible apply mo_add | with_reducible apply mo_iadd | with_reducible apply mo_sub | with_reducible apply mo_mul | with_reducible apply mo_div | with_reducible apply mo_mod | with_reducible apply mo_neg | with_reducible apply mo_item | with_reducible apply mf_len | with_reducible apply mf_range | with_reducible apply mf_list | with_reducible apply mf_tuple | with_reducible apply mf_append | with_reducible apply mf_insert | with_reducible apply mf_pop | with_reducible apply mf_chr | with_reducible apply mf_sjoin | with_reducible apply mf_all | with_reducible apply mf_any | with_reducible apply mf_sum | with_reducible apply mf_min | with_reducible apply mf_ssplit | with_reducible apply mf_srstrip | with_reducible apply mf_count | with_reducible apply mf_srfind | with_reducible apply mf_sreplace | with_reducible apply mo_iaddx | with_reducible apply m_compz
theorem s__law_bare (c : Cx) (hd : fnRec prg 13 ∈ recsOf c.q) (b_any : c.mg (Str.ofString "any") = none) : SoundF (c.on NN NN_nodup) 1 (Str.ofString "_law_bare") f__law_bare :=
  sound_fn (c := c.on NN NN_nodup) (d := fnRec prg 13) (xs := [Str.ofString "field"]) hd (
    @block_cons _ _ _ _ _ _ _ (@stmt_assign _ _ _ _ _ _ _ _ (sound_var rfl (hd := by decide) (hn := by decide)) (tgt_tup (.cons (tgt_name rfl (.inl (by decide +kernel))) (fun _ => rfl) (.cons (tgt_name rfl (.inl (by decide +kernel))) (fun _ => rfl) (.cons (tgt_name rfl (.inl (by decide +kernel))) (fun _ => rfl) (.nil))))) (fun _ _ => rfl) (fun _ _ => rfl) (fun _ => rfl)) <|
    @block_cons _ _ _ _ _ _ _ (@stmt_ret _ _ _ _ _ _ (sound_not (sound_bi bi_any rfl b_any (by decide +kernel) (by decide +kernel) (@list_consP _ _ _ _ _ _ _ (sound_comp (sound_var rfl (hd := by decide) (hn := by decide)) (tgt_name rfl (.inl (by decide +kernel))) (cond_nil) (sound_cmp (sound_str (hx := rfl) (hy := rfl)) (sound_var rfl (hd := by decide) (hn := by decide)) (hm := by with_unfolding_all rfl)) (by show compChk NN _ _ _ = true; decide +kernel) (hkind := rfl) (hf := fun _ _ => rfl) (hto := by first | exact .inl ⟨_, _, _, rfl⟩ | exact .inr fun _ _ => rfl)) (list_nil) rfl) (by decide +kernel) (hd := by decide) (he' := fun _ => rfl) (hp := fun _ => rfl)))) <|
    block_nil) rfl (by decide +kernel) (fun _ _ _ vs h => by obtain ⟨v0, rfl⟩ := len1 h; rfl) (by decide +kernel) (hco := rfl) (hgen := rfl) (hk := rfl)
def l__law_through_1 : AS := sCons (sRet (aCst .none)) <|
    sNil
def l__law_through_2 : AS := sCons (sRet (aCst .none)) <|
    sNil
def f__law_through : AF := aFn [25] <|
    sCons (sAssign (gName 30) (aCall fList (lCons (aVar 25) (lNil)))) <|
    sCons (sAssign (gName 29) (aCall f__pre_parse_validation (lCons (aVar 25) (lNil)))) <|
    sCons (sIf (tCmp .NotEq (aVar 25) (aVar 30)) (l__law_through_2) (sNil)) <|
    sCons (sAssign (gName 27) (aComp [] (gName 21) (aVar 29) (tTrue) (aCall f__law_read (lCons (aVar 21) (lNil))))) <|
    sCons (sAssign (gName 28) (aCall fList (lCons (aVar 27) (lNil)))) <|
    sCons (sAssign (gName 26) (aCall f__post_parse_validation (lCons (aVar 27) (lNil)))) <|
    sCons (sIf (tCmp .NotEq (aVar 27) (aVar 28)) (l__law_through_1) (sNil)) <|
    sCons (sRet (aVar 26)) <|
    sNil
theorem s__law_through (c : Cx) (hd : fnRec prg 14 ∈ recsOf c.q) (h__law_read : SoundF (c.on NN NN_nodup) 1 (Str.ofString "_law_read") f__law_read) (h__post_parse_validation : SoundF (c.on NN NN_nodup) 1 (Str.ofString "_post_parse_validation") f__post_parse_validation) (h__pre_parse_validation : SoundF (c.on NN NN_nodup) 7 (Str.ofString "_pre_parse_validation") f__pre_parse_validation) (b_list : c.mg (Str.ofString "list") = none) : SoundF (c.on NN NN_nodup) 8 (Str.ofString "_law_through") f__law_through :=
  sound_fn (c := c.on NN NN_nodup) (d := fnRec prg 14) (xs := [Str.ofString "texts"]) hd (
    @block_cons _ _ _ _ _ _ _ (@stmt_assign _ _ _ _ _ _ _ _ (sound_bi bi_list rfl b_list (by decide +kernel) (by decide +kernel) (@list_consP _ _ _ _ _ _ _ (sound_var rfl (hd := by decide) (hn := by decide)) (list_nil) rfl) (by decide +kernel) (hd := by decide) (he' := fun _ => rfl) (hp := fun _ => rfl)) (tgt_name rfl (.inl (by decide +kernel))) (fun _ _ => rfl) (fun _ _ => rfl) (fun _ => rfl)) <|
    @block_cons _ _ _ _ _ _ _ (@stmt_assign _ _ _ _ _ _ _ _ (sound_call h__pre_parse_validation (@list_consP _ _ _ _ _ _ _ (sound_var rfl (hd := by decide) (hn := by decide)) (list_nil) rfl) (by decide +kernel) (by decide) (hd := by decide) (he' := fun _ => rfl)) (tgt_name rfl (.inl (by decide +kernel))) (fun _ _ => rfl) (fun _ _ => rfl) (fun _ => rfl)) <|
    @block_cons _ _ _ _ _ _ _ (stmt_if (test_cmp (sound_var rfl (hd := by decide) (hn := by decide)) (sound_var rfl (hd := by decide) (hn := by decide)) (hm := by with_unfolding_all rfl)) (@block_cons _ _ _ _ _ _ _ (@stmt_ret _ _ _ _ _ _ (sound_none)) <|
    block_nil) (block_nil)) <|
    @block_cons _ _ _ _ _ _ _ (stmt_assign_comp (sound_var rfl (hd := by decide) (hn := by decide)) (tgt_name rfl (.inl (by decide +kernel))) (cond_nil) (sound_call h__law_read (@list_consP _ _ _ _ _ _ _ (sound_var rfl (hd := by decide) (hn := by decide)) (list_nil) rfl) (by decide +kernel) (by decide) (hd := by decide) (he' := fun _ => rfl)) (by show compChk NN _ _ _ = true; decide +kernel) rfl (by decide +kernel) (by decide +kernel) (hkind := rfl) (hf := fun _ _ => rfl) (hto := by first | exact .inl ⟨_, _, _, rfl⟩ | exact .inr fun _ _ => rfl)) <|
    @block_cons _ _ _ _ _ _ _ (@stmt_assign _ _ _ _ _ _ _ _ (sound_bi bi_list rfl b_list (by decide +kernel) (by decide +kernel) (@list_consP _ _ _ _ _ _ _ (sound_var rfl (hd := by decide) (hn := by decide)) (list_nil) rfl) (by decide +kernel) (hd := by decide) (he' := fun _ => rfl) (hp := fun _ => rfl)) (tgt_name rfl (.inl (by decide +kernel))) (fun _ _ => rfl) (fun _ _ => rfl) (fun _ => rfl)) <|
    @block_cons _ _ _ _ _ _ _ (@stmt_assign _ _ _ _ _ _ _ _ (sound_call h__post_parse_validation (@list_consP _ _ _ _ _ _ _ (sound_var rfl (hd := by decide) (hn := by decide)) (list_nil) rfl) (by decide +kernel) (by decide) (hd := by decide) (he' := fun _ => rfl)) (tgt_name rfl (.inl (by decide +kernel))) (fun _ _ => rfl) (fun _ _ => rfl) (fun _ => rfl)) <|
    @block_cons _ _ _ _ _ _ _ (stmt_if (test_cmp (sound_var rfl (hd := by decide) (hn := by decide)) (sound_var rfl (hd := by decide) (hn := by decide)) (hm := by with_unfolding_all rfl)) (@block_cons _ _ _ _ _ _ _ (@stmt_ret _ _ _ _ _ _ (sound_none)) <|
    block_nil) (block_nil)) <|
    @block_cons _ _ _ _ _ _ _ (@stmt_ret _ _ _ _ _ _ (sound_var rfl (hd := by decide) (hn := by decide))) <|
    block_nil) rfl (by decide +kernel) (fun _ _ _ vs h => by obtain ⟨v0, rfl⟩ := len1 h; rfl) (by decide +kernel) (hco := rfl) (hgen := rfl) (hk := rfl)
def l_law_1 : AS := sCons (sRet (aCst (.bool false))) <|
    sNil
def l_law_2 : AS := sCons (sRet (aCst (.bool false))) <|
    sNil
def l_law_3 : AS := sCons (sRet (aCst (.bool false))) <|
    sNil
def f_law : AF := aFn [14] <|
    sCons (sAssign (gName 15) (aCall f__law_fields (lCons (aVar 14) (lNil)))) <|
    sCons (sAssign (gName 25) (aComp [] (gName 17) (aVar 15) (tTrue) (aCall f__law_text (lCons (aVar 17) (lNil))))) <|
    sCons (sAssign (gName 33) (aComp [] (gName 17) (aVar 15) (tTrue) (aIf (tAnd (tVal (aCall f__law_closed (lCons (aVar 17) (lNil)))) (tAnd (tVal (aCall f__law_bare (lCons (aVar 17) (lNil)))) (tTrue))) (aCall f__law_pair (lCons (aVar 17) (lNil))) (aTup (lCons (aCst (.str [])) (lCons (aCst (.str [])) (lNil))))))) <|
    sCons (sIf (tCmp .NotEq (aCall f__law_through (lCons (aVar 25) (lNil))) (aVar 33)) (l_law_3) (sNil)) <|
    sCons (sAssign (gName 34) (aBin opMod (aCall fSum (lCons (aVar 14) (lNil))) (aBin opAdd (aCall fLen (lCons (aVar 25) (lNil))) (aCst (.int 1))))) <|
    sCons (sAssign (gName 31) (aCall f__law_through (lCons (aSlice (aVar 25) (aCst .none) (aVar 34) (aCst .none)) (lNil)))) <|
    sCons (sAssign (gName 32) (aCall f__law_through (lCons (aSlice (aVar 25) (aVar 34) (aCst .none) (aCst .none)) (lNil)))) <|
    sCons (sIf (tOr (tCmp .Is (aVar 31) (aCst .none)) (tOr (tCmp .Is (aVar 32) (aCst .none)) (tOr (tCmp .NotEq (aBin opAdd (aVar 31) (aVar 32)) (aVar 33)) (tFalse)))) (l_law_2) (sNil)) <|
    sCons (sAssign (gName 29) (aCompZ (gTup [gName 21, gName 17]) (lCons (aVar 25) (lCons (aVar 15) (lNil))) (aIf (tVal (aCall f__law_closed (lCons (aVar 17) (lNil)))) (aVar 21) (aCst (.str [40, 39, 39, 44, 32, 39, 39, 41]))))) <|
    sCons (sIf (tCmp .NotEq (aCall f__pre_parse_validation (lCons (aVar 25) (lNil))) (aVar 29)) (l_law_1) (sNil)) <|
    sCons (sAssign (gName 27) (aComp [] (gName 17) (aVar 15) (tTrue) (aIf (tVal (aCall f__law_bare (lCons (aVar 17) (lNil)))) (aCall f__law_pair (lCons (aVar 17) (lNil))) (aTup (lCons (aCst (.str [])) (lCons (aCst (.str [])) (lNil))))))) <|
    sCons (sRet (aCmp .Eq (aCall f__post_parse_validation (lCons (aComp [] (gName 21) (aVar 25) (tTrue) (aCall f__law_read (lCons (aVar 21) (lNil)))) (lNil))) (aVar 27))) <|
    sNil
theorem s_law (c : Cx) (hd : fnRec prg 15 ∈ recsOf c.q) (h__law_bare : SoundF (c.on NN NN_nodup) 1 (Str.ofString "_law_bare") f__law_bare) (h__law_closed : SoundF (c.on NN NN_nodup) 1 (Str.ofString "_law_closed") f__law_closed) (h__law_fields : SoundF (c.on NN NN_nodup) 2 (Str.ofString "_law_fields") f__law_fields) (h__law_pair : SoundF (c.on NN NN_nodup) 1 (Str.ofString "_law_pair") f__law_pair) (h__law_read : SoundF (c.on NN NN_nodup) 1 (Str.ofString "_law_read") f__law_read) (h__law_text : SoundF (c.on NN NN_nodup) 1 (Str.ofString "_law_text") f__law_text) (h__law_through : SoundF (c.on NN NN_nodup) 8 (Str.ofString "_law_through") f__law_through) (h__post_parse_validation : SoundF (c.on NN NN_nodup) 1 (Str.ofString "_post_parse_validation") f__post_parse_validation) (h__pre_parse_validation : SoundF (c.on NN NN_nodup) 7 (Str.ofString "_pre_parse_validation") f__pre_parse_validation) (b_len : c.mg (Str.ofString "len") = none) (b_sum : c.mg (Str.ofString "sum") = none) (b_zip : c.mg (Str.ofString "zip") = none) : SoundF (c.on NN NN_nodup) 9 (Str.ofString "law") f_law :=
  sound_fn (c := c.on NN NN_nodup) (d := fnRec prg 15) (xs := [Str.ofString "script"]) hd (
    @block_cons _ _ _ _ _ _ _ (@stmt_assign _ _ _ _ _ _ _ _ (sound_call h__law_fields (@list_consP _ _ _ _ _ _ _ (sound_var rfl (hd := by decide) (hn := by decide)) (list_nil) rfl) (by decide +kernel) (by decide) (hd := by decide) (he' := fun _ => rfl)) (tgt_name rfl (.inl (by decide +kernel))) (fun _ _ => rfl) (fun _ _ => rfl) (fun _ => rfl)) <|
    @block_cons _ _ _ _ _ _ _ (stmt_assign_comp (sound_var rfl (hd := by decide) (hn := by decide)) (tgt_name rfl (.inl (by decide +kernel))) (cond_nil) (sound_call h__law_text (@list_consP _ _ _ _ _ _ _ (sound_var rfl (hd := by decide) (hn := by decide)) (list_nil) rfl) (by decide +kernel) (by decide) (hd := by decide) (he' := fun _ => rfl)) (by show compChk NN _ _ _ = true; decide +kernel) rfl (by decide +kernel) (by decide +kernel) (hkind := rfl) (hf := fun _ _ => rfl) (hto := by first | exact .inl ⟨_, _, _, rfl⟩ | exact .inr fun _ _ => rfl)) <|
    @block_cons _ _ _ _ _ _ _ (stmt_assign_comp (sound_var rfl (hd := by decide) (hn := by decide)) (tgt_name rfl (.inl (by decide +kernel))) (cond_nil) (sound_if (test_bool (and_cons (test_val (sound_call h__law_closed (@list_consP _ _ _ _ _ _ _ (sound_var rfl (hd := by decide) (hn := by decide)) (list_nil) rfl) (by decide +kernel) (by decide) (hd := by decide) (he' := fun _ => rfl)) (hv := fun _ _ => rfl)) (and_cons (test_val (sound_call h__law_bare (@list_consP _ _ _ _ _ _ _ (sound_var rfl (hd := by decide) (hn := by decide)) (list_nil) rfl) (by decide +kernel) (by decide) (hd := by decide) (he' := fun _ => rfl)) (hv := fun _ _ => rfl)) (and_nil)))) (sound_call h__law_pair (@list_consP _ _ _ _ _ _ _ (sound_var rfl (hd := by decide) (hn := by decide)) (list_nil) rfl) (by decide +kernel) (by decide) (hd := by decide) (he' := fun _ => rfl)) (@sound_tup _ _ _ _ _ _ _ (@list_consP _ _ _ _ _ _ _ (sound_str (hx := rfl) (hy := rfl)) (@list_consP _ _ _ _ _ _ _ (sound_str (hx := rfl) (hy := rfl)) (list_nil) rfl) rfl))) (by show compChk NN _ _ _ = true; decide +kernel) rfl (by decide +kernel) (by decide +kernel) (hkind := rfl) (hf := fun _ _ => rfl) (hto := by first | exact .inl ⟨_, _, _, rfl⟩ | exact .inr fun _ _ => rfl)) <|
    @block_cons _ _ _ _ _ _ _ (stmt_if (test_cmp (sound_call h__law_through (@list_consP _ _ _ _ _ _ _ (sound_var rfl (hd := by decide) (hn := by decide)) (list_nil) rfl) (by decide +kernel) (by decide) (hd := by decide) (he' := fun _ => rfl)) (sound_var rfl (hd := by decide) (hn := by decide)) (hm := by with_unfolding_all rfl)) (@block_cons _ _ _ _ _ _ _ (@stmt_ret _ _ _ _ _ _ (sound_bool)) <|
    block_nil) (block_nil)) <|
    @block_cons _ _ _ _ _ _ _ (@stmt_assign _ _ _ _ _ _ _ _ (@sound_bin _ _ _ _ _ _ _ _ _ _ op_mod (sound_bi bi_sum rfl b_sum (by decide +kernel) (by decide +kernel) (@list_consP _ _ _ _ _ _ _ (sound_var rfl (hd := by decide) (hn := by decide)) (list_nil) rfl) (by decide +kernel) (hd := by decide) (he' := fun _ => rfl) (hp := fun _ => rfl)) (@sound_bin _ _ _ _ _ _ _ _ _ _ op_add (sound_bi bi_len rfl b_len (by decide +kernel) (by decide +kernel) (@list_consP _ _ _ _ _ _ _ (sound_var rfl (hd := by decide) (hn := by decide)) (list_nil) rfl) (by decide +kernel) (hd := by decide) (he' := fun _ => rfl) (hp := fun _ => rfl)) (sound_int))) (tgt_name rfl (.inl (by decide +kernel))) (fun _ _ => rfl) (fun _ _ => rfl) (fun _ => rfl)) <|
    @block_cons _ _ _ _ _ _ _ (@stmt_assign _ _ _ _ _ _ _ _ (sound_call h__law_through (@list_consP _ _ _ _ _ _ _ (sound_slice (sound_var rfl (hd := by decide) (hn := by decide)) (part_none) (part_some (sound_var rfl (hd := by decide) (hn := by decide))) (part_none)) (list_nil) rfl) (by decide +kernel) (by decide) (hd := by decide) (he' := fun _ => rfl)) (tgt_name rfl (.inl (by decide +kernel))) (fun _ _ => rfl) (fun _ _ => rfl) (fun _ => rfl)) <|
    @block_cons _ _ _ _ _ _ _ (@stmt_assign _ _ _ _ _ _ _ _ (sound_call h__law_through (@list_consP _ _ _ _ _ _ _ (sound_slice (sound_var rfl (hd := by decide) (hn := by decide)) (part_some (sound_var rfl (hd := by decide) (hn := by decide))) (part_none) (part_none)) (list_nil) rfl) (by decide +kernel) (by decide) (hd := by decide) (he' := fun _ => rfl)) (tgt_name rfl (.inl (by decide +kernel))) (fun _ _ => rfl) (fun _ _ => rfl) (fun _ => rfl)) <|
    @block_cons _ _ _ _ _ _ _ (stmt_if (test_bool (or_cons (test_cmp (sound_var rfl (hd := by decide) (hn := by decide)) (sound_none) (hm := by with_unfolding_all rfl)) (or_cons (test_cmp (sound_var rfl (hd := by decide) (hn := by decide)) (sound_none) (hm := by with_unfolding_all rfl)) (or_cons (test_cmp (@sound_bin _ _ _ _ _ _ _ _ _ _ op_add (sound_var rfl (hd := by decide) (hn := by decide)) (sound_var rfl (hd := by decide) (hn := by decide))) (sound_var rfl (hd := by decide) (hn := by decide)) (hm := by with_unfolding_all rfl)) (or_nil))))) (@block_cons _ _ _ _ _ _ _ (@stmt_ret _ _ _ _ _ _ (sound_bool)) <|
    block_nil) (block_nil)) <|
    @block_cons _ _ _ _ _ _ _ (stmt_assign_zip (@list_consP _ _ _ _ _ _ _ (sound_var rfl (hd := by decide) (hn := by decide)) (@list_consP _ _ _ _ _ _ _ (sound_var rfl (hd := by decide) (hn := by decide)) (list_nil) rfl) rfl) (tgt_tup (.cons (tgt_name rfl (.inl (by decide +kernel))) (fun _ => rfl) (.cons (tgt_name rfl (.inl (by decide +kernel))) (fun _ => rfl) (.nil)))) (sound_if (test_val (sound_call h__law_closed (@list_consP _ _ _ _ _ _ _ (sound_var rfl (hd := by decide) (hn := by decide)) (list_nil) rfl) (by decide +kernel) (by decide) (hd := by decide) (he' := fun _ => rfl)) (hv := fun _ _ => rfl)) (sound_var rfl (hd := by decide) (hn := by decide)) (sound_str (hx := rfl) (hy := rfl))) b_zip (by decide +kernel) (by show compChk0 _ = true; decide +kernel) rfl (by decide +kernel) (by decide +kernel) (hkind := rfl) (hb := by decide +kernel) (hs2 := fun _ => rfl) (hp2 := fun _ => rfl)) <|
    @block_cons _ _ _ _ _ _ _ (stmt_if (test_cmp (sound_call h__pre_parse_validation (@list_consP _ _ _ _ _ _ _ (sound_var rfl (hd := by decide) (hn := by decide)) (list_nil) rfl) (by decide +kernel) (by decide) (hd := by decide) (he' := fun _ => rfl)) (sound_var rfl (hd := by decide) (hn := by decide)) (hm := by with_unfolding_all rfl)) (@block_cons _ _ _ _ _ _ _ (@stmt_ret _ _ _ _ _ _ (sound_bool)) <|
    block_nil) (block_nil)) <|
    @block_cons _ _ _ _ _ _ _ (stmt_assign_comp (sound_var rfl (hd := by decide) (hn := by decide)) (tgt_name rfl (.inl (by decide +kernel))) (cond_nil) (sound_if (test_val (sound_call h__law_bare (@list_consP _ _ _ _ _ _ _ (sound_var rfl (hd := by decide) (hn := by decide)) (list_nil) rfl) (by decide +kernel) (by decide) (hd := by decide) (he' := fun _ => rfl)) (hv := fun _ _ => rfl)) (sound_call h__law_pair (@list_consP _ _ _ _ _ _ _ (sound_var rfl (hd := by decide) (hn := by decide)) (list_nil) rfl) (by decide +kernel) (by decide) (hd := by decide) (he' := fun _ => rfl)) (@sound_tup _ _ _ _ _ _ _ (@list_consP _ _ _ _ _ _ _ (sound_str (hx := rfl) (hy := rfl)) (@list_consP _ _ _ _ _ _ _ (sound_str (hx := rfl) (hy := rfl)) (list_nil) rfl) rfl))) (by show compChk NN _ _ _ = true; decide +kernel) rfl (by decide +kernel) (by decide +kernel) (hkind := rfl) (hf := fun _ _ => rfl) (hto := by first | exact .inl ⟨_, _, _, rfl⟩ | exact .inr fun _ _ => rfl)) <|
    @block_cons _ _ _ _ _ _ _ (@stmt_ret _ _ _ _ _ _ (sound_cmp (sound_call h__post_parse_validation (@list_consP _ _ _ _ _ _ _ (sound_comp (sound_var rfl (hd := by decide) (hn := by decide)) (tgt_name rfl (.inl (by decide +kernel))) (cond_nil) (sound_call h__law_read (@list_consP _ _ _ _ _ _ _ (sound_var rfl (hd := by decide) (hn := by decide)) (list_nil) rfl) (by decide +kernel) (by decide) (hd := by decide) (he' := fun _ => rfl)) (by show compChk NN _ _ _ = true; decide +kernel) (hkind := rfl) (hf := fun _ _ => rfl) (hto := by first | exact .inl ⟨_, _, _, rfl⟩ | exact .inr fun _ _ => rfl)) (list_nil) rfl) (by decide +kernel) (by decide) (hd := by decide) (he' := fun _ => rfl)) (sound_var rfl (hd := by decide) (hn := by decide)) (hm := by with_unfolding_all rfl))) <|
    block_nil) rfl (by decide +kernel) (fun _ _ _ vs h => by obtain ⟨v0, rfl⟩ := len1 h; rfl) (by decide +kernel) (hco := rfl) (hgen := rfl) (hk := rfl)
end Mine
open PySem PySem.W PySem.Calls PyProof.Rows
set_option Elab.async false
set_option linter.unusedVariables false
set_option linter.unusedSimpArgs false
set_option maxRecDepth 100000
set_option maxHeartbeats 8000000
namespace Mine

local macro_rules | `(tactic| walk_at "st") => `(tactic| refine seq ?_)
theorem iter_loop {Q : Fl → AEnv → List PV → Prop} : ∀ (x : List Nat) (i : Nat) (b : Bool) (ρ : AEnv), ρ 1 = some (.bool b) → ρ 2 = some (.int ((i - 1 : Nat) : Int)) →
    (∀ ρ' b' k, ρ' 1 = some (.bool b') → ρ' 2 = some (.int (k : Nat)) → Q .next ρ' ((if b' then [(k, [92])] else []).map up)) →
    forG (gTup [gName 2, gName 3]) gl__iter_escaped_chars_1 Q (enumItems i x) ρ ((esc i b x).map up)
  | [], i, b, ρ, h1, h2, hQ => hQ ρ b (i - 1) h1 h2
  | ch :: x, i, true, ρ, h1, h2, hQ => by
    have ih := fun ρ' e1 e2 => iter_loop (Q := Q) x (i + 1) false ρ' e1 e2 hQ
    simp only [enumItems, forG, gl__iter_escaped_chars_1, gCons, gIf, gYield, gLift, gNil, esc, List.map_cons]
    try simp only [h1, sNil, sAssign, sRet, sRet0, sIf, sExpr, sAugSub, sAug, sCont, gName, gSub, gTup, gTup.go, aVar, aCst, aBin, aUn, aIf, aTup, aList, lCons, lNil, aCall, aMeth, aCmp, aSlice, tCmp, tCmp2, tAnd, tOr, tNot, tVal, tTrue, tFalse, upd_at, if_true, if_false, Bool.false_eq_true, decide_true, decide_false, decide_eq_true_eq, opItem, opAdd, opIAdd, opIAddX, opSub, opMul, opDiv, opMod, opNeg, cmpOp, cmpLt, cmpIn, cmpIs, eq_int, eq_str, eq_bool, occ_one, truth, kList, kStr, fLen, fRange, fList, fTuple, fChr, fSJoin, fAll, fAny, fCount, fSRstrip, fSum, fMin, joinL_nil, fAppend, fInsert, fPop, withOwn, withItems, setAt, nth_zero, nth_one, nth_two, nth_last, kOk, bindP, List.length_cons, List.length_nil, List.isEmpty_cons, List.isEmpty_nil, List.map_nil, List.map_cons, Nat.reduceAdd, Nat.reduceEqDiff, Nat.succ_ne_self, Int.reduceNeg, Int.reduceLE, Int.reduceLT, Int.reduceEq, Int.cast_ofNat_Int, Int.toNat_zero, Int.toNat_one, Int.reduceToNat, Int.le_refl, List.getElem?_cons_zero, List.getElem?_cons_succ, reduceIte, reduceCtorEq, true_and, and_true, and_self, not_true_eq_false, not_false_eq_true, Bool.not_true, Bool.not_false, Bool.not_eq_true, Bool.not_eq_false, ne_eq, decide_not]
    refine ⟨by simp [szOk], by simp [szOk], _, rfl, ?_⟩
    exact ih _ (by simp [upd_at]) (by simp [upd_at])
  | ch :: x, i, false, ρ, h1, h2, hQ => by
    have ih := fun b ρ' e1 e2 => iter_loop (Q := Q) x (i + 1) b ρ' e1 e2 hQ
    simp only [enumItems, forG, gl__iter_escaped_chars_1, gCons, gIf, gYield, gLift, gNil, esc, List.map_cons]
    by_cases h : ch = 92
    · subst h
      try simp only [h1, sNil, sAssign, sRet, sRet0, sIf, sExpr, sAugSub, sAug, sCont, gName, gSub, gTup, gTup.go, aVar, aCst, aBin, aUn, aIf, aTup, aList, lCons, lNil, aCall, aMeth, aCmp, aSlice, tCmp, tCmp2, tAnd, tOr, tNot, tVal, tTrue, tFalse, upd_at, if_true, if_false, Bool.false_eq_true, decide_true, decide_false, decide_eq_true_eq, opItem, opAdd, opIAdd, opIAddX, opSub, opMul, opDiv, opMod, opNeg, cmpOp, cmpLt, cmpIn, cmpIs, eq_int, eq_str, eq_bool, occ_one, truth, kList, kStr, fLen, fRange, fList, fTuple, fChr, fSJoin, fAll, fAny, fCount, fSRstrip, fSum, fMin, joinL_nil, fAppend, fInsert, fPop, withOwn, withItems, setAt, nth_zero, nth_one, nth_two, nth_last, kOk, bindP, List.length_cons, List.length_nil, List.isEmpty_cons, List.isEmpty_nil, List.map_nil, List.map_cons, Nat.reduceAdd, Nat.reduceEqDiff, Nat.succ_ne_self, Int.reduceNeg, Int.reduceLE, Int.reduceLT, Int.reduceEq, Int.cast_ofNat_Int, Int.toNat_zero, Int.toNat_one, Int.reduceToNat, Int.le_refl, List.getElem?_cons_zero, List.getElem?_cons_succ, reduceIte, reduceCtorEq, true_and, and_true, and_self, not_true_eq_false, not_false_eq_true, Bool.not_true, Bool.not_false, Bool.not_eq_true, Bool.not_eq_false, ne_eq, decide_not]
      exact ih true _ (by simp [upd_at]) (by simp [upd_at])
    · have h' : ¬ ([ch] = [92]) := by simpa using h
      try simp only [h1, h', h, sNil, sAssign, sRet, sRet0, sIf, sExpr, sAugSub, sAug, sCont, gName, gSub, gTup, gTup.go, aVar, aCst, aBin, aUn, aIf, aTup, aList, lCons, lNil, aCall, aMeth, aCmp, aSlice, tCmp, tCmp2, tAnd, tOr, tNot, tVal, tTrue, tFalse, upd_at, if_true, if_false, Bool.false_eq_true, decide_true, decide_false, decide_eq_true_eq, opItem, opAdd, opIAdd, opIAddX, opSub, opMul, opDiv, opMod, opNeg, cmpOp, cmpLt, cmpIn, cmpIs, eq_int, eq_str, eq_bool, occ_one, truth, kList, kStr, fLen, fRange, fList, fTuple, fChr, fSJoin, fAll, fAny, fCount, fSRstrip, fSum, fMin, joinL_nil, fAppend, fInsert, fPop, withOwn, withItems, setAt, nth_zero, nth_one, nth_two, nth_last, kOk, bindP, List.length_cons, List.length_nil, List.isEmpty_cons, List.isEmpty_nil, List.map_nil, List.map_cons, Nat.reduceAdd, Nat.reduceEqDiff, Nat.succ_ne_self, Int.reduceNeg, Int.reduceLE, Int.reduceLT, Int.reduceEq, Int.cast_ofNat_Int, Int.toNat_zero, Int.toNat_one, Int.reduceToNat, Int.le_refl, List.getElem?_cons_zero, List.getElem?_cons_succ, reduceIte, reduceCtorEq, true_and, and_true, and_self, not_true_eq_false, not_false_eq_true, Bool.not_true, Bool.not_false, Bool.not_eq_true, Bool.not_eq_false, ne_eq, decide_not]
      refine ⟨by simp [szOk], _, rfl, ?_⟩
      exact ih false _ (by simp [upd_at, h1]) (by simp [upd_at])
theorem iter_gen (x : List Nat) : gFn [0] g__iter_escaped_chars [.str x] ((esc 0 false x).map up) := by
  refine ⟨rfl, ?_⟩
  simp only [g__iter_escaped_chars, gCons, gLift, gForEnum]
  (try simp only [sCons, sNil, sAssign, sRet, sRet0, sIf, sExpr, sFor, sAugSub, sAug, sCont, gName, gSub, gTup, gTup.go, aVar, aCst, aBin, aUn, aIf, aTup, aList, lCons, lNil, aCall, aMeth, aCmp, aSlice, tCmp, tCmp2, tAnd, tOr, tNot, tVal, tTrue, tFalse, upd_at, if_true, if_false, Bool.false_eq_true, decide_true, decide_false, decide_eq_true_eq, opItem, opAdd, opIAdd, opIAddX, opSub, opMul, opDiv, opMod, opNeg, cmpOp, cmpLt, cmpIn, cmpIs, eq_int, eq_str, eq_bool, occ_one, truth, kList, kStr, fLen, fRange, fList, fTuple, fChr, fSJoin, fAll, fAny, fCount, fSRstrip, fSum, fMin, joinL_nil, fAppend, fInsert, fPop, withOwn, withItems, setAt, nth_zero, nth_one, nth_two, nth_last, kOk, bindP, List.length_cons, List.length_nil, List.isEmpty_cons, List.isEmpty_nil, List.map_nil, List.map_cons, Nat.reduceAdd, Nat.reduceEqDiff, Nat.succ_ne_self, Int.reduceNeg, Int.reduceLE, Int.reduceLT, Int.reduceEq, Int.cast_ofNat_Int, Int.toNat_zero, Int.toNat_one, Int.reduceToNat, Int.le_refl, List.getElem?_cons_zero, List.getElem?_cons_succ, reduceIte, reduceCtorEq, true_and, and_true, and_self, not_true_eq_false, not_false_eq_true, Bool.not_true, Bool.not_false, Bool.not_eq_true, Bool.not_eq_false, ne_eq, decide_not])
  refine iter_loop x 0 false _ (by simp [upd_at]) (by simp [upd_at]) fun ρ' b' k e1 e2 => ?_
  cases b'
  · simp only [gIf, gNil]
    try simp only [e1, sNil, sAssign, sRet, sRet0, sIf, sExpr, sAugSub, sAug, sCont, gName, gSub, gTup, gTup.go, aVar, aCst, aBin, aUn, aIf, aTup, aList, lCons, lNil, aCall, aMeth, aCmp, aSlice, tCmp, tCmp2, tAnd, tOr, tNot, tVal, tTrue, tFalse, upd_at, if_true, if_false, Bool.false_eq_true, decide_true, decide_false, decide_eq_true_eq, opItem, opAdd, opIAdd, opIAddX, opSub, opMul, opDiv, opMod, opNeg, cmpOp, cmpLt, cmpIn, cmpIs, eq_int, eq_str, eq_bool, occ_one, truth, kList, kStr, fLen, fRange, fList, fTuple, fChr, fSJoin, fAll, fAny, fCount, fSRstrip, fSum, fMin, joinL_nil, fAppend, fInsert, fPop, withOwn, withItems, setAt, nth_zero, nth_one, nth_two, nth_last, kOk, bindP, List.length_cons, List.length_nil, List.isEmpty_cons, List.isEmpty_nil, List.map_nil, List.map_cons, Nat.reduceAdd, Nat.reduceEqDiff, Nat.succ_ne_self, Int.reduceNeg, Int.reduceLE, Int.reduceLT, Int.reduceEq, Int.cast_ofNat_Int, Int.toNat_zero, Int.toNat_one, Int.reduceToNat, Int.le_refl, List.getElem?_cons_zero, List.getElem?_cons_succ, reduceIte, reduceCtorEq, true_and, and_true, and_self, not_true_eq_false, not_false_eq_true, Bool.not_true, Bool.not_false, Bool.not_eq_true, Bool.not_eq_false, ne_eq, decide_not]
    simp
  · simp only [gIf, gNil, gCons, gYield]
    try simp only [e1, e2, sNil, sAssign, sRet, sRet0, sIf, sExpr, sAugSub, sAug, sCont, gName, gSub, gTup, gTup.go, aVar, aCst, aBin, aUn, aIf, aTup, aList, lCons, lNil, aCall, aMeth, aCmp, aSlice, tCmp, tCmp2, tAnd, tOr, tNot, tVal, tTrue, tFalse, upd_at, if_true, if_false, Bool.false_eq_true, decide_true, decide_false, decide_eq_true_eq, opItem, opAdd, opIAdd, opIAddX, opSub, opMul, opDiv, opMod, opNeg, cmpOp, cmpLt, cmpIn, cmpIs, eq_int, eq_str, eq_bool, occ_one, truth, kList, kStr, fLen, fRange, fList, fTuple, fChr, fSJoin, fAll, fAny, fCount, fSRstrip, fSum, fMin, joinL_nil, fAppend, fInsert, fPop, withOwn, withItems, setAt, nth_zero, nth_one, nth_two, nth_last, kOk, bindP, List.length_cons, List.length_nil, List.isEmpty_cons, List.isEmpty_nil, List.map_nil, List.map_cons, Nat.reduceAdd, Nat.reduceEqDiff, Nat.succ_ne_self, Int.reduceNeg, Int.reduceLE, Int.reduceLT, Int.reduceEq, Int.cast_ofNat_Int, Int.toNat_zero, Int.toNat_one, Int.reduceToNat, Int.le_refl, List.getElem?_cons_zero, List.getElem?_cons_succ, reduceIte, reduceCtorEq, true_and, and_true, and_self, not_true_eq_false, not_false_eq_true, Bool.not_true, Bool.not_false, Bool.not_eq_true, Bool.not_eq_false, ne_eq, decide_not]
    exact ⟨by simp [szOk], [], rfl, .inl trivial, rfl⟩
/-- the sign of a number, of these signs or any other but the surrogates -/
def sg (t : List Nat) (n : Int) : Nat := if n % 11 < 10 then t.getD (n % 11).toNat 0 else if n / 11 % 60000 < 55296 then (n / 11 % 60000).toNat else (n / 11 % 60000 + 8192).toNat
def onInt (f : Int → PV) : PV → Option PV
  | .int n => some (f n)
  | _ => none
theorem strsOf_map : ∀ l : List (List Nat), strsOf (l.map .str) = some l
  | [] => rfl
  | x :: l => by simp [strsOf, strsOf_map l]
-- units of a text, their places
abbrev Us := List (List Nat)
def uOk (u : List Nat) : Prop := (∃ c, c ≠ 92 ∧ u = [c]) ∨ ∃ c, u = [92, c]
/-- whole units, a lone backslash at the end at most -/
def WU : Us → Prop
  | [] => True
  | [u] => uOk u ∨ u = [92]
  | u :: v :: r => uOk u ∧ WU (v :: r)
def plc : Nat → Us → List (Nat × List Nat)
  | _, [] => []
  | w, u :: r => (w + u.length - 1, u) :: plc (w + u.length) r
theorem plc_snd : ∀ (V : Us) (w : Nat), (plc w V).map (·.2) = V
  | [], _ => rfl
  | u :: r, w => by simp [plc, plc_snd r]
theorem WU.tail {u : List Nat} {r : Us} (h : WU (u :: r)) : WU r := by
  cases r with
  | nil => trivial
  | cons v r => exact h.2
theorem esc_plc : ∀ (V : Us) (w : Nat), WU V → esc w false V.flatten = plc w V
  | [], w, _ => rfl
  | [u], w, h => by
    rcases h with (⟨c, hc, rfl⟩ | ⟨c, rfl⟩) | rfl
    · simp [plc, esc, hc]
    · simp [plc, esc]
    · simp [plc, esc]
  | u :: v :: r, w, h => by
    have ih := esc_plc (v :: r) (w + u.length) h.2
    rw [List.flatten_cons]
    rcases h.1 with ⟨c, hc, rfl⟩ | ⟨c, rfl⟩
    · have e : plc w ([c] :: v :: r) = (w, [c]) :: plc (w + 1) (v :: r) := rfl
      simp only [List.length_singleton] at ih
      rw [e, ← ih]
      simp only [List.singleton_append, esc, hc, if_false]
    · have e : plc w ([92, c] :: v :: r) = (w + 1, [92, c]) :: plc (w + 2) (v :: r) := rfl
      simp only [List.length_cons, List.length_nil, Nat.zero_add, Nat.reduceAdd] at ih
      rw [e, ← ih]
      simp only [List.cons_append, List.nil_append, esc, if_true]
theorem WU_all : ∀ {V : Us}, (∀ u ∈ V, uOk u) → WU V
  | [], _ => trivial
  | [u], h => .inl (h u (.head _))
  | u :: v :: r, h => ⟨h u (.head _), WU_all fun w hw => h w (.tail _ hw)⟩
/-- outside of the closed quoted stretches -/
def otr : Option Us → Us → Us
  | none, [] => []
  | some p, [] => [34] :: p
  | none, u :: r => if u = [34] then otr (some []) r else u :: otr none r
  | some p, u :: r => if u = [34] then otr none r else otr (some (p ++ [u])) r
theorem WU_cons {u : List Nat} {r : Us} (hu : uOk u) (hr : WU r) : WU (u :: r) := by
  cases r with
  | nil => exact .inl hu
  | cons v r => exact ⟨hu, hr⟩
theorem uOk34 : uOk [34] := .inl ⟨34, by decide, rfl⟩
theorem WU.head {u : List Nat} {r : Us} (h : WU (u :: r)) (hr : r ≠ []) : uOk u := by
  cases r with
  | nil => exact absurd rfl hr
  | cons v r => exact h.1
/-- all in a row of whole units -/
theorem WU_app : ∀ {a b : Us}, (∀ u ∈ a, uOk u) → WU b → WU (a ++ b)
  | [], _, _, h => h
  | u :: a, b, h, hb => WU_cons (h u (.head _)) (WU_app (fun v hv => h v (.tail _ hv)) hb)
theorem otr_WU : ∀ (V : Us), WU V → WU (otr none V) ∧ ∀ p, (∀ u ∈ p, uOk u) → WU (otr (some p) V)
  | [], _ => ⟨trivial, fun p hp => WU_cons uOk34 (WU_all hp)⟩
  | u :: r, h => by
    obtain ⟨i1, i2⟩ := otr_WU r h.tail
    refine ⟨?_, fun p hp => ?_⟩
    · simp only [otr]
      split
      · exact i2 [] fun _ h => by cases h
      · by_cases hr : r = []
        · subst hr; exact h
        · exact WU_cons (h.head hr) i1
    · simp only [otr]
      split
      · exact i1
      · by_cases hr : r = []
        · subst hr
          have : otr (some (p ++ [u])) [] = ([34] :: p) ++ [u] := rfl
          rw [this]
          exact WU_app (fun v hv => by rcases List.mem_cons.mp hv with rfl | hv; exact uOk34; exact hp v hv) h
        · exact i2 _ fun v hv => by
            rcases List.mem_append.mp hv with hv | hv
            · exact hp v hv
            · rw [List.mem_singleton.mp hv]; exact h.head hr
theorem otr_free : ∀ (V : Us), [34] ∉ V → otr none V = V ∧ ∀ p, otr (some p) V = [34] :: (p ++ V)
  | [], _ => ⟨rfl, fun p => by simp [otr]⟩
  | u :: r, h => by
    have hu : u ≠ [34] := fun e => h (by rw [e]; exact .head _)
    obtain ⟨i1, i2⟩ := otr_free r fun q => h (.tail _ q)
    refine ⟨by simp only [otr, hu, if_false, i1], fun p => ?_⟩
    simp only [otr, hu, if_false]
    rw [i2]; simp
theorem otr_app : ∀ (a b : Us), (a.count [34] % 2 = 0 → otr none (a ++ b) = otr none a ++ otr none b) ∧ (a.count [34] % 2 = 1 → ∀ p, otr (some p) (a ++ b) = otr (some p) a ++ otr none b)
  | [], b => ⟨fun _ => rfl, fun h => by simp at h⟩
  | u :: a, b => by
    obtain ⟨i1, i2⟩ := otr_app a b
    by_cases hu : u = [34]
    · subst hu
      simp only [List.cons_append, List.count_cons_self, otr, if_true]
      exact ⟨fun h => i2 (by omega) [], fun h p => i1 (by omega)⟩
    · have hc : (u :: a).count [34] = a.count [34] := by rw [List.count_cons_of_ne hu]
      simp only [List.cons_append, otr, hu, if_false, hc]
      exact ⟨fun h => by rw [i1 h], fun h p => i2 h _⟩
/-- what is left: no mark, or one and none behind it -/
def Lf (V : Us) : Prop := [34] ∉ V ∨ ∃ a p, V = a ++ [34] :: p ∧ [34] ∉ a ∧ [34] ∉ p
/-- brackets that close each other -/
def bal : Nat → Us → Bool
  | k, [] => decide (k = 0)
  | k, u :: r => if u = [40] then bal (k + 1) r else if u = [41] then (if k = 0 then false else bal (k - 1) r) else bal k r
/-- the units of a text -/
def uts (x : List Nat) : Us := (esc 0 false x).map (·.2)
theorem uts_flat (x : List Nat) : (uts x).flatten = x := by
  have : ∀ (x : List Nat) (i : Nat) (b : Bool), ((esc i b x).map (·.2)).flatten = (if b then [92] else []) ++ x := by
    intro x
    induction x with
    | nil => intro i b; cases b <;> rfl
    | cons c x ih =>
      intro i b
      cases b with
      | true => simp [esc, ih]
      | false =>
        by_cases h : c = 92
        · simp only [esc, h, if_true]; rw [ih]; rfl
        · simp [esc, h, ih]
  exact this x 0 false
theorem uts_of {V : Us} (h : WU V) : uts V.flatten = V := by unfold uts; rw [esc_plc V 0 h, plc_snd]
theorem uts_WU (x : List Nat) : WU (uts x) ∧ esc 0 false x = plc 0 (uts x) := by
  have key : ∀ (x : List Nat) (i : Nat), (WU ((esc i false x).map (·.2)) ∧ esc i false x = plc i ((esc i false x).map (·.2))) ∧ (0 < i → (WU ((esc i true x).map (·.2)) ∧ esc i true x = plc (i - 1) ((esc i true x).map (·.2)))) := by
    intro x
    induction x with
    | nil => exact fun i => ⟨⟨trivial, rfl⟩, fun hi => ⟨.inr rfl, by simp [esc, plc]⟩⟩
    | cons c x ih =>
      intro i
      obtain ⟨⟨j1, j2⟩, j3⟩ := ih (i + 1)
      refine ⟨?_, fun hi => ?_⟩
      · by_cases h : c = 92
        · simp only [esc, h, if_true]
          have := j3 (by omega)
          rwa [Nat.add_sub_cancel] at this
        · simp only [esc, h, if_false, List.map_cons]
          refine ⟨WU_cons (.inl ⟨c, h, rfl⟩) j1, ?_⟩
          simp only [plc, List.length_cons, List.length_nil, Nat.zero_add, Nat.add_sub_cancel]
          rw [← j2]
      · simp only [esc, List.map_cons]
        refine ⟨WU_cons (.inr ⟨c, rfl⟩) j1, ?_⟩
        have e1 : i - 1 + 2 = i + 1 := by omega
        simp only [plc, List.length_cons, List.length_nil, Nat.zero_add, Nat.reduceAdd, e1, Nat.add_sub_cancel]
        rw [← j2]
  exact (key x 0).1
/-- what is left of a text, and whether its brackets close -/
def lft (x : List Nat) : List Nat := (otr none (uts x)).flatten
def clo (x : List Nat) : Bool := bal 0 (otr none (uts x))
theorem lft_uts (x : List Nat) : uts (lft x) = otr none (uts x) := uts_of (otr_WU _ (uts_WU x).1).1
theorem lft_len (x : List Nat) : (lft x).length ≤ x.length := by
  have : ∀ (V : Us), (otr none V).flatten.length ≤ V.flatten.length ∧ ∀ p, (otr (some p) V).flatten.length ≤ 1 + p.flatten.length + V.flatten.length := by
    intro V
    induction V with
    | nil => exact ⟨Nat.le_refl _, fun p => by simp [otr]; omega⟩
    | cons u r ih =>
      obtain ⟨i1, i2⟩ := ih
      refine ⟨?_, fun p => ?_⟩
      · simp only [otr]
        split
        · rename_i hu; subst hu; have := i2 []; simp at this ⊢; omega
        · simp at i1 ⊢; omega
      · simp only [otr]
        split
        · simp at i1 ⊢; omega
        · have := i2 (p ++ [u]); simp at this ⊢; omega
  have h := (this (uts x)).1
  rw [uts_flat] at h
  exact h

def sqF (x : List Nat) (a : Nat) (acc : List (List Nat)) (st w : Nat) (rest : Us) (o : PV) : Prop :=
  (o = .none ∧ acc.flatten ++ (x.take w).drop st ++ (otr none rest).flatten = lft x ∧ st ≤ w) ∨
  ∃ (op : Nat) (pend : Us), o = .int op ∧ acc.flatten ++ (x.drop st).take (op - st) ++ (otr (some pend) rest).flatten = lft x ∧ [34] ++ pend.flatten = (x.take w).drop op ∧ st ≤ op ∧ op < w
def sqI (x : List Nat) (a : Nat) (H₀ : AH) (ps : List PV) (ρ : AEnv) (H : AH) : Prop := ∃ (rest : Us) (w st : Nat) (acc : List (List Nat)) (o : PV), ps = (plc w rest).map up ∧ x.take w ++ rest.flatten = x ∧ w ≤ x.length ∧ (∀ u ∈ rest, 0 < u.length) ∧ ρ 0 = some (.str x) ∧ ρ 4 = some (.ref a) ∧ ρ 5 = some (.int (st : Nat)) ∧ ρ 6 = some o ∧
  acc.length ≤ w ∧ sqF x a acc st w rest o ∧ H a = some ⟨acc.map .str, true⟩ ∧ Keep H₀ H
theorem WU_pos : ∀ {V : Us}, WU V → ∀ u ∈ V, 0 < u.length
  | [], _, _, h => by cases h
  | [u], h, v, hv => by
    rw [List.mem_singleton.mp hv]
    rcases h with (⟨c, _, rfl⟩ | ⟨c, rfl⟩) | rfl <;> simp
  | u :: w :: r, h, v, hv => by
    rcases List.mem_cons.mp hv with rfl | hv
    · rcases h.1 with ⟨c, _, rfl⟩ | ⟨c, rfl⟩ <;> simp
    · exact WU_pos h.2 v hv
theorem take_add_unit {x u : List Nat} {r : Us} {w : Nat} (h : x.take w ++ (u :: r).flatten = x) (hw : w ≤ x.length) : x.take (w + u.length) = x.take w ++ u ∧ x.take (w + u.length) ++ r.flatten = x ∧ w + u.length ≤ x.length := by
  have hl : (x.take w).length = w := by simp; omega
  have h' := h
  rw [List.flatten_cons, ← List.append_assoc] at h'
  have e : x.take (w + u.length) = x.take w ++ u := by
    conv => lhs; rw [← h']
    rw [List.take_left' (by simp; omega)]
  refine ⟨e, by rw [e]; exact h', ?_⟩
  have := congrArg List.length h'
  simp at this; omega
theorem sums_le : ∀ acc : List (List Nat), (acc.map List.length).sum = acc.flatten.length := fun acc => by rw [List.length_flatten]
theorem strip_spec {Q : PV → AH → Prop} {H₀ : AH} {x : List Nat} (hx : x.length ≤ 100000) (hQ : ∀ H', Keep H₀ H' → Q (.str (lft x)) H') : f__strip_quoted_realnames [.str x] Q H₀ := by
  refine fn rfl ?_
  walk_at "st"
  by_cases h34 : 34 ∈ x
  · try simp only [eq_true h34, sNil, sAssign, sRet, sRet0, sIf, sExpr, sAugSub, sAug, sCont, gName, gSub, gTup, gTup.go, aVar, aCst, aBin, aUn, aIf, aTup, aList, lCons, lNil, aCall, aMeth, aCmp, aSlice, tCmp, tCmp2, tAnd, tOr, tNot, tVal, tTrue, tFalse, upd_at, if_true, if_false, Bool.false_eq_true, decide_true, decide_false, decide_eq_true_eq, opItem, opAdd, opIAdd, opIAddX, opSub, opMul, opDiv, opMod, opNeg, cmpOp, cmpLt, cmpIn, cmpIs, eq_int, eq_str, eq_bool, occ_one, truth, kList, kStr, fLen, fRange, fList, fTuple, fChr, fSJoin, fAll, fAny, fCount, fSRstrip, fSum, fMin, joinL_nil, fAppend, fInsert, fPop, withOwn, withItems, setAt, nth_zero, nth_one, nth_two, nth_last, kOk, bindP, List.length_cons, List.length_nil, List.isEmpty_cons, List.isEmpty_nil, List.map_nil, List.map_cons, Nat.reduceAdd, Nat.reduceEqDiff, Nat.succ_ne_self, Int.reduceNeg, Int.reduceLE, Int.reduceLT, Int.reduceEq, Int.cast_ofNat_Int, Int.toNat_zero, Int.toNat_one, Int.reduceToNat, Int.le_refl, List.getElem?_cons_zero, List.getElem?_cons_succ, reduceIte, reduceCtorEq, true_and, and_true, and_self, not_true_eq_false, not_false_eq_true, Bool.not_true, Bool.not_false, Bool.not_eq_true, Bool.not_eq_false, ne_eq, decide_not]
    refine after_next ?_
    walk_at "st"
    (try simp only [sCons, sNil, sAssign, sRet, sRet0, sIf, sExpr, sFor, sAugSub, sAug, sCont, gName, gSub, gTup, gTup.go, aVar, aCst, aBin, aUn, aIf, aTup, aList, lCons, lNil, aCall, aMeth, aCmp, aSlice, tCmp, tCmp2, tAnd, tOr, tNot, tVal, tTrue, tFalse, upd_at, if_true, if_false, Bool.false_eq_true, decide_true, decide_false, decide_eq_true_eq, opItem, opAdd, opIAdd, opIAddX, opSub, opMul, opDiv, opMod, opNeg, cmpOp, cmpLt, cmpIn, cmpIs, eq_int, eq_str, eq_bool, occ_one, truth, kList, kStr, fLen, fRange, fList, fTuple, fChr, fSJoin, fAll, fAny, fCount, fSRstrip, fSum, fMin, joinL_nil, fAppend, fInsert, fPop, withOwn, withItems, setAt, nth_zero, nth_one, nth_two, nth_last, kOk, bindP, List.length_cons, List.length_nil, List.isEmpty_cons, List.isEmpty_nil, List.map_nil, List.map_cons, Nat.reduceAdd, Nat.reduceEqDiff, Nat.succ_ne_self, Int.reduceNeg, Int.reduceLE, Int.reduceLT, Int.reduceEq, Int.cast_ofNat_Int, Int.toNat_zero, Int.toNat_one, Int.reduceToNat, Int.le_refl, List.getElem?_cons_zero, List.getElem?_cons_succ, reduceIte, reduceCtorEq, true_and, and_true, and_self, not_true_eq_false, not_false_eq_true, Bool.not_true, Bool.not_false, Bool.not_eq_true, Bool.not_eq_false, ne_eq, decide_not])
    refine after_next ?_
    walk_at "st"
    (try simp only [sCons, sNil, sAssign, sRet, sRet0, sIf, sExpr, sFor, sAugSub, sAug, sCont, gName, gSub, gTup, gTup.go, aVar, aCst, aBin, aUn, aIf, aTup, aList, lCons, lNil, aCall, aMeth, aCmp, aSlice, tCmp, tCmp2, tAnd, tOr, tNot, tVal, tTrue, tFalse, upd_at, if_true, if_false, Bool.false_eq_true, decide_true, decide_false, decide_eq_true_eq, opItem, opAdd, opIAdd, opIAddX, opSub, opMul, opDiv, opMod, opNeg, cmpOp, cmpLt, cmpIn, cmpIs, eq_int, eq_str, eq_bool, occ_one, truth, kList, kStr, fLen, fRange, fList, fTuple, fChr, fSJoin, fAll, fAny, fCount, fSRstrip, fSum, fMin, joinL_nil, fAppend, fInsert, fPop, withOwn, withItems, setAt, nth_zero, nth_one, nth_two, nth_last, kOk, bindP, List.length_cons, List.length_nil, List.isEmpty_cons, List.isEmpty_nil, List.map_nil, List.map_cons, Nat.reduceAdd, Nat.reduceEqDiff, Nat.succ_ne_self, Int.reduceNeg, Int.reduceLE, Int.reduceLT, Int.reduceEq, Int.cast_ofNat_Int, Int.toNat_zero, Int.toNat_one, Int.reduceToNat, Int.le_refl, List.getElem?_cons_zero, List.getElem?_cons_succ, reduceIte, reduceCtorEq, true_and, and_true, and_self, not_true_eq_false, not_false_eq_true, Bool.not_true, Bool.not_false, Bool.not_eq_true, Bool.not_eq_false, ne_eq, decide_not])
    refine after_next ?_
    walk_at "st"
    (try simp only [sCons, sNil, sAssign, sRet, sRet0, sIf, sExpr, sFor, sAugSub, sAug, sCont, gName, gSub, gTup, gTup.go, aVar, aCst, aBin, aUn, aIf, aTup, aList, lCons, lNil, aCall, aMeth, aCmp, aSlice, tCmp, tCmp2, tAnd, tOr, tNot, tVal, tTrue, tFalse, upd_at, if_true, if_false, Bool.false_eq_true, decide_true, decide_false, decide_eq_true_eq, opItem, opAdd, opIAdd, opIAddX, opSub, opMul, opDiv, opMod, opNeg, cmpOp, cmpLt, cmpIn, cmpIs, eq_int, eq_str, eq_bool, occ_one, truth, kList, kStr, fLen, fRange, fList, fTuple, fChr, fSJoin, fAll, fAny, fCount, fSRstrip, fSum, fMin, joinL_nil, fAppend, fInsert, fPop, withOwn, withItems, setAt, nth_zero, nth_one, nth_two, nth_last, kOk, bindP, List.length_cons, List.length_nil, List.isEmpty_cons, List.isEmpty_nil, List.map_nil, List.map_cons, Nat.reduceAdd, Nat.reduceEqDiff, Nat.succ_ne_self, Int.reduceNeg, Int.reduceLE, Int.reduceLT, Int.reduceEq, Int.cast_ofNat_Int, Int.toNat_zero, Int.toNat_one, Int.reduceToNat, Int.le_refl, List.getElem?_cons_zero, List.getElem?_cons_succ, reduceIte, reduceCtorEq, true_and, and_true, and_self, not_true_eq_false, not_false_eq_true, Bool.not_true, Bool.not_false, Bool.not_eq_true, Bool.not_eq_false, ne_eq, decide_not])
    refine ⟨by simp [szOk], fun a ha => after_next ?_⟩
    walk_at "st"
    simp only [sForG]
    (try simp only [sCons, sNil, sAssign, sRet, sRet0, sIf, sExpr, sFor, sAugSub, sAug, sCont, gName, gSub, gTup, gTup.go, aVar, aCst, aBin, aUn, aIf, aTup, aList, lCons, lNil, aCall, aMeth, aCmp, aSlice, tCmp, tCmp2, tAnd, tOr, tNot, tVal, tTrue, tFalse, upd_at, if_true, if_false, Bool.false_eq_true, decide_true, decide_false, decide_eq_true_eq, opItem, opAdd, opIAdd, opIAddX, opSub, opMul, opDiv, opMod, opNeg, cmpOp, cmpLt, cmpIn, cmpIs, eq_int, eq_str, eq_bool, occ_one, truth, kList, kStr, fLen, fRange, fList, fTuple, fChr, fSJoin, fAll, fAny, fCount, fSRstrip, fSum, fMin, joinL_nil, fAppend, fInsert, fPop, withOwn, withItems, setAt, nth_zero, nth_one, nth_two, nth_last, kOk, bindP, List.length_cons, List.length_nil, List.isEmpty_cons, List.isEmpty_nil, List.map_nil, List.map_cons, Nat.reduceAdd, Nat.reduceEqDiff, Nat.succ_ne_self, Int.reduceNeg, Int.reduceLE, Int.reduceLT, Int.reduceEq, Int.cast_ofNat_Int, Int.toNat_zero, Int.toNat_one, Int.reduceToNat, Int.le_refl, List.getElem?_cons_zero, List.getElem?_cons_succ, reduceIte, reduceCtorEq, true_and, and_true, and_self, not_true_eq_false, not_false_eq_true, Bool.not_true, Bool.not_false, Bool.not_eq_true, Bool.not_eq_false, ne_eq, decide_not])
    refine ⟨_, iter_gen x, ?_⟩
    obtain ⟨w1, w2⟩ := uts_WU x
    rw [w2]
    refine forL_inv (mg_tup (.cons mg_name (.cons mg_name .nil))) m_l__strip_quoted_realnames_6 (sqI x a H₀) ?_ ?_ _ _ _ ⟨uts x, 0, 0, [], .none, rfl, by simp [uts_flat], Nat.zero_le _, WU_pos w1, rfl, rfl, rfl, rfl, Nat.le_refl _, .inl ⟨rfl, by simp [lft], Nat.le_refl _⟩, upd_same _ _ _, Keep.new ha⟩
    · rintro p ps ρ H ⟨rest, w, st, acc, o, e1, e2, e3, epos, r0, r4, r5, r6, eal, eF, ea, ek⟩
      obtain ⟨u, rest, rfl⟩ : ∃ q r, rest = q :: r := by cases rest with | nil => cases e1 | cons q r => exact ⟨q, r, rfl⟩
      obtain ⟨rfl, rfl⟩ := List.cons.inj e1
      obtain ⟨t1, t2, t3⟩ := take_add_unit e2 e3
      have hup := epos u (.head _)
      have epos' : ∀ v ∈ rest, 0 < v.length := fun v hv => epos v (.tail _ hv)
      have goOn : ∀ (ρ' : AEnv) (H' : AH) (st' : Nat) (acc' : List (List Nat)) (o' : PV), ρ' 0 = some (.str x) → ρ' 4 = some (.ref a) → ρ' 5 = some (.int (st' : Nat)) → ρ' 6 = some o' → acc'.length ≤ w + u.length → sqF x a acc' st' (w + u.length) rest o' → H' a = some ⟨acc'.map .str, true⟩ → Keep H₀ H' → sqI x a H₀ ((plc (w + u.length) rest).map up) ρ' H' :=
        fun ρ' H' st' acc' o' q0 q4 q5 q6 ql qF qa qk => ⟨rest, w + u.length, st', acc', o', rfl, t2, t3, epos', q0, q4, q5, q6, ql, qF, qa, qk⟩
      simp only [up, l__strip_quoted_realnames_6]
      by_cases hu : u = [34]
      · subst hu
        have ep : ((w + [34].length - 1 : Nat) : Int) = (w : Nat) := by simp
        simp only [ep]
        have egu : (x.take (w + 1)).drop w = [34] := by
          rw [show w + 1 = w + [34].length from rfl, t1, List.drop_left' (by simp; omega)]
        (try simp only [sCons, sNil, sAssign, sRet, sRet0, sIf, sExpr, sFor, sAugSub, sAug, sCont, gName, gSub, gTup, gTup.go, aVar, aCst, aBin, aUn, aIf, aTup, aList, lCons, lNil, aCall, aMeth, aCmp, aSlice, tCmp, tCmp2, tAnd, tOr, tNot, tVal, tTrue, tFalse, upd_at, if_true, if_false, Bool.false_eq_true, decide_true, decide_false, decide_eq_true_eq, opItem, opAdd, opIAdd, opIAddX, opSub, opMul, opDiv, opMod, opNeg, cmpOp, cmpLt, cmpIn, cmpIs, eq_int, eq_str, eq_bool, occ_one, truth, kList, kStr, fLen, fRange, fList, fTuple, fChr, fSJoin, fAll, fAny, fCount, fSRstrip, fSum, fMin, joinL_nil, fAppend, fInsert, fPop, withOwn, withItems, setAt, nth_zero, nth_one, nth_two, nth_last, kOk, bindP, List.length_cons, List.length_nil, List.isEmpty_cons, List.isEmpty_nil, List.map_nil, List.map_cons, Nat.reduceAdd, Nat.reduceEqDiff, Nat.succ_ne_self, Int.reduceNeg, Int.reduceLE, Int.reduceLT, Int.reduceEq, Int.cast_ofNat_Int, Int.toNat_zero, Int.toNat_one, Int.reduceToNat, Int.le_refl, List.getElem?_cons_zero, List.getElem?_cons_succ, reduceIte, reduceCtorEq, true_and, and_true, and_self, not_true_eq_false, not_false_eq_true, Bool.not_true, Bool.not_false, Bool.not_eq_true, Bool.not_eq_false, ne_eq, decide_not])
        try simp only [l__strip_quoted_realnames_5, sNil, sAssign, sRet, sRet0, sIf, sExpr, sAugSub, sAug, sCont, gName, gSub, gTup, gTup.go, aVar, aCst, aBin, aUn, aIf, aTup, aList, lCons, lNil, aCall, aMeth, aCmp, aSlice, tCmp, tCmp2, tAnd, tOr, tNot, tVal, tTrue, tFalse, upd_at, if_true, if_false, Bool.false_eq_true, decide_true, decide_false, decide_eq_true_eq, opItem, opAdd, opIAdd, opIAddX, opSub, opMul, opDiv, opMod, opNeg, cmpOp, cmpLt, cmpIn, cmpIs, eq_int, eq_str, eq_bool, occ_one, truth, kList, kStr, fLen, fRange, fList, fTuple, fChr, fSJoin, fAll, fAny, fCount, fSRstrip, fSum, fMin, joinL_nil, fAppend, fInsert, fPop, withOwn, withItems, setAt, nth_zero, nth_one, nth_two, nth_last, kOk, bindP, List.length_cons, List.length_nil, List.isEmpty_cons, List.isEmpty_nil, List.map_nil, List.map_cons, Nat.reduceAdd, Nat.reduceEqDiff, Nat.succ_ne_self, Int.reduceNeg, Int.reduceLE, Int.reduceLT, Int.reduceEq, Int.cast_ofNat_Int, Int.toNat_zero, Int.toNat_one, Int.reduceToNat, Int.le_refl, List.getElem?_cons_zero, List.getElem?_cons_succ, reduceIte, reduceCtorEq, true_and, and_true, and_self, not_true_eq_false, not_false_eq_true, Bool.not_true, Bool.not_false, Bool.not_eq_true, Bool.not_eq_false, ne_eq, decide_not]
        rcases eF with ⟨rfl, f1, f2⟩ | ⟨op, pend, rfl, f1, f2, f3, f4⟩
        · (try simp only [sCons, sNil, sAssign, sRet, sRet0, sIf, sExpr, sFor, sAugSub, sAug, sCont, gName, gSub, gTup, gTup.go, aVar, aCst, aBin, aUn, aIf, aTup, aList, lCons, lNil, aCall, aMeth, aCmp, aSlice, tCmp, tCmp2, tAnd, tOr, tNot, tVal, tTrue, tFalse, upd_at, if_true, if_false, Bool.false_eq_true, decide_true, decide_false, decide_eq_true_eq, opItem, opAdd, opIAdd, opIAddX, opSub, opMul, opDiv, opMod, opNeg, cmpOp, cmpLt, cmpIn, cmpIs, eq_int, eq_str, eq_bool, occ_one, truth, kList, kStr, fLen, fRange, fList, fTuple, fChr, fSJoin, fAll, fAny, fCount, fSRstrip, fSum, fMin, joinL_nil, fAppend, fInsert, fPop, withOwn, withItems, setAt, nth_zero, nth_one, nth_two, nth_last, kOk, bindP, List.length_cons, List.length_nil, List.isEmpty_cons, List.isEmpty_nil, List.map_nil, List.map_cons, Nat.reduceAdd, Nat.reduceEqDiff, Nat.succ_ne_self, Int.reduceNeg, Int.reduceLE, Int.reduceLT, Int.reduceEq, Int.cast_ofNat_Int, Int.toNat_zero, Int.toNat_one, Int.reduceToNat, Int.le_refl, List.getElem?_cons_zero, List.getElem?_cons_succ, reduceIte, reduceCtorEq, true_and, and_true, and_self, not_true_eq_false, not_false_eq_true, Bool.not_true, Bool.not_false, Bool.not_eq_true, Bool.not_eq_false, ne_eq, decide_not])
          try simp only [r6, l__strip_quoted_realnames_2, sNil, sAssign, sRet, sRet0, sIf, sExpr, sAugSub, sAug, sCont, gName, gSub, gTup, gTup.go, aVar, aCst, aBin, aUn, aIf, aTup, aList, lCons, lNil, aCall, aMeth, aCmp, aSlice, tCmp, tCmp2, tAnd, tOr, tNot, tVal, tTrue, tFalse, upd_at, if_true, if_false, Bool.false_eq_true, decide_true, decide_false, decide_eq_true_eq, opItem, opAdd, opIAdd, opIAddX, opSub, opMul, opDiv, opMod, opNeg, cmpOp, cmpLt, cmpIn, cmpIs, eq_int, eq_str, eq_bool, occ_one, truth, kList, kStr, fLen, fRange, fList, fTuple, fChr, fSJoin, fAll, fAny, fCount, fSRstrip, fSum, fMin, joinL_nil, fAppend, fInsert, fPop, withOwn, withItems, setAt, nth_zero, nth_one, nth_two, nth_last, kOk, bindP, List.length_cons, List.length_nil, List.isEmpty_cons, List.isEmpty_nil, List.map_nil, List.map_cons, Nat.reduceAdd, Nat.reduceEqDiff, Nat.succ_ne_self, Int.reduceNeg, Int.reduceLE, Int.reduceLT, Int.reduceEq, Int.cast_ofNat_Int, Int.toNat_zero, Int.toNat_one, Int.reduceToNat, Int.le_refl, List.getElem?_cons_zero, List.getElem?_cons_succ, reduceIte, reduceCtorEq, true_and, and_true, and_self, not_true_eq_false, not_false_eq_true, Bool.not_true, Bool.not_false, Bool.not_eq_true, Bool.not_eq_false, ne_eq, decide_not]
          (try simp only [sCons, sNil, sAssign, sRet, sRet0, sIf, sExpr, sFor, sAugSub, sAug, sCont, gName, gSub, gTup, gTup.go, aVar, aCst, aBin, aUn, aIf, aTup, aList, lCons, lNil, aCall, aMeth, aCmp, aSlice, tCmp, tCmp2, tAnd, tOr, tNot, tVal, tTrue, tFalse, upd_at, if_true, if_false, Bool.false_eq_true, decide_true, decide_false, decide_eq_true_eq, opItem, opAdd, opIAdd, opIAddX, opSub, opMul, opDiv, opMod, opNeg, cmpOp, cmpLt, cmpIn, cmpIs, eq_int, eq_str, eq_bool, occ_one, truth, kList, kStr, fLen, fRange, fList, fTuple, fChr, fSJoin, fAll, fAny, fCount, fSRstrip, fSum, fMin, joinL_nil, fAppend, fInsert, fPop, withOwn, withItems, setAt, nth_zero, nth_one, nth_two, nth_last, kOk, bindP, List.length_cons, List.length_nil, List.isEmpty_cons, List.isEmpty_nil, List.map_nil, List.map_cons, Nat.reduceAdd, Nat.reduceEqDiff, Nat.succ_ne_self, Int.reduceNeg, Int.reduceLE, Int.reduceLT, Int.reduceEq, Int.cast_ofNat_Int, Int.toNat_zero, Int.toNat_one, Int.reduceToNat, Int.le_refl, List.getElem?_cons_zero, List.getElem?_cons_succ, reduceIte, reduceCtorEq, true_and, and_true, and_self, not_true_eq_false, not_false_eq_true, Bool.not_true, Bool.not_false, Bool.not_eq_true, Bool.not_eq_false, ne_eq, decide_not])
          refine goOn _ _ st acc (.int (w : Nat)) (by simp [upd_at, r0]) (by simp [upd_at, r4]) (by simp [upd_at, r5]) (by simp [upd_at]) (by simp; omega) (.inr ⟨w, [], rfl, ?_, ?_, f2, by simp⟩) ea ek
          · have : (x.take w).drop st = (x.drop st).take (w - st) := by rw [List.drop_take]
            rw [← this]
            simpa [otr] using f1
          · simpa using egu.symm
        · (try simp only [sCons, sNil, sAssign, sRet, sRet0, sIf, sExpr, sFor, sAugSub, sAug, sCont, gName, gSub, gTup, gTup.go, aVar, aCst, aBin, aUn, aIf, aTup, aList, lCons, lNil, aCall, aMeth, aCmp, aSlice, tCmp, tCmp2, tAnd, tOr, tNot, tVal, tTrue, tFalse, upd_at, if_true, if_false, Bool.false_eq_true, decide_true, decide_false, decide_eq_true_eq, opItem, opAdd, opIAdd, opIAddX, opSub, opMul, opDiv, opMod, opNeg, cmpOp, cmpLt, cmpIn, cmpIs, eq_int, eq_str, eq_bool, occ_one, truth, kList, kStr, fLen, fRange, fList, fTuple, fChr, fSJoin, fAll, fAny, fCount, fSRstrip, fSum, fMin, joinL_nil, fAppend, fInsert, fPop, withOwn, withItems, setAt, nth_zero, nth_one, nth_two, nth_last, kOk, bindP, List.length_cons, List.length_nil, List.isEmpty_cons, List.isEmpty_nil, List.map_nil, List.map_cons, Nat.reduceAdd, Nat.reduceEqDiff, Nat.succ_ne_self, Int.reduceNeg, Int.reduceLE, Int.reduceLT, Int.reduceEq, Int.cast_ofNat_Int, Int.toNat_zero, Int.toNat_one, Int.reduceToNat, Int.le_refl, List.getElem?_cons_zero, List.getElem?_cons_succ, reduceIte, reduceCtorEq, true_and, and_true, and_self, not_true_eq_false, not_false_eq_true, Bool.not_true, Bool.not_false, Bool.not_eq_true, Bool.not_eq_false, ne_eq, decide_not])
          try simp only [r6, l__strip_quoted_realnames_4, sNil, sAssign, sRet, sRet0, sIf, sExpr, sAugSub, sAug, sCont, gName, gSub, gTup, gTup.go, aVar, aCst, aBin, aUn, aIf, aTup, aList, lCons, lNil, aCall, aMeth, aCmp, aSlice, tCmp, tCmp2, tAnd, tOr, tNot, tVal, tTrue, tFalse, upd_at, if_true, if_false, Bool.false_eq_true, decide_true, decide_false, decide_eq_true_eq, opItem, opAdd, opIAdd, opIAddX, opSub, opMul, opDiv, opMod, opNeg, cmpOp, cmpLt, cmpIn, cmpIs, eq_int, eq_str, eq_bool, occ_one, truth, kList, kStr, fLen, fRange, fList, fTuple, fChr, fSJoin, fAll, fAny, fCount, fSRstrip, fSum, fMin, joinL_nil, fAppend, fInsert, fPop, withOwn, withItems, setAt, nth_zero, nth_one, nth_two, nth_last, kOk, bindP, List.length_cons, List.length_nil, List.isEmpty_cons, List.isEmpty_nil, List.map_nil, List.map_cons, Nat.reduceAdd, Nat.reduceEqDiff, Nat.succ_ne_self, Int.reduceNeg, Int.reduceLE, Int.reduceLT, Int.reduceEq, Int.cast_ofNat_Int, Int.toNat_zero, Int.toNat_one, Int.reduceToNat, Int.le_refl, List.getElem?_cons_zero, List.getElem?_cons_succ, reduceIte, reduceCtorEq, true_and, and_true, and_self, not_true_eq_false, not_false_eq_true, Bool.not_true, Bool.not_false, Bool.not_eq_true, Bool.not_eq_false, ne_eq, decide_not]
          have fin : ∀ (ρ' : AEnv) (H' : AH) (acc' : List (List Nat)), ρ' 0 = some (.str x) → ρ' 4 = some (.ref a) → ρ' 5 = some (.int ((w : Int) + 1)) → ρ' 6 = some .none → acc'.length ≤ w + 1 → acc'.flatten = acc.flatten ++ (x.drop st).take (op - st) → H' a = some ⟨acc'.map .str, true⟩ → Keep H₀ H' → sqI x a H₀ ((plc (w + [34].length) rest).map up) ρ' H' := by
            intro ρ' H' acc' q0 q4 q5 q6 ql qe qa qk
            refine goOn ρ' H' (w + 1) acc' .none q0 q4 q5 q6 (by simpa using ql) (.inl ⟨rfl, ?_, by simp⟩) qa qk
            have : (x.take (w + [34].length)).drop (w + 1) = [] := List.drop_eq_nil_of_le (by simp; omega)
            rw [this, qe]
            simpa [otr] using f1
          (try simp only [sCons, sNil, sAssign, sRet, sRet0, sIf, sExpr, sFor, sAugSub, sAug, sCont, gName, gSub, gTup, gTup.go, aVar, aCst, aBin, aUn, aIf, aTup, aList, lCons, lNil, aCall, aMeth, aCmp, aSlice, tCmp, tCmp2, tAnd, tOr, tNot, tVal, tTrue, tFalse, upd_at, if_true, if_false, Bool.false_eq_true, decide_true, decide_false, decide_eq_true_eq, opItem, opAdd, opIAdd, opIAddX, opSub, opMul, opDiv, opMod, opNeg, cmpOp, cmpLt, cmpIn, cmpIs, eq_int, eq_str, eq_bool, occ_one, truth, kList, kStr, fLen, fRange, fList, fTuple, fChr, fSJoin, fAll, fAny, fCount, fSRstrip, fSum, fMin, joinL_nil, fAppend, fInsert, fPop, withOwn, withItems, setAt, nth_zero, nth_one, nth_two, nth_last, kOk, bindP, List.length_cons, List.length_nil, List.isEmpty_cons, List.isEmpty_nil, List.map_nil, List.map_cons, Nat.reduceAdd, Nat.reduceEqDiff, Nat.succ_ne_self, Int.reduceNeg, Int.reduceLE, Int.reduceLT, Int.reduceEq, Int.cast_ofNat_Int, Int.toNat_zero, Int.toNat_one, Int.reduceToNat, Int.le_refl, List.getElem?_cons_zero, List.getElem?_cons_succ, reduceIte, reduceCtorEq, true_and, and_true, and_self, not_true_eq_false, not_false_eq_true, Bool.not_true, Bool.not_false, Bool.not_eq_true, Bool.not_eq_false, ne_eq, decide_not])
          by_cases hso : (st : Int) = (op : Int)
          · have hso' : st = op := by omega
            try simp only [r5, r6, eq_true hso, sNil, sAssign, sRet, sRet0, sIf, sExpr, sAugSub, sAug, sCont, gName, gSub, gTup, gTup.go, aVar, aCst, aBin, aUn, aIf, aTup, aList, lCons, lNil, aCall, aMeth, aCmp, aSlice, tCmp, tCmp2, tAnd, tOr, tNot, tVal, tTrue, tFalse, upd_at, if_true, if_false, Bool.false_eq_true, decide_true, decide_false, decide_eq_true_eq, opItem, opAdd, opIAdd, opIAddX, opSub, opMul, opDiv, opMod, opNeg, cmpOp, cmpLt, cmpIn, cmpIs, eq_int, eq_str, eq_bool, occ_one, truth, kList, kStr, fLen, fRange, fList, fTuple, fChr, fSJoin, fAll, fAny, fCount, fSRstrip, fSum, fMin, joinL_nil, fAppend, fInsert, fPop, withOwn, withItems, setAt, nth_zero, nth_one, nth_two, nth_last, kOk, bindP, List.length_cons, List.length_nil, List.isEmpty_cons, List.isEmpty_nil, List.map_nil, List.map_cons, Nat.reduceAdd, Nat.reduceEqDiff, Nat.succ_ne_self, Int.reduceNeg, Int.reduceLE, Int.reduceLT, Int.reduceEq, Int.cast_ofNat_Int, Int.toNat_zero, Int.toNat_one, Int.reduceToNat, Int.le_refl, List.getElem?_cons_zero, List.getElem?_cons_succ, reduceIte, reduceCtorEq, true_and, and_true, and_self, not_true_eq_false, not_false_eq_true, Bool.not_true, Bool.not_false, Bool.not_eq_true, Bool.not_eq_false, ne_eq, decide_not]
            refine fin _ _ acc (by simp [upd_at, r0]) (by simp [upd_at, r4]) (by simp [upd_at]) (by simp [upd_at]) (by omega) ?_ ea ek
            rw [hso']; simp
          · try simp only [r5, r6, eq_false hso, l__strip_quoted_realnames_3, sNil, sAssign, sRet, sRet0, sIf, sExpr, sAugSub, sAug, sCont, gName, gSub, gTup, gTup.go, aVar, aCst, aBin, aUn, aIf, aTup, aList, lCons, lNil, aCall, aMeth, aCmp, aSlice, tCmp, tCmp2, tAnd, tOr, tNot, tVal, tTrue, tFalse, upd_at, if_true, if_false, Bool.false_eq_true, decide_true, decide_false, decide_eq_true_eq, opItem, opAdd, opIAdd, opIAddX, opSub, opMul, opDiv, opMod, opNeg, cmpOp, cmpLt, cmpIn, cmpIs, eq_int, eq_str, eq_bool, occ_one, truth, kList, kStr, fLen, fRange, fList, fTuple, fChr, fSJoin, fAll, fAny, fCount, fSRstrip, fSum, fMin, joinL_nil, fAppend, fInsert, fPop, withOwn, withItems, setAt, nth_zero, nth_one, nth_two, nth_last, kOk, bindP, List.length_cons, List.length_nil, List.isEmpty_cons, List.isEmpty_nil, List.map_nil, List.map_cons, Nat.reduceAdd, Nat.reduceEqDiff, Nat.succ_ne_self, Int.reduceNeg, Int.reduceLE, Int.reduceLT, Int.reduceEq, Int.cast_ofNat_Int, Int.toNat_zero, Int.toNat_one, Int.reduceToNat, Int.le_refl, List.getElem?_cons_zero, List.getElem?_cons_succ, reduceIte, reduceCtorEq, true_and, and_true, and_self, not_true_eq_false, not_false_eq_true, Bool.not_true, Bool.not_false, Bool.not_eq_true, Bool.not_eq_false, ne_eq, decide_not]
            (try simp only [sCons, sNil, sAssign, sRet, sRet0, sIf, sExpr, sFor, sAugSub, sAug, sCont, gName, gSub, gTup, gTup.go, aVar, aCst, aBin, aUn, aIf, aTup, aList, lCons, lNil, aCall, aMeth, aCmp, aSlice, tCmp, tCmp2, tAnd, tOr, tNot, tVal, tTrue, tFalse, upd_at, if_true, if_false, Bool.false_eq_true, decide_true, decide_false, decide_eq_true_eq, opItem, opAdd, opIAdd, opIAddX, opSub, opMul, opDiv, opMod, opNeg, cmpOp, cmpLt, cmpIn, cmpIs, eq_int, eq_str, eq_bool, occ_one, truth, kList, kStr, fLen, fRange, fList, fTuple, fChr, fSJoin, fAll, fAny, fCount, fSRstrip, fSum, fMin, joinL_nil, fAppend, fInsert, fPop, withOwn, withItems, setAt, nth_zero, nth_one, nth_two, nth_last, kOk, bindP, List.length_cons, List.length_nil, List.isEmpty_cons, List.isEmpty_nil, List.map_nil, List.map_cons, Nat.reduceAdd, Nat.reduceEqDiff, Nat.succ_ne_self, Int.reduceNeg, Int.reduceLE, Int.reduceLT, Int.reduceEq, Int.cast_ofNat_Int, Int.toNat_zero, Int.toNat_one, Int.reduceToNat, Int.le_refl, List.getElem?_cons_zero, List.getElem?_cons_succ, reduceIte, reduceCtorEq, true_and, and_true, and_self, not_true_eq_false, not_false_eq_true, Bool.not_true, Bool.not_false, Bool.not_eq_true, Bool.not_eq_false, ne_eq, decide_not])
            try simp only [r0, r4, r5, r6, ea, opSlice, partOf, slc_mid, sNil, sAssign, sRet, sRet0, sIf, sExpr, sAugSub, sAug, sCont, gName, gSub, gTup, gTup.go, aVar, aCst, aBin, aUn, aIf, aTup, aList, lCons, lNil, aCall, aMeth, aCmp, aSlice, tCmp, tCmp2, tAnd, tOr, tNot, tVal, tTrue, tFalse, upd_at, if_true, if_false, Bool.false_eq_true, decide_true, decide_false, decide_eq_true_eq, opItem, opAdd, opIAdd, opIAddX, opSub, opMul, opDiv, opMod, opNeg, cmpOp, cmpLt, cmpIn, cmpIs, eq_int, eq_str, eq_bool, occ_one, truth, kList, kStr, fLen, fRange, fList, fTuple, fChr, fSJoin, fAll, fAny, fCount, fSRstrip, fSum, fMin, joinL_nil, fAppend, fInsert, fPop, withOwn, withItems, setAt, nth_zero, nth_one, nth_two, nth_last, kOk, bindP, List.length_cons, List.length_nil, List.isEmpty_cons, List.isEmpty_nil, List.map_nil, List.map_cons, Nat.reduceAdd, Nat.reduceEqDiff, Nat.succ_ne_self, Int.reduceNeg, Int.reduceLE, Int.reduceLT, Int.reduceEq, Int.cast_ofNat_Int, Int.toNat_zero, Int.toNat_one, Int.reduceToNat, Int.le_refl, List.getElem?_cons_zero, List.getElem?_cons_succ, reduceIte, reduceCtorEq, true_and, and_true, and_self, not_true_eq_false, not_false_eq_true, Bool.not_true, Bool.not_false, Bool.not_eq_true, Bool.not_eq_false, ne_eq, decide_not]
            refine ⟨by simp only [szOk]; omega, by simp [szOk]; omega, ?_⟩
            refine fin _ _ (acc ++ [(x.drop st).take (op - st)]) (by simp [upd_at, r0]) (by simp [upd_at, r4]) (by simp [upd_at]) (by simp [upd_at]) (by simp; omega) (by simp) (by simp [upd_at]) (ek.upd ha)
      · (try simp only [sCons, sNil, sAssign, sRet, sRet0, sIf, sExpr, sFor, sAugSub, sAug, sCont, gName, gSub, gTup, gTup.go, aVar, aCst, aBin, aUn, aIf, aTup, aList, lCons, lNil, aCall, aMeth, aCmp, aSlice, tCmp, tCmp2, tAnd, tOr, tNot, tVal, tTrue, tFalse, upd_at, if_true, if_false, Bool.false_eq_true, decide_true, decide_false, decide_eq_true_eq, opItem, opAdd, opIAdd, opIAddX, opSub, opMul, opDiv, opMod, opNeg, cmpOp, cmpLt, cmpIn, cmpIs, eq_int, eq_str, eq_bool, occ_one, truth, kList, kStr, fLen, fRange, fList, fTuple, fChr, fSJoin, fAll, fAny, fCount, fSRstrip, fSum, fMin, joinL_nil, fAppend, fInsert, fPop, withOwn, withItems, setAt, nth_zero, nth_one, nth_two, nth_last, kOk, bindP, List.length_cons, List.length_nil, List.isEmpty_cons, List.isEmpty_nil, List.map_nil, List.map_cons, Nat.reduceAdd, Nat.reduceEqDiff, Nat.succ_ne_self, Int.reduceNeg, Int.reduceLE, Int.reduceLT, Int.reduceEq, Int.cast_ofNat_Int, Int.toNat_zero, Int.toNat_one, Int.reduceToNat, Int.le_refl, List.getElem?_cons_zero, List.getElem?_cons_succ, reduceIte, reduceCtorEq, true_and, and_true, and_self, not_true_eq_false, not_false_eq_true, Bool.not_true, Bool.not_false, Bool.not_eq_true, Bool.not_eq_false, ne_eq, decide_not])
        try simp only [eq_false hu, sNil, sAssign, sRet, sRet0, sIf, sExpr, sAugSub, sAug, sCont, gName, gSub, gTup, gTup.go, aVar, aCst, aBin, aUn, aIf, aTup, aList, lCons, lNil, aCall, aMeth, aCmp, aSlice, tCmp, tCmp2, tAnd, tOr, tNot, tVal, tTrue, tFalse, upd_at, if_true, if_false, Bool.false_eq_true, decide_true, decide_false, decide_eq_true_eq, opItem, opAdd, opIAdd, opIAddX, opSub, opMul, opDiv, opMod, opNeg, cmpOp, cmpLt, cmpIn, cmpIs, eq_int, eq_str, eq_bool, occ_one, truth, kList, kStr, fLen, fRange, fList, fTuple, fChr, fSJoin, fAll, fAny, fCount, fSRstrip, fSum, fMin, joinL_nil, fAppend, fInsert, fPop, withOwn, withItems, setAt, nth_zero, nth_one, nth_two, nth_last, kOk, bindP, List.length_cons, List.length_nil, List.isEmpty_cons, List.isEmpty_nil, List.map_nil, List.map_cons, Nat.reduceAdd, Nat.reduceEqDiff, Nat.succ_ne_self, Int.reduceNeg, Int.reduceLE, Int.reduceLT, Int.reduceEq, Int.cast_ofNat_Int, Int.toNat_zero, Int.toNat_one, Int.reduceToNat, Int.le_refl, List.getElem?_cons_zero, List.getElem?_cons_succ, reduceIte, reduceCtorEq, true_and, and_true, and_self, not_true_eq_false, not_false_eq_true, Bool.not_true, Bool.not_false, Bool.not_eq_true, Bool.not_eq_false, ne_eq, decide_not]
        refine goOn _ _ st acc o (by simp [upd_at, r0]) (by simp [upd_at, r4]) (by simp [upd_at, r5]) (by simp [upd_at, r6]) (by omega) ?_ ea ek
        rcases eF with ⟨rfl, f1, f2⟩ | ⟨op, pend, rfl, f1, f2, f3, f4⟩
        · refine .inl ⟨rfl, ?_, by omega⟩
          rw [t1, List.drop_append_of_le_length (by simp; omega)]
          simp only [otr, hu, if_false, List.flatten_cons] at f1
          simpa using f1
        · refine .inr ⟨op, pend ++ [u], rfl, ?_, ?_, f3, by omega⟩
          · simpa [otr, hu] using f1
          · rw [t1, List.drop_append_of_le_length (by simp; omega), ← f2]; simp
    · rintro ρ H ⟨rest, w, st, acc, o, e1, e2, e3, epos, r0, r4, r5, r6, eal, eF, ea, ek⟩
      have : rest = [] := by cases rest with | nil => rfl | cons q r => cases e1
      subst this
      simp only [List.flatten_nil, List.append_nil] at e2
      have hw : w = x.length := by have := congrArg List.length e2; simp at this; omega
      have eT : acc.flatten ++ x.drop st = lft x := by
        rcases eF with ⟨rfl, f1, f2⟩ | ⟨op, pend, rfl, f1, f2, f3, f4⟩
        · simpa [otr, e2] using f1
        · rw [e2] at f2
          simp only [otr, List.flatten_cons] at f1
          rw [f2, List.append_assoc] at f1
          have : (x.drop st).take (op - st) ++ x.drop op = x.drop st := by
            have := List.take_append_drop (op - st) (x.drop st)
            rw [List.drop_drop] at this
            have e : st + (op - st) = op := by omega
            rwa [e] at this
          rw [this] at f1; exact f1
      have hal : acc.flatten.length ≤ 100000 := by
        have := congrArg List.length eT
        have := lft_len x
        simp at *; omega
      refine after_next ?_
      walk_at "st"
      by_cases hst : (st : Int) < (x.length : Nat)
      · try simp only [r0, r5, eq_true hst, l__strip_quoted_realnames_1, sNil, sAssign, sRet, sRet0, sIf, sExpr, sAugSub, sAug, sCont, gName, gSub, gTup, gTup.go, aVar, aCst, aBin, aUn, aIf, aTup, aList, lCons, lNil, aCall, aMeth, aCmp, aSlice, tCmp, tCmp2, tAnd, tOr, tNot, tVal, tTrue, tFalse, upd_at, if_true, if_false, Bool.false_eq_true, decide_true, decide_false, decide_eq_true_eq, opItem, opAdd, opIAdd, opIAddX, opSub, opMul, opDiv, opMod, opNeg, cmpOp, cmpLt, cmpIn, cmpIs, eq_int, eq_str, eq_bool, occ_one, truth, kList, kStr, fLen, fRange, fList, fTuple, fChr, fSJoin, fAll, fAny, fCount, fSRstrip, fSum, fMin, joinL_nil, fAppend, fInsert, fPop, withOwn, withItems, setAt, nth_zero, nth_one, nth_two, nth_last, kOk, bindP, List.length_cons, List.length_nil, List.isEmpty_cons, List.isEmpty_nil, List.map_nil, List.map_cons, Nat.reduceAdd, Nat.reduceEqDiff, Nat.succ_ne_self, Int.reduceNeg, Int.reduceLE, Int.reduceLT, Int.reduceEq, Int.cast_ofNat_Int, Int.toNat_zero, Int.toNat_one, Int.reduceToNat, Int.le_refl, List.getElem?_cons_zero, List.getElem?_cons_succ, reduceIte, reduceCtorEq, true_and, and_true, and_self, not_true_eq_false, not_false_eq_true, Bool.not_true, Bool.not_false, Bool.not_eq_true, Bool.not_eq_false, ne_eq, decide_not]
        refine ⟨by simp only [szOk]; omega, ?_⟩
        walk_at "st"
        try simp only [r0, r4, r5, ea, opSlice, partOf, slc_from, sNil, sAssign, sRet, sRet0, sIf, sExpr, sAugSub, sAug, sCont, gName, gSub, gTup, gTup.go, aVar, aCst, aBin, aUn, aIf, aTup, aList, lCons, lNil, aCall, aMeth, aCmp, aSlice, tCmp, tCmp2, tAnd, tOr, tNot, tVal, tTrue, tFalse, upd_at, if_true, if_false, Bool.false_eq_true, decide_true, decide_false, decide_eq_true_eq, opItem, opAdd, opIAdd, opIAddX, opSub, opMul, opDiv, opMod, opNeg, cmpOp, cmpLt, cmpIn, cmpIs, eq_int, eq_str, eq_bool, occ_one, truth, kList, kStr, fLen, fRange, fList, fTuple, fChr, fSJoin, fAll, fAny, fCount, fSRstrip, fSum, fMin, joinL_nil, fAppend, fInsert, fPop, withOwn, withItems, setAt, nth_zero, nth_one, nth_two, nth_last, kOk, bindP, List.length_cons, List.length_nil, List.isEmpty_cons, List.isEmpty_nil, List.map_nil, List.map_cons, Nat.reduceAdd, Nat.reduceEqDiff, Nat.succ_ne_self, Int.reduceNeg, Int.reduceLE, Int.reduceLT, Int.reduceEq, Int.cast_ofNat_Int, Int.toNat_zero, Int.toNat_one, Int.reduceToNat, Int.le_refl, List.getElem?_cons_zero, List.getElem?_cons_succ, reduceIte, reduceCtorEq, true_and, and_true, and_self, not_true_eq_false, not_false_eq_true, Bool.not_true, Bool.not_false, Bool.not_eq_true, Bool.not_eq_false, ne_eq, decide_not]
        refine ⟨by simp only [szOk]; omega, by simp [szOk]; omega, after_next (after_next ?_)⟩
        have es : strsOf (acc.map .str ++ [.str (x.drop st)]) = some (acc ++ [x.drop st]) := by
          have := strsOf_map (acc ++ [x.drop st])
          simpa using this
        walk_at "st"
        try simp only [r4, es, sNil, sAssign, sRet, sRet0, sIf, sExpr, sAugSub, sAug, sCont, gName, gSub, gTup, gTup.go, aVar, aCst, aBin, aUn, aIf, aTup, aList, lCons, lNil, aCall, aMeth, aCmp, aSlice, tCmp, tCmp2, tAnd, tOr, tNot, tVal, tTrue, tFalse, upd_at, if_true, if_false, Bool.false_eq_true, decide_true, decide_false, decide_eq_true_eq, opItem, opAdd, opIAdd, opIAddX, opSub, opMul, opDiv, opMod, opNeg, cmpOp, cmpLt, cmpIn, cmpIs, eq_int, eq_str, eq_bool, occ_one, truth, kList, kStr, fLen, fRange, fList, fTuple, fChr, fSJoin, fAll, fAny, fCount, fSRstrip, fSum, fMin, joinL_nil, fAppend, fInsert, fPop, withOwn, withItems, setAt, nth_zero, nth_one, nth_two, nth_last, kOk, bindP, List.length_cons, List.length_nil, List.isEmpty_cons, List.isEmpty_nil, List.map_nil, List.map_cons, Nat.reduceAdd, Nat.reduceEqDiff, Nat.succ_ne_self, Int.reduceNeg, Int.reduceLE, Int.reduceLT, Int.reduceEq, Int.cast_ofNat_Int, Int.toNat_zero, Int.toNat_one, Int.reduceToNat, Int.le_refl, List.getElem?_cons_zero, List.getElem?_cons_succ, reduceIte, reduceCtorEq, true_and, and_true, and_self, not_true_eq_false, not_false_eq_true, Bool.not_true, Bool.not_false, Bool.not_eq_true, Bool.not_eq_false, ne_eq, decide_not]
        refine ⟨?_, after_ret (end_ret ?_)⟩
        · rw [sums_le]; simp at hal ⊢; omega
        · rw [List.flatten_append]
          have := hQ _ (ek.upd ha (y := ⟨acc.map .str ++ [.str (x.drop st)], true⟩))
          rw [← eT] at this
          simpa using this
      · try simp only [r0, r5, eq_false hst, sNil, sAssign, sRet, sRet0, sIf, sExpr, sAugSub, sAug, sCont, gName, gSub, gTup, gTup.go, aVar, aCst, aBin, aUn, aIf, aTup, aList, lCons, lNil, aCall, aMeth, aCmp, aSlice, tCmp, tCmp2, tAnd, tOr, tNot, tVal, tTrue, tFalse, upd_at, if_true, if_false, Bool.false_eq_true, decide_true, decide_false, decide_eq_true_eq, opItem, opAdd, opIAdd, opIAddX, opSub, opMul, opDiv, opMod, opNeg, cmpOp, cmpLt, cmpIn, cmpIs, eq_int, eq_str, eq_bool, occ_one, truth, kList, kStr, fLen, fRange, fList, fTuple, fChr, fSJoin, fAll, fAny, fCount, fSRstrip, fSum, fMin, joinL_nil, fAppend, fInsert, fPop, withOwn, withItems, setAt, nth_zero, nth_one, nth_two, nth_last, kOk, bindP, List.length_cons, List.length_nil, List.isEmpty_cons, List.isEmpty_nil, List.map_nil, List.map_cons, Nat.reduceAdd, Nat.reduceEqDiff, Nat.succ_ne_self, Int.reduceNeg, Int.reduceLE, Int.reduceLT, Int.reduceEq, Int.cast_ofNat_Int, Int.toNat_zero, Int.toNat_one, Int.reduceToNat, Int.le_refl, List.getElem?_cons_zero, List.getElem?_cons_succ, reduceIte, reduceCtorEq, true_and, and_true, and_self, not_true_eq_false, not_false_eq_true, Bool.not_true, Bool.not_false, Bool.not_eq_true, Bool.not_eq_false, ne_eq, decide_not]
        refine ⟨by simp only [szOk]; omega, after_next ?_⟩
        walk_at "st"
        try simp only [r4, ea, strsOf_map, sNil, sAssign, sRet, sRet0, sIf, sExpr, sAugSub, sAug, sCont, gName, gSub, gTup, gTup.go, aVar, aCst, aBin, aUn, aIf, aTup, aList, lCons, lNil, aCall, aMeth, aCmp, aSlice, tCmp, tCmp2, tAnd, tOr, tNot, tVal, tTrue, tFalse, upd_at, if_true, if_false, Bool.false_eq_true, decide_true, decide_false, decide_eq_true_eq, opItem, opAdd, opIAdd, opIAddX, opSub, opMul, opDiv, opMod, opNeg, cmpOp, cmpLt, cmpIn, cmpIs, eq_int, eq_str, eq_bool, occ_one, truth, kList, kStr, fLen, fRange, fList, fTuple, fChr, fSJoin, fAll, fAny, fCount, fSRstrip, fSum, fMin, joinL_nil, fAppend, fInsert, fPop, withOwn, withItems, setAt, nth_zero, nth_one, nth_two, nth_last, kOk, bindP, List.length_cons, List.length_nil, List.isEmpty_cons, List.isEmpty_nil, List.map_nil, List.map_cons, Nat.reduceAdd, Nat.reduceEqDiff, Nat.succ_ne_self, Int.reduceNeg, Int.reduceLE, Int.reduceLT, Int.reduceEq, Int.cast_ofNat_Int, Int.toNat_zero, Int.toNat_one, Int.reduceToNat, Int.le_refl, List.getElem?_cons_zero, List.getElem?_cons_succ, reduceIte, reduceCtorEq, true_and, and_true, and_self, not_true_eq_false, not_false_eq_true, Bool.not_true, Bool.not_false, Bool.not_eq_true, Bool.not_eq_false, ne_eq, decide_not]
        refine ⟨by rw [sums_le]; simp only [List.length_nil, Nat.mul_zero, Nat.add_zero]; omega, after_ret (end_ret ?_)⟩
        have := hQ _ ek
        rw [← eT, List.drop_eq_nil_of_le (by omega), List.append_nil] at this
        exact this
  · try simp only [eq_false h34, l__strip_quoted_realnames_7, sNil, sAssign, sRet, sRet0, sIf, sExpr, sAugSub, sAug, sCont, gName, gSub, gTup, gTup.go, aVar, aCst, aBin, aUn, aIf, aTup, aList, lCons, lNil, aCall, aMeth, aCmp, aSlice, tCmp, tCmp2, tAnd, tOr, tNot, tVal, tTrue, tFalse, upd_at, if_true, if_false, Bool.false_eq_true, decide_true, decide_false, decide_eq_true_eq, opItem, opAdd, opIAdd, opIAddX, opSub, opMul, opDiv, opMod, opNeg, cmpOp, cmpLt, cmpIn, cmpIs, eq_int, eq_str, eq_bool, occ_one, truth, kList, kStr, fLen, fRange, fList, fTuple, fChr, fSJoin, fAll, fAny, fCount, fSRstrip, fSum, fMin, joinL_nil, fAppend, fInsert, fPop, withOwn, withItems, setAt, nth_zero, nth_one, nth_two, nth_last, kOk, bindP, List.length_cons, List.length_nil, List.isEmpty_cons, List.isEmpty_nil, List.map_nil, List.map_cons, Nat.reduceAdd, Nat.reduceEqDiff, Nat.succ_ne_self, Int.reduceNeg, Int.reduceLE, Int.reduceLT, Int.reduceEq, Int.cast_ofNat_Int, Int.toNat_zero, Int.toNat_one, Int.reduceToNat, Int.le_refl, List.getElem?_cons_zero, List.getElem?_cons_succ, reduceIte, reduceCtorEq, true_and, and_true, and_self, not_true_eq_false, not_false_eq_true, Bool.not_true, Bool.not_false, Bool.not_eq_true, Bool.not_eq_false, ne_eq, decide_not]
    walk_at "st"
    (try simp only [sCons, sNil, sAssign, sRet, sRet0, sIf, sExpr, sFor, sAugSub, sAug, sCont, gName, gSub, gTup, gTup.go, aVar, aCst, aBin, aUn, aIf, aTup, aList, lCons, lNil, aCall, aMeth, aCmp, aSlice, tCmp, tCmp2, tAnd, tOr, tNot, tVal, tTrue, tFalse, upd_at, if_true, if_false, Bool.false_eq_true, decide_true, decide_false, decide_eq_true_eq, opItem, opAdd, opIAdd, opIAddX, opSub, opMul, opDiv, opMod, opNeg, cmpOp, cmpLt, cmpIn, cmpIs, eq_int, eq_str, eq_bool, occ_one, truth, kList, kStr, fLen, fRange, fList, fTuple, fChr, fSJoin, fAll, fAny, fCount, fSRstrip, fSum, fMin, joinL_nil, fAppend, fInsert, fPop, withOwn, withItems, setAt, nth_zero, nth_one, nth_two, nth_last, kOk, bindP, List.length_cons, List.length_nil, List.isEmpty_cons, List.isEmpty_nil, List.map_nil, List.map_cons, Nat.reduceAdd, Nat.reduceEqDiff, Nat.succ_ne_self, Int.reduceNeg, Int.reduceLE, Int.reduceLT, Int.reduceEq, Int.cast_ofNat_Int, Int.toNat_zero, Int.toNat_one, Int.reduceToNat, Int.le_refl, List.getElem?_cons_zero, List.getElem?_cons_succ, reduceIte, reduceCtorEq, true_and, and_true, and_self, not_true_eq_false, not_false_eq_true, Bool.not_true, Bool.not_false, Bool.not_eq_true, Bool.not_eq_false, ne_eq, decide_not])
    refine after_ret (after_ret (end_ret ?_))
    have : lft x = x := by
      unfold lft
      have hn : [34] ∉ uts x := fun h => h34 (by
        have : (34 : Nat) ∈ (uts x).flatten := List.mem_flatten.mpr ⟨[34], h, by simp⟩
        rwa [uts_flat] at this)
      rw [(otr_free _ hn).1, uts_flat]
    have q := hQ H₀ Keep.refl
    rw [this] at q
    exact q
def ckI (V : Us) (b : Bool) (ps : List PV) (ρ : AEnv) (H : AH) : Prop := ∃ (rest : Us) (w k : Nat), ps = (plc w rest).map up ∧ ρ 7 = some (.int (k : Nat)) ∧ bal k rest = b ∧ k + rest.length ≤ 100000
theorem check_spec {Q : PV → AH → Prop} {H₀ : AH} {x : List Nat} (hx : x.length ≤ 50000) (hQ : ∀ H', Keep H₀ H' → Q (.bool (clo x)) H') : f__check_parenthesis [.str x] Q H₀ := by
  refine fn rfl ?_
  walk_at "st"
  (try simp only [sCons, sNil, sAssign, sRet, sRet0, sIf, sExpr, sFor, sAugSub, sAug, sCont, gName, gSub, gTup, gTup.go, aVar, aCst, aBin, aUn, aIf, aTup, aList, lCons, lNil, aCall, aMeth, aCmp, aSlice, tCmp, tCmp2, tAnd, tOr, tNot, tVal, tTrue, tFalse, upd_at, if_true, if_false, Bool.false_eq_true, decide_true, decide_false, decide_eq_true_eq, opItem, opAdd, opIAdd, opIAddX, opSub, opMul, opDiv, opMod, opNeg, cmpOp, cmpLt, cmpIn, cmpIs, eq_int, eq_str, eq_bool, occ_one, truth, kList, kStr, fLen, fRange, fList, fTuple, fChr, fSJoin, fAll, fAny, fCount, fSRstrip, fSum, fMin, joinL_nil, fAppend, fInsert, fPop, withOwn, withItems, setAt, nth_zero, nth_one, nth_two, nth_last, kOk, bindP, List.length_cons, List.length_nil, List.isEmpty_cons, List.isEmpty_nil, List.map_nil, List.map_cons, Nat.reduceAdd, Nat.reduceEqDiff, Nat.succ_ne_self, Int.reduceNeg, Int.reduceLE, Int.reduceLT, Int.reduceEq, Int.cast_ofNat_Int, Int.toNat_zero, Int.toNat_one, Int.reduceToNat, Int.le_refl, List.getElem?_cons_zero, List.getElem?_cons_succ, reduceIte, reduceCtorEq, true_and, and_true, and_self, not_true_eq_false, not_false_eq_true, Bool.not_true, Bool.not_false, Bool.not_eq_true, Bool.not_eq_false, ne_eq, decide_not])
  refine strip_spec (by omega) fun H1 K1 => after_next ?_
  walk_at "st"
  (try simp only [sCons, sNil, sAssign, sRet, sRet0, sIf, sExpr, sFor, sAugSub, sAug, sCont, gName, gSub, gTup, gTup.go, aVar, aCst, aBin, aUn, aIf, aTup, aList, lCons, lNil, aCall, aMeth, aCmp, aSlice, tCmp, tCmp2, tAnd, tOr, tNot, tVal, tTrue, tFalse, upd_at, if_true, if_false, Bool.false_eq_true, decide_true, decide_false, decide_eq_true_eq, opItem, opAdd, opIAdd, opIAddX, opSub, opMul, opDiv, opMod, opNeg, cmpOp, cmpLt, cmpIn, cmpIs, eq_int, eq_str, eq_bool, occ_one, truth, kList, kStr, fLen, fRange, fList, fTuple, fChr, fSJoin, fAll, fAny, fCount, fSRstrip, fSum, fMin, joinL_nil, fAppend, fInsert, fPop, withOwn, withItems, setAt, nth_zero, nth_one, nth_two, nth_last, kOk, bindP, List.length_cons, List.length_nil, List.isEmpty_cons, List.isEmpty_nil, List.map_nil, List.map_cons, Nat.reduceAdd, Nat.reduceEqDiff, Nat.succ_ne_self, Int.reduceNeg, Int.reduceLE, Int.reduceLT, Int.reduceEq, Int.cast_ofNat_Int, Int.toNat_zero, Int.toNat_one, Int.reduceToNat, Int.le_refl, List.getElem?_cons_zero, List.getElem?_cons_succ, reduceIte, reduceCtorEq, true_and, and_true, and_self, not_true_eq_false, not_false_eq_true, Bool.not_true, Bool.not_false, Bool.not_eq_true, Bool.not_eq_false, ne_eq, decide_not])
  refine after_next ?_
  walk_at "st"
  simp only [sForG]
  (try simp only [sCons, sNil, sAssign, sRet, sRet0, sIf, sExpr, sFor, sAugSub, sAug, sCont, gName, gSub, gTup, gTup.go, aVar, aCst, aBin, aUn, aIf, aTup, aList, lCons, lNil, aCall, aMeth, aCmp, aSlice, tCmp, tCmp2, tAnd, tOr, tNot, tVal, tTrue, tFalse, upd_at, if_true, if_false, Bool.false_eq_true, decide_true, decide_false, decide_eq_true_eq, opItem, opAdd, opIAdd, opIAddX, opSub, opMul, opDiv, opMod, opNeg, cmpOp, cmpLt, cmpIn, cmpIs, eq_int, eq_str, eq_bool, occ_one, truth, kList, kStr, fLen, fRange, fList, fTuple, fChr, fSJoin, fAll, fAny, fCount, fSRstrip, fSum, fMin, joinL_nil, fAppend, fInsert, fPop, withOwn, withItems, setAt, nth_zero, nth_one, nth_two, nth_last, kOk, bindP, List.length_cons, List.length_nil, List.isEmpty_cons, List.isEmpty_nil, List.map_nil, List.map_cons, Nat.reduceAdd, Nat.reduceEqDiff, Nat.succ_ne_self, Int.reduceNeg, Int.reduceLE, Int.reduceLT, Int.reduceEq, Int.cast_ofNat_Int, Int.toNat_zero, Int.toNat_one, Int.reduceToNat, Int.le_refl, List.getElem?_cons_zero, List.getElem?_cons_succ, reduceIte, reduceCtorEq, true_and, and_true, and_self, not_true_eq_false, not_false_eq_true, Bool.not_true, Bool.not_false, Bool.not_eq_true, Bool.not_eq_false, ne_eq, decide_not])
  refine ⟨_, iter_gen (lft x), ?_⟩
  obtain ⟨w1, w2⟩ := uts_WU (lft x)
  have hb : bal 0 (uts (lft x)) = clo x := by rw [lft_uts]; rfl
  have hl : (uts (lft x)).length ≤ 100000 := by
    have h1 := esc_len (lft x) 0 false
    have h2 := lft_len x
    unfold uts; simp at h1 ⊢; omega
  rw [w2]
  refine forL_inv (mg_tup (.cons mg_name (.cons mg_name .nil))) m_l__check_parenthesis_5 (fun ps ρ H => ckI (uts (lft x)) (clo x) ps ρ H ∧ Keep H₀ H) ?_ ?_ _ _ _ ⟨⟨uts (lft x), 0, 0, rfl, rfl, hb, by omega⟩, K1⟩
  · rintro p ps ρ H ⟨⟨rest, w, k, e1, r7, eb, hz⟩, ek⟩
    obtain ⟨u, rest, rfl⟩ : ∃ q r, rest = q :: r := by cases rest with | nil => cases e1 | cons q r => exact ⟨q, r, rfl⟩
    obtain ⟨rfl, rfl⟩ := List.cons.inj e1
    simp only [List.length_cons] at hz
    simp only [up, l__check_parenthesis_5]
    by_cases h40 : u = [40]
    · simp only [bal, h40, if_true] at eb
      (try simp only [sCons, sNil, sAssign, sRet, sRet0, sIf, sExpr, sFor, sAugSub, sAug, sCont, gName, gSub, gTup, gTup.go, aVar, aCst, aBin, aUn, aIf, aTup, aList, lCons, lNil, aCall, aMeth, aCmp, aSlice, tCmp, tCmp2, tAnd, tOr, tNot, tVal, tTrue, tFalse, upd_at, if_true, if_false, Bool.false_eq_true, decide_true, decide_false, decide_eq_true_eq, opItem, opAdd, opIAdd, opIAddX, opSub, opMul, opDiv, opMod, opNeg, cmpOp, cmpLt, cmpIn, cmpIs, eq_int, eq_str, eq_bool, occ_one, truth, kList, kStr, fLen, fRange, fList, fTuple, fChr, fSJoin, fAll, fAny, fCount, fSRstrip, fSum, fMin, joinL_nil, fAppend, fInsert, fPop, withOwn, withItems, setAt, nth_zero, nth_one, nth_two, nth_last, kOk, bindP, List.length_cons, List.length_nil, List.isEmpty_cons, List.isEmpty_nil, List.map_nil, List.map_cons, Nat.reduceAdd, Nat.reduceEqDiff, Nat.succ_ne_self, Int.reduceNeg, Int.reduceLE, Int.reduceLT, Int.reduceEq, Int.cast_ofNat_Int, Int.toNat_zero, Int.toNat_one, Int.reduceToNat, Int.le_refl, List.getElem?_cons_zero, List.getElem?_cons_succ, reduceIte, reduceCtorEq, true_and, and_true, and_self, not_true_eq_false, not_false_eq_true, Bool.not_true, Bool.not_false, Bool.not_eq_true, Bool.not_eq_false, ne_eq, decide_not])
      try simp only [eq_true h40, l__check_parenthesis_1, sNil, sAssign, sRet, sRet0, sIf, sExpr, sAugSub, sAug, sCont, gName, gSub, gTup, gTup.go, aVar, aCst, aBin, aUn, aIf, aTup, aList, lCons, lNil, aCall, aMeth, aCmp, aSlice, tCmp, tCmp2, tAnd, tOr, tNot, tVal, tTrue, tFalse, upd_at, if_true, if_false, Bool.false_eq_true, decide_true, decide_false, decide_eq_true_eq, opItem, opAdd, opIAdd, opIAddX, opSub, opMul, opDiv, opMod, opNeg, cmpOp, cmpLt, cmpIn, cmpIs, eq_int, eq_str, eq_bool, occ_one, truth, kList, kStr, fLen, fRange, fList, fTuple, fChr, fSJoin, fAll, fAny, fCount, fSRstrip, fSum, fMin, joinL_nil, fAppend, fInsert, fPop, withOwn, withItems, setAt, nth_zero, nth_one, nth_two, nth_last, kOk, bindP, List.length_cons, List.length_nil, List.isEmpty_cons, List.isEmpty_nil, List.map_nil, List.map_cons, Nat.reduceAdd, Nat.reduceEqDiff, Nat.succ_ne_self, Int.reduceNeg, Int.reduceLE, Int.reduceLT, Int.reduceEq, Int.cast_ofNat_Int, Int.toNat_zero, Int.toNat_one, Int.reduceToNat, Int.le_refl, List.getElem?_cons_zero, List.getElem?_cons_succ, reduceIte, reduceCtorEq, true_and, and_true, and_self, not_true_eq_false, not_false_eq_true, Bool.not_true, Bool.not_false, Bool.not_eq_true, Bool.not_eq_false, ne_eq, decide_not]
      (try simp only [sCons, sNil, sAssign, sRet, sRet0, sIf, sExpr, sFor, sAugSub, sAug, sCont, gName, gSub, gTup, gTup.go, aVar, aCst, aBin, aUn, aIf, aTup, aList, lCons, lNil, aCall, aMeth, aCmp, aSlice, tCmp, tCmp2, tAnd, tOr, tNot, tVal, tTrue, tFalse, upd_at, if_true, if_false, Bool.false_eq_true, decide_true, decide_false, decide_eq_true_eq, opItem, opAdd, opIAdd, opIAddX, opSub, opMul, opDiv, opMod, opNeg, cmpOp, cmpLt, cmpIn, cmpIs, eq_int, eq_str, eq_bool, occ_one, truth, kList, kStr, fLen, fRange, fList, fTuple, fChr, fSJoin, fAll, fAny, fCount, fSRstrip, fSum, fMin, joinL_nil, fAppend, fInsert, fPop, withOwn, withItems, setAt, nth_zero, nth_one, nth_two, nth_last, kOk, bindP, List.length_cons, List.length_nil, List.isEmpty_cons, List.isEmpty_nil, List.map_nil, List.map_cons, Nat.reduceAdd, Nat.reduceEqDiff, Nat.succ_ne_self, Int.reduceNeg, Int.reduceLE, Int.reduceLT, Int.reduceEq, Int.cast_ofNat_Int, Int.toNat_zero, Int.toNat_one, Int.reduceToNat, Int.le_refl, List.getElem?_cons_zero, List.getElem?_cons_succ, reduceIte, reduceCtorEq, true_and, and_true, and_self, not_true_eq_false, not_false_eq_true, Bool.not_true, Bool.not_false, Bool.not_eq_true, Bool.not_eq_false, ne_eq, decide_not])
      try simp only [r7, sNil, sAssign, sRet, sRet0, sIf, sExpr, sAugSub, sAug, sCont, gName, gSub, gTup, gTup.go, aVar, aCst, aBin, aUn, aIf, aTup, aList, lCons, lNil, aCall, aMeth, aCmp, aSlice, tCmp, tCmp2, tAnd, tOr, tNot, tVal, tTrue, tFalse, upd_at, if_true, if_false, Bool.false_eq_true, decide_true, decide_false, decide_eq_true_eq, opItem, opAdd, opIAdd, opIAddX, opSub, opMul, opDiv, opMod, opNeg, cmpOp, cmpLt, cmpIn, cmpIs, eq_int, eq_str, eq_bool, occ_one, truth, kList, kStr, fLen, fRange, fList, fTuple, fChr, fSJoin, fAll, fAny, fCount, fSRstrip, fSum, fMin, joinL_nil, fAppend, fInsert, fPop, withOwn, withItems, setAt, nth_zero, nth_one, nth_two, nth_last, kOk, bindP, List.length_cons, List.length_nil, List.isEmpty_cons, List.isEmpty_nil, List.map_nil, List.map_cons, Nat.reduceAdd, Nat.reduceEqDiff, Nat.succ_ne_self, Int.reduceNeg, Int.reduceLE, Int.reduceLT, Int.reduceEq, Int.cast_ofNat_Int, Int.toNat_zero, Int.toNat_one, Int.reduceToNat, Int.le_refl, List.getElem?_cons_zero, List.getElem?_cons_succ, reduceIte, reduceCtorEq, true_and, and_true, and_self, not_true_eq_false, not_false_eq_true, Bool.not_true, Bool.not_false, Bool.not_eq_true, Bool.not_eq_false, ne_eq, decide_not]
      exact ⟨⟨rest, w + u.length, k + 1, rfl, by simp [upd_at], eb, by omega⟩, ek⟩
    · by_cases h41 : u = [41]
      · replace eb : (if k = 0 then false else bal (k - 1) rest) = clo x := by rw [h41] at eb; simpa [bal] using eb
        (try simp only [sCons, sNil, sAssign, sRet, sRet0, sIf, sExpr, sFor, sAugSub, sAug, sCont, gName, gSub, gTup, gTup.go, aVar, aCst, aBin, aUn, aIf, aTup, aList, lCons, lNil, aCall, aMeth, aCmp, aSlice, tCmp, tCmp2, tAnd, tOr, tNot, tVal, tTrue, tFalse, upd_at, if_true, if_false, Bool.false_eq_true, decide_true, decide_false, decide_eq_true_eq, opItem, opAdd, opIAdd, opIAddX, opSub, opMul, opDiv, opMod, opNeg, cmpOp, cmpLt, cmpIn, cmpIs, eq_int, eq_str, eq_bool, occ_one, truth, kList, kStr, fLen, fRange, fList, fTuple, fChr, fSJoin, fAll, fAny, fCount, fSRstrip, fSum, fMin, joinL_nil, fAppend, fInsert, fPop, withOwn, withItems, setAt, nth_zero, nth_one, nth_two, nth_last, kOk, bindP, List.length_cons, List.length_nil, List.isEmpty_cons, List.isEmpty_nil, List.map_nil, List.map_cons, Nat.reduceAdd, Nat.reduceEqDiff, Nat.succ_ne_self, Int.reduceNeg, Int.reduceLE, Int.reduceLT, Int.reduceEq, Int.cast_ofNat_Int, Int.toNat_zero, Int.toNat_one, Int.reduceToNat, Int.le_refl, List.getElem?_cons_zero, List.getElem?_cons_succ, reduceIte, reduceCtorEq, true_and, and_true, and_self, not_true_eq_false, not_false_eq_true, Bool.not_true, Bool.not_false, Bool.not_eq_true, Bool.not_eq_false, ne_eq, decide_not])
        try simp only [eq_false h40, l__check_parenthesis_4, sNil, sAssign, sRet, sRet0, sIf, sExpr, sAugSub, sAug, sCont, gName, gSub, gTup, gTup.go, aVar, aCst, aBin, aUn, aIf, aTup, aList, lCons, lNil, aCall, aMeth, aCmp, aSlice, tCmp, tCmp2, tAnd, tOr, tNot, tVal, tTrue, tFalse, upd_at, if_true, if_false, Bool.false_eq_true, decide_true, decide_false, decide_eq_true_eq, opItem, opAdd, opIAdd, opIAddX, opSub, opMul, opDiv, opMod, opNeg, cmpOp, cmpLt, cmpIn, cmpIs, eq_int, eq_str, eq_bool, occ_one, truth, kList, kStr, fLen, fRange, fList, fTuple, fChr, fSJoin, fAll, fAny, fCount, fSRstrip, fSum, fMin, joinL_nil, fAppend, fInsert, fPop, withOwn, withItems, setAt, nth_zero, nth_one, nth_two, nth_last, kOk, bindP, List.length_cons, List.length_nil, List.isEmpty_cons, List.isEmpty_nil, List.map_nil, List.map_cons, Nat.reduceAdd, Nat.reduceEqDiff, Nat.succ_ne_self, Int.reduceNeg, Int.reduceLE, Int.reduceLT, Int.reduceEq, Int.cast_ofNat_Int, Int.toNat_zero, Int.toNat_one, Int.reduceToNat, Int.le_refl, List.getElem?_cons_zero, List.getElem?_cons_succ, reduceIte, reduceCtorEq, true_and, and_true, and_self, not_true_eq_false, not_false_eq_true, Bool.not_true, Bool.not_false, Bool.not_eq_true, Bool.not_eq_false, ne_eq, decide_not]
        (try simp only [sCons, sNil, sAssign, sRet, sRet0, sIf, sExpr, sFor, sAugSub, sAug, sCont, gName, gSub, gTup, gTup.go, aVar, aCst, aBin, aUn, aIf, aTup, aList, lCons, lNil, aCall, aMeth, aCmp, aSlice, tCmp, tCmp2, tAnd, tOr, tNot, tVal, tTrue, tFalse, upd_at, if_true, if_false, Bool.false_eq_true, decide_true, decide_false, decide_eq_true_eq, opItem, opAdd, opIAdd, opIAddX, opSub, opMul, opDiv, opMod, opNeg, cmpOp, cmpLt, cmpIn, cmpIs, eq_int, eq_str, eq_bool, occ_one, truth, kList, kStr, fLen, fRange, fList, fTuple, fChr, fSJoin, fAll, fAny, fCount, fSRstrip, fSum, fMin, joinL_nil, fAppend, fInsert, fPop, withOwn, withItems, setAt, nth_zero, nth_one, nth_two, nth_last, kOk, bindP, List.length_cons, List.length_nil, List.isEmpty_cons, List.isEmpty_nil, List.map_nil, List.map_cons, Nat.reduceAdd, Nat.reduceEqDiff, Nat.succ_ne_self, Int.reduceNeg, Int.reduceLE, Int.reduceLT, Int.reduceEq, Int.cast_ofNat_Int, Int.toNat_zero, Int.toNat_one, Int.reduceToNat, Int.le_refl, List.getElem?_cons_zero, List.getElem?_cons_succ, reduceIte, reduceCtorEq, true_and, and_true, and_self, not_true_eq_false, not_false_eq_true, Bool.not_true, Bool.not_false, Bool.not_eq_true, Bool.not_eq_false, ne_eq, decide_not])
        try simp only [eq_true h41, l__check_parenthesis_3, sNil, sAssign, sRet, sRet0, sIf, sExpr, sAugSub, sAug, sCont, gName, gSub, gTup, gTup.go, aVar, aCst, aBin, aUn, aIf, aTup, aList, lCons, lNil, aCall, aMeth, aCmp, aSlice, tCmp, tCmp2, tAnd, tOr, tNot, tVal, tTrue, tFalse, upd_at, if_true, if_false, Bool.false_eq_true, decide_true, decide_false, decide_eq_true_eq, opItem, opAdd, opIAdd, opIAddX, opSub, opMul, opDiv, opMod, opNeg, cmpOp, cmpLt, cmpIn, cmpIs, eq_int, eq_str, eq_bool, occ_one, truth, kList, kStr, fLen, fRange, fList, fTuple, fChr, fSJoin, fAll, fAny, fCount, fSRstrip, fSum, fMin, joinL_nil, fAppend, fInsert, fPop, withOwn, withItems, setAt, nth_zero, nth_one, nth_two, nth_last, kOk, bindP, List.length_cons, List.length_nil, List.isEmpty_cons, List.isEmpty_nil, List.map_nil, List.map_cons, Nat.reduceAdd, Nat.reduceEqDiff, Nat.succ_ne_self, Int.reduceNeg, Int.reduceLE, Int.reduceLT, Int.reduceEq, Int.cast_ofNat_Int, Int.toNat_zero, Int.toNat_one, Int.reduceToNat, Int.le_refl, List.getElem?_cons_zero, List.getElem?_cons_succ, reduceIte, reduceCtorEq, true_and, and_true, and_self, not_true_eq_false, not_false_eq_true, Bool.not_true, Bool.not_false, Bool.not_eq_true, Bool.not_eq_false, ne_eq, decide_not]
        (try simp only [sCons, sNil, sAssign, sRet, sRet0, sIf, sExpr, sFor, sAugSub, sAug, sCont, gName, gSub, gTup, gTup.go, aVar, aCst, aBin, aUn, aIf, aTup, aList, lCons, lNil, aCall, aMeth, aCmp, aSlice, tCmp, tCmp2, tAnd, tOr, tNot, tVal, tTrue, tFalse, upd_at, if_true, if_false, Bool.false_eq_true, decide_true, decide_false, decide_eq_true_eq, opItem, opAdd, opIAdd, opIAddX, opSub, opMul, opDiv, opMod, opNeg, cmpOp, cmpLt, cmpIn, cmpIs, eq_int, eq_str, eq_bool, occ_one, truth, kList, kStr, fLen, fRange, fList, fTuple, fChr, fSJoin, fAll, fAny, fCount, fSRstrip, fSum, fMin, joinL_nil, fAppend, fInsert, fPop, withOwn, withItems, setAt, nth_zero, nth_one, nth_two, nth_last, kOk, bindP, List.length_cons, List.length_nil, List.isEmpty_cons, List.isEmpty_nil, List.map_nil, List.map_cons, Nat.reduceAdd, Nat.reduceEqDiff, Nat.succ_ne_self, Int.reduceNeg, Int.reduceLE, Int.reduceLT, Int.reduceEq, Int.cast_ofNat_Int, Int.toNat_zero, Int.toNat_one, Int.reduceToNat, Int.le_refl, List.getElem?_cons_zero, List.getElem?_cons_succ, reduceIte, reduceCtorEq, true_and, and_true, and_self, not_true_eq_false, not_false_eq_true, Bool.not_true, Bool.not_false, Bool.not_eq_true, Bool.not_eq_false, ne_eq, decide_not])
        by_cases hk : k = 0
        · subst hk
          have : ((0 : Nat) : Int) - 1 < 0 := by decide
          try simp only [r7, eq_true this, l__check_parenthesis_2, sNil, sAssign, sRet, sRet0, sIf, sExpr, sAugSub, sAug, sCont, gName, gSub, gTup, gTup.go, aVar, aCst, aBin, aUn, aIf, aTup, aList, lCons, lNil, aCall, aMeth, aCmp, aSlice, tCmp, tCmp2, tAnd, tOr, tNot, tVal, tTrue, tFalse, upd_at, if_true, if_false, Bool.false_eq_true, decide_true, decide_false, decide_eq_true_eq, opItem, opAdd, opIAdd, opIAddX, opSub, opMul, opDiv, opMod, opNeg, cmpOp, cmpLt, cmpIn, cmpIs, eq_int, eq_str, eq_bool, occ_one, truth, kList, kStr, fLen, fRange, fList, fTuple, fChr, fSJoin, fAll, fAny, fCount, fSRstrip, fSum, fMin, joinL_nil, fAppend, fInsert, fPop, withOwn, withItems, setAt, nth_zero, nth_one, nth_two, nth_last, kOk, bindP, List.length_cons, List.length_nil, List.isEmpty_cons, List.isEmpty_nil, List.map_nil, List.map_cons, Nat.reduceAdd, Nat.reduceEqDiff, Nat.succ_ne_self, Int.reduceNeg, Int.reduceLE, Int.reduceLT, Int.reduceEq, Int.cast_ofNat_Int, Int.toNat_zero, Int.toNat_one, Int.reduceToNat, Int.le_refl, List.getElem?_cons_zero, List.getElem?_cons_succ, reduceIte, reduceCtorEq, true_and, and_true, and_self, not_true_eq_false, not_false_eq_true, Bool.not_true, Bool.not_false, Bool.not_eq_true, Bool.not_eq_false, ne_eq, decide_not]
          simp only [if_true] at eb
          (try simp only [sCons, sNil, sAssign, sRet, sRet0, sIf, sExpr, sFor, sAugSub, sAug, sCont, gName, gSub, gTup, gTup.go, aVar, aCst, aBin, aUn, aIf, aTup, aList, lCons, lNil, aCall, aMeth, aCmp, aSlice, tCmp, tCmp2, tAnd, tOr, tNot, tVal, tTrue, tFalse, upd_at, if_true, if_false, Bool.false_eq_true, decide_true, decide_false, decide_eq_true_eq, opItem, opAdd, opIAdd, opIAddX, opSub, opMul, opDiv, opMod, opNeg, cmpOp, cmpLt, cmpIn, cmpIs, eq_int, eq_str, eq_bool, occ_one, truth, kList, kStr, fLen, fRange, fList, fTuple, fChr, fSJoin, fAll, fAny, fCount, fSRstrip, fSum, fMin, joinL_nil, fAppend, fInsert, fPop, withOwn, withItems, setAt, nth_zero, nth_one, nth_two, nth_last, kOk, bindP, List.length_cons, List.length_nil, List.isEmpty_cons, List.isEmpty_nil, List.map_nil, List.map_cons, Nat.reduceAdd, Nat.reduceEqDiff, Nat.succ_ne_self, Int.reduceNeg, Int.reduceLE, Int.reduceLT, Int.reduceEq, Int.cast_ofNat_Int, Int.toNat_zero, Int.toNat_one, Int.reduceToNat, Int.le_refl, List.getElem?_cons_zero, List.getElem?_cons_succ, reduceIte, reduceCtorEq, true_and, and_true, and_self, not_true_eq_false, not_false_eq_true, Bool.not_true, Bool.not_false, Bool.not_eq_true, Bool.not_eq_false, ne_eq, decide_not])
          have := hQ H ek
          rw [← eb] at this
          exact this
        · have : ¬ ((k : Nat) : Int) - 1 < 0 := by omega
          try simp only [r7, eq_false this, sNil, sAssign, sRet, sRet0, sIf, sExpr, sAugSub, sAug, sCont, gName, gSub, gTup, gTup.go, aVar, aCst, aBin, aUn, aIf, aTup, aList, lCons, lNil, aCall, aMeth, aCmp, aSlice, tCmp, tCmp2, tAnd, tOr, tNot, tVal, tTrue, tFalse, upd_at, if_true, if_false, Bool.false_eq_true, decide_true, decide_false, decide_eq_true_eq, opItem, opAdd, opIAdd, opIAddX, opSub, opMul, opDiv, opMod, opNeg, cmpOp, cmpLt, cmpIn, cmpIs, eq_int, eq_str, eq_bool, occ_one, truth, kList, kStr, fLen, fRange, fList, fTuple, fChr, fSJoin, fAll, fAny, fCount, fSRstrip, fSum, fMin, joinL_nil, fAppend, fInsert, fPop, withOwn, withItems, setAt, nth_zero, nth_one, nth_two, nth_last, kOk, bindP, List.length_cons, List.length_nil, List.isEmpty_cons, List.isEmpty_nil, List.map_nil, List.map_cons, Nat.reduceAdd, Nat.reduceEqDiff, Nat.succ_ne_self, Int.reduceNeg, Int.reduceLE, Int.reduceLT, Int.reduceEq, Int.cast_ofNat_Int, Int.toNat_zero, Int.toNat_one, Int.reduceToNat, Int.le_refl, List.getElem?_cons_zero, List.getElem?_cons_succ, reduceIte, reduceCtorEq, true_and, and_true, and_self, not_true_eq_false, not_false_eq_true, Bool.not_true, Bool.not_false, Bool.not_eq_true, Bool.not_eq_false, ne_eq, decide_not]
          rw [if_neg hk] at eb
          exact ⟨⟨rest, w + u.length, k - 1, rfl, by simp [upd_at]; omega, eb, by omega⟩, ek⟩
      · simp only [bal, h40, h41, if_false] at eb
        (try simp only [sCons, sNil, sAssign, sRet, sRet0, sIf, sExpr, sFor, sAugSub, sAug, sCont, gName, gSub, gTup, gTup.go, aVar, aCst, aBin, aUn, aIf, aTup, aList, lCons, lNil, aCall, aMeth, aCmp, aSlice, tCmp, tCmp2, tAnd, tOr, tNot, tVal, tTrue, tFalse, upd_at, if_true, if_false, Bool.false_eq_true, decide_true, decide_false, decide_eq_true_eq, opItem, opAdd, opIAdd, opIAddX, opSub, opMul, opDiv, opMod, opNeg, cmpOp, cmpLt, cmpIn, cmpIs, eq_int, eq_str, eq_bool, occ_one, truth, kList, kStr, fLen, fRange, fList, fTuple, fChr, fSJoin, fAll, fAny, fCount, fSRstrip, fSum, fMin, joinL_nil, fAppend, fInsert, fPop, withOwn, withItems, setAt, nth_zero, nth_one, nth_two, nth_last, kOk, bindP, List.length_cons, List.length_nil, List.isEmpty_cons, List.isEmpty_nil, List.map_nil, List.map_cons, Nat.reduceAdd, Nat.reduceEqDiff, Nat.succ_ne_self, Int.reduceNeg, Int.reduceLE, Int.reduceLT, Int.reduceEq, Int.cast_ofNat_Int, Int.toNat_zero, Int.toNat_one, Int.reduceToNat, Int.le_refl, List.getElem?_cons_zero, List.getElem?_cons_succ, reduceIte, reduceCtorEq, true_and, and_true, and_self, not_true_eq_false, not_false_eq_true, Bool.not_true, Bool.not_false, Bool.not_eq_true, Bool.not_eq_false, ne_eq, decide_not])
        try simp only [eq_false h40, l__check_parenthesis_4, sNil, sAssign, sRet, sRet0, sIf, sExpr, sAugSub, sAug, sCont, gName, gSub, gTup, gTup.go, aVar, aCst, aBin, aUn, aIf, aTup, aList, lCons, lNil, aCall, aMeth, aCmp, aSlice, tCmp, tCmp2, tAnd, tOr, tNot, tVal, tTrue, tFalse, upd_at, if_true, if_false, Bool.false_eq_true, decide_true, decide_false, decide_eq_true_eq, opItem, opAdd, opIAdd, opIAddX, opSub, opMul, opDiv, opMod, opNeg, cmpOp, cmpLt, cmpIn, cmpIs, eq_int, eq_str, eq_bool, occ_one, truth, kList, kStr, fLen, fRange, fList, fTuple, fChr, fSJoin, fAll, fAny, fCount, fSRstrip, fSum, fMin, joinL_nil, fAppend, fInsert, fPop, withOwn, withItems, setAt, nth_zero, nth_one, nth_two, nth_last, kOk, bindP, List.length_cons, List.length_nil, List.isEmpty_cons, List.isEmpty_nil, List.map_nil, List.map_cons, Nat.reduceAdd, Nat.reduceEqDiff, Nat.succ_ne_self, Int.reduceNeg, Int.reduceLE, Int.reduceLT, Int.reduceEq, Int.cast_ofNat_Int, Int.toNat_zero, Int.toNat_one, Int.reduceToNat, Int.le_refl, List.getElem?_cons_zero, List.getElem?_cons_succ, reduceIte, reduceCtorEq, true_and, and_true, and_self, not_true_eq_false, not_false_eq_true, Bool.not_true, Bool.not_false, Bool.not_eq_true, Bool.not_eq_false, ne_eq, decide_not]
        (try simp only [sCons, sNil, sAssign, sRet, sRet0, sIf, sExpr, sFor, sAugSub, sAug, sCont, gName, gSub, gTup, gTup.go, aVar, aCst, aBin, aUn, aIf, aTup, aList, lCons, lNil, aCall, aMeth, aCmp, aSlice, tCmp, tCmp2, tAnd, tOr, tNot, tVal, tTrue, tFalse, upd_at, if_true, if_false, Bool.false_eq_true, decide_true, decide_false, decide_eq_true_eq, opItem, opAdd, opIAdd, opIAddX, opSub, opMul, opDiv, opMod, opNeg, cmpOp, cmpLt, cmpIn, cmpIs, eq_int, eq_str, eq_bool, occ_one, truth, kList, kStr, fLen, fRange, fList, fTuple, fChr, fSJoin, fAll, fAny, fCount, fSRstrip, fSum, fMin, joinL_nil, fAppend, fInsert, fPop, withOwn, withItems, setAt, nth_zero, nth_one, nth_two, nth_last, kOk, bindP, List.length_cons, List.length_nil, List.isEmpty_cons, List.isEmpty_nil, List.map_nil, List.map_cons, Nat.reduceAdd, Nat.reduceEqDiff, Nat.succ_ne_self, Int.reduceNeg, Int.reduceLE, Int.reduceLT, Int.reduceEq, Int.cast_ofNat_Int, Int.toNat_zero, Int.toNat_one, Int.reduceToNat, Int.le_refl, List.getElem?_cons_zero, List.getElem?_cons_succ, reduceIte, reduceCtorEq, true_and, and_true, and_self, not_true_eq_false, not_false_eq_true, Bool.not_true, Bool.not_false, Bool.not_eq_true, Bool.not_eq_false, ne_eq, decide_not])
        try simp only [eq_false h41, sNil, sAssign, sRet, sRet0, sIf, sExpr, sAugSub, sAug, sCont, gName, gSub, gTup, gTup.go, aVar, aCst, aBin, aUn, aIf, aTup, aList, lCons, lNil, aCall, aMeth, aCmp, aSlice, tCmp, tCmp2, tAnd, tOr, tNot, tVal, tTrue, tFalse, upd_at, if_true, if_false, Bool.false_eq_true, decide_true, decide_false, decide_eq_true_eq, opItem, opAdd, opIAdd, opIAddX, opSub, opMul, opDiv, opMod, opNeg, cmpOp, cmpLt, cmpIn, cmpIs, eq_int, eq_str, eq_bool, occ_one, truth, kList, kStr, fLen, fRange, fList, fTuple, fChr, fSJoin, fAll, fAny, fCount, fSRstrip, fSum, fMin, joinL_nil, fAppend, fInsert, fPop, withOwn, withItems, setAt, nth_zero, nth_one, nth_two, nth_last, kOk, bindP, List.length_cons, List.length_nil, List.isEmpty_cons, List.isEmpty_nil, List.map_nil, List.map_cons, Nat.reduceAdd, Nat.reduceEqDiff, Nat.succ_ne_self, Int.reduceNeg, Int.reduceLE, Int.reduceLT, Int.reduceEq, Int.cast_ofNat_Int, Int.toNat_zero, Int.toNat_one, Int.reduceToNat, Int.le_refl, List.getElem?_cons_zero, List.getElem?_cons_succ, reduceIte, reduceCtorEq, true_and, and_true, and_self, not_true_eq_false, not_false_eq_true, Bool.not_true, Bool.not_false, Bool.not_eq_true, Bool.not_eq_false, ne_eq, decide_not]
        exact ⟨⟨rest, w + u.length, k, rfl, by simp [upd_at, r7], eb, by omega⟩, ek⟩
  · rintro ρ H ⟨⟨rest, w, k, e1, r7, eb, hz⟩, ek⟩
    have : rest = [] := by cases rest with | nil => rfl | cons q r => cases e1
    subst this
    simp only [bal] at eb
    refine after_next ?_
    walk_at "st"
    try simp only [r7, sNil, sAssign, sRet, sRet0, sIf, sExpr, sAugSub, sAug, sCont, gName, gSub, gTup, gTup.go, aVar, aCst, aBin, aUn, aIf, aTup, aList, lCons, lNil, aCall, aMeth, aCmp, aSlice, tCmp, tCmp2, tAnd, tOr, tNot, tVal, tTrue, tFalse, upd_at, if_true, if_false, Bool.false_eq_true, decide_true, decide_false, decide_eq_true_eq, opItem, opAdd, opIAdd, opIAddX, opSub, opMul, opDiv, opMod, opNeg, cmpOp, cmpLt, cmpIn, cmpIs, eq_int, eq_str, eq_bool, occ_one, truth, kList, kStr, fLen, fRange, fList, fTuple, fChr, fSJoin, fAll, fAny, fCount, fSRstrip, fSum, fMin, joinL_nil, fAppend, fInsert, fPop, withOwn, withItems, setAt, nth_zero, nth_one, nth_two, nth_last, kOk, bindP, List.length_cons, List.length_nil, List.isEmpty_cons, List.isEmpty_nil, List.map_nil, List.map_cons, Nat.reduceAdd, Nat.reduceEqDiff, Nat.succ_ne_self, Int.reduceNeg, Int.reduceLE, Int.reduceLT, Int.reduceEq, Int.cast_ofNat_Int, Int.toNat_zero, Int.toNat_one, Int.reduceToNat, Int.le_refl, List.getElem?_cons_zero, List.getElem?_cons_succ, reduceIte, reduceCtorEq, true_and, and_true, and_self, not_true_eq_false, not_false_eq_true, Bool.not_true, Bool.not_false, Bool.not_eq_true, Bool.not_eq_false, ne_eq, decide_not]
    refine after_ret (end_ret ?_)
    have := hQ H ek
    rw [← eb] at this
    have e : decide ((k : Int) = 0) = decide (k = 0) := by by_cases h : k = 0 <;> simp [h]
    rw [e]; exact this
def ppw : List Nat := [40, 39, 39, 44, 32, 39, 39, 41]
def pre1 (x : List Nat) : List Nat := if clo x then x else ppw
def preI (l : Us) (a b : Nat) (o : Bool) (H₀ : AH) (ps : List PV) (ρ : AEnv) (H : AH) : Prop := ∃ done rest : Us, l = done ++ rest ∧ ps = rest.map .str ∧ ρ 9 = some (.ref a) ∧ H a = some ⟨(done.map pre1).map .str, true⟩ ∧ Keep H₀ H
theorem pre_spec {Q : PV → AH → Prop} {H₀ : AH} {b : Nat} {o : Bool} {l : Us} (hl : l.length ≤ 10000) (hx : ∀ x ∈ l, x.length ≤ 50000) (hb : H₀ b = some ⟨l.map .str, o⟩)
    (hQ : ∀ a H', H₀ a = none → Keep H₀ H' → H' a = some ⟨(l.map pre1).map .str, true⟩ → Q (.ref a) H') : f__pre_parse_validation [.ref b] Q H₀ := by
  refine fn rfl ?_
  walk_at "st"
  (try simp only [sCons, sNil, sAssign, sRet, sRet0, sIf, sExpr, sFor, sAugSub, sAug, sCont, gName, gSub, gTup, gTup.go, aVar, aCst, aBin, aUn, aIf, aTup, aList, lCons, lNil, aCall, aMeth, aCmp, aSlice, tCmp, tCmp2, tAnd, tOr, tNot, tVal, tTrue, tFalse, upd_at, if_true, if_false, Bool.false_eq_true, decide_true, decide_false, decide_eq_true_eq, opItem, opAdd, opIAdd, opIAddX, opSub, opMul, opDiv, opMod, opNeg, cmpOp, cmpLt, cmpIn, cmpIs, eq_int, eq_str, eq_bool, occ_one, truth, kList, kStr, fLen, fRange, fList, fTuple, fChr, fSJoin, fAll, fAny, fCount, fSRstrip, fSum, fMin, joinL_nil, fAppend, fInsert, fPop, withOwn, withItems, setAt, nth_zero, nth_one, nth_two, nth_last, kOk, bindP, List.length_cons, List.length_nil, List.isEmpty_cons, List.isEmpty_nil, List.map_nil, List.map_cons, Nat.reduceAdd, Nat.reduceEqDiff, Nat.succ_ne_self, Int.reduceNeg, Int.reduceLE, Int.reduceLT, Int.reduceEq, Int.cast_ofNat_Int, Int.toNat_zero, Int.toNat_one, Int.reduceToNat, Int.le_refl, List.getElem?_cons_zero, List.getElem?_cons_succ, reduceIte, reduceCtorEq, true_and, and_true, and_self, not_true_eq_false, not_false_eq_true, Bool.not_true, Bool.not_false, Bool.not_eq_true, Bool.not_eq_false, ne_eq, decide_not])
  refine ⟨by simp [szOk], fun a ha => after_next ?_⟩
  have hba := ne_new hb ha
  walk_at "st"
  try simp only [sFor, hba, hb, sNil, sAssign, sRet, sRet0, sIf, sExpr, sAugSub, sAug, sCont, gName, gSub, gTup, gTup.go, aVar, aCst, aBin, aUn, aIf, aTup, aList, lCons, lNil, aCall, aMeth, aCmp, aSlice, tCmp, tCmp2, tAnd, tOr, tNot, tVal, tTrue, tFalse, upd_at, if_true, if_false, Bool.false_eq_true, decide_true, decide_false, decide_eq_true_eq, opItem, opAdd, opIAdd, opIAddX, opSub, opMul, opDiv, opMod, opNeg, cmpOp, cmpLt, cmpIn, cmpIs, eq_int, eq_str, eq_bool, occ_one, truth, kList, kStr, fLen, fRange, fList, fTuple, fChr, fSJoin, fAll, fAny, fCount, fSRstrip, fSum, fMin, joinL_nil, fAppend, fInsert, fPop, withOwn, withItems, setAt, nth_zero, nth_one, nth_two, nth_last, kOk, bindP, List.length_cons, List.length_nil, List.isEmpty_cons, List.isEmpty_nil, List.map_nil, List.map_cons, Nat.reduceAdd, Nat.reduceEqDiff, Nat.succ_ne_self, Int.reduceNeg, Int.reduceLE, Int.reduceLT, Int.reduceEq, Int.cast_ofNat_Int, Int.toNat_zero, Int.toNat_one, Int.reduceToNat, Int.le_refl, List.getElem?_cons_zero, List.getElem?_cons_succ, reduceIte, reduceCtorEq, true_and, and_true, and_self, not_true_eq_false, not_false_eq_true, Bool.not_true, Bool.not_false, Bool.not_eq_true, Bool.not_eq_false, ne_eq, decide_not]
  refine forL_inv mg_name m_l__pre_parse_validation_2 (preI l a b o H₀) ?_ ?_ _ _ _ ⟨[], l, rfl, rfl, rfl, upd_same _ _ _, Keep.new ha⟩
  · rintro p ps ρ H ⟨done, rest, e1, e2, r9, ea, ek⟩
    obtain ⟨x, rest, rfl⟩ : ∃ q r, rest = q :: r := by cases rest with | nil => cases e2 | cons q r => exact ⟨q, r, rfl⟩
    obtain ⟨rfl, rfl⟩ := List.cons.inj e2
    subst e1
    have hxx := hx x (by simp)
    simp only [List.length_append, List.length_cons] at hl
    have fin : ∀ (ρ' : AEnv) (H' : AH) w, ρ' 9 = some (.ref a) → pre1 x = w → Keep H₀ H' → (upd H' a ⟨(done.map pre1).map .str ++ [.str w], true⟩) b = some ⟨(done ++ x :: rest).map .str, o⟩ ∧ preI (done ++ x :: rest) a b o H₀ (rest.map .str) ρ' (upd H' a ⟨(done.map pre1).map .str ++ [.str w], true⟩) := fun ρ' H' w h hw hk =>
      ⟨(hk.upd ha).at hb, done ++ [x], rest, by simp, rfl, h, by simp [upd_same, hw], hk.upd ha⟩
    have hz : szOk ((done.map pre1).map PV.str).length := by simp only [szOk, List.length_map]; omega
    simp only [gName, l__pre_parse_validation_2]
    walk_at "st"
    (try simp only [sCons, sNil, sAssign, sRet, sRet0, sIf, sExpr, sFor, sAugSub, sAug, sCont, gName, gSub, gTup, gTup.go, aVar, aCst, aBin, aUn, aIf, aTup, aList, lCons, lNil, aCall, aMeth, aCmp, aSlice, tCmp, tCmp2, tAnd, tOr, tNot, tVal, tTrue, tFalse, upd_at, if_true, if_false, Bool.false_eq_true, decide_true, decide_false, decide_eq_true_eq, opItem, opAdd, opIAdd, opIAddX, opSub, opMul, opDiv, opMod, opNeg, cmpOp, cmpLt, cmpIn, cmpIs, eq_int, eq_str, eq_bool, occ_one, truth, kList, kStr, fLen, fRange, fList, fTuple, fChr, fSJoin, fAll, fAny, fCount, fSRstrip, fSum, fMin, joinL_nil, fAppend, fInsert, fPop, withOwn, withItems, setAt, nth_zero, nth_one, nth_two, nth_last, kOk, bindP, List.length_cons, List.length_nil, List.isEmpty_cons, List.isEmpty_nil, List.map_nil, List.map_cons, Nat.reduceAdd, Nat.reduceEqDiff, Nat.succ_ne_self, Int.reduceNeg, Int.reduceLE, Int.reduceLT, Int.reduceEq, Int.cast_ofNat_Int, Int.toNat_zero, Int.toNat_one, Int.reduceToNat, Int.le_refl, List.getElem?_cons_zero, List.getElem?_cons_succ, reduceIte, reduceCtorEq, true_and, and_true, and_self, not_true_eq_false, not_false_eq_true, Bool.not_true, Bool.not_false, Bool.not_eq_true, Bool.not_eq_false, ne_eq, decide_not])
    refine check_spec hxx fun H1 K1 => ?_
    cases hc : clo x with
    | true =>
      (try simp only [sCons, sNil, sAssign, sRet, sRet0, sIf, sExpr, sFor, sAugSub, sAug, sCont, gName, gSub, gTup, gTup.go, aVar, aCst, aBin, aUn, aIf, aTup, aList, lCons, lNil, aCall, aMeth, aCmp, aSlice, tCmp, tCmp2, tAnd, tOr, tNot, tVal, tTrue, tFalse, upd_at, if_true, if_false, Bool.false_eq_true, decide_true, decide_false, decide_eq_true_eq, opItem, opAdd, opIAdd, opIAddX, opSub, opMul, opDiv, opMod, opNeg, cmpOp, cmpLt, cmpIn, cmpIs, eq_int, eq_str, eq_bool, occ_one, truth, kList, kStr, fLen, fRange, fList, fTuple, fChr, fSJoin, fAll, fAny, fCount, fSRstrip, fSum, fMin, joinL_nil, fAppend, fInsert, fPop, withOwn, withItems, setAt, nth_zero, nth_one, nth_two, nth_last, kOk, bindP, List.length_cons, List.length_nil, List.isEmpty_cons, List.isEmpty_nil, List.map_nil, List.map_cons, Nat.reduceAdd, Nat.reduceEqDiff, Nat.succ_ne_self, Int.reduceNeg, Int.reduceLE, Int.reduceLT, Int.reduceEq, Int.cast_ofNat_Int, Int.toNat_zero, Int.toNat_one, Int.reduceToNat, Int.le_refl, List.getElem?_cons_zero, List.getElem?_cons_succ, reduceIte, reduceCtorEq, true_and, and_true, and_self, not_true_eq_false, not_false_eq_true, Bool.not_true, Bool.not_false, Bool.not_eq_true, Bool.not_eq_false, ne_eq, decide_not])
      refine after_next ?_
      walk_at "st"
      try simp only [r9, K1.at ea, sNil, sAssign, sRet, sRet0, sIf, sExpr, sAugSub, sAug, sCont, gName, gSub, gTup, gTup.go, aVar, aCst, aBin, aUn, aIf, aTup, aList, lCons, lNil, aCall, aMeth, aCmp, aSlice, tCmp, tCmp2, tAnd, tOr, tNot, tVal, tTrue, tFalse, upd_at, if_true, if_false, Bool.false_eq_true, decide_true, decide_false, decide_eq_true_eq, opItem, opAdd, opIAdd, opIAddX, opSub, opMul, opDiv, opMod, opNeg, cmpOp, cmpLt, cmpIn, cmpIs, eq_int, eq_str, eq_bool, occ_one, truth, kList, kStr, fLen, fRange, fList, fTuple, fChr, fSJoin, fAll, fAny, fCount, fSRstrip, fSum, fMin, joinL_nil, fAppend, fInsert, fPop, withOwn, withItems, setAt, nth_zero, nth_one, nth_two, nth_last, kOk, bindP, List.length_cons, List.length_nil, List.isEmpty_cons, List.isEmpty_nil, List.map_nil, List.map_cons, Nat.reduceAdd, Nat.reduceEqDiff, Nat.succ_ne_self, Int.reduceNeg, Int.reduceLE, Int.reduceLT, Int.reduceEq, Int.cast_ofNat_Int, Int.toNat_zero, Int.toNat_one, Int.reduceToNat, Int.le_refl, List.getElem?_cons_zero, List.getElem?_cons_succ, reduceIte, reduceCtorEq, true_and, and_true, and_self, not_true_eq_false, not_false_eq_true, Bool.not_true, Bool.not_false, Bool.not_eq_true, Bool.not_eq_false, ne_eq, decide_not]
      exact ⟨hz, after_next (fin _ _ _ (by simp [upd_at, r9]) (by simp [pre1, hc]) (ek.trans K1))⟩
    | false =>
      try simp only [l__pre_parse_validation_1, sNil, sAssign, sRet, sRet0, sIf, sExpr, sAugSub, sAug, sCont, gName, gSub, gTup, gTup.go, aVar, aCst, aBin, aUn, aIf, aTup, aList, lCons, lNil, aCall, aMeth, aCmp, aSlice, tCmp, tCmp2, tAnd, tOr, tNot, tVal, tTrue, tFalse, upd_at, if_true, if_false, Bool.false_eq_true, decide_true, decide_false, decide_eq_true_eq, opItem, opAdd, opIAdd, opIAddX, opSub, opMul, opDiv, opMod, opNeg, cmpOp, cmpLt, cmpIn, cmpIs, eq_int, eq_str, eq_bool, occ_one, truth, kList, kStr, fLen, fRange, fList, fTuple, fChr, fSJoin, fAll, fAny, fCount, fSRstrip, fSum, fMin, joinL_nil, fAppend, fInsert, fPop, withOwn, withItems, setAt, nth_zero, nth_one, nth_two, nth_last, kOk, bindP, List.length_cons, List.length_nil, List.isEmpty_cons, List.isEmpty_nil, List.map_nil, List.map_cons, Nat.reduceAdd, Nat.reduceEqDiff, Nat.succ_ne_self, Int.reduceNeg, Int.reduceLE, Int.reduceLT, Int.reduceEq, Int.cast_ofNat_Int, Int.toNat_zero, Int.toNat_one, Int.reduceToNat, Int.le_refl, List.getElem?_cons_zero, List.getElem?_cons_succ, reduceIte, reduceCtorEq, true_and, and_true, and_self, not_true_eq_false, not_false_eq_true, Bool.not_true, Bool.not_false, Bool.not_eq_true, Bool.not_eq_false, ne_eq, decide_not]
      walk_at "st"
      (try simp only [sCons, sNil, sAssign, sRet, sRet0, sIf, sExpr, sFor, sAugSub, sAug, sCont, gName, gSub, gTup, gTup.go, aVar, aCst, aBin, aUn, aIf, aTup, aList, lCons, lNil, aCall, aMeth, aCmp, aSlice, tCmp, tCmp2, tAnd, tOr, tNot, tVal, tTrue, tFalse, upd_at, if_true, if_false, Bool.false_eq_true, decide_true, decide_false, decide_eq_true_eq, opItem, opAdd, opIAdd, opIAddX, opSub, opMul, opDiv, opMod, opNeg, cmpOp, cmpLt, cmpIn, cmpIs, eq_int, eq_str, eq_bool, occ_one, truth, kList, kStr, fLen, fRange, fList, fTuple, fChr, fSJoin, fAll, fAny, fCount, fSRstrip, fSum, fMin, joinL_nil, fAppend, fInsert, fPop, withOwn, withItems, setAt, nth_zero, nth_one, nth_two, nth_last, kOk, bindP, List.length_cons, List.length_nil, List.isEmpty_cons, List.isEmpty_nil, List.map_nil, List.map_cons, Nat.reduceAdd, Nat.reduceEqDiff, Nat.succ_ne_self, Int.reduceNeg, Int.reduceLE, Int.reduceLT, Int.reduceEq, Int.cast_ofNat_Int, Int.toNat_zero, Int.toNat_one, Int.reduceToNat, Int.le_refl, List.getElem?_cons_zero, List.getElem?_cons_succ, reduceIte, reduceCtorEq, true_and, and_true, and_self, not_true_eq_false, not_false_eq_true, Bool.not_true, Bool.not_false, Bool.not_eq_true, Bool.not_eq_false, ne_eq, decide_not])
      refine after_next (after_next ?_)
      walk_at "st"
      try simp only [r9, K1.at ea, sNil, sAssign, sRet, sRet0, sIf, sExpr, sAugSub, sAug, sCont, gName, gSub, gTup, gTup.go, aVar, aCst, aBin, aUn, aIf, aTup, aList, lCons, lNil, aCall, aMeth, aCmp, aSlice, tCmp, tCmp2, tAnd, tOr, tNot, tVal, tTrue, tFalse, upd_at, if_true, if_false, Bool.false_eq_true, decide_true, decide_false, decide_eq_true_eq, opItem, opAdd, opIAdd, opIAddX, opSub, opMul, opDiv, opMod, opNeg, cmpOp, cmpLt, cmpIn, cmpIs, eq_int, eq_str, eq_bool, occ_one, truth, kList, kStr, fLen, fRange, fList, fTuple, fChr, fSJoin, fAll, fAny, fCount, fSRstrip, fSum, fMin, joinL_nil, fAppend, fInsert, fPop, withOwn, withItems, setAt, nth_zero, nth_one, nth_two, nth_last, kOk, bindP, List.length_cons, List.length_nil, List.isEmpty_cons, List.isEmpty_nil, List.map_nil, List.map_cons, Nat.reduceAdd, Nat.reduceEqDiff, Nat.succ_ne_self, Int.reduceNeg, Int.reduceLE, Int.reduceLT, Int.reduceEq, Int.cast_ofNat_Int, Int.toNat_zero, Int.toNat_one, Int.reduceToNat, Int.le_refl, List.getElem?_cons_zero, List.getElem?_cons_succ, reduceIte, reduceCtorEq, true_and, and_true, and_self, not_true_eq_false, not_false_eq_true, Bool.not_true, Bool.not_false, Bool.not_eq_true, Bool.not_eq_false, ne_eq, decide_not]
      exact ⟨hz, after_next (fin _ _ _ (by simp [upd_at, r9]) (by simp [pre1, hc, ppw]) (ek.trans K1))⟩
  · rintro ρ H ⟨done, rest, e1, e2, r9, ea, ek⟩
    have : rest = [] := by cases rest with | nil => rfl | cons q r => cases e2
    subst this
    simp only [List.append_nil] at e1
    subst e1
    refine after_next ?_
    walk_at "st"
    try simp only [r9, sNil, sAssign, sRet, sRet0, sIf, sExpr, sAugSub, sAug, sCont, gName, gSub, gTup, gTup.go, aVar, aCst, aBin, aUn, aIf, aTup, aList, lCons, lNil, aCall, aMeth, aCmp, aSlice, tCmp, tCmp2, tAnd, tOr, tNot, tVal, tTrue, tFalse, upd_at, if_true, if_false, Bool.false_eq_true, decide_true, decide_false, decide_eq_true_eq, opItem, opAdd, opIAdd, opIAddX, opSub, opMul, opDiv, opMod, opNeg, cmpOp, cmpLt, cmpIn, cmpIs, eq_int, eq_str, eq_bool, occ_one, truth, kList, kStr, fLen, fRange, fList, fTuple, fChr, fSJoin, fAll, fAny, fCount, fSRstrip, fSum, fMin, joinL_nil, fAppend, fInsert, fPop, withOwn, withItems, setAt, nth_zero, nth_one, nth_two, nth_last, kOk, bindP, List.length_cons, List.length_nil, List.isEmpty_cons, List.isEmpty_nil, List.map_nil, List.map_cons, Nat.reduceAdd, Nat.reduceEqDiff, Nat.succ_ne_self, Int.reduceNeg, Int.reduceLE, Int.reduceLT, Int.reduceEq, Int.cast_ofNat_Int, Int.toNat_zero, Int.toNat_one, Int.reduceToNat, Int.le_refl, List.getElem?_cons_zero, List.getElem?_cons_succ, reduceIte, reduceCtorEq, true_and, and_true, and_self, not_true_eq_false, not_false_eq_true, Bool.not_true, Bool.not_false, Bool.not_eq_true, Bool.not_eq_false, ne_eq, decide_not]
    exact after_ret (end_ret (hQ a H ha ek ea))
-- striking out () again and again
def bl : Nat → List Nat → Bool
  | k, [] => decide (k = 0)
  | k, c :: r => if c = 40 then bl (k + 1) r else if c = 41 then (if k = 0 then false else bl (k - 1) r) else bl k r
theorem bl_pair : ∀ (p q : List Nat) (k : Nat), bl k (p ++ ([40, 41] ++ q)) = bl k (p ++ q)
  | [], q, k => by simp [bl]
  | c :: p, q, k => by
    simp only [List.cons_append, bl]
    split
    · exact bl_pair p q (k + 1)
    · split
      · split
        · rfl
        · exact bl_pair p q (k - 1)
      · exact bl_pair p q k
theorem bl_join (k : Nat) : ∀ (ws : List (List Nat)) (p : List Nat), bl k (p ++ joinL [40, 41] ws) = bl k (p ++ joinL [] ws)
  | [], p => rfl
  | [x], p => rfl
  | x :: y :: r, p => by
    have ih := bl_join k (y :: r) (p ++ x)
    simp only [joinL, List.append_nil, List.append_assoc] at ih ⊢
    have h2 := bl_pair (p ++ x) (joinL [40, 41] (y :: r)) k
    simp only [List.append_assoc, List.cons_append, List.nil_append] at h2 ⊢
    rw [h2, ih]
theorem join_len : ∀ (ws : List (List Nat)), ws ≠ [] → (joinL [40, 41] ws).length = (joinL [] ws).length + 2 * (ws.length - 1)
  | [], h => absurd rfl h
  | [x], _ => by simp [joinL]
  | x :: y :: r, _ => by
    have ih := join_len (y :: r) (by simp)
    simp only [joinL, List.length_append, List.length_cons, List.length_nil] at ih ⊢
    omega
theorem join_sub {c : Nat} : ∀ (ws : List (List Nat)), c ∈ joinL [] ws → c ∈ joinL [40, 41] ws
  | [], h => h
  | [x], h => h
  | x :: y :: r, h => by
    have ih := join_sub (c := c) (y :: r)
    simp only [joinL, List.append_nil, List.mem_append] at h ⊢
    rcases h with h | h
    · exact .inl (.inl h)
    · exact .inr (ih h)
theorem no_pair_all : ∀ r : List Nat, (∀ c ∈ r, c = 40 ∨ c = 41) → (∀ k, ¬ AtL (40 :: r) [40, 41] k) → ∀ c ∈ r, c = 40
  | [], _, _, c, h => by cases h
  | d :: r, hb, hn, c, h => by
    have hd : d = 40 := by
      rcases hb d (.head _) with e | e
      · exact e
      · exact absurd ⟨[], r, by simp [e], rfl⟩ (hn 0)
    subst hd
    rcases List.mem_cons.mp h with rfl | h
    · rfl
    · refine no_pair_all r (fun c hc => hb c (.tail _ hc)) (fun k ⟨p, q, e, hk⟩ => hn (k + 1) ⟨40 :: p, q, by rw [e]; rfl, by simp [hk]⟩) c h
theorem bl_forty : ∀ (r : List Nat) (k : Nat), (∀ c ∈ r, c = 40) → bl k r = decide (k + r.length = 0)
  | [], k, _ => by simp [bl]
  | c :: r, k, h => by
    have hc := h c (.head _)
    subst hc
    simp only [bl, if_true]
    rw [bl_forty r (k + 1) fun c hc => h c (.tail _ hc)]
    simp
theorem bl_end {y : List Nat} (hb : ∀ c ∈ y, c = 40 ∨ c = 41) (hn : ∀ k, ¬ AtL y [40, 41] k) : bl 0 y = decide (y = []) := by
  cases y with
  | nil => rfl
  | cons c r =>
    rcases hb c (.head _) with rfl | rfl
    · have h := no_pair_all r (fun c hc => hb c (.tail _ hc)) hn
      rw [bl_forty (40 :: r) 0 fun c hc => by rcases List.mem_cons.mp hc with rfl | hc; rfl; exact h c hc]
      simp
    · simp [bl]
theorem close_loop {v : Nat} {Q : Fl → AEnv → AH → Prop} {ρ : AEnv} {H : AH} {y : List Nat} (hb : ∀ c ∈ y, c = 40 ∨ c = 41) (hl : y.length ≤ 5000) (r : ρ v = some (.str y)) (hQ : ∀ ρ' z, ρ' v = some (.str z) → (∀ k, k ≠ v → ρ' k = ρ k) → decide (z = []) = bl 0 y → Q .next ρ' H) :
    sWhile (tCmp .In (aCst (.str [40, 41])) (aVar v)) (sCons (sAssign (gName v) (aMeth kStr fSReplace (aVar v) (lCons (aCst (.str [40, 41])) (lCons (aCst (.str [])) (lNil))))) sNil) Q ρ H := by
  refine while_inv (mt_cmp m_cst m_var) (ms_cons (ms_assign (m_meth mf_sreplace m_var (ml_cons m_cst (ml_cons m_cst ml_nil))) mg_name) ms_nil) (fun k ρ' H' => H' = H ∧ ∃ z, k = z.length ∧ z.length ≤ 5000 ∧ (∀ c ∈ z, c = 40 ∨ c = 41) ∧ ρ' v = some (.str z) ∧ (∀ k, k ≠ v → ρ' k = ρ k) ∧ bl 0 z = bl 0 y) y.length ⟨rfl, y, rfl, hl, hb, r, fun _ _ => rfl, rfl⟩ ?_
  rintro k ρ' H' ⟨rfl, z, rfl, hz, hzb, rz, rk, eb⟩
  cases ho : occIn [40, 41] z with
  | false =>
    try simp only [rz, ho, sNil, sAssign, sRet, sRet0, sIf, sExpr, sAugSub, sAug, sCont, gName, gSub, gTup, gTup.go, aVar, aCst, aBin, aUn, aIf, aTup, aList, lCons, lNil, aCall, aMeth, aCmp, aSlice, tCmp, tCmp2, tAnd, tOr, tNot, tVal, tTrue, tFalse, upd_at, if_true, if_false, Bool.false_eq_true, decide_true, decide_false, decide_eq_true_eq, opItem, opAdd, opIAdd, opIAddX, opSub, opMul, opDiv, opMod, opNeg, cmpOp, cmpLt, cmpIn, cmpIs, eq_int, eq_str, eq_bool, occ_one, truth, kList, kStr, fLen, fRange, fList, fTuple, fChr, fSJoin, fAll, fAny, fCount, fSRstrip, fSum, fMin, joinL_nil, fAppend, fInsert, fPop, withOwn, withItems, setAt, nth_zero, nth_one, nth_two, nth_last, kOk, bindP, List.length_cons, List.length_nil, List.isEmpty_cons, List.isEmpty_nil, List.map_nil, List.map_cons, Nat.reduceAdd, Nat.reduceEqDiff, Nat.succ_ne_self, Int.reduceNeg, Int.reduceLE, Int.reduceLT, Int.reduceEq, Int.cast_ofNat_Int, Int.toNat_zero, Int.toNat_one, Int.reduceToNat, Int.le_refl, List.getElem?_cons_zero, List.getElem?_cons_succ, reduceIte, reduceCtorEq, true_and, and_true, and_self, not_true_eq_false, not_false_eq_true, Bool.not_true, Bool.not_false, Bool.not_eq_true, Bool.not_eq_false, ne_eq, decide_not]
    refine hQ ρ' z rz rk ?_
    rw [← eb, bl_end hzb]
    intro k hk
    have := (occ_iff z [40, 41]).mpr ⟨k, hk⟩
    rw [ho] at this; cases this
  | true =>
    try simp only [rz, ho, sNil, sAssign, sRet, sRet0, sIf, sExpr, sAugSub, sAug, sCont, gName, gSub, gTup, gTup.go, aVar, aCst, aBin, aUn, aIf, aTup, aList, lCons, lNil, aCall, aMeth, aCmp, aSlice, tCmp, tCmp2, tAnd, tOr, tNot, tVal, tTrue, tFalse, upd_at, if_true, if_false, Bool.false_eq_true, decide_true, decide_false, decide_eq_true_eq, opItem, opAdd, opIAdd, opIAddX, opSub, opMul, opDiv, opMod, opNeg, cmpOp, cmpLt, cmpIn, cmpIs, eq_int, eq_str, eq_bool, occ_one, truth, kList, kStr, fLen, fRange, fList, fTuple, fChr, fSJoin, fAll, fAny, fCount, fSRstrip, fSum, fMin, joinL_nil, fAppend, fInsert, fPop, withOwn, withItems, setAt, nth_zero, nth_one, nth_two, nth_last, kOk, bindP, List.length_cons, List.length_nil, List.isEmpty_cons, List.isEmpty_nil, List.map_nil, List.map_cons, Nat.reduceAdd, Nat.reduceEqDiff, Nat.succ_ne_self, Int.reduceNeg, Int.reduceLE, Int.reduceLT, Int.reduceEq, Int.cast_ofNat_Int, Int.toNat_zero, Int.toNat_one, Int.reduceToNat, Int.le_refl, List.getElem?_cons_zero, List.getElem?_cons_succ, reduceIte, reduceCtorEq, true_and, and_true, and_self, not_true_eq_false, not_false_eq_true, Bool.not_true, Bool.not_false, Bool.not_eq_true, Bool.not_eq_false, ne_eq, decide_not]
    walk_at "st"
    try simp only [rz, fSReplace, sNil, sAssign, sRet, sRet0, sIf, sExpr, sAugSub, sAug, sCont, gName, gSub, gTup, gTup.go, aVar, aCst, aBin, aUn, aIf, aTup, aList, lCons, lNil, aCall, aMeth, aCmp, aSlice, tCmp, tCmp2, tAnd, tOr, tNot, tVal, tTrue, tFalse, upd_at, if_true, if_false, Bool.false_eq_true, decide_true, decide_false, decide_eq_true_eq, opItem, opAdd, opIAdd, opIAddX, opSub, opMul, opDiv, opMod, opNeg, cmpOp, cmpLt, cmpIn, cmpIs, eq_int, eq_str, eq_bool, occ_one, truth, kList, kStr, fLen, fRange, fList, fTuple, fChr, fSJoin, fAll, fAny, fCount, fSRstrip, fSum, fMin, joinL_nil, fAppend, fInsert, fPop, withOwn, withItems, setAt, nth_zero, nth_one, nth_two, nth_last, kOk, bindP, List.length_cons, List.length_nil, List.isEmpty_cons, List.isEmpty_nil, List.map_nil, List.map_cons, Nat.reduceAdd, Nat.reduceEqDiff, Nat.succ_ne_self, Int.reduceNeg, Int.reduceLE, Int.reduceLT, Int.reduceEq, Int.cast_ofNat_Int, Int.toNat_zero, Int.toNat_one, Int.reduceToNat, Int.le_refl, List.getElem?_cons_zero, List.getElem?_cons_succ, reduceIte, reduceCtorEq, true_and, and_true, and_self, not_true_eq_false, not_false_eq_true, Bool.not_true, Bool.not_false, Bool.not_eq_true, Bool.not_eq_false, ne_eq, decide_not]
    refine ⟨by first | omega | (simp; omega), fun ws h1 h2 h3 => after_next ?_⟩
    have h4 := h3 ho
    have h5 := join_len ws h1
    rw [h2] at h5
    refine ⟨(joinL [] ws).length, by omega, rfl, joinL [] ws, rfl, by omega, fun c hc => hzb c (by rw [← h2]; exact join_sub ws hc), by rw [joinL_nil]; exact upd_same _ _ _, fun k hk => by rw [upd_other _ _ hk, rk k hk], ?_⟩
    have := bl_join 0 ws []
    rw [← eb, ← h2]
    exact this.symm
def isB (u : List Nat) : Bool := decide (u = [40]) || decide (u = [41])
theorem bal_bl : ∀ (V : Us) (k : Nat), bl k (V.filter isB).flatten = bal k V
  | [], k => rfl
  | u :: r, k => by
    by_cases h1 : u = [40]
    · subst h1
      rw [show ([40] :: r).filter isB = [40] :: r.filter isB from rfl]
      simp only [List.flatten_cons, List.singleton_append, bl, bal, if_true]
      exact bal_bl r (k + 1)
    · by_cases h2 : u = [41]
      · subst h2
        rw [show ([41] :: r).filter isB = [41] :: r.filter isB from rfl]
        simp only [List.flatten_cons, List.singleton_append, bl, bal, if_true]
        rw [bal_bl r (k - 1)]
        simp
      · have : isB u = false := by simp [isB, h1, h2]
        rw [List.filter_cons_of_neg (by simp [this])]
        simp only [bal, h1, h2, if_false]
        exact bal_bl r k
theorem isB_mem {V : Us} : ∀ c ∈ (V.filter isB).flatten, c = 40 ∨ c = 41 := by
  intro c hc
  obtain ⟨u, hu, hc⟩ := List.mem_flatten.mp hc
  have := (List.mem_filter.mp hu).2
  simp [isB] at this
  rcases this with rfl | rfl
  · exact .inl (by simpa using hc)
  · exact .inr (by simpa using hc)
theorem isB_sum (V : Us) : ((V.filter isB).map List.length).sum ≤ V.length := by
  induction V with
  | nil => simp
  | cons u r ih =>
    cases h : isB u with
    | false => rw [List.filter_cons_of_neg (by simp [h])]; simp; omega
    | true =>
      rw [List.filter_cons_of_pos h]
      simp [isB] at h
      have : u.length = 1 := by rcases h with rfl | rfl <;> rfl
      simp [this]; omega
theorem getD_nth {l : List Nat} {i : Int} (h0 : 0 ≤ i) (h1 : i.toNat < l.length) : nth l i = some (l.getD i.toNat 0) := by
  unfold nth
  rw [if_pos h0, List.getD_eq_getElem?_getD, List.getElem?_eq_getElem h1]; rfl
def un (n : Int) : List Nat := if n % 14 < 9 then [[40, 40, 41, 41, 41, 91, 97, 46, 93].getD (n % 14).toNat 0] else if n % 14 < 13 then [92, [40, 41, 92, 34, 91].getD (n / 14 % 5).toNat 0] else [98]
/-- a unit of the law's own: whole, no bare mark, no blank, no < -/
def uF (u : List Nat) : Prop := uOk u ∧ u ≠ [34] ∧ u.length ≤ 2 ∧ ∀ c ∈ u, c ≠ 32 ∧ c ≠ 60
theorem un_ok (n : Int) : uF (un n) := by
  unfold un
  have h0 : 0 ≤ n % 14 := Int.emod_nonneg _ (by decide)
  have k0 : 0 ≤ n / 14 % 5 := Int.emod_nonneg _ (by decide)
  have k1 : n / 14 % 5 < 5 := Int.emod_lt_of_pos _ (by decide)
  split
  · have : (n % 14).toNat < 9 := by omega
    generalize (n % 14).toNat = k at this
    match k, this with
    | 0, _ | 1, _ | 2, _ | 3, _ | 4, _ | 5, _ | 6, _ | 7, _ | 8, _ => exact ⟨.inl ⟨_, by decide, rfl⟩, by decide, by decide, by decide⟩
  · split
    · have : (n / 14 % 5).toNat < 5 := by omega
      generalize (n / 14 % 5).toNat = k at this
      match k, this with
      | 0, _ | 1, _ | 2, _ | 3, _ | 4, _ => exact ⟨.inr ⟨_, rfl⟩, by decide, by decide, by decide⟩
    · exact ⟨.inl ⟨98, by decide, rfl⟩, by decide, by decide, by decide⟩
theorem unit_spec {Q : PV → AH → Prop} {H : AH} {n : Int} (hQ : Q (.str (un n)) H) : f__law_unit [.int n] Q H := by
  have h0 : 0 ≤ n % 14 := Int.emod_nonneg _ (by decide)
  have h1 : n % 14 < 14 := Int.emod_lt_of_pos _ (by decide)
  have k0 : 0 ≤ n / 14 % 5 := Int.emod_nonneg _ (by decide)
  have k1 : n / 14 % 5 < 5 := Int.emod_lt_of_pos _ (by decide)
  unfold un at hQ
  refine fn rfl ?_
  walk_at "st"
  (try simp only [sCons, sNil, sAssign, sRet, sRet0, sIf, sExpr, sFor, sAugSub, sAug, sCont, gName, gSub, gTup, gTup.go, aVar, aCst, aBin, aUn, aIf, aTup, aList, lCons, lNil, aCall, aMeth, aCmp, aSlice, tCmp, tCmp2, tAnd, tOr, tNot, tVal, tTrue, tFalse, upd_at, if_true, if_false, Bool.false_eq_true, decide_true, decide_false, decide_eq_true_eq, opItem, opAdd, opIAdd, opIAddX, opSub, opMul, opDiv, opMod, opNeg, cmpOp, cmpLt, cmpIn, cmpIs, eq_int, eq_str, eq_bool, occ_one, truth, kList, kStr, fLen, fRange, fList, fTuple, fChr, fSJoin, fAll, fAny, fCount, fSRstrip, fSum, fMin, joinL_nil, fAppend, fInsert, fPop, withOwn, withItems, setAt, nth_zero, nth_one, nth_two, nth_last, kOk, bindP, List.length_cons, List.length_nil, List.isEmpty_cons, List.isEmpty_nil, List.map_nil, List.map_cons, Nat.reduceAdd, Nat.reduceEqDiff, Nat.succ_ne_self, Int.reduceNeg, Int.reduceLE, Int.reduceLT, Int.reduceEq, Int.cast_ofNat_Int, Int.toNat_zero, Int.toNat_one, Int.reduceToNat, Int.le_refl, List.getElem?_cons_zero, List.getElem?_cons_succ, reduceIte, reduceCtorEq, true_and, and_true, and_self, not_true_eq_false, not_false_eq_true, Bool.not_true, Bool.not_false, Bool.not_eq_true, Bool.not_eq_false, ne_eq, decide_not])
  refine after_next ?_
  walk_at "st"
  by_cases c1 : n % 14 < 9
  · have e := getD_nth (l := [40, 40, 41, 41, 41, 91, 97, 46, 93]) h0 (by simp; omega)
    try simp only [eq_true c1, l__law_unit_2, sNil, sAssign, sRet, sRet0, sIf, sExpr, sAugSub, sAug, sCont, gName, gSub, gTup, gTup.go, aVar, aCst, aBin, aUn, aIf, aTup, aList, lCons, lNil, aCall, aMeth, aCmp, aSlice, tCmp, tCmp2, tAnd, tOr, tNot, tVal, tTrue, tFalse, upd_at, if_true, if_false, Bool.false_eq_true, decide_true, decide_false, decide_eq_true_eq, opItem, opAdd, opIAdd, opIAddX, opSub, opMul, opDiv, opMod, opNeg, cmpOp, cmpLt, cmpIn, cmpIs, eq_int, eq_str, eq_bool, occ_one, truth, kList, kStr, fLen, fRange, fList, fTuple, fChr, fSJoin, fAll, fAny, fCount, fSRstrip, fSum, fMin, joinL_nil, fAppend, fInsert, fPop, withOwn, withItems, setAt, nth_zero, nth_one, nth_two, nth_last, kOk, bindP, List.length_cons, List.length_nil, List.isEmpty_cons, List.isEmpty_nil, List.map_nil, List.map_cons, Nat.reduceAdd, Nat.reduceEqDiff, Nat.succ_ne_self, Int.reduceNeg, Int.reduceLE, Int.reduceLT, Int.reduceEq, Int.cast_ofNat_Int, Int.toNat_zero, Int.toNat_one, Int.reduceToNat, Int.le_refl, List.getElem?_cons_zero, List.getElem?_cons_succ, reduceIte, reduceCtorEq, true_and, and_true, and_self, not_true_eq_false, not_false_eq_true, Bool.not_true, Bool.not_false, Bool.not_eq_true, Bool.not_eq_false, ne_eq, decide_not]
    walk_at "st"
    try simp only [e, sNil, sAssign, sRet, sRet0, sIf, sExpr, sAugSub, sAug, sCont, gName, gSub, gTup, gTup.go, aVar, aCst, aBin, aUn, aIf, aTup, aList, lCons, lNil, aCall, aMeth, aCmp, aSlice, tCmp, tCmp2, tAnd, tOr, tNot, tVal, tTrue, tFalse, upd_at, if_true, if_false, Bool.false_eq_true, decide_true, decide_false, decide_eq_true_eq, opItem, opAdd, opIAdd, opIAddX, opSub, opMul, opDiv, opMod, opNeg, cmpOp, cmpLt, cmpIn, cmpIs, eq_int, eq_str, eq_bool, occ_one, truth, kList, kStr, fLen, fRange, fList, fTuple, fChr, fSJoin, fAll, fAny, fCount, fSRstrip, fSum, fMin, joinL_nil, fAppend, fInsert, fPop, withOwn, withItems, setAt, nth_zero, nth_one, nth_two, nth_last, kOk, bindP, List.length_cons, List.length_nil, List.isEmpty_cons, List.isEmpty_nil, List.map_nil, List.map_cons, Nat.reduceAdd, Nat.reduceEqDiff, Nat.succ_ne_self, Int.reduceNeg, Int.reduceLE, Int.reduceLT, Int.reduceEq, Int.cast_ofNat_Int, Int.toNat_zero, Int.toNat_one, Int.reduceToNat, Int.le_refl, List.getElem?_cons_zero, List.getElem?_cons_succ, reduceIte, reduceCtorEq, true_and, and_true, and_self, not_true_eq_false, not_false_eq_true, Bool.not_true, Bool.not_false, Bool.not_eq_true, Bool.not_eq_false, ne_eq, decide_not]
    simp only [c1, if_true] at hQ
    exact ⟨⟨by omega, by omega⟩, after_ret (after_ret (end_ret hQ))⟩
  · try simp only [eq_false c1, sNil, sAssign, sRet, sRet0, sIf, sExpr, sAugSub, sAug, sCont, gName, gSub, gTup, gTup.go, aVar, aCst, aBin, aUn, aIf, aTup, aList, lCons, lNil, aCall, aMeth, aCmp, aSlice, tCmp, tCmp2, tAnd, tOr, tNot, tVal, tTrue, tFalse, upd_at, if_true, if_false, Bool.false_eq_true, decide_true, decide_false, decide_eq_true_eq, opItem, opAdd, opIAdd, opIAddX, opSub, opMul, opDiv, opMod, opNeg, cmpOp, cmpLt, cmpIn, cmpIs, eq_int, eq_str, eq_bool, occ_one, truth, kList, kStr, fLen, fRange, fList, fTuple, fChr, fSJoin, fAll, fAny, fCount, fSRstrip, fSum, fMin, joinL_nil, fAppend, fInsert, fPop, withOwn, withItems, setAt, nth_zero, nth_one, nth_two, nth_last, kOk, bindP, List.length_cons, List.length_nil, List.isEmpty_cons, List.isEmpty_nil, List.map_nil, List.map_cons, Nat.reduceAdd, Nat.reduceEqDiff, Nat.succ_ne_self, Int.reduceNeg, Int.reduceLE, Int.reduceLT, Int.reduceEq, Int.cast_ofNat_Int, Int.toNat_zero, Int.toNat_one, Int.reduceToNat, Int.le_refl, List.getElem?_cons_zero, List.getElem?_cons_succ, reduceIte, reduceCtorEq, true_and, and_true, and_self, not_true_eq_false, not_false_eq_true, Bool.not_true, Bool.not_false, Bool.not_eq_true, Bool.not_eq_false, ne_eq, decide_not]
    refine after_next ?_
    walk_at "st"
    by_cases c2 : n % 14 < 13
    · have e := getD_nth (l := [40, 41, 92, 34, 91]) k0 (by simp; omega)
      try simp only [eq_true c2, l__law_unit_1, sNil, sAssign, sRet, sRet0, sIf, sExpr, sAugSub, sAug, sCont, gName, gSub, gTup, gTup.go, aVar, aCst, aBin, aUn, aIf, aTup, aList, lCons, lNil, aCall, aMeth, aCmp, aSlice, tCmp, tCmp2, tAnd, tOr, tNot, tVal, tTrue, tFalse, upd_at, if_true, if_false, Bool.false_eq_true, decide_true, decide_false, decide_eq_true_eq, opItem, opAdd, opIAdd, opIAddX, opSub, opMul, opDiv, opMod, opNeg, cmpOp, cmpLt, cmpIn, cmpIs, eq_int, eq_str, eq_bool, occ_one, truth, kList, kStr, fLen, fRange, fList, fTuple, fChr, fSJoin, fAll, fAny, fCount, fSRstrip, fSum, fMin, joinL_nil, fAppend, fInsert, fPop, withOwn, withItems, setAt, nth_zero, nth_one, nth_two, nth_last, kOk, bindP, List.length_cons, List.length_nil, List.isEmpty_cons, List.isEmpty_nil, List.map_nil, List.map_cons, Nat.reduceAdd, Nat.reduceEqDiff, Nat.succ_ne_self, Int.reduceNeg, Int.reduceLE, Int.reduceLT, Int.reduceEq, Int.cast_ofNat_Int, Int.toNat_zero, Int.toNat_one, Int.reduceToNat, Int.le_refl, List.getElem?_cons_zero, List.getElem?_cons_succ, reduceIte, reduceCtorEq, true_and, and_true, and_self, not_true_eq_false, not_false_eq_true, Bool.not_true, Bool.not_false, Bool.not_eq_true, Bool.not_eq_false, ne_eq, decide_not]
      walk_at "st"
      try simp only [e, sNil, sAssign, sRet, sRet0, sIf, sExpr, sAugSub, sAug, sCont, gName, gSub, gTup, gTup.go, aVar, aCst, aBin, aUn, aIf, aTup, aList, lCons, lNil, aCall, aMeth, aCmp, aSlice, tCmp, tCmp2, tAnd, tOr, tNot, tVal, tTrue, tFalse, upd_at, if_true, if_false, Bool.false_eq_true, decide_true, decide_false, decide_eq_true_eq, opItem, opAdd, opIAdd, opIAddX, opSub, opMul, opDiv, opMod, opNeg, cmpOp, cmpLt, cmpIn, cmpIs, eq_int, eq_str, eq_bool, occ_one, truth, kList, kStr, fLen, fRange, fList, fTuple, fChr, fSJoin, fAll, fAny, fCount, fSRstrip, fSum, fMin, joinL_nil, fAppend, fInsert, fPop, withOwn, withItems, setAt, nth_zero, nth_one, nth_two, nth_last, kOk, bindP, List.length_cons, List.length_nil, List.isEmpty_cons, List.isEmpty_nil, List.map_nil, List.map_cons, Nat.reduceAdd, Nat.reduceEqDiff, Nat.succ_ne_self, Int.reduceNeg, Int.reduceLE, Int.reduceLT, Int.reduceEq, Int.cast_ofNat_Int, Int.toNat_zero, Int.toNat_one, Int.reduceToNat, Int.le_refl, List.getElem?_cons_zero, List.getElem?_cons_succ, reduceIte, reduceCtorEq, true_and, and_true, and_self, not_true_eq_false, not_false_eq_true, Bool.not_true, Bool.not_false, Bool.not_eq_true, Bool.not_eq_false, ne_eq, decide_not]
      simp only [c1, c2, if_true, if_false] at hQ
      exact ⟨⟨by omega, by omega⟩, by simp [szOk], after_ret (after_ret (end_ret hQ))⟩
    · try simp only [eq_false c2, sNil, sAssign, sRet, sRet0, sIf, sExpr, sAugSub, sAug, sCont, gName, gSub, gTup, gTup.go, aVar, aCst, aBin, aUn, aIf, aTup, aList, lCons, lNil, aCall, aMeth, aCmp, aSlice, tCmp, tCmp2, tAnd, tOr, tNot, tVal, tTrue, tFalse, upd_at, if_true, if_false, Bool.false_eq_true, decide_true, decide_false, decide_eq_true_eq, opItem, opAdd, opIAdd, opIAddX, opSub, opMul, opDiv, opMod, opNeg, cmpOp, cmpLt, cmpIn, cmpIs, eq_int, eq_str, eq_bool, occ_one, truth, kList, kStr, fLen, fRange, fList, fTuple, fChr, fSJoin, fAll, fAny, fCount, fSRstrip, fSum, fMin, joinL_nil, fAppend, fInsert, fPop, withOwn, withItems, setAt, nth_zero, nth_one, nth_two, nth_last, kOk, bindP, List.length_cons, List.length_nil, List.isEmpty_cons, List.isEmpty_nil, List.map_nil, List.map_cons, Nat.reduceAdd, Nat.reduceEqDiff, Nat.succ_ne_self, Int.reduceNeg, Int.reduceLE, Int.reduceLT, Int.reduceEq, Int.cast_ofNat_Int, Int.toNat_zero, Int.toNat_one, Int.reduceToNat, Int.le_refl, List.getElem?_cons_zero, List.getElem?_cons_succ, reduceIte, reduceCtorEq, true_and, and_true, and_self, not_true_eq_false, not_false_eq_true, Bool.not_true, Bool.not_false, Bool.not_eq_true, Bool.not_eq_false, ne_eq, decide_not]
      refine after_next ?_
      walk_at "st"
      (try simp only [sCons, sNil, sAssign, sRet, sRet0, sIf, sExpr, sFor, sAugSub, sAug, sCont, gName, gSub, gTup, gTup.go, aVar, aCst, aBin, aUn, aIf, aTup, aList, lCons, lNil, aCall, aMeth, aCmp, aSlice, tCmp, tCmp2, tAnd, tOr, tNot, tVal, tTrue, tFalse, upd_at, if_true, if_false, Bool.false_eq_true, decide_true, decide_false, decide_eq_true_eq, opItem, opAdd, opIAdd, opIAddX, opSub, opMul, opDiv, opMod, opNeg, cmpOp, cmpLt, cmpIn, cmpIs, eq_int, eq_str, eq_bool, occ_one, truth, kList, kStr, fLen, fRange, fList, fTuple, fChr, fSJoin, fAll, fAny, fCount, fSRstrip, fSum, fMin, joinL_nil, fAppend, fInsert, fPop, withOwn, withItems, setAt, nth_zero, nth_one, nth_two, nth_last, kOk, bindP, List.length_cons, List.length_nil, List.isEmpty_cons, List.isEmpty_nil, List.map_nil, List.map_cons, Nat.reduceAdd, Nat.reduceEqDiff, Nat.succ_ne_self, Int.reduceNeg, Int.reduceLE, Int.reduceLT, Int.reduceEq, Int.cast_ofNat_Int, Int.toNat_zero, Int.toNat_one, Int.reduceToNat, Int.le_refl, List.getElem?_cons_zero, List.getElem?_cons_succ, reduceIte, reduceCtorEq, true_and, and_true, and_self, not_true_eq_false, not_false_eq_true, Bool.not_true, Bool.not_false, Bool.not_eq_true, Bool.not_eq_false, ne_eq, decide_not])
      simp only [c1, c2, if_false] at hQ
      exact after_ret (end_ret hQ)
structure Fd where
  a : Nat
  b : Nat
  c : Nat
  nm : Us
  rm : Us
  ad : Us
def Fd.pv (f : Fd) : PV := .tup [.ref f.a, .ref f.b, .ref f.c]
structure Fd.at (f : Fd) (H : AH) : Prop where
  ha : ∃ o, H f.a = some ⟨f.nm.map .str, o⟩
  hb : ∃ o, H f.b = some ⟨f.rm.map .str, o⟩
  hc : ∃ o, H f.c = some ⟨f.ad.map .str, o⟩
structure Fd.ok (f : Fd) : Prop where
  un : ∀ u ∈ f.nm, uF u
  ur : ∀ u ∈ f.rm, uF u
  ua : ∀ u ∈ f.ad, uF u
  ln : f.nm.length ≤ 70
  lr : f.rm.length ≤ 70
  la : f.ad.length ≤ 70
theorem Fd.at.keep {f : Fd} {H H' : AH} (h : f.at H) (k : Keep H H') : f.at H' :=
  ⟨let ⟨o, e⟩ := h.ha; ⟨o, k.at e⟩, let ⟨o, e⟩ := h.hb; ⟨o, k.at e⟩, let ⟨o, e⟩ := h.hc; ⟨o, k.at e⟩⟩
theorem Fd.at.ro {f : Fd} {H : AH} (h : f.at H) : f.at (ro H) :=
  ⟨let ⟨_, e⟩ := h.ha; ⟨_, ro_some e⟩, let ⟨_, e⟩ := h.hb; ⟨_, ro_some e⟩, let ⟨_, e⟩ := h.hc; ⟨_, ro_some e⟩⟩
theorem uF_len {V : Us} (h : ∀ u ∈ V, uF u) (hl : V.length ≤ 70) : V.flatten.length ≤ 140 ∧ (V.map List.length).sum ≤ 140 := by
  have : V.flatten.length ≤ 2 * V.length := by
    clear hl
    induction V with
    | nil => simp
    | cons u r ih =>
      have h1 := (h u (.head _)).2.2.1
      have h2 := ih fun v hv => h v (.tail _ hv)
      simp only [List.flatten_cons, List.length_append, List.length_cons]; omega
  exact ⟨by omega, by rw [← List.length_flatten]; omega⟩
def Fd.hd (f : Fd) : List Nat := [34] ++ f.nm.flatten ++ [34, 32] ++ f.rm.flatten
def Fd.text (f : Fd) : List Nat := f.hd ++ [32, 60] ++ f.ad.flatten ++ [62]
def Fd.pair (f : Fd) : PV × List Nat := (.str f.hd, f.ad.flatten)
def Fd.clos (f : Fd) : Bool := bal 0 (f.rm ++ f.ad)
def Fd.bare (f : Fd) : Bool := !decide (91 ∈ f.ad.flatten)
theorem Fd.ok.lens {f : Fd} (h : f.ok) : f.nm.flatten.length ≤ 140 ∧ f.rm.flatten.length ≤ 140 ∧ f.ad.flatten.length ≤ 140 ∧ (f.nm.map List.length).sum ≤ 140 ∧ (f.rm.map List.length).sum ≤ 140 ∧ (f.ad.map List.length).sum ≤ 140 ∧ f.hd.length ≤ 290 ∧ f.text.length ≤ 440 := by
  have h1 := uF_len h.un h.ln
  have h2 := uF_len h.ur h.lr
  have h3 := uF_len h.ua h.la
  refine ⟨h1.1, h2.1, h3.1, h1.2, h2.2, h3.2, ?_, ?_⟩ <;> simp only [Fd.text, Fd.hd, List.length_append, List.length_cons, List.length_nil] <;> omega
theorem text_spec {Q : PV → AH → Prop} {H : AH} {f : Fd} (hf : f.ok) (h : f.at H) (hQ : Q (.str f.text) H) : f__law_text [f.pv] Q H := by
  obtain ⟨l1, l2, l3, s1, s2, s3, l4, l5⟩ := hf.lens
  obtain ⟨o1, e1⟩ := h.ha
  obtain ⟨o2, e2⟩ := h.hb
  obtain ⟨o3, e3⟩ := h.hc
  refine fn rfl ?_
  walk_at "st"
  simp only [Fd.pv]
  (try simp only [sCons, sNil, sAssign, sRet, sRet0, sIf, sExpr, sFor, sAugSub, sAug, sCont, gName, gSub, gTup, gTup.go, aVar, aCst, aBin, aUn, aIf, aTup, aList, lCons, lNil, aCall, aMeth, aCmp, aSlice, tCmp, tCmp2, tAnd, tOr, tNot, tVal, tTrue, tFalse, upd_at, if_true, if_false, Bool.false_eq_true, decide_true, decide_false, decide_eq_true_eq, opItem, opAdd, opIAdd, opIAddX, opSub, opMul, opDiv, opMod, opNeg, cmpOp, cmpLt, cmpIn, cmpIs, eq_int, eq_str, eq_bool, occ_one, truth, kList, kStr, fLen, fRange, fList, fTuple, fChr, fSJoin, fAll, fAny, fCount, fSRstrip, fSum, fMin, joinL_nil, fAppend, fInsert, fPop, withOwn, withItems, setAt, nth_zero, nth_one, nth_two, nth_last, kOk, bindP, List.length_cons, List.length_nil, List.isEmpty_cons, List.isEmpty_nil, List.map_nil, List.map_cons, Nat.reduceAdd, Nat.reduceEqDiff, Nat.succ_ne_self, Int.reduceNeg, Int.reduceLE, Int.reduceLT, Int.reduceEq, Int.cast_ofNat_Int, Int.toNat_zero, Int.toNat_one, Int.reduceToNat, Int.le_refl, List.getElem?_cons_zero, List.getElem?_cons_succ, reduceIte, reduceCtorEq, true_and, and_true, and_self, not_true_eq_false, not_false_eq_true, Bool.not_true, Bool.not_false, Bool.not_eq_true, Bool.not_eq_false, ne_eq, decide_not])
  refine after_next ?_
  walk_at "st"
  try simp only [e1, e2, e3, strsOf_map, sNil, sAssign, sRet, sRet0, sIf, sExpr, sAugSub, sAug, sCont, gName, gSub, gTup, gTup.go, aVar, aCst, aBin, aUn, aIf, aTup, aList, lCons, lNil, aCall, aMeth, aCmp, aSlice, tCmp, tCmp2, tAnd, tOr, tNot, tVal, tTrue, tFalse, upd_at, if_true, if_false, Bool.false_eq_true, decide_true, decide_false, decide_eq_true_eq, opItem, opAdd, opIAdd, opIAddX, opSub, opMul, opDiv, opMod, opNeg, cmpOp, cmpLt, cmpIn, cmpIs, eq_int, eq_str, eq_bool, occ_one, truth, kList, kStr, fLen, fRange, fList, fTuple, fChr, fSJoin, fAll, fAny, fCount, fSRstrip, fSum, fMin, joinL_nil, fAppend, fInsert, fPop, withOwn, withItems, setAt, nth_zero, nth_one, nth_two, nth_last, kOk, bindP, List.length_cons, List.length_nil, List.isEmpty_cons, List.isEmpty_nil, List.map_nil, List.map_cons, Nat.reduceAdd, Nat.reduceEqDiff, Nat.succ_ne_self, Int.reduceNeg, Int.reduceLE, Int.reduceLT, Int.reduceEq, Int.cast_ofNat_Int, Int.toNat_zero, Int.toNat_one, Int.reduceToNat, Int.le_refl, List.getElem?_cons_zero, List.getElem?_cons_succ, reduceIte, reduceCtorEq, true_and, and_true, and_self, not_true_eq_false, not_false_eq_true, Bool.not_true, Bool.not_false, Bool.not_eq_true, Bool.not_eq_false, ne_eq, decide_not]
  simp only [Fd.text, Fd.hd] at hQ
  refine ⟨by omega, by simp only [szOk, List.length_append, List.length_cons, List.length_nil]; omega, by simp only [szOk, List.length_append, List.length_cons, List.length_nil]; omega, by omega, by simp only [szOk, List.length_append, List.length_cons, List.length_nil]; omega, by simp only [szOk, List.length_append, List.length_cons, List.length_nil]; omega, by omega, by simp only [szOk, List.length_append, List.length_cons, List.length_nil]; omega, by simp only [szOk, List.length_append, List.length_cons, List.length_nil]; omega, after_ret (end_ret hQ)⟩
theorem pair_spec {Q : PV → AH → Prop} {H : AH} {f : Fd} (hf : f.ok) (h : f.at H) (hQ : Q (.tup [.str f.hd, .str f.ad.flatten]) H) : f__law_pair [f.pv] Q H := by
  obtain ⟨l1, l2, l3, s1, s2, s3, l4, l5⟩ := hf.lens
  obtain ⟨o1, e1⟩ := h.ha
  obtain ⟨o2, e2⟩ := h.hb
  obtain ⟨o3, e3⟩ := h.hc
  refine fn rfl ?_
  walk_at "st"
  simp only [Fd.pv]
  (try simp only [sCons, sNil, sAssign, sRet, sRet0, sIf, sExpr, sFor, sAugSub, sAug, sCont, gName, gSub, gTup, gTup.go, aVar, aCst, aBin, aUn, aIf, aTup, aList, lCons, lNil, aCall, aMeth, aCmp, aSlice, tCmp, tCmp2, tAnd, tOr, tNot, tVal, tTrue, tFalse, upd_at, if_true, if_false, Bool.false_eq_true, decide_true, decide_false, decide_eq_true_eq, opItem, opAdd, opIAdd, opIAddX, opSub, opMul, opDiv, opMod, opNeg, cmpOp, cmpLt, cmpIn, cmpIs, eq_int, eq_str, eq_bool, occ_one, truth, kList, kStr, fLen, fRange, fList, fTuple, fChr, fSJoin, fAll, fAny, fCount, fSRstrip, fSum, fMin, joinL_nil, fAppend, fInsert, fPop, withOwn, withItems, setAt, nth_zero, nth_one, nth_two, nth_last, kOk, bindP, List.length_cons, List.length_nil, List.isEmpty_cons, List.isEmpty_nil, List.map_nil, List.map_cons, Nat.reduceAdd, Nat.reduceEqDiff, Nat.succ_ne_self, Int.reduceNeg, Int.reduceLE, Int.reduceLT, Int.reduceEq, Int.cast_ofNat_Int, Int.toNat_zero, Int.toNat_one, Int.reduceToNat, Int.le_refl, List.getElem?_cons_zero, List.getElem?_cons_succ, reduceIte, reduceCtorEq, true_and, and_true, and_self, not_true_eq_false, not_false_eq_true, Bool.not_true, Bool.not_false, Bool.not_eq_true, Bool.not_eq_false, ne_eq, decide_not])
  refine after_next ?_
  walk_at "st"
  try simp only [e1, e2, e3, strsOf_map, sNil, sAssign, sRet, sRet0, sIf, sExpr, sAugSub, sAug, sCont, gName, gSub, gTup, gTup.go, aVar, aCst, aBin, aUn, aIf, aTup, aList, lCons, lNil, aCall, aMeth, aCmp, aSlice, tCmp, tCmp2, tAnd, tOr, tNot, tVal, tTrue, tFalse, upd_at, if_true, if_false, Bool.false_eq_true, decide_true, decide_false, decide_eq_true_eq, opItem, opAdd, opIAdd, opIAddX, opSub, opMul, opDiv, opMod, opNeg, cmpOp, cmpLt, cmpIn, cmpIs, eq_int, eq_str, eq_bool, occ_one, truth, kList, kStr, fLen, fRange, fList, fTuple, fChr, fSJoin, fAll, fAny, fCount, fSRstrip, fSum, fMin, joinL_nil, fAppend, fInsert, fPop, withOwn, withItems, setAt, nth_zero, nth_one, nth_two, nth_last, kOk, bindP, List.length_cons, List.length_nil, List.isEmpty_cons, List.isEmpty_nil, List.map_nil, List.map_cons, Nat.reduceAdd, Nat.reduceEqDiff, Nat.succ_ne_self, Int.reduceNeg, Int.reduceLE, Int.reduceLT, Int.reduceEq, Int.cast_ofNat_Int, Int.toNat_zero, Int.toNat_one, Int.reduceToNat, Int.le_refl, List.getElem?_cons_zero, List.getElem?_cons_succ, reduceIte, reduceCtorEq, true_and, and_true, and_self, not_true_eq_false, not_false_eq_true, Bool.not_true, Bool.not_false, Bool.not_eq_true, Bool.not_eq_false, ne_eq, decide_not]
  simp only [Fd.hd] at hQ
  refine ⟨by omega, by simp only [szOk, List.length_append, List.length_cons, List.length_nil]; omega, by simp only [szOk, List.length_append, List.length_cons, List.length_nil]; omega, by omega, by simp only [szOk, List.length_append, List.length_cons, List.length_nil]; omega, by omega, by simp [szOk], after_ret (end_ret hQ)⟩
def selB : PV → Option PV
  | .str u => if isB u then some (.str u) else none
  | _ => none
theorem selB_all (V : Us) : (V.map PV.str).filterMap selB = (V.filter isB).map .str := by
  induction V with
  | nil => rfl
  | cons u r ih =>
    simp only [List.map_cons, List.filterMap_cons, selB]
    cases h : isB u with
    | false => rw [List.filter_cons_of_neg (by simp [h])]; simpa using ih
    | true => rw [List.filter_cons_of_pos h]; simpa using ih
theorem closed_spec {Q : PV → AH → Prop} {H : AH} {f : Fd} (hf : f.ok) (h : f.at H) (hQ : ∀ H', Keep H H' → Q (.bool f.clos) H') : f__law_closed [f.pv] Q H := by
  obtain ⟨o2, e2⟩ := h.hb
  obtain ⟨o3, e3⟩ := h.hc
  have lr := hf.lr
  have la := hf.la
  refine fn rfl ?_
  walk_at "st"
  simp only [Fd.pv]
  (try simp only [sCons, sNil, sAssign, sRet, sRet0, sIf, sExpr, sFor, sAugSub, sAug, sCont, gName, gSub, gTup, gTup.go, aVar, aCst, aBin, aUn, aIf, aTup, aList, lCons, lNil, aCall, aMeth, aCmp, aSlice, tCmp, tCmp2, tAnd, tOr, tNot, tVal, tTrue, tFalse, upd_at, if_true, if_false, Bool.false_eq_true, decide_true, decide_false, decide_eq_true_eq, opItem, opAdd, opIAdd, opIAddX, opSub, opMul, opDiv, opMod, opNeg, cmpOp, cmpLt, cmpIn, cmpIs, eq_int, eq_str, eq_bool, occ_one, truth, kList, kStr, fLen, fRange, fList, fTuple, fChr, fSJoin, fAll, fAny, fCount, fSRstrip, fSum, fMin, joinL_nil, fAppend, fInsert, fPop, withOwn, withItems, setAt, nth_zero, nth_one, nth_two, nth_last, kOk, bindP, List.length_cons, List.length_nil, List.isEmpty_cons, List.isEmpty_nil, List.map_nil, List.map_cons, Nat.reduceAdd, Nat.reduceEqDiff, Nat.succ_ne_self, Int.reduceNeg, Int.reduceLE, Int.reduceLT, Int.reduceEq, Int.cast_ofNat_Int, Int.toNat_zero, Int.toNat_one, Int.reduceToNat, Int.le_refl, List.getElem?_cons_zero, List.getElem?_cons_succ, reduceIte, reduceCtorEq, true_and, and_true, and_self, not_true_eq_false, not_false_eq_true, Bool.not_true, Bool.not_false, Bool.not_eq_true, Bool.not_eq_false, ne_eq, decide_not])
  refine after_next ?_
  walk_at "st"
  simp only [sAssign, aMeth, lCons, aCst, lNil, kStr]
  refine ⟨trivial, ?_⟩
  refine aComp_run mg_name (mt_or (mt_cmp m_var m_cst) (mt_or (mt_cmp m_var m_cst) mt_false)) m_var (m_bin mo_add m_var m_var) ?_
  try simp only [e2, e3, sNil, sAssign, sRet, sRet0, sIf, sExpr, sAugSub, sAug, sCont, gName, gSub, gTup, gTup.go, aVar, aCst, aBin, aUn, aIf, aTup, aList, lCons, lNil, aCall, aMeth, aCmp, aSlice, tCmp, tCmp2, tAnd, tOr, tNot, tVal, tTrue, tFalse, upd_at, if_true, if_false, Bool.false_eq_true, decide_true, decide_false, decide_eq_true_eq, opItem, opAdd, opIAdd, opIAddX, opSub, opMul, opDiv, opMod, opNeg, cmpOp, cmpLt, cmpIn, cmpIs, eq_int, eq_str, eq_bool, occ_one, truth, kList, kStr, fLen, fRange, fList, fTuple, fChr, fSJoin, fAll, fAny, fCount, fSRstrip, fSum, fMin, joinL_nil, fAppend, fInsert, fPop, withOwn, withItems, setAt, nth_zero, nth_one, nth_two, nth_last, kOk, bindP, List.length_cons, List.length_nil, List.isEmpty_cons, List.isEmpty_nil, List.map_nil, List.map_cons, Nat.reduceAdd, Nat.reduceEqDiff, Nat.succ_ne_self, Int.reduceNeg, Int.reduceLE, Int.reduceLT, Int.reduceEq, Int.cast_ofNat_Int, Int.toNat_zero, Int.toNat_one, Int.reduceToNat, Int.le_refl, List.getElem?_cons_zero, List.getElem?_cons_succ, reduceIte, reduceCtorEq, true_and, and_true, and_self, not_true_eq_false, not_false_eq_true, Bool.not_true, Bool.not_false, Bool.not_eq_true, Bool.not_eq_false, ne_eq, decide_not]
  refine ⟨by simp [szOk]; omega, fun L hL => ?_⟩
  try simp only [upd_same, sNil, sAssign, sRet, sRet0, sIf, sExpr, sAugSub, sAug, sCont, gName, gSub, gTup, gTup.go, aVar, aCst, aBin, aUn, aIf, aTup, aList, lCons, lNil, aCall, aMeth, aCmp, aSlice, tCmp, tCmp2, tAnd, tOr, tNot, tVal, tTrue, tFalse, upd_at, if_true, if_false, Bool.false_eq_true, decide_true, decide_false, decide_eq_true_eq, opItem, opAdd, opIAdd, opIAddX, opSub, opMul, opDiv, opMod, opNeg, cmpOp, cmpLt, cmpIn, cmpIs, eq_int, eq_str, eq_bool, occ_one, truth, kList, kStr, fLen, fRange, fList, fTuple, fChr, fSJoin, fAll, fAny, fCount, fSRstrip, fSum, fMin, joinL_nil, fAppend, fInsert, fPop, withOwn, withItems, setAt, nth_zero, nth_one, nth_two, nth_last, kOk, bindP, List.length_cons, List.length_nil, List.isEmpty_cons, List.isEmpty_nil, List.map_nil, List.map_cons, Nat.reduceAdd, Nat.reduceEqDiff, Nat.succ_ne_self, Int.reduceNeg, Int.reduceLE, Int.reduceLT, Int.reduceEq, Int.cast_ofNat_Int, Int.toNat_zero, Int.toNat_one, Int.reduceToNat, Int.le_refl, List.getElem?_cons_zero, List.getElem?_cons_succ, reduceIte, reduceCtorEq, true_and, and_true, and_self, not_true_eq_false, not_false_eq_true, Bool.not_true, Bool.not_false, Bool.not_eq_true, Bool.not_eq_false, ne_eq, decide_not]
  have eV : f.rm.map PV.str ++ f.ad.map PV.str = (f.rm ++ f.ad).map .str := by simp
  rw [eV]
  refine ⟨fun _ => True, selB, fun H' k => k.at (upd_same _ _ _), trivial, by simp; omega, ?_, fun a H1 ha K1 E1 => ?_⟩
  · intro p hp ρ' H' _ _
    obtain ⟨u, _, rfl⟩ := List.mem_map.mp hp
    by_cases h1 : u = [40]
    · try simp only [eq_true h1, sNil, sAssign, sRet, sRet0, sIf, sExpr, sAugSub, sAug, sCont, gName, gSub, gTup, gTup.go, aVar, aCst, aBin, aUn, aIf, aTup, aList, lCons, lNil, aCall, aMeth, aCmp, aSlice, tCmp, tCmp2, tAnd, tOr, tNot, tVal, tTrue, tFalse, upd_at, if_true, if_false, Bool.false_eq_true, decide_true, decide_false, decide_eq_true_eq, opItem, opAdd, opIAdd, opIAddX, opSub, opMul, opDiv, opMod, opNeg, cmpOp, cmpLt, cmpIn, cmpIs, eq_int, eq_str, eq_bool, occ_one, truth, kList, kStr, fLen, fRange, fList, fTuple, fChr, fSJoin, fAll, fAny, fCount, fSRstrip, fSum, fMin, joinL_nil, fAppend, fInsert, fPop, withOwn, withItems, setAt, nth_zero, nth_one, nth_two, nth_last, kOk, bindP, List.length_cons, List.length_nil, List.isEmpty_cons, List.isEmpty_nil, List.map_nil, List.map_cons, Nat.reduceAdd, Nat.reduceEqDiff, Nat.succ_ne_self, Int.reduceNeg, Int.reduceLE, Int.reduceLT, Int.reduceEq, Int.cast_ofNat_Int, Int.toNat_zero, Int.toNat_one, Int.reduceToNat, Int.le_refl, List.getElem?_cons_zero, List.getElem?_cons_succ, reduceIte, reduceCtorEq, true_and, and_true, and_self, not_true_eq_false, not_false_eq_true, Bool.not_true, Bool.not_false, Bool.not_eq_true, Bool.not_eq_false, ne_eq, decide_not]
      exact ⟨fun _ _ h => h, by simp [selB, isB, h1]⟩
    · by_cases h2 : u = [41]
      · try simp only [eq_false h1, eq_true h2, sNil, sAssign, sRet, sRet0, sIf, sExpr, sAugSub, sAug, sCont, gName, gSub, gTup, gTup.go, aVar, aCst, aBin, aUn, aIf, aTup, aList, lCons, lNil, aCall, aMeth, aCmp, aSlice, tCmp, tCmp2, tAnd, tOr, tNot, tVal, tTrue, tFalse, upd_at, if_true, if_false, Bool.false_eq_true, decide_true, decide_false, decide_eq_true_eq, opItem, opAdd, opIAdd, opIAddX, opSub, opMul, opDiv, opMod, opNeg, cmpOp, cmpLt, cmpIn, cmpIs, eq_int, eq_str, eq_bool, occ_one, truth, kList, kStr, fLen, fRange, fList, fTuple, fChr, fSJoin, fAll, fAny, fCount, fSRstrip, fSum, fMin, joinL_nil, fAppend, fInsert, fPop, withOwn, withItems, setAt, nth_zero, nth_one, nth_two, nth_last, kOk, bindP, List.length_cons, List.length_nil, List.isEmpty_cons, List.isEmpty_nil, List.map_nil, List.map_cons, Nat.reduceAdd, Nat.reduceEqDiff, Nat.succ_ne_self, Int.reduceNeg, Int.reduceLE, Int.reduceLT, Int.reduceEq, Int.cast_ofNat_Int, Int.toNat_zero, Int.toNat_one, Int.reduceToNat, Int.le_refl, List.getElem?_cons_zero, List.getElem?_cons_succ, reduceIte, reduceCtorEq, true_and, and_true, and_self, not_true_eq_false, not_false_eq_true, Bool.not_true, Bool.not_false, Bool.not_eq_true, Bool.not_eq_false, ne_eq, decide_not]
        exact ⟨fun _ _ h => h, by simp [selB, isB, h2]⟩
      · try simp only [eq_false h1, eq_false h2, sNil, sAssign, sRet, sRet0, sIf, sExpr, sAugSub, sAug, sCont, gName, gSub, gTup, gTup.go, aVar, aCst, aBin, aUn, aIf, aTup, aList, lCons, lNil, aCall, aMeth, aCmp, aSlice, tCmp, tCmp2, tAnd, tOr, tNot, tVal, tTrue, tFalse, upd_at, if_true, if_false, Bool.false_eq_true, decide_true, decide_false, decide_eq_true_eq, opItem, opAdd, opIAdd, opIAddX, opSub, opMul, opDiv, opMod, opNeg, cmpOp, cmpLt, cmpIn, cmpIs, eq_int, eq_str, eq_bool, occ_one, truth, kList, kStr, fLen, fRange, fList, fTuple, fChr, fSJoin, fAll, fAny, fCount, fSRstrip, fSum, fMin, joinL_nil, fAppend, fInsert, fPop, withOwn, withItems, setAt, nth_zero, nth_one, nth_two, nth_last, kOk, bindP, List.length_cons, List.length_nil, List.isEmpty_cons, List.isEmpty_nil, List.map_nil, List.map_cons, Nat.reduceAdd, Nat.reduceEqDiff, Nat.succ_ne_self, Int.reduceNeg, Int.reduceLE, Int.reduceLT, Int.reduceEq, Int.cast_ofNat_Int, Int.toNat_zero, Int.toNat_one, Int.reduceToNat, Int.le_refl, List.getElem?_cons_zero, List.getElem?_cons_succ, reduceIte, reduceCtorEq, true_and, and_true, and_self, not_true_eq_false, not_false_eq_true, Bool.not_true, Bool.not_false, Bool.not_eq_true, Bool.not_eq_false, ne_eq, decide_not]
        exact ⟨fun _ _ h => h, by simp [selB, isB, h1, h2]⟩
  rw [selB_all] at E1
  have hs := isB_sum (f.rm ++ f.ad)
  simp only [List.length_append] at hs
  try simp only [E1, strsOf_map, sNil, sAssign, sRet, sRet0, sIf, sExpr, sAugSub, sAug, sCont, gName, gSub, gTup, gTup.go, aVar, aCst, aBin, aUn, aIf, aTup, aList, lCons, lNil, aCall, aMeth, aCmp, aSlice, tCmp, tCmp2, tAnd, tOr, tNot, tVal, tTrue, tFalse, upd_at, if_true, if_false, Bool.false_eq_true, decide_true, decide_false, decide_eq_true_eq, opItem, opAdd, opIAdd, opIAddX, opSub, opMul, opDiv, opMod, opNeg, cmpOp, cmpLt, cmpIn, cmpIs, eq_int, eq_str, eq_bool, occ_one, truth, kList, kStr, fLen, fRange, fList, fTuple, fChr, fSJoin, fAll, fAny, fCount, fSRstrip, fSum, fMin, joinL_nil, fAppend, fInsert, fPop, withOwn, withItems, setAt, nth_zero, nth_one, nth_two, nth_last, kOk, bindP, List.length_cons, List.length_nil, List.isEmpty_cons, List.isEmpty_nil, List.map_nil, List.map_cons, Nat.reduceAdd, Nat.reduceEqDiff, Nat.succ_ne_self, Int.reduceNeg, Int.reduceLE, Int.reduceLT, Int.reduceEq, Int.cast_ofNat_Int, Int.toNat_zero, Int.toNat_one, Int.reduceToNat, Int.le_refl, List.getElem?_cons_zero, List.getElem?_cons_succ, reduceIte, reduceCtorEq, true_and, and_true, and_self, not_true_eq_false, not_false_eq_true, Bool.not_true, Bool.not_false, Bool.not_eq_true, Bool.not_eq_false, ne_eq, decide_not]
  refine ⟨by omega, after_next ?_⟩
  walk_at "st"
  refine close_loop (v := 23) (y := ((f.rm ++ f.ad).filter isB).flatten) isB_mem (by rw [List.length_flatten]; omega) (by simp [upd_at]) fun ρ' z rz rk eb => after_next ?_
  walk_at "st"
  try simp only [rz, sNil, sAssign, sRet, sRet0, sIf, sExpr, sAugSub, sAug, sCont, gName, gSub, gTup, gTup.go, aVar, aCst, aBin, aUn, aIf, aTup, aList, lCons, lNil, aCall, aMeth, aCmp, aSlice, tCmp, tCmp2, tAnd, tOr, tNot, tVal, tTrue, tFalse, upd_at, if_true, if_false, Bool.false_eq_true, decide_true, decide_false, decide_eq_true_eq, opItem, opAdd, opIAdd, opIAddX, opSub, opMul, opDiv, opMod, opNeg, cmpOp, cmpLt, cmpIn, cmpIs, eq_int, eq_str, eq_bool, occ_one, truth, kList, kStr, fLen, fRange, fList, fTuple, fChr, fSJoin, fAll, fAny, fCount, fSRstrip, fSum, fMin, joinL_nil, fAppend, fInsert, fPop, withOwn, withItems, setAt, nth_zero, nth_one, nth_two, nth_last, kOk, bindP, List.length_cons, List.length_nil, List.isEmpty_cons, List.isEmpty_nil, List.map_nil, List.map_cons, Nat.reduceAdd, Nat.reduceEqDiff, Nat.succ_ne_self, Int.reduceNeg, Int.reduceLE, Int.reduceLT, Int.reduceEq, Int.cast_ofNat_Int, Int.toNat_zero, Int.toNat_one, Int.reduceToNat, Int.le_refl, List.getElem?_cons_zero, List.getElem?_cons_succ, reduceIte, reduceCtorEq, true_and, and_true, and_self, not_true_eq_false, not_false_eq_true, Bool.not_true, Bool.not_false, Bool.not_eq_true, Bool.not_eq_false, ne_eq, decide_not]
  refine after_ret (end_ret ?_)
  rw [eb, bal_bl]
  exact hQ _ ((Keep.new hL).trans K1)
def hasB : PV → Option PV
  | .str u => some (.bool (decide (91 ∈ u)))
  | _ => none
theorem hasB_all (V : Us) : (V.map PV.str).filterMap hasB = (V.map fun u => decide (91 ∈ u)).map .bool := by
  induction V with
  | nil => rfl
  | cons u r ih =>
    simp only [List.map_cons, List.filterMap_cons, hasB]
    rw [ih]
theorem bare_spec {Q : PV → AH → Prop} {H : AH} {f : Fd} (hf : f.ok) (h : f.at H) (hQ : ∀ H', Keep H H' → Q (.bool f.bare) H') : f__law_bare [f.pv] Q H := by
  obtain ⟨o3, e3⟩ := h.hc
  have la := hf.la
  refine fn rfl ?_
  walk_at "st"
  simp only [Fd.pv]
  (try simp only [sCons, sNil, sAssign, sRet, sRet0, sIf, sExpr, sFor, sAugSub, sAug, sCont, gName, gSub, gTup, gTup.go, aVar, aCst, aBin, aUn, aIf, aTup, aList, lCons, lNil, aCall, aMeth, aCmp, aSlice, tCmp, tCmp2, tAnd, tOr, tNot, tVal, tTrue, tFalse, upd_at, if_true, if_false, Bool.false_eq_true, decide_true, decide_false, decide_eq_true_eq, opItem, opAdd, opIAdd, opIAddX, opSub, opMul, opDiv, opMod, opNeg, cmpOp, cmpLt, cmpIn, cmpIs, eq_int, eq_str, eq_bool, occ_one, truth, kList, kStr, fLen, fRange, fList, fTuple, fChr, fSJoin, fAll, fAny, fCount, fSRstrip, fSum, fMin, joinL_nil, fAppend, fInsert, fPop, withOwn, withItems, setAt, nth_zero, nth_one, nth_two, nth_last, kOk, bindP, List.length_cons, List.length_nil, List.isEmpty_cons, List.isEmpty_nil, List.map_nil, List.map_cons, Nat.reduceAdd, Nat.reduceEqDiff, Nat.succ_ne_self, Int.reduceNeg, Int.reduceLE, Int.reduceLT, Int.reduceEq, Int.cast_ofNat_Int, Int.toNat_zero, Int.toNat_one, Int.reduceToNat, Int.le_refl, List.getElem?_cons_zero, List.getElem?_cons_succ, reduceIte, reduceCtorEq, true_and, and_true, and_self, not_true_eq_false, not_false_eq_true, Bool.not_true, Bool.not_false, Bool.not_eq_true, Bool.not_eq_false, ne_eq, decide_not])
  refine after_next ?_
  walk_at "st"
  simp only [sRet, aNot, aCall, lCons, lNil]
  refine aComp_run mg_name mt_true (show MonoE (aCmp .In (aCst (.str [91])) (aVar 24)) from m_cmp m_cst m_var) m_var ?_
  try simp only [e3, sNil, sAssign, sRet, sRet0, sIf, sExpr, sAugSub, sAug, sCont, gName, gSub, gTup, gTup.go, aVar, aCst, aBin, aUn, aIf, aTup, aList, lCons, lNil, aCall, aMeth, aCmp, aSlice, tCmp, tCmp2, tAnd, tOr, tNot, tVal, tTrue, tFalse, upd_at, if_true, if_false, Bool.false_eq_true, decide_true, decide_false, decide_eq_true_eq, opItem, opAdd, opIAdd, opIAddX, opSub, opMul, opDiv, opMod, opNeg, cmpOp, cmpLt, cmpIn, cmpIs, eq_int, eq_str, eq_bool, occ_one, truth, kList, kStr, fLen, fRange, fList, fTuple, fChr, fSJoin, fAll, fAny, fCount, fSRstrip, fSum, fMin, joinL_nil, fAppend, fInsert, fPop, withOwn, withItems, setAt, nth_zero, nth_one, nth_two, nth_last, kOk, bindP, List.length_cons, List.length_nil, List.isEmpty_cons, List.isEmpty_nil, List.map_nil, List.map_cons, Nat.reduceAdd, Nat.reduceEqDiff, Nat.succ_ne_self, Int.reduceNeg, Int.reduceLE, Int.reduceLT, Int.reduceEq, Int.cast_ofNat_Int, Int.toNat_zero, Int.toNat_one, Int.reduceToNat, Int.le_refl, List.getElem?_cons_zero, List.getElem?_cons_succ, reduceIte, reduceCtorEq, true_and, and_true, and_self, not_true_eq_false, not_false_eq_true, Bool.not_true, Bool.not_false, Bool.not_eq_true, Bool.not_eq_false, ne_eq, decide_not]
  refine ⟨fun _ => True, hasB, fun H' k => k.at e3, trivial, by simp; omega, ?_, fun a H1 ha K1 E1 => ?_⟩
  · intro p hp ρ' H' _ _
    obtain ⟨u, _, rfl⟩ := List.mem_map.mp hp
    (try simp only [sCons, sNil, sAssign, sRet, sRet0, sIf, sExpr, sFor, sAugSub, sAug, sCont, gName, gSub, gTup, gTup.go, aVar, aCst, aBin, aUn, aIf, aTup, aList, lCons, lNil, aCall, aMeth, aCmp, aSlice, tCmp, tCmp2, tAnd, tOr, tNot, tVal, tTrue, tFalse, upd_at, if_true, if_false, Bool.false_eq_true, decide_true, decide_false, decide_eq_true_eq, opItem, opAdd, opIAdd, opIAddX, opSub, opMul, opDiv, opMod, opNeg, cmpOp, cmpLt, cmpIn, cmpIs, eq_int, eq_str, eq_bool, occ_one, truth, kList, kStr, fLen, fRange, fList, fTuple, fChr, fSJoin, fAll, fAny, fCount, fSRstrip, fSum, fMin, joinL_nil, fAppend, fInsert, fPop, withOwn, withItems, setAt, nth_zero, nth_one, nth_two, nth_last, kOk, bindP, List.length_cons, List.length_nil, List.isEmpty_cons, List.isEmpty_nil, List.map_nil, List.map_cons, Nat.reduceAdd, Nat.reduceEqDiff, Nat.succ_ne_self, Int.reduceNeg, Int.reduceLE, Int.reduceLT, Int.reduceEq, Int.cast_ofNat_Int, Int.toNat_zero, Int.toNat_one, Int.reduceToNat, Int.le_refl, List.getElem?_cons_zero, List.getElem?_cons_succ, reduceIte, reduceCtorEq, true_and, and_true, and_self, not_true_eq_false, not_false_eq_true, Bool.not_true, Bool.not_false, Bool.not_eq_true, Bool.not_eq_false, ne_eq, decide_not])
    exact ⟨fun _ _ h => h, rfl⟩
  rw [hasB_all] at E1
  try simp only [E1, boolsOf_map, sNil, sAssign, sRet, sRet0, sIf, sExpr, sAugSub, sAug, sCont, gName, gSub, gTup, gTup.go, aVar, aCst, aBin, aUn, aIf, aTup, aList, lCons, lNil, aCall, aMeth, aCmp, aSlice, tCmp, tCmp2, tAnd, tOr, tNot, tVal, tTrue, tFalse, upd_at, if_true, if_false, Bool.false_eq_true, decide_true, decide_false, decide_eq_true_eq, opItem, opAdd, opIAdd, opIAddX, opSub, opMul, opDiv, opMod, opNeg, cmpOp, cmpLt, cmpIn, cmpIs, eq_int, eq_str, eq_bool, occ_one, truth, kList, kStr, fLen, fRange, fList, fTuple, fChr, fSJoin, fAll, fAny, fCount, fSRstrip, fSum, fMin, joinL_nil, fAppend, fInsert, fPop, withOwn, withItems, setAt, nth_zero, nth_one, nth_two, nth_last, kOk, bindP, List.length_cons, List.length_nil, List.isEmpty_cons, List.isEmpty_nil, List.map_nil, List.map_cons, Nat.reduceAdd, Nat.reduceEqDiff, Nat.succ_ne_self, Int.reduceNeg, Int.reduceLE, Int.reduceLT, Int.reduceEq, Int.cast_ofNat_Int, Int.toNat_zero, Int.toNat_one, Int.reduceToNat, Int.le_refl, List.getElem?_cons_zero, List.getElem?_cons_succ, reduceIte, reduceCtorEq, true_and, and_true, and_self, not_true_eq_false, not_false_eq_true, Bool.not_true, Bool.not_false, Bool.not_eq_true, Bool.not_eq_false, ne_eq, decide_not]
  refine after_ret (end_ret ?_)
  have : (!(f.ad.map fun u => decide (91 ∈ u)).any id) = f.bare := by
    unfold Fd.bare
    congr 1
    rw [List.any_map]
    simp [List.any_eq, List.mem_flatten]
  rw [this]
  exact hQ _ K1
theorem AtL_last {X Y : List Nat} (hY : 32 ∉ Y) : AtL (X ++ [32, 60] ++ Y) [32, 60] X.length ∧ ∀ j, X.length < j → ¬ AtL (X ++ [32, 60] ++ Y) [32, 60] j := by
  refine ⟨⟨X, Y, rfl, rfl⟩, fun j hj ⟨p, q, e, hp⟩ => ?_⟩
  have g : (X ++ [32, 60] ++ Y)[j]? = some 32 := by rw [e]; simp [← hp]
  rw [List.append_assoc, List.getElem?_append_right (by omega)] at g
  have : j - X.length ≠ 0 := by omega
  obtain ⟨m, hm⟩ : ∃ m, j - X.length = m + 1 := ⟨j - X.length - 1, by omega⟩
  rw [hm] at g
  cases m with
  | zero => simp at g
  | succ m =>
    have g' : Y[m]? = some 32 := by simpa using g
    exact hY (List.mem_of_getElem? g')
theorem read_text {Q : PV → AH → Prop} {H : AH} {f : Fd} (hf : f.ok) (hQ : Q (.tup [.str f.hd, .str f.ad.flatten]) H) : f__law_read [.str f.text] Q H := by
  obtain ⟨l1, l2, l3, s1, s2, s3, l4, l5⟩ := hf.lens
  have hY : 32 ∉ f.ad.flatten ++ [62] := by
    intro h
    rcases List.mem_append.mp h with h | h
    · obtain ⟨u, hu, hc⟩ := List.mem_flatten.mp h
      exact ((hf.ua u hu).2.2.2 32 hc).1 rfl
    · simp at h
  obtain ⟨a1, a2⟩ := AtL_last (X := f.hd) hY
  have et : f.text = f.hd ++ [32, 60] ++ (f.ad.flatten ++ [62]) := by simp [Fd.text]
  rw [← et] at a1 a2
  refine fn rfl ?_
  walk_at "st"
  try simp only [fSRfind, sNil, sAssign, sRet, sRet0, sIf, sExpr, sAugSub, sAug, sCont, gName, gSub, gTup, gTup.go, aVar, aCst, aBin, aUn, aIf, aTup, aList, lCons, lNil, aCall, aMeth, aCmp, aSlice, tCmp, tCmp2, tAnd, tOr, tNot, tVal, tTrue, tFalse, upd_at, if_true, if_false, Bool.false_eq_true, decide_true, decide_false, decide_eq_true_eq, opItem, opAdd, opIAdd, opIAddX, opSub, opMul, opDiv, opMod, opNeg, cmpOp, cmpLt, cmpIn, cmpIs, eq_int, eq_str, eq_bool, occ_one, truth, kList, kStr, fLen, fRange, fList, fTuple, fChr, fSJoin, fAll, fAny, fCount, fSRstrip, fSum, fMin, joinL_nil, fAppend, fInsert, fPop, withOwn, withItems, setAt, nth_zero, nth_one, nth_two, nth_last, kOk, bindP, List.length_cons, List.length_nil, List.isEmpty_cons, List.isEmpty_nil, List.map_nil, List.map_cons, Nat.reduceAdd, Nat.reduceEqDiff, Nat.succ_ne_self, Int.reduceNeg, Int.reduceLE, Int.reduceLT, Int.reduceEq, Int.cast_ofNat_Int, Int.toNat_zero, Int.toNat_one, Int.reduceToNat, Int.le_refl, List.getElem?_cons_zero, List.getElem?_cons_succ, reduceIte, reduceCtorEq, true_and, and_true, and_self, not_true_eq_false, not_false_eq_true, Bool.not_true, Bool.not_false, Bool.not_eq_true, Bool.not_eq_false, ne_eq, decide_not]
  intro i hi
  have hii : i = (f.hd.length : Nat) := by
    rcases hi with ⟨_, h⟩ | ⟨k, rfl, h1, h2⟩
    · exact absurd a1 (h _)
    · rcases Nat.lt_trichotomy k f.hd.length with q | q | q
      · exact absurd a1 (h2 _ q)
      · rw [q]
      · exact absurd h1 (a2 _ q)
  subst hii
  refine after_next ?_
  have hlast : f.text.getLast? = some 62 := by
    have : f.text = (f.hd ++ [32, 60] ++ f.ad.flatten) ++ [62] := by simp [Fd.text]
    rw [this]; exact List.getLast?_concat
  have hneg : ¬ (f.hd.length : Int) < 0 := by omega
  walk_at "st"
  try simp only [eq_false hneg, hlast, sNil, sAssign, sRet, sRet0, sIf, sExpr, sAugSub, sAug, sCont, gName, gSub, gTup, gTup.go, aVar, aCst, aBin, aUn, aIf, aTup, aList, lCons, lNil, aCall, aMeth, aCmp, aSlice, tCmp, tCmp2, tAnd, tOr, tNot, tVal, tTrue, tFalse, upd_at, if_true, if_false, Bool.false_eq_true, decide_true, decide_false, decide_eq_true_eq, opItem, opAdd, opIAdd, opIAddX, opSub, opMul, opDiv, opMod, opNeg, cmpOp, cmpLt, cmpIn, cmpIs, eq_int, eq_str, eq_bool, occ_one, truth, kList, kStr, fLen, fRange, fList, fTuple, fChr, fSJoin, fAll, fAny, fCount, fSRstrip, fSum, fMin, joinL_nil, fAppend, fInsert, fPop, withOwn, withItems, setAt, nth_zero, nth_one, nth_two, nth_last, kOk, bindP, List.length_cons, List.length_nil, List.isEmpty_cons, List.isEmpty_nil, List.map_nil, List.map_cons, Nat.reduceAdd, Nat.reduceEqDiff, Nat.succ_ne_self, Int.reduceNeg, Int.reduceLE, Int.reduceLT, Int.reduceEq, Int.cast_ofNat_Int, Int.toNat_zero, Int.toNat_one, Int.reduceToNat, Int.le_refl, List.getElem?_cons_zero, List.getElem?_cons_succ, reduceIte, reduceCtorEq, true_and, and_true, and_self, not_true_eq_false, not_false_eq_true, Bool.not_true, Bool.not_false, Bool.not_eq_true, Bool.not_eq_false, ne_eq, decide_not]
  refine after_next ?_
  walk_at "st"
  have e1 : slc f.text none (some ((f.hd.length : Nat) : Int)) = f.hd := by rw [slc_to, et, List.append_assoc, List.take_left' rfl]
  have e2 : slc f.text (some ((f.hd.length : Int) + 2)) (some (-1)) = f.ad.flatten := by
    unfold slc
    have hlen : f.text.length = f.hd.length + 2 + f.ad.flatten.length + 1 := by rw [et]; simp; omega
    have c1 : clipAt f.text.length ((f.hd.length : Int) + 2) = f.hd.length + 2 := by unfold clipAt; split <;> omega
    have c2 : clipAt f.text.length (-1) = f.hd.length + 2 + f.ad.flatten.length := by unfold clipAt; split <;> omega
    simp only [Option.elim, c1, c2]
    have : f.text.drop (f.hd.length + 2) = f.ad.flatten ++ [62] := by
      rw [et, List.drop_left' (by simp)]
    rw [this, List.take_left' (by omega)]
  try simp only [opSlice, partOf, e1, e2, sNil, sAssign, sRet, sRet0, sIf, sExpr, sAugSub, sAug, sCont, gName, gSub, gTup, gTup.go, aVar, aCst, aBin, aUn, aIf, aTup, aList, lCons, lNil, aCall, aMeth, aCmp, aSlice, tCmp, tCmp2, tAnd, tOr, tNot, tVal, tTrue, tFalse, upd_at, if_true, if_false, Bool.false_eq_true, decide_true, decide_false, decide_eq_true_eq, opItem, opAdd, opIAdd, opIAddX, opSub, opMul, opDiv, opMod, opNeg, cmpOp, cmpLt, cmpIn, cmpIs, eq_int, eq_str, eq_bool, occ_one, truth, kList, kStr, fLen, fRange, fList, fTuple, fChr, fSJoin, fAll, fAny, fCount, fSRstrip, fSum, fMin, joinL_nil, fAppend, fInsert, fPop, withOwn, withItems, setAt, nth_zero, nth_one, nth_two, nth_last, kOk, bindP, List.length_cons, List.length_nil, List.isEmpty_cons, List.isEmpty_nil, List.map_nil, List.map_cons, Nat.reduceAdd, Nat.reduceEqDiff, Nat.succ_ne_self, Int.reduceNeg, Int.reduceLE, Int.reduceLT, Int.reduceEq, Int.cast_ofNat_Int, Int.toNat_zero, Int.toNat_one, Int.reduceToNat, Int.le_refl, List.getElem?_cons_zero, List.getElem?_cons_succ, reduceIte, reduceCtorEq, true_and, and_true, and_self, not_true_eq_false, not_false_eq_true, Bool.not_true, Bool.not_false, Bool.not_eq_true, Bool.not_eq_false, ne_eq, decide_not]
  refine ⟨by simp only [szOk]; omega, by simp only [szOk]; omega, by simp [szOk], after_ret (end_ret hQ)⟩
theorem read_ppw {Q : PV → AH → Prop} {H : AH} (hQ : Q (.tup [.str [], .str []]) H) : f__law_read [.str ppw] Q H := by
  have hn : ∀ k, ¬ AtL ppw [32, 60] k := by
    rintro k ⟨p, q, e, _⟩
    have : 60 ∈ ppw := by rw [e]; simp
    simp [ppw] at this
  refine fn rfl ?_
  walk_at "st"
  try simp only [fSRfind, sNil, sAssign, sRet, sRet0, sIf, sExpr, sAugSub, sAug, sCont, gName, gSub, gTup, gTup.go, aVar, aCst, aBin, aUn, aIf, aTup, aList, lCons, lNil, aCall, aMeth, aCmp, aSlice, tCmp, tCmp2, tAnd, tOr, tNot, tVal, tTrue, tFalse, upd_at, if_true, if_false, Bool.false_eq_true, decide_true, decide_false, decide_eq_true_eq, opItem, opAdd, opIAdd, opIAddX, opSub, opMul, opDiv, opMod, opNeg, cmpOp, cmpLt, cmpIn, cmpIs, eq_int, eq_str, eq_bool, occ_one, truth, kList, kStr, fLen, fRange, fList, fTuple, fChr, fSJoin, fAll, fAny, fCount, fSRstrip, fSum, fMin, joinL_nil, fAppend, fInsert, fPop, withOwn, withItems, setAt, nth_zero, nth_one, nth_two, nth_last, kOk, bindP, List.length_cons, List.length_nil, List.isEmpty_cons, List.isEmpty_nil, List.map_nil, List.map_cons, Nat.reduceAdd, Nat.reduceEqDiff, Nat.succ_ne_self, Int.reduceNeg, Int.reduceLE, Int.reduceLT, Int.reduceEq, Int.cast_ofNat_Int, Int.toNat_zero, Int.toNat_one, Int.reduceToNat, Int.le_refl, List.getElem?_cons_zero, List.getElem?_cons_succ, reduceIte, reduceCtorEq, true_and, and_true, and_self, not_true_eq_false, not_false_eq_true, Bool.not_true, Bool.not_false, Bool.not_eq_true, Bool.not_eq_false, ne_eq, decide_not]
  intro i hi
  have hii : i = -1 := by
    rcases hi with ⟨h, _⟩ | ⟨k, rfl, h1, h2⟩
    · exact h
    · exact absurd h1 (hn k)
  subst hii
  refine after_next ?_
  walk_at "st"
  try simp only [l__law_read_1, sNil, sAssign, sRet, sRet0, sIf, sExpr, sAugSub, sAug, sCont, gName, gSub, gTup, gTup.go, aVar, aCst, aBin, aUn, aIf, aTup, aList, lCons, lNil, aCall, aMeth, aCmp, aSlice, tCmp, tCmp2, tAnd, tOr, tNot, tVal, tTrue, tFalse, upd_at, if_true, if_false, Bool.false_eq_true, decide_true, decide_false, decide_eq_true_eq, opItem, opAdd, opIAdd, opIAddX, opSub, opMul, opDiv, opMod, opNeg, cmpOp, cmpLt, cmpIn, cmpIs, eq_int, eq_str, eq_bool, occ_one, truth, kList, kStr, fLen, fRange, fList, fTuple, fChr, fSJoin, fAll, fAny, fCount, fSRstrip, fSum, fMin, joinL_nil, fAppend, fInsert, fPop, withOwn, withItems, setAt, nth_zero, nth_one, nth_two, nth_last, kOk, bindP, List.length_cons, List.length_nil, List.isEmpty_cons, List.isEmpty_nil, List.map_nil, List.map_cons, Nat.reduceAdd, Nat.reduceEqDiff, Nat.succ_ne_self, Int.reduceNeg, Int.reduceLE, Int.reduceLT, Int.reduceEq, Int.cast_ofNat_Int, Int.toNat_zero, Int.toNat_one, Int.reduceToNat, Int.le_refl, List.getElem?_cons_zero, List.getElem?_cons_succ, reduceIte, reduceCtorEq, true_and, and_true, and_self, not_true_eq_false, not_false_eq_true, Bool.not_true, Bool.not_false, Bool.not_eq_true, Bool.not_eq_false, ne_eq, decide_not]
  walk_at "st"
  (try simp only [sCons, sNil, sAssign, sRet, sRet0, sIf, sExpr, sFor, sAugSub, sAug, sCont, gName, gSub, gTup, gTup.go, aVar, aCst, aBin, aUn, aIf, aTup, aList, lCons, lNil, aCall, aMeth, aCmp, aSlice, tCmp, tCmp2, tAnd, tOr, tNot, tVal, tTrue, tFalse, upd_at, if_true, if_false, Bool.false_eq_true, decide_true, decide_false, decide_eq_true_eq, opItem, opAdd, opIAdd, opIAddX, opSub, opMul, opDiv, opMod, opNeg, cmpOp, cmpLt, cmpIn, cmpIs, eq_int, eq_str, eq_bool, occ_one, truth, kList, kStr, fLen, fRange, fList, fTuple, fChr, fSJoin, fAll, fAny, fCount, fSRstrip, fSum, fMin, joinL_nil, fAppend, fInsert, fPop, withOwn, withItems, setAt, nth_zero, nth_one, nth_two, nth_last, kOk, bindP, List.length_cons, List.length_nil, List.isEmpty_cons, List.isEmpty_nil, List.map_nil, List.map_cons, Nat.reduceAdd, Nat.reduceEqDiff, Nat.succ_ne_self, Int.reduceNeg, Int.reduceLE, Int.reduceLT, Int.reduceEq, Int.cast_ofNat_Int, Int.toNat_zero, Int.toNat_one, Int.reduceToNat, Int.le_refl, List.getElem?_cons_zero, List.getElem?_cons_succ, reduceIte, reduceCtorEq, true_and, and_true, and_self, not_true_eq_false, not_false_eq_true, Bool.not_true, Bool.not_false, Bool.not_eq_true, Bool.not_eq_false, ne_eq, decide_not])
  exact ⟨by simp [szOk], after_ret (after_ret (end_ret hQ))⟩
/-- the text's own brackets close just if the field's do -/
theorem clo_text {f : Fd} (hf : f.ok) : clo f.text = f.clos := by
  have h34 : ∀ {V : Us}, (∀ u ∈ V, uF u) → [34] ∉ V := fun h q => (h _ q).2.1 rfl
  have hok : ∀ {V : Us}, (∀ u ∈ V, uF u) → ∀ u ∈ V, uOk u := fun h u hu => (h u hu).1
  have o1 : ∀ c, c ≠ 92 → uOk [c] := fun c hc => .inl ⟨c, hc, rfl⟩
  let R : Us := [32] :: (f.rm ++ ([32] :: [60] :: (f.ad ++ [[62]])))
  let V : Us := [34] :: (f.nm ++ [34] :: R)
  have eV : V.flatten = f.text := by simp [V, R, Fd.text, Fd.hd]
  have wV : WU V := WU_all fun u hu => by
    simp only [V, R, List.mem_cons, List.mem_append, List.not_mem_nil, or_false] at hu
    rcases hu with rfl | hu | rfl | rfl | hu | rfl | rfl | hu | rfl
    · exact o1 34 (by decide)
    · exact hok hf.un u hu
    · exact o1 34 (by decide)
    · exact o1 32 (by decide)
    · exact hok hf.ur u hu
    · exact o1 32 (by decide)
    · exact o1 60 (by decide)
    · exact hok hf.ua u hu
    · exact o1 62 (by decide)
  have hR : [34] ∉ R := by
    simp only [R, List.mem_cons, List.mem_append, List.not_mem_nil, or_false, not_or]
    exact ⟨by decide, h34 hf.ur, by decide, by decide, h34 hf.ua, by decide⟩
  have eO : otr none V = R := by
    have c0 : ([34] :: (f.nm ++ [[34]]) : Us).count [34] = 2 := by simp [List.count_eq_zero.mpr (h34 hf.un)]
    have e : V = ([34] :: (f.nm ++ [[34]])) ++ R := by simp [V]
    rw [e, (otr_app _ R).1 (by omega), (otr_free R hR).1]
    have : otr none ([34] :: (f.nm ++ [[34]])) = [] := by
      simp only [otr, if_true]
      have h1 : ∀ (C : Us) (p : Us), [34] ∉ C → otr (some p) (C ++ [[34]]) = [] := by
        intro C
        induction C with
        | nil => intro p _; simp [otr]
        | cons u C ih =>
          intro p h
          have hu : u ≠ [34] := fun e => h (by rw [e]; exact .head _)
          simp only [List.cons_append, otr, hu, if_false]
          exact ih _ fun q => h (.tail _ q)
      exact h1 _ _ (h34 hf.un)
    rw [this]; rfl
  unfold clo
  rw [← eV, uts_of wV, eO]
  unfold Fd.clos
  rw [← bal_bl, ← bal_bl]
  congr 1
  simp [R, List.filter_append, isB]
abbrev Bk := List (PV × List Nat)
def pr (p : PV × List Nat) : PV := .tup [p.1, .str p.2]
def emp : PV × List Nat := (.str [], [])
def okP (p : PV × List Nat) : PV × List Nat := if 91 ∈ p.2 then emp else p
def ppvI (l : Bk) (a : Nat) (H₀ : AH) (ps : List PV) (ρ : AEnv) (H : AH) : Prop := ∃ done rest : Bk, l = done ++ rest ∧ ps = rest.map pr ∧ ρ 9 = some (.ref a) ∧ H a = some ⟨(done.map okP).map pr, true⟩ ∧ Keep H₀ H
theorem ppv_spec {Q : PV → AH → Prop} {H₀ : AH} {b : Nat} {o : Bool} {l : Bk} (hl : l.length ≤ 10000) (hb : H₀ b = some ⟨l.map pr, o⟩)
    (hQ : ∀ a H', H₀ a = none → Keep H₀ H' → H' a = some ⟨(l.map okP).map pr, true⟩ → Q (.ref a) H') : f__post_parse_validation [.ref b] Q H₀ := by
  refine fn rfl ?_
  walk_at "st"
  (try simp only [sCons, sNil, sAssign, sRet, sRet0, sIf, sExpr, sFor, sAugSub, sAug, sCont, gName, gSub, gTup, gTup.go, aVar, aCst, aBin, aUn, aIf, aTup, aList, lCons, lNil, aCall, aMeth, aCmp, aSlice, tCmp, tCmp2, tAnd, tOr, tNot, tVal, tTrue, tFalse, upd_at, if_true, if_false, Bool.false_eq_true, decide_true, decide_false, decide_eq_true_eq, opItem, opAdd, opIAdd, opIAddX, opSub, opMul, opDiv, opMod, opNeg, cmpOp, cmpLt, cmpIn, cmpIs, eq_int, eq_str, eq_bool, occ_one, truth, kList, kStr, fLen, fRange, fList, fTuple, fChr, fSJoin, fAll, fAny, fCount, fSRstrip, fSum, fMin, joinL_nil, fAppend, fInsert, fPop, withOwn, withItems, setAt, nth_zero, nth_one, nth_two, nth_last, kOk, bindP, List.length_cons, List.length_nil, List.isEmpty_cons, List.isEmpty_nil, List.map_nil, List.map_cons, Nat.reduceAdd, Nat.reduceEqDiff, Nat.succ_ne_self, Int.reduceNeg, Int.reduceLE, Int.reduceLT, Int.reduceEq, Int.cast_ofNat_Int, Int.toNat_zero, Int.toNat_one, Int.reduceToNat, Int.le_refl, List.getElem?_cons_zero, List.getElem?_cons_succ, reduceIte, reduceCtorEq, true_and, and_true, and_self, not_true_eq_false, not_false_eq_true, Bool.not_true, Bool.not_false, Bool.not_eq_true, Bool.not_eq_false, ne_eq, decide_not])
  refine ⟨by simp [szOk], fun a ha => after_next ?_⟩
  have hba := ne_new hb ha
  walk_at "st"
  try simp only [sFor, hba, hb, sNil, sAssign, sRet, sRet0, sIf, sExpr, sAugSub, sAug, sCont, gName, gSub, gTup, gTup.go, aVar, aCst, aBin, aUn, aIf, aTup, aList, lCons, lNil, aCall, aMeth, aCmp, aSlice, tCmp, tCmp2, tAnd, tOr, tNot, tVal, tTrue, tFalse, upd_at, if_true, if_false, Bool.false_eq_true, decide_true, decide_false, decide_eq_true_eq, opItem, opAdd, opIAdd, opIAddX, opSub, opMul, opDiv, opMod, opNeg, cmpOp, cmpLt, cmpIn, cmpIs, eq_int, eq_str, eq_bool, occ_one, truth, kList, kStr, fLen, fRange, fList, fTuple, fChr, fSJoin, fAll, fAny, fCount, fSRstrip, fSum, fMin, joinL_nil, fAppend, fInsert, fPop, withOwn, withItems, setAt, nth_zero, nth_one, nth_two, nth_last, kOk, bindP, List.length_cons, List.length_nil, List.isEmpty_cons, List.isEmpty_nil, List.map_nil, List.map_cons, Nat.reduceAdd, Nat.reduceEqDiff, Nat.succ_ne_self, Int.reduceNeg, Int.reduceLE, Int.reduceLT, Int.reduceEq, Int.cast_ofNat_Int, Int.toNat_zero, Int.toNat_one, Int.reduceToNat, Int.le_refl, List.getElem?_cons_zero, List.getElem?_cons_succ, reduceIte, reduceCtorEq, true_and, and_true, and_self, not_true_eq_false, not_false_eq_true, Bool.not_true, Bool.not_false, Bool.not_eq_true, Bool.not_eq_false, ne_eq, decide_not]
  refine forL_inv mg_name m_l__post_parse_validation_2 (ppvI l a H₀) ?_ ?_ _ _ _ ⟨[], l, rfl, rfl, rfl, upd_same _ _ _, Keep.new ha⟩
  · rintro p ps ρ H ⟨done, rest, e1, e2, e3, e4, e5⟩
    obtain ⟨⟨q, u⟩, rest, rfl⟩ : ∃ q r, rest = q :: r := by cases rest with | nil => cases e2 | cons q r => exact ⟨q, r, rfl⟩
    obtain ⟨rfl, rfl⟩ := List.cons.inj e2
    subst e1
    simp only [List.length_append, List.length_cons] at hl
    have fin : ∀ (ρ' : AEnv) w, ρ' 9 = some (.ref a) → pr (okP (q, u)) = w → (upd H a ⟨(done.map okP).map pr ++ [w], true⟩) b = some ⟨(done ++ (q, u) :: rest).map pr, o⟩ ∧ ppvI (done ++ (q, u) :: rest) a H₀ (rest.map pr) ρ' (upd H a ⟨(done.map okP).map pr ++ [w], true⟩) := fun ρ' w h hw =>
      ⟨(e5.upd ha).at hb, done ++ [(q, u)], rest, by simp, rfl, h, by simp [upd_same, hw], e5.upd ha⟩
    have hz : szOk ((done.map okP).map pr).length := by simp only [szOk, List.length_map]; omega
    simp only [gName, pr, l__post_parse_validation_2]
    walk_at "st"
    by_cases h : 91 ∈ u
    · try simp only [eq_true h, l__post_parse_validation_1, sNil, sAssign, sRet, sRet0, sIf, sExpr, sAugSub, sAug, sCont, gName, gSub, gTup, gTup.go, aVar, aCst, aBin, aUn, aIf, aTup, aList, lCons, lNil, aCall, aMeth, aCmp, aSlice, tCmp, tCmp2, tAnd, tOr, tNot, tVal, tTrue, tFalse, upd_at, if_true, if_false, Bool.false_eq_true, decide_true, decide_false, decide_eq_true_eq, opItem, opAdd, opIAdd, opIAddX, opSub, opMul, opDiv, opMod, opNeg, cmpOp, cmpLt, cmpIn, cmpIs, eq_int, eq_str, eq_bool, occ_one, truth, kList, kStr, fLen, fRange, fList, fTuple, fChr, fSJoin, fAll, fAny, fCount, fSRstrip, fSum, fMin, joinL_nil, fAppend, fInsert, fPop, withOwn, withItems, setAt, nth_zero, nth_one, nth_two, nth_last, kOk, bindP, List.length_cons, List.length_nil, List.isEmpty_cons, List.isEmpty_nil, List.map_nil, List.map_cons, Nat.reduceAdd, Nat.reduceEqDiff, Nat.succ_ne_self, Int.reduceNeg, Int.reduceLE, Int.reduceLT, Int.reduceEq, Int.cast_ofNat_Int, Int.toNat_zero, Int.toNat_one, Int.reduceToNat, Int.le_refl, List.getElem?_cons_zero, List.getElem?_cons_succ, reduceIte, reduceCtorEq, true_and, and_true, and_self, not_true_eq_false, not_false_eq_true, Bool.not_true, Bool.not_false, Bool.not_eq_true, Bool.not_eq_false, ne_eq, decide_not]
      walk_at "st"
      (try simp only [sCons, sNil, sAssign, sRet, sRet0, sIf, sExpr, sFor, sAugSub, sAug, sCont, gName, gSub, gTup, gTup.go, aVar, aCst, aBin, aUn, aIf, aTup, aList, lCons, lNil, aCall, aMeth, aCmp, aSlice, tCmp, tCmp2, tAnd, tOr, tNot, tVal, tTrue, tFalse, upd_at, if_true, if_false, Bool.false_eq_true, decide_true, decide_false, decide_eq_true_eq, opItem, opAdd, opIAdd, opIAddX, opSub, opMul, opDiv, opMod, opNeg, cmpOp, cmpLt, cmpIn, cmpIs, eq_int, eq_str, eq_bool, occ_one, truth, kList, kStr, fLen, fRange, fList, fTuple, fChr, fSJoin, fAll, fAny, fCount, fSRstrip, fSum, fMin, joinL_nil, fAppend, fInsert, fPop, withOwn, withItems, setAt, nth_zero, nth_one, nth_two, nth_last, kOk, bindP, List.length_cons, List.length_nil, List.isEmpty_cons, List.isEmpty_nil, List.map_nil, List.map_cons, Nat.reduceAdd, Nat.reduceEqDiff, Nat.succ_ne_self, Int.reduceNeg, Int.reduceLE, Int.reduceLT, Int.reduceEq, Int.cast_ofNat_Int, Int.toNat_zero, Int.toNat_one, Int.reduceToNat, Int.le_refl, List.getElem?_cons_zero, List.getElem?_cons_succ, reduceIte, reduceCtorEq, true_and, and_true, and_self, not_true_eq_false, not_false_eq_true, Bool.not_true, Bool.not_false, Bool.not_eq_true, Bool.not_eq_false, ne_eq, decide_not])
      refine ⟨by simp [szOk], after_next (after_next ?_)⟩
      walk_at "st"
      try simp only [e3, e4, sNil, sAssign, sRet, sRet0, sIf, sExpr, sAugSub, sAug, sCont, gName, gSub, gTup, gTup.go, aVar, aCst, aBin, aUn, aIf, aTup, aList, lCons, lNil, aCall, aMeth, aCmp, aSlice, tCmp, tCmp2, tAnd, tOr, tNot, tVal, tTrue, tFalse, upd_at, if_true, if_false, Bool.false_eq_true, decide_true, decide_false, decide_eq_true_eq, opItem, opAdd, opIAdd, opIAddX, opSub, opMul, opDiv, opMod, opNeg, cmpOp, cmpLt, cmpIn, cmpIs, eq_int, eq_str, eq_bool, occ_one, truth, kList, kStr, fLen, fRange, fList, fTuple, fChr, fSJoin, fAll, fAny, fCount, fSRstrip, fSum, fMin, joinL_nil, fAppend, fInsert, fPop, withOwn, withItems, setAt, nth_zero, nth_one, nth_two, nth_last, kOk, bindP, List.length_cons, List.length_nil, List.isEmpty_cons, List.isEmpty_nil, List.map_nil, List.map_cons, Nat.reduceAdd, Nat.reduceEqDiff, Nat.succ_ne_self, Int.reduceNeg, Int.reduceLE, Int.reduceLT, Int.reduceEq, Int.cast_ofNat_Int, Int.toNat_zero, Int.toNat_one, Int.reduceToNat, Int.le_refl, List.getElem?_cons_zero, List.getElem?_cons_succ, reduceIte, reduceCtorEq, true_and, and_true, and_self, not_true_eq_false, not_false_eq_true, Bool.not_true, Bool.not_false, Bool.not_eq_true, Bool.not_eq_false, ne_eq, decide_not]
      exact ⟨hz, after_next (fin _ _ (by simp [upd_at, e3]) (by simp [okP, h, pr, emp]))⟩
    · try simp only [eq_false h, sNil, sAssign, sRet, sRet0, sIf, sExpr, sAugSub, sAug, sCont, gName, gSub, gTup, gTup.go, aVar, aCst, aBin, aUn, aIf, aTup, aList, lCons, lNil, aCall, aMeth, aCmp, aSlice, tCmp, tCmp2, tAnd, tOr, tNot, tVal, tTrue, tFalse, upd_at, if_true, if_false, Bool.false_eq_true, decide_true, decide_false, decide_eq_true_eq, opItem, opAdd, opIAdd, opIAddX, opSub, opMul, opDiv, opMod, opNeg, cmpOp, cmpLt, cmpIn, cmpIs, eq_int, eq_str, eq_bool, occ_one, truth, kList, kStr, fLen, fRange, fList, fTuple, fChr, fSJoin, fAll, fAny, fCount, fSRstrip, fSum, fMin, joinL_nil, fAppend, fInsert, fPop, withOwn, withItems, setAt, nth_zero, nth_one, nth_two, nth_last, kOk, bindP, List.length_cons, List.length_nil, List.isEmpty_cons, List.isEmpty_nil, List.map_nil, List.map_cons, Nat.reduceAdd, Nat.reduceEqDiff, Nat.succ_ne_self, Int.reduceNeg, Int.reduceLE, Int.reduceLT, Int.reduceEq, Int.cast_ofNat_Int, Int.toNat_zero, Int.toNat_one, Int.reduceToNat, Int.le_refl, List.getElem?_cons_zero, List.getElem?_cons_succ, reduceIte, reduceCtorEq, true_and, and_true, and_self, not_true_eq_false, not_false_eq_true, Bool.not_true, Bool.not_false, Bool.not_eq_true, Bool.not_eq_false, ne_eq, decide_not]
      refine after_next ?_
      walk_at "st"
      try simp only [e3, e4, sNil, sAssign, sRet, sRet0, sIf, sExpr, sAugSub, sAug, sCont, gName, gSub, gTup, gTup.go, aVar, aCst, aBin, aUn, aIf, aTup, aList, lCons, lNil, aCall, aMeth, aCmp, aSlice, tCmp, tCmp2, tAnd, tOr, tNot, tVal, tTrue, tFalse, upd_at, if_true, if_false, Bool.false_eq_true, decide_true, decide_false, decide_eq_true_eq, opItem, opAdd, opIAdd, opIAddX, opSub, opMul, opDiv, opMod, opNeg, cmpOp, cmpLt, cmpIn, cmpIs, eq_int, eq_str, eq_bool, occ_one, truth, kList, kStr, fLen, fRange, fList, fTuple, fChr, fSJoin, fAll, fAny, fCount, fSRstrip, fSum, fMin, joinL_nil, fAppend, fInsert, fPop, withOwn, withItems, setAt, nth_zero, nth_one, nth_two, nth_last, kOk, bindP, List.length_cons, List.length_nil, List.isEmpty_cons, List.isEmpty_nil, List.map_nil, List.map_cons, Nat.reduceAdd, Nat.reduceEqDiff, Nat.succ_ne_self, Int.reduceNeg, Int.reduceLE, Int.reduceLT, Int.reduceEq, Int.cast_ofNat_Int, Int.toNat_zero, Int.toNat_one, Int.reduceToNat, Int.le_refl, List.getElem?_cons_zero, List.getElem?_cons_succ, reduceIte, reduceCtorEq, true_and, and_true, and_self, not_true_eq_false, not_false_eq_true, Bool.not_true, Bool.not_false, Bool.not_eq_true, Bool.not_eq_false, ne_eq, decide_not]
      exact ⟨hz, after_next (fin _ _ (by simp [upd_at, e3]) (by simp [okP, h, pr]))⟩
  · rintro ρ H ⟨done, rest, e1, e2, e3, e4, e5⟩
    have : rest = [] := by cases rest with | nil => rfl | cons q r => cases e2
    subst this
    simp only [List.append_nil] at e1
    subst e1
    refine after_next ?_
    walk_at "st"
    try simp only [e3, sNil, sAssign, sRet, sRet0, sIf, sExpr, sAugSub, sAug, sCont, gName, gSub, gTup, gTup.go, aVar, aCst, aBin, aUn, aIf, aTup, aList, lCons, lNil, aCall, aMeth, aCmp, aSlice, tCmp, tCmp2, tAnd, tOr, tNot, tVal, tTrue, tFalse, upd_at, if_true, if_false, Bool.false_eq_true, decide_true, decide_false, decide_eq_true_eq, opItem, opAdd, opIAdd, opIAddX, opSub, opMul, opDiv, opMod, opNeg, cmpOp, cmpLt, cmpIn, cmpIs, eq_int, eq_str, eq_bool, occ_one, truth, kList, kStr, fLen, fRange, fList, fTuple, fChr, fSJoin, fAll, fAny, fCount, fSRstrip, fSum, fMin, joinL_nil, fAppend, fInsert, fPop, withOwn, withItems, setAt, nth_zero, nth_one, nth_two, nth_last, kOk, bindP, List.length_cons, List.length_nil, List.isEmpty_cons, List.isEmpty_nil, List.map_nil, List.map_cons, Nat.reduceAdd, Nat.reduceEqDiff, Nat.succ_ne_self, Int.reduceNeg, Int.reduceLE, Int.reduceLT, Int.reduceEq, Int.cast_ofNat_Int, Int.toNat_zero, Int.toNat_one, Int.reduceToNat, Int.le_refl, List.getElem?_cons_zero, List.getElem?_cons_succ, reduceIte, reduceCtorEq, true_and, and_true, and_self, not_true_eq_false, not_false_eq_true, Bool.not_true, Bool.not_false, Bool.not_eq_true, Bool.not_eq_false, ne_eq, decide_not]
    exact after_ret (end_ret (hQ a H ha e5 e4))
def Fd.adr (f : Fd) : List Nat := [f.a, f.b, f.c]
structure Fd.own (f : Fd) (H : AH) : Prop where
  ha : H f.a = some ⟨f.nm.map .str, true⟩
  hb : H f.b = some ⟨f.rm.map .str, true⟩
  hc : H f.c = some ⟨f.ad.map .str, true⟩
def adrs (l : List Fd) : List Nat := (l.map Fd.adr).flatten
structure FX (H : AH) (l : List Fd) : Prop where
  own : ∀ f ∈ l, f.own H
  nd : (adrs l).Nodup
theorem FX.mem {H : AH} {l : List Fd} (h : FX H l) {x : Nat} (hx : x ∈ adrs l) : ∃ y, H x = some ⟨y, true⟩ := by
  obtain ⟨_, hl, hx⟩ := List.mem_flatten.mp hx
  obtain ⟨f, hf, rfl⟩ := List.mem_map.mp hl
  have o := h.own f hf
  simp only [Fd.adr, List.mem_cons, List.not_mem_nil, or_false] at hx
  rcases hx with rfl | rfl | rfl
  · exact ⟨_, o.ha⟩
  · exact ⟨_, o.hb⟩
  · exact ⟨_, o.hc⟩
theorem FX.keep {H H' : AH} {l : List Fd} (h : FX H l) (k : ∀ x ∈ adrs l, H' x = H x) : FX H' l := by
  refine ⟨fun f hf => ?_, h.nd⟩
  have m : ∀ x ∈ f.adr, x ∈ adrs l := fun x hx => List.mem_flatten.mpr ⟨_, List.mem_map.mpr ⟨f, hf, rfl⟩, hx⟩
  have o := h.own f hf
  exact ⟨by rw [k _ (m _ (by simp [Fd.adr])), o.ha], by rw [k _ (m _ (by simp [Fd.adr])), o.hb], by rw [k _ (m _ (by simp [Fd.adr])), o.hc]⟩
theorem FX.keepK {H H' : AH} {l : List Fd} (h : FX H l) (k : Keep H H') : FX H' l :=
  h.keep fun x hx => by obtain ⟨y, e⟩ := h.mem hx; rw [k.at e, e]
theorem adrs_app (l m : List Fd) : adrs (l ++ m) = adrs l ++ adrs m := by simp [adrs]
theorem FX.add {H : AH} {l : List Fd} (h : FX H l) {a b c : Nat} {nm rm ad : Us} (ha : H a = none) (hb : (upd H a ⟨nm.map .str, true⟩) b = none) (hc : (upd (upd H a ⟨nm.map .str, true⟩) b ⟨rm.map .str, true⟩) c = none) :
    FX (upd (upd (upd H a ⟨nm.map .str, true⟩) b ⟨rm.map .str, true⟩) c ⟨ad.map .str, true⟩) (l ++ [⟨a, b, c, nm, rm, ad⟩]) := by
  have nab : b ≠ a := by rintro rfl; rw [upd_same] at hb; cases hb
  have ncb : c ≠ b := by rintro rfl; rw [upd_same] at hc; cases hc
  have nca : c ≠ a := by rintro rfl; rw [upd_other _ _ nab.symm, upd_same] at hc; cases hc
  have hb0 : H b = none := by rw [upd_other _ _ nab] at hb; exact hb
  have hc0 : H c = none := by rw [upd_other _ _ ncb, upd_other _ _ nca] at hc; exact hc
  have nin : ∀ x, H x = none → x ∉ adrs l := fun x hx hm => by obtain ⟨y, e⟩ := h.mem hm; rw [hx] at e; cases e
  have K : Keep H (upd (upd (upd H a ⟨nm.map .str, true⟩) b ⟨rm.map .str, true⟩) c ⟨ad.map .str, true⟩) := ((Keep.new ha).trans (Keep.new hb)).trans (Keep.new hc)
  refine ⟨fun f hf => ?_, ?_⟩
  · rcases List.mem_append.mp hf with hf | hf
    · exact (h.keepK K).own f hf
    · rw [List.mem_singleton.mp hf]
      exact ⟨by rw [upd_other _ _ nca.symm, upd_other _ _ nab.symm, upd_same], by rw [upd_other _ _ ncb.symm, upd_same], upd_same _ _ _⟩
  · rw [adrs_app]
    refine List.nodup_append.mpr ⟨h.nd, by simp [adrs, Fd.adr, nab.symm, nca.symm, ncb.symm], fun x hx y hy => ?_⟩
    simp only [adrs, Fd.adr, List.map_cons, List.map_nil, List.flatten_cons, List.flatten_nil, List.append_nil, List.mem_cons, List.not_mem_nil, or_false] at hy
    rintro rfl
    rcases hy with rfl | rfl | rfl
    · exact nin _ ha hx
    · exact nin _ hb0 hx
    · exact nin _ hc0 hx
structure FL (H : AH) (F : Nat) (l : List Fd) : Prop extends FX H l where
  hF : H F = some ⟨l.map Fd.pv, true⟩
  nF : F ∉ adrs l
def Sz (l : List Fd) (k : Nat) : Prop := ∀ f ∈ l, (∀ u ∈ f.nm, uF u) ∧ (∀ u ∈ f.rm, uF u) ∧ (∀ u ∈ f.ad, uF u) ∧ f.nm.length ≤ k ∧ f.rm.length ≤ k ∧ f.ad.length ≤ k
def fdI (ns : List Int) (s F : Nat) (ps : List PV) (ρ : AEnv) (H : AH) : Prop := ∃ (j : Nat) (l : List Fd), j ≤ ns.length ∧ ps = (ns.drop j).map .int ∧ ρ 15 = some (.ref F) ∧ FL H F l ∧ Sz l (2 + j) ∧ l ≠ [] ∧ l.length ≤ 12 ∧ H s = some ⟨ns.map .int, false⟩
theorem FX.push {H : AH} {l : List Fd} {f g : Fd} {x : Nat} {y : List PV} (h : FX H (l ++ [f])) (hx : x ∈ f.adr) (hg : g.adr = f.adr) (ho : g.own (upd H x ⟨y, true⟩)) : FX (upd H x ⟨y, true⟩) (l ++ [g]) := by
  have nd := h.nd
  rw [adrs_app] at nd
  obtain ⟨n1, n2, n3⟩ := List.nodup_append.mp nd
  have e1 : adrs [g] = adrs [f] := by simp [adrs, hg]
  refine ⟨fun k hk => ?_, by rw [adrs_app, e1]; exact nd⟩
  rcases List.mem_append.mp hk with hk | hk
  · have : FX H l := ⟨fun k hk => h.own k (List.mem_append_left _ hk), n1⟩
    refine (this.keep fun z hz => ?_).own k hk
    rw [upd_other]
    rintro rfl
    exact n3 z hz z (by simpa [adrs] using hx) rfl
  · rw [List.mem_singleton.mp hk]; exact ho
theorem fields_spec {Q : PV → AH → Prop} {H : AH} {ns : List Int} {s : Nat} (hn : ns.length ≤ 63) (hs : H s = some ⟨ns.map .int, false⟩)
    (hQ : ∀ F H' l, FL H' F l → Sz l 65 → l ≠ [] → l.length ≤ 12 → H' s = some ⟨ns.map .int, false⟩ → Q (.ref F) H') : f__law_fields [.ref s] Q H := by
  have u40 : ∀ u ∈ [[40]], uF u := by intro u hu; rw [List.mem_singleton.mp hu]; exact ⟨.inl ⟨40, by decide, rfl⟩, by decide, by decide, by decide⟩
  have u91 : ∀ u ∈ [[91]], uF u := by intro u hu; rw [List.mem_singleton.mp hu]; exact ⟨.inl ⟨91, by decide, rfl⟩, by decide, by decide, by decide⟩
  have u41 : ∀ u ∈ [[40], [41]], uF u := by
    intro u hu
    rcases List.mem_cons.mp hu with rfl | hu
    · exact ⟨.inl ⟨40, by decide, rfl⟩, by decide, by decide, by decide⟩
    · rw [List.mem_singleton.mp hu]; exact ⟨.inl ⟨41, by decide, rfl⟩, by decide, by decide, by decide⟩
  have F0 : FX H [] := ⟨fun _ h => (nomatch h), by simp [adrs]⟩
  refine fn rfl ?_
  walk_at "st"
  simp only [sAssign, aList, lCons, aTup, lNil, aCst, newL, List.length_cons, List.length_nil, Nat.reduceAdd]
  refine ⟨by simp [szOk], fun a1 h1 => ⟨by simp [szOk], fun b1 i1 => ⟨by simp [szOk], fun c1 j1 => ⟨by simp [szOk], ?_⟩⟩⟩⟩
  have F1 := F0.add (nm := []) (rm := [[40]]) (ad := []) h1 i1 j1
  have K1 := ((Keep.new (y := ⟨([] : Us).map PV.str, true⟩) h1).trans (Keep.new (y := ⟨([[40]] : Us).map PV.str, true⟩) i1)).trans (Keep.new (y := ⟨([] : Us).map PV.str, true⟩) j1)
  simp only [List.map_cons, List.map_nil] at F1 K1
  generalize (upd (upd (upd H a1 ⟨[], true⟩) b1 ⟨[PV.str [40]], true⟩) c1 ⟨[], true⟩) = H1 at F1 K1 ⊢
  refine ⟨by simp [szOk], fun a2 h2 => ⟨by simp [szOk], fun b2 i2 => ⟨by simp [szOk], fun c2 j2 => ⟨by simp [szOk], ?_⟩⟩⟩⟩
  have F2 := F1.add (nm := []) (rm := []) (ad := [[91]]) h2 i2 j2
  have K2 := ((Keep.new (y := ⟨([] : Us).map PV.str, true⟩) h2).trans (Keep.new (y := ⟨([] : Us).map PV.str, true⟩) i2)).trans (Keep.new (y := ⟨([[91]] : Us).map PV.str, true⟩) j2)
  simp only [List.map_cons, List.map_nil] at F2 K2
  generalize (upd (upd (upd H1 a2 ⟨[], true⟩) b2 ⟨[], true⟩) c2 ⟨[PV.str [91]], true⟩) = H2 at F2 K2 ⊢
  refine ⟨by simp [szOk], fun a3 h3 => ⟨by simp [szOk], fun b3 i3 => ⟨by simp [szOk], fun c3 j3 => ⟨by simp [szOk], ?_⟩⟩⟩⟩
  have F3 := F2.add (nm := []) (rm := [[40], [41]]) (ad := []) h3 i3 j3
  have K3 := ((Keep.new (y := ⟨([] : Us).map PV.str, true⟩) h3).trans (Keep.new (y := ⟨([[40], [41]] : Us).map PV.str, true⟩) i3)).trans (Keep.new (y := ⟨([] : Us).map PV.str, true⟩) j3)
  simp only [List.map_cons, List.map_nil] at F3 K3
  generalize (upd (upd (upd H2 a3 ⟨[], true⟩) b3 ⟨[PV.str [40], PV.str [41]], true⟩) c3 ⟨[], true⟩) = H3 at F3 K3 ⊢
  refine ⟨by simp [szOk], fun F hF => ?_⟩
  generalize hl3 : ([] ++ [(⟨a1, b1, c1, [], [[40]], []⟩ : Fd)] ++ [⟨a2, b2, c2, [], [], [[91]]⟩] ++ [⟨a3, b3, c3, [], [[40], [41]], []⟩]) = l3 at F3
  have eL : [PV.tup [.ref a1, .ref b1, .ref c1], PV.tup [.ref a2, .ref b2, .ref c2], PV.tup [.ref a3, .ref b3, .ref c3]] = l3.map Fd.pv := by rw [← hl3]; rfl
  have FL4 : FL (upd H3 F ⟨l3.map Fd.pv, true⟩) F l3 := by
    refine ⟨F3.keepK (Keep.new hF), upd_same _ _ _, fun hm => ?_⟩
    obtain ⟨y, e⟩ := F3.mem hm
    rw [hF] at e; cases e
  have hs4 := (((K1.trans K2).trans K3).trans (Keep.new (y := ⟨l3.map Fd.pv, true⟩) hF)).at hs
  have S4 : Sz l3 2 := by
    intro f hf
    rw [← hl3] at hf
    simp only [List.nil_append, List.cons_append, List.mem_cons, List.not_mem_nil, or_false] at hf
    rcases hf with rfl | rfl | rfl
    · exact ⟨by simp, u40, by simp, by simp, by simp, by simp⟩
    · exact ⟨by simp, by simp, u91, by simp, by simp, by simp⟩
    · exact ⟨by simp, u41, by simp, by simp, by simp, by simp⟩
  have n4 : l3 ≠ [] := by rw [← hl3]; simp
  have z4 : l3.length ≤ 12 := by rw [← hl3]; simp
  rw [eL]
  simp only [gName]
  refine after_next ?_
  generalize (upd H3 F ⟨l3.map Fd.pv, true⟩) = H4 at FL4 hs4 ⊢
  walk_at "st"
  try simp only [sFor, hs4, sNil, sAssign, sRet, sRet0, sIf, sExpr, sAugSub, sAug, sCont, gName, gSub, gTup, gTup.go, aVar, aCst, aBin, aUn, aIf, aTup, aList, lCons, lNil, aCall, aMeth, aCmp, aSlice, tCmp, tCmp2, tAnd, tOr, tNot, tVal, tTrue, tFalse, upd_at, if_true, if_false, Bool.false_eq_true, decide_true, decide_false, decide_eq_true_eq, opItem, opAdd, opIAdd, opIAddX, opSub, opMul, opDiv, opMod, opNeg, cmpOp, cmpLt, cmpIn, cmpIs, eq_int, eq_str, eq_bool, occ_one, truth, kList, kStr, fLen, fRange, fList, fTuple, fChr, fSJoin, fAll, fAny, fCount, fSRstrip, fSum, fMin, joinL_nil, fAppend, fInsert, fPop, withOwn, withItems, setAt, nth_zero, nth_one, nth_two, nth_last, kOk, bindP, List.length_cons, List.length_nil, List.isEmpty_cons, List.isEmpty_nil, List.map_nil, List.map_cons, Nat.reduceAdd, Nat.reduceEqDiff, Nat.succ_ne_self, Int.reduceNeg, Int.reduceLE, Int.reduceLT, Int.reduceEq, Int.cast_ofNat_Int, Int.toNat_zero, Int.toNat_one, Int.reduceToNat, Int.le_refl, List.getElem?_cons_zero, List.getElem?_cons_succ, reduceIte, reduceCtorEq, true_and, and_true, and_self, not_true_eq_false, not_false_eq_true, Bool.not_true, Bool.not_false, Bool.not_eq_true, Bool.not_eq_false, ne_eq, decide_not]
  refine forL_inv mg_name m_l__law_fields_3 (fdI ns s F) ?_ ?_ _ _ _ ⟨0, l3, Nat.zero_le _, rfl, rfl, FL4, S4, n4, z4, hs4⟩
  · rintro p ps ρ H5 ⟨j, l, hj, e, r15, L, S, hne, hlen, hs5⟩
    have hlt : j < ns.length := by
      rcases Nat.lt_or_ge j ns.length with h | h
      · exact h
      · rw [List.drop_eq_nil_of_le h] at e; cases e
    rw [List.drop_eq_getElem_cons hlt] at e
    obtain ⟨rfl, rfl⟩ := List.cons.inj e
    generalize ns[j] = n
    have S' : Sz l (2 + (j + 1)) := fun f hf => let ⟨a, b, c, d, e, g⟩ := S f hf; ⟨a, b, c, by omega, by omega, by omega⟩
    have hll : szOk (l.map Fd.pv).length := by simp [szOk]; omega
    have hll' : ((l.map Fd.pv).length : Int) = (l.length : Nat) := by simp
    -- a new field
    have caseN : ∀ R : Fl → AEnv → AH → Prop, (∀ ρ' H', H' s = some ⟨ns.map .int, false⟩ ∧ fdI ns s F ((ns.drop (j + 1)).map .int) ρ' H' → R .next ρ' H') → l.length < 12 → ∀ ρ' : AEnv, ρ' 15 = some (.ref F) → ∀ m, ρ' 16 = some (.int m) → l__law_fields_1 R ρ' H5 := by
      intro R hR hl12 ρ' q15 m q16
      unfold l__law_fields_1
      walk_at "st"
      simp only [sExpr, aMeth, aVar, q15, lCons, aTup, aList, lNil, aCall, q16, newL, List.length_cons, List.length_nil, Nat.reduceAdd, kList, L.hF]
      refine ⟨trivial, by simp [szOk], fun a h1 => ⟨by simp [szOk], fun b h2 => unit_spec ⟨by simp [szOk], fun c h3 => ⟨by simp [szOk], ?_⟩⟩⟩⟩
      have FA := L.toFX.add (nm := []) (rm := []) (ad := [un m]) h1 h2 h3
      have KA := ((Keep.new (y := ⟨([] : Us).map PV.str, true⟩) h1).trans (Keep.new (y := ⟨([] : Us).map PV.str, true⟩) h2)).trans (Keep.new (y := ⟨([un m] : Us).map PV.str, true⟩) h3)
      simp only [List.map_cons, List.map_nil] at FA KA
      generalize (upd (upd (upd H5 a ⟨[], true⟩) b ⟨[], true⟩) c ⟨[PV.str (un m)], true⟩) = H6 at FA KA ⊢
      try simp only [KA.at L.hF, sNil, sAssign, sRet, sRet0, sIf, sExpr, sAugSub, sAug, sCont, gName, gSub, gTup, gTup.go, aVar, aCst, aBin, aUn, aIf, aTup, aList, lCons, lNil, aCall, aMeth, aCmp, aSlice, tCmp, tCmp2, tAnd, tOr, tNot, tVal, tTrue, tFalse, upd_at, if_true, if_false, Bool.false_eq_true, decide_true, decide_false, decide_eq_true_eq, opItem, opAdd, opIAdd, opIAddX, opSub, opMul, opDiv, opMod, opNeg, cmpOp, cmpLt, cmpIn, cmpIs, eq_int, eq_str, eq_bool, occ_one, truth, kList, kStr, fLen, fRange, fList, fTuple, fChr, fSJoin, fAll, fAny, fCount, fSRstrip, fSum, fMin, joinL_nil, fAppend, fInsert, fPop, withOwn, withItems, setAt, nth_zero, nth_one, nth_two, nth_last, kOk, bindP, List.length_cons, List.length_nil, List.isEmpty_cons, List.isEmpty_nil, List.map_nil, List.map_cons, Nat.reduceAdd, Nat.reduceEqDiff, Nat.succ_ne_self, Int.reduceNeg, Int.reduceLE, Int.reduceLT, Int.reduceEq, Int.cast_ofNat_Int, Int.toNat_zero, Int.toNat_one, Int.reduceToNat, Int.le_refl, List.getElem?_cons_zero, List.getElem?_cons_succ, reduceIte, reduceCtorEq, true_and, and_true, and_self, not_true_eq_false, not_false_eq_true, Bool.not_true, Bool.not_false, Bool.not_eq_true, Bool.not_eq_false, ne_eq, decide_not]
      refine ⟨hll, after_next (hR _ _ ?_)⟩
      have nFs : s ≠ F := by rintro rfl; have := L.hF.symm.trans hs5; simp at this
      have hs6 : (upd H6 F ⟨l.map Fd.pv ++ [PV.tup [.ref a, .ref b, .ref c]], true⟩) s = some ⟨ns.map .int, false⟩ := by rw [upd_other _ _ nFs]; exact KA.at hs5
      have nF' : F ∉ adrs (l ++ [⟨a, b, c, [], [], [un m]⟩]) := by
        rw [adrs_app]
        intro hm
        rcases List.mem_append.mp hm with hm | hm
        · exact L.nF hm
        · have hFs := L.hF
          simp only [adrs, Fd.adr, List.map_cons, List.map_nil, List.flatten_cons, List.flatten_nil, List.append_nil, List.mem_cons, List.not_mem_nil, or_false] at hm
          rcases hm with rfl | rfl | rfl
          · rw [hFs] at h1; cases h1
          · rw [(Keep.new (y := ⟨[], true⟩) h1).at hFs] at h2; cases h2
          · rw [((Keep.new (y := ⟨[], true⟩) h1).trans (Keep.new (y := ⟨[], true⟩) h2)).at hFs] at h3; cases h3
      refine ⟨hs6, j + 1, l ++ [⟨a, b, c, [], [], [un m]⟩], by omega, rfl, q15, ⟨FA.keep fun x hx => upd_other _ _ (fun (e : x = F) => nF' (by rw [← e]; exact hx)), ?_, nF'⟩, ?_, by simp, by simp; omega, hs6⟩
      · rw [upd_same]; simp [Fd.pv]
      · intro f hf
        rcases List.mem_append.mp hf with hf | hf
        · exact S' f hf
        · rw [List.mem_singleton.mp hf]
          exact ⟨by simp, by simp, by intro u hu; rw [List.mem_singleton.mp hu]; exact un_ok m, by simp, by simp, by simp; omega⟩
    have caseP : ∀ R : Fl → AEnv → AH → Prop, (∀ ρ' H', H' s = some ⟨ns.map .int, false⟩ ∧ fdI ns s F ((ns.drop (j + 1)).map .int) ρ' H' → R .next ρ' H') → ∀ ρ' : AEnv, ρ' 15 = some (.ref F) → ∀ m, ρ' 16 = some (.int m) → l__law_fields_2 R ρ' H5 := by
      intro R hR ρ' q15 m q16
      obtain ⟨l0, f, rfl⟩ : ∃ l0 f, l = l0 ++ [f] := ⟨l.dropLast, l.getLast hne, (List.dropLast_concat_getLast hne).symm⟩
      have hlast : ((l0 ++ [f]).map Fd.pv).getLast? = some f.pv := by simp
      have of := L.own f (by simp)
      obtain ⟨s1, s2, s3, t1, t2, t3⟩ := S f (by simp)
      have S0 : ∀ g ∈ l0, _ := fun g hg => S' g (List.mem_append_left _ hg)
      have m0 : 0 ≤ m % 3 := Int.emod_nonneg _ (by decide)
      have m1 : m % 3 < 3 := Int.emod_lt_of_pos _ (by decide)
      have nd := L.nd
      rw [adrs_app] at nd
      have nf := (List.nodup_append.mp nd).2.1
      simp only [adrs, Fd.adr, List.map_cons, List.map_nil, List.flatten_cons, List.flatten_nil, List.append_nil, List.nodup_cons, List.mem_cons, List.not_mem_nil, or_false, not_or] at nf
      obtain ⟨⟨nab, nac⟩, nbc, _⟩ := nf
      have fin : ∀ (x : Nat) (y : List PV) (g : Fd), x ∈ f.adr → g.adr = f.adr → g.pv = f.pv → g.own (upd H5 x ⟨y, true⟩) → Sz [g] (2 + (j + 1)) → (upd H5 x ⟨y, true⟩) s = some ⟨ns.map .int, false⟩ ∧ fdI ns s F ((ns.drop (j + 1)).map .int) ρ' (upd H5 x ⟨y, true⟩) := by
        intro x y g hx hg hp ho hz
        have hxm : x ∈ adrs (l0 ++ [f]) := by rw [adrs_app]; exact List.mem_append_right _ (by simpa [adrs] using hx)
        obtain ⟨y0, ey⟩ := L.mem hxm
        have nxs : s ≠ x := by rintro rfl; rw [ey] at hs5; cases hs5
        have nxF : F ≠ x := fun e => L.nF (e ▸ hxm)
        have hs6 : (upd H5 x ⟨y, true⟩) s = some ⟨ns.map .int, false⟩ := by rw [upd_other _ _ nxs, hs5]
        refine ⟨hs6, j + 1, l0 ++ [g], by omega, rfl, q15, ⟨L.toFX.push hx hg ho, ?_, ?_⟩, ?_, by simp, by simpa using hlen, hs6⟩
        · rw [upd_other _ _ nxF, L.hF]; simp [hp]
        · have : adrs (l0 ++ [g]) = adrs (l0 ++ [f]) := by rw [adrs_app, adrs_app]; simp [adrs, hg]
          rw [this]; exact L.nF
        · intro k hk
          rcases List.mem_append.mp hk with hk | hk
          · exact S0 k hk
          · exact hz k hk
      have uo := un_ok (m / 3)
      have app : ∀ {V : Us}, (∀ u ∈ V, uF u) → ∀ u ∈ V ++ [un (m / 3)], uF u := fun h u hu => by
        rcases List.mem_append.mp hu with hu | hu
        · exact h u hu
        · rw [List.mem_singleton.mp hu]; exact uo
      have key : ∀ (x : Nat) (V : Us), nth [PV.ref f.a, .ref f.b, .ref f.c] (m % 3) = some (.ref x) → H5 x = some ⟨V.map .str, true⟩ → V.length ≤ 2 + j → ((upd H5 x ⟨V.map .str ++ [.str (un (m / 3))], true⟩) s = some ⟨ns.map .int, false⟩ ∧ fdI ns s F ((ns.drop (j + 1)).map .int) ρ' (upd H5 x ⟨V.map .str ++ [.str (un (m / 3))], true⟩)) → l__law_fields_2 R ρ' H5 := by
        intro x V hnth hx hV hfin
        unfold l__law_fields_2
        have b1 : -1000000000 ≤ m % 3 := by omega
        have b2 : m % 3 ≤ 1000000000 := by omega
        have hLF := L.hF
        generalize (l0 ++ [f]).map Fd.pv = items at hLF hlast
        walk_at "st"
        try simp only [q15, q16, hLF, hlast, Fd.pv, hnth, b1, b2, hx, sNil, sAssign, sRet, sRet0, sIf, sExpr, sAugSub, sAug, sCont, gName, gSub, gTup, gTup.go, aVar, aCst, aBin, aUn, aIf, aTup, aList, lCons, lNil, aCall, aMeth, aCmp, aSlice, tCmp, tCmp2, tAnd, tOr, tNot, tVal, tTrue, tFalse, upd_at, if_true, if_false, Bool.false_eq_true, decide_true, decide_false, decide_eq_true_eq, opItem, opAdd, opIAdd, opIAddX, opSub, opMul, opDiv, opMod, opNeg, cmpOp, cmpLt, cmpIn, cmpIs, eq_int, eq_str, eq_bool, occ_one, truth, kList, kStr, fLen, fRange, fList, fTuple, fChr, fSJoin, fAll, fAny, fCount, fSRstrip, fSum, fMin, joinL_nil, fAppend, fInsert, fPop, withOwn, withItems, setAt, nth_zero, nth_one, nth_two, nth_last, kOk, bindP, List.length_cons, List.length_nil, List.isEmpty_cons, List.isEmpty_nil, List.map_nil, List.map_cons, Nat.reduceAdd, Nat.reduceEqDiff, Nat.succ_ne_self, Int.reduceNeg, Int.reduceLE, Int.reduceLT, Int.reduceEq, Int.cast_ofNat_Int, Int.toNat_zero, Int.toNat_one, Int.reduceToNat, Int.le_refl, List.getElem?_cons_zero, List.getElem?_cons_succ, reduceIte, reduceCtorEq, true_and, and_true, and_self, not_true_eq_false, not_false_eq_true, Bool.not_true, Bool.not_false, Bool.not_eq_true, Bool.not_eq_false, ne_eq, decide_not]
        refine unit_spec ?_
        try simp only [hx, sNil, sAssign, sRet, sRet0, sIf, sExpr, sAugSub, sAug, sCont, gName, gSub, gTup, gTup.go, aVar, aCst, aBin, aUn, aIf, aTup, aList, lCons, lNil, aCall, aMeth, aCmp, aSlice, tCmp, tCmp2, tAnd, tOr, tNot, tVal, tTrue, tFalse, upd_at, if_true, if_false, Bool.false_eq_true, decide_true, decide_false, decide_eq_true_eq, opItem, opAdd, opIAdd, opIAddX, opSub, opMul, opDiv, opMod, opNeg, cmpOp, cmpLt, cmpIn, cmpIs, eq_int, eq_str, eq_bool, occ_one, truth, kList, kStr, fLen, fRange, fList, fTuple, fChr, fSJoin, fAll, fAny, fCount, fSRstrip, fSum, fMin, joinL_nil, fAppend, fInsert, fPop, withOwn, withItems, setAt, nth_zero, nth_one, nth_two, nth_last, kOk, bindP, List.length_cons, List.length_nil, List.isEmpty_cons, List.isEmpty_nil, List.map_nil, List.map_cons, Nat.reduceAdd, Nat.reduceEqDiff, Nat.succ_ne_self, Int.reduceNeg, Int.reduceLE, Int.reduceLT, Int.reduceEq, Int.cast_ofNat_Int, Int.toNat_zero, Int.toNat_one, Int.reduceToNat, Int.le_refl, List.getElem?_cons_zero, List.getElem?_cons_succ, reduceIte, reduceCtorEq, true_and, and_true, and_self, not_true_eq_false, not_false_eq_true, Bool.not_true, Bool.not_false, Bool.not_eq_true, Bool.not_eq_false, ne_eq, decide_not]
        exact ⟨by simp [szOk]; omega, after_next (hR _ _ hfin)⟩
      have e3 : m % 3 = 0 ∨ m % 3 = 1 ∨ m % 3 = 2 := by omega
      rcases e3 with e3 | e3 | e3
      · refine key f.a f.nm (by rw [e3]; exact nth_zero _ _) of.ha t1 (fin f.a _ ⟨f.a, f.b, f.c, f.nm ++ [un (m / 3)], f.rm, f.ad⟩ (by simp [Fd.adr]) rfl rfl ⟨by rw [upd_same]; simp, by rw [upd_other _ _ (Ne.symm nab)]; exact of.hb, by rw [upd_other _ _ (Ne.symm nac)]; exact of.hc⟩ fun k hk => by rw [List.mem_singleton.mp hk]; exact ⟨app s1, s2, s3, by simp; omega, by show f.rm.length ≤ _; omega, by show f.ad.length ≤ _; omega⟩)
      · refine key f.b f.rm (by rw [e3]; exact nth_one _ _ _) of.hb t2 (fin f.b _ ⟨f.a, f.b, f.c, f.nm, f.rm ++ [un (m / 3)], f.ad⟩ (by simp [Fd.adr]) rfl rfl ⟨by rw [upd_other _ _ nab]; exact of.ha, by rw [upd_same]; simp, by rw [upd_other _ _ (Ne.symm nbc)]; exact of.hc⟩ fun k hk => by rw [List.mem_singleton.mp hk]; exact ⟨s1, app s2, s3, by show f.nm.length ≤ _; omega, by simp; omega, by show f.ad.length ≤ _; omega⟩)
      · refine key f.c f.ad (by rw [e3]; exact nth_two _ _ _ _) of.hc t3 (fin f.c _ ⟨f.a, f.b, f.c, f.nm, f.rm, f.ad ++ [un (m / 3)]⟩ (by simp [Fd.adr]) rfl rfl ⟨by rw [upd_other _ _ nac]; exact of.ha, by rw [upd_other _ _ nbc]; exact of.hb, by rw [upd_same]; simp⟩ fun k hk => by rw [List.mem_singleton.mp hk]; exact ⟨s1, s2, app s3, by show f.nm.length ≤ _; omega, by show f.rm.length ≤ _; omega, by simp; omega⟩)
    simp only [gName, l__law_fields_3]
    walk_at "st"
    (try simp only [sCons, sNil, sAssign, sRet, sRet0, sIf, sExpr, sFor, sAugSub, sAug, sCont, gName, gSub, gTup, gTup.go, aVar, aCst, aBin, aUn, aIf, aTup, aList, lCons, lNil, aCall, aMeth, aCmp, aSlice, tCmp, tCmp2, tAnd, tOr, tNot, tVal, tTrue, tFalse, upd_at, if_true, if_false, Bool.false_eq_true, decide_true, decide_false, decide_eq_true_eq, opItem, opAdd, opIAdd, opIAddX, opSub, opMul, opDiv, opMod, opNeg, cmpOp, cmpLt, cmpIn, cmpIs, eq_int, eq_str, eq_bool, occ_one, truth, kList, kStr, fLen, fRange, fList, fTuple, fChr, fSJoin, fAll, fAny, fCount, fSRstrip, fSum, fMin, joinL_nil, fAppend, fInsert, fPop, withOwn, withItems, setAt, nth_zero, nth_one, nth_two, nth_last, kOk, bindP, List.length_cons, List.length_nil, List.isEmpty_cons, List.isEmpty_nil, List.map_nil, List.map_cons, Nat.reduceAdd, Nat.reduceEqDiff, Nat.succ_ne_self, Int.reduceNeg, Int.reduceLE, Int.reduceLT, Int.reduceEq, Int.cast_ofNat_Int, Int.toNat_zero, Int.toNat_one, Int.reduceToNat, Int.le_refl, List.getElem?_cons_zero, List.getElem?_cons_succ, reduceIte, reduceCtorEq, true_and, and_true, and_self, not_true_eq_false, not_false_eq_true, Bool.not_true, Bool.not_false, Bool.not_eq_true, Bool.not_eq_false, ne_eq, decide_not])
    refine after_next ?_
    walk_at "st"
    by_cases h3 : n % 3 = 0
    · by_cases h12 : l.length < 12
      · have h12' : ((l.map Fd.pv).length : Int) < 12 := by rw [hll']; omega
        try simp only [r15, L.hF, eq_true h3, eq_true h12', sNil, sAssign, sRet, sRet0, sIf, sExpr, sAugSub, sAug, sCont, gName, gSub, gTup, gTup.go, aVar, aCst, aBin, aUn, aIf, aTup, aList, lCons, lNil, aCall, aMeth, aCmp, aSlice, tCmp, tCmp2, tAnd, tOr, tNot, tVal, tTrue, tFalse, upd_at, if_true, if_false, Bool.false_eq_true, decide_true, decide_false, decide_eq_true_eq, opItem, opAdd, opIAdd, opIAddX, opSub, opMul, opDiv, opMod, opNeg, cmpOp, cmpLt, cmpIn, cmpIs, eq_int, eq_str, eq_bool, occ_one, truth, kList, kStr, fLen, fRange, fList, fTuple, fChr, fSJoin, fAll, fAny, fCount, fSRstrip, fSum, fMin, joinL_nil, fAppend, fInsert, fPop, withOwn, withItems, setAt, nth_zero, nth_one, nth_two, nth_last, kOk, bindP, List.length_cons, List.length_nil, List.isEmpty_cons, List.isEmpty_nil, List.map_nil, List.map_cons, Nat.reduceAdd, Nat.reduceEqDiff, Nat.succ_ne_self, Int.reduceNeg, Int.reduceLE, Int.reduceLT, Int.reduceEq, Int.cast_ofNat_Int, Int.toNat_zero, Int.toNat_one, Int.reduceToNat, Int.le_refl, List.getElem?_cons_zero, List.getElem?_cons_succ, reduceIte, reduceCtorEq, true_and, and_true, and_self, not_true_eq_false, not_false_eq_true, Bool.not_true, Bool.not_false, Bool.not_eq_true, Bool.not_eq_false, ne_eq, decide_not]
        exact ⟨hll, caseN _ (fun ρ' H' h => after_next h) h12 _ (by simp [upd_at, r15]) _ (by simp [upd_at]; rfl)⟩
      · have h12' : ¬ ((l.map Fd.pv).length : Int) < 12 := by rw [hll']; omega
        try simp only [r15, L.hF, eq_true h3, eq_false h12', sNil, sAssign, sRet, sRet0, sIf, sExpr, sAugSub, sAug, sCont, gName, gSub, gTup, gTup.go, aVar, aCst, aBin, aUn, aIf, aTup, aList, lCons, lNil, aCall, aMeth, aCmp, aSlice, tCmp, tCmp2, tAnd, tOr, tNot, tVal, tTrue, tFalse, upd_at, if_true, if_false, Bool.false_eq_true, decide_true, decide_false, decide_eq_true_eq, opItem, opAdd, opIAdd, opIAddX, opSub, opMul, opDiv, opMod, opNeg, cmpOp, cmpLt, cmpIn, cmpIs, eq_int, eq_str, eq_bool, occ_one, truth, kList, kStr, fLen, fRange, fList, fTuple, fChr, fSJoin, fAll, fAny, fCount, fSRstrip, fSum, fMin, joinL_nil, fAppend, fInsert, fPop, withOwn, withItems, setAt, nth_zero, nth_one, nth_two, nth_last, kOk, bindP, List.length_cons, List.length_nil, List.isEmpty_cons, List.isEmpty_nil, List.map_nil, List.map_cons, Nat.reduceAdd, Nat.reduceEqDiff, Nat.succ_ne_self, Int.reduceNeg, Int.reduceLE, Int.reduceLT, Int.reduceEq, Int.cast_ofNat_Int, Int.toNat_zero, Int.toNat_one, Int.reduceToNat, Int.le_refl, List.getElem?_cons_zero, List.getElem?_cons_succ, reduceIte, reduceCtorEq, true_and, and_true, and_self, not_true_eq_false, not_false_eq_true, Bool.not_true, Bool.not_false, Bool.not_eq_true, Bool.not_eq_false, ne_eq, decide_not]
        exact ⟨hll, caseP _ (fun ρ' H' h => after_next h) _ (by simp [upd_at, r15]) _ (by simp [upd_at]; rfl)⟩
    · try simp only [eq_false h3, sNil, sAssign, sRet, sRet0, sIf, sExpr, sAugSub, sAug, sCont, gName, gSub, gTup, gTup.go, aVar, aCst, aBin, aUn, aIf, aTup, aList, lCons, lNil, aCall, aMeth, aCmp, aSlice, tCmp, tCmp2, tAnd, tOr, tNot, tVal, tTrue, tFalse, upd_at, if_true, if_false, Bool.false_eq_true, decide_true, decide_false, decide_eq_true_eq, opItem, opAdd, opIAdd, opIAddX, opSub, opMul, opDiv, opMod, opNeg, cmpOp, cmpLt, cmpIn, cmpIs, eq_int, eq_str, eq_bool, occ_one, truth, kList, kStr, fLen, fRange, fList, fTuple, fChr, fSJoin, fAll, fAny, fCount, fSRstrip, fSum, fMin, joinL_nil, fAppend, fInsert, fPop, withOwn, withItems, setAt, nth_zero, nth_one, nth_two, nth_last, kOk, bindP, List.length_cons, List.length_nil, List.isEmpty_cons, List.isEmpty_nil, List.map_nil, List.map_cons, Nat.reduceAdd, Nat.reduceEqDiff, Nat.succ_ne_self, Int.reduceNeg, Int.reduceLE, Int.reduceLT, Int.reduceEq, Int.cast_ofNat_Int, Int.toNat_zero, Int.toNat_one, Int.reduceToNat, Int.le_refl, List.getElem?_cons_zero, List.getElem?_cons_succ, reduceIte, reduceCtorEq, true_and, and_true, and_self, not_true_eq_false, not_false_eq_true, Bool.not_true, Bool.not_false, Bool.not_eq_true, Bool.not_eq_false, ne_eq, decide_not]
      exact caseP _ (fun ρ' H' h => after_next h) _ (by simp [upd_at, r15]) _ (by simp [upd_at]; rfl)
  · rintro ρ H5 ⟨j, l, hj, e, r15, L, S, hne, hlen, hs5⟩
    refine after_next ?_
    walk_at "st"
    try simp only [r15, sNil, sAssign, sRet, sRet0, sIf, sExpr, sAugSub, sAug, sCont, gName, gSub, gTup, gTup.go, aVar, aCst, aBin, aUn, aIf, aTup, aList, lCons, lNil, aCall, aMeth, aCmp, aSlice, tCmp, tCmp2, tAnd, tOr, tNot, tVal, tTrue, tFalse, upd_at, if_true, if_false, Bool.false_eq_true, decide_true, decide_false, decide_eq_true_eq, opItem, opAdd, opIAdd, opIAddX, opSub, opMul, opDiv, opMod, opNeg, cmpOp, cmpLt, cmpIn, cmpIs, eq_int, eq_str, eq_bool, occ_one, truth, kList, kStr, fLen, fRange, fList, fTuple, fChr, fSJoin, fAll, fAny, fCount, fSRstrip, fSum, fMin, joinL_nil, fAppend, fInsert, fPop, withOwn, withItems, setAt, nth_zero, nth_one, nth_two, nth_last, kOk, bindP, List.length_cons, List.length_nil, List.isEmpty_cons, List.isEmpty_nil, List.map_nil, List.map_cons, Nat.reduceAdd, Nat.reduceEqDiff, Nat.succ_ne_self, Int.reduceNeg, Int.reduceLE, Int.reduceLT, Int.reduceEq, Int.cast_ofNat_Int, Int.toNat_zero, Int.toNat_one, Int.reduceToNat, Int.le_refl, List.getElem?_cons_zero, List.getElem?_cons_succ, reduceIte, reduceCtorEq, true_and, and_true, and_self, not_true_eq_false, not_false_eq_true, Bool.not_true, Bool.not_false, Bool.not_eq_true, Bool.not_eq_false, ne_eq, decide_not]
    exact after_ret (end_ret (hQ F H5 l L (fun f hf => let ⟨a, b, c, d, e, g⟩ := S f hf; ⟨a, b, c, by omega, by omega, by omega⟩) hne hlen hs5))
def outOf (f : Fd) : PV × List Nat := if f.clos && f.bare then f.pair else emp
def rdOf (f : Fd) : PV × List Nat := if f.clos then f.pair else emp
theorem okP_rd (f : Fd) : okP (rdOf f) = outOf f := by
  unfold okP rdOf outOf Fd.bare
  cases f.clos with
  | false => simp [emp]
  | true =>
    by_cases h : 91 ∈ f.ad.flatten
    · simp only [if_true, Fd.pair, h, decide_true, Bool.not_true, Bool.and_false, Bool.false_eq_true, if_false]
    · simp only [if_true, Fd.pair, h, if_false, decide_false, Bool.not_false, Bool.and_self]
theorem okP_pair (f : Fd) : okP f.pair = if f.bare then f.pair else emp := by
  unfold okP Fd.bare Fd.pair
  by_cases h : 91 ∈ f.ad.flatten <;> simp [h]
def tx (l : List Fd) : Us := l.map Fd.text
theorem pre1_text {f : Fd} (hf : f.ok) : pre1 f.text = if f.clos then f.text else ppw := by unfold pre1; rw [clo_text hf]
/-- what is read of a text -/
def rdF (x : List Nat) : PV × List Nat := if 60 ∈ x then (.str (x.reverse.tail.dropWhile (fun c => c != 32)).tail.reverse, (x.reverse.tail.takeWhile (fun c => c != 32)).dropLast.reverse) else emp
theorem rdF_text {f : Fd} (hf : f.ok) : rdF f.text = f.pair := by
  have h60 : 60 ∈ f.text := by simp [Fd.text]
  have hA : ∀ c ∈ f.ad.flatten.reverse, (c != 32) = true := by
    intro c hc
    obtain ⟨u, hu, hc⟩ := List.mem_flatten.mp (List.mem_reverse.mp hc)
    simpa using ((hf.ua u hu).2.2.2 c hc).1
  have e : f.text.reverse.tail = f.ad.flatten.reverse ++ (60 :: 32 :: f.hd.reverse) := by simp [Fd.text]
  unfold rdF Fd.pair
  rw [if_pos h60, e, List.takeWhile_append_of_pos hA, List.dropWhile_append_of_pos hA]
  have t1 : (60 :: 32 :: f.hd.reverse).takeWhile (fun c => c != 32) = [60] := by simp
  have t2 : (60 :: 32 :: f.hd.reverse).dropWhile (fun c => c != 32) = 32 :: f.hd.reverse := by simp
  rw [t1, t2, List.dropLast_concat]
  simp
theorem rdF_ppw : rdF ppw = emp := by
  unfold rdF
  rw [if_neg (by simp [ppw])]
theorem rdF_pre {f : Fd} (hf : f.ok) : rdF (pre1 f.text) = rdOf f := by
  rw [pre1_text hf]; unfold rdOf
  cases f.clos with
  | true => exact rdF_text hf
  | false => exact rdF_ppw
theorem read_pre {f : Fd} (hf : f.ok) {Q : PV → AH → Prop} {H : AH} (hQ : Q (pr (rdF (pre1 f.text))) H) : f__law_read [.str (pre1 f.text)] Q H := by
  rw [rdF_pre hf] at hQ
  rw [pre1_text hf]
  unfold rdOf at hQ
  cases h : f.clos with
  | true => rw [h] at hQ; exact read_text hf hQ
  | false => rw [h] at hQ; exact read_ppw hQ
def onTx (rd : List Nat → PV × List Nat) : PV → Option PV
  | .str x => some (pr (rd x))
  | _ => none
theorem onTx_all (rd : List Nat → PV × List Nat) : ∀ xs : Us, (xs.map PV.str).filterMap (onTx rd) = (xs.map rd).map pr
  | [] => rfl
  | x :: xs => by
    simp only [List.map_cons, List.filterMap_cons, onTx]
    rw [onTx_all rd xs]
theorem reads_spec {Q : PV → AH → Prop} {H : AH} {ρ : AEnv} {v : Nat} {t : Nat} {o : Bool} {xs : Us} {ys : Bk} (r : ρ v = some (.ref t)) (hz : xs.length ≤ 100) (ht : H t = some ⟨xs.map .str, o⟩) (rd : List Nat → PV × List Nat) (hy : xs.map rd = ys) (hrd : ∀ x ∈ xs, ∀ (Q : PV → AH → Prop) (H : AH), Q (pr (rd x)) H → f__law_read [.str x] Q H)
    (hQ : ∀ a H', H a = none → Keep H H' → H' a = some ⟨ys.map pr, true⟩ → Q (.ref a) H') : aComp [] (gName 21) (aVar v) (tTrue) (aCall f__law_read (lCons (aVar 21) (lNil))) Q ρ H := by
  refine aComp_run mg_name mt_true (m_call m_f__law_read (ml_cons m_var ml_nil)) m_var ?_
  try simp only [r, ht, sNil, sAssign, sRet, sRet0, sIf, sExpr, sAugSub, sAug, sCont, gName, gSub, gTup, gTup.go, aVar, aCst, aBin, aUn, aIf, aTup, aList, lCons, lNil, aCall, aMeth, aCmp, aSlice, tCmp, tCmp2, tAnd, tOr, tNot, tVal, tTrue, tFalse, upd_at, if_true, if_false, Bool.false_eq_true, decide_true, decide_false, decide_eq_true_eq, opItem, opAdd, opIAdd, opIAddX, opSub, opMul, opDiv, opMod, opNeg, cmpOp, cmpLt, cmpIn, cmpIs, eq_int, eq_str, eq_bool, occ_one, truth, kList, kStr, fLen, fRange, fList, fTuple, fChr, fSJoin, fAll, fAny, fCount, fSRstrip, fSum, fMin, joinL_nil, fAppend, fInsert, fPop, withOwn, withItems, setAt, nth_zero, nth_one, nth_two, nth_last, kOk, bindP, List.length_cons, List.length_nil, List.isEmpty_cons, List.isEmpty_nil, List.map_nil, List.map_cons, Nat.reduceAdd, Nat.reduceEqDiff, Nat.succ_ne_self, Int.reduceNeg, Int.reduceLE, Int.reduceLT, Int.reduceEq, Int.cast_ofNat_Int, Int.toNat_zero, Int.toNat_one, Int.reduceToNat, Int.le_refl, List.getElem?_cons_zero, List.getElem?_cons_succ, reduceIte, reduceCtorEq, true_and, and_true, and_self, not_true_eq_false, not_false_eq_true, Bool.not_true, Bool.not_false, Bool.not_eq_true, Bool.not_eq_false, ne_eq, decide_not]
  refine ⟨fun _ => True, onTx rd, fun H' k => k.at ht, trivial, by simp; omega, ?_, fun a H' ha hK h => hQ a H' ha hK (by rw [h, onTx_all, hy])⟩
  intro p hp ρ' H' _ _
  obtain ⟨x, hx, rfl⟩ := List.mem_map.mp hp
  (try simp only [sCons, sNil, sAssign, sRet, sRet0, sIf, sExpr, sFor, sAugSub, sAug, sCont, gName, gSub, gTup, gTup.go, aVar, aCst, aBin, aUn, aIf, aTup, aList, lCons, lNil, aCall, aMeth, aCmp, aSlice, tCmp, tCmp2, tAnd, tOr, tNot, tVal, tTrue, tFalse, upd_at, if_true, if_false, Bool.false_eq_true, decide_true, decide_false, decide_eq_true_eq, opItem, opAdd, opIAdd, opIAddX, opSub, opMul, opDiv, opMod, opNeg, cmpOp, cmpLt, cmpIn, cmpIs, eq_int, eq_str, eq_bool, occ_one, truth, kList, kStr, fLen, fRange, fList, fTuple, fChr, fSJoin, fAll, fAny, fCount, fSRstrip, fSum, fMin, joinL_nil, fAppend, fInsert, fPop, withOwn, withItems, setAt, nth_zero, nth_one, nth_two, nth_last, kOk, bindP, List.length_cons, List.length_nil, List.isEmpty_cons, List.isEmpty_nil, List.map_nil, List.map_cons, Nat.reduceAdd, Nat.reduceEqDiff, Nat.succ_ne_self, Int.reduceNeg, Int.reduceLE, Int.reduceLT, Int.reduceEq, Int.cast_ofNat_Int, Int.toNat_zero, Int.toNat_one, Int.reduceToNat, Int.le_refl, List.getElem?_cons_zero, List.getElem?_cons_succ, reduceIte, reduceCtorEq, true_and, and_true, and_self, not_true_eq_false, not_false_eq_true, Bool.not_true, Bool.not_false, Bool.not_eq_true, Bool.not_eq_false, ne_eq, decide_not])
  exact hrd x hx _ _ ⟨fun _ _ h => h, rfl⟩
theorem okF {l : List Fd} (h : Sz l 65) : ∀ f ∈ l, f.ok := fun f hf => let ⟨a, b, c, d, e, g⟩ := h f hf; ⟨a, b, c, by omega, by omega, by omega⟩
theorem flat_pr {l : Bk} (h : ∀ p ∈ l, flat 18 p.1 = true) : flats 19 (l.map pr) = true := flats_all fun p hp => by
  obtain ⟨q, hq, rfl⟩ := List.mem_map.mp hp
  simp [pr, flat, flats, h q hq]
theorem flat_out (f : Fd) : flat 18 (outOf f).1 = true := by unfold outOf; split <;> rfl
theorem flat_rd (f : Fd) : flat 18 (rdOf f).1 = true := by unfold rdOf; split <;> rfl
theorem flat_strs (V : Us) : flats 19 (V.map PV.str) = true := flats_all fun p hp => by obtain ⟨q, _, rfl⟩ := List.mem_map.mp hp; rfl
theorem through_spec {Q : PV → AH → Prop} {H : AH} {t : Nat} {o : Bool} {l : List Fd} (hl : l.length ≤ 12) (hok : ∀ f ∈ l, f.ok) (ht : H t = some ⟨(tx l).map .str, o⟩)
    (hQ : ∀ a H', H a = none → Keep H H' → H' a = some ⟨(l.map outOf).map pr, true⟩ → Q (.ref a) H') : f__law_through [.ref t] Q H := by
  have hxl : ∀ x ∈ tx l, x.length ≤ 50000 := fun x hx => by
    obtain ⟨f, hf, rfl⟩ := List.mem_map.mp hx
    have := (hok f hf).lens; omega
  have htl : (tx l).length = l.length := by simp [tx]
  refine fn rfl ?_
  walk_at "st"
  try simp only [ht, sNil, sAssign, sRet, sRet0, sIf, sExpr, sAugSub, sAug, sCont, gName, gSub, gTup, gTup.go, aVar, aCst, aBin, aUn, aIf, aTup, aList, lCons, lNil, aCall, aMeth, aCmp, aSlice, tCmp, tCmp2, tAnd, tOr, tNot, tVal, tTrue, tFalse, upd_at, if_true, if_false, Bool.false_eq_true, decide_true, decide_false, decide_eq_true_eq, opItem, opAdd, opIAdd, opIAddX, opSub, opMul, opDiv, opMod, opNeg, cmpOp, cmpLt, cmpIn, cmpIs, eq_int, eq_str, eq_bool, occ_one, truth, kList, kStr, fLen, fRange, fList, fTuple, fChr, fSJoin, fAll, fAny, fCount, fSRstrip, fSum, fMin, joinL_nil, fAppend, fInsert, fPop, withOwn, withItems, setAt, nth_zero, nth_one, nth_two, nth_last, kOk, bindP, List.length_cons, List.length_nil, List.isEmpty_cons, List.isEmpty_nil, List.map_nil, List.map_cons, Nat.reduceAdd, Nat.reduceEqDiff, Nat.succ_ne_self, Int.reduceNeg, Int.reduceLE, Int.reduceLT, Int.reduceEq, Int.cast_ofNat_Int, Int.toNat_zero, Int.toNat_one, Int.reduceToNat, Int.le_refl, List.getElem?_cons_zero, List.getElem?_cons_succ, reduceIte, reduceCtorEq, true_and, and_true, and_self, not_true_eq_false, not_false_eq_true, Bool.not_true, Bool.not_false, Bool.not_eq_true, Bool.not_eq_false, ne_eq, decide_not]
  refine ⟨by simp [szOk]; omega, fun b hb => after_next ?_⟩
  have K1 : Keep H (upd H b ⟨(tx l).map .str, true⟩) := Keep.new hb
  have E1 : (upd H b ⟨(tx l).map .str, true⟩) b = some ⟨(tx l).map .str, true⟩ := upd_same _ _ _
  generalize upd H b ⟨(tx l).map .str, true⟩ = H1 at K1 E1 ⊢
  walk_at "st"
  (try simp only [sCons, sNil, sAssign, sRet, sRet0, sIf, sExpr, sFor, sAugSub, sAug, sCont, gName, gSub, gTup, gTup.go, aVar, aCst, aBin, aUn, aIf, aTup, aList, lCons, lNil, aCall, aMeth, aCmp, aSlice, tCmp, tCmp2, tAnd, tOr, tNot, tVal, tTrue, tFalse, upd_at, if_true, if_false, Bool.false_eq_true, decide_true, decide_false, decide_eq_true_eq, opItem, opAdd, opIAdd, opIAddX, opSub, opMul, opDiv, opMod, opNeg, cmpOp, cmpLt, cmpIn, cmpIs, eq_int, eq_str, eq_bool, occ_one, truth, kList, kStr, fLen, fRange, fList, fTuple, fChr, fSJoin, fAll, fAny, fCount, fSRstrip, fSum, fMin, joinL_nil, fAppend, fInsert, fPop, withOwn, withItems, setAt, nth_zero, nth_one, nth_two, nth_last, kOk, bindP, List.length_cons, List.length_nil, List.isEmpty_cons, List.isEmpty_nil, List.map_nil, List.map_cons, Nat.reduceAdd, Nat.reduceEqDiff, Nat.succ_ne_self, Int.reduceNeg, Int.reduceLE, Int.reduceLT, Int.reduceEq, Int.cast_ofNat_Int, Int.toNat_zero, Int.toNat_one, Int.reduceToNat, Int.le_refl, List.getElem?_cons_zero, List.getElem?_cons_succ, reduceIte, reduceCtorEq, true_and, and_true, and_self, not_true_eq_false, not_false_eq_true, Bool.not_true, Bool.not_false, Bool.not_eq_true, Bool.not_eq_false, ne_eq, decide_not])
  refine pre_spec (by omega) hxl (K1.at ht) fun c H2 h2 K2 E2 => after_next ?_
  walk_at "st"
  (try simp only [sCons, sNil, sAssign, sRet, sRet0, sIf, sExpr, sFor, sAugSub, sAug, sCont, gName, gSub, gTup, gTup.go, aVar, aCst, aBin, aUn, aIf, aTup, aList, lCons, lNil, aCall, aMeth, aCmp, aSlice, tCmp, tCmp2, tAnd, tOr, tNot, tVal, tTrue, tFalse, upd_at, if_true, if_false, Bool.false_eq_true, decide_true, decide_false, decide_eq_true_eq, opItem, opAdd, opIAdd, opIAddX, opSub, opMul, opDiv, opMod, opNeg, cmpOp, cmpLt, cmpIn, cmpIs, eq_int, eq_str, eq_bool, occ_one, truth, kList, kStr, fLen, fRange, fList, fTuple, fChr, fSJoin, fAll, fAny, fCount, fSRstrip, fSum, fMin, joinL_nil, fAppend, fInsert, fPop, withOwn, withItems, setAt, nth_zero, nth_one, nth_two, nth_last, kOk, bindP, List.length_cons, List.length_nil, List.isEmpty_cons, List.isEmpty_nil, List.map_nil, List.map_cons, Nat.reduceAdd, Nat.reduceEqDiff, Nat.succ_ne_self, Int.reduceNeg, Int.reduceLE, Int.reduceLT, Int.reduceEq, Int.cast_ofNat_Int, Int.toNat_zero, Int.toNat_one, Int.reduceToNat, Int.le_refl, List.getElem?_cons_zero, List.getElem?_cons_succ, reduceIte, reduceCtorEq, true_and, and_true, and_self, not_true_eq_false, not_false_eq_true, Bool.not_true, Bool.not_false, Bool.not_eq_true, Bool.not_eq_false, ne_eq, decide_not])
  refine cmp_lists ((K1.trans K2).at ht) (K2.at E1) (flat_strs _) rfl ?_
  (try simp only [sCons, sNil, sAssign, sRet, sRet0, sIf, sExpr, sFor, sAugSub, sAug, sCont, gName, gSub, gTup, gTup.go, aVar, aCst, aBin, aUn, aIf, aTup, aList, lCons, lNil, aCall, aMeth, aCmp, aSlice, tCmp, tCmp2, tAnd, tOr, tNot, tVal, tTrue, tFalse, upd_at, if_true, if_false, Bool.false_eq_true, decide_true, decide_false, decide_eq_true_eq, opItem, opAdd, opIAdd, opIAddX, opSub, opMul, opDiv, opMod, opNeg, cmpOp, cmpLt, cmpIn, cmpIs, eq_int, eq_str, eq_bool, occ_one, truth, kList, kStr, fLen, fRange, fList, fTuple, fChr, fSJoin, fAll, fAny, fCount, fSRstrip, fSum, fMin, joinL_nil, fAppend, fInsert, fPop, withOwn, withItems, setAt, nth_zero, nth_one, nth_two, nth_last, kOk, bindP, List.length_cons, List.length_nil, List.isEmpty_cons, List.isEmpty_nil, List.map_nil, List.map_cons, Nat.reduceAdd, Nat.reduceEqDiff, Nat.succ_ne_self, Int.reduceNeg, Int.reduceLE, Int.reduceLT, Int.reduceEq, Int.cast_ofNat_Int, Int.toNat_zero, Int.toNat_one, Int.reduceToNat, Int.le_refl, List.getElem?_cons_zero, List.getElem?_cons_succ, reduceIte, reduceCtorEq, true_and, and_true, and_self, not_true_eq_false, not_false_eq_true, Bool.not_true, Bool.not_false, Bool.not_eq_true, Bool.not_eq_false, ne_eq, decide_not])
  refine after_next ?_
  walk_at "st"
  simp only [sAssign]
  refine reads_spec (v := 29) (xs := (tx l).map pre1) (ys := l.map rdOf) rfl (by simp; omega) E2 rdF ?_ ?_ fun p H3 h3 K3 E3 => ?_
  · unfold tx; rw [List.map_map, List.map_map]; exact List.map_congr_left fun f hf => rdF_pre (hok f hf)
  · intro x hx Q H hq
    obtain ⟨y, hy, rfl⟩ := List.mem_map.mp hx
    obtain ⟨f, hf, rfl⟩ := List.mem_map.mp hy
    exact read_pre (hok f hf) hq
  simp only [gName]
  refine after_next ?_
  have eOut : (l.map rdOf).map okP = l.map outOf := by rw [List.map_map]; exact List.map_congr_left fun f _ => okP_rd f
  walk_at "st"
  try simp only [E3, sNil, sAssign, sRet, sRet0, sIf, sExpr, sAugSub, sAug, sCont, gName, gSub, gTup, gTup.go, aVar, aCst, aBin, aUn, aIf, aTup, aList, lCons, lNil, aCall, aMeth, aCmp, aSlice, tCmp, tCmp2, tAnd, tOr, tNot, tVal, tTrue, tFalse, upd_at, if_true, if_false, Bool.false_eq_true, decide_true, decide_false, decide_eq_true_eq, opItem, opAdd, opIAdd, opIAddX, opSub, opMul, opDiv, opMod, opNeg, cmpOp, cmpLt, cmpIn, cmpIs, eq_int, eq_str, eq_bool, occ_one, truth, kList, kStr, fLen, fRange, fList, fTuple, fChr, fSJoin, fAll, fAny, fCount, fSRstrip, fSum, fMin, joinL_nil, fAppend, fInsert, fPop, withOwn, withItems, setAt, nth_zero, nth_one, nth_two, nth_last, kOk, bindP, List.length_cons, List.length_nil, List.isEmpty_cons, List.isEmpty_nil, List.map_nil, List.map_cons, Nat.reduceAdd, Nat.reduceEqDiff, Nat.succ_ne_self, Int.reduceNeg, Int.reduceLE, Int.reduceLT, Int.reduceEq, Int.cast_ofNat_Int, Int.toNat_zero, Int.toNat_one, Int.reduceToNat, Int.le_refl, List.getElem?_cons_zero, List.getElem?_cons_succ, reduceIte, reduceCtorEq, true_and, and_true, and_self, not_true_eq_false, not_false_eq_true, Bool.not_true, Bool.not_false, Bool.not_eq_true, Bool.not_eq_false, ne_eq, decide_not]
  refine ⟨by simp [szOk]; omega, fun g hg => after_next ?_⟩
  have K4 : Keep H3 (upd H3 g ⟨(l.map rdOf).map pr, true⟩) := Keep.new hg
  have E4 : (upd H3 g ⟨(l.map rdOf).map pr, true⟩) g = some ⟨(l.map rdOf).map pr, true⟩ := upd_same _ _ _
  generalize upd H3 g ⟨(l.map rdOf).map pr, true⟩ = H4 at K4 E4 ⊢
  walk_at "st"
  (try simp only [sCons, sNil, sAssign, sRet, sRet0, sIf, sExpr, sFor, sAugSub, sAug, sCont, gName, gSub, gTup, gTup.go, aVar, aCst, aBin, aUn, aIf, aTup, aList, lCons, lNil, aCall, aMeth, aCmp, aSlice, tCmp, tCmp2, tAnd, tOr, tNot, tVal, tTrue, tFalse, upd_at, if_true, if_false, Bool.false_eq_true, decide_true, decide_false, decide_eq_true_eq, opItem, opAdd, opIAdd, opIAddX, opSub, opMul, opDiv, opMod, opNeg, cmpOp, cmpLt, cmpIn, cmpIs, eq_int, eq_str, eq_bool, occ_one, truth, kList, kStr, fLen, fRange, fList, fTuple, fChr, fSJoin, fAll, fAny, fCount, fSRstrip, fSum, fMin, joinL_nil, fAppend, fInsert, fPop, withOwn, withItems, setAt, nth_zero, nth_one, nth_two, nth_last, kOk, bindP, List.length_cons, List.length_nil, List.isEmpty_cons, List.isEmpty_nil, List.map_nil, List.map_cons, Nat.reduceAdd, Nat.reduceEqDiff, Nat.succ_ne_self, Int.reduceNeg, Int.reduceLE, Int.reduceLT, Int.reduceEq, Int.cast_ofNat_Int, Int.toNat_zero, Int.toNat_one, Int.reduceToNat, Int.le_refl, List.getElem?_cons_zero, List.getElem?_cons_succ, reduceIte, reduceCtorEq, true_and, and_true, and_self, not_true_eq_false, not_false_eq_true, Bool.not_true, Bool.not_false, Bool.not_eq_true, Bool.not_eq_false, ne_eq, decide_not])
  refine ppv_spec (l := l.map rdOf) (o := true) (by simp; omega) (K4.at E3) fun a H5 h5 K5 E5 => after_next ?_
  rw [eOut] at E5
  walk_at "st"
  (try simp only [sCons, sNil, sAssign, sRet, sRet0, sIf, sExpr, sFor, sAugSub, sAug, sCont, gName, gSub, gTup, gTup.go, aVar, aCst, aBin, aUn, aIf, aTup, aList, lCons, lNil, aCall, aMeth, aCmp, aSlice, tCmp, tCmp2, tAnd, tOr, tNot, tVal, tTrue, tFalse, upd_at, if_true, if_false, Bool.false_eq_true, decide_true, decide_false, decide_eq_true_eq, opItem, opAdd, opIAdd, opIAddX, opSub, opMul, opDiv, opMod, opNeg, cmpOp, cmpLt, cmpIn, cmpIs, eq_int, eq_str, eq_bool, occ_one, truth, kList, kStr, fLen, fRange, fList, fTuple, fChr, fSJoin, fAll, fAny, fCount, fSRstrip, fSum, fMin, joinL_nil, fAppend, fInsert, fPop, withOwn, withItems, setAt, nth_zero, nth_one, nth_two, nth_last, kOk, bindP, List.length_cons, List.length_nil, List.isEmpty_cons, List.isEmpty_nil, List.map_nil, List.map_cons, Nat.reduceAdd, Nat.reduceEqDiff, Nat.succ_ne_self, Int.reduceNeg, Int.reduceLE, Int.reduceLT, Int.reduceEq, Int.cast_ofNat_Int, Int.toNat_zero, Int.toNat_one, Int.reduceToNat, Int.le_refl, List.getElem?_cons_zero, List.getElem?_cons_succ, reduceIte, reduceCtorEq, true_and, and_true, and_self, not_true_eq_false, not_false_eq_true, Bool.not_true, Bool.not_false, Bool.not_eq_true, Bool.not_eq_false, ne_eq, decide_not])
  refine cmp_lists ((K4.trans K5).at E3) (K5.at E4) (flat_pr fun q hq => by obtain ⟨f, _, rfl⟩ := List.mem_map.mp hq; exact flat_rd f) rfl ?_
  (try simp only [sCons, sNil, sAssign, sRet, sRet0, sIf, sExpr, sFor, sAugSub, sAug, sCont, gName, gSub, gTup, gTup.go, aVar, aCst, aBin, aUn, aIf, aTup, aList, lCons, lNil, aCall, aMeth, aCmp, aSlice, tCmp, tCmp2, tAnd, tOr, tNot, tVal, tTrue, tFalse, upd_at, if_true, if_false, Bool.false_eq_true, decide_true, decide_false, decide_eq_true_eq, opItem, opAdd, opIAdd, opIAddX, opSub, opMul, opDiv, opMod, opNeg, cmpOp, cmpLt, cmpIn, cmpIs, eq_int, eq_str, eq_bool, occ_one, truth, kList, kStr, fLen, fRange, fList, fTuple, fChr, fSJoin, fAll, fAny, fCount, fSRstrip, fSum, fMin, joinL_nil, fAppend, fInsert, fPop, withOwn, withItems, setAt, nth_zero, nth_one, nth_two, nth_last, kOk, bindP, List.length_cons, List.length_nil, List.isEmpty_cons, List.isEmpty_nil, List.map_nil, List.map_cons, Nat.reduceAdd, Nat.reduceEqDiff, Nat.succ_ne_self, Int.reduceNeg, Int.reduceLE, Int.reduceLT, Int.reduceEq, Int.cast_ofNat_Int, Int.toNat_zero, Int.toNat_one, Int.reduceToNat, Int.le_refl, List.getElem?_cons_zero, List.getElem?_cons_succ, reduceIte, reduceCtorEq, true_and, and_true, and_self, not_true_eq_false, not_false_eq_true, Bool.not_true, Bool.not_false, Bool.not_eq_true, Bool.not_eq_false, ne_eq, decide_not])
  refine after_next ?_
  walk_at "st"
  (try simp only [sCons, sNil, sAssign, sRet, sRet0, sIf, sExpr, sFor, sAugSub, sAug, sCont, gName, gSub, gTup, gTup.go, aVar, aCst, aBin, aUn, aIf, aTup, aList, lCons, lNil, aCall, aMeth, aCmp, aSlice, tCmp, tCmp2, tAnd, tOr, tNot, tVal, tTrue, tFalse, upd_at, if_true, if_false, Bool.false_eq_true, decide_true, decide_false, decide_eq_true_eq, opItem, opAdd, opIAdd, opIAddX, opSub, opMul, opDiv, opMod, opNeg, cmpOp, cmpLt, cmpIn, cmpIs, eq_int, eq_str, eq_bool, occ_one, truth, kList, kStr, fLen, fRange, fList, fTuple, fChr, fSJoin, fAll, fAny, fCount, fSRstrip, fSum, fMin, joinL_nil, fAppend, fInsert, fPop, withOwn, withItems, setAt, nth_zero, nth_one, nth_two, nth_last, kOk, bindP, List.length_cons, List.length_nil, List.isEmpty_cons, List.isEmpty_nil, List.map_nil, List.map_cons, Nat.reduceAdd, Nat.reduceEqDiff, Nat.succ_ne_self, Int.reduceNeg, Int.reduceLE, Int.reduceLT, Int.reduceEq, Int.cast_ofNat_Int, Int.toNat_zero, Int.toNat_one, Int.reduceToNat, Int.le_refl, List.getElem?_cons_zero, List.getElem?_cons_succ, reduceIte, reduceCtorEq, true_and, and_true, and_self, not_true_eq_false, not_false_eq_true, Bool.not_true, Bool.not_false, Bool.not_eq_true, Bool.not_eq_false, ne_eq, decide_not])
  have K := K1.trans (K2.trans (K3.trans (K4.trans K5)))
  exact after_ret (end_ret (hQ a H5 ((K1.trans (K2.trans (K3.trans K4))).none h5) K E5))
theorem FL.inj {H : AH} {F : Nat} {l : List Fd} (L : FL H F l) : ∀ f ∈ l, ∀ g ∈ l, f.pv = g.pv → f = g := by
  intro f hf g hg e
  simp only [Fd.pv, PV.tup.injEq, List.cons.injEq, PV.ref.injEq, and_true] at e
  obtain ⟨e1, e2, e3⟩ := e
  have of := L.own f hf
  have og := L.own g hg
  have strInj : ∀ {V W : Us}, V.map PV.str = W.map PV.str → V = W := fun {V W} h => by
    have h1 := strsOf_map V
    rw [h, strsOf_map W] at h1
    injection h1 with h1; exact h1.symm
  have a1 := of.ha; rw [e1, og.ha] at a1
  have a2 := of.hb; rw [e2, og.hb] at a2
  have a3 := of.hc; rw [e3, og.hc] at a3
  simp only [Option.some.injEq, LO.mk.injEq, and_true] at a1 a2 a3
  cases f; cases g
  simp only at e1 e2 e3 a1 a2 a3
  subst e1 e2 e3
  rw [strInj a1, strInj a2, strInj a3]
noncomputable def selF (l : List Fd) (v : Fd → PV) (p : PV) : Option PV := @dite _ (∃ f, f ∈ l ∧ f.pv = p) (Classical.propDecidable _) (fun h => some (v h.choose)) fun _ => none
theorem selF_at {l : List Fd} {v : Fd → PV} (inj : ∀ f ∈ l, ∀ g ∈ l, f.pv = g.pv → f = g) {f : Fd} (hf : f ∈ l) : selF l v f.pv = some (v f) := by
  unfold selF
  have h : ∃ g, g ∈ l ∧ g.pv = f.pv := ⟨f, hf, rfl⟩
  rw [dif_pos h]
  have := h.choose_spec
  rw [inj _ this.1 f hf this.2]
theorem selF_all {l : List Fd} {v : Fd → PV} (inj : ∀ f ∈ l, ∀ g ∈ l, f.pv = g.pv → f = g) : ∀ m : List Fd, (∀ f ∈ m, f ∈ l) → (m.map Fd.pv).filterMap (selF l v) = m.map v
  | [], _ => rfl
  | f :: m, h => by
    simp only [List.map_cons, List.filterMap_cons]
    rw [selF_at inj (h f (.head _)), selF_all inj m fun g hg => h g (.tail _ hg)]
theorem comp_fields {Q : PV → AH → Prop} {H : AH} {ρ : AEnv} {F : Nat} {l : List Fd} {e : AE} (me : MonoE e) (v : Fd → PV) (hz : l.length ≤ 12) (r : ρ 15 = some (.ref F)) (L : FL H F l)
    (hel : ∀ f ∈ l, ∀ (ρ' : AEnv) (H' : AH) (Q : PV → AH → Prop), ρ' 17 = some f.pv → Keep H H' → (∀ H'', Keep H' H'' → Q (v f) H'') → e Q ρ' H')
    (hQ : ∀ a H', H a = none → Keep H H' → H' a = some ⟨l.map v, true⟩ → Q (.ref a) H') : aComp [] (gName 17) (aVar 15) (tTrue) e Q ρ H := by
  refine aComp_run mg_name mt_true me m_var ?_
  try simp only [r, L.hF, sNil, sAssign, sRet, sRet0, sIf, sExpr, sAugSub, sAug, sCont, gName, gSub, gTup, gTup.go, aVar, aCst, aBin, aUn, aIf, aTup, aList, lCons, lNil, aCall, aMeth, aCmp, aSlice, tCmp, tCmp2, tAnd, tOr, tNot, tVal, tTrue, tFalse, upd_at, if_true, if_false, Bool.false_eq_true, decide_true, decide_false, decide_eq_true_eq, opItem, opAdd, opIAdd, opIAddX, opSub, opMul, opDiv, opMod, opNeg, cmpOp, cmpLt, cmpIn, cmpIs, eq_int, eq_str, eq_bool, occ_one, truth, kList, kStr, fLen, fRange, fList, fTuple, fChr, fSJoin, fAll, fAny, fCount, fSRstrip, fSum, fMin, joinL_nil, fAppend, fInsert, fPop, withOwn, withItems, setAt, nth_zero, nth_one, nth_two, nth_last, kOk, bindP, List.length_cons, List.length_nil, List.isEmpty_cons, List.isEmpty_nil, List.map_nil, List.map_cons, Nat.reduceAdd, Nat.reduceEqDiff, Nat.succ_ne_self, Int.reduceNeg, Int.reduceLE, Int.reduceLT, Int.reduceEq, Int.cast_ofNat_Int, Int.toNat_zero, Int.toNat_one, Int.reduceToNat, Int.le_refl, List.getElem?_cons_zero, List.getElem?_cons_succ, reduceIte, reduceCtorEq, true_and, and_true, and_self, not_true_eq_false, not_false_eq_true, Bool.not_true, Bool.not_false, Bool.not_eq_true, Bool.not_eq_false, ne_eq, decide_not]
  refine ⟨fun _ => True, selF l v, fun H' k => k.at L.hF, trivial, by simp; omega, ?_, fun a H' ha hK h => hQ a H' ha hK (by rw [h, selF_all L.inj l fun _ h => h])⟩
  intro p hp ρ' H' _ hK
  obtain ⟨f, hf, rfl⟩ := List.mem_map.mp hp
  simp only [gName, tTrue, if_true]
  exact hel f hf _ H' _ (upd_same _ _ _) hK fun H'' k => ⟨trivial, fun b x h => k.at h, selF_at L.inj hf⟩
theorem FL.at' {H : AH} {F : Nat} {l : List Fd} (L : FL H F l) {f : Fd} (hf : f ∈ l) : f.at H := let o := L.own f hf; ⟨⟨_, o.ha⟩, ⟨_, o.hb⟩, ⟨_, o.hc⟩⟩
theorem FL.keep' {H H' : AH} {F : Nat} {l : List Fd} (L : FL H F l) (k : Keep H H') : FL H' F l := ⟨L.toFX.keepK k, k.at L.hF, L.nF⟩
def zipV (f : Fd) : List Nat := if f.clos then f.text else ppw
theorem law_spec {ns : List Int} {s : Nat} {H : AH} (hn : ns.length ≤ 63) (hs : H s = some ⟨ns.map .int, false⟩) : f_law [.ref s] (fun p _ => p = .bool true) H := by
  refine fn rfl ?_
  walk_at "st"
  (try simp only [sCons, sNil, sAssign, sRet, sRet0, sIf, sExpr, sFor, sAugSub, sAug, sCont, gName, gSub, gTup, gTup.go, aVar, aCst, aBin, aUn, aIf, aTup, aList, lCons, lNil, aCall, aMeth, aCmp, aSlice, tCmp, tCmp2, tAnd, tOr, tNot, tVal, tTrue, tFalse, upd_at, if_true, if_false, Bool.false_eq_true, decide_true, decide_false, decide_eq_true_eq, opItem, opAdd, opIAdd, opIAddX, opSub, opMul, opDiv, opMod, opNeg, cmpOp, cmpLt, cmpIn, cmpIs, eq_int, eq_str, eq_bool, occ_one, truth, kList, kStr, fLen, fRange, fList, fTuple, fChr, fSJoin, fAll, fAny, fCount, fSRstrip, fSum, fMin, joinL_nil, fAppend, fInsert, fPop, withOwn, withItems, setAt, nth_zero, nth_one, nth_two, nth_last, kOk, bindP, List.length_cons, List.length_nil, List.isEmpty_cons, List.isEmpty_nil, List.map_nil, List.map_cons, Nat.reduceAdd, Nat.reduceEqDiff, Nat.succ_ne_self, Int.reduceNeg, Int.reduceLE, Int.reduceLT, Int.reduceEq, Int.cast_ofNat_Int, Int.toNat_zero, Int.toNat_one, Int.reduceToNat, Int.le_refl, List.getElem?_cons_zero, List.getElem?_cons_succ, reduceIte, reduceCtorEq, true_and, and_true, and_self, not_true_eq_false, not_false_eq_true, Bool.not_true, Bool.not_false, Bool.not_eq_true, Bool.not_eq_false, ne_eq, decide_not])
  refine fields_spec hn hs fun F H1 l L1 Sz1 hne hl hs1 => after_next ?_
  have hok := okF Sz1
  have htl : (tx l).length = l.length := by simp [tx]
  walk_at "st"
  simp only [sAssign]
  refine comp_fields (m_call m_f__law_text (ml_cons m_var ml_nil)) (fun f => .str f.text) hl rfl L1 (fun f hf ρ' H' Q r k hq => ?_) fun t H2 h2 K2 E2 => ?_
  · try simp only [r, sNil, sAssign, sRet, sRet0, sIf, sExpr, sAugSub, sAug, sCont, gName, gSub, gTup, gTup.go, aVar, aCst, aBin, aUn, aIf, aTup, aList, lCons, lNil, aCall, aMeth, aCmp, aSlice, tCmp, tCmp2, tAnd, tOr, tNot, tVal, tTrue, tFalse, upd_at, if_true, if_false, Bool.false_eq_true, decide_true, decide_false, decide_eq_true_eq, opItem, opAdd, opIAdd, opIAddX, opSub, opMul, opDiv, opMod, opNeg, cmpOp, cmpLt, cmpIn, cmpIs, eq_int, eq_str, eq_bool, occ_one, truth, kList, kStr, fLen, fRange, fList, fTuple, fChr, fSJoin, fAll, fAny, fCount, fSRstrip, fSum, fMin, joinL_nil, fAppend, fInsert, fPop, withOwn, withItems, setAt, nth_zero, nth_one, nth_two, nth_last, kOk, bindP, List.length_cons, List.length_nil, List.isEmpty_cons, List.isEmpty_nil, List.map_nil, List.map_cons, Nat.reduceAdd, Nat.reduceEqDiff, Nat.succ_ne_self, Int.reduceNeg, Int.reduceLE, Int.reduceLT, Int.reduceEq, Int.cast_ofNat_Int, Int.toNat_zero, Int.toNat_one, Int.reduceToNat, Int.le_refl, List.getElem?_cons_zero, List.getElem?_cons_succ, reduceIte, reduceCtorEq, true_and, and_true, and_self, not_true_eq_false, not_false_eq_true, Bool.not_true, Bool.not_false, Bool.not_eq_true, Bool.not_eq_false, ne_eq, decide_not]
    exact text_spec (hok f hf) ((L1.at' hf).keep k) (hq _ Keep.refl)
  have E2' : H2 t = some ⟨(tx l).map .str, true⟩ := by rw [E2]; simp [tx]
  simp only [gName]
  refine after_next ?_
  have L2 := L1.keep' K2
  walk_at "st"
  simp only [sAssign]
  refine comp_fields (m_if (mt_and (mt_val (m_call m_f__law_closed (ml_cons m_var ml_nil))) (mt_and (mt_val (m_call m_f__law_bare (ml_cons m_var ml_nil))) mt_true)) (m_call m_f__law_pair (ml_cons m_var ml_nil)) (m_tup (ml_cons m_cst (ml_cons m_cst ml_nil)))) (fun f => pr (outOf f)) hl (by simp [upd_at]) L2 (fun f hf ρ' H' Q r k hq => ?_) fun w H3 h3 K3 E3 => ?_
  · have hat := (L2.at' hf).keep k
    simp only [aIf, tAnd, tVal, aCall, lCons, lNil, aVar, r]
    refine closed_spec (hok f hf) hat fun H4 k4 => ?_
    have hq' := hq
    unfold outOf at hq'
    cases hc : f.clos with
    | false =>
      (try simp only [sCons, sNil, sAssign, sRet, sRet0, sIf, sExpr, sFor, sAugSub, sAug, sCont, gName, gSub, gTup, gTup.go, aVar, aCst, aBin, aUn, aIf, aTup, aList, lCons, lNil, aCall, aMeth, aCmp, aSlice, tCmp, tCmp2, tAnd, tOr, tNot, tVal, tTrue, tFalse, upd_at, if_true, if_false, Bool.false_eq_true, decide_true, decide_false, decide_eq_true_eq, opItem, opAdd, opIAdd, opIAddX, opSub, opMul, opDiv, opMod, opNeg, cmpOp, cmpLt, cmpIn, cmpIs, eq_int, eq_str, eq_bool, occ_one, truth, kList, kStr, fLen, fRange, fList, fTuple, fChr, fSJoin, fAll, fAny, fCount, fSRstrip, fSum, fMin, joinL_nil, fAppend, fInsert, fPop, withOwn, withItems, setAt, nth_zero, nth_one, nth_two, nth_last, kOk, bindP, List.length_cons, List.length_nil, List.isEmpty_cons, List.isEmpty_nil, List.map_nil, List.map_cons, Nat.reduceAdd, Nat.reduceEqDiff, Nat.succ_ne_self, Int.reduceNeg, Int.reduceLE, Int.reduceLT, Int.reduceEq, Int.cast_ofNat_Int, Int.toNat_zero, Int.toNat_one, Int.reduceToNat, Int.le_refl, List.getElem?_cons_zero, List.getElem?_cons_succ, reduceIte, reduceCtorEq, true_and, and_true, and_self, not_true_eq_false, not_false_eq_true, Bool.not_true, Bool.not_false, Bool.not_eq_true, Bool.not_eq_false, ne_eq, decide_not])
      rw [hc] at hq'
      exact ⟨by simp [szOk], hq' _ k4⟩
    | true =>
      (try simp only [sCons, sNil, sAssign, sRet, sRet0, sIf, sExpr, sFor, sAugSub, sAug, sCont, gName, gSub, gTup, gTup.go, aVar, aCst, aBin, aUn, aIf, aTup, aList, lCons, lNil, aCall, aMeth, aCmp, aSlice, tCmp, tCmp2, tAnd, tOr, tNot, tVal, tTrue, tFalse, upd_at, if_true, if_false, Bool.false_eq_true, decide_true, decide_false, decide_eq_true_eq, opItem, opAdd, opIAdd, opIAddX, opSub, opMul, opDiv, opMod, opNeg, cmpOp, cmpLt, cmpIn, cmpIs, eq_int, eq_str, eq_bool, occ_one, truth, kList, kStr, fLen, fRange, fList, fTuple, fChr, fSJoin, fAll, fAny, fCount, fSRstrip, fSum, fMin, joinL_nil, fAppend, fInsert, fPop, withOwn, withItems, setAt, nth_zero, nth_one, nth_two, nth_last, kOk, bindP, List.length_cons, List.length_nil, List.isEmpty_cons, List.isEmpty_nil, List.map_nil, List.map_cons, Nat.reduceAdd, Nat.reduceEqDiff, Nat.succ_ne_self, Int.reduceNeg, Int.reduceLE, Int.reduceLT, Int.reduceEq, Int.cast_ofNat_Int, Int.toNat_zero, Int.toNat_one, Int.reduceToNat, Int.le_refl, List.getElem?_cons_zero, List.getElem?_cons_succ, reduceIte, reduceCtorEq, true_and, and_true, and_self, not_true_eq_false, not_false_eq_true, Bool.not_true, Bool.not_false, Bool.not_eq_true, Bool.not_eq_false, ne_eq, decide_not])
      refine bare_spec (hok f hf) (hat.keep k4) fun H5 k5 => ?_
      cases hb : f.bare with
      | false =>
        (try simp only [sCons, sNil, sAssign, sRet, sRet0, sIf, sExpr, sFor, sAugSub, sAug, sCont, gName, gSub, gTup, gTup.go, aVar, aCst, aBin, aUn, aIf, aTup, aList, lCons, lNil, aCall, aMeth, aCmp, aSlice, tCmp, tCmp2, tAnd, tOr, tNot, tVal, tTrue, tFalse, upd_at, if_true, if_false, Bool.false_eq_true, decide_true, decide_false, decide_eq_true_eq, opItem, opAdd, opIAdd, opIAddX, opSub, opMul, opDiv, opMod, opNeg, cmpOp, cmpLt, cmpIn, cmpIs, eq_int, eq_str, eq_bool, occ_one, truth, kList, kStr, fLen, fRange, fList, fTuple, fChr, fSJoin, fAll, fAny, fCount, fSRstrip, fSum, fMin, joinL_nil, fAppend, fInsert, fPop, withOwn, withItems, setAt, nth_zero, nth_one, nth_two, nth_last, kOk, bindP, List.length_cons, List.length_nil, List.isEmpty_cons, List.isEmpty_nil, List.map_nil, List.map_cons, Nat.reduceAdd, Nat.reduceEqDiff, Nat.succ_ne_self, Int.reduceNeg, Int.reduceLE, Int.reduceLT, Int.reduceEq, Int.cast_ofNat_Int, Int.toNat_zero, Int.toNat_one, Int.reduceToNat, Int.le_refl, List.getElem?_cons_zero, List.getElem?_cons_succ, reduceIte, reduceCtorEq, true_and, and_true, and_self, not_true_eq_false, not_false_eq_true, Bool.not_true, Bool.not_false, Bool.not_eq_true, Bool.not_eq_false, ne_eq, decide_not])
        rw [hc, hb] at hq'
        exact ⟨by simp [szOk], hq' _ (k4.trans k5)⟩
      | true =>
        (try simp only [sCons, sNil, sAssign, sRet, sRet0, sIf, sExpr, sFor, sAugSub, sAug, sCont, gName, gSub, gTup, gTup.go, aVar, aCst, aBin, aUn, aIf, aTup, aList, lCons, lNil, aCall, aMeth, aCmp, aSlice, tCmp, tCmp2, tAnd, tOr, tNot, tVal, tTrue, tFalse, upd_at, if_true, if_false, Bool.false_eq_true, decide_true, decide_false, decide_eq_true_eq, opItem, opAdd, opIAdd, opIAddX, opSub, opMul, opDiv, opMod, opNeg, cmpOp, cmpLt, cmpIn, cmpIs, eq_int, eq_str, eq_bool, occ_one, truth, kList, kStr, fLen, fRange, fList, fTuple, fChr, fSJoin, fAll, fAny, fCount, fSRstrip, fSum, fMin, joinL_nil, fAppend, fInsert, fPop, withOwn, withItems, setAt, nth_zero, nth_one, nth_two, nth_last, kOk, bindP, List.length_cons, List.length_nil, List.isEmpty_cons, List.isEmpty_nil, List.map_nil, List.map_cons, Nat.reduceAdd, Nat.reduceEqDiff, Nat.succ_ne_self, Int.reduceNeg, Int.reduceLE, Int.reduceLT, Int.reduceEq, Int.cast_ofNat_Int, Int.toNat_zero, Int.toNat_one, Int.reduceToNat, Int.le_refl, List.getElem?_cons_zero, List.getElem?_cons_succ, reduceIte, reduceCtorEq, true_and, and_true, and_self, not_true_eq_false, not_false_eq_true, Bool.not_true, Bool.not_false, Bool.not_eq_true, Bool.not_eq_false, ne_eq, decide_not])
        rw [hc, hb] at hq'
        exact pair_spec (hok f hf) (hat.keep (k4.trans k5)) (hq' _ (k4.trans k5))
  have E3' : H3 w = some ⟨(l.map outOf).map pr, true⟩ := by rw [E3]; simp
  have fo : ∀ m : List Fd, flats 19 ((m.map outOf).map pr) = true := fun m => flat_pr fun q hq => by obtain ⟨f, _, rfl⟩ := List.mem_map.mp hq; exact flat_out f
  simp only [gName]
  refine after_next ?_
  walk_at "st"
  (try simp only [sCons, sNil, sAssign, sRet, sRet0, sIf, sExpr, sFor, sAugSub, sAug, sCont, gName, gSub, gTup, gTup.go, aVar, aCst, aBin, aUn, aIf, aTup, aList, lCons, lNil, aCall, aMeth, aCmp, aSlice, tCmp, tCmp2, tAnd, tOr, tNot, tVal, tTrue, tFalse, upd_at, if_true, if_false, Bool.false_eq_true, decide_true, decide_false, decide_eq_true_eq, opItem, opAdd, opIAdd, opIAddX, opSub, opMul, opDiv, opMod, opNeg, cmpOp, cmpLt, cmpIn, cmpIs, eq_int, eq_str, eq_bool, occ_one, truth, kList, kStr, fLen, fRange, fList, fTuple, fChr, fSJoin, fAll, fAny, fCount, fSRstrip, fSum, fMin, joinL_nil, fAppend, fInsert, fPop, withOwn, withItems, setAt, nth_zero, nth_one, nth_two, nth_last, kOk, bindP, List.length_cons, List.length_nil, List.isEmpty_cons, List.isEmpty_nil, List.map_nil, List.map_cons, Nat.reduceAdd, Nat.reduceEqDiff, Nat.succ_ne_self, Int.reduceNeg, Int.reduceLE, Int.reduceLT, Int.reduceEq, Int.cast_ofNat_Int, Int.toNat_zero, Int.toNat_one, Int.reduceToNat, Int.le_refl, List.getElem?_cons_zero, List.getElem?_cons_succ, reduceIte, reduceCtorEq, true_and, and_true, and_self, not_true_eq_false, not_false_eq_true, Bool.not_true, Bool.not_false, Bool.not_eq_true, Bool.not_eq_false, ne_eq, decide_not])
  refine through_spec (l := l) hl hok (K3.at E2') fun a4 H4 h4 K4 E4 => ?_
  refine cmp_lists E4 (K4.at E3') (fo l) rfl ?_
  (try simp only [sCons, sNil, sAssign, sRet, sRet0, sIf, sExpr, sFor, sAugSub, sAug, sCont, gName, gSub, gTup, gTup.go, aVar, aCst, aBin, aUn, aIf, aTup, aList, lCons, lNil, aCall, aMeth, aCmp, aSlice, tCmp, tCmp2, tAnd, tOr, tNot, tVal, tTrue, tFalse, upd_at, if_true, if_false, Bool.false_eq_true, decide_true, decide_false, decide_eq_true_eq, opItem, opAdd, opIAdd, opIAddX, opSub, opMul, opDiv, opMod, opNeg, cmpOp, cmpLt, cmpIn, cmpIs, eq_int, eq_str, eq_bool, occ_one, truth, kList, kStr, fLen, fRange, fList, fTuple, fChr, fSJoin, fAll, fAny, fCount, fSRstrip, fSum, fMin, joinL_nil, fAppend, fInsert, fPop, withOwn, withItems, setAt, nth_zero, nth_one, nth_two, nth_last, kOk, bindP, List.length_cons, List.length_nil, List.isEmpty_cons, List.isEmpty_nil, List.map_nil, List.map_cons, Nat.reduceAdd, Nat.reduceEqDiff, Nat.succ_ne_self, Int.reduceNeg, Int.reduceLE, Int.reduceLT, Int.reduceEq, Int.cast_ofNat_Int, Int.toNat_zero, Int.toNat_one, Int.reduceToNat, Int.le_refl, List.getElem?_cons_zero, List.getElem?_cons_succ, reduceIte, reduceCtorEq, true_and, and_true, and_self, not_true_eq_false, not_false_eq_true, Bool.not_true, Bool.not_false, Bool.not_eq_true, Bool.not_eq_false, ne_eq, decide_not])
  refine after_next ?_
  have hs4 := (K2.trans (K3.trans K4)).at hs1
  have E2_4 := (K3.trans K4).at E2'
  have hmod : (0 : Int) < (l.length : Int) + 1 := by omega
  walk_at "st"
  try simp only [hs4, E2_4, intsOf_map, List.length_map, htl, sNil, sAssign, sRet, sRet0, sIf, sExpr, sAugSub, sAug, sCont, gName, gSub, gTup, gTup.go, aVar, aCst, aBin, aUn, aIf, aTup, aList, lCons, lNil, aCall, aMeth, aCmp, aSlice, tCmp, tCmp2, tAnd, tOr, tNot, tVal, tTrue, tFalse, upd_at, if_true, if_false, Bool.false_eq_true, decide_true, decide_false, decide_eq_true_eq, opItem, opAdd, opIAdd, opIAddX, opSub, opMul, opDiv, opMod, opNeg, cmpOp, cmpLt, cmpIn, cmpIs, eq_int, eq_str, eq_bool, occ_one, truth, kList, kStr, fLen, fRange, fList, fTuple, fChr, fSJoin, fAll, fAny, fCount, fSRstrip, fSum, fMin, joinL_nil, fAppend, fInsert, fPop, withOwn, withItems, setAt, nth_zero, nth_one, nth_two, nth_last, kOk, bindP, List.length_cons, List.length_nil, List.isEmpty_cons, List.isEmpty_nil, List.map_nil, List.map_cons, Nat.reduceAdd, Nat.reduceEqDiff, Nat.succ_ne_self, Int.reduceNeg, Int.reduceLE, Int.reduceLT, Int.reduceEq, Int.cast_ofNat_Int, Int.toNat_zero, Int.toNat_one, Int.reduceToNat, Int.le_refl, List.getElem?_cons_zero, List.getElem?_cons_succ, reduceIte, reduceCtorEq, true_and, and_true, and_self, not_true_eq_false, not_false_eq_true, Bool.not_true, Bool.not_false, Bool.not_eq_true, Bool.not_eq_false, ne_eq, decide_not]
  refine ⟨by simp only [szOk]; omega, hmod, after_next ?_⟩
  have c0 := Int.emod_nonneg ns.sum (b := (l.length : Int) + 1) (by omega)
  have c1 := Int.emod_lt_of_pos ns.sum (b := (l.length : Int) + 1) hmod
  generalize hc : ns.sum % ((l.length : Int) + 1) = cu at c0 c1
  obtain ⟨k, rfl⟩ : ∃ k : Nat, cu = (k : Int) := ⟨cu.toNat, by omega⟩
  have esl1 : slcG ((tx l).map PV.str) none (some ((k : Nat) : Int)) none = (tx (l.take k)).map .str := by rw [slcG_plain, slc_to]; simp [tx]
  have esl2 : slcG ((tx l).map PV.str) (some ((k : Nat) : Int)) none none = (tx (l.drop k)).map .str := by rw [slcG_plain, slc_from]; simp [tx]
  have hsz : szOk ((tx l).map PV.str).length := by simp [szOk, htl]; omega
  walk_at "st"
  try simp only [E2_4, opSlice, partOf, esl1, sNil, sAssign, sRet, sRet0, sIf, sExpr, sAugSub, sAug, sCont, gName, gSub, gTup, gTup.go, aVar, aCst, aBin, aUn, aIf, aTup, aList, lCons, lNil, aCall, aMeth, aCmp, aSlice, tCmp, tCmp2, tAnd, tOr, tNot, tVal, tTrue, tFalse, upd_at, if_true, if_false, Bool.false_eq_true, decide_true, decide_false, decide_eq_true_eq, opItem, opAdd, opIAdd, opIAddX, opSub, opMul, opDiv, opMod, opNeg, cmpOp, cmpLt, cmpIn, cmpIs, eq_int, eq_str, eq_bool, occ_one, truth, kList, kStr, fLen, fRange, fList, fTuple, fChr, fSJoin, fAll, fAny, fCount, fSRstrip, fSum, fMin, joinL_nil, fAppend, fInsert, fPop, withOwn, withItems, setAt, nth_zero, nth_one, nth_two, nth_last, kOk, bindP, List.length_cons, List.length_nil, List.isEmpty_cons, List.isEmpty_nil, List.map_nil, List.map_cons, Nat.reduceAdd, Nat.reduceEqDiff, Nat.succ_ne_self, Int.reduceNeg, Int.reduceLE, Int.reduceLT, Int.reduceEq, Int.cast_ofNat_Int, Int.toNat_zero, Int.toNat_one, Int.reduceToNat, Int.le_refl, List.getElem?_cons_zero, List.getElem?_cons_succ, reduceIte, reduceCtorEq, true_and, and_true, and_self, not_true_eq_false, not_false_eq_true, Bool.not_true, Bool.not_false, Bool.not_eq_true, Bool.not_eq_false, ne_eq, decide_not]
  refine ⟨hsz, fun L5 hL5 => ?_⟩
  have K5 : Keep H4 (upd H4 L5 ⟨(tx (l.take k)).map .str, true⟩) := Keep.new hL5
  have E5 : (upd H4 L5 ⟨(tx (l.take k)).map .str, true⟩) L5 = some ⟨(tx (l.take k)).map .str, true⟩ := upd_same _ _ _
  generalize upd H4 L5 ⟨(tx (l.take k)).map .str, true⟩ = H5 at K5 E5 ⊢
  refine through_spec (l := l.take k) (by simp; omega) (fun f hf => hok f (List.mem_of_mem_take hf)) E5 fun a6 H6 h6 K6 E6 => after_next ?_
  have E2_6 := (K5.trans K6).at E2_4
  walk_at "st"
  try simp only [E2_6, opSlice, partOf, esl2, sNil, sAssign, sRet, sRet0, sIf, sExpr, sAugSub, sAug, sCont, gName, gSub, gTup, gTup.go, aVar, aCst, aBin, aUn, aIf, aTup, aList, lCons, lNil, aCall, aMeth, aCmp, aSlice, tCmp, tCmp2, tAnd, tOr, tNot, tVal, tTrue, tFalse, upd_at, if_true, if_false, Bool.false_eq_true, decide_true, decide_false, decide_eq_true_eq, opItem, opAdd, opIAdd, opIAddX, opSub, opMul, opDiv, opMod, opNeg, cmpOp, cmpLt, cmpIn, cmpIs, eq_int, eq_str, eq_bool, occ_one, truth, kList, kStr, fLen, fRange, fList, fTuple, fChr, fSJoin, fAll, fAny, fCount, fSRstrip, fSum, fMin, joinL_nil, fAppend, fInsert, fPop, withOwn, withItems, setAt, nth_zero, nth_one, nth_two, nth_last, kOk, bindP, List.length_cons, List.length_nil, List.isEmpty_cons, List.isEmpty_nil, List.map_nil, List.map_cons, Nat.reduceAdd, Nat.reduceEqDiff, Nat.succ_ne_self, Int.reduceNeg, Int.reduceLE, Int.reduceLT, Int.reduceEq, Int.cast_ofNat_Int, Int.toNat_zero, Int.toNat_one, Int.reduceToNat, Int.le_refl, List.getElem?_cons_zero, List.getElem?_cons_succ, reduceIte, reduceCtorEq, true_and, and_true, and_self, not_true_eq_false, not_false_eq_true, Bool.not_true, Bool.not_false, Bool.not_eq_true, Bool.not_eq_false, ne_eq, decide_not]
  refine ⟨hsz, fun L7 hL7 => ?_⟩
  have K7 : Keep H6 (upd H6 L7 ⟨(tx (l.drop k)).map .str, true⟩) := Keep.new hL7
  have E7 : (upd H6 L7 ⟨(tx (l.drop k)).map .str, true⟩) L7 = some ⟨(tx (l.drop k)).map .str, true⟩ := upd_same _ _ _
  generalize upd H6 L7 ⟨(tx (l.drop k)).map .str, true⟩ = H7 at K7 E7 ⊢
  refine through_spec (l := l.drop k) (by simp; omega) (fun f hf => hok f (List.mem_of_mem_drop hf)) E7 fun a8 H8 h8 K8 E8 => after_next ?_
  have E6_8 := (K7.trans K8).at E6
  walk_at "st"
  try simp only [E6_8, E8, sNil, sAssign, sRet, sRet0, sIf, sExpr, sAugSub, sAug, sCont, gName, gSub, gTup, gTup.go, aVar, aCst, aBin, aUn, aIf, aTup, aList, lCons, lNil, aCall, aMeth, aCmp, aSlice, tCmp, tCmp2, tAnd, tOr, tNot, tVal, tTrue, tFalse, upd_at, if_true, if_false, Bool.false_eq_true, decide_true, decide_false, decide_eq_true_eq, opItem, opAdd, opIAdd, opIAddX, opSub, opMul, opDiv, opMod, opNeg, cmpOp, cmpLt, cmpIn, cmpIs, eq_int, eq_str, eq_bool, occ_one, truth, kList, kStr, fLen, fRange, fList, fTuple, fChr, fSJoin, fAll, fAny, fCount, fSRstrip, fSum, fMin, joinL_nil, fAppend, fInsert, fPop, withOwn, withItems, setAt, nth_zero, nth_one, nth_two, nth_last, kOk, bindP, List.length_cons, List.length_nil, List.isEmpty_cons, List.isEmpty_nil, List.map_nil, List.map_cons, Nat.reduceAdd, Nat.reduceEqDiff, Nat.succ_ne_self, Int.reduceNeg, Int.reduceLE, Int.reduceLT, Int.reduceEq, Int.cast_ofNat_Int, Int.toNat_zero, Int.toNat_one, Int.reduceToNat, Int.le_refl, List.getElem?_cons_zero, List.getElem?_cons_succ, reduceIte, reduceCtorEq, true_and, and_true, and_self, not_true_eq_false, not_false_eq_true, Bool.not_true, Bool.not_false, Bool.not_eq_true, Bool.not_eq_false, ne_eq, decide_not]
  refine ⟨by simp [szOk]; omega, fun L9 hL9 => ?_⟩
  have K9 : Keep H8 (upd H8 L9 ⟨((l.take k).map outOf).map pr ++ ((l.drop k).map outOf).map pr, true⟩) := Keep.new hL9
  have E9 : (upd H8 L9 ⟨((l.take k).map outOf).map pr ++ ((l.drop k).map outOf).map pr, true⟩) L9 = some ⟨(l.map outOf).map pr, true⟩ := by
    rw [upd_same, ← List.map_append, ← List.map_append, List.take_append_drop]
  generalize upd H8 L9 ⟨((l.take k).map outOf).map pr ++ ((l.drop k).map outOf).map pr, true⟩ = H9 at K9 E9 ⊢
  have K49 := K5.trans (K6.trans (K7.trans (K8.trans K9)))
  refine cmp_lists E9 ((K4.trans K49).at E3') (fo l) rfl ?_
  (try simp only [sCons, sNil, sAssign, sRet, sRet0, sIf, sExpr, sFor, sAugSub, sAug, sCont, gName, gSub, gTup, gTup.go, aVar, aCst, aBin, aUn, aIf, aTup, aList, lCons, lNil, aCall, aMeth, aCmp, aSlice, tCmp, tCmp2, tAnd, tOr, tNot, tVal, tTrue, tFalse, upd_at, if_true, if_false, Bool.false_eq_true, decide_true, decide_false, decide_eq_true_eq, opItem, opAdd, opIAdd, opIAddX, opSub, opMul, opDiv, opMod, opNeg, cmpOp, cmpLt, cmpIn, cmpIs, eq_int, eq_str, eq_bool, occ_one, truth, kList, kStr, fLen, fRange, fList, fTuple, fChr, fSJoin, fAll, fAny, fCount, fSRstrip, fSum, fMin, joinL_nil, fAppend, fInsert, fPop, withOwn, withItems, setAt, nth_zero, nth_one, nth_two, nth_last, kOk, bindP, List.length_cons, List.length_nil, List.isEmpty_cons, List.isEmpty_nil, List.map_nil, List.map_cons, Nat.reduceAdd, Nat.reduceEqDiff, Nat.succ_ne_self, Int.reduceNeg, Int.reduceLE, Int.reduceLT, Int.reduceEq, Int.cast_ofNat_Int, Int.toNat_zero, Int.toNat_one, Int.reduceToNat, Int.le_refl, List.getElem?_cons_zero, List.getElem?_cons_succ, reduceIte, reduceCtorEq, true_and, and_true, and_self, not_true_eq_false, not_false_eq_true, Bool.not_true, Bool.not_false, Bool.not_eq_true, Bool.not_eq_false, ne_eq, decide_not])
  refine after_next ?_
  have L9' := L2.keep' (K3.trans (K4.trans K49))
  have E2_9 := K49.at E2_4
  walk_at "st"
  simp only [sAssign, aCompZ, lCons, lNil]
  try simp only [E2_9, L9'.hF, sNil, sAssign, sRet, sRet0, sIf, sExpr, sAugSub, sAug, sCont, gName, gSub, gTup, gTup.go, aVar, aCst, aBin, aUn, aIf, aTup, aList, lCons, lNil, aCall, aMeth, aCmp, aSlice, tCmp, tCmp2, tAnd, tOr, tNot, tVal, tTrue, tFalse, upd_at, if_true, if_false, Bool.false_eq_true, decide_true, decide_false, decide_eq_true_eq, opItem, opAdd, opIAdd, opIAddX, opSub, opMul, opDiv, opMod, opNeg, cmpOp, cmpLt, cmpIn, cmpIs, eq_int, eq_str, eq_bool, occ_one, truth, kList, kStr, fLen, fRange, fList, fTuple, fChr, fSJoin, fAll, fAny, fCount, fSRstrip, fSum, fMin, joinL_nil, fAppend, fInsert, fPop, withOwn, withItems, setAt, nth_zero, nth_one, nth_two, nth_last, kOk, bindP, List.length_cons, List.length_nil, List.isEmpty_cons, List.isEmpty_nil, List.map_nil, List.map_cons, Nat.reduceAdd, Nat.reduceEqDiff, Nat.succ_ne_self, Int.reduceNeg, Int.reduceLE, Int.reduceLT, Int.reduceEq, Int.cast_ofNat_Int, Int.toNat_zero, Int.toNat_one, Int.reduceToNat, Int.le_refl, List.getElem?_cons_zero, List.getElem?_cons_succ, reduceIte, reduceCtorEq, true_and, and_true, and_self, not_true_eq_false, not_false_eq_true, Bool.not_true, Bool.not_false, Bool.not_eq_true, Bool.not_eq_false, ne_eq, decide_not]
  refine ⟨l.map zipV, by simp [tx], by simp; omega, ?_, fun z hz => ?_⟩
  · intro i px py u hx hy hu
    have hi : i < l.length := by
      have := (List.getElem?_eq_some_iff.mp hu).1
      simpa using this
    have hx' : px = .str l[i].text := by simpa [tx, hi] using hx.symm
    have hy' : py = l[i].pv := by simpa [hi] using hy.symm
    have hu' : u = zipV l[i] := by simpa [hi] using hu.symm
    subst hx' hy' hu'
    have hf : l[i] ∈ l := List.getElem_mem hi
    refine closed_spec (hok _ hf) (L9'.at' hf).ro fun H10 k10 => ?_
    unfold zipV
    cases hcl : (l[i]).clos with
    | true => (try simp only [sCons, sNil, sAssign, sRet, sRet0, sIf, sExpr, sFor, sAugSub, sAug, sCont, gName, gSub, gTup, gTup.go, aVar, aCst, aBin, aUn, aIf, aTup, aList, lCons, lNil, aCall, aMeth, aCmp, aSlice, tCmp, tCmp2, tAnd, tOr, tNot, tVal, tTrue, tFalse, upd_at, if_true, if_false, Bool.false_eq_true, decide_true, decide_false, decide_eq_true_eq, opItem, opAdd, opIAdd, opIAddX, opSub, opMul, opDiv, opMod, opNeg, cmpOp, cmpLt, cmpIn, cmpIs, eq_int, eq_str, eq_bool, occ_one, truth, kList, kStr, fLen, fRange, fList, fTuple, fChr, fSJoin, fAll, fAny, fCount, fSRstrip, fSum, fMin, joinL_nil, fAppend, fInsert, fPop, withOwn, withItems, setAt, nth_zero, nth_one, nth_two, nth_last, kOk, bindP, List.length_cons, List.length_nil, List.isEmpty_cons, List.isEmpty_nil, List.map_nil, List.map_cons, Nat.reduceAdd, Nat.reduceEqDiff, Nat.succ_ne_self, Int.reduceNeg, Int.reduceLE, Int.reduceLT, Int.reduceEq, Int.cast_ofNat_Int, Int.toNat_zero, Int.toNat_one, Int.reduceToNat, Int.le_refl, List.getElem?_cons_zero, List.getElem?_cons_succ, reduceIte, reduceCtorEq, true_and, and_true, and_self, not_true_eq_false, not_false_eq_true, Bool.not_true, Bool.not_false, Bool.not_eq_true, Bool.not_eq_false, ne_eq, decide_not])
    | false => (try simp only [sCons, sNil, sAssign, sRet, sRet0, sIf, sExpr, sFor, sAugSub, sAug, sCont, gName, gSub, gTup, gTup.go, aVar, aCst, aBin, aUn, aIf, aTup, aList, lCons, lNil, aCall, aMeth, aCmp, aSlice, tCmp, tCmp2, tAnd, tOr, tNot, tVal, tTrue, tFalse, upd_at, if_true, if_false, Bool.false_eq_true, decide_true, decide_false, decide_eq_true_eq, opItem, opAdd, opIAdd, opIAddX, opSub, opMul, opDiv, opMod, opNeg, cmpOp, cmpLt, cmpIn, cmpIs, eq_int, eq_str, eq_bool, occ_one, truth, kList, kStr, fLen, fRange, fList, fTuple, fChr, fSJoin, fAll, fAny, fCount, fSRstrip, fSum, fMin, joinL_nil, fAppend, fInsert, fPop, withOwn, withItems, setAt, nth_zero, nth_one, nth_two, nth_last, kOk, bindP, List.length_cons, List.length_nil, List.isEmpty_cons, List.isEmpty_nil, List.map_nil, List.map_cons, Nat.reduceAdd, Nat.reduceEqDiff, Nat.succ_ne_self, Int.reduceNeg, Int.reduceLE, Int.reduceLT, Int.reduceEq, Int.cast_ofNat_Int, Int.toNat_zero, Int.toNat_one, Int.reduceToNat, Int.le_refl, List.getElem?_cons_zero, List.getElem?_cons_succ, reduceIte, reduceCtorEq, true_and, and_true, and_self, not_true_eq_false, not_false_eq_true, Bool.not_true, Bool.not_false, Bool.not_eq_true, Bool.not_eq_false, ne_eq, decide_not]); rfl
  have K10 : Keep H9 (upd H9 z ⟨(l.map zipV).map .str, true⟩) := Keep.new hz
  have E10 : (upd H9 z ⟨(l.map zipV).map .str, true⟩) z = some ⟨(l.map zipV).map .str, true⟩ := upd_same _ _ _
  generalize upd H9 z ⟨(l.map zipV).map .str, true⟩ = H10 at K10 E10 ⊢
  refine after_next ?_
  have E2_10 := K10.at E2_9
  have hxl : ∀ x ∈ tx l, x.length ≤ 50000 := fun x hx => by
    obtain ⟨f, hf, rfl⟩ := List.mem_map.mp hx
    have := (hok f hf).lens; omega
  have epre : (tx l).map pre1 = l.map zipV := by
    unfold tx; rw [List.map_map]; exact List.map_congr_left fun f hf => pre1_text (hok f hf)
  walk_at "st"
  (try simp only [sCons, sNil, sAssign, sRet, sRet0, sIf, sExpr, sFor, sAugSub, sAug, sCont, gName, gSub, gTup, gTup.go, aVar, aCst, aBin, aUn, aIf, aTup, aList, lCons, lNil, aCall, aMeth, aCmp, aSlice, tCmp, tCmp2, tAnd, tOr, tNot, tVal, tTrue, tFalse, upd_at, if_true, if_false, Bool.false_eq_true, decide_true, decide_false, decide_eq_true_eq, opItem, opAdd, opIAdd, opIAddX, opSub, opMul, opDiv, opMod, opNeg, cmpOp, cmpLt, cmpIn, cmpIs, eq_int, eq_str, eq_bool, occ_one, truth, kList, kStr, fLen, fRange, fList, fTuple, fChr, fSJoin, fAll, fAny, fCount, fSRstrip, fSum, fMin, joinL_nil, fAppend, fInsert, fPop, withOwn, withItems, setAt, nth_zero, nth_one, nth_two, nth_last, kOk, bindP, List.length_cons, List.length_nil, List.isEmpty_cons, List.isEmpty_nil, List.map_nil, List.map_cons, Nat.reduceAdd, Nat.reduceEqDiff, Nat.succ_ne_self, Int.reduceNeg, Int.reduceLE, Int.reduceLT, Int.reduceEq, Int.cast_ofNat_Int, Int.toNat_zero, Int.toNat_one, Int.reduceToNat, Int.le_refl, List.getElem?_cons_zero, List.getElem?_cons_succ, reduceIte, reduceCtorEq, true_and, and_true, and_self, not_true_eq_false, not_false_eq_true, Bool.not_true, Bool.not_false, Bool.not_eq_true, Bool.not_eq_false, ne_eq, decide_not])
  refine pre_spec (l := tx l) (o := true) (by omega) hxl E2_10 fun a11 H11 h11 K11 E11 => ?_
  rw [epre] at E11
  refine cmp_lists E11 (K11.at E10) (flat_strs _) rfl ?_
  (try simp only [sCons, sNil, sAssign, sRet, sRet0, sIf, sExpr, sFor, sAugSub, sAug, sCont, gName, gSub, gTup, gTup.go, aVar, aCst, aBin, aUn, aIf, aTup, aList, lCons, lNil, aCall, aMeth, aCmp, aSlice, tCmp, tCmp2, tAnd, tOr, tNot, tVal, tTrue, tFalse, upd_at, if_true, if_false, Bool.false_eq_true, decide_true, decide_false, decide_eq_true_eq, opItem, opAdd, opIAdd, opIAddX, opSub, opMul, opDiv, opMod, opNeg, cmpOp, cmpLt, cmpIn, cmpIs, eq_int, eq_str, eq_bool, occ_one, truth, kList, kStr, fLen, fRange, fList, fTuple, fChr, fSJoin, fAll, fAny, fCount, fSRstrip, fSum, fMin, joinL_nil, fAppend, fInsert, fPop, withOwn, withItems, setAt, nth_zero, nth_one, nth_two, nth_last, kOk, bindP, List.length_cons, List.length_nil, List.isEmpty_cons, List.isEmpty_nil, List.map_nil, List.map_cons, Nat.reduceAdd, Nat.reduceEqDiff, Nat.succ_ne_self, Int.reduceNeg, Int.reduceLE, Int.reduceLT, Int.reduceEq, Int.cast_ofNat_Int, Int.toNat_zero, Int.toNat_one, Int.reduceToNat, Int.le_refl, List.getElem?_cons_zero, List.getElem?_cons_succ, reduceIte, reduceCtorEq, true_and, and_true, and_self, not_true_eq_false, not_false_eq_true, Bool.not_true, Bool.not_false, Bool.not_eq_true, Bool.not_eq_false, ne_eq, decide_not])
  refine after_next ?_
  have L11 := L9'.keep' (K10.trans K11)
  have E2_11 := K11.at E2_10
  walk_at "st"
  simp only [sAssign]
  refine comp_fields (m_if (mt_val (m_call m_f__law_bare (ml_cons m_var ml_nil))) (m_call m_f__law_pair (ml_cons m_var ml_nil)) (m_tup (ml_cons m_cst (ml_cons m_cst ml_nil)))) (fun f => pr (if f.bare then f.pair else emp)) hl (by simp [upd_at]) L11 (fun f hf ρ' H' Q r k hq => ?_) fun p H12 h12 K12 E12 => ?_
  · have hat := (L11.at' hf).keep k
    simp only [aIf, tVal, aCall, lCons, lNil, aVar, r]
    refine bare_spec (hok f hf) hat fun H5 k5 => ?_
    cases hb : f.bare with
    | false =>
      (try simp only [sCons, sNil, sAssign, sRet, sRet0, sIf, sExpr, sFor, sAugSub, sAug, sCont, gName, gSub, gTup, gTup.go, aVar, aCst, aBin, aUn, aIf, aTup, aList, lCons, lNil, aCall, aMeth, aCmp, aSlice, tCmp, tCmp2, tAnd, tOr, tNot, tVal, tTrue, tFalse, upd_at, if_true, if_false, Bool.false_eq_true, decide_true, decide_false, decide_eq_true_eq, opItem, opAdd, opIAdd, opIAddX, opSub, opMul, opDiv, opMod, opNeg, cmpOp, cmpLt, cmpIn, cmpIs, eq_int, eq_str, eq_bool, occ_one, truth, kList, kStr, fLen, fRange, fList, fTuple, fChr, fSJoin, fAll, fAny, fCount, fSRstrip, fSum, fMin, joinL_nil, fAppend, fInsert, fPop, withOwn, withItems, setAt, nth_zero, nth_one, nth_two, nth_last, kOk, bindP, List.length_cons, List.length_nil, List.isEmpty_cons, List.isEmpty_nil, List.map_nil, List.map_cons, Nat.reduceAdd, Nat.reduceEqDiff, Nat.succ_ne_self, Int.reduceNeg, Int.reduceLE, Int.reduceLT, Int.reduceEq, Int.cast_ofNat_Int, Int.toNat_zero, Int.toNat_one, Int.reduceToNat, Int.le_refl, List.getElem?_cons_zero, List.getElem?_cons_succ, reduceIte, reduceCtorEq, true_and, and_true, and_self, not_true_eq_false, not_false_eq_true, Bool.not_true, Bool.not_false, Bool.not_eq_true, Bool.not_eq_false, ne_eq, decide_not])
      rw [hb] at hq
      exact ⟨by simp [szOk], hq _ k5⟩
    | true =>
      (try simp only [sCons, sNil, sAssign, sRet, sRet0, sIf, sExpr, sFor, sAugSub, sAug, sCont, gName, gSub, gTup, gTup.go, aVar, aCst, aBin, aUn, aIf, aTup, aList, lCons, lNil, aCall, aMeth, aCmp, aSlice, tCmp, tCmp2, tAnd, tOr, tNot, tVal, tTrue, tFalse, upd_at, if_true, if_false, Bool.false_eq_true, decide_true, decide_false, decide_eq_true_eq, opItem, opAdd, opIAdd, opIAddX, opSub, opMul, opDiv, opMod, opNeg, cmpOp, cmpLt, cmpIn, cmpIs, eq_int, eq_str, eq_bool, occ_one, truth, kList, kStr, fLen, fRange, fList, fTuple, fChr, fSJoin, fAll, fAny, fCount, fSRstrip, fSum, fMin, joinL_nil, fAppend, fInsert, fPop, withOwn, withItems, setAt, nth_zero, nth_one, nth_two, nth_last, kOk, bindP, List.length_cons, List.length_nil, List.isEmpty_cons, List.isEmpty_nil, List.map_nil, List.map_cons, Nat.reduceAdd, Nat.reduceEqDiff, Nat.succ_ne_self, Int.reduceNeg, Int.reduceLE, Int.reduceLT, Int.reduceEq, Int.cast_ofNat_Int, Int.toNat_zero, Int.toNat_one, Int.reduceToNat, Int.le_refl, List.getElem?_cons_zero, List.getElem?_cons_succ, reduceIte, reduceCtorEq, true_and, and_true, and_self, not_true_eq_false, not_false_eq_true, Bool.not_true, Bool.not_false, Bool.not_eq_true, Bool.not_eq_false, ne_eq, decide_not])
      rw [hb] at hq
      exact pair_spec (hok f hf) (hat.keep k5) (hq _ k5)
  have E12' : H12 p = some ⟨(l.map fun f => if f.bare then f.pair else emp).map pr, true⟩ := by rw [E12]; simp
  simp only [gName]
  refine after_next ?_
  walk_at "st"
  simp only [sRet, aCmp, aBin, aCall, lCons, lNil]
  refine reads_spec (v := 25) (xs := tx l) (ys := l.map Fd.pair) (by simp [upd_at]) (by omega) (K12.at E2_11) rdF ?_ ?_ fun q H13 h13 K13 E13 => ?_
  · unfold tx; rw [List.map_map]; exact List.map_congr_left fun f hf => rdF_text (hok f hf)
  · intro x hx Q H hq
    obtain ⟨f, hf, rfl⟩ := List.mem_map.mp hx
    rw [rdF_text (hok f hf)] at hq
    exact read_text (hok f hf) hq
  refine ppv_spec (l := l.map Fd.pair) (o := true) (by simp; omega) E13 fun a14 H14 h14 K14 E14 => ?_
  have eok : (l.map Fd.pair).map okP = l.map fun f => if f.bare then f.pair else emp := by
    rw [List.map_map]; exact List.map_congr_left fun f _ => okP_pair f
  rw [eok] at E14
  (try simp only [sCons, sNil, sAssign, sRet, sRet0, sIf, sExpr, sFor, sAugSub, sAug, sCont, gName, gSub, gTup, gTup.go, aVar, aCst, aBin, aUn, aIf, aTup, aList, lCons, lNil, aCall, aMeth, aCmp, aSlice, tCmp, tCmp2, tAnd, tOr, tNot, tVal, tTrue, tFalse, upd_at, if_true, if_false, Bool.false_eq_true, decide_true, decide_false, decide_eq_true_eq, opItem, opAdd, opIAdd, opIAddX, opSub, opMul, opDiv, opMod, opNeg, cmpOp, cmpLt, cmpIn, cmpIs, eq_int, eq_str, eq_bool, occ_one, truth, kList, kStr, fLen, fRange, fList, fTuple, fChr, fSJoin, fAll, fAny, fCount, fSRstrip, fSum, fMin, joinL_nil, fAppend, fInsert, fPop, withOwn, withItems, setAt, nth_zero, nth_one, nth_two, nth_last, kOk, bindP, List.length_cons, List.length_nil, List.isEmpty_cons, List.isEmpty_nil, List.map_nil, List.map_cons, Nat.reduceAdd, Nat.reduceEqDiff, Nat.succ_ne_self, Int.reduceNeg, Int.reduceLE, Int.reduceLT, Int.reduceEq, Int.cast_ofNat_Int, Int.toNat_zero, Int.toNat_one, Int.reduceToNat, Int.le_refl, List.getElem?_cons_zero, List.getElem?_cons_succ, reduceIte, reduceCtorEq, true_and, and_true, and_self, not_true_eq_false, not_false_eq_true, Bool.not_true, Bool.not_false, Bool.not_eq_true, Bool.not_eq_false, ne_eq, decide_not])
  refine cmp_lists E14 ((K13.trans K14).at E12') (flat_pr fun q hq => by
    obtain ⟨f, _, rfl⟩ := List.mem_map.mp hq
    split <;> rfl) rfl ?_
  exact after_ret (end_ret rfl)
end Mine
namespace Mine
open_top hd for PySem.Challenge.rw_dm0098_10
end Mine
open Mine
theorem PySem.Challenge.cw_dm0098_10_holds : PySem.Challenge.rw_dm0098_10.Holds :=
  Mine.hd (Mine.link Mine.NN Mine.NN_nodup rfl rfl fun c hq hl => by
  have b_any : c.mg (Str.ofString "any") = none := free_of hq hl (by decide +kernel)
  have b_enumerate : c.mg (Str.ofString "enumerate") = none := free_of hq hl (by decide +kernel)
  have b_len : c.mg (Str.ofString "len") = none := free_of hq hl (by decide +kernel)
  have b_list : c.mg (Str.ofString "list") = none := free_of hq hl (by decide +kernel)
  have b_sum : c.mg (Str.ofString "sum") = none := free_of hq hl (by decide +kernel)
  have b_zip : c.mg (Str.ofString "zip") = none := free_of hq hl (by decide +kernel)
  have h__iter_escaped_chars := s__iter_escaped_chars c (mem_rec (i := 0) hq rfl) b_enumerate
  have h__strip_quoted_realnames := s__strip_quoted_realnames c (mem_rec (i := 1) hq rfl) h__iter_escaped_chars b_len
  have h__check_parenthesis := s__check_parenthesis c (mem_rec (i := 2) hq rfl) h__iter_escaped_chars h__strip_quoted_realnames
  have h__pre_parse_validation := s__pre_parse_validation c (mem_rec (i := 3) hq rfl) h__check_parenthesis
  have h__post_parse_validation := s__post_parse_validation c (mem_rec (i := 4) hq rfl)
  have h__law_unit := s__law_unit c (mem_rec (i := 5) hq rfl)
  have h__law_fields := s__law_fields c (mem_rec (i := 6) hq rfl) h__law_unit b_len
  have h__law_text := s__law_text c (mem_rec (i := 7) hq rfl)
  have h__law_pair := s__law_pair c (mem_rec (i := 8) hq rfl)
  have h__law_read := s__law_read c (mem_rec (i := 9) hq rfl)
  have h__law_closed := s__law_closed c (mem_rec (i := 10) hq rfl)
  have h__law_bare := s__law_bare c (mem_rec (i := 11) hq rfl) b_any
  have h__law_through := s__law_through c (mem_rec (i := 12) hq rfl) h__law_read h__post_parse_validation h__pre_parse_validation b_list
  have h_law := s_law c (mem_rec (i := 13) hq rfl) h__law_bare h__law_closed h__law_fields h__law_pair h__law_read h__law_text h__law_through h__post_parse_validation h__pre_parse_validation b_len b_sum b_zip
  exact ⟨9, _, by decide, h_law, fun ns a H hn ha => law_spec hn ha⟩)
