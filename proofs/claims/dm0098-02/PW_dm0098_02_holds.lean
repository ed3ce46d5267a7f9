import PyProof.Rows.All
import Wide.All
import OpenK.AllK
import Wide.FinOn
import Lean
import PySem.Challenge.RW_dm0098_02
open PySem PySem.W PyProof.Rows
set_option Elab.async false
set_option linter.unusedVariables false
namespace Mine

/-- neither the heap nor the row of generators ever shrinks -/
def Grown (s s' : Shared) : Prop := s.heap.objs.size ≤ s'.heap.objs.size ∧ s.gens.size ≤ s'.gens.size
theorem Grown.trans {a b d : Shared} (x : Grown a b) (y : Grown b d) : Grown a d := ⟨Nat.le_trans x.1 y.1, Nat.le_trans x.2 y.2⟩
theorem Grown.refl (s : Shared) : Grown s s := ⟨Nat.le_refl _, Nat.le_refl _⟩
theorem setGen_gens (s : Shared) (g : Nat) (x : GenState) : (s.setGen g x).gens.size = s.gens.size := by simp [Shared.setGen]
theorem setGen_heap (s : Shared) (g : Nat) (x : GenState) : (s.setGen g x).heap = s.heap := rfl

theorem runs_grown {M : Model} {Γ : Ctx} {p : Pos} {t : Sem Fin} {fs : List Frame} {s s' : Shared} {e : End} (h : Runs M Γ p t fs s e s') : Grown s s' := by
  induction h <;> simp only [Grown, setGen_gens, setGen_heap, Heap.size_push, Heap.size_after_update, Array.size_push] at * <;> omega
theorem wakes_grown {M : Model} {Γ : Ctx} {p : Pos} {g : Nat} {r : Resume} {s s' : Shared} {res : GenResult} (h : Wakes M Γ p g r s res s') : Grown s s' := by
  have back : ∀ {e₁ : End} {s₁ : Shared}, Grown (s.setGen g .running) s₁ → Grown s (s₁.setGen g e₁.genState) := by
    intro e₁ s₁ x
    simpa only [Grown, setGen_gens, setGen_heap] using x
  unfold Wakes at h
  split at h
  · exact h.elim
  · split at h
    · obtain ⟨e₁, s₁, hr, _, _, rfl⟩ := h; exact back (runs_grown hr)
    · rw [h.2]; exact .refl _
    · rw [h.2]; simp only [Grown, setGen_gens, setGen_heap]; exact ⟨Nat.le_refl _, Nat.le_refl _⟩
  · obtain ⟨e₁, s₁, hr, _, _, rfl⟩ := h; exact back (runs_grown hr)
  · rw [h.2]; exact .refl _
  · rw [h.2]; exact .refl _
theorem wp_grown {α : Type} (M : Model) (Γ : Ctx) (s₀ : Shared) (t : Sem α) : ∀ (Q : α → Pos → Shared → Prop) (E : Value → Pos → Shared → Prop) (p : Pos) (s : Shared), Grown s₀ s → Sem.wp M Γ t Q E p s →
    Sem.wp M Γ t (fun a p' s' => Grown s₀ s' ∧ Q a p' s') (fun e p' s' => Grown s₀ s' ∧ E e p' s') p s := by
  induction t with
  | pure a | raise a => intro Q E p s hn h; exact ⟨hn, h⟩
  | unsupported _ | finish _ | register _ _ | yield _ _ _ _ | fork _ _ | await _ _ _ _ _ => intro Q E p s _ h; exact h
  | rule _ k ih | point _ k ih => intro Q E p s hn h; exact ih () Q E p s hn h
  | «at» p' k ih => intro Q E p s hn h; exact ih () Q E p' s hn h
  | load a _ k ih | genState a k ih => intro Q E p s hn h; obtain ⟨o, ho, h⟩ := h; exact ⟨o, ho, ih _ Q E p s hn h⟩
  | update a _ f k ih => intro Q E p s hn h; exact ⟨h.1, ih () Q E p _ ⟨by simpa using hn.1, hn.2⟩ h.2⟩
  | loadIfAlive a k ih | ask k ih | handled a k ih | stack k ih | thread k ih => intro Q E p s hn h; exact ih _ Q E p s hn h
  | alloc o k ih => intro Q E p s hn h; exact ih _ Q E p _ ⟨by simpa using Nat.le_succ_of_le hn.1, hn.2⟩ h
  | fresh k ih | os _ _ k ih => intro Q E p s hn h; exact ih _ Q E p _ hn h
  | choose src m k ih => intro Q E p s hn h; exact ⟨h.1, ih _ Q E p _ hn h.2⟩
  | call c hd _ _ k ih => intro Q E p s hn h; obtain ⟨r, s', hr, h⟩ := h; exact ⟨r, s', hr, ih r Q E p s' (hn.trans (runs_grown hr)) h⟩
  | newGen c k ih => intro Q E p s hn h; exact ih _ Q E p _ ⟨hn.1, by simpa using Nat.le_succ_of_le hn.2⟩ h
  | resume g r _ k ih => intro Q E p s hn h; obtain ⟨res, s', hw, h⟩ := h; exact ⟨res, s', hw, ih res Q E p s' (hn.trans (wakes_grown hw)) h⟩

theorem wpAny_grow {α : Type} {M : Model} {A : Around} {s : Shared} {t : Sem α} {Q : α → Shared → Prop} {E : Value → Shared → Prop}
    (h : wpAny M A t (fun a s' => Grown s s' → Q a s') E s) : wpAny M A t Q E s :=
  fun Γ p hΓ => Sem.wp_mono M Γ t (fun _ _ _ x => x.2 x.1) (fun _ _ _ x => x.2) p s (wp_grown M Γ s t _ _ p s (.refl s) (h Γ p hΓ))
end Mine
open PySem PySem.W PyProof.Rows
set_option Elab.async false
namespace Mine

/-- plain values: what the law's own data are -/
inductive PV where
  | none
  | bool (b : Bool)
  | int (i : Int)
  | str (x : List Nat)
  | tup (xs : List PV)
  | ref (a : Nat)
  | rng (lo hi : Int)

/-- a list of the abstract heap: its items, and whether it may be written -/
structure LO where
  items : List PV
  own : Bool

abbrev AH := Nat → Option LO
abbrev AEnv := Nat → Option PV

def upd {α : Type} (f : Nat → Option α) (k : Nat) (v : α) : Nat → Option α := fun j => if j = k then some v else f j

theorem upd_same {α : Type} (f : Nat → Option α) (k : Nat) (v : α) : upd f k v k = some v := by simp [upd]
theorem upd_other {α : Type} (f : Nat → Option α) {k j : Nat} (v : α) (h : j ≠ k) : upd f k v j = f j := by simp [upd, h]

/-- an object that is never written: a tuple, a range -/
def Imm (h : Heap) (a : Addr) (o : Obj) : Prop := h.get? a = some o ∧ ((o.cls = .type "tuple" ∧ ∃ vs n, o.data = .seq vs n) ∨ (o.cls = .type "range" ∧ ∃ vs, o.data = .fields vs))

mutual
inductive VRel (h : Heap) : Value → PV → Prop
  | none : VRel h .none .none
  | bool (b : Bool) : VRel h (.bool b) (.bool b)
  | int (i : Int) (t : Tok) : VRel h (.int i t) (.int i)
  | str (x : List Nat) (t : Tok) : (∀ c ∈ x, c < 0x110000) → VRel h (.str ⟨x.toArray⟩ t) (.str x)
  | tup {a : Addr} {vs : List Value} {n : Nat} {ps : List PV} : IsT h a vs.toArray n → VAll h vs ps → VRel h (.ref a) (.tup ps)
  | ref (a : Addr) : VRel h (.ref a) (.ref a)
  | rng {a : Addr} {lo hi : Int} {t u v : Tok} : IsRange h a lo hi 1 t u v → VRel h (.ref a) (.rng lo hi)
inductive VAll (h : Heap) : List Value → List PV → Prop
  | nil : VAll h [] []
  | cons {v : Value} {p : PV} {vs : List Value} {ps : List PV} : VRel h v p → VAll h vs ps → VAll h (v :: vs) (p :: ps)
end

section
variable {h h' : Heap} (hk : ∀ a o, Imm h a o → h'.get? a = some o)
include hk
theorem VRel.mono {v : Value} {p : PV} (r : VRel h v p) : VRel h' v p :=
  VRel.rec (motive_1 := fun v p _ => VRel h' v p) (motive_2 := fun vs ps _ => VAll h' vs ps) .none .bool .int .str (fun ht _ hv => .tup (hk _ _ ⟨ht, .inl ⟨rfl, _, _, rfl⟩⟩) hv) .ref (fun hr => .rng (hk _ _ ⟨hr, .inr ⟨rfl, _, rfl⟩⟩)) .nil (fun _ _ hv hr => .cons hv hr) r
theorem VAll.mono {vs : List Value} {ps : List PV} (r : VAll h vs ps) : VAll h' vs ps :=
  VAll.rec (motive_1 := fun v p _ => VRel h' v p) (motive_2 := fun vs ps _ => VAll h' vs ps) .none .bool .int .str (fun ht _ hv => .tup (hk _ _ ⟨ht, .inl ⟨rfl, _, _, rfl⟩⟩) hv) .ref (fun hr => .rng (hk _ _ ⟨hr, .inr ⟨rfl, _, rfl⟩⟩)) .nil (fun _ _ hv hr => .cons hv hr) r
end

theorem VAll.length {h : Heap} : ∀ {vs : List Value} {ps : List PV}, VAll h vs ps → vs.length = ps.length
  | _, _, .nil => rfl
  | _, _, .cons _ hr => by simp [VAll.length hr]
theorem VAll.append {h : Heap} : ∀ {vs ws : List Value} {ps qs : List PV}, VAll h vs ps → VAll h ws qs → VAll h (vs ++ ws) (ps ++ qs)
  | _, _, _, _, .nil, k => k
  | _, _, _, _, .cons hv hr, k => .cons hv (VAll.append hr k)
theorem VAll.one {h : Heap} {v : Value} {p : PV} (x : VRel h v p) : VAll h [v] [p] := .cons x .nil
theorem VAll.get {h : Heap} : ∀ {vs : List Value} {ps : List PV} {k : Nat} {p : PV}, VAll h vs ps → ps[k]? = some p → ∃ v, vs[k]? = some v ∧ VRel h v p
  | _, _, _, _, .nil, e => by simp at e
  | _, _, 0, _, .cons hv _, e => by simp at e; subst e; exact ⟨_, rfl, hv⟩
  | _, _, k + 1, _, .cons _ hr, e => by
    obtain ⟨v, h1, h2⟩ := VAll.get (k := k) hr (by simpa using e)
    exact ⟨v, by simpa using h1, h2⟩
/-- the concrete heap bears the abstract one over the base -/
structure HR (base : Heap) (H : AH) (h : Heap) : Prop where
  keep : ∀ b o, base.get? b = some o → h.get? b = some o
  list : ∀ a x, H a = some x → ∃ vs n, IsL h a vs n ∧ VAll h vs.toList x.items
  new : ∀ a x, H a = some x → x.own = true → base.get? a = none

structure St (base : Heap) (H : AH) (s : Shared) : Prop where
  hr : HR base H s.heap
  bare : AllBare s.gens

/-- what a step leaves as it was: all but the writable lists, and what X (addresses) and Y (generators) free -/
structure Ext (X Y : Nat → Prop) (H : AH) (s : Shared) (H' : AH) (s' : Shared) : Prop where
  keep : ∀ a o, s.heap.get? a = some o → ¬ X a → (∀ x, H a = some x → x.own = false) → s'.heap.get? a = some o
  size : s.heap.objs.size ≤ s'.heap.objs.size
  dom : ∀ a x, H' a = some x → (∃ y, H a = some y ∧ y.own = x.own) ∨ s.heap.objs.size ≤ a
  gens : ∀ i g, s.gens[i]? = some g → ¬ Y i → s'.gens[i]? = some g
  gsize : s.gens.size ≤ s'.gens.size
  os : s'.os = s.os

abbrev No : Nat → Prop := fun _ => False

theorem Ext.refl {X Y H s} : Ext X Y H s H s := ⟨fun _ _ h _ _ => h, Nat.le_refl _, fun _ x h => .inl ⟨x, h, rfl⟩, fun _ _ h _ => h, Nat.le_refl _, rfl⟩
theorem Ext.trans {X Y H s H' s' H'' s''} (e : Ext X Y H s H' s') (f : Ext X Y H' s' H'' s'') : Ext X Y H s H'' s'' where
  keep a o h hx hn := by
    refine f.keep a o (e.keep a o h hx hn) hx (fun x hx' => ?_)
    rcases e.dom a x hx' with ⟨y, hy, e1⟩ | h0
    · rw [← e1]; exact hn y hy
    · exact absurd (Heap.lt_size h) (Nat.not_lt.mpr h0)
  size := Nat.le_trans e.size f.size
  dom a x hx := by
    rcases f.dom a x hx with ⟨y, hy, e1⟩ | h0
    · rcases e.dom a y hy with ⟨z, hz, e2⟩ | h1
      · exact .inl ⟨z, hz, e2.trans e1⟩
      · exact .inr h1
    · exact .inr (Nat.le_trans e.size h0)
  gens i g h hy := f.gens i g (e.gens i g h hy) hy
  gsize := Nat.le_trans e.gsize f.gsize
  os := f.os.trans e.os
theorem Ext.mono {X Y X' Y' : Nat → Prop} {H s H' s'} (e : Ext X Y H s H' s') (hX : ∀ a, X a → X' a) (hY : ∀ a, Y a → Y' a) : Ext X' Y' H s H' s' :=
  ⟨fun a o h hx hn => e.keep a o h (fun q => hx (hX a q)) hn, e.size, e.dom, fun i g h hy => e.gens i g h (fun q => hy (hY i q)), e.gsize, e.os⟩
theorem Ext.of_no {X Y : Nat → Prop} {H s H' s'} (e : Ext No No H s H' s') : Ext X Y H s H' s' := e.mono (fun _ h => h.elim) (fun _ h => h.elim)
/-- what is new since s may be freed -/
theorem Ext.then_new {X Y X' Y' : Nat → Prop} {H s H' s' H'' s''} (e : Ext X Y H s H' s') (f : Ext X' Y' H' s' H'' s'') (hX : ∀ a, X' a → X a ∨ s.heap.objs.size ≤ a) (hY : ∀ i, Y' i → Y i ∨ s.gens.size ≤ i) : Ext X Y H s H'' s'' where
  keep a o h hx hn := by
    refine f.keep a o (e.keep a o h hx hn) (fun q => ?_) (fun x hx' => ?_)
    · rcases hX a q with q | q
      · exact hx q
      · exact absurd (Heap.lt_size h) (Nat.not_lt.mpr q)
    · rcases e.dom a x hx' with ⟨y, hy, e1⟩ | h0
      · rw [← e1]; exact hn y hy
      · exact absurd (Heap.lt_size h) (Nat.not_lt.mpr h0)
  size := Nat.le_trans e.size f.size
  dom a x hx := by
    rcases f.dom a x hx with ⟨y, hy, e1⟩ | h0
    · rcases e.dom a y hy with ⟨z, hz, e2⟩ | h1
      · exact .inl ⟨z, hz, e2.trans e1⟩
      · exact .inr h1
    · exact .inr (Nat.le_trans e.size h0)
  gens i g h hy := by
    refine f.gens i g (e.gens i g h hy) (fun q => ?_)
    rcases hY i q with q | q
    · exact hy q
    · have := (Array.getElem?_eq_some_iff.mp h).1; omega
  gsize := Nat.le_trans e.gsize f.gsize
  os := f.os.trans e.os

section
variable {base : Heap} {X Y : Nat → Prop} {H H' : AH} {s s' : Shared}

/-- an object that is no list stays -/
theorem St.stay (S : St base H s) (e : Ext X Y H s H' s') {a : Addr} {o : Obj} (h : s.heap.get? a = some o) (hx : ¬ X a) (hc : o.cls ≠ .type "list") : s'.heap.get? a = some o := by
  refine e.keep a o h hx fun x hx' => ?_
  obtain ⟨vs, n, hl, _⟩ := S.hr.list a x hx'
  rw [show s.heap.get? a = _ from hl] at h
  cases h
  exact absurd rfl hc
theorem St.stayI (S : St base H s) (e : Ext X Y H s H' s') {a : Addr} {o : Obj} (h : Imm s.heap a o) (hx : ¬ X a) : s'.heap.get? a = some o :=
  S.stay e h.1 hx (by rcases h.2 with q | q <;> rw [q.1] <;> simp)
theorem VRel.ext {v : Value} {p : PV} (x : VRel s.heap v p) (S : St base H s) (e : Ext X Y H s H' s') (hX : ∀ a o, Imm s.heap a o → ¬ X a) : VRel s'.heap v p :=
  x.mono fun a o h => S.stayI e h (hX a o h)
theorem VAll.ext {v : List Value} {p : List PV} (x : VAll s.heap v p) (S : St base H s) (e : Ext X Y H s H' s') (hX : ∀ a o, Imm s.heap a o → ¬ X a) : VAll s'.heap v p :=
  x.mono fun a o h => S.stayI e h (hX a o h)
theorem VRel.ext0 {v : Value} {p : PV} (x : VRel s.heap v p) (S : St base H s) (e : Ext No No H s H' s') : VRel s'.heap v p := x.ext S e fun _ _ _ h => h
theorem VAll.ext0 {v : List Value} {p : List PV} (x : VAll s.heap v p) (S : St base H s) (e : Ext No No H s H' s') : VAll s'.heap v p := x.ext S e fun _ _ _ h => h
end

/-- the frame bears the abstract one: N numbers the names -/
def Holds (env : Env) (h : Heap) (m : Str → Option Value) (x : Str) (v : Value) : Prop :=
  (env.kindOf x = some .local ∧ m x = some v) ∨ ((env.kindOf x = some .cell ∨ env.kindOf x = some .free) ∧ ∃ c, env.cells.lookup x = some c ∧ h.IsCell c (some v))

structure ER (base : Heap) (N : List Str) (env : Env) (ρ : AEnv) (h : Heap) : Prop where
  names : ∃ m, h.Ns env.locals m ∧ ∀ k p, ρ k = some p → ∃ x v, N[k]? = some x ∧ VRel h v p ∧ Holds env h m x v
  cells : ∀ x c, env.cells.lookup x = some c → ∃ v, h.IsCell c v
  apart : env.cells.Pairwise fun x y => x.2 ≠ y.2
  new : base.get? env.locals = none
  cnew : ∀ x c, env.cells.lookup x = some c → base.get? c = none

theorem ns_no_list {h : Heap} {a : Addr} {m : Str → Option Value} (hn : h.Ns a m) : ∀ vs n, ¬ IsL h a vs n := by
  intro vs n hl
  obtain ⟨o, es, ep, ho, hd, _⟩ := hn
  rw [show h.get? a = _ from hl] at ho; cases ho; cases hd
theorem cell_no_list {h : Heap} {a : Addr} {v : Option Value} (hn : h.IsCell a v) : ∀ vs n, ¬ IsL h a vs n := by
  intro vs n hl
  obtain ⟨o, ho, hd⟩ := hn
  rw [show h.get? a = _ from hl] at ho; cases ho; cases hd

section
variable {base : Heap} {N : List Str} {env : Env} {ρ : AEnv} {X Y : Nat → Prop} {H H' : AH} {s s' : Shared}
theorem St.stay' (S : St base H s) (e : Ext X Y H s H' s') {a : Addr} {o : Obj} (h : s.heap.get? a = some o) (hx : ¬ X a) (hl : ∀ vs n, ¬ IsL s.heap a vs n) : s'.heap.get? a = some o := by
  refine e.keep a o h hx fun x hx' => ?_
  obtain ⟨vs, n, hl', _⟩ := S.hr.list a x hx'
  exact absurd hl' (hl vs n)
theorem ns_stays (S : St base H s) (e : Ext X Y H s H' s') {a : Addr} {m : Str → Option Value} (h : s.heap.Ns a m) (hx : ¬ X a) : s'.heap.Ns a m := by
  obtain ⟨o, es, ep, ho, r⟩ := id h
  exact ⟨o, es, ep, S.stay' e ho hx (ns_no_list h), r⟩
theorem cell_stays (S : St base H s) (e : Ext X Y H s H' s') {a : Addr} {v : Option Value} (h : s.heap.IsCell a v) (hx : ¬ X a) : s'.heap.IsCell a v := by
  obtain ⟨o, ho, r⟩ := id h
  exact ⟨o, S.stay' e ho hx (cell_no_list h), r⟩
theorem ER.ext (R : ER base N env ρ s.heap) (S : St base H s) (e : Ext X Y H s H' s') (hX : ∀ a o, Imm s.heap a o → ¬ X a) (hL : ¬ X env.locals) (hC : ∀ x c, env.cells.lookup x = some c → ¬ X c) : ER base N env ρ s'.heap where
  names := by
    obtain ⟨m, hn, hm⟩ := R.names
    refine ⟨m, ns_stays S e hn hL, fun k p hk => ?_⟩
    obtain ⟨x, v, h1, h2, h3⟩ := hm k p hk
    refine ⟨x, v, h1, h2.ext S e hX, ?_⟩
    rcases h3 with h3 | ⟨h3, c, h4, h5⟩
    · exact .inl h3
    · exact .inr ⟨h3, c, h4, cell_stays S e h5 (hC x c h4)⟩
  cells x c h := let ⟨v, hv⟩ := R.cells x c h; ⟨v, cell_stays S e hv (hC x c h)⟩
  apart := R.apart
  new := R.new
  cnew := R.cnew
theorem ER.ext' (R : ER base N env ρ s.heap) (S : St base H s) (e : Ext X Y H s H' s') (hX : ∀ a o, Imm s.heap a o → s'.heap.get? a = some o) (hL : ¬ X env.locals) (hC : ∀ x c, env.cells.lookup x = some c → ¬ X c) : ER base N env ρ s'.heap where
  names := by
    obtain ⟨m, hn, hm⟩ := R.names
    refine ⟨m, ns_stays S e hn hL, fun k p hk => ?_⟩
    obtain ⟨x, v, h1, h2, h3⟩ := hm k p hk
    refine ⟨x, v, h1, h2.mono hX, ?_⟩
    rcases h3 with h3 | ⟨h3, c, h4, h5⟩
    · exact .inl h3
    · exact .inr ⟨h3, c, h4, cell_stays S e h5 (hC x c h4)⟩
  cells x c h := let ⟨v, hv⟩ := R.cells x c h; ⟨v, cell_stays S e hv (hC x c h)⟩
  apart := R.apart
  new := R.new
  cnew := R.cnew
theorem ER.ext0 (R : ER base N env ρ s.heap) (S : St base H s) (e : Ext No No H s H' s') : ER base N env ρ s'.heap := R.ext S e (fun _ _ _ h => h) (fun h => h) (fun _ _ _ h => h)
end

/-- the room around: depth and C units for n more levels -/
structure AOk (n : Nat) (A : Around) : Prop where
  handled : A.handled = none
  depth : A.depth + n ≤ 900
  units : A.units + 10 * n ≤ 9000

theorem AOk.of_le {n m : Nat} {A : Around} (h : AOk n A) (hm : m ≤ n) : AOk m A := ⟨h.handled, by have := h.depth; omega, by have := h.units; omega⟩
theorem AOk.deeper {n : Nat} {A : Around} (h : AOk (n + 1) A) (env : Env) : AOk n (A.deeper env) := ⟨h.handled, by have := h.depth; show A.depth + 1 + n ≤ 900; omega, by have := h.units; show A.units + 3 + 10 * n ≤ 9000; omega⟩
/-- a block's names, and those that it has from around -/
structure SE extends Scope where
  caps : List Str

structure EOk (sc : SE) (env : Env) : Prop where
  scope : env.scope = sc.toScope
  kind : sc.kind = .function
  globals : env.globals = mainGlobals
  builtins : env.builtins = builtinsNs
  cells : ∀ x, sc.names.lookup x = some .cell → ∃ a, env.cells.lookup x = some a ∧ (x ∉ sc.caps → env.locals < a)
theorem EOk.kindOf {sc env} (h : EOk sc env) (x : Str) : env.kindOf x = sc.names.lookup x := by unfold Env.kindOf; rw [h.scope]
theorem EOk.skind {sc env} (h : EOk sc env) : env.scope.kind = .function := by rw [h.scope]; exact h.kind

abbrev AE := (PV → AH → Prop) → AEnv → AH → Prop
abbrev AT := (Bool → AH → Prop) → AEnv → AH → Prop
abbrev AL := (List PV → AH → Prop) → AEnv → AH → Prop
inductive Fl where
  | next | brk | cont
  | ret (p : PV)
abbrev AS := (Fl → AEnv → AH → Prop) → AEnv → AH → Prop

inductive FRel (h : Heap) : Flow → Fl → Prop
  | next : FRel h .next .next
  | brk : FRel h .brk .brk
  | cont : FRel h .cont .cont
  | ret {v : Value} {p : PV} : VRel h v p → FRel h (.ret v) (.ret p)

/-- the run's own constants -/
structure Cx where
  prog : Program
  w : World
  base : Heap
  q : Program
  loose : List Str
  mean : ExcName → Option Value
  mg : Str → Option Value
  mb : Str → Option Value
  top : Top q loose mean mg mb base
  N : List Str
  nodup : N.Nodup

/-- a step's end: a value borne, the heap borne, all else as it was -/
def Res (c : Cx) (H : AH) (s : Shared) (Q : PV → AH → Prop) (v : Value) (s' : Shared) : Prop :=
  ∃ p H', VRel s'.heap v p ∧ St c.base H' s' ∧ Ext No No H s H' s' ∧ Q p H'
def ResL (c : Cx) (H : AH) (s : Shared) (Q : List PV → AH → Prop) (vs : List Value) (s' : Shared) : Prop :=
  ∃ ps H', VAll s'.heap vs ps ∧ St c.base H' s' ∧ Ext No No H s H' s' ∧ Q ps H'
def ResB (c : Cx) (H : AH) (s : Shared) (Q : Bool → AH → Prop) (b : Bool) (s' : Shared) : Prop :=
  ∃ H', St c.base H' s' ∧ Ext No No H s H' s' ∧ Q b H'
def Own (env : Env) (a : Nat) : Prop := a = env.locals ∨ (env.locals < a ∧ ∃ x, env.cells.lookup x = some a)
def ResS (c : Cx) (env : Env) (H : AH) (s : Shared) (Q : Fl → AEnv → AH → Prop) (f : Flow) (s' : Shared) : Prop :=
  ∃ fl ρ' H', FRel s'.heap f fl ∧ ER c.base c.N env ρ' s'.heap ∧ St c.base H' s' ∧ Ext (Own env) No H s H' s' ∧ Q fl ρ' H'

theorem Res.elim {c : Cx} {H : AH} {s : Shared} {Q : PV → AH → Prop} {v : Value} {s' : Shared} {P : Prop} (r : Res c H s Q v s') (k : ∀ p H', VRel s'.heap v p → St c.base H' s' → Ext No No H s H' s' → Q p H' → P) : P := Exists.elim r fun p r => Exists.elim r fun H' r => k p H' r.1 r.2.1 r.2.2.1 r.2.2.2
theorem ResL.elim {c : Cx} {H : AH} {s : Shared} {Q : List PV → AH → Prop} {v : List Value} {s' : Shared} {P : Prop} (r : ResL c H s Q v s') (k : ∀ p H', VAll s'.heap v p → St c.base H' s' → Ext No No H s H' s' → Q p H' → P) : P := Exists.elim r fun p r => Exists.elim r fun H' r => k p H' r.1 r.2.1 r.2.2.1 r.2.2.2
theorem ResB.elim {c : Cx} {H : AH} {s : Shared} {Q : Bool → AH → Prop} {v : Bool} {s' : Shared} {P : Prop} (r : ResB c H s Q v s') (k : ∀ H', St c.base H' s' → Ext No No H s H' s' → Q v H' → P) : P := Exists.elim r fun H' r => k H' r.1 r.2.1 r.2.2
theorem ResS.elim {c : Cx} {env : Env} {H : AH} {s : Shared} {Q : Fl → AEnv → AH → Prop} {f : Flow} {s' : Shared} {P : Prop} (r : ResS c env H s Q f s') (k : ∀ fl ρ' H', FRel s'.heap f fl → ER c.base c.N env ρ' s'.heap → St c.base H' s' → Ext (Own env) No H s H' s' → Q fl ρ' H' → P) : P := Exists.elim r fun fl r => Exists.elim r fun ρ' r => Exists.elim r fun H' r => k fl ρ' H' r.1 r.2.1 r.2.2.1 r.2.2.2.1 r.2.2.2.2
def SoundE (c : Cx) (n : Nat) (sc : SE) (e : Expr) (ae : AE) : Prop :=
  ∀ (A : Around) (env : Env) (ρ : AEnv) (H : AH) (s : Shared) (Q : PV → AH → Prop) (E : Value → Shared → Prop), AOk n A → EOk sc env → ER c.base c.N env ρ s.heap → St c.base H s → ae Q ρ H →
    wpAny (model c.prog c.w) A (eval e env) (Res c H s Q) E s
def SoundL (c : Cx) (n : Nat) (sc : SE) (es : List Expr) (al : AL) : Prop :=
  ∀ (A : Around) (env : Env) (ρ : AEnv) (H : AH) (s : Shared) (Q : List PV → AH → Prop) (E : Value → Shared → Prop) (pos : Pos), AOk n A → EOk sc env → ER c.base c.N env ρ s.heap → St c.base H s → al Q ρ H →
    wpAny (model c.prog c.w) A (spliced (backTo pos (starEach es env))) (ResL c H s Q) E s
def SoundT (c : Cx) (n : Nat) (sc : SE) (e : Expr) (a : AT) : Prop :=
  ∀ (A : Around) (env : Env) (ρ : AEnv) (H : AH) (s : Shared) (Q : Bool → AH → Prop) (E : Value → Shared → Prop), AOk n A → EOk sc env → ER c.base c.N env ρ s.heap → St c.base H s → a Q ρ H →
    wpAny (model c.prog c.w) A (isTrue e env (eval e env)) (ResB c H s Q) E s
def SoundS (c : Cx) (n : Nat) (sc : SE) (st : Stmt) (a : AS) : Prop :=
  ∀ (A : Around) (env : Env) (ρ : AEnv) (H : AH) (s : Shared) (Q : Fl → AEnv → AH → Prop) (E : Value → Shared → Prop), AOk n A → EOk sc env → ER c.base c.N env ρ s.heap → St c.base H s → a Q ρ H →
    wpAny (model c.prog c.w) A (exec st env) (ResS c env H s Q) E s
def SoundB (c : Cx) (n : Nat) (sc : SE) (sts : List Stmt) (a : AS) : Prop :=
  ∀ (A : Around) (env : Env) (ρ : AEnv) (H : AH) (s : Shared) (Q : Fl → AEnv → AH → Prop) (E : Value → Shared → Prop), AOk n A → EOk sc env → ER c.base c.N env ρ s.heap → St c.base H s → a Q ρ H →
    wpAny (model c.prog c.w) A (execs sts env) (ResS c env H s Q) E s
end Mine
open PySem PySem.W PyProof.Rows
set_option Elab.async false
namespace Mine

section
variable {base : Heap} {X Y : Nat → Prop} {H H' : AH} {s s' : Shared}

theorem St.tok (S : St base H s) (tk : Nat) : St base H { s with toks := tk } := ⟨S.hr, S.bare⟩
theorem Ext.tok (tk : Nat) : Ext X Y H s H { s with toks := tk } := ⟨fun _ _ h _ _ => h, Nat.le_refl _, fun _ x h => .inl ⟨x, h, rfl⟩, fun _ _ h _ => h, Nat.le_refl _, rfl⟩

theorem St.lt (S : St base H s) {a : Nat} {x : LO} (h : H a = some x) : a < s.heap.objs.size := by
  obtain ⟨vs, n, hl, _⟩ := S.hr.list a x h
  exact Heap.lt_size hl
theorem St.fresh (S : St base H s) {a : Nat} (h : s.heap.objs.size ≤ a) : H a = none := by
  cases hq : H a with
  | none => rfl
  | some x => exact absurd (S.lt hq) (Nat.not_lt.mpr h)
theorem St.bsize (S : St base H s) {a : Nat} (h : s.heap.objs.size ≤ a) : base.get? a = none := by
  cases hq : base.get? a with
  | none => rfl
  | some o => exact absurd (Heap.lt_size (S.hr.keep a o hq)) (Nat.not_lt.mpr h)

/-- the heap changed only at X, where nothing of ours lies -/
theorem St.of_keep {h' : Heap} {tk : Nat} (S : St base H s) (hk : ∀ b o, ¬ X b → s.heap.get? b = some o → h'.get? b = some o)
    (hB : ∀ b, X b → base.get? b = none) (hL : ∀ b, X b → ∀ vs n, ¬ IsL s.heap b vs n) (hT : ∀ b, X b → ∀ o, ¬ Imm s.heap b o) : St base H { s with heap := h', toks := tk } where
  hr := {
    keep := fun b o h => hk b o (fun q => by rw [hB b q] at h; cases h) (S.hr.keep b o h)
    list := fun a x h => by
      obtain ⟨vs, n, hl, hv⟩ := S.hr.list a x h
      exact ⟨vs, n, hk a _ (fun q => hL a q vs n hl) hl, hv.mono fun b o ht => hk b _ (fun q => hT b q o ht) ht.1⟩
    new := S.hr.new }
  bare := S.bare
theorem Ext.of_keep {h' : Heap} {tk : Nat} (hk : ∀ b o, ¬ X b → s.heap.get? b = some o → h'.get? b = some o) (hz : s.heap.objs.size ≤ h'.objs.size) : Ext X Y H s H { s with heap := h', toks := tk } :=
  ⟨fun a o h hx _ => hk a o hx h, hz, fun _ x h => .inl ⟨x, h, rfl⟩, fun _ _ h _ => h, Nat.le_refl _, rfl⟩

theorem St.push (S : St base H s) (o : Obj) : St base H { s with heap := s.heap.push o } :=
  S.of_keep (X := No) (tk := s.toks) (fun _ _ _ h => Heap.get?_push_of_some o h) (fun _ h => h.elim) (fun _ h => h.elim) (fun _ h => h.elim)
theorem Ext.push (o : Obj) : Ext X Y H s H { s with heap := s.heap.push o } :=
  Ext.of_keep (tk := s.toks) (fun _ _ _ h => Heap.get?_push_of_some o h) (by simp)

theorem St.newList (S : St base H s) {vs : Array Value} {ps : List PV} (hv : VAll s.heap vs.toList ps) :
    St base (upd H s.heap.objs.size ⟨ps, true⟩) { s with heap := s.heap.push { cls := .type "list", data := .seq vs } } where
  hr := {
    keep := fun b o h => Heap.get?_push_of_some _ (S.hr.keep b o h)
    list := fun a x h => by
      by_cases ha : a = s.heap.objs.size
      · subst ha
        rw [upd_same] at h; cases h
        exact ⟨vs, 0, IsL.new _ _, hv.mono fun b o ht => Heap.get?_push_of_some _ ht.1⟩
      · rw [upd_other _ _ ha] at h
        obtain ⟨ws, n, hl, hw⟩ := S.hr.list a x h
        exact ⟨ws, n, IsL.push hl _, hw.mono fun b o ht => Heap.get?_push_of_some _ ht.1⟩
    new := fun a x h ho => by
      by_cases ha : a = s.heap.objs.size
      · subst ha; exact S.bsize (Nat.le_refl _)
      · rw [upd_other _ _ ha] at h; exact S.hr.new a x h ho }
  bare := S.bare
theorem Ext.newList (o : Obj) (x : LO) : Ext X Y H s (upd H s.heap.objs.size x) { s with heap := s.heap.push o } where
  keep a o' h _ _ := Heap.get?_push_of_some _ h
  size := by simp
  dom a y h := by
    by_cases ha : a = s.heap.objs.size
    · exact .inr (by omega)
    · rw [upd_other _ _ ha] at h; exact .inl ⟨y, h, rfl⟩
  gens _ _ h _ := h
  gsize := Nat.le_refl _
  os := rfl

theorem St.setList (S : St base H s) {a : Addr} {x : LO} {vs' : Array Value} {n' : Nat} {ps : List PV} {h' : Heap} {tk : Nat} (hx : H a = some x) (ho : x.own = true) (hl : IsL h' a vs' n') (hs : Heap.SameBut a s.heap h') (hv : VAll s.heap vs'.toList ps) :
    St base (upd H a ⟨ps, true⟩) { s with heap := h', toks := tk } := by
  have hT : ∀ b o, Imm s.heap b o → h'.get? b = some o := fun b o ht => by
    have : b ≠ a := by
      rintro rfl
      obtain ⟨us, m, hl', _⟩ := S.hr.list b x hx
      have e := hl'.symm.trans ht.1
      cases e
      rcases ht.2 with q | q <;> simp at q
    exact (hs.2 b this).trans ht.1
  refine ⟨⟨fun b o h => ?_, fun b y h => ?_, fun b y h hy => ?_⟩, S.bare⟩
  · have : b ≠ a := by rintro rfl; rw [S.hr.new b x hx ho] at h; cases h
    exact (hs.2 b this).trans (S.hr.keep b o h)
  · by_cases hb : b = a
    · subst hb; rw [upd_same] at h; cases h; exact ⟨vs', n', hl, hv.mono hT⟩
    · rw [upd_other _ _ hb] at h
      obtain ⟨ws, n, hl', hw⟩ := S.hr.list b y h
      exact ⟨ws, n, (hs.2 b hb).trans hl', hw.mono hT⟩
  · by_cases hb : b = a
    · subst hb; exact S.hr.new b x hx ho
    · rw [upd_other _ _ hb] at h; exact S.hr.new b y h hy
theorem Ext.setList {a : Addr} {x : LO} {ps : List PV} {h' : Heap} {tk : Nat} (hx : H a = some x) (ho : x.own = true) (hs : Heap.SameBut a s.heap h') : Ext X Y H s (upd H a ⟨ps, true⟩) { s with heap := h', toks := tk } where
  keep b o h _ hn := by
    have : b ≠ a := by rintro rfl; rw [hn x hx] at ho; cases ho
    exact (hs.2 b this).trans h
  size := Nat.le_of_eq hs.1.symm
  dom b y h := by
    by_cases hb : b = a
    · subst hb; rw [upd_same] at h; cases h; exact .inl ⟨x, hx, ho⟩
    · rw [upd_other _ _ hb] at h; exact .inl ⟨y, h, rfl⟩
  gens _ _ h _ := h
  gsize := Nat.le_refl _
  os := rfl
end

section
variable {c : Cx} {H : AH} {s : Shared} {Q : PV → AH → Prop}
theorem res_tok {v : Value} {p : PV} {tk : Nat} (S : St c.base H s) (hv : VRel s.heap v p) (hq : Q p H) : Res c H s Q v { s with toks := tk } := ⟨p, H, hv, S.tok tk, Ext.tok tk, hq⟩
theorem res_pure {v : Value} {p : PV} (S : St c.base H s) (hv : VRel s.heap v p) (hq : Q p H) : Res c H s Q v s := ⟨p, H, hv, S, Ext.refl, hq⟩
theorem Res.trans {H' : AH} {s' : Shared} {v : Value} {s'' : Shared} (e : Ext No No H s H' s') (r : Res c H' s' Q v s'') : Res c H s Q v s'' :=
  let ⟨p, H'', h1, h2, h3, h4⟩ := r; ⟨p, H'', h1, h2, e.trans h3, h4⟩
theorem ResB.trans {H' : AH} {s' : Shared} {Q : Bool → AH → Prop} {v : Bool} {s'' : Shared} (e : Ext No No H s H' s') (r : ResB c H' s' Q v s'') : ResB c H s Q v s'' :=
  let ⟨H'', h2, h3, h4⟩ := r; ⟨H'', h2, e.trans h3, h4⟩
theorem res_tuple {vs : List Value} {ps : List PV} (S : St c.base H s) (hv : VAll s.heap vs ps) (hq : Q (.tup ps) H) : Res c H s Q (.ref s.heap.objs.size) { s with heap := s.heap.push { cls := .type "tuple", data := .seq vs.toArray } } :=
  ⟨.tup ps, H, .tup (IsT.new _ _) (hv.mono fun b o ht => Heap.get?_push_of_some _ ht.1), S.push _, Ext.push _, hq⟩
theorem res_list {vs : Array Value} {ps : List PV} (S : St c.base H s) (hv : VAll s.heap vs.toList ps) (hq : ∀ a, H a = none → Q (.ref a) (upd H a ⟨ps, true⟩)) : Res c H s Q (.ref s.heap.objs.size) { s with heap := s.heap.push { cls := .type "list", data := .seq vs } } :=
  ⟨.ref _, _, .ref _, S.newList hv, Ext.newList _ _, hq _ (S.fresh (Nat.le_refl _))⟩
end

/-- a new list -/
def newL (ps : List PV) (Q : PV → AH → Prop) (H : AH) : Prop := ∀ a, H a = none → Q (.ref a) (upd H a ⟨ps, true⟩)

-- names, constants
def aVar (k : Nat) : AE := fun Q ρ H => match ρ k with | some p => Q p H | none => False
def aCst (p : PV) : AE := fun Q _ H => Q p H

section
variable {c : Cx} {n : Nat} {sc : SE}
theorem load_var {A : Around} {env : Env} {ρ : AEnv} {s : Shared} {Q : Value → Shared → Prop} {E : Value → Shared → Prop} {x : Str} {k : Nat} {p : PV} (he : EOk sc env) (R : ER c.base c.N env ρ s.heap) (hx : c.N[k]? = some x) (hp : ρ k = some p)
    (h : ∀ v, VRel s.heap v p → Q v s) (hn : (x == ("__classdict__" : Str)) = false) : wpAny (model c.prog c.w) A (loadName env x) Q E s := by
  obtain ⟨m, hm, hk⟩ := R.names
  obtain ⟨y, v, h1, h2, h3⟩ := hk k p hp
  rw [hx] at h1; cases h1
  rcases h3 with ⟨k1, k2⟩ | ⟨k1 | k1, cc, k2, k3⟩
  · exact wpAny_loadName_local he.skind k1 hm k2 (h v h2)
  · exact wpAny_loadName_cell he.skind k1 k2 k3 (h v h2)
  · exact wpAny_loadName_free he.skind k1 k2 k3 (h v h2) hn

theorem sound_var {x : Str} {pos : Pos} {k : Nat} (hx : c.N[k]? = some x) (hd : (x == ("__debug__" : Str)) = false) (hn : (x == ("__classdict__" : Str)) = false) : SoundE c n sc (.Name x pos) (aVar k) := by
  intro A env ρ H s Q E hA he R S h
  unfold aVar at h
  cases hp : ρ k with
  | none => rw [hp] at h; exact h.elim
  | some p =>
    rw [hp] at h
    exact wpAny_Name (load_var he R hx hp (fun v hv => res_pure S hv h) hn) hd

theorem sound_none {k : Nat} {pos : Pos} : SoundE c n sc (.Constant .none k pos) (aCst .none) := fun _ _ _ _ _ _ _ _ _ _ S h => wpAny_Constant_none (res_pure S .none h)
theorem sound_bool {b : Bool} {k : Nat} {pos : Pos} : SoundE c n sc (.Constant (.bool b) k pos) (aCst (.bool b)) := fun _ _ _ _ _ _ _ _ _ _ S h => wpAny_Constant_bool (res_pure S (.bool b) h)
theorem sound_int {i : Int} {k : Nat} {pos : Pos} : SoundE c n sc (.Constant (.int i) k pos) (aCst (.int i)) := fun _ _ _ _ _ _ _ _ _ _ S h => wpAny_Constant_int (res_tok S (.int i _) h)
theorem sound_str {x : Str} {y : List Nat} {k : Nat} {pos : Pos} (hx : x.cps.toList = y) (hy : (y.all fun c => c < 0x110000) = true) : SoundE c n sc (.Constant (.str x) k pos) (aCst (.str y)) := by
  intro A env ρ H s Q E hA he R S h
  refine wpAny_Constant_str (res_tok (p := .str y) S ?_ h)
  have : x = ⟨y.toArray⟩ := by subst hx; cases x; simp
  rw [this]
  exact .str y _ (by simpa using hy)

theorem seq1 {A : Around} {env : Env} {ρ : AEnv} {H : AH} {s : Shared} {E : Value → Shared → Prop} {l : Expr} {al : AE} {P : Value → Shared → Prop} {F : PV → AH → Prop} (hl : SoundE c n sc l al) (hA : AOk n A) (he : EOk sc env) (R : ER c.base c.N env ρ s.heap) (S : St c.base H s)
    (h : al F ρ H) (k : ∀ va a H1 s1, VRel s1.heap va a → ER c.base c.N env ρ s1.heap → St c.base H1 s1 → Ext No No H s H1 s1 → F a H1 → P va s1) :
    wpAny (model c.prog c.w) A (eval l env) P E s :=
  wpAny_mono (hl A env ρ H s _ E hA he R S h) (fun va s1 rr => rr.elim fun a H1 h1 S1 e1 q1 => k va a H1 s1 h1 (R.ext0 S e1) S1 e1 q1) fun _ _ x => x
theorem seq2 {A : Around} {env : Env} {ρ : AEnv} {H : AH} {s : Shared} {E : Value → Shared → Prop} {l r : Expr} {al ar : AE} {P : Value → Value → Shared → Prop} {F : PV → PV → AH → Prop} (hl : SoundE c n sc l al) (hr : SoundE c n sc r ar) (hA : AOk n A) (he : EOk sc env) (R : ER c.base c.N env ρ s.heap) (S : St c.base H s)
    (h : al (fun a H1 => ar (fun b H2 => F a b H2) ρ H1) ρ H)
    (k : ∀ va vb a b H2 s2, VRel s2.heap va a → VRel s2.heap vb b → ER c.base c.N env ρ s2.heap → St c.base H2 s2 → Ext No No H s H2 s2 → F a b H2 → P va vb s2) :
    wpAny (model c.prog c.w) A (eval l env) (fun va s1 => wpAny (model c.prog c.w) A (eval r env) (fun vb s2 => P va vb s2) E s1) E s :=
  seq1 hl hA he R S h fun va a _ s1 h1 R1 S1 e1 q1 => seq1 hr hA he R1 S1 q1 fun vb b H2 s2 h2 R2 S2 e2 q2 => k va vb a b H2 s2 (h1.ext0 S1 e2) h2 R2 S2 (e1.trans e2) q2

-- two-place operations
/-- what may be said of a two-place operation's value -/
def SoundOp2 (c : Cx) (n : Nat) (t : Value → Value → Sem Value) (f : PV → PV → (PV → AH → Prop) → AH → Prop) : Prop :=
  ∀ (A : Around) (H : AH) (s : Shared) (va vb : Value) (a b : PV) (Q : PV → AH → Prop) (E : Value → Shared → Prop), AOk n A → VRel s.heap va a → VRel s.heap vb b → St c.base H s → f a b Q H →
    wpAny (model c.prog c.w) A (t va vb) (Res c H s Q) E s
def SoundOp1 (c : Cx) (n : Nat) (t : Value → Sem Value) (f : PV → (PV → AH → Prop) → AH → Prop) : Prop :=
  ∀ (A : Around) (H : AH) (s : Shared) (va : Value) (a : PV) (Q : PV → AH → Prop) (E : Value → Shared → Prop), AOk n A → VRel s.heap va a → St c.base H s → f a Q H →
    wpAny (model c.prog c.w) A (t va) (Res c H s Q) E s

def aBin (f : PV → PV → (PV → AH → Prop) → AH → Prop) (l r : AE) : AE := fun Q ρ H => l (fun a H1 => r (fun b H2 => f a b Q H2) ρ H1) ρ H
def aUn (f : PV → (PV → AH → Prop) → AH → Prop) (l : AE) : AE := fun Q ρ H => l (fun a H1 => f a Q H1) ρ H

theorem sound_bin {l r : Expr} {op : Operator} {pos : Pos} {al ar : AE} {f} (ho : SoundOp2 c n (binaryOp op) f) (hl : SoundE c n sc l al) (hr : SoundE c n sc r ar) : SoundE c n sc (.BinOp l op r pos) (aBin f al ar) := by
  intro A env ρ H s Q E hA he R S h
  refine wpAny_BinOp (seq2 (F := fun a b H2 => f a b Q H2) hl hr hA he R S h ?_)
  intro va vb a b H2 s2 h1 h2 R2 S2 e2 q2
  exact wpAny_mono (ho A H2 s2 va vb a b Q E hA h1 h2 S2 q2) (fun _ _ r => r.trans e2) fun _ _ x => x
theorem sound_un {l : Expr} {op : UnaryOp} {pos : Pos} {al : AE} {f} (ho : SoundOp1 c n (unaryOp op) f) (hl : SoundE c n sc l al) : SoundE c n sc (.UnaryOp op l pos) (aUn f al) := by
  intro A env ρ H s Q E hA he R S h
  refine wpAny_UnaryOp (seq1 (F := fun a H2 => f a Q H2) hl hA he R S h ?_)
  intro va a H2 s2 h1 R2 S2 e2 q2
  exact wpAny_mono (ho A H2 s2 va a Q E hA h1 S2 q2) (fun _ _ r => r.trans e2) fun _ _ x => x

/-- a bound on a size -/
def szOk (k : Nat) : Prop := k ≤ 2 ^ 24

def opAdd (a b : PV) (Q : PV → AH → Prop) (H : AH) : Prop := match a, b with
  | .int x, .int y => Q (.int (x + y)) H
  | .str x, .str y => szOk (x.length + y.length) ∧ Q (.str (x ++ y)) H
  | .ref a, .ref b => (match H a, H b with | some x, some y => szOk (x.items.length + y.items.length) ∧ newL (x.items ++ y.items) Q H | _, _ => False)
  | _, _ => False
def opSub (a b : PV) (Q : PV → AH → Prop) (H : AH) : Prop := match a, b with
  | .int x, .int y => Q (.int (x - y)) H
  | _, _ => False
def opMul (a b : PV) (Q : PV → AH → Prop) (H : AH) : Prop := match a, b with
  | .int x, .int y => IntMulOk x y ∧ Q (.int (x * y)) H
  | .str x, .int k => (0 ≤ k ∧ k ≤ 1000 ∧ x.length ≤ 1000) ∧ Q (.str (List.replicate k.toNat x).flatten) H
  | _, _ => False
def opDiv (a b : PV) (Q : PV → AH → Prop) (H : AH) : Prop := match a, b with
  | .int x, .int y => (0 < y ∧ y < 1073741824) ∧ Q (.int (x / y)) H
  | _, _ => False
def opMod (a b : PV) (Q : PV → AH → Prop) (H : AH) : Prop := match a, b with
  | .int x, .int y => 0 < y ∧ Q (.int (x % y)) H
  | _, _ => False

theorem str_app (x y : List Nat) : (⟨x.toArray⟩ : Str) ++ (⟨y.toArray⟩ : Str) = ⟨(x ++ y).toArray⟩ := by
  show Str.mk (x.toArray ++ y.toArray) = _
  simp
theorem str_len (x : List Nat) : (⟨x.toArray⟩ : Str).length = x.length := by
  show x.toArray.size = _
  simp

theorem opAdd_elim {a b : PV} {Q : PV → AH → Prop} {H : AH} (h : opAdd a b Q H) : (∃ x y, a = .int x ∧ b = .int y ∧ Q (.int (x + y)) H) ∨ (∃ x y, a = .str x ∧ b = .str y ∧ szOk (x.length + y.length) ∧ Q (.str (x ++ y)) H) ∨ ∃ i j x y, a = .ref i ∧ b = .ref j ∧ H i = some x ∧ H j = some y ∧ szOk (x.items.length + y.items.length) ∧ newL (x.items ++ y.items) Q H := by
  unfold opAdd at h
  split at h
  · exact .inl ⟨_, _, rfl, rfl, h⟩
  · exact .inr (.inl ⟨_, _, rfl, rfl, h⟩)
  · split at h
    · rename_i e1 e2; exact .inr (.inr ⟨_, _, _, _, rfl, rfl, e1, e2, h⟩)
    · exact h.elim
  · exact h.elim
theorem op_add : SoundOp2 c n (binaryOp .Add) opAdd := by
  intro A H s va vb a b Q E hA h1 h2 S h
  rcases opAdd_elim h with ⟨x, y, rfl, rfl, h⟩ | ⟨x, y, rfl, rfl, h⟩ | ⟨i, j, x, y, rfl, rfl, ha, hb, h⟩
  · cases h1; cases h2; exact add_int (res_tok S (.int _ _) h)
  · cases h1 with
    | str _ t hx =>
    cases h2 with
    | str _ u hy =>
    refine add_str (fun t' tk => ?_) (by rw [str_len, str_len]; exact h.1)
    rw [str_app]
    exact res_tok S (.str _ _ (by simpa [or_imp, forall_and] using ⟨hx, hy⟩)) h.2
  · cases h1; cases h2
    obtain ⟨vs, k, hl, hv⟩ := S.hr.list i x ha
    obtain ⟨ws, k', hl', hv'⟩ := S.hr.list j y hb
    have l1 := hv.length
    have l2 := hv'.length
    refine PySem.P.add_list hl hl' (res_list S (by simpa using hv.append hv') h.2) ?_
    have := h.1; simp only [szOk] at this; rw [sizeLine_eq]
    simp at l1 l2; omega
theorem opSub_elim {a b : PV} {Q : PV → AH → Prop} {H : AH} (h : opSub a b Q H) : ∃ x y, a = .int x ∧ b = .int y ∧ Q (.int (x - y)) H := by
  unfold opSub at h
  split at h
  · exact ⟨_, _, rfl, rfl, h⟩
  · exact h.elim
theorem opMul_elim {a b : PV} {Q : PV → AH → Prop} {H : AH} (h : opMul a b Q H) : (∃ x y, a = .int x ∧ b = .int y ∧ IntMulOk x y ∧ Q (.int (x * y)) H) ∨ ∃ x k, a = .str x ∧ b = .int k ∧ (0 ≤ k ∧ k ≤ 1000 ∧ x.length ≤ 1000) ∧ Q (.str (List.replicate k.toNat x).flatten) H := by
  unfold opMul at h
  split at h
  · exact .inl ⟨_, _, rfl, rfl, h⟩
  · exact .inr ⟨_, _, rfl, rfl, h⟩
  · exact h.elim
theorem opDiv_elim {a b : PV} {Q : PV → AH → Prop} {H : AH} (h : opDiv a b Q H) : ∃ x y, a = .int x ∧ b = .int y ∧ (0 < y ∧ y < 1073741824) ∧ Q (.int (x / y)) H := by
  unfold opDiv at h
  split at h
  · exact ⟨_, _, rfl, rfl, h⟩
  · exact h.elim
theorem opMod_elim {a b : PV} {Q : PV → AH → Prop} {H : AH} (h : opMod a b Q H) : ∃ x y, a = .int x ∧ b = .int y ∧ 0 < y ∧ Q (.int (x % y)) H := by
  unfold opMod at h
  split at h
  · exact ⟨_, _, rfl, rfl, h⟩
  · exact h.elim
theorem op_sub : SoundOp2 c n (binaryOp .Sub) opSub := by
  intro A H s va vb a b Q E hA h1 h2 S h
  obtain ⟨x, y, rfl, rfl, h⟩ := opSub_elim h
  cases h1; cases h2
  exact sub_int (res_tok S (.int _ _) h)
theorem reps_flat (x : List Nat) : ∀ (k : Nat) (acc : Array Nat), ((List.replicate k x.toArray).foldl (· ++ ·) acc).toList = acc.toList ++ (List.replicate k x).flatten
  | 0, acc => by simp
  | k + 1, acc => by simp [List.replicate_succ, reps_flat x k]
theorem txt_mul (x : List Nat) {k : Int} (hk : 0 ≤ k) : Txt.mul ⟨x.toArray⟩ k = ⟨((List.replicate k.toNat x).flatten).toArray⟩ := by
  unfold Txt.mul
  split
  · have : k = 0 := by omega
    subst this; rfl
  · split
    · rename_i h1 h2
      rw [Bool.or_eq_true] at h2
      rcases h2 with h2 | h2
      · have : k = 1 := by simpa using h2
        subst this; simp
      · have : x = [] := by simpa [str_len] using h2
        subst this
        have : ∀ m, (List.replicate m ([] : List Nat)).flatten = [] := fun m => by induction m with | zero => rfl | succ m ih => simp [List.replicate_succ, ih]
        rw [this]
    · have := reps_flat x k.toNat #[]
      simp only [List.nil_append] at this
      rw [← this]
theorem op_mul : SoundOp2 c n (binaryOp .Mult) opMul := by
  intro A H s va vb a b Q E hA h1 h2 S h
  rcases opMul_elim h with ⟨x, y, rfl, rfl, h⟩ | ⟨x, k, rfl, rfl, ⟨k0, k1, k2⟩, h⟩
  · cases h1; cases h2; exact AutoIntOps.mul_0 (res_tok S (.int _ _) h.2) h.1
  · cases h1 with
    | str _ t hx =>
    cases h2
    refine SB.mul ⟨by rw [Bool.or_eq_false_iff]; exact ⟨decide_eq_false (by omega), decide_eq_false (by omega)⟩, fun h1 _ => ?_, fun h1 _ => ?_⟩ fun t' tk => ?_
    · rw [str_len]
      have : (1000 : Int) ≤ (2 ^ 63 - 1) / k := by
        rw [Int.le_ediv_iff_mul_le (by omega)]; omega
      omega
    · rw [str_len]
      unfold Builtin.Str.tooLong
      have : x.length * k.toNat ≤ 1000 * 1000 := Nat.mul_le_mul k2 (by omega)
      exact decide_eq_false (by rw [sizeLine_eq]; omega)
    · rw [txt_mul x k0]
      refine res_tok S (.str _ _ ?_) h
      intro ch hch
      obtain ⟨y, hy, hc⟩ := List.mem_flatten.mp hch
      rw [(List.mem_replicate.mp hy).2] at hc
      exact hx ch hc
theorem op_mod : SoundOp2 c n (binaryOp .Mod) opMod := by
  intro A H s va vb a b Q E hA h1 h2 S h
  obtain ⟨i, j, rfl, rfl, h⟩ := opMod_elim h
  cases h1; cases h2
  refine mod_int (by omega) ?_
  rw [Int.fmod_eq_emod_of_nonneg _ (by omega)]
  exact res_tok S (.int _ _) h.2
theorem op_div : SoundOp2 c n (binaryOp .FloorDiv) opDiv := by
  intro A H s va vb a b Q E hA h1 h2 S h
  obtain ⟨i, j, rfl, rfl, h⟩ := opDiv_elim h
  cases h1; cases h2
  refine floordiv_int (by omega) ?_ (.inl (PyProof.noPylong_small (by omega)))
  rw [Int.fdiv_eq_ediv_of_nonneg _ (by omega)]
  exact res_tok S (.int _ _) h.2
theorem op_neg : SoundOp1 c n (unaryOp .USub) (fun a Q H => match a with | .int x => Q (.int (-x)) H | _ => False) := by
  intro A H s va a Q E hA h1 S h
  cases h1 <;> simp only at h
  exact PyProof.Rows.neg_int (res_tok S (.int _ _) h)
end
end Mine
open PySem PySem.W PyProof.Rows
set_option Elab.async false
set_option linter.unusedVariables false
namespace Mine

-- comparisons
mutual
inductive Rd (H : AH) : Nat → PV → PyData → Prop
  | none (n : Nat) : Rd H n .none .none
  | bool (n : Nat) (b : Bool) : Rd H n (.bool b) (.bool b)
  | int (n : Nat) (i : Int) : Rd H n (.int i) (.int i)
  | str (n : Nat) (x : List Nat) : Rd H n (.str x) (.str ⟨x.toArray⟩)
  | tup {n : Nat} {ps : List PV} {ds : List PyData} : RdAll H n ps ds → Rd H (n + 1) (.tup ps) (.tuple ds)
  | ref {n : Nat} {a : Nat} {x : LO} {ds : List PyData} : H a = some x → RdAll H n x.items ds → Rd H (n + 1) (.ref a) (.list ds)
inductive RdAll (H : AH) : Nat → List PV → List PyData → Prop
  | nil (n : Nat) : RdAll H n [] []
  | cons {n : Nat} {p : PV} {d : PyData} {ps : List PV} {ds : List PyData} : Rd H n p d → RdAll H n ps ds → RdAll H n (p :: ps) (d :: ds)
end

/-- what a value reads as -/
def RdP (s : Shared) (n : Nat) (p : PV) (d : PyData) : Prop := ∀ v, VRel s.heap v p → (∃ as, Reads s.heap v d as) ∧ d.canLay0 = true ∧ d.depth ≤ n
def RdPs (s : Shared) (n : Nat) (ps : List PV) (ds : List PyData) : Prop := ∀ vs, VAll s.heap vs ps → (∃ as, ReadsAll s.heap vs ds as) ∧ PyData.canLayAll0 ds = true ∧ PyData.depthAll ds ≤ n
section
variable {base : Heap} {H : AH} {s : Shared}
theorem rp_none (n : Nat) : RdP s n .none .none := fun v hv => by cases hv; exact ⟨⟨_, .none⟩, rfl, Nat.zero_le _⟩
theorem rp_bool (n : Nat) (b : Bool) : RdP s n (.bool b) (.bool b) := fun v hv => by cases hv; exact ⟨⟨_, .bool b⟩, rfl, Nat.zero_le _⟩
theorem rp_int (n : Nat) (i : Int) : RdP s n (.int i) (.int i) := fun v hv => by cases hv; exact ⟨⟨_, .int i _⟩, rfl, Nat.zero_le _⟩
theorem rp_str (n : Nat) (x : List Nat) : RdP s n (.str x) (.str ⟨x.toArray⟩) := fun v hv => by
  cases hv with
  | str _ t hx =>
    refine ⟨⟨_, .str _ _⟩, ?_, Nat.zero_le _⟩
    simp only [PyData.canLay0, PyData.strOk]
    simpa using hx
theorem rp_tup {n : Nat} {ps : List PV} {ds : List PyData} (h : RdPs s n ps ds) : RdP s (n + 1) (.tup ps) (.tuple ds) := fun v hv => by
  cases hv with
  | tup ht hvs =>
    obtain ⟨⟨as, h1⟩, h2, h3⟩ := h _ hvs
    refine ⟨⟨_, .tuple ht rfl rfl (by simpa using h1)⟩, h2, ?_⟩
    simp only [PyData.depth]; omega
theorem rp_ref (S : St base H s) {n : Nat} {a : Nat} {x : LO} {ds : List PyData} (ha : H a = some x) (h : RdPs s n x.items ds) : RdP s (n + 1) (.ref a) (.list ds) := fun v hv => by
  cases hv with
  | ref a =>
    obtain ⟨vs, k, hl, hvs⟩ := S.hr.list _ _ ha
    obtain ⟨⟨as, h1⟩, h2, h3⟩ := h _ hvs
    refine ⟨⟨_, .list hl rfl rfl h1⟩, h2, ?_⟩
    simp only [PyData.depth]; omega
theorem rp_nil (n : Nat) : RdPs s n [] [] := fun vs hv => by cases hv; exact ⟨⟨_, .nil⟩, rfl, Nat.zero_le _⟩
theorem rp_cons {n : Nat} {p : PV} {d : PyData} {ps : List PV} {ds : List PyData} (h : RdP s n p d) (r : RdPs s n ps ds) : RdPs s n (p :: ps) (d :: ds) := fun vs hv => by
  cases hv with
  | cons h1 h2 =>
    obtain ⟨⟨as, k1⟩, k2, k3⟩ := h _ h1
    obtain ⟨⟨bs, m1⟩, m2, m3⟩ := r _ h2
    refine ⟨⟨_, .cons k1 m1⟩, ?_, ?_⟩
    · simp [PyData.canLayAll0, k2, m2]
    · simp only [PyData.depthAll]; omega
theorem Rd.reads (S : St base H s) {n : Nat} {p : PV} {d : PyData} (h : Rd H n p d) : RdP s n p d :=
  Rd.rec (motive_1 := fun n p d _ => RdP s n p d) (motive_2 := fun n ps ds _ => RdPs s n ps ds) rp_none rp_bool rp_int rp_str (fun _ h => rp_tup h) (fun ha _ h => rp_ref S ha h) rp_nil (fun _ _ h r => rp_cons h r) h
theorem RdAll.reads (S : St base H s) {n : Nat} {ps : List PV} {ds : List PyData} (h : RdAll H n ps ds) : RdPs s n ps ds :=
  RdAll.rec (motive_1 := fun n p d _ => RdP s n p d) (motive_2 := fun n ps ds _ => RdPs s n ps ds) rp_none rp_bool rp_int rp_str (fun _ h => rp_tup h) (fun ha _ h => rp_ref S ha h) rp_nil (fun _ _ h r => rp_cons h r) h
end

def cmpEq (a b : PV) (Q : Bool → AH → Prop) (H : AH) : Prop := match a, b with
  | .int x, .int y => Q (decide (x = y)) H
  | .str x, .str y => Q (decide (x = y)) H
  | .bool x, .bool y => Q (decide (x = y)) H
  | a, b => ∃ d e, Rd H 20 a d ∧ Rd H 20 b e ∧ Q (PyData.eqv d e) H
def occIn (y x : List Nat) : Bool := !(Builtin.Str.occurrences ⟨x.toArray⟩ ⟨y.toArray⟩ 0 x.length 1).isEmpty
def cmpIn (a b : PV) (Q : Bool → AH → Prop) (H : AH) : Prop := match b with
  | .str x => (match a with | .str y => Q (occIn y x) H | _ => False)
  | .tup ps => ∃ d ds, Rd H 20 a d ∧ RdAll H 20 ps ds ∧ Q (ds.any fun y => PyData.eqv y d) H
  | .ref l => (match H l with | some x => ∃ d ds, Rd H 20 a d ∧ RdAll H 20 x.items ds ∧ Q (ds.any fun y => PyData.eqv y d) H | none => False)
  | _ => False
def cmpIs (a b : PV) (Q : Bool → AH → Prop) (H : AH) : Prop := match a, b with
  | .none, .none => Q true H
  | _, .none => Q false H
  | .bool x, .bool y => Q (decide (x = y)) H
  | _, _ => False
def cmpLt (f : Int → Int → Bool) (a b : PV) (Q : Bool → AH → Prop) (H : AH) : Prop := match a, b with
  | .int x, .int y => Q (f x y) H
  | _, _ => False
def cmpOp (op : CmpOp) (a b : PV) (Q : Bool → AH → Prop) (H : AH) : Prop := match op with
  | .Eq => cmpEq a b Q H
  | .NotEq => cmpEq a b (fun r H => Q (!r) H) H
  | .Lt => cmpLt (fun x y => decide (x < y)) a b Q H
  | .LtE => cmpLt (fun x y => decide (x ≤ y)) a b Q H
  | .Gt => cmpLt (fun x y => decide (x > y)) a b Q H
  | .GtE => cmpLt (fun x y => decide (x ≥ y)) a b Q H
  | .Is => cmpIs a b Q H
  | .IsNot => cmpIs a b (fun r H => Q (!r) H) H
  | .In => cmpIn a b Q H
  | .NotIn => cmpIn a b (fun r H => Q (!r) H) H

section
variable {c : Cx} {n : Nat} {sc : SE}

theorem bd {α : Type} [DecidableEq α] (x y : α) : (x == y) = decide (x = y) := by by_cases h : x = y <;> simp [h]
theorem mk_inj (x y : List Nat) : ((⟨x.toArray⟩ : Str) == ⟨y.toArray⟩) = decide (x = y) := by
  by_cases h : x = y
  · subst h; simp
  · have : ¬ ((⟨x.toArray⟩ : Str) = ⟨y.toArray⟩) := by simpa using h
    simp [h]

/-- all comparisons of equality by what is read -/
theorem cmpEq_reads {base : Heap} {A : Around} {H : AH} {s : Shared} {va vb : Value} {a b : PV} {Q : Bool → AH → Prop} (hA : AOk n A) (h1 : VRel s.heap va a) (h2 : VRel s.heap vb b) (S : St base H s) (h : cmpEq a b Q H) :
    ∃ d e as bs, Reads s.heap va d as ∧ Reads s.heap vb e bs ∧ d.canLay0 = true ∧ e.canLay0 = true ∧ A.units + min d.depth e.depth < cLine ∧ Q (PyData.eqv d e) H := by
  have key : (∃ d e, Rd H 20 a d ∧ Rd H 20 b e ∧ Q (PyData.eqv d e) H) := by
    unfold cmpEq at h
    split at h
    · refine ⟨_, _, .int _ _, .int _ _, ?_⟩
      rename_i x y
      have e : PyData.eqv (.int x) (.int y) = decide (x = y) := bd x y
      rw [e]; exact h
    · refine ⟨_, _, .str _ _, .str _ _, ?_⟩
      rename_i x y
      have e : PyData.eqv (.str ⟨x.toArray⟩) (.str ⟨y.toArray⟩) = decide (x = y) := by
        show ((⟨x.toArray⟩ : Str) == ⟨y.toArray⟩) = _
        exact mk_inj x y
      rw [e]; exact h
    · refine ⟨_, _, .bool _ _, .bool _ _, ?_⟩
      rename_i x y
      have e : PyData.eqv (.bool x) (.bool y) = decide (x = y) := by cases x <;> cases y <;> rfl
      rw [e]; exact h
    · exact h
  obtain ⟨d, e, k1, k2, k3⟩ := key
  obtain ⟨⟨as, m1⟩, m2, m3⟩ := k1.reads S va h1
  obtain ⟨⟨bs, l1⟩, l2, l3⟩ := k2.reads S vb h2
  refine ⟨d, e, as, bs, m1, l1, m2, l2, ?_, k3⟩
  have := hA.units
  simp only [cLine]
  omega

theorem cmpLt_elim {f : Int → Int → Bool} {a b : PV} {Q : Bool → AH → Prop} {H : AH} (h : cmpLt f a b Q H) : ∃ x y, a = .int x ∧ b = .int y ∧ Q (f x y) H := by
  unfold cmpLt at h
  split at h
  · exact ⟨_, _, rfl, rfl, h⟩
  · exact h.elim
theorem in_sound {A : Around} {H : AH} {s : Shared} {va vb : Value} {a b : PV} {Q : Bool → AH → Prop} {E : Value → Shared → Prop} (hA : AOk n A) (h1 : VRel s.heap va a) (h2 : VRel s.heap vb b) (S : St c.base H s) (h : cmpIn a b Q H) :
    ∃ r, Q r H ∧ (∀ P : Value → Shared → Prop, P (.bool r) s → wpAny (model c.prog c.w) A (compareOp .In va vb) P E s) ∧ ∀ P : Value → Shared → Prop, P (.bool (!r)) s → wpAny (model c.prog c.w) A (compareOp .NotIn va vb) P E s := by
  have hu := hA.units
  unfold cmpIn at h
  split at h
  · rename_i x
    split at h
    · rename_i y
      cases h1 with
      | str _ u hy =>
      cases h2 with
      | str _ t hx =>
      exact ⟨_, h, fun P p => in_str (by rw [str_len]; exact p), fun P p => notIn_str (by rw [str_len]; exact p)⟩
    · exact h.elim
  · obtain ⟨d, ds, k1, k2, k3⟩ := h
    cases h2 with
    | tup ht hvs =>
      obtain ⟨⟨as, m1⟩, m2, m3⟩ := k1.reads S va h1
      obtain ⟨⟨bs, l1⟩, l2, l3⟩ := k2.reads S _ hvs
      have hc : A.units + d.depth < cLine := by simp only [cLine]; omega
      exact ⟨_, k3, fun P p => SeqAt.in_tuple_reads (.tuple ht rfl rfl (by simpa using l1)) m1 l2 m2 (by simp only [cLine]; omega) p, fun P p => SeqAt.notIn_tuple_reads (.tuple ht rfl rfl (by simpa using l1)) m1 l2 m2 (by simp only [cLine]; omega) p⟩
  · rename_i l
    split at h
    · rename_i x hl
      obtain ⟨d, ds, k1, k2, k3⟩ := h
      cases h2
      obtain ⟨vs, k, hl', hvs⟩ := S.hr.list _ _ hl
      obtain ⟨⟨as, m1⟩, m2, m3⟩ := k1.reads S va h1
      obtain ⟨⟨bs, l1⟩, l2, l3⟩ := k2.reads S _ hvs
      exact ⟨_, k3, fun P p => SeqAt.in_list_reads (.list hl' rfl rfl l1) m1 l2 m2 (by simp only [cLine]; omega) p, fun P p => SeqAt.notIn_list_reads (.list hl' rfl rfl l1) m1 l2 m2 (by simp only [cLine]; omega) p⟩
    · exact h.elim
  · exact h.elim
theorem cmpIs_elim {a b : PV} {Q : Bool → AH → Prop} {H : AH} (h : cmpIs a b Q H) : b = .none ∨ ∃ x y, a = .bool x ∧ b = .bool y ∧ Q (decide (x = y)) H := by
  unfold cmpIs at h
  split at h
  · exact .inl rfl
  · exact .inl rfl
  · exact .inr ⟨_, _, rfl, rfl, h⟩
  · exact h.elim
theorem op_cmp (op : CmpOp) : SoundOp2 c n (compareOp op) (fun a b Q H => cmpOp op a b (fun r H' => Q (.bool r) H') H) := by
  intro A H s va vb a b Q E hA h1 h2 S h
  have fin : ∀ r : Bool, Q (.bool r) H → Res c H s Q (.bool r) s := fun r q => res_pure S (.bool r) q
  cases op <;> simp only [cmpOp] at h
  case Eq =>
    obtain ⟨d, e, as, bs, k1, k2, k3, k4, k5, k6⟩ := cmpEq_reads hA h1 h2 S h
    exact SeqAt.compareEq_reads k1 k2 k3 k4 k5 (fin _ k6)
  case NotEq =>
    obtain ⟨d, e, as, bs, k1, k2, k3, k4, k5, k6⟩ := cmpEq_reads hA h1 h2 S h
    exact SeqAt.compareNe_reads k1 k2 k3 k4 k5 (fin _ k6)
  case Lt =>
    obtain ⟨x, y, rfl, rfl, h⟩ := cmpLt_elim h
    cases h1; cases h2
    exact lt_int (fin _ h)
  case LtE =>
    obtain ⟨x, y, rfl, rfl, h⟩ := cmpLt_elim h
    cases h1; cases h2
    exact le_int (fin _ h)
  case Gt =>
    obtain ⟨x, y, rfl, rfl, h⟩ := cmpLt_elim h
    cases h1; cases h2
    exact gt_int (fin _ h)
  case GtE =>
    obtain ⟨x, y, rfl, rfl, h⟩ := cmpLt_elim h
    cases h1; cases h2
    exact ge_int (fin _ h)
  case Is =>
    rcases cmpIs_elim h with rfl | ⟨x, y, rfl, rfl, q⟩
    · cases h2; cases h1 <;> exact is_none_gen (fin _ h)
    · cases h1; cases h2; exact is_bool (by rw [bd]; exact fin _ q)
  case IsNot =>
    rcases cmpIs_elim h with rfl | ⟨x, y, rfl, rfl, q⟩
    · cases h2; cases h1 <;> exact isnot_none_gen (fin _ h)
    · cases h1; cases h2; exact isnot_bool (by rw [bne, bd]; exact fin _ q)
  case In =>
    obtain ⟨r, q, k1, _⟩ := in_sound (E := E) hA h1 h2 S h
    exact k1 _ (fin _ q)
  case NotIn =>
    obtain ⟨r, q, _, k2⟩ := in_sound (E := E) hA h1 h2 S h
    exact k2 _ (fin _ q)

/-- what is behind «in» is no display of a set -/
def aCmp (op : CmpOp) (l r : AE) : AE := aBin (fun a b Q H => cmpOp op a b (fun r H' => Q (.bool r) H') H) l r
-- truth
def truth (a : PV) (Q : Bool → AH → Prop) (H : AH) : Prop := match a with
  | .none => Q false H
  | .bool b => Q b H
  | .int i => Q (decide (i ≠ 0)) H
  | .str x => szOk x.length ∧ Q (!x.isEmpty) H
  | .ref a => (match H a with | some x => szOk x.items.length ∧ Q (!x.items.isEmpty) H | none => False)
  | .tup _ => False
  | .rng _ _ => False
-- tests
def tVal (l : AE) : AT := fun Q ρ H => l (fun a H1 => truth a Q H1) ρ H
def tNot (l : AT) : AT := fun Q ρ H => l (fun b H1 => Q (!b) H1) ρ H
def tAnd (l r : AT) : AT := fun Q ρ H => l (fun b H1 => if b then r Q ρ H1 else Q false H1) ρ H
def tOr (l r : AT) : AT := fun Q ρ H => l (fun b H1 => if b then Q true H1 else r Q ρ H1) ρ H
def tTrue : AT := fun Q _ H => Q true H
def tFalse : AT := fun Q _ H => Q false H
def tCmp (op : CmpOp) (l r : AE) : AT := fun Q ρ H => l (fun a H1 => r (fun b H2 => cmpOp op a b Q H2) ρ H1) ρ H
def tCmp2 (op : CmpOp) (l : AE) (op' : CmpOp) (m r : AE) : AT := fun Q ρ H => l (fun a H1 => m (fun b H2 => cmpOp op a b (fun k H3 => if k then r (fun d H4 => cmpOp op' b d Q H4) ρ H3 else Q false H3) H2) ρ H1) ρ H

theorem test_not {e : Expr} {pos : Pos} {al : AT} (hl : SoundT c n sc e al) : SoundT c n sc (.UnaryOp .Not e pos) (tNot al) := by
  intro A env ρ H s Q E hA he R S h
  exact wpAny_isTrue_Not (hl A env ρ H s (fun b H1 => Q (!b) H1) E hA he R S h)
theorem bool_mono {A : Around} {H : AH} {s : Shared} {t : Sem Bool} {F : Bool → AH → Prop} {P : Bool → Shared → Prop} {E : Value → Shared → Prop} (h : wpAny (model c.prog c.w) A t (ResB c H s F) E s)
    (k : ∀ b H1 s1, St c.base H1 s1 → Ext No No H s H1 s1 → F b H1 → P b s1) : wpAny (model c.prog c.w) A t P E s :=
  wpAny_mono h (fun b s1 rr => rr.elim fun H1 S1 e1 q1 => k b H1 s1 S1 e1 q1) fun _ _ x => x
/-- a row of tests joined by and, or -/
def SoundAnd (c : Cx) (n : Nat) (sc : SE) (op : BoolOp) (es : List Expr) (a : AT) : Prop :=
  ∀ (A : Around) (env : Env) (ρ : AEnv) (H : AH) (s : Shared) (Q : Bool → AH → Prop) (E : Value → Shared → Prop), AOk n A → EOk sc env → ER c.base c.N env ρ s.heap → St c.base H s → a Q ρ H →
    wpAny (model c.prog c.w) A (allTrue op es env) (ResB c H s Q) E s
theorem and_nil : SoundAnd c n sc .And [] tTrue := fun _ _ _ H _ _ _ _ _ _ S h => wpAny_allTrue_And_nil ⟨H, S, .refl, h⟩
theorem or_nil : SoundAnd c n sc .Or [] tFalse := fun _ _ _ H _ _ _ _ _ _ S h => wpAny_allTrue_Or_nil ⟨H, S, .refl, h⟩
theorem and_cons {e : Expr} {es : List Expr} {a b : AT} (h1 : SoundT c n sc e a) (h2 : SoundAnd c n sc .And es b) : SoundAnd c n sc .And (e :: es) (tAnd a b) := by
  intro A env ρ H s Q E hA he R S h
  refine wpAny_allTrue_And_cons (bool_mono (h1 A env ρ H s _ E hA he R S h) fun k H1 s1 S1 e1 q1 => ?_)
  cases k with
  | true => exact wpAny_mono (h2 A env ρ H1 s1 Q E hA he (R.ext0 S e1) S1 (by simpa using q1)) (fun _ _ r => r.trans e1) fun _ _ x => x
  | false => exact ⟨H1, S1, e1, by simpa using q1⟩
theorem or_cons {e : Expr} {es : List Expr} {a b : AT} (h1 : SoundT c n sc e a) (h2 : SoundAnd c n sc .Or es b) : SoundAnd c n sc .Or (e :: es) (tOr a b) := by
  intro A env ρ H s Q E hA he R S h
  refine wpAny_allTrue_Or_cons (bool_mono (h1 A env ρ H s _ E hA he R S h) fun k H1 s1 S1 e1 q1 => ?_)
  cases k with
  | false => exact wpAny_mono (h2 A env ρ H1 s1 Q E hA he (R.ext0 S e1) S1 (by simpa using q1)) (fun _ _ r => r.trans e1) fun _ _ x => x
  | true => exact ⟨H1, S1, e1, by simpa using q1⟩
theorem test_bool {op : BoolOp} {es : List Expr} {pos : Pos} {a : AT} (h : SoundAnd c n sc op es a) : SoundT c n sc (.BoolOp op es pos) a :=
  fun A env ρ H s Q E hA he R S q => wpAny_isTrue_BoolOp (h A env ρ H s Q E hA he R S q)
theorem cmpEq_mono {a b : PV} {F G : Bool → AH → Prop} {H : AH} (hFG : ∀ k H, F k H → G k H) (hF : cmpEq a b F H) : cmpEq a b G H := by
  unfold cmpEq at *
  split <;> simp_all only []
  obtain ⟨d, e, x1, x2, x3⟩ := hF; exact ⟨d, e, x1, x2, hFG _ _ x3⟩
theorem cmpIn_mono {a b : PV} {F G : Bool → AH → Prop} {H : AH} (hFG : ∀ k H, F k H → G k H) (hF : cmpIn a b F H) : cmpIn a b G H := by
  unfold cmpIn at *
  split <;> simp_all only []
  · split <;> simp_all only []
  · obtain ⟨d, e, x1, x2, x3⟩ := hF; exact ⟨d, e, x1, x2, hFG _ _ x3⟩
  · split <;> simp_all only []
    obtain ⟨d, e, x1, x2, x3⟩ := hF; exact ⟨d, e, x1, x2, hFG _ _ x3⟩
theorem cmpIs_mono {a b : PV} {F G : Bool → AH → Prop} {H : AH} (hFG : ∀ k H, F k H → G k H) (hF : cmpIs a b F H) : cmpIs a b G H := by
  unfold cmpIs at *
  split <;> simp_all only []
theorem cmpLt_mono {f : Int → Int → Bool} {a b : PV} {F G : Bool → AH → Prop} {H : AH} (hFG : ∀ k H, F k H → G k H) (hF : cmpLt f a b F H) : cmpLt f a b G H := by
  unfold cmpLt at *
  split <;> simp_all only []
theorem cmpOp_mono {op : CmpOp} {a b : PV} {F G : Bool → AH → Prop} {H : AH} (hFG : ∀ k H, F k H → G k H) (hF : cmpOp op a b F H) : cmpOp op a b G H := by
  cases op <;> simp only [cmpOp] at hF ⊢
  · exact cmpEq_mono hFG hF
  · exact cmpEq_mono (fun k H q => hFG _ _ q) hF
  · exact cmpLt_mono hFG hF
  · exact cmpLt_mono hFG hF
  · exact cmpLt_mono hFG hF
  · exact cmpLt_mono hFG hF
  · exact cmpIs_mono hFG hF
  · exact cmpIs_mono (fun k H q => hFG _ _ q) hF
  · exact cmpIn_mono hFG hF
  · exact cmpIn_mono (fun k H q => hFG _ _ q) hF
theorem cmp_bool {A : Around} {op : CmpOp} {H : AH} {s : Shared} {va vb : Value} {a b : PV} {Q : Bool → AH → Prop} {E : Value → Shared → Prop} {P : Value → Shared → Prop} (hA : AOk n A) (h1 : VRel s.heap va a) (h2 : VRel s.heap vb b) (S : St c.base H s) (h : cmpOp op a b Q H)
    (k : ∀ r H' s', St c.base H' s' → Ext No No H s H' s' → Q r H' → P (.bool r) s') : wpAny (model c.prog c.w) A (compareOp op va vb) P E s := by
  refine wpAny_mono (op_cmp op A H s va vb a b (fun p H' => ∃ k, p = .bool k ∧ Q k H') E hA h1 h2 S (cmpOp_mono (fun k H q => ⟨k, rfl, q⟩) h)) (fun v s3 ⟨p, H3, k1, S3, e3, r, hr, k4⟩ => ?_) fun _ _ x => x
  subst hr; cases k1
  exact k r H3 s3 S3 e3 k4
theorem test_cmp {l r : Expr} {op : CmpOp} {pos : Pos} {al ar : AE} (hl : SoundE c n sc l al) (hr : SoundE c n sc r ar) (hm : behindInMarks op r = false) : SoundT c n sc (.Compare l [op] [r] pos) (tCmp op al ar) := by
  intro A env ρ H s Q E hA he R S h
  refine wpAny_isTrue_Compare1 (seq2 (F := fun a b H2 => cmpOp op a b Q H2) hl hr hA he R S h ?_) hm
  intro va vb a b H2 s2 h1 h2 R2 S2 e2 q2
  exact cmp_bool hA h1 h2 S2 q2 fun r H3 s3 S3 e3 q3 => wpAny_truthy_bool ⟨H3, S3, e2.trans e3, q3⟩
theorem wp_rel {M : Model} {A : Around} {vs keep : List Value} {Q : Unit → Shared → Prop} {E : Value → Shared → Prop} {s : Shared} (h : Q () s) : wpAny M A (release vs keep) Q E s := fun Γ p _ => by rw [Sem.wp_release]; exact h
theorem test_cmp2 {l m r : Expr} {op op' : CmpOp} {pos : Pos} {al am ar : AE} (hl : SoundE c n sc l al) (hm : SoundE c n sc m am) (hr : SoundE c n sc r ar) (hb : behindInMarks op' r = false) :
    SoundT c n sc (.Compare l [op, op'] [m, r] pos) (tCmp2 op al op' am ar) := by
  intro A env ρ H s Q E hA he R S h
  have e0 : isTrue (.Compare l [op, op'] [m, r] pos) env (eval (.Compare l [op, op'] [m, r] pos) env) = (do testChain pos (← eval l env) [op, op'] [eval m env, markedBehindIn op' r (eval r env)]) := rfl
  rw [e0, markedBehindIn_of_false hb]
  refine wpAny_bind (seq1 (F := fun a H1 => am (fun b H2 => cmpOp op a b (fun k H3 => if k then ar (fun d H4 => cmpOp op' b d Q H4) ρ H3 else Q false H3) H2) ρ H1) hl hA he R S h ?_)
  intro va a H1 s1 h1 R1 S1 e1 q1
  show wpAny _ _ (holding [va] (eval m env) >>= _) _ _ _
  refine wpAny_bind (wpAny_holding (seq1 (F := fun b H2 => cmpOp op a b (fun k H3 => if k then ar (fun d H4 => cmpOp op' b d Q H4) ρ H3 else Q false H3) H2) hm hA he R1 S1 q1 ?_))
  intro vb b H2 s2 h2 R2 S2 e2 q2
  refine wpAny_bind (wpAny_standAt (wpAny_bind (wpAny_holding (cmp_bool hA (h1.ext0 S1 e2) h2 S2 q2 ?_))))
  intro k H3 s3 S3 e3 q3
  have R3 := R2.ext0 S2 e3
  have e123 := (e1.trans e2).trans e3
  refine wpAny_bind (wp_rel (wpAny_bind (wpAny_holding (wpAny_truthy_bool ?_))))
  cases k with
  | false => exact wpAny_pure ⟨H3, S3, e123, by simpa using q3⟩
  | true =>
    simp only [if_true] at q3 ⊢
    show wpAny _ _ (holding [vb] (eval r env) >>= _) _ _ _
    refine wpAny_bind (wpAny_holding (seq1 (F := fun d H4 => cmpOp op' b d Q H4) hr hA he R3 S3 q3 ?_))
    intro vd d H4 s4 h4 R4 S4 e4 q4
    refine wpAny_bind (wpAny_standAt (wpAny_bind (wpAny_operating (cmp_bool hA ((h2.ext0 S2 e3).ext0 S3 e4) h4 S4 q4 ?_))))
    intro k H5 s5 S5 e5 q5
    exact wpAny_holding (wpAny_truthy_bool ⟨H5, S5, (e123.trans e4).trans e5, q5⟩)

-- values by tests
def aNot (l : AE) : AE := fun Q ρ H => l (fun a H1 => truth a (fun b H2 => Q (.bool (!b)) H2) H1) ρ H
def aIf (t : AT) (l r : AE) : AE := fun Q ρ H => t (fun b H1 => if b then l Q ρ H1 else r Q ρ H1) ρ H
theorem sound_if {e l r : Expr} {pos : Pos} {t : AT} {al ar : AE} (ht : SoundT c n sc e t) (hl : SoundE c n sc l al) (hr : SoundE c n sc r ar) : SoundE c n sc (.IfExp e l r pos) (aIf t al ar) := by
  intro A env ρ H s Q E hA he R S h
  refine wpAny_IfExp (bool_mono (ht A env ρ H s _ E hA he R S h) fun b H1 s1 S1 e1 q1 => ?_)
  cases b with
  | true => exact wpAny_mono (hl A env ρ H1 s1 Q E hA he (R.ext0 S e1) S1 (by simpa using q1)) (fun _ _ r => r.trans e1) fun _ _ x => x
  | false => exact wpAny_mono (hr A env ρ H1 s1 Q E hA he (R.ext0 S e1) S1 (by simpa using q1)) (fun _ _ r => r.trans e1) fun _ _ x => x
/-- and, or as values -/
def aAnd (l r : AE) : AE := fun Q ρ H => l (fun a H1 => truth a (fun b H2 => if b then r Q ρ H2 else Q a H2) H1) ρ H
def aOr (l r : AE) : AE := fun Q ρ H => l (fun a H1 => truth a (fun b H2 => if b then Q a H2 else r Q ρ H2) H1) ρ H
def SoundBo (c : Cx) (n : Nat) (sc : SE) (op : BoolOp) (es : List Expr) (a : AE) : Prop :=
  ∀ (A : Around) (env : Env) (ρ : AEnv) (H : AH) (s : Shared) (Q : PV → AH → Prop) (E : Value → Shared → Prop) (pos : Pos), AOk n A → EOk sc env → ER c.base c.N env ρ s.heap → St c.base H s → a Q ρ H →
    wpAny (model c.prog c.w) A (boolOp pos op (evalEach es env)) (Res c H s Q) E s
-- rows of expressions, displays
def lNil : AL := fun Q _ H => Q [] H
def lCons (a : AE) (l : AL) : AL := fun Q ρ H => a (fun p H1 => l (fun ps H2 => Q (p :: ps) H2) ρ H1) ρ H
theorem list_nil : SoundL c n sc [] lNil := fun _ _ _ H _ _ _ _ _ _ _ S h => wpAny_items_nil ⟨[], H, .nil, S, .refl, h⟩
theorem list_cons {e : Expr} {es : List Expr} {a : AE} {l : AL} (h : SoundE c n sc e a) (k : SoundL c n sc es l) (hs : ∀ env, starEach (e :: es) env = (false, eval e env) :: starEach es env) : SoundL c n sc (e :: es) (lCons a l) := by
  intro A env ρ H s Q E pos hA he R S q
  refine wpAny_items_cons (seq1 (F := fun p H1 => l (fun ps H2 => Q (p :: ps) H2) ρ H1) h hA he R S q ?_) (hs env)
  intro va a H1 s1 h1 R1 S1 e1 q1
  exact wpAny_mono (k A env ρ H1 s1 _ E pos hA he R1 S1 q1) (fun vs s2 rr => rr.elim fun ps H2 h2 S2 e2 q2 => ⟨a :: ps, H2, .cons (h1.ext0 S1 e2) h2, S2, e1.trans e2, q2⟩) fun _ _ x => x
def aTup (l : AL) : AE := fun Q ρ H => l (fun ps H1 => szOk ps.length ∧ Q (.tup ps) H1) ρ H
def aList (l : AL) : AE := fun Q ρ H => l (fun ps H1 => szOk ps.length ∧ newL ps Q H1) ρ H
theorem sz_line {k : Nat} (h : szOk k) : k ≤ sizeLine := by rw [sizeLine_eq]; simpa [szOk] using h
theorem sound_tup {es : List Expr} {k : Nat} {pos : Pos} {l : AL} (h : SoundL c n sc es l) : SoundE c n sc (.Tuple es k pos) (aTup l) := by
  intro A env ρ H s Q E hA he R S q
  exact wpAny_Tuple (wpAny_mono (h A env ρ H s _ E pos hA he R S q) (fun vs s1 rr => rr.elim fun ps H1 h1 S1 e1 q1 => ⟨by rw [h1.length]; exact sz_line q1.1, (res_tuple S1 h1 q1.2).trans e1⟩) fun _ _ x => x)
theorem sound_list {es : List Expr} {pos : Pos} {l : AL} (h : SoundL c n sc es l) : SoundE c n sc (.List es pos) (aList l) := by
  intro A env ρ H s Q E hA he R S q
  exact wpAny_List (wpAny_mono (h A env ρ H s _ E pos hA he R S q) (fun vs s1 rr => rr.elim fun ps H1 h1 S1 e1 q1 => ⟨by rw [h1.length]; exact sz_line q1.1, (res_list S1 (by simpa using h1) q1.2).trans e1⟩) fun _ _ x => x)
end
end Mine
open PySem PySem.W PyProof.Rows
set_option Elab.async false
set_option linter.unusedVariables false
namespace Mine

theorem imm_data {h : Heap} {a : Addr} {o : Obj} (x : Imm h a o) : (∃ vs n, o.data = .seq vs n) ∨ ∃ vs, o.data = .fields vs := x.2.imp (fun q => q.2) fun q => q.2

section
variable {c : Cx} {n : Nat} {sc : SE}

theorem imm_upd {h h' : Heap} {a : Addr} (hs : Heap.SameBut a h h') (hd : ∀ o, h.get? a = some o → (∃ es ep, o.data = .dict es ep) ∨ ∃ v, o.data = .cell v) : ∀ b o, Imm h b o → h'.get? b = some o := by
  intro b o hb
  have : b ≠ a := by
    rintro rfl
    rcases hd o hb.1 with ⟨es, ep, e1⟩ | ⟨v, e1⟩ <;> rcases imm_data hb with ⟨vs, k, e2⟩ | ⟨vs, e2⟩ <;> rw [e1] at e2 <;> cases e2
  exact (hs.2 b this).trans hb.1
theorem vrel_upd {h h' : Heap} {a : Addr} (hs : Heap.SameBut a h h') (hd : ∀ o, h.get? a = some o → (∃ es ep, o.data = .dict es ep) ∨ ∃ v, o.data = .cell v) {v : Value} {p : PV} (hv : VRel h v p) : VRel h' v p := hv.mono (imm_upd hs hd)

theorem st_upd {base : Heap} {H : AH} {s : Shared} {h' : Heap} {a : Addr} {tk : Nat} (S : St base H s) (hs : Heap.SameBut a s.heap h') (hb : base.get? a = none) (hd : ∀ o, s.heap.get? a = some o → (∃ es ep, o.data = .dict es ep) ∨ ∃ v, o.data = .cell v) :
    St base H { s with heap := h', toks := tk } where
  hr := {
    keep := fun b o h => by
      have : b ≠ a := by rintro rfl; rw [hb] at h; cases h
      exact (hs.2 b this).trans (S.hr.keep b o h)
    list := fun b x h => by
      obtain ⟨vs, k, hl, hv⟩ := S.hr.list b x h
      have : b ≠ a := by
        rintro rfl
        rcases hd _ hl with ⟨es, ep, e⟩ | ⟨v, e⟩ <;> cases e
      exact ⟨vs, k, (hs.2 b this).trans hl, hv.mono (imm_upd hs hd)⟩
    new := S.hr.new }
  bare := S.bare
theorem ext_upd {X Y : Nat → Prop} {H : AH} {s : Shared} {h' : Heap} {a : Addr} {tk : Nat} (hs : Heap.SameBut a s.heap h') (hX : X a) : Ext X Y H s H { s with heap := h', toks := tk } :=
  ⟨fun b o h hx _ => (hs.2 b (fun e => hx (e ▸ hX))).trans h, Nat.le_of_eq hs.1.symm, fun _ x h => .inl ⟨x, h, rfl⟩, fun _ _ h _ => h, Nat.le_refl _, rfl⟩

theorem ns_dict {h : Heap} {a : Addr} {m : Str → Option Value} (hn : h.Ns a m) : ∀ o, h.get? a = some o → (∃ es ep, o.data = .dict es ep) ∨ ∃ v, o.data = .cell v := by
  intro o ho
  obtain ⟨o', es, ep, ho', hd, _⟩ := hn
  rw [ho] at ho'; cases ho'; exact .inl ⟨es, ep, hd⟩
theorem cell_dict {h : Heap} {a : Addr} {w : Option Value} (hn : h.IsCell a w) : ∀ o, h.get? a = some o → (∃ es ep, o.data = .dict es ep) ∨ ∃ v, o.data = .cell v := by
  intro o ho
  obtain ⟨o', ho', hd⟩ := hn
  rw [ho] at ho'; cases ho'; exact .inr ⟨w, hd⟩
theorem ns_ne_cell {h : Heap} {a b : Addr} {m : Str → Option Value} {v : Option Value} (hn : h.Ns a m) (hc : h.IsCell b v) : b ≠ a := by
  rintro rfl
  obtain ⟨o, ho, hd⟩ := hc
  obtain ⟨o', es, ep, ho', hd', _⟩ := hn
  rw [ho] at ho'; cases ho'; rw [hd] at hd'; cases hd'

theorem store_var {A : Around} {env : Env} {ρ : AEnv} {H : AH} {s : Shared} {Q : Unit → Shared → Prop} {E : Value → Shared → Prop} {x : Str} {k : Nat} {v : Value} {p : PV} (he : EOk sc env) (R : ER c.base c.N env ρ s.heap) (S : St c.base H s) (hx : c.N[k]? = some x)
    (hk : sc.names.lookup x = some .local ∨ (sc.names.lookup x = some .cell ∧ x ∉ sc.caps)) (hv : VRel s.heap v p)
    (h : ∀ s', ER c.base c.N env (upd ρ k p) s'.heap → St c.base H s' → Ext (Own env) No H s H s' → Q () s') : wpAny (model c.prog c.w) A (storeName env x v) Q E s := by
  obtain ⟨m, hm, hmk⟩ := R.names
  have inj : ∀ j y, j ≠ k → c.N[j]? = some y → y ≠ x := by
    rintro j y hj hy rfl
    exact hj ((List.getElem?_inj (List.getElem?_eq_some_iff.mp hy).1 c.nodup).mp (hy.trans hx.symm))
  rcases hk with hk | ⟨hk, hcap⟩
  · have hkl : env.kindOf x = some .local := by rw [he.kindOf]; exact hk
    refine wpAny_storeName_local hkl hm (fun h' hn hs => ?_) (by rw [he.skind]; rfl)
    have hd := ns_dict hm
    have hC : ∀ cc w, s.heap.IsCell cc w → h'.IsCell cc w := fun cc w hc => hc.sameBut hs (ns_ne_cell hm hc)
    refine h _ ⟨⟨_, hn, fun j q hj => ?_⟩, fun y cc hy => let ⟨w, hw⟩ := R.cells y cc hy; ⟨w, hC cc w hw⟩, R.apart, R.new, R.cnew⟩ (st_upd S hs R.new hd) (ext_upd hs (.inl rfl))
    by_cases e : j = k
    · subst e
      rw [upd_same] at hj; cases hj
      exact ⟨x, v, hx, vrel_upd hs hd hv, .inl ⟨hkl, by simp⟩⟩
    · rw [upd_other _ _ e] at hj
      obtain ⟨y, w, h1, h2, h3⟩ := hmk j q hj
      refine ⟨y, w, h1, vrel_upd hs hd h2, ?_⟩
      rcases h3 with ⟨k1, k2⟩ | ⟨k1, cc, k2, k3⟩
      · exact .inl ⟨k1, by simp [inj j y e h1, k2]⟩
      · exact .inr ⟨k1, cc, k2, hC cc _ k3⟩
  · have hkl : env.kindOf x = some .cell := by rw [he.kindOf]; exact hk
    obtain ⟨cc, hcc, hown⟩ := he.cells x hk
    obtain ⟨w0, hw0⟩ := R.cells x cc hcc
    refine wpAny_storeName_cell he.skind hkl hcc hw0 (fun h' hc' hs => ?_)
    have hd := cell_dict hw0
    have hnL : h'.Ns env.locals m := hm.sameBut hs (Ne.symm (ns_ne_cell hm hw0))
    have other : ∀ y c2 w, env.cells.lookup y = some c2 → y ≠ x → s.heap.IsCell c2 w → h'.IsCell c2 w := by
      intro y c2 w hy hne hw
      refine hw.sameBut hs ?_
      rintro rfl
      exact hne (name_of_addr R.apart (mem_of_lookup hy) (mem_of_lookup hcc))
    refine h { s with heap := h' } ⟨⟨_, hnL, fun j q hj => ?_⟩, fun y c2 hy => ?_, R.apart, R.new, R.cnew⟩ (st_upd (tk := s.toks) S hs (R.cnew x cc hcc) hd) (ext_upd (tk := s.toks) hs (.inr ⟨hown hcap, x, hcc⟩))
    · by_cases e : j = k
      · subst e
        rw [upd_same] at hj; cases hj
        exact ⟨x, v, hx, vrel_upd hs hd hv, .inr ⟨.inl hkl, cc, hcc, hc'⟩⟩
      · rw [upd_other _ _ e] at hj
        obtain ⟨y, w, h1, h2, h3⟩ := hmk j q hj
        refine ⟨y, w, h1, vrel_upd hs hd h2, ?_⟩
        rcases h3 with ⟨k1, k2⟩ | ⟨k1, c2, k2, k3⟩
        · exact .inl ⟨k1, k2⟩
        · exact .inr ⟨k1, c2, k2, other y c2 _ k2 (inj j y e h1) k3⟩
    · by_cases e : y = x
      · subst e; rw [hcc] at hy; cases hy; exact ⟨_, hc'⟩
      · obtain ⟨w, hw⟩ := R.cells y c2 hy
        exact ⟨w, other y c2 w hy e hw⟩

theorem own_no_imm {env : Env} {ρ : AEnv} {h : Heap} (R : ER c.base c.N env ρ h) : ∀ a o, Imm h a o → ¬ Own env a := by
  rintro a o hi (rfl | ⟨_, x, hx⟩)
  · obtain ⟨m, hm, _⟩ := R.names
    rcases ns_dict hm o hi.1 with ⟨es, ep, e1⟩ | ⟨v, e1⟩ <;> rcases imm_data hi with ⟨vs, k, e2⟩ | ⟨vs, e2⟩ <;> rw [e1] at e2 <;> cases e2
  · obtain ⟨w, hw⟩ := R.cells x a hx
    rcases cell_dict hw o hi.1 with ⟨es, ep, e1⟩ | ⟨v, e1⟩ <;> rcases imm_data hi with ⟨vs, k, e2⟩ | ⟨vs, e2⟩ <;> rw [e1] at e2 <;> cases e2

-- targets
abbrev ATg := PV → (AEnv → AH → Prop) → AEnv → AH → Prop
def SoundA (c : Cx) (n : Nat) (sc : SE) (t : Expr) (f : ATg) : Prop :=
  ∀ (A : Around) (env : Env) (ρ : AEnv) (H : AH) (s : Shared) (v : Value) (p : PV) (Q : AEnv → AH → Prop) (P : Unit → Shared → Prop) (E : Value → Shared → Prop), AOk n A → EOk sc env → ER c.base c.N env ρ s.heap → St c.base H s → VRel s.heap v p → f p Q ρ H →
    (∀ ρ' H' s', ER c.base c.N env ρ' s'.heap → St c.base H' s' → Ext (Own env) No H s H' s' → Q ρ' H' → P () s') → wpAny (model c.prog c.w) A (assign t env v) P E s
def gName (k : Nat) : ATg := fun p Q ρ H => Q (upd ρ k p) H
theorem tgt_name {x : Str} {pos : Pos} {k : Nat} (hx : c.N[k]? = some x) (hk : sc.names.lookup x = some .local ∨ (sc.names.lookup x = some .cell ∧ x ∉ sc.caps)) : SoundA c n sc (.Name x pos) (gName k) := by
  intro A env ρ H s v p Q P E hA he R S hv q h
  exact wpAny_assign_Name (store_var he R S hx hk hv fun s' R' S' e' => h _ _ s' R' S' e' q)

-- blocks
def sNil : AS := fun Q ρ H => Q .next ρ H
def sCons (a b : AS) : AS := fun Q ρ H => a (fun fl ρ1 H1 => match fl with | .next => b Q ρ1 H1 | fl => Q fl ρ1 H1) ρ H
theorem ResS.trans {env : Env} {H H' : AH} {s s' : Shared} {Q : Fl → AEnv → AH → Prop} {f : Flow} {s'' : Shared} (e : Ext (Own env) No H s H' s') (r : ResS c env H' s' Q f s'') : ResS c env H s Q f s'' :=
  let ⟨fl, ρ', H'', h1, h2, h3, h4, h5⟩ := r; ⟨fl, ρ', H'', h1, h2, h3, e.trans h4, h5⟩
theorem block_nil : SoundB c n sc [] sNil := fun _ _ ρ H _ _ _ _ _ R S q => wpAny_execs_nil ⟨.next, ρ, H, .next, R, S, .refl, q⟩
theorem block_cons {st : Stmt} {sts : List Stmt} {a b : AS} (h : SoundS c n sc st a) (k : SoundB c n sc sts b) : SoundB c n sc (st :: sts) (sCons a b) := by
  intro A env ρ H s Q E hA he R S q
  refine wpAny_execs_cons (wpAny_mono (h A env ρ H s _ E hA he R S q) (fun f s1 rr => rr.elim fun fl ρ1 H1 hf R1 S1 e1 q1 => ?_) fun _ _ x => x)
  cases hf with
  | next => exact wpAny_mono (k A env ρ1 H1 s1 Q E hA he R1 S1 q1) (fun _ _ r => r.trans e1) fun _ _ x => x
  | brk => exact ⟨_, ρ1, H1, .brk, R1, S1, e1, q1⟩
  | cont => exact ⟨_, ρ1, H1, .cont, R1, S1, e1, q1⟩
  | ret hv => exact ⟨_, ρ1, H1, .ret hv, R1, S1, e1, q1⟩

def sAssign (g : ATg) (a : AE) : AS := fun Q ρ H => a (fun p H1 => g p (fun ρ' H2 => Q .next ρ' H2) ρ H1) ρ H
theorem stmt_assign {tg : Expr} {pos : Pos} {v : Expr} {a : AE} {g : ATg} (ha : SoundE c n sc v a) (hg : SoundA c n sc tg g) (hs : ∀ env, EOk sc env → swapsWithSole [tg] v pos.line env = pure false)
    (hw : ∀ env, EOk sc env → swappedStores [tg] v env = pure none) (ht : ∀ env, assignEach [tg] env = [(false, assign tg env)]) : SoundS c n sc (.Assign [tg] v pos) (sAssign g a) := by
  intro A env ρ H s Q E hA he R S q
  show wpAny _ _ (do
    standAt pos
    if ← swapsWithSole [tg] v pos.line env then do
      evalThenUse v env fun v => assignAll v ((assignEach [tg] env).map (·.2))
      pure .next
    else do
      let v' ← eval v env
      assignStores env v' (← swappedStores [tg] v env) ((assignEach [tg] env).map (·.2))) _ _ _
  rw [hs env he, hw env he, ht env]
  refine wpAny_bind (wpAny_standAt (wpAny_bind (wpAny_pure ?_)))
  simp only [Bool.false_eq_true, if_false]
  refine wpAny_bind (seq1 (F := fun p H1 => g p (fun ρ' H2 => Q .next ρ' H2) ρ H1) ha hA he R S q ?_)
  intro va a H1 s1 h1 R1 S1 e1 q1
  refine wpAny_bind (wpAny_pure ?_)
  show wpAny _ _ (assign tg env va >>= fun _ => pure Flow.next) _ _ _
  exact wpAny_bind (hg A env ρ H1 s1 va a (fun ρ' H2 => Q .next ρ' H2) _ E hA he R1 S1 h1 q1 (fun ρ' H' s' R' S' e' q' => wpAny_pure ⟨.next, ρ', H', .next, R', S', e1.of_no.trans e', q'⟩))

def sRet (a : AE) : AS := fun Q ρ H => a (fun p H1 => Q (.ret p) ρ H1) ρ H
theorem stmt_ret {e : Expr} {pos : Pos} {a : AE} (ha : SoundE c n sc e a) : SoundS c n sc (.Return (some e) pos) (sRet a) := by
  intro A env ρ H s Q E hA he R S q
  exact wpAny_Return_some (seq1 (F := fun p H1 => Q (.ret p) ρ H1) ha hA he R S q fun va a H1 s1 h1 R1 S1 e1 q1 => ⟨.ret a, ρ, H1, .ret h1, R1, S1, e1.of_no, q1⟩)
def sRet0 : AS := fun Q ρ H => Q (.ret .none) ρ H
def sCont : AS := fun Q ρ H => Q .cont ρ H
def sIf (t : AT) (a b : AS) : AS := fun Q ρ H => t (fun k H1 => if k then a Q ρ H1 else b Q ρ H1) ρ H
theorem stmt_if {e : Expr} {body orelse : List Stmt} {pos : Pos} {t : AT} {a b : AS} (ht : SoundT c n sc e t) (ha : SoundB c n sc body a) (hb : SoundB c n sc orelse b) : SoundS c n sc (.If e body orelse pos) (sIf t a b) := by
  intro A env ρ H s Q E hA he R S q
  refine wpAny_If (bool_mono (ht A env ρ H s _ E hA he R S q) fun k H1 s1 S1 e1 q1 => ?_)
  cases k with
  | true => exact wpAny_mono (ha A env ρ H1 s1 Q E hA he (R.ext0 S e1) S1 (by simpa using q1)) (fun _ _ r => r.trans e1.of_no) fun _ _ x => x
  | false => exact wpAny_mono (hb A env ρ H1 s1 Q E hA he (R.ext0 S e1) S1 (by simpa using q1)) (fun _ _ r => r.trans e1.of_no) fun _ _ x => x
def sExpr (a : AE) : AS := fun Q ρ H => a (fun _ H1 => Q .next ρ H1) ρ H
theorem stmt_expr {e : Expr} {pos : Pos} {a : AE} (ha : SoundE c n sc e a) (hi : ∀ env, EOk sc env → interactive env = false) (hs : ∀ env, swapsWith e none pos.line env = pure false) : SoundS c n sc (.Expr e pos) (sExpr a) := by
  intro A env ρ H s Q E hA he R S q
  rw [exec_Expr (hi := hi env he) (hs := hs env)]
  refine wpAny_bind (wpAny_standAt (wpAny_bind (seq1 (F := fun p H1 => Q .next ρ H1) ha hA he R S q ?_)))
  intro va a H1 s1 h1 R1 S1 e1 q1
  have r : ResS c env H s Q .next s1 := ⟨.next, ρ, H1, .next, R1, S1, e1.of_no, q1⟩
  unfold dropValue
  split
  · exact wpAny_pure r
  · exact wpAny_bind (wpAny_standAt (wpAny_bind (wpAny_runValue (codeAny_builtin entry_let_go (show wpAny _ _ (ret .none) _ _ s1 from wpAny_pure (wpAny_pure r))))))
  · exact wpAny_pure r
end
end Mine
open PySem PySem.W PyProof.Rows
set_option Elab.async false
set_option linter.unusedVariables false
namespace Mine

section
variable {base : Heap} {H : AH} {s : Shared}
/-- an object that only an iterator of ours knows -/
structure Priv (base : Heap) (h : Heap) (I : Addr) : Prop where
  new : base.get? I = none
  there : ∃ o, h.get? I = some o ∧ o.cls ≠ .type "list" ∧ o.cls ≠ .type "tuple" ∧ o.cls ≠ .type "range"
theorem st_priv {h' : Heap} {tk : Nat} {I : Addr} (S : St base H s) (p : Priv base s.heap I) (hk : ∀ b o, b ≠ I → s.heap.get? b = some o → h'.get? b = some o) : St base H { s with heap := h', toks := tk } := by
  obtain ⟨o, ho, c1, c2, c3⟩ := p.there
  refine S.of_keep (X := fun b => b = I) (fun b o' hb h => hk b o' hb h) (fun b hb => hb ▸ p.new) (fun b hb vs n hl => ?_) (fun b hb o' hi => ?_)
  · subst hb; rw [show s.heap.get? b = _ from hl] at ho; cases ho; exact c1 rfl
  · subst hb; rw [hi.1] at ho; cases ho; rcases hi.2 with q | q; exact c2 q.1; exact c3 q.1
theorem vrel_priv {h h' : Heap} {I : Addr} (p : Priv base h I) (hk : ∀ b o, b ≠ I → h.get? b = some o → h'.get? b = some o) : ∀ b o, Imm h b o → h'.get? b = some o := by
  intro b o hi
  refine hk b o ?_ hi.1
  rintro rfl
  obtain ⟨o', ho, c1, c2, c3⟩ := p.there
  rw [hi.1] at ho; cases ho; rcases hi.2 with q | q; exact c2 q.1; exact c3 q.1
theorem ext_priv {Y : Nat → Prop} {h' : Heap} {tk : Nat} {I : Addr} (hk : ∀ b o, b ≠ I → s.heap.get? b = some o → h'.get? b = some o) (hz : s.heap.objs.size ≤ h'.objs.size) : Ext (fun b => b = I) Y H s H { s with heap := h', toks := tk } :=
  Ext.of_keep (fun b o hb h => hk b o hb h) hz
theorem Priv.ext {X Y : Nat → Prop} {I : Addr} {H' : AH} {s' : Shared} (p : Priv base s.heap I) (S : St base H s) (e : Ext X Y H s H' s') (hx : ¬ X I) : Priv base s'.heap I :=
  let ⟨o, ho, c1, c2⟩ := p.there; ⟨p.new, o, S.stay e ho hx c1, c1, c2⟩
end

/-- an iterator: what is left of it, by J -/
structure Iter (c : Cx) (n : Nat) (I : Addr) (P PG : Nat → Prop) (G : AH → Prop) (J : List PV → AH → Shared → Prop) : Prop where
  item : ∀ (A : Around) (p : PV) (rest : List PV) (H : AH) (s : Shared) (E : Value → Shared → Prop) (Q : Option Value → Shared → Prop), AOk n A → J (p :: rest) H s → St c.base H s →
    (∀ v s', VRel s'.heap v p → St c.base H s' → Ext P PG H s H s' → J rest H s' → (∀ b o, Imm s.heap b o → s'.heap.get? b = some o) → Q (some v) s') → wpAny (model c.prog c.w) A (pyNext (.ref I)) Q E s
  done : ∀ (A : Around) (H : AH) (s : Shared) (E : Value → Shared → Prop) (Q : Option Value → Shared → Prop), AOk n A → J [] H s → St c.base H s →
    (∀ s', St c.base H s' → Ext P PG H s H s' → (∀ b o, Imm s.heap b o → s'.heap.get? b = some o) → Q none s') → wpAny (model c.prog c.w) A (pyNext (.ref I)) Q E s
  frame : ∀ (X : Nat → Prop) (l : List PV) (H : AH) (s : Shared) (H' : AH) (s' : Shared), J l H s → St c.base H s → Ext X No H s H' s' → St c.base H' s' → (∀ a, X a → ¬ P a) → (∀ a o, Imm s.heap a o → ¬ X a) → G H' → J l H' s'
  owned : ∀ (A : Around) (l : List PV) (H : AH) (s : Shared) (E : Value → Shared → Prop) (Q : Unit → Shared → Prop) (elts : List Expr) (k : Nat) (pos : Pos) (v : Value), J l H s → Q () s → wpAny (model c.prog c.w) A (letOwnedTupleGo (.Tuple elts k pos) (.ref I) v) Q E s
  self : ∀ (A : Around) (l : List PV) (H : AH) (s : Shared) (E : Value → Shared → Prop) (Q : Value → Shared → Prop), J l H s → Q (.ref I) s → wpAny (model c.prog c.w) A (pyIter (.ref I)) Q E s

/-- the same, within one place of the run -/
structure IterA (c : Cx) (A : Around) (I : Addr) (P PG : Nat → Prop) (G : AH → Prop) (J : List PV → AH → Shared → Prop) : Prop where
  item : ∀ (p : PV) (rest : List PV) (H : AH) (s : Shared) (E : Value → Shared → Prop) (Q : Option Value → Shared → Prop), J (p :: rest) H s → St c.base H s →
    (∀ v s', VRel s'.heap v p → St c.base H s' → Ext P PG H s H s' → J rest H s' → (∀ b o, Imm s.heap b o → s'.heap.get? b = some o) → Q (some v) s') → wpAny (model c.prog c.w) A (pyNext (.ref I)) Q E s
  done : ∀ (H : AH) (s : Shared) (E : Value → Shared → Prop) (Q : Option Value → Shared → Prop), J [] H s → St c.base H s →
    (∀ s', St c.base H s' → Ext P PG H s H s' → (∀ b o, Imm s.heap b o → s'.heap.get? b = some o) → Q none s') → wpAny (model c.prog c.w) A (pyNext (.ref I)) Q E s
  frame : ∀ (X : Nat → Prop) (l : List PV) (H : AH) (s : Shared) (H' : AH) (s' : Shared), J l H s → St c.base H s → Ext X No H s H' s' → St c.base H' s' → (∀ a, X a → ¬ P a) → (∀ a o, Imm s.heap a o → ¬ X a) → G H' → J l H' s'
  owned : ∀ (l : List PV) (H : AH) (s : Shared) (E : Value → Shared → Prop) (Q : Unit → Shared → Prop) (elts : List Expr) (k : Nat) (pos : Pos) (v : Value), J l H s → Q () s → wpAny (model c.prog c.w) A (letOwnedTupleGo (.Tuple elts k pos) (.ref I) v) Q E s
theorem Iter.at {c : Cx} {n : Nat} {A : Around} {I : Addr} {P PG : Nat → Prop} {G : AH → Prop} {J : List PV → AH → Shared → Prop} (it : Iter c n I P PG G J) (hA : AOk n A) : IterA c A I P PG G J :=
  ⟨fun p rest H s E Q => it.item A p rest H s E Q hA, fun H s E Q => it.done A H s E Q hA, it.frame, it.owned A⟩

theorem owned_other {prog : Program} {w : World} {A : Around} {s : Shared} {E : Value → Shared → Prop} {Q : Unit → Shared → Prop} {elts : List Expr} {k : Nat} {pos : Pos} {I : Addr} {v : Value} {o : Obj} {T : String} (ho : s.heap.get? I = some o) (hc : o.cls = .type T)
    (hT : ["enumerate", "zip", "dict_itemiterator", "dict_reverseitemiterator", "odict_iterator", "itertools.zip_longest", "itertools.pairwise"].contains T = false) (h : Q () s) : wpAny (model prog w) A (letOwnedTupleGo (.Tuple elts k pos) (.ref I) v) Q E s := by
  unfold letOwnedTupleGo
  cases v with
  | ref a =>
    refine wpAny_bind (wpAny_load ho ?_)
    rw [hc]
    cases hd : o.data with
    | fields vs => simp only [hT, Bool.false_and, Bool.false_eq_true, if_false]; exact wpAny_pure h
    | _ => exact wpAny_pure h
  | _ => exact wpAny_pure h

section
variable {c : Cx} {n : Nat}

theorem iter_list {I a : Addr} {x : LO} : Iter c n I (fun b => b = I) No (fun H' => H' a = some x)
    (fun l H s => ∃ i, s.heap.IsListIter I a i ∧ H a = some x ∧ l = x.items.drop i ∧ Priv c.base s.heap I) where
  item A p rest H s E Q hA hj S h := by
    obtain ⟨i, hi, ha, hl, hp⟩ := hj
    obtain ⟨vs, k, hL, hv⟩ := S.hr.list a x ha
    have hx : x.items[i]? = some p := by
      have := congrArg (fun l => l[0]?) hl
      simpa using this.symm
    obtain ⟨v, hv1, hv2⟩ := hv.get hx
    refine wpAny_pyNext_list_item hi hL.isList (by simpa using hv1) fun h' hi' hs => ?_
    have hk : ∀ b o, b ≠ I → s.heap.get? b = some o → h'.get? b = some o := fun b o hb e => (hs.2 b hb).trans e
    refine h v { s with heap := h' } (hv2.mono (vrel_priv hp hk)) (st_priv (tk := s.toks) S hp hk) (ext_priv (tk := s.toks) hk (Nat.le_of_eq hs.1.symm)) ⟨i + 1, hi', ha, ?_, hp.new, ?_⟩ (vrel_priv hp hk)
    · have := congrArg (fun l => l.drop 1) hl
      simpa [Nat.add_comm] using this
    · obtain ⟨o, ho, hc, _⟩ := hi'
      exact ⟨o, ho, by rw [hc]; simp, by rw [hc]; simp, by rw [hc]; simp⟩
  done A H s E Q hA hj S h := by
    obtain ⟨i, hi, ha, hl, hp⟩ := hj
    obtain ⟨vs, k, hL, hv⟩ := S.hr.list a x ha
    have hx : x.items.length ≤ i := by
      have := congrArg List.length hl
      simp at this; omega
    have hlen := hv.length
    refine wpAny_grow (wpAny_pyNext_list_end hA.handled hi hL.isList ?_ fun h' he hg => ?_)
    · simp at hlen; simp; omega
    · have hk : ∀ b o, b ≠ I → s.heap.get? b = some o → h'.get? b = some o := fun b o hb e => he b o hb e
      exact h { s with heap := h' } (st_priv (tk := s.toks) S hp hk) (ext_priv (tk := s.toks) hk hg.1) (vrel_priv hp hk)
  frame X l H s H' s' hj S e S' hX hI hG := by
    obtain ⟨i, hi, ha, hl, hp⟩ := hj
    have hx : ¬ X I := fun q => hX I q rfl
    obtain ⟨o, ho, hc, r⟩ := hi
    exact ⟨i, ⟨o, S.stay e ho hx (by rw [hc]; simp), hc, r⟩, hG, hl, hp.ext S e hx⟩
  owned A l H s E Q elts k pos v hj h := by
    obtain ⟨i, ⟨o, ho, hc, _⟩, _⟩ := hj
    exact owned_other ho hc (by decide) h
  self A l H s E Q hj h := by
    obtain ⟨i, hi, _⟩ := hj
    exact wpAny_pyIter_listiter hi h

theorem iter_tuple {I a : Addr} {vs : List Value} {ps : List PV} : Iter c n I (fun b => b = I) No (fun _ => True)
    (fun l H s => ∃ i k, s.heap.IsTupleIter I a i ∧ IsT s.heap a vs.toArray k ∧ VAll s.heap vs ps ∧ l = ps.drop i ∧ Priv c.base s.heap I) where
  item A p rest H s E Q hA hj S h := by
    obtain ⟨i, k, hi, hT, hv, hl, hp⟩ := hj
    have hx : ps[i]? = some p := by
      have := congrArg (fun l => l[0]?) hl
      simpa using this.symm
    obtain ⟨v, hv1, hv2⟩ := hv.get hx
    have hne : a ≠ I := by
      rintro rfl
      obtain ⟨o, ho, _, c2, _⟩ := hp.there
      rw [show s.heap.get? a = _ from hT] at ho; cases ho; exact c2 rfl
    refine wpAny_pyNext_tuple_item hi ⟨_, hT, rfl, _, rfl⟩ (by simpa using hv1) fun h' hi' hs => ?_
    have hk : ∀ b o, b ≠ I → s.heap.get? b = some o → h'.get? b = some o := fun b o hb e => (hs.2 b hb).trans e
    refine h v { s with heap := h' } (hv2.mono (vrel_priv hp hk)) (st_priv (tk := s.toks) S hp hk) (ext_priv (tk := s.toks) hk (Nat.le_of_eq hs.1.symm)) ⟨i + 1, k, hi', hk a _ hne hT, hv.mono (vrel_priv hp hk), ?_, hp.new, ?_⟩ (vrel_priv hp hk)
    · have := congrArg (fun l => l.drop 1) hl
      simpa [Nat.add_comm] using this
    · obtain ⟨o, ho, hc, _⟩ := hi'
      exact ⟨o, ho, by rw [hc]; simp, by rw [hc]; simp, by rw [hc]; simp⟩
  done A H s E Q hA hj S h := by
    obtain ⟨i, k, hi, hT, hv, hl, hp⟩ := hj
    have hx : ps.length ≤ i := by
      have := congrArg List.length hl
      simp at this; omega
    have hlen := hv.length
    refine wpAny_grow (wpAny_pyNext_tuple_end hA.handled hi ⟨_, hT, rfl, _, rfl⟩ ?_ fun h' he hg => ?_)
    · simp; omega
    · have hk : ∀ b o, b ≠ I → s.heap.get? b = some o → h'.get? b = some o := fun b o hb e => he b o hb e
      exact h { s with heap := h' } (st_priv (tk := s.toks) S hp hk) (ext_priv (tk := s.toks) hk hg.1) (vrel_priv hp hk)
  frame X l H s H' s' hj S e S' hX hI hG := by
    obtain ⟨i, k, hi, hT, hv, hl, hp⟩ := hj
    have hx : ¬ X I := fun q => hX I q rfl
    obtain ⟨o, ho, hc, r⟩ := hi
    have hi' : Imm s.heap a _ := ⟨hT, .inl ⟨rfl, _, _, rfl⟩⟩
    exact ⟨i, k, ⟨o, S.stay e ho hx (by rw [hc]; simp), hc, r⟩, S.stayI e hi' (hI a _ hi'), hv.ext S e hI, hl, hp.ext S e hx⟩
  owned A l H s E Q elts k pos v hj h := by
    obtain ⟨i, _, ⟨o, ho, hc, _⟩, _⟩ := hj
    exact owned_other ho hc (by decide) h
  self A l H s E Q hj h := by
    obtain ⟨i, _, hi, _⟩ := hj
    exact wpAny_pyIter_tupleiter hi h

def rngItems (lo hi : Int) : List PV := (List.range (hi - lo).toNat).map fun (i : Nat) => .int (lo + (i : Int))
theorem rng_drop (lo hi : Int) (k : Nat) : (rngItems lo hi).drop k = rngItems (lo + k) hi := by
  apply List.ext_getElem
  · simp [rngItems]; omega
  · intro j h1 h2
    simp [rngItems]; omega
theorem rng_cons {lo hi : Int} (h : lo < hi) : rngItems lo hi = .int lo :: rngItems (lo + 1) hi := by
  have h1 : (rngItems lo hi)[0]? = some (.int lo) := by
    have : 0 < (hi - lo).toNat := by omega
    simp [rngItems, this]
  have h2 := rng_drop lo hi 1
  cases hr : rngItems lo hi with
  | nil => rw [hr] at h1; simp at h1
  | cons a l =>
    rw [hr] at h1 h2
    simp at h1 h2
    rw [h1, h2]
theorem rng_nil {lo hi : Int} (h : hi ≤ lo) : rngItems lo hi = [] := by
  have : (hi - lo).toNat = 0 := by omega
  simp [rngItems, this]

theorem iter_range {I : Addr} {hi : Int} : Iter c n I (fun b => b = I) No (fun _ => True)
    (fun l H s => ∃ x : Int, IsRangeIter s.heap I x (if x ≤ hi then hi - x else 0) 1 ∧ l = rngItems x hi ∧ Priv c.base s.heap I) where
  item A p rest H s E Q hA hj S h := by
    obtain ⟨x, hi', hl, hp⟩ := hj
    have hlt : x < hi := by
      by_cases q : x < hi
      · exact q
      · rw [rng_nil (by omega)] at hl; cases hl
    rw [rng_cons hlt] at hl
    cases hl
    refine wpAny_pyNext_range_item hi' (by split <;> omega) fun h' hi2 hs => ?_
    have hk : ∀ b o, b ≠ I → s.heap.get? b = some o → h'.get? b = some o := fun b o hb e => (hs.2 b hb).trans e
    refine h (.int x s.toks) { s with heap := h', toks := s.toks + 1 } (.int x _) (st_priv S hp hk) (ext_priv hk (Nat.le_of_eq hs.1.symm)) ⟨x + 1, ?_, rfl, hp.new, ⟨_, hi2, by simp, by simp, by simp⟩⟩ (vrel_priv hp hk)
    have e : (if x + 1 ≤ hi then hi - (x + 1) else 0) = (if x ≤ hi then hi - x else 0) - 1 := by split <;> split <;> omega
    rw [e]; exact hi2
  done A H s E Q hA hj S h := by
    obtain ⟨x, hi', hl, hp⟩ := hj
    have hge : ¬ x < hi := by
      intro q; rw [rng_cons q] at hl; cases hl
    refine wpAny_grow (wpAny_pyNext_range_end hA.handled hi' (by split <;> omega) fun h' he hg => ?_)
    have hk : ∀ b o, b ≠ I → s.heap.get? b = some o → h'.get? b = some o := fun b o hb e => he b o hb e
    exact h { s with heap := h' } (st_priv (tk := s.toks) S hp hk) (ext_priv (tk := s.toks) hk hg.1) (vrel_priv hp hk)
  frame X l H s H' s' hj S e S' hX hI hG := by
    obtain ⟨x, hi', hl, hp⟩ := hj
    have hx : ¬ X I := fun q => hX I q rfl
    exact ⟨x, S.stay e hi' hx (by simp), hl, hp.ext S e hx⟩
  owned A l H s E Q elts k pos v hj h := by
    obtain ⟨x, hi', _⟩ := hj
    exact owned_other hi' rfl (by decide) h
  self A l H s E Q hj h := by
    obtain ⟨x, hi', _⟩ := hj
    exact wpAny_pyIter_rangeiter hi' h

/-- a text's signs -/
def signs (x : List Nat) : List PV := x.map fun ch => .str [ch]
theorem iter_str {I : Addr} {x : List Nat} {t : Tok} {ty : String} (hty : ty = (if (x.all fun ch => ch < 128) = true then "str_ascii_iterator" else "str_iterator")) (hx : ∀ ch ∈ x, ch < 0x110000) : Iter c n I (fun b => b = I) No (fun _ => True)
    (fun l H s => ∃ i, s.heap.IsStrIter I ty ⟨x.toArray⟩ t i ∧ l = signs (x.drop i) ∧ Priv c.base s.heap I) where
  item A p rest H s E Q hA hj S h := by
    obtain ⟨i, hi, hl, hp⟩ := hj
    have hlt : i < x.length := by
      by_cases q : i < x.length
      · exact q
      · rw [List.drop_eq_nil_of_le (by omega)] at hl; cases hl
    rw [List.drop_eq_getElem_cons hlt] at hl
    cases hl
    have fin : ∀ h' : Heap, h'.IsStrIter I ty ⟨x.toArray⟩ t (i + 1) → Heap.SameBut I s.heap h' → Q (some (.str ⟨#[x[i]]⟩ s.toks)) { s with heap := h', toks := s.toks + 1 } := by
      intro h' hi2 hs
      have hk : ∀ b o, b ≠ I → s.heap.get? b = some o → h'.get? b = some o := fun b o hb e => (hs.2 b hb).trans e
      refine h (.str ⟨#[x[i]]⟩ s.toks) { s with heap := h', toks := s.toks + 1 } (.str [x[i]] _ (by simpa using hx _ (List.getElem_mem hlt))) (st_priv S hp hk) (ext_priv hk (Nat.le_of_eq hs.1.symm)) ⟨i + 1, hi2, rfl, hp.new, ?_⟩ (vrel_priv hp hk)
      obtain ⟨o, ho, hc, _⟩ := hi2
      refine ⟨o, ho, ?_⟩
      rw [hc, hty]; split <;> simp
    by_cases ha : (x.all fun ch => ch < 128) = true
    · rw [if_pos ha] at hty; subst hty
      exact wpAny_pyNext_ascii_item hi (by simp [hlt]) fin
    · rw [if_neg ha] at hty; subst hty
      exact wpAny_pyNext_wide_item hi (by simp [hlt]) fin
  done A H s E Q hA hj S h := by
    obtain ⟨i, hi, hl, hp⟩ := hj
    have hge : x.length ≤ i := by
      by_cases q : i < x.length
      · rw [List.drop_eq_getElem_cons q] at hl; cases hl
      · omega
    refine wpAny_grow ?_
    have fin : ∀ h' : Heap, Heap.ExtBut I s.heap h' → Grown s { s with heap := h' } → Q none { s with heap := h' } := by
      intro h' he hg
      have hk : ∀ b o, b ≠ I → s.heap.get? b = some o → h'.get? b = some o := fun b o hb e => he b o hb e
      exact h { s with heap := h' } (st_priv (tk := s.toks) S hp hk) (ext_priv (tk := s.toks) hk hg.1) (vrel_priv hp hk)
    by_cases ha : (x.all fun ch => ch < 128) = true
    · rw [if_pos ha] at hty; subst hty
      exact wpAny_pyNext_ascii_end hA.handled hi (by simp; omega) fin
    · rw [if_neg ha] at hty; subst hty
      exact wpAny_pyNext_wide_end hA.handled hi (by simp; omega) fin
  frame X l H s H' s' hj S e S' hX hI hG := by
    obtain ⟨i, hi, hl, hp⟩ := hj
    have hx : ¬ X I := fun q => hX I q rfl
    obtain ⟨o, ho, hc, r⟩ := hi
    exact ⟨i, ⟨o, S.stay e ho hx (by rw [hc, hty]; split <;> simp), hc, r⟩, hl, hp.ext S e hx⟩
  owned A l H s E Q elts k pos v hj h := by
    obtain ⟨i, ⟨o, ho, hc, _⟩, _⟩ := hj
    exact owned_other ho hc (by rw [hty]; split <;> decide) h
  self A l H s E Q hj h := by
    obtain ⟨i, hi, _⟩ := hj
    by_cases ha : (x.all fun ch => ch < 128) = true
    · rw [if_pos ha] at hty; subst hty
      exact wpAny_pyIter_striter_ascii hi h
    · rw [if_neg ha] at hty; subst hty
      exact wpAny_pyIter_striter_wide hi h

/-- what is walked over -/
def withItems (p : PV) (k : List PV → (AH → Prop) → AH → Prop) (H : AH) : Prop := match p with
  | .ref a => (match H a with | some x => k x.items (fun H' => H' a = some x) H | none => False)
  | .tup ps => k ps (fun _ => True) H
  | .str x => k (signs x) (fun _ => True) H
  | .rng lo hi => ((-1000000000 ≤ lo ∧ lo ≤ 1000000000) ∧ -1000000000 ≤ hi ∧ hi ≤ 1000000000) ∧ k (rngItems lo hi) (fun _ => True) H
  | _ => False

theorem iter_sound {A : Around} {H : AH} {s : Shared} {v : Value} {p : PV} {k : List PV → (AH → Prop) → AH → Prop} {E : Value → Shared → Prop} {Q : Value → Shared → Prop} (hv : VRel s.heap v p) (S : St c.base H s) (h : withItems p k H)
    (fin : ∀ I items P G J s', Iter c n I P No G J → J items H s' → St c.base H s' → Ext No No H s H s' → (∀ a, P a → s.heap.objs.size ≤ a ∧ a < s'.heap.objs.size) → G H → k items G H → Q (.ref I) s') : wpAny (model c.prog c.w) A (pyIter v) Q E s := by
  have newI : ∀ (o : Obj) b, b = s.heap.objs.size → s.heap.objs.size ≤ b ∧ b < (s.heap.push o).objs.size := fun o b e => ⟨Nat.le_of_eq e.symm, by rw [e, Heap.size_push]; exact Nat.lt_succ_self _⟩
  have priv : ∀ o : Obj, o.isFreed = false → o.cls ≠ .type "list" → o.cls ≠ .type "tuple" → o.cls ≠ .type "range" → Priv c.base (s.heap.push o) s.heap.objs.size := fun o hf c1 c2 c3 => ⟨S.bsize (Nat.le_refl _), o, Heap.get?_push_size _ hf, c1, c2, c3⟩
  cases hv with
  | ref a =>
    simp only [withItems] at h
    cases ha : H a with
    | none => rw [ha] at h; exact h.elim
    | some x =>
      rw [ha] at h
      obtain ⟨vs, j, hL, hv⟩ := S.hr.list a x ha
      exact wpAny_pyIter_list hL.isList (fin _ x.items _ _ _ _ (iter_list (a := a) (x := x)) ⟨0, ⟨_, Heap.get?_push_size _ rfl, rfl, rfl⟩, ha, by simp, priv _ rfl (by simp) (by simp) (by simp)⟩ (S.push _) (Ext.push _) (newI _) ha h)
  | tup hT hvs =>
    exact wpAny_pyIter_tuple ⟨_, hT, rfl, _, rfl⟩ (fin _ _ _ _ _ _ iter_tuple ⟨0, _, ⟨_, Heap.get?_push_size _ rfl, rfl, rfl⟩, Heap.get?_push_of_some _ hT, hvs.mono fun b o hi => Heap.get?_push_of_some _ hi.1, by simp, priv _ rfl (by simp) (by simp) (by simp)⟩ (S.push _) (Ext.push _) (newI _) trivial h)
  | str x t hx =>
    by_cases ha : (x.all fun ch => ch < 128) = true
    · exact wpAny_pyIter_ascii (by simpa using ha) (fin _ _ _ _ _ _ (iter_str (ty := "str_ascii_iterator") (t := t) (by rw [if_pos ha]) hx) ⟨0, ⟨_, Heap.get?_push_size _ rfl, rfl, rfl⟩, rfl, priv _ rfl (by simp) (by simp) (by simp)⟩ (S.push _) (Ext.push _) (newI _) trivial h)
    · exact wpAny_pyIter_wide (by simpa using ha) (fin _ _ _ _ _ _ (iter_str (ty := "str_iterator") (t := t) (by rw [if_neg ha]) hx) ⟨0, ⟨_, Heap.get?_push_size _ rfl, rfl, rfl⟩, rfl, priv _ rfl (by simp) (by simp) (by simp)⟩ (S.push _) (Ext.push _) (newI _) trivial h)
  | rng hr =>
    rename_i a lo hi t u v
    obtain ⟨⟨⟨b1, b2⟩, b3, b4⟩, h⟩ := h
    have esz : Builtin.Range.rangeSize lo hi 1 = if lo ≤ hi then hi - lo else 0 := by
      unfold Builtin.Range.rangeSize
      rw [if_pos (by decide)]
      split <;> split <;> omega
    refine wpAny_pyIter_range hr ?_ (fin _ _ _ _ _ _ (iter_range (hi := hi)) ⟨lo, ?_, rfl, priv _ rfl (by simp) (by simp) (by simp)⟩ (S.push _) (Ext.push _) (newI _) trivial h)
    · unfold Builtin.Range.small
      rw [esz]
      have hsz : 0 ≤ (if lo ≤ hi then hi - lo else 0) ∧ (if lo ≤ hi then hi - lo else 0) ≤ 2000000000 := by split <;> omega
      generalize (if lo ≤ hi then hi - lo else 0) = z at hsz
      simp only [Builtin.Range.rangeFitsLong]
      simp only [Bool.and_eq_true, Bool.or_eq_true, decide_eq_true_eq]
      refine ⟨⟨⟨⟨⟨by omega, by omega⟩, by omega, by omega⟩, by decide⟩, by omega, by omega⟩, .inr ?_⟩
      rw [if_pos (by decide)]
      simp only [Bool.and_eq_true, decide_eq_true_eq]; omega
    · rw [← esz]; exact Heap.get?_push_size _ rfl
  | _ => exact h.elim

-- for
def forL (g : ATg) (body : AS) (G : AH → Prop) (Q : Fl → AEnv → AH → Prop) : List PV → AEnv → AH → Prop
  | [], ρ, H => Q .next ρ H
  | p :: ps, ρ, H => g p (fun ρ1 H1 => body (fun fl ρ2 H2 => match fl with
      | .next => G H2 ∧ forL g body G Q ps ρ2 H2
      | .cont => G H2 ∧ forL g body G Q ps ρ2 H2
      | .brk => Q .next ρ2 H2
      | .ret v => Q (.ret v) ρ2 H2) ρ1 H1) ρ H
def sFor (g : ATg) (src : AE) (body : AS) : AS := fun Q ρ H => src (fun p H1 => withItems p (fun items G H2 => forL g body G Q items ρ H2) H1) ρ H

variable {sc : SE}
theorem own_lt {env : Env} {ρ : AEnv} {h : Heap} (R : ER c.base c.N env ρ h) {a : Nat} (ha : Own env a) : a < h.objs.size := by
  rcases ha with rfl | ⟨_, x, hx⟩
  · obtain ⟨m, hm, _⟩ := R.names; exact hm.lt
  · obtain ⟨w, hw⟩ := R.cells x a hx; exact hw.lt
theorem owned_any {I : Addr} {P PG : Nat → Prop} {G : AH → Prop} {J : List PV → AH → Shared → Prop} (it : Iter c n I P PG G J) {A : Around} {l : List PV} {H : AH} {s : Shared} {E : Value → Shared → Prop} {Q : Unit → Shared → Prop} {tg : Expr} {v : Value} (hj : J l H s)
    (ht : (∃ elts k pos, tg = .Tuple elts k pos) ∨ ∀ it v, letOwnedTupleGo tg it v = pure ()) (h : Q () s) : wpAny (model c.prog c.w) A (letOwnedTupleGo tg (.ref I) v) Q E s := by
  rcases ht with ⟨elts, k, pos, rfl⟩ | ht
  · exact it.owned A l H s E Q elts k pos v hj h
  · rw [ht]; exact wpAny_pure h

theorem owned_anyA {I : Addr} {P PG : Nat → Prop} {G : AH → Prop} {J : List PV → AH → Shared → Prop} {A : Around} (it : IterA c A I P PG G J) {l : List PV} {H : AH} {s : Shared} {E : Value → Shared → Prop} {Q : Unit → Shared → Prop} {tg : Expr} {v : Value} (hj : J l H s)
    (ht : (∃ elts k pos, tg = .Tuple elts k pos) ∨ ∀ it v, letOwnedTupleGo tg it v = pure ()) (h : Q () s) : wpAny (model c.prog c.w) A (letOwnedTupleGo tg (.ref I) v) Q E s := by
  rcases ht with ⟨elts, k, pos, rfl⟩ | ht
  · exact it.owned l H s E Q elts k pos v hj h
  · rw [ht]; exact wpAny_pure h

theorem for_loop {A : Around} {env : Env} {ρ₀ : AEnv} {H₀ : AH} {s₀ s : Shared} {I : Addr} {P PG : Nat → Prop} {G : AH → Prop} {J : List PV → AH → Shared → Prop} {tg : Expr} {body : List Stmt} {g : ATg} {b : AS} {Q : Fl → AEnv → AH → Prop} {R' : Result → Shared → Prop} {items : List PV} {H : AH} {ρ : AEnv}
    (it : IterA c A I P PG G J) (hg : SoundA c n sc tg g) (hb : SoundB c n sc body b) (hA : AOk n A) (he : EOk sc env) (ht : (∃ elts k pos, tg = .Tuple elts k pos) ∨ ∀ it v, letOwnedTupleGo tg it v = pure ())
    (R₀ : ER c.base c.N env ρ₀ s₀.heap) (hP : ∀ a, P a → s₀.heap.objs.size ≤ a) (hPG : ∀ i, PG i → s₀.gens.size ≤ i)
    (hj : J items H s) (R : ER c.base c.N env ρ s.heap) (S : St c.base H s) (e : Ext (Own env) No H₀ s₀ H s) (q : forL g b G Q items ρ H)
    (hR : ∀ f s', ResS c env H₀ s₀ Q f s' → R' (.ok f) s') : codeAny (model c.prog c.w) A (.forLoop tg (.ref I) body [] env) R' s := by
  have ownP : ∀ a, Own env a → ¬ P a := fun a ha hp => Nat.lt_irrefl _ (Nat.lt_of_lt_of_le (own_lt R₀ ha) (hP a hp))
  refine codeAny_forLoop_any (fun k s => ∃ items H ρ, k = items.length ∧ J items H s ∧ ER c.base c.N env ρ s.heap ∧ St c.base H s ∧ Ext (Own env) No H₀ s₀ H s ∧ forL g b G Q items ρ H) ?_ _ ⟨items, H, ρ, rfl, hj, R, S, e, q⟩
  rintro k s ⟨items, H, ρ, rfl, hj, R, S, e, q⟩
  have noP : ∀ s' : Shared, Ext P PG H s H s' → Ext (Own env) No H₀ s₀ H s' := fun s' e' => e.then_new e' (fun a ha => .inr (hP a ha)) (fun i hi => .inr (hPG i hi))
  have keepR : ∀ s' : Shared, Ext P PG H s H s' → (∀ b o, Imm s.heap b o → s'.heap.get? b = some o) → ER c.base c.N env ρ s'.heap := fun s' e' hi => by
    exact R.ext' S e' hi (fun hp => ownP _ (.inl rfl) hp) (fun x cc hx hp => let ⟨w, hw⟩ := R₀.cells x cc hx; Nat.lt_irrefl _ (Nat.lt_of_lt_of_le hw.lt (hP cc hp)))
  cases items with
  | nil =>
    refine it.done H s _ _ hj S fun s' S' e' hi => ?_
    exact wpAny_execs_nil (hR _ _ ⟨.next, ρ, H, .next, keepR s' e' hi, S', noP s' e', q⟩)
  | cons p ps =>
    refine it.item p ps H s _ _ hj S fun v s' hv S' e' hj' hi => ?_
    refine owned_anyA it hj' ht ?_
    have R' := keepR s' e' hi
    refine hg A env ρ H s' v p _ _ _ hA he R' S' hv q fun ρ1 H1 s1 R1 S1 e1 q1 => ?_
    refine wpAny_mono (hb A env ρ1 H1 s1 _ _ hA he R1 S1 q1) (fun f s2 rr => rr.elim fun fl ρ2 H2 hf R2 S2 e2 q2 => ?_) fun _ _ x => x
    have e02 := ((noP s' e').trans e1).trans e2
    have again : G H2 ∧ forL g b G Q ps ρ2 H2 → ∃ m, m < (p :: ps).length ∧ ∃ items H ρ, m = items.length ∧ J items H s2 ∧ ER c.base c.N env ρ s2.heap ∧ St c.base H s2 ∧ Ext (Own env) No H₀ s₀ H s2 ∧ forL g b G Q items ρ H := fun hq =>
      ⟨ps.length, by simp, ps, H2, ρ2, rfl, it.frame (Own env) ps H s' H2 s2 hj' S' (e1.trans e2) S2 ownP (own_no_imm R') hq.1, R2, S2, e02, hq.2⟩
    cases hf with
    | next => exact again q2
    | cont => exact again q2
    | brk => exact hR _ _ ⟨.next, ρ2, H2, .next, R2, S2, e02, q2⟩
    | ret hv => exact hR _ _ ⟨.ret _, ρ2, H2, .ret hv, R2, S2, e02, q2⟩

theorem stmt_for {tg iter : Expr} {body : List Stmt} {pos : Pos} {g : ATg} {src : AE} {b : AS} (hs : SoundE c n sc iter src) (hg : SoundA c n sc tg g) (hb : SoundB c n sc body b) (hf : ∀ env x, foldedSetIterable iter env x = pure x)
    (ht : (∃ elts k pos, tg = .Tuple elts k pos) ∨ ∀ it v, letOwnedTupleGo tg it v = pure ()) : SoundS c n sc (.For tg iter body [] pos) (sFor g src b) := by
  intro A env ρ H s Q E hA he R S q
  refine wpAny_For (seq1 (F := fun p H1 => withItems p (fun items G H2 => forL g b G Q items ρ H2) H1) hs hA he R S q ?_) (hf env)
  intro va a H1 s1 h1 R1 S1 e1 q1
  refine iter_sound (n := n) h1 S1 q1 fun I items P G J s2 it hj S2 e2 hP hG q2 => ?_
  exact for_loop (it.at hA) hg hb hA he ht R1 (fun a h => (hP a h).1) (fun _ h => h.elim) hj (R1.ext0 S1 e2) S2 e2.of_no q2 fun f s' r => r.trans e1.of_no
end
end Mine
open PySem PySem.W PySem.Calls PyProof.Rows
set_option Elab.async false
set_option linter.unusedVariables false
namespace Mine
section
variable {c : Cx} {n : Nat} {sc : SE}

-- while
def whileN (t : AT) (b : AS) (Q : Fl → AEnv → AH → Prop) : Nat → AEnv → AH → Prop
  | 0, _, _ => False
  | k + 1, ρ, H => t (fun r H1 => if r then b (fun fl ρ2 H2 => match fl with
      | .next => whileN t b Q k ρ2 H2
      | .cont => whileN t b Q k ρ2 H2
      | .brk => Q .next ρ2 H2
      | .ret v => Q (.ret v) ρ2 H2) ρ H1 else Q .next ρ H1) ρ H
def sWhile (t : AT) (b : AS) : AS := fun Q ρ H => ∃ k, whileN t b Q k ρ H
theorem stmt_while {e : Expr} {body : List Stmt} {pos : Pos} {t : AT} {b : AS} (ht : SoundT c n sc e t) (hb : SoundB c n sc body b) : SoundS c n sc (.While e body [] pos) (sWhile t b) := by
  intro A env ρ H s Q E hA he R S q
  obtain ⟨k, q⟩ := q
  refine wpAny_While (codeAny_whileLoop (fun k s' => ∃ ρ' H', ER c.base c.N env ρ' s'.heap ∧ St c.base H' s' ∧ Ext (Own env) No H s H' s' ∧ whileN t b Q k ρ' H') ?_ k ⟨ρ, H, R, S, .refl, q⟩)
  rintro k s' ⟨ρ', H', R', S', e', q'⟩
  cases k with
  | zero => exact q'.elim
  | succ k =>
    refine bool_mono (ht A env ρ' H' s' _ _ hA he R' S' q') fun r H1 s1 S1 e1 q1 => ?_
    have R1 := R'.ext0 S' e1
    have e01 := e'.trans e1.of_no
    cases r with
    | false => exact wpAny_execs_nil ⟨.next, ρ', H1, .next, R1, S1, e01, by simpa using q1⟩
    | true =>
      simp only [if_true] at q1 ⊢
      refine wpAny_mono (hb A env ρ' H1 s1 _ _ hA he R1 S1 q1) (fun f s2 rr => rr.elim fun fl ρ2 H2 hf R2 S2 e2 q2 => ?_) fun _ _ x => x
      have e02 := e01.trans e2
      cases hf with
      | next => exact ⟨k, Nat.lt_succ_self _, ρ2, H2, R2, S2, e02, q2⟩
      | cont => exact ⟨k, Nat.lt_succ_self _, ρ2, H2, R2, S2, e02, q2⟩
      | brk => exact ⟨.next, ρ2, H2, .next, R2, S2, e02, q2⟩
      | ret hv => exact ⟨.ret _, ρ2, H2, .ret hv, R2, S2, e02, q2⟩

-- the text's own functions
abbrev AF := List PV → (PV → AH → Prop) → AH → Prop
def SoundV (c : Cx) (n : Nat) (cv : Value) (f : AF) : Prop :=
  ∀ (A : Around) (H : AH) (s : Shared) (vs : List Value) (ps : List PV) (Q : PV → AH → Prop) (E : Value → Shared → Prop), AOk n A → VAll s.heap vs ps → St c.base H s → f ps Q H → wpAny (model c.prog c.w) A (call cv vs) (Res c H s Q) E s
def SoundF (c : Cx) (n : Nat) (name : Str) (f : AF) : Prop := ∃ a o fd, c.mg name = some (.ref a) ∧ c.base.get? a = some o ∧ o.data = .func fd ∧ SoundV c n (.ref a) f
def aCall (f : AF) (l : AL) : AE := fun Q ρ H => l (fun ps H1 => f ps Q H1) ρ H

theorem seqL {A : Around} {env : Env} {ρ : AEnv} {H : AH} {s : Shared} {E : Value → Shared → Prop} {es : List Expr} {al : AL} {pos : Pos} {P : List Value → Shared → Prop} {F : List PV → AH → Prop} (hl : SoundL c n sc es al) (hA : AOk n A) (he : EOk sc env) (R : ER c.base c.N env ρ s.heap) (S : St c.base H s)
    (h : al F ρ H) (k : ∀ vs ps H1 s1, VAll s1.heap vs ps → ER c.base c.N env ρ s1.heap → St c.base H1 s1 → Ext No No H s H1 s1 → F ps H1 → P vs s1) :
    wpAny (model c.prog c.w) A (spliced (backTo pos (starEach es env))) P E s :=
  wpAny_mono (hl A env ρ H s _ E pos hA he R S h) (fun va s1 rr => rr.elim fun a H1 h1 S1 e1 q1 => k va a H1 s1 h1 (R.ext0 S e1) S1 e1 q1) fun _ _ x => x

theorem sound_call {name : Str} {f : AF} {e : Expr} {es : List Expr} {l : AL} {p pos : Pos} {m : Nat} (hf : SoundF c m name f) (hl : SoundL c n sc (e :: es) l) (hk : sc.names.lookup name = some .globalImplicit) (hm : m ≤ n)
    (hd : (name == ("__debug__" : Str)) = false) (he' : ∀ env, starEach (e :: es) env = (false, eval e env) :: starEach es env) : SoundE c n sc (.Call (.Name name p) (e :: es) [] pos) (aCall f l) := by
  intro A env ρ H s Q E hA he R S q
  obtain ⟨a, o, fd, h1, h2, h3, h4⟩ := hf
  have T := c.top.keeps S.hr.keep
  refine Call_ (Name_function_global he.skind (by rw [he.kindOf]; exact hk) (loadGlobal_global (mg := c.mg) (by rw [he.globals]; exact T.g) h1 ?_) hd)
  refine callWith_def h3 (seqL (F := fun ps H1 => f ps Q H1) hl hA he R S q fun vs ps H1 s1 hv R1 S1 e1 q1 => ⟨S1.hr.keep a o h2, ?_⟩) (he' env)
  exact wpAny_mono (h4 A H1 s1 vs ps Q E (hA.of_le hm) hv S1 q1) (fun _ _ r => r.trans e1) fun _ _ x => x

-- built-in functions and types
def isCallee : Value → Bool
  | .builtin _ => true
  | .type _ => true
  | _ => false
theorem sound_bi {name : Str} {cv : Value} {f : AF} {e : Expr} {es : List Expr} {l : AL} {p pos : Pos} (hf : SoundV c n cv f) (hc : isCallee cv = true) (hm : c.mg name = none) (hb : bootBuiltins name = some cv) (hn : name ≠ ("__name__" : Str)) (hl : SoundL c n sc (e :: es) l) (hk : sc.names.lookup name = some .globalImplicit)
    (hd : (name == ("__debug__" : Str)) = false) (he' : ∀ env, starEach (e :: es) env = (false, eval e env) :: starEach es env) (hp : ∀ env, (backTo pos (starEach es env)).any (·.1) = false) : SoundE c n sc (.Call (.Name name p) (e :: es) [] pos) (aCall f l) := by
  intro A env ρ H s Q E hA he R S q
  have T := c.top.keeps S.hr.keep
  refine Call_ (Name_function_global he.skind (by rw [he.kindOf]; exact hk) (loadGlobal_builtin (mg := c.mg) (mb := c.mb) (by rw [he.globals]; exact T.g) hm (by rw [he.builtins]; exact T.b) ((T.builtins name hn).trans hb) ?_) hd)
  have args : wpAny (model c.prog c.w) A (spliced (backTo pos (starEach (e :: es) env))) (fun vs s1 => wpAny (model c.prog c.w) A (call cv vs) (Res c H s Q) E s1) E s :=
    seqL (F := fun ps H1 => f ps Q H1) hl hA he R S q fun vs ps H1 s1 hv R1 S1 e1 q1 => wpAny_mono (hf A H1 s1 vs ps Q E hA hv S1 q1) (fun _ _ r => r.trans e1) fun _ _ x => x
  cases cv with
  | builtin id => exact callWith_builtin1 args (he' env) (hp env)
  | type T =>
    rw [he' env] at args ⊢
    exact PySem.callWith_type (by show (false || (backTo pos (starEach es env)).any (·.1)) = false; rw [hp env]; rfl) (evalArgs_plain args)
  | _ => cases hc

-- entering
theorem bindL_other {kd : Str → Option NameKind} : ∀ (binds : List (Str × Value)) (m : Str → Option Value) (y : Str), (∀ v, (y, v) ∉ binds) → bindL kd binds m y = m y
  | [], _, _, _ => rfl
  | (x, v) :: r, m, y, h => by
    unfold bindL
    rw [bindL_other r _ y fun w hw => h w (.tail _ hw)]
    have : y ≠ x := by rintro rfl; exact h v (.head _)
    split <;> simp [this]
theorem bindC_other {kd : Str → Option NameKind} : ∀ (binds : List (Str × Value)) (m : Str → Option Value) (y : Str), (∀ v, (y, v) ∉ binds) → bindC kd binds m y = m y
  | [], _, _, _ => rfl
  | (x, v) :: r, m, y, h => by
    unfold bindC
    rw [bindC_other r _ y fun w hw => h w (.tail _ hw)]
    have : y ≠ x := by rintro rfl; exact h v (.head _)
    split <;> simp [this]
theorem nodup_head {x : Str} {v : Value} {r : List (Str × Value)} (h : (((x, v) :: r).map (·.1)).Nodup) : ∀ w, (x, w) ∉ r := by
  intro w hw
  simp at h
  exact h.1 _ hw
theorem bindL_at {kd : Str → Option NameKind} : ∀ (binds : List (Str × Value)) (m : Str → Option Value) {x : Str} {v : Value}, (binds.map (·.1)).Nodup → (x, v) ∈ binds → kd x = some .local → bindL kd binds m x = some v
  | (y, w) :: r, m, x, v, hn, hm, hk => by
    unfold bindL
    rcases List.mem_cons.mp hm with e | hm
    · cases e
      rw [bindL_other r _ _ (nodup_head hn), if_pos hk]; simp
    · exact bindL_at r _ (by simp at hn ⊢; exact hn.2) hm hk
theorem bindC_at {kd : Str → Option NameKind} : ∀ (binds : List (Str × Value)) (m : Str → Option Value) {x : Str} {v : Value}, (binds.map (·.1)).Nodup → (x, v) ∈ binds → kd x ≠ some .local → bindC kd binds m x = some v
  | (y, w) :: r, m, x, v, hn, hm, hk => by
    unfold bindC
    rcases List.mem_cons.mp hm with e | hm
    · cases e
      rw [bindC_other r _ _ (nodup_head hn), if_neg hk]; simp
    · exact bindC_at r _ (by simp at hn ⊢; exact hn.2) hm hk

def bindP : List Nat → List PV → AEnv
  | k :: ks, p :: ps => upd (bindP ks ps) k p
  | _, _ => fun _ => none
theorem bindP_at {N : List Str} {h : Heap} : ∀ (ks : List Nat) (xs : List Str) (vs : List Value) (ps : List PV), ks.map (N[·]?) = xs.map some → VAll h vs ps → ps.length = ks.length → ∀ k p, bindP ks ps k = some p → ∃ x v, N[k]? = some x ∧ (x, v) ∈ xs.zip vs ∧ VRel h v p
  | [], _, _, _, _, _, _, k, p, h => by simp [bindP] at h
  | k0 :: ks, [], _, _, hx, _, _, _, _, _ => by simp at hx
  | k0 :: ks, x :: xs, [], _, _, hv, hl, _, _, _ => by cases hv; simp at hl
  | k0 :: ks, x :: xs, v :: vs, _, hx, .cons hv hr, hl, k, p, hp => by
    simp only [bindP] at hp
    by_cases e : k = k0
    · subst e
      rw [upd_same] at hp; cases hp
      exact ⟨x, v, by simpa using (List.cons.inj hx).1, by simp, hv⟩
    · rw [upd_other _ _ e] at hp
      obtain ⟨y, w, h1, h2, h3⟩ := bindP_at ks xs vs _ (List.cons.inj hx).2 hr (by simpa using hl) k p hp
      exact ⟨y, w, h1, by simp [h2], h3⟩

/-- what a call of a def gives -/
def aFn (ks : List Nat) (b : AS) : AF := fun ps Q H => ps.length = ks.length ∧ b (fun fl _ H' => match fl with
  | .ret p => Q p H'
  | .next => Q .none H'
  | .brk => False
  | .cont => False) (bindP ks ps) H

theorem sound_fn {d : DefRec} {ks : List Nat} {xs : List Str} {b : AS} (hd : d ∈ recsOf c.q) (hb : SoundB c n ⟨d.scope, []⟩ d.body b) (hx : ks.map (c.N[·]?) = xs.map some) (hnd : xs.Nodup)
    (hbind : ∀ pm cd doc vs, vs.length = xs.length → bindArgs (Calls.docDef d.name d.params d.body d.scope pm cd doc) ⟨vs, []⟩ = pure (xs.zip vs))
    (hkind : ∀ x ∈ xs, d.scope.names.lookup x = some .local ∨ d.scope.names.lookup x = some .cell)
    (hco : d.scope.isCoroutine = false) (hgen : d.scope.isGenerator = false) (hk : d.scope.kind = .function) : SoundF c (n + 1) d.name (aFn ks b) := by
  obtain ⟨a, o, pm, cd, doc, h1, h2, h3, h4⟩ := c.top.fn d hd
  refine ⟨a, o, _, h1, h2, h3, ?_⟩
  intro A H s vs ps Q E hA hv S q
  obtain ⟨ql, q⟩ := q
  have hlen : ks.length = xs.length := by simpa using congrArg List.length hx
  have T := c.top.keeps S.hr.keep
  refine wpAny_call (codeAny_call_cells (by have := hA.depth; simp only [recursionLimit]; omega) (S.hr.keep a o h2) h3 T.nolimit (h4.keeps S.hr.keep) rfl (hbind pm cd doc vs (by rw [hv.length, ql, hlen])) rfl ?_ (fun s1 x => ?_) hco hgen hk)
  · intro y hy
    have hmem : y.1 ∈ xs := (List.of_mem_zip hy).1
    rcases hkind _ hmem with k | k
    · exact .inl k
    · exact .inr ⟨k, cellsFrom_some _ _ _ (.inl k)⟩
  · generalize henv : callEnvC (Calls.docDef d.name d.params d.body d.scope pm cd doc) s.heap.objs.size a = env at x ⊢
    have eL : env.locals = s.heap.objs.size := by rw [← henv]; rfl
    have eS : env.scope = d.scope := by rw [← henv]; rfl
    have eC : env.cells = cellsFrom (s.heap.objs.size + 1) d.scope.names [] := by rw [← henv]; rfl
    have he : EOk ⟨d.scope, []⟩ env := ⟨eS, hk, by rw [← henv]; rfl, by rw [← henv]; rfl, fun y hy => by
      obtain ⟨a', ha'⟩ := Option.isSome_iff_exists.mp (cellsFrom_some d.scope.names (s.heap.objs.size + 1) [] (.inl hy))
      exact ⟨a', by rw [eC]; exact ha', fun _ => x.above y a' (mem_of_lookup (by rw [eC]; exact ha'))⟩⟩
    obtain ⟨h', tk, rfl⟩ := x.toInCall.same
    have hgrow : s.heap.objs.size ≤ h'.objs.size := Nat.le_of_lt (Nat.lt_of_le_of_lt x.toInCall.fresh x.toInCall.ns.lt)
    have S1 : St c.base H { s with heap := h', toks := tk } := S.of_keep (X := No) (fun b o _ h => x.toInCall.keep b o h) (fun _ h => h.elim) (fun _ h => h.elim) (fun _ h => h.elim)
    have e1 : Ext No No H s H { s with heap := h', toks := tk } := Ext.of_keep (fun b o _ h => x.toInCall.keep b o h) hgrow
    have hv' : VAll h' vs ps := hv.mono fun b o h => x.toInCall.keep b o h.1
    have hz : (xs.zip vs).map (·.1) = xs := by
      rw [List.map_fst_zip]; rw [hv.length, ql, hlen]; exact Nat.le_refl _
    have R1 : ER c.base c.N env (bindP ks ps) h' := {
      names := ⟨_, x.toInCall.ns, fun k p hp => by
        obtain ⟨y, v, k1, k2, k3⟩ := bindP_at ks xs vs ps hx hv' ql k p hp
        refine ⟨y, v, k1, k3, ?_⟩
        have hkd := hkind y (List.of_mem_zip k2).1
        rcases hkd with kd | kd
        · have kd' : env.kindOf y = some .local := by rw [he.kindOf]; exact kd
          exact .inl ⟨kd', bindL_at _ _ (by rw [hz]; exact hnd) k2 kd'⟩
        · have kd' : env.kindOf y = some .cell := by rw [he.kindOf]; exact kd
          obtain ⟨cc, hcc, _⟩ := he.cells y kd
          refine .inr ⟨.inl kd', cc, hcc, ?_⟩
          have := x.cell y cc hcc
          rwa [bindC_at _ _ (by rw [hz]; exact hnd) k2 (by rw [kd']; simp)] at this⟩
      cells := fun y cc hy => ⟨_, x.cell y cc hy⟩
      apart := x.apart
      new := S.bsize x.toInCall.fresh
      cnew := fun y cc hy => S.bsize (Nat.le_of_lt (Nat.lt_of_le_of_lt x.toInCall.fresh (x.above y cc (mem_of_lookup hy)))) }
    refine wpAny_mono (hb _ env (bindP ks ps) H _ _ _ (hA.deeper env) he R1 S1 q) (fun f s' rr => rr.elim fun fl ρ' H' hf R' S' e' q' => ?_) fun _ _ x => x
    have own : ∀ b, Own env b → No b ∨ s.heap.objs.size ≤ b := by
      rintro b (rfl | ⟨_, y, hy⟩)
      · exact .inr x.toInCall.fresh
      · exact .inr (Nat.le_of_lt (Nat.lt_of_le_of_lt x.toInCall.fresh (x.above y b (mem_of_lookup hy))))
    have e2 := e1.then_new e' own (fun _ h => h.elim)
    cases hf with
    | next => exact ⟨.none, H', .none, S', e2, q'⟩
    | brk => exact q'.elim
    | cont => exact q'.elim
    | ret hv => exact ⟨_, H', hv, S', e2, q'⟩
end
end Mine
open PySem PySem.W PySem.Calls PyProof.Rows
set_option Elab.async false
set_option linter.unusedVariables false
namespace Mine
section
variable {c : Cx} {n : Nat} {sc : SE}

-- items
def nth {α : Type} (xs : List α) (k : Int) : Option α := if 0 ≤ k then xs[k.toNat]? else if -(xs.length : Int) ≤ k then xs[(k + xs.length).toNat]? else none
def kOk (k : Int) : Prop := -1000000000 ≤ k ∧ k ≤ 1000000000
theorem nth_seq {α : Type} {xs : List α} {k : Int} {x : α} (h : nth xs k = some x) : ∃ j, seqIndex? k xs.length = some j ∧ xs[j]? = some x := by
  unfold nth at h
  by_cases h0 : 0 ≤ k
  · rw [if_pos h0] at h
    have hl := (List.getElem?_eq_some_iff.mp h).1
    exact ⟨k.toNat, seqIndex_of h0 (by omega), h⟩
  · rw [if_neg h0] at h
    by_cases h1 : -(xs.length : Int) ≤ k
    · rw [if_pos h1] at h
      exact ⟨_, seqIndex_neg (by omega) h1, h⟩
    · rw [if_neg h1] at h; cases h
def opItem (o i : PV) (Q : PV → AH → Prop) (H : AH) : Prop := match o, i with
  | .ref a, .int k => (match H a with | some x => (match nth x.items k with | some p => kOk k ∧ Q p H | none => False) | none => False)
  | .tup ps, .int k => (match nth ps k with | some p => kOk k ∧ Q p H | none => False)
  | .str x, .int k => (match nth x k with | some ch => kOk k ∧ Q (.str [ch]) H | none => False)
  | _, _ => False
theorem op_item : SoundOp2 c n getItem opItem := by
  intro A H s va vb a b Q E hA h1 h2 S h
  cases h2 with
  | int k t =>
    cases h1 with
    | ref a =>
      simp only [opItem] at h
      cases ha : H a with
      | none => simp [ha] at h
      | some x =>
        simp only [ha] at h
        cases hn : nth x.items k with
        | none => simp [hn] at h
        | some p =>
          simp only [hn] at h
          obtain ⟨vs, j, hL, hv⟩ := S.hr.list a x ha
          obtain ⟨i, hi, hx⟩ := nth_seq hn
          obtain ⟨v, hv1, hv2⟩ := hv.get hx
          have hlen : vs.size = x.items.length := by simpa using hv.length
          by_cases h0 : 0 ≤ k
          · have : i = k.toNat := by
              have := (List.getElem?_eq_some_iff.mp hx).1
              by_cases hlt : k < x.items.length
              · rw [seqIndex_of h0 hlt] at hi; cases hi; rfl
              · unfold nth at hn; rw [if_pos h0] at hn; rw [List.getElem?_eq_none (by omega)] at hn; cases hn
            subst this
            exact wpAny_getItem_list hL.isList h0 (by have := h.1.2; omega) (by simpa using hv1) (res_pure S hv2 h.2)
          · have h1 : -(x.items.length : Int) ≤ k := by
              by_cases q : -(x.items.length : Int) ≤ k
              · exact q
              · unfold nth at hn; rw [if_neg h0, if_neg q] at hn; cases hn
            have : i = (k + x.items.length).toNat := by rw [seqIndex_neg (by omega) h1] at hi; cases hi; rfl
            subst this
            exact wpAny_getItem_list_neg hL.isList (by omega) (by rw [hlen]; exact h1) (by have := h.1.1; omega) (by rw [hlen]; simpa using hv1) (res_pure S hv2 h.2)
    | tup hT hvs =>
      simp only [opItem] at h
      rename_i aa vs nn ps
      cases hn : nth ps k with
      | none => simp [hn] at h
      | some p =>
        simp only [hn] at h
        obtain ⟨i, hi, hx⟩ := nth_seq hn
        obtain ⟨v, hv1, hv2⟩ := hvs.get hx
        have hlen : vs.length = ps.length := hvs.length
        exact PySem.P.getItem_tuple hT (by have := h.1.1; omega) (by have := h.1.2; omega) (by simpa [hlen] using hi) (by simpa using hv1) (res_pure S hv2 h.2)
    | str x t hx =>
      simp only [opItem] at h
      cases hn : nth x k with
      | none => simp [hn] at h
      | some ch =>
        simp only [hn] at h
        obtain ⟨i, hi, hx'⟩ := nth_seq hn
        refine PyProof.Rows.getItem_str ?_ (c := ch) ?_ (res_tok (p := .str [ch]) S (.str [ch] _ ?_) h.2)
        · have := h.1.1; have := h.1.2
          simp; omega
        · rw [str_len, hi]; simpa using hx'
        · have := List.mem_of_getElem? hx'
          simpa using hx ch this
    | _ => exact h.elim
  | _ => cases h1 <;> exact h.elim

theorem typ_get {H : AH} {s : Shared} {v : Value} {p : PV} {k : Int} {Q : PV → AH → Prop} (h1 : VRel s.heap v p) (S : St c.base H s) (h : ∃ a x, (p = .ref a ∧ H a = some x) ∨ (∃ ps, p = .tup ps) ∨ ∃ y, p = .str y) :
    ∃ T id, s.TypeIs v T ∧ typeLookup (.type T) "__getitem__" = pure (some (.builtin id)) := by
  obtain ⟨a, x, ⟨rfl, ha⟩ | ⟨ps, rfl⟩ | ⟨y, rfl⟩⟩ := h
  · cases h1
    obtain ⟨vs, j, hL, hv⟩ := S.hr.list a x ha
    exact ⟨"list", _, ⟨_, hL, rfl⟩, list_getitem_lookup⟩
  · cases h1 with
    | tup hT _ => exact ⟨"tuple", _, ⟨_, hT, rfl⟩, F.slot_tuple_getitem.lookup⟩
  · cases h1
    exact ⟨"str", _, typeIs_str _ _ _, F.slot_str_getitem.lookup⟩

theorem sub_any {M : Model} {A : Around} {env : Env} {s : Shared} {E : Value → Shared → Prop} {value slice : Expr} {pos : Pos} {Q : Value → Shared → Prop} {prog : Program} {w : World}
    (h : wpAny (model prog w) A (eval value env) (fun o s₁ => wpAny (model prog w) A (eval slice env) (fun i s₂ => (∃ T id, s₂.TypeIs o T ∧ typeLookup (.type T) "__getitem__" = pure (some (.builtin id))) ∧ wpAny (model prog w) A (getItem o i) Q E s₂) E s₁) E s) :
    wpAny (model prog w) A (eval (.Subscript value slice pos) env) Q E s := by
  rw [eval_Subscript]
  refine wpAny_bind (wpAny_mono h (fun o s1 h1 => wpAny_bind (wpAny_holding (wpAny_mono h1 (fun i s2 ⟨⟨T, id, hT, hl⟩, h2⟩ => ?_) fun _ _ x => x))) fun _ _ x => x)
  refine wpAny_bind (wpAny_standAt ?_)
  rw [getitemInPython_of_ne hT.not_modules]
  refine wpAny_bind (wpAny_bind (wpAny_specialOf hT hl (wpAny_pure ?_)))
  have e : subscripted slice false o i = operate [i, o] (getItem o i) ∨ subscripted slice false o i = operate [o, i] (getItem o i) := by
    unfold subscripted; split <;> simp_all
  rcases e with e | e <;> rw [e] <;>
  exact wpAny_bind (wpAny_operating (wpAny_mono h2 (fun r s3 h3 => wpAny_bind (wpAny_letTemporaryGo (wpAny_pure h3))) fun _ _ x => x))
theorem sound_sub {value slice : Expr} {pos : Pos} {ao ai : AE} (ho : SoundE c n sc value ao) (hi : SoundE c n sc slice ai) : SoundE c n sc (.Subscript value slice pos) (aBin opItem ao ai) := by
  intro A env ρ H s Q E hA he R S q
  refine sub_any (M := model c.prog c.w) (seq2 (F := fun a b H2 => opItem a b Q H2) ho hi hA he R S q ?_)
  intro va vb a b H2 s2 h1 h2 R2 S2 e2 q2
  refine ⟨typ_get (k := 0) (Q := Q) h1 S2 ?_, wpAny_mono (op_item A H2 s2 va vb a b Q E hA h1 h2 S2 q2) (fun _ _ r => r.trans e2) fun _ _ x => x⟩
  unfold opItem at q2
  split at q2
  · rename_i l k
    cases ha : H2 l with
    | none => rw [ha] at q2; exact q2.elim
    | some x => exact ⟨l, x, .inl ⟨rfl, ha⟩⟩
  · exact ⟨0, ⟨[], true⟩, .inr (.inl ⟨_, rfl⟩)⟩
  · exact ⟨0, ⟨[], true⟩, .inr (.inr ⟨_, rfl⟩)⟩
  · exact q2.elim
end
end Mine
open PySem PySem.W PySem.Calls PyProof.Rows
set_option Elab.async false
set_option linter.unusedVariables false
namespace Mine
section
variable {c : Cx} {n : Nat} {sc : SE}

-- writing lists
theorem res_set {H : AH} {s : Shared} {Q : PV → AH → Prop} {a : Addr} {x : LO} {items : Array Value} {m : Nat} {f : Array Value → Array Value} {ps : List PV} {v : Value} {p : PV} (S : St c.base H s) (hx : H a = some x) (ho : x.own = true) (hl : IsL s.heap a items m) (hv : VAll s.heap (f items).toList ps)
    (hr : VRel s.heap v p) (q : Q p (upd H a ⟨ps, true⟩)) : Res c H s Q v { s with heap := s.heap.update a (Obj.mapSeq f) } := by
  have hs := Heap.SameBut.update s.heap a (Obj.mapSeq f)
  have e : Ext No No H s (upd H a ⟨ps, true⟩) { s with heap := s.heap.update a (Obj.mapSeq f) } := Ext.setList (tk := s.toks) hx ho hs
  exact ⟨p, _, hr.ext0 S e, S.setList (tk := s.toks) hx ho (hl.update f) hs hv, e, q⟩

/-- a list of ours that may be written -/
def withOwn (p : PV) (k : Nat → List PV → Prop) (H : AH) : Prop := match p with
  | .ref a => (match H a with | some x => x.own = true ∧ k a x.items | none => False)
  | _ => False
theorem withOwn_elim {p : PV} {k : Nat → List PV → Prop} {H : AH} (h : withOwn p k H) : ∃ a x, p = .ref a ∧ H a = some x ∧ x.own = true ∧ k a x.items := by
  unfold withOwn at h
  split at h
  · rename_i a
    cases ha : H a with
    | none => rw [ha] at h; exact h.elim
    | some x => rw [ha] at h; exact ⟨a, x, rfl, ha, h.1, h.2⟩
  · exact h.elim

def setAt (o i p : PV) (Q : AH → Prop) (H : AH) : Prop := match i with
  | .int k => withOwn o (fun a xs => (0 ≤ k ∧ k ≤ 1000000000 ∧ k < xs.length) ∧ Q (upd H a ⟨xs.set k.toNat p, true⟩)) H
  | _ => False
def gSub (ao ai : AE) : ATg := fun p Q ρ H => ao (fun o H1 => ai (fun i H2 => setAt o i p (fun H3 => Q ρ H3) H2) ρ H1) ρ H
-- rows of targets
def gTup (gs : List ATg) : ATg := fun p Q ρ H => match p with
  | .tup ps => ps.length = gs.length ∧ go gs ps Q ρ H
  | _ => False
where
  go : List ATg → List PV → (AEnv → AH → Prop) → AEnv → AH → Prop
    | g :: gs, p :: ps, Q, ρ, H => g p (fun ρ1 H1 => go gs ps Q ρ1 H1) ρ H
    | _, _, Q, ρ, H => Q ρ H
inductive SoundAs (c : Cx) (n : Nat) (sc : SE) : List Expr → List ATg → Prop
  | nil : SoundAs c n sc [] []
  | cons {t : Expr} {ts : List Expr} {g : ATg} {gs : List ATg} : SoundA c n sc t g → (∀ env, assignEach (t :: ts) env = (false, assign t env) :: assignEach ts env) → SoundAs c n sc ts gs → SoundAs c n sc (t :: ts) (g :: gs)
theorem SoundAs.length {ts : List Expr} {gs : List ATg} (h : SoundAs c n sc ts gs) (env : Env) : (assignEach ts env).length = gs.length ∧ (assignEach ts env).findIdx? (·.1) = none := by
  induction h with
  | nil => exact ⟨rfl, rfl⟩
  | cons h1 h2 h3 ih => rw [h2]; exact ⟨by simp [ih.1], by simp [List.findIdx?_cons, ih.2]⟩
theorem assign_row {A : Around} {env : Env} (hA : AOk n A) (he : EOk sc env) {P : Unit → Shared → Prop} {E : Value → Shared → Prop} : ∀ {ts : List Expr} {gs : List ATg}, SoundAs c n sc ts gs → ∀ (ρ : AEnv) (H : AH) (s : Shared) (vs : List Value) (ps : List PV) (Q : AEnv → AH → Prop), ER c.base c.N env ρ s.heap → St c.base H s → VAll s.heap vs ps → ps.length = gs.length → gTup.go gs ps Q ρ H →
    (∀ ρ' H' s', ER c.base c.N env ρ' s'.heap → St c.base H' s' → Ext (Own env) No H s H' s' → Q ρ' H' → P () s') → wpAny (model c.prog c.w) A (assignInOrder ((assignEach ts env).map (·.2)) vs) P E s := by
  intro ts gs h
  induction h with
  | nil =>
    intro ρ H s vs ps Q R S hv hl q k
    cases hv with
    | nil => exact wpAny_pure (k ρ H s R S .refl q)
    | cons _ _ => simp at hl
  | @cons t ts g gs h1 h2 h3 ih =>
    intro ρ H s vs ps Q R S hv hl q k
    cases hv with
    | nil => simp at hl
    | @cons v p vs ps hv hr =>
      rw [h2]
      show wpAny _ _ (holding vs (assign t env v) >>= fun _ => assignInOrder ((assignEach ts env).map (·.2)) vs) _ _ _
      refine wpAny_bind (wpAny_holding (h1 A env ρ H s v p _ _ _ hA he R S hv q fun ρ1 H1 s1 R1 S1 e1 q1 => ?_))
      exact ih ρ1 H1 s1 vs ps Q R1 S1 (hr.ext S e1 (own_no_imm R)) (by simpa using hl) q1 fun ρ' H' s' R' S' e' q' => k ρ' H' s' R' S' (e1.trans e') q'
theorem tgt_tup {ts : List Expr} {gs : List ATg} {k : Nat} {pos : Pos} (h : SoundAs c n sc ts gs) : SoundA c n sc (.Tuple ts k pos) (gTup gs) := by
  intro A env ρ H s v p Q P E hA he R S hv q kk
  cases hv with
  | tup hT hvs =>
    obtain ⟨ql, q⟩ := q
    rename_i a vs m ps
    have hlen := h.length env
    show wpAny _ _ (do standAt pos; unpack (.ref a) (assignEach ts env)) _ _ _
    unfold unpack
    rw [hlen.1, hlen.2]
    have hsz : gs.length = vs.toArray.size := by simp [hvs.length, ql]
    rw [hsz]
    refine wpAny_bind (wpAny_standAt (wpAny_bind (wpAny_holding (wpAny_grow (wpAny_unpackItems_tuple hA.handled ⟨_, hT, rfl, _, rfl⟩ fun h' hx hg => ?_)))))
    have hk : ∀ b o, s.heap.get? b = some o → h'.get? b = some o := fun b o hb => hx b o (Nat.ne_of_lt (Heap.lt_size hb)) hb
    have S1 : St c.base H { s with heap := h' } := S.of_keep (X := No) (tk := s.toks) (fun b o _ h => hk b o h) (fun _ h => h.elim) (fun _ h => h.elim) (fun _ h => h.elim)
    have e1 : Ext No No H s H { s with heap := h' } := Ext.of_keep (tk := s.toks) (fun b o _ h => hk b o h) hg.1
    exact assign_row hA he h ρ H { s with heap := h' } _ _ _ (R.ext0 S e1) S1 (by simpa using hvs.ext0 S e1) ql q fun ρ' H' s' R' S' e' q' => kk ρ' H' s' R' S' (e1.of_no.trans e') q'
  | _ => exact q.elim
end
end Mine
open PySem PySem.W PySem.Calls PyProof.Rows
set_option Elab.async false
set_option linter.unusedVariables false
namespace Mine
section
variable {c : Cx} {n : Nat} {sc : SE}

-- slices
def slcG {α : Type} (xs : List α) (lo hi st : Option Int) : List α := (sliceRange (sliceBounds lo hi st xs.length).1 (sliceBounds lo hi st xs.length).2.1 (sliceBounds lo hi st xs.length).2.2).filterMap (xs[·]?)
def slc {α : Type} (xs : List α) (lo hi : Option Int) : List α := (xs.drop (lo.elim 0 (clipAt xs.length))).take (hi.elim xs.length (clipAt xs.length) - lo.elim 0 (clipAt xs.length))
theorem clipAt_le (n : Nat) (i : Int) : clipAt n i ≤ n := by unfold clipAt; split <;> omega
theorem slcG_plain {α : Type} (xs : List α) (lo hi : Option Int) : slcG xs lo hi none = slc xs lo hi := by
  unfold slcG slc
  rw [sliceBounds_plain]
  simp only
  rw [sliceRange_one]
  have := pick_run xs.toArray (lo.elim 0 (clipAt xs.length)) (hi.elim xs.length (clipAt xs.length) - lo.elim 0 (clipAt xs.length))
  simpa using this
theorem VAll.picks {h : Heap} {vs : List Value} {ps : List PV} (hv : VAll h vs ps) : ∀ is : List Nat, VAll h (is.filterMap (vs[·]?)) (is.filterMap (ps[·]?))
  | [] => .nil
  | i :: is => by
    rw [List.filterMap_cons, List.filterMap_cons]
    cases hp : ps[i]? with
    | none =>
      have : vs[i]? = none := by
        rw [List.getElem?_eq_none_iff] at hp ⊢; rw [hv.length]; exact hp
      rw [this]; exact hv.picks is
    | some p =>
      obtain ⟨v, h1, h2⟩ := hv.get hp
      rw [h1]; exact .cons h2 (hv.picks is)
def partOf : PV → Option (Option Int)
  | .none => some none
  | .int i => some (some i)
  | _ => none
def opSlice (o l u st : PV) (Q : PV → AH → Prop) (H : AH) : Prop := match partOf l, partOf u, partOf st with
  | some l, some u, some st => (match o with
    | .ref a => (match H a with | some x => (st ≠ some 0 ∧ szOk x.items.length) ∧ newL (slcG x.items l u st) Q H | none => False)
    | .str x => (st = none ∧ szOk x.length) ∧ Q (.str (slc x l u)) H
    | _ => False)
  | _, _, _ => False
theorem part_is {h : Heap} {v : Value} {p : PV} {k : Option Int} (hv : VRel h v p) (hp : partOf p = some k) : IsPart v k ∧ ∃ q : Option (Int × Tok), v = partValue q ∧ q.map (·.1) = k := by
  cases hv <;> simp [partOf] at hp
  · subst hp; exact ⟨.none, none, rfl, rfl⟩
  · subst hp; exact ⟨.int _ _, some (_, _), rfl, rfl⟩
theorem slc_full {α : Type} {xs : List α} {lo hi : Option Int} (h : (slc xs lo hi).length = xs.length) : slc xs lo hi = xs := by
  unfold slc at *
  generalize lo.elim 0 (clipAt xs.length) = a at *
  generalize hi.elim xs.length (clipAt xs.length) = b at *
  simp at h
  cases xs with
  | nil => simp
  | cons x xs =>
    have ha : a = 0 := by simp at h; omega
    subst ha
    have hb : (x :: xs).length ≤ b := by simp at h ⊢; omega
    rw [List.drop_zero, Nat.sub_zero, List.take_of_length_le hb]
theorem mem_slc {α : Type} {xs : List α} {lo hi : Option Int} {x : α} (h : x ∈ slc xs lo hi) : x ∈ xs := List.mem_of_mem_drop (List.mem_of_mem_take h)

theorem slice_sound {A : Around} {H : AH} {s : Shared} {vo vl vu vs : Value} {o l u st : PV} {Q : PV → AH → Prop} {E : Value → Shared → Prop} (h0 : VRel s.heap vo o) (h1 : VRel s.heap vl l) (h2 : VRel s.heap vu u) (h3 : VRel s.heap vs st) (S : St c.base H s) (h : opSlice o l u st Q H) :
    (∃ T id, ({ s with heap := s.heap.push { cls := .type "slice", data := .fields #[vl, vu, vs] } } : Shared).TypeIs vo T ∧ typeLookup (.type T) "__getitem__" = pure (some (.builtin id))) ∧
    wpAny (model c.prog c.w) A (getItem vo (.ref s.heap.objs.size)) (Res c H s Q) E { s with heap := s.heap.push { cls := .type "slice", data := .fields #[vl, vu, vs] } } := by
  unfold opSlice at h
  split at h
  · rename_i l' u' st' el eu es
    obtain ⟨p1, q1, r1, t1⟩ := part_is h1 el
    obtain ⟨p2, q2, r2, t2⟩ := part_is h2 eu
    obtain ⟨p3, q3, r3, t3⟩ := part_is h3 es
    have S1 := S.push { cls := .type "slice", data := .fields #[vl, vu, vs] }
    have e1 : Ext No No H s H { s with heap := s.heap.push { cls := .type "slice", data := .fields #[vl, vu, vs] } } := Ext.push _
    split at h
    · rename_i a
      cases h0
      cases ha : H a with
      | none => rw [ha] at h; exact h.elim
      | some x =>
        rw [ha] at h
        obtain ⟨⟨k1, k2⟩, k3⟩ := h
        obtain ⟨ws, m, hL, hv⟩ := S1.hr.list a x ha
        have hlen : ws.size = x.items.length := by simpa using hv.length
        refine ⟨⟨"list", _, ⟨_, hL, rfl⟩, list_getitem_lookup⟩, ?_⟩
        refine wpAny_getItem_list_slice (hL.isList) (Heap.IsSliceOf.new _ _ _ _) p1 p2 p3 k1 ((res_list S1 ?_ k3).trans e1) (by rw [hlen]; exact sz_line k2)
        have := hv.picks (sliceRange (sliceBounds l' u' st' x.items.length).1 (sliceBounds l' u' st' x.items.length).2.1 (sliceBounds l' u' st' x.items.length).2.2)
        unfold slicePick
        rw [hlen]
        simpa [slcG] using this
    · rename_i x
      cases h0 with
      | str _ t hx =>
        obtain ⟨⟨k1, k2⟩, k3⟩ := h
        subst k1
        refine ⟨⟨"str", _, typeIs_str _ _ _, F.slot_str_getitem.lookup⟩, ?_⟩
        subst r1 r2 r3
        have hq3 : q3 = none := by cases q3 with | none => rfl | some _ => simp at t3
        subst hq3
        refine wpAny_getItem_str_slice (l := q1) (u := q2) (st := none) ⟨_, Heap.get?_push_size _ rfl, rfl, rfl⟩ rfl ?_
        unfold sliceMade
        have ep : slicePicked ⟨x.toArray⟩ q1 q2 none = sliceRange (sliceBounds l' u' none x.length).1 (sliceBounds l' u' none x.length).2.1 (sliceBounds l' u' none x.length).2.2 := by
          unfold slicePicked; rw [t1, t2, str_len]; rfl
        have ef : (slicePicked ⟨x.toArray⟩ q1 q2 none).filterMap ((⟨x.toArray⟩ : Str).cps[·]?) = slc x l' u' := by
          rw [ep, ← slcG_plain]; unfold slcG; simp
        have elen : (slicePicked ⟨x.toArray⟩ q1 q2 none).length = (slc x l' u').length := by
          rw [ep, sliceBounds_plain]
          simp only
          rw [sliceRange_one]
          have b1 : l'.elim 0 (clipAt x.length) ≤ x.length := by cases l' with | none => simp | some i => exact clipAt_le _ _
          have b2 : u'.elim x.length (clipAt x.length) ≤ x.length := by cases u' with | none => simp | some i => exact clipAt_le _ _
          simp [slc]; omega
        rw [ef]
        split
        · rename_i hc
          have hl : (slc x l' u').length = x.length := by
            rw [← elen]; simpa [str_len] using hc
          rw [slc_full hl] at k3
          exact ⟨_, H, .str x t hx, S1, e1, k3⟩
        · refine ⟨?_, _, H, .str (slc x l' u') _ (fun ch hch => hx ch (mem_slc hch)), S1.tok _, e1.trans (.tok _), k3⟩
          rw [str_len]
          have : (slc x l' u').length ≤ x.length := by simp [slc]; omega
          exact Nat.le_trans this (sz_line k2)
    · exact h.elim
  · exact h.elim

def SoundP (c : Cx) (n : Nat) (sc : SE) (x : Option Expr) (a : AE) : Prop :=
  ∀ (A : Around) (env : Env) (ρ : AEnv) (H : AH) (s : Shared) (Q : PV → AH → Prop) (E : Value → Shared → Prop), AOk n A → EOk sc env → ER c.base c.N env ρ s.heap → St c.base H s → a Q ρ H → wpAny (model c.prog c.w) A (evalPart x env) (Res c H s Q) E s
theorem part_none : SoundP c n sc none (aCst .none) := fun _ _ _ _ _ _ _ _ _ _ S h => wpAny_pure (res_pure S .none h)
theorem part_some {e : Expr} {a : AE} (h : SoundE c n sc e a) : SoundP c n sc (some e) a := fun A env ρ H s Q E hA he R S q => h A env ρ H s Q E hA he R S q
theorem seqP {A : Around} {env : Env} {ρ : AEnv} {H : AH} {s : Shared} {E : Value → Shared → Prop} {l : Option Expr} {al : AE} {P : Value → Shared → Prop} {F : PV → AH → Prop} (hl : SoundP c n sc l al) (hA : AOk n A) (he : EOk sc env) (R : ER c.base c.N env ρ s.heap) (S : St c.base H s)
    (h : al F ρ H) (k : ∀ va a H1 s1, VRel s1.heap va a → ER c.base c.N env ρ s1.heap → St c.base H1 s1 → Ext No No H s H1 s1 → F a H1 → P va s1) :
    wpAny (model c.prog c.w) A (evalPart l env) P E s :=
  wpAny_mono (hl A env ρ H s _ E hA he R S h) (fun va s1 rr => rr.elim fun a H1 h1 S1 e1 q1 => k va a H1 s1 h1 (R.ext0 S e1) S1 e1 q1) fun _ _ x => x
def aSlice (o l u st : AE) : AE := fun Q ρ H => o (fun po H1 => l (fun pl H2 => u (fun pu H3 => st (fun pst H4 => opSlice po pl pu pst Q H4) ρ H3) ρ H2) ρ H1) ρ H
theorem sound_slice {o : Expr} {l u st : Option Expr} {p pos : Pos} {ao al au ast : AE} (ho : SoundE c n sc o ao) (hl : SoundP c n sc l al) (hu : SoundP c n sc u au) (hst : SoundP c n sc st ast) : SoundE c n sc (.Subscript o (.Slice l u st p) pos) (aSlice ao al au ast) := by
  intro A env ρ H s Q E hA he R S q
  refine sub_any (M := model c.prog c.w) (seq1 (F := fun po H1 => al (fun pl H2 => au (fun pu H3 => ast (fun pst H4 => opSlice po pl pu pst Q H4) ρ H3) ρ H2) ρ H1) ho hA he R S q fun vo po H1 s1 h1 R1 S1 e1 q1 => ?_)
  refine wpAny_Slice (seqP (F := fun pl H2 => au (fun pu H3 => ast (fun pst H4 => opSlice po pl pu pst Q H4) ρ H3) ρ H2) hl hA he R1 S1 q1 fun vl pl H2 s2 h2 R2 S2 e2 q2 => ?_)
  refine seqP (F := fun pu H3 => ast (fun pst H4 => opSlice po pl pu pst Q H4) ρ H3) hu hA he R2 S2 q2 fun vu pu H3 s3 h3 R3 S3 e3 q3 => ?_
  refine seqP (F := fun pst H4 => opSlice po pl pu pst Q H4) hst hA he R3 S3 q3 fun vs pst H4 s4 h4 R4 S4 e4 q4 => ?_
  obtain ⟨k1, k2⟩ := slice_sound (A := A) (E := E) (((h1.ext0 S1 e2).ext0 S2 e3).ext0 S3 e4) ((h2.ext0 S2 e3).ext0 S3 e4) (h3.ext0 S3 e4) h4 S4 q4
  exact ⟨k1, wpAny_mono k2 (fun _ _ r => r.trans (((e1.trans e2).trans e3).trans e4)) fun _ _ x => x⟩

-- methods
def kList (p : PV) (H : AH) : Prop := match p with | .ref a => (match H a with | some _ => True | none => False) | _ => False
def kStr (p : PV) (_ : AH) : Prop := match p with | .str _ => True | _ => False
def KindOk (c : Cx) (T : String) (K : PV → AH → Prop) : Prop := ∀ (H : AH) (s : Shared) (v : Value) (p : PV), VRel s.heap v p → St c.base H s → K p H → s.TypeIs v T ∧ ∀ a, v = .ref a → ∃ ob, s.heap.get? a = some ob ∧ ob.dict = none
theorem kind_list : KindOk c "list" kList := by
  intro H s v p hv S hk
  cases hv with
  | ref a =>
    simp only [kList] at hk
    cases ha : H a with
    | none => rw [ha] at hk; exact hk.elim
    | some x =>
      obtain ⟨vs, m, hL, _⟩ := S.hr.list a x ha
      exact ⟨⟨_, hL, rfl⟩, fun b hb => by cases hb; exact ⟨_, hL, rfl⟩⟩
  | _ => exact hk.elim
theorem kind_str : KindOk c "str" kStr := by
  intro H s v p hv S hk
  cases hv with
  | str x t hx => exact ⟨typeIs_str _ _ _, fun _ h => nomatch h⟩
  | _ => exact hk.elim
def aMeth (K : PV → AH → Prop) (f : AF) (o : AE) (l : AL) : AE := fun Q ρ H => o (fun p H1 => K p H1 ∧ l (fun ps H2 => f (p :: ps) Q H2) ρ H1) ρ H
theorem sound_meth {o : Expr} {name : Str} {args : List Expr} {apos pos : Pos} {T id : String} {K : PV → AH → Prop} {f : AF} {ao : AE} {al : AL} (slot : Slot T name id) (ty : typeOf (.builtin id) = pure (.type "method_descriptor")) (pa : PlainAttrs T) (hK : KindOk c T K) (hf : SoundV c n (.builtin id) f)
    (ho : SoundE c n sc o ao) (hl : SoundL c n sc args al) (hs : args = [] ∨ ∃ e es, args = e :: es ∧ ∀ env, starEach (e :: es) env = (false, eval e env) :: starEach es env ∧ (backTo pos (starEach es env)).any (·.1) = false)
    (hbase : ∀ env, attributeBase o name env (eval o env) = eval o env)
    (hfew : ∀ env, ((backTo pos (starEach args env)).all (fun x => !x.1) && (backToKw pos (keywordEach [] env)).all (fun x => x.1.isSome) && decide (args.length + ([] : List Keyword).length + (if ([] : List Keyword).isEmpty then 0 else 1) < 30)) = true)
    (hline : (apos.endLine == pos.line) = true) : SoundE c n sc (.Call (.Attribute o name apos) args [] pos) (aMeth K f ao al) := by
  intro A env ρ H s Q E hA he R S q
  refine wpAny_Call_method (hbase env) (hfew env) hline pa slot ty (seq1 (F := fun p H1 => K p H1 ∧ al (fun ps H2 => f (p :: ps) Q H2) ρ H1) ho hA he R S q fun vo p H1 s1 h1 R1 S1 e1 q1 => ?_)
  obtain ⟨t1, t2⟩ := hK H1 s1 vo p h1 S1 q1.1
  refine ⟨t1, t2, ?_⟩
  have args' : wpAny (model c.prog c.w) A (spliced (backTo pos (starEach args env))) (fun vs s2 => wpAny (model c.prog c.w) A (call (.builtin id) (vo :: vs)) (Res c H s Q) E s2) E s1 :=
    seqL (F := fun ps H2 => f (p :: ps) Q H2) hl hA he R1 S1 q1.2 fun vs ps H2 s2 hv R2 S2 e2 q2 => wpAny_mono (hf A H2 s2 (vo :: vs) (p :: ps) Q E hA (.cons (h1.ext0 S1 e2) hv) S2 q2) (fun _ _ r => r.trans (e1.trans e2)) fun _ _ x => x
  rcases hs with rfl | ⟨e, es, rfl, hs⟩
  · refine callWith_builtin rfl (PySem.evalArgs_none ?_)
    have : wpAny (model c.prog c.w) A (spliced []) (fun vs s2 => wpAny (model c.prog c.w) A (call (.builtin id) (vo :: vs)) (Res c H s Q) E s2) E s1 := args'
    intro Γ pp hΓ
    have t := this Γ pp hΓ
    exact t Γ pp hΓ
  · rw [(hs env).1] at args' ⊢
    exact callWith_builtin (by show (false || (backTo pos (starEach es env)).any (·.1)) = false; rw [(hs env).2]; rfl) (evalArgs_plain args')
end
end Mine
open PySem PySem.W PySem.Calls PyProof.Rows
set_option Elab.async false
set_option linter.unusedVariables false
namespace Mine
section
variable {c : Cx} {n : Nat} {sc : SE}

theorem res_newL {H : AH} {s : Shared} {Q : PV → AH → Prop} {a : Addr} {vs : Array Value} {m : Nat} {ps : List PV} {h' : Heap} {tk : Nat} (S : St c.base H s) (hk : ∀ b o, s.heap.get? b = some o → h'.get? b = some o) (hl : IsL h' a vs m) (ha : s.heap.objs.size ≤ a) (hv : VAll s.heap vs.toList ps)
    (q : newL ps Q H) : Res c H s Q (.ref a) { s with heap := h', toks := tk } := by
  have hz : s.heap.objs.size ≤ h'.objs.size := Nat.le_of_lt (Nat.lt_of_le_of_lt ha (Heap.lt_size hl))
  refine ⟨.ref a, upd H a ⟨ps, true⟩, .ref a, ⟨⟨fun b o h => hk b o (S.hr.keep b o h), fun b x h => ?_, fun b x h ho => ?_⟩, S.bare⟩, ⟨fun b o h _ _ => hk b o h, hz, fun b x h => ?_, fun _ _ h _ => h, Nat.le_refl _, rfl⟩, q a (S.fresh ha)⟩
  · by_cases e : b = a
    · subst e; rw [upd_same] at h; cases h; exact ⟨vs, m, hl, hv.mono fun b o h => hk b o h.1⟩
    · rw [upd_other _ _ e] at h
      obtain ⟨ws, k, hl', hw⟩ := S.hr.list b x h
      exact ⟨ws, k, hk _ _ hl', hw.mono fun b o h => hk b o h.1⟩
  · by_cases e : b = a
    · subst e; exact S.bsize ha
    · rw [upd_other _ _ e] at h; exact S.hr.new b x h ho
  · by_cases e : b = a
    · subst e; exact .inr ha
    · rw [upd_other _ _ e] at h; exact .inl ⟨x, h, rfl⟩

def fLen : AF := fun ps Q H => match ps with
  | [.ref a] => (match H a with | some x => szOk x.items.length ∧ Q (.int x.items.length) H | none => False)
  | [.str x] => szOk x.length ∧ Q (.int x.length) H
  | [.tup xs] => szOk xs.length ∧ Q (.int xs.length) H
  | _ => False
theorem bi_len : SoundV c n (.builtin "len") fLen := by
  intro A H s vs ps Q E hA hv S q
  unfold fLen at q
  split at q
  · cases hv with
    | cons h1 h2 =>
      cases h2; cases h1
      rename_i a
      cases ha : H a with
      | none => rw [ha] at q; exact q.elim
      | some x =>
        rw [ha] at q
        obtain ⟨ws, m, hL, hw⟩ := S.hr.list a x ha
        have hlen : ws.size = x.items.length := by simpa using hw.length
        have := q.1; simp only [szOk] at this
        refine call_len_list hL.isList (by omega) ?_
        rw [hlen]; exact res_tok S (.int _ _) q.2
  · cases hv with
    | cons h1 h2 =>
      cases h2; cases h1
      have := q.1; simp only [szOk] at this
      refine PyProof.Rows.len_str (by rw [str_len]; omega) ?_
      rw [str_len]; exact res_tok S (.int _ _) q.2
  · cases hv with
    | cons h1 h2 =>
      cases h2
      cases h1 with
      | tup hT hvs =>
        have := q.1; simp only [szOk] at this
        have hlen := hvs.length
        refine PySem.P.len_tuple hT (by simp; omega) ?_
        simp only [List.size_toArray, hlen]
        exact res_tok S (.int _ _) q.2
  · exact q.elim
def fRange : AF := fun ps Q H => match ps with
  | [.int k] => Q (.rng 0 k) H
  | [.int a, .int b] => Q (.rng a b) H
  | _ => False
def fList : AF := fun ps Q H => match ps with
  | [.ref a] => (match H a with | some x => szOk x.items.length ∧ newL x.items Q H | none => False)
  | [.tup xs] => szOk xs.length ∧ newL xs Q H
  | _ => False
theorem bi_list : SoundV c n (.type "list") fList := by
  intro A H s vs ps Q E hA hv S q
  unfold fList at q
  split at q
  · cases hv with
    | cons h1 h2 =>
      cases h2; cases h1
      rename_i a
      cases ha : H a with
      | none => rw [ha] at q; exact q.elim
      | some x =>
        rw [ha] at q
        obtain ⟨ws, m, hL, hw⟩ := S.hr.list a x ha
        have hlen : ws.size = x.items.length := by simpa using hw.length
        exact call_list_seq a (.inl rfl) hL rfl rfl (fun h' c' hk hn => res_newL (tk := s.toks) S hk hn (Nat.le_refl _) hw q.2) (by rw [hlen]; exact sz_line q.1)
  · cases hv with
    | cons h1 h2 =>
      cases h2
      cases h1 with
      | tup hT hvs =>
        exact call_list_seq _ (.inr rfl) hT rfl rfl (fun h' c' hk hn => res_newL (tk := s.toks) S hk hn (Nat.le_refl _) (by simpa using hvs) q.2) (by simp [hvs.length]; exact sz_line q.1)
  · exact q.elim
def fTuple : AF := fun ps Q H => match ps with
  | [.ref a] => (match H a with | some x => szOk x.items.length ∧ Q (.tup x.items) H | none => False)
  | _ => False
theorem bi_tuple : SoundV c n (.type "tuple") fTuple := by
  intro A H s vs ps Q E hA hv S q
  unfold fTuple at q
  split at q
  · cases hv with
    | cons h1 h2 =>
      cases h2; cases h1
      rename_i a
      cases ha : H a with
      | none => rw [ha] at q; exact q.elim
      | some x =>
        rw [ha] at q
        obtain ⟨ws, m, hL, hw⟩ := S.hr.list a x ha
        have hlen : ws.size = x.items.length := by simpa using hw.length
        refine wpAny_grow (call_tuple_list hL.isList (fun h' hk hg => ?_) (by rw [hlen]; exact sz_line q.1))
        have hk' : ∀ b o, s.heap.get? b = some o → (h'.push { cls := .type "tuple", data := .seq ws }).get? b = some o := fun b o h => Heap.get?_push_of_some _ (hk b o h)
        refine ⟨.tup x.items, H, .tup (vs := ws.toList) (by simpa using IsT.new h' ws) (hw.mono fun b o h => hk' b o h.1), S.of_keep (X := No) (tk := s.toks) (fun b o _ h => hk' b o h) (fun _ h => h.elim) (fun _ h => h.elim) (fun _ h => h.elim), Ext.of_keep (tk := s.toks) (fun b o _ h => hk' b o h) hg.1, q.2⟩
  · exact q.elim

-- methods of lists
def fAppend : AF := fun ps Q H => match ps with
  | [o, p] => withOwn o (fun a xs => szOk xs.length ∧ Q .none (upd H a ⟨xs ++ [p], true⟩)) H
  | _ => False
theorem me_append : SoundV c n (.builtin "list.append") fAppend := by
  intro A H s vs ps Q E hA hv S q
  unfold fAppend at q
  split at q
  · cases hv with
    | cons h1 h2 =>
      cases h2 with
      | cons h2 h3 =>
        cases h3
        obtain ⟨a, x, rfl, ha, ho, q1, q2⟩ := withOwn_elim q
        cases h1
        obtain ⟨ws, m, hL, hw⟩ := S.hr.list a x ha
        have hlen : ws.size = x.items.length := by simpa using hw.length
        exact call_meets F.slot_list_append ⟨_, hL, rfl⟩ F.entry_list_append (F.args_list_append_2 _ _) (list_append a ws m _ (by rw [hlen]; exact sz_line q1)) ⟨hL, res_set (f := fun y => y.push _) S ha ho hL (by simpa using hw.append (.one h2)) .none q2⟩
  · exact q.elim
def fInsert : AF := fun ps Q H => match ps with
  | [o, .int k, p] => withOwn o (fun a xs => (szOk xs.length ∧ 0 ≤ k ∧ k ≤ xs.length) ∧ Q .none (upd H a ⟨xs.take k.toNat ++ p :: xs.drop k.toNat, true⟩)) H
  | _ => False
def fPop : AF := fun ps Q H => match ps with
  | [o] => withOwn o (fun a xs => szOk xs.length ∧ match xs.getLast? with | some p => Q p (upd H a ⟨xs.dropLast, true⟩) | none => False) H
  | [o, .int k] => withOwn o (fun a xs => (szOk xs.length ∧ 0 ≤ k) ∧ match xs[k.toNat]? with | some p => Q p (upd H a ⟨xs.eraseIdx k.toNat, true⟩) | none => False) H
  | _ => False
end
end Mine
open PySem PySem.W PySem.Calls PyProof.Rows
set_option Elab.async false
set_option linter.unusedVariables false
namespace Mine
section
variable {c : Cx} {n : Nat} {sc : SE}

-- augmented assignments
def opIAdd (a b : PV) (Q : PV → AH → Prop) (H : AH) : Prop := match a, b with
  | .int x, .int y => Q (.int (x + y)) H
  | .str x, .str y => szOk (x.length + y.length) ∧ Q (.str (x ++ y)) H
  | _, _ => False
def sAug (k : Nat) (f : PV → PV → (PV → AH → Prop) → AH → Prop) (a : AE) : AS := fun Q ρ H => match ρ k with
  | some p => a (fun b H1 => f p b (fun r H2 => Q .next (upd ρ k r) H2) H1) ρ H
  | none => False
def sAugSub (o i : AE) (f : PV → PV → (PV → AH → Prop) → AH → Prop) (a : AE) : AS := fun Q ρ H => o (fun po H1 => i (fun pi H2 => opItem po pi (fun old H3 => a (fun b H4 => f old b (fun r H5 => setAt po pi r (fun H6 => Q .next ρ H6) H5) H4) ρ H3) H2) ρ H1) ρ H
-- comprehensions
def relabelS (scope : Scope) (sc : SE) : Scope := { scope with names := scope.names.map fun (n, k) => if (k == .free && sc.kind == .function && sc.names.lookup n == some .cell) then (n, .cell) else (n, k) }
theorem relabel_eq {scope : Scope} {env : Env} (he : EOk sc env) : relabel scope env = relabelS scope sc := by
  unfold relabel relabelS Env.kindOf; rw [he.scope]
def freeOf (names : List (Str × NameKind)) : List Str := (names.filter (·.2 == .free)).map (·.1)
def clOf (env : Env) : List (Str × NameKind) → List (Str × Addr) → List (Str × Addr)
  | [], acc => acc
  | (x, k) :: r, acc => if k == .free then clOf env r ((x, (env.cells.lookup x).getD 0) :: acc) else clOf env r acc
theorem closure_eq {env : Env} {scope : Scope} (h : ∀ x ∈ freeOf scope.names, (env.cells.lookup x).isSome = true) : closureFor scope env = pure (clOf env scope.names []) := by
  have key : ∀ (names : List (Str × NameKind)) (acc : List (Str × Addr)), (∀ x ∈ freeOf names, (env.cells.lookup x).isSome = true) →
      (forIn names acc fun (x : Str × NameKind) cs => (if (x.2 == .free) = true then do let a ← cellOf env x.1; pure (ForInStep.yield ((x.1, a) :: cs)) else pure (ForInStep.yield cs) : Sem (ForInStep (List (Str × Addr))))) = pure (clOf env names acc) := by
    intro names
    induction names with
    | nil => intro acc _; rfl
    | cons x r ih =>
      intro acc hx
      obtain ⟨y, k⟩ := x
      rw [List.forIn_cons]
      unfold clOf
      by_cases hk : (k == .free) = true
      · simp only [hk, if_true]
        have hy : (env.cells.lookup y).isSome = true := hx y (by simp [freeOf, hk])
        obtain ⟨a, ha⟩ := Option.isSome_iff_exists.mp hy
        have : cellOf env y = pure a := by unfold cellOf; rw [ha]
        rw [this, ha]
        simp only [pure_bind, Option.getD_some]
        exact ih _ fun z hz => hx z (by simp only [freeOf, List.filter_cons, hk, if_true] at hz ⊢; simp; exact .inr (by simpa using hz))
      · simp only [hk, if_false, pure_bind]
        exact ih _ fun z hz => hx z (by simp only [freeOf, List.filter_cons, hk] at hz ⊢; simpa using hz)
  unfold closureFor
  have := key scope.names [] h
  simp only [bind_pure] 
  exact this
theorem clOf_sub {env : Env} : ∀ (names : List (Str × NameKind)) (acc : List (Str × Addr)), (∀ x ∈ freeOf names, (env.cells.lookup x).isSome = true) → (∀ p ∈ acc, env.cells.lookup p.1 = some p.2) → ∀ p ∈ clOf env names acc, env.cells.lookup p.1 = some p.2
  | [], acc, _, h, p, hp => h p hp
  | (x, k) :: r, acc, hx, h, p, hp => by
    unfold clOf at hp
    by_cases hk : (k == .free) = true
    · rw [if_pos hk] at hp
      have hy : (env.cells.lookup x).isSome = true := hx x (by simp [freeOf, hk])
      obtain ⟨a, ha⟩ := Option.isSome_iff_exists.mp hy
      refine clOf_sub r _ (fun z hz => hx z (by simp only [freeOf, List.filter_cons, hk, if_true] at hz ⊢; simp; exact .inr (by simpa using hz))) ?_ p hp
      intro q hq
      rcases List.mem_cons.mp hq with rfl | hq
      · simp [ha]
      · exact h q hq
    · rw [if_neg hk] at hp
      exact clOf_sub r _ (fun z hz => hx z (by simp only [freeOf, List.filter_cons, hk] at hz ⊢; simpa using hz)) h p hp
theorem clOf_mem {env : Env} {y : Str} : ∀ (names : List (Str × NameKind)) (acc : List (Str × Addr)), y ∈ freeOf names ∨ (∃ a, (y, a) ∈ acc) → ∃ a, (y, a) ∈ clOf env names acc
  | [], acc, h => by simpa [freeOf, clOf] using h
  | (x, k) :: r, acc, h => by
    unfold clOf
    by_cases hk : (k == .free) = true
    · rw [if_pos hk]
      refine clOf_mem r _ ?_
      rcases h with h | ⟨a, h⟩
      · simp only [freeOf, List.filter_cons, hk, if_true, List.map_cons, List.mem_cons] at h
        rcases h with rfl | h
        · exact .inr ⟨_, .head _⟩
        · exact .inl h
      · exact .inr ⟨a, .tail _ h⟩
    · rw [if_neg hk]
      refine clOf_mem r _ ?_
      rcases h with h | h
      · simp only [freeOf, List.filter_cons, hk] at h; exact .inl (by simpa [freeOf] using h)
      · exact .inr h
theorem lookup_of_mem {l : List (Str × Addr)} {y : Str} {a : Addr} (h : (y, a) ∈ l) : ∃ b, l.lookup y = some b := by
  induction l with
  | nil => cases h
  | cons p r ih =>
    obtain ⟨z, b⟩ := p
    rw [List.lookup_cons]
    by_cases e : (y == z) = true
    · rw [e]; exact ⟨b, rfl⟩
    · simp only [Bool.not_eq_true] at e
      rw [e]
      rcases List.mem_cons.mp h with q | q
      · cases q; simp at e
      · exact ih q
theorem clOf_lookup {env : Env} {names : List (Str × NameKind)} (hx : ∀ x ∈ freeOf names, (env.cells.lookup x).isSome = true) {y : Str} (hy : y ∈ freeOf names) : (clOf env names []).lookup y = env.cells.lookup y := by
  obtain ⟨a, ha⟩ := clOf_mem (env := env) names [] (.inl hy)
  obtain ⟨b, hb⟩ := lookup_of_mem ha
  rw [hb]
  exact (clOf_sub names [] hx (fun _ h => nomatch h) _ (mem_of_lookup hb)).symm
theorem clOf_apart {env : Env} {base : Heap} (hA : env.cells.Pairwise fun x y => x.2 ≠ y.2) : ∀ (names : List (Str × NameKind)) (acc : List (Str × Addr)), (∀ x ∈ freeOf names, (env.cells.lookup x).isSome = true) → (freeOf names).Nodup → (∀ p ∈ acc, env.cells.lookup p.1 = some p.2 ∧ p.1 ∉ freeOf names) → acc.Pairwise (fun x y => x.2 ≠ y.2) → (clOf env names acc).Pairwise fun x y => x.2 ≠ y.2
  | [], acc, _, _, _, h => h
  | (x, k) :: r, acc, hx, hn, ha, h => by
    unfold clOf
    by_cases hk : (k == .free) = true
    · rw [if_pos hk]
      have ef : freeOf ((x, k) :: r) = x :: freeOf r := by simp [freeOf, hk]
      rw [ef] at hx hn ha
      obtain ⟨a, hxa⟩ := Option.isSome_iff_exists.mp (hx x (.head _))
      refine clOf_apart (base := base) hA r _ (fun z hz => hx z (.tail _ hz)) (List.nodup_cons.mp hn).2 ?_ ?_
      · intro p hp
        rcases List.mem_cons.mp hp with rfl | hp
        · exact ⟨by simp [hxa], (List.nodup_cons.mp hn).1⟩
        · exact ⟨(ha p hp).1, fun q => (ha p hp).2 (.tail _ q)⟩
      · refine List.pairwise_cons.mpr ⟨fun p hp e => ?_, h⟩
        have h1 := (ha p hp).1
        rw [hxa] at e
        simp only [Option.getD_some] at e
        have : x = p.1 := name_of_addr hA (mem_of_lookup hxa) (mem_of_lookup (by rw [h1, ← e]))
        exact (ha p hp).2 (this ▸ .head _)
    · rw [if_neg hk]
      have ef : freeOf ((x, k) :: r) = freeOf r := by simp [freeOf, hk]
      rw [ef] at hx hn ha
      exact clOf_apart (base := base) hA r _ hx hn ha h

def capt (ks : List Nat) (ρ : AEnv) : AEnv := fun k => if ks.contains k then ρ k else none
/-- the rest of a turn -/
abbrev AB := (AEnv → AH → Prop) → AEnv → AH → Prop
def compL (g : ATg) (t : AT) (b : AB) (G : AH → Prop) (Q : AEnv → AH → Prop) : List PV → AEnv → AH → Prop
  | [], ρ, H => Q ρ H
  | p :: ps, ρ, H => g p (fun ρ1 H1 => t (fun k H2 => if k then b (fun ρ3 H3 => G H3 ∧ compL g t b G Q ps ρ3 H3) ρ1 H2 else G H2 ∧ compL g t b G Q ps ρ1 H2) ρ1 H1) ρ H
def bEmit (e : AE) (a : Nat) : AB := fun Q ρ H => e (fun v H3 => fAppend [.ref a, v] (fun _ H4 => Q ρ H4) H3) ρ H
def bLoop (g : ATg) (src : AE) (b : AB) : AB := fun Q ρ H => src (fun p H1 => withItems p (fun items G H2 => compL g tTrue b G Q items ρ H2) H1) ρ H
def aCompB (ks : List Nat) (g : ATg) (src : AE) (t : AT) (b : Nat → AB) : AE := fun Q ρ H => src (fun p H1 => withItems p (fun items G H2 => ∀ a, H2 a = none → G (upd H2 a ⟨[], true⟩) ∧ compL g t (b a) G (fun _ H3 => Q (.ref a) H3) items (capt ks ρ) (upd H2 a ⟨[], true⟩)) H1) ρ H
def aComp (ks : List Nat) (g : ATg) (src : AE) (t : AT) (e : AE) : AE := aCompB ks g src t fun a => bEmit e a
def aComp2 (ks : List Nat) (g : ATg) (src : AE) (g' : ATg) (src' : AE) (e : AE) : AE := aCompB ks g src tTrue fun a => bLoop g' src' (bEmit e a)

def SoundCond (c : Cx) (n : Nat) (sc : SE) (ifs : List Expr) (t : AT) : Prop :=
  ∀ (A : Around) (env : Env) (ρ : AEnv) (H : AH) (s : Shared) (Q : Bool → AH → Prop) (E : Value → Shared → Prop), AOk n A → EOk sc env → ER c.base c.N env ρ s.heap → St c.base H s → t Q ρ H →
    wpAny (model c.prog c.w) A (forIn ifs true fun e r => if r = true then do let ok ← isTrue e env (eval e env); pure (ForInStep.yield ok) else pure (ForInStep.yield r)) (ResB c H s Q) E s
theorem cond_nil : SoundCond c n sc [] tTrue := fun A env ρ H s Q E hA he R S q => wpAny_tests_nil ⟨H, S, .refl, q⟩
def SoundEm (c : Cx) (n : Nat) (sc : SE) (m : Env → Sem Unit) (b : AB) : Prop :=
  ∀ (A : Around) (env : Env) (ρ : AEnv) (H : AH) (s : Shared) (Q : AEnv → AH → Prop) (P : Unit → Shared → Prop) (E : Value → Shared → Prop), AOk n A → EOk sc env → ER c.base c.N env ρ s.heap → St c.base H s → b Q ρ H →
    (∀ ρ' H' s', ER c.base c.N env ρ' s'.heap → St c.base H' s' → Ext (Own env) No H s H' s' → Q ρ' H' → P () s') → wpAny (model c.prog c.w) A (m env) P E s
def emit (elt : Expr) (acc : Value) (env : Env) : Sem Unit := do let _ ← call (.builtin "list.append") [acc, ← eval elt env]
theorem em_emit {elt : Expr} {e : AE} (hel : SoundE c n sc elt e) (a : Addr) : SoundEm c n sc (emit elt (.ref a)) (bEmit e a) := by
  intro A env ρ H s Q P E hA he R S q h
  refine wpAny_bind (seq1 (F := fun v H3 => fAppend [.ref a, v] (fun _ H4 => Q ρ H4) H3) hel hA he R S q fun vx px H3 s3 h3 R3 S3 e3 q3 => ?_)
  refine wpAny_bind (wpAny_mono (me_append (c := c) (n := n) A H3 s3 [.ref a, vx] [.ref a, px] _ _ hA (.cons (.ref a) (.one h3)) S3 q3) (fun _ s4 rr => rr.elim fun _ H4 _ S4 e4 q4 => ?_) fun _ _ x => x)
  exact wpAny_pure (h ρ H4 s4 (R3.ext0 S3 e4) S4 (e3.trans e4).of_no q4)

/-- one turn of a comprehension's loop -/
def turnOf (W : Expr) (d : Nat) (tg : Expr) (ifs : List Expr) (p : Pos) (it acc : Value) (env : Env) (m : Sem Unit) : Sem Fin := do
  standAt p
  match ← pyNext it with
  | none => pure (.done .next)
  | some v =>
    letOwnedTupleGo tg it v
    assign tg env v
    let mut ok := true
    for c in ifs do
      if ok then ok ← isTrue c env (eval c env)
    if ok then m
    again (.compLoop W d it acc env)

theorem comp_loop {A : Around} {env : Env} {H₀ : AH} {s₀ s : Shared} {I : Addr} {P PG : Nat → Prop} {G : AH → Prop} {J : List PV → AH → Shared → Prop} {elt tg : Expr} {gens : List Comprehension} {scope : Scope} {pos : Pos} {d : Nat} {ip : Pos} {ifs : List Expr} {m : Env → Sem Unit} {g : ATg} {t : AT} {b : AB} {a : Addr} {Q : AEnv → AH → Prop} {RR : Result → Shared → Prop} {items : List PV} {H : AH} {ρ : AEnv}
    (it : Iter c n I P PG G J) (hT : compTurn (.ListComp elt gens scope pos) d (.ref I) (.ref a) env = turnOf (.ListComp elt gens scope pos) d tg ifs ip (.ref I) (.ref a) env (m env))
    (hg : SoundA c n sc tg g) (ht : SoundCond c n sc ifs t) (hb : SoundEm c n sc m b) (hA : AOk n A) (he : EOk sc env) (hto : (∃ elts k pos, tg = .Tuple elts k pos) ∨ ∀ it v, letOwnedTupleGo tg it v = pure ())
    (ownP : ∀ b, Own env b → ¬ P b) (hPC : ∀ x cc, env.cells.lookup x = some cc → ¬ P cc)
    (hj : J items H s) (R : ER c.base c.N env ρ s.heap) (S : St c.base H s) (ex : Ext (fun b => Own env b ∨ P b) PG H₀ s₀ H s) (q : compL g t b G Q items ρ H)
    (hR : ∀ H' s' ρ', ER c.base c.N env ρ' s'.heap → St c.base H' s' → Ext (fun b => Own env b ∨ P b) PG H₀ s₀ H' s' → Q ρ' H' → RR (.ok .next) s') : codeAny (model c.prog c.w) A (.compLoop (.ListComp elt gens scope pos) d (.ref I) (.ref a) env) RR s := by
  refine codeAny_loop rfl (fun k s => ∃ items H ρ, k = items.length ∧ J items H s ∧ ER c.base c.N env ρ s.heap ∧ St c.base H s ∧ Ext (fun b => Own env b ∨ P b) PG H₀ s₀ H s ∧ compL g t b G Q items ρ H) ?_ _ ⟨items, H, ρ, rfl, hj, R, S, ex, q⟩
  rintro k s ⟨items, H, ρ, rfl, hj, R, S, ex, q⟩
  show wpAny _ A ((compTurn (.ListComp elt gens scope pos) d (.ref I) (.ref a) env).onRaise (fun x => do noteFrame x env; theTreesLotGoes x)) _ _ s
  refine wpAny_noted ?_
  rw [hT]
  have wid : ∀ {H1 s1 H2 s2}, Ext (Own env) No H1 s1 H2 s2 → Ext (fun b => Own env b ∨ P b) PG H1 s1 H2 s2 := fun x => x.mono (fun _ h => .inl h) (fun _ h => h.elim)
  have widP : ∀ {H1 s1 H2 s2}, Ext P PG H1 s1 H2 s2 → Ext (fun b => Own env b ∨ P b) PG H1 s1 H2 s2 := fun x => x.mono (fun _ h => .inr h) (fun _ h => h)
  have keepR : ∀ s' : Shared, Ext P PG H s H s' → (∀ b o, Imm s.heap b o → s'.heap.get? b = some o) → ER c.base c.N env ρ s'.heap := fun s' e' hi => R.ext' S e' hi (ownP _ (.inl rfl)) hPC
  refine wpAny_bind (wpAny_standAt (wpAny_bind ?_))
  cases items with
  | nil =>
    refine it.done A H s _ _ hA hj S fun s' S' e' hi => ?_
    exact wpAny_pure (hR H s' ρ (keepR s' e' hi) S' (ex.trans (widP e')) q)
  | cons p ps =>
    refine it.item A p ps H s _ _ hA hj S fun v s' hv S' e' hj' hi => ?_
    have R' := keepR s' e' hi
    refine wpAny_bind (owned_any it hj' hto ?_)
    refine wpAny_bind (hg A env ρ H s' v p _ _ _ hA he R' S' hv q fun ρ1 H1 s1 R1 S1 e1 q1 => ?_)
    refine wpAny_bind (bool_mono (ht A env ρ1 H1 s1 _ _ hA he R1 S1 q1) fun k H2 s2 S2 e2 q2 => ?_)
    have R2 := R1.ext0 S1 e2
    have more : ∀ ρ3 H3 s3, ER c.base c.N env ρ3 s3.heap → St c.base H3 s3 → Ext (Own env) No H s' H3 s3 → G H3 ∧ compL g t b G Q ps ρ3 H3 →
        ∃ m, m < (p :: ps).length ∧ ∃ items H ρ, m = items.length ∧ J items H s3 ∧ ER c.base c.N env ρ s3.heap ∧ St c.base H s3 ∧ Ext (fun b => Own env b ∨ P b) PG H₀ s₀ H s3 ∧ compL g t b G Q items ρ H := fun ρ3 H3 s3 R3 S3 e3 hq =>
      ⟨ps.length, by simp, ps, H3, ρ3, rfl, it.frame (Own env) ps H s' H3 s3 hj' S' e3 S3 ownP (own_no_imm R') hq.1, R3, S3, (ex.trans (widP e')).trans (wid e3), hq.2⟩
    cases k with
    | false =>
      simp only [Bool.false_eq_true, if_false] at q2 ⊢
      exact wpAny_pure ⟨rfl, more ρ1 H2 s2 R2 S2 (e1.trans e2.of_no) q2⟩
    | true =>
      simp only [if_true] at q2 ⊢
      exact wpAny_bind (hb A env ρ1 H2 s2 _ _ _ hA he R2 S2 q2 fun ρ3 H3 s3 R3 S3 e3 q3 => wpAny_pure ⟨rfl, more ρ3 H3 s3 R3 S3 ((e1.trans e2.of_no).trans e3) q3⟩)

/-- the second clause -/
def emLoop (W : Expr) (it2 : Expr) (acc : Value) (env : Env) : Sem Unit := do
  let x ← eval it2 env
  standAt it2.pos
  let x ← foldedSetIterable it2 env x
  let _ ← runOwn (.compStart W 1 (← holding [x] (pyIter x)) acc env) env
/-- what is checked of a comprehension's block -/
def compChk (N : List Str) (scope : Scope) (sc : SE) (ks : List Nat) : Bool :=
  (freeOf scope.names).all (fun x => sc.names.lookup x == some .cell) && decide (scope.names.map (·.1)).Nodup &&
  ks.all fun k => match N[k]? with
    | some x => (freeOf scope.names).contains x && (relabelS scope sc).names.lookup x == some .cell
    | none => false
theorem relabel_cell {scope : Scope} {x : Str} (h : (relabelS scope sc).names.lookup x = some .cell) : (x, NameKind.cell) ∈ scope.names ∨ x ∈ freeOf scope.names := by
  have h1 := mem_of_lookup h
  obtain ⟨⟨y, k⟩, hy, e⟩ := List.mem_map.mp h1
  by_cases hcond : (k == NameKind.free && sc.kind == .function && sc.names.lookup y == some .cell) = true
  · simp only [hcond, if_true] at e
    cases e
    simp only [Bool.and_eq_true] at hcond
    exact .inr (List.mem_map.mpr ⟨(x, k), List.mem_filter.mpr ⟨hy, hcond.1.1⟩, rfl⟩)
  · simp only [hcond, if_false] at e
    cases e
    exact .inl hy
theorem lookup_nodup {α : Type} : ∀ {l : List (Str × α)} {x : Str} {a : α}, (l.map (·.1)).Nodup → (x, a) ∈ l → l.lookup x = some a
  | (y, b) :: l, x, a, hn, h => by
    rw [List.lookup_cons]
    simp only [List.map_cons, List.nodup_cons] at hn
    rcases List.mem_cons.mp h with e | h2
    · cases e; simp
    · have : (x == y) = false := by
        simp only [beq_eq_false_iff_ne, ne_eq]
        rintro rfl
        exact hn.1 (List.mem_map.mpr ⟨(x, a), h2, rfl⟩)
      rw [this]; exact lookup_nodup hn.2 h2
theorem cellsFrom_app : ∀ (names : List (Str × NameKind)) (k : Nat) (acc : List (Str × Addr)), cellsFrom k names acc = cellsFrom k names [] ++ acc
  | [], _, _ => rfl
  | (x, kd) :: r, k, acc => by
    unfold cellsFrom
    split
    · rw [cellsFrom_app r _ ((x, k) :: acc), cellsFrom_app r _ [(x, k)]]; simp
    · exact cellsFrom_app r k acc
theorem cellsFrom_mem : ∀ {names : List (Str × NameKind)} {k : Nat} {acc : List (Str × Addr)} {x : Str}, ((x, NameKind.cell) ∈ names ∨ ∃ a, (x, a) ∈ acc) ↔ ∃ a, (x, a) ∈ cellsFrom k names acc
  | [], k, acc, x => by simp [cellsFrom]
  | (y, kd) :: r, k, acc, x => by
    unfold cellsFrom
    split
    · rename_i hk
      rw [← cellsFrom_mem (names := r)]
      have : kd = .cell := by simpa using hk
      subst this
      simp only [List.mem_cons, Prod.mk.injEq, and_true]
      constructor
      · rintro ((rfl | h) | ⟨a, h⟩)
        · exact .inr ⟨k, .inl ⟨rfl, rfl⟩⟩
        · exact .inl h
        · exact .inr ⟨a, .inr h⟩
      · rintro (h | ⟨a, ⟨rfl, rfl⟩ | h⟩)
        · exact .inl (.inr h)
        · exact .inl (.inl rfl)
        · exact .inr ⟨a, h⟩
    · rename_i hk
      rw [← cellsFrom_mem (names := r)]
      simp only [List.mem_cons, Prod.mk.injEq]
      constructor
      · rintro ((⟨rfl, rfl⟩ | h) | h)
        · exact absurd rfl hk
        · exact .inl h
        · exact .inr h
      · rintro (h | h)
        · exact .inl (.inr h)
        · exact .inr h
theorem new_env {M : Model} {A : Around} {scope : Scope} {globals : Addr} {cl : List (Str × Addr)} {qual : Str} {env : Env} {Q : Env → Shared → Prop} {E : Value → Shared → Prop} {s : Shared}
    (h : Q (newEnv scope s.heap.objs.size globals (cellsFrom (s.heap.objs.size + 1) scope.names [] ++ cl) qual none .none (some env) builtinsNs) { s with heap := pushCells (s.heap.push { cls := .type "dict", data := .dict #[] }) scope.names }) :
    wpAny M A (newFunctionEnv scope globals cl [] qual none .none (some env)) Q E s := by
  simp only [newFunctionEnv, Option.isSome_some, if_true]
  refine wpAny_bind (wpAny_alloc ?_)
  refine wpAny_bind (wpAny_layCells _ (fun name kind cells => by cases hkc : kind == NameKind.cell <;> simp [hkc]) _ _ _ _ ?_)
  rw [show ({ s with heap := s.heap.push { cls := .type "dict", data := .dict #[] } } : Shared).heap.objs.size = s.heap.objs.size + 1 from Heap.size_push .., cellsFrom_app]
  exact wpAny_bind (wpAny_pure (wpAny_pure h))
theorem pushCells_size : ∀ (names : List (Str × NameKind)) (h : Heap), h.objs.size ≤ (pushCells h names).objs.size
  | [], h => Nat.le_refl _
  | (_, k) :: r, h => by
    unfold pushCells
    split
    · exact Nat.le_trans (by rw [Heap.size_push]; exact Nat.le_succ _) (pushCells_size r _)
    · exact pushCells_size r h

theorem comp_sound {A : Around} {env : Env} {ρ : AEnv} {H : AH} {s : Shared} {E : Value → Shared → Prop} {elt tg iter : Expr} {ifs : List Expr} {rest : List Comprehension} {scope : Scope} {pos p : Pos} {ks : List Nat} {m : Value → Env → Sem Unit} {g : ATg} {src : AE} {t : AT} {b : Nat → AB} {Q : PV → AH → Prop} {use : Option (Value → Sem Unit)} {QQ : Value → Shared → Prop}
    (hT : ∀ I a env, compTurn (.ListComp elt (⟨tg, iter, ifs, 0⟩ :: rest) scope pos) 0 (.ref I) (.ref a) env = turnOf (.ListComp elt (⟨tg, iter, ifs, 0⟩ :: rest) scope pos) 0 tg ifs iter.pos (.ref I) (.ref a) env (m (.ref a) env))
    (hs : SoundE c n sc iter src) (hg : SoundA c n ⟨relabelS scope sc, freeOf scope.names⟩ tg g) (ht : SoundCond c n ⟨relabelS scope sc, freeOf scope.names⟩ ifs t) (hb : ∀ a, SoundEm c n ⟨relabelS scope sc, freeOf scope.names⟩ (m (.ref a)) (b a)) (hchk : compChk c.N scope sc ks = true) (hkind : scope.kind = .function)
    (hf : ∀ env x, foldedSetIterable iter env x = pure x) (hto : (∃ elts k pos, tg = .Tuple elts k pos) ∨ ∀ it v, letOwnedTupleGo tg it v = pure ())
    (hA : AOk n A) (he : EOk sc env) (R : ER c.base c.N env ρ s.heap) (S : St c.base H s) (q : aCompB ks g src t b Q ρ H)
    (fin : ∀ a H' s' C, c.base.get? C = none → s.heap.objs.size ≤ C → (∃ m, s'.heap.Ns C m) → St c.base H' s' → Ext No No H s H' s' → Q (.ref a) H' → compPost (model c.prog c.w) A E use QQ (.ref a) C (.ok .next) s') :
    wpAny (model c.prog c.w) A (comprehension (.ListComp elt (⟨tg, iter, ifs, 0⟩ :: rest) scope pos) scope env p (newList []) false (eval iter env) use) QQ E s := by
  unfold compChk at hchk
  simp only [Bool.and_eq_true, List.all_eq_true, beq_iff_eq, decide_eq_true_eq] at hchk
  obtain ⟨⟨c1, c2⟩, c5⟩ := hchk
  have hfr : ∀ x ∈ freeOf scope.names, ∃ cc, env.cells.lookup x = some cc := fun x hx => let ⟨cc, h1, _⟩ := he.cells x (c1 x hx); ⟨cc, h1⟩
  have hfr' : ∀ x ∈ freeOf scope.names, (env.cells.lookup x).isSome = true := fun x hx => by obtain ⟨cc, h1⟩ := hfr x hx; rw [h1]; rfl
  have hfk : ∀ x, x ∈ freeOf scope.names → (x, NameKind.cell) ∉ scope.names := fun x hx h => by
    obtain ⟨⟨y, k⟩, hy, rfl⟩ := List.mem_map.mp hx
    obtain ⟨hy1, hy2⟩ := List.mem_filter.mp hy
    have e1 := lookup_nodup c2 h
    rw [lookup_nodup c2 hy1] at e1
    cases e1; cases hy2
  have hfn : (freeOf scope.names).Nodup := c2.sublist ((List.filter_sublist (l := scope.names)).map _)
  refine wpAny_comprehension_free (g := ⟨tg, iter, ifs, 0⟩) (gs := rest) rfl (hf env) (closure_eq hfr') hkind (fun x hx h => by obtain ⟨y, k⟩ := x; cases h; exact lookup_nodup c2 hx) ?_
  refine seq1 (F := fun p H1 => withItems p (fun items G H2 => ∀ a, H2 a = none → G (upd H2 a ⟨[], true⟩) ∧ compL g t (b a) G (fun _ H3 => Q (.ref a) H3) items (capt ks ρ) (upd H2 a ⟨[], true⟩)) H1) hs hA he R S q fun va pa H1 s1 h1 R1 S1 e1 q1 => ?_
  refine iter_sound (n := n) h1 S1 q1 fun I items P G J s2 it hj S2 e2 hP hG q2 => ?_
  have newAcc : wpAny (model c.prog c.w) A (newList []) (fun acc s3 => ∃ a H3, acc = .ref a ∧ a = s2.heap.objs.size ∧ H3 = upd H1 a ⟨[], true⟩ ∧ St c.base H3 s3 ∧ Ext No No H1 s2 H3 s3) E s2 :=
    wpAny_newObj_type ⟨_, _, rfl, rfl, rfl, S2.newList (vs := #[]) .nil, Ext.newList _ _⟩ (by show (#[] : Array Value).size ≤ sizeLine; simp)
  refine wpAny_mono newAcc (fun acc s3 ⟨a, H3, e4, e5, e6, S3, e3⟩ => ?_) fun _ _ x => x
  subst e4
  have ha : H1 a = none := S2.fresh (by rw [e5]; exact Nat.le_refl _)
  obtain ⟨q3, q4⟩ := q2 a ha
  rw [← e6] at q3 q4
  refine new_env ?_
  have ok := cellsFrom_ok scope.names (s3.heap.push { cls := .type "dict", data := .dict #[] }) (s3.heap.objs.size + 1) [] ⟨fun _ _ hm => (nomatch hm), List.Pairwise.nil⟩ (by rw [Heap.size_push]; exact Nat.le_refl _)
  have hn : (pushCells (s3.heap.push { cls := .type "dict", data := .dict #[] }) scope.names).Ns s3.heap.objs.size (fun _ => none) := (Heap.Ns.new s3.heap (.type "dict")).keeps (pushCells_keeps _ _)
  have hk4 : ∀ b o, s3.heap.get? b = some o → (pushCells (s3.heap.push { cls := .type "dict", data := .dict #[] }) scope.names).get? b = some o := fun b o hb => pushCells_keeps _ _ b o (Heap.get?_push_of_some _ hb)
  have hz4 : s3.heap.objs.size ≤ (pushCells (s3.heap.push { cls := .type "dict", data := .dict #[] }) scope.names).objs.size := Nat.le_trans (by rw [Heap.size_push]; exact Nat.le_succ _) (pushCells_size scope.names _)
  rw [Heap.size_push] at ok
  generalize pushCells (s3.heap.push { cls := .type "dict", data := .dict #[] }) scope.names = h' at *
  have own0 : ∀ x, (cellsFrom (s3.heap.objs.size + 1) scope.names []).lookup x ≠ none ↔ (x, NameKind.cell) ∈ scope.names := fun x => by
    constructor
    · intro h
      cases hl : (cellsFrom (s3.heap.objs.size + 1) scope.names []).lookup x with
      | none => exact absurd hl h
      | some a => exact (cellsFrom_mem.mpr ⟨a, mem_of_lookup hl⟩).resolve_right fun ⟨_, h⟩ => nomatch h
    · intro h e
      obtain ⟨a, ha⟩ := cellsFrom_mem (k := s3.heap.objs.size + 1) (acc := []).mp (.inl h)
      obtain ⟨b, hb⟩ := lookup_of_mem ha
      rw [e] at hb; cases hb
  generalize hown : cellsFrom (s3.heap.objs.size + 1) scope.names [] = own at *
  generalize hC : s3.heap.objs.size = C at *
  have S4 : St c.base H3 { s3 with heap := h' } := S3.of_keep (X := No) (tk := s3.toks) (fun b o _ h => hk4 b o h) (fun _ h => h.elim) (fun _ h => h.elim) (fun _ h => h.elim)
  have e34 : Ext No No H3 s3 H3 { s3 with heap := h' } := Ext.of_keep (tk := s3.toks) (fun b o _ h => hk4 b o h) (by rw [hC]; exact hz4)
  have hs2 : s1.heap.objs.size ≤ s2.heap.objs.size := e2.size
  have hs3 : s2.heap.objs.size ≤ s3.heap.objs.size := e3.size
  have hs1 : s.heap.objs.size ≤ s1.heap.objs.size := e1.size
  rw [relabel_eq he]
  generalize hce : newEnv scope C env.globals (own ++ clOf env scope.names []) env.qual none .none (some env) builtinsNs = cenv0
  have hL0 : cenv0.locals = C := by rw [← hce]; rfl
  have hC0 : cenv0.cells = own ++ clOf env scope.names [] := by rw [← hce]; rfl
  have hG0 : cenv0.globals = env.globals := by rw [← hce]; rfl
  have hB0 : cenv0.builtins = env.builtins := by rw [← hce]; rfl
  have e14 : Ext No No H1 s1 H3 { s3 with heap := h' } := (e2.trans e3).trans e34
  have R4 := R1.ext0 S1 e14
  have hcl : ∀ x cc, (x, cc) ∈ clOf env scope.names [] → env.cells.lookup x = some cc := fun x cc h => clOf_sub scope.names [] hfr' (fun _ h => nomatch h) _ h
  have hlk : ∀ x cc, cenv0.cells.lookup x = some cc → (x, cc) ∈ own ∨ (x, cc) ∈ clOf env scope.names [] := fun x cc h => by
    rw [hC0] at h; exact List.mem_append.mp (mem_of_lookup h)
  have hfree : ∀ x ∈ freeOf scope.names, cenv0.cells.lookup x = env.cells.lookup x := fun x hx => by
    have h0 : own.lookup x = none := Classical.byContradiction fun h => hfk x hx ((own0 x).mp h)
    rw [hC0, List.lookup_append, h0]; exact clOf_lookup hfr' hx
  have hbC : ∀ b, C ≤ b → c.base.get? b = none := fun b hb => S3.bsize (by rw [hC]; exact hb)
  have hlow : ∀ x cc, env.cells.lookup x = some cc → cc < s.heap.objs.size := fun x cc h => let ⟨w, hw⟩ := R.cells x cc h; hw.lt
  have hsC : s.heap.objs.size ≤ C := by rw [← hC]; omega
  have he4 : EOk ⟨relabelS scope sc, freeOf scope.names⟩ { cenv0 with scope := relabelS scope sc } := ⟨rfl, hkind, hG0.trans he.globals, hB0.trans he.builtins, fun x hx => by
    rcases relabel_cell hx with hm | hm
    · cases hl : own.lookup x with
      | none => exact absurd hl ((own0 x).mpr hm)
      | some a => exact ⟨a, by show cenv0.cells.lookup x = _; rw [hC0, List.lookup_append, hl]; rfl, fun _ => by show cenv0.locals < a; rw [hL0]; exact (ok.empty x a (mem_of_lookup hl)).2⟩
    · obtain ⟨cc, hcc⟩ := hfr x hm
      exact ⟨cc, by show cenv0.cells.lookup x = _; rw [hfree x hm]; exact hcc, fun h => absurd hm h⟩⟩
  have own4 : ∀ b, Own { cenv0 with scope := relabelS scope sc } b → C ≤ b := by
    rintro b (h | ⟨h1, _⟩)
    · exact Nat.le_of_eq (h.trans hL0).symm
    · exact Nat.le_of_lt (by rw [← hL0]; exact h1)
  have ER4 : ER c.base c.N { cenv0 with scope := relabelS scope sc } (capt ks ρ) h' := {
    names := ⟨_, by show h'.Ns cenv0.locals _; rw [hL0]; exact hn, fun k p hp => by
      unfold capt at hp
      by_cases hkc : ks.contains k = true
      · rw [if_pos hkc] at hp
        obtain ⟨m, hm, hmk⟩ := R4.names
        obtain ⟨x, v, k1, k2, k3⟩ := hmk k p hp
        have c5' := c5 k (by simpa using hkc)
        rw [k1] at c5'
        simp only [Bool.and_eq_true, List.contains_iff_mem, beq_iff_eq] at c5'
        refine ⟨x, v, k1, k2, .inr ⟨.inl c5'.2, ?_⟩⟩
        have hsx : env.kindOf x = some .cell := by rw [he.kindOf]; exact c1 x c5'.1
        rcases k3 with ⟨k4, _⟩ | ⟨_, cc, k4, k5⟩
        · rw [hsx] at k4; cases k4
        · exact ⟨cc, (hfree x c5'.1).trans k4, k5⟩
      · rw [if_neg hkc] at hp; cases hp⟩
    cells := fun x cc hx => by
      rcases hlk x cc hx with h | h
      · exact ⟨_, (ok.empty x cc h).1⟩
      · exact R4.cells x cc (hcl x cc h)
    apart := by
      show cenv0.cells.Pairwise _
      rw [hC0]
      refine List.pairwise_append.mpr ⟨ok.apart, clOf_apart (base := c.base) R.apart scope.names [] hfr' hfn (fun _ h => nomatch h) .nil, fun x hx y hy e => ?_⟩
      have h1 := (ok.empty x.1 x.2 hx).2
      have h2 := hlow y.1 y.2 (hcl y.1 y.2 hy)
      rw [← e] at h2
      exact Nat.lt_irrefl _ (Nat.lt_of_lt_of_le h2 (Nat.le_trans hsC (Nat.le_of_lt h1)))
    new := by show c.base.get? cenv0.locals = none; rw [hL0]; exact hbC C (Nat.le_refl _)
    cnew := fun x cc hx => by
      rcases hlk x cc hx with h | h
      · exact hbC cc (Nat.le_of_lt (ok.empty x cc h).2)
      · exact R.cnew x cc (hcl x cc h) }
  have hPC : ∀ b, C ≤ b → ¬ P b := fun b hb h => by have h1 := (hP b h).2; rw [← hC] at hb; exact Nat.lt_irrefl _ (Nat.lt_of_lt_of_le h1 (Nat.le_trans hs3 hb))
  have hjj := it.frame No items H1 s2 H3 _ hj S2 (e3.trans e34) S4 (fun _ h => h.elim) (fun _ _ _ h => h) q3
  have loop : codeAny (model c.prog c.w) A (.compLoop (.ListComp elt (⟨tg, iter, ifs, 0⟩ :: rest) scope pos) 0 (.ref I) (.ref a) { cenv0 with scope := relabelS scope sc }) (compPost (model c.prog c.w) A E use QQ (.ref a) cenv0.locals) { s3 with heap := h' } := by
    refine comp_loop (H₀ := H1) (s₀ := s1) (sc := ⟨relabelS scope sc, freeOf scope.names⟩) it (hT I a _) hg ht (hb a) hA he4 hto (fun b hb => hPC b (own4 b hb)) (fun x cc hx hp => ?_) hjj ER4 S4 e14.of_no q4 fun H' s' ρ' R' S' ex' hQ => ?_
    · rcases hlk x cc hx with h | h
      · exact hPC cc (Nat.le_of_lt (ok.empty x cc h).2) hp
      · exact absurd (Nat.lt_of_lt_of_le (hlow x cc (hcl x cc h)) hs1) (Nat.not_lt.mpr (hP cc hp).1)
    · have ee : Ext No No H s H' s' := e1.then_new ex' (fun b hb => .inr (by
        rcases hb with hb | hb
        · exact Nat.le_trans hsC (own4 b hb)
        · exact Nat.le_trans hs1 (hP b hb).1)) (fun _ h => h.elim)
      rw [hL0]
      obtain ⟨m, hm, _⟩ := R'.names
      exact fin a H' s' C (hbC C (Nat.le_refl _)) hsC ⟨m, by rw [← hL0]; exact hm⟩ S' ee hQ
  exact codeAny_compStart_list loop (it.self A items H3 _ _ _ hjj loop)

theorem sound_compB {elt tg iter : Expr} {ifs : List Expr} {rest : List Comprehension} {scope : Scope} {pos : Pos} {ks : List Nat} {m : Value → Env → Sem Unit} {g : ATg} {src : AE} {t : AT} {b : Nat → AB}
    (hT : ∀ I a env, compTurn (.ListComp elt (⟨tg, iter, ifs, 0⟩ :: rest) scope pos) 0 (.ref I) (.ref a) env = turnOf (.ListComp elt (⟨tg, iter, ifs, 0⟩ :: rest) scope pos) 0 tg ifs iter.pos (.ref I) (.ref a) env (m (.ref a) env))
    (hs : SoundE c n sc iter src) (hg : SoundA c n ⟨relabelS scope sc, freeOf scope.names⟩ tg g) (ht : SoundCond c n ⟨relabelS scope sc, freeOf scope.names⟩ ifs t) (hb : ∀ a, SoundEm c n ⟨relabelS scope sc, freeOf scope.names⟩ (m (.ref a)) (b a)) (hchk : compChk c.N scope sc ks = true) (hkind : scope.kind = .function)
    (hf : ∀ env x, foldedSetIterable iter env x = pure x) (hto : (∃ elts k pos, tg = .Tuple elts k pos) ∨ ∀ it v, letOwnedTupleGo tg it v = pure ()) :
    SoundE c n sc (.ListComp elt (⟨tg, iter, ifs, 0⟩ :: rest) scope pos) (aCompB ks g src t b) := by
  intro A env ρ H s Q E hA he R S q
  rw [eval_ListComp]
  refine comp_sound (use := none) hT hs hg ht hb hchk hkind hf hto hA he R S q fun a H' s' C hb hsC hm S' ee hQ => ?_
  obtain ⟨m, hm⟩ := hm
  refine ⟨m, hm, fun h2 hs2 => ?_⟩
  have S2 : St c.base H' { s' with heap := h2 } := st_upd (tk := s'.toks) S' hs2 hb (ns_dict hm)
  exact ⟨.ref a, H', .ref a, S2, ee.then_new (ext_upd (X := fun b => b = C) (tk := s'.toks) hs2 rfl) (fun b hb => .inr (hb ▸ hsC)) (fun _ h => h), hQ⟩
theorem sound_comp {elt tg iter : Expr} {ifs : List Expr} {scope : Scope} {pos : Pos} {ks : List Nat} {g : ATg} {src : AE} {t : AT} {e : AE}
    (hs : SoundE c n sc iter src) (hg : SoundA c n ⟨relabelS scope sc, freeOf scope.names⟩ tg g) (ht : SoundCond c n ⟨relabelS scope sc, freeOf scope.names⟩ ifs t) (hel : SoundE c n ⟨relabelS scope sc, freeOf scope.names⟩ elt e) (hchk : compChk c.N scope sc ks = true) (hkind : scope.kind = .function)
    (hf : ∀ env x, foldedSetIterable iter env x = pure x) (hto : (∃ elts k pos, tg = .Tuple elts k pos) ∨ ∀ it v, letOwnedTupleGo tg it v = pure ()) :
    SoundE c n sc (.ListComp elt [⟨tg, iter, ifs, 0⟩] scope pos) (aComp ks g src t e) :=
  sound_compB (m := fun a env => emit elt a env) (fun _ _ _ => rfl) hs hg ht (fun a => em_emit hel a) hchk hkind hf hto
end
end Mine
open PySem PySem.W PySem.Calls PyProof.Rows
set_option Elab.async false
set_option linter.unusedVariables false
namespace Mine

theorem well_ints {P : Params} {h : Heap} : ∀ (vs : List Value) (ns : List Int), WellAll P h vs (ns.map .int) → VAll h vs (ns.map .int)
  | _, [], .nil => .nil
  | _, i :: ns, .cons hv hr => by
    cases hv
    exact .cons (.int i _) (well_ints _ ns hr)

/-- the same run, its names numbered by N -/
abbrev Cx.on (c : Cx) (N : List Str) (h : N.Nodup) : Cx := { c with N := N, nodup := h }

/-- the text's i-th statement, a def: its parts -/
def fnRec (p : Program) (i : Nat) : DefRec := match p.main.body[i]? with
  | some (.FunctionDef name a b _ _ _ sc _ _ pos) => ⟨name, a, b, sc, pos⟩
  | _ => ⟨Str.empty, ⟨[], [], none, [], [], none, []⟩, [], { kind := .function, names := [], isGenerator := false, isCoroutine := false }, ⟨0, 0, 0, 0⟩⟩

/-- from the law's own function to the claim -/
theorem link {l : OpenLaw} {q : Program} {loose : List Str} {XP : (Str → Option Value) → Heap → Prop} {YP : World → Heap → Prop} {d : DefRec} {kwd : List (Str × Expr)} (N : List Str) (hN : N.Nodup) (hm : l.most = some 63) (hb : l.bound = none)
    (main : ∀ c : Cx, c.q = q → c.loose = looseW q loose → ∃ k f, k ≤ 500 ∧ SoundF (c.on N hN) k d.name f ∧ ∀ (ns : List Int) (a : Nat) (H : AH), ns.length ≤ 63 → H a = some ⟨ns.map .int, false⟩ → f [.ref a] (fun p _ => p = .bool true) H) :
    WalkO q loose XP YP l.row.toRowW d kwd fun f vs => PySem.call f vs := by
  intro w s₀ s₁ mg mb G Y fa o pm cd doc dV kV ho hd hcd hD hmg hg args vals as hpre hlay hrd hwl hlo
  have hpre' : (WShape.hasAll [] args [.list .int] && l.pre.holds [] { args := args }) = true := hpre
  simp only [Bool.and_eq_true] at hpre'
  obtain ⟨p1, p2⟩ := hpre'
  have one : ∃ ns : List Int, args = [.list (ns.map .int)] := by
    cases args with
    | nil => cases p1
    | cons x r =>
      have p3 : (WShape.has [] x (.list .int) && WShape.hasAll [] r []) = true := p1
      simp only [Bool.and_eq_true] at p3
      cases r with
      | cons y r => exact nomatch p3.2
      | nil =>
        obtain ⟨xs, e1, h1⟩ := hasW_list p3.1
        obtain ⟨ns, e2⟩ := items_int h1
        exact ⟨ns, by rw [e1, e2]⟩
  obtain ⟨ns, rfl⟩ := one
  have hlen : ns.length ≤ 63 := by
    unfold OpenLaw.pre at p2
    rw [hm, hb] at p2
    have hv := w_and (w_not (w_lt (w_lit (R := []) (e := { args := [.list (ns.map .int)] }) (d := .int (63 : Nat))) (w_len_list (w_arg (i := 0) rfl)))) (w_lit (d := .bool true))
    unfold WTm.holds at p2
    rw [hv] at p2
    cases hd : decide (((63 : Nat) : Int) < (((ns.map WData.int).length : Nat) : Int)) with
    | true => rw [hd] at p2; cases p2
    | false => have := of_decide_eq_false hd; simp at this; omega
  obtain ⟨vl, rfl⟩ : ∃ vl, vals = [vl] := by
    cases hwl with
    | cons h1 h2 => cases h2; exact ⟨_, rfl⟩
  cases hwl with
  | cons h1 h2 =>
    cases h1 with
    | list hget hws =>
      rename_i la vs
      let c : Cx := ⟨l.prog, w, s₁.heap, q, looseW q loose, _, mg, mb, G.T, N, hN⟩
      obtain ⟨k, f, hk, ⟨a', o', fd, m1, m2, m3, hf⟩, hmain⟩ := main c rfl rfl
      have ea : a' = fa := by
        have : mg d.name = some (.ref a') := m1
        rw [hmg] at this; cases this; rfl
      subst ea
      let H : AH := fun b => if b = la then some ⟨ns.map .int, false⟩ else none
      have hH : ∀ b x, H b = some x → b = la ∧ x = ⟨ns.map .int, false⟩ := by
        intro b x hx
        by_cases e : b = la
        · simp [H, e] at hx; exact ⟨e, hx.symm⟩
        · simp [H, e] at hx
      have S : St c.base H s₁ := ⟨⟨fun _ _ h => h, fun b x hx => by
          obtain ⟨rfl, rfl⟩ := hH b x hx
          exact ⟨vs.toArray, 0, hget, by simpa using well_ints vs ns hws⟩, fun b x hx ho => by
          obtain ⟨rfl, rfl⟩ := hH b x hx
          cases ho⟩, by rw [hg]; exact AllBare.empty⟩
      have hA : AOk k callerA := ⟨rfl, by show 1 + claimMargin + k ≤ 900; simp only [claimMargin]; omega, by show 4 + 10 * k ≤ 9000; omega⟩
      refine wpAny_mono (hf callerA H s₁ [.ref la] [.ref la] _ _ hA (.one (.ref la)) S (hmain ns la H hlen (by simp [H]))) (fun v s' rr => rr.elim fun p H' hv S' e hp => ?_) fun _ _ x => x
      subst hp
      cases hv
      refine ⟨.inl ⟨.bool true, .bool true, [], rfl, fun _ => rfl, .bool true, postW_of (r := l.row.toRowW) (X := true == true) (by show WShape.has [] (.bool true) .bool = true; decide +kernel) (by show (WTm.eq .res (.lit (.bool true))).value [] _ = _; exact w_eq_bool (w_res rfl) w_lit) rfl, fun _ => ⟨List.nodup_nil, fun _ h => nomatch h⟩⟩, OldK.of_keep fun b o hb => e.keep b o hb (fun h => h) fun x hx => ?_, e.os, S'.bare⟩
      obtain ⟨_, rfl⟩ := hH b x hx
      rfl
end Mine
open PySem PySem.W PySem.Calls PyProof.Rows
set_option Elab.async false
set_option linter.unusedVariables false
namespace Mine
section
variable {c : Cx} {n : Nat} {sc : SE}
theorem no_inter {env : Env} (h : EOk sc env) : interactive env = false := by
  unfold interactive; rw [h.skind]; rfl
def opNeg (a : PV) (Q : PV → AH → Prop) (H : AH) : Prop := match a with | .int x => Q (.int (-x)) H | _ => False
theorem op_negI : SoundOp1 c n (unaryOp .USub) opNeg := op_neg
def noSwap (ts : List Expr) : Bool := ts.any fun | .Name .. => false | _ => true
end
end Mine
open PySem PySem.W PySem.Calls PyProof.Rows
set_option Elab.async false
set_option linter.unusedVariables false
namespace Mine

-- plain data without lists
mutual
def pd : PV → PyData
  | .none => .none
  | .bool b => .bool b
  | .int i => .int i
  | .str x => .str ⟨x.toArray⟩
  | .tup xs => .tuple (pds xs)
  | .ref _ => .none
  | .rng _ _ => .none
def pds : List PV → List PyData
  | [] => []
  | x :: xs => pd x :: pds xs
end
mutual
def flat : Nat → PV → Bool
  | n + 1, .tup xs => flats n xs
  | 0, .tup _ => false
  | _, .ref _ => false
  | _, .rng _ _ => false
  | _, _ => true
def flats : Nat → List PV → Bool
  | _, [] => true
  | n, x :: xs => flat n x && flats n xs
end
mutual
theorem rd_flat {H : AH} : ∀ (n : Nat) (p : PV), flat n p = true → Rd H n p (pd p)
  | n, .none, _ => by cases n <;> exact .none _
  | n, .bool b, _ => by cases n <;> exact .bool _ b
  | n, .int i, _ => by cases n <;> exact .int _ i
  | n, .str x, _ => by cases n <;> exact .str _ x
  | n + 1, .tup xs, h => .tup (rd_flats n xs (by simpa [flat] using h))
  | 0, .tup xs, h => by simp [flat] at h
  | n, .ref _, h => by cases n <;> simp [flat] at h
  | n, .rng _ _, h => by cases n <;> simp [flat] at h
theorem rd_flats {H : AH} : ∀ (n : Nat) (ps : List PV), flats n ps = true → RdAll H n ps (pds ps)
  | n, [], _ => .nil n
  | n, p :: ps, h => by
    simp only [flats, Bool.and_eq_true] at h
    exact .cons (rd_flat n p h.1) (rd_flats n ps h.2)
end
theorem flats_all {n : Nat} : ∀ {ps : List PV}, (∀ p ∈ ps, flat n p = true) → flats n ps = true
  | [], _ => rfl
  | p :: ps, h => by simp only [flats, Bool.and_eq_true]; exact ⟨h p (.head _), flats_all fun q hq => h q (.tail _ hq)⟩
theorem pds_map : ∀ ps : List PV, pds ps = ps.map pd
  | [] => rfl
  | p :: ps => by simp [pds, pds_map ps]


theorem upd_at {α : Type} (f : Nat → Option α) (k j : Nat) (v : α) : upd f k v j = if j = k then some v else f j := rfl
theorem upd_upd {α : Type} (f : Nat → Option α) (k : Nat) (v w : α) : upd (upd f k v) k w = upd f k w := by
  funext j; simp only [upd]; split <;> rfl
end Mine
open PySem PySem.W PySem.Calls PyProof.Rows
set_option Elab.async false
set_option linter.unusedVariables false
namespace Mine

-- all is monotone in what is asked of the end
def MonoE (e : AE) : Prop := ∀ (Q Q' : PV → AH → Prop) (ρ : AEnv) (H : AH), (∀ p H, Q p H → Q' p H) → e Q ρ H → e Q' ρ H
def MonoL (e : AL) : Prop := ∀ (Q Q' : List PV → AH → Prop) (ρ : AEnv) (H : AH), (∀ p H, Q p H → Q' p H) → e Q ρ H → e Q' ρ H
def MonoT (e : AT) : Prop := ∀ (Q Q' : Bool → AH → Prop) (ρ : AEnv) (H : AH), (∀ p H, Q p H → Q' p H) → e Q ρ H → e Q' ρ H
def MonoS (e : AS) : Prop := ∀ (Q Q' : Fl → AEnv → AH → Prop) (ρ : AEnv) (H : AH), (∀ f ρ H, Q f ρ H → Q' f ρ H) → e Q ρ H → e Q' ρ H
def MonoG (g : ATg) : Prop := ∀ (p : PV) (Q Q' : AEnv → AH → Prop) (ρ : AEnv) (H : AH), (∀ ρ H, Q ρ H → Q' ρ H) → g p Q ρ H → g p Q' ρ H
def MonoF (f : AF) : Prop := ∀ (ps : List PV) (Q Q' : PV → AH → Prop) (H : AH), (∀ p H, Q p H → Q' p H) → f ps Q H → f ps Q' H
def MonoO2 (f : PV → PV → (PV → AH → Prop) → AH → Prop) : Prop := ∀ (a b : PV) (Q Q' : PV → AH → Prop) (H : AH), (∀ p H, Q p H → Q' p H) → f a b Q H → f a b Q' H
def MonoO1 (f : PV → (PV → AH → Prop) → AH → Prop) : Prop := ∀ (a : PV) (Q Q' : PV → AH → Prop) (H : AH), (∀ p H, Q p H → Q' p H) → f a Q H → f a Q' H

theorem newL_mono {ps : List PV} {Q Q' : PV → AH → Prop} {H : AH} (h : ∀ p H, Q p H → Q' p H) (q : newL ps Q H) : newL ps Q' H := fun a ha => h _ _ (q a ha)

theorem m_var {k : Nat} : MonoE (aVar k) := by intro Q Q' ρ H h q; unfold aVar at *; split <;> simp_all
theorem m_cst {p : PV} : MonoE (aCst p) := fun Q Q' ρ H h q => h _ _ q
theorem m_bin {f} {a b : AE} (hf : MonoO2 f) (ha : MonoE a) (hb : MonoE b) : MonoE (aBin f a b) := fun Q Q' ρ H h q => ha _ _ _ _ (fun p H1 q1 => hb _ _ _ _ (fun p2 H2 q2 => hf _ _ _ _ _ h q2) q1) q
theorem m_un {f} {a : AE} (hf : MonoO1 f) (ha : MonoE a) : MonoE (aUn f a) := fun Q Q' ρ H h q => ha _ _ _ _ (fun p H1 q1 => hf _ _ _ _ h q1) q
theorem mo_add : MonoO2 opAdd := by
  intro a b Q Q' H h q
  unfold opAdd at *
  split at q
  · exact h _ _ q
  · exact ⟨q.1, h _ _ q.2⟩
  · split at q
    · exact ⟨q.1, newL_mono h q.2⟩
    · exact q.elim
  · exact q.elim
theorem mo_sub : MonoO2 opSub := by
  intro a b Q Q' H h q; unfold opSub at *; split at q
  · exact h _ _ q
  · exact q.elim
theorem mo_mul : MonoO2 opMul := by
  intro a b Q Q' H h q; unfold opMul at *; split at q
  · exact ⟨q.1, h _ _ q.2⟩
  · exact ⟨q.1, h _ _ q.2⟩
  · exact q.elim
theorem mo_div : MonoO2 opDiv := by
  intro a b Q Q' H h q; unfold opDiv at *; split at q
  · exact ⟨q.1, h _ _ q.2⟩
  · exact q.elim
theorem mo_mod : MonoO2 opMod := by
  intro a b Q Q' H h q; unfold opMod at *; split at q
  · exact ⟨q.1, h _ _ q.2⟩
  · exact q.elim
theorem mo_neg : MonoO1 opNeg := by
  intro a Q Q' H h q; unfold opNeg at *; split at q
  · exact h _ _ q
  · exact q.elim
theorem mo_item : MonoO2 opItem := by
  intro a b Q Q' H h q; unfold opItem at *
  split at q
  · split at q
    · skip
      split at q
      · exact ⟨q.1, h _ _ q.2⟩
      · exact q.elim
    · exact q.elim
  · split at q
    · exact ⟨q.1, h _ _ q.2⟩
    · exact q.elim
  · split at q
    · exact ⟨q.1, h _ _ q.2⟩
    · exact q.elim
  · exact q.elim
theorem mt_not {a : AT} (ha : MonoT a) : MonoT (tNot a) := fun Q Q' ρ H h q => ha _ _ _ _ (fun p H1 q1 => h _ _ q1) q
theorem mt_and {a b : AT} (ha : MonoT a) (hb : MonoT b) : MonoT (tAnd a b) := fun Q Q' ρ H h q => ha _ _ _ _ (fun p H1 q1 => by
  cases p
  · exact h _ _ (by simpa using q1)
  · exact hb _ _ _ _ h (by simpa using q1)) q
theorem mt_or {a b : AT} (ha : MonoT a) (hb : MonoT b) : MonoT (tOr a b) := fun Q Q' ρ H h q => ha _ _ _ _ (fun p H1 q1 => by
  cases p
  · exact hb _ _ _ _ h (by simpa using q1)
  · exact h _ _ (by simpa using q1)) q
theorem mt_true : MonoT tTrue := fun Q Q' ρ H h q => h _ _ q
theorem mt_false : MonoT tFalse := fun Q Q' ρ H h q => h _ _ q
theorem mt_cmp {op : CmpOp} {a b : AE} (ha : MonoE a) (hb : MonoE b) : MonoT (tCmp op a b) := fun Q Q' ρ H h q => ha _ _ _ _ (fun p H1 q1 => hb _ _ _ _ (fun p2 H2 q2 => cmpOp_mono h q2) q1) q
theorem mt_cmp2 {op op' : CmpOp} {a b d : AE} (ha : MonoE a) (hb : MonoE b) (hd : MonoE d) : MonoT (tCmp2 op a op' b d) := fun Q Q' ρ H h q => ha _ _ _ _ (fun p H1 q1 => hb _ _ _ _ (fun p2 H2 q2 => cmpOp_mono (fun k H3 q3 => by
  cases k
  · exact h _ _ (by simpa using q3)
  · exact hd _ _ _ _ (fun p4 H4 q4 => cmpOp_mono h q4) (by simpa using q3)) q2) q1) q
theorem m_if {t : AT} {a b : AE} (ht : MonoT t) (ha : MonoE a) (hb : MonoE b) : MonoE (aIf t a b) := fun Q Q' ρ H h q => ht _ _ _ _ (fun p H1 q1 => by
  cases p
  · exact hb _ _ _ _ h (by simpa using q1)
  · exact ha _ _ _ _ h (by simpa using q1)) q
theorem ml_nil : MonoL lNil := fun Q Q' ρ H h q => h _ _ q
theorem ml_cons {a : AE} {l : AL} (ha : MonoE a) (hl : MonoL l) : MonoL (lCons a l) := fun Q Q' ρ H h q => ha _ _ _ _ (fun p H1 q1 => hl _ _ _ _ (fun ps H2 q2 => h _ _ q2) q1) q
theorem m_tup {l : AL} (hl : MonoL l) : MonoE (aTup l) := fun Q Q' ρ H h q => hl _ _ _ _ (fun p H1 q1 => ⟨q1.1, h _ _ q1.2⟩) q
theorem m_list {l : AL} (hl : MonoL l) : MonoE (aList l) := fun Q Q' ρ H h q => hl _ _ _ _ (fun p H1 q1 => ⟨q1.1, newL_mono h q1.2⟩) q
theorem m_call {f : AF} {l : AL} (hf : MonoF f) (hl : MonoL l) : MonoE (aCall f l) := fun Q Q' ρ H h q => hl _ _ _ _ (fun p H1 q1 => hf _ _ _ _ h q1) q
theorem m_meth {K} {f : AF} {o : AE} {l : AL} (hf : MonoF f) (ho : MonoE o) (hl : MonoL l) : MonoE (aMeth K f o l) := fun Q Q' ρ H h q => ho _ _ _ _ (fun p H1 q1 => ⟨q1.1, hl _ _ _ _ (fun ps H2 q2 => hf _ _ _ _ h q2) q1.2⟩) q
theorem m_slice {a b d e : AE} (ha : MonoE a) (hb : MonoE b) (hd : MonoE d) (he : MonoE e) : MonoE (aSlice a b d e) := fun Q Q' ρ H h q =>
  ha _ _ _ _ (fun p1 H1 q1 => hb _ _ _ _ (fun p2 H2 q2 => hd _ _ _ _ (fun p3 H3 q3 => he _ _ _ _ (fun p4 H4 q4 => by
    unfold opSlice at *
    split at q4
    · split at q4
      · split at q4
        · exact ⟨q4.1, newL_mono h q4.2⟩
        · exact q4.elim
      · exact ⟨q4.1, h _ _ q4.2⟩
      · exact q4.elim
    · exact q4.elim) q3) q2) q1) q
theorem withOwn_mono {p : PV} {k k' : Nat → List PV → Prop} {H : AH} (h : ∀ a xs, k a xs → k' a xs) (q : withOwn p k H) : withOwn p k' H := by
  unfold withOwn at *
  split at q
  · split at q
    · exact ⟨q.1, h _ _ q.2⟩
    · exact q.elim
  · exact q.elim
theorem mf_len : MonoF fLen := by
  intro ps Q Q' H h q; unfold fLen at *
  split at q
  · split at q
    · exact ⟨q.1, h _ _ q.2⟩
    · exact q.elim
  · exact ⟨q.1, h _ _ q.2⟩
  · exact ⟨q.1, h _ _ q.2⟩
  · exact q.elim
theorem mf_tuple : MonoF fTuple := by
  intro ps Q Q' H h q; unfold fTuple at *
  split at q
  · split at q
    · exact ⟨q.1, h _ _ q.2⟩
    · exact q.elim
  · exact q.elim
theorem mf_append : MonoF fAppend := by
  intro ps Q Q' H h q; unfold fAppend at *
  split at q
  · exact withOwn_mono (fun a xs q => ⟨q.1, h _ _ q.2⟩) q
  · exact q.elim
theorem mg_name {k : Nat} : MonoG (gName k) := fun p Q Q' ρ H h q => h _ _ q
inductive MonoGs : List ATg → Prop
  | nil : MonoGs []
  | cons {g : ATg} {gs : List ATg} : MonoG g → MonoGs gs → MonoGs (g :: gs)
theorem go_mono : ∀ {gs : List ATg}, MonoGs gs → ∀ (ps : List PV) (Q Q' : AEnv → AH → Prop) (ρ : AEnv) (H : AH), (∀ ρ H, Q ρ H → Q' ρ H) → gTup.go gs ps Q ρ H → gTup.go gs ps Q' ρ H
  | _, .nil, ps, Q, Q', ρ, H, h, q => by simp only [gTup.go] at *; exact h _ _ q
  | _, .cons hg hgs, [], Q, Q', ρ, H, h, q => by simp only [gTup.go] at *; exact h _ _ q
  | _, .cons hg hgs, p :: ps, Q, Q', ρ, H, h, q => by
    simp only [gTup.go] at *
    exact hg _ _ _ _ _ (fun ρ1 H1 q1 => go_mono hgs ps Q Q' ρ1 H1 h q1) q
theorem mg_tup {gs : List ATg} (hg : MonoGs gs) : MonoG (gTup gs) := by
  intro p Q Q' ρ H h q; unfold gTup at *
  split at q
  · exact ⟨q.1, go_mono hg _ _ _ _ _ h q.2⟩
  · exact q.elim

-- statements
theorem ms_nil : MonoS sNil := fun Q Q' ρ H h q => h _ _ _ q
theorem ms_cons {a b : AS} (ha : MonoS a) (hb : MonoS b) : MonoS (sCons a b) := fun Q Q' ρ H h q => ha _ _ _ _ (fun fl ρ1 H1 q1 => by
  cases fl with
  | next => exact hb _ _ _ _ h q1
  | brk => exact h _ _ _ q1
  | cont => exact h _ _ _ q1
  | ret p => exact h _ _ _ q1) q
theorem ms_assign {g : ATg} {a : AE} (ha : MonoE a) (hg : MonoG g) : MonoS (sAssign g a) := fun Q Q' ρ H h q => ha _ _ _ _ (fun p H1 q1 => hg _ _ _ _ _ (fun ρ2 H2 q2 => h _ _ _ q2) q1) q
theorem ms_ret {a : AE} (ha : MonoE a) : MonoS (sRet a) := fun Q Q' ρ H h q => ha _ _ _ _ (fun p H1 q1 => h _ _ _ q1) q
theorem ms_if {t : AT} {a b : AS} (ht : MonoT t) (ha : MonoS a) (hb : MonoS b) : MonoS (sIf t a b) := fun Q Q' ρ H h q => ht _ _ _ _ (fun p H1 q1 => by
  cases p
  · exact hb _ _ _ _ h (by simpa using q1)
  · exact ha _ _ _ _ h (by simpa using q1)) q
theorem ms_expr {a : AE} (ha : MonoE a) : MonoS (sExpr a) := fun Q Q' ρ H h q => ha _ _ _ _ (fun p H1 q1 => h _ _ _ q1) q
theorem withItems_mono {p : PV} {k k' : List PV → (AH → Prop) → AH → Prop} {H : AH} (h : ∀ xs G H, k xs G H → k' xs G H) (q : withItems p k H) : withItems p k' H := by
  unfold withItems at *
  split at q
  · split at q
    · exact h _ _ _ q
    · exact q.elim
  · exact h _ _ _ q
  · exact h _ _ _ q
  · exact ⟨q.1, h _ _ _ q.2⟩
  · exact q.elim

/-- a loop by what holds ahead of each turn -/
theorem forL_inv {g : ATg} {body : AS} {G : AH → Prop} {Q : Fl → AEnv → AH → Prop} (mg : MonoG g) (mb : MonoS body) (I : List PV → AEnv → AH → Prop)
    (step : ∀ p ps ρ H, I (p :: ps) ρ H → g p (fun ρ1 H1 => body (fun fl ρ2 H2 => match fl with
      | .next => G H2 ∧ I ps ρ2 H2
      | .cont => G H2 ∧ I ps ρ2 H2
      | .brk => Q .next ρ2 H2
      | .ret v => Q (.ret v) ρ2 H2) ρ1 H1) ρ H) (fin : ∀ ρ H, I [] ρ H → Q .next ρ H) : ∀ (items : List PV) (ρ : AEnv) (H : AH), I items ρ H → forL g body G Q items ρ H
  | [], ρ, H, hi => fin ρ H hi
  | p :: ps, ρ, H, hi => by
    refine mg _ _ _ _ _ (fun ρ1 H1 q1 => mb _ _ _ _ (fun fl ρ2 H2 q2 => ?_) q1) (step p ps ρ H hi)
    cases fl with
    | next => exact ⟨q2.1, forL_inv mg mb I step fin ps ρ2 H2 q2.2⟩
    | cont => exact ⟨q2.1, forL_inv mg mb I step fin ps ρ2 H2 q2.2⟩
    | brk => exact q2
    | ret v => exact q2
theorem ms_for {g : ATg} {src : AE} {body : AS} (hs : MonoE src) (mg : MonoG g) (mb : MonoS body) : MonoS (sFor g src body) := fun Q Q' ρ H h q =>
  hs _ _ _ _ (fun p H1 q1 => withItems_mono (fun xs G H2 q2 => by
    refine forL_inv mg mb (fun ps ρ H => forL g body G Q ps ρ H) (fun p ps ρ H hi => ?_) (fun ρ H hi => h _ _ _ hi) xs ρ H2 q2
    refine mg _ _ _ _ _ (fun ρ1 H1 q1 => mb _ _ _ _ (fun fl ρ2 H2 q2 => ?_) q1) hi
    cases fl with
    | next => exact q2
    | cont => exact q2
    | brk => exact h _ _ _ q2
    | ret v => exact h _ _ _ q2) q1) q
theorem whileN_inv {t : AT} {body : AS} {Q : Fl → AEnv → AH → Prop} (mt : MonoT t) (mb : MonoS body) (I : Nat → AEnv → AH → Prop)
    (step : ∀ k ρ H, I k ρ H → t (fun r H1 => if r then body (fun fl ρ2 H2 => match fl with
      | .next => ∃ j, j < k ∧ I j ρ2 H2
      | .cont => ∃ j, j < k ∧ I j ρ2 H2
      | .brk => Q .next ρ2 H2
      | .ret v => Q (.ret v) ρ2 H2) ρ H1 else Q .next ρ H1) ρ H) : ∀ (n k : Nat), k < n → ∀ (ρ : AEnv) (H : AH), I k ρ H → whileN t body Q n ρ H
  | 0, k, hk, _, _, _ => absurd hk (Nat.not_lt_zero _)
  | n + 1, k, hk, ρ, H, hi => by
    refine mt _ _ _ _ (fun r H1 q1 => ?_) (step k ρ H hi)
    cases r with
    | false => simpa using q1
    | true =>
      simp only [if_true] at q1 ⊢
      refine mb _ _ _ _ (fun fl ρ2 H2 q2 => ?_) q1
      cases fl with
      | next => obtain ⟨j, hj, q2⟩ := q2; exact whileN_inv mt mb I step n j (by omega) ρ2 H2 q2
      | cont => obtain ⟨j, hj, q2⟩ := q2; exact whileN_inv mt mb I step n j (by omega) ρ2 H2 q2
      | brk => exact q2
      | ret v => exact q2
theorem while_inv {t : AT} {body : AS} {Q : Fl → AEnv → AH → Prop} {ρ : AEnv} {H : AH} (mt : MonoT t) (mb : MonoS body) (I : Nat → AEnv → AH → Prop) (k : Nat) (hi : I k ρ H)
    (step : ∀ k ρ H, I k ρ H → t (fun r H1 => if r then body (fun fl ρ2 H2 => match fl with
      | .next => ∃ j, j < k ∧ I j ρ2 H2
      | .cont => ∃ j, j < k ∧ I j ρ2 H2
      | .brk => Q .next ρ2 H2
      | .ret v => Q (.ret v) ρ2 H2) ρ H1 else Q .next ρ H1) ρ H) : sWhile t body Q ρ H := ⟨k + 1, whileN_inv mt mb I step (k + 1) k (Nat.lt_succ_self _) ρ H hi⟩
theorem ms_while {t : AT} {body : AS} (mt : MonoT t) (mb : MonoS body) : MonoS (sWhile t body) := by
  intro Q Q' ρ H h ⟨k, q⟩
  refine ⟨k, ?_⟩
  revert ρ H
  induction k with
  | zero => intro ρ H q; exact q
  | succ k ih =>
    intro ρ H q
    refine mt _ _ _ _ (fun r H1 q1 => ?_) q
    cases r with
    | false => simp only [Bool.false_eq_true, if_false] at q1 ⊢; exact h _ _ _ q1
    | true =>
      simp only [if_true] at q1 ⊢
      refine mb _ _ _ _ (fun fl ρ2 H2 q2 => ?_) q1
      cases fl with
      | next => exact ih _ _ q2
      | cont => exact ih _ _ q2
      | brk => exact h _ _ _ q2
      | ret v => exact h _ _ _ q2
theorem mf_fn {ks : List Nat} {b : AS} (hb : MonoS b) : MonoF (aFn ks b) := fun ps Q Q' H h q => ⟨q.1, hb _ _ _ _ (fun fl ρ1 H1 q1 => by
  cases fl with
  | next => exact h _ _ q1
  | brk => exact q1
  | cont => exact q1
  | ret p => exact h _ _ q1) q.2⟩

-- comprehensions
def MonoB (b : AB) : Prop := ∀ (Q Q' : AEnv → AH → Prop) (ρ : AEnv) (H : AH), (∀ ρ H, Q ρ H → Q' ρ H) → b Q ρ H → b Q' ρ H
/-- a comprehension's loop by an invariant -/
theorem compL_inv {g : ATg} {t : AT} {b : AB} {G : AH → Prop} {Q : AEnv → AH → Prop} (mg : MonoG g) (mt : MonoT t) (mb : MonoB b) (J : List PV → AEnv → AH → Prop) (hend : ∀ ρ H, J [] ρ H → Q ρ H)
    (hst : ∀ p ps ρ H, J (p :: ps) ρ H → g p (fun ρ1 H1 => t (fun k H2 => if k then b (fun ρ3 H3 => G H3 ∧ J ps ρ3 H3) ρ1 H2 else G H2 ∧ J ps ρ1 H2) ρ1 H1) ρ H) : ∀ (items : List PV) (ρ : AEnv) (H : AH), J items ρ H → compL g t b G Q items ρ H := by
  intro items
  induction items with
  | nil => intro ρ H h; exact hend ρ H h
  | cons p ps ih =>
    intro ρ H h
    refine mg _ _ _ _ _ (fun ρ1 H1 q1 => mt _ _ _ _ (fun k H2 q2 => ?_) q1) (hst p ps ρ H h)
    cases k with
    | false => exact ⟨q2.1, ih _ _ q2.2⟩
    | true => exact mb _ _ _ _ (fun ρ3 H3 q3 => ⟨q3.1, ih _ _ q3.2⟩) q2
theorem compL_mono {g : ATg} {t : AT} {b : AB} {G : AH → Prop} {Q Q' : AEnv → AH → Prop} (mg : MonoG g) (mt : MonoT t) (mb : MonoB b) (h : ∀ ρ H, Q ρ H → Q' ρ H) {items : List PV} {ρ : AEnv} {H : AH} (q : compL g t b G Q items ρ H) : compL g t b G Q' items ρ H :=
  compL_inv mg mt mb (fun ps ρ H => compL g t b G Q ps ρ H) h (fun _ _ _ _ q => q) items ρ H q
theorem mb_emit {e : AE} {a : Nat} (me : MonoE e) : MonoB (bEmit e a) := fun Q Q' ρ H h q => me _ _ _ _ (fun v H3 q3 => mf_append _ _ _ _ (fun _ H4 q4 => h _ _ q4) q3) q
theorem m_compB {ks : List Nat} {g : ATg} {src : AE} {t : AT} {b : Nat → AB} (hs : MonoE src) (mg : MonoG g) (mt : MonoT t) (mb : ∀ a, MonoB (b a)) : MonoE (aCompB ks g src t b) := fun Q Q' ρ H h q =>
  hs _ _ _ _ (fun p H1 q1 => withItems_mono (fun xs G H2 q2 a ha => ⟨(q2 a ha).1, compL_mono mg mt (mb a) (fun _ H3 q3 => h _ _ q3) (q2 a ha).2⟩) q1) q
theorem m_comp {ks : List Nat} {g : ATg} {src : AE} {t : AT} {e : AE} (hs : MonoE src) (mg : MonoG g) (mt : MonoT t) (me : MonoE e) : MonoE (aComp ks g src t e) := m_compB hs mg mt fun a => mb_emit me
def Keep (H H' : AH) : Prop := ∀ a x, H a = some x → H' a = some x
def KeepBut (X : List Nat) (H H' : AH) : Prop := ∀ a x, a ∉ X → H a = some x → H' a = some x
theorem Keep.refl {H : AH} : Keep H H := fun _ _ h => h
theorem Keep.trans {H H' H'' : AH} (h : Keep H H') (k : Keep H' H'') : Keep H H'' := fun a x q => k a x (h a x q)
theorem Keep.upd {H H' : AH} {a : Nat} {y : LO} (h : Keep H H') (ha : H a = none) : Keep H (upd H' a y) := fun b x q => by
  have : b ≠ a := by rintro rfl; rw [ha] at q; cases q
  rw [upd_other _ _ this]; exact h b x q
theorem Keep.new {H : AH} {a : Nat} {y : LO} (ha : H a = none) : Keep H (Mine.upd H a y) := Keep.refl.upd ha
theorem ne_new {H : AH} {a b : Nat} {x : LO} (h : H b = some x) (ha : H a = none) : b ≠ a := by rintro rfl; rw [ha] at h; cases h

/-- a comprehension whose parts write nothing -/
theorem compL_run {g : ATg} {t : AT} {e : AE} {a : Nat} {G Q : AH → Prop} (mg : MonoG g) (mt : MonoT t) (me : MonoE e) (J : AEnv → Prop) (val : PV → Option PV) {H₀ : AH} (h0 : H₀ a = none) (hG : ∀ H, Keep H₀ H → G H) : ∀ (items : List PV),
    (∀ p ∈ items, ∀ ρ H acc, J ρ → Keep H₀ H → H a = some ⟨acc, true⟩ → g p (fun ρ1 H1 => t (fun b H2 => if b then e (fun v H3 => J ρ1 ∧ Keep H₀ H3 ∧ H3 a = some ⟨acc, true⟩ ∧ val p = some v) ρ1 H2 else J ρ1 ∧ Keep H₀ H2 ∧ H2 a = some ⟨acc, true⟩ ∧ val p = none) ρ1 H1) ρ H) →
    ∀ (acc : List PV) (ρ : AEnv) (H : AH), J ρ → Keep H₀ H → H a = some ⟨acc, true⟩ → acc.length + items.length ≤ 16777216 → (∀ H', Keep H₀ H' → H' a = some ⟨acc ++ items.filterMap val, true⟩ → Q H') → compL g t (bEmit e a) G (fun _ H => Q H) items ρ H
  | [], hst, acc, ρ, H, hJ, hK, hA, hl, hQ => hQ H hK (by simpa using hA)
  | p :: ps, hst, acc, ρ, H, hJ, hK, hA, hl, hQ => by
    have hst' := fun q hq => hst q (.tail _ hq)
    simp only [List.length_cons] at hl
    refine mg _ _ _ _ _ (fun ρ1 H1 q1 => mt _ _ _ _ (fun b H2 q2 => ?_) q1) (hst p (.head _) ρ H acc hJ hK hA)
    cases b with
    | false =>
      simp only [Bool.false_eq_true, if_false] at q2 ⊢
      obtain ⟨j, k, l, m⟩ := q2
      exact ⟨hG _ k, compL_run mg mt me J val h0 hG ps hst' acc ρ1 H2 j k l (by omega) fun H' k' l' => hQ H' k' (by rw [l', List.filterMap_cons, m])⟩
    | true =>
      simp only [if_true] at q2 ⊢
      refine me _ _ _ _ (fun v H3 q3 => ?_) q2
      obtain ⟨j, k, l, m⟩ := q3
      simp only [fAppend, withOwn, l]
      have kk : Keep H₀ (upd H3 a ⟨acc ++ [v], true⟩) := k.upd h0
      refine ⟨trivial, by simp only [szOk]; omega, hG _ kk, compL_run mg mt me J val h0 hG ps hst' (acc ++ [v]) ρ1 _ j kk (upd_same _ _ _) (by simp; omega) fun H' k' l' => hQ H' k' (by rw [l', List.filterMap_cons, m]; simp)⟩
/-- from the source's items -/
theorem aComp_run {ks : List Nat} {g : ATg} {src : AE} {t : AT} {e : AE} {Q : PV → AH → Prop} {ρ : AEnv} {H : AH} (mg : MonoG g) (mt : MonoT t) (me : MonoE e) (ms : MonoE src)
    (h : src (fun p H1 => withItems p (fun items G H2 => ∃ (J : AEnv → Prop) (val : PV → Option PV), (∀ H', Keep H2 H' → G H') ∧ J (capt ks ρ) ∧ items.length ≤ 16777216 ∧
      (∀ p ∈ items, ∀ ρ' H', J ρ' → Keep H2 H' → g p (fun ρ1 H1 => t (fun b H4 => if b then e (fun v H3 => J ρ1 ∧ (∀ b x, H' b = some x → H3 b = some x) ∧ val p = some v) ρ1 H4 else J ρ1 ∧ (∀ b x, H' b = some x → H4 b = some x) ∧ val p = none) ρ1 H1) ρ' H') ∧
      ∀ a H', H2 a = none → Keep H2 H' → H' a = some ⟨items.filterMap val, true⟩ → Q (.ref a) H') H1) ρ H) : aComp ks g src t e Q ρ H := by
  refine ms _ _ _ _ (fun p H1 q1 => withItems_mono (fun items G H2 ⟨J, val, hG, hJ, hl, hst, hQ⟩ a ha => ?_) q1) h
  refine ⟨hG _ (Keep.new ha), compL_run mg mt me J val ha hG items (fun p hp ρ' H' acc j k l => ?_) [] _ _ hJ (Keep.new ha) (upd_same _ _ _) (by simpa using hl) fun H' k' l' => hQ a H' ha k' (by simpa using l')⟩
  refine mg _ _ _ _ _ (fun ρ1 H1 q1 => mt _ _ _ _ (fun b H2 q2 => ?_) q1) (hst p hp ρ' H' j k)
  cases b with
  | false => simp only [Bool.false_eq_true, if_false] at q2 ⊢; exact ⟨q2.1, fun b x hx => q2.2.1 b x (k b x hx), q2.2.1 a _ l, q2.2.2⟩
  | true =>
    simp only [if_true] at q2 ⊢
    exact me _ _ _ _ (fun v H3 q3 => ⟨q3.1, fun b x hx => q3.2.1 b x (k b x hx), q3.2.1 a _ l, q3.2.2⟩) q2
end Mine
open PySem PySem.W PySem.Calls PyProof.Rows
set_option Elab.async false
namespace Mine
theorem occ_one (ch : Nat) (x : List Nat) : occIn [ch] x = decide (ch ∈ x) := by
  unfold occIn
  have := StrLaws.found_one ⟨x.toArray⟩ ch
  simpa [str_len] using this
/-- what a function leaves: the old lists as they were -/
theorem Keep.at {H H' : AH} {a : Nat} {x : LO} (k : Keep H H') (h : H a = some x) : H' a = some x := k a x h
theorem nth_zero {α : Type} (x : α) (xs : List α) : nth (x :: xs) 0 = some x := by simp [nth]
theorem nth_one {α : Type} (x y : α) (xs : List α) : nth (x :: y :: xs) 1 = some y := by simp [nth]
theorem nth_two {α : Type} (x y z : α) (xs : List α) : nth (x :: y :: z :: xs) 2 = some z := by simp [nth]
theorem nth_last {α : Type} (xs : List α) : nth xs (-1) = xs.getLast? := by
  unfold nth
  rw [if_neg (by decide)]
  cases xs with
  | nil => simp
  | cons x xs =>
    rw [if_pos (by simp; omega), List.getLast?_eq_getElem?]
    congr 1
    simp; omega
theorem nth_of {α : Type} {xs : List α} {i : Int} {k : Nat} {x : α} (h : i = k) (hx : xs[k]? = some x) : nth xs i = some x := by
  subst h
  unfold nth
  rw [if_pos (Int.natCast_nonneg _)]; simpa using hx
theorem capt_in {ks : List Nat} {ρ : AEnv} {k : Nat} (h : ks.contains k = true) : capt ks ρ k = ρ k := by unfold capt; rw [if_pos h]
/-- the items of range(len(l)), looked up -/
def atI {α : Type} (l : List α) (f : α → PV) : PV → Option PV
  | .int i => (l[i.toNat]?).map f
  | _ => none
theorem eq_int (x y : Int) (Q : Bool → AH → Prop) (H : AH) : cmpEq (.int x) (.int y) Q H = Q (decide (x = y)) H := rfl
theorem eq_str (x y : List Nat) (Q : Bool → AH → Prop) (H : AH) : cmpEq (.str x) (.str y) Q H = Q (decide (x = y)) H := rfl
theorem eq_bool (x y : Bool) (Q : Bool → AH → Prop) (H : AH) : cmpEq (.bool x) (.bool y) Q H = Q (decide (x = y)) H := rfl
/-- one statement at a time: what follows stays behind a name -/
def after (b : AS) (Q : Fl → AEnv → AH → Prop) : Fl → AEnv → AH → Prop := fun fl ρ1 H1 => match fl with | .next => b Q ρ1 H1 | fl => Q fl ρ1 H1
theorem seq {a b : AS} {Q : Fl → AEnv → AH → Prop} {ρ : AEnv} {H : AH} (h : a (after b Q) ρ H) : sCons a b Q ρ H := h
theorem after_next {b : AS} {Q : Fl → AEnv → AH → Prop} {ρ : AEnv} {H : AH} (h : b Q ρ H) : after b Q .next ρ H := h
theorem after_ret {b : AS} {Q : Fl → AEnv → AH → Prop} {ρ : AEnv} {H : AH} {p : PV} (h : Q (.ret p) ρ H) : after b Q (.ret p) ρ H := h
/-- a function's end -/
def endF (Q : PV → AH → Prop) : Fl → AEnv → AH → Prop := fun fl _ H' => match fl with
  | .ret p => Q p H'
  | .next => Q .none H'
  | .brk => False
  | .cont => False
theorem fn {ks : List Nat} {b : AS} {ps : List PV} {Q : PV → AH → Prop} {H : AH} (hl : ps.length = ks.length) (h : b (endF Q) (bindP ks ps) H) : aFn ks b ps Q H := ⟨hl, h⟩
theorem end_ret {Q : PV → AH → Prop} {p : PV} {ρ : AEnv} {H : AH} (h : Q p H) : endF Q (.ret p) ρ H := h
end Mine
open PySem PySem.W PySem.Calls PyProof.Rows
set_option Elab.async false
namespace Mine
def freeChk (q : Program) (loose : List Str) (x : Str) : Bool := !(startupNames.contains x) && !(loose.contains x) && !(((recsOf q).map (·.name)).contains x) && !(((litsOf q).map (·.1)).contains x) && !(((clssOf q loose).map (·.name)).contains x)
theorem free_of {c : Cx} {q : Program} {loose : List Str} (hq : c.q = q) (hl : c.loose = looseW q loose) {x : Str} (h : freeChk q (looseW q loose) x = true) : c.mg x = none := by
  rw [← hl, ← hq] at h
  simp only [freeChk, Bool.and_eq_true, Bool.not_eq_true', List.contains_eq_mem, decide_eq_false_iff_not] at h
  obtain ⟨⟨⟨⟨h1, h2⟩, h3⟩, h4⟩, h5⟩ := h
  exact c.top.free x h1 h2 h3 h4 h5
theorem mem_rec {c : Cx} {q : Program} {d : DefRec} {i : Nat} (hq : c.q = q) (h : (recsOf q)[i]? = some d) : d ∈ recsOf c.q := by rw [hq]; exact List.mem_of_getElem? h
end Mine
open PySem PySem.W PySem.Calls PyProof.Rows
set_option Elab.async false
set_option linter.unusedVariables false
namespace Mine

-- generators: their own run, with no list in sight
abbrev H0 : AH := fun _ => none
/-- an object that others may hold -/
def shr (o : Obj) : Prop := (∃ vs n, o.data = .seq vs n) ∨ ((o.cls = .type "range" ∨ o.cls = .type "generator") ∧ ∃ vs, o.data = .fields vs)
structure Kp (z : Nat) (s s' : Shared) : Prop where
  keep : ∀ a o, s.heap.get? a = some o → (a < z ∨ shr o) → s'.heap.get? a = some o
  size : s.heap.objs.size ≤ s'.heap.objs.size
  gens : ∀ (i : Nat) (g : GenState), s.gens[i]? = some g → s'.gens[i]? = some g
  gsize : s.gens.size ≤ s'.gens.size
  os : s'.os = s.os
/-- the generator's own objects -/
def Pv (z : Nat) (pv : List Nat) (s : Shared) : Prop := ∀ a ∈ pv, z ≤ a ∧ ∃ o, s.heap.get? a = some o ∧ ¬ shr o
def Kc (base : Heap) (pv : List Nat) (s s' : Shared) : Prop := (∀ a ∈ pv, ∀ o, s.heap.get? a = some o → s'.heap.get? a = some o) ∧ (∀ b o, Imm s.heap b o → s'.heap.get? b = some o) ∧ St base H0 s'
def Yg (c : Cx) (z : Nat) (tot : List PV) : Protocol := fun n s₀ v s' kap => ∃ p pv, tot.reverse[n]? = some p ∧ VRel s'.heap v p ∧ Kp z s₀ s' ∧ St c.base H0 s' ∧ Pv z pv s' ∧ ∀ s'', Kc c.base pv s' s'' → kap (.send .none) s''
def Rg (c : Cx) (z : Nat) : GenEnd := fun n s₀ r s₁ => r = .ok (.ret .none) ∧ (n = 0 ∧ Kp z s₀ s₁ ∧ St c.base H0 s₁)
abbrev SegG (c : Cx) (A : Around) (z : Nat) (tot : List PV) := Seg (model c.prog c.w) A (Rg c z) (Yg c z tot)

structure GAt (c : Cx) (z : Nat) (env : Env) (ρ : AEnv) (rst : List Nat) (s₀ s : Shared) : Prop where
  er : ER c.base c.N env ρ s.heap
  st : St c.base H0 s
  kp : Kp z s₀ s
  pv : Pv z (env.locals :: rst) s
  ne : env.locals ∉ rst
  nb : ∀ a, z ≤ a → c.base.get? a = none

structure GOk (n : Nat) (A : Around) (cd : Code) (fs : List Frame) (sc : SE) (env : Env) : Prop where
  room : AOk n (A.over cd fs)
  sp : splitAtGen fs = none
  gd : fs.any Frame.guarded = false
  ok : EOk sc env
  nc : env.cells = []
  co : sc.isCoroutine = false

abbrev AG := (Fl → AEnv → List PV → Prop) → AEnv → List PV → Prop
def SoundGB (c : Cx) (n : Nat) (sc : SE) (sts : List Stmt) (a : AG) : Prop := ∀ (A : Around) (env : Env) (ρ : AEnv) (l tot : List PV) (z : Nat) (rst : List Nat) (s₀ s : Shared) (cd : Code) (fs : List Frame) (K : Flow → Sem Fin) (Hx : Value → Sem Fin) (gd : Bool → Bool) (lv : List Value → List Value) (Q : Fl → AEnv → List PV → Prop),
  GOk n A cd fs sc env → gd false = false → GAt c z env ρ rst s₀ s → l <:+ tot → a Q ρ l →
  (∀ fl f ρ' l' s₀' s', FRel s'.heap f fl → GAt c z env ρ' rst s₀' s' → (∀ a ∈ rst, ∀ o, s.heap.get? a = some o → s'.heap.get? a = some o) → l' <:+ tot → Q fl ρ' l' → SegG c A z tot l'.length s₀' cd (K f) fs s') →
  SegG c A z tot l.length s₀ cd ((execs sts env).wrap K Hx gd lv) fs s
def SoundGS (c : Cx) (n : Nat) (sc : SE) (st : Stmt) (a : AG) : Prop := ∀ (A : Around) (env : Env) (ρ : AEnv) (l tot : List PV) (z : Nat) (rst : List Nat) (s₀ s : Shared) (cd : Code) (fs : List Frame) (K : Flow → Sem Fin) (Hx : Value → Sem Fin) (gd : Bool → Bool) (lv : List Value → List Value) (Q : Fl → AEnv → List PV → Prop),
  GOk n A cd fs sc env → gd false = false → GAt c z env ρ rst s₀ s → l <:+ tot → a Q ρ l →
  (∀ fl f ρ' l' s₀' s', FRel s'.heap f fl → GAt c z env ρ' rst s₀' s' → (∀ a ∈ rst, ∀ o, s.heap.get? a = some o → s'.heap.get? a = some o) → l' <:+ tot → Q fl ρ' l' → SegG c A z tot l'.length s₀' cd (K f) fs s') →
  SegG c A z tot l.length s₀ cd ((exec st env).wrap K Hx gd lv) fs s

section
variable {c : Cx} {n : Nat} {sc : SE} {z : Nat} {env : Env} {ρ : AEnv} {rst : List Nat} {s₀ s : Shared}
def gNil : AG := fun Q ρ l => Q .next ρ l
def gCons (a b : AG) : AG := fun Q ρ l => a (fun fl ρ1 l1 => match fl with | .next => b Q ρ1 l1 | fl => Q fl ρ1 l1) ρ l
def gLift (a : AS) : AG := fun Q ρ l => a (fun fl ρ1 H1 => H1 = H0 ∧ Q fl ρ1 l) ρ H0
def gYield (e : AE) : AG := fun Q ρ l => l ≠ [] ∧ e (fun p H1 => H1 = H0 ∧ ∃ l', l = p :: l' ∧ Q .next ρ l') ρ H0
def gIf (t : AT) (a b : AG) : AG := fun Q ρ l => t (fun k H1 => H1 = H0 ∧ if k then a Q ρ l else b Q ρ l) ρ H0

end
end Mine
open PySem PySem.W PySem.Calls PyProof.Rows
set_option Elab.async false
set_option linter.unusedVariables false
namespace Mine

def enumItems : Nat → List Nat → List PV
  | _, [] => []
  | i, ch :: x => .tup [.int i, .str [ch]] :: enumItems (i + 1) x
def forG (g : ATg) (b : AG) (Q : Fl → AEnv → List PV → Prop) : List PV → AEnv → List PV → Prop
  | [], ρ, l => Q .next ρ l
  | p :: ps, ρ, l => g p (fun ρ1 H1 => H1 = H0 ∧ b (fun fl ρ2 l2 => match fl with
      | .next => forG g b Q ps ρ2 l2
      | .cont => forG g b Q ps ρ2 l2
      | .brk => Q .next ρ2 l2
      | .ret v => Q (.ret v) ρ2 l2) ρ1 l) ρ H0
def gForEnum (g : ATg) (src : AE) (b : AG) : AG := fun Q ρ l => src (fun p H1 => H1 = H0 ∧ match p with
  | .str x => forG g b Q (enumItems 0 x) ρ l
  | _ => False) ρ H0

section
variable {c : Cx} {n : Nat} {sc : SE} {z : Nat} {env : Env} {tot : List PV} {A : Around} {fs : List Frame}

def turnOn (tg : Expr) (it : Value) (body : List Stmt) (env : Env) : Option Value → Sem Fin
  | none => again (.block [] env)
  | some v => letOwnedTupleGo tg it v >>= fun _ => assign tg env v >>= fun _ => execs body env >>= fun f => match f with
    | .next => again (.forLoop tg it body [] env)
    | .cont => again (.forLoop tg it body [] env)
    | .brk => pure (.done .next)
    | .ret v => pure (.done (.ret v))
end
end Mine
open PySem PySem.W PySem.Calls PyProof.Rows
set_option Elab.async false
set_option linter.unusedVariables false
namespace Mine
section
variable {c : Cx} {n : Nat} {sc : SE} {z : Nat}

end
end Mine
open PySem PySem.W PySem.Calls PyProof.Rows
set_option Elab.async false
set_option linter.unusedVariables false
namespace Mine

def gFn (ks : List Nat) (b : AG) (ps tot : List PV) : Prop := ps.length = ks.length ∧ b (fun fl _ l => (fl = .next ∨ fl = .ret .none) ∧ l = []) (bindP ks ps) tot

/-- a generator that has yet to give l -/
structure GJ (c : Cx) (B : Around) (z : Nat) (tot : List PV) (I g : Nat) (l : List PV) (s : Shared) : Prop where
  isg : s.heap.IsGen I g
  suf : l <:+ tot
  go : ∃ gs pv, s.gens[g]? = some gs ∧ Pv z pv s ∧ ∀ s'', Kc c.base pv s s'' → gs.Goes (model c.prog c.w) B (Rg c z) (Yg c z tot) l.length (.send .none) s''

def GenF (c : Cx) (n : Nat) (name : Str) (ks : List Nat) (b : AG) : Prop := ∃ a o fd, c.mg name = some (.ref a) ∧ c.base.get? a = some o ∧ o.data = .func fd ∧
  ∀ (A : Around) (H : AH) (s : Shared) (vs : List Value) (ps tot : List PV) (QQ : Value → Shared → Prop) (E : Value → Shared → Prop), AOk (n + 1) A → VAll s.heap vs ps → St c.base H s → gFn ks b ps tot →
    (∀ I s', St c.base H s' → Ext No No H s H s' → s.heap.objs.size ≤ I → (∀ B, AOk (n + 1) B → GJ c B.in1 s.heap.objs.size tot I s.gens.size tot s') → QQ (.ref I) s') → wpAny (model c.prog c.w) A (call (.ref a) vs) QQ E s

section
variable {c : Cx} {n : Nat}
end
end Mine
open PySem PySem.W PySem.Calls PyProof.Rows
set_option Elab.async false
set_option linter.unusedVariables false
namespace Mine
section
variable {c : Cx} {n m : Nat} {sc : SE}

def sForG (g : ATg) (ks : List Nat) (gb : AG) (l : AL) (b : AS) : AS := fun Q ρ H => l (fun ps H1 => ∃ tot, gFn ks gb ps tot ∧ forL g b (fun _ => True) Q tot ρ H1) ρ H
-- list(gen(..))
/-- list(gen(..)) -/
def aGenList (ks : List Nat) (gb : AG) (l : AL) : AE := fun Q ρ H => l (fun ps H1 => ∃ tot, gFn ks gb ps tot ∧ tot.length ≤ 16777216 ∧ newL tot Q H1) ρ H
end
end Mine
open PySem PySem.W PySem.Calls PyProof.Rows
set_option Elab.async false
namespace Mine
section
variable {c : Cx} {n : Nat} {sc : SE}
def isStar : Expr → Bool
  | .Starred .. => true
  | _ => false
theorem star_plain (e : Expr) (es : List Expr) (h : isStar e = false) (env : Env) : starEach (e :: es) env = (false, eval e env) :: starEach es env := by
  cases e <;> first | rfl | cases h
theorem list_consP {e : Expr} {es : List Expr} {a : AE} {l : AL} (h : SoundE c n sc e a) (k : SoundL c n sc es l) (hs : isStar e = false) : SoundL c n sc (e :: es) (lCons a l) := list_cons h k (star_plain e es hs)
theorem len1 {α : Type} {vs : List α} (h : vs.length = 1) : ∃ a, vs = [a] := by
  cases vs with
  | nil => cases h
  | cons a r => cases r with
    | nil => exact ⟨a, rfl⟩
    | cons _ _ => simp at h
theorem len2 {α : Type} {vs : List α} (h : vs.length = 2) : ∃ a b, vs = [a, b] := by
  cases vs with
  | nil => cases h
  | cons a r => obtain ⟨b, rfl⟩ := len1 (vs := r) (by simpa using h); exact ⟨a, b, rfl⟩
end
end Mine
open PySem PySem.W PySem.Calls PyProof.Rows
set_option Elab.async false
set_option linter.unusedVariables false
namespace Mine
section
variable {c : Cx} {n : Nat}

def fChr : AF := fun ps Q H => match ps with
  | [.int i] => (0 ≤ i ∧ i < 0x110000) ∧ Q (.str [i.toNat]) H
  | _ => False
def strsOf : List PV → Option (List (List Nat))
  | [] => some []
  | .str x :: r => (strsOf r).map (x :: ·)
  | _ :: _ => none
def joinL (sep : List Nat) : List (List Nat) → List Nat
  | [] => []
  | [x] => x
  | x :: r => x ++ sep ++ joinL sep r
theorem joinL_nil : ∀ xs : List (List Nat), joinL [] xs = xs.flatten
  | [] => rfl
  | [x] => by simp [joinL]
  | x :: y :: r => by simp only [joinL, List.append_nil, List.flatten_cons]; rw [joinL_nil (y :: r), List.flatten_cons]
theorem strs_are {h : Heap} : ∀ {vs : List Value} {ps : List PV} {ys : List (List Nat)}, VAll h vs ps → strsOf ps = some ys → StrsAre vs (ys.map fun y => ⟨y.toArray⟩) ∧ ∀ y ∈ ys, ∀ ch ∈ y, ch < 0x110000
  | _, _, ys, .nil, e => by cases e; exact ⟨.nil, fun _ h => by cases h⟩
  | _, _, ys, .cons hv hr, e => by
    cases hv with
    | str x t hx =>
      simp only [strsOf, Option.map_eq_some_iff] at e
      obtain ⟨zs, e1, rfl⟩ := e
      obtain ⟨h1, h2⟩ := strs_are hr e1
      refine ⟨.cons _ _ h1, fun y hy => ?_⟩
      rcases List.mem_cons.mp hy with rfl | hy
      · exact hx
      · exact h2 y hy
    | _ => cases e
def fSJoin : AF := fun ps Q H => match ps with
  | [.str sep, .ref a] => (match H a with
    | some x => (match strsOf x.items with
      | some ys => (ys.map List.length).sum + ys.length * sep.length ≤ 16777216 ∧ Q (.str (joinL sep ys)) H
      | none => False)
    | none => False)
  | _ => False
end
end Mine
open PySem PySem.W PySem.Calls PyProof.Rows
set_option Elab.async false
namespace Mine
/-- what the escaped chars of a text are: places and units -/
def esc : Nat → Bool → List Nat → List (Nat × List Nat)
  | i, b, [] => if b then [(i - 1, [92])] else []
  | i, true, c :: x => (i, [92, c]) :: esc (i + 1) false x
  | i, false, c :: x => if c = 92 then esc (i + 1) true x else (i, [c]) :: esc (i + 1) false x
def up (p : Nat × List Nat) : PV := .tup [.int p.1, .str p.2]
/-- the units that are whole, and whether a backslash is open -/
def escU : Nat → Bool → List Nat → List (Nat × List Nat)
  | _, _, [] => []
  | i, true, c :: x => (i, [92, c]) :: escU (i + 1) false x
  | i, false, c :: x => if c = 92 then escU (i + 1) true x else (i, [c]) :: escU (i + 1) false x
def stt : Bool → List Nat → Bool
  | b, [] => b
  | true, _ :: x => stt false x
  | false, c :: x => stt (decide (c = 92)) x
/-- the text's slices, within bounds or not -/
theorem clip_nat (n a : Nat) : clipAt n (a : Int) = min a n := by unfold clipAt; split <;> omega
theorem slc_mid {α : Type} (x : List α) (a b : Nat) : slc x (some (a : Int)) (some (b : Int)) = (x.drop a).take (b - a) := by
  unfold slc
  simp only [Option.elim, clip_nat]
  rcases Nat.le_total a x.length with h | h
  · rw [Nat.min_eq_left h]
    rcases Nat.le_total b x.length with h' | h'
    · rw [Nat.min_eq_left h']
    · rw [Nat.min_eq_right h', List.take_of_length_le (by simp), List.take_of_length_le (by simp; omega)]
  · rw [List.drop_eq_nil_of_le h, Nat.min_eq_right h, List.drop_eq_nil_of_le (Nat.le_refl _)]; simp
end Mine
open PySem PySem.W PySem.Calls PyProof.Rows
set_option Elab.async false
set_option linter.unusedVariables false
namespace Mine
section
variable {c : Cx} {n : Nat} {sc : SE}

theorem res_kept {H : AH} {s : Shared} {Q : PV → AH → Prop} {v : Value} {p : PV} {h' : Heap} {tk : Nat} (S : St c.base H s) (hk : ∀ b o, s.heap.get? b = some o → h'.get? b = some o) (hz : s.heap.objs.size ≤ h'.objs.size) (hv : VRel s.heap v p) (q : Q p H) : Res c H s Q v { s with heap := h', toks := tk } :=
  ⟨p, H, hv.mono fun b o h => hk b o h.1, S.of_keep (X := No) (fun b o _ h => hk b o h) (fun _ h => h.elim) (fun _ h => h.elim) (fun _ h => h.elim), Ext.of_keep (fun b o _ h => hk b o h) hz, q⟩

def boolsOf : List PV → Option (List Bool)
  | [] => some []
  | .bool b :: r => (boolsOf r).map (b :: ·)
  | _ :: _ => none
def intsOf : List PV → Option (List Int)
  | [] => some []
  | .int i :: r => (intsOf r).map (i :: ·)
  | _ :: _ => none
def fAll : AF := fun ps Q H => match ps with
  | [.ref a] => (match H a with | some x => (match boolsOf x.items with | some bs => Q (.bool (bs.all id)) H | none => False) | none => False)
  | _ => False
def fAny : AF := fun ps Q H => match ps with
  | [.ref a] => (match H a with | some x => (match boolsOf x.items with | some bs => Q (.bool (bs.any id)) H | none => False) | none => False)
  | _ => False
def fSum : AF := fun ps Q H => match ps with
  | [.ref a] => (match H a with | some x => (match intsOf x.items with | some ns => Q (.int ns.sum) H | none => False) | none => False)
  | _ => False
def fMin : AF := fun ps Q H => match ps with
  | [.int a, .int b] => Q (.int (if b < a then b else a)) H
  | _ => False
theorem mf_min : MonoF fMin := by
  intro ps Q Q' H h q; unfold fMin at *
  split at q
  · exact h _ _ q
  · exact q.elim
theorem bi_min : SoundV c n (.builtin "min") fMin := by
  intro A H s vs ps Q E hA hv S q
  unfold fMin at q
  split at q
  · cases hv with
    | cons h1 h2 =>
      cases h2 with
      | cons h2 h3 =>
        cases h3; cases h1; cases h2
        refine wpAny_grow (min_two_ints hA.handled fun h' tk hk hg => ?_)
        split at q
        · rename_i hc; rw [if_pos hc]; exact res_kept S hk hg.1 (.int _ _) q
        · rename_i hc; rw [if_neg hc]; exact res_kept S hk hg.1 (.int _ _) q
  · exact q.elim
end
end Mine
open PySem PySem.W PySem.Calls PyProof.Rows
set_option Elab.async false
set_option linter.unusedVariables false
set_option maxRecDepth 100000
set_option maxHeartbeats 8000000
namespace Mine
open Builtin Builtin.Str
abbrev FS := List Value × Writer × List Nat
/-- a number's figures, its sign, noughts up to k signs -/
def padL (k : Nat) (neg : Bool) (d : List Nat) : List Nat := if neg then 45 :: (List.replicate (k - 1 - d.length) 48 ++ d) else List.replicate (k - d.length) 48 ++ d
def figs (n : Nat) : List Nat := (Nat.toDigits 10 n).map Char.toNat
def padI (k : Nat) (n : Int) : List Nat := padL k (decide (n < 0)) (figs n.natAbs)
theorem figs_text (n : Nat) : (PySem.Str.ofString (toString ((n : Nat) : Int))).cps.toList = figs n := by
  show (PySem.Str.ofString (String.ofList (Nat.toDigits 10 n))).cps.toList = figs n
  rw [Fast.ofString_ofList]; rfl
theorem figs_mem {n c : Nat} (h : c ∈ figs n) : 48 ≤ c ∧ c ≤ 57 := by
  obtain ⟨ch, h1, rfl⟩ := List.mem_map.mp h
  have := Nat.isDigit_of_mem_toDigits (by decide) (by decide) h1
  simp only [Char.isDigit, Bool.and_eq_true, decide_eq_true_eq, UInt32.le_iff_toNat_le] at this
  exact this
theorem figs_head (n : Nat) : ∀ r, figs n ≠ 45 :: r ∧ figs n ≠ 43 :: r := fun r =>
  ⟨fun e => by have := (figs_mem (n := n) (c := 45) (by rw [e]; exact .head _)).1; omega, fun e => by have := (figs_mem (n := n) (c := 43) (by rw [e]; exact .head _)).1; omega⟩
theorem digit_code {n : Nat} (h : n < 10) : (Nat.digitChar n).toNat = 48 + n := by
  have : ∀ n : Nat, n < 10 → (Nat.digitChar n).toNat = 48 + n := by decide
  exact this n h
theorem figs_rec (n : Nat) : figs n = if n < 10 then [48 + n] else figs (n / 10) ++ [48 + n % 10] := by
  unfold figs
  rw [Nat.toDigits_eq_if (by decide)]
  split
  · simp [digit_code ‹_›]
  · simp [digit_code (Nat.mod_lt n (by decide : 0 < 10))]
def pct (k : Nat) : Percent := { ljust := false, sign := false, blank := false, alt := false, zero := true, width := some k, prec := none, type := 100 }
theorem pad_field (k : Nat) (neg : Bool) (d : List Nat) (hd : ∀ r, d ≠ 45 :: r ∧ d ≠ 43 :: r) : (percentField (pct k) true (percentInt (pct k) neg d)).getD (percentInt (pct k) neg d) = padL k neg d := by
  cases neg with
  | false =>
    have e : percentInt (pct k) false d = d := by simp [percentInt, pct]
    rw [e]
    unfold percentField padL
    simp only [pct, Option.all_some, Option.all_none, Bool.and_true, Bool.not_false, decide_eq_true_eq, Bool.false_and, Bool.false_eq_true, if_false, Bool.not_true, if_true]
    by_cases hk : k ≤ d.length
    · rw [if_pos hk]; simp [Nat.sub_eq_zero_of_le hk]
    · rw [if_neg hk]
      split
      · rename_i r he; exact absurd (show d = 45 :: r from he) (hd r).1
      · rename_i r he; exact absurd (show d = 43 :: r from he) (hd r).2
      · simp
  | true =>
    have e : percentInt (pct k) true d = 45 :: d := by simp [percentInt, pct]
    rw [e]
    unfold percentField padL
    simp only [pct, Option.all_some, Option.all_none, Bool.and_true, Bool.not_false, decide_eq_true_eq, Bool.false_and, Bool.false_eq_true, if_false, Bool.not_true, if_true, List.length_cons]
    by_cases hk : k ≤ d.length + 1
    · rw [if_pos hk]; simp [show k - 1 - d.length = 0 by omega]
    · rw [if_neg hk]
      simp [show k - (1 + d.length) = k - 1 - d.length by omega]
theorem field_wp {M : Model} {A : Around} {Q : ForInStep (List Value × Writer × List Nat) → Shared → Prop} {E : Value → Shared → Prop} {s : Shared} {p : List Value} {wr : Writer} {r : List Nat} {k : Nat} {neg : Bool} {d : List Nat} (hd : ∀ r, d ≠ 45 :: r ∧ d ≠ 43 :: r) (h : Q (.yield (p, wr.add ⟨(padL k neg d).toArray⟩ none, r)) s) :
    wpAny M A (match percentField (pct k) true (percentInt (pct k) neg d) with
      | none => pure (.yield (p, wr.add ⟨(percentInt (pct k) neg d).toArray⟩ (if r.isEmpty = true then none else none), r))
      | some laid => pure (.yield (p, wr.add ⟨laid.toArray⟩ none, r))) Q E s := by
  rw [← pad_field k neg d hd] at h
  cases hq : percentField (pct k) true (percentInt (pct k) neg d) with
  | none => rw [hq] at h; rw [ite_self]; exact wpAny_pure h
  | some l => rw [hq] at h; exact wpAny_pure h
/-- the turns of a format's loop -/
structure FT (prog : Program) (w : World) (f : Nat → FS → Sem (ForInStep FS)) : Prop where
  done : ∀ (A : Around) (E : Value → Shared → Prop) (s : Shared) (Q : ForInStep FS → Shared → Prop) (x : Nat) (p : List Value) (wr : Writer), ¬ (tooLong wr.total = true) → Q (.done (p, wr, [])) s → wpAny (model prog w) A (f x (p, wr, [])) Q E s
  lit1 : ∀ (A : Around) (E : Value → Shared → Prop) (s : Shared) (Q : ForInStep FS → Shared → Prop) (x : Nat) (p : List Value) (wr : Writer) (r : List Nat), ¬ (tooLong wr.total = true) → Q (.yield (p, wr.add ⟨#[32]⟩ none, 37 :: r)) s → wpAny (model prog w) A (f x (p, wr, 32 :: 37 :: r)) Q E s
  lit2 : ∀ (A : Around) (E : Value → Shared → Prop) (s : Shared) (Q : ForInStep FS → Shared → Prop) (x : Nat) (p : List Value) (wr : Writer) (r : List Nat), ¬ (tooLong wr.total = true) → Q (.yield (p, wr.add ⟨#[58]⟩ none, 37 :: r)) s → wpAny (model prog w) A (f x (p, wr, 58 :: 37 :: r)) Q E s
  lit3 : ∀ (A : Around) (E : Value → Shared → Prop) (s : Shared) (Q : ForInStep FS → Shared → Prop) (x : Nat) (p : List Value) (wr : Writer) (r : List Nat), ¬ (tooLong wr.total = true) → Q (.yield (p, wr.add ⟨#[44, 32]⟩ none, 37 :: r)) s → wpAny (model prog w) A (f x (p, wr, 44 :: 32 :: 37 :: r)) Q E s
  padD : ∀ (A : Around) (E : Value → Shared → Prop) (s : Shared) (Q : ForInStep FS → Shared → Prop) (x : Nat) (p : List Value) (wr : Writer) (r : List Nat) (k : Nat) (n : Int) (t : Tok), k = 2 ∨ k = 4 → n.natAbs.log2 < 1920 → ¬ (tooLong wr.total = true) → (∀ tk, Q (.yield (p, wr.add ⟨(padI k n).toArray⟩ none, r)) { s with toks := tk }) → wpAny (model prog w) A (f x (.int n t :: p, wr, 37 :: 48 :: (48 + k) :: 100 :: r)) Q E s
  strS : ∀ (A : Around) (E : Value → Shared → Prop) (s : Shared) (Q : ForInStep FS → Shared → Prop) (x : Nat) (p : List Value) (wr : Writer) (r : List Nat) (y : PySem.Str) (t : Tok), ¬ (tooLong wr.total = true) → (∀ o, KPc.Obj o y → Q (.yield (p, wr.add ⟨y.cps.toList.toArray⟩ o, r)) s) → wpAny (model prog w) A (f x (.str y t :: p, wr, 37 :: 115 :: r)) Q E s
theorem fmt_loop {prog : Program} {w : World} (obj : Value) (fmt : PySem.Str) (b : Addr) (its : Array Value) (hf : 3 ≤ fmt.length) : ∃ f, FT prog w f ∧
    ∀ (A : Around) (E : Value → Shared → Prop) (s : Shared) (Q : Fin → Shared → Prop), IsTup s.heap b its → wpAny (model prog w) A (forIn (List.range' 0 fmt.length 1) (its.toList, ({} : Writer), fmt.cps.toList) f) (fun r s' => r.1 = [] ∧ wpAny (model prog w) A (r.2.1.finish "str.__mod__") Q E s') E s → wpAny (model prog w) A (percentFormat obj fmt (.ref b)) Q E s := by
  have hl1 : (1 == fmt.length) = false := by simp; omega
  have hl2 : (2 == fmt.length) = false := by simp; omega
  apply Exists.intro
  apply And.intro
  case right =>
    intro A E s Q kptH h
    obtain ⟨kptO, kptG, kptC, kptN, kptD⟩ := kptH
    unfold Builtin.Str.percentFormat
    refine wpAny_bind (wpAny_isInstance (T := "tuple") ⟨kptO, kptG, kptC⟩ KPt.sub_tt ?_)
    refine wpAny_bind (KPt.asStr_ref kptG kptD ?_)
    refine wpAny_bind (KPt.fills_ref ⟨kptO, kptG, kptC⟩ ?_)
    intro bf
    cases bf
    all_goals
      kpc_if
      refine wpAny_bind (wpAny_seqItems kptG kptD ?_)
      refine wpAny_bind (wpAny_pure ?_)
      refine wpAny_bind ?_
      rw [KPc.range_list]
      refine wpAny_mono h (fun r s' hr => ?_) fun _ _ e => e
      obtain ⟨p, wr, r⟩ := r
      obtain ⟨rfl, hr⟩ := hr
      exact hr
  case left =>
    constructor
    · intro A E s Q x p wr hs h
      refine wpAny_ite (KPc.ite_no hs ?_)
      kpc_if
      exact wpAny_pure h
    · intro A E s Q x p wr r hs h
      refine wpAny_ite (KPc.ite_no hs ?_)
      repeat kpc_if
      refine wpAny_pure ?_
      show Q (.yield (p, wr.add ⟨#[32]⟩ (if (1 == fmt.length) = true then some obj else none), 37 :: r)) s
      rw [hl1]; exact h
    · intro A E s Q x p wr r hs h
      refine wpAny_ite (KPc.ite_no hs ?_)
      repeat kpc_if
      refine wpAny_pure ?_
      show Q (.yield (p, wr.add ⟨#[58]⟩ (if (1 == fmt.length) = true then some obj else none), 37 :: r)) s
      rw [hl1]; exact h
    · intro A E s Q x p wr r hs h
      refine wpAny_ite (KPc.ite_no hs ?_)
      repeat kpc_if
      refine wpAny_pure ?_
      show Q (.yield (p, wr.add ⟨#[44, 32]⟩ (if (2 == fmt.length) = true then some obj else none), 37 :: r)) s
      rw [hl2]; exact h
    · intro A E s Q x p wr r k n t hk hn hs h
      rcases hk with rfl | rfl
      · refine wpAny_ite (KPc.ite_no hs ?_)
        repeat kpc_if
        refine wpAny_bind ?_; refine wpAny_holding ?_; (repeat kpc_if)
        refine wpAny_bind (wpAny_of_eq (a := _) rfl ?_); (repeat kpc_if)
        refine wpAny_bind (wpAny_mkInt ?_)
        refine wpAny_bind (call_gives F.slot_int_repr (typeIs_int _ _ _) F.entry_int_repr (F.args_int_repr_1 _) (gives_int_repr _ _ (KPt.hd2 hn)) ⟨int_text_fits (KPt.hd2 hn), ?_⟩)
        refine wpAny_bind (wpAny_of_eq (a := some _) rfl ?_)
        refine wpAny_pure ?_
        rw [figs_text]
        exact field_wp (k := 2) (neg := decide (n < 0)) (d := figs n.natAbs) (figs_head _) (h _)
      · refine wpAny_ite (KPc.ite_no hs ?_)
        repeat kpc_if
        refine wpAny_bind ?_; refine wpAny_holding ?_; (repeat kpc_if)
        refine wpAny_bind (wpAny_of_eq (a := _) rfl ?_); (repeat kpc_if)
        refine wpAny_bind (wpAny_mkInt ?_)
        refine wpAny_bind (call_gives F.slot_int_repr (typeIs_int _ _ _) F.entry_int_repr (F.args_int_repr_1 _) (gives_int_repr _ _ (KPt.hd2 hn)) ⟨int_text_fits (KPt.hd2 hn), ?_⟩)
        refine wpAny_bind (wpAny_of_eq (a := some _) rfl ?_)
        refine wpAny_pure ?_
        rw [figs_text]
        exact field_wp (k := 4) (neg := decide (n < 0)) (d := figs n.natAbs) (figs_head _) (h _)
    · intro A E s Q x p wr r y t hs h
      refine wpAny_ite (KPc.ite_no hs ?_)
      repeat kpc_if
      refine wpAny_bind ?_; refine wpAny_holding ?_; (repeat kpc_if); kpt_conv; refine wpAny_pure ?_; refine wpAny_pure ?_
      refine h _ fun v hv => ?_
      by_cases hr : r.isEmpty = true
      · rw [if_pos hr] at hv; exact ⟨t, (Option.some.inj hv).symm⟩
      · rw [if_neg hr] at hv; cases hv
/-- the format of the project's one function -/
def fm0 : List Nat := [37, 115, 44, 32, 37, 48, 50, 100, 32, 37, 115, 32, 37, 48, 52, 100, 32, 37, 48, 50, 100, 58, 37, 48, 50, 100, 58, 37, 48, 50, 100, 32, 37, 115]
def fmText (w : List Nat) (d : Int) (m : List Nat) (y h i s : Int) (z : List Nat) : List Nat := w ++ [44, 32] ++ padI 2 d ++ [32] ++ m ++ [32] ++ padI 4 y ++ [32] ++ padI 2 h ++ [58] ++ padI 2 i ++ [58] ++ padI 2 s ++ [32] ++ z
theorem figs_len : ∀ (k n : Nat), n < 10 ^ (k + 1) → (figs n).length ≤ k + 1
  | 0, n, h => by rw [figs_rec, if_pos (by simpa using h)]; simp
  | k + 1, n, h => by
    rw [figs_rec]
    split
    · simp
    · have := figs_len k (n / 10) (by rw [Nat.pow_succ] at h; omega)
      simp; omega
def smI (n : Int) : Prop := -1000000000 < n ∧ n < 1000000000
theorem smI.log {n : Int} (h : smI n) : n.natAbs.log2 < 1920 := by
  have h1 : n.natAbs < 2 ^ 30 := by have := h.1; have := h.2; omega
  by_cases h0 : n.natAbs = 0
  · rw [h0]; decide
  · exact Nat.lt_of_lt_of_le ((Nat.log2_lt h0).mpr h1) (by decide)
theorem pad_len {k : Nat} {n : Int} (hk : k ≤ 10) (h : smI n) : (padI k n).length ≤ 20 := by
  have h1 := figs_len 8 n.natAbs (by have := h.1; have := h.2; omega)
  unfold padI padL
  split <;> simp <;> omega
theorem fmt_meets {b : Addr} {w m z : List Nat} {d y h i s : Int} {t t1 t2 t3 t4 t5 t6 t7 t8 : Tok} (hw : w.length ≤ 1000) (hm : m.length ≤ 1000) (hz : z.length ≤ 1000) (hd : smI d) (hy : smI y) (hh : smI h) (hi : smI i) (hs : smI s) :
    Meets («str.__mod__» ⟨[.str ⟨fm0.toArray⟩ t, .ref b], []⟩) (fun _ R st => IsTup st.heap b #[.str ⟨w.toArray⟩ t1, .int d t2, .str ⟨m.toArray⟩ t3, .int y t4, .int h t5, .int i t6, .int s t7, .str ⟨z.toArray⟩ t8] ∧ ∀ t' k, R (.ok (.ret (.str ⟨(fmText w d m y h i s z).toArray⟩ t'))) { st with toks := k }) := by
  apply KPt.meets_tup
  intro prog w' A st Q E hT hQ
  rw [KPt.entry_is_r]
  obtain ⟨f, ft, hf⟩ := fmt_loop (prog := prog) (w := w') (.str ⟨fm0.toArray⟩ t) ⟨fm0.toArray⟩ b _ (by decide)
  refine hf A E st Q hT ?_
  have one : ∀ {l : List Nat} {x : Nat} {p : List Value} {r : List Nat} {wr : Writer} {T : PySem.Str} {N k : Nat} {n : Int} {t : Tok} {s : Shared} {QQ : FS → Shared → Prop}, KPc.Good wr T N → N ≤ 10000 → k = 2 ∨ k = 4 → smI n → (∀ wr' tk, KPc.Good wr' (T ++ ⟨(padI k n).toArray⟩) (N + 20) → wpAny (model prog w') A (forIn l (p, wr', r) f) QQ E { s with toks := tk }) →
      wpAny (model prog w') A (forIn (x :: l) (.int n t :: p, wr, 37 :: 48 :: (48 + k) :: 100 :: r) f) QQ E s := fun g hN hk hn h =>
    KPc.turn (ft.padD A E _ _ _ _ _ _ _ _ _ hk hn.log (KPc.short_good g (by omega)) fun tk => KPc.after_str (y := ⟨(padI _ _).toArray⟩) g (by rw [str_len]; exact pad_len (by omega) hn) (KPc.obj_none rfl) fun wr' g' => h wr' tk g')
  refine KPc.start fun w0 g0 => ?_
  refine KPc.turn (ft.strS A E _ _ 0 _ w0 _ ⟨w.toArray⟩ t1 (KPc.short_good g0 (by decide)) fun o ho => ?_)
  refine KPc.after_str0 g0 (K := 1000) (by simpa [str_len] using hw) ho fun w1 g1 => ?_
  refine KPc.turn (ft.lit3 A E _ _ _ _ w1 _ (KPc.short_good g1 (by decide)) ?_)
  refine KPc.after_add g1 rfl (KPc.obj_none rfl) fun w2 g2 => ?_
  refine one (k := 2) g2 (by decide) (.inl rfl) hd fun w3 tk g3 => ?_
  refine KPc.turn (ft.lit1 A E _ _ _ _ w3 _ (KPc.short_good g3 (by decide)) ?_)
  refine KPc.after_add g3 rfl (KPc.obj_none rfl) fun w4 g4 => ?_
  refine KPc.turn (ft.strS A E _ _ _ _ w4 _ ⟨m.toArray⟩ t3 (KPc.short_good g4 (by decide)) fun o ho => ?_)
  refine KPc.after_str g4 (K := 1000) (by simpa [str_len] using hm) ho fun w5 g5 => ?_
  refine KPc.turn (ft.lit1 A E _ _ _ _ w5 _ (KPc.short_good g5 (by decide)) ?_)
  refine KPc.after_add g5 rfl (KPc.obj_none rfl) fun w6 g6 => ?_
  refine one (k := 4) g6 (by decide) (.inr rfl) hy fun w7 tk g7 => ?_
  refine KPc.turn (ft.lit1 A E _ _ _ _ w7 _ (KPc.short_good g7 (by decide)) ?_)
  refine KPc.after_add g7 rfl (KPc.obj_none rfl) fun w8 g8 => ?_
  refine one (k := 2) g8 (by decide) (.inl rfl) hh fun w9 tk g9 => ?_
  refine KPc.turn (ft.lit2 A E _ _ _ _ w9 _ (KPc.short_good g9 (by decide)) ?_)
  refine KPc.after_add g9 rfl (KPc.obj_none rfl) fun w10 g10 => ?_
  refine one (k := 2) g10 (by decide) (.inl rfl) hi fun w11 tk g11 => ?_
  refine KPc.turn (ft.lit2 A E _ _ _ _ w11 _ (KPc.short_good g11 (by decide)) ?_)
  refine KPc.after_add g11 rfl (KPc.obj_none rfl) fun w12 g12 => ?_
  refine one (k := 2) g12 (by decide) (.inl rfl) hs fun w13 tk g13 => ?_
  refine KPc.turn (ft.lit1 A E _ _ _ _ w13 _ (KPc.short_good g13 (by decide)) ?_)
  refine KPc.after_add g13 rfl (KPc.obj_none rfl) fun w14 g14 => ?_
  refine KPc.turn (ft.strS A E _ _ _ _ w14 _ ⟨z.toArray⟩ t8 (KPc.short_good g14 (by decide)) fun o ho => ?_)
  refine KPc.after_str g14 (K := 1000) (by simpa [str_len] using hz) ho fun w15 g15 => ?_
  refine KPc.turn (ft.done A E _ _ _ _ w15 (KPc.short_good g15 (by decide)) ?_)
  refine ⟨rfl, KPc.finish_ok g15 (by decide) ?_ fun t' k => hQ t' k⟩
  have hn : ∀ c : Nat, (⟨#[c]⟩ : PySem.Str) = ⟨[c].toArray⟩ := fun _ => rfl
  rw [hn, hn, show (⟨#[44, 32]⟩ : PySem.Str) = ⟨[44, 32].toArray⟩ from rfl]
  simp only [str_app]
  rfl
end Mine
open PySem PySem.W PySem.Calls PyProof.Rows
set_option Elab.async false
set_option linter.unusedVariables false
namespace Mine
section
variable {c : Cx} {n : Nat} {sc : SE}
-- the format
def opFmt (a b : PV) (Q : PV → AH → Prop) (H : AH) : Prop := match a, b with
  | .str F, .tup [.str w, .int d, .str m, .int y, .int h, .int i, .int s, .str z] => (F = fm0 ∧ (w.length ≤ 1000 ∧ m.length ≤ 1000 ∧ z.length ≤ 1000) ∧ smI d ∧ smI y ∧ smI h ∧ smI i ∧ smI s) ∧ Q (.str (fmText w d m y h i s z)) H
  | _, _ => False
theorem mo_fmt : MonoO2 opFmt := by
  intro a b Q Q' H h q; unfold opFmt at *; split at q
  · exact ⟨q.1, h _ _ q.2⟩
  · exact q.elim
theorem pad_ok {k : Nat} {i : Int} {ch : Nat} (h : ch ∈ padI k i) : ch < 0x110000 := by
  have hf : ∀ {ch}, ch ∈ figs i.natAbs → ch < 0x110000 := fun h => by have := (figs_mem h).2; omega
  unfold padI padL at h
  split at h
  · rcases List.mem_cons.mp h with rfl | h
    · decide
    · rcases List.mem_append.mp h with h | h
      · rw [(List.mem_replicate.mp h).2]; decide
      · exact hf h
  · rcases List.mem_append.mp h with h | h
    · rw [(List.mem_replicate.mp h).2]; decide
    · exact hf h
theorem okL_app {a b : List Nat} (h1 : ∀ ch ∈ a, ch < 0x110000) (h2 : ∀ ch ∈ b, ch < 0x110000) : ∀ ch ∈ a ++ b, ch < 0x110000 := fun ch h => (List.mem_append.mp h).elim (h1 ch) (h2 ch)
theorem op_fmt : SoundOp2 c n (binaryOp .Mod) opFmt := by
  intro A H s va vb a b Q E hA h1 h2 S h
  unfold opFmt at h
  split at h
  · rename_i F w d m y hh i ss z
    obtain ⟨⟨rfl, ⟨l1, l2, l3⟩, b1, b2, b3, b4, b5⟩, h⟩ := h
    cases h1 with
    | str _ t _ =>
    cases h2 with
    | tup hT hvs =>
    rename_i ad vs nn
    cases hvs with | cons v1 hvs =>
    cases hvs with | cons v2 hvs =>
    cases hvs with | cons v3 hvs =>
    cases hvs with | cons v4 hvs =>
    cases hvs with | cons v5 hvs =>
    cases hvs with | cons v6 hvs =>
    cases hvs with | cons v7 hvs =>
    cases hvs with | cons v8 hvs =>
    cases hvs
    cases v2; cases v4; cases v5; cases v6; cases v7
    cases v1 with | str _ t1 k1 =>
    cases v3 with | str _ t3 k3 =>
    cases v8 with | str _ t8 k8 =>
    have hTT : s.TypeIs (.ref ad) "tuple" := ⟨_, hT, rfl⟩
    refine KPt.bin_left (T := "str") (U := "tuple") (op := .Mod) (by decide) (typeIs_str s _ t) hTT PySem.F.fills_str_mod KPt.fills_tuple PySem.F.slot_str_mod (call_meets PySem.F.slot_str_mod (typeIs_str s _ t) PySem.F.entry_str_mod (PySem.F.args_str_mod_2 _ _) (fmt_meets l1 l2 l3 b1 b2 b3 b4 b5) ⟨⟨_, hT, rfl, _, rfl⟩, fun t' k => ⟨fun e => (nomatch e), res_tok S (.str _ _ ?_) h⟩⟩)
    unfold fmText
    repeat' (apply okL_app)
    all_goals first | exact k1 | exact k3 | exact k8 | exact fun _ hch => pad_ok hch | (intro ch hch; simp at hch; omega)
  · exact h.elim
-- a number times a text
def opMulIS (a b : PV) (Q : PV → AH → Prop) (H : AH) : Prop := match a, b with
  | .int k, .str x => (2 ≤ k ∧ k ≤ 1000 ∧ 0 < x.length ∧ x.length ≤ 1000) ∧ Q (.str (List.replicate k.toNat x).flatten) H
  | _, _ => False
theorem mo_mulis : MonoO2 opMulIS := by
  intro a b Q Q' H h q; unfold opMulIS at *; split at q
  · exact ⟨q.1, h _ _ q.2⟩
  · exact q.elim
theorem op_mulis : SoundOp2 c n (binaryOp .Mult) opMulIS := by
  intro A H s va vb a b Q E hA h1 h2 S h
  unfold opMulIS at h
  split at h
  · rename_i k x
    obtain ⟨⟨k0, k1, k3, k2⟩, h⟩ := h
    cases h1
    cases h2 with
    | str _ t hx =>
    rename_i u
    refine lm_binaryOp_repeat_right (T := "str") (U := "int") (by decide) (fun s' => typeIs_int s' k u) (typeIs_str s _ t) F.fills_int_mul noFill_str_mul F.slot_int_mul lm_noRepeat_int repeat_str F.slot_int_index.lookup
      (call_gives F.slot_int_mul (typeIs_int s k u) F.entry_int_mul (F.args_int_mul_2 _ _) (AutoIntG3.int___mul___int_str_0 k u _ t) ⟨rfl, typeIs_str s _ t, ?_⟩)
    have c1 : ¬ k < 1 := by omega
    have c2 : ¬ ((k == 1 || (⟨x.toArray⟩ : Str).length == 0) = true) := by
      rw [str_len, Bool.or_eq_true, beq_iff_eq, beq_iff_eq]; omega
    have hlen : x.length * k.toNat ≤ 1000 * 1000 := Nat.mul_le_mul k2 (by omega)
    refine call_gives F.slot_str_mul (typeIs_str s _ t) F.entry_str_mul (F.args_str_mul_2 _ _) (gives_str_mul _ k t u (by rw [Bool.or_eq_false_iff]; exact ⟨decide_eq_false (by omega), decide_eq_false (by omega)⟩) (fun _ _ => ?_) (fun _ _ => ?_)) ?_
    · rw [str_len]
      have : (1000 : Int) ≤ (2 ^ 63 - 1) / k := by
        rw [Int.le_ediv_iff_mul_le (by omega)]; omega
      omega
    · rw [str_len]
      unfold Builtin.Str.tooLong
      exact decide_eq_false (by rw [sizeLine_eq]; omega)
    · have e := txt_mul x (k := k) (by omega)
      unfold Txt.mul at e
      rw [if_neg c1, if_neg c2] at e ⊢
      rw [e]
      refine ⟨?_, res_tok S (.str _ _ ?_) h⟩
      · rw [str_len, List.length_flatten]; simp; rw [sizeLine_eq, Nat.mul_comm]; omega
      · intro ch hch
        obtain ⟨y, hy, hc⟩ := List.mem_flatten.mp hch
        rw [(List.mem_replicate.mp hy).2] at hc
        exact hx ch hc
  · exact h.elim
-- divmod, abs
def fDivmod : AF := fun ps Q H => match ps with
  | [.int a, .int b] => (0 < b ∧ b < 1073741824) ∧ Q (.tup [.int (a / b), .int (a % b)]) H
  | _ => False
theorem mf_divmod : MonoF fDivmod := by
  intro ps Q Q' H h q; unfold fDivmod at *; split at q
  · exact ⟨q.1, h _ _ q.2⟩
  · exact q.elim
theorem bi_divmod : SoundV c n (.builtin "divmod") fDivmod := by
  intro A H s vs ps Q E hA hv S q
  unfold fDivmod at q
  split at q
  · rename_i a b
    obtain ⟨hb, q⟩ := q
    cases hv with | cons h1 h2 =>
    cases h2 with | cons h2 h3 =>
    cases h3; cases h1; cases h2
    refine divmod_int (by omega) ?_ (.inl (PyProof.noPylong_small (by omega)))
    rw [Int.fdiv_eq_ediv_of_nonneg _ (by omega), Int.fmod_eq_emod_of_nonneg _ (by omega)]
    exact ⟨_, H, .tup (vs := [_, _]) (IsT.new _ _) (.cons (.int _ _) (.cons (.int _ _) .nil)), (S.push _).tok _, (Ext.push _).trans (.tok _), q⟩
  · exact q.elim
def fAbs : AF := fun ps Q H => match ps with
  | [.int a] => Q (.int (if a < 0 then -a else a)) H
  | _ => False
theorem mf_abs : MonoF fAbs := by
  intro ps Q Q' H h q; unfold fAbs at *; split at q
  · exact h _ _ q
  · exact q.elim
theorem bi_abs : SoundV c n (.builtin "abs") fAbs := by
  intro A H s vs ps Q E hA hv S q
  unfold fAbs at q
  split at q
  · cases hv with | cons h1 h2 =>
    cases h2; cases h1
    exact call_abs_int fun u tk => res_tok S (.int _ _) q
  · exact q.elim
-- where a figure lies, where a text lies in a list
def dgs : List Nat := [48, 49, 50, 51, 52, 53, 54, 55, 56, 57]
def fSIndex : AF := fun ps Q H => match ps with
  | [.str x, .str [ch]] => (x = dgs ∧ 48 ≤ ch ∧ ch ≤ 57) ∧ Q (.int ((ch - 48 : Nat) : Int)) H
  | _ => False
theorem mf_sindex : MonoF fSIndex := by
  intro ps Q Q' H h q; unfold fSIndex at *; split at q
  · exact ⟨q.1, h _ _ q.2⟩
  · exact q.elim
theorem dgs_at {ch : Nat} (h1 : 48 ≤ ch) (h2 : ch ≤ 57) : Builtin.Str.occurrences ⟨dgs.toArray⟩ ⟨[ch].toArray⟩ 0 (⟨dgs.toArray⟩ : Str).length 1 = [ch - 48] := by
  obtain ⟨k, rfl⟩ : ∃ k, ch = 48 + k := ⟨ch - 48, by omega⟩
  have hk : k < 10 := by omega
  have : ∀ k < 10, Builtin.Str.occurrences ⟨dgs.toArray⟩ ⟨[48 + k].toArray⟩ 0 (⟨dgs.toArray⟩ : Str).length 1 = [48 + k - 48] := by decide +kernel
  exact this k hk
theorem me_sindex : SoundV c n (.builtin "str.index") fSIndex := by
  intro A H s vs ps Q E hA hv S q
  unfold fSIndex at q
  split at q
  · rename_i x ch
    obtain ⟨⟨rfl, c1, c2⟩, q⟩ := q
    cases hv with | cons h1 h2 =>
    cases h2 with | cons h2 h3 =>
    cases h3
    cases h1 with | str _ t hx =>
    cases h2 with | str _ u hy =>
    exact call_gives F.slot_str_index (typeIs_str s _ t) F.entry_str_index (F.args_str_index_2 _ _) (gives_str_index _ _ t u (ch - 48) [] (dgs_at c1 c2)) (res_tok S (.int _ _) q)
  · exact q.elim
def fIndex : AF := fun ps Q H => match ps with
  | [.ref a, .str y] => (match H a with | some x => (match strsOf x.items with | some ys => (y ∈ ys ∧ ys.length ≤ 1000) ∧ Q (.int ((ys.idxOf y : Nat) : Int)) H | none => False) | none => False)
  | _ => False
theorem mf_index : MonoF fIndex := by
  intro ps Q Q' H h q; unfold fIndex at *
  split at q
  · split at q
    · split at q
      · exact ⟨q.1, h _ _ q.2⟩
      · exact q.elim
    · exact q.elim
  · exact q.elim
theorem isStrOf_at (k : Str) : ∀ {vs : List Value} {ys : List Str}, StrsAre vs ys → ∀ (j : Nat) (h1 : j < vs.length) (h2 : j < ys.length), isStrOf k vs[j] = (ys[j] == k)
  | _, _, .cons n t _, 0, _, _ => rfl
  | _, _, .cons n t r, j + 1, h1, h2 => isStrOf_at k r j (Nat.lt_of_succ_lt_succ h1) (Nat.lt_of_succ_lt_succ h2)
theorem strs_len : ∀ {vs : List Value} {ys : List Str}, StrsAre vs ys → vs.length = ys.length
  | _, _, .nil => rfl
  | _, _, .cons _ _ h => by simp [strs_len h]
theorem idx_ne {y : List Nat} : ∀ {ys : List (List Nat)} {j : Nat}, j < ys.idxOf y → ∀ (h2 : j < ys.length), ¬ ys[j] = y
  | n :: r, 0, h, _, e => by
    have e : n = y := e
    subst e; simp at h
  | n :: r, j + 1, h, h2, e => by
    by_cases e1 : n = y
    · subst e1; simp at h
    · have hb : (n == y) = false := by simpa using e1
      have h' : j < r.idxOf y := by
        rw [List.idxOf_cons, hb] at h
        exact Nat.lt_of_succ_lt_succ h
      exact idx_ne h' (Nat.lt_of_succ_lt_succ h2) e
theorem me_index : SoundV c n (.builtin "list.index") fIndex := by
  intro A H s vs ps Q E hA hv S q
  unfold fIndex at q
  split at q
  · rename_i a y
    split at q
    · rename_i x hx
      split at q
      · rename_i ys hys
        obtain ⟨⟨hy, hl⟩, q⟩ := q
        cases hv with | cons h1 h2 =>
        cases h2 with | cons h2 h3 =>
        cases h3; cases h1
        cases h2 with | str _ t hyy =>
        obtain ⟨ws, k, hL, hw⟩ := S.hr.list a x hx
        obtain ⟨hi, _⟩ := strs_are hw hys
        have hlen := strs_len hi
        simp at hlen
        have hj : ys.idxOf y < ys.length := List.idxOf_lt_length_iff.mpr hy
        have key : ∀ (j : Nat) (h1 : j < ws.size) (h2 : j < ys.length), isStrOf ⟨y.toArray⟩ ws[j] = decide (ys[j] = y) := fun j h1 h2 => by
          have := isStrOf_at ⟨y.toArray⟩ hi j (by simpa using h1) (by simpa using h2)
          simp only [Array.getElem_toList, List.getElem_map] at this
          rw [this]
          by_cases e : ys[j] = y
          · simp [e]
          · rw [decide_eq_false e]
            simp only [beq_eq_false_iff_ne, ne_eq, Str.mk.injEq]
            exact fun q => e (by simpa using congrArg Array.toList q)
        refine call_meets F.slot_list_index ⟨_, hL, rfl⟩ F.entry_list_index (F.args_list_index_2 _ _) (SeqAt.list_indexAt a ws k none #[] (.str ⟨y.toArray⟩ t) (isStrOf ⟨y.toArray⟩) (ys.idxOf y) (by omega) (by omega) ?_ ?_) ⟨hL, fun z hz => (eq_isStrOf _ t hi z (by simpa using hz)).at _ _, res_tok S (.int _ _) q⟩
        · rw [key _ _ hj]; simp
        · intro j hj1 hj2
          rw [key j hj1 (by omega)]
          exact decide_eq_false (idx_ne hj2 _)
      · exact q.elim
    · exact q.elim
  · exact q.elim
-- unpacking what is walked over
theorem draw_iter {A : Around} {I : Addr} {P : Nat → Prop} {G : AH → Prop} {J : List PV → AH → Shared → Prop} (it : Iter c n I P No G J) (hA : AOk n A) {E : Value → Shared → Prop} {H : AH} (hPI : ∀ s a o, J [] H s → Imm s.heap a o → True) : ∀ (ps rest : List PV) (s : Shared) (Q : List Value → Shared → Prop), J (ps ++ rest) H s → St c.base H s →
    (∀ vs s', VAll s'.heap vs ps → St c.base H s' → Ext P No H s H s' → J rest H s' → (∀ b o, Imm s.heap b o → s'.heap.get? b = some o) → Q vs s') → wpAny (model c.prog c.w) A (draw (.ref I) ps.length) Q E s
  | [], rest, s, Q, hj, S, hQ => wpAny_pure (hQ [] s .nil S .refl hj fun b o h => h.1)
  | p :: ps, rest, s, Q, hj, S, hQ => by
    show wpAny _ _ (pyNext (.ref I) >>= _) Q E s
    refine wpAny_bind (it.item A p (ps ++ rest) H s _ _ hA hj S fun v s' hv S' e' hj' hi => ?_)
    refine wpAny_bind (wpAny_holding (draw_iter it hA hPI ps rest s' _ hj' S' fun vs s2 hvs S2 e2 hj2 hi2 => wpAny_pure ?_))
    have him : ∀ b o, Imm s.heap b o → Imm s'.heap b o := fun b o h => ⟨hi b o h, h.2⟩
    refine hQ (v :: vs) s2 (.cons (hv.mono hi2) hvs) S2 (e'.trans e2) hj2 fun b o h => hi2 b o (him b o h)
def gTupL (gs : List ATg) : ATg := fun p Q ρ H => match p with
  | .ref a => (match H a with | some x => x.items.length = gs.length ∧ gTup.go gs x.items Q ρ H | none => False)
  | _ => False
theorem mg_tupl {gs : List ATg} (hg : MonoGs gs) : MonoG (gTupL gs) := by
  intro p Q Q' ρ H h q; unfold gTupL at *
  split at q
  · split at q
    · exact ⟨q.1, go_mono hg _ _ _ _ _ h q.2⟩
    · exact q.elim
  · exact q.elim
theorem tgt_tupl {ts : List Expr} {gs : List ATg} {k : Nat} {pos : Pos} (h : SoundAs c n sc ts gs) : SoundA c n sc (.Tuple ts k pos) (gTupL gs) := by
  intro A env ρ H s v p Q P E hA he R S hv q kk
  unfold gTupL at q
  split at q
  · rename_i a
    split at q
    · rename_i x hx
      obtain ⟨ql, q⟩ := q
      cases hv
      have hlen := h.length env
      obtain ⟨ws, k1, hL, hw⟩ := S.hr.list a x hx
      show wpAny _ _ (do standAt pos; unpack (.ref a) (assignEach ts env)) _ _ _
      unfold unpack
      rw [hlen.1, hlen.2]
      refine wpAny_bind (wpAny_standAt (wpAny_bind (wpAny_holding ?_)))
      unfold unpackItems
      refine wpAny_bind ?_
      unfold notIterableAtAll
      refine wpAny_bind (wpAny_specialOf (T := "list") ⟨_, hL, rfl⟩ slot_list_iter.lookup ?_)
      refine wpAny_pure ?_
      simp only [Bool.false_eq_true, if_false]
      refine wpAny_bind (wpAny_holding (iter_sound (n := n) (p := .ref a) (k := fun items G H2 => H2 = H ∧ items = x.items) (.ref a) S (by simp only [withItems, hx]; exact ⟨trivial, trivial⟩) fun I items PP G J s2 it hj S2 e2 hP hG q2 => ?_))
      obtain ⟨_, rfl⟩ := q2
      rw [← ql]
      refine wpAny_bind (wpAny_holding (draw_iter it hA (fun _ _ _ _ _ => trivial) x.items [] s2 _ (by simpa using hj) S2 fun vs s3 hvs S3 e3 hj3 hi3 => ?_))
      rw [if_neg (by rw [hvs.length]; omega)]
      refine wpAny_bind (wpAny_holding (it.done A H s3 _ _ hA hj3 S3 fun s4 S4 e4 hi4 => ?_))
      simp only [Option.isSome_none, Bool.false_eq_true, if_false]
      refine wpAny_pure ?_
      have e24 := e3.trans e4
      have hi24 : ∀ b o, Imm s2.heap b o → s4.heap.get? b = some o := fun b o hb => hi4 b o ⟨hi3 b o hb, hb.2⟩
      have e04 : Ext (Own env) No H s H s4 := (e2.of_no (X := Own env) (Y := No)).then_new e24 (fun b hb => .inr (hP b hb).1) (fun _ h => h.elim)
      have R2 := R.ext0 S e2
      have R4 : ER c.base c.N env ρ s4.heap := R2.ext' S2 e24 hi24 (fun hp => Nat.lt_irrefl _ (Nat.lt_of_lt_of_le (own_lt R (.inl rfl)) (hP _ hp).1)) (fun y cc hy hp => by
        obtain ⟨w, hw⟩ := R.cells y cc hy
        exact Nat.lt_irrefl _ (Nat.lt_of_lt_of_le hw.lt (hP cc hp).1))
      exact assign_row hA he h ρ H s4 _ _ _ R4 S4 (hvs.mono hi4) ql q fun ρ' H' s' R' S' e' q' => kk ρ' H' s' R' S' (e04.trans e') q'
    · exact q.elim
  · exact q.elim
end
end Mine
open PySem PySem.W PySem.Calls PyProof.Rows
set_option Elab.async false
set_option linter.unusedVariables false
set_option linter.unusedSimpArgs false
set_option maxRecDepth 100000
set_option maxHeartbeats 8000000
namespace Mine
abbrev prg : Program := PySem.Challenge.pw_dm0098_02
def NN : List Str := [Str.ofString "timetuple", Str.ofString "zone", Str.ofString "year", Str.ofString "month", Str.ofString "instant", Str.ofString "day", Str.ofString "second", Str.ofString "left", Str.ofString "ages", Str.ofString "hundreds", Str.ofString "fours", Str.ofString "ones", Str.ofString "minutes", Str.ofString "text", Str.ofString "rest", Str.ofString "hours", Str.ofString "number", Str.ofString "figures", Str.ofString "figure", Str.ofString "local", Str.ofString "off", Str.ofString "ahead", Str.ofString "hour", Str.ofString "minute", Str.ofString "week", Str.ofString "date", Str.ofString "names", Str.ofString "fields", Str.ofString "a", Str.ofString "b", Str.ofString "marks", Str.ofString "script", Str.ofString "cases", Str.ofString "back", Str.ofString "row", Str.ofString "end"]
theorem NN_nodup : NN.Nodup := by decide +kernel
def f__format_timetuple_and_zone : AF := aFn [0, 1] <|
    sCons (sRet (aBin opFmt (aCst (.str [37, 115, 44, 32, 37, 48, 50, 100, 32, 37, 115, 32, 37, 48, 52, 100, 32, 37, 48, 50, 100, 58, 37, 48, 50, 100, 58, 37, 48, 50, 100, 32, 37, 115])) (aTup (lCons (aBin opItem (aList (lCons (aCst (.str [77, 111, 110])) (lCons (aCst (.str [84, 117, 101])) (lCons (aCst (.str [87, 101, 100])) (lCons (aCst (.str [84, 104, 117])) (lCons (aCst (.str [70, 114, 105])) (lCons (aCst (.str [83, 97, 116])) (lCons (aCst (.str [83, 117, 110])) (lNil))))))))) (aBin opItem (aVar 0) (aCst (.int 6)))) (lCons (aBin opItem (aVar 0) (aCst (.int 2))) (lCons (aBin opItem (aList (lCons (aCst (.str [74, 97, 110])) (lCons (aCst (.str [70, 101, 98])) (lCons (aCst (.str [77, 97, 114])) (lCons (aCst (.str [65, 112, 114])) (lCons (aCst (.str [77, 97, 121])) (lCons (aCst (.str [74, 117, 110])) (lCons (aCst (.str [74, 117, 108])) (lCons (aCst (.str [65, 117, 103])) (lCons (aCst (.str [83, 101, 112])) (lCons (aCst (.str [79, 99, 116])) (lCons (aCst (.str [78, 111, 118])) (lCons (aCst (.str [68, 101, 99])) (lNil)))))))))))))) (aBin opSub (aBin opItem (aVar 0) (aCst (.int 1))) (aCst (.int 1)))) (lCons (aBin opItem (aVar 0) (aCst (.int 0))) (lCons (aBin opItem (aVar 0) (aCst (.int 3))) (lCons (aBin opItem (aVar 0) (aCst (.int 4))) (lCons (aBin opItem (aVar 0) (aCst (.int 5))) (lCons (aVar 1) (lNil)))))))))))) <|
    sNil
theorem m_f__format_timetuple_and_zone : MonoF f__format_timetuple_and_zone := by
  unfold f__format_timetuple_and_zone
  apply mf_fn
  repeat' first | with_reducible apply m_var | with_reducible apply m_cst | with_reducible apply ms_nil | with_reducible apply ms_cons | with_reducible apply ms_assign | with_reducible apply ms_ret | with_reducible apply ms_ret0 | with_reducible apply ms_cont | with_reducible apply ms_if | with_reducible apply ms_expr | with_reducible apply ms_aug | with_reducible apply ms_augsub | with_reducible apply ms_for | with_reducible apply ms_while | with_reducible apply m_bin | with_reducible apply m_un | with_reducible apply m_cmp | with_reducible apply mt_val | with_reducible apply mt_not | with_reducible apply mt_and | with_reducible apply mt_or | with_reducible apply mt_true | with_reducible apply mt_false | with_reducible apply mt_cmp | with_reducible apply mt_cmp2 | with_reducible apply m_not | with_reducible apply m_if | with_reducible apply m_and | with_reducible apply m_or | with_reducible apply ml_nil | with_reducible apply ml_cons | with_reducible apply m_tup | with_reducible apply m_list | with_reducible apply m_call | with_reducible apply m_meth | with_reducible apply m_slice | with_reducible apply m_comp | with_reducible apply m_comp2 | with_reducible apply m_genlist | with_reducible apply ms_forg | with_reducible apply mg_name | with_reducible apply mg_sub | with_reducible apply mg_tup | with_reducible apply MonoGs.nil | with_reducible apply MonoGs.cons | with_reducible apply mo_add | with_reducible apply mo_iadd | with_reducible apply mo_sub | with_reducible apply mo_mul | with_reducible apply mo_div | with_reducible apply mo_mod | with_reducible apply mo_neg | with_reducible apply mo_item | with_reducible apply mf_len | with_reducible apply mf_range | with_reducible apply mf_list | with_reducible apply mf_tuple | with_reducible apply mf_append | with_reducible apply mf_insert | with_reducible apply mf_pop | with_reducible apply mf_chr | with_reducible apply mf_sjoin | with_reducible apply mf_all | with_reducible apply mf_any | with_reducible apply mf_sum | with_reducible apply mf_min | with_reducible apply mo_fmt | with_reducible apply mo_mulis | with_reducible apply mf_divmod | with_reducible apply mf_abs | with_reducible apply mf_sindex | with_reducible apply mf_index | with_reducible apply mg_tupl
theorem s__format_timetuple_and_zone (c : Cx) (hd : fnRec prg 1 ∈ recsOf c.q) : SoundF (c.on NN NN_nodup) 1 (Str.ofString "_format_timetuple_and_zone") f__format_timetuple_and_zone :=
  sound_fn (c := c.on NN NN_nodup) (d := fnRec prg 1) (xs := [Str.ofString "timetuple", Str.ofString "zone"]) hd (
    @block_cons _ _ _ _ _ _ _ (@stmt_ret _ _ _ _ _ _ (@sound_bin _ _ _ _ _ _ _ _ _ _ op_fmt (sound_str (hx := rfl) (hy := rfl)) (@sound_tup _ _ _ _ _ _ _ (@list_consP _ _ _ _ _ _ _ (@sound_sub _ _ _ _ _ _ _ _ (@sound_list _ _ _ _ _ _ (@list_consP _ _ _ _ _ _ _ (sound_str (hx := rfl) (hy := rfl)) (@list_consP _ _ _ _ _ _ _ (sound_str (hx := rfl) (hy := rfl)) (@list_consP _ _ _ _ _ _ _ (sound_str (hx := rfl) (hy := rfl)) (@list_consP _ _ _ _ _ _ _ (sound_str (hx := rfl) (hy := rfl)) (@list_consP _ _ _ _ _ _ _ (sound_str (hx := rfl) (hy := rfl)) (@list_consP _ _ _ _ _ _ _ (sound_str (hx := rfl) (hy := rfl)) (@list_consP _ _ _ _ _ _ _ (sound_str (hx := rfl) (hy := rfl)) (list_nil) rfl) rfl) rfl) rfl) rfl) rfl) rfl)) (@sound_sub _ _ _ _ _ _ _ _ (sound_var rfl (hd := by decide) (hn := by decide)) (sound_int))) (@list_consP _ _ _ _ _ _ _ (@sound_sub _ _ _ _ _ _ _ _ (sound_var rfl (hd := by decide) (hn := by decide)) (sound_int)) (@list_consP _ _ _ _ _ _ _ (@sound_sub _ _ _ _ _ _ _ _ (@sound_list _ _ _ _ _ _ (@list_consP _ _ _ _ _ _ _ (sound_str (hx := rfl) (hy := rfl)) (@list_consP _ _ _ _ _ _ _ (sound_str (hx := rfl) (hy := rfl)) (@list_consP _ _ _ _ _ _ _ (sound_str (hx := rfl) (hy := rfl)) (@list_consP _ _ _ _ _ _ _ (sound_str (hx := rfl) (hy := rfl)) (@list_consP _ _ _ _ _ _ _ (sound_str (hx := rfl) (hy := rfl)) (@list_consP _ _ _ _ _ _ _ (sound_str (hx := rfl) (hy := rfl)) (@list_consP _ _ _ _ _ _ _ (sound_str (hx := rfl) (hy := rfl)) (@list_consP _ _ _ _ _ _ _ (sound_str (hx := rfl) (hy := rfl)) (@list_consP _ _ _ _ _ _ _ (sound_str (hx := rfl) (hy := rfl)) (@list_consP _ _ _ _ _ _ _ (sound_str (hx := rfl) (hy := rfl)) (@list_consP _ _ _ _ _ _ _ (sound_str (hx := rfl) (hy := rfl)) (@list_consP _ _ _ _ _ _ _ (sound_str (hx := rfl) (hy := rfl)) (list_nil) rfl) rfl) rfl) rfl) rfl) rfl) rfl) rfl) rfl) rfl) rfl) rfl)) (@sound_bin _ _ _ _ _ _ _ _ _ _ op_sub (@sound_sub _ _ _ _ _ _ _ _ (sound_var rfl (hd := by decide) (hn := by decide)) (sound_int)) (sound_int))) (@list_consP _ _ _ _ _ _ _ (@sound_sub _ _ _ _ _ _ _ _ (sound_var rfl (hd := by decide) (hn := by decide)) (sound_int)) (@list_consP _ _ _ _ _ _ _ (@sound_sub _ _ _ _ _ _ _ _ (sound_var rfl (hd := by decide) (hn := by decide)) (sound_int)) (@list_consP _ _ _ _ _ _ _ (@sound_sub _ _ _ _ _ _ _ _ (sound_var rfl (hd := by decide) (hn := by decide)) (sound_int)) (@list_consP _ _ _ _ _ _ _ (@sound_sub _ _ _ _ _ _ _ _ (sound_var rfl (hd := by decide) (hn := by decide)) (sound_int)) (@list_consP _ _ _ _ _ _ _ (sound_var rfl (hd := by decide) (hn := by decide)) (list_nil) rfl) rfl) rfl) rfl) rfl) rfl) rfl) rfl)))) <|
    block_nil) rfl (by decide +kernel) (fun _ _ _ vs h => by obtain ⟨v0, v1, rfl⟩ := len2 h; rfl) (by decide +kernel) (hco := rfl) (hgen := rfl) (hk := rfl)
def l__law_length_1 : AS := sCons (sRet (aIf (tAnd (tCmp .Eq (aBin opMod (aVar 2) (aCst (.int 4))) (aCst (.int 0))) (tAnd (tOr (tCmp .NotEq (aBin opMod (aVar 2) (aCst (.int 100))) (aCst (.int 0))) (tOr (tCmp .Eq (aBin opMod (aVar 2) (aCst (.int 400))) (aCst (.int 0))) (tFalse))) (tTrue))) (aCst (.int 29)) (aCst (.int 28)))) <|
    sNil
theorem m_l__law_length_1 : MonoS l__law_length_1 := by
  unfold l__law_length_1
  repeat' first | with_reducible apply m_var | with_reducible apply m_cst | with_reducible apply ms_nil | with_reducible apply ms_cons | with_reducible apply ms_assign | with_reducible apply ms_ret | with_reducible apply ms_ret0 | with_reducible apply ms_cont | with_reducible apply ms_if | with_reducible apply ms_expr | with_reducible apply ms_aug | with_reducible apply ms_augsub | with_reducible apply ms_for | with_reducible apply ms_while | with_reducible apply m_bin | with_reducible apply m_un | with_reducible apply m_cmp | with_reducible apply mt_val | with_reducible apply mt_not | with_reducible apply mt_and | with_reducible apply mt_or | with_reducible apply mt_true | with_reducible apply mt_false | with_reducible apply mt_cmp | with_reducible apply mt_cmp2 | with_reducible apply m_not | with_reducible apply m_if | with_reducible apply m_and | with_reducible apply m_or | with_reducible apply ml_nil | with_reducible apply ml_cons | with_reducible apply m_tup | with_reducible apply m_list | with_reducible apply m_call | with_reducible apply m_meth | with_reducible apply m_slice | with_reducible apply m_comp | with_reducible apply m_comp2 | with_reducible apply m_genlist | with_reducible apply ms_forg | with_reducible apply mg_name | with_reducible apply mg_sub | with_reducible apply mg_tup | with_reducible apply MonoGs.nil | with_reducible apply MonoGs.cons | with_reducible apply mo_add | with_reducible apply mo_iadd | with_reducible apply mo_sub | with_reducible apply mo_mul | with_reducible apply mo_div | with_reducible apply mo_mod | with_reducible apply mo_neg | with_reducible apply mo_item | with_reducible apply mf_len | with_reducible apply mf_range | with_reducible apply mf_list | with_reducible apply mf_tuple | with_reducible apply mf_append | with_reducible apply mf_insert | with_reducible apply mf_pop | with_reducible apply mf_chr | with_reducible apply mf_sjoin | with_reducible apply mf_all | with_reducible apply mf_any | with_reducible apply mf_sum | with_reducible apply mf_min | with_reducible apply mo_fmt | with_reducible apply mo_mulis | with_reducible apply mf_divmod | with_reducible apply mf_abs | with_reducible apply mf_sindex | with_reducible apply mf_index | with_reducible apply mg_tupl
def f__law_length : AF := aFn [2, 3] <|
    sCons (sIf (tCmp .Eq (aVar 3) (aCst (.int 2))) (l__law_length_1) (sNil)) <|
    sCons (sRet (aIf (tCmp .In (aVar 3) (aTup (lCons (aCst (.int 4)) (lCons (aCst (.int 6)) (lCons (aCst (.int 9)) (lCons (aCst (.int 11)) (lNil))))))) (aCst (.int 30)) (aCst (.int 31)))) <|
    sNil
theorem m_f__law_length : MonoF f__law_length := by
  unfold f__law_length
  apply mf_fn
  repeat' first | with_reducible apply m_var | with_reducible apply m_cst | with_reducible apply ms_nil | with_reducible apply ms_cons | with_reducible apply ms_assign | with_reducible apply ms_ret | with_reducible apply ms_ret0 | with_reducible apply ms_cont | with_reducible apply ms_if | with_reducible apply ms_expr | with_reducible apply ms_aug | with_reducible apply ms_augsub | with_reducible apply ms_for | with_reducible apply ms_while | with_reducible apply m_bin | with_reducible apply m_un | with_reducible apply m_cmp | with_reducible apply mt_val | with_reducible apply mt_not | with_reducible apply mt_and | with_reducible apply mt_or | with_reducible apply mt_true | with_reducible apply mt_false | with_reducible apply mt_cmp | with_reducible apply mt_cmp2 | with_reducible apply m_not | with_reducible apply m_if | with_reducible apply m_and | with_reducible apply m_or | with_reducible apply ml_nil | with_reducible apply ml_cons | with_reducible apply m_tup | with_reducible apply m_list | with_reducible apply m_call | with_reducible apply m_meth | with_reducible apply m_slice | with_reducible apply m_comp | with_reducible apply m_comp2 | with_reducible apply m_genlist | with_reducible apply ms_forg | with_reducible apply mg_name | with_reducible apply mg_sub | with_reducible apply mg_tup | with_reducible apply MonoGs.nil | with_reducible apply MonoGs.cons | with_reducible apply mo_add | with_reducible apply mo_iadd | with_reducible apply mo_sub | with_reducible apply mo_mul | with_reducible apply mo_div | with_reducible apply mo_mod | with_reducible apply mo_neg | with_reducible apply mo_item | with_reducible apply mf_len | with_reducible apply mf_range | with_reducible apply mf_list | with_reducible apply mf_tuple | with_reducible apply mf_append | with_reducible apply mf_insert | with_reducible apply mf_pop | with_reducible apply mf_chr | with_reducible apply mf_sjoin | with_reducible apply mf_all | with_reducible apply mf_any | with_reducible apply mf_sum | with_reducible apply mf_min | with_reducible apply mo_fmt | with_reducible apply mo_mulis | with_reducible apply mf_divmod | with_reducible apply mf_abs | with_reducible apply mf_sindex | with_reducible apply mf_index | with_reducible apply mg_tupl | with_reducible apply m_l__law_length_1
theorem s__law_length (c : Cx) (hd : fnRec prg 3 ∈ recsOf c.q) : SoundF (c.on NN NN_nodup) 1 (Str.ofString "_law_length") f__law_length :=
  sound_fn (c := c.on NN NN_nodup) (d := fnRec prg 3) (xs := [Str.ofString "year", Str.ofString "month"]) hd (
    @block_cons _ _ _ _ _ _ _ (stmt_if (test_cmp (sound_var rfl (hd := by decide) (hn := by decide)) (sound_int) (hm := by with_unfolding_all rfl)) (@block_cons _ _ _ _ _ _ _ (@stmt_ret _ _ _ _ _ _ (sound_if (test_bool (and_cons (test_cmp (@sound_bin _ _ _ _ _ _ _ _ _ _ op_mod (sound_var rfl (hd := by decide) (hn := by decide)) (sound_int)) (sound_int) (hm := by with_unfolding_all rfl)) (and_cons (test_bool (or_cons (test_cmp (@sound_bin _ _ _ _ _ _ _ _ _ _ op_mod (sound_var rfl (hd := by decide) (hn := by decide)) (sound_int)) (sound_int) (hm := by with_unfolding_all rfl)) (or_cons (test_cmp (@sound_bin _ _ _ _ _ _ _ _ _ _ op_mod (sound_var rfl (hd := by decide) (hn := by decide)) (sound_int)) (sound_int) (hm := by with_unfolding_all rfl)) (or_nil)))) (and_nil)))) (sound_int) (sound_int))) <|
    block_nil) (block_nil)) <|
    @block_cons _ _ _ _ _ _ _ (@stmt_ret _ _ _ _ _ _ (sound_if (test_cmp (sound_var rfl (hd := by decide) (hn := by decide)) (@sound_tup _ _ _ _ _ _ _ (@list_consP _ _ _ _ _ _ _ (sound_int) (@list_consP _ _ _ _ _ _ _ (sound_int) (@list_consP _ _ _ _ _ _ _ (sound_int) (@list_consP _ _ _ _ _ _ _ (sound_int) (list_nil) rfl) rfl) rfl) rfl)) (hm := by with_unfolding_all rfl)) (sound_int) (sound_int))) <|
    block_nil) rfl (by decide +kernel) (fun _ _ _ vs h => by obtain ⟨v0, v1, rfl⟩ := len2 h; rfl) (by decide +kernel) (hco := rfl) (hgen := rfl) (hk := rfl)
def l__law_row_1 : AS := sCons (sAssign (gName 7) (aBin opSub (aVar 7) (aCall f__law_length (lCons (aVar 2) (lCons (aVar 3) (lNil)))))) <|
    sCons (sAssign (gName 3) (aBin opAdd (aVar 3) (aCst (.int 1)))) <|
    sNil
theorem m_l__law_row_1 : MonoS l__law_row_1 := by
  unfold l__law_row_1
  repeat' first | with_reducible apply m_var | with_reducible apply m_cst | with_reducible apply ms_nil | with_reducible apply ms_cons | with_reducible apply ms_assign | with_reducible apply ms_ret | with_reducible apply ms_ret0 | with_reducible apply ms_cont | with_reducible apply ms_if | with_reducible apply ms_expr | with_reducible apply ms_aug | with_reducible apply ms_augsub | with_reducible apply ms_for | with_reducible apply ms_while | with_reducible apply m_bin | with_reducible apply m_un | with_reducible apply m_cmp | with_reducible apply mt_val | with_reducible apply mt_not | with_reducible apply mt_and | with_reducible apply mt_or | with_reducible apply mt_true | with_reducible apply mt_false | with_reducible apply mt_cmp | with_reducible apply mt_cmp2 | with_reducible apply m_not | with_reducible apply m_if | with_reducible apply m_and | with_reducible apply m_or | with_reducible apply ml_nil | with_reducible apply ml_cons | with_reducible apply m_tup | with_reducible apply m_list | with_reducible apply m_call | with_reducible apply m_meth | with_reducible apply m_slice | with_reducible apply m_comp | with_reducible apply m_comp2 | with_reducible apply m_genlist | with_reducible apply ms_forg | with_reducible apply mg_name | with_reducible apply mg_sub | with_reducible apply mg_tup | with_reducible apply MonoGs.nil | with_reducible apply MonoGs.cons | with_reducible apply mo_add | with_reducible apply mo_iadd | with_reducible apply mo_sub | with_reducible apply mo_mul | with_reducible apply mo_div | with_reducible apply mo_mod | with_reducible apply mo_neg | with_reducible apply mo_item | with_reducible apply mf_len | with_reducible apply mf_range | with_reducible apply mf_list | with_reducible apply mf_tuple | with_reducible apply mf_append | with_reducible apply mf_insert | with_reducible apply mf_pop | with_reducible apply mf_chr | with_reducible apply mf_sjoin | with_reducible apply mf_all | with_reducible apply mf_any | with_reducible apply mf_sum | with_reducible apply mf_min | with_reducible apply mo_fmt | with_reducible apply mo_mulis | with_reducible apply mf_divmod | with_reducible apply mf_abs | with_reducible apply mf_sindex | with_reducible apply mf_index | with_reducible apply mg_tupl | with_reducible apply m_f__law_length
def f__law_row : AF := aFn [4] <|
    sCons (sAssign (gTup [gName 5, gName 6]) (aCall fDivmod (lCons (aVar 4) (lCons (aCst (.int 86400)) (lNil))))) <|
    sCons (sAssign (gTup [gName 8, gName 7]) (aCall fDivmod (lCons (aVar 5) (lCons (aCst (.int 146097)) (lNil))))) <|
    sCons (sAssign (gName 9) (aCall fMin (lCons (aBin opDiv (aVar 7) (aCst (.int 36524))) (lCons (aCst (.int 3)) (lNil))))) <|
    sCons (sAssign (gName 7) (aBin opSub (aVar 7) (aBin opMul (aCst (.int 36524)) (aVar 9)))) <|
    sCons (sAssign (gTup [gName 10, gName 7]) (aCall fDivmod (lCons (aVar 7) (lCons (aCst (.int 1461)) (lNil))))) <|
    sCons (sAssign (gName 11) (aCall fMin (lCons (aBin opDiv (aVar 7) (aCst (.int 365))) (lCons (aCst (.int 3)) (lNil))))) <|
    sCons (sAssign (gName 7) (aBin opSub (aVar 7) (aBin opMul (aCst (.int 365)) (aVar 11)))) <|
    sCons (sAssign (gName 2) (aBin opAdd (aBin opAdd (aBin opAdd (aBin opAdd (aBin opMul (aCst (.int 400)) (aVar 8)) (aBin opMul (aCst (.int 100)) (aVar 9))) (aBin opMul (aCst (.int 4)) (aVar 10))) (aVar 11)) (aCst (.int 1)))) <|
    sCons (sAssign (gName 3) (aCst (.int 1))) <|
    sCons (sWhile (tCmp .GtE (aVar 7) (aCall f__law_length (lCons (aVar 2) (lCons (aVar 3) (lNil))))) (l__law_row_1)) <|
    sCons (sRet (aList (lCons (aVar 2) (lCons (aVar 3) (lCons (aBin opAdd (aVar 7) (aCst (.int 1))) (lCons (aBin opDiv (aVar 6) (aCst (.int 3600))) (lCons (aBin opMod (aBin opDiv (aVar 6) (aCst (.int 60))) (aCst (.int 60))) (lCons (aBin opMod (aVar 6) (aCst (.int 60))) (lCons (aBin opMod (aVar 5) (aCst (.int 7))) (lNil)))))))))) <|
    sNil
theorem m_f__law_row : MonoF f__law_row := by
  unfold f__law_row
  apply mf_fn
  repeat' first | with_reducible apply m_var | with_reducible apply m_cst | with_reducible apply ms_nil | with_reducible apply ms_cons | with_reducible apply ms_assign | with_reducible apply ms_ret | with_reducible apply ms_ret0 | with_reducible apply ms_cont | with_reducible apply ms_if | with_reducible apply ms_expr | with_reducible apply ms_aug | with_reducible apply ms_augsub | with_reducible apply ms_for | with_reducible apply ms_while | with_reducible apply m_bin | with_reducible apply m_un | with_reducible apply m_cmp | with_reducible apply mt_val | with_reducible apply mt_not | with_reducible apply mt_and | with_reducible apply mt_or | with_reducible apply mt_true | with_reducible apply mt_false | with_reducible apply mt_cmp | with_reducible apply mt_cmp2 | with_reducible apply m_not | with_reducible apply m_if | with_reducible apply m_and | with_reducible apply m_or | with_reducible apply ml_nil | with_reducible apply ml_cons | with_reducible apply m_tup | with_reducible apply m_list | with_reducible apply m_call | with_reducible apply m_meth | with_reducible apply m_slice | with_reducible apply m_comp | with_reducible apply m_comp2 | with_reducible apply m_genlist | with_reducible apply ms_forg | with_reducible apply mg_name | with_reducible apply mg_sub | with_reducible apply mg_tup | with_reducible apply MonoGs.nil | with_reducible apply MonoGs.cons | with_reducible apply mo_add | with_reducible apply mo_iadd | with_reducible apply mo_sub | with_reducible apply mo_mul | with_reducible apply mo_div | with_reducible apply mo_mod | with_reducible apply mo_neg | with_reducible apply mo_item | with_reducible apply mf_len | with_reducible apply mf_range | with_reducible apply mf_list | with_reducible apply mf_tuple | with_reducible apply mf_append | with_reducible apply mf_insert | with_reducible apply mf_pop | with_reducible apply mf_chr | with_reducible apply mf_sjoin | with_reducible apply mf_all | with_reducible apply mf_any | with_reducible apply mf_sum | with_reducible apply mf_min | with_reducible apply mo_fmt | with_reducible apply mo_mulis | with_reducible apply mf_divmod | with_reducible apply mf_abs | with_reducible apply mf_sindex | with_reducible apply mf_index | with_reducible apply mg_tupl | with_reducible apply m_f__law_length | with_reducible apply m_l__law_row_1
theorem s__law_row (c : Cx) (hd : fnRec prg 4 ∈ recsOf c.q) (h__law_length : SoundF (c.on NN NN_nodup) 1 (Str.ofString "_law_length") f__law_length) (b_divmod : c.mg (Str.ofString "divmod") = none) (b_min : c.mg (Str.ofString "min") = none) : SoundF (c.on NN NN_nodup) 2 (Str.ofString "_law_row") f__law_row :=
  sound_fn (c := c.on NN NN_nodup) (d := fnRec prg 4) (xs := [Str.ofString "instant"]) hd (
    @block_cons _ _ _ _ _ _ _ (@stmt_assign _ _ _ _ _ _ _ _ (sound_bi bi_divmod rfl b_divmod (by decide +kernel) (by decide +kernel) (@list_consP _ _ _ _ _ _ _ (sound_var rfl (hd := by decide) (hn := by decide)) (@list_consP _ _ _ _ _ _ _ (sound_int) (list_nil) rfl) rfl) (by decide +kernel) (hd := by decide) (he' := fun _ => rfl) (hp := fun _ => rfl)) (tgt_tup (.cons (tgt_name rfl (.inl (by decide +kernel))) (fun _ => rfl) (.cons (tgt_name rfl (.inl (by decide +kernel))) (fun _ => rfl) (.nil)))) (fun _ _ => rfl) (fun _ _ => rfl) (fun _ => rfl)) <|
    @block_cons _ _ _ _ _ _ _ (@stmt_assign _ _ _ _ _ _ _ _ (sound_bi bi_divmod rfl b_divmod (by decide +kernel) (by decide +kernel) (@list_consP _ _ _ _ _ _ _ (sound_var rfl (hd := by decide) (hn := by decide)) (@list_consP _ _ _ _ _ _ _ (sound_int) (list_nil) rfl) rfl) (by decide +kernel) (hd := by decide) (he' := fun _ => rfl) (hp := fun _ => rfl)) (tgt_tup (.cons (tgt_name rfl (.inl (by decide +kernel))) (fun _ => rfl) (.cons (tgt_name rfl (.inl (by decide +kernel))) (fun _ => rfl) (.nil)))) (fun _ _ => rfl) (fun _ _ => rfl) (fun _ => rfl)) <|
    @block_cons _ _ _ _ _ _ _ (@stmt_assign _ _ _ _ _ _ _ _ (sound_bi bi_min rfl b_min (by decide +kernel) (by decide +kernel) (@list_consP _ _ _ _ _ _ _ (@sound_bin _ _ _ _ _ _ _ _ _ _ op_div (sound_var rfl (hd := by decide) (hn := by decide)) (sound_int)) (@list_consP _ _ _ _ _ _ _ (sound_int) (list_nil) rfl) rfl) (by decide +kernel) (hd := by decide) (he' := fun _ => rfl) (hp := fun _ => rfl)) (tgt_name rfl (.inl (by decide +kernel))) (fun _ _ => rfl) (fun _ _ => rfl) (fun _ => rfl)) <|
    @block_cons _ _ _ _ _ _ _ (@stmt_assign _ _ _ _ _ _ _ _ (@sound_bin _ _ _ _ _ _ _ _ _ _ op_sub (sound_var rfl (hd := by decide) (hn := by decide)) (@sound_bin _ _ _ _ _ _ _ _ _ _ op_mul (sound_int) (sound_var rfl (hd := by decide) (hn := by decide)))) (tgt_name rfl (.inl (by decide +kernel))) (fun _ _ => rfl) (fun _ _ => rfl) (fun _ => rfl)) <|
    @block_cons _ _ _ _ _ _ _ (@stmt_assign _ _ _ _ _ _ _ _ (sound_bi bi_divmod rfl b_divmod (by decide +kernel) (by decide +kernel) (@list_consP _ _ _ _ _ _ _ (sound_var rfl (hd := by decide) (hn := by decide)) (@list_consP _ _ _ _ _ _ _ (sound_int) (list_nil) rfl) rfl) (by decide +kernel) (hd := by decide) (he' := fun _ => rfl) (hp := fun _ => rfl)) (tgt_tup (.cons (tgt_name rfl (.inl (by decide +kernel))) (fun _ => rfl) (.cons (tgt_name rfl (.inl (by decide +kernel))) (fun _ => rfl) (.nil)))) (fun _ _ => rfl) (fun _ _ => rfl) (fun _ => rfl)) <|
    @block_cons _ _ _ _ _ _ _ (@stmt_assign _ _ _ _ _ _ _ _ (sound_bi bi_min rfl b_min (by decide +kernel) (by decide +kernel) (@list_consP _ _ _ _ _ _ _ (@sound_bin _ _ _ _ _ _ _ _ _ _ op_div (sound_var rfl (hd := by decide) (hn := by decide)) (sound_int)) (@list_consP _ _ _ _ _ _ _ (sound_int) (list_nil) rfl) rfl) (by decide +kernel) (hd := by decide) (he' := fun _ => rfl) (hp := fun _ => rfl)) (tgt_name rfl (.inl (by decide +kernel))) (fun _ _ => rfl) (fun _ _ => rfl) (fun _ => rfl)) <|
    @block_cons _ _ _ _ _ _ _ (@stmt_assign _ _ _ _ _ _ _ _ (@sound_bin _ _ _ _ _ _ _ _ _ _ op_sub (sound_var rfl (hd := by decide) (hn := by decide)) (@sound_bin _ _ _ _ _ _ _ _ _ _ op_mul (sound_int) (sound_var rfl (hd := by decide) (hn := by decide)))) (tgt_name rfl (.inl (by decide +kernel))) (fun _ _ => rfl) (fun _ _ => rfl) (fun _ => rfl)) <|
    @block_cons _ _ _ _ _ _ _ (@stmt_assign _ _ _ _ _ _ _ _ (@sound_bin _ _ _ _ _ _ _ _ _ _ op_add (@sound_bin _ _ _ _ _ _ _ _ _ _ op_add (@sound_bin _ _ _ _ _ _ _ _ _ _ op_add (@sound_bin _ _ _ _ _ _ _ _ _ _ op_add (@sound_bin _ _ _ _ _ _ _ _ _ _ op_mul (sound_int) (sound_var rfl (hd := by decide) (hn := by decide))) (@sound_bin _ _ _ _ _ _ _ _ _ _ op_mul (sound_int) (sound_var rfl (hd := by decide) (hn := by decide)))) (@sound_bin _ _ _ _ _ _ _ _ _ _ op_mul (sound_int) (sound_var rfl (hd := by decide) (hn := by decide)))) (sound_var rfl (hd := by decide) (hn := by decide))) (sound_int)) (tgt_name rfl (.inl (by decide +kernel))) (fun _ _ => rfl) (fun _ _ => rfl) (fun _ => rfl)) <|
    @block_cons _ _ _ _ _ _ _ (@stmt_assign _ _ _ _ _ _ _ _ (sound_int) (tgt_name rfl (.inl (by decide +kernel))) (fun _ _ => rfl) (fun _ _ => rfl) (fun _ => rfl)) <|
    @block_cons _ _ _ _ _ _ _ (stmt_while (test_cmp (sound_var rfl (hd := by decide) (hn := by decide)) (sound_call h__law_length (@list_consP _ _ _ _ _ _ _ (sound_var rfl (hd := by decide) (hn := by decide)) (@list_consP _ _ _ _ _ _ _ (sound_var rfl (hd := by decide) (hn := by decide)) (list_nil) rfl) rfl) (by decide +kernel) (by decide) (hd := by decide) (he' := fun _ => rfl)) (hm := by with_unfolding_all rfl)) (@block_cons _ _ _ _ _ _ _ (@stmt_assign _ _ _ _ _ _ _ _ (@sound_bin _ _ _ _ _ _ _ _ _ _ op_sub (sound_var rfl (hd := by decide) (hn := by decide)) (sound_call h__law_length (@list_consP _ _ _ _ _ _ _ (sound_var rfl (hd := by decide) (hn := by decide)) (@list_consP _ _ _ _ _ _ _ (sound_var rfl (hd := by decide) (hn := by decide)) (list_nil) rfl) rfl) (by decide +kernel) (by decide) (hd := by decide) (he' := fun _ => rfl))) (tgt_name rfl (.inl (by decide +kernel))) (fun _ _ => rfl) (fun _ _ => rfl) (fun _ => rfl)) <|
    @block_cons _ _ _ _ _ _ _ (@stmt_assign _ _ _ _ _ _ _ _ (@sound_bin _ _ _ _ _ _ _ _ _ _ op_add (sound_var rfl (hd := by decide) (hn := by decide)) (sound_int)) (tgt_name rfl (.inl (by decide +kernel))) (fun _ _ => rfl) (fun _ _ => rfl) (fun _ => rfl)) <|
    block_nil)) <|
    @block_cons _ _ _ _ _ _ _ (@stmt_ret _ _ _ _ _ _ (@sound_list _ _ _ _ _ _ (@list_consP _ _ _ _ _ _ _ (sound_var rfl (hd := by decide) (hn := by decide)) (@list_consP _ _ _ _ _ _ _ (sound_var rfl (hd := by decide) (hn := by decide)) (@list_consP _ _ _ _ _ _ _ (@sound_bin _ _ _ _ _ _ _ _ _ _ op_add (sound_var rfl (hd := by decide) (hn := by decide)) (sound_int)) (@list_consP _ _ _ _ _ _ _ (@sound_bin _ _ _ _ _ _ _ _ _ _ op_div (sound_var rfl (hd := by decide) (hn := by decide)) (sound_int)) (@list_consP _ _ _ _ _ _ _ (@sound_bin _ _ _ _ _ _ _ _ _ _ op_mod (@sound_bin _ _ _ _ _ _ _ _ _ _ op_div (sound_var rfl (hd := by decide) (hn := by decide)) (sound_int)) (sound_int)) (@list_consP _ _ _ _ _ _ _ (@sound_bin _ _ _ _ _ _ _ _ _ _ op_mod (sound_var rfl (hd := by decide) (hn := by decide)) (sound_int)) (@list_consP _ _ _ _ _ _ _ (@sound_bin _ _ _ _ _ _ _ _ _ _ op_mod (sound_var rfl (hd := by decide) (hn := by decide)) (sound_int)) (list_nil) rfl) rfl) rfl) rfl) rfl) rfl) rfl))) <|
    block_nil) rfl (by decide +kernel) (fun _ _ _ vs h => by obtain ⟨v0, rfl⟩ := len1 h; rfl) (by decide +kernel) (hco := rfl) (hgen := rfl) (hk := rfl)
def l__law_zone_1 : AS := sCons (sAssign (gName 13) (aBin opAdd (aBin opAdd (aVar 13) (aBin opItem (aVar 17) (aBin opDiv (aVar 16) (aCst (.int 10))))) (aBin opItem (aVar 17) (aBin opMod (aVar 16) (aCst (.int 10)))))) <|
    sNil
theorem m_l__law_zone_1 : MonoS l__law_zone_1 := by
  unfold l__law_zone_1
  repeat' first | with_reducible apply m_var | with_reducible apply m_cst | with_reducible apply ms_nil | with_reducible apply ms_cons | with_reducible apply ms_assign | with_reducible apply ms_ret | with_reducible apply ms_ret0 | with_reducible apply ms_cont | with_reducible apply ms_if | with_reducible apply ms_expr | with_reducible apply ms_aug | with_reducible apply ms_augsub | with_reducible apply ms_for | with_reducible apply ms_while | with_reducible apply m_bin | with_reducible apply m_un | with_reducible apply m_cmp | with_reducible apply mt_val | with_reducible apply mt_not | with_reducible apply mt_and | with_reducible apply mt_or | with_reducible apply mt_true | with_reducible apply mt_false | with_reducible apply mt_cmp | with_reducible apply mt_cmp2 | with_reducible apply m_not | with_reducible apply m_if | with_reducible apply m_and | with_reducible apply m_or | with_reducible apply ml_nil | with_reducible apply ml_cons | with_reducible apply m_tup | with_reducible apply m_list | with_reducible apply m_call | with_reducible apply m_meth | with_reducible apply m_slice | with_reducible apply m_comp | with_reducible apply m_comp2 | with_reducible apply m_genlist | with_reducible apply ms_forg | with_reducible apply mg_name | with_reducible apply mg_sub | with_reducible apply mg_tup | with_reducible apply MonoGs.nil | with_reducible apply MonoGs.cons | with_reducible apply mo_add | with_reducible apply mo_iadd | with_reducible apply mo_sub | with_reducible apply mo_mul | with_reducible apply mo_div | with_reducible apply mo_mod | with_reducible apply mo_neg | with_reducible apply mo_item | with_reducible apply mf_len | with_reducible apply mf_range | with_reducible apply mf_list | with_reducible apply mf_tuple | with_reducible apply mf_append | with_reducible apply mf_insert | with_reducible apply mf_pop | with_reducible apply mf_chr | with_reducible apply mf_sjoin | with_reducible apply mf_all | with_reducible apply mf_any | with_reducible apply mf_sum | with_reducible apply mf_min | with_reducible apply mo_fmt | with_reducible apply mo_mulis | with_reducible apply mf_divmod | with_reducible apply mf_abs | with_reducible apply mf_sindex | with_reducible apply mf_index | with_reducible apply mg_tupl
def f__law_zone : AF := aFn [12] <|
    sCons (sAssign (gTup [gName 15, gName 14]) (aCall fDivmod (lCons (aCall fAbs (lCons (aVar 12) (lNil))) (lCons (aCst (.int 60)) (lNil))))) <|
    sCons (sAssign (gName 17) (aCst (.str [48, 49, 50, 51, 52, 53, 54, 55, 56, 57]))) <|
    sCons (sAssign (gName 13) (aIf (tCmp .Lt (aVar 12) (aCst (.int 0))) (aCst (.str [45])) (aCst (.str [43])))) <|
    sCons (sFor (gName 16) (aTup (lCons (aVar 15) (lCons (aVar 14) (lNil)))) (l__law_zone_1)) <|
    sCons (sRet (aVar 13)) <|
    sNil
theorem m_f__law_zone : MonoF f__law_zone := by
  unfold f__law_zone
  apply mf_fn
  repeat' first | with_reducible apply m_var | with_reducible apply m_cst | with_reducible apply ms_nil | with_reducible apply ms_cons | with_reducible apply ms_assign | with_reducible apply ms_ret | with_reducible apply ms_ret0 | with_reducible apply ms_cont | with_reducible apply ms_if | with_reducible apply ms_expr | with_reducible apply ms_aug | with_reducible apply ms_augsub | with_reducible apply ms_for | with_reducible apply ms_while | with_reducible apply m_bin | with_reducible apply m_un | with_reducible apply m_cmp | with_reducible apply mt_val | with_reducible apply mt_not | with_reducible apply mt_and | with_reducible apply mt_or | with_reducible apply mt_true | with_reducible apply mt_false | with_reducible apply mt_cmp | with_reducible apply mt_cmp2 | with_reducible apply m_not | with_reducible apply m_if | with_reducible apply m_and | with_reducible apply m_or | with_reducible apply ml_nil | with_reducible apply ml_cons | with_reducible apply m_tup | with_reducible apply m_list | with_reducible apply m_call | with_reducible apply m_meth | with_reducible apply m_slice | with_reducible apply m_comp | with_reducible apply m_comp2 | with_reducible apply m_genlist | with_reducible apply ms_forg | with_reducible apply mg_name | with_reducible apply mg_sub | with_reducible apply mg_tup | with_reducible apply MonoGs.nil | with_reducible apply MonoGs.cons | with_reducible apply mo_add | with_reducible apply mo_iadd | with_reducible apply mo_sub | with_reducible apply mo_mul | with_reducible apply mo_div | with_reducible apply mo_mod | with_reducible apply mo_neg | with_reducible apply mo_item | with_reducible apply mf_len | with_reducible apply mf_range | with_reducible apply mf_list | with_reducible apply mf_tuple | with_reducible apply mf_append | with_reducible apply mf_insert | with_reducible apply mf_pop | with_reducible apply mf_chr | with_reducible apply mf_sjoin | with_reducible apply mf_all | with_reducible apply mf_any | with_reducible apply mf_sum | with_reducible apply mf_min | with_reducible apply mo_fmt | with_reducible apply mo_mulis | with_reducible apply mf_divmod | with_reducible apply mf_abs | with_reducible apply mf_sindex | with_reducible apply mf_index | with_reducible apply mg_tupl | with_reducible apply m_l__law_zone_1
theorem s__law_zone (c : Cx) (hd : fnRec prg 5 ∈ recsOf c.q) (b_abs : c.mg (Str.ofString "abs") = none) (b_divmod : c.mg (Str.ofString "divmod") = none) : SoundF (c.on NN NN_nodup) 1 (Str.ofString "_law_zone") f__law_zone :=
  sound_fn (c := c.on NN NN_nodup) (d := fnRec prg 5) (xs := [Str.ofString "minutes"]) hd (
    @block_cons _ _ _ _ _ _ _ (@stmt_assign _ _ _ _ _ _ _ _ (sound_bi bi_divmod rfl b_divmod (by decide +kernel) (by decide +kernel) (@list_consP _ _ _ _ _ _ _ (sound_bi bi_abs rfl b_abs (by decide +kernel) (by decide +kernel) (@list_consP _ _ _ _ _ _ _ (sound_var rfl (hd := by decide) (hn := by decide)) (list_nil) rfl) (by decide +kernel) (hd := by decide) (he' := fun _ => rfl) (hp := fun _ => rfl)) (@list_consP _ _ _ _ _ _ _ (sound_int) (list_nil) rfl) rfl) (by decide +kernel) (hd := by decide) (he' := fun _ => rfl) (hp := fun _ => rfl)) (tgt_tup (.cons (tgt_name rfl (.inl (by decide +kernel))) (fun _ => rfl) (.cons (tgt_name rfl (.inl (by decide +kernel))) (fun _ => rfl) (.nil)))) (fun _ _ => rfl) (fun _ _ => rfl) (fun _ => rfl)) <|
    @block_cons _ _ _ _ _ _ _ (@stmt_assign _ _ _ _ _ _ _ _ (sound_str (hx := rfl) (hy := rfl)) (tgt_name rfl (.inl (by decide +kernel))) (fun _ _ => rfl) (fun _ _ => rfl) (fun _ => rfl)) <|
    @block_cons _ _ _ _ _ _ _ (@stmt_assign _ _ _ _ _ _ _ _ (sound_if (test_cmp (sound_var rfl (hd := by decide) (hn := by decide)) (sound_int) (hm := by with_unfolding_all rfl)) (sound_str (hx := rfl) (hy := rfl)) (sound_str (hx := rfl) (hy := rfl))) (tgt_name rfl (.inl (by decide +kernel))) (fun _ _ => rfl) (fun _ _ => rfl) (fun _ => rfl)) <|
    @block_cons _ _ _ _ _ _ _ (stmt_for (@sound_tup _ _ _ _ _ _ _ (@list_consP _ _ _ _ _ _ _ (sound_var rfl (hd := by decide) (hn := by decide)) (@list_consP _ _ _ _ _ _ _ (sound_var rfl (hd := by decide) (hn := by decide)) (list_nil) rfl) rfl)) (tgt_name rfl (.inl (by decide +kernel))) (@block_cons _ _ _ _ _ _ _ (@stmt_assign _ _ _ _ _ _ _ _ (@sound_bin _ _ _ _ _ _ _ _ _ _ op_add (@sound_bin _ _ _ _ _ _ _ _ _ _ op_add (sound_var rfl (hd := by decide) (hn := by decide)) (@sound_sub _ _ _ _ _ _ _ _ (sound_var rfl (hd := by decide) (hn := by decide)) (@sound_bin _ _ _ _ _ _ _ _ _ _ op_div (sound_var rfl (hd := by decide) (hn := by decide)) (sound_int)))) (@sound_sub _ _ _ _ _ _ _ _ (sound_var rfl (hd := by decide) (hn := by decide)) (@sound_bin _ _ _ _ _ _ _ _ _ _ op_mod (sound_var rfl (hd := by decide) (hn := by decide)) (sound_int)))) (tgt_name rfl (.inl (by decide +kernel))) (fun _ _ => rfl) (fun _ _ => rfl) (fun _ => rfl)) <|
    block_nil) (hf := fun _ _ => rfl) (ht := by first | exact .inl ⟨_, _, _, rfl⟩ | exact .inr fun _ _ => rfl)) <|
    @block_cons _ _ _ _ _ _ _ (@stmt_ret _ _ _ _ _ _ (sound_var rfl (hd := by decide) (hn := by decide))) <|
    block_nil) rfl (by decide +kernel) (fun _ _ _ vs h => by obtain ⟨v0, rfl⟩ := len1 h; rfl) (by decide +kernel) (hco := rfl) (hgen := rfl) (hk := rfl)
def l__law_number_1 : AS := sCons (sRet (aUn opNeg (aCst (.int 1)))) <|
    sNil
theorem m_l__law_number_1 : MonoS l__law_number_1 := by
  unfold l__law_number_1
  repeat' first | with_reducible apply m_var | with_reducible apply m_cst | with_reducible apply ms_nil | with_reducible apply ms_cons | with_reducible apply ms_assign | with_reducible apply ms_ret | with_reducible apply ms_ret0 | with_reducible apply ms_cont | with_reducible apply ms_if | with_reducible apply ms_expr | with_reducible apply ms_aug | with_reducible apply ms_augsub | with_reducible apply ms_for | with_reducible apply ms_while | with_reducible apply m_bin | with_reducible apply m_un | with_reducible apply m_cmp | with_reducible apply mt_val | with_reducible apply mt_not | with_reducible apply mt_and | with_reducible apply mt_or | with_reducible apply mt_true | with_reducible apply mt_false | with_reducible apply mt_cmp | with_reducible apply mt_cmp2 | with_reducible apply m_not | with_reducible apply m_if | with_reducible apply m_and | with_reducible apply m_or | with_reducible apply ml_nil | with_reducible apply ml_cons | with_reducible apply m_tup | with_reducible apply m_list | with_reducible apply m_call | with_reducible apply m_meth | with_reducible apply m_slice | with_reducible apply m_comp | with_reducible apply m_comp2 | with_reducible apply m_genlist | with_reducible apply ms_forg | with_reducible apply mg_name | with_reducible apply mg_sub | with_reducible apply mg_tup | with_reducible apply MonoGs.nil | with_reducible apply MonoGs.cons | with_reducible apply mo_add | with_reducible apply mo_iadd | with_reducible apply mo_sub | with_reducible apply mo_mul | with_reducible apply mo_div | with_reducible apply mo_mod | with_reducible apply mo_neg | with_reducible apply mo_item | with_reducible apply mf_len | with_reducible apply mf_range | with_reducible apply mf_list | with_reducible apply mf_tuple | with_reducible apply mf_append | with_reducible apply mf_insert | with_reducible apply mf_pop | with_reducible apply mf_chr | with_reducible apply mf_sjoin | with_reducible apply mf_all | with_reducible apply mf_any | with_reducible apply mf_sum | with_reducible apply mf_min | with_reducible apply mo_fmt | with_reducible apply mo_mulis | with_reducible apply mf_divmod | with_reducible apply mf_abs | with_reducible apply mf_sindex | with_reducible apply mf_index | with_reducible apply mg_tupl
def l__law_number_2 : AS := sCons (sIf (tCmp .NotIn (aVar 18) (aCst (.str [48, 49, 50, 51, 52, 53, 54, 55, 56, 57]))) (l__law_number_1) (sNil)) <|
    sCons (sAssign (gName 16) (aBin opAdd (aBin opMul (aCst (.int 10)) (aVar 16)) (aMeth kStr fSIndex (aCst (.str [48, 49, 50, 51, 52, 53, 54, 55, 56, 57])) (lCons (aVar 18) (lNil))))) <|
    sNil
theorem m_l__law_number_2 : MonoS l__law_number_2 := by
  unfold l__law_number_2
  repeat' first | with_reducible apply m_var | with_reducible apply m_cst | with_reducible apply ms_nil | with_reducible apply ms_cons | with_reducible apply ms_assign | with_reducible apply ms_ret | with_reducible apply ms_ret0 | with_reducible apply ms_cont | with_reducible apply ms_if | with_reducible apply ms_expr | with_reducible apply ms_aug | with_reducible apply ms_augsub | with_reducible apply ms_for | with_reducible apply ms_while | with_reducible apply m_bin | with_reducible apply m_un | with_reducible apply m_cmp | with_reducible apply mt_val | with_reducible apply mt_not | with_reducible apply mt_and | with_reducible apply mt_or | with_reducible apply mt_true | with_reducible apply mt_false | with_reducible apply mt_cmp | with_reducible apply mt_cmp2 | with_reducible apply m_not | with_reducible apply m_if | with_reducible apply m_and | with_reducible apply m_or | with_reducible apply ml_nil | with_reducible apply ml_cons | with_reducible apply m_tup | with_reducible apply m_list | with_reducible apply m_call | with_reducible apply m_meth | with_reducible apply m_slice | with_reducible apply m_comp | with_reducible apply m_comp2 | with_reducible apply m_genlist | with_reducible apply ms_forg | with_reducible apply mg_name | with_reducible apply mg_sub | with_reducible apply mg_tup | with_reducible apply MonoGs.nil | with_reducible apply MonoGs.cons | with_reducible apply mo_add | with_reducible apply mo_iadd | with_reducible apply mo_sub | with_reducible apply mo_mul | with_reducible apply mo_div | with_reducible apply mo_mod | with_reducible apply mo_neg | with_reducible apply mo_item | with_reducible apply mf_len | with_reducible apply mf_range | with_reducible apply mf_list | with_reducible apply mf_tuple | with_reducible apply mf_append | with_reducible apply mf_insert | with_reducible apply mf_pop | with_reducible apply mf_chr | with_reducible apply mf_sjoin | with_reducible apply mf_all | with_reducible apply mf_any | with_reducible apply mf_sum | with_reducible apply mf_min | with_reducible apply mo_fmt | with_reducible apply mo_mulis | with_reducible apply mf_divmod | with_reducible apply mf_abs | with_reducible apply mf_sindex | with_reducible apply mf_index | with_reducible apply mg_tupl | with_reducible apply m_l__law_number_1
def f__law_number : AF := aFn [13] <|
    sCons (sAssign (gName 16) (aCst (.int 0))) <|
    sCons (sFor (gName 18) (aVar 13) (l__law_number_2)) <|
    sCons (sRet (aVar 16)) <|
    sNil
theorem m_f__law_number : MonoF f__law_number := by
  unfold f__law_number
  apply mf_fn
  repeat' first | with_reducible apply m_var | with_reducible apply m_cst | with_reducible apply ms_nil | with_reducible apply ms_cons | with_reducible apply ms_assign | with_reducible apply ms_ret | with_reducible apply ms_ret0 | with_reducible apply ms_cont | with_reducible apply ms_if | with_reducible apply ms_expr | with_reducible apply ms_aug | with_reducible apply ms_augsub | with_reducible apply ms_for | with_reducible apply ms_while | with_reducible apply m_bin | with_reducible apply m_un | with_reducible apply m_cmp | with_reducible apply mt_val | with_reducible apply mt_not | with_reducible apply mt_and | with_reducible apply mt_or | with_reducible apply mt_true | with_reducible apply mt_false | with_reducible apply mt_cmp | with_reducible apply mt_cmp2 | with_reducible apply m_not | with_reducible apply m_if | with_reducible apply m_and | with_reducible apply m_or | with_reducible apply ml_nil | with_reducible apply ml_cons | with_reducible apply m_tup | with_reducible apply m_list | with_reducible apply m_call | with_reducible apply m_meth | with_reducible apply m_slice | with_reducible apply m_comp | with_reducible apply m_comp2 | with_reducible apply m_genlist | with_reducible apply ms_forg | with_reducible apply mg_name | with_reducible apply mg_sub | with_reducible apply mg_tup | with_reducible apply MonoGs.nil | with_reducible apply MonoGs.cons | with_reducible apply mo_add | with_reducible apply mo_iadd | with_reducible apply mo_sub | with_reducible apply mo_mul | with_reducible apply mo_div | with_reducible apply mo_mod | with_reducible apply mo_neg | with_reducible apply mo_item | with_reducible apply mf_len | with_reducible apply mf_range | with_reducible apply mf_list | with_reducible apply mf_tuple | with_reducible apply mf_append | with_reducible apply mf_insert | with_reducible apply mf_pop | with_reducible apply mf_chr | with_reducible apply mf_sjoin | with_reducible apply mf_all | with_reducible apply mf_any | with_reducible apply mf_sum | with_reducible apply mf_min | with_reducible apply mo_fmt | with_reducible apply mo_mulis | with_reducible apply mf_divmod | with_reducible apply mf_abs | with_reducible apply mf_sindex | with_reducible apply mf_index | with_reducible apply mg_tupl | with_reducible apply m_l__law_number_1 | with_reducible apply m_l__law_number_2
theorem s__law_number (c : Cx) (hd : fnRec prg 6 ∈ recsOf c.q) : SoundF (c.on NN NN_nodup) 1 (Str.ofString "_law_number") f__law_number :=
  sound_fn (c := c.on NN NN_nodup) (d := fnRec prg 6) (xs := [Str.ofString "text"]) hd (
    @block_cons _ _ _ _ _ _ _ (@stmt_assign _ _ _ _ _ _ _ _ (sound_int) (tgt_name rfl (.inl (by decide +kernel))) (fun _ _ => rfl) (fun _ _ => rfl) (fun _ => rfl)) <|
    @block_cons _ _ _ _ _ _ _ (stmt_for (sound_var rfl (hd := by decide) (hn := by decide)) (tgt_name rfl (.inl (by decide +kernel))) (@block_cons _ _ _ _ _ _ _ (stmt_if (test_cmp (sound_var rfl (hd := by decide) (hn := by decide)) (sound_str (hx := rfl) (hy := rfl)) (hm := by with_unfolding_all rfl)) (@block_cons _ _ _ _ _ _ _ (@stmt_ret _ _ _ _ _ _ (@sound_un _ _ _ _ _ _ _ _ op_negI (sound_int))) <|
    block_nil) (block_nil)) <|
    @block_cons _ _ _ _ _ _ _ (@stmt_assign _ _ _ _ _ _ _ _ (@sound_bin _ _ _ _ _ _ _ _ _ _ op_add (@sound_bin _ _ _ _ _ _ _ _ _ _ op_mul (sound_int) (sound_var rfl (hd := by decide) (hn := by decide))) (@sound_meth _ _ _ _ _ _ _ _ _ _ _ _ _ _ F.slot_str_index F.type_str_index F.plainAttrs_str kind_str me_sindex (sound_str (hx := rfl) (hy := rfl)) (@list_consP _ _ _ _ _ _ _ (sound_var rfl (hd := by decide) (hn := by decide)) (list_nil) rfl) (.inr ⟨_, _, rfl, fun _ => ⟨rfl, rfl⟩⟩) (fun _ => rfl) (fun _ => rfl) rfl)) (tgt_name rfl (.inl (by decide +kernel))) (fun _ _ => rfl) (fun _ _ => rfl) (fun _ => rfl)) <|
    block_nil) (hf := fun _ _ => rfl) (ht := by first | exact .inl ⟨_, _, _, rfl⟩ | exact .inr fun _ _ => rfl)) <|
    @block_cons _ _ _ _ _ _ _ (@stmt_ret _ _ _ _ _ _ (sound_var rfl (hd := by decide) (hn := by decide))) <|
    block_nil) rfl (by decide +kernel) (fun _ _ _ vs h => by obtain ⟨v0, rfl⟩ := len1 h; rfl) (by decide +kernel) (hco := rfl) (hgen := rfl) (hk := rfl)
def l__law_instant_1 : AS := sCons (sRet (aCst .none)) <|
    sNil
theorem m_l__law_instant_1 : MonoS l__law_instant_1 := by
  unfold l__law_instant_1
  repeat' first | with_reducible apply m_var | with_reducible apply m_cst | with_reducible apply ms_nil | with_reducible apply ms_cons | with_reducible apply ms_assign | with_reducible apply ms_ret | with_reducible apply ms_ret0 | with_reducible apply ms_cont | with_reducible apply ms_if | with_reducible apply ms_expr | with_reducible apply ms_aug | with_reducible apply ms_augsub | with_reducible apply ms_for | with_reducible apply ms_while | with_reducible apply m_bin | with_reducible apply m_un | with_reducible apply m_cmp | with_reducible apply mt_val | with_reducible apply mt_not | with_reducible apply mt_and | with_reducible apply mt_or | with_reducible apply mt_true | with_reducible apply mt_false | with_reducible apply mt_cmp | with_reducible apply mt_cmp2 | with_reducible apply m_not | with_reducible apply m_if | with_reducible apply m_and | with_reducible apply m_or | with_reducible apply ml_nil | with_reducible apply ml_cons | with_reducible apply m_tup | with_reducible apply m_list | with_reducible apply m_call | with_reducible apply m_meth | with_reducible apply m_slice | with_reducible apply m_comp | with_reducible apply m_comp2 | with_reducible apply m_genlist | with_reducible apply ms_forg | with_reducible apply mg_name | with_reducible apply mg_sub | with_reducible apply mg_tup | with_reducible apply MonoGs.nil | with_reducible apply MonoGs.cons | with_reducible apply mo_add | with_reducible apply mo_iadd | with_reducible apply mo_sub | with_reducible apply mo_mul | with_reducible apply mo_div | with_reducible apply mo_mod | with_reducible apply mo_neg | with_reducible apply mo_item | with_reducible apply mf_len | with_reducible apply mf_range | with_reducible apply mf_list | with_reducible apply mf_tuple | with_reducible apply mf_append | with_reducible apply mf_insert | with_reducible apply mf_pop | with_reducible apply mf_chr | with_reducible apply mf_sjoin | with_reducible apply mf_all | with_reducible apply mf_any | with_reducible apply mf_sum | with_reducible apply mf_min | with_reducible apply mo_fmt | with_reducible apply mo_mulis | with_reducible apply mf_divmod | with_reducible apply mf_abs | with_reducible apply mf_sindex | with_reducible apply mf_index | with_reducible apply mg_tupl | with_reducible apply m_f__law_length | with_reducible apply m_f__law_number
def l__law_instant_2 : AS := sCons (sAssign (gName 5) (aBin opSub (aBin opAdd (aVar 5) (aCall f__law_length (lCons (aVar 2) (lCons (aCst (.int 2)) (lNil))))) (aCst (.int 30)))) <|
    sNil
theorem m_l__law_instant_2 : MonoS l__law_instant_2 := by
  unfold l__law_instant_2
  repeat' first | with_reducible apply m_var | with_reducible apply m_cst | with_reducible apply ms_nil | with_reducible apply ms_cons | with_reducible apply ms_assign | with_reducible apply ms_ret | with_reducible apply ms_ret0 | with_reducible apply ms_cont | with_reducible apply ms_if | with_reducible apply ms_expr | with_reducible apply ms_aug | with_reducible apply ms_augsub | with_reducible apply ms_for | with_reducible apply ms_while | with_reducible apply m_bin | with_reducible apply m_un | with_reducible apply m_cmp | with_reducible apply mt_val | with_reducible apply mt_not | with_reducible apply mt_and | with_reducible apply mt_or | with_reducible apply mt_true | with_reducible apply mt_false | with_reducible apply mt_cmp | with_reducible apply mt_cmp2 | with_reducible apply m_not | with_reducible apply m_if | with_reducible apply m_and | with_reducible apply m_or | with_reducible apply ml_nil | with_reducible apply ml_cons | with_reducible apply m_tup | with_reducible apply m_list | with_reducible apply m_call | with_reducible apply m_meth | with_reducible apply m_slice | with_reducible apply m_comp | with_reducible apply m_comp2 | with_reducible apply m_genlist | with_reducible apply ms_forg | with_reducible apply mg_name | with_reducible apply mg_sub | with_reducible apply mg_tup | with_reducible apply MonoGs.nil | with_reducible apply MonoGs.cons | with_reducible apply mo_add | with_reducible apply mo_iadd | with_reducible apply mo_sub | with_reducible apply mo_mul | with_reducible apply mo_div | with_reducible apply mo_mod | with_reducible apply mo_neg | with_reducible apply mo_item | with_reducible apply mf_len | with_reducible apply mf_range | with_reducible apply mf_list | with_reducible apply mf_tuple | with_reducible apply mf_append | with_reducible apply mf_insert | with_reducible apply mf_pop | with_reducible apply mf_chr | with_reducible apply mf_sjoin | with_reducible apply mf_all | with_reducible apply mf_any | with_reducible apply mf_sum | with_reducible apply mf_min | with_reducible apply mo_fmt | with_reducible apply mo_mulis | with_reducible apply mf_divmod | with_reducible apply mf_abs | with_reducible apply mf_sindex | with_reducible apply mf_index | with_reducible apply mg_tupl | with_reducible apply m_f__law_length | with_reducible apply m_f__law_number | with_reducible apply m_l__law_instant_1
def l__law_instant_3 : AS := sCons (sRet (aCst .none)) <|
    sNil
theorem m_l__law_instant_3 : MonoS l__law_instant_3 := by
  unfold l__law_instant_3
  repeat' first | with_reducible apply m_var | with_reducible apply m_cst | with_reducible apply ms_nil | with_reducible apply ms_cons | with_reducible apply ms_assign | with_reducible apply ms_ret | with_reducible apply ms_ret0 | with_reducible apply ms_cont | with_reducible apply ms_if | with_reducible apply ms_expr | with_reducible apply ms_aug | with_reducible apply ms_augsub | with_reducible apply ms_for | with_reducible apply ms_while | with_reducible apply m_bin | with_reducible apply m_un | with_reducible apply m_cmp | with_reducible apply mt_val | with_reducible apply mt_not | with_reducible apply mt_and | with_reducible apply mt_or | with_reducible apply mt_true | with_reducible apply mt_false | with_reducible apply mt_cmp | with_reducible apply mt_cmp2 | with_reducible apply m_not | with_reducible apply m_if | with_reducible apply m_and | with_reducible apply m_or | with_reducible apply ml_nil | with_reducible apply ml_cons | with_reducible apply m_tup | with_reducible apply m_list | with_reducible apply m_call | with_reducible apply m_meth | with_reducible apply m_slice | with_reducible apply m_comp | with_reducible apply m_comp2 | with_reducible apply m_genlist | with_reducible apply ms_forg | with_reducible apply mg_name | with_reducible apply mg_sub | with_reducible apply mg_tup | with_reducible apply MonoGs.nil | with_reducible apply MonoGs.cons | with_reducible apply mo_add | with_reducible apply mo_iadd | with_reducible apply mo_sub | with_reducible apply mo_mul | with_reducible apply mo_div | with_reducible apply mo_mod | with_reducible apply mo_neg | with_reducible apply mo_item | with_reducible apply mf_len | with_reducible apply mf_range | with_reducible apply mf_list | with_reducible apply mf_tuple | with_reducible apply mf_append | with_reducible apply mf_insert | with_reducible apply mf_pop | with_reducible apply mf_chr | with_reducible apply mf_sjoin | with_reducible apply mf_all | with_reducible apply mf_any | with_reducible apply mf_sum | with_reducible apply mf_min | with_reducible apply mo_fmt | with_reducible apply mo_mulis | with_reducible apply mf_divmod | with_reducible apply mf_abs | with_reducible apply mf_sindex | with_reducible apply mf_index | with_reducible apply mg_tupl | with_reducible apply m_f__law_length | with_reducible apply m_f__law_number | with_reducible apply m_l__law_instant_1 | with_reducible apply m_l__law_instant_2
def l__law_instant_4 : AS := sCons (sRet (aCst .none)) <|
    sNil
theorem m_l__law_instant_4 : MonoS l__law_instant_4 := by
  unfold l__law_instant_4
  repeat' first | with_reducible apply m_var | with_reducible apply m_cst | with_reducible apply ms_nil | with_reducible apply ms_cons | with_reducible apply ms_assign | with_reducible apply ms_ret | with_reducible apply ms_ret0 | with_reducible apply ms_cont | with_reducible apply ms_if | with_reducible apply ms_expr | with_reducible apply ms_aug | with_reducible apply ms_augsub | with_reducible apply ms_for | with_reducible apply ms_while | with_reducible apply m_bin | with_reducible apply m_un | with_reducible apply m_cmp | with_reducible apply mt_val | with_reducible apply mt_not | with_reducible apply mt_and | with_reducible apply mt_or | with_reducible apply mt_true | with_reducible apply mt_false | with_reducible apply mt_cmp | with_reducible apply mt_cmp2 | with_reducible apply m_not | with_reducible apply m_if | with_reducible apply m_and | with_reducible apply m_or | with_reducible apply ml_nil | with_reducible apply ml_cons | with_reducible apply m_tup | with_reducible apply m_list | with_reducible apply m_call | with_reducible apply m_meth | with_reducible apply m_slice | with_reducible apply m_comp | with_reducible apply m_comp2 | with_reducible apply m_genlist | with_reducible apply ms_forg | with_reducible apply mg_name | with_reducible apply mg_sub | with_reducible apply mg_tup | with_reducible apply MonoGs.nil | with_reducible apply MonoGs.cons | with_reducible apply mo_add | with_reducible apply mo_iadd | with_reducible apply mo_sub | with_reducible apply mo_mul | with_reducible apply mo_div | with_reducible apply mo_mod | with_reducible apply mo_neg | with_reducible apply mo_item | with_reducible apply mf_len | with_reducible apply mf_range | with_reducible apply mf_list | with_reducible apply mf_tuple | with_reducible apply mf_append | with_reducible apply mf_insert | with_reducible apply mf_pop | with_reducible apply mf_chr | with_reducible apply mf_sjoin | with_reducible apply mf_all | with_reducible apply mf_any | with_reducible apply mf_sum | with_reducible apply mf_min | with_reducible apply mo_fmt | with_reducible apply mo_mulis | with_reducible apply mf_divmod | with_reducible apply mf_abs | with_reducible apply mf_sindex | with_reducible apply mf_index | with_reducible apply mg_tupl | with_reducible apply m_f__law_length | with_reducible apply m_f__law_number | with_reducible apply m_l__law_instant_1 | with_reducible apply m_l__law_instant_2 | with_reducible apply m_l__law_instant_3
def l__law_instant_5 : AS := sCons (sRet (aCst .none)) <|
    sNil
theorem m_l__law_instant_5 : MonoS l__law_instant_5 := by
  unfold l__law_instant_5
  repeat' first | with_reducible apply m_var | with_reducible apply m_cst | with_reducible apply ms_nil | with_reducible apply ms_cons | with_reducible apply ms_assign | with_reducible apply ms_ret | with_reducible apply ms_ret0 | with_reducible apply ms_cont | with_reducible apply ms_if | with_reducible apply ms_expr | with_reducible apply ms_aug | with_reducible apply ms_augsub | with_reducible apply ms_for | with_reducible apply ms_while | with_reducible apply m_bin | with_reducible apply m_un | with_reducible apply m_cmp | with_reducible apply mt_val | with_reducible apply mt_not | with_reducible apply mt_and | with_reducible apply mt_or | with_reducible apply mt_true | with_reducible apply mt_false | with_reducible apply mt_cmp | with_reducible apply mt_cmp2 | with_reducible apply m_not | with_reducible apply m_if | with_reducible apply m_and | with_reducible apply m_or | with_reducible apply ml_nil | with_reducible apply ml_cons | with_reducible apply m_tup | with_reducible apply m_list | with_reducible apply m_call | with_reducible apply m_meth | with_reducible apply m_slice | with_reducible apply m_comp | with_reducible apply m_comp2 | with_reducible apply m_genlist | with_reducible apply ms_forg | with_reducible apply mg_name | with_reducible apply mg_sub | with_reducible apply mg_tup | with_reducible apply MonoGs.nil | with_reducible apply MonoGs.cons | with_reducible apply mo_add | with_reducible apply mo_iadd | with_reducible apply mo_sub | with_reducible apply mo_mul | with_reducible apply mo_div | with_reducible apply mo_mod | with_reducible apply mo_neg | with_reducible apply mo_item | with_reducible apply mf_len | with_reducible apply mf_range | with_reducible apply mf_list | with_reducible apply mf_tuple | with_reducible apply mf_append | with_reducible apply mf_insert | with_reducible apply mf_pop | with_reducible apply mf_chr | with_reducible apply mf_sjoin | with_reducible apply mf_all | with_reducible apply mf_any | with_reducible apply mf_sum | with_reducible apply mf_min | with_reducible apply mo_fmt | with_reducible apply mo_mulis | with_reducible apply mf_divmod | with_reducible apply mf_abs | with_reducible apply mf_sindex | with_reducible apply mf_index | with_reducible apply mg_tupl | with_reducible apply m_f__law_length | with_reducible apply m_f__law_number | with_reducible apply m_l__law_instant_1 | with_reducible apply m_l__law_instant_2 | with_reducible apply m_l__law_instant_3 | with_reducible apply m_l__law_instant_4
def f__law_instant : AF := aFn [13] <|
    sCons (sAssign (gName 24) (aList (lCons (aCst (.str [77, 111, 110])) (lCons (aCst (.str [84, 117, 101])) (lCons (aCst (.str [87, 101, 100])) (lCons (aCst (.str [84, 104, 117])) (lCons (aCst (.str [70, 114, 105])) (lCons (aCst (.str [83, 97, 116])) (lCons (aCst (.str [83, 117, 110])) (lNil)))))))))) <|
    sCons (sAssign (gName 26) (aList (lCons (aCst (.str [74, 97, 110])) (lCons (aCst (.str [70, 101, 98])) (lCons (aCst (.str [77, 97, 114])) (lCons (aCst (.str [65, 112, 114])) (lCons (aCst (.str [77, 97, 121])) (lCons (aCst (.str [74, 117, 110])) (lCons (aCst (.str [74, 117, 108])) (lCons (aCst (.str [65, 117, 103])) (lCons (aCst (.str [83, 101, 112])) (lCons (aCst (.str [79, 99, 116])) (lCons (aCst (.str [78, 111, 118])) (lCons (aCst (.str [68, 101, 99])) (lNil))))))))))))))) <|
    sCons (sAssign (gName 30) (aBin opAdd (aBin opAdd (aBin opAdd (aBin opAdd (aBin opAdd (aBin opAdd (aBin opAdd (aBin opItem (aVar 13) (aCst (.int 3))) (aBin opItem (aVar 13) (aCst (.int 4)))) (aBin opItem (aVar 13) (aCst (.int 7)))) (aBin opItem (aVar 13) (aCst (.int 11)))) (aBin opItem (aVar 13) (aCst (.int 16)))) (aBin opItem (aVar 13) (aCst (.int 19)))) (aBin opItem (aVar 13) (aCst (.int 22)))) (aBin opItem (aVar 13) (aCst (.int 25))))) <|
    sCons (sIf (tOr (tCmp .NotEq (aVar 30) (aBin opAdd (aBin opAdd (aCst (.str [44])) (aBin opMulIS (aCst (.int 4)) (aCst (.str [32])))) (aCst (.str [58, 58, 32])))) (tOr (tCmp .NotIn (aSlice (aVar 13) (aCst (.int 8)) (aCst (.int 11)) (aCst .none)) (aVar 26)) (tOr (tCmp .NotIn (aBin opItem (aVar 13) (aCst (.int 26))) (aCst (.str [43, 45]))) (tFalse)))) (l__law_instant_5) (sNil)) <|
    sCons (sAssign (gName 27) (aList (lCons (aTup (lCons (aCst (.int 12)) (lCons (aCst (.int 16)) (lNil)))) (lCons (aTup (lCons (aCst (.int 5)) (lCons (aCst (.int 7)) (lNil)))) (lCons (aTup (lCons (aCst (.int 17)) (lCons (aCst (.int 19)) (lNil)))) (lCons (aTup (lCons (aCst (.int 20)) (lCons (aCst (.int 22)) (lNil)))) (lCons (aTup (lCons (aCst (.int 23)) (lCons (aCst (.int 25)) (lNil)))) (lCons (aTup (lCons (aCst (.int 27)) (lCons (aCst (.int 29)) (lNil)))) (lCons (aTup (lCons (aCst (.int 29)) (lCons (aCst (.int 31)) (lNil)))) (lNil)))))))))) <|
    sCons (sAssign (gTupL [gName 2, gName 25, gName 22, gName 23, gName 6, gName 21, gName 14]) (aComp [13] (gTup [gName 28, gName 29]) (aVar 27) (tTrue) (aCall f__law_number (lCons (aSlice (aVar 13) (aVar 28) (aVar 29) (aCst .none)) (lNil))))) <|
    sCons (sAssign (gName 3) (aBin opAdd (aMeth kList fIndex (aVar 26) (lCons (aSlice (aVar 13) (aCst (.int 8)) (aCst (.int 11)) (aCst .none)) (lNil))) (aCst (.int 1)))) <|
    sCons (sIf (tOr (tCmp .Lt (aVar 2) (aCst (.int 1))) (tOr (tNot (tCmp2 .LtE (aCst (.int 1)) .LtE (aVar 25) (aCall f__law_length (lCons (aVar 2) (lCons (aVar 3) (lNil)))))) (tFalse))) (l__law_instant_4) (sNil)) <|
    sCons (sIf (tNot (tAnd (tCmp2 .LtE (aCst (.int 0)) .Lt (aVar 22) (aCst (.int 24))) (tAnd (tCmp2 .LtE (aCst (.int 0)) .Lt (aVar 23) (aCst (.int 60))) (tAnd (tCmp2 .LtE (aCst (.int 0)) .Lt (aVar 6) (aCst (.int 60))) (tTrue))))) (l__law_instant_3) (sNil)) <|
    sCons (sAssign (gName 5) (aBin opSub (aBin opAdd (aBin opAdd (aBin opSub (aBin opAdd (aBin opMul (aCst (.int 365)) (aBin opSub (aVar 2) (aCst (.int 1)))) (aBin opDiv (aBin opSub (aVar 2) (aCst (.int 1))) (aCst (.int 4)))) (aBin opDiv (aBin opSub (aVar 2) (aCst (.int 1))) (aCst (.int 100)))) (aBin opDiv (aBin opSub (aVar 2) (aCst (.int 1))) (aCst (.int 400)))) (aVar 25)) (aCst (.int 1)))) <|
    sCons (sAssign (gName 5) (aBin opAdd (aVar 5) (aBin opDiv (aBin opSub (aBin opMul (aCst (.int 367)) (aVar 3)) (aCst (.int 362))) (aCst (.int 12))))) <|
    sCons (sIf (tCmp .Gt (aVar 3) (aCst (.int 2))) (l__law_instant_2) (sNil)) <|
    sCons (sIf (tCmp .NotEq (aSlice (aVar 13) (aCst (.int 0)) (aCst (.int 3)) (aCst .none)) (aBin opItem (aVar 24) (aBin opMod (aVar 5) (aCst (.int 7))))) (l__law_instant_1) (sNil)) <|
    sCons (sAssign (gName 19) (aBin opAdd (aBin opAdd (aBin opAdd (aBin opMul (aCst (.int 86400)) (aVar 5)) (aBin opMul (aCst (.int 3600)) (aVar 22))) (aBin opMul (aCst (.int 60)) (aVar 23))) (aVar 6))) <|
    sCons (sAssign (gName 20) (aBin opAdd (aBin opMul (aCst (.int 3600)) (aVar 21)) (aBin opMul (aCst (.int 60)) (aVar 14)))) <|
    sCons (sRet (aIf (tCmp .Eq (aBin opItem (aVar 13) (aCst (.int 26))) (aCst (.str [45]))) (aBin opAdd (aVar 19) (aVar 20)) (aBin opSub (aVar 19) (aVar 20)))) <|
    sNil
theorem m_f__law_instant : MonoF f__law_instant := by
  unfold f__law_instant
  apply mf_fn
  repeat' first | with_reducible apply m_var | with_reducible apply m_cst | with_reducible apply ms_nil | with_reducible apply ms_cons | with_reducible apply ms_assign | with_reducible apply ms_ret | with_reducible apply ms_ret0 | with_reducible apply ms_cont | with_reducible apply ms_if | with_reducible apply ms_expr | with_reducible apply ms_aug | with_reducible apply ms_augsub | with_reducible apply ms_for | with_reducible apply ms_while | with_reducible apply m_bin | with_reducible apply m_un | with_reducible apply m_cmp | with_reducible apply mt_val | with_reducible apply mt_not | with_reducible apply mt_and | with_reducible apply mt_or | with_reducible apply mt_true | with_reducible apply mt_false | with_reducible apply mt_cmp | with_reducible apply mt_cmp2 | with_reducible apply m_not | with_reducible apply m_if | with_reducible apply m_and | with_reducible apply m_or | with_reducible apply ml_nil | with_reducible apply ml_cons | with_reducible apply m_tup | with_reducible apply m_list | with_reducible apply m_call | with_reducible apply m_meth | with_reducible apply m_slice | with_reducible apply m_comp | with_reducible apply m_comp2 | with_reducible apply m_genlist | with_reducible apply ms_forg | with_reducible apply mg_name | with_reducible apply mg_sub | with_reducible apply mg_tup | with_reducible apply MonoGs.nil | with_reducible apply MonoGs.cons | with_reducible apply mo_add | with_reducible apply mo_iadd | with_reducible apply mo_sub | with_reducible apply mo_mul | with_reducible apply mo_div | with_reducible apply mo_mod | with_reducible apply mo_neg | with_reducible apply mo_item | with_reducible apply mf_len | with_reducible apply mf_range | with_reducible apply mf_list | with_reducible apply mf_tuple | with_reducible apply mf_append | with_reducible apply mf_insert | with_reducible apply mf_pop | with_reducible apply mf_chr | with_reducible apply mf_sjoin | with_reducible apply mf_all | with_reducible apply mf_any | with_reducible apply mf_sum | with_reducible apply mf_min | with_reducible apply mo_fmt | with_reducible apply mo_mulis | with_reducible apply mf_divmod | with_reducible apply mf_abs | with_reducible apply mf_sindex | with_reducible apply mf_index | with_reducible apply mg_tupl | with_reducible apply m_f__law_length | with_reducible apply m_f__law_number | with_reducible apply m_l__law_instant_1 | with_reducible apply m_l__law_instant_2 | with_reducible apply m_l__law_instant_3 | with_reducible apply m_l__law_instant_4 | with_reducible apply m_l__law_instant_5
theorem s__law_instant (c : Cx) (hd : fnRec prg 7 ∈ recsOf c.q) (h__law_length : SoundF (c.on NN NN_nodup) 1 (Str.ofString "_law_length") f__law_length) (h__law_number : SoundF (c.on NN NN_nodup) 1 (Str.ofString "_law_number") f__law_number) : SoundF (c.on NN NN_nodup) 2 (Str.ofString "_law_instant") f__law_instant :=
  sound_fn (c := c.on NN NN_nodup) (d := fnRec prg 7) (xs := [Str.ofString "text"]) hd (
    @block_cons _ _ _ _ _ _ _ (@stmt_assign _ _ _ _ _ _ _ _ (@sound_list _ _ _ _ _ _ (@list_consP _ _ _ _ _ _ _ (sound_str (hx := rfl) (hy := rfl)) (@list_consP _ _ _ _ _ _ _ (sound_str (hx := rfl) (hy := rfl)) (@list_consP _ _ _ _ _ _ _ (sound_str (hx := rfl) (hy := rfl)) (@list_consP _ _ _ _ _ _ _ (sound_str (hx := rfl) (hy := rfl)) (@list_consP _ _ _ _ _ _ _ (sound_str (hx := rfl) (hy := rfl)) (@list_consP _ _ _ _ _ _ _ (sound_str (hx := rfl) (hy := rfl)) (@list_consP _ _ _ _ _ _ _ (sound_str (hx := rfl) (hy := rfl)) (list_nil) rfl) rfl) rfl) rfl) rfl) rfl) rfl)) (tgt_name rfl (.inl (by decide +kernel))) (fun _ _ => rfl) (fun _ _ => rfl) (fun _ => rfl)) <|
    @block_cons _ _ _ _ _ _ _ (@stmt_assign _ _ _ _ _ _ _ _ (@sound_list _ _ _ _ _ _ (@list_consP _ _ _ _ _ _ _ (sound_str (hx := rfl) (hy := rfl)) (@list_consP _ _ _ _ _ _ _ (sound_str (hx := rfl) (hy := rfl)) (@list_consP _ _ _ _ _ _ _ (sound_str (hx := rfl) (hy := rfl)) (@list_consP _ _ _ _ _ _ _ (sound_str (hx := rfl) (hy := rfl)) (@list_consP _ _ _ _ _ _ _ (sound_str (hx := rfl) (hy := rfl)) (@list_consP _ _ _ _ _ _ _ (sound_str (hx := rfl) (hy := rfl)) (@list_consP _ _ _ _ _ _ _ (sound_str (hx := rfl) (hy := rfl)) (@list_consP _ _ _ _ _ _ _ (sound_str (hx := rfl) (hy := rfl)) (@list_consP _ _ _ _ _ _ _ (sound_str (hx := rfl) (hy := rfl)) (@list_consP _ _ _ _ _ _ _ (sound_str (hx := rfl) (hy := rfl)) (@list_consP _ _ _ _ _ _ _ (sound_str (hx := rfl) (hy := rfl)) (@list_consP _ _ _ _ _ _ _ (sound_str (hx := rfl) (hy := rfl)) (list_nil) rfl) rfl) rfl) rfl) rfl) rfl) rfl) rfl) rfl) rfl) rfl) rfl)) (tgt_name rfl (.inl (by decide +kernel))) (fun _ _ => rfl) (fun _ _ => rfl) (fun _ => rfl)) <|
    @block_cons _ _ _ _ _ _ _ (@stmt_assign _ _ _ _ _ _ _ _ (@sound_bin _ _ _ _ _ _ _ _ _ _ op_add (@sound_bin _ _ _ _ _ _ _ _ _ _ op_add (@sound_bin _ _ _ _ _ _ _ _ _ _ op_add (@sound_bin _ _ _ _ _ _ _ _ _ _ op_add (@sound_bin _ _ _ _ _ _ _ _ _ _ op_add (@sound_bin _ _ _ _ _ _ _ _ _ _ op_add (@sound_bin _ _ _ _ _ _ _ _ _ _ op_add (@sound_sub _ _ _ _ _ _ _ _ (sound_var rfl (hd := by decide) (hn := by decide)) (sound_int)) (@sound_sub _ _ _ _ _ _ _ _ (sound_var rfl (hd := by decide) (hn := by decide)) (sound_int))) (@sound_sub _ _ _ _ _ _ _ _ (sound_var rfl (hd := by decide) (hn := by decide)) (sound_int))) (@sound_sub _ _ _ _ _ _ _ _ (sound_var rfl (hd := by decide) (hn := by decide)) (sound_int))) (@sound_sub _ _ _ _ _ _ _ _ (sound_var rfl (hd := by decide) (hn := by decide)) (sound_int))) (@sound_sub _ _ _ _ _ _ _ _ (sound_var rfl (hd := by decide) (hn := by decide)) (sound_int))) (@sound_sub _ _ _ _ _ _ _ _ (sound_var rfl (hd := by decide) (hn := by decide)) (sound_int))) (@sound_sub _ _ _ _ _ _ _ _ (sound_var rfl (hd := by decide) (hn := by decide)) (sound_int))) (tgt_name rfl (.inl (by decide +kernel))) (fun _ _ => rfl) (fun _ _ => rfl) (fun _ => rfl)) <|
    @block_cons _ _ _ _ _ _ _ (stmt_if (test_bool (or_cons (test_cmp (sound_var rfl (hd := by decide) (hn := by decide)) (@sound_bin _ _ _ _ _ _ _ _ _ _ op_add (@sound_bin _ _ _ _ _ _ _ _ _ _ op_add (sound_str (hx := rfl) (hy := rfl)) (@sound_bin _ _ _ _ _ _ _ _ _ _ op_mulis (sound_int) (sound_str (hx := rfl) (hy := rfl)))) (sound_str (hx := rfl) (hy := rfl))) (hm := by with_unfolding_all rfl)) (or_cons (test_cmp (sound_slice (sound_var rfl (hd := by decide) (hn := by decide)) (part_some (sound_int)) (part_some (sound_int)) (part_none)) (sound_var rfl (hd := by decide) (hn := by decide)) (hm := by with_unfolding_all rfl)) (or_cons (test_cmp (@sound_sub _ _ _ _ _ _ _ _ (sound_var rfl (hd := by decide) (hn := by decide)) (sound_int)) (sound_str (hx := rfl) (hy := rfl)) (hm := by with_unfolding_all rfl)) (or_nil))))) (@block_cons _ _ _ _ _ _ _ (@stmt_ret _ _ _ _ _ _ (sound_none)) <|
    block_nil) (block_nil)) <|
    @block_cons _ _ _ _ _ _ _ (@stmt_assign _ _ _ _ _ _ _ _ (@sound_list _ _ _ _ _ _ (@list_consP _ _ _ _ _ _ _ (@sound_tup _ _ _ _ _ _ _ (@list_consP _ _ _ _ _ _ _ (sound_int) (@list_consP _ _ _ _ _ _ _ (sound_int) (list_nil) rfl) rfl)) (@list_consP _ _ _ _ _ _ _ (@sound_tup _ _ _ _ _ _ _ (@list_consP _ _ _ _ _ _ _ (sound_int) (@list_consP _ _ _ _ _ _ _ (sound_int) (list_nil) rfl) rfl)) (@list_consP _ _ _ _ _ _ _ (@sound_tup _ _ _ _ _ _ _ (@list_consP _ _ _ _ _ _ _ (sound_int) (@list_consP _ _ _ _ _ _ _ (sound_int) (list_nil) rfl) rfl)) (@list_consP _ _ _ _ _ _ _ (@sound_tup _ _ _ _ _ _ _ (@list_consP _ _ _ _ _ _ _ (sound_int) (@list_consP _ _ _ _ _ _ _ (sound_int) (list_nil) rfl) rfl)) (@list_consP _ _ _ _ _ _ _ (@sound_tup _ _ _ _ _ _ _ (@list_consP _ _ _ _ _ _ _ (sound_int) (@list_consP _ _ _ _ _ _ _ (sound_int) (list_nil) rfl) rfl)) (@list_consP _ _ _ _ _ _ _ (@sound_tup _ _ _ _ _ _ _ (@list_consP _ _ _ _ _ _ _ (sound_int) (@list_consP _ _ _ _ _ _ _ (sound_int) (list_nil) rfl) rfl)) (@list_consP _ _ _ _ _ _ _ (@sound_tup _ _ _ _ _ _ _ (@list_consP _ _ _ _ _ _ _ (sound_int) (@list_consP _ _ _ _ _ _ _ (sound_int) (list_nil) rfl) rfl)) (list_nil) rfl) rfl) rfl) rfl) rfl) rfl) rfl)) (tgt_name rfl (.inl (by decide +kernel))) (fun _ _ => rfl) (fun _ _ => rfl) (fun _ => rfl)) <|
    @block_cons _ _ _ _ _ _ _ (@stmt_assign _ _ _ _ _ _ _ _ (sound_comp (sound_var rfl (hd := by decide) (hn := by decide)) (tgt_tup (.cons (tgt_name rfl (.inl (by decide +kernel))) (fun _ => rfl) (.cons (tgt_name rfl (.inl (by decide +kernel))) (fun _ => rfl) (.nil)))) (cond_nil) (sound_call h__law_number (@list_consP _ _ _ _ _ _ _ (sound_slice (sound_var rfl (hd := by decide) (hn := by decide)) (part_some (sound_var rfl (hd := by decide) (hn := by decide))) (part_some (sound_var rfl (hd := by decide) (hn := by decide))) (part_none)) (list_nil) rfl) (by decide +kernel) (by decide) (hd := by decide) (he' := fun _ => rfl)) (by show compChk NN _ _ _ = true; decide +kernel) (hkind := rfl) (hf := fun _ _ => rfl) (hto := by first | exact .inl ⟨_, _, _, rfl⟩ | exact .inr fun _ _ => rfl)) (tgt_tupl (.cons (tgt_name rfl (.inl (by decide +kernel))) (fun _ => rfl) (.cons (tgt_name rfl (.inl (by decide +kernel))) (fun _ => rfl) (.cons (tgt_name rfl (.inl (by decide +kernel))) (fun _ => rfl) (.cons (tgt_name rfl (.inl (by decide +kernel))) (fun _ => rfl) (.cons (tgt_name rfl (.inl (by decide +kernel))) (fun _ => rfl) (.cons (tgt_name rfl (.inl (by decide +kernel))) (fun _ => rfl) (.cons (tgt_name rfl (.inl (by decide +kernel))) (fun _ => rfl) (.nil))))))))) (fun _ _ => rfl) (fun _ _ => rfl) (fun _ => rfl)) <|
    @block_cons _ _ _ _ _ _ _ (@stmt_assign _ _ _ _ _ _ _ _ (@sound_bin _ _ _ _ _ _ _ _ _ _ op_add (@sound_meth _ _ _ _ _ _ _ _ _ _ _ _ _ _ F.slot_list_index F.type_list_index F.plainAttrs_list kind_list me_index (sound_var rfl (hd := by decide) (hn := by decide)) (@list_consP _ _ _ _ _ _ _ (sound_slice (sound_var rfl (hd := by decide) (hn := by decide)) (part_some (sound_int)) (part_some (sound_int)) (part_none)) (list_nil) rfl) (.inr ⟨_, _, rfl, fun _ => ⟨rfl, rfl⟩⟩) (fun _ => rfl) (fun _ => rfl) rfl) (sound_int)) (tgt_name rfl (.inl (by decide +kernel))) (fun _ _ => rfl) (fun _ _ => rfl) (fun _ => rfl)) <|
    @block_cons _ _ _ _ _ _ _ (stmt_if (test_bool (or_cons (test_cmp (sound_var rfl (hd := by decide) (hn := by decide)) (sound_int) (hm := by with_unfolding_all rfl)) (or_cons (test_not (test_cmp2 (sound_int) (sound_var rfl (hd := by decide) (hn := by decide)) (sound_call h__law_length (@list_consP _ _ _ _ _ _ _ (sound_var rfl (hd := by decide) (hn := by decide)) (@list_consP _ _ _ _ _ _ _ (sound_var rfl (hd := by decide) (hn := by decide)) (list_nil) rfl) rfl) (by decide +kernel) (by decide) (hd := by decide) (he' := fun _ => rfl)) (hb := by with_unfolding_all rfl))) (or_nil)))) (@block_cons _ _ _ _ _ _ _ (@stmt_ret _ _ _ _ _ _ (sound_none)) <|
    block_nil) (block_nil)) <|
    @block_cons _ _ _ _ _ _ _ (stmt_if (test_not (test_bool (and_cons (test_cmp2 (sound_int) (sound_var rfl (hd := by decide) (hn := by decide)) (sound_int) (hb := by with_unfolding_all rfl)) (and_cons (test_cmp2 (sound_int) (sound_var rfl (hd := by decide) (hn := by decide)) (sound_int) (hb := by with_unfolding_all rfl)) (and_cons (test_cmp2 (sound_int) (sound_var rfl (hd := by decide) (hn := by decide)) (sound_int) (hb := by with_unfolding_all rfl)) (and_nil)))))) (@block_cons _ _ _ _ _ _ _ (@stmt_ret _ _ _ _ _ _ (sound_none)) <|
    block_nil) (block_nil)) <|
    @block_cons _ _ _ _ _ _ _ (@stmt_assign _ _ _ _ _ _ _ _ (@sound_bin _ _ _ _ _ _ _ _ _ _ op_sub (@sound_bin _ _ _ _ _ _ _ _ _ _ op_add (@sound_bin _ _ _ _ _ _ _ _ _ _ op_add (@sound_bin _ _ _ _ _ _ _ _ _ _ op_sub (@sound_bin _ _ _ _ _ _ _ _ _ _ op_add (@sound_bin _ _ _ _ _ _ _ _ _ _ op_mul (sound_int) (@sound_bin _ _ _ _ _ _ _ _ _ _ op_sub (sound_var rfl (hd := by decide) (hn := by decide)) (sound_int))) (@sound_bin _ _ _ _ _ _ _ _ _ _ op_div (@sound_bin _ _ _ _ _ _ _ _ _ _ op_sub (sound_var rfl (hd := by decide) (hn := by decide)) (sound_int)) (sound_int))) (@sound_bin _ _ _ _ _ _ _ _ _ _ op_div (@sound_bin _ _ _ _ _ _ _ _ _ _ op_sub (sound_var rfl (hd := by decide) (hn := by decide)) (sound_int)) (sound_int))) (@sound_bin _ _ _ _ _ _ _ _ _ _ op_div (@sound_bin _ _ _ _ _ _ _ _ _ _ op_sub (sound_var rfl (hd := by decide) (hn := by decide)) (sound_int)) (sound_int))) (sound_var rfl (hd := by decide) (hn := by decide))) (sound_int)) (tgt_name rfl (.inl (by decide +kernel))) (fun _ _ => rfl) (fun _ _ => rfl) (fun _ => rfl)) <|
    @block_cons _ _ _ _ _ _ _ (@stmt_assign _ _ _ _ _ _ _ _ (@sound_bin _ _ _ _ _ _ _ _ _ _ op_add (sound_var rfl (hd := by decide) (hn := by decide)) (@sound_bin _ _ _ _ _ _ _ _ _ _ op_div (@sound_bin _ _ _ _ _ _ _ _ _ _ op_sub (@sound_bin _ _ _ _ _ _ _ _ _ _ op_mul (sound_int) (sound_var rfl (hd := by decide) (hn := by decide))) (sound_int)) (sound_int))) (tgt_name rfl (.inl (by decide +kernel))) (fun _ _ => rfl) (fun _ _ => rfl) (fun _ => rfl)) <|
    @block_cons _ _ _ _ _ _ _ (stmt_if (test_cmp (sound_var rfl (hd := by decide) (hn := by decide)) (sound_int) (hm := by with_unfolding_all rfl)) (@block_cons _ _ _ _ _ _ _ (@stmt_assign _ _ _ _ _ _ _ _ (@sound_bin _ _ _ _ _ _ _ _ _ _ op_sub (@sound_bin _ _ _ _ _ _ _ _ _ _ op_add (sound_var rfl (hd := by decide) (hn := by decide)) (sound_call h__law_length (@list_consP _ _ _ _ _ _ _ (sound_var rfl (hd := by decide) (hn := by decide)) (@list_consP _ _ _ _ _ _ _ (sound_int) (list_nil) rfl) rfl) (by decide +kernel) (by decide) (hd := by decide) (he' := fun _ => rfl))) (sound_int)) (tgt_name rfl (.inl (by decide +kernel))) (fun _ _ => rfl) (fun _ _ => rfl) (fun _ => rfl)) <|
    block_nil) (block_nil)) <|
    @block_cons _ _ _ _ _ _ _ (stmt_if (test_cmp (sound_slice (sound_var rfl (hd := by decide) (hn := by decide)) (part_some (sound_int)) (part_some (sound_int)) (part_none)) (@sound_sub _ _ _ _ _ _ _ _ (sound_var rfl (hd := by decide) (hn := by decide)) (@sound_bin _ _ _ _ _ _ _ _ _ _ op_mod (sound_var rfl (hd := by decide) (hn := by decide)) (sound_int))) (hm := by with_unfolding_all rfl)) (@block_cons _ _ _ _ _ _ _ (@stmt_ret _ _ _ _ _ _ (sound_none)) <|
    block_nil) (block_nil)) <|
    @block_cons _ _ _ _ _ _ _ (@stmt_assign _ _ _ _ _ _ _ _ (@sound_bin _ _ _ _ _ _ _ _ _ _ op_add (@sound_bin _ _ _ _ _ _ _ _ _ _ op_add (@sound_bin _ _ _ _ _ _ _ _ _ _ op_add (@sound_bin _ _ _ _ _ _ _ _ _ _ op_mul (sound_int) (sound_var rfl (hd := by decide) (hn := by decide))) (@sound_bin _ _ _ _ _ _ _ _ _ _ op_mul (sound_int) (sound_var rfl (hd := by decide) (hn := by decide)))) (@sound_bin _ _ _ _ _ _ _ _ _ _ op_mul (sound_int) (sound_var rfl (hd := by decide) (hn := by decide)))) (sound_var rfl (hd := by decide) (hn := by decide))) (tgt_name rfl (.inl (by decide +kernel))) (fun _ _ => rfl) (fun _ _ => rfl) (fun _ => rfl)) <|
    @block_cons _ _ _ _ _ _ _ (@stmt_assign _ _ _ _ _ _ _ _ (@sound_bin _ _ _ _ _ _ _ _ _ _ op_add (@sound_bin _ _ _ _ _ _ _ _ _ _ op_mul (sound_int) (sound_var rfl (hd := by decide) (hn := by decide))) (@sound_bin _ _ _ _ _ _ _ _ _ _ op_mul (sound_int) (sound_var rfl (hd := by decide) (hn := by decide)))) (tgt_name rfl (.inl (by decide +kernel))) (fun _ _ => rfl) (fun _ _ => rfl) (fun _ => rfl)) <|
    @block_cons _ _ _ _ _ _ _ (@stmt_ret _ _ _ _ _ _ (sound_if (test_cmp (@sound_sub _ _ _ _ _ _ _ _ (sound_var rfl (hd := by decide) (hn := by decide)) (sound_int)) (sound_str (hx := rfl) (hy := rfl)) (hm := by with_unfolding_all rfl)) (@sound_bin _ _ _ _ _ _ _ _ _ _ op_add (sound_var rfl (hd := by decide) (hn := by decide)) (sound_var rfl (hd := by decide) (hn := by decide))) (@sound_bin _ _ _ _ _ _ _ _ _ _ op_sub (sound_var rfl (hd := by decide) (hn := by decide)) (sound_var rfl (hd := by decide) (hn := by decide))))) <|
    block_nil) rfl (by decide +kernel) (fun _ _ _ vs h => by obtain ⟨v0, rfl⟩ := len1 h; rfl) (by decide +kernel) (hco := rfl) (hgen := rfl) (hk := rfl)
def l_law_1 : AS := sCons (sRet (aCst (.bool false))) <|
    sNil
theorem m_l_law_1 : MonoS l_law_1 := by
  unfold l_law_1
  repeat' first | with_reducible apply m_var | with_reducible apply m_cst | with_reducible apply ms_nil | with_reducible apply ms_cons | with_reducible apply ms_assign | with_reducible apply ms_ret | with_reducible apply ms_ret0 | with_reducible apply ms_cont | with_reducible apply ms_if | with_reducible apply ms_expr | with_reducible apply ms_aug | with_reducible apply ms_augsub | with_reducible apply ms_for | with_reducible apply ms_while | with_reducible apply m_bin | with_reducible apply m_un | with_reducible apply m_cmp | with_reducible apply mt_val | with_reducible apply mt_not | with_reducible apply mt_and | with_reducible apply mt_or | with_reducible apply mt_true | with_reducible apply mt_false | with_reducible apply mt_cmp | with_reducible apply mt_cmp2 | with_reducible apply m_not | with_reducible apply m_if | with_reducible apply m_and | with_reducible apply m_or | with_reducible apply ml_nil | with_reducible apply ml_cons | with_reducible apply m_tup | with_reducible apply m_list | with_reducible apply m_call | with_reducible apply m_meth | with_reducible apply m_slice | with_reducible apply m_comp | with_reducible apply m_comp2 | with_reducible apply m_genlist | with_reducible apply ms_forg | with_reducible apply mg_name | with_reducible apply mg_sub | with_reducible apply mg_tup | with_reducible apply MonoGs.nil | with_reducible apply MonoGs.cons | with_reducible apply mo_add | with_reducible apply mo_iadd | with_reducible apply mo_sub | with_reducible apply mo_mul | with_reducible apply mo_div | with_reducible apply mo_mod | with_reducible apply mo_neg | with_reducible apply mo_item | with_reducible apply mf_len | with_reducible apply mf_range | with_reducible apply mf_list | with_reducible apply mf_tuple | with_reducible apply mf_append | with_reducible apply mf_insert | with_reducible apply mf_pop | with_reducible apply mf_chr | with_reducible apply mf_sjoin | with_reducible apply mf_all | with_reducible apply mf_any | with_reducible apply mf_sum | with_reducible apply mf_min | with_reducible apply mo_fmt | with_reducible apply mo_mulis | with_reducible apply mf_divmod | with_reducible apply mf_abs | with_reducible apply mf_sindex | with_reducible apply mf_index | with_reducible apply mg_tupl | with_reducible apply m_f__format_timetuple_and_zone | with_reducible apply m_f__law_instant | with_reducible apply m_f__law_row | with_reducible apply m_f__law_zone
def l_law_2 : AS := sCons (sRet (aCst (.bool false))) <|
    sNil
theorem m_l_law_2 : MonoS l_law_2 := by
  unfold l_law_2
  repeat' first | with_reducible apply m_var | with_reducible apply m_cst | with_reducible apply ms_nil | with_reducible apply ms_cons | with_reducible apply ms_assign | with_reducible apply ms_ret | with_reducible apply ms_ret0 | with_reducible apply ms_cont | with_reducible apply ms_if | with_reducible apply ms_expr | with_reducible apply ms_aug | with_reducible apply ms_augsub | with_reducible apply ms_for | with_reducible apply ms_while | with_reducible apply m_bin | with_reducible apply m_un | with_reducible apply m_cmp | with_reducible apply mt_val | with_reducible apply mt_not | with_reducible apply mt_and | with_reducible apply mt_or | with_reducible apply mt_true | with_reducible apply mt_false | with_reducible apply mt_cmp | with_reducible apply mt_cmp2 | with_reducible apply m_not | with_reducible apply m_if | with_reducible apply m_and | with_reducible apply m_or | with_reducible apply ml_nil | with_reducible apply ml_cons | with_reducible apply m_tup | with_reducible apply m_list | with_reducible apply m_call | with_reducible apply m_meth | with_reducible apply m_slice | with_reducible apply m_comp | with_reducible apply m_comp2 | with_reducible apply m_genlist | with_reducible apply ms_forg | with_reducible apply mg_name | with_reducible apply mg_sub | with_reducible apply mg_tup | with_reducible apply MonoGs.nil | with_reducible apply MonoGs.cons | with_reducible apply mo_add | with_reducible apply mo_iadd | with_reducible apply mo_sub | with_reducible apply mo_mul | with_reducible apply mo_div | with_reducible apply mo_mod | with_reducible apply mo_neg | with_reducible apply mo_item | with_reducible apply mf_len | with_reducible apply mf_range | with_reducible apply mf_list | with_reducible apply mf_tuple | with_reducible apply mf_append | with_reducible apply mf_insert | with_reducible apply mf_pop | with_reducible apply mf_chr | with_reducible apply mf_sjoin | with_reducible apply mf_all | with_reducible apply mf_any | with_reducible apply mf_sum | with_reducible apply mf_min | with_reducible apply mo_fmt | with_reducible apply mo_mulis | with_reducible apply mf_divmod | with_reducible apply mf_abs | with_reducible apply mf_sindex | with_reducible apply mf_index | with_reducible apply mg_tupl | with_reducible apply m_f__format_timetuple_and_zone | with_reducible apply m_f__law_instant | with_reducible apply m_f__law_row | with_reducible apply m_f__law_zone | with_reducible apply m_l_law_1
def l_law_3 : AS := sCons (sRet (aCst (.bool false))) <|
    sNil
theorem m_l_law_3 : MonoS l_law_3 := by
  unfold l_law_3
  repeat' first | with_reducible apply m_var | with_reducible apply m_cst | with_reducible apply ms_nil | with_reducible apply ms_cons | with_reducible apply ms_assign | with_reducible apply ms_ret | with_reducible apply ms_ret0 | with_reducible apply ms_cont | with_reducible apply ms_if | with_reducible apply ms_expr | with_reducible apply ms_aug | with_reducible apply ms_augsub | with_reducible apply ms_for | with_reducible apply ms_while | with_reducible apply m_bin | with_reducible apply m_un | with_reducible apply m_cmp | with_reducible apply mt_val | with_reducible apply mt_not | with_reducible apply mt_and | with_reducible apply mt_or | with_reducible apply mt_true | with_reducible apply mt_false | with_reducible apply mt_cmp | with_reducible apply mt_cmp2 | with_reducible apply m_not | with_reducible apply m_if | with_reducible apply m_and | with_reducible apply m_or | with_reducible apply ml_nil | with_reducible apply ml_cons | with_reducible apply m_tup | with_reducible apply m_list | with_reducible apply m_call | with_reducible apply m_meth | with_reducible apply m_slice | with_reducible apply m_comp | with_reducible apply m_comp2 | with_reducible apply m_genlist | with_reducible apply ms_forg | with_reducible apply mg_name | with_reducible apply mg_sub | with_reducible apply mg_tup | with_reducible apply MonoGs.nil | with_reducible apply MonoGs.cons | with_reducible apply mo_add | with_reducible apply mo_iadd | with_reducible apply mo_sub | with_reducible apply mo_mul | with_reducible apply mo_div | with_reducible apply mo_mod | with_reducible apply mo_neg | with_reducible apply mo_item | with_reducible apply mf_len | with_reducible apply mf_range | with_reducible apply mf_list | with_reducible apply mf_tuple | with_reducible apply mf_append | with_reducible apply mf_insert | with_reducible apply mf_pop | with_reducible apply mf_chr | with_reducible apply mf_sjoin | with_reducible apply mf_all | with_reducible apply mf_any | with_reducible apply mf_sum | with_reducible apply mf_min | with_reducible apply mo_fmt | with_reducible apply mo_mulis | with_reducible apply mf_divmod | with_reducible apply mf_abs | with_reducible apply mf_sindex | with_reducible apply mf_index | with_reducible apply mg_tupl | with_reducible apply m_f__format_timetuple_and_zone | with_reducible apply m_f__law_instant | with_reducible apply m_f__law_row | with_reducible apply m_f__law_zone | with_reducible apply m_l_law_1 | with_reducible apply m_l_law_2
def l_law_4 : AS := sCons (sAssign (gName 34) (aCall f__law_row (lCons (aBin opAdd (aVar 4) (aBin opMul (aCst (.int 60)) (aVar 12))) (lNil)))) <|
    sCons (sAssign (gName 1) (aCall f__law_zone (lCons (aVar 12) (lNil)))) <|
    sCons (sAssign (gName 13) (aCall f__format_timetuple_and_zone (lCons (aCall fTuple (lCons (aVar 34) (lNil))) (lCons (aVar 1) (lNil))))) <|
    sCons (sIf (tCmp .NotEq (aCall fLen (lCons (aVar 13) (lNil))) (aBin opAdd (aCst (.int 26)) (aCall fLen (lCons (aVar 1) (lNil))))) (l_law_3) (sNil)) <|
    sCons (sIf (tCmp .NotEq (aCall f__law_instant (lCons (aVar 13) (lNil))) (aVar 4)) (l_law_2) (sNil)) <|
    sCons (sAssign (gName 33) (aBin opAdd (aBin opAdd (aList (lCons (aBin opItem (aVar 34) (aCst (.int 0))) (lCons (aBin opSub (aBin opItem (aVar 34) (aCst (.int 1))) (aCst (.int 12))) (lNil)))) (aSlice (aVar 34) (aCst (.int 2)) (aCst (.int 6)) (aCst .none))) (aList (lCons (aBin opSub (aBin opItem (aVar 34) (aCst (.int 6))) (aCst (.int 7))) (lCons (aCst (.int 0)) (lCons (aUn opNeg (aCst (.int 1))) (lNil))))))) <|
    sCons (sIf (tCmp .NotEq (aCall f__format_timetuple_and_zone (lCons (aVar 33) (lCons (aVar 1) (lNil)))) (aVar 13)) (l_law_1) (sNil)) <|
    sNil
theorem m_l_law_4 : MonoS l_law_4 := by
  unfold l_law_4
  repeat' first | with_reducible apply m_var | with_reducible apply m_cst | with_reducible apply ms_nil | with_reducible apply ms_cons | with_reducible apply ms_assign | with_reducible apply ms_ret | with_reducible apply ms_ret0 | with_reducible apply ms_cont | with_reducible apply ms_if | with_reducible apply ms_expr | with_reducible apply ms_aug | with_reducible apply ms_augsub | with_reducible apply ms_for | with_reducible apply ms_while | with_reducible apply m_bin | with_reducible apply m_un | with_reducible apply m_cmp | with_reducible apply mt_val | with_reducible apply mt_not | with_reducible apply mt_and | with_reducible apply mt_or | with_reducible apply mt_true | with_reducible apply mt_false | with_reducible apply mt_cmp | with_reducible apply mt_cmp2 | with_reducible apply m_not | with_reducible apply m_if | with_reducible apply m_and | with_reducible apply m_or | with_reducible apply ml_nil | with_reducible apply ml_cons | with_reducible apply m_tup | with_reducible apply m_list | with_reducible apply m_call | with_reducible apply m_meth | with_reducible apply m_slice | with_reducible apply m_comp | with_reducible apply m_comp2 | with_reducible apply m_genlist | with_reducible apply ms_forg | with_reducible apply mg_name | with_reducible apply mg_sub | with_reducible apply mg_tup | with_reducible apply MonoGs.nil | with_reducible apply MonoGs.cons | with_reducible apply mo_add | with_reducible apply mo_iadd | with_reducible apply mo_sub | with_reducible apply mo_mul | with_reducible apply mo_div | with_reducible apply mo_mod | with_reducible apply mo_neg | with_reducible apply mo_item | with_reducible apply mf_len | with_reducible apply mf_range | with_reducible apply mf_list | with_reducible apply mf_tuple | with_reducible apply mf_append | with_reducible apply mf_insert | with_reducible apply mf_pop | with_reducible apply mf_chr | with_reducible apply mf_sjoin | with_reducible apply mf_all | with_reducible apply mf_any | with_reducible apply mf_sum | with_reducible apply mf_min | with_reducible apply mo_fmt | with_reducible apply mo_mulis | with_reducible apply mf_divmod | with_reducible apply mf_abs | with_reducible apply mf_sindex | with_reducible apply mf_index | with_reducible apply mg_tupl | with_reducible apply m_f__format_timetuple_and_zone | with_reducible apply m_f__law_instant | with_reducible apply m_f__law_row | with_reducible apply m_f__law_zone | with_reducible apply m_l_law_1 | with_reducible apply m_l_law_2 | with_reducible apply m_l_law_3
def l_law_5 : AS := sCons (sAssign (gName 4) (aBin opAdd (aCst (.int 86400)) (aBin opMod (aBin opMul (aVar 16) (aCst (.int 12345678901))) (aBin opSub (aVar 35) (aBin opMul (aCst (.int 2)) (aCst (.int 86400))))))) <|
    sCons (sExpr (aMeth kList fAppend (aVar 32) (lCons (aTup (lCons (aVar 4) (lCons (aBin opSub (aBin opMod (aBin opMul (aVar 16) (aCst (.int 61))) (aCst (.int 2879))) (aCst (.int 1439))) (lNil)))) (lNil)))) <|
    sNil
theorem m_l_law_5 : MonoS l_law_5 := by
  unfold l_law_5
  repeat' first | with_reducible apply m_var | with_reducible apply m_cst | with_reducible apply ms_nil | with_reducible apply ms_cons | with_reducible apply ms_assign | with_reducible apply ms_ret | with_reducible apply ms_ret0 | with_reducible apply ms_cont | with_reducible apply ms_if | with_reducible apply ms_expr | with_reducible apply ms_aug | with_reducible apply ms_augsub | with_reducible apply ms_for | with_reducible apply ms_while | with_reducible apply m_bin | with_reducible apply m_un | with_reducible apply m_cmp | with_reducible apply mt_val | with_reducible apply mt_not | with_reducible apply mt_and | with_reducible apply mt_or | with_reducible apply mt_true | with_reducible apply mt_false | with_reducible apply mt_cmp | with_reducible apply mt_cmp2 | with_reducible apply m_not | with_reducible apply m_if | with_reducible apply m_and | with_reducible apply m_or | with_reducible apply ml_nil | with_reducible apply ml_cons | with_reducible apply m_tup | with_reducible apply m_list | with_reducible apply m_call | with_reducible apply m_meth | with_reducible apply m_slice | with_reducible apply m_comp | with_reducible apply m_comp2 | with_reducible apply m_genlist | with_reducible apply ms_forg | with_reducible apply mg_name | with_reducible apply mg_sub | with_reducible apply mg_tup | with_reducible apply MonoGs.nil | with_reducible apply MonoGs.cons | with_reducible apply mo_add | with_reducible apply mo_iadd | with_reducible apply mo_sub | with_reducible apply mo_mul | with_reducible apply mo_div | with_reducible apply mo_mod | with_reducible apply mo_neg | with_reducible apply mo_item | with_reducible apply mf_len | with_reducible apply mf_range | with_reducible apply mf_list | with_reducible apply mf_tuple | with_reducible apply mf_append | with_reducible apply mf_insert | with_reducible apply mf_pop | with_reducible apply mf_chr | with_reducible apply mf_sjoin | with_reducible apply mf_all | with_reducible apply mf_any | with_reducible apply mf_sum | with_reducible apply mf_min | with_reducible apply mo_fmt | with_reducible apply mo_mulis | with_reducible apply mf_divmod | with_reducible apply mf_abs | with_reducible apply mf_sindex | with_reducible apply mf_index | with_reducible apply mg_tupl | with_reducible apply m_f__format_timetuple_and_zone | with_reducible apply m_f__law_instant | with_reducible apply m_f__law_row | with_reducible apply m_f__law_zone | with_reducible apply m_l_law_1 | with_reducible apply m_l_law_2 | with_reducible apply m_l_law_3 | with_reducible apply m_l_law_4
def f_law : AF := aFn [31] <|
    sCons (sAssign (gName 35) (aBin opMul (aCst (.int 3652059)) (aCst (.int 86400)))) <|
    sCons (sAssign (gName 32) (aList (lCons (aTup (lCons (aCst (.int 0)) (lCons (aCst (.int 0)) (lNil)))) (lCons (aTup (lCons (aBin opSub (aVar 35) (aCst (.int 1))) (lCons (aCst (.int 0)) (lNil)))) (lNil))))) <|
    sCons (sFor (gName 16) (aBin opAdd (aCall fList (lCons (aVar 31) (lNil))) (aList (lCons (aCall fLen (lCons (aVar 31) (lNil))) (lNil)))) (l_law_5)) <|
    sCons (sFor (gTup [gName 4, gName 12]) (aVar 32) (l_law_4)) <|
    sCons (sRet (aCst (.bool true))) <|
    sNil
theorem s_law (c : Cx) (hd : fnRec prg 8 ∈ recsOf c.q) (h__format_timetuple_and_zone : SoundF (c.on NN NN_nodup) 1 (Str.ofString "_format_timetuple_and_zone") f__format_timetuple_and_zone) (h__law_instant : SoundF (c.on NN NN_nodup) 2 (Str.ofString "_law_instant") f__law_instant) (h__law_row : SoundF (c.on NN NN_nodup) 2 (Str.ofString "_law_row") f__law_row) (h__law_zone : SoundF (c.on NN NN_nodup) 1 (Str.ofString "_law_zone") f__law_zone) (b_len : c.mg (Str.ofString "len") = none) (b_list : c.mg (Str.ofString "list") = none) (b_tuple : c.mg (Str.ofString "tuple") = none) : SoundF (c.on NN NN_nodup) 3 (Str.ofString "law") f_law :=
  sound_fn (c := c.on NN NN_nodup) (d := fnRec prg 8) (xs := [Str.ofString "script"]) hd (
    @block_cons _ _ _ _ _ _ _ (@stmt_assign _ _ _ _ _ _ _ _ (@sound_bin _ _ _ _ _ _ _ _ _ _ op_mul (sound_int) (sound_int)) (tgt_name rfl (.inl (by decide +kernel))) (fun _ _ => rfl) (fun _ _ => rfl) (fun _ => rfl)) <|
    @block_cons _ _ _ _ _ _ _ (@stmt_assign _ _ _ _ _ _ _ _ (@sound_list _ _ _ _ _ _ (@list_consP _ _ _ _ _ _ _ (@sound_tup _ _ _ _ _ _ _ (@list_consP _ _ _ _ _ _ _ (sound_int) (@list_consP _ _ _ _ _ _ _ (sound_int) (list_nil) rfl) rfl)) (@list_consP _ _ _ _ _ _ _ (@sound_tup _ _ _ _ _ _ _ (@list_consP _ _ _ _ _ _ _ (@sound_bin _ _ _ _ _ _ _ _ _ _ op_sub (sound_var rfl (hd := by decide) (hn := by decide)) (sound_int)) (@list_consP _ _ _ _ _ _ _ (sound_int) (list_nil) rfl) rfl)) (list_nil) rfl) rfl)) (tgt_name rfl (.inl (by decide +kernel))) (fun _ _ => rfl) (fun _ _ => rfl) (fun _ => rfl)) <|
    @block_cons _ _ _ _ _ _ _ (stmt_for (@sound_bin _ _ _ _ _ _ _ _ _ _ op_add (sound_bi bi_list rfl b_list (by decide +kernel) (by decide +kernel) (@list_consP _ _ _ _ _ _ _ (sound_var rfl (hd := by decide) (hn := by decide)) (list_nil) rfl) (by decide +kernel) (hd := by decide) (he' := fun _ => rfl) (hp := fun _ => rfl)) (@sound_list _ _ _ _ _ _ (@list_consP _ _ _ _ _ _ _ (sound_bi bi_len rfl b_len (by decide +kernel) (by decide +kernel) (@list_consP _ _ _ _ _ _ _ (sound_var rfl (hd := by decide) (hn := by decide)) (list_nil) rfl) (by decide +kernel) (hd := by decide) (he' := fun _ => rfl) (hp := fun _ => rfl)) (list_nil) rfl))) (tgt_name rfl (.inl (by decide +kernel))) (@block_cons _ _ _ _ _ _ _ (@stmt_assign _ _ _ _ _ _ _ _ (@sound_bin _ _ _ _ _ _ _ _ _ _ op_add (sound_int) (@sound_bin _ _ _ _ _ _ _ _ _ _ op_mod (@sound_bin _ _ _ _ _ _ _ _ _ _ op_mul (sound_var rfl (hd := by decide) (hn := by decide)) (sound_int)) (@sound_bin _ _ _ _ _ _ _ _ _ _ op_sub (sound_var rfl (hd := by decide) (hn := by decide)) (@sound_bin _ _ _ _ _ _ _ _ _ _ op_mul (sound_int) (sound_int))))) (tgt_name rfl (.inl (by decide +kernel))) (fun _ _ => rfl) (fun _ _ => rfl) (fun _ => rfl)) <|
    @block_cons _ _ _ _ _ _ _ (stmt_expr (@sound_meth _ _ _ _ _ _ _ _ _ _ _ _ _ _ F.slot_list_append F.type_list_append F.plainAttrs_list kind_list me_append (sound_var rfl (hd := by decide) (hn := by decide)) (@list_consP _ _ _ _ _ _ _ (@sound_tup _ _ _ _ _ _ _ (@list_consP _ _ _ _ _ _ _ (sound_var rfl (hd := by decide) (hn := by decide)) (@list_consP _ _ _ _ _ _ _ (@sound_bin _ _ _ _ _ _ _ _ _ _ op_sub (@sound_bin _ _ _ _ _ _ _ _ _ _ op_mod (@sound_bin _ _ _ _ _ _ _ _ _ _ op_mul (sound_var rfl (hd := by decide) (hn := by decide)) (sound_int)) (sound_int)) (sound_int)) (list_nil) rfl) rfl)) (list_nil) rfl) (.inr ⟨_, _, rfl, fun _ => ⟨rfl, rfl⟩⟩) (fun _ => rfl) (fun _ => rfl) rfl) (fun _ h => no_inter h) (hs := fun _ => rfl)) <|
    block_nil) (hf := fun _ _ => rfl) (ht := by first | exact .inl ⟨_, _, _, rfl⟩ | exact .inr fun _ _ => rfl)) <|
    @block_cons _ _ _ _ _ _ _ (stmt_for (sound_var rfl (hd := by decide) (hn := by decide)) (tgt_tup (.cons (tgt_name rfl (.inl (by decide +kernel))) (fun _ => rfl) (.cons (tgt_name rfl (.inl (by decide +kernel))) (fun _ => rfl) (.nil)))) (@block_cons _ _ _ _ _ _ _ (@stmt_assign _ _ _ _ _ _ _ _ (sound_call h__law_row (@list_consP _ _ _ _ _ _ _ (@sound_bin _ _ _ _ _ _ _ _ _ _ op_add (sound_var rfl (hd := by decide) (hn := by decide)) (@sound_bin _ _ _ _ _ _ _ _ _ _ op_mul (sound_int) (sound_var rfl (hd := by decide) (hn := by decide)))) (list_nil) rfl) (by decide +kernel) (by decide) (hd := by decide) (he' := fun _ => rfl)) (tgt_name rfl (.inl (by decide +kernel))) (fun _ _ => rfl) (fun _ _ => rfl) (fun _ => rfl)) <|
    @block_cons _ _ _ _ _ _ _ (@stmt_assign _ _ _ _ _ _ _ _ (sound_call h__law_zone (@list_consP _ _ _ _ _ _ _ (sound_var rfl (hd := by decide) (hn := by decide)) (list_nil) rfl) (by decide +kernel) (by decide) (hd := by decide) (he' := fun _ => rfl)) (tgt_name rfl (.inl (by decide +kernel))) (fun _ _ => rfl) (fun _ _ => rfl) (fun _ => rfl)) <|
    @block_cons _ _ _ _ _ _ _ (@stmt_assign _ _ _ _ _ _ _ _ (sound_call h__format_timetuple_and_zone (@list_consP _ _ _ _ _ _ _ (sound_bi bi_tuple rfl b_tuple (by decide +kernel) (by decide +kernel) (@list_consP _ _ _ _ _ _ _ (sound_var rfl (hd := by decide) (hn := by decide)) (list_nil) rfl) (by decide +kernel) (hd := by decide) (he' := fun _ => rfl) (hp := fun _ => rfl)) (@list_consP _ _ _ _ _ _ _ (sound_var rfl (hd := by decide) (hn := by decide)) (list_nil) rfl) rfl) (by decide +kernel) (by decide) (hd := by decide) (he' := fun _ => rfl)) (tgt_name rfl (.inl (by decide +kernel))) (fun _ _ => rfl) (fun _ _ => rfl) (fun _ => rfl)) <|
    @block_cons _ _ _ _ _ _ _ (stmt_if (test_cmp (sound_bi bi_len rfl b_len (by decide +kernel) (by decide +kernel) (@list_consP _ _ _ _ _ _ _ (sound_var rfl (hd := by decide) (hn := by decide)) (list_nil) rfl) (by decide +kernel) (hd := by decide) (he' := fun _ => rfl) (hp := fun _ => rfl)) (@sound_bin _ _ _ _ _ _ _ _ _ _ op_add (sound_int) (sound_bi bi_len rfl b_len (by decide +kernel) (by decide +kernel) (@list_consP _ _ _ _ _ _ _ (sound_var rfl (hd := by decide) (hn := by decide)) (list_nil) rfl) (by decide +kernel) (hd := by decide) (he' := fun _ => rfl) (hp := fun _ => rfl))) (hm := by with_unfolding_all rfl)) (@block_cons _ _ _ _ _ _ _ (@stmt_ret _ _ _ _ _ _ (sound_bool)) <|
    block_nil) (block_nil)) <|
    @block_cons _ _ _ _ _ _ _ (stmt_if (test_cmp (sound_call h__law_instant (@list_consP _ _ _ _ _ _ _ (sound_var rfl (hd := by decide) (hn := by decide)) (list_nil) rfl) (by decide +kernel) (by decide) (hd := by decide) (he' := fun _ => rfl)) (sound_var rfl (hd := by decide) (hn := by decide)) (hm := by with_unfolding_all rfl)) (@block_cons _ _ _ _ _ _ _ (@stmt_ret _ _ _ _ _ _ (sound_bool)) <|
    block_nil) (block_nil)) <|
    @block_cons _ _ _ _ _ _ _ (@stmt_assign _ _ _ _ _ _ _ _ (@sound_bin _ _ _ _ _ _ _ _ _ _ op_add (@sound_bin _ _ _ _ _ _ _ _ _ _ op_add (@sound_list _ _ _ _ _ _ (@list_consP _ _ _ _ _ _ _ (@sound_sub _ _ _ _ _ _ _ _ (sound_var rfl (hd := by decide) (hn := by decide)) (sound_int)) (@list_consP _ _ _ _ _ _ _ (@sound_bin _ _ _ _ _ _ _ _ _ _ op_sub (@sound_sub _ _ _ _ _ _ _ _ (sound_var rfl (hd := by decide) (hn := by decide)) (sound_int)) (sound_int)) (list_nil) rfl) rfl)) (sound_slice (sound_var rfl (hd := by decide) (hn := by decide)) (part_some (sound_int)) (part_some (sound_int)) (part_none))) (@sound_list _ _ _ _ _ _ (@list_consP _ _ _ _ _ _ _ (@sound_bin _ _ _ _ _ _ _ _ _ _ op_sub (@sound_sub _ _ _ _ _ _ _ _ (sound_var rfl (hd := by decide) (hn := by decide)) (sound_int)) (sound_int)) (@list_consP _ _ _ _ _ _ _ (sound_int) (@list_consP _ _ _ _ _ _ _ (@sound_un _ _ _ _ _ _ _ _ op_negI (sound_int)) (list_nil) rfl) rfl) rfl))) (tgt_name rfl (.inl (by decide +kernel))) (fun _ _ => rfl) (fun _ _ => rfl) (fun _ => rfl)) <|
    @block_cons _ _ _ _ _ _ _ (stmt_if (test_cmp (sound_call h__format_timetuple_and_zone (@list_consP _ _ _ _ _ _ _ (sound_var rfl (hd := by decide) (hn := by decide)) (@list_consP _ _ _ _ _ _ _ (sound_var rfl (hd := by decide) (hn := by decide)) (list_nil) rfl) rfl) (by decide +kernel) (by decide) (hd := by decide) (he' := fun _ => rfl)) (sound_var rfl (hd := by decide) (hn := by decide)) (hm := by with_unfolding_all rfl)) (@block_cons _ _ _ _ _ _ _ (@stmt_ret _ _ _ _ _ _ (sound_bool)) <|
    block_nil) (block_nil)) <|
    block_nil) (hf := fun _ _ => rfl) (ht := by first | exact .inl ⟨_, _, _, rfl⟩ | exact .inr fun _ _ => rfl)) <|
    @block_cons _ _ _ _ _ _ _ (@stmt_ret _ _ _ _ _ _ (sound_bool)) <|
    block_nil) rfl (by decide +kernel) (fun _ _ _ vs h => by obtain ⟨v0, rfl⟩ := len1 h; rfl) (by decide +kernel) (hco := rfl) (hgen := rfl) (hk := rfl)
end Mine
open PySem PySem.W PySem.Calls PyProof.Rows
set_option Elab.async false
set_option linter.unusedVariables false
set_option linter.unusedSimpArgs false
set_option maxRecDepth 100000
set_option maxHeartbeats 8000000
namespace Mine

local macro_rules | `(tactic| walk_at "st") => `(tactic| refine seq ?_)
-- the calendar
def lp (y : Int) : Bool := decide (y % 4 = 0) && (decide (¬ y % 100 = 0) || decide (y % 400 = 0))
def ml (b : Bool) (m : Int) : Int := if m = 2 then (if b then 29 else 28) else if m = 4 ∨ m = 6 ∨ m = 9 ∨ m = 11 then 30 else 31
/-- the days ahead of a month -/
def cu (b : Bool) (m : Int) : Int := (367 * m - 362) / 12 + if 2 < m then ml b 2 - 30 else 0
theorem cu_step (b : Bool) {m : Int} (h1 : 1 ≤ m) (h2 : m ≤ 11) : cu b (m + 1) = cu b m + ml b m := by
  have : m = 1 ∨ m = 2 ∨ m = 3 ∨ m = 4 ∨ m = 5 ∨ m = 6 ∨ m = 7 ∨ m = 8 ∨ m = 9 ∨ m = 10 ∨ m = 11 := by omega
  rcases this with rfl | rfl | rfl | rfl | rfl | rfl | rfl | rfl | rfl | rfl | rfl <;> cases b <;> decide
theorem cu_one (b : Bool) : cu b 1 = 0 := by cases b <;> decide
theorem cu_end (b : Bool) : cu b 12 + ml b 12 = if b then 366 else 365 := by cases b <;> decide
theorem ml_pos (b : Bool) (m : Int) : 28 ≤ ml b m ∧ ml b m ≤ 31 := by unfold ml; split <;> split <;> omega
/-- a day's year and place within -/
structure Yr (day a h f o l y : Int) : Prop where
  a0 : 0 ≤ a
  h0 : 0 ≤ h ∧ h ≤ 3
  f0 : 0 ≤ f ∧ f ≤ 24
  o0 : 0 ≤ o ∧ o ≤ 3
  l0 : 0 ≤ l
  l1 : l < if lp y then 366 else 365
  sum : day = 146097 * a + 36524 * h + 1461 * f + 365 * o + l
  yr : y = 400 * a + 100 * h + 4 * f + o + 1
theorem yr_of {day : Int} (hd : 0 ≤ day) : ∀ a h l2 f l3 o l4 : Int, a = day / 146097 → h = (if 3 < day % 146097 / 36524 then 3 else day % 146097 / 36524) → l2 = day % 146097 - 36524 * h → f = l2 / 1461 → l3 = l2 % 1461 → o = (if 3 < l3 / 365 then 3 else l3 / 365) → l4 = l3 - 365 * o → Yr day a h f o l4 (400 * a + 100 * h + 4 * f + o + 1) := by
  intro a h l2 f l3 o l4 ea eh e2 ef e3 eo e4
  have d1 : day = 146097 * a + day % 146097 := by omega
  generalize hr : day % 146097 = r at *
  have r0 : 0 ≤ r ∧ r < 146097 := by omega
  have hh : 0 ≤ h ∧ h ≤ 3 ∧ 36524 * h ≤ r ∧ (h ≤ 2 → r < 36524 * (h + 1)) := by
    rw [eh]; split <;> omega
  have h2 : 0 ≤ l2 ∧ l2 ≤ 36524 ∧ (l2 = 36524 → h = 3) := by omega
  have hf : 0 ≤ f ∧ f ≤ 24 := by omega
  have h3 : l2 = 1461 * f + l3 ∧ 0 ≤ l3 ∧ l3 < 1461 := by omega
  have ho : 0 ≤ o ∧ o ≤ 3 ∧ 365 * o ≤ l3 ∧ (o ≤ 2 → l3 < 365 * (o + 1)) := by
    rw [eo]; split <;> omega
  have h4 : 0 ≤ l4 ∧ l4 ≤ 365 ∧ (l4 = 365 → o = 3) := by omega
  refine ⟨by omega, by omega, hf, by omega, by omega, ?_, by omega, rfl⟩
  by_cases e : l4 = 365
  · have o3 : o = 3 := h4.2.2 e
    have : lp (400 * a + 100 * h + 4 * f + o + 1) = true := by
      unfold lp
      simp only [Bool.and_eq_true, Bool.or_eq_true, decide_eq_true_eq]
      refine ⟨by omega, ?_⟩
      by_cases f24 : f = 24
      · right
        have : h = 3 := h2.2.2 (by omega)
        omega
      · left; omega
    rw [this]; simp; omega
  · split <;> omega
theorem Yr.back {day a h f o l y : Int} (q : Yr day a h f o l y) : 365 * (y - 1) + (y - 1) / 4 - (y - 1) / 100 + (y - 1) / 400 + l = day := by
  obtain ⟨a0, h0, f0, o0, l0, l1, sum, yr⟩ := q
  have e1 : (y - 1) / 4 = 100 * a + 25 * h + f := by omega
  have e2 : (y - 1) / 100 = 4 * a + h := by omega
  have e3 : (y - 1) / 400 = a := by omega
  omega
theorem Yr.most {day a h f o l y : Int} (q : Yr day a h f o l y) (hd : day < 3652059) : 1 ≤ y ∧ y ≤ 9999 := by
  obtain ⟨a0, h0, f0, o0, l0, l1, sum, yr⟩ := q
  refine ⟨by omega, ?_⟩
  have : a ≤ 24 := by omega
  by_cases ha : a = 24
  · by_cases hh : h = 3
    · by_cases hf : f = 24
      · have : o ≤ 2 := by omega
        omega
      · omega
    · omega
  · omega
-- figures
theorem pad2 {n : Int} (h0 : 0 ≤ n) (h1 : n < 100) : ∃ a b : Nat, padI 2 n = [48 + a, 48 + b] ∧ a < 10 ∧ b < 10 ∧ (10 * a + b : Int) = n := by
  obtain ⟨k, rfl⟩ : ∃ k : Nat, n = k := ⟨n.toNat, by omega⟩
  have hk : k < 100 := by omega
  refine ⟨k / 10, k % 10, ?_, by omega, by omega, by omega⟩
  unfold padI padL
  rw [if_neg (by simp), show ((k : Int)).natAbs = k from rfl, figs_rec]
  by_cases h : k < 10
  · rw [if_pos h]
    simp [show k / 10 = 0 by omega, show k % 10 = k by omega]
  · rw [if_neg h, figs_rec, if_pos (by omega)]
    simp
theorem pad4 {n : Int} (h0 : 0 ≤ n) (h1 : n < 10000) : ∃ a b c d : Nat, padI 4 n = [48 + a, 48 + b, 48 + c, 48 + d] ∧ a < 10 ∧ b < 10 ∧ c < 10 ∧ d < 10 ∧ (1000 * a + 100 * b + 10 * c + d : Int) = n := by
  obtain ⟨k, rfl⟩ : ∃ k : Nat, n = k := ⟨n.toNat, by omega⟩
  have hk : k < 10000 := by omega
  refine ⟨k / 1000, k / 100 % 10, k / 10 % 10, k % 10, ?_, by omega, by omega, by omega, by omega, by omega⟩
  unfold padI padL
  rw [if_neg (by simp), show ((k : Int)).natAbs = k from rfl, figs_rec]
  by_cases h : k < 10
  · rw [if_pos h]
    simp [show k / 10 = 0 by omega, show k / 100 = 0 by omega, show k / 1000 = 0 by omega, show k % 10 = k by omega, List.replicate]
  · rw [if_neg h, figs_rec]
    by_cases h' : k / 10 < 10
    · rw [if_pos h']
      simp [show k / 100 = 0 by omega, show k / 1000 = 0 by omega, show k / 10 % 10 = k / 10 by omega, List.replicate]
    · rw [if_neg h', figs_rec]
      by_cases h'' : k / 10 / 10 < 10
      · rw [if_pos h'']
        simp [show k / 1000 = 0 by omega, show k / 100 % 10 = k / 10 / 10 by omega]
      · rw [if_neg h'', figs_rec, if_pos (by omega)]
        simp [show k / 1000 = k / 10 / 10 / 10 by omega, show k / 100 % 10 = k / 10 / 10 % 10 by omega]
def num (l : List Nat) : Int := l.foldl (fun a c => 10 * a + ((c - 48 : Nat) : Int)) 0
def wks : List (List Nat) := [[77, 111, 110], [84, 117, 101], [87, 101, 100], [84, 104, 117], [70, 114, 105], [83, 97, 116], [83, 117, 110]]
def mns : List (List Nat) := [[74, 97, 110], [70, 101, 98], [77, 97, 114], [65, 112, 114], [77, 97, 121], [74, 117, 110], [74, 117, 108], [65, 117, 103], [83, 101, 112], [79, 99, 116], [78, 111, 118], [68, 101, 99]]
theorem wk_at {d : Int} (h0 : 0 ≤ d) (h1 : d < 7) : ∃ a b c, nth (wks.map PV.str) d = some (.str [a, b, c]) ∧ nth (wks.map PV.str) (d - 7) = some (.str [a, b, c]) := by
  have : d = 0 ∨ d = 1 ∨ d = 2 ∨ d = 3 ∨ d = 4 ∨ d = 5 ∨ d = 6 := by omega
  rcases this with rfl | rfl | rfl | rfl | rfl | rfl | rfl <;> exact ⟨_, _, _, rfl, rfl⟩
theorem mn_at {m : Int} (h0 : 1 ≤ m) (h1 : m ≤ 12) : ∃ a b c, nth (mns.map PV.str) (m - 1) = some (.str [a, b, c]) ∧ nth (mns.map PV.str) (m - 12 - 1) = some (.str [a, b, c]) ∧ [a, b, c] ∈ mns ∧ (((mns.idxOf [a, b, c] : Nat) : Int) + 1 = m) := by
  have : m = 1 ∨ m = 2 ∨ m = 3 ∨ m = 4 ∨ m = 5 ∨ m = 6 ∨ m = 7 ∨ m = 8 ∨ m = 9 ∨ m = 10 ∨ m = 11 ∨ m = 12 := by omega
  rcases this with rfl | rfl | rfl | rfl | rfl | rfl | rfl | rfl | rfl | rfl | rfl | rfl <;> exact ⟨_, _, _, rfl, rfl, by decide, by decide⟩
theorem length_spec {Q : PV → AH → Prop} {H : AH} {y m : Int} (h : Q (.int (ml (lp y) m)) H) : f__law_length [.int y, .int m] Q H := by
  refine fn rfl ?_
  walk_at "st"
  by_cases h2 : m = 2
  · try simp only [eq_true h2, l__law_length_1, sNil, sAssign, sRet, sRet0, sIf, sExpr, sAugSub, sAug, sCont, gName, gSub, gTup, gTup.go, aVar, aCst, aBin, aUn, aIf, aTup, aList, lCons, lNil, aCall, aMeth, aCmp, aSlice, tCmp, tCmp2, tAnd, tOr, tNot, tVal, tTrue, tFalse, upd_at, if_true, if_false, Bool.false_eq_true, decide_true, decide_false, decide_eq_true_eq, opItem, opAdd, opIAdd, opSub, opMul, opDiv, opMod, opNeg, cmpOp, cmpLt, cmpIn, cmpIs, eq_int, eq_str, eq_bool, occ_one, truth, kList, kStr, fLen, fRange, fList, fTuple, fChr, fSJoin, fAll, fAny, fSum, fMin, fDivmod, fAbs, joinL_nil, fAppend, fInsert, fPop, withOwn, withItems, setAt, nth_zero, nth_one, nth_two, nth_last, kOk, bindP, List.length_cons, List.length_nil, List.isEmpty_cons, List.isEmpty_nil, List.map_nil, List.map_cons, Nat.reduceAdd, Nat.reduceEqDiff, Nat.succ_ne_self, Int.reduceNeg, Int.reduceLE, Int.reduceLT, Int.reduceEq, Int.cast_ofNat_Int, Int.toNat_zero, Int.toNat_one, Int.reduceToNat, Int.le_refl, List.getElem?_cons_zero, List.getElem?_cons_succ, reduceIte, reduceCtorEq, true_and, and_true, and_self, not_true_eq_false, not_false_eq_true, Bool.not_true, Bool.not_false, Bool.not_eq_true, Bool.not_eq_false, ne_eq, decide_not]
    walk_at "st"
    have e : ml (lp y) m = if lp y then 29 else 28 := by simp [ml, h2]
    rw [e] at h
    by_cases a1 : y % 4 = 0
    · by_cases a2 : y % 100 = 0
      · by_cases a3 : y % 400 = 0
        · have : lp y = true := by simp [lp, a1, a3]
          rw [this] at h
          try simp only [eq_true a1, eq_true a2, eq_true a3, sNil, sAssign, sRet, sRet0, sIf, sExpr, sAugSub, sAug, sCont, gName, gSub, gTup, gTup.go, aVar, aCst, aBin, aUn, aIf, aTup, aList, lCons, lNil, aCall, aMeth, aCmp, aSlice, tCmp, tCmp2, tAnd, tOr, tNot, tVal, tTrue, tFalse, upd_at, if_true, if_false, Bool.false_eq_true, decide_true, decide_false, decide_eq_true_eq, opItem, opAdd, opIAdd, opSub, opMul, opDiv, opMod, opNeg, cmpOp, cmpLt, cmpIn, cmpIs, eq_int, eq_str, eq_bool, occ_one, truth, kList, kStr, fLen, fRange, fList, fTuple, fChr, fSJoin, fAll, fAny, fSum, fMin, fDivmod, fAbs, joinL_nil, fAppend, fInsert, fPop, withOwn, withItems, setAt, nth_zero, nth_one, nth_two, nth_last, kOk, bindP, List.length_cons, List.length_nil, List.isEmpty_cons, List.isEmpty_nil, List.map_nil, List.map_cons, Nat.reduceAdd, Nat.reduceEqDiff, Nat.succ_ne_self, Int.reduceNeg, Int.reduceLE, Int.reduceLT, Int.reduceEq, Int.cast_ofNat_Int, Int.toNat_zero, Int.toNat_one, Int.reduceToNat, Int.le_refl, List.getElem?_cons_zero, List.getElem?_cons_succ, reduceIte, reduceCtorEq, true_and, and_true, and_self, not_true_eq_false, not_false_eq_true, Bool.not_true, Bool.not_false, Bool.not_eq_true, Bool.not_eq_false, ne_eq, decide_not]
          exact after_ret (after_ret (end_ret h))
        · have : lp y = false := by simp [lp, a2, a3]
          rw [this] at h
          try simp only [eq_true a1, eq_true a2, eq_false a3, sNil, sAssign, sRet, sRet0, sIf, sExpr, sAugSub, sAug, sCont, gName, gSub, gTup, gTup.go, aVar, aCst, aBin, aUn, aIf, aTup, aList, lCons, lNil, aCall, aMeth, aCmp, aSlice, tCmp, tCmp2, tAnd, tOr, tNot, tVal, tTrue, tFalse, upd_at, if_true, if_false, Bool.false_eq_true, decide_true, decide_false, decide_eq_true_eq, opItem, opAdd, opIAdd, opSub, opMul, opDiv, opMod, opNeg, cmpOp, cmpLt, cmpIn, cmpIs, eq_int, eq_str, eq_bool, occ_one, truth, kList, kStr, fLen, fRange, fList, fTuple, fChr, fSJoin, fAll, fAny, fSum, fMin, fDivmod, fAbs, joinL_nil, fAppend, fInsert, fPop, withOwn, withItems, setAt, nth_zero, nth_one, nth_two, nth_last, kOk, bindP, List.length_cons, List.length_nil, List.isEmpty_cons, List.isEmpty_nil, List.map_nil, List.map_cons, Nat.reduceAdd, Nat.reduceEqDiff, Nat.succ_ne_self, Int.reduceNeg, Int.reduceLE, Int.reduceLT, Int.reduceEq, Int.cast_ofNat_Int, Int.toNat_zero, Int.toNat_one, Int.reduceToNat, Int.le_refl, List.getElem?_cons_zero, List.getElem?_cons_succ, reduceIte, reduceCtorEq, true_and, and_true, and_self, not_true_eq_false, not_false_eq_true, Bool.not_true, Bool.not_false, Bool.not_eq_true, Bool.not_eq_false, ne_eq, decide_not]
          exact after_ret (after_ret (end_ret h))
      · have : lp y = true := by simp [lp, a1, a2]
        rw [this] at h
        try simp only [eq_true a1, eq_false a2, sNil, sAssign, sRet, sRet0, sIf, sExpr, sAugSub, sAug, sCont, gName, gSub, gTup, gTup.go, aVar, aCst, aBin, aUn, aIf, aTup, aList, lCons, lNil, aCall, aMeth, aCmp, aSlice, tCmp, tCmp2, tAnd, tOr, tNot, tVal, tTrue, tFalse, upd_at, if_true, if_false, Bool.false_eq_true, decide_true, decide_false, decide_eq_true_eq, opItem, opAdd, opIAdd, opSub, opMul, opDiv, opMod, opNeg, cmpOp, cmpLt, cmpIn, cmpIs, eq_int, eq_str, eq_bool, occ_one, truth, kList, kStr, fLen, fRange, fList, fTuple, fChr, fSJoin, fAll, fAny, fSum, fMin, fDivmod, fAbs, joinL_nil, fAppend, fInsert, fPop, withOwn, withItems, setAt, nth_zero, nth_one, nth_two, nth_last, kOk, bindP, List.length_cons, List.length_nil, List.isEmpty_cons, List.isEmpty_nil, List.map_nil, List.map_cons, Nat.reduceAdd, Nat.reduceEqDiff, Nat.succ_ne_self, Int.reduceNeg, Int.reduceLE, Int.reduceLT, Int.reduceEq, Int.cast_ofNat_Int, Int.toNat_zero, Int.toNat_one, Int.reduceToNat, Int.le_refl, List.getElem?_cons_zero, List.getElem?_cons_succ, reduceIte, reduceCtorEq, true_and, and_true, and_self, not_true_eq_false, not_false_eq_true, Bool.not_true, Bool.not_false, Bool.not_eq_true, Bool.not_eq_false, ne_eq, decide_not]
        exact after_ret (after_ret (end_ret h))
    · have : lp y = false := by simp [lp, a1]
      rw [this] at h
      try simp only [eq_false a1, sNil, sAssign, sRet, sRet0, sIf, sExpr, sAugSub, sAug, sCont, gName, gSub, gTup, gTup.go, aVar, aCst, aBin, aUn, aIf, aTup, aList, lCons, lNil, aCall, aMeth, aCmp, aSlice, tCmp, tCmp2, tAnd, tOr, tNot, tVal, tTrue, tFalse, upd_at, if_true, if_false, Bool.false_eq_true, decide_true, decide_false, decide_eq_true_eq, opItem, opAdd, opIAdd, opSub, opMul, opDiv, opMod, opNeg, cmpOp, cmpLt, cmpIn, cmpIs, eq_int, eq_str, eq_bool, occ_one, truth, kList, kStr, fLen, fRange, fList, fTuple, fChr, fSJoin, fAll, fAny, fSum, fMin, fDivmod, fAbs, joinL_nil, fAppend, fInsert, fPop, withOwn, withItems, setAt, nth_zero, nth_one, nth_two, nth_last, kOk, bindP, List.length_cons, List.length_nil, List.isEmpty_cons, List.isEmpty_nil, List.map_nil, List.map_cons, Nat.reduceAdd, Nat.reduceEqDiff, Nat.succ_ne_self, Int.reduceNeg, Int.reduceLE, Int.reduceLT, Int.reduceEq, Int.cast_ofNat_Int, Int.toNat_zero, Int.toNat_one, Int.reduceToNat, Int.le_refl, List.getElem?_cons_zero, List.getElem?_cons_succ, reduceIte, reduceCtorEq, true_and, and_true, and_self, not_true_eq_false, not_false_eq_true, Bool.not_true, Bool.not_false, Bool.not_eq_true, Bool.not_eq_false, ne_eq, decide_not]
      exact after_ret (after_ret (end_ret h))
  · try simp only [eq_false h2, sNil, sAssign, sRet, sRet0, sIf, sExpr, sAugSub, sAug, sCont, gName, gSub, gTup, gTup.go, aVar, aCst, aBin, aUn, aIf, aTup, aList, lCons, lNil, aCall, aMeth, aCmp, aSlice, tCmp, tCmp2, tAnd, tOr, tNot, tVal, tTrue, tFalse, upd_at, if_true, if_false, Bool.false_eq_true, decide_true, decide_false, decide_eq_true_eq, opItem, opAdd, opIAdd, opSub, opMul, opDiv, opMod, opNeg, cmpOp, cmpLt, cmpIn, cmpIs, eq_int, eq_str, eq_bool, occ_one, truth, kList, kStr, fLen, fRange, fList, fTuple, fChr, fSJoin, fAll, fAny, fSum, fMin, fDivmod, fAbs, joinL_nil, fAppend, fInsert, fPop, withOwn, withItems, setAt, nth_zero, nth_one, nth_two, nth_last, kOk, bindP, List.length_cons, List.length_nil, List.isEmpty_cons, List.isEmpty_nil, List.map_nil, List.map_cons, Nat.reduceAdd, Nat.reduceEqDiff, Nat.succ_ne_self, Int.reduceNeg, Int.reduceLE, Int.reduceLT, Int.reduceEq, Int.cast_ofNat_Int, Int.toNat_zero, Int.toNat_one, Int.reduceToNat, Int.le_refl, List.getElem?_cons_zero, List.getElem?_cons_succ, reduceIte, reduceCtorEq, true_and, and_true, and_self, not_true_eq_false, not_false_eq_true, Bool.not_true, Bool.not_false, Bool.not_eq_true, Bool.not_eq_false, ne_eq, decide_not]
    refine after_next ?_
    walk_at "st"
    (try simp only [sCons, sNil, sAssign, sRet, sRet0, sIf, sExpr, sFor, sAugSub, sAug, sCont, gName, gSub, gTup, gTup.go, aVar, aCst, aBin, aUn, aIf, aTup, aList, lCons, lNil, aCall, aMeth, aCmp, aSlice, tCmp, tCmp2, tAnd, tOr, tNot, tVal, tTrue, tFalse, upd_at, if_true, if_false, Bool.false_eq_true, decide_true, decide_false, decide_eq_true_eq, opItem, opAdd, opIAdd, opSub, opMul, opDiv, opMod, opNeg, cmpOp, cmpLt, cmpIn, cmpIs, eq_int, eq_str, eq_bool, occ_one, truth, kList, kStr, fLen, fRange, fList, fTuple, fChr, fSJoin, fAll, fAny, fSum, fMin, fDivmod, fAbs, joinL_nil, fAppend, fInsert, fPop, withOwn, withItems, setAt, nth_zero, nth_one, nth_two, nth_last, kOk, bindP, List.length_cons, List.length_nil, List.isEmpty_cons, List.isEmpty_nil, List.map_nil, List.map_cons, Nat.reduceAdd, Nat.reduceEqDiff, Nat.succ_ne_self, Int.reduceNeg, Int.reduceLE, Int.reduceLT, Int.reduceEq, Int.cast_ofNat_Int, Int.toNat_zero, Int.toNat_one, Int.reduceToNat, Int.le_refl, List.getElem?_cons_zero, List.getElem?_cons_succ, reduceIte, reduceCtorEq, true_and, and_true, and_self, not_true_eq_false, not_false_eq_true, Bool.not_true, Bool.not_false, Bool.not_eq_true, Bool.not_eq_false, ne_eq, decide_not])
    refine ⟨by simp [szOk], .int m, [.int 4, .int 6, .int 9, .int 11], .int _ m, .cons (.int _ 4) (.cons (.int _ 6) (.cons (.int _ 9) (.cons (.int _ 11) (.nil _)))), ?_⟩
    have e : ([PyData.int 4, .int 6, .int 9, .int 11].any fun y => PyData.eqv y (.int m)) = decide (m = 4 ∨ m = 6 ∨ m = 9 ∨ m = 11) := by
      have hc : ∀ a : Int, (a == m) = decide (m = a) := fun a => by
        by_cases ha : a = m
        · simp [ha]
        · simp [ha, Ne.symm ha]
      simp [PyData.eqv, hc]
    rw [e]
    have e2 : ml (lp y) m = if m = 4 ∨ m = 6 ∨ m = 9 ∨ m = 11 then 30 else 31 := by simp [ml, h2]
    rw [e2] at h
    by_cases hm : m = 4 ∨ m = 6 ∨ m = 9 ∨ m = 11
    · rw [if_pos hm] at h
      rw [decide_eq_true hm]
      (try simp only [sCons, sNil, sAssign, sRet, sRet0, sIf, sExpr, sFor, sAugSub, sAug, sCont, gName, gSub, gTup, gTup.go, aVar, aCst, aBin, aUn, aIf, aTup, aList, lCons, lNil, aCall, aMeth, aCmp, aSlice, tCmp, tCmp2, tAnd, tOr, tNot, tVal, tTrue, tFalse, upd_at, if_true, if_false, Bool.false_eq_true, decide_true, decide_false, decide_eq_true_eq, opItem, opAdd, opIAdd, opSub, opMul, opDiv, opMod, opNeg, cmpOp, cmpLt, cmpIn, cmpIs, eq_int, eq_str, eq_bool, occ_one, truth, kList, kStr, fLen, fRange, fList, fTuple, fChr, fSJoin, fAll, fAny, fSum, fMin, fDivmod, fAbs, joinL_nil, fAppend, fInsert, fPop, withOwn, withItems, setAt, nth_zero, nth_one, nth_two, nth_last, kOk, bindP, List.length_cons, List.length_nil, List.isEmpty_cons, List.isEmpty_nil, List.map_nil, List.map_cons, Nat.reduceAdd, Nat.reduceEqDiff, Nat.succ_ne_self, Int.reduceNeg, Int.reduceLE, Int.reduceLT, Int.reduceEq, Int.cast_ofNat_Int, Int.toNat_zero, Int.toNat_one, Int.reduceToNat, Int.le_refl, List.getElem?_cons_zero, List.getElem?_cons_succ, reduceIte, reduceCtorEq, true_and, and_true, and_self, not_true_eq_false, not_false_eq_true, Bool.not_true, Bool.not_false, Bool.not_eq_true, Bool.not_eq_false, ne_eq, decide_not])
      exact after_ret (end_ret h)
    · rw [if_neg hm] at h
      rw [decide_eq_false hm]
      (try simp only [sCons, sNil, sAssign, sRet, sRet0, sIf, sExpr, sFor, sAugSub, sAug, sCont, gName, gSub, gTup, gTup.go, aVar, aCst, aBin, aUn, aIf, aTup, aList, lCons, lNil, aCall, aMeth, aCmp, aSlice, tCmp, tCmp2, tAnd, tOr, tNot, tVal, tTrue, tFalse, upd_at, if_true, if_false, Bool.false_eq_true, decide_true, decide_false, decide_eq_true_eq, opItem, opAdd, opIAdd, opSub, opMul, opDiv, opMod, opNeg, cmpOp, cmpLt, cmpIn, cmpIs, eq_int, eq_str, eq_bool, occ_one, truth, kList, kStr, fLen, fRange, fList, fTuple, fChr, fSJoin, fAll, fAny, fSum, fMin, fDivmod, fAbs, joinL_nil, fAppend, fInsert, fPop, withOwn, withItems, setAt, nth_zero, nth_one, nth_two, nth_last, kOk, bindP, List.length_cons, List.length_nil, List.isEmpty_cons, List.isEmpty_nil, List.map_nil, List.map_cons, Nat.reduceAdd, Nat.reduceEqDiff, Nat.succ_ne_self, Int.reduceNeg, Int.reduceLE, Int.reduceLT, Int.reduceEq, Int.cast_ofNat_Int, Int.toNat_zero, Int.toNat_one, Int.reduceToNat, Int.le_refl, List.getElem?_cons_zero, List.getElem?_cons_succ, reduceIte, reduceCtorEq, true_and, and_true, and_self, not_true_eq_false, not_false_eq_true, Bool.not_true, Bool.not_false, Bool.not_eq_true, Bool.not_eq_false, ne_eq, decide_not])
      exact after_ret (end_ret h)
theorem row_loop {Q : Fl → AEnv → AH → Prop} {ρ : AEnv} {H : AH} {y l : Int} (h0 : 0 ≤ l) (h1 : l < if lp y then 366 else 365) (r2 : ρ 2 = some (.int y)) (r7 : ρ 7 = some (.int l)) (r3 : ρ 3 = some (.int 1))
    (hQ : ∀ ρ' m d, (∀ k, k ≠ 7 → k ≠ 3 → ρ' k = ρ k) → ρ' 7 = some (.int d) → ρ' 3 = some (.int m) → 1 ≤ m → m ≤ 12 → 0 ≤ d → d < ml (lp y) m → l = cu (lp y) m + d → Q .next ρ' H) :
    sWhile (tCmp .GtE (aVar 7) (aCall f__law_length (lCons (aVar 2) (lCons (aVar 3) (lNil))))) (l__law_row_1) Q ρ H := by
  refine while_inv (mt_cmp m_var (m_call m_f__law_length (ml_cons m_var (ml_cons m_var ml_nil)))) m_l__law_row_1 (fun k ρ' H' => H' = H ∧ ∃ m d : Int, k = (12 - m).toNat ∧ (∀ j, j ≠ 7 → j ≠ 3 → ρ' j = ρ j) ∧ ρ' 7 = some (.int d) ∧ ρ' 3 = some (.int m) ∧ 1 ≤ m ∧ m ≤ 12 ∧ 0 ≤ d ∧ l = cu (lp y) m + d) 11 ⟨rfl, 1, l, rfl, fun _ _ _ => rfl, r7, r3, by omega, by omega, h0, by rw [cu_one]; omega⟩ ?_
  rintro k ρ' H' ⟨rfl, m, d, rfl, hk, q7, q3, m1, m2, d0, e⟩
  have q2 : ρ' 2 = some (.int y) := by rw [hk 2 (by decide) (by decide)]; exact r2
  simp only [tCmp, aVar, q7, aCall, lCons, lNil, q2, q3]
  refine length_spec ?_
  simp only [cmpOp, cmpLt]
  have hend := cu_end (lp y)
  by_cases hd : ml (lp y) m ≤ d
  · have hm12 : m ≤ 11 := by
      by_cases e12 : m = 12
      · subst e12; split at h1 <;> split at hend <;> simp_all <;> omega
      · omega
    have hst := cu_step (lp y) m1 hm12
    have hdd : (d ≥ ml (lp y) m) = True := eq_true hd
    simp only [hdd, decide_true, if_true, l__law_row_1]
    walk_at "st"
    simp only [sAssign, aBin, aVar, q7, aCall, lCons, lNil, q2, q3]
    refine length_spec ?_
    simp only [opSub, gName]
    refine after_next ?_
    walk_at "st"
    try simp only [q3, sNil, sAssign, sRet, sRet0, sIf, sExpr, sAugSub, sAug, sCont, gName, gSub, gTup, gTup.go, aVar, aCst, aBin, aUn, aIf, aTup, aList, lCons, lNil, aCall, aMeth, aCmp, aSlice, tCmp, tCmp2, tAnd, tOr, tNot, tVal, tTrue, tFalse, upd_at, if_true, if_false, Bool.false_eq_true, decide_true, decide_false, decide_eq_true_eq, opItem, opAdd, opIAdd, opSub, opMul, opDiv, opMod, opNeg, cmpOp, cmpLt, cmpIn, cmpIs, eq_int, eq_str, eq_bool, occ_one, truth, kList, kStr, fLen, fRange, fList, fTuple, fChr, fSJoin, fAll, fAny, fSum, fMin, fDivmod, fAbs, joinL_nil, fAppend, fInsert, fPop, withOwn, withItems, setAt, nth_zero, nth_one, nth_two, nth_last, kOk, bindP, List.length_cons, List.length_nil, List.isEmpty_cons, List.isEmpty_nil, List.map_nil, List.map_cons, Nat.reduceAdd, Nat.reduceEqDiff, Nat.succ_ne_self, Int.reduceNeg, Int.reduceLE, Int.reduceLT, Int.reduceEq, Int.cast_ofNat_Int, Int.toNat_zero, Int.toNat_one, Int.reduceToNat, Int.le_refl, List.getElem?_cons_zero, List.getElem?_cons_succ, reduceIte, reduceCtorEq, true_and, and_true, and_self, not_true_eq_false, not_false_eq_true, Bool.not_true, Bool.not_false, Bool.not_eq_true, Bool.not_eq_false, ne_eq, decide_not]
    refine after_next ?_
    refine ⟨(12 - (m + 1)).toNat, by omega, rfl, m + 1, d - ml (lp y) m, rfl, fun j j7 j3 => by simp [upd_at, j7, j3, hk j j7 j3], by simp [upd_at], by simp [upd_at], by omega, by omega, by omega, by omega⟩
  · have hdd : (d ≥ ml (lp y) m) = False := eq_false hd
    simp only [hdd, decide_false, Bool.false_eq_true, if_false]
    exact hQ ρ' m d hk q7 q3 m1 m2 d0 (by omega) e
theorem mulL {a : Int} (b : Int) (h1 : -(2 ^ 64) < a) (h2 : a < 2 ^ 64) : IntMulOk a b := .of_left (intBits_le_64 h1 h2)
/-- what the row holds -/
structure Rw (L : Int) (y m d hh mi ss wd : Int) : Prop where
  yb : 1 ≤ y ∧ y ≤ 9999
  mb : 1 ≤ m ∧ m ≤ 12
  db : 1 ≤ d ∧ d ≤ ml (lp y) m
  hb : 0 ≤ hh ∧ hh < 24
  ib : 0 ≤ mi ∧ mi < 60
  sb : 0 ≤ ss ∧ ss < 60
  day : 365 * (y - 1) + (y - 1) / 4 - (y - 1) / 100 + (y - 1) / 400 + d - 1 + cu (lp y) m = L / 86400
  sec : 3600 * hh + 60 * mi + ss = L % 86400
  wk : wd = L / 86400 % 7
theorem row_spec {Q : PV → AH → Prop} {H : AH} {L : Int} (h0 : 0 ≤ L) (h1 : L < 315537897600) (hQ : ∀ a y m d hh mi ss wd, H a = none → Rw L y m d hh mi ss wd → Q (.ref a) (upd H a ⟨[y, m, d, hh, mi, ss, wd].map .int, true⟩)) : f__law_row [.int L] Q H := by
  refine fn rfl ?_
  walk_at "st"
  (try simp only [sCons, sNil, sAssign, sRet, sRet0, sIf, sExpr, sFor, sAugSub, sAug, sCont, gName, gSub, gTup, gTup.go, aVar, aCst, aBin, aUn, aIf, aTup, aList, lCons, lNil, aCall, aMeth, aCmp, aSlice, tCmp, tCmp2, tAnd, tOr, tNot, tVal, tTrue, tFalse, upd_at, if_true, if_false, Bool.false_eq_true, decide_true, decide_false, decide_eq_true_eq, opItem, opAdd, opIAdd, opSub, opMul, opDiv, opMod, opNeg, cmpOp, cmpLt, cmpIn, cmpIs, eq_int, eq_str, eq_bool, occ_one, truth, kList, kStr, fLen, fRange, fList, fTuple, fChr, fSJoin, fAll, fAny, fSum, fMin, fDivmod, fAbs, joinL_nil, fAppend, fInsert, fPop, withOwn, withItems, setAt, nth_zero, nth_one, nth_two, nth_last, kOk, bindP, List.length_cons, List.length_nil, List.isEmpty_cons, List.isEmpty_nil, List.map_nil, List.map_cons, Nat.reduceAdd, Nat.reduceEqDiff, Nat.succ_ne_self, Int.reduceNeg, Int.reduceLE, Int.reduceLT, Int.reduceEq, Int.cast_ofNat_Int, Int.toNat_zero, Int.toNat_one, Int.reduceToNat, Int.le_refl, List.getElem?_cons_zero, List.getElem?_cons_succ, reduceIte, reduceCtorEq, true_and, and_true, and_self, not_true_eq_false, not_false_eq_true, Bool.not_true, Bool.not_false, Bool.not_eq_true, Bool.not_eq_false, ne_eq, decide_not])
  refine after_next ?_
  generalize hday : L / 86400 = day
  generalize hsec : L % 86400 = sec
  have hd0 : 0 ≤ day := by omega
  have hd1 : day < 3652059 := by omega
  have key := yr_of hd0 _ _ _ _ _ _ _ rfl rfl rfl rfl rfl rfl rfl
  walk_at "st"
  (try simp only [sCons, sNil, sAssign, sRet, sRet0, sIf, sExpr, sFor, sAugSub, sAug, sCont, gName, gSub, gTup, gTup.go, aVar, aCst, aBin, aUn, aIf, aTup, aList, lCons, lNil, aCall, aMeth, aCmp, aSlice, tCmp, tCmp2, tAnd, tOr, tNot, tVal, tTrue, tFalse, upd_at, if_true, if_false, Bool.false_eq_true, decide_true, decide_false, decide_eq_true_eq, opItem, opAdd, opIAdd, opSub, opMul, opDiv, opMod, opNeg, cmpOp, cmpLt, cmpIn, cmpIs, eq_int, eq_str, eq_bool, occ_one, truth, kList, kStr, fLen, fRange, fList, fTuple, fChr, fSJoin, fAll, fAny, fSum, fMin, fDivmod, fAbs, joinL_nil, fAppend, fInsert, fPop, withOwn, withItems, setAt, nth_zero, nth_one, nth_two, nth_last, kOk, bindP, List.length_cons, List.length_nil, List.isEmpty_cons, List.isEmpty_nil, List.map_nil, List.map_cons, Nat.reduceAdd, Nat.reduceEqDiff, Nat.succ_ne_self, Int.reduceNeg, Int.reduceLE, Int.reduceLT, Int.reduceEq, Int.cast_ofNat_Int, Int.toNat_zero, Int.toNat_one, Int.reduceToNat, Int.le_refl, List.getElem?_cons_zero, List.getElem?_cons_succ, reduceIte, reduceCtorEq, true_and, and_true, and_self, not_true_eq_false, not_false_eq_true, Bool.not_true, Bool.not_false, Bool.not_eq_true, Bool.not_eq_false, ne_eq, decide_not])
  refine after_next ?_
  walk_at "st"
  (try simp only [sCons, sNil, sAssign, sRet, sRet0, sIf, sExpr, sFor, sAugSub, sAug, sCont, gName, gSub, gTup, gTup.go, aVar, aCst, aBin, aUn, aIf, aTup, aList, lCons, lNil, aCall, aMeth, aCmp, aSlice, tCmp, tCmp2, tAnd, tOr, tNot, tVal, tTrue, tFalse, upd_at, if_true, if_false, Bool.false_eq_true, decide_true, decide_false, decide_eq_true_eq, opItem, opAdd, opIAdd, opSub, opMul, opDiv, opMod, opNeg, cmpOp, cmpLt, cmpIn, cmpIs, eq_int, eq_str, eq_bool, occ_one, truth, kList, kStr, fLen, fRange, fList, fTuple, fChr, fSJoin, fAll, fAny, fSum, fMin, fDivmod, fAbs, joinL_nil, fAppend, fInsert, fPop, withOwn, withItems, setAt, nth_zero, nth_one, nth_two, nth_last, kOk, bindP, List.length_cons, List.length_nil, List.isEmpty_cons, List.isEmpty_nil, List.map_nil, List.map_cons, Nat.reduceAdd, Nat.reduceEqDiff, Nat.succ_ne_self, Int.reduceNeg, Int.reduceLE, Int.reduceLT, Int.reduceEq, Int.cast_ofNat_Int, Int.toNat_zero, Int.toNat_one, Int.reduceToNat, Int.le_refl, List.getElem?_cons_zero, List.getElem?_cons_succ, reduceIte, reduceCtorEq, true_and, and_true, and_self, not_true_eq_false, not_false_eq_true, Bool.not_true, Bool.not_false, Bool.not_eq_true, Bool.not_eq_false, ne_eq, decide_not])
  refine after_next ?_
  walk_at "st"
  (try simp only [sCons, sNil, sAssign, sRet, sRet0, sIf, sExpr, sFor, sAugSub, sAug, sCont, gName, gSub, gTup, gTup.go, aVar, aCst, aBin, aUn, aIf, aTup, aList, lCons, lNil, aCall, aMeth, aCmp, aSlice, tCmp, tCmp2, tAnd, tOr, tNot, tVal, tTrue, tFalse, upd_at, if_true, if_false, Bool.false_eq_true, decide_true, decide_false, decide_eq_true_eq, opItem, opAdd, opIAdd, opSub, opMul, opDiv, opMod, opNeg, cmpOp, cmpLt, cmpIn, cmpIs, eq_int, eq_str, eq_bool, occ_one, truth, kList, kStr, fLen, fRange, fList, fTuple, fChr, fSJoin, fAll, fAny, fSum, fMin, fDivmod, fAbs, joinL_nil, fAppend, fInsert, fPop, withOwn, withItems, setAt, nth_zero, nth_one, nth_two, nth_last, kOk, bindP, List.length_cons, List.length_nil, List.isEmpty_cons, List.isEmpty_nil, List.map_nil, List.map_cons, Nat.reduceAdd, Nat.reduceEqDiff, Nat.succ_ne_self, Int.reduceNeg, Int.reduceLE, Int.reduceLT, Int.reduceEq, Int.cast_ofNat_Int, Int.toNat_zero, Int.toNat_one, Int.reduceToNat, Int.le_refl, List.getElem?_cons_zero, List.getElem?_cons_succ, reduceIte, reduceCtorEq, true_and, and_true, and_self, not_true_eq_false, not_false_eq_true, Bool.not_true, Bool.not_false, Bool.not_eq_true, Bool.not_eq_false, ne_eq, decide_not])
  refine ⟨mulL _ (by decide) (by decide), after_next ?_⟩
  walk_at "st"
  (try simp only [sCons, sNil, sAssign, sRet, sRet0, sIf, sExpr, sFor, sAugSub, sAug, sCont, gName, gSub, gTup, gTup.go, aVar, aCst, aBin, aUn, aIf, aTup, aList, lCons, lNil, aCall, aMeth, aCmp, aSlice, tCmp, tCmp2, tAnd, tOr, tNot, tVal, tTrue, tFalse, upd_at, if_true, if_false, Bool.false_eq_true, decide_true, decide_false, decide_eq_true_eq, opItem, opAdd, opIAdd, opSub, opMul, opDiv, opMod, opNeg, cmpOp, cmpLt, cmpIn, cmpIs, eq_int, eq_str, eq_bool, occ_one, truth, kList, kStr, fLen, fRange, fList, fTuple, fChr, fSJoin, fAll, fAny, fSum, fMin, fDivmod, fAbs, joinL_nil, fAppend, fInsert, fPop, withOwn, withItems, setAt, nth_zero, nth_one, nth_two, nth_last, kOk, bindP, List.length_cons, List.length_nil, List.isEmpty_cons, List.isEmpty_nil, List.map_nil, List.map_cons, Nat.reduceAdd, Nat.reduceEqDiff, Nat.succ_ne_self, Int.reduceNeg, Int.reduceLE, Int.reduceLT, Int.reduceEq, Int.cast_ofNat_Int, Int.toNat_zero, Int.toNat_one, Int.reduceToNat, Int.le_refl, List.getElem?_cons_zero, List.getElem?_cons_succ, reduceIte, reduceCtorEq, true_and, and_true, and_self, not_true_eq_false, not_false_eq_true, Bool.not_true, Bool.not_false, Bool.not_eq_true, Bool.not_eq_false, ne_eq, decide_not])
  refine after_next ?_
  walk_at "st"
  (try simp only [sCons, sNil, sAssign, sRet, sRet0, sIf, sExpr, sFor, sAugSub, sAug, sCont, gName, gSub, gTup, gTup.go, aVar, aCst, aBin, aUn, aIf, aTup, aList, lCons, lNil, aCall, aMeth, aCmp, aSlice, tCmp, tCmp2, tAnd, tOr, tNot, tVal, tTrue, tFalse, upd_at, if_true, if_false, Bool.false_eq_true, decide_true, decide_false, decide_eq_true_eq, opItem, opAdd, opIAdd, opSub, opMul, opDiv, opMod, opNeg, cmpOp, cmpLt, cmpIn, cmpIs, eq_int, eq_str, eq_bool, occ_one, truth, kList, kStr, fLen, fRange, fList, fTuple, fChr, fSJoin, fAll, fAny, fSum, fMin, fDivmod, fAbs, joinL_nil, fAppend, fInsert, fPop, withOwn, withItems, setAt, nth_zero, nth_one, nth_two, nth_last, kOk, bindP, List.length_cons, List.length_nil, List.isEmpty_cons, List.isEmpty_nil, List.map_nil, List.map_cons, Nat.reduceAdd, Nat.reduceEqDiff, Nat.succ_ne_self, Int.reduceNeg, Int.reduceLE, Int.reduceLT, Int.reduceEq, Int.cast_ofNat_Int, Int.toNat_zero, Int.toNat_one, Int.reduceToNat, Int.le_refl, List.getElem?_cons_zero, List.getElem?_cons_succ, reduceIte, reduceCtorEq, true_and, and_true, and_self, not_true_eq_false, not_false_eq_true, Bool.not_true, Bool.not_false, Bool.not_eq_true, Bool.not_eq_false, ne_eq, decide_not])
  refine after_next ?_
  walk_at "st"
  (try simp only [sCons, sNil, sAssign, sRet, sRet0, sIf, sExpr, sFor, sAugSub, sAug, sCont, gName, gSub, gTup, gTup.go, aVar, aCst, aBin, aUn, aIf, aTup, aList, lCons, lNil, aCall, aMeth, aCmp, aSlice, tCmp, tCmp2, tAnd, tOr, tNot, tVal, tTrue, tFalse, upd_at, if_true, if_false, Bool.false_eq_true, decide_true, decide_false, decide_eq_true_eq, opItem, opAdd, opIAdd, opSub, opMul, opDiv, opMod, opNeg, cmpOp, cmpLt, cmpIn, cmpIs, eq_int, eq_str, eq_bool, occ_one, truth, kList, kStr, fLen, fRange, fList, fTuple, fChr, fSJoin, fAll, fAny, fSum, fMin, fDivmod, fAbs, joinL_nil, fAppend, fInsert, fPop, withOwn, withItems, setAt, nth_zero, nth_one, nth_two, nth_last, kOk, bindP, List.length_cons, List.length_nil, List.isEmpty_cons, List.isEmpty_nil, List.map_nil, List.map_cons, Nat.reduceAdd, Nat.reduceEqDiff, Nat.succ_ne_self, Int.reduceNeg, Int.reduceLE, Int.reduceLT, Int.reduceEq, Int.cast_ofNat_Int, Int.toNat_zero, Int.toNat_one, Int.reduceToNat, Int.le_refl, List.getElem?_cons_zero, List.getElem?_cons_succ, reduceIte, reduceCtorEq, true_and, and_true, and_self, not_true_eq_false, not_false_eq_true, Bool.not_true, Bool.not_false, Bool.not_eq_true, Bool.not_eq_false, ne_eq, decide_not])
  refine ⟨mulL _ (by decide) (by decide), after_next ?_⟩
  generalize (day % 146097 - 36524 * if 3 < day % 146097 / 36524 then 3 else day % 146097 / 36524) % 1461 - 365 * (if 3 < (day % 146097 - 36524 * if 3 < day % 146097 / 36524 then 3 else day % 146097 / 36524) % 1461 / 365 then 3 else (day % 146097 - 36524 * if 3 < day % 146097 / 36524 then 3 else day % 146097 / 36524) % 1461 / 365) = l4 at key ⊢
  generalize (if 3 < (day % 146097 - 36524 * if 3 < day % 146097 / 36524 then 3 else day % 146097 / 36524) % 1461 / 365 then 3 else (day % 146097 - 36524 * if 3 < day % 146097 / 36524 then 3 else day % 146097 / 36524) % 1461 / 365) = o at key ⊢
  generalize (day % 146097 - 36524 * if 3 < day % 146097 / 36524 then 3 else day % 146097 / 36524) / 1461 = f at key ⊢
  generalize (if 3 < day % 146097 / 36524 then 3 else day % 146097 / 36524) = hu at key ⊢
  generalize day / 146097 = ag at key ⊢
  walk_at "st"
  (try simp only [sCons, sNil, sAssign, sRet, sRet0, sIf, sExpr, sFor, sAugSub, sAug, sCont, gName, gSub, gTup, gTup.go, aVar, aCst, aBin, aUn, aIf, aTup, aList, lCons, lNil, aCall, aMeth, aCmp, aSlice, tCmp, tCmp2, tAnd, tOr, tNot, tVal, tTrue, tFalse, upd_at, if_true, if_false, Bool.false_eq_true, decide_true, decide_false, decide_eq_true_eq, opItem, opAdd, opIAdd, opSub, opMul, opDiv, opMod, opNeg, cmpOp, cmpLt, cmpIn, cmpIs, eq_int, eq_str, eq_bool, occ_one, truth, kList, kStr, fLen, fRange, fList, fTuple, fChr, fSJoin, fAll, fAny, fSum, fMin, fDivmod, fAbs, joinL_nil, fAppend, fInsert, fPop, withOwn, withItems, setAt, nth_zero, nth_one, nth_two, nth_last, kOk, bindP, List.length_cons, List.length_nil, List.isEmpty_cons, List.isEmpty_nil, List.map_nil, List.map_cons, Nat.reduceAdd, Nat.reduceEqDiff, Nat.succ_ne_self, Int.reduceNeg, Int.reduceLE, Int.reduceLT, Int.reduceEq, Int.cast_ofNat_Int, Int.toNat_zero, Int.toNat_one, Int.reduceToNat, Int.le_refl, List.getElem?_cons_zero, List.getElem?_cons_succ, reduceIte, reduceCtorEq, true_and, and_true, and_self, not_true_eq_false, not_false_eq_true, Bool.not_true, Bool.not_false, Bool.not_eq_true, Bool.not_eq_false, ne_eq, decide_not])
  refine ⟨mulL _ (by decide) (by decide), mulL _ (by decide) (by decide), mulL _ (by decide) (by decide), after_next ?_⟩
  generalize 400 * ag + 100 * hu + 4 * f + o + 1 = y at key ⊢
  walk_at "st"
  (try simp only [sCons, sNil, sAssign, sRet, sRet0, sIf, sExpr, sFor, sAugSub, sAug, sCont, gName, gSub, gTup, gTup.go, aVar, aCst, aBin, aUn, aIf, aTup, aList, lCons, lNil, aCall, aMeth, aCmp, aSlice, tCmp, tCmp2, tAnd, tOr, tNot, tVal, tTrue, tFalse, upd_at, if_true, if_false, Bool.false_eq_true, decide_true, decide_false, decide_eq_true_eq, opItem, opAdd, opIAdd, opSub, opMul, opDiv, opMod, opNeg, cmpOp, cmpLt, cmpIn, cmpIs, eq_int, eq_str, eq_bool, occ_one, truth, kList, kStr, fLen, fRange, fList, fTuple, fChr, fSJoin, fAll, fAny, fSum, fMin, fDivmod, fAbs, joinL_nil, fAppend, fInsert, fPop, withOwn, withItems, setAt, nth_zero, nth_one, nth_two, nth_last, kOk, bindP, List.length_cons, List.length_nil, List.isEmpty_cons, List.isEmpty_nil, List.map_nil, List.map_cons, Nat.reduceAdd, Nat.reduceEqDiff, Nat.succ_ne_self, Int.reduceNeg, Int.reduceLE, Int.reduceLT, Int.reduceEq, Int.cast_ofNat_Int, Int.toNat_zero, Int.toNat_one, Int.reduceToNat, Int.le_refl, List.getElem?_cons_zero, List.getElem?_cons_succ, reduceIte, reduceCtorEq, true_and, and_true, and_self, not_true_eq_false, not_false_eq_true, Bool.not_true, Bool.not_false, Bool.not_eq_true, Bool.not_eq_false, ne_eq, decide_not])
  refine after_next ?_
  walk_at "st"
  refine row_loop (y := y) (l := l4) key.l0 key.l1 (by simp [upd_at]) (by simp [upd_at]) (by simp [upd_at]) fun ρ' m d hk q7 q3 m1 m2 d0 d1 e => after_next ?_
  have q2 : ρ' 2 = some (.int y) := by rw [hk 2 (by decide) (by decide)]; simp [upd_at]
  have q5 : ρ' 5 = some (.int day) := by rw [hk 5 (by decide) (by decide)]; simp [upd_at]
  have q6 : ρ' 6 = some (.int sec) := by rw [hk 6 (by decide) (by decide)]; simp [upd_at]
  walk_at "st"
  try simp only [q2, q3, q5, q6, q7, sNil, sAssign, sRet, sRet0, sIf, sExpr, sAugSub, sAug, sCont, gName, gSub, gTup, gTup.go, aVar, aCst, aBin, aUn, aIf, aTup, aList, lCons, lNil, aCall, aMeth, aCmp, aSlice, tCmp, tCmp2, tAnd, tOr, tNot, tVal, tTrue, tFalse, upd_at, if_true, if_false, Bool.false_eq_true, decide_true, decide_false, decide_eq_true_eq, opItem, opAdd, opIAdd, opSub, opMul, opDiv, opMod, opNeg, cmpOp, cmpLt, cmpIn, cmpIs, eq_int, eq_str, eq_bool, occ_one, truth, kList, kStr, fLen, fRange, fList, fTuple, fChr, fSJoin, fAll, fAny, fSum, fMin, fDivmod, fAbs, joinL_nil, fAppend, fInsert, fPop, withOwn, withItems, setAt, nth_zero, nth_one, nth_two, nth_last, kOk, bindP, List.length_cons, List.length_nil, List.isEmpty_cons, List.isEmpty_nil, List.map_nil, List.map_cons, Nat.reduceAdd, Nat.reduceEqDiff, Nat.succ_ne_self, Int.reduceNeg, Int.reduceLE, Int.reduceLT, Int.reduceEq, Int.cast_ofNat_Int, Int.toNat_zero, Int.toNat_one, Int.reduceToNat, Int.le_refl, List.getElem?_cons_zero, List.getElem?_cons_succ, reduceIte, reduceCtorEq, true_and, and_true, and_self, not_true_eq_false, not_false_eq_true, Bool.not_true, Bool.not_false, Bool.not_eq_true, Bool.not_eq_false, ne_eq, decide_not]
  refine ⟨by simp [szOk], fun a ha => after_ret (end_ret ?_)⟩
  have hb := key.back
  have hm := key.most hd1
  refine hQ a y m (d + 1) (sec / 3600) (sec / 60 % 60) (sec % 60) (day % 7) ha ⟨hm, ⟨m1, m2⟩, ⟨by omega, by omega⟩, by omega, by omega, by omega, by omega, by omega, by rw [hday]⟩
theorem dg_at {k : Int} (h0 : 0 ≤ k) (h1 : k < 10) : nth dgs k = some (48 + k.toNat) := by
  have : k = 0 ∨ k = 1 ∨ k = 2 ∨ k = 3 ∨ k = 4 ∨ k = 5 ∨ k = 6 ∨ k = 7 ∨ k = 8 ∨ k = 9 := by omega
  rcases this with rfl | rfl | rfl | rfl | rfl | rfl | rfl | rfl | rfl | rfl <;> rfl
theorem zone_body {Q : Fl → AEnv → AH → Prop} {ρ : AEnv} {H : AH} {t : List Nat} {n : Int} (h0 : 0 ≤ n) (h1 : n < 100) (ht : t.length ≤ 10) (r13 : ρ 13 = some (.str t)) (r16 : ρ 16 = some (.int n)) (r17 : ρ 17 = some (.str dgs)) (hQ : Q .next (upd ρ 13 (.str (t ++ [48 + (n / 10).toNat] ++ [48 + (n % 10).toNat]))) H) : l__law_zone_1 Q ρ H := by
  simp only [l__law_zone_1]
  walk_at "st"
  have n1 := dg_at (k := n / 10) (by omega) (by omega)
  have n2 := dg_at (k := n % 10) (by omega) (by omega)
  try simp only [r13, r16, r17, n1, n2, sNil, sAssign, sRet, sRet0, sIf, sExpr, sAugSub, sAug, sCont, gName, gSub, gTup, gTup.go, aVar, aCst, aBin, aUn, aIf, aTup, aList, lCons, lNil, aCall, aMeth, aCmp, aSlice, tCmp, tCmp2, tAnd, tOr, tNot, tVal, tTrue, tFalse, upd_at, if_true, if_false, Bool.false_eq_true, decide_true, decide_false, decide_eq_true_eq, opItem, opAdd, opIAdd, opSub, opMul, opDiv, opMod, opNeg, cmpOp, cmpLt, cmpIn, cmpIs, eq_int, eq_str, eq_bool, occ_one, truth, kList, kStr, fLen, fRange, fList, fTuple, fChr, fSJoin, fAll, fAny, fSum, fMin, fDivmod, fAbs, joinL_nil, fAppend, fInsert, fPop, withOwn, withItems, setAt, nth_zero, nth_one, nth_two, nth_last, kOk, bindP, List.length_cons, List.length_nil, List.isEmpty_cons, List.isEmpty_nil, List.map_nil, List.map_cons, Nat.reduceAdd, Nat.reduceEqDiff, Nat.succ_ne_self, Int.reduceNeg, Int.reduceLE, Int.reduceLT, Int.reduceEq, Int.cast_ofNat_Int, Int.toNat_zero, Int.toNat_one, Int.reduceToNat, Int.le_refl, List.getElem?_cons_zero, List.getElem?_cons_succ, reduceIte, reduceCtorEq, true_and, and_true, and_self, not_true_eq_false, not_false_eq_true, Bool.not_true, Bool.not_false, Bool.not_eq_true, Bool.not_eq_false, ne_eq, decide_not]
  refine ⟨⟨by omega, by omega⟩, by simp [szOk]; omega, ⟨by omega, by omega⟩, by simp [szOk]; omega, after_next hQ⟩
theorem zone_loop {Q : PV → AH → Prop} {ρ : AEnv} {H : AH} {c : Nat} {h r : Int} (h0 : 0 ≤ h) (h1 : h < 100) (r0 : 0 ≤ r) (r1 : r < 100) (q13 : ρ 13 = some (.str [c])) (q15 : ρ 15 = some (.int h)) (q14 : ρ 14 = some (.int r)) (q17 : ρ 17 = some (.str dgs))
    (hQ : Q (.str ([c] ++ [48 + (h / 10).toNat] ++ [48 + (h % 10).toNat] ++ [48 + (r / 10).toNat] ++ [48 + (r % 10).toNat])) H) : sCons (sFor (gName 16) (aTup (lCons (aVar 15) (lCons (aVar 14) (lNil)))) (l__law_zone_1)) (sCons (sRet (aVar 13)) sNil) (endF Q) ρ H := by
  walk_at "st"
  try simp only [sFor, q15, q14, sNil, sAssign, sRet, sRet0, sIf, sExpr, sAugSub, sAug, sCont, gName, gSub, gTup, gTup.go, aVar, aCst, aBin, aUn, aIf, aTup, aList, lCons, lNil, aCall, aMeth, aCmp, aSlice, tCmp, tCmp2, tAnd, tOr, tNot, tVal, tTrue, tFalse, upd_at, if_true, if_false, Bool.false_eq_true, decide_true, decide_false, decide_eq_true_eq, opItem, opAdd, opIAdd, opSub, opMul, opDiv, opMod, opNeg, cmpOp, cmpLt, cmpIn, cmpIs, eq_int, eq_str, eq_bool, occ_one, truth, kList, kStr, fLen, fRange, fList, fTuple, fChr, fSJoin, fAll, fAny, fSum, fMin, fDivmod, fAbs, joinL_nil, fAppend, fInsert, fPop, withOwn, withItems, setAt, nth_zero, nth_one, nth_two, nth_last, kOk, bindP, List.length_cons, List.length_nil, List.isEmpty_cons, List.isEmpty_nil, List.map_nil, List.map_cons, Nat.reduceAdd, Nat.reduceEqDiff, Nat.succ_ne_self, Int.reduceNeg, Int.reduceLE, Int.reduceLT, Int.reduceEq, Int.cast_ofNat_Int, Int.toNat_zero, Int.toNat_one, Int.reduceToNat, Int.le_refl, List.getElem?_cons_zero, List.getElem?_cons_succ, reduceIte, reduceCtorEq, true_and, and_true, and_self, not_true_eq_false, not_false_eq_true, Bool.not_true, Bool.not_false, Bool.not_eq_true, Bool.not_eq_false, ne_eq, decide_not]
  refine ⟨by simp [szOk], ?_⟩
  simp only [forL, gName]
  refine zone_body (t := [c]) (n := h) h0 h1 (by simp) (by rw [upd_other _ _ (by decide)]; exact q13) (upd_same _ _ _) (by rw [upd_other _ _ (by decide)]; exact q17) ?_
  refine ⟨trivial, ?_⟩
  refine zone_body (t := [c] ++ [48 + (h / 10).toNat] ++ [48 + (h % 10).toNat]) (n := r) r0 r1 (by simp) (by rw [upd_other _ _ (by decide), upd_same]) (upd_same _ _ _) (by rw [upd_other _ _ (by decide), upd_other _ _ (by decide), upd_other _ _ (by decide)]; exact q17) ?_
  refine ⟨trivial, after_next ?_⟩
  walk_at "st"
  simp only [sRet, aVar, upd_same]
  exact after_ret (end_ret hQ)
def ab (z : Int) : Int := if z < 0 then -z else z
def zt (z : Int) : List Nat := [if z < 0 then 45 else 43] ++ [48 + (ab z / 60 / 10).toNat] ++ [48 + (ab z / 60 % 10).toNat] ++ [48 + (ab z % 60 / 10).toNat] ++ [48 + (ab z % 60 % 10).toNat]
theorem zone_spec {Q : PV → AH → Prop} {H : AH} {z : Int} (h0 : -1440 < z) (h1 : z < 1440) (hQ : Q (.str (zt z)) H) : f__law_zone [.int z] Q H := by
  have b0 : 0 ≤ ab z ∧ ab z < 1440 := by unfold ab; split <;> omega
  refine fn rfl ?_
  walk_at "st"
  (try simp only [sCons, sNil, sAssign, sRet, sRet0, sIf, sExpr, sFor, sAugSub, sAug, sCont, gName, gSub, gTup, gTup.go, aVar, aCst, aBin, aUn, aIf, aTup, aList, lCons, lNil, aCall, aMeth, aCmp, aSlice, tCmp, tCmp2, tAnd, tOr, tNot, tVal, tTrue, tFalse, upd_at, if_true, if_false, Bool.false_eq_true, decide_true, decide_false, decide_eq_true_eq, opItem, opAdd, opIAdd, opSub, opMul, opDiv, opMod, opNeg, cmpOp, cmpLt, cmpIn, cmpIs, eq_int, eq_str, eq_bool, occ_one, truth, kList, kStr, fLen, fRange, fList, fTuple, fChr, fSJoin, fAll, fAny, fSum, fMin, fDivmod, fAbs, joinL_nil, fAppend, fInsert, fPop, withOwn, withItems, setAt, nth_zero, nth_one, nth_two, nth_last, kOk, bindP, List.length_cons, List.length_nil, List.isEmpty_cons, List.isEmpty_nil, List.map_nil, List.map_cons, Nat.reduceAdd, Nat.reduceEqDiff, Nat.succ_ne_self, Int.reduceNeg, Int.reduceLE, Int.reduceLT, Int.reduceEq, Int.cast_ofNat_Int, Int.toNat_zero, Int.toNat_one, Int.reduceToNat, Int.le_refl, List.getElem?_cons_zero, List.getElem?_cons_succ, reduceIte, reduceCtorEq, true_and, and_true, and_self, not_true_eq_false, not_false_eq_true, Bool.not_true, Bool.not_false, Bool.not_eq_true, Bool.not_eq_false, ne_eq, decide_not])
  refine after_next ?_
  rw [show (if z < 0 then -z else z) = ab z from rfl]
  unfold zt at hQ
  generalize ab z = w at b0 hQ ⊢
  walk_at "st"
  (try simp only [sCons, sNil, sAssign, sRet, sRet0, sIf, sExpr, sFor, sAugSub, sAug, sCont, gName, gSub, gTup, gTup.go, aVar, aCst, aBin, aUn, aIf, aTup, aList, lCons, lNil, aCall, aMeth, aCmp, aSlice, tCmp, tCmp2, tAnd, tOr, tNot, tVal, tTrue, tFalse, upd_at, if_true, if_false, Bool.false_eq_true, decide_true, decide_false, decide_eq_true_eq, opItem, opAdd, opIAdd, opSub, opMul, opDiv, opMod, opNeg, cmpOp, cmpLt, cmpIn, cmpIs, eq_int, eq_str, eq_bool, occ_one, truth, kList, kStr, fLen, fRange, fList, fTuple, fChr, fSJoin, fAll, fAny, fSum, fMin, fDivmod, fAbs, joinL_nil, fAppend, fInsert, fPop, withOwn, withItems, setAt, nth_zero, nth_one, nth_two, nth_last, kOk, bindP, List.length_cons, List.length_nil, List.isEmpty_cons, List.isEmpty_nil, List.map_nil, List.map_cons, Nat.reduceAdd, Nat.reduceEqDiff, Nat.succ_ne_self, Int.reduceNeg, Int.reduceLE, Int.reduceLT, Int.reduceEq, Int.cast_ofNat_Int, Int.toNat_zero, Int.toNat_one, Int.reduceToNat, Int.le_refl, List.getElem?_cons_zero, List.getElem?_cons_succ, reduceIte, reduceCtorEq, true_and, and_true, and_self, not_true_eq_false, not_false_eq_true, Bool.not_true, Bool.not_false, Bool.not_eq_true, Bool.not_eq_false, ne_eq, decide_not])
  refine after_next ?_
  walk_at "st"
  by_cases hz : z < 0
  · rw [if_pos hz] at hQ
    try simp only [eq_true hz, sNil, sAssign, sRet, sRet0, sIf, sExpr, sAugSub, sAug, sCont, gName, gSub, gTup, gTup.go, aVar, aCst, aBin, aUn, aIf, aTup, aList, lCons, lNil, aCall, aMeth, aCmp, aSlice, tCmp, tCmp2, tAnd, tOr, tNot, tVal, tTrue, tFalse, upd_at, if_true, if_false, Bool.false_eq_true, decide_true, decide_false, decide_eq_true_eq, opItem, opAdd, opIAdd, opSub, opMul, opDiv, opMod, opNeg, cmpOp, cmpLt, cmpIn, cmpIs, eq_int, eq_str, eq_bool, occ_one, truth, kList, kStr, fLen, fRange, fList, fTuple, fChr, fSJoin, fAll, fAny, fSum, fMin, fDivmod, fAbs, joinL_nil, fAppend, fInsert, fPop, withOwn, withItems, setAt, nth_zero, nth_one, nth_two, nth_last, kOk, bindP, List.length_cons, List.length_nil, List.isEmpty_cons, List.isEmpty_nil, List.map_nil, List.map_cons, Nat.reduceAdd, Nat.reduceEqDiff, Nat.succ_ne_self, Int.reduceNeg, Int.reduceLE, Int.reduceLT, Int.reduceEq, Int.cast_ofNat_Int, Int.toNat_zero, Int.toNat_one, Int.reduceToNat, Int.le_refl, List.getElem?_cons_zero, List.getElem?_cons_succ, reduceIte, reduceCtorEq, true_and, and_true, and_self, not_true_eq_false, not_false_eq_true, Bool.not_true, Bool.not_false, Bool.not_eq_true, Bool.not_eq_false, ne_eq, decide_not]
    refine after_next (zone_loop (h := w / 60) (r := w % 60) (by omega) (by omega) (by omega) (by omega) rfl rfl rfl rfl hQ)
  · rw [if_neg hz] at hQ
    try simp only [eq_false hz, sNil, sAssign, sRet, sRet0, sIf, sExpr, sAugSub, sAug, sCont, gName, gSub, gTup, gTup.go, aVar, aCst, aBin, aUn, aIf, aTup, aList, lCons, lNil, aCall, aMeth, aCmp, aSlice, tCmp, tCmp2, tAnd, tOr, tNot, tVal, tTrue, tFalse, upd_at, if_true, if_false, Bool.false_eq_true, decide_true, decide_false, decide_eq_true_eq, opItem, opAdd, opIAdd, opSub, opMul, opDiv, opMod, opNeg, cmpOp, cmpLt, cmpIn, cmpIs, eq_int, eq_str, eq_bool, occ_one, truth, kList, kStr, fLen, fRange, fList, fTuple, fChr, fSJoin, fAll, fAny, fSum, fMin, fDivmod, fAbs, joinL_nil, fAppend, fInsert, fPop, withOwn, withItems, setAt, nth_zero, nth_one, nth_two, nth_last, kOk, bindP, List.length_cons, List.length_nil, List.isEmpty_cons, List.isEmpty_nil, List.map_nil, List.map_cons, Nat.reduceAdd, Nat.reduceEqDiff, Nat.succ_ne_self, Int.reduceNeg, Int.reduceLE, Int.reduceLT, Int.reduceEq, Int.cast_ofNat_Int, Int.toNat_zero, Int.toNat_one, Int.reduceToNat, Int.le_refl, List.getElem?_cons_zero, List.getElem?_cons_succ, reduceIte, reduceCtorEq, true_and, and_true, and_self, not_true_eq_false, not_false_eq_true, Bool.not_true, Bool.not_false, Bool.not_eq_true, Bool.not_eq_false, ne_eq, decide_not]
    refine after_next (zone_loop (h := w / 60) (r := w % 60) (by omega) (by omega) (by omega) (by omega) rfl rfl rfl rfl hQ)
def nmI (l : List Nat) (H : AH) (ps : List PV) (ρ : AEnv) (H' : AH) : Prop := H' = H ∧ ∃ d r : List Nat, l = d ++ r ∧ ps = signs r ∧ ρ 16 = some (.int (num d)) ∧ ∀ c ∈ r, 48 ≤ c ∧ c ≤ 57
theorem number_spec {Q : PV → AH → Prop} {H : AH} {l : List Nat} (hl : ∀ c ∈ l, 48 ≤ c ∧ c ≤ 57) (hQ : Q (.int (num l)) H) : f__law_number [.str l] Q H := by
  refine fn rfl ?_
  walk_at "st"
  (try simp only [sCons, sNil, sAssign, sRet, sRet0, sIf, sExpr, sFor, sAugSub, sAug, sCont, gName, gSub, gTup, gTup.go, aVar, aCst, aBin, aUn, aIf, aTup, aList, lCons, lNil, aCall, aMeth, aCmp, aSlice, tCmp, tCmp2, tAnd, tOr, tNot, tVal, tTrue, tFalse, upd_at, if_true, if_false, Bool.false_eq_true, decide_true, decide_false, decide_eq_true_eq, opItem, opAdd, opIAdd, opSub, opMul, opDiv, opMod, opNeg, cmpOp, cmpLt, cmpIn, cmpIs, eq_int, eq_str, eq_bool, occ_one, truth, kList, kStr, fLen, fRange, fList, fTuple, fChr, fSJoin, fAll, fAny, fSum, fMin, fDivmod, fAbs, joinL_nil, fAppend, fInsert, fPop, withOwn, withItems, setAt, nth_zero, nth_one, nth_two, nth_last, kOk, bindP, List.length_cons, List.length_nil, List.isEmpty_cons, List.isEmpty_nil, List.map_nil, List.map_cons, Nat.reduceAdd, Nat.reduceEqDiff, Nat.succ_ne_self, Int.reduceNeg, Int.reduceLE, Int.reduceLT, Int.reduceEq, Int.cast_ofNat_Int, Int.toNat_zero, Int.toNat_one, Int.reduceToNat, Int.le_refl, List.getElem?_cons_zero, List.getElem?_cons_succ, reduceIte, reduceCtorEq, true_and, and_true, and_self, not_true_eq_false, not_false_eq_true, Bool.not_true, Bool.not_false, Bool.not_eq_true, Bool.not_eq_false, ne_eq, decide_not])
  refine after_next ?_
  walk_at "st"
  try simp only [sFor, sNil, sAssign, sRet, sRet0, sIf, sExpr, sAugSub, sAug, sCont, gName, gSub, gTup, gTup.go, aVar, aCst, aBin, aUn, aIf, aTup, aList, lCons, lNil, aCall, aMeth, aCmp, aSlice, tCmp, tCmp2, tAnd, tOr, tNot, tVal, tTrue, tFalse, upd_at, if_true, if_false, Bool.false_eq_true, decide_true, decide_false, decide_eq_true_eq, opItem, opAdd, opIAdd, opSub, opMul, opDiv, opMod, opNeg, cmpOp, cmpLt, cmpIn, cmpIs, eq_int, eq_str, eq_bool, occ_one, truth, kList, kStr, fLen, fRange, fList, fTuple, fChr, fSJoin, fAll, fAny, fSum, fMin, fDivmod, fAbs, joinL_nil, fAppend, fInsert, fPop, withOwn, withItems, setAt, nth_zero, nth_one, nth_two, nth_last, kOk, bindP, List.length_cons, List.length_nil, List.isEmpty_cons, List.isEmpty_nil, List.map_nil, List.map_cons, Nat.reduceAdd, Nat.reduceEqDiff, Nat.succ_ne_self, Int.reduceNeg, Int.reduceLE, Int.reduceLT, Int.reduceEq, Int.cast_ofNat_Int, Int.toNat_zero, Int.toNat_one, Int.reduceToNat, Int.le_refl, List.getElem?_cons_zero, List.getElem?_cons_succ, reduceIte, reduceCtorEq, true_and, and_true, and_self, not_true_eq_false, not_false_eq_true, Bool.not_true, Bool.not_false, Bool.not_eq_true, Bool.not_eq_false, ne_eq, decide_not]
  refine forL_inv mg_name m_l__law_number_2 (nmI l H) ?_ ?_ _ _ _ ⟨rfl, [], l, rfl, rfl, rfl, hl⟩
  · rintro p ps ρ H' ⟨rfl, d, r, e1, e2, r16, hr⟩
    obtain ⟨c, r, rfl⟩ : ∃ q s, r = q :: s := by cases r with | nil => cases e2 | cons q r => exact ⟨q, r, rfl⟩
    obtain ⟨rfl, rfl⟩ := List.cons.inj e2
    obtain ⟨c1, c2⟩ := hr c (.head _)
    have hm : (c ∈ dgs) = True := eq_true (by
      have : c = 48 ∨ c = 49 ∨ c = 50 ∨ c = 51 ∨ c = 52 ∨ c = 53 ∨ c = 54 ∨ c = 55 ∨ c = 56 ∨ c = 57 := by omega
      rcases this with rfl | rfl | rfl | rfl | rfl | rfl | rfl | rfl | rfl | rfl <;> decide)
    have ho : occIn [c] [48, 49, 50, 51, 52, 53, 54, 55, 56, 57] = true := by rw [occ_one]; exact decide_eq_true (of_eq_true hm)
    simp only [gName, l__law_number_2]
    walk_at "st"
    simp only [sIf, tCmp, aVar, aCst, upd_at, if_true, cmpOp, cmpIn, ho, Bool.not_true, Bool.false_eq_true, if_false, sNil]
    refine after_next ?_
    walk_at "st"
    simp only [sAssign, aBin, aCst, aVar, upd_other ρ _ (show 16 ≠ 18 by decide), upd_same, r16, opMul, aMeth, lCons, lNil, if_true, kStr]
    refine ⟨mulL _ (by decide) (by decide), trivial, ⟨rfl, c1, c2⟩, ?_⟩
    simp only [opAdd, gName]
    refine after_next ⟨trivial, rfl, d ++ [c], r, by rw [e1]; simp, rfl, ?_, fun x hx => hr x (.tail _ hx)⟩
    rw [upd_same]
    simp [num]
  · rintro ρ H' ⟨rfl, d, r, e1, e2, r16, hr⟩
    have : r = [] := by cases r with | nil => rfl | cons q r => cases e2
    subst this
    simp only [List.append_nil] at e1
    subst e1
    refine after_next ?_
    walk_at "st"
    try simp only [r16, sNil, sAssign, sRet, sRet0, sIf, sExpr, sAugSub, sAug, sCont, gName, gSub, gTup, gTup.go, aVar, aCst, aBin, aUn, aIf, aTup, aList, lCons, lNil, aCall, aMeth, aCmp, aSlice, tCmp, tCmp2, tAnd, tOr, tNot, tVal, tTrue, tFalse, upd_at, if_true, if_false, Bool.false_eq_true, decide_true, decide_false, decide_eq_true_eq, opItem, opAdd, opIAdd, opSub, opMul, opDiv, opMod, opNeg, cmpOp, cmpLt, cmpIn, cmpIs, eq_int, eq_str, eq_bool, occ_one, truth, kList, kStr, fLen, fRange, fList, fTuple, fChr, fSJoin, fAll, fAny, fSum, fMin, fDivmod, fAbs, joinL_nil, fAppend, fInsert, fPop, withOwn, withItems, setAt, nth_zero, nth_one, nth_two, nth_last, kOk, bindP, List.length_cons, List.length_nil, List.isEmpty_cons, List.isEmpty_nil, List.map_nil, List.map_cons, Nat.reduceAdd, Nat.reduceEqDiff, Nat.succ_ne_self, Int.reduceNeg, Int.reduceLE, Int.reduceLT, Int.reduceEq, Int.cast_ofNat_Int, Int.toNat_zero, Int.toNat_one, Int.reduceToNat, Int.le_refl, List.getElem?_cons_zero, List.getElem?_cons_succ, reduceIte, reduceCtorEq, true_and, and_true, and_self, not_true_eq_false, not_false_eq_true, Bool.not_true, Bool.not_false, Bool.not_eq_true, Bool.not_eq_false, ne_eq, decide_not]
    exact after_ret (end_ret hQ)
/-- the cells of a row, list or tuple -/
def Gets (H : AH) (p : PV) (v : List Int) : Prop := ∀ H', Keep H H' → ∀ (k : Nat) (x : Int), v[k]? = some x → ∀ Q : PV → AH → Prop, Q (.int x) H' → opItem p (.int (k : Nat)) Q H'
theorem item_list {H : AH} {a : Nat} {x : LO} {k : Int} {p : PV} {Q : PV → AH → Prop} (h : H a = some x) (hn : nth x.items k = some p) (hk : kOk k) (q : Q p H) : opItem (.ref a) (.int k) Q H := by
  simp only [opItem, h, hn]; exact ⟨hk, q⟩
theorem fmt_spec {Q : PV → AH → Prop} {H : AH} {p : PV} {z w n : List Nat} {y m d hh mi ss wd : Int} (hg : Gets H p [y, m, d, hh, mi, ss, wd]) (hw : nth (wks.map PV.str) wd = some (.str w)) (hn : nth (mns.map PV.str) (m - 1) = some (.str n)) (hwd : kOk wd) (hm : kOk (m - 1)) (lw : w.length ≤ 1000) (ln : n.length ≤ 1000) (lz : z.length ≤ 1000) (sd : smI d) (sy : smI y) (sh : smI hh) (si : smI mi) (s5 : smI ss)
    (hQ : ∀ H', Keep H H' → Q (.str (fmText w d n y hh mi ss z)) H') : f__format_timetuple_and_zone [p, .str z] Q H := by
  refine fn rfl ?_
  walk_at "st"
  simp only [sRet, aBin, aCst, aTup, lCons, lNil, aList, aVar, bindP, upd_at, if_true, if_false, Nat.reduceEqDiff, Nat.succ_ne_self, reduceIte]
  refine ⟨by simp [szOk], fun a1 h1 => ?_⟩
  have K1 : Keep H (upd H a1 ⟨wks.map PV.str, true⟩) := Keep.new h1
  refine hg _ K1 6 wd rfl _ ?_
  refine item_list (upd_same _ _ _) hw hwd ?_
  refine hg _ K1 2 d rfl _ ?_
  refine ⟨by simp [szOk], fun a2 h2 => ?_⟩
  have K2 := K1.trans (Keep.new (y := ⟨mns.map PV.str, true⟩) h2)
  refine hg _ K2 1 m rfl _ ?_
  refine item_list (upd_same _ _ _) hn hm ?_
  refine hg _ K2 0 y rfl _ ?_
  refine hg _ K2 3 hh rfl _ ?_
  refine hg _ K2 4 mi rfl _ ?_
  refine hg _ K2 5 ss rfl _ ?_
  refine ⟨by simp [szOk], ?_⟩
  refine ⟨⟨rfl, ⟨lw, ln, lz⟩, sd, sy, sh, si, s5⟩, after_ret (end_ret (hQ _ K2))⟩
def sth {α : Type} (l : List α) (i j : Nat) : List α := (l.drop i).take (j - i)
def tp (p : Nat × Nat) : PV := .tup [.int (p.1 : Nat), .int (p.2 : Nat)]
def onTp (f : Nat × Nat → PV) : PV → Option PV
  | .tup [.int i, .int j] => some (f (i.toNat, j.toNat))
  | _ => none
theorem onTp_all (f : Nat × Nat → PV) : ∀ ps : List (Nat × Nat), (ps.map tp).filterMap (onTp f) = ps.map f
  | [] => rfl
  | p :: ps => by
    have := onTp_all f ps
    simp only [List.map_cons, List.filterMap_cons, this]
    rfl
theorem strsOf_map : ∀ l : List (List Nat), strsOf (l.map .str) = some l
  | [] => rfl
  | x :: l => by simp [strsOf, strsOf_map l]
theorem in_list {H : AH} {l : Nat} {o : Bool} {ys : List (List Nat)} {n : List Nat} {Q : Bool → AH → Prop} (h : H l = some ⟨ys.map .str, o⟩) (hn : n ∈ ys) (q : Q true H) : cmpIn (.str n) (.ref l) Q H := by
  simp only [cmpIn, h]
  refine ⟨_, _, .str _ n, rd_flats 20 (ys.map .str) (flats_all fun p hp => by obtain ⟨y, _, rfl⟩ := List.mem_map.mp hp; rfl), ?_⟩
  have : (List.any (pds (ys.map .str)) fun y => PyData.eqv y (.str ⟨n.toArray⟩)) = true := by
    rw [pds_map, List.any_eq_true]
    exact ⟨.str ⟨n.toArray⟩, List.mem_map.mpr ⟨.str n, List.mem_map.mpr ⟨n, hn, rfl⟩, rfl⟩, by simp [PyData.eqv]⟩
  rw [this]; exact q
def FP : List (Nat × Nat) := [(12, 16), (5, 7), (17, 19), (20, 22), (23, 25), (27, 29), (29, 31)]
/-- what the text holds, column by column -/
structure TF (T w n : List Nat) (y d hh mi ss ah rs : Int) (sg : Nat) : Prop where
  len : T.length = 31
  m3 : nth T 3 = some 44
  m4 : nth T 4 = some 32
  m7 : nth T 7 = some 32
  m11 : nth T 11 = some 32
  m16 : nth T 16 = some 32
  m19 : nth T 19 = some 58
  m22 : nth T 22 = some 58
  m25 : nth T 25 = some 32
  m26 : nth T 26 = some sg
  wk : slc T (some 0) (some 3) = w
  mn : slc T (some 8) (some 11) = n
  dig : ∀ p ∈ FP, ∀ c ∈ sth T p.1 p.2, 48 ≤ c ∧ c ≤ 57
  nums : FP.map (fun p => num (sth T p.1 p.2)) = [y, d, hh, mi, ss, ah, rs]
theorem fields_spec {Q : PV → AH → Prop} {ρ : AEnv} {H : AH} {T w n : List Nat} {y d hh mi ss ah rs : Int} {sg f : Nat} (tf : TF T w n y d hh mi ss ah rs sg) (r13 : ρ 13 = some (.str T)) (r27 : ρ 27 = some (.ref f)) (hf : H f = some ⟨FP.map tp, true⟩)
    (hQ : ∀ a H', H a = none → Keep H H' → H' a = some ⟨[y, d, hh, mi, ss, ah, rs].map .int, true⟩ → Q (.ref a) H') : aComp [13] (gTup [gName 28, gName 29]) (aVar 27) (tTrue) (aCall f__law_number (lCons (aSlice (aVar 13) (aVar 28) (aVar 29) (aCst .none)) (lNil))) Q ρ H := by
  refine aComp_run (mg_tup (.cons mg_name (.cons mg_name .nil))) mt_true (m_call m_f__law_number (ml_cons (m_slice m_var m_var m_var m_cst) ml_nil)) m_var ?_
  simp only [aVar, r27, withItems, hf]
  refine ⟨fun ρ => ρ 13 = some (.str T), onTp fun p => .int (num (sth T p.1 p.2)), fun H' k => k.at hf, (capt_in rfl).trans r13, by decide, ?_, fun a H' ha hK h => hQ a H' ha hK ?_⟩
  · intro p hp ρ' H' hj hK
    obtain ⟨q, hq, rfl⟩ := List.mem_map.mp hp
    simp only [tp, gTup, gTup.go, gName, tTrue, if_true]
    refine ⟨rfl, ?_⟩
    have q13 : upd (upd ρ' 28 (.int (q.1 : Nat))) 29 (.int (q.2 : Nat)) 13 = some (.str T) := by simp [upd_at, hj]
    have q28 : upd (upd ρ' 28 (.int (q.1 : Nat))) 29 (.int (q.2 : Nat)) 28 = some (.int (q.1 : Nat)) := by simp [upd_at]
    have q29 : upd (upd ρ' 28 (.int (q.1 : Nat))) 29 (.int (q.2 : Nat)) 29 = some (.int (q.2 : Nat)) := by simp [upd_at]
    simp only [aCall, lCons, lNil, aSlice, aVar, aCst, q13, q28, q29, opSlice, partOf, slc_mid]
    refine ⟨⟨trivial, by simp [szOk, tf.len]⟩, ?_⟩
    exact number_spec (tf.dig q hq) ⟨trivial, fun _ _ h => h, rfl⟩
  · rw [h, onTp_all, ← tf.nums]; simp
/-- an expression that is a number -/
def EvI (e : AE) (ρ : AEnv) (x : Int) : Prop := ∀ (Q : PV → AH → Prop) (H : AH), Q (.int x) H → e Q ρ H
theorem EvI.var {ρ : AEnv} {k : Nat} {x : Int} (h : ρ k = some (.int x)) : EvI (aVar k) ρ x := fun Q H q => by unfold aVar; rw [h]; exact q
theorem EvI.cst {ρ : AEnv} {x : Int} : EvI (aCst (.int x)) ρ x := fun Q H q => q
theorem EvI.add {ρ : AEnv} {a b : AE} {x y : Int} (h : EvI a ρ x) (k : EvI b ρ y) : EvI (aBin opAdd a b) ρ (x + y) := fun Q H q => h _ _ (k _ _ q)
theorem EvI.sub {ρ : AEnv} {a b : AE} {x y : Int} (h : EvI a ρ x) (k : EvI b ρ y) : EvI (aBin opSub a b) ρ (x - y) := fun Q H q => h _ _ (k _ _ q)
theorem EvI.mul {ρ : AEnv} {a b : AE} {x y : Int} (h : EvI a ρ x) (k : EvI b ρ y) (m : IntMulOk x y) : EvI (aBin opMul a b) ρ (x * y) := fun Q H q => h _ _ (k _ _ ⟨m, q⟩)
theorem EvI.div {ρ : AEnv} {a b : AE} {x y : Int} (h : EvI a ρ x) (k : EvI b ρ y) (h0 : 0 < y) (h1 : y < 1073741824) : EvI (aBin opDiv a b) ρ (x / y) := fun Q H q => h _ _ (k _ _ ⟨⟨h0, h1⟩, q⟩)
theorem EvI.mod {ρ : AEnv} {a b : AE} {x y : Int} (h : EvI a ρ x) (k : EvI b ρ y) (h0 : 0 < y) : EvI (aBin opMod a b) ρ (x % y) := fun Q H q => h _ _ (k _ _ ⟨h0, q⟩)
theorem EvI.asg {Q : Fl → AEnv → AH → Prop} {ρ : AEnv} {H : AH} {e : AE} {k : Nat} {x : Int} (h : EvI e ρ x) (q : Q .next (upd ρ k (.int x)) H) : sAssign (gName k) e Q ρ H := h _ _ q
def dayOf (y m d : Int) : Int := 365 * (y - 1) + (y - 1) / 4 - (y - 1) / 100 + (y - 1) / 400 + d - 1 + cu (lp y) m
theorem sNil_next {Q : Fl → AEnv → AH → Prop} {ρ : AEnv} {H : AH} (h : Q .next ρ H) : sNil Q ρ H := h
theorem ne_same {x : List Nat} {Q : Bool → AH → Prop} {H : AH} (h : Q false H) : cmpOp .NotEq (.str x) (.str x) Q H := by
  show Q (!decide (x = x)) H
  rw [decide_eq_true rfl]; exact h
theorem instant_tail {Q : PV → AH → Prop} {H H0 : AH} {ρ : AEnv} {T w n : List Nat} {y m d hh mi ss ah rs : Int} {sg a1 : Nat} (tf : TF T w n y d hh mi ss ah rs sg) (hsg : sg = 43 ∨ sg = 45) (y1 : 1 ≤ y) (mb : 1 ≤ m ∧ m ≤ 12) (d1 : 1 ≤ d) (d2 : d ≤ ml (lp y) m) (hb : 0 ≤ hh ∧ hh < 24) (ib : 0 ≤ mi ∧ mi < 60) (sb : 0 ≤ ss ∧ ss < 60)
    (hw : nth (wks.map PV.str) (dayOf y m d % 7) = some (.str w)) (KK : Keep H0 H) (F1 : H a1 = some ⟨wks.map PV.str, true⟩) (v13 : ρ 13 = some (.str T)) (v24 : ρ 24 = some (.ref a1)) (v2 : ρ 2 = some (.int y)) (v3 : ρ 3 = some (.int m)) (v25 : ρ 25 = some (.int d)) (v22 : ρ 22 = some (.int hh)) (v23 : ρ 23 = some (.int mi)) (v6 : ρ 6 = some (.int ss)) (v21 : ρ 21 = some (.int ah)) (v14 : ρ 14 = some (.int rs))
    (hQ : ∀ H', Keep H0 H' → Q (.int (if sg = 45 then 86400 * dayOf y m d + 3600 * hh + 60 * mi + ss + (3600 * ah + 60 * rs) else 86400 * dayOf y m d + 3600 * hh + 60 * mi + ss - (3600 * ah + 60 * rs))) H') :
    (sCons (sIf (tOr (tCmp .Lt (aVar 2) (aCst (.int 1))) (tOr (tNot (tCmp2 .LtE (aCst (.int 1)) .LtE (aVar 25) (aCall f__law_length (lCons (aVar 2) (lCons (aVar 3) (lNil)))))) (tFalse))) (l__law_instant_4) (sNil)) (sCons (sIf (tNot (tAnd (tCmp2 .LtE (aCst (.int 0)) .Lt (aVar 22) (aCst (.int 24))) (tAnd (tCmp2 .LtE (aCst (.int 0)) .Lt (aVar 23) (aCst (.int 60))) (tAnd (tCmp2 .LtE (aCst (.int 0)) .Lt (aVar 6) (aCst (.int 60))) (tTrue))))) (l__law_instant_3) (sNil)) (sCons (sAssign (gName 5) (aBin opSub (aBin opAdd (aBin opAdd (aBin opSub (aBin opAdd (aBin opMul (aCst (.int 365)) (aBin opSub (aVar 2) (aCst (.int 1)))) (aBin opDiv (aBin opSub (aVar 2) (aCst (.int 1))) (aCst (.int 4)))) (aBin opDiv (aBin opSub (aVar 2) (aCst (.int 1))) (aCst (.int 100)))) (aBin opDiv (aBin opSub (aVar 2) (aCst (.int 1))) (aCst (.int 400)))) (aVar 25)) (aCst (.int 1)))) (sCons (sAssign (gName 5) (aBin opAdd (aVar 5) (aBin opDiv (aBin opSub (aBin opMul (aCst (.int 367)) (aVar 3)) (aCst (.int 362))) (aCst (.int 12))))) (sCons (sIf (tCmp .Gt (aVar 3) (aCst (.int 2))) (l__law_instant_2) (sNil)) (sCons (sIf (tCmp .NotEq (aSlice (aVar 13) (aCst (.int 0)) (aCst (.int 3)) (aCst .none)) (aBin opItem (aVar 24) (aBin opMod (aVar 5) (aCst (.int 7))))) (l__law_instant_1) (sNil)) (sCons (sAssign (gName 19) (aBin opAdd (aBin opAdd (aBin opAdd (aBin opMul (aCst (.int 86400)) (aVar 5)) (aBin opMul (aCst (.int 3600)) (aVar 22))) (aBin opMul (aCst (.int 60)) (aVar 23))) (aVar 6))) (sCons (sAssign (gName 20) (aBin opAdd (aBin opMul (aCst (.int 3600)) (aVar 21)) (aBin opMul (aCst (.int 60)) (aVar 14)))) (sCons (sRet (aIf (tCmp .Eq (aBin opItem (aVar 13) (aCst (.int 26))) (aCst (.str [45]))) (aBin opAdd (aVar 19) (aVar 20)) (aBin opSub (aVar 19) (aVar 20)))) (sNil)))))))))) (endF Q) ρ H := by
  have hl1 : szOk T.length := by rw [tf.len]; simp [szOk]
  walk_at "st"
  have c1 : (y < 1) = False := eq_false (by omega)
  have c2 : (1 ≤ d) = True := eq_true d1
  have c3 : (d ≤ ml (lp y) m) = True := eq_true d2
  simp only [sIf, tOr, tCmp, tNot, tCmp2, aVar, aCst, v2, v25, cmpOp, cmpLt, c1, c2, decide_false, decide_true, Bool.false_eq_true, if_false, if_true, aCall, lCons, lNil, v3]
  refine length_spec ?_
  simp only [c3, decide_true, Bool.not_true, Bool.false_eq_true, if_false, tFalse, sNil]
  refine after_next ?_
  walk_at "st"
  have e1 : (0 ≤ hh) = True := eq_true hb.1
  have e2 : (hh < 24) = True := eq_true hb.2
  have e3 : (0 ≤ mi) = True := eq_true ib.1
  have e4 : (mi < 60) = True := eq_true ib.2
  have e5 : (0 ≤ ss) = True := eq_true sb.1
  have e6 : (ss < 60) = True := eq_true sb.2
  try simp only [v22, v23, v6, e1, e2, e3, e4, e5, e6, sNil, sAssign, sRet, sRet0, sIf, sExpr, sAugSub, sAug, sCont, gName, gSub, gTup, gTup.go, aVar, aCst, aBin, aUn, aIf, aTup, aList, lCons, lNil, aCall, aMeth, aCmp, aSlice, tCmp, tCmp2, tAnd, tOr, tNot, tVal, tTrue, tFalse, upd_at, if_true, if_false, Bool.false_eq_true, decide_true, decide_false, decide_eq_true_eq, opItem, opAdd, opIAdd, opSub, opMul, opDiv, opMod, opNeg, cmpOp, cmpLt, cmpIn, cmpIs, eq_int, eq_str, eq_bool, occ_one, truth, kList, kStr, fLen, fRange, fList, fTuple, fChr, fSJoin, fAll, fAny, fSum, fMin, fDivmod, fAbs, joinL_nil, fAppend, fInsert, fPop, withOwn, withItems, setAt, nth_zero, nth_one, nth_two, nth_last, kOk, bindP, List.length_cons, List.length_nil, List.isEmpty_cons, List.isEmpty_nil, List.map_nil, List.map_cons, Nat.reduceAdd, Nat.reduceEqDiff, Nat.succ_ne_self, Int.reduceNeg, Int.reduceLE, Int.reduceLT, Int.reduceEq, Int.cast_ofNat_Int, Int.toNat_zero, Int.toNat_one, Int.reduceToNat, Int.le_refl, List.getElem?_cons_zero, List.getElem?_cons_succ, reduceIte, reduceCtorEq, true_and, and_true, and_self, not_true_eq_false, not_false_eq_true, Bool.not_true, Bool.not_false, Bool.not_eq_true, Bool.not_eq_false, ne_eq, decide_not]
  refine after_next ?_
  walk_at "st"
  have ey : EvI (aBin opSub (aVar 2) (aCst (.int 1))) ρ (y - 1) := .sub (.var v2) .cst
  refine EvI.asg (x := 365 * (y - 1) + (y - 1) / 4 - (y - 1) / 100 + (y - 1) / 400 + d - 1) (((((EvI.mul .cst ey (mulL _ (by decide) (by decide))).add (ey.div .cst (by decide) (by decide))).sub (ey.div .cst (by decide) (by decide))).add (ey.div .cst (by decide) (by decide))).add (.var v25) |>.sub .cst) (after_next ?_)
  generalize hd : 365 * (y - 1) + (y - 1) / 4 - (y - 1) / 100 + (y - 1) / 400 + d - 1 = D
  walk_at "st"
  refine EvI.asg (x := D + (367 * m - 362) / 12) ((EvI.var (upd_same _ _ _)).add ((((EvI.cst.mul (.var (by rw [upd_other _ _ (by decide)]; exact v3)) (mulL _ (by decide) (by decide))).sub .cst)).div .cst (by decide) (by decide))) (after_next ?_)
  rw [upd_upd]
  have fin : ∀ ρ' : AEnv, ρ' 5 = some (.int (dayOf y m d)) → (∀ k, k ≠ 5 → ρ' k = ρ k) → (sCons (sIf (tCmp .NotEq (aSlice (aVar 13) (aCst (.int 0)) (aCst (.int 3)) (aCst .none)) (aBin opItem (aVar 24) (aBin opMod (aVar 5) (aCst (.int 7))))) (l__law_instant_1) (sNil)) (sCons (sAssign (gName 19) (aBin opAdd (aBin opAdd (aBin opAdd (aBin opMul (aCst (.int 86400)) (aVar 5)) (aBin opMul (aCst (.int 3600)) (aVar 22))) (aBin opMul (aCst (.int 60)) (aVar 23))) (aVar 6))) (sCons (sAssign (gName 20) (aBin opAdd (aBin opMul (aCst (.int 3600)) (aVar 21)) (aBin opMul (aCst (.int 60)) (aVar 14)))) (sCons (sRet (aIf (tCmp .Eq (aBin opItem (aVar 13) (aCst (.int 26))) (aCst (.str [45]))) (aBin opAdd (aVar 19) (aVar 20)) (aBin opSub (aVar 19) (aVar 20)))) (sNil))))) (endF Q) ρ' H := by
    intro ρ' p5 hk
    have p13 := (hk 13 (by decide)).trans v13
    have p24 := (hk 24 (by decide)).trans v24
    have p22 := (hk 22 (by decide)).trans v22
    have p23 := (hk 23 (by decide)).trans v23
    have p6 := (hk 6 (by decide)).trans v6
    have p21 := (hk 21 (by decide)).trans v21
    have p14 := (hk 14 (by decide)).trans v14
    generalize dayOf y m d = D at *
    walk_at "st"
    simp only [sIf, tCmp, aSlice, aVar, aCst, p13, opSlice, partOf, tf.wk]
    refine ⟨⟨trivial, hl1⟩, ?_⟩
    simp only [aBin, aVar, aCst, p24, p5, opMod]
    refine ⟨by decide, item_list F1 hw ⟨by omega, by omega⟩ (ne_same ?_)⟩
    rw [if_neg Bool.false_ne_true]
    refine sNil_next (after_next ?_)
    walk_at "st"
    refine EvI.asg (x := 86400 * D + 3600 * hh + 60 * mi + ss) ((((EvI.cst.mul (.var p5) (mulL _ (by decide) (by decide))).add (EvI.cst.mul (.var p22) (mulL _ (by decide) (by decide)))).add (EvI.cst.mul (.var p23) (mulL _ (by decide) (by decide)))).add (.var p6)) (after_next ?_)
    walk_at "st"
    refine EvI.asg (x := 3600 * ah + 60 * rs) ((EvI.cst.mul (.var (by rw [upd_other _ _ (by decide)]; exact p21)) (mulL _ (by decide) (by decide))).add (EvI.cst.mul (.var (by rw [upd_other _ _ (by decide)]; exact p14)) (mulL _ (by decide) (by decide)))) (after_next ?_)
    have p13' : upd (upd ρ' 19 (.int (86400 * D + 3600 * hh + 60 * mi + ss))) 20 (.int (3600 * ah + 60 * rs)) 13 = some (.str T) := by rw [upd_other _ _ (by decide), upd_other _ _ (by decide)]; exact p13
    have p19 : upd (upd ρ' 19 (.int (86400 * D + 3600 * hh + 60 * mi + ss))) 20 (.int (3600 * ah + 60 * rs)) 19 = some (.int (86400 * D + 3600 * hh + 60 * mi + ss)) := by rw [upd_other _ _ (by decide), upd_same]
    have p20 : upd (upd ρ' 19 (.int (86400 * D + 3600 * hh + 60 * mi + ss))) 20 (.int (3600 * ah + 60 * rs)) 20 = some (.int (3600 * ah + 60 * rs)) := upd_same _ _ _
    generalize upd (upd ρ' 19 (.int (86400 * D + 3600 * hh + 60 * mi + ss))) 20 (.int (3600 * ah + 60 * rs)) = ρ3 at *
    walk_at "st"
    simp only [sRet, aIf, tCmp, aBin, aVar, aCst, p13', opItem, tf.m26, cmpOp, eq_str, p19, p20, opAdd, opSub]
    refine ⟨by unfold kOk; decide, ?_⟩
    have q := hQ H KK
    rcases hsg with rfl | rfl
    · simp only [show (([43] : List Nat) = [45]) = False from eq_false (by decide), decide_false, Bool.false_eq_true, if_false]
      rw [if_neg (by decide)] at q
      exact after_ret (end_ret q)
    · simp only [decide_true, if_true]
      rw [if_pos rfl] at q
      exact after_ret (end_ret q)
  have q3 : upd ρ 5 (.int (D + (367 * m - 362) / 12)) 3 = some (.int m) := by rw [upd_other _ _ (by decide)]; exact v3
  have q2 : upd ρ 5 (.int (D + (367 * m - 362) / 12)) 2 = some (.int y) := by rw [upd_other _ _ (by decide)]; exact v2
  have hdd : dayOf y m d = D + cu (lp y) m := by rw [← hd]; rfl
  walk_at "st"
  by_cases hm : m > 2
  · have hm' : (m > 2) = True := eq_true hm
    simp only [sIf, tCmp, aVar, aCst, q3, cmpOp, cmpLt, hm', decide_true, if_true, l__law_instant_2]
    walk_at "st"
    simp only [sAssign, aBin, aVar, aCst, aCall, lCons, lNil, upd_same, q2, gName]
    refine length_spec ?_
    simp only [opAdd, opSub]
    refine after_next (after_next ?_)
    rw [upd_upd]
    refine fin _ ?_ fun k hk => upd_other _ _ hk
    rw [upd_same, hdd]
    congr 2
    unfold cu
    rw [if_pos hm]; omega
  · have hm' : (m > 2) = False := eq_false hm
    simp only [sIf, tCmp, aVar, aCst, q3, cmpOp, cmpLt, hm', decide_false, Bool.false_eq_true, if_false, sNil]
    refine after_next ?_
    refine fin _ ?_ fun k hk => upd_other _ _ hk
    rw [upd_same, hdd]
    congr 2
    unfold cu
    rw [if_neg hm]; omega
theorem instant_spec {Q : PV → AH → Prop} {H : AH} {T w n : List Nat} {y m d hh mi ss ah rs : Int} {sg : Nat} (tf : TF T w n y d hh mi ss ah rs sg) (hsg : sg = 43 ∨ sg = 45) (hn : n ∈ mns) (hm : ((mns.idxOf n : Nat) : Int) + 1 = m) (y1 : 1 ≤ y) (mb : 1 ≤ m ∧ m ≤ 12) (d1 : 1 ≤ d) (d2 : d ≤ ml (lp y) m) (hb : 0 ≤ hh ∧ hh < 24) (ib : 0 ≤ mi ∧ mi < 60) (sb : 0 ≤ ss ∧ ss < 60)
    (hw : nth (wks.map PV.str) (dayOf y m d % 7) = some (.str w)) (hQ : ∀ H', Keep H H' → Q (.int (if sg = 45 then 86400 * dayOf y m d + 3600 * hh + 60 * mi + ss + (3600 * ah + 60 * rs) else 86400 * dayOf y m d + 3600 * hh + 60 * mi + ss - (3600 * ah + 60 * rs))) H') : f__law_instant [.str T] Q H := by
  have sz1 : ∀ k : Nat, k ≤ 1000 → szOk k := fun k hk => by simp only [szOk]; omega
  refine fn rfl ?_
  walk_at "st"
  (try simp only [sCons, sNil, sAssign, sRet, sRet0, sIf, sExpr, sFor, sAugSub, sAug, sCont, gName, gSub, gTup, gTup.go, aVar, aCst, aBin, aUn, aIf, aTup, aList, lCons, lNil, aCall, aMeth, aCmp, aSlice, tCmp, tCmp2, tAnd, tOr, tNot, tVal, tTrue, tFalse, upd_at, if_true, if_false, Bool.false_eq_true, decide_true, decide_false, decide_eq_true_eq, opItem, opAdd, opIAdd, opSub, opMul, opDiv, opMod, opNeg, cmpOp, cmpLt, cmpIn, cmpIs, eq_int, eq_str, eq_bool, occ_one, truth, kList, kStr, fLen, fRange, fList, fTuple, fChr, fSJoin, fAll, fAny, fSum, fMin, fDivmod, fAbs, joinL_nil, fAppend, fInsert, fPop, withOwn, withItems, setAt, nth_zero, nth_one, nth_two, nth_last, kOk, bindP, List.length_cons, List.length_nil, List.isEmpty_cons, List.isEmpty_nil, List.map_nil, List.map_cons, Nat.reduceAdd, Nat.reduceEqDiff, Nat.succ_ne_self, Int.reduceNeg, Int.reduceLE, Int.reduceLT, Int.reduceEq, Int.cast_ofNat_Int, Int.toNat_zero, Int.toNat_one, Int.reduceToNat, Int.le_refl, List.getElem?_cons_zero, List.getElem?_cons_succ, reduceIte, reduceCtorEq, true_and, and_true, and_self, not_true_eq_false, not_false_eq_true, Bool.not_true, Bool.not_false, Bool.not_eq_true, Bool.not_eq_false, ne_eq, decide_not])
  refine ⟨by simp [szOk], fun a1 h1 => after_next ?_⟩
  have K1 : Keep H (upd H a1 ⟨wks.map PV.str, true⟩) := Keep.new h1
  have E1 : (upd H a1 ⟨wks.map PV.str, true⟩) a1 = some ⟨wks.map PV.str, true⟩ := upd_same _ _ _
  change sCons _ _ _ _ (upd H a1 ⟨wks.map PV.str, true⟩)
  generalize upd H a1 ⟨wks.map PV.str, true⟩ = H1 at *
  walk_at "st"
  (try simp only [sCons, sNil, sAssign, sRet, sRet0, sIf, sExpr, sFor, sAugSub, sAug, sCont, gName, gSub, gTup, gTup.go, aVar, aCst, aBin, aUn, aIf, aTup, aList, lCons, lNil, aCall, aMeth, aCmp, aSlice, tCmp, tCmp2, tAnd, tOr, tNot, tVal, tTrue, tFalse, upd_at, if_true, if_false, Bool.false_eq_true, decide_true, decide_false, decide_eq_true_eq, opItem, opAdd, opIAdd, opSub, opMul, opDiv, opMod, opNeg, cmpOp, cmpLt, cmpIn, cmpIs, eq_int, eq_str, eq_bool, occ_one, truth, kList, kStr, fLen, fRange, fList, fTuple, fChr, fSJoin, fAll, fAny, fSum, fMin, fDivmod, fAbs, joinL_nil, fAppend, fInsert, fPop, withOwn, withItems, setAt, nth_zero, nth_one, nth_two, nth_last, kOk, bindP, List.length_cons, List.length_nil, List.isEmpty_cons, List.isEmpty_nil, List.map_nil, List.map_cons, Nat.reduceAdd, Nat.reduceEqDiff, Nat.succ_ne_self, Int.reduceNeg, Int.reduceLE, Int.reduceLT, Int.reduceEq, Int.cast_ofNat_Int, Int.toNat_zero, Int.toNat_one, Int.reduceToNat, Int.le_refl, List.getElem?_cons_zero, List.getElem?_cons_succ, reduceIte, reduceCtorEq, true_and, and_true, and_self, not_true_eq_false, not_false_eq_true, Bool.not_true, Bool.not_false, Bool.not_eq_true, Bool.not_eq_false, ne_eq, decide_not])
  refine ⟨by simp [szOk], fun a2 h2 => after_next ?_⟩
  have K2 : Keep H1 (upd H1 a2 ⟨mns.map PV.str, true⟩) := Keep.new h2
  have E2 : (upd H1 a2 ⟨mns.map PV.str, true⟩) a2 = some ⟨mns.map PV.str, true⟩ := upd_same _ _ _
  change sCons _ _ _ _ (upd H1 a2 ⟨mns.map PV.str, true⟩)
  have E12 := K2.at E1
  have K12 := K1.trans K2
  generalize upd H1 a2 ⟨mns.map PV.str, true⟩ = H2 at *
  walk_at "st"
  try simp only [tf.m3, tf.m4, tf.m7, tf.m11, tf.m16, tf.m19, tf.m22, tf.m25, List.singleton_append, List.cons_append, List.nil_append, sNil, sAssign, sRet, sRet0, sIf, sExpr, sAugSub, sAug, sCont, gName, gSub, gTup, gTup.go, aVar, aCst, aBin, aUn, aIf, aTup, aList, lCons, lNil, aCall, aMeth, aCmp, aSlice, tCmp, tCmp2, tAnd, tOr, tNot, tVal, tTrue, tFalse, upd_at, if_true, if_false, Bool.false_eq_true, decide_true, decide_false, decide_eq_true_eq, opItem, opAdd, opIAdd, opSub, opMul, opDiv, opMod, opNeg, cmpOp, cmpLt, cmpIn, cmpIs, eq_int, eq_str, eq_bool, occ_one, truth, kList, kStr, fLen, fRange, fList, fTuple, fChr, fSJoin, fAll, fAny, fSum, fMin, fDivmod, fAbs, joinL_nil, fAppend, fInsert, fPop, withOwn, withItems, setAt, nth_zero, nth_one, nth_two, nth_last, kOk, bindP, List.length_cons, List.length_nil, List.isEmpty_cons, List.isEmpty_nil, List.map_nil, List.map_cons, Nat.reduceAdd, Nat.reduceEqDiff, Nat.succ_ne_self, Int.reduceNeg, Int.reduceLE, Int.reduceLT, Int.reduceEq, Int.cast_ofNat_Int, Int.toNat_zero, Int.toNat_one, Int.reduceToNat, Int.le_refl, List.getElem?_cons_zero, List.getElem?_cons_succ, reduceIte, reduceCtorEq, true_and, and_true, and_self, not_true_eq_false, not_false_eq_true, Bool.not_true, Bool.not_false, Bool.not_eq_true, Bool.not_eq_false, ne_eq, decide_not]
  refine ⟨sz1 2 (by decide), sz1 3 (by decide), sz1 4 (by decide), sz1 5 (by decide), sz1 6 (by decide), sz1 7 (by decide), sz1 8 (by decide), after_next ?_⟩
  have q13 : upd (upd (upd (upd (fun _ => none) 13 (PV.str T)) 24 (.ref a1)) 26 (.ref a2)) 30 (.str [44, 32, 32, 32, 32, 58, 58, 32]) 13 = some (.str T) := rfl
  have q24 : upd (upd (upd (upd (fun _ => none) 13 (PV.str T)) 24 (.ref a1)) 26 (.ref a2)) 30 (.str [44, 32, 32, 32, 32, 58, 58, 32]) 24 = some (.ref a1) := rfl
  have q26 : upd (upd (upd (upd (fun _ => none) 13 (PV.str T)) 24 (.ref a1)) 26 (.ref a2)) 30 (.str [44, 32, 32, 32, 32, 58, 58, 32]) 26 = some (.ref a2) := rfl
  have q30 : upd (upd (upd (upd (fun _ => none) 13 (PV.str T)) 24 (.ref a1)) 26 (.ref a2)) 30 (.str [44, 32, 32, 32, 32, 58, 58, 32]) 30 = some (.str [44, 32, 32, 32, 32, 58, 58, 32]) := rfl
  generalize upd (upd (upd (upd (fun _ => none) 13 (PV.str T)) 24 (.ref a1)) 26 (.ref a2)) 30 (.str [44, 32, 32, 32, 32, 58, 58, 32]) = ρ at *
  walk_at "st"
  have hmk : ([44, 32, 32, 32, 32, 58, 58, 32] = [44] ++ (List.replicate (Int.toNat 4) [32]).flatten ++ [58, 58, 32]) = True := eq_true (by decide)
  have hl1 : szOk T.length := sz1 _ (by rw [tf.len]; decide)
  have hoc : occIn [sg] [43, 45] = true := by rw [occ_one]; rcases hsg with rfl | rfl <;> decide
  simp only [sIf, tOr, tCmp, tFalse, aVar, q30, q13, q26, aBin, aCst, opMulIS, opAdd, cmpOp, eq_str, aSlice, opSlice, partOf, hmk, decide_true, Bool.not_true, Bool.false_eq_true, if_false, tf.mn]
  refine ⟨⟨by decide, by decide, by decide, by decide⟩, by simp [szOk], by simp [szOk], ⟨trivial, hl1⟩, ?_⟩
  refine in_list E2 hn ?_
  simp only [Bool.not_true, Bool.false_eq_true, if_false, opItem, tf.m26, cmpIn, hoc, sNil]
  refine ⟨by unfold kOk; decide, after_next ?_⟩
  walk_at "st"
  (try simp only [sCons, sNil, sAssign, sRet, sRet0, sIf, sExpr, sFor, sAugSub, sAug, sCont, gName, gSub, gTup, gTup.go, aVar, aCst, aBin, aUn, aIf, aTup, aList, lCons, lNil, aCall, aMeth, aCmp, aSlice, tCmp, tCmp2, tAnd, tOr, tNot, tVal, tTrue, tFalse, upd_at, if_true, if_false, Bool.false_eq_true, decide_true, decide_false, decide_eq_true_eq, opItem, opAdd, opIAdd, opSub, opMul, opDiv, opMod, opNeg, cmpOp, cmpLt, cmpIn, cmpIs, eq_int, eq_str, eq_bool, occ_one, truth, kList, kStr, fLen, fRange, fList, fTuple, fChr, fSJoin, fAll, fAny, fSum, fMin, fDivmod, fAbs, joinL_nil, fAppend, fInsert, fPop, withOwn, withItems, setAt, nth_zero, nth_one, nth_two, nth_last, kOk, bindP, List.length_cons, List.length_nil, List.isEmpty_cons, List.isEmpty_nil, List.map_nil, List.map_cons, Nat.reduceAdd, Nat.reduceEqDiff, Nat.succ_ne_self, Int.reduceNeg, Int.reduceLE, Int.reduceLT, Int.reduceEq, Int.cast_ofNat_Int, Int.toNat_zero, Int.toNat_one, Int.reduceToNat, Int.le_refl, List.getElem?_cons_zero, List.getElem?_cons_succ, reduceIte, reduceCtorEq, true_and, and_true, and_self, not_true_eq_false, not_false_eq_true, Bool.not_true, Bool.not_false, Bool.not_eq_true, Bool.not_eq_false, ne_eq, decide_not])
  have s2 := sz1 2 (by decide)
  refine ⟨s2, s2, s2, s2, s2, s2, s2, sz1 7 (by decide), fun a3 h3 => after_next ?_⟩
  have K3 : Keep H2 (upd H2 a3 ⟨FP.map tp, true⟩) := Keep.new h3
  have E3 : (upd H2 a3 ⟨FP.map tp, true⟩) a3 = some ⟨FP.map tp, true⟩ := upd_same _ _ _
  change sCons _ _ _ _ (upd H2 a3 ⟨FP.map tp, true⟩)
  generalize upd H2 a3 ⟨FP.map tp, true⟩ = H3 at *
  have w13 : upd ρ 27 (.ref a3) 13 = some (.str T) := by rw [upd_other _ _ (by decide)]; exact q13
  have w24 : upd ρ 27 (.ref a3) 24 = some (.ref a1) := by rw [upd_other _ _ (by decide)]; exact q24
  have w26 : upd ρ 27 (.ref a3) 26 = some (.ref a2) := by rw [upd_other _ _ (by decide)]; exact q26
  have w27 : upd ρ 27 (.ref a3) 27 = some (.ref a3) := upd_same _ _ _
  generalize upd ρ 27 (.ref a3) = ρ1 at *
  walk_at "st"
  simp only [sAssign]
  refine fields_spec tf w13 w27 E3 fun a4 H4 h4 K4 E4 => ?_
  simp only [gTupL, E4, List.map_cons, List.map_nil, gTup.go, gName]
  refine ⟨rfl, after_next ?_⟩
  have K24 := K3.trans K4
  have F1 := K24.at E12
  have F2 := K24.at E2
  have KK := K12.trans K24
  have v13 : upd (upd (upd (upd (upd (upd (upd ρ1 2 (.int y)) 25 (.int d)) 22 (.int hh)) 23 (.int mi)) 6 (.int ss)) 21 (.int ah)) 14 (.int rs) 13 = some (.str T) := by simp [upd_at, w13]
  have v24 : upd (upd (upd (upd (upd (upd (upd ρ1 2 (.int y)) 25 (.int d)) 22 (.int hh)) 23 (.int mi)) 6 (.int ss)) 21 (.int ah)) 14 (.int rs) 24 = some (.ref a1) := by simp [upd_at, w24]
  have v26 : upd (upd (upd (upd (upd (upd (upd ρ1 2 (.int y)) 25 (.int d)) 22 (.int hh)) 23 (.int mi)) 6 (.int ss)) 21 (.int ah)) 14 (.int rs) 26 = some (.ref a2) := by simp [upd_at, w26]
  have v2 : upd (upd (upd (upd (upd (upd (upd ρ1 2 (.int y)) 25 (.int d)) 22 (.int hh)) 23 (.int mi)) 6 (.int ss)) 21 (.int ah)) 14 (.int rs) 2 = some (.int y) := by simp [upd_at]
  have v25 : upd (upd (upd (upd (upd (upd (upd ρ1 2 (.int y)) 25 (.int d)) 22 (.int hh)) 23 (.int mi)) 6 (.int ss)) 21 (.int ah)) 14 (.int rs) 25 = some (.int d) := by simp [upd_at]
  have v22 : upd (upd (upd (upd (upd (upd (upd ρ1 2 (.int y)) 25 (.int d)) 22 (.int hh)) 23 (.int mi)) 6 (.int ss)) 21 (.int ah)) 14 (.int rs) 22 = some (.int hh) := by simp [upd_at]
  have v23 : upd (upd (upd (upd (upd (upd (upd ρ1 2 (.int y)) 25 (.int d)) 22 (.int hh)) 23 (.int mi)) 6 (.int ss)) 21 (.int ah)) 14 (.int rs) 23 = some (.int mi) := by simp [upd_at]
  have v6 : upd (upd (upd (upd (upd (upd (upd ρ1 2 (.int y)) 25 (.int d)) 22 (.int hh)) 23 (.int mi)) 6 (.int ss)) 21 (.int ah)) 14 (.int rs) 6 = some (.int ss) := by simp [upd_at]
  have v21 : upd (upd (upd (upd (upd (upd (upd ρ1 2 (.int y)) 25 (.int d)) 22 (.int hh)) 23 (.int mi)) 6 (.int ss)) 21 (.int ah)) 14 (.int rs) 21 = some (.int ah) := by simp [upd_at]
  have v14 : upd (upd (upd (upd (upd (upd (upd ρ1 2 (.int y)) 25 (.int d)) 22 (.int hh)) 23 (.int mi)) 6 (.int ss)) 21 (.int ah)) 14 (.int rs) 14 = some (.int rs) := upd_same _ _ _
  generalize upd (upd (upd (upd (upd (upd (upd ρ1 2 (.int y)) 25 (.int d)) 22 (.int hh)) 23 (.int mi)) 6 (.int ss)) 21 (.int ah)) 14 (.int rs) = ρ2 at *
  walk_at "st"
  have hle : mns.length ≤ 1000 := by decide
  try simp only [v13, v26, opSlice, partOf, tf.mn, fIndex, F2, strsOf_map, sNil, sAssign, sRet, sRet0, sIf, sExpr, sAugSub, sAug, sCont, gName, gSub, gTup, gTup.go, aVar, aCst, aBin, aUn, aIf, aTup, aList, lCons, lNil, aCall, aMeth, aCmp, aSlice, tCmp, tCmp2, tAnd, tOr, tNot, tVal, tTrue, tFalse, upd_at, if_true, if_false, Bool.false_eq_true, decide_true, decide_false, decide_eq_true_eq, opItem, opAdd, opIAdd, opSub, opMul, opDiv, opMod, opNeg, cmpOp, cmpLt, cmpIn, cmpIs, eq_int, eq_str, eq_bool, occ_one, truth, kList, kStr, fLen, fRange, fList, fTuple, fChr, fSJoin, fAll, fAny, fSum, fMin, fDivmod, fAbs, joinL_nil, fAppend, fInsert, fPop, withOwn, withItems, setAt, nth_zero, nth_one, nth_two, nth_last, kOk, bindP, List.length_cons, List.length_nil, List.isEmpty_cons, List.isEmpty_nil, List.map_nil, List.map_cons, Nat.reduceAdd, Nat.reduceEqDiff, Nat.succ_ne_self, Int.reduceNeg, Int.reduceLE, Int.reduceLT, Int.reduceEq, Int.cast_ofNat_Int, Int.toNat_zero, Int.toNat_one, Int.reduceToNat, Int.le_refl, List.getElem?_cons_zero, List.getElem?_cons_succ, reduceIte, reduceCtorEq, true_and, and_true, and_self, not_true_eq_false, not_false_eq_true, Bool.not_true, Bool.not_false, Bool.not_eq_true, Bool.not_eq_false, ne_eq, decide_not]
  refine ⟨hl1, ⟨hn, hle⟩, after_next ?_⟩
  rw [hm]
  exact instant_tail tf hsg y1 mb d1 d2 hb ib sb hw KK F1 (by rw [upd_other _ _ (by decide)]; exact v13) (by rw [upd_other _ _ (by decide)]; exact v24) (by rw [upd_other _ _ (by decide)]; exact v2) (upd_same _ _ _) (by rw [upd_other _ _ (by decide)]; exact v25) (by rw [upd_other _ _ (by decide)]; exact v22) (by rw [upd_other _ _ (by decide)]; exact v23) (by rw [upd_other _ _ (by decide)]; exact v6) (by rw [upd_other _ _ (by decide)]; exact v21) (by rw [upd_other _ _ (by decide)]; exact v14) hQ
theorem num2 {a b : Nat} : num [48 + a, 48 + b] = 10 * (a : Int) + b := by simp [num]
theorem num4 {a b c d : Nat} : num [48 + a, 48 + b, 48 + c, 48 + d] = 1000 * (a : Int) + 100 * b + 10 * c + d := by simp [num]; omega
theorem ab_nn (z : Int) : 0 ≤ ab z := by unfold ab; split <;> omega
theorem tf_of {w0 w1 w2 n0 n1 n2 : Nat} {y d hh mi ss z : Int} (yb : 0 ≤ y ∧ y < 10000) (db : 0 ≤ d ∧ d < 100) (hb : 0 ≤ hh ∧ hh < 100) (ib : 0 ≤ mi ∧ mi < 100) (sb : 0 ≤ ss ∧ ss < 100) (zb : -1440 < z ∧ z < 1440) :
    TF (fmText [w0, w1, w2] d [n0, n1, n2] y hh mi ss (zt z)) [w0, w1, w2] [n0, n1, n2] y d hh mi ss (ab z / 60) (ab z % 60) (if z < 0 then 45 else 43) ∧ (fmText [w0, w1, w2] d [n0, n1, n2] y hh mi ss (zt z)).length = 26 + (zt z).length := by
  have z0 := ab_nn z
  have z1 : ab z < 1440 := by unfold ab; split <;> omega
  obtain ⟨d1, d2, ed, d3, d4, d5⟩ := pad2 db.1 db.2
  obtain ⟨h1, h2, eh, h3, h4, h5⟩ := pad2 hb.1 hb.2
  obtain ⟨i1, i2, ei, i3, i4, i5⟩ := pad2 ib.1 ib.2
  obtain ⟨s1, s2, es, s3, s4, s5⟩ := pad2 sb.1 sb.2
  obtain ⟨y1, y2, y3, y4, ey, y5, y6, y7, y8, y9⟩ := pad4 yb.1 yb.2
  have e1 : (10 * ((ab z / 60 / 10).toNat : Int) + ((ab z / 60 % 10).toNat : Int)) = ab z / 60 := by omega
  have e2 : (10 * ((ab z % 60 / 10).toNat : Int) + ((ab z % 60 % 10).toNat : Int)) = ab z % 60 := by omega
  have g1 : (ab z / 60 / 10).toNat < 10 := by omega
  have g2 : (ab z / 60 % 10).toNat < 10 := by omega
  have g3 : (ab z % 60 / 10).toNat < 10 := by omega
  have g4 : (ab z % 60 % 10).toNat < 10 := by omega
  unfold fmText zt
  rw [ed, eh, ei, es, ey]
  generalize (ab z / 60 / 10).toNat = p1 at *
  generalize (ab z / 60 % 10).toNat = p2 at *
  generalize (ab z % 60 / 10).toNat = p3 at *
  generalize (ab z % 60 % 10).toNat = p4 at *
  generalize (if z < 0 then 45 else 43) = sg
  simp only [List.cons_append, List.nil_append]
  refine ⟨⟨rfl, rfl, rfl, rfl, rfl, rfl, rfl, rfl, rfl, rfl, rfl, rfl, ?_, ?_⟩, rfl⟩
  · intro p hp
    simp only [FP, List.mem_cons, List.not_mem_nil, or_false] at hp
    rcases hp with rfl | rfl | rfl | rfl | rfl | rfl | rfl <;> simp [sth] <;> omega
  · show [num [48 + y1, 48 + y2, 48 + y3, 48 + y4], num [48 + d1, 48 + d2], num [48 + h1, 48 + h2], num [48 + i1, 48 + i2], num [48 + s1, 48 + s2], num [48 + p1, 48 + p2], num [48 + p3, 48 + p4]] = _
    rw [num2, num2, num2, num2, num2, num2, num4, y9, d5, h5, i5, s5, e1, e2]
theorem gets_tup {H : AH} {v : List Int} {l : List Int} (h : ∀ (k : Nat) (x : Int), v[k]? = some x → l[k]? = some x) (hl : v.length ≤ 100) : Gets H (.tup (l.map .int)) v := by
  intro H' _ k x hk Q q
  have hk2 := (List.getElem?_eq_some_iff.mp hk).1
  have : nth (l.map PV.int) (k : Nat) = some (.int x) := nth_of rfl (by rw [List.getElem?_map, h k x hk]; rfl)
  simp only [opItem, this]
  exact ⟨⟨by omega, by omega⟩, q⟩
theorem gets_ref {H : AH} {a : Nat} {o : Bool} {v : List Int} {l : List Int} (ha : H a = some ⟨l.map .int, o⟩) (h : ∀ (k : Nat) (x : Int), v[k]? = some x → l[k]? = some x) (hl : v.length ≤ 100) : Gets H (.ref a) v := by
  intro H' K k x hk Q q
  have hk2 := (List.getElem?_eq_some_iff.mp hk).1
  exact item_list (K.at ha) (nth_of rfl (by show (l.map PV.int)[k]? = _; rw [List.getElem?_map, h k x hk]; rfl)) ⟨by omega, by omega⟩ q
def okC (i z : Int) : Prop := (0 ≤ i + 60 * z ∧ i + 60 * z < 315537897600) ∧ -1440 < z ∧ z < 1440
theorem sm_of {x : Int} (h0 : -100000 < x) (h1 : x < 100000) : smI x := ⟨by omega, by omega⟩
theorem kOk_of {x : Int} (h0 : -100000 < x) (h1 : x < 100000) : kOk x := ⟨by omega, by omega⟩
theorem cmpEq_int {x : Int} {Q : Bool → AH → Prop} {H : AH} (h : Q false H) : cmpOp .NotEq (.int x) (.int x) Q H := by
  show Q (!decide (x = x)) H
  rw [decide_eq_true rfl]; exact h
theorem case_spec {Q : Fl → AEnv → AH → Prop} {ρ : AEnv} {H : AH} {i z : Int} (hc : okC i z) (r4 : ρ 4 = some (.int i)) (r12 : ρ 12 = some (.int z)) (hQ : ∀ ρ' H', Keep H H' → (∀ k, k ≠ 34 → k ≠ 1 → k ≠ 13 → k ≠ 33 → ρ' k = ρ k) → Q .next ρ' H') : l_law_4 Q ρ H := by
  obtain ⟨⟨L0, L1⟩, z0, z1⟩ := hc
  simp only [l_law_4]
  walk_at "st"
  simp only [sAssign, aCall, lCons, lNil]
  refine ((EvI.var r4).add (EvI.cst.mul (.var r12) (mulL _ (by decide) (by decide)))) _ _ ?_
  refine row_spec L0 L1 fun a y m d hh mi ss wd ha rw' => ?_
  simp only [gName]
  refine after_next ?_
  have K1 : Keep H (upd H a ⟨[y, m, d, hh, mi, ss, wd].map .int, true⟩) := Keep.new ha
  have E1 : (upd H a ⟨[y, m, d, hh, mi, ss, wd].map .int, true⟩) a = some ⟨[y, m, d, hh, mi, ss, wd].map .int, true⟩ := upd_same _ _ _
  generalize upd H a ⟨[y, m, d, hh, mi, ss, wd].map .int, true⟩ = H1 at *
  obtain ⟨yb, mb, db, hb, ib, sb, eday, esec, ewk⟩ := rw'
  have hml := ml_pos (lp y) m
  have wdb : 0 ≤ wd ∧ wd < 7 := by omega
  obtain ⟨w0, w1, w2, hw1, hw2⟩ := wk_at wdb.1 wdb.2
  obtain ⟨n0, n1, n2, hn1, hn2, hn3, hn4⟩ := mn_at mb.1 mb.2
  obtain ⟨tf, hlen⟩ := tf_of (w0 := w0) (w1 := w1) (w2 := w2) (n0 := n0) (n1 := n1) (n2 := n2) (y := y) (d := d) (hh := hh) (mi := mi) (ss := ss) (z := z) (by omega) (by omega) (by omega) (by omega) (by omega) ⟨z0, z1⟩
  have hz5 : (zt z).length = 5 := rfl
  walk_at "st"
  simp only [sAssign, aCall, lCons, lNil, aVar, upd_other ρ _ (show 12 ≠ 34 by decide), r12]
  refine zone_spec z0 z1 ?_
  simp only [gName]
  refine after_next ?_
  walk_at "st"
  have q34 : upd (upd ρ 34 (.ref a)) 1 (.str (zt z)) 34 = some (.ref a) := by rw [upd_other _ _ (by decide), upd_same]
  have q1 : upd (upd ρ 34 (.ref a)) 1 (.str (zt z)) 1 = some (.str (zt z)) := upd_same _ _ _
  have q4 : upd (upd ρ 34 (.ref a)) 1 (.str (zt z)) 4 = some (.int i) := by rw [upd_other _ _ (by decide), upd_other _ _ (by decide)]; exact r4
  have qk : ∀ k, k ≠ 34 → k ≠ 1 → upd (upd ρ 34 (.ref a)) 1 (.str (zt z)) k = ρ k := fun k h1 h2 => by rw [upd_other _ _ h2, upd_other _ _ h1]
  generalize upd (upd ρ 34 (.ref a)) 1 (.str (zt z)) = ρ1 at *
  simp only [sAssign, aCall, lCons, lNil, aVar, q34, q1, fTuple, E1]
  refine ⟨by simp [szOk], ?_⟩
  refine fmt_spec (gets_tup (v := [y, m, d, hh, mi, ss, wd]) (fun _ _ h => h) (by simp)) hw1 hn1 (kOk_of (by omega) (by omega)) (kOk_of (by omega) (by omega)) (by simp) (by simp) (by rw [hz5]; decide) (sm_of (by omega) (by omega)) (sm_of (by omega) (by omega)) (sm_of (by omega) (by omega)) (sm_of (by omega) (by omega)) (sm_of (by omega) (by omega)) fun H2 K2 => ?_
  have E2 := K2.at E1
  have K12 := K1.trans K2
  generalize hT : fmText [w0, w1, w2] d [n0, n1, n2] y hh mi ss (zt z) = T at *
  simp only [gName]
  refine after_next ?_
  walk_at "st"
  have p34 : upd ρ1 13 (.str T) 34 = some (.ref a) := by rw [upd_other _ _ (by decide)]; exact q34
  have p1 : upd ρ1 13 (.str T) 1 = some (.str (zt z)) := by rw [upd_other _ _ (by decide)]; exact q1
  have p4 : upd ρ1 13 (.str T) 4 = some (.int i) := by rw [upd_other _ _ (by decide)]; exact q4
  have p13 : upd ρ1 13 (.str T) 13 = some (.str T) := upd_same _ _ _
  have pk : ∀ k, k ≠ 34 → k ≠ 1 → k ≠ 13 → upd ρ1 13 (.str T) k = ρ k := fun k h1 h2 h3 => by rw [upd_other _ _ h3]; exact qk k h1 h2
  generalize upd ρ1 13 (.str T) = ρ2 at *
  have hl31 := tf.len
  have ez : ((T.length : Nat) : Int) = 26 + ((zt z).length : Nat) := by rw [hlen]; omega
  simp only [sIf, tCmp, aCall, lCons, lNil, aVar, p13, p1, fLen, aBin, aCst, opAdd]
  refine ⟨by rw [hl31]; simp [szOk], by rw [hz5]; simp [szOk], ?_⟩
  rw [← ez]
  refine cmpEq_int ?_
  rw [if_neg Bool.false_ne_true]
  refine sNil_next (after_next ?_)
  walk_at "st"
  simp only [sIf, tCmp, aCall, lCons, lNil, aVar, p13, p4]
  have eday' : dayOf y m d = (i + 60 * z) / 86400 := eday
  refine instant_spec tf (by split <;> simp) hn3 hn4 yb.1 mb db.1 db.2 hb ib sb (by rw [eday', ← ewk]; exact hw1) fun H3 K3 => ?_
  have ei : (if (if z < 0 then 45 else 43) = 45 then 86400 * dayOf y m d + 3600 * hh + 60 * mi + ss + (3600 * (ab z / 60) + 60 * (ab z % 60)) else 86400 * dayOf y m d + 3600 * hh + 60 * mi + ss - (3600 * (ab z / 60) + 60 * (ab z % 60))) = i := by
    rw [eday']
    unfold ab
    by_cases hz : z < 0
    · simp only [hz, if_true]; omega
    · simp only [hz, if_false, Nat.reduceEqDiff]; omega
  rw [ei]
  refine cmpEq_int ?_
  rw [if_neg Bool.false_ne_true]
  refine sNil_next (after_next ?_)
  have E3 := K3.at E2
  walk_at "st"
  have f0 : nth [PV.int y, .int m, .int d, .int hh, .int mi, .int ss, .int wd] 0 = some (.int y) := rfl
  have f1 : nth [PV.int y, .int m, .int d, .int hh, .int mi, .int ss, .int wd] 1 = some (.int m) := rfl
  have f6 : nth [PV.int y, .int m, .int d, .int hh, .int mi, .int ss, .int wd] 6 = some (.int wd) := rfl
  have fs : slcG [PV.int y, .int m, .int d, .int hh, .int mi, .int ss, .int wd] (some 2) (some 6) none = [PV.int d, .int hh, .int mi, .int ss] := by
    rw [slcG_plain]; rfl
  have E3' : H3 a = some ⟨[PV.int y, .int m, .int d, .int hh, .int mi, .int ss, .int wd], true⟩ := E3
  try simp only [p34, E3', f0, f1, sNil, sAssign, sRet, sRet0, sIf, sExpr, sAugSub, sAug, sCont, gName, gSub, gTup, gTup.go, aVar, aCst, aBin, aUn, aIf, aTup, aList, lCons, lNil, aCall, aMeth, aCmp, aSlice, tCmp, tCmp2, tAnd, tOr, tNot, tVal, tTrue, tFalse, upd_at, if_true, if_false, Bool.false_eq_true, decide_true, decide_false, decide_eq_true_eq, opItem, opAdd, opIAdd, opSub, opMul, opDiv, opMod, opNeg, cmpOp, cmpLt, cmpIn, cmpIs, eq_int, eq_str, eq_bool, occ_one, truth, kList, kStr, fLen, fRange, fList, fTuple, fChr, fSJoin, fAll, fAny, fSum, fMin, fDivmod, fAbs, joinL_nil, fAppend, fInsert, fPop, withOwn, withItems, setAt, nth_zero, nth_one, nth_two, nth_last, kOk, bindP, List.length_cons, List.length_nil, List.isEmpty_cons, List.isEmpty_nil, List.map_nil, List.map_cons, Nat.reduceAdd, Nat.reduceEqDiff, Nat.succ_ne_self, Int.reduceNeg, Int.reduceLE, Int.reduceLT, Int.reduceEq, Int.cast_ofNat_Int, Int.toNat_zero, Int.toNat_one, Int.reduceToNat, Int.le_refl, List.getElem?_cons_zero, List.getElem?_cons_succ, reduceIte, reduceCtorEq, true_and, and_true, and_self, not_true_eq_false, not_false_eq_true, Bool.not_true, Bool.not_false, Bool.not_eq_true, Bool.not_eq_false, ne_eq, decide_not]
  refine ⟨by simp [szOk], fun b1 hb1 => ?_⟩
  have nb1 := ne_new E3' hb1
  try simp only [nb1, E3', opSlice, partOf, fs, sNil, sAssign, sRet, sRet0, sIf, sExpr, sAugSub, sAug, sCont, gName, gSub, gTup, gTup.go, aVar, aCst, aBin, aUn, aIf, aTup, aList, lCons, lNil, aCall, aMeth, aCmp, aSlice, tCmp, tCmp2, tAnd, tOr, tNot, tVal, tTrue, tFalse, upd_at, if_true, if_false, Bool.false_eq_true, decide_true, decide_false, decide_eq_true_eq, opItem, opAdd, opIAdd, opSub, opMul, opDiv, opMod, opNeg, cmpOp, cmpLt, cmpIn, cmpIs, eq_int, eq_str, eq_bool, occ_one, truth, kList, kStr, fLen, fRange, fList, fTuple, fChr, fSJoin, fAll, fAny, fSum, fMin, fDivmod, fAbs, joinL_nil, fAppend, fInsert, fPop, withOwn, withItems, setAt, nth_zero, nth_one, nth_two, nth_last, kOk, bindP, List.length_cons, List.length_nil, List.isEmpty_cons, List.isEmpty_nil, List.map_nil, List.map_cons, Nat.reduceAdd, Nat.reduceEqDiff, Nat.succ_ne_self, Int.reduceNeg, Int.reduceLE, Int.reduceLT, Int.reduceEq, Int.cast_ofNat_Int, Int.toNat_zero, Int.toNat_one, Int.reduceToNat, Int.le_refl, List.getElem?_cons_zero, List.getElem?_cons_succ, reduceIte, reduceCtorEq, true_and, and_true, and_self, not_true_eq_false, not_false_eq_true, Bool.not_true, Bool.not_false, Bool.not_eq_true, Bool.not_eq_false, ne_eq, decide_not]
  refine ⟨by simp [szOk], fun b2 hb2 => ?_⟩
  have nb2 := ne_new (upd_same H3 b1 _) hb2
  have na2 : a ≠ b2 := ne_new ((upd_other _ _ nb1).trans E3') hb2
  try simp only [nb2, sNil, sAssign, sRet, sRet0, sIf, sExpr, sAugSub, sAug, sCont, gName, gSub, gTup, gTup.go, aVar, aCst, aBin, aUn, aIf, aTup, aList, lCons, lNil, aCall, aMeth, aCmp, aSlice, tCmp, tCmp2, tAnd, tOr, tNot, tVal, tTrue, tFalse, upd_at, if_true, if_false, Bool.false_eq_true, decide_true, decide_false, decide_eq_true_eq, opItem, opAdd, opIAdd, opSub, opMul, opDiv, opMod, opNeg, cmpOp, cmpLt, cmpIn, cmpIs, eq_int, eq_str, eq_bool, occ_one, truth, kList, kStr, fLen, fRange, fList, fTuple, fChr, fSJoin, fAll, fAny, fSum, fMin, fDivmod, fAbs, joinL_nil, fAppend, fInsert, fPop, withOwn, withItems, setAt, nth_zero, nth_one, nth_two, nth_last, kOk, bindP, List.length_cons, List.length_nil, List.isEmpty_cons, List.isEmpty_nil, List.map_nil, List.map_cons, Nat.reduceAdd, Nat.reduceEqDiff, Nat.succ_ne_self, Int.reduceNeg, Int.reduceLE, Int.reduceLT, Int.reduceEq, Int.cast_ofNat_Int, Int.toNat_zero, Int.toNat_one, Int.reduceToNat, Int.le_refl, List.getElem?_cons_zero, List.getElem?_cons_succ, reduceIte, reduceCtorEq, true_and, and_true, and_self, not_true_eq_false, not_false_eq_true, Bool.not_true, Bool.not_false, Bool.not_eq_true, Bool.not_eq_false, ne_eq, decide_not]
  refine ⟨by simp [szOk], fun b3 hb3 => ?_⟩
  have na3 : a ≠ b3 := ne_new ((upd_other _ _ na2).trans ((upd_other _ _ nb1).trans E3')) hb3
  try simp only [nb1, na2, na3, E3', f6, sNil, sAssign, sRet, sRet0, sIf, sExpr, sAugSub, sAug, sCont, gName, gSub, gTup, gTup.go, aVar, aCst, aBin, aUn, aIf, aTup, aList, lCons, lNil, aCall, aMeth, aCmp, aSlice, tCmp, tCmp2, tAnd, tOr, tNot, tVal, tTrue, tFalse, upd_at, if_true, if_false, Bool.false_eq_true, decide_true, decide_false, decide_eq_true_eq, opItem, opAdd, opIAdd, opSub, opMul, opDiv, opMod, opNeg, cmpOp, cmpLt, cmpIn, cmpIs, eq_int, eq_str, eq_bool, occ_one, truth, kList, kStr, fLen, fRange, fList, fTuple, fChr, fSJoin, fAll, fAny, fSum, fMin, fDivmod, fAbs, joinL_nil, fAppend, fInsert, fPop, withOwn, withItems, setAt, nth_zero, nth_one, nth_two, nth_last, kOk, bindP, List.length_cons, List.length_nil, List.isEmpty_cons, List.isEmpty_nil, List.map_nil, List.map_cons, Nat.reduceAdd, Nat.reduceEqDiff, Nat.succ_ne_self, Int.reduceNeg, Int.reduceLE, Int.reduceLT, Int.reduceEq, Int.cast_ofNat_Int, Int.toNat_zero, Int.toNat_one, Int.reduceToNat, Int.le_refl, List.getElem?_cons_zero, List.getElem?_cons_succ, reduceIte, reduceCtorEq, true_and, and_true, and_self, not_true_eq_false, not_false_eq_true, Bool.not_true, Bool.not_false, Bool.not_eq_true, Bool.not_eq_false, ne_eq, decide_not]
  refine ⟨by simp [szOk], fun b4 hb4 => ?_⟩
  have nb3 := ne_new (upd_same _ b3 _) hb4
  try simp only [nb3, sNil, sAssign, sRet, sRet0, sIf, sExpr, sAugSub, sAug, sCont, gName, gSub, gTup, gTup.go, aVar, aCst, aBin, aUn, aIf, aTup, aList, lCons, lNil, aCall, aMeth, aCmp, aSlice, tCmp, tCmp2, tAnd, tOr, tNot, tVal, tTrue, tFalse, upd_at, if_true, if_false, Bool.false_eq_true, decide_true, decide_false, decide_eq_true_eq, opItem, opAdd, opIAdd, opSub, opMul, opDiv, opMod, opNeg, cmpOp, cmpLt, cmpIn, cmpIs, eq_int, eq_str, eq_bool, occ_one, truth, kList, kStr, fLen, fRange, fList, fTuple, fChr, fSJoin, fAll, fAny, fSum, fMin, fDivmod, fAbs, joinL_nil, fAppend, fInsert, fPop, withOwn, withItems, setAt, nth_zero, nth_one, nth_two, nth_last, kOk, bindP, List.length_cons, List.length_nil, List.isEmpty_cons, List.isEmpty_nil, List.map_nil, List.map_cons, Nat.reduceAdd, Nat.reduceEqDiff, Nat.succ_ne_self, Int.reduceNeg, Int.reduceLE, Int.reduceLT, Int.reduceEq, Int.cast_ofNat_Int, Int.toNat_zero, Int.toNat_one, Int.reduceToNat, Int.le_refl, List.getElem?_cons_zero, List.getElem?_cons_succ, reduceIte, reduceCtorEq, true_and, and_true, and_self, not_true_eq_false, not_false_eq_true, Bool.not_true, Bool.not_false, Bool.not_eq_true, Bool.not_eq_false, ne_eq, decide_not]
  refine ⟨by simp [szOk], fun b5 hb5 => after_next ?_⟩
  have KB : Keep H3 (upd (upd (upd (upd (upd H3 b1 ⟨[PV.int y, .int (m - 12)], true⟩) b2 ⟨[PV.int d, .int hh, .int mi, .int ss], true⟩) b3 ⟨[PV.int y, .int (m - 12)] ++ [PV.int d, .int hh, .int mi, .int ss], true⟩) b4 ⟨[PV.int (wd - 7), .int 0, .int (-1)], true⟩) b5 ⟨[PV.int y, .int (m - 12)] ++ [PV.int d, .int hh, .int mi, .int ss] ++ [PV.int (wd - 7), .int 0, .int (-1)], true⟩) :=
    ((((Keep.new hb1).trans (Keep.new hb2)).trans (Keep.new hb3)).trans (Keep.new hb4)).trans (Keep.new hb5)
  have EB : (upd (upd (upd (upd (upd H3 b1 ⟨[PV.int y, .int (m - 12)], true⟩) b2 ⟨[PV.int d, .int hh, .int mi, .int ss], true⟩) b3 ⟨[PV.int y, .int (m - 12)] ++ [PV.int d, .int hh, .int mi, .int ss], true⟩) b4 ⟨[PV.int (wd - 7), .int 0, .int (-1)], true⟩) b5 ⟨[PV.int y, .int (m - 12)] ++ [PV.int d, .int hh, .int mi, .int ss] ++ [PV.int (wd - 7), .int 0, .int (-1)], true⟩) b5 = some ⟨[y, m - 12, d, hh, mi, ss, wd - 7, 0, -1].map .int, true⟩ := upd_same _ _ _
  generalize upd (upd (upd (upd (upd H3 b1 ⟨[PV.int y, .int (m - 12)], true⟩) b2 ⟨[PV.int d, .int hh, .int mi, .int ss], true⟩) b3 ⟨[PV.int y, .int (m - 12)] ++ [PV.int d, .int hh, .int mi, .int ss], true⟩) b4 ⟨[PV.int (wd - 7), .int 0, .int (-1)], true⟩) b5 ⟨[PV.int y, .int (m - 12)] ++ [PV.int d, .int hh, .int mi, .int ss] ++ [PV.int (wd - 7), .int 0, .int (-1)], true⟩ = H4 at *
  walk_at "st"
  have s1 : upd ρ2 33 (.ref b5) 1 = some (.str (zt z)) := by rw [upd_other _ _ (by decide)]; exact p1
  have s13 : upd ρ2 33 (.ref b5) 13 = some (.str T) := by rw [upd_other _ _ (by decide)]; exact p13
  have s33 : upd ρ2 33 (.ref b5) 33 = some (.ref b5) := upd_same _ _ _
  have sk : ∀ k, k ≠ 34 → k ≠ 1 → k ≠ 13 → k ≠ 33 → upd ρ2 33 (.ref b5) k = ρ k := fun k h1 h2 h3 h4 => by rw [upd_other _ _ h4]; exact pk k h1 h2 h3
  generalize upd ρ2 33 (.ref b5) = ρ3 at *
  simp only [sIf, tCmp, aCall, lCons, lNil, aVar, s33, s1, s13]
  refine fmt_spec (gets_ref (v := [y, m - 12, d, hh, mi, ss, wd - 7]) EB (fun k x hk => ?_) (by simp)) hw2 hn2 (kOk_of (by omega) (by omega)) (kOk_of (by omega) (by omega)) (by simp) (by simp) (by rw [hz5]; decide) (sm_of (by omega) (by omega)) (sm_of (by omega) (by omega)) (sm_of (by omega) (by omega)) (sm_of (by omega) (by omega)) (sm_of (by omega) (by omega)) fun H5 K5 => ?_
  · rw [show [y, m - 12, d, hh, mi, ss, wd - 7, 0, -1] = [y, m - 12, d, hh, mi, ss, wd - 7] ++ [0, -1] from rfl, List.getElem?_append_left (List.getElem?_eq_some_iff.mp hk).1]
    exact hk
  · rw [hT]
    refine ne_same ?_
    rw [if_neg Bool.false_ne_true]
    exact sNil_next (after_next (sNil_next (hQ ρ3 H5 (((K12.trans K3).trans KB).trans K5) sk)))
def okP (p : PV) : Prop := ∃ i z, p = .tup [.int i, .int z] ∧ okC i z
theorem mulR (a : Int) {b : Int} (h1 : -(2 ^ 64) < b) (h2 : b < 2 ^ 64) : IntMulOk a b := .of_right (intBits_le_64 h1 h2)
def inI (C : Nat) (H₀ : AH) (L : Nat) (ns : List Int) (ps : List PV) (ρ : AEnv) (H : AH) : Prop := ∃ (cs : List PV) (rest : List Int), ps = rest.map .int ∧ ρ 32 = some (.ref C) ∧ ρ 35 = some (.int 315537897600) ∧ H C = some ⟨cs, true⟩ ∧ (∀ p ∈ cs, okP p) ∧ cs.length + rest.length ≤ 100 ∧ H L = some ⟨ns.map .int, true⟩
theorem add_spec {C L : Nat} {H₀ : AH} {ns : List Int} {Q : Fl → AEnv → AH → Prop} {ρ : AEnv} {H : AH} {n : Int} {ps : List PV} (hCL : L ≠ C) (h : inI C H₀ L ns (.int n :: ps) ρ H) (hQ : ∀ ρ' H', H' L = some ⟨ns.map .int, true⟩ → inI C H₀ L ns ps ρ' H' → Q .next ρ' H') : l_law_5 Q (upd ρ 16 (.int n)) H := by
  obtain ⟨cs, rest, e1, r32, r35, eC, hok, hl, eL⟩ := h
  obtain ⟨x, rest, rfl⟩ : ∃ q r, rest = q :: r := by cases rest with | nil => cases e1 | cons q r => exact ⟨q, r, rfl⟩
  obtain ⟨e2, rfl⟩ := List.cons.inj e1
  cases e2
  simp only [List.length_cons] at hl
  have q16 : upd ρ 16 (.int n) 16 = some (.int n) := upd_same _ _ _
  have q35 : upd ρ 16 (.int n) 35 = some (.int 315537897600) := by rw [upd_other _ _ (by decide)]; exact r35
  have q32 : upd ρ 16 (.int n) 32 = some (.ref C) := by rw [upd_other _ _ (by decide)]; exact r32
  generalize upd ρ 16 (.int n) = ρ1 at *
  simp only [l_law_5]
  walk_at "st"
  refine EvI.asg (x := 86400 + n * 12345678901 % (315537897600 - 2 * 86400)) (EvI.cst.add (((EvI.var q16).mul .cst (mulR _ (by decide) (by decide))).mod ((EvI.var q35).sub (EvI.cst.mul .cst (mulL _ (by decide) (by decide)))) (by decide))) (after_next ?_)
  have g0 : 0 ≤ n * 12345678901 % (315537897600 - 2 * 86400) ∧ n * 12345678901 % (315537897600 - 2 * 86400) < 315537724800 := by omega
  generalize n * 12345678901 % (315537897600 - 2 * 86400) = u at *
  have p16 : upd ρ1 4 (.int (86400 + u)) 16 = some (.int n) := by rw [upd_other _ _ (by decide)]; exact q16
  have p32 : upd ρ1 4 (.int (86400 + u)) 32 = some (.ref C) := by rw [upd_other _ _ (by decide)]; exact q32
  have p35 : upd ρ1 4 (.int (86400 + u)) 35 = some (.int 315537897600) := by rw [upd_other _ _ (by decide)]; exact q35
  have p4 : upd ρ1 4 (.int (86400 + u)) 4 = some (.int (86400 + u)) := upd_same _ _ _
  generalize upd ρ1 4 (.int (86400 + u)) = ρ2 at *
  walk_at "st"
  simp only [sExpr, aMeth, aVar, p32, lCons, aTup, lNil, p4]
  have hmin : EvI (aBin opSub (aBin opMod (aBin opMul (aVar 16) (aCst (.int 61))) (aCst (.int 2879))) (aCst (.int 1439))) ρ2 (n * 61 % 2879 - 1439) := (((EvI.var p16).mul .cst (mulR _ (by decide) (by decide))).mod .cst (by decide)).sub .cst
  refine ⟨by simp only [kList, eC], hmin _ _ ?_⟩
  have g1 : 0 ≤ n * 61 % 2879 ∧ n * 61 % 2879 < 2879 := by omega
  generalize n * 61 % 2879 = v at *
  simp only [eC, fAppend, withOwn]
  refine ⟨by simp [szOk], trivial, by simp only [szOk]; omega, after_next (sNil_next (hQ _ _ (by rw [upd_other _ _ hCL]; exact eL) ⟨cs ++ [.tup [.int (86400 + u), .int (v - 1439)]], rest, rfl, p32, p35, upd_same _ _ _, fun p hp => ?_, by simp; omega, by rw [upd_other _ _ hCL]; exact eL⟩))⟩
  rcases List.mem_append.mp hp with hp | hp
  · exact hok p hp
  · rw [List.mem_singleton.mp hp]; exact ⟨_, _, rfl, ⟨by omega, by omega⟩, by omega, by omega⟩
def lsI (C : Nat) (cs : List PV) (ps : List PV) (ρ : AEnv) (H : AH) : Prop := H C = some ⟨cs, true⟩ ∧ ∀ p ∈ ps, okP p
theorem law_spec {ns : List Int} {s : Nat} {H : AH} (hn : ns.length ≤ 63) (hs : H s = some ⟨ns.map .int, false⟩) : f_law [.ref s] (fun p _ => p = .bool true) H := by
  refine fn rfl ?_
  walk_at "st"
  refine EvI.asg (x := 3652059 * 86400) (EvI.cst.mul .cst (mulL _ (by decide) (by decide))) (after_next ?_)
  rw [show (3652059 * 86400 : Int) = 315537897600 by decide]
  walk_at "st"
  (try simp only [sCons, sNil, sAssign, sRet, sRet0, sIf, sExpr, sFor, sAugSub, sAug, sCont, gName, gSub, gTup, gTup.go, aVar, aCst, aBin, aUn, aIf, aTup, aList, lCons, lNil, aCall, aMeth, aCmp, aSlice, tCmp, tCmp2, tAnd, tOr, tNot, tVal, tTrue, tFalse, upd_at, if_true, if_false, Bool.false_eq_true, decide_true, decide_false, decide_eq_true_eq, opItem, opAdd, opIAdd, opSub, opMul, opDiv, opMod, opNeg, cmpOp, cmpLt, cmpIn, cmpIs, eq_int, eq_str, eq_bool, occ_one, truth, kList, kStr, fLen, fRange, fList, fTuple, fChr, fSJoin, fAll, fAny, fSum, fMin, fDivmod, fAbs, joinL_nil, fAppend, fInsert, fPop, withOwn, withItems, setAt, nth_zero, nth_one, nth_two, nth_last, kOk, bindP, List.length_cons, List.length_nil, List.isEmpty_cons, List.isEmpty_nil, List.map_nil, List.map_cons, Nat.reduceAdd, Nat.reduceEqDiff, Nat.succ_ne_self, Int.reduceNeg, Int.reduceLE, Int.reduceLT, Int.reduceEq, Int.cast_ofNat_Int, Int.toNat_zero, Int.toNat_one, Int.reduceToNat, Int.le_refl, List.getElem?_cons_zero, List.getElem?_cons_succ, reduceIte, reduceCtorEq, true_and, and_true, and_self, not_true_eq_false, not_false_eq_true, Bool.not_true, Bool.not_false, Bool.not_eq_true, Bool.not_eq_false, ne_eq, decide_not])
  refine ⟨by simp [szOk], by simp [szOk], by simp [szOk], fun C hC => after_next ?_⟩
  have nsC := ne_new hs hC
  walk_at "st"
  try simp only [sFor, nsC, hs, sNil, sAssign, sRet, sRet0, sIf, sExpr, sAugSub, sAug, sCont, gName, gSub, gTup, gTup.go, aVar, aCst, aBin, aUn, aIf, aTup, aList, lCons, lNil, aCall, aMeth, aCmp, aSlice, tCmp, tCmp2, tAnd, tOr, tNot, tVal, tTrue, tFalse, upd_at, if_true, if_false, Bool.false_eq_true, decide_true, decide_false, decide_eq_true_eq, opItem, opAdd, opIAdd, opSub, opMul, opDiv, opMod, opNeg, cmpOp, cmpLt, cmpIn, cmpIs, eq_int, eq_str, eq_bool, occ_one, truth, kList, kStr, fLen, fRange, fList, fTuple, fChr, fSJoin, fAll, fAny, fSum, fMin, fDivmod, fAbs, joinL_nil, fAppend, fInsert, fPop, withOwn, withItems, setAt, nth_zero, nth_one, nth_two, nth_last, kOk, bindP, List.length_cons, List.length_nil, List.isEmpty_cons, List.isEmpty_nil, List.map_nil, List.map_cons, Nat.reduceAdd, Nat.reduceEqDiff, Nat.succ_ne_self, Int.reduceNeg, Int.reduceLE, Int.reduceLT, Int.reduceEq, Int.cast_ofNat_Int, Int.toNat_zero, Int.toNat_one, Int.reduceToNat, Int.le_refl, List.getElem?_cons_zero, List.getElem?_cons_succ, reduceIte, reduceCtorEq, true_and, and_true, and_self, not_true_eq_false, not_false_eq_true, Bool.not_true, Bool.not_false, Bool.not_eq_true, Bool.not_eq_false, ne_eq, decide_not]
  refine ⟨by simp [szOk]; omega, fun a1 h1 => ?_⟩
  have ns1 : s ≠ a1 := ne_new ((upd_other _ _ nsC).trans hs) h1
  have nC1 := ne_new (upd_same H C _) h1
  try simp only [nsC, ns1, hs, List.length_map, sNil, sAssign, sRet, sRet0, sIf, sExpr, sAugSub, sAug, sCont, gName, gSub, gTup, gTup.go, aVar, aCst, aBin, aUn, aIf, aTup, aList, lCons, lNil, aCall, aMeth, aCmp, aSlice, tCmp, tCmp2, tAnd, tOr, tNot, tVal, tTrue, tFalse, upd_at, if_true, if_false, Bool.false_eq_true, decide_true, decide_false, decide_eq_true_eq, opItem, opAdd, opIAdd, opSub, opMul, opDiv, opMod, opNeg, cmpOp, cmpLt, cmpIn, cmpIs, eq_int, eq_str, eq_bool, occ_one, truth, kList, kStr, fLen, fRange, fList, fTuple, fChr, fSJoin, fAll, fAny, fSum, fMin, fDivmod, fAbs, joinL_nil, fAppend, fInsert, fPop, withOwn, withItems, setAt, nth_zero, nth_one, nth_two, nth_last, kOk, bindP, List.length_cons, List.length_nil, List.isEmpty_cons, List.isEmpty_nil, List.map_nil, List.map_cons, Nat.reduceAdd, Nat.reduceEqDiff, Nat.succ_ne_self, Int.reduceNeg, Int.reduceLE, Int.reduceLT, Int.reduceEq, Int.cast_ofNat_Int, Int.toNat_zero, Int.toNat_one, Int.reduceToNat, Int.le_refl, List.getElem?_cons_zero, List.getElem?_cons_succ, reduceIte, reduceCtorEq, true_and, and_true, and_self, not_true_eq_false, not_false_eq_true, Bool.not_true, Bool.not_false, Bool.not_eq_true, Bool.not_eq_false, ne_eq, decide_not]
  refine ⟨by simp [szOk]; omega, by simp [szOk], fun a2 h2 => ?_⟩
  have n12 := ne_new (upd_same _ a1 _) h2
  have nC2 : C ≠ a2 := ne_new ((upd_other _ _ nC1).trans (upd_same H C _)) h2
  try simp only [n12, sNil, sAssign, sRet, sRet0, sIf, sExpr, sAugSub, sAug, sCont, gName, gSub, gTup, gTup.go, aVar, aCst, aBin, aUn, aIf, aTup, aList, lCons, lNil, aCall, aMeth, aCmp, aSlice, tCmp, tCmp2, tAnd, tOr, tNot, tVal, tTrue, tFalse, upd_at, if_true, if_false, Bool.false_eq_true, decide_true, decide_false, decide_eq_true_eq, opItem, opAdd, opIAdd, opSub, opMul, opDiv, opMod, opNeg, cmpOp, cmpLt, cmpIn, cmpIs, eq_int, eq_str, eq_bool, occ_one, truth, kList, kStr, fLen, fRange, fList, fTuple, fChr, fSJoin, fAll, fAny, fSum, fMin, fDivmod, fAbs, joinL_nil, fAppend, fInsert, fPop, withOwn, withItems, setAt, nth_zero, nth_one, nth_two, nth_last, kOk, bindP, List.length_cons, List.length_nil, List.isEmpty_cons, List.isEmpty_nil, List.map_nil, List.map_cons, Nat.reduceAdd, Nat.reduceEqDiff, Nat.succ_ne_self, Int.reduceNeg, Int.reduceLE, Int.reduceLT, Int.reduceEq, Int.cast_ofNat_Int, Int.toNat_zero, Int.toNat_one, Int.reduceToNat, Int.le_refl, List.getElem?_cons_zero, List.getElem?_cons_succ, reduceIte, reduceCtorEq, true_and, and_true, and_self, not_true_eq_false, not_false_eq_true, Bool.not_true, Bool.not_false, Bool.not_eq_true, Bool.not_eq_false, ne_eq, decide_not]
  refine ⟨by simp [szOk]; omega, fun a3 h3 => ?_⟩
  have nC3 : C ≠ a3 := ne_new ((upd_other _ _ nC2).trans ((upd_other _ _ nC1).trans (upd_same H C _))) h3
  try simp only [upd_same, sNil, sAssign, sRet, sRet0, sIf, sExpr, sAugSub, sAug, sCont, gName, gSub, gTup, gTup.go, aVar, aCst, aBin, aUn, aIf, aTup, aList, lCons, lNil, aCall, aMeth, aCmp, aSlice, tCmp, tCmp2, tAnd, tOr, tNot, tVal, tTrue, tFalse, upd_at, if_true, if_false, Bool.false_eq_true, decide_true, decide_false, decide_eq_true_eq, opItem, opAdd, opIAdd, opSub, opMul, opDiv, opMod, opNeg, cmpOp, cmpLt, cmpIn, cmpIs, eq_int, eq_str, eq_bool, occ_one, truth, kList, kStr, fLen, fRange, fList, fTuple, fChr, fSJoin, fAll, fAny, fSum, fMin, fDivmod, fAbs, joinL_nil, fAppend, fInsert, fPop, withOwn, withItems, setAt, nth_zero, nth_one, nth_two, nth_last, kOk, bindP, List.length_cons, List.length_nil, List.isEmpty_cons, List.isEmpty_nil, List.map_nil, List.map_cons, Nat.reduceAdd, Nat.reduceEqDiff, Nat.succ_ne_self, Int.reduceNeg, Int.reduceLE, Int.reduceLT, Int.reduceEq, Int.cast_ofNat_Int, Int.toNat_zero, Int.toNat_one, Int.reduceToNat, Int.le_refl, List.getElem?_cons_zero, List.getElem?_cons_succ, reduceIte, reduceCtorEq, true_and, and_true, and_self, not_true_eq_false, not_false_eq_true, Bool.not_true, Bool.not_false, Bool.not_eq_true, Bool.not_eq_false, ne_eq, decide_not]
  rw [show ns.map PV.int ++ [PV.int (ns.length : Nat)] = (ns ++ [(ns.length : Int)]).map .int by simp]
  refine forL_inv mg_name m_l_law_5 (inI C H a3 (ns ++ [(ns.length : Int)])) ?_ ?_ _ _ _ ⟨_, ns ++ [(ns.length : Int)], rfl, rfl, rfl, by rw [upd_other _ _ nC3, upd_other _ _ nC2, upd_other _ _ nC1, upd_same], ?_, by simp; omega, upd_same _ _ _⟩
  · rintro p ps ρ H' h
    have h' := h
    obtain ⟨cs, rest, e1, _⟩ := h'
    obtain ⟨x, rest, rfl⟩ : ∃ q r, rest = q :: r := by cases rest with | nil => cases e1 | cons q r => exact ⟨q, r, rfl⟩
    obtain ⟨e2, _⟩ := List.cons.inj e1
    subst e2
    exact add_spec (Ne.symm nC3) h fun ρ' H2 hL hI => ⟨hL, hI⟩
  · rintro ρ H' ⟨cs, rest, e1, r32, r35, eC, hok, hl, eL⟩
    refine after_next ?_
    walk_at "st"
    simp only [sFor, aVar, r32, withItems, eC]
    refine forL_inv (mg_tup (.cons mg_name (.cons mg_name .nil))) m_l_law_4 (lsI C cs) ?_ ?_ _ _ _ ⟨eC, hok⟩
    · rintro p ps ρ' H2 ⟨eC2, hp⟩
      obtain ⟨i, z, rfl, hc⟩ := hp p (.head _)
      simp only [gTup, gTup.go, gName]
      refine ⟨rfl, case_spec hc (by rw [upd_other _ _ (by decide), upd_same]) (upd_same _ _ _) fun ρ2 H3 K3 _ => ⟨K3.at eC2, K3.at eC2, fun q hq => hp q (.tail _ hq)⟩⟩
    · rintro ρ' H2 _
      refine after_next ?_
      walk_at "st"
      (try simp only [sCons, sNil, sAssign, sRet, sRet0, sIf, sExpr, sFor, sAugSub, sAug, sCont, gName, gSub, gTup, gTup.go, aVar, aCst, aBin, aUn, aIf, aTup, aList, lCons, lNil, aCall, aMeth, aCmp, aSlice, tCmp, tCmp2, tAnd, tOr, tNot, tVal, tTrue, tFalse, upd_at, if_true, if_false, Bool.false_eq_true, decide_true, decide_false, decide_eq_true_eq, opItem, opAdd, opIAdd, opSub, opMul, opDiv, opMod, opNeg, cmpOp, cmpLt, cmpIn, cmpIs, eq_int, eq_str, eq_bool, occ_one, truth, kList, kStr, fLen, fRange, fList, fTuple, fChr, fSJoin, fAll, fAny, fSum, fMin, fDivmod, fAbs, joinL_nil, fAppend, fInsert, fPop, withOwn, withItems, setAt, nth_zero, nth_one, nth_two, nth_last, kOk, bindP, List.length_cons, List.length_nil, List.isEmpty_cons, List.isEmpty_nil, List.map_nil, List.map_cons, Nat.reduceAdd, Nat.reduceEqDiff, Nat.succ_ne_self, Int.reduceNeg, Int.reduceLE, Int.reduceLT, Int.reduceEq, Int.cast_ofNat_Int, Int.toNat_zero, Int.toNat_one, Int.reduceToNat, Int.le_refl, List.getElem?_cons_zero, List.getElem?_cons_succ, reduceIte, reduceCtorEq, true_and, and_true, and_self, not_true_eq_false, not_false_eq_true, Bool.not_true, Bool.not_false, Bool.not_eq_true, Bool.not_eq_false, ne_eq, decide_not])
      exact after_ret (end_ret rfl)
  · intro p hp
    rcases List.mem_cons.mp hp with rfl | hp
    · exact ⟨0, 0, rfl, ⟨by decide, by decide⟩, by decide, by decide⟩
    · rw [List.mem_singleton.mp hp]; exact ⟨_, _, rfl, ⟨by decide, by decide⟩, by decide, by decide⟩
end Mine
namespace Mine
open_top hd for PySem.Challenge.rw_dm0098_02
end Mine
open Mine
theorem PySem.Challenge.cw_dm0098_02_holds : PySem.Challenge.rw_dm0098_02.Holds :=
  Mine.hd (Mine.link Mine.NN Mine.NN_nodup rfl rfl fun c hq hl => by
  have b_abs : c.mg (Str.ofString "abs") = none := free_of hq hl (by decide +kernel)
  have b_divmod : c.mg (Str.ofString "divmod") = none := free_of hq hl (by decide +kernel)
  have b_len : c.mg (Str.ofString "len") = none := free_of hq hl (by decide +kernel)
  have b_list : c.mg (Str.ofString "list") = none := free_of hq hl (by decide +kernel)
  have b_min : c.mg (Str.ofString "min") = none := free_of hq hl (by decide +kernel)
  have b_tuple : c.mg (Str.ofString "tuple") = none := free_of hq hl (by decide +kernel)
  have h__format_timetuple_and_zone := s__format_timetuple_and_zone c (mem_rec (i := 0) hq rfl)
  have h__law_length := s__law_length c (mem_rec (i := 1) hq rfl)
  have h__law_row := s__law_row c (mem_rec (i := 2) hq rfl) h__law_length b_divmod b_min
  have h__law_zone := s__law_zone c (mem_rec (i := 3) hq rfl) b_abs b_divmod
  have h__law_number := s__law_number c (mem_rec (i := 4) hq rfl)
  have h__law_instant := s__law_instant c (mem_rec (i := 5) hq rfl) h__law_length h__law_number
  have h_law := s_law c (mem_rec (i := 6) hq rfl) h__format_timetuple_and_zone h__law_instant h__law_row h__law_zone b_len b_list b_tuple
  exact ⟨3, _, by decide, h_law, fun ns a H hn ha => law_spec hn ha⟩)
