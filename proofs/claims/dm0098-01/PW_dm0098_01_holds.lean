import PyProof.Rows.All
import Wide.All
import OpenK.AllK
import Wide.FinOn
import Lean
import PySem.Challenge.RW_dm0098_01
open PySem PySem.W PyProof.Rows
set_option Elab.async false
set_option linter.unusedVariables false
namespace Mine

/-- neither the heap nor the row of generators ever shrinks -/
def Grown (s s' : Shared) : Prop := s.heap.objs.size ≤ s'.heap.objs.size ∧ s.gens.size ≤ s'.gens.size
theorem Grown.trans {a b d : Shared} (x : Grown a b) (y : Grown b d) : Grown a d := ⟨Nat.le_trans x.1 y.1, Nat.le_trans x.2 y.2⟩
theorem Grown.refl (s : Shared) : Grown s s := ⟨Nat.le_refl _, Nat.le_refl _⟩
theorem setGen_gens (s : Shared) (g : Nat) (x : GenState) : (s.setGen g x).gens.size = s.gens.size := by simp [Shared.setGen]
theorem setGen_heap (s : Shared) (g : Nat) (x : GenState) : (s.setGen g x).heap = s.heap := rfl

theorem runs_grown {M : Model} {Γ : Ctx} {p : Pos} {t : Sem Fin} {fs : List Frame} {s s' : Shared} {e : End} (h : Runs M Γ p t fs s e s') : Grown s s' := by
  induction h <;> simp only [Grown, setGen_gens, setGen_heap, Heap.size_push, Heap.size_after_update, Array.size_push] at * <;> omega
theorem wakes_grown {M : Model} {Γ : Ctx} {p : Pos} {g : Nat} {r : Resume} {s s' : Shared} {res : GenResult} (h : Wakes M Γ p g r s res s') : Grown s s' := by
  have back : ∀ {e₁ : End} {s₁ : Shared}, Grown (s.setGen g .running) s₁ → Grown s (s₁.setGen g e₁.genState) := by
    intro e₁ s₁ x
    simpa only [Grown, setGen_gens, setGen_heap] using x
  unfold Wakes at h
  split at h
  · exact h.elim
  · split at h
    · obtain ⟨e₁, s₁, hr, _, _, rfl⟩ := h; exact back (runs_grown hr)
    · rw [h.2]; exact .refl _
    · rw [h.2]; simp only [Grown, setGen_gens, setGen_heap]; exact ⟨Nat.le_refl _, Nat.le_refl _⟩
  · obtain ⟨e₁, s₁, hr, _, _, rfl⟩ := h; exact back (runs_grown hr)
  · rw [h.2]; exact .refl _
  · rw [h.2]; exact .refl _
theorem wp_grown {α : Type} (M : Model) (Γ : Ctx) (s₀ : Shared) (t : Sem α) : ∀ (Q : α → Pos → Shared → Prop) (E : Value → Pos → Shared → Prop) (p : Pos) (s : Shared), Grown s₀ s → Sem.wp M Γ t Q E p s →
    Sem.wp M Γ t (fun a p' s' => Grown s₀ s' ∧ Q a p' s') (fun e p' s' => Grown s₀ s' ∧ E e p' s') p s := by
  induction t with
  | pure a | raise a => intro Q E p s hn h; exact ⟨hn, h⟩
  | unsupported _ | finish _ | register _ _ | yield _ _ _ _ | fork _ _ | await _ _ _ _ _ => intro Q E p s _ h; exact h
  | rule _ k ih | point _ k ih => intro Q E p s hn h; exact ih () Q E p s hn h
  | «at» p' k ih => intro Q E p s hn h; exact ih () Q E p' s hn h
  | load a _ k ih | genState a k ih => intro Q E p s hn h; obtain ⟨o, ho, h⟩ := h; exact ⟨o, ho, ih _ Q E p s hn h⟩
  | update a _ f k ih => intro Q E p s hn h; exact ⟨h.1, ih () Q E p _ ⟨by simpa using hn.1, hn.2⟩ h.2⟩
  | loadIfAlive a k ih | ask k ih | handled a k ih | stack k ih | thread k ih => intro Q E p s hn h; exact ih _ Q E p s hn h
  | alloc o k ih => intro Q E p s hn h; exact ih _ Q E p _ ⟨by simpa using Nat.le_succ_of_le hn.1, hn.2⟩ h
  | fresh k ih | os _ _ k ih => intro Q E p s hn h; exact ih _ Q E p _ hn h
  | choose src m k ih => intro Q E p s hn h; exact ⟨h.1, ih _ Q E p _ hn h.2⟩
  | call c hd _ _ k ih => intro Q E p s hn h; obtain ⟨r, s', hr, h⟩ := h; exact ⟨r, s', hr, ih r Q E p s' (hn.trans (runs_grown hr)) h⟩
  | newGen c k ih => intro Q E p s hn h; exact ih _ Q E p _ ⟨hn.1, by simpa using Nat.le_succ_of_le hn.2⟩ h
  | resume g r _ k ih => intro Q E p s hn h; obtain ⟨res, s', hw, h⟩ := h; exact ⟨res, s', hw, ih res Q E p s' (hn.trans (wakes_grown hw)) h⟩

theorem wpAny_grow {α : Type} {M : Model} {A : Around} {s : Shared} {t : Sem α} {Q : α → Shared → Prop} {E : Value → Shared → Prop}
    (h : wpAny M A t (fun a s' => Grown s s' → Q a s') E s) : wpAny M A t Q E s :=
  fun Γ p hΓ => Sem.wp_mono M Γ t (fun _ _ _ x => x.2 x.1) (fun _ _ _ x => x.2) p s (wp_grown M Γ s t _ _ p s (.refl s) (h Γ p hΓ))
end Mine
open PySem PySem.W PyProof.Rows
set_option Elab.async false
namespace Mine

/-- plain values: what the law's own data are -/
inductive PV where
  | none
  | bool (b : Bool)
  | int (i : Int)
  | str (x : List Nat)
  | tup (xs : List PV)
  | ref (a : Nat)
  | rng (lo hi : Int)

/-- a list of the abstract heap: its items, and whether it may be written -/
structure LO where
  items : List PV
  own : Bool

abbrev AH := Nat → Option LO
abbrev AEnv := Nat → Option PV

def upd {α : Type} (f : Nat → Option α) (k : Nat) (v : α) : Nat → Option α := fun j => if j = k then some v else f j

theorem upd_same {α : Type} (f : Nat → Option α) (k : Nat) (v : α) : upd f k v k = some v := by simp [upd]
theorem upd_other {α : Type} (f : Nat → Option α) {k j : Nat} (v : α) (h : j ≠ k) : upd f k v j = f j := by simp [upd, h]

/-- an object that is never written: a tuple, a range -/
def Imm (h : Heap) (a : Addr) (o : Obj) : Prop := h.get? a = some o ∧ ((o.cls = .type "tuple" ∧ ∃ vs n, o.data = .seq vs n) ∨ (o.cls = .type "range" ∧ ∃ vs, o.data = .fields vs))

mutual
inductive VRel (h : Heap) : Value → PV → Prop
  | none : VRel h .none .none
  | bool (b : Bool) : VRel h (.bool b) (.bool b)
  | int (i : Int) (t : Tok) : VRel h (.int i t) (.int i)
  | str (x : List Nat) (t : Tok) : (∀ c ∈ x, c < 0x110000) → VRel h (.str ⟨x.toArray⟩ t) (.str x)
  | tup {a : Addr} {vs : List Value} {n : Nat} {ps : List PV} : IsT h a vs.toArray n → VAll h vs ps → VRel h (.ref a) (.tup ps)
  | ref (a : Addr) : VRel h (.ref a) (.ref a)
  | rng {a : Addr} {lo hi : Int} {t u v : Tok} : IsRange h a lo hi 1 t u v → VRel h (.ref a) (.rng lo hi)
inductive VAll (h : Heap) : List Value → List PV → Prop
  | nil : VAll h [] []
  | cons {v : Value} {p : PV} {vs : List Value} {ps : List PV} : VRel h v p → VAll h vs ps → VAll h (v :: vs) (p :: ps)
end

section
variable {h h' : Heap} (hk : ∀ a o, Imm h a o → h'.get? a = some o)
include hk
theorem VRel.mono {v : Value} {p : PV} (r : VRel h v p) : VRel h' v p :=
  VRel.rec (motive_1 := fun v p _ => VRel h' v p) (motive_2 := fun vs ps _ => VAll h' vs ps) .none .bool .int .str (fun ht _ hv => .tup (hk _ _ ⟨ht, .inl ⟨rfl, _, _, rfl⟩⟩) hv) .ref (fun hr => .rng (hk _ _ ⟨hr, .inr ⟨rfl, _, rfl⟩⟩)) .nil (fun _ _ hv hr => .cons hv hr) r
theorem VAll.mono {vs : List Value} {ps : List PV} (r : VAll h vs ps) : VAll h' vs ps :=
  VAll.rec (motive_1 := fun v p _ => VRel h' v p) (motive_2 := fun vs ps _ => VAll h' vs ps) .none .bool .int .str (fun ht _ hv => .tup (hk _ _ ⟨ht, .inl ⟨rfl, _, _, rfl⟩⟩) hv) .ref (fun hr => .rng (hk _ _ ⟨hr, .inr ⟨rfl, _, rfl⟩⟩)) .nil (fun _ _ hv hr => .cons hv hr) r
end

theorem VAll.length {h : Heap} : ∀ {vs : List Value} {ps : List PV}, VAll h vs ps → vs.length = ps.length
  | _, _, .nil => rfl
  | _, _, .cons _ hr => by simp [VAll.length hr]
theorem VAll.append {h : Heap} : ∀ {vs ws : List Value} {ps qs : List PV}, VAll h vs ps → VAll h ws qs → VAll h (vs ++ ws) (ps ++ qs)
  | _, _, _, _, .nil, k => k
  | _, _, _, _, .cons hv hr, k => .cons hv (VAll.append hr k)
theorem VAll.one {h : Heap} {v : Value} {p : PV} (x : VRel h v p) : VAll h [v] [p] := .cons x .nil
theorem VAll.get {h : Heap} : ∀ {vs : List Value} {ps : List PV} {k : Nat} {p : PV}, VAll h vs ps → ps[k]? = some p → ∃ v, vs[k]? = some v ∧ VRel h v p
  | _, _, _, _, .nil, e => by simp at e
  | _, _, 0, _, .cons hv _, e => by simp at e; subst e; exact ⟨_, rfl, hv⟩
  | _, _, k + 1, _, .cons _ hr, e => by
    obtain ⟨v, h1, h2⟩ := VAll.get (k := k) hr (by simpa using e)
    exact ⟨v, by simpa using h1, h2⟩
theorem VAll.set {h : Heap} {v : Value} {p : PV} (x : VRel h v p) : ∀ {vs : List Value} {ps : List PV} (k : Nat), VAll h vs ps → VAll h (vs.set k v) (ps.set k p)
  | _, _, _, .nil => by simpa using VAll.nil
  | _, _, 0, .cons _ hr => by simpa using VAll.cons x hr
  | _, _, k + 1, .cons hv hr => by simpa using VAll.cons hv (VAll.set x k hr)
/-- the concrete heap bears the abstract one over the base -/
structure HR (base : Heap) (H : AH) (h : Heap) : Prop where
  keep : ∀ b o, base.get? b = some o → h.get? b = some o
  list : ∀ a x, H a = some x → ∃ vs n, IsL h a vs n ∧ VAll h vs.toList x.items
  new : ∀ a x, H a = some x → x.own = true → base.get? a = none

structure St (base : Heap) (H : AH) (s : Shared) : Prop where
  hr : HR base H s.heap
  bare : AllBare s.gens

/-- what a step leaves as it was: all but the writable lists, and what X (addresses) and Y (generators) free -/
structure Ext (X Y : Nat → Prop) (H : AH) (s : Shared) (H' : AH) (s' : Shared) : Prop where
  keep : ∀ a o, s.heap.get? a = some o → ¬ X a → (∀ x, H a = some x → x.own = false) → s'.heap.get? a = some o
  size : s.heap.objs.size ≤ s'.heap.objs.size
  dom : ∀ a x, H' a = some x → (∃ y, H a = some y ∧ y.own = x.own) ∨ s.heap.objs.size ≤ a
  gens : ∀ i g, s.gens[i]? = some g → ¬ Y i → s'.gens[i]? = some g
  gsize : s.gens.size ≤ s'.gens.size
  os : s'.os = s.os

abbrev No : Nat → Prop := fun _ => False

theorem Ext.refl {X Y H s} : Ext X Y H s H s := ⟨fun _ _ h _ _ => h, Nat.le_refl _, fun _ x h => .inl ⟨x, h, rfl⟩, fun _ _ h _ => h, Nat.le_refl _, rfl⟩
theorem Ext.trans {X Y H s H' s' H'' s''} (e : Ext X Y H s H' s') (f : Ext X Y H' s' H'' s'') : Ext X Y H s H'' s'' where
  keep a o h hx hn := by
    refine f.keep a o (e.keep a o h hx hn) hx (fun x hx' => ?_)
    rcases e.dom a x hx' with ⟨y, hy, e1⟩ | h0
    · rw [← e1]; exact hn y hy
    · exact absurd (Heap.lt_size h) (Nat.not_lt.mpr h0)
  size := Nat.le_trans e.size f.size
  dom a x hx := by
    rcases f.dom a x hx with ⟨y, hy, e1⟩ | h0
    · rcases e.dom a y hy with ⟨z, hz, e2⟩ | h1
      · exact .inl ⟨z, hz, e2.trans e1⟩
      · exact .inr h1
    · exact .inr (Nat.le_trans e.size h0)
  gens i g h hy := f.gens i g (e.gens i g h hy) hy
  gsize := Nat.le_trans e.gsize f.gsize
  os := f.os.trans e.os
theorem Ext.mono {X Y X' Y' : Nat → Prop} {H s H' s'} (e : Ext X Y H s H' s') (hX : ∀ a, X a → X' a) (hY : ∀ a, Y a → Y' a) : Ext X' Y' H s H' s' :=
  ⟨fun a o h hx hn => e.keep a o h (fun q => hx (hX a q)) hn, e.size, e.dom, fun i g h hy => e.gens i g h (fun q => hy (hY i q)), e.gsize, e.os⟩
theorem Ext.of_no {X Y : Nat → Prop} {H s H' s'} (e : Ext No No H s H' s') : Ext X Y H s H' s' := e.mono (fun _ h => h.elim) (fun _ h => h.elim)
/-- what is new since s may be freed -/
theorem Ext.then_new {X Y X' Y' : Nat → Prop} {H s H' s' H'' s''} (e : Ext X Y H s H' s') (f : Ext X' Y' H' s' H'' s'') (hX : ∀ a, X' a → X a ∨ s.heap.objs.size ≤ a) (hY : ∀ i, Y' i → Y i ∨ s.gens.size ≤ i) : Ext X Y H s H'' s'' where
  keep a o h hx hn := by
    refine f.keep a o (e.keep a o h hx hn) (fun q => ?_) (fun x hx' => ?_)
    · rcases hX a q with q | q
      · exact hx q
      · exact absurd (Heap.lt_size h) (Nat.not_lt.mpr q)
    · rcases e.dom a x hx' with ⟨y, hy, e1⟩ | h0
      · rw [← e1]; exact hn y hy
      · exact absurd (Heap.lt_size h) (Nat.not_lt.mpr h0)
  size := Nat.le_trans e.size f.size
  dom a x hx := by
    rcases f.dom a x hx with ⟨y, hy, e1⟩ | h0
    · rcases e.dom a y hy with ⟨z, hz, e2⟩ | h1
      · exact .inl ⟨z, hz, e2.trans e1⟩
      · exact .inr h1
    · exact .inr (Nat.le_trans e.size h0)
  gens i g h hy := by
    refine f.gens i g (e.gens i g h hy) (fun q => ?_)
    rcases hY i q with q | q
    · exact hy q
    · have := (Array.getElem?_eq_some_iff.mp h).1; omega
  gsize := Nat.le_trans e.gsize f.gsize
  os := f.os.trans e.os

section
variable {base : Heap} {X Y : Nat → Prop} {H H' : AH} {s s' : Shared}

/-- an object that is no list stays -/
theorem St.stay (S : St base H s) (e : Ext X Y H s H' s') {a : Addr} {o : Obj} (h : s.heap.get? a = some o) (hx : ¬ X a) (hc : o.cls ≠ .type "list") : s'.heap.get? a = some o := by
  refine e.keep a o h hx fun x hx' => ?_
  obtain ⟨vs, n, hl, _⟩ := S.hr.list a x hx'
  rw [show s.heap.get? a = _ from hl] at h
  cases h
  exact absurd rfl hc
theorem St.stayI (S : St base H s) (e : Ext X Y H s H' s') {a : Addr} {o : Obj} (h : Imm s.heap a o) (hx : ¬ X a) : s'.heap.get? a = some o :=
  S.stay e h.1 hx (by rcases h.2 with q | q <;> rw [q.1] <;> simp)
theorem VRel.ext {v : Value} {p : PV} (x : VRel s.heap v p) (S : St base H s) (e : Ext X Y H s H' s') (hX : ∀ a o, Imm s.heap a o → ¬ X a) : VRel s'.heap v p :=
  x.mono fun a o h => S.stayI e h (hX a o h)
theorem VAll.ext {v : List Value} {p : List PV} (x : VAll s.heap v p) (S : St base H s) (e : Ext X Y H s H' s') (hX : ∀ a o, Imm s.heap a o → ¬ X a) : VAll s'.heap v p :=
  x.mono fun a o h => S.stayI e h (hX a o h)
theorem VRel.ext0 {v : Value} {p : PV} (x : VRel s.heap v p) (S : St base H s) (e : Ext No No H s H' s') : VRel s'.heap v p := x.ext S e fun _ _ _ h => h
theorem VAll.ext0 {v : List Value} {p : List PV} (x : VAll s.heap v p) (S : St base H s) (e : Ext No No H s H' s') : VAll s'.heap v p := x.ext S e fun _ _ _ h => h
end

/-- the frame bears the abstract one: N numbers the names -/
def Holds (env : Env) (h : Heap) (m : Str → Option Value) (x : Str) (v : Value) : Prop :=
  (env.kindOf x = some .local ∧ m x = some v) ∨ ((env.kindOf x = some .cell ∨ env.kindOf x = some .free) ∧ ∃ c, env.cells.lookup x = some c ∧ h.IsCell c (some v))

structure ER (base : Heap) (N : List Str) (env : Env) (ρ : AEnv) (h : Heap) : Prop where
  names : ∃ m, h.Ns env.locals m ∧ ∀ k p, ρ k = some p → ∃ x v, N[k]? = some x ∧ VRel h v p ∧ Holds env h m x v
  cells : ∀ x c, env.cells.lookup x = some c → ∃ v, h.IsCell c v
  apart : env.cells.Pairwise fun x y => x.2 ≠ y.2
  new : base.get? env.locals = none
  cnew : ∀ x c, env.cells.lookup x = some c → base.get? c = none

theorem ns_no_list {h : Heap} {a : Addr} {m : Str → Option Value} (hn : h.Ns a m) : ∀ vs n, ¬ IsL h a vs n := by
  intro vs n hl
  obtain ⟨o, es, ep, ho, hd, _⟩ := hn
  rw [show h.get? a = _ from hl] at ho; cases ho; cases hd
theorem cell_no_list {h : Heap} {a : Addr} {v : Option Value} (hn : h.IsCell a v) : ∀ vs n, ¬ IsL h a vs n := by
  intro vs n hl
  obtain ⟨o, ho, hd⟩ := hn
  rw [show h.get? a = _ from hl] at ho; cases ho; cases hd

section
variable {base : Heap} {N : List Str} {env : Env} {ρ : AEnv} {X Y : Nat → Prop} {H H' : AH} {s s' : Shared}
theorem St.stay' (S : St base H s) (e : Ext X Y H s H' s') {a : Addr} {o : Obj} (h : s.heap.get? a = some o) (hx : ¬ X a) (hl : ∀ vs n, ¬ IsL s.heap a vs n) : s'.heap.get? a = some o := by
  refine e.keep a o h hx fun x hx' => ?_
  obtain ⟨vs, n, hl', _⟩ := S.hr.list a x hx'
  exact absurd hl' (hl vs n)
theorem ns_stays (S : St base H s) (e : Ext X Y H s H' s') {a : Addr} {m : Str → Option Value} (h : s.heap.Ns a m) (hx : ¬ X a) : s'.heap.Ns a m := by
  obtain ⟨o, es, ep, ho, r⟩ := id h
  exact ⟨o, es, ep, S.stay' e ho hx (ns_no_list h), r⟩
theorem cell_stays (S : St base H s) (e : Ext X Y H s H' s') {a : Addr} {v : Option Value} (h : s.heap.IsCell a v) (hx : ¬ X a) : s'.heap.IsCell a v := by
  obtain ⟨o, ho, r⟩ := id h
  exact ⟨o, S.stay' e ho hx (cell_no_list h), r⟩
theorem ER.ext (R : ER base N env ρ s.heap) (S : St base H s) (e : Ext X Y H s H' s') (hX : ∀ a o, Imm s.heap a o → ¬ X a) (hL : ¬ X env.locals) (hC : ∀ x c, env.cells.lookup x = some c → ¬ X c) : ER base N env ρ s'.heap where
  names := by
    obtain ⟨m, hn, hm⟩ := R.names
    refine ⟨m, ns_stays S e hn hL, fun k p hk => ?_⟩
    obtain ⟨x, v, h1, h2, h3⟩ := hm k p hk
    refine ⟨x, v, h1, h2.ext S e hX, ?_⟩
    rcases h3 with h3 | ⟨h3, c, h4, h5⟩
    · exact .inl h3
    · exact .inr ⟨h3, c, h4, cell_stays S e h5 (hC x c h4)⟩
  cells x c h := let ⟨v, hv⟩ := R.cells x c h; ⟨v, cell_stays S e hv (hC x c h)⟩
  apart := R.apart
  new := R.new
  cnew := R.cnew
theorem ER.ext' (R : ER base N env ρ s.heap) (S : St base H s) (e : Ext X Y H s H' s') (hX : ∀ a o, Imm s.heap a o → s'.heap.get? a = some o) (hL : ¬ X env.locals) (hC : ∀ x c, env.cells.lookup x = some c → ¬ X c) : ER base N env ρ s'.heap where
  names := by
    obtain ⟨m, hn, hm⟩ := R.names
    refine ⟨m, ns_stays S e hn hL, fun k p hk => ?_⟩
    obtain ⟨x, v, h1, h2, h3⟩ := hm k p hk
    refine ⟨x, v, h1, h2.mono hX, ?_⟩
    rcases h3 with h3 | ⟨h3, c, h4, h5⟩
    · exact .inl h3
    · exact .inr ⟨h3, c, h4, cell_stays S e h5 (hC x c h4)⟩
  cells x c h := let ⟨v, hv⟩ := R.cells x c h; ⟨v, cell_stays S e hv (hC x c h)⟩
  apart := R.apart
  new := R.new
  cnew := R.cnew
theorem ER.ext0 (R : ER base N env ρ s.heap) (S : St base H s) (e : Ext No No H s H' s') : ER base N env ρ s'.heap := R.ext S e (fun _ _ _ h => h) (fun h => h) (fun _ _ _ h => h)
end

/-- the room around: depth and C units for n more levels -/
structure AOk (n : Nat) (A : Around) : Prop where
  handled : A.handled = none
  depth : A.depth + n ≤ 900
  units : A.units + 10 * n ≤ 9000

theorem AOk.of_le {n m : Nat} {A : Around} (h : AOk n A) (hm : m ≤ n) : AOk m A := ⟨h.handled, by have := h.depth; omega, by have := h.units; omega⟩
theorem AOk.deeper {n : Nat} {A : Around} (h : AOk (n + 1) A) (env : Env) : AOk n (A.deeper env) := ⟨h.handled, by have := h.depth; show A.depth + 1 + n ≤ 900; omega, by have := h.units; show A.units + 3 + 10 * n ≤ 9000; omega⟩
/-- a block's names, and those that it has from around -/
structure SE extends Scope where
  caps : List Str
  top : Bool

structure EOk0 (sc : SE) (env : Env) : Prop where
  scope : env.scope = sc.toScope
  kind : sc.kind = .function
  globals : env.globals = mainGlobals
  builtins : env.builtins = builtinsNs
  cells : ∀ x, sc.names.lookup x = some .cell → ∃ a, env.cells.lookup x = some a ∧ (x ∉ sc.caps → env.locals < a)
/-- at the law's own place of the run its frame is the only one -/
structure EOk (sc : SE) (A : Around) (env : Env) : Prop extends EOk0 sc env where
  fr : sc.top = true → A.frames = some [env] ∧ env.frame = some env.locals
theorem EOk0.kindOf {sc env} (h : EOk0 sc env) (x : Str) : env.kindOf x = sc.names.lookup x := by unfold Env.kindOf; rw [h.scope]
theorem EOk0.skind {sc env} (h : EOk0 sc env) : env.scope.kind = .function := by rw [h.scope]; exact h.kind

abbrev AE := (PV → AH → Prop) → AEnv → AH → Prop
abbrev AT := (Bool → AH → Prop) → AEnv → AH → Prop
abbrev AL := (List PV → AH → Prop) → AEnv → AH → Prop
inductive Fl where
  | next | brk | cont
  | ret (p : PV)
abbrev AS := (Fl → AEnv → AH → Prop) → AEnv → AH → Prop

inductive FRel (h : Heap) : Flow → Fl → Prop
  | next : FRel h .next .next
  | brk : FRel h .brk .brk
  | cont : FRel h .cont .cont
  | ret {v : Value} {p : PV} : VRel h v p → FRel h (.ret v) (.ret p)

/-- the run's own constants -/
structure Cx where
  prog : Program
  w : World
  base : Heap
  q : Program
  loose : List Str
  mean : ExcName → Option Value
  mg : Str → Option Value
  mb : Str → Option Value
  top : Top q loose mean mg mb base
  N : List Str
  nodup : N.Nodup

/-- a step's end: a value borne, the heap borne, all else as it was -/
def Res (c : Cx) (H : AH) (s : Shared) (Q : PV → AH → Prop) (v : Value) (s' : Shared) : Prop :=
  ∃ p H', VRel s'.heap v p ∧ St c.base H' s' ∧ Ext No No H s H' s' ∧ Q p H'
def ResL (c : Cx) (H : AH) (s : Shared) (Q : List PV → AH → Prop) (vs : List Value) (s' : Shared) : Prop :=
  ∃ ps H', VAll s'.heap vs ps ∧ St c.base H' s' ∧ Ext No No H s H' s' ∧ Q ps H'
def ResB (c : Cx) (H : AH) (s : Shared) (Q : Bool → AH → Prop) (b : Bool) (s' : Shared) : Prop :=
  ∃ H', St c.base H' s' ∧ Ext No No H s H' s' ∧ Q b H'
def Own (env : Env) (a : Nat) : Prop := a = env.locals ∨ (env.locals < a ∧ ∃ x, env.cells.lookup x = some a)
def ResS (c : Cx) (env : Env) (H : AH) (s : Shared) (Q : Fl → AEnv → AH → Prop) (f : Flow) (s' : Shared) : Prop :=
  ∃ fl ρ' H', FRel s'.heap f fl ∧ ER c.base c.N env ρ' s'.heap ∧ St c.base H' s' ∧ Ext (Own env) No H s H' s' ∧ Q fl ρ' H'

theorem Res.elim {c : Cx} {H : AH} {s : Shared} {Q : PV → AH → Prop} {v : Value} {s' : Shared} {P : Prop} (r : Res c H s Q v s') (k : ∀ p H', VRel s'.heap v p → St c.base H' s' → Ext No No H s H' s' → Q p H' → P) : P := Exists.elim r fun p r => Exists.elim r fun H' r => k p H' r.1 r.2.1 r.2.2.1 r.2.2.2
theorem ResL.elim {c : Cx} {H : AH} {s : Shared} {Q : List PV → AH → Prop} {v : List Value} {s' : Shared} {P : Prop} (r : ResL c H s Q v s') (k : ∀ p H', VAll s'.heap v p → St c.base H' s' → Ext No No H s H' s' → Q p H' → P) : P := Exists.elim r fun p r => Exists.elim r fun H' r => k p H' r.1 r.2.1 r.2.2.1 r.2.2.2
theorem ResB.elim {c : Cx} {H : AH} {s : Shared} {Q : Bool → AH → Prop} {v : Bool} {s' : Shared} {P : Prop} (r : ResB c H s Q v s') (k : ∀ H', St c.base H' s' → Ext No No H s H' s' → Q v H' → P) : P := Exists.elim r fun H' r => k H' r.1 r.2.1 r.2.2
theorem ResS.elim {c : Cx} {env : Env} {H : AH} {s : Shared} {Q : Fl → AEnv → AH → Prop} {f : Flow} {s' : Shared} {P : Prop} (r : ResS c env H s Q f s') (k : ∀ fl ρ' H', FRel s'.heap f fl → ER c.base c.N env ρ' s'.heap → St c.base H' s' → Ext (Own env) No H s H' s' → Q fl ρ' H' → P) : P := Exists.elim r fun fl r => Exists.elim r fun ρ' r => Exists.elim r fun H' r => k fl ρ' H' r.1 r.2.1 r.2.2.1 r.2.2.2.1 r.2.2.2.2
def SoundE (c : Cx) (n : Nat) (sc : SE) (e : Expr) (ae : AE) : Prop :=
  ∀ (A : Around) (env : Env) (ρ : AEnv) (H : AH) (s : Shared) (Q : PV → AH → Prop) (E : Value → Shared → Prop), AOk n A → EOk sc A env → ER c.base c.N env ρ s.heap → St c.base H s → ae Q ρ H →
    wpAny (model c.prog c.w) A (eval e env) (Res c H s Q) E s
def SoundL (c : Cx) (n : Nat) (sc : SE) (es : List Expr) (al : AL) : Prop :=
  ∀ (A : Around) (env : Env) (ρ : AEnv) (H : AH) (s : Shared) (Q : List PV → AH → Prop) (E : Value → Shared → Prop) (pos : Pos), AOk n A → EOk sc A env → ER c.base c.N env ρ s.heap → St c.base H s → al Q ρ H →
    wpAny (model c.prog c.w) A (spliced (backTo pos (starEach es env))) (ResL c H s Q) E s
def SoundT (c : Cx) (n : Nat) (sc : SE) (e : Expr) (a : AT) : Prop :=
  ∀ (A : Around) (env : Env) (ρ : AEnv) (H : AH) (s : Shared) (Q : Bool → AH → Prop) (E : Value → Shared → Prop), AOk n A → EOk sc A env → ER c.base c.N env ρ s.heap → St c.base H s → a Q ρ H →
    wpAny (model c.prog c.w) A (isTrue e env (eval e env)) (ResB c H s Q) E s
def SoundS (c : Cx) (n : Nat) (sc : SE) (st : Stmt) (a : AS) : Prop :=
  ∀ (A : Around) (env : Env) (ρ : AEnv) (H : AH) (s : Shared) (Q : Fl → AEnv → AH → Prop) (E : Value → Shared → Prop), AOk n A → EOk sc A env → ER c.base c.N env ρ s.heap → St c.base H s → a Q ρ H →
    wpAny (model c.prog c.w) A (exec st env) (ResS c env H s Q) E s
def SoundB (c : Cx) (n : Nat) (sc : SE) (sts : List Stmt) (a : AS) : Prop :=
  ∀ (A : Around) (env : Env) (ρ : AEnv) (H : AH) (s : Shared) (Q : Fl → AEnv → AH → Prop) (E : Value → Shared → Prop), AOk n A → EOk sc A env → ER c.base c.N env ρ s.heap → St c.base H s → a Q ρ H →
    wpAny (model c.prog c.w) A (execs sts env) (ResS c env H s Q) E s
end Mine
open PySem PySem.W PyProof.Rows
set_option Elab.async false
namespace Mine

section
variable {base : Heap} {X Y : Nat → Prop} {H H' : AH} {s s' : Shared}

theorem St.tok (S : St base H s) (tk : Nat) : St base H { s with toks := tk } := ⟨S.hr, S.bare⟩
theorem Ext.tok (tk : Nat) : Ext X Y H s H { s with toks := tk } := ⟨fun _ _ h _ _ => h, Nat.le_refl _, fun _ x h => .inl ⟨x, h, rfl⟩, fun _ _ h _ => h, Nat.le_refl _, rfl⟩

theorem St.lt (S : St base H s) {a : Nat} {x : LO} (h : H a = some x) : a < s.heap.objs.size := by
  obtain ⟨vs, n, hl, _⟩ := S.hr.list a x h
  exact Heap.lt_size hl
theorem St.fresh (S : St base H s) {a : Nat} (h : s.heap.objs.size ≤ a) : H a = none := by
  cases hq : H a with
  | none => rfl
  | some x => exact absurd (S.lt hq) (Nat.not_lt.mpr h)
theorem St.bsize (S : St base H s) {a : Nat} (h : s.heap.objs.size ≤ a) : base.get? a = none := by
  cases hq : base.get? a with
  | none => rfl
  | some o => exact absurd (Heap.lt_size (S.hr.keep a o hq)) (Nat.not_lt.mpr h)

/-- the heap changed only at X, where nothing of ours lies -/
theorem St.of_keep {h' : Heap} {tk : Nat} (S : St base H s) (hk : ∀ b o, ¬ X b → s.heap.get? b = some o → h'.get? b = some o)
    (hB : ∀ b, X b → base.get? b = none) (hL : ∀ b, X b → ∀ vs n, ¬ IsL s.heap b vs n) (hT : ∀ b, X b → ∀ o, ¬ Imm s.heap b o) : St base H { s with heap := h', toks := tk } where
  hr := {
    keep := fun b o h => hk b o (fun q => by rw [hB b q] at h; cases h) (S.hr.keep b o h)
    list := fun a x h => by
      obtain ⟨vs, n, hl, hv⟩ := S.hr.list a x h
      exact ⟨vs, n, hk a _ (fun q => hL a q vs n hl) hl, hv.mono fun b o ht => hk b _ (fun q => hT b q o ht) ht.1⟩
    new := S.hr.new }
  bare := S.bare
theorem Ext.of_keep {h' : Heap} {tk : Nat} (hk : ∀ b o, ¬ X b → s.heap.get? b = some o → h'.get? b = some o) (hz : s.heap.objs.size ≤ h'.objs.size) : Ext X Y H s H { s with heap := h', toks := tk } :=
  ⟨fun a o h hx _ => hk a o hx h, hz, fun _ x h => .inl ⟨x, h, rfl⟩, fun _ _ h _ => h, Nat.le_refl _, rfl⟩

theorem St.push (S : St base H s) (o : Obj) : St base H { s with heap := s.heap.push o } :=
  S.of_keep (X := No) (tk := s.toks) (fun _ _ _ h => Heap.get?_push_of_some o h) (fun _ h => h.elim) (fun _ h => h.elim) (fun _ h => h.elim)
theorem Ext.push (o : Obj) : Ext X Y H s H { s with heap := s.heap.push o } :=
  Ext.of_keep (tk := s.toks) (fun _ _ _ h => Heap.get?_push_of_some o h) (by simp)

theorem St.newList (S : St base H s) {vs : Array Value} {ps : List PV} (hv : VAll s.heap vs.toList ps) :
    St base (upd H s.heap.objs.size ⟨ps, true⟩) { s with heap := s.heap.push { cls := .type "list", data := .seq vs } } where
  hr := {
    keep := fun b o h => Heap.get?_push_of_some _ (S.hr.keep b o h)
    list := fun a x h => by
      by_cases ha : a = s.heap.objs.size
      · subst ha
        rw [upd_same] at h; cases h
        exact ⟨vs, 0, IsL.new _ _, hv.mono fun b o ht => Heap.get?_push_of_some _ ht.1⟩
      · rw [upd_other _ _ ha] at h
        obtain ⟨ws, n, hl, hw⟩ := S.hr.list a x h
        exact ⟨ws, n, IsL.push hl _, hw.mono fun b o ht => Heap.get?_push_of_some _ ht.1⟩
    new := fun a x h ho => by
      by_cases ha : a = s.heap.objs.size
      · subst ha; exact S.bsize (Nat.le_refl _)
      · rw [upd_other _ _ ha] at h; exact S.hr.new a x h ho }
  bare := S.bare
theorem Ext.newList (o : Obj) (x : LO) : Ext X Y H s (upd H s.heap.objs.size x) { s with heap := s.heap.push o } where
  keep a o' h _ _ := Heap.get?_push_of_some _ h
  size := by simp
  dom a y h := by
    by_cases ha : a = s.heap.objs.size
    · exact .inr (by omega)
    · rw [upd_other _ _ ha] at h; exact .inl ⟨y, h, rfl⟩
  gens _ _ h _ := h
  gsize := Nat.le_refl _
  os := rfl

theorem St.setList (S : St base H s) {a : Addr} {x : LO} {vs' : Array Value} {n' : Nat} {ps : List PV} {h' : Heap} {tk : Nat} (hx : H a = some x) (ho : x.own = true) (hl : IsL h' a vs' n') (hs : Heap.SameBut a s.heap h') (hv : VAll s.heap vs'.toList ps) :
    St base (upd H a ⟨ps, true⟩) { s with heap := h', toks := tk } := by
  have hT : ∀ b o, Imm s.heap b o → h'.get? b = some o := fun b o ht => by
    have : b ≠ a := by
      rintro rfl
      obtain ⟨us, m, hl', _⟩ := S.hr.list b x hx
      have e := hl'.symm.trans ht.1
      cases e
      rcases ht.2 with q | q <;> simp at q
    exact (hs.2 b this).trans ht.1
  refine ⟨⟨fun b o h => ?_, fun b y h => ?_, fun b y h hy => ?_⟩, S.bare⟩
  · have : b ≠ a := by rintro rfl; rw [S.hr.new b x hx ho] at h; cases h
    exact (hs.2 b this).trans (S.hr.keep b o h)
  · by_cases hb : b = a
    · subst hb; rw [upd_same] at h; cases h; exact ⟨vs', n', hl, hv.mono hT⟩
    · rw [upd_other _ _ hb] at h
      obtain ⟨ws, n, hl', hw⟩ := S.hr.list b y h
      exact ⟨ws, n, (hs.2 b hb).trans hl', hw.mono hT⟩
  · by_cases hb : b = a
    · subst hb; exact S.hr.new b x hx ho
    · rw [upd_other _ _ hb] at h; exact S.hr.new b y h hy
theorem Ext.setList {a : Addr} {x : LO} {ps : List PV} {h' : Heap} {tk : Nat} (hx : H a = some x) (ho : x.own = true) (hs : Heap.SameBut a s.heap h') : Ext X Y H s (upd H a ⟨ps, true⟩) { s with heap := h', toks := tk } where
  keep b o h _ hn := by
    have : b ≠ a := by rintro rfl; rw [hn x hx] at ho; cases ho
    exact (hs.2 b this).trans h
  size := Nat.le_of_eq hs.1.symm
  dom b y h := by
    by_cases hb : b = a
    · subst hb; rw [upd_same] at h; cases h; exact .inl ⟨x, hx, ho⟩
    · rw [upd_other _ _ hb] at h; exact .inl ⟨y, h, rfl⟩
  gens _ _ h _ := h
  gsize := Nat.le_refl _
  os := rfl
end

section
variable {c : Cx} {H : AH} {s : Shared} {Q : PV → AH → Prop}
theorem res_tok {v : Value} {p : PV} {tk : Nat} (S : St c.base H s) (hv : VRel s.heap v p) (hq : Q p H) : Res c H s Q v { s with toks := tk } := ⟨p, H, hv, S.tok tk, Ext.tok tk, hq⟩
theorem res_pure {v : Value} {p : PV} (S : St c.base H s) (hv : VRel s.heap v p) (hq : Q p H) : Res c H s Q v s := ⟨p, H, hv, S, Ext.refl, hq⟩
theorem Res.trans {H' : AH} {s' : Shared} {v : Value} {s'' : Shared} (e : Ext No No H s H' s') (r : Res c H' s' Q v s'') : Res c H s Q v s'' :=
  let ⟨p, H'', h1, h2, h3, h4⟩ := r; ⟨p, H'', h1, h2, e.trans h3, h4⟩
theorem ResB.trans {H' : AH} {s' : Shared} {Q : Bool → AH → Prop} {v : Bool} {s'' : Shared} (e : Ext No No H s H' s') (r : ResB c H' s' Q v s'') : ResB c H s Q v s'' :=
  let ⟨H'', h2, h3, h4⟩ := r; ⟨H'', h2, e.trans h3, h4⟩
theorem res_tuple {vs : List Value} {ps : List PV} (S : St c.base H s) (hv : VAll s.heap vs ps) (hq : Q (.tup ps) H) : Res c H s Q (.ref s.heap.objs.size) { s with heap := s.heap.push { cls := .type "tuple", data := .seq vs.toArray } } :=
  ⟨.tup ps, H, .tup (IsT.new _ _) (hv.mono fun b o ht => Heap.get?_push_of_some _ ht.1), S.push _, Ext.push _, hq⟩
theorem res_list {vs : Array Value} {ps : List PV} (S : St c.base H s) (hv : VAll s.heap vs.toList ps) (hq : ∀ a, H a = none → Q (.ref a) (upd H a ⟨ps, true⟩)) : Res c H s Q (.ref s.heap.objs.size) { s with heap := s.heap.push { cls := .type "list", data := .seq vs } } :=
  ⟨.ref _, _, .ref _, S.newList hv, Ext.newList _ _, hq _ (S.fresh (Nat.le_refl _))⟩
end

/-- a new list -/
def newL (ps : List PV) (Q : PV → AH → Prop) (H : AH) : Prop := ∀ a, H a = none → Q (.ref a) (upd H a ⟨ps, true⟩)

-- names, constants
def aVar (k : Nat) : AE := fun Q ρ H => match ρ k with | some p => Q p H | none => False
def aCst (p : PV) : AE := fun Q _ H => Q p H

section
variable {c : Cx} {n : Nat} {sc : SE}
theorem load_var {A : Around} {env : Env} {ρ : AEnv} {s : Shared} {Q : Value → Shared → Prop} {E : Value → Shared → Prop} {x : Str} {k : Nat} {p : PV} (he : EOk sc A env) (R : ER c.base c.N env ρ s.heap) (hx : c.N[k]? = some x) (hp : ρ k = some p)
    (h : ∀ v, VRel s.heap v p → Q v s) (hn : (x == ("__classdict__" : Str)) = false) : wpAny (model c.prog c.w) A (loadName env x) Q E s := by
  obtain ⟨m, hm, hk⟩ := R.names
  obtain ⟨y, v, h1, h2, h3⟩ := hk k p hp
  rw [hx] at h1; cases h1
  rcases h3 with ⟨k1, k2⟩ | ⟨k1 | k1, cc, k2, k3⟩
  · exact wpAny_loadName_local he.skind k1 hm k2 (h v h2)
  · exact wpAny_loadName_cell he.skind k1 k2 k3 (h v h2)
  · exact wpAny_loadName_free he.skind k1 k2 k3 (h v h2) hn

theorem sound_var {x : Str} {pos : Pos} {k : Nat} (hx : c.N[k]? = some x) (hd : (x == ("__debug__" : Str)) = false) (hn : (x == ("__classdict__" : Str)) = false) : SoundE c n sc (.Name x pos) (aVar k) := by
  intro A env ρ H s Q E hA he R S h
  unfold aVar at h
  cases hp : ρ k with
  | none => rw [hp] at h; exact h.elim
  | some p =>
    rw [hp] at h
    exact wpAny_Name (load_var he R hx hp (fun v hv => res_pure S hv h) hn) hd

theorem sound_none {k : Nat} {pos : Pos} : SoundE c n sc (.Constant .none k pos) (aCst .none) := fun _ _ _ _ _ _ _ _ _ _ S h => wpAny_Constant_none (res_pure S .none h)
theorem sound_bool {b : Bool} {k : Nat} {pos : Pos} : SoundE c n sc (.Constant (.bool b) k pos) (aCst (.bool b)) := fun _ _ _ _ _ _ _ _ _ _ S h => wpAny_Constant_bool (res_pure S (.bool b) h)
theorem sound_int {i : Int} {k : Nat} {pos : Pos} : SoundE c n sc (.Constant (.int i) k pos) (aCst (.int i)) := fun _ _ _ _ _ _ _ _ _ _ S h => wpAny_Constant_int (res_tok S (.int i _) h)
theorem sound_str {x : Str} {y : List Nat} {k : Nat} {pos : Pos} (hx : x.cps.toList = y) (hy : (y.all fun c => c < 0x110000) = true) : SoundE c n sc (.Constant (.str x) k pos) (aCst (.str y)) := by
  intro A env ρ H s Q E hA he R S h
  refine wpAny_Constant_str (res_tok (p := .str y) S ?_ h)
  have : x = ⟨y.toArray⟩ := by subst hx; cases x; simp
  rw [this]
  exact .str y _ (by simpa using hy)

theorem seq1 {A : Around} {env : Env} {ρ : AEnv} {H : AH} {s : Shared} {E : Value → Shared → Prop} {l : Expr} {al : AE} {P : Value → Shared → Prop} {F : PV → AH → Prop} (hl : SoundE c n sc l al) (hA : AOk n A) (he : EOk sc A env) (R : ER c.base c.N env ρ s.heap) (S : St c.base H s)
    (h : al F ρ H) (k : ∀ va a H1 s1, VRel s1.heap va a → ER c.base c.N env ρ s1.heap → St c.base H1 s1 → Ext No No H s H1 s1 → F a H1 → P va s1) :
    wpAny (model c.prog c.w) A (eval l env) P E s :=
  wpAny_mono (hl A env ρ H s _ E hA he R S h) (fun va s1 rr => rr.elim fun a H1 h1 S1 e1 q1 => k va a H1 s1 h1 (R.ext0 S e1) S1 e1 q1) fun _ _ x => x
theorem seq2 {A : Around} {env : Env} {ρ : AEnv} {H : AH} {s : Shared} {E : Value → Shared → Prop} {l r : Expr} {al ar : AE} {P : Value → Value → Shared → Prop} {F : PV → PV → AH → Prop} (hl : SoundE c n sc l al) (hr : SoundE c n sc r ar) (hA : AOk n A) (he : EOk sc A env) (R : ER c.base c.N env ρ s.heap) (S : St c.base H s)
    (h : al (fun a H1 => ar (fun b H2 => F a b H2) ρ H1) ρ H)
    (k : ∀ va vb a b H2 s2, VRel s2.heap va a → VRel s2.heap vb b → ER c.base c.N env ρ s2.heap → St c.base H2 s2 → Ext No No H s H2 s2 → F a b H2 → P va vb s2) :
    wpAny (model c.prog c.w) A (eval l env) (fun va s1 => wpAny (model c.prog c.w) A (eval r env) (fun vb s2 => P va vb s2) E s1) E s :=
  seq1 hl hA he R S h fun va a _ s1 h1 R1 S1 e1 q1 => seq1 hr hA he R1 S1 q1 fun vb b H2 s2 h2 R2 S2 e2 q2 => k va vb a b H2 s2 (h1.ext0 S1 e2) h2 R2 S2 (e1.trans e2) q2

-- two-place operations
/-- what may be said of a two-place operation's value -/
def SoundOp2 (c : Cx) (n : Nat) (t : Value → Value → Sem Value) (f : PV → PV → (PV → AH → Prop) → AH → Prop) : Prop :=
  ∀ (A : Around) (H : AH) (s : Shared) (va vb : Value) (a b : PV) (Q : PV → AH → Prop) (E : Value → Shared → Prop), AOk n A → VRel s.heap va a → VRel s.heap vb b → St c.base H s → f a b Q H →
    wpAny (model c.prog c.w) A (t va vb) (Res c H s Q) E s
def SoundOp1 (c : Cx) (n : Nat) (t : Value → Sem Value) (f : PV → (PV → AH → Prop) → AH → Prop) : Prop :=
  ∀ (A : Around) (H : AH) (s : Shared) (va : Value) (a : PV) (Q : PV → AH → Prop) (E : Value → Shared → Prop), AOk n A → VRel s.heap va a → St c.base H s → f a Q H →
    wpAny (model c.prog c.w) A (t va) (Res c H s Q) E s

def aBin (f : PV → PV → (PV → AH → Prop) → AH → Prop) (l r : AE) : AE := fun Q ρ H => l (fun a H1 => r (fun b H2 => f a b Q H2) ρ H1) ρ H
def aUn (f : PV → (PV → AH → Prop) → AH → Prop) (l : AE) : AE := fun Q ρ H => l (fun a H1 => f a Q H1) ρ H

theorem sound_bin {l r : Expr} {op : Operator} {pos : Pos} {al ar : AE} {f} (ho : SoundOp2 c n (binaryOp op) f) (hl : SoundE c n sc l al) (hr : SoundE c n sc r ar) : SoundE c n sc (.BinOp l op r pos) (aBin f al ar) := by
  intro A env ρ H s Q E hA he R S h
  refine wpAny_BinOp (seq2 (F := fun a b H2 => f a b Q H2) hl hr hA he R S h ?_)
  intro va vb a b H2 s2 h1 h2 R2 S2 e2 q2
  exact wpAny_mono (ho A H2 s2 va vb a b Q E hA h1 h2 S2 q2) (fun _ _ r => r.trans e2) fun _ _ x => x
theorem sound_un {l : Expr} {op : UnaryOp} {pos : Pos} {al : AE} {f} (ho : SoundOp1 c n (unaryOp op) f) (hl : SoundE c n sc l al) : SoundE c n sc (.UnaryOp op l pos) (aUn f al) := by
  intro A env ρ H s Q E hA he R S h
  refine wpAny_UnaryOp (seq1 (F := fun a H2 => f a Q H2) hl hA he R S h ?_)
  intro va a H2 s2 h1 R2 S2 e2 q2
  exact wpAny_mono (ho A H2 s2 va a Q E hA h1 S2 q2) (fun _ _ r => r.trans e2) fun _ _ x => x

/-- a bound on a size -/
def szOk (k : Nat) : Prop := k ≤ 2 ^ 24

def opAdd (a b : PV) (Q : PV → AH → Prop) (H : AH) : Prop := match a, b with
  | .int x, .int y => Q (.int (x + y)) H
  | .str x, .str y => szOk (x.length + y.length) ∧ Q (.str (x ++ y)) H
  | .ref a, .ref b => (match H a, H b with | some x, some y => szOk (x.items.length + y.items.length) ∧ newL (x.items ++ y.items) Q H | _, _ => False)
  | _, _ => False
def opSub (a b : PV) (Q : PV → AH → Prop) (H : AH) : Prop := match a, b with
  | .int x, .int y => Q (.int (x - y)) H
  | _, _ => False
def opMul (a b : PV) (Q : PV → AH → Prop) (H : AH) : Prop := match a, b with
  | .int x, .int y => IntMulOk x y ∧ Q (.int (x * y)) H
  | .str x, .int k => (0 ≤ k ∧ k ≤ 1000 ∧ x.length ≤ 1000) ∧ Q (.str (List.replicate k.toNat x).flatten) H
  | _, _ => False
def opDiv (a b : PV) (Q : PV → AH → Prop) (H : AH) : Prop := match a, b with
  | .int x, .int y => (0 < y ∧ y < 1073741824) ∧ Q (.int (x / y)) H
  | _, _ => False
def opMod (a b : PV) (Q : PV → AH → Prop) (H : AH) : Prop := match a, b with
  | .int x, .int y => 0 < y ∧ Q (.int (x % y)) H
  | _, _ => False

theorem str_app (x y : List Nat) : (⟨x.toArray⟩ : Str) ++ (⟨y.toArray⟩ : Str) = ⟨(x ++ y).toArray⟩ := by
  show Str.mk (x.toArray ++ y.toArray) = _
  simp
theorem str_len (x : List Nat) : (⟨x.toArray⟩ : Str).length = x.length := by
  show x.toArray.size = _
  simp

theorem opAdd_elim {a b : PV} {Q : PV → AH → Prop} {H : AH} (h : opAdd a b Q H) : (∃ x y, a = .int x ∧ b = .int y ∧ Q (.int (x + y)) H) ∨ (∃ x y, a = .str x ∧ b = .str y ∧ szOk (x.length + y.length) ∧ Q (.str (x ++ y)) H) ∨ ∃ i j x y, a = .ref i ∧ b = .ref j ∧ H i = some x ∧ H j = some y ∧ szOk (x.items.length + y.items.length) ∧ newL (x.items ++ y.items) Q H := by
  unfold opAdd at h
  split at h
  · exact .inl ⟨_, _, rfl, rfl, h⟩
  · exact .inr (.inl ⟨_, _, rfl, rfl, h⟩)
  · split at h
    · rename_i e1 e2; exact .inr (.inr ⟨_, _, _, _, rfl, rfl, e1, e2, h⟩)
    · exact h.elim
  · exact h.elim
theorem op_add : SoundOp2 c n (binaryOp .Add) opAdd := by
  intro A H s va vb a b Q E hA h1 h2 S h
  rcases opAdd_elim h with ⟨x, y, rfl, rfl, h⟩ | ⟨x, y, rfl, rfl, h⟩ | ⟨i, j, x, y, rfl, rfl, ha, hb, h⟩
  · cases h1; cases h2; exact add_int (res_tok S (.int _ _) h)
  · cases h1 with
    | str _ t hx =>
    cases h2 with
    | str _ u hy =>
    refine add_str (fun t' tk => ?_) (by rw [str_len, str_len]; exact h.1)
    rw [str_app]
    exact res_tok S (.str _ _ (by simpa [or_imp, forall_and] using ⟨hx, hy⟩)) h.2
  · cases h1; cases h2
    obtain ⟨vs, k, hl, hv⟩ := S.hr.list i x ha
    obtain ⟨ws, k', hl', hv'⟩ := S.hr.list j y hb
    have l1 := hv.length
    have l2 := hv'.length
    refine PySem.P.add_list hl hl' (res_list S (by simpa using hv.append hv') h.2) ?_
    have := h.1; simp only [szOk] at this; rw [sizeLine_eq]
    simp at l1 l2; omega
theorem opSub_elim {a b : PV} {Q : PV → AH → Prop} {H : AH} (h : opSub a b Q H) : ∃ x y, a = .int x ∧ b = .int y ∧ Q (.int (x - y)) H := by
  unfold opSub at h
  split at h
  · exact ⟨_, _, rfl, rfl, h⟩
  · exact h.elim
theorem opMul_elim {a b : PV} {Q : PV → AH → Prop} {H : AH} (h : opMul a b Q H) : (∃ x y, a = .int x ∧ b = .int y ∧ IntMulOk x y ∧ Q (.int (x * y)) H) ∨ ∃ x k, a = .str x ∧ b = .int k ∧ (0 ≤ k ∧ k ≤ 1000 ∧ x.length ≤ 1000) ∧ Q (.str (List.replicate k.toNat x).flatten) H := by
  unfold opMul at h
  split at h
  · exact .inl ⟨_, _, rfl, rfl, h⟩
  · exact .inr ⟨_, _, rfl, rfl, h⟩
  · exact h.elim
theorem opDiv_elim {a b : PV} {Q : PV → AH → Prop} {H : AH} (h : opDiv a b Q H) : ∃ x y, a = .int x ∧ b = .int y ∧ (0 < y ∧ y < 1073741824) ∧ Q (.int (x / y)) H := by
  unfold opDiv at h
  split at h
  · exact ⟨_, _, rfl, rfl, h⟩
  · exact h.elim
theorem opMod_elim {a b : PV} {Q : PV → AH → Prop} {H : AH} (h : opMod a b Q H) : ∃ x y, a = .int x ∧ b = .int y ∧ 0 < y ∧ Q (.int (x % y)) H := by
  unfold opMod at h
  split at h
  · exact ⟨_, _, rfl, rfl, h⟩
  · exact h.elim
theorem op_sub : SoundOp2 c n (binaryOp .Sub) opSub := by
  intro A H s va vb a b Q E hA h1 h2 S h
  obtain ⟨x, y, rfl, rfl, h⟩ := opSub_elim h
  cases h1; cases h2
  exact sub_int (res_tok S (.int _ _) h)
theorem reps_flat (x : List Nat) : ∀ (k : Nat) (acc : Array Nat), ((List.replicate k x.toArray).foldl (· ++ ·) acc).toList = acc.toList ++ (List.replicate k x).flatten
  | 0, acc => by simp
  | k + 1, acc => by simp [List.replicate_succ, reps_flat x k]
theorem txt_mul (x : List Nat) {k : Int} (hk : 0 ≤ k) : Txt.mul ⟨x.toArray⟩ k = ⟨((List.replicate k.toNat x).flatten).toArray⟩ := by
  unfold Txt.mul
  split
  · have : k = 0 := by omega
    subst this; rfl
  · split
    · rename_i h1 h2
      rw [Bool.or_eq_true] at h2
      rcases h2 with h2 | h2
      · have : k = 1 := by simpa using h2
        subst this; simp
      · have : x = [] := by simpa [str_len] using h2
        subst this
        have : ∀ m, (List.replicate m ([] : List Nat)).flatten = [] := fun m => by induction m with | zero => rfl | succ m ih => simp [List.replicate_succ, ih]
        rw [this]
    · have := reps_flat x k.toNat #[]
      simp only [List.nil_append] at this
      rw [← this]
theorem op_mul : SoundOp2 c n (binaryOp .Mult) opMul := by
  intro A H s va vb a b Q E hA h1 h2 S h
  rcases opMul_elim h with ⟨x, y, rfl, rfl, h⟩ | ⟨x, k, rfl, rfl, ⟨k0, k1, k2⟩, h⟩
  · cases h1; cases h2; exact AutoIntOps.mul_0 (res_tok S (.int _ _) h.2) h.1
  · cases h1 with
    | str _ t hx =>
    cases h2
    refine SB.mul ⟨by rw [Bool.or_eq_false_iff]; exact ⟨decide_eq_false (by omega), decide_eq_false (by omega)⟩, fun h1 _ => ?_, fun h1 _ => ?_⟩ fun t' tk => ?_
    · rw [str_len]
      have : (1000 : Int) ≤ (2 ^ 63 - 1) / k := by
        rw [Int.le_ediv_iff_mul_le (by omega)]; omega
      omega
    · rw [str_len]
      unfold Builtin.Str.tooLong
      have : x.length * k.toNat ≤ 1000 * 1000 := Nat.mul_le_mul k2 (by omega)
      exact decide_eq_false (by rw [sizeLine_eq]; omega)
    · rw [txt_mul x k0]
      refine res_tok S (.str _ _ ?_) h
      intro ch hch
      obtain ⟨y, hy, hc⟩ := List.mem_flatten.mp hch
      rw [(List.mem_replicate.mp hy).2] at hc
      exact hx ch hc
theorem op_mod : SoundOp2 c n (binaryOp .Mod) opMod := by
  intro A H s va vb a b Q E hA h1 h2 S h
  obtain ⟨i, j, rfl, rfl, h⟩ := opMod_elim h
  cases h1; cases h2
  refine mod_int (by omega) ?_
  rw [Int.fmod_eq_emod_of_nonneg _ (by omega)]
  exact res_tok S (.int _ _) h.2
theorem op_div : SoundOp2 c n (binaryOp .FloorDiv) opDiv := by
  intro A H s va vb a b Q E hA h1 h2 S h
  obtain ⟨i, j, rfl, rfl, h⟩ := opDiv_elim h
  cases h1; cases h2
  refine floordiv_int (by omega) ?_ (.inl (PyProof.noPylong_small (by omega)))
  rw [Int.fdiv_eq_ediv_of_nonneg _ (by omega)]
  exact res_tok S (.int _ _) h.2
theorem op_neg : SoundOp1 c n (unaryOp .USub) (fun a Q H => match a with | .int x => Q (.int (-x)) H | _ => False) := by
  intro A H s va a Q E hA h1 S h
  cases h1 <;> simp only at h
  exact PyProof.Rows.neg_int (res_tok S (.int _ _) h)
end
end Mine
open PySem PySem.W PyProof.Rows
set_option Elab.async false
set_option linter.unusedVariables false
namespace Mine

-- comparisons
mutual
inductive Rd (H : AH) : Nat → PV → PyData → Prop
  | none (n : Nat) : Rd H n .none .none
  | bool (n : Nat) (b : Bool) : Rd H n (.bool b) (.bool b)
  | int (n : Nat) (i : Int) : Rd H n (.int i) (.int i)
  | str (n : Nat) (x : List Nat) : Rd H n (.str x) (.str ⟨x.toArray⟩)
  | tup {n : Nat} {ps : List PV} {ds : List PyData} : RdAll H n ps ds → Rd H (n + 1) (.tup ps) (.tuple ds)
  | ref {n : Nat} {a : Nat} {x : LO} {ds : List PyData} : H a = some x → RdAll H n x.items ds → Rd H (n + 1) (.ref a) (.list ds)
inductive RdAll (H : AH) : Nat → List PV → List PyData → Prop
  | nil (n : Nat) : RdAll H n [] []
  | cons {n : Nat} {p : PV} {d : PyData} {ps : List PV} {ds : List PyData} : Rd H n p d → RdAll H n ps ds → RdAll H n (p :: ps) (d :: ds)
end

/-- what a value reads as -/
def RdP (s : Shared) (n : Nat) (p : PV) (d : PyData) : Prop := ∀ v, VRel s.heap v p → (∃ as, Reads s.heap v d as) ∧ d.canLay0 = true ∧ d.depth ≤ n
def RdPs (s : Shared) (n : Nat) (ps : List PV) (ds : List PyData) : Prop := ∀ vs, VAll s.heap vs ps → (∃ as, ReadsAll s.heap vs ds as) ∧ PyData.canLayAll0 ds = true ∧ PyData.depthAll ds ≤ n
section
variable {base : Heap} {H : AH} {s : Shared}
theorem rp_none (n : Nat) : RdP s n .none .none := fun v hv => by cases hv; exact ⟨⟨_, .none⟩, rfl, Nat.zero_le _⟩
theorem rp_bool (n : Nat) (b : Bool) : RdP s n (.bool b) (.bool b) := fun v hv => by cases hv; exact ⟨⟨_, .bool b⟩, rfl, Nat.zero_le _⟩
theorem rp_int (n : Nat) (i : Int) : RdP s n (.int i) (.int i) := fun v hv => by cases hv; exact ⟨⟨_, .int i _⟩, rfl, Nat.zero_le _⟩
theorem rp_str (n : Nat) (x : List Nat) : RdP s n (.str x) (.str ⟨x.toArray⟩) := fun v hv => by
  cases hv with
  | str _ t hx =>
    refine ⟨⟨_, .str _ _⟩, ?_, Nat.zero_le _⟩
    simp only [PyData.canLay0, PyData.strOk]
    simpa using hx
theorem rp_tup {n : Nat} {ps : List PV} {ds : List PyData} (h : RdPs s n ps ds) : RdP s (n + 1) (.tup ps) (.tuple ds) := fun v hv => by
  cases hv with
  | tup ht hvs =>
    obtain ⟨⟨as, h1⟩, h2, h3⟩ := h _ hvs
    refine ⟨⟨_, .tuple ht rfl rfl (by simpa using h1)⟩, h2, ?_⟩
    simp only [PyData.depth]; omega
theorem rp_ref (S : St base H s) {n : Nat} {a : Nat} {x : LO} {ds : List PyData} (ha : H a = some x) (h : RdPs s n x.items ds) : RdP s (n + 1) (.ref a) (.list ds) := fun v hv => by
  cases hv with
  | ref a =>
    obtain ⟨vs, k, hl, hvs⟩ := S.hr.list _ _ ha
    obtain ⟨⟨as, h1⟩, h2, h3⟩ := h _ hvs
    refine ⟨⟨_, .list hl rfl rfl h1⟩, h2, ?_⟩
    simp only [PyData.depth]; omega
theorem rp_nil (n : Nat) : RdPs s n [] [] := fun vs hv => by cases hv; exact ⟨⟨_, .nil⟩, rfl, Nat.zero_le _⟩
theorem rp_cons {n : Nat} {p : PV} {d : PyData} {ps : List PV} {ds : List PyData} (h : RdP s n p d) (r : RdPs s n ps ds) : RdPs s n (p :: ps) (d :: ds) := fun vs hv => by
  cases hv with
  | cons h1 h2 =>
    obtain ⟨⟨as, k1⟩, k2, k3⟩ := h _ h1
    obtain ⟨⟨bs, m1⟩, m2, m3⟩ := r _ h2
    refine ⟨⟨_, .cons k1 m1⟩, ?_, ?_⟩
    · simp [PyData.canLayAll0, k2, m2]
    · simp only [PyData.depthAll]; omega
theorem Rd.reads (S : St base H s) {n : Nat} {p : PV} {d : PyData} (h : Rd H n p d) : RdP s n p d :=
  Rd.rec (motive_1 := fun n p d _ => RdP s n p d) (motive_2 := fun n ps ds _ => RdPs s n ps ds) rp_none rp_bool rp_int rp_str (fun _ h => rp_tup h) (fun ha _ h => rp_ref S ha h) rp_nil (fun _ _ h r => rp_cons h r) h
theorem RdAll.reads (S : St base H s) {n : Nat} {ps : List PV} {ds : List PyData} (h : RdAll H n ps ds) : RdPs s n ps ds :=
  RdAll.rec (motive_1 := fun n p d _ => RdP s n p d) (motive_2 := fun n ps ds _ => RdPs s n ps ds) rp_none rp_bool rp_int rp_str (fun _ h => rp_tup h) (fun ha _ h => rp_ref S ha h) rp_nil (fun _ _ h r => rp_cons h r) h
end

def cmpEq (a b : PV) (Q : Bool → AH → Prop) (H : AH) : Prop := match a, b with
  | .int x, .int y => Q (decide (x = y)) H
  | .str x, .str y => Q (decide (x = y)) H
  | .bool x, .bool y => Q (decide (x = y)) H
  | a, b => ∃ d e, Rd H 20 a d ∧ Rd H 20 b e ∧ Q (PyData.eqv d e) H
def occIn (y x : List Nat) : Bool := !(Builtin.Str.occurrences ⟨x.toArray⟩ ⟨y.toArray⟩ 0 x.length 1).isEmpty
def cmpIn (a b : PV) (Q : Bool → AH → Prop) (H : AH) : Prop := match b with
  | .str x => (match a with | .str y => Q (occIn y x) H | _ => False)
  | .tup ps => ∃ d ds, Rd H 20 a d ∧ RdAll H 20 ps ds ∧ Q (ds.any fun y => PyData.eqv y d) H
  | .ref l => (match H l with | some x => ∃ d ds, Rd H 20 a d ∧ RdAll H 20 x.items ds ∧ Q (ds.any fun y => PyData.eqv y d) H | none => False)
  | _ => False
def cmpIs (a b : PV) (Q : Bool → AH → Prop) (H : AH) : Prop := match a, b with
  | .none, .none => Q true H
  | _, .none => Q false H
  | .bool x, .bool y => Q (decide (x = y)) H
  | _, _ => False
def cmpLt (f : Int → Int → Bool) (a b : PV) (Q : Bool → AH → Prop) (H : AH) : Prop := match a, b with
  | .int x, .int y => Q (f x y) H
  | _, _ => False
def cmpOp (op : CmpOp) (a b : PV) (Q : Bool → AH → Prop) (H : AH) : Prop := match op with
  | .Eq => cmpEq a b Q H
  | .NotEq => cmpEq a b (fun r H => Q (!r) H) H
  | .Lt => cmpLt (fun x y => decide (x < y)) a b Q H
  | .LtE => cmpLt (fun x y => decide (x ≤ y)) a b Q H
  | .Gt => cmpLt (fun x y => decide (x > y)) a b Q H
  | .GtE => cmpLt (fun x y => decide (x ≥ y)) a b Q H
  | .Is => cmpIs a b Q H
  | .IsNot => cmpIs a b (fun r H => Q (!r) H) H
  | .In => cmpIn a b Q H
  | .NotIn => cmpIn a b (fun r H => Q (!r) H) H

section
variable {c : Cx} {n : Nat} {sc : SE}

theorem bd {α : Type} [DecidableEq α] (x y : α) : (x == y) = decide (x = y) := by by_cases h : x = y <;> simp [h]
theorem mk_inj (x y : List Nat) : ((⟨x.toArray⟩ : Str) == ⟨y.toArray⟩) = decide (x = y) := by
  by_cases h : x = y
  · subst h; simp
  · have : ¬ ((⟨x.toArray⟩ : Str) = ⟨y.toArray⟩) := by simpa using h
    simp [h]

/-- all comparisons of equality by what is read -/
theorem cmpEq_reads {base : Heap} {A : Around} {H : AH} {s : Shared} {va vb : Value} {a b : PV} {Q : Bool → AH → Prop} (hA : AOk n A) (h1 : VRel s.heap va a) (h2 : VRel s.heap vb b) (S : St base H s) (h : cmpEq a b Q H) :
    ∃ d e as bs, Reads s.heap va d as ∧ Reads s.heap vb e bs ∧ d.canLay0 = true ∧ e.canLay0 = true ∧ A.units + min d.depth e.depth < cLine ∧ Q (PyData.eqv d e) H := by
  have key : (∃ d e, Rd H 20 a d ∧ Rd H 20 b e ∧ Q (PyData.eqv d e) H) := by
    unfold cmpEq at h
    split at h
    · refine ⟨_, _, .int _ _, .int _ _, ?_⟩
      rename_i x y
      have e : PyData.eqv (.int x) (.int y) = decide (x = y) := bd x y
      rw [e]; exact h
    · refine ⟨_, _, .str _ _, .str _ _, ?_⟩
      rename_i x y
      have e : PyData.eqv (.str ⟨x.toArray⟩) (.str ⟨y.toArray⟩) = decide (x = y) := by
        show ((⟨x.toArray⟩ : Str) == ⟨y.toArray⟩) = _
        exact mk_inj x y
      rw [e]; exact h
    · refine ⟨_, _, .bool _ _, .bool _ _, ?_⟩
      rename_i x y
      have e : PyData.eqv (.bool x) (.bool y) = decide (x = y) := by cases x <;> cases y <;> rfl
      rw [e]; exact h
    · exact h
  obtain ⟨d, e, k1, k2, k3⟩ := key
  obtain ⟨⟨as, m1⟩, m2, m3⟩ := k1.reads S va h1
  obtain ⟨⟨bs, l1⟩, l2, l3⟩ := k2.reads S vb h2
  refine ⟨d, e, as, bs, m1, l1, m2, l2, ?_, k3⟩
  have := hA.units
  simp only [cLine]
  omega

theorem cmpLt_elim {f : Int → Int → Bool} {a b : PV} {Q : Bool → AH → Prop} {H : AH} (h : cmpLt f a b Q H) : ∃ x y, a = .int x ∧ b = .int y ∧ Q (f x y) H := by
  unfold cmpLt at h
  split at h
  · exact ⟨_, _, rfl, rfl, h⟩
  · exact h.elim
theorem in_sound {A : Around} {H : AH} {s : Shared} {va vb : Value} {a b : PV} {Q : Bool → AH → Prop} {E : Value → Shared → Prop} (hA : AOk n A) (h1 : VRel s.heap va a) (h2 : VRel s.heap vb b) (S : St c.base H s) (h : cmpIn a b Q H) :
    ∃ r, Q r H ∧ (∀ P : Value → Shared → Prop, P (.bool r) s → wpAny (model c.prog c.w) A (compareOp .In va vb) P E s) ∧ ∀ P : Value → Shared → Prop, P (.bool (!r)) s → wpAny (model c.prog c.w) A (compareOp .NotIn va vb) P E s := by
  have hu := hA.units
  unfold cmpIn at h
  split at h
  · rename_i x
    split at h
    · rename_i y
      cases h1 with
      | str _ u hy =>
      cases h2 with
      | str _ t hx =>
      exact ⟨_, h, fun P p => in_str (by rw [str_len]; exact p), fun P p => notIn_str (by rw [str_len]; exact p)⟩
    · exact h.elim
  · obtain ⟨d, ds, k1, k2, k3⟩ := h
    cases h2 with
    | tup ht hvs =>
      obtain ⟨⟨as, m1⟩, m2, m3⟩ := k1.reads S va h1
      obtain ⟨⟨bs, l1⟩, l2, l3⟩ := k2.reads S _ hvs
      have hc : A.units + d.depth < cLine := by simp only [cLine]; omega
      exact ⟨_, k3, fun P p => SeqAt.in_tuple_reads (.tuple ht rfl rfl (by simpa using l1)) m1 l2 m2 (by simp only [cLine]; omega) p, fun P p => SeqAt.notIn_tuple_reads (.tuple ht rfl rfl (by simpa using l1)) m1 l2 m2 (by simp only [cLine]; omega) p⟩
  · rename_i l
    split at h
    · rename_i x hl
      obtain ⟨d, ds, k1, k2, k3⟩ := h
      cases h2
      obtain ⟨vs, k, hl', hvs⟩ := S.hr.list _ _ hl
      obtain ⟨⟨as, m1⟩, m2, m3⟩ := k1.reads S va h1
      obtain ⟨⟨bs, l1⟩, l2, l3⟩ := k2.reads S _ hvs
      exact ⟨_, k3, fun P p => SeqAt.in_list_reads (.list hl' rfl rfl l1) m1 l2 m2 (by simp only [cLine]; omega) p, fun P p => SeqAt.notIn_list_reads (.list hl' rfl rfl l1) m1 l2 m2 (by simp only [cLine]; omega) p⟩
    · exact h.elim
  · exact h.elim
theorem cmpIs_elim {a b : PV} {Q : Bool → AH → Prop} {H : AH} (h : cmpIs a b Q H) : b = .none ∨ ∃ x y, a = .bool x ∧ b = .bool y ∧ Q (decide (x = y)) H := by
  unfold cmpIs at h
  split at h
  · exact .inl rfl
  · exact .inl rfl
  · exact .inr ⟨_, _, rfl, rfl, h⟩
  · exact h.elim
theorem op_cmp (op : CmpOp) : SoundOp2 c n (compareOp op) (fun a b Q H => cmpOp op a b (fun r H' => Q (.bool r) H') H) := by
  intro A H s va vb a b Q E hA h1 h2 S h
  have fin : ∀ r : Bool, Q (.bool r) H → Res c H s Q (.bool r) s := fun r q => res_pure S (.bool r) q
  cases op <;> simp only [cmpOp] at h
  case Eq =>
    obtain ⟨d, e, as, bs, k1, k2, k3, k4, k5, k6⟩ := cmpEq_reads hA h1 h2 S h
    exact SeqAt.compareEq_reads k1 k2 k3 k4 k5 (fin _ k6)
  case NotEq =>
    obtain ⟨d, e, as, bs, k1, k2, k3, k4, k5, k6⟩ := cmpEq_reads hA h1 h2 S h
    exact SeqAt.compareNe_reads k1 k2 k3 k4 k5 (fin _ k6)
  case Lt =>
    obtain ⟨x, y, rfl, rfl, h⟩ := cmpLt_elim h
    cases h1; cases h2
    exact lt_int (fin _ h)
  case LtE =>
    obtain ⟨x, y, rfl, rfl, h⟩ := cmpLt_elim h
    cases h1; cases h2
    exact le_int (fin _ h)
  case Gt =>
    obtain ⟨x, y, rfl, rfl, h⟩ := cmpLt_elim h
    cases h1; cases h2
    exact gt_int (fin _ h)
  case GtE =>
    obtain ⟨x, y, rfl, rfl, h⟩ := cmpLt_elim h
    cases h1; cases h2
    exact ge_int (fin _ h)
  case Is =>
    rcases cmpIs_elim h with rfl | ⟨x, y, rfl, rfl, q⟩
    · cases h2; cases h1 <;> exact is_none_gen (fin _ h)
    · cases h1; cases h2; exact is_bool (by rw [bd]; exact fin _ q)
  case IsNot =>
    rcases cmpIs_elim h with rfl | ⟨x, y, rfl, rfl, q⟩
    · cases h2; cases h1 <;> exact isnot_none_gen (fin _ h)
    · cases h1; cases h2; exact isnot_bool (by rw [bne, bd]; exact fin _ q)
  case In =>
    obtain ⟨r, q, k1, _⟩ := in_sound (E := E) hA h1 h2 S h
    exact k1 _ (fin _ q)
  case NotIn =>
    obtain ⟨r, q, _, k2⟩ := in_sound (E := E) hA h1 h2 S h
    exact k2 _ (fin _ q)

/-- what is behind «in» is no display of a set -/
def aCmp (op : CmpOp) (l r : AE) : AE := aBin (fun a b Q H => cmpOp op a b (fun r H' => Q (.bool r) H') H) l r
-- truth
def truth (a : PV) (Q : Bool → AH → Prop) (H : AH) : Prop := match a with
  | .none => Q false H
  | .bool b => Q b H
  | .int i => Q (decide (i ≠ 0)) H
  | .str x => szOk x.length ∧ Q (!x.isEmpty) H
  | .ref a => (match H a with | some x => szOk x.items.length ∧ Q (!x.items.isEmpty) H | none => False)
  | .tup _ => False
  | .rng _ _ => False
theorem truth_sound {A : Around} {H : AH} {s : Shared} {v : Value} {a : PV} {Q : Bool → AH → Prop} {E : Value → Shared → Prop} (h1 : VRel s.heap v a) (S : St c.base H s) (h : truth a Q H) :
    wpAny (model c.prog c.w) A (truthy v) (ResB c H s Q) E s := by
  cases h1 with
  | none => exact fun _ _ _ => ⟨H, S, .refl, h⟩
  | bool b => exact wpAny_truthy_bool ⟨H, S, .refl, h⟩
  | int i t => exact PyProof.Rows.truthy_int (by rw [bne, bd, show (!decide (i = 0)) = decide (i ≠ 0) from by simp]; exact ⟨H, S, .refl, h⟩)
  | str x t hx =>
    refine PySem.P.truthy_str ?_ ⟨H, S.tok _, .tok _, ?_⟩
    · rw [str_len]; have := h.1; simp only [szOk] at this; omega
    · rw [str_len, show (((x.length : Nat) : Int) != 0) = !x.isEmpty from by cases x <;> simp [bne]; omega]; exact h.2
  | tup ht hv => exact h.elim
  | rng hr => exact h.elim
  | ref a =>
    simp only [truth] at h
    cases hl : H a with
    | none => rw [hl] at h; exact h.elim
    | some x =>
      rw [hl] at h
      obtain ⟨vs, k, hl', hvs⟩ := S.hr.list _ _ hl
      have := hvs.length
      refine wpAny_truthy_list hl'.isList ?_ ⟨H, S.tok _, .tok _, ?_⟩
      · have := h.1; simp only [szOk] at this; simp at *; omega
      · have e : vs.isEmpty = x.items.isEmpty := by
          have e2 : vs.size = x.items.length := by simpa using this
          cases hx : x.items with
          | nil => rw [hx] at e2; simpa using e2
          | cons a l => rw [hx] at e2; simp only [List.isEmpty_cons]; rw [Array.isEmpty_eq_false_iff_exists_mem]; exact ⟨vs[0]'(by simp at e2; omega), by simp⟩
        rw [e]; exact h.2

-- tests
def tVal (l : AE) : AT := fun Q ρ H => l (fun a H1 => truth a Q H1) ρ H
def tNot (l : AT) : AT := fun Q ρ H => l (fun b H1 => Q (!b) H1) ρ H
def tAnd (l r : AT) : AT := fun Q ρ H => l (fun b H1 => if b then r Q ρ H1 else Q false H1) ρ H
def tOr (l r : AT) : AT := fun Q ρ H => l (fun b H1 => if b then Q true H1 else r Q ρ H1) ρ H
def tTrue : AT := fun Q _ H => Q true H
def tFalse : AT := fun Q _ H => Q false H
def tCmp (op : CmpOp) (l r : AE) : AT := fun Q ρ H => l (fun a H1 => r (fun b H2 => cmpOp op a b Q H2) ρ H1) ρ H
def tCmp2 (op : CmpOp) (l : AE) (op' : CmpOp) (m r : AE) : AT := fun Q ρ H => l (fun a H1 => m (fun b H2 => cmpOp op a b (fun k H3 => if k then r (fun d H4 => cmpOp op' b d Q H4) ρ H3 else Q false H3) H2) ρ H1) ρ H

theorem test_val {e : Expr} {al : AE} (hl : SoundE c n sc e al) (hv : ∀ env whole, isTrue e env whole = (do let v ← whole; standAt e.pos; holding [v] (truthy v))) : SoundT c n sc e (tVal al) := by
  intro A env ρ H s Q E hA he R S h
  refine wpAny_isTrue_value (seq1 (F := fun a H1 => truth a Q H1) hl hA he R S h ?_) (hv env _)
  intro va a H1 s1 h1 R1 S1 e1 q1
  exact wpAny_mono (truth_sound h1 S1 q1) (fun _ _ r => r.trans e1) fun _ _ x => x
theorem test_not {e : Expr} {pos : Pos} {al : AT} (hl : SoundT c n sc e al) : SoundT c n sc (.UnaryOp .Not e pos) (tNot al) := by
  intro A env ρ H s Q E hA he R S h
  exact wpAny_isTrue_Not (hl A env ρ H s (fun b H1 => Q (!b) H1) E hA he R S h)
theorem bool_mono {A : Around} {H : AH} {s : Shared} {t : Sem Bool} {F : Bool → AH → Prop} {P : Bool → Shared → Prop} {E : Value → Shared → Prop} (h : wpAny (model c.prog c.w) A t (ResB c H s F) E s)
    (k : ∀ b H1 s1, St c.base H1 s1 → Ext No No H s H1 s1 → F b H1 → P b s1) : wpAny (model c.prog c.w) A t P E s :=
  wpAny_mono h (fun b s1 rr => rr.elim fun H1 S1 e1 q1 => k b H1 s1 S1 e1 q1) fun _ _ x => x
/-- a row of tests joined by and, or -/
def SoundAnd (c : Cx) (n : Nat) (sc : SE) (op : BoolOp) (es : List Expr) (a : AT) : Prop :=
  ∀ (A : Around) (env : Env) (ρ : AEnv) (H : AH) (s : Shared) (Q : Bool → AH → Prop) (E : Value → Shared → Prop), AOk n A → EOk sc A env → ER c.base c.N env ρ s.heap → St c.base H s → a Q ρ H →
    wpAny (model c.prog c.w) A (allTrue op es env) (ResB c H s Q) E s
theorem or_nil : SoundAnd c n sc .Or [] tFalse := fun _ _ _ H _ _ _ _ _ _ S h => wpAny_allTrue_Or_nil ⟨H, S, .refl, h⟩
theorem or_cons {e : Expr} {es : List Expr} {a b : AT} (h1 : SoundT c n sc e a) (h2 : SoundAnd c n sc .Or es b) : SoundAnd c n sc .Or (e :: es) (tOr a b) := by
  intro A env ρ H s Q E hA he R S h
  refine wpAny_allTrue_Or_cons (bool_mono (h1 A env ρ H s _ E hA he R S h) fun k H1 s1 S1 e1 q1 => ?_)
  cases k with
  | false => exact wpAny_mono (h2 A env ρ H1 s1 Q E hA he (R.ext0 S e1) S1 (by simpa using q1)) (fun _ _ r => r.trans e1) fun _ _ x => x
  | true => exact ⟨H1, S1, e1, by simpa using q1⟩
theorem test_bool {op : BoolOp} {es : List Expr} {pos : Pos} {a : AT} (h : SoundAnd c n sc op es a) : SoundT c n sc (.BoolOp op es pos) a :=
  fun A env ρ H s Q E hA he R S q => wpAny_isTrue_BoolOp (h A env ρ H s Q E hA he R S q)
theorem cmpEq_mono {a b : PV} {F G : Bool → AH → Prop} {H : AH} (hFG : ∀ k H, F k H → G k H) (hF : cmpEq a b F H) : cmpEq a b G H := by
  unfold cmpEq at *
  split <;> simp_all only []
  obtain ⟨d, e, x1, x2, x3⟩ := hF; exact ⟨d, e, x1, x2, hFG _ _ x3⟩
theorem cmpIn_mono {a b : PV} {F G : Bool → AH → Prop} {H : AH} (hFG : ∀ k H, F k H → G k H) (hF : cmpIn a b F H) : cmpIn a b G H := by
  unfold cmpIn at *
  split <;> simp_all only []
  · split <;> simp_all only []
  · obtain ⟨d, e, x1, x2, x3⟩ := hF; exact ⟨d, e, x1, x2, hFG _ _ x3⟩
  · split <;> simp_all only []
    obtain ⟨d, e, x1, x2, x3⟩ := hF; exact ⟨d, e, x1, x2, hFG _ _ x3⟩
theorem cmpIs_mono {a b : PV} {F G : Bool → AH → Prop} {H : AH} (hFG : ∀ k H, F k H → G k H) (hF : cmpIs a b F H) : cmpIs a b G H := by
  unfold cmpIs at *
  split <;> simp_all only []
theorem cmpLt_mono {f : Int → Int → Bool} {a b : PV} {F G : Bool → AH → Prop} {H : AH} (hFG : ∀ k H, F k H → G k H) (hF : cmpLt f a b F H) : cmpLt f a b G H := by
  unfold cmpLt at *
  split <;> simp_all only []
theorem cmpOp_mono {op : CmpOp} {a b : PV} {F G : Bool → AH → Prop} {H : AH} (hFG : ∀ k H, F k H → G k H) (hF : cmpOp op a b F H) : cmpOp op a b G H := by
  cases op <;> simp only [cmpOp] at hF ⊢
  · exact cmpEq_mono hFG hF
  · exact cmpEq_mono (fun k H q => hFG _ _ q) hF
  · exact cmpLt_mono hFG hF
  · exact cmpLt_mono hFG hF
  · exact cmpLt_mono hFG hF
  · exact cmpLt_mono hFG hF
  · exact cmpIs_mono hFG hF
  · exact cmpIs_mono (fun k H q => hFG _ _ q) hF
  · exact cmpIn_mono hFG hF
  · exact cmpIn_mono (fun k H q => hFG _ _ q) hF
theorem cmp_bool {A : Around} {op : CmpOp} {H : AH} {s : Shared} {va vb : Value} {a b : PV} {Q : Bool → AH → Prop} {E : Value → Shared → Prop} {P : Value → Shared → Prop} (hA : AOk n A) (h1 : VRel s.heap va a) (h2 : VRel s.heap vb b) (S : St c.base H s) (h : cmpOp op a b Q H)
    (k : ∀ r H' s', St c.base H' s' → Ext No No H s H' s' → Q r H' → P (.bool r) s') : wpAny (model c.prog c.w) A (compareOp op va vb) P E s := by
  refine wpAny_mono (op_cmp op A H s va vb a b (fun p H' => ∃ k, p = .bool k ∧ Q k H') E hA h1 h2 S (cmpOp_mono (fun k H q => ⟨k, rfl, q⟩) h)) (fun v s3 ⟨p, H3, k1, S3, e3, r, hr, k4⟩ => ?_) fun _ _ x => x
  subst hr; cases k1
  exact k r H3 s3 S3 e3 k4
theorem test_cmp {l r : Expr} {op : CmpOp} {pos : Pos} {al ar : AE} (hl : SoundE c n sc l al) (hr : SoundE c n sc r ar) (hm : behindInMarks op r = false) : SoundT c n sc (.Compare l [op] [r] pos) (tCmp op al ar) := by
  intro A env ρ H s Q E hA he R S h
  refine wpAny_isTrue_Compare1 (seq2 (F := fun a b H2 => cmpOp op a b Q H2) hl hr hA he R S h ?_) hm
  intro va vb a b H2 s2 h1 h2 R2 S2 e2 q2
  exact cmp_bool hA h1 h2 S2 q2 fun r H3 s3 S3 e3 q3 => wpAny_truthy_bool ⟨H3, S3, e2.trans e3, q3⟩
theorem wp_rel {M : Model} {A : Around} {vs keep : List Value} {Q : Unit → Shared → Prop} {E : Value → Shared → Prop} {s : Shared} (h : Q () s) : wpAny M A (release vs keep) Q E s := fun Γ p _ => by rw [Sem.wp_release]; exact h
theorem test_cmp2 {l m r : Expr} {op op' : CmpOp} {pos : Pos} {al am ar : AE} (hl : SoundE c n sc l al) (hm : SoundE c n sc m am) (hr : SoundE c n sc r ar) (hb : behindInMarks op' r = false) :
    SoundT c n sc (.Compare l [op, op'] [m, r] pos) (tCmp2 op al op' am ar) := by
  intro A env ρ H s Q E hA he R S h
  have e0 : isTrue (.Compare l [op, op'] [m, r] pos) env (eval (.Compare l [op, op'] [m, r] pos) env) = (do testChain pos (← eval l env) [op, op'] [eval m env, markedBehindIn op' r (eval r env)]) := rfl
  rw [e0, markedBehindIn_of_false hb]
  refine wpAny_bind (seq1 (F := fun a H1 => am (fun b H2 => cmpOp op a b (fun k H3 => if k then ar (fun d H4 => cmpOp op' b d Q H4) ρ H3 else Q false H3) H2) ρ H1) hl hA he R S h ?_)
  intro va a H1 s1 h1 R1 S1 e1 q1
  show wpAny _ _ (holding [va] (eval m env) >>= _) _ _ _
  refine wpAny_bind (wpAny_holding (seq1 (F := fun b H2 => cmpOp op a b (fun k H3 => if k then ar (fun d H4 => cmpOp op' b d Q H4) ρ H3 else Q false H3) H2) hm hA he R1 S1 q1 ?_))
  intro vb b H2 s2 h2 R2 S2 e2 q2
  refine wpAny_bind (wpAny_standAt (wpAny_bind (wpAny_holding (cmp_bool hA (h1.ext0 S1 e2) h2 S2 q2 ?_))))
  intro k H3 s3 S3 e3 q3
  have R3 := R2.ext0 S2 e3
  have e123 := (e1.trans e2).trans e3
  refine wpAny_bind (wp_rel (wpAny_bind (wpAny_holding (wpAny_truthy_bool ?_))))
  cases k with
  | false => exact wpAny_pure ⟨H3, S3, e123, by simpa using q3⟩
  | true =>
    simp only [if_true] at q3 ⊢
    show wpAny _ _ (holding [vb] (eval r env) >>= _) _ _ _
    refine wpAny_bind (wpAny_holding (seq1 (F := fun d H4 => cmpOp op' b d Q H4) hr hA he R3 S3 q3 ?_))
    intro vd d H4 s4 h4 R4 S4 e4 q4
    refine wpAny_bind (wpAny_standAt (wpAny_bind (wpAny_operating (cmp_bool hA ((h2.ext0 S2 e3).ext0 S3 e4) h4 S4 q4 ?_))))
    intro k H5 s5 S5 e5 q5
    exact wpAny_holding (wpAny_truthy_bool ⟨H5, S5, (e123.trans e4).trans e5, q5⟩)

-- values by tests
def aIf (t : AT) (l r : AE) : AE := fun Q ρ H => t (fun b H1 => if b then l Q ρ H1 else r Q ρ H1) ρ H
theorem sound_if {e l r : Expr} {pos : Pos} {t : AT} {al ar : AE} (ht : SoundT c n sc e t) (hl : SoundE c n sc l al) (hr : SoundE c n sc r ar) : SoundE c n sc (.IfExp e l r pos) (aIf t al ar) := by
  intro A env ρ H s Q E hA he R S h
  refine wpAny_IfExp (bool_mono (ht A env ρ H s _ E hA he R S h) fun b H1 s1 S1 e1 q1 => ?_)
  cases b with
  | true => exact wpAny_mono (hl A env ρ H1 s1 Q E hA he (R.ext0 S e1) S1 (by simpa using q1)) (fun _ _ r => r.trans e1) fun _ _ x => x
  | false => exact wpAny_mono (hr A env ρ H1 s1 Q E hA he (R.ext0 S e1) S1 (by simpa using q1)) (fun _ _ r => r.trans e1) fun _ _ x => x
-- rows of expressions, displays
def lNil : AL := fun Q _ H => Q [] H
def lCons (a : AE) (l : AL) : AL := fun Q ρ H => a (fun p H1 => l (fun ps H2 => Q (p :: ps) H2) ρ H1) ρ H
theorem list_nil : SoundL c n sc [] lNil := fun _ _ _ H _ _ _ _ _ _ _ S h => wpAny_items_nil ⟨[], H, .nil, S, .refl, h⟩
theorem list_cons {e : Expr} {es : List Expr} {a : AE} {l : AL} (h : SoundE c n sc e a) (k : SoundL c n sc es l) (hs : ∀ env, starEach (e :: es) env = (false, eval e env) :: starEach es env) : SoundL c n sc (e :: es) (lCons a l) := by
  intro A env ρ H s Q E pos hA he R S q
  refine wpAny_items_cons (seq1 (F := fun p H1 => l (fun ps H2 => Q (p :: ps) H2) ρ H1) h hA he R S q ?_) (hs env)
  intro va a H1 s1 h1 R1 S1 e1 q1
  exact wpAny_mono (k A env ρ H1 s1 _ E pos hA he R1 S1 q1) (fun vs s2 rr => rr.elim fun ps H2 h2 S2 e2 q2 => ⟨a :: ps, H2, .cons (h1.ext0 S1 e2) h2, S2, e1.trans e2, q2⟩) fun _ _ x => x
def aTup (l : AL) : AE := fun Q ρ H => l (fun ps H1 => szOk ps.length ∧ Q (.tup ps) H1) ρ H
def aList (l : AL) : AE := fun Q ρ H => l (fun ps H1 => szOk ps.length ∧ newL ps Q H1) ρ H
theorem sz_line {k : Nat} (h : szOk k) : k ≤ sizeLine := by rw [sizeLine_eq]; simpa [szOk] using h
theorem sound_tup {es : List Expr} {k : Nat} {pos : Pos} {l : AL} (h : SoundL c n sc es l) : SoundE c n sc (.Tuple es k pos) (aTup l) := by
  intro A env ρ H s Q E hA he R S q
  exact wpAny_Tuple (wpAny_mono (h A env ρ H s _ E pos hA he R S q) (fun vs s1 rr => rr.elim fun ps H1 h1 S1 e1 q1 => ⟨by rw [h1.length]; exact sz_line q1.1, (res_tuple S1 h1 q1.2).trans e1⟩) fun _ _ x => x)
theorem sound_list {es : List Expr} {pos : Pos} {l : AL} (h : SoundL c n sc es l) : SoundE c n sc (.List es pos) (aList l) := by
  intro A env ρ H s Q E hA he R S q
  exact wpAny_List (wpAny_mono (h A env ρ H s _ E pos hA he R S q) (fun vs s1 rr => rr.elim fun ps H1 h1 S1 e1 q1 => ⟨by rw [h1.length]; exact sz_line q1.1, (res_list S1 (by simpa using h1) q1.2).trans e1⟩) fun _ _ x => x)
end
end Mine
open PySem PySem.W PyProof.Rows
set_option Elab.async false
set_option linter.unusedVariables false
namespace Mine

theorem imm_data {h : Heap} {a : Addr} {o : Obj} (x : Imm h a o) : (∃ vs n, o.data = .seq vs n) ∨ ∃ vs, o.data = .fields vs := x.2.imp (fun q => q.2) fun q => q.2

section
variable {c : Cx} {n : Nat} {sc : SE}

theorem imm_upd {h h' : Heap} {a : Addr} (hs : Heap.SameBut a h h') (hd : ∀ o, h.get? a = some o → (∃ es ep, o.data = .dict es ep) ∨ ∃ v, o.data = .cell v) : ∀ b o, Imm h b o → h'.get? b = some o := by
  intro b o hb
  have : b ≠ a := by
    rintro rfl
    rcases hd o hb.1 with ⟨es, ep, e1⟩ | ⟨v, e1⟩ <;> rcases imm_data hb with ⟨vs, k, e2⟩ | ⟨vs, e2⟩ <;> rw [e1] at e2 <;> cases e2
  exact (hs.2 b this).trans hb.1
theorem vrel_upd {h h' : Heap} {a : Addr} (hs : Heap.SameBut a h h') (hd : ∀ o, h.get? a = some o → (∃ es ep, o.data = .dict es ep) ∨ ∃ v, o.data = .cell v) {v : Value} {p : PV} (hv : VRel h v p) : VRel h' v p := hv.mono (imm_upd hs hd)

theorem st_upd {base : Heap} {H : AH} {s : Shared} {h' : Heap} {a : Addr} {tk : Nat} (S : St base H s) (hs : Heap.SameBut a s.heap h') (hb : base.get? a = none) (hd : ∀ o, s.heap.get? a = some o → (∃ es ep, o.data = .dict es ep) ∨ ∃ v, o.data = .cell v) :
    St base H { s with heap := h', toks := tk } where
  hr := {
    keep := fun b o h => by
      have : b ≠ a := by rintro rfl; rw [hb] at h; cases h
      exact (hs.2 b this).trans (S.hr.keep b o h)
    list := fun b x h => by
      obtain ⟨vs, k, hl, hv⟩ := S.hr.list b x h
      have : b ≠ a := by
        rintro rfl
        rcases hd _ hl with ⟨es, ep, e⟩ | ⟨v, e⟩ <;> cases e
      exact ⟨vs, k, (hs.2 b this).trans hl, hv.mono (imm_upd hs hd)⟩
    new := S.hr.new }
  bare := S.bare
theorem ext_upd {X Y : Nat → Prop} {H : AH} {s : Shared} {h' : Heap} {a : Addr} {tk : Nat} (hs : Heap.SameBut a s.heap h') (hX : X a) : Ext X Y H s H { s with heap := h', toks := tk } :=
  ⟨fun b o h hx _ => (hs.2 b (fun e => hx (e ▸ hX))).trans h, Nat.le_of_eq hs.1.symm, fun _ x h => .inl ⟨x, h, rfl⟩, fun _ _ h _ => h, Nat.le_refl _, rfl⟩

theorem ns_dict {h : Heap} {a : Addr} {m : Str → Option Value} (hn : h.Ns a m) : ∀ o, h.get? a = some o → (∃ es ep, o.data = .dict es ep) ∨ ∃ v, o.data = .cell v := by
  intro o ho
  obtain ⟨o', es, ep, ho', hd, _⟩ := hn
  rw [ho] at ho'; cases ho'; exact .inl ⟨es, ep, hd⟩
theorem cell_dict {h : Heap} {a : Addr} {w : Option Value} (hn : h.IsCell a w) : ∀ o, h.get? a = some o → (∃ es ep, o.data = .dict es ep) ∨ ∃ v, o.data = .cell v := by
  intro o ho
  obtain ⟨o', ho', hd⟩ := hn
  rw [ho] at ho'; cases ho'; exact .inr ⟨w, hd⟩
theorem ns_ne_cell {h : Heap} {a b : Addr} {m : Str → Option Value} {v : Option Value} (hn : h.Ns a m) (hc : h.IsCell b v) : b ≠ a := by
  rintro rfl
  obtain ⟨o, ho, hd⟩ := hc
  obtain ⟨o', es, ep, ho', hd', _⟩ := hn
  rw [ho] at ho'; cases ho'; rw [hd] at hd'; cases hd'

theorem store_var {A : Around} {env : Env} {ρ : AEnv} {H : AH} {s : Shared} {Q : Unit → Shared → Prop} {E : Value → Shared → Prop} {x : Str} {k : Nat} {v : Value} {p : PV} (he : EOk sc A env) (R : ER c.base c.N env ρ s.heap) (S : St c.base H s) (hx : c.N[k]? = some x)
    (hk : sc.names.lookup x = some .local ∨ (sc.names.lookup x = some .cell ∧ x ∉ sc.caps)) (hv : VRel s.heap v p)
    (h : ∀ s', ER c.base c.N env (upd ρ k p) s'.heap → St c.base H s' → Ext (Own env) No H s H s' → Q () s') : wpAny (model c.prog c.w) A (storeName env x v) Q E s := by
  obtain ⟨m, hm, hmk⟩ := R.names
  have inj : ∀ j y, j ≠ k → c.N[j]? = some y → y ≠ x := by
    rintro j y hj hy rfl
    exact hj ((List.getElem?_inj (List.getElem?_eq_some_iff.mp hy).1 c.nodup).mp (hy.trans hx.symm))
  rcases hk with hk | ⟨hk, hcap⟩
  · have hkl : env.kindOf x = some .local := by rw [he.kindOf]; exact hk
    refine wpAny_storeName_local hkl hm (fun h' hn hs => ?_) (by rw [he.skind]; rfl)
    have hd := ns_dict hm
    have hC : ∀ cc w, s.heap.IsCell cc w → h'.IsCell cc w := fun cc w hc => hc.sameBut hs (ns_ne_cell hm hc)
    refine h _ ⟨⟨_, hn, fun j q hj => ?_⟩, fun y cc hy => let ⟨w, hw⟩ := R.cells y cc hy; ⟨w, hC cc w hw⟩, R.apart, R.new, R.cnew⟩ (st_upd S hs R.new hd) (ext_upd hs (.inl rfl))
    by_cases e : j = k
    · subst e
      rw [upd_same] at hj; cases hj
      exact ⟨x, v, hx, vrel_upd hs hd hv, .inl ⟨hkl, by simp⟩⟩
    · rw [upd_other _ _ e] at hj
      obtain ⟨y, w, h1, h2, h3⟩ := hmk j q hj
      refine ⟨y, w, h1, vrel_upd hs hd h2, ?_⟩
      rcases h3 with ⟨k1, k2⟩ | ⟨k1, cc, k2, k3⟩
      · exact .inl ⟨k1, by simp [inj j y e h1, k2]⟩
      · exact .inr ⟨k1, cc, k2, hC cc _ k3⟩
  · have hkl : env.kindOf x = some .cell := by rw [he.kindOf]; exact hk
    obtain ⟨cc, hcc, hown⟩ := he.cells x hk
    obtain ⟨w0, hw0⟩ := R.cells x cc hcc
    refine wpAny_storeName_cell he.skind hkl hcc hw0 (fun h' hc' hs => ?_)
    have hd := cell_dict hw0
    have hnL : h'.Ns env.locals m := hm.sameBut hs (Ne.symm (ns_ne_cell hm hw0))
    have other : ∀ y c2 w, env.cells.lookup y = some c2 → y ≠ x → s.heap.IsCell c2 w → h'.IsCell c2 w := by
      intro y c2 w hy hne hw
      refine hw.sameBut hs ?_
      rintro rfl
      exact hne (name_of_addr R.apart (mem_of_lookup hy) (mem_of_lookup hcc))
    refine h { s with heap := h' } ⟨⟨_, hnL, fun j q hj => ?_⟩, fun y c2 hy => ?_, R.apart, R.new, R.cnew⟩ (st_upd (tk := s.toks) S hs (R.cnew x cc hcc) hd) (ext_upd (tk := s.toks) hs (.inr ⟨hown hcap, x, hcc⟩))
    · by_cases e : j = k
      · subst e
        rw [upd_same] at hj; cases hj
        exact ⟨x, v, hx, vrel_upd hs hd hv, .inr ⟨.inl hkl, cc, hcc, hc'⟩⟩
      · rw [upd_other _ _ e] at hj
        obtain ⟨y, w, h1, h2, h3⟩ := hmk j q hj
        refine ⟨y, w, h1, vrel_upd hs hd h2, ?_⟩
        rcases h3 with ⟨k1, k2⟩ | ⟨k1, c2, k2, k3⟩
        · exact .inl ⟨k1, k2⟩
        · exact .inr ⟨k1, c2, k2, other y c2 _ k2 (inj j y e h1) k3⟩
    · by_cases e : y = x
      · subst e; rw [hcc] at hy; cases hy; exact ⟨_, hc'⟩
      · obtain ⟨w, hw⟩ := R.cells y c2 hy
        exact ⟨w, other y c2 w hy e hw⟩

theorem own_no_imm {env : Env} {ρ : AEnv} {h : Heap} (R : ER c.base c.N env ρ h) : ∀ a o, Imm h a o → ¬ Own env a := by
  rintro a o hi (rfl | ⟨_, x, hx⟩)
  · obtain ⟨m, hm, _⟩ := R.names
    rcases ns_dict hm o hi.1 with ⟨es, ep, e1⟩ | ⟨v, e1⟩ <;> rcases imm_data hi with ⟨vs, k, e2⟩ | ⟨vs, e2⟩ <;> rw [e1] at e2 <;> cases e2
  · obtain ⟨w, hw⟩ := R.cells x a hx
    rcases cell_dict hw o hi.1 with ⟨es, ep, e1⟩ | ⟨v, e1⟩ <;> rcases imm_data hi with ⟨vs, k, e2⟩ | ⟨vs, e2⟩ <;> rw [e1] at e2 <;> cases e2

-- targets
abbrev ATg := PV → (AEnv → AH → Prop) → AEnv → AH → Prop
def SoundA (c : Cx) (n : Nat) (sc : SE) (t : Expr) (f : ATg) : Prop :=
  ∀ (A : Around) (env : Env) (ρ : AEnv) (H : AH) (s : Shared) (v : Value) (p : PV) (Q : AEnv → AH → Prop) (P : Unit → Shared → Prop) (E : Value → Shared → Prop), AOk n A → EOk sc A env → ER c.base c.N env ρ s.heap → St c.base H s → VRel s.heap v p → f p Q ρ H →
    (∀ ρ' H' s', ER c.base c.N env ρ' s'.heap → St c.base H' s' → Ext (Own env) No H s H' s' → Q ρ' H' → P () s') → wpAny (model c.prog c.w) A (assign t env v) P E s
def gName (k : Nat) : ATg := fun p Q ρ H => Q (upd ρ k p) H
theorem tgt_name {x : Str} {pos : Pos} {k : Nat} (hx : c.N[k]? = some x) (hk : sc.names.lookup x = some .local ∨ (sc.names.lookup x = some .cell ∧ x ∉ sc.caps)) : SoundA c n sc (.Name x pos) (gName k) := by
  intro A env ρ H s v p Q P E hA he R S hv q h
  exact wpAny_assign_Name (store_var he R S hx hk hv fun s' R' S' e' => h _ _ s' R' S' e' q)

-- blocks
def sNil : AS := fun Q ρ H => Q .next ρ H
def sCons (a b : AS) : AS := fun Q ρ H => a (fun fl ρ1 H1 => match fl with | .next => b Q ρ1 H1 | fl => Q fl ρ1 H1) ρ H
theorem ResS.trans {env : Env} {H H' : AH} {s s' : Shared} {Q : Fl → AEnv → AH → Prop} {f : Flow} {s'' : Shared} (e : Ext (Own env) No H s H' s') (r : ResS c env H' s' Q f s'') : ResS c env H s Q f s'' :=
  let ⟨fl, ρ', H'', h1, h2, h3, h4, h5⟩ := r; ⟨fl, ρ', H'', h1, h2, h3, e.trans h4, h5⟩
theorem block_nil : SoundB c n sc [] sNil := fun _ _ ρ H _ _ _ _ _ R S q => wpAny_execs_nil ⟨.next, ρ, H, .next, R, S, .refl, q⟩
theorem block_cons {st : Stmt} {sts : List Stmt} {a b : AS} (h : SoundS c n sc st a) (k : SoundB c n sc sts b) : SoundB c n sc (st :: sts) (sCons a b) := by
  intro A env ρ H s Q E hA he R S q
  refine wpAny_execs_cons (wpAny_mono (h A env ρ H s _ E hA he R S q) (fun f s1 rr => rr.elim fun fl ρ1 H1 hf R1 S1 e1 q1 => ?_) fun _ _ x => x)
  cases hf with
  | next => exact wpAny_mono (k A env ρ1 H1 s1 Q E hA he R1 S1 q1) (fun _ _ r => r.trans e1) fun _ _ x => x
  | brk => exact ⟨_, ρ1, H1, .brk, R1, S1, e1, q1⟩
  | cont => exact ⟨_, ρ1, H1, .cont, R1, S1, e1, q1⟩
  | ret hv => exact ⟨_, ρ1, H1, .ret hv, R1, S1, e1, q1⟩

def sAssign (g : ATg) (a : AE) : AS := fun Q ρ H => a (fun p H1 => g p (fun ρ' H2 => Q .next ρ' H2) ρ H1) ρ H
theorem stmt_assign {tg : Expr} {pos : Pos} {v : Expr} {a : AE} {g : ATg} (ha : SoundE c n sc v a) (hg : SoundA c n sc tg g) (hs : ∀ env, EOk0 sc env → swapsWithSole [tg] v pos.line env = pure false)
    (hw : ∀ env, EOk0 sc env → swappedStores [tg] v env = pure none) (ht : ∀ env, assignEach [tg] env = [(false, assign tg env)]) : SoundS c n sc (.Assign [tg] v pos) (sAssign g a) := by
  intro A env ρ H s Q E hA he R S q
  show wpAny _ _ (do
    standAt pos
    if ← swapsWithSole [tg] v pos.line env then do
      evalThenUse v env fun v => assignAll v ((assignEach [tg] env).map (·.2))
      pure .next
    else do
      let v' ← eval v env
      assignStores env v' (← swappedStores [tg] v env) ((assignEach [tg] env).map (·.2))) _ _ _
  rw [hs env he.toEOk0, hw env he.toEOk0, ht env]
  refine wpAny_bind (wpAny_standAt (wpAny_bind (wpAny_pure ?_)))
  simp only [Bool.false_eq_true, if_false]
  refine wpAny_bind (seq1 (F := fun p H1 => g p (fun ρ' H2 => Q .next ρ' H2) ρ H1) ha hA he R S q ?_)
  intro va a H1 s1 h1 R1 S1 e1 q1
  refine wpAny_bind (wpAny_pure ?_)
  show wpAny _ _ (assign tg env va >>= fun _ => pure Flow.next) _ _ _
  exact wpAny_bind (hg A env ρ H1 s1 va a (fun ρ' H2 => Q .next ρ' H2) _ E hA he R1 S1 h1 q1 (fun ρ' H' s' R' S' e' q' => wpAny_pure ⟨.next, ρ', H', .next, R', S', e1.of_no.trans e', q'⟩))

def sRet (a : AE) : AS := fun Q ρ H => a (fun p H1 => Q (.ret p) ρ H1) ρ H
theorem stmt_ret {e : Expr} {pos : Pos} {a : AE} (ha : SoundE c n sc e a) : SoundS c n sc (.Return (some e) pos) (sRet a) := by
  intro A env ρ H s Q E hA he R S q
  exact wpAny_Return_some (seq1 (F := fun p H1 => Q (.ret p) ρ H1) ha hA he R S q fun va a H1 s1 h1 R1 S1 e1 q1 => ⟨.ret a, ρ, H1, .ret h1, R1, S1, e1.of_no, q1⟩)
def sRet0 : AS := fun Q ρ H => Q (.ret .none) ρ H
def sCont : AS := fun Q ρ H => Q .cont ρ H
def sIf (t : AT) (a b : AS) : AS := fun Q ρ H => t (fun k H1 => if k then a Q ρ H1 else b Q ρ H1) ρ H
theorem stmt_if {e : Expr} {body orelse : List Stmt} {pos : Pos} {t : AT} {a b : AS} (ht : SoundT c n sc e t) (ha : SoundB c n sc body a) (hb : SoundB c n sc orelse b) : SoundS c n sc (.If e body orelse pos) (sIf t a b) := by
  intro A env ρ H s Q E hA he R S q
  refine wpAny_If (bool_mono (ht A env ρ H s _ E hA he R S q) fun k H1 s1 S1 e1 q1 => ?_)
  cases k with
  | true => exact wpAny_mono (ha A env ρ H1 s1 Q E hA he (R.ext0 S e1) S1 (by simpa using q1)) (fun _ _ r => r.trans e1.of_no) fun _ _ x => x
  | false => exact wpAny_mono (hb A env ρ H1 s1 Q E hA he (R.ext0 S e1) S1 (by simpa using q1)) (fun _ _ r => r.trans e1.of_no) fun _ _ x => x
def sExpr (a : AE) : AS := fun Q ρ H => a (fun _ H1 => Q .next ρ H1) ρ H
end
end Mine
open PySem PySem.W PyProof.Rows
set_option Elab.async false
set_option linter.unusedVariables false
namespace Mine

section
variable {base : Heap} {H : AH} {s : Shared}
/-- an object that only an iterator of ours knows -/
structure Priv (base : Heap) (h : Heap) (I : Addr) : Prop where
  new : base.get? I = none
  there : ∃ o, h.get? I = some o ∧ o.cls ≠ .type "list" ∧ o.cls ≠ .type "tuple" ∧ o.cls ≠ .type "range"
theorem st_priv {h' : Heap} {tk : Nat} {I : Addr} (S : St base H s) (p : Priv base s.heap I) (hk : ∀ b o, b ≠ I → s.heap.get? b = some o → h'.get? b = some o) : St base H { s with heap := h', toks := tk } := by
  obtain ⟨o, ho, c1, c2, c3⟩ := p.there
  refine S.of_keep (X := fun b => b = I) (fun b o' hb h => hk b o' hb h) (fun b hb => hb ▸ p.new) (fun b hb vs n hl => ?_) (fun b hb o' hi => ?_)
  · subst hb; rw [show s.heap.get? b = _ from hl] at ho; cases ho; exact c1 rfl
  · subst hb; rw [hi.1] at ho; cases ho; rcases hi.2 with q | q; exact c2 q.1; exact c3 q.1
theorem vrel_priv {h h' : Heap} {I : Addr} (p : Priv base h I) (hk : ∀ b o, b ≠ I → h.get? b = some o → h'.get? b = some o) : ∀ b o, Imm h b o → h'.get? b = some o := by
  intro b o hi
  refine hk b o ?_ hi.1
  rintro rfl
  obtain ⟨o', ho, c1, c2, c3⟩ := p.there
  rw [hi.1] at ho; cases ho; rcases hi.2 with q | q; exact c2 q.1; exact c3 q.1
theorem ext_priv {Y : Nat → Prop} {h' : Heap} {tk : Nat} {I : Addr} (hk : ∀ b o, b ≠ I → s.heap.get? b = some o → h'.get? b = some o) (hz : s.heap.objs.size ≤ h'.objs.size) : Ext (fun b => b = I) Y H s H { s with heap := h', toks := tk } :=
  Ext.of_keep (fun b o hb h => hk b o hb h) hz
theorem Priv.ext {X Y : Nat → Prop} {I : Addr} {H' : AH} {s' : Shared} (p : Priv base s.heap I) (S : St base H s) (e : Ext X Y H s H' s') (hx : ¬ X I) : Priv base s'.heap I :=
  let ⟨o, ho, c1, c2⟩ := p.there; ⟨p.new, o, S.stay e ho hx c1, c1, c2⟩
end

/-- an iterator: what is left of it, by J -/
structure Iter (c : Cx) (n : Nat) (I : Addr) (P PG : Nat → Prop) (G : AH → Prop) (J : List PV → AH → Shared → Prop) : Prop where
  item : ∀ (A : Around) (p : PV) (rest : List PV) (H : AH) (s : Shared) (E : Value → Shared → Prop) (Q : Option Value → Shared → Prop), AOk n A → J (p :: rest) H s → St c.base H s →
    (∀ v s', VRel s'.heap v p → St c.base H s' → Ext P PG H s H s' → J rest H s' → (∀ b o, Imm s.heap b o → s'.heap.get? b = some o) → Q (some v) s') → wpAny (model c.prog c.w) A (pyNext (.ref I)) Q E s
  done : ∀ (A : Around) (H : AH) (s : Shared) (E : Value → Shared → Prop) (Q : Option Value → Shared → Prop), AOk n A → J [] H s → St c.base H s →
    (∀ s', St c.base H s' → Ext P PG H s H s' → (∀ b o, Imm s.heap b o → s'.heap.get? b = some o) → Q none s') → wpAny (model c.prog c.w) A (pyNext (.ref I)) Q E s
  frame : ∀ (X : Nat → Prop) (l : List PV) (H : AH) (s : Shared) (H' : AH) (s' : Shared), J l H s → St c.base H s → Ext X No H s H' s' → St c.base H' s' → (∀ a, X a → ¬ P a) → (∀ a o, Imm s.heap a o → ¬ X a) → G H' → J l H' s'
  owned : ∀ (A : Around) (l : List PV) (H : AH) (s : Shared) (E : Value → Shared → Prop) (Q : Unit → Shared → Prop) (elts : List Expr) (k : Nat) (pos : Pos) (v : Value), J l H s → Q () s → wpAny (model c.prog c.w) A (letOwnedTupleGo (.Tuple elts k pos) (.ref I) v) Q E s
  self : ∀ (A : Around) (l : List PV) (H : AH) (s : Shared) (E : Value → Shared → Prop) (Q : Value → Shared → Prop), J l H s → Q (.ref I) s → wpAny (model c.prog c.w) A (pyIter (.ref I)) Q E s

/-- the same, within one place of the run -/
structure IterA (c : Cx) (A : Around) (I : Addr) (P PG : Nat → Prop) (G : AH → Prop) (J : List PV → AH → Shared → Prop) : Prop where
  item : ∀ (p : PV) (rest : List PV) (H : AH) (s : Shared) (E : Value → Shared → Prop) (Q : Option Value → Shared → Prop), J (p :: rest) H s → St c.base H s →
    (∀ v s', VRel s'.heap v p → St c.base H s' → Ext P PG H s H s' → J rest H s' → (∀ b o, Imm s.heap b o → s'.heap.get? b = some o) → Q (some v) s') → wpAny (model c.prog c.w) A (pyNext (.ref I)) Q E s
  done : ∀ (H : AH) (s : Shared) (E : Value → Shared → Prop) (Q : Option Value → Shared → Prop), J [] H s → St c.base H s →
    (∀ s', St c.base H s' → Ext P PG H s H s' → (∀ b o, Imm s.heap b o → s'.heap.get? b = some o) → Q none s') → wpAny (model c.prog c.w) A (pyNext (.ref I)) Q E s
  frame : ∀ (X : Nat → Prop) (l : List PV) (H : AH) (s : Shared) (H' : AH) (s' : Shared), J l H s → St c.base H s → Ext X No H s H' s' → St c.base H' s' → (∀ a, X a → ¬ P a) → (∀ a o, Imm s.heap a o → ¬ X a) → G H' → J l H' s'
  owned : ∀ (l : List PV) (H : AH) (s : Shared) (E : Value → Shared → Prop) (Q : Unit → Shared → Prop) (elts : List Expr) (k : Nat) (pos : Pos) (v : Value), J l H s → Q () s → wpAny (model c.prog c.w) A (letOwnedTupleGo (.Tuple elts k pos) (.ref I) v) Q E s
theorem Iter.at {c : Cx} {n : Nat} {A : Around} {I : Addr} {P PG : Nat → Prop} {G : AH → Prop} {J : List PV → AH → Shared → Prop} (it : Iter c n I P PG G J) (hA : AOk n A) : IterA c A I P PG G J :=
  ⟨fun p rest H s E Q => it.item A p rest H s E Q hA, fun H s E Q => it.done A H s E Q hA, it.frame, it.owned A⟩

theorem owned_other {prog : Program} {w : World} {A : Around} {s : Shared} {E : Value → Shared → Prop} {Q : Unit → Shared → Prop} {elts : List Expr} {k : Nat} {pos : Pos} {I : Addr} {v : Value} {o : Obj} {T : String} (ho : s.heap.get? I = some o) (hc : o.cls = .type T)
    (hT : ["enumerate", "zip", "dict_itemiterator", "dict_reverseitemiterator", "odict_iterator", "itertools.zip_longest", "itertools.pairwise"].contains T = false) (h : Q () s) : wpAny (model prog w) A (letOwnedTupleGo (.Tuple elts k pos) (.ref I) v) Q E s := by
  unfold letOwnedTupleGo
  cases v with
  | ref a =>
    refine wpAny_bind (wpAny_load ho ?_)
    rw [hc]
    cases hd : o.data with
    | fields vs => simp only [hT, Bool.false_and, Bool.false_eq_true, if_false]; exact wpAny_pure h
    | _ => exact wpAny_pure h
  | _ => exact wpAny_pure h

section
variable {c : Cx} {n : Nat}

theorem iter_list {I a : Addr} {x : LO} : Iter c n I (fun b => b = I) No (fun H' => H' a = some x)
    (fun l H s => ∃ i, s.heap.IsListIter I a i ∧ H a = some x ∧ l = x.items.drop i ∧ Priv c.base s.heap I) where
  item A p rest H s E Q hA hj S h := by
    obtain ⟨i, hi, ha, hl, hp⟩ := hj
    obtain ⟨vs, k, hL, hv⟩ := S.hr.list a x ha
    have hx : x.items[i]? = some p := by
      have := congrArg (fun l => l[0]?) hl
      simpa using this.symm
    obtain ⟨v, hv1, hv2⟩ := hv.get hx
    refine wpAny_pyNext_list_item hi hL.isList (by simpa using hv1) fun h' hi' hs => ?_
    have hk : ∀ b o, b ≠ I → s.heap.get? b = some o → h'.get? b = some o := fun b o hb e => (hs.2 b hb).trans e
    refine h v { s with heap := h' } (hv2.mono (vrel_priv hp hk)) (st_priv (tk := s.toks) S hp hk) (ext_priv (tk := s.toks) hk (Nat.le_of_eq hs.1.symm)) ⟨i + 1, hi', ha, ?_, hp.new, ?_⟩ (vrel_priv hp hk)
    · have := congrArg (fun l => l.drop 1) hl
      simpa [Nat.add_comm] using this
    · obtain ⟨o, ho, hc, _⟩ := hi'
      exact ⟨o, ho, by rw [hc]; simp, by rw [hc]; simp, by rw [hc]; simp⟩
  done A H s E Q hA hj S h := by
    obtain ⟨i, hi, ha, hl, hp⟩ := hj
    obtain ⟨vs, k, hL, hv⟩ := S.hr.list a x ha
    have hx : x.items.length ≤ i := by
      have := congrArg List.length hl
      simp at this; omega
    have hlen := hv.length
    refine wpAny_grow (wpAny_pyNext_list_end hA.handled hi hL.isList ?_ fun h' he hg => ?_)
    · simp at hlen; simp; omega
    · have hk : ∀ b o, b ≠ I → s.heap.get? b = some o → h'.get? b = some o := fun b o hb e => he b o hb e
      exact h { s with heap := h' } (st_priv (tk := s.toks) S hp hk) (ext_priv (tk := s.toks) hk hg.1) (vrel_priv hp hk)
  frame X l H s H' s' hj S e S' hX hI hG := by
    obtain ⟨i, hi, ha, hl, hp⟩ := hj
    have hx : ¬ X I := fun q => hX I q rfl
    obtain ⟨o, ho, hc, r⟩ := hi
    exact ⟨i, ⟨o, S.stay e ho hx (by rw [hc]; simp), hc, r⟩, hG, hl, hp.ext S e hx⟩
  owned A l H s E Q elts k pos v hj h := by
    obtain ⟨i, ⟨o, ho, hc, _⟩, _⟩ := hj
    exact owned_other ho hc (by decide) h
  self A l H s E Q hj h := by
    obtain ⟨i, hi, _⟩ := hj
    exact wpAny_pyIter_listiter hi h

theorem iter_tuple {I a : Addr} {vs : List Value} {ps : List PV} : Iter c n I (fun b => b = I) No (fun _ => True)
    (fun l H s => ∃ i k, s.heap.IsTupleIter I a i ∧ IsT s.heap a vs.toArray k ∧ VAll s.heap vs ps ∧ l = ps.drop i ∧ Priv c.base s.heap I) where
  item A p rest H s E Q hA hj S h := by
    obtain ⟨i, k, hi, hT, hv, hl, hp⟩ := hj
    have hx : ps[i]? = some p := by
      have := congrArg (fun l => l[0]?) hl
      simpa using this.symm
    obtain ⟨v, hv1, hv2⟩ := hv.get hx
    have hne : a ≠ I := by
      rintro rfl
      obtain ⟨o, ho, _, c2, _⟩ := hp.there
      rw [show s.heap.get? a = _ from hT] at ho; cases ho; exact c2 rfl
    refine wpAny_pyNext_tuple_item hi ⟨_, hT, rfl, _, rfl⟩ (by simpa using hv1) fun h' hi' hs => ?_
    have hk : ∀ b o, b ≠ I → s.heap.get? b = some o → h'.get? b = some o := fun b o hb e => (hs.2 b hb).trans e
    refine h v { s with heap := h' } (hv2.mono (vrel_priv hp hk)) (st_priv (tk := s.toks) S hp hk) (ext_priv (tk := s.toks) hk (Nat.le_of_eq hs.1.symm)) ⟨i + 1, k, hi', hk a _ hne hT, hv.mono (vrel_priv hp hk), ?_, hp.new, ?_⟩ (vrel_priv hp hk)
    · have := congrArg (fun l => l.drop 1) hl
      simpa [Nat.add_comm] using this
    · obtain ⟨o, ho, hc, _⟩ := hi'
      exact ⟨o, ho, by rw [hc]; simp, by rw [hc]; simp, by rw [hc]; simp⟩
  done A H s E Q hA hj S h := by
    obtain ⟨i, k, hi, hT, hv, hl, hp⟩ := hj
    have hx : ps.length ≤ i := by
      have := congrArg List.length hl
      simp at this; omega
    have hlen := hv.length
    refine wpAny_grow (wpAny_pyNext_tuple_end hA.handled hi ⟨_, hT, rfl, _, rfl⟩ ?_ fun h' he hg => ?_)
    · simp; omega
    · have hk : ∀ b o, b ≠ I → s.heap.get? b = some o → h'.get? b = some o := fun b o hb e => he b o hb e
      exact h { s with heap := h' } (st_priv (tk := s.toks) S hp hk) (ext_priv (tk := s.toks) hk hg.1) (vrel_priv hp hk)
  frame X l H s H' s' hj S e S' hX hI hG := by
    obtain ⟨i, k, hi, hT, hv, hl, hp⟩ := hj
    have hx : ¬ X I := fun q => hX I q rfl
    obtain ⟨o, ho, hc, r⟩ := hi
    have hi' : Imm s.heap a _ := ⟨hT, .inl ⟨rfl, _, _, rfl⟩⟩
    exact ⟨i, k, ⟨o, S.stay e ho hx (by rw [hc]; simp), hc, r⟩, S.stayI e hi' (hI a _ hi'), hv.ext S e hI, hl, hp.ext S e hx⟩
  owned A l H s E Q elts k pos v hj h := by
    obtain ⟨i, _, ⟨o, ho, hc, _⟩, _⟩ := hj
    exact owned_other ho hc (by decide) h
  self A l H s E Q hj h := by
    obtain ⟨i, _, hi, _⟩ := hj
    exact wpAny_pyIter_tupleiter hi h

def rngItems (lo hi : Int) : List PV := (List.range (hi - lo).toNat).map fun (i : Nat) => .int (lo + (i : Int))
theorem rng_drop (lo hi : Int) (k : Nat) : (rngItems lo hi).drop k = rngItems (lo + k) hi := by
  apply List.ext_getElem
  · simp [rngItems]; omega
  · intro j h1 h2
    simp [rngItems]; omega
theorem rng_cons {lo hi : Int} (h : lo < hi) : rngItems lo hi = .int lo :: rngItems (lo + 1) hi := by
  have h1 : (rngItems lo hi)[0]? = some (.int lo) := by
    have : 0 < (hi - lo).toNat := by omega
    simp [rngItems, this]
  have h2 := rng_drop lo hi 1
  cases hr : rngItems lo hi with
  | nil => rw [hr] at h1; simp at h1
  | cons a l =>
    rw [hr] at h1 h2
    simp at h1 h2
    rw [h1, h2]
theorem rng_nil {lo hi : Int} (h : hi ≤ lo) : rngItems lo hi = [] := by
  have : (hi - lo).toNat = 0 := by omega
  simp [rngItems, this]

theorem iter_range {I : Addr} {hi : Int} : Iter c n I (fun b => b = I) No (fun _ => True)
    (fun l H s => ∃ x : Int, IsRangeIter s.heap I x (if x ≤ hi then hi - x else 0) 1 ∧ l = rngItems x hi ∧ Priv c.base s.heap I) where
  item A p rest H s E Q hA hj S h := by
    obtain ⟨x, hi', hl, hp⟩ := hj
    have hlt : x < hi := by
      by_cases q : x < hi
      · exact q
      · rw [rng_nil (by omega)] at hl; cases hl
    rw [rng_cons hlt] at hl
    cases hl
    refine wpAny_pyNext_range_item hi' (by split <;> omega) fun h' hi2 hs => ?_
    have hk : ∀ b o, b ≠ I → s.heap.get? b = some o → h'.get? b = some o := fun b o hb e => (hs.2 b hb).trans e
    refine h (.int x s.toks) { s with heap := h', toks := s.toks + 1 } (.int x _) (st_priv S hp hk) (ext_priv hk (Nat.le_of_eq hs.1.symm)) ⟨x + 1, ?_, rfl, hp.new, ⟨_, hi2, by simp, by simp, by simp⟩⟩ (vrel_priv hp hk)
    have e : (if x + 1 ≤ hi then hi - (x + 1) else 0) = (if x ≤ hi then hi - x else 0) - 1 := by split <;> split <;> omega
    rw [e]; exact hi2
  done A H s E Q hA hj S h := by
    obtain ⟨x, hi', hl, hp⟩ := hj
    have hge : ¬ x < hi := by
      intro q; rw [rng_cons q] at hl; cases hl
    refine wpAny_grow (wpAny_pyNext_range_end hA.handled hi' (by split <;> omega) fun h' he hg => ?_)
    have hk : ∀ b o, b ≠ I → s.heap.get? b = some o → h'.get? b = some o := fun b o hb e => he b o hb e
    exact h { s with heap := h' } (st_priv (tk := s.toks) S hp hk) (ext_priv (tk := s.toks) hk hg.1) (vrel_priv hp hk)
  frame X l H s H' s' hj S e S' hX hI hG := by
    obtain ⟨x, hi', hl, hp⟩ := hj
    have hx : ¬ X I := fun q => hX I q rfl
    exact ⟨x, S.stay e hi' hx (by simp), hl, hp.ext S e hx⟩
  owned A l H s E Q elts k pos v hj h := by
    obtain ⟨x, hi', _⟩ := hj
    exact owned_other hi' rfl (by decide) h
  self A l H s E Q hj h := by
    obtain ⟨x, hi', _⟩ := hj
    exact wpAny_pyIter_rangeiter hi' h

/-- a text's signs -/
def signs (x : List Nat) : List PV := x.map fun ch => .str [ch]
theorem iter_str {I : Addr} {x : List Nat} {t : Tok} {ty : String} (hty : ty = (if (x.all fun ch => ch < 128) = true then "str_ascii_iterator" else "str_iterator")) (hx : ∀ ch ∈ x, ch < 0x110000) : Iter c n I (fun b => b = I) No (fun _ => True)
    (fun l H s => ∃ i, s.heap.IsStrIter I ty ⟨x.toArray⟩ t i ∧ l = signs (x.drop i) ∧ Priv c.base s.heap I) where
  item A p rest H s E Q hA hj S h := by
    obtain ⟨i, hi, hl, hp⟩ := hj
    have hlt : i < x.length := by
      by_cases q : i < x.length
      · exact q
      · rw [List.drop_eq_nil_of_le (by omega)] at hl; cases hl
    rw [List.drop_eq_getElem_cons hlt] at hl
    cases hl
    have fin : ∀ h' : Heap, h'.IsStrIter I ty ⟨x.toArray⟩ t (i + 1) → Heap.SameBut I s.heap h' → Q (some (.str ⟨#[x[i]]⟩ s.toks)) { s with heap := h', toks := s.toks + 1 } := by
      intro h' hi2 hs
      have hk : ∀ b o, b ≠ I → s.heap.get? b = some o → h'.get? b = some o := fun b o hb e => (hs.2 b hb).trans e
      refine h (.str ⟨#[x[i]]⟩ s.toks) { s with heap := h', toks := s.toks + 1 } (.str [x[i]] _ (by simpa using hx _ (List.getElem_mem hlt))) (st_priv S hp hk) (ext_priv hk (Nat.le_of_eq hs.1.symm)) ⟨i + 1, hi2, rfl, hp.new, ?_⟩ (vrel_priv hp hk)
      obtain ⟨o, ho, hc, _⟩ := hi2
      refine ⟨o, ho, ?_⟩
      rw [hc, hty]; split <;> simp
    by_cases ha : (x.all fun ch => ch < 128) = true
    · rw [if_pos ha] at hty; subst hty
      exact wpAny_pyNext_ascii_item hi (by simp [hlt]) fin
    · rw [if_neg ha] at hty; subst hty
      exact wpAny_pyNext_wide_item hi (by simp [hlt]) fin
  done A H s E Q hA hj S h := by
    obtain ⟨i, hi, hl, hp⟩ := hj
    have hge : x.length ≤ i := by
      by_cases q : i < x.length
      · rw [List.drop_eq_getElem_cons q] at hl; cases hl
      · omega
    refine wpAny_grow ?_
    have fin : ∀ h' : Heap, Heap.ExtBut I s.heap h' → Grown s { s with heap := h' } → Q none { s with heap := h' } := by
      intro h' he hg
      have hk : ∀ b o, b ≠ I → s.heap.get? b = some o → h'.get? b = some o := fun b o hb e => he b o hb e
      exact h { s with heap := h' } (st_priv (tk := s.toks) S hp hk) (ext_priv (tk := s.toks) hk hg.1) (vrel_priv hp hk)
    by_cases ha : (x.all fun ch => ch < 128) = true
    · rw [if_pos ha] at hty; subst hty
      exact wpAny_pyNext_ascii_end hA.handled hi (by simp; omega) fin
    · rw [if_neg ha] at hty; subst hty
      exact wpAny_pyNext_wide_end hA.handled hi (by simp; omega) fin
  frame X l H s H' s' hj S e S' hX hI hG := by
    obtain ⟨i, hi, hl, hp⟩ := hj
    have hx : ¬ X I := fun q => hX I q rfl
    obtain ⟨o, ho, hc, r⟩ := hi
    exact ⟨i, ⟨o, S.stay e ho hx (by rw [hc, hty]; split <;> simp), hc, r⟩, hl, hp.ext S e hx⟩
  owned A l H s E Q elts k pos v hj h := by
    obtain ⟨i, ⟨o, ho, hc, _⟩, _⟩ := hj
    exact owned_other ho hc (by rw [hty]; split <;> decide) h
  self A l H s E Q hj h := by
    obtain ⟨i, hi, _⟩ := hj
    by_cases ha : (x.all fun ch => ch < 128) = true
    · rw [if_pos ha] at hty; subst hty
      exact wpAny_pyIter_striter_ascii hi h
    · rw [if_neg ha] at hty; subst hty
      exact wpAny_pyIter_striter_wide hi h

/-- what is walked over -/
def withItems (p : PV) (k : List PV → (AH → Prop) → AH → Prop) (H : AH) : Prop := match p with
  | .ref a => (match H a with | some x => k x.items (fun H' => H' a = some x) H | none => False)
  | .tup ps => k ps (fun _ => True) H
  | .str x => k (signs x) (fun _ => True) H
  | .rng lo hi => ((-1000000000 ≤ lo ∧ lo ≤ 1000000000) ∧ -1000000000 ≤ hi ∧ hi ≤ 1000000000) ∧ k (rngItems lo hi) (fun _ => True) H
  | _ => False

theorem iter_sound {A : Around} {H : AH} {s : Shared} {v : Value} {p : PV} {k : List PV → (AH → Prop) → AH → Prop} {E : Value → Shared → Prop} {Q : Value → Shared → Prop} (hv : VRel s.heap v p) (S : St c.base H s) (h : withItems p k H)
    (fin : ∀ I items P G J s', Iter c n I P No G J → J items H s' → St c.base H s' → Ext No No H s H s' → (∀ a, P a → s.heap.objs.size ≤ a ∧ a < s'.heap.objs.size) → G H → k items G H → Q (.ref I) s') : wpAny (model c.prog c.w) A (pyIter v) Q E s := by
  have newI : ∀ (o : Obj) b, b = s.heap.objs.size → s.heap.objs.size ≤ b ∧ b < (s.heap.push o).objs.size := fun o b e => ⟨Nat.le_of_eq e.symm, by rw [e, Heap.size_push]; exact Nat.lt_succ_self _⟩
  have priv : ∀ o : Obj, o.isFreed = false → o.cls ≠ .type "list" → o.cls ≠ .type "tuple" → o.cls ≠ .type "range" → Priv c.base (s.heap.push o) s.heap.objs.size := fun o hf c1 c2 c3 => ⟨S.bsize (Nat.le_refl _), o, Heap.get?_push_size _ hf, c1, c2, c3⟩
  cases hv with
  | ref a =>
    simp only [withItems] at h
    cases ha : H a with
    | none => rw [ha] at h; exact h.elim
    | some x =>
      rw [ha] at h
      obtain ⟨vs, j, hL, hv⟩ := S.hr.list a x ha
      exact wpAny_pyIter_list hL.isList (fin _ x.items _ _ _ _ (iter_list (a := a) (x := x)) ⟨0, ⟨_, Heap.get?_push_size _ rfl, rfl, rfl⟩, ha, by simp, priv _ rfl (by simp) (by simp) (by simp)⟩ (S.push _) (Ext.push _) (newI _) ha h)
  | tup hT hvs =>
    exact wpAny_pyIter_tuple ⟨_, hT, rfl, _, rfl⟩ (fin _ _ _ _ _ _ iter_tuple ⟨0, _, ⟨_, Heap.get?_push_size _ rfl, rfl, rfl⟩, Heap.get?_push_of_some _ hT, hvs.mono fun b o hi => Heap.get?_push_of_some _ hi.1, by simp, priv _ rfl (by simp) (by simp) (by simp)⟩ (S.push _) (Ext.push _) (newI _) trivial h)
  | str x t hx =>
    by_cases ha : (x.all fun ch => ch < 128) = true
    · exact wpAny_pyIter_ascii (by simpa using ha) (fin _ _ _ _ _ _ (iter_str (ty := "str_ascii_iterator") (t := t) (by rw [if_pos ha]) hx) ⟨0, ⟨_, Heap.get?_push_size _ rfl, rfl, rfl⟩, rfl, priv _ rfl (by simp) (by simp) (by simp)⟩ (S.push _) (Ext.push _) (newI _) trivial h)
    · exact wpAny_pyIter_wide (by simpa using ha) (fin _ _ _ _ _ _ (iter_str (ty := "str_iterator") (t := t) (by rw [if_neg ha]) hx) ⟨0, ⟨_, Heap.get?_push_size _ rfl, rfl, rfl⟩, rfl, priv _ rfl (by simp) (by simp) (by simp)⟩ (S.push _) (Ext.push _) (newI _) trivial h)
  | rng hr =>
    rename_i a lo hi t u v
    obtain ⟨⟨⟨b1, b2⟩, b3, b4⟩, h⟩ := h
    have esz : Builtin.Range.rangeSize lo hi 1 = if lo ≤ hi then hi - lo else 0 := by
      unfold Builtin.Range.rangeSize
      rw [if_pos (by decide)]
      split <;> split <;> omega
    refine wpAny_pyIter_range hr ?_ (fin _ _ _ _ _ _ (iter_range (hi := hi)) ⟨lo, ?_, rfl, priv _ rfl (by simp) (by simp) (by simp)⟩ (S.push _) (Ext.push _) (newI _) trivial h)
    · unfold Builtin.Range.small
      rw [esz]
      have hsz : 0 ≤ (if lo ≤ hi then hi - lo else 0) ∧ (if lo ≤ hi then hi - lo else 0) ≤ 2000000000 := by split <;> omega
      generalize (if lo ≤ hi then hi - lo else 0) = z at hsz
      simp only [Builtin.Range.rangeFitsLong]
      simp only [Bool.and_eq_true, Bool.or_eq_true, decide_eq_true_eq]
      refine ⟨⟨⟨⟨⟨by omega, by omega⟩, by omega, by omega⟩, by decide⟩, by omega, by omega⟩, .inr ?_⟩
      rw [if_pos (by decide)]
      simp only [Bool.and_eq_true, decide_eq_true_eq]; omega
    · rw [← esz]; exact Heap.get?_push_size _ rfl
  | _ => exact h.elim

-- for
def forL (g : ATg) (body : AS) (G : AH → Prop) (Q : Fl → AEnv → AH → Prop) : List PV → AEnv → AH → Prop
  | [], ρ, H => Q .next ρ H
  | p :: ps, ρ, H => g p (fun ρ1 H1 => body (fun fl ρ2 H2 => match fl with
      | .next => G H2 ∧ forL g body G Q ps ρ2 H2
      | .cont => G H2 ∧ forL g body G Q ps ρ2 H2
      | .brk => Q .next ρ2 H2
      | .ret v => Q (.ret v) ρ2 H2) ρ1 H1) ρ H
def sFor (g : ATg) (src : AE) (body : AS) : AS := fun Q ρ H => src (fun p H1 => withItems p (fun items G H2 => forL g body G Q items ρ H2) H1) ρ H

variable {sc : SE}
theorem own_lt {env : Env} {ρ : AEnv} {h : Heap} (R : ER c.base c.N env ρ h) {a : Nat} (ha : Own env a) : a < h.objs.size := by
  rcases ha with rfl | ⟨_, x, hx⟩
  · obtain ⟨m, hm, _⟩ := R.names; exact hm.lt
  · obtain ⟨w, hw⟩ := R.cells x a hx; exact hw.lt
theorem owned_any {I : Addr} {P PG : Nat → Prop} {G : AH → Prop} {J : List PV → AH → Shared → Prop} (it : Iter c n I P PG G J) {A : Around} {l : List PV} {H : AH} {s : Shared} {E : Value → Shared → Prop} {Q : Unit → Shared → Prop} {tg : Expr} {v : Value} (hj : J l H s)
    (ht : (∃ elts k pos, tg = .Tuple elts k pos) ∨ ∀ it v, letOwnedTupleGo tg it v = pure ()) (h : Q () s) : wpAny (model c.prog c.w) A (letOwnedTupleGo tg (.ref I) v) Q E s := by
  rcases ht with ⟨elts, k, pos, rfl⟩ | ht
  · exact it.owned A l H s E Q elts k pos v hj h
  · rw [ht]; exact wpAny_pure h

theorem owned_anyA {I : Addr} {P PG : Nat → Prop} {G : AH → Prop} {J : List PV → AH → Shared → Prop} {A : Around} (it : IterA c A I P PG G J) {l : List PV} {H : AH} {s : Shared} {E : Value → Shared → Prop} {Q : Unit → Shared → Prop} {tg : Expr} {v : Value} (hj : J l H s)
    (ht : (∃ elts k pos, tg = .Tuple elts k pos) ∨ ∀ it v, letOwnedTupleGo tg it v = pure ()) (h : Q () s) : wpAny (model c.prog c.w) A (letOwnedTupleGo tg (.ref I) v) Q E s := by
  rcases ht with ⟨elts, k, pos, rfl⟩ | ht
  · exact it.owned l H s E Q elts k pos v hj h
  · rw [ht]; exact wpAny_pure h

theorem for_loop {A : Around} {env : Env} {ρ₀ : AEnv} {H₀ : AH} {s₀ s : Shared} {I : Addr} {P PG : Nat → Prop} {G : AH → Prop} {J : List PV → AH → Shared → Prop} {tg : Expr} {body : List Stmt} {g : ATg} {b : AS} {Q : Fl → AEnv → AH → Prop} {R' : Result → Shared → Prop} {items : List PV} {H : AH} {ρ : AEnv}
    (it : IterA c A I P PG G J) (hg : SoundA c n sc tg g) (hb : SoundB c n sc body b) (hA : AOk n A) (he : EOk sc A env) (ht : (∃ elts k pos, tg = .Tuple elts k pos) ∨ ∀ it v, letOwnedTupleGo tg it v = pure ())
    (R₀ : ER c.base c.N env ρ₀ s₀.heap) (hP : ∀ a, P a → s₀.heap.objs.size ≤ a) (hPG : ∀ i, PG i → s₀.gens.size ≤ i)
    (hj : J items H s) (R : ER c.base c.N env ρ s.heap) (S : St c.base H s) (e : Ext (Own env) No H₀ s₀ H s) (q : forL g b G Q items ρ H)
    (hR : ∀ f s', ResS c env H₀ s₀ Q f s' → R' (.ok f) s') : codeAny (model c.prog c.w) A (.forLoop tg (.ref I) body [] env) R' s := by
  have ownP : ∀ a, Own env a → ¬ P a := fun a ha hp => Nat.lt_irrefl _ (Nat.lt_of_lt_of_le (own_lt R₀ ha) (hP a hp))
  refine codeAny_forLoop_any (fun k s => ∃ items H ρ, k = items.length ∧ J items H s ∧ ER c.base c.N env ρ s.heap ∧ St c.base H s ∧ Ext (Own env) No H₀ s₀ H s ∧ forL g b G Q items ρ H) ?_ _ ⟨items, H, ρ, rfl, hj, R, S, e, q⟩
  rintro k s ⟨items, H, ρ, rfl, hj, R, S, e, q⟩
  have noP : ∀ s' : Shared, Ext P PG H s H s' → Ext (Own env) No H₀ s₀ H s' := fun s' e' => e.then_new e' (fun a ha => .inr (hP a ha)) (fun i hi => .inr (hPG i hi))
  have keepR : ∀ s' : Shared, Ext P PG H s H s' → (∀ b o, Imm s.heap b o → s'.heap.get? b = some o) → ER c.base c.N env ρ s'.heap := fun s' e' hi => by
    exact R.ext' S e' hi (fun hp => ownP _ (.inl rfl) hp) (fun x cc hx hp => let ⟨w, hw⟩ := R₀.cells x cc hx; Nat.lt_irrefl _ (Nat.lt_of_lt_of_le hw.lt (hP cc hp)))
  cases items with
  | nil =>
    refine it.done H s _ _ hj S fun s' S' e' hi => ?_
    exact wpAny_execs_nil (hR _ _ ⟨.next, ρ, H, .next, keepR s' e' hi, S', noP s' e', q⟩)
  | cons p ps =>
    refine it.item p ps H s _ _ hj S fun v s' hv S' e' hj' hi => ?_
    refine owned_anyA it hj' ht ?_
    have R' := keepR s' e' hi
    refine hg A env ρ H s' v p _ _ _ hA he R' S' hv q fun ρ1 H1 s1 R1 S1 e1 q1 => ?_
    refine wpAny_mono (hb A env ρ1 H1 s1 _ _ hA he R1 S1 q1) (fun f s2 rr => rr.elim fun fl ρ2 H2 hf R2 S2 e2 q2 => ?_) fun _ _ x => x
    have e02 := ((noP s' e').trans e1).trans e2
    have again : G H2 ∧ forL g b G Q ps ρ2 H2 → ∃ m, m < (p :: ps).length ∧ ∃ items H ρ, m = items.length ∧ J items H s2 ∧ ER c.base c.N env ρ s2.heap ∧ St c.base H s2 ∧ Ext (Own env) No H₀ s₀ H s2 ∧ forL g b G Q items ρ H := fun hq =>
      ⟨ps.length, by simp, ps, H2, ρ2, rfl, it.frame (Own env) ps H s' H2 s2 hj' S' (e1.trans e2) S2 ownP (own_no_imm R') hq.1, R2, S2, e02, hq.2⟩
    cases hf with
    | next => exact again q2
    | cont => exact again q2
    | brk => exact hR _ _ ⟨.next, ρ2, H2, .next, R2, S2, e02, q2⟩
    | ret hv => exact hR _ _ ⟨.ret _, ρ2, H2, .ret hv, R2, S2, e02, q2⟩

theorem stmt_for {tg iter : Expr} {body : List Stmt} {pos : Pos} {g : ATg} {src : AE} {b : AS} (hs : SoundE c n sc iter src) (hg : SoundA c n sc tg g) (hb : SoundB c n sc body b) (hf : ∀ env x, foldedSetIterable iter env x = pure x)
    (ht : (∃ elts k pos, tg = .Tuple elts k pos) ∨ ∀ it v, letOwnedTupleGo tg it v = pure ()) : SoundS c n sc (.For tg iter body [] pos) (sFor g src b) := by
  intro A env ρ H s Q E hA he R S q
  refine wpAny_For (seq1 (F := fun p H1 => withItems p (fun items G H2 => forL g b G Q items ρ H2) H1) hs hA he R S q ?_) (hf env)
  intro va a H1 s1 h1 R1 S1 e1 q1
  refine iter_sound (n := n) h1 S1 q1 fun I items P G J s2 it hj S2 e2 hP hG q2 => ?_
  exact for_loop (it.at hA) hg hb hA he ht R1 (fun a h => (hP a h).1) (fun _ h => h.elim) hj (R1.ext0 S1 e2) S2 e2.of_no q2 fun f s' r => r.trans e1.of_no
end
end Mine
open PySem PySem.W PySem.Calls PyProof.Rows
set_option Elab.async false
set_option linter.unusedVariables false
namespace Mine
section
variable {c : Cx} {n : Nat} {sc : SE}

-- while
def whileN (t : AT) (b : AS) (Q : Fl → AEnv → AH → Prop) : Nat → AEnv → AH → Prop
  | 0, _, _ => False
  | k + 1, ρ, H => t (fun r H1 => if r then b (fun fl ρ2 H2 => match fl with
      | .next => whileN t b Q k ρ2 H2
      | .cont => whileN t b Q k ρ2 H2
      | .brk => Q .next ρ2 H2
      | .ret v => Q (.ret v) ρ2 H2) ρ H1 else Q .next ρ H1) ρ H
def sWhile (t : AT) (b : AS) : AS := fun Q ρ H => ∃ k, whileN t b Q k ρ H
theorem stmt_while {e : Expr} {body : List Stmt} {pos : Pos} {t : AT} {b : AS} (ht : SoundT c n sc e t) (hb : SoundB c n sc body b) : SoundS c n sc (.While e body [] pos) (sWhile t b) := by
  intro A env ρ H s Q E hA he R S q
  obtain ⟨k, q⟩ := q
  refine wpAny_While (codeAny_whileLoop (fun k s' => ∃ ρ' H', ER c.base c.N env ρ' s'.heap ∧ St c.base H' s' ∧ Ext (Own env) No H s H' s' ∧ whileN t b Q k ρ' H') ?_ k ⟨ρ, H, R, S, .refl, q⟩)
  rintro k s' ⟨ρ', H', R', S', e', q'⟩
  cases k with
  | zero => exact q'.elim
  | succ k =>
    refine bool_mono (ht A env ρ' H' s' _ _ hA he R' S' q') fun r H1 s1 S1 e1 q1 => ?_
    have R1 := R'.ext0 S' e1
    have e01 := e'.trans e1.of_no
    cases r with
    | false => exact wpAny_execs_nil ⟨.next, ρ', H1, .next, R1, S1, e01, by simpa using q1⟩
    | true =>
      simp only [if_true] at q1 ⊢
      refine wpAny_mono (hb A env ρ' H1 s1 _ _ hA he R1 S1 q1) (fun f s2 rr => rr.elim fun fl ρ2 H2 hf R2 S2 e2 q2 => ?_) fun _ _ x => x
      have e02 := e01.trans e2
      cases hf with
      | next => exact ⟨k, Nat.lt_succ_self _, ρ2, H2, R2, S2, e02, q2⟩
      | cont => exact ⟨k, Nat.lt_succ_self _, ρ2, H2, R2, S2, e02, q2⟩
      | brk => exact ⟨.next, ρ2, H2, .next, R2, S2, e02, q2⟩
      | ret hv => exact ⟨.ret _, ρ2, H2, .ret hv, R2, S2, e02, q2⟩

-- the text's own functions
abbrev AF := List PV → (PV → AH → Prop) → AH → Prop
def SoundV (c : Cx) (n : Nat) (cv : Value) (f : AF) : Prop :=
  ∀ (A : Around) (H : AH) (s : Shared) (vs : List Value) (ps : List PV) (Q : PV → AH → Prop) (E : Value → Shared → Prop), AOk n A → VAll s.heap vs ps → St c.base H s → f ps Q H → wpAny (model c.prog c.w) A (call cv vs) (Res c H s Q) E s
def SoundF (c : Cx) (n : Nat) (name : Str) (f : AF) : Prop := ∃ a o fd, c.mg name = some (.ref a) ∧ c.base.get? a = some o ∧ o.data = .func fd ∧ SoundV c n (.ref a) f
def aCall (f : AF) (l : AL) : AE := fun Q ρ H => l (fun ps H1 => f ps Q H1) ρ H

theorem seqL {A : Around} {env : Env} {ρ : AEnv} {H : AH} {s : Shared} {E : Value → Shared → Prop} {es : List Expr} {al : AL} {pos : Pos} {P : List Value → Shared → Prop} {F : List PV → AH → Prop} (hl : SoundL c n sc es al) (hA : AOk n A) (he : EOk sc A env) (R : ER c.base c.N env ρ s.heap) (S : St c.base H s)
    (h : al F ρ H) (k : ∀ vs ps H1 s1, VAll s1.heap vs ps → ER c.base c.N env ρ s1.heap → St c.base H1 s1 → Ext No No H s H1 s1 → F ps H1 → P vs s1) :
    wpAny (model c.prog c.w) A (spliced (backTo pos (starEach es env))) P E s :=
  wpAny_mono (hl A env ρ H s _ E pos hA he R S h) (fun va s1 rr => rr.elim fun a H1 h1 S1 e1 q1 => k va a H1 s1 h1 (R.ext0 S e1) S1 e1 q1) fun _ _ x => x

theorem sound_call {name : Str} {f : AF} {e : Expr} {es : List Expr} {l : AL} {p pos : Pos} {m : Nat} (hf : SoundF c m name f) (hl : SoundL c n sc (e :: es) l) (hk : sc.names.lookup name = some .globalImplicit) (hm : m ≤ n)
    (hd : (name == ("__debug__" : Str)) = false) (he' : ∀ env, starEach (e :: es) env = (false, eval e env) :: starEach es env) : SoundE c n sc (.Call (.Name name p) (e :: es) [] pos) (aCall f l) := by
  intro A env ρ H s Q E hA he R S q
  obtain ⟨a, o, fd, h1, h2, h3, h4⟩ := hf
  have T := c.top.keeps S.hr.keep
  refine Call_ (Name_function_global he.skind (by rw [he.kindOf]; exact hk) (loadGlobal_global (mg := c.mg) (by rw [he.globals]; exact T.g) h1 ?_) hd)
  refine callWith_def h3 (seqL (F := fun ps H1 => f ps Q H1) hl hA he R S q fun vs ps H1 s1 hv R1 S1 e1 q1 => ⟨S1.hr.keep a o h2, ?_⟩) (he' env)
  exact wpAny_mono (h4 A H1 s1 vs ps Q E (hA.of_le hm) hv S1 q1) (fun _ _ r => r.trans e1) fun _ _ x => x

-- built-in functions and types
def isCallee : Value → Bool
  | .builtin _ => true
  | .type _ => true
  | _ => false
theorem sound_bi {name : Str} {cv : Value} {f : AF} {e : Expr} {es : List Expr} {l : AL} {p pos : Pos} (hf : SoundV c n cv f) (hc : isCallee cv = true) (hm : c.mg name = none) (hb : bootBuiltins name = some cv) (hn : name ≠ ("__name__" : Str)) (hl : SoundL c n sc (e :: es) l) (hk : sc.names.lookup name = some .globalImplicit)
    (hd : (name == ("__debug__" : Str)) = false) (he' : ∀ env, starEach (e :: es) env = (false, eval e env) :: starEach es env) (hp : ∀ env, (backTo pos (starEach es env)).any (·.1) = false) : SoundE c n sc (.Call (.Name name p) (e :: es) [] pos) (aCall f l) := by
  intro A env ρ H s Q E hA he R S q
  have T := c.top.keeps S.hr.keep
  refine Call_ (Name_function_global he.skind (by rw [he.kindOf]; exact hk) (loadGlobal_builtin (mg := c.mg) (mb := c.mb) (by rw [he.globals]; exact T.g) hm (by rw [he.builtins]; exact T.b) ((T.builtins name hn).trans hb) ?_) hd)
  have args : wpAny (model c.prog c.w) A (spliced (backTo pos (starEach (e :: es) env))) (fun vs s1 => wpAny (model c.prog c.w) A (call cv vs) (Res c H s Q) E s1) E s :=
    seqL (F := fun ps H1 => f ps Q H1) hl hA he R S q fun vs ps H1 s1 hv R1 S1 e1 q1 => wpAny_mono (hf A H1 s1 vs ps Q E hA hv S1 q1) (fun _ _ r => r.trans e1) fun _ _ x => x
  cases cv with
  | builtin id => exact callWith_builtin1 args (he' env) (hp env)
  | type T =>
    rw [he' env] at args ⊢
    exact PySem.callWith_type (by show (false || (backTo pos (starEach es env)).any (·.1)) = false; rw [hp env]; rfl) (evalArgs_plain args)
  | _ => cases hc

-- entering
theorem bindL_other {kd : Str → Option NameKind} : ∀ (binds : List (Str × Value)) (m : Str → Option Value) (y : Str), (∀ v, (y, v) ∉ binds) → bindL kd binds m y = m y
  | [], _, _, _ => rfl
  | (x, v) :: r, m, y, h => by
    unfold bindL
    rw [bindL_other r _ y fun w hw => h w (.tail _ hw)]
    have : y ≠ x := by rintro rfl; exact h v (.head _)
    split <;> simp [this]
theorem bindC_other {kd : Str → Option NameKind} : ∀ (binds : List (Str × Value)) (m : Str → Option Value) (y : Str), (∀ v, (y, v) ∉ binds) → bindC kd binds m y = m y
  | [], _, _, _ => rfl
  | (x, v) :: r, m, y, h => by
    unfold bindC
    rw [bindC_other r _ y fun w hw => h w (.tail _ hw)]
    have : y ≠ x := by rintro rfl; exact h v (.head _)
    split <;> simp [this]
theorem nodup_head {x : Str} {v : Value} {r : List (Str × Value)} (h : (((x, v) :: r).map (·.1)).Nodup) : ∀ w, (x, w) ∉ r := by
  intro w hw
  simp at h
  exact h.1 _ hw
theorem bindL_at {kd : Str → Option NameKind} : ∀ (binds : List (Str × Value)) (m : Str → Option Value) {x : Str} {v : Value}, (binds.map (·.1)).Nodup → (x, v) ∈ binds → kd x = some .local → bindL kd binds m x = some v
  | (y, w) :: r, m, x, v, hn, hm, hk => by
    unfold bindL
    rcases List.mem_cons.mp hm with e | hm
    · cases e
      rw [bindL_other r _ _ (nodup_head hn), if_pos hk]; simp
    · exact bindL_at r _ (by simp at hn ⊢; exact hn.2) hm hk
theorem bindC_at {kd : Str → Option NameKind} : ∀ (binds : List (Str × Value)) (m : Str → Option Value) {x : Str} {v : Value}, (binds.map (·.1)).Nodup → (x, v) ∈ binds → kd x ≠ some .local → bindC kd binds m x = some v
  | (y, w) :: r, m, x, v, hn, hm, hk => by
    unfold bindC
    rcases List.mem_cons.mp hm with e | hm
    · cases e
      rw [bindC_other r _ _ (nodup_head hn), if_neg hk]; simp
    · exact bindC_at r _ (by simp at hn ⊢; exact hn.2) hm hk

def bindP : List Nat → List PV → AEnv
  | k :: ks, p :: ps => upd (bindP ks ps) k p
  | _, _ => fun _ => none
theorem bindP_at {N : List Str} {h : Heap} : ∀ (ks : List Nat) (xs : List Str) (vs : List Value) (ps : List PV), ks.map (N[·]?) = xs.map some → VAll h vs ps → ps.length = ks.length → ∀ k p, bindP ks ps k = some p → ∃ x v, N[k]? = some x ∧ (x, v) ∈ xs.zip vs ∧ VRel h v p
  | [], _, _, _, _, _, _, k, p, h => by simp [bindP] at h
  | k0 :: ks, [], _, _, hx, _, _, _, _, _ => by simp at hx
  | k0 :: ks, x :: xs, [], _, _, hv, hl, _, _, _ => by cases hv; simp at hl
  | k0 :: ks, x :: xs, v :: vs, _, hx, .cons hv hr, hl, k, p, hp => by
    simp only [bindP] at hp
    by_cases e : k = k0
    · subst e
      rw [upd_same] at hp; cases hp
      exact ⟨x, v, by simpa using (List.cons.inj hx).1, by simp, hv⟩
    · rw [upd_other _ _ e] at hp
      obtain ⟨y, w, h1, h2, h3⟩ := bindP_at ks xs vs _ (List.cons.inj hx).2 hr (by simpa using hl) k p hp
      exact ⟨y, w, h1, by simp [h2], h3⟩

/-- what a call of a def gives -/
def aFn (ks : List Nat) (b : AS) : AF := fun ps Q H => ps.length = ks.length ∧ b (fun fl _ H' => match fl with
  | .ret p => Q p H'
  | .next => Q .none H'
  | .brk => False
  | .cont => False) (bindP ks ps) H

theorem sound_fn {d : DefRec} {ks : List Nat} {xs : List Str} {b : AS} (hd : d ∈ recsOf c.q) (hb : SoundB c n ⟨d.scope, [], false⟩ d.body b) (hx : ks.map (c.N[·]?) = xs.map some) (hnd : xs.Nodup)
    (hbind : ∀ pm cd doc vs, vs.length = xs.length → bindArgs (Calls.docDef d.name d.params d.body d.scope pm cd doc) ⟨vs, []⟩ = pure (xs.zip vs))
    (hkind : ∀ x ∈ xs, d.scope.names.lookup x = some .local ∨ d.scope.names.lookup x = some .cell)
    (hco : d.scope.isCoroutine = false) (hgen : d.scope.isGenerator = false) (hk : d.scope.kind = .function) : SoundF c (n + 1) d.name (aFn ks b) := by
  obtain ⟨a, o, pm, cd, doc, h1, h2, h3, h4⟩ := c.top.fn d hd
  refine ⟨a, o, _, h1, h2, h3, ?_⟩
  intro A H s vs ps Q E hA hv S q
  obtain ⟨ql, q⟩ := q
  have hlen : ks.length = xs.length := by simpa using congrArg List.length hx
  have T := c.top.keeps S.hr.keep
  refine wpAny_call (codeAny_call_cells (by have := hA.depth; simp only [recursionLimit]; omega) (S.hr.keep a o h2) h3 T.nolimit (h4.keeps S.hr.keep) rfl (hbind pm cd doc vs (by rw [hv.length, ql, hlen])) rfl ?_ (fun s1 x => ?_) hco hgen hk)
  · intro y hy
    have hmem : y.1 ∈ xs := (List.of_mem_zip hy).1
    rcases hkind _ hmem with k | k
    · exact .inl k
    · exact .inr ⟨k, cellsFrom_some _ _ _ (.inl k)⟩
  · generalize henv : callEnvC (Calls.docDef d.name d.params d.body d.scope pm cd doc) s.heap.objs.size a = env at x ⊢
    have eL : env.locals = s.heap.objs.size := by rw [← henv]; rfl
    have eS : env.scope = d.scope := by rw [← henv]; rfl
    have eC : env.cells = cellsFrom (s.heap.objs.size + 1) d.scope.names [] := by rw [← henv]; rfl
    have he : EOk ⟨d.scope, [], false⟩ (A.deeper env) env := ⟨⟨eS, hk, by rw [← henv]; rfl, by rw [← henv]; rfl, fun y hy => by
      obtain ⟨a', ha'⟩ := Option.isSome_iff_exists.mp (cellsFrom_some d.scope.names (s.heap.objs.size + 1) [] (.inl hy))
      exact ⟨a', by rw [eC]; exact ha', fun _ => x.above y a' (mem_of_lookup (by rw [eC]; exact ha'))⟩⟩, fun h => nomatch h⟩
    obtain ⟨h', tk, rfl⟩ := x.toInCall.same
    have hgrow : s.heap.objs.size ≤ h'.objs.size := Nat.le_of_lt (Nat.lt_of_le_of_lt x.toInCall.fresh x.toInCall.ns.lt)
    have S1 : St c.base H { s with heap := h', toks := tk } := S.of_keep (X := No) (fun b o _ h => x.toInCall.keep b o h) (fun _ h => h.elim) (fun _ h => h.elim) (fun _ h => h.elim)
    have e1 : Ext No No H s H { s with heap := h', toks := tk } := Ext.of_keep (fun b o _ h => x.toInCall.keep b o h) hgrow
    have hv' : VAll h' vs ps := hv.mono fun b o h => x.toInCall.keep b o h.1
    have hz : (xs.zip vs).map (·.1) = xs := by
      rw [List.map_fst_zip]; rw [hv.length, ql, hlen]; exact Nat.le_refl _
    have R1 : ER c.base c.N env (bindP ks ps) h' := {
      names := ⟨_, x.toInCall.ns, fun k p hp => by
        obtain ⟨y, v, k1, k2, k3⟩ := bindP_at ks xs vs ps hx hv' ql k p hp
        refine ⟨y, v, k1, k3, ?_⟩
        have hkd := hkind y (List.of_mem_zip k2).1
        rcases hkd with kd | kd
        · have kd' : env.kindOf y = some .local := by rw [he.kindOf]; exact kd
          exact .inl ⟨kd', bindL_at _ _ (by rw [hz]; exact hnd) k2 kd'⟩
        · have kd' : env.kindOf y = some .cell := by rw [he.kindOf]; exact kd
          obtain ⟨cc, hcc, _⟩ := he.cells y kd
          refine .inr ⟨.inl kd', cc, hcc, ?_⟩
          have := x.cell y cc hcc
          rwa [bindC_at _ _ (by rw [hz]; exact hnd) k2 (by rw [kd']; simp)] at this⟩
      cells := fun y cc hy => ⟨_, x.cell y cc hy⟩
      apart := x.apart
      new := S.bsize x.toInCall.fresh
      cnew := fun y cc hy => S.bsize (Nat.le_of_lt (Nat.lt_of_le_of_lt x.toInCall.fresh (x.above y cc (mem_of_lookup hy)))) }
    refine wpAny_mono (hb _ env (bindP ks ps) H _ _ _ (hA.deeper env) he R1 S1 q) (fun f s' rr => rr.elim fun fl ρ' H' hf R' S' e' q' => ?_) fun _ _ x => x
    have own : ∀ b, Own env b → No b ∨ s.heap.objs.size ≤ b := by
      rintro b (rfl | ⟨_, y, hy⟩)
      · exact .inr x.toInCall.fresh
      · exact .inr (Nat.le_of_lt (Nat.lt_of_le_of_lt x.toInCall.fresh (x.above y b (mem_of_lookup hy))))
    have e2 := e1.then_new e' own (fun _ h => h.elim)
    cases hf with
    | next => exact ⟨.none, H', .none, S', e2, q'⟩
    | brk => exact q'.elim
    | cont => exact q'.elim
    | ret hv => exact ⟨_, H', hv, S', e2, q'⟩
end
end Mine
open PySem PySem.W PySem.Calls PyProof.Rows
set_option Elab.async false
set_option linter.unusedVariables false
namespace Mine
section
variable {c : Cx} {n : Nat} {sc : SE}

-- items
def nth {α : Type} (xs : List α) (k : Int) : Option α := if 0 ≤ k then xs[k.toNat]? else if -(xs.length : Int) ≤ k then xs[(k + xs.length).toNat]? else none
def kOk (k : Int) : Prop := -1000000000 ≤ k ∧ k ≤ 1000000000
theorem nth_seq {α : Type} {xs : List α} {k : Int} {x : α} (h : nth xs k = some x) : ∃ j, seqIndex? k xs.length = some j ∧ xs[j]? = some x := by
  unfold nth at h
  by_cases h0 : 0 ≤ k
  · rw [if_pos h0] at h
    have hl := (List.getElem?_eq_some_iff.mp h).1
    exact ⟨k.toNat, seqIndex_of h0 (by omega), h⟩
  · rw [if_neg h0] at h
    by_cases h1 : -(xs.length : Int) ≤ k
    · rw [if_pos h1] at h
      exact ⟨_, seqIndex_neg (by omega) h1, h⟩
    · rw [if_neg h1] at h; cases h
def opItem (o i : PV) (Q : PV → AH → Prop) (H : AH) : Prop := match o, i with
  | .ref a, .int k => (match H a with | some x => (match nth x.items k with | some p => kOk k ∧ Q p H | none => False) | none => False)
  | .tup ps, .int k => (match nth ps k with | some p => kOk k ∧ Q p H | none => False)
  | .str x, .int k => (match nth x k with | some ch => kOk k ∧ Q (.str [ch]) H | none => False)
  | _, _ => False
theorem op_item : SoundOp2 c n getItem opItem := by
  intro A H s va vb a b Q E hA h1 h2 S h
  cases h2 with
  | int k t =>
    cases h1 with
    | ref a =>
      simp only [opItem] at h
      cases ha : H a with
      | none => simp [ha] at h
      | some x =>
        simp only [ha] at h
        cases hn : nth x.items k with
        | none => simp [hn] at h
        | some p =>
          simp only [hn] at h
          obtain ⟨vs, j, hL, hv⟩ := S.hr.list a x ha
          obtain ⟨i, hi, hx⟩ := nth_seq hn
          obtain ⟨v, hv1, hv2⟩ := hv.get hx
          have hlen : vs.size = x.items.length := by simpa using hv.length
          by_cases h0 : 0 ≤ k
          · have : i = k.toNat := by
              have := (List.getElem?_eq_some_iff.mp hx).1
              by_cases hlt : k < x.items.length
              · rw [seqIndex_of h0 hlt] at hi; cases hi; rfl
              · unfold nth at hn; rw [if_pos h0] at hn; rw [List.getElem?_eq_none (by omega)] at hn; cases hn
            subst this
            exact wpAny_getItem_list hL.isList h0 (by have := h.1.2; omega) (by simpa using hv1) (res_pure S hv2 h.2)
          · have h1 : -(x.items.length : Int) ≤ k := by
              by_cases q : -(x.items.length : Int) ≤ k
              · exact q
              · unfold nth at hn; rw [if_neg h0, if_neg q] at hn; cases hn
            have : i = (k + x.items.length).toNat := by rw [seqIndex_neg (by omega) h1] at hi; cases hi; rfl
            subst this
            exact wpAny_getItem_list_neg hL.isList (by omega) (by rw [hlen]; exact h1) (by have := h.1.1; omega) (by rw [hlen]; simpa using hv1) (res_pure S hv2 h.2)
    | tup hT hvs =>
      simp only [opItem] at h
      rename_i aa vs nn ps
      cases hn : nth ps k with
      | none => simp [hn] at h
      | some p =>
        simp only [hn] at h
        obtain ⟨i, hi, hx⟩ := nth_seq hn
        obtain ⟨v, hv1, hv2⟩ := hvs.get hx
        have hlen : vs.length = ps.length := hvs.length
        exact PySem.P.getItem_tuple hT (by have := h.1.1; omega) (by have := h.1.2; omega) (by simpa [hlen] using hi) (by simpa using hv1) (res_pure S hv2 h.2)
    | str x t hx =>
      simp only [opItem] at h
      cases hn : nth x k with
      | none => simp [hn] at h
      | some ch =>
        simp only [hn] at h
        obtain ⟨i, hi, hx'⟩ := nth_seq hn
        refine PyProof.Rows.getItem_str ?_ (c := ch) ?_ (res_tok (p := .str [ch]) S (.str [ch] _ ?_) h.2)
        · have := h.1.1; have := h.1.2
          simp; omega
        · rw [str_len, hi]; simpa using hx'
        · have := List.mem_of_getElem? hx'
          simpa using hx ch this
    | _ => exact h.elim
  | _ => cases h1 <;> exact h.elim

theorem typ_get {H : AH} {s : Shared} {v : Value} {p : PV} {k : Int} {Q : PV → AH → Prop} (h1 : VRel s.heap v p) (S : St c.base H s) (h : ∃ a x, (p = .ref a ∧ H a = some x) ∨ (∃ ps, p = .tup ps) ∨ ∃ y, p = .str y) :
    ∃ T id, s.TypeIs v T ∧ typeLookup (.type T) "__getitem__" = pure (some (.builtin id)) := by
  obtain ⟨a, x, ⟨rfl, ha⟩ | ⟨ps, rfl⟩ | ⟨y, rfl⟩⟩ := h
  · cases h1
    obtain ⟨vs, j, hL, hv⟩ := S.hr.list a x ha
    exact ⟨"list", _, ⟨_, hL, rfl⟩, list_getitem_lookup⟩
  · cases h1 with
    | tup hT _ => exact ⟨"tuple", _, ⟨_, hT, rfl⟩, F.slot_tuple_getitem.lookup⟩
  · cases h1
    exact ⟨"str", _, typeIs_str _ _ _, F.slot_str_getitem.lookup⟩

theorem sub_any {M : Model} {A : Around} {env : Env} {s : Shared} {E : Value → Shared → Prop} {value slice : Expr} {pos : Pos} {Q : Value → Shared → Prop} {prog : Program} {w : World}
    (h : wpAny (model prog w) A (eval value env) (fun o s₁ => wpAny (model prog w) A (eval slice env) (fun i s₂ => (∃ T id, s₂.TypeIs o T ∧ typeLookup (.type T) "__getitem__" = pure (some (.builtin id))) ∧ wpAny (model prog w) A (getItem o i) Q E s₂) E s₁) E s) :
    wpAny (model prog w) A (eval (.Subscript value slice pos) env) Q E s := by
  rw [eval_Subscript]
  refine wpAny_bind (wpAny_mono h (fun o s1 h1 => wpAny_bind (wpAny_holding (wpAny_mono h1 (fun i s2 ⟨⟨T, id, hT, hl⟩, h2⟩ => ?_) fun _ _ x => x))) fun _ _ x => x)
  refine wpAny_bind (wpAny_standAt ?_)
  rw [getitemInPython_of_ne hT.not_modules]
  refine wpAny_bind (wpAny_bind (wpAny_specialOf hT hl (wpAny_pure ?_)))
  have e : subscripted slice false o i = operate [i, o] (getItem o i) ∨ subscripted slice false o i = operate [o, i] (getItem o i) := by
    unfold subscripted; split <;> simp_all
  rcases e with e | e <;> rw [e] <;>
  exact wpAny_bind (wpAny_operating (wpAny_mono h2 (fun r s3 h3 => wpAny_bind (wpAny_letTemporaryGo (wpAny_pure h3))) fun _ _ x => x))
theorem sound_sub {value slice : Expr} {pos : Pos} {ao ai : AE} (ho : SoundE c n sc value ao) (hi : SoundE c n sc slice ai) : SoundE c n sc (.Subscript value slice pos) (aBin opItem ao ai) := by
  intro A env ρ H s Q E hA he R S q
  refine sub_any (M := model c.prog c.w) (seq2 (F := fun a b H2 => opItem a b Q H2) ho hi hA he R S q ?_)
  intro va vb a b H2 s2 h1 h2 R2 S2 e2 q2
  refine ⟨typ_get (k := 0) (Q := Q) h1 S2 ?_, wpAny_mono (op_item A H2 s2 va vb a b Q E hA h1 h2 S2 q2) (fun _ _ r => r.trans e2) fun _ _ x => x⟩
  unfold opItem at q2
  split at q2
  · rename_i l k
    cases ha : H2 l with
    | none => rw [ha] at q2; exact q2.elim
    | some x => exact ⟨l, x, .inl ⟨rfl, ha⟩⟩
  · exact ⟨0, ⟨[], true⟩, .inr (.inl ⟨_, rfl⟩)⟩
  · exact ⟨0, ⟨[], true⟩, .inr (.inr ⟨_, rfl⟩)⟩
  · exact q2.elim
end
end Mine
open PySem PySem.W PySem.Calls PyProof.Rows
set_option Elab.async false
set_option linter.unusedVariables false
namespace Mine
section
variable {c : Cx} {n : Nat} {sc : SE}

-- writing lists
theorem set_isL {prog : Program} {w : World} {A : Around} {E : Value → Shared → Prop} {s : Shared} {l : Addr} {items : Array Value} {m : Nat} {k : Int} {t : Tok} {v : Value} {Q : Unit → Shared → Prop} (hl : IsL s.heap l items m)
    (h0 : 0 ≤ k) (hfit : k < 2 ^ 63) (hn : k < items.size) (hQ : Q () { s with heap := s.heap.update l (Obj.mapSeq (·.setIfInBounds k.toNat v)) }) :
    wpAny (model prog w) A (setItem (.ref l) (.int k t) v) Q E s := by
  unfold setItem
  refine wpAny_holding ?_
  refine wpAny_bind (wpAny_sequenceKey hl.isList.typeIs (by decide) ?_)
  refine wpAny_bind (wpAny_callSpecial?_slot (name := Str.ofString "__setitem__") hl.isList.typeIs slot_list_setitem
    (wpAny_call_entry slot_list_setitem hl.isList.typeIs entry_list_setitem ?_ (args_list_setitem _ _ _)))
  show wpAny _ _ (Builtin.List.listSubscript? (.int k t) >>= _) _ _ s
  refine wpAny_bind (wpAny_listSubscript_int (fitsIndex_of h0 hfit) ?_)
  obtain ⟨j, rfl⟩ := Int.eq_ofNat_of_zero_le h0
  have hj : j < items.size := by omega
  have hx' : items[j]? = some items[j] := Array.getElem?_eq_getElem hj
  show wpAny _ _ ((seqItemAt l j >>= fun r => pure (r.map (j, ·))) >>= _) _ _ s
  refine wpAny_bind (wpAny_bind (wpAny_seqItemAt hl rfl (wpAny_pure ?_)))
  rw [hx']
  show wpAny _ _ (setSeqItemAt l j v >>= _) _ _ s
  refine wpAny_bind (wpAny_setSeqItemAt hl rfl ?_)
  first
    | exact wpAny_bind (wpAny_pure (wpAny_pure ⟨.none, rfl, wpAny_pure hQ⟩))
    | exact wpAny_pure ⟨.none, rfl, wpAny_pure hQ⟩

theorem res_set {H : AH} {s : Shared} {Q : PV → AH → Prop} {a : Addr} {x : LO} {items : Array Value} {m : Nat} {f : Array Value → Array Value} {ps : List PV} {v : Value} {p : PV} (S : St c.base H s) (hx : H a = some x) (ho : x.own = true) (hl : IsL s.heap a items m) (hv : VAll s.heap (f items).toList ps)
    (hr : VRel s.heap v p) (q : Q p (upd H a ⟨ps, true⟩)) : Res c H s Q v { s with heap := s.heap.update a (Obj.mapSeq f) } := by
  have hs := Heap.SameBut.update s.heap a (Obj.mapSeq f)
  have e : Ext No No H s (upd H a ⟨ps, true⟩) { s with heap := s.heap.update a (Obj.mapSeq f) } := Ext.setList (tk := s.toks) hx ho hs
  exact ⟨p, _, hr.ext0 S e, S.setList (tk := s.toks) hx ho (hl.update f) hs hv, e, q⟩

/-- a list of ours that may be written -/
def withOwn (p : PV) (k : Nat → List PV → Prop) (H : AH) : Prop := match p with
  | .ref a => (match H a with | some x => x.own = true ∧ k a x.items | none => False)
  | _ => False
theorem withOwn_elim {p : PV} {k : Nat → List PV → Prop} {H : AH} (h : withOwn p k H) : ∃ a x, p = .ref a ∧ H a = some x ∧ x.own = true ∧ k a x.items := by
  unfold withOwn at h
  split at h
  · rename_i a
    cases ha : H a with
    | none => rw [ha] at h; exact h.elim
    | some x => rw [ha] at h; exact ⟨a, x, rfl, ha, h.1, h.2⟩
  · exact h.elim

def setAt (o i p : PV) (Q : AH → Prop) (H : AH) : Prop := match i with
  | .int k => withOwn o (fun a xs => (0 ≤ k ∧ k ≤ 1000000000 ∧ k < xs.length) ∧ Q (upd H a ⟨xs.set k.toNat p, true⟩)) H
  | _ => False
theorem set_sound {A : Around} {H : AH} {s : Shared} {vo vi v : Value} {o i p : PV} {Q : AH → Prop} {E : Value → Shared → Prop} {P : Unit → Shared → Prop} (h1 : VRel s.heap vo o) (h2 : VRel s.heap vi i) (h3 : VRel s.heap v p) (S : St c.base H s) (h : setAt o i p Q H)
    (k : ∀ H' s', St c.base H' s' → Ext No No H s H' s' → Q H' → P () s') : wpAny (model c.prog c.w) A (setItem vo vi v) P E s := by
  unfold setAt at h
  split at h
  · rename_i j
    cases h2 with
    | int _ t =>
      obtain ⟨a, x, rfl, ha, ho, ⟨b1, b2, b3⟩, q⟩ := withOwn_elim h
      cases h1
      obtain ⟨vs, m, hL, hv⟩ := S.hr.list a x ha
      have hlen : vs.size = x.items.length := by simpa using hv.length
      refine set_isL hL b1 (by omega) (by omega) ?_
      have := res_set (c := c) (Q := fun _ H' => Q H') (f := (·.setIfInBounds j.toNat v)) (ps := x.items.set j.toNat p) S ha ho hL (by simpa using hv.set h3 j.toNat) .none q
      obtain ⟨_, H', _, S', e', q'⟩ := this
      exact k H' _ S' e' q'
  · exact h.elim
def gSub (ao ai : AE) : ATg := fun p Q ρ H => ao (fun o H1 => ai (fun i H2 => setAt o i p (fun H3 => Q ρ H3) H2) ρ H1) ρ H
theorem assign_sub (o i : Expr) (pos : Pos) (env : Env) (v : Value) : ∃ l : Value → Value → List Value, assign (.Subscript o i pos) env v = (do
    let ov ← holding [v] (eval o env)
    let iv ← holding [v, ov] (eval i env)
    standAt pos
    holding [v, ov, iv] (setItem ov iv v)
    release (l ov iv) []) := ⟨fun ov iv => (match i with | .Slice _ _ none _ => [iv, v, ov] | _ => [v, ov, iv]), rfl⟩
theorem tgt_sub {o i : Expr} {pos : Pos} {ao ai : AE} (ho : SoundE c n sc o ao) (hi : SoundE c n sc i ai) : SoundA c n sc (.Subscript o i pos) (gSub ao ai) := by
  intro A env ρ H s v p Q P E hA he R S hv q h
  obtain ⟨l, el⟩ := assign_sub o i pos env v
  rw [el]
  refine wpAny_bind (wpAny_holding (seq1 (F := fun o H1 => ai (fun i H2 => setAt o i p (fun H3 => Q ρ H3) H2) ρ H1) ho hA he R S q fun vo o H1 s1 h1 R1 S1 e1 q1 => ?_))
  refine wpAny_bind (wpAny_holding (seq1 (F := fun i H2 => setAt o i p (fun H3 => Q ρ H3) H2) hi hA he R1 S1 q1 fun vi i H2 s2 h2 R2 S2 e2 q2 => ?_))
  refine wpAny_bind (wpAny_standAt (wpAny_bind (wpAny_holding (set_sound (h1.ext0 S1 e2) h2 ((hv.ext0 S e1).ext0 S1 e2) S2 q2 fun H3 s3 S3 e3 q3 => wp_rel ?_))))
  exact h ρ H3 s3 (R2.ext0 S2 e3) S3 ((e1.trans e2).trans e3).of_no q3

-- rows of targets
def gTup (gs : List ATg) : ATg := fun p Q ρ H => match p with
  | .tup ps => ps.length = gs.length ∧ go gs ps Q ρ H
  | _ => False
where
  go : List ATg → List PV → (AEnv → AH → Prop) → AEnv → AH → Prop
    | g :: gs, p :: ps, Q, ρ, H => g p (fun ρ1 H1 => go gs ps Q ρ1 H1) ρ H
    | _, _, Q, ρ, H => Q ρ H
inductive SoundAs (c : Cx) (n : Nat) (sc : SE) : List Expr → List ATg → Prop
  | nil : SoundAs c n sc [] []
  | cons {t : Expr} {ts : List Expr} {g : ATg} {gs : List ATg} : SoundA c n sc t g → (∀ env, assignEach (t :: ts) env = (false, assign t env) :: assignEach ts env) → SoundAs c n sc ts gs → SoundAs c n sc (t :: ts) (g :: gs)
theorem SoundAs.length {ts : List Expr} {gs : List ATg} (h : SoundAs c n sc ts gs) (env : Env) : (assignEach ts env).length = gs.length ∧ (assignEach ts env).findIdx? (·.1) = none := by
  induction h with
  | nil => exact ⟨rfl, rfl⟩
  | cons h1 h2 h3 ih => rw [h2]; exact ⟨by simp [ih.1], by simp [List.findIdx?_cons, ih.2]⟩
theorem assign_row {A : Around} {env : Env} (hA : AOk n A) (he : EOk sc A env) {P : Unit → Shared → Prop} {E : Value → Shared → Prop} : ∀ {ts : List Expr} {gs : List ATg}, SoundAs c n sc ts gs → ∀ (ρ : AEnv) (H : AH) (s : Shared) (vs : List Value) (ps : List PV) (Q : AEnv → AH → Prop), ER c.base c.N env ρ s.heap → St c.base H s → VAll s.heap vs ps → ps.length = gs.length → gTup.go gs ps Q ρ H →
    (∀ ρ' H' s', ER c.base c.N env ρ' s'.heap → St c.base H' s' → Ext (Own env) No H s H' s' → Q ρ' H' → P () s') → wpAny (model c.prog c.w) A (assignInOrder ((assignEach ts env).map (·.2)) vs) P E s := by
  intro ts gs h
  induction h with
  | nil =>
    intro ρ H s vs ps Q R S hv hl q k
    cases hv with
    | nil => exact wpAny_pure (k ρ H s R S .refl q)
    | cons _ _ => simp at hl
  | @cons t ts g gs h1 h2 h3 ih =>
    intro ρ H s vs ps Q R S hv hl q k
    cases hv with
    | nil => simp at hl
    | @cons v p vs ps hv hr =>
      rw [h2]
      show wpAny _ _ (holding vs (assign t env v) >>= fun _ => assignInOrder ((assignEach ts env).map (·.2)) vs) _ _ _
      refine wpAny_bind (wpAny_holding (h1 A env ρ H s v p _ _ _ hA he R S hv q fun ρ1 H1 s1 R1 S1 e1 q1 => ?_))
      exact ih ρ1 H1 s1 vs ps Q R1 S1 (hr.ext S e1 (own_no_imm R)) (by simpa using hl) q1 fun ρ' H' s' R' S' e' q' => k ρ' H' s' R' S' (e1.trans e') q'
theorem tgt_tup {ts : List Expr} {gs : List ATg} {k : Nat} {pos : Pos} (h : SoundAs c n sc ts gs) : SoundA c n sc (.Tuple ts k pos) (gTup gs) := by
  intro A env ρ H s v p Q P E hA he R S hv q kk
  cases hv with
  | tup hT hvs =>
    obtain ⟨ql, q⟩ := q
    rename_i a vs m ps
    have hlen := h.length env
    show wpAny _ _ (do standAt pos; unpack (.ref a) (assignEach ts env)) _ _ _
    unfold unpack
    rw [hlen.1, hlen.2]
    have hsz : gs.length = vs.toArray.size := by simp [hvs.length, ql]
    rw [hsz]
    refine wpAny_bind (wpAny_standAt (wpAny_bind (wpAny_holding (wpAny_grow (wpAny_unpackItems_tuple hA.handled ⟨_, hT, rfl, _, rfl⟩ fun h' hx hg => ?_)))))
    have hk : ∀ b o, s.heap.get? b = some o → h'.get? b = some o := fun b o hb => hx b o (Nat.ne_of_lt (Heap.lt_size hb)) hb
    have S1 : St c.base H { s with heap := h' } := S.of_keep (X := No) (tk := s.toks) (fun b o _ h => hk b o h) (fun _ h => h.elim) (fun _ h => h.elim) (fun _ h => h.elim)
    have e1 : Ext No No H s H { s with heap := h' } := Ext.of_keep (tk := s.toks) (fun b o _ h => hk b o h) hg.1
    exact assign_row hA he h ρ H { s with heap := h' } _ _ _ (R.ext0 S e1) S1 (by simpa using hvs.ext0 S e1) ql q fun ρ' H' s' R' S' e' q' => kk ρ' H' s' R' S' (e1.of_no.trans e') q'
  | _ => exact q.elim
end
end Mine
open PySem PySem.W PySem.Calls PyProof.Rows
set_option Elab.async false
set_option linter.unusedVariables false
namespace Mine
section
variable {c : Cx} {n : Nat} {sc : SE}

-- slices
def slcG {α : Type} (xs : List α) (lo hi st : Option Int) : List α := (sliceRange (sliceBounds lo hi st xs.length).1 (sliceBounds lo hi st xs.length).2.1 (sliceBounds lo hi st xs.length).2.2).filterMap (xs[·]?)
def slc {α : Type} (xs : List α) (lo hi : Option Int) : List α := (xs.drop (lo.elim 0 (clipAt xs.length))).take (hi.elim xs.length (clipAt xs.length) - lo.elim 0 (clipAt xs.length))
theorem clipAt_le (n : Nat) (i : Int) : clipAt n i ≤ n := by unfold clipAt; split <;> omega
theorem slcG_plain {α : Type} (xs : List α) (lo hi : Option Int) : slcG xs lo hi none = slc xs lo hi := by
  unfold slcG slc
  rw [sliceBounds_plain]
  simp only
  rw [sliceRange_one]
  have := pick_run xs.toArray (lo.elim 0 (clipAt xs.length)) (hi.elim xs.length (clipAt xs.length) - lo.elim 0 (clipAt xs.length))
  simpa using this
theorem VAll.picks {h : Heap} {vs : List Value} {ps : List PV} (hv : VAll h vs ps) : ∀ is : List Nat, VAll h (is.filterMap (vs[·]?)) (is.filterMap (ps[·]?))
  | [] => .nil
  | i :: is => by
    rw [List.filterMap_cons, List.filterMap_cons]
    cases hp : ps[i]? with
    | none =>
      have : vs[i]? = none := by
        rw [List.getElem?_eq_none_iff] at hp ⊢; rw [hv.length]; exact hp
      rw [this]; exact hv.picks is
    | some p =>
      obtain ⟨v, h1, h2⟩ := hv.get hp
      rw [h1]; exact .cons h2 (hv.picks is)
def partOf : PV → Option (Option Int)
  | .none => some none
  | .int i => some (some i)
  | _ => none
def opSlice (o l u st : PV) (Q : PV → AH → Prop) (H : AH) : Prop := match partOf l, partOf u, partOf st with
  | some l, some u, some st => (match o with
    | .ref a => (match H a with | some x => (st ≠ some 0 ∧ szOk x.items.length) ∧ newL (slcG x.items l u st) Q H | none => False)
    | .str x => (st = none ∧ szOk x.length) ∧ Q (.str (slc x l u)) H
    | _ => False)
  | _, _, _ => False
theorem part_is {h : Heap} {v : Value} {p : PV} {k : Option Int} (hv : VRel h v p) (hp : partOf p = some k) : IsPart v k ∧ ∃ q : Option (Int × Tok), v = partValue q ∧ q.map (·.1) = k := by
  cases hv <;> simp [partOf] at hp
  · subst hp; exact ⟨.none, none, rfl, rfl⟩
  · subst hp; exact ⟨.int _ _, some (_, _), rfl, rfl⟩
theorem slc_full {α : Type} {xs : List α} {lo hi : Option Int} (h : (slc xs lo hi).length = xs.length) : slc xs lo hi = xs := by
  unfold slc at *
  generalize lo.elim 0 (clipAt xs.length) = a at *
  generalize hi.elim xs.length (clipAt xs.length) = b at *
  simp at h
  cases xs with
  | nil => simp
  | cons x xs =>
    have ha : a = 0 := by simp at h; omega
    subst ha
    have hb : (x :: xs).length ≤ b := by simp at h ⊢; omega
    rw [List.drop_zero, Nat.sub_zero, List.take_of_length_le hb]
theorem mem_slc {α : Type} {xs : List α} {lo hi : Option Int} {x : α} (h : x ∈ slc xs lo hi) : x ∈ xs := List.mem_of_mem_drop (List.mem_of_mem_take h)

theorem slice_sound {A : Around} {H : AH} {s : Shared} {vo vl vu vs : Value} {o l u st : PV} {Q : PV → AH → Prop} {E : Value → Shared → Prop} (h0 : VRel s.heap vo o) (h1 : VRel s.heap vl l) (h2 : VRel s.heap vu u) (h3 : VRel s.heap vs st) (S : St c.base H s) (h : opSlice o l u st Q H) :
    (∃ T id, ({ s with heap := s.heap.push { cls := .type "slice", data := .fields #[vl, vu, vs] } } : Shared).TypeIs vo T ∧ typeLookup (.type T) "__getitem__" = pure (some (.builtin id))) ∧
    wpAny (model c.prog c.w) A (getItem vo (.ref s.heap.objs.size)) (Res c H s Q) E { s with heap := s.heap.push { cls := .type "slice", data := .fields #[vl, vu, vs] } } := by
  unfold opSlice at h
  split at h
  · rename_i l' u' st' el eu es
    obtain ⟨p1, q1, r1, t1⟩ := part_is h1 el
    obtain ⟨p2, q2, r2, t2⟩ := part_is h2 eu
    obtain ⟨p3, q3, r3, t3⟩ := part_is h3 es
    have S1 := S.push { cls := .type "slice", data := .fields #[vl, vu, vs] }
    have e1 : Ext No No H s H { s with heap := s.heap.push { cls := .type "slice", data := .fields #[vl, vu, vs] } } := Ext.push _
    split at h
    · rename_i a
      cases h0
      cases ha : H a with
      | none => rw [ha] at h; exact h.elim
      | some x =>
        rw [ha] at h
        obtain ⟨⟨k1, k2⟩, k3⟩ := h
        obtain ⟨ws, m, hL, hv⟩ := S1.hr.list a x ha
        have hlen : ws.size = x.items.length := by simpa using hv.length
        refine ⟨⟨"list", _, ⟨_, hL, rfl⟩, list_getitem_lookup⟩, ?_⟩
        refine wpAny_getItem_list_slice (hL.isList) (Heap.IsSliceOf.new _ _ _ _) p1 p2 p3 k1 ((res_list S1 ?_ k3).trans e1) (by rw [hlen]; exact sz_line k2)
        have := hv.picks (sliceRange (sliceBounds l' u' st' x.items.length).1 (sliceBounds l' u' st' x.items.length).2.1 (sliceBounds l' u' st' x.items.length).2.2)
        unfold slicePick
        rw [hlen]
        simpa [slcG] using this
    · rename_i x
      cases h0 with
      | str _ t hx =>
        obtain ⟨⟨k1, k2⟩, k3⟩ := h
        subst k1
        refine ⟨⟨"str", _, typeIs_str _ _ _, F.slot_str_getitem.lookup⟩, ?_⟩
        subst r1 r2 r3
        have hq3 : q3 = none := by cases q3 with | none => rfl | some _ => simp at t3
        subst hq3
        refine wpAny_getItem_str_slice (l := q1) (u := q2) (st := none) ⟨_, Heap.get?_push_size _ rfl, rfl, rfl⟩ rfl ?_
        unfold sliceMade
        have ep : slicePicked ⟨x.toArray⟩ q1 q2 none = sliceRange (sliceBounds l' u' none x.length).1 (sliceBounds l' u' none x.length).2.1 (sliceBounds l' u' none x.length).2.2 := by
          unfold slicePicked; rw [t1, t2, str_len]; rfl
        have ef : (slicePicked ⟨x.toArray⟩ q1 q2 none).filterMap ((⟨x.toArray⟩ : Str).cps[·]?) = slc x l' u' := by
          rw [ep, ← slcG_plain]; unfold slcG; simp
        have elen : (slicePicked ⟨x.toArray⟩ q1 q2 none).length = (slc x l' u').length := by
          rw [ep, sliceBounds_plain]
          simp only
          rw [sliceRange_one]
          have b1 : l'.elim 0 (clipAt x.length) ≤ x.length := by cases l' with | none => simp | some i => exact clipAt_le _ _
          have b2 : u'.elim x.length (clipAt x.length) ≤ x.length := by cases u' with | none => simp | some i => exact clipAt_le _ _
          simp [slc]; omega
        rw [ef]
        split
        · rename_i hc
          have hl : (slc x l' u').length = x.length := by
            rw [← elen]; simpa [str_len] using hc
          rw [slc_full hl] at k3
          exact ⟨_, H, .str x t hx, S1, e1, k3⟩
        · refine ⟨?_, _, H, .str (slc x l' u') _ (fun ch hch => hx ch (mem_slc hch)), S1.tok _, e1.trans (.tok _), k3⟩
          rw [str_len]
          have : (slc x l' u').length ≤ x.length := by simp [slc]; omega
          exact Nat.le_trans this (sz_line k2)
    · exact h.elim
  · exact h.elim

def SoundP (c : Cx) (n : Nat) (sc : SE) (x : Option Expr) (a : AE) : Prop :=
  ∀ (A : Around) (env : Env) (ρ : AEnv) (H : AH) (s : Shared) (Q : PV → AH → Prop) (E : Value → Shared → Prop), AOk n A → EOk sc A env → ER c.base c.N env ρ s.heap → St c.base H s → a Q ρ H → wpAny (model c.prog c.w) A (evalPart x env) (Res c H s Q) E s
theorem part_none : SoundP c n sc none (aCst .none) := fun _ _ _ _ _ _ _ _ _ _ S h => wpAny_pure (res_pure S .none h)
theorem part_some {e : Expr} {a : AE} (h : SoundE c n sc e a) : SoundP c n sc (some e) a := fun A env ρ H s Q E hA he R S q => h A env ρ H s Q E hA he R S q
theorem seqP {A : Around} {env : Env} {ρ : AEnv} {H : AH} {s : Shared} {E : Value → Shared → Prop} {l : Option Expr} {al : AE} {P : Value → Shared → Prop} {F : PV → AH → Prop} (hl : SoundP c n sc l al) (hA : AOk n A) (he : EOk sc A env) (R : ER c.base c.N env ρ s.heap) (S : St c.base H s)
    (h : al F ρ H) (k : ∀ va a H1 s1, VRel s1.heap va a → ER c.base c.N env ρ s1.heap → St c.base H1 s1 → Ext No No H s H1 s1 → F a H1 → P va s1) :
    wpAny (model c.prog c.w) A (evalPart l env) P E s :=
  wpAny_mono (hl A env ρ H s _ E hA he R S h) (fun va s1 rr => rr.elim fun a H1 h1 S1 e1 q1 => k va a H1 s1 h1 (R.ext0 S e1) S1 e1 q1) fun _ _ x => x
def aSlice (o l u st : AE) : AE := fun Q ρ H => o (fun po H1 => l (fun pl H2 => u (fun pu H3 => st (fun pst H4 => opSlice po pl pu pst Q H4) ρ H3) ρ H2) ρ H1) ρ H
theorem sound_slice {o : Expr} {l u st : Option Expr} {p pos : Pos} {ao al au ast : AE} (ho : SoundE c n sc o ao) (hl : SoundP c n sc l al) (hu : SoundP c n sc u au) (hst : SoundP c n sc st ast) : SoundE c n sc (.Subscript o (.Slice l u st p) pos) (aSlice ao al au ast) := by
  intro A env ρ H s Q E hA he R S q
  refine sub_any (M := model c.prog c.w) (seq1 (F := fun po H1 => al (fun pl H2 => au (fun pu H3 => ast (fun pst H4 => opSlice po pl pu pst Q H4) ρ H3) ρ H2) ρ H1) ho hA he R S q fun vo po H1 s1 h1 R1 S1 e1 q1 => ?_)
  refine wpAny_Slice (seqP (F := fun pl H2 => au (fun pu H3 => ast (fun pst H4 => opSlice po pl pu pst Q H4) ρ H3) ρ H2) hl hA he R1 S1 q1 fun vl pl H2 s2 h2 R2 S2 e2 q2 => ?_)
  refine seqP (F := fun pu H3 => ast (fun pst H4 => opSlice po pl pu pst Q H4) ρ H3) hu hA he R2 S2 q2 fun vu pu H3 s3 h3 R3 S3 e3 q3 => ?_
  refine seqP (F := fun pst H4 => opSlice po pl pu pst Q H4) hst hA he R3 S3 q3 fun vs pst H4 s4 h4 R4 S4 e4 q4 => ?_
  obtain ⟨k1, k2⟩ := slice_sound (A := A) (E := E) (((h1.ext0 S1 e2).ext0 S2 e3).ext0 S3 e4) ((h2.ext0 S2 e3).ext0 S3 e4) (h3.ext0 S3 e4) h4 S4 q4
  exact ⟨k1, wpAny_mono k2 (fun _ _ r => r.trans (((e1.trans e2).trans e3).trans e4)) fun _ _ x => x⟩

-- methods
def kList (p : PV) (H : AH) : Prop := match p with | .ref a => (match H a with | some _ => True | none => False) | _ => False
def kStr (p : PV) (_ : AH) : Prop := match p with | .str _ => True | _ => False
def aMeth (K : PV → AH → Prop) (f : AF) (o : AE) (l : AL) : AE := fun Q ρ H => o (fun p H1 => K p H1 ∧ l (fun ps H2 => f (p :: ps) Q H2) ρ H1) ρ H
end
end Mine
open PySem PySem.W PySem.Calls PyProof.Rows
set_option Elab.async false
set_option linter.unusedVariables false
namespace Mine
section
variable {c : Cx} {n : Nat} {sc : SE}

theorem res_newL {H : AH} {s : Shared} {Q : PV → AH → Prop} {a : Addr} {vs : Array Value} {m : Nat} {ps : List PV} {h' : Heap} {tk : Nat} (S : St c.base H s) (hk : ∀ b o, s.heap.get? b = some o → h'.get? b = some o) (hl : IsL h' a vs m) (ha : s.heap.objs.size ≤ a) (hv : VAll s.heap vs.toList ps)
    (q : newL ps Q H) : Res c H s Q (.ref a) { s with heap := h', toks := tk } := by
  have hz : s.heap.objs.size ≤ h'.objs.size := Nat.le_of_lt (Nat.lt_of_le_of_lt ha (Heap.lt_size hl))
  refine ⟨.ref a, upd H a ⟨ps, true⟩, .ref a, ⟨⟨fun b o h => hk b o (S.hr.keep b o h), fun b x h => ?_, fun b x h ho => ?_⟩, S.bare⟩, ⟨fun b o h _ _ => hk b o h, hz, fun b x h => ?_, fun _ _ h _ => h, Nat.le_refl _, rfl⟩, q a (S.fresh ha)⟩
  · by_cases e : b = a
    · subst e; rw [upd_same] at h; cases h; exact ⟨vs, m, hl, hv.mono fun b o h => hk b o h.1⟩
    · rw [upd_other _ _ e] at h
      obtain ⟨ws, k, hl', hw⟩ := S.hr.list b x h
      exact ⟨ws, k, hk _ _ hl', hw.mono fun b o h => hk b o h.1⟩
  · by_cases e : b = a
    · subst e; exact S.bsize ha
    · rw [upd_other _ _ e] at h; exact S.hr.new b x h ho
  · by_cases e : b = a
    · subst e; exact .inr ha
    · rw [upd_other _ _ e] at h; exact .inl ⟨x, h, rfl⟩

def fLen : AF := fun ps Q H => match ps with
  | [.ref a] => (match H a with | some x => szOk x.items.length ∧ Q (.int x.items.length) H | none => False)
  | [.str x] => szOk x.length ∧ Q (.int x.length) H
  | [.tup xs] => szOk xs.length ∧ Q (.int xs.length) H
  | _ => False
theorem bi_len : SoundV c n (.builtin "len") fLen := by
  intro A H s vs ps Q E hA hv S q
  unfold fLen at q
  split at q
  · cases hv with
    | cons h1 h2 =>
      cases h2; cases h1
      rename_i a
      cases ha : H a with
      | none => rw [ha] at q; exact q.elim
      | some x =>
        rw [ha] at q
        obtain ⟨ws, m, hL, hw⟩ := S.hr.list a x ha
        have hlen : ws.size = x.items.length := by simpa using hw.length
        have := q.1; simp only [szOk] at this
        refine call_len_list hL.isList (by omega) ?_
        rw [hlen]; exact res_tok S (.int _ _) q.2
  · cases hv with
    | cons h1 h2 =>
      cases h2; cases h1
      have := q.1; simp only [szOk] at this
      refine PyProof.Rows.len_str (by rw [str_len]; omega) ?_
      rw [str_len]; exact res_tok S (.int _ _) q.2
  · cases hv with
    | cons h1 h2 =>
      cases h2
      cases h1 with
      | tup hT hvs =>
        have := q.1; simp only [szOk] at this
        have hlen := hvs.length
        refine PySem.P.len_tuple hT (by simp; omega) ?_
        simp only [List.size_toArray, hlen]
        exact res_tok S (.int _ _) q.2
  · exact q.elim
def fRange : AF := fun ps Q H => match ps with
  | [.int k] => Q (.rng 0 k) H
  | [.int a, .int b] => Q (.rng a b) H
  | _ => False
theorem bi_range : SoundV c n (.type "range") fRange := by
  intro A H s vs ps Q E hA hv S q
  unfold fRange at q
  split at q
  · cases hv with
    | cons h1 h2 =>
      cases h2; cases h1
      exact call_range_1 ⟨_, H, .rng (IsRange.new ..), ((S.push _).tok _), (Ext.push _).trans (.tok _), q⟩
  · cases hv with
    | cons h1 h2 =>
      cases h2 with
      | cons h2 h3 =>
        cases h3; cases h1; cases h2
        exact call_range_2 ⟨_, H, .rng (IsRange.new ..), ((S.push _).tok _), (Ext.push _).trans (.tok _), q⟩
  · exact q.elim
def fList : AF := fun ps Q H => match ps with
  | [.ref a] => (match H a with | some x => szOk x.items.length ∧ newL x.items Q H | none => False)
  | [.tup xs] => szOk xs.length ∧ newL xs Q H
  | _ => False
theorem bi_list : SoundV c n (.type "list") fList := by
  intro A H s vs ps Q E hA hv S q
  unfold fList at q
  split at q
  · cases hv with
    | cons h1 h2 =>
      cases h2; cases h1
      rename_i a
      cases ha : H a with
      | none => rw [ha] at q; exact q.elim
      | some x =>
        rw [ha] at q
        obtain ⟨ws, m, hL, hw⟩ := S.hr.list a x ha
        have hlen : ws.size = x.items.length := by simpa using hw.length
        exact call_list_seq a (.inl rfl) hL rfl rfl (fun h' c' hk hn => res_newL (tk := s.toks) S hk hn (Nat.le_refl _) hw q.2) (by rw [hlen]; exact sz_line q.1)
  · cases hv with
    | cons h1 h2 =>
      cases h2
      cases h1 with
      | tup hT hvs =>
        exact call_list_seq _ (.inr rfl) hT rfl rfl (fun h' c' hk hn => res_newL (tk := s.toks) S hk hn (Nat.le_refl _) (by simpa using hvs) q.2) (by simp [hvs.length]; exact sz_line q.1)
  · exact q.elim
def fTuple : AF := fun ps Q H => match ps with
  | [.ref a] => (match H a with | some x => szOk x.items.length ∧ Q (.tup x.items) H | none => False)
  | _ => False
theorem bi_tuple : SoundV c n (.type "tuple") fTuple := by
  intro A H s vs ps Q E hA hv S q
  unfold fTuple at q
  split at q
  · cases hv with
    | cons h1 h2 =>
      cases h2; cases h1
      rename_i a
      cases ha : H a with
      | none => rw [ha] at q; exact q.elim
      | some x =>
        rw [ha] at q
        obtain ⟨ws, m, hL, hw⟩ := S.hr.list a x ha
        have hlen : ws.size = x.items.length := by simpa using hw.length
        refine wpAny_grow (call_tuple_list hL.isList (fun h' hk hg => ?_) (by rw [hlen]; exact sz_line q.1))
        have hk' : ∀ b o, s.heap.get? b = some o → (h'.push { cls := .type "tuple", data := .seq ws }).get? b = some o := fun b o h => Heap.get?_push_of_some _ (hk b o h)
        refine ⟨.tup x.items, H, .tup (vs := ws.toList) (by simpa using IsT.new h' ws) (hw.mono fun b o h => hk' b o h.1), S.of_keep (X := No) (tk := s.toks) (fun b o _ h => hk' b o h) (fun _ h => h.elim) (fun _ h => h.elim) (fun _ h => h.elim), Ext.of_keep (tk := s.toks) (fun b o _ h => hk' b o h) hg.1, q.2⟩
  · exact q.elim

-- methods of lists
def fAppend : AF := fun ps Q H => match ps with
  | [o, p] => withOwn o (fun a xs => szOk xs.length ∧ Q .none (upd H a ⟨xs ++ [p], true⟩)) H
  | _ => False
theorem me_append : SoundV c n (.builtin "list.append") fAppend := by
  intro A H s vs ps Q E hA hv S q
  unfold fAppend at q
  split at q
  · cases hv with
    | cons h1 h2 =>
      cases h2 with
      | cons h2 h3 =>
        cases h3
        obtain ⟨a, x, rfl, ha, ho, q1, q2⟩ := withOwn_elim q
        cases h1
        obtain ⟨ws, m, hL, hw⟩ := S.hr.list a x ha
        have hlen : ws.size = x.items.length := by simpa using hw.length
        exact call_meets F.slot_list_append ⟨_, hL, rfl⟩ F.entry_list_append (F.args_list_append_2 _ _) (list_append a ws m _ (by rw [hlen]; exact sz_line q1)) ⟨hL, res_set (f := fun y => y.push _) S ha ho hL (by simpa using hw.append (.one h2)) .none q2⟩
  · exact q.elim
def fInsert : AF := fun ps Q H => match ps with
  | [o, .int k, p] => withOwn o (fun a xs => (szOk xs.length ∧ 0 ≤ k ∧ k ≤ xs.length) ∧ Q .none (upd H a ⟨xs.take k.toNat ++ p :: xs.drop k.toNat, true⟩)) H
  | _ => False
def fPop : AF := fun ps Q H => match ps with
  | [o] => withOwn o (fun a xs => szOk xs.length ∧ match xs.getLast? with | some p => Q p (upd H a ⟨xs.dropLast, true⟩) | none => False) H
  | [o, .int k] => withOwn o (fun a xs => (szOk xs.length ∧ 0 ≤ k) ∧ match xs[k.toNat]? with | some p => Q p (upd H a ⟨xs.eraseIdx k.toNat, true⟩) | none => False) H
  | _ => False
end
end Mine
open PySem PySem.W PySem.Calls PyProof.Rows
set_option Elab.async false
set_option linter.unusedVariables false
namespace Mine
section
variable {c : Cx} {n : Nat} {sc : SE}

-- augmented assignments
def opIAdd (a b : PV) (Q : PV → AH → Prop) (H : AH) : Prop := match a, b with
  | .int x, .int y => Q (.int (x + y)) H
  | .str x, .str y => szOk (x.length + y.length) ∧ Q (.str (x ++ y)) H
  | _, _ => False
def sAug (k : Nat) (f : PV → PV → (PV → AH → Prop) → AH → Prop) (a : AE) : AS := fun Q ρ H => match ρ k with
  | some p => a (fun b H1 => f p b (fun r H2 => Q .next (upd ρ k r) H2) H1) ρ H
  | none => False
def sAugSub (o i : AE) (f : PV → PV → (PV → AH → Prop) → AH → Prop) (a : AE) : AS := fun Q ρ H => o (fun po H1 => i (fun pi H2 => opItem po pi (fun old H3 => a (fun b H4 => f old b (fun r H5 => setAt po pi r (fun H6 => Q .next ρ H6) H5) H4) ρ H3) H2) ρ H1) ρ H
-- comprehensions
def relabelS (scope : Scope) (sc : SE) : Scope := { scope with names := scope.names.map fun (n, k) => if (k == .free && sc.kind == .function && sc.names.lookup n == some .cell) then (n, .cell) else (n, k) }
theorem relabel_eq {scope : Scope} {env : Env} (he : EOk0 sc env) : relabel scope env = relabelS scope sc := by
  unfold relabel relabelS Env.kindOf; rw [he.scope]
def freeOf (names : List (Str × NameKind)) : List Str := (names.filter (·.2 == .free)).map (·.1)
def clOf (env : Env) : List (Str × NameKind) → List (Str × Addr) → List (Str × Addr)
  | [], acc => acc
  | (x, k) :: r, acc => if k == .free then clOf env r ((x, (env.cells.lookup x).getD 0) :: acc) else clOf env r acc
theorem closure_eq {env : Env} {scope : Scope} (h : ∀ x ∈ freeOf scope.names, (env.cells.lookup x).isSome = true) : closureFor scope env = pure (clOf env scope.names []) := by
  have key : ∀ (names : List (Str × NameKind)) (acc : List (Str × Addr)), (∀ x ∈ freeOf names, (env.cells.lookup x).isSome = true) →
      (forIn names acc fun (x : Str × NameKind) cs => (if (x.2 == .free) = true then do let a ← cellOf env x.1; pure (ForInStep.yield ((x.1, a) :: cs)) else pure (ForInStep.yield cs) : Sem (ForInStep (List (Str × Addr))))) = pure (clOf env names acc) := by
    intro names
    induction names with
    | nil => intro acc _; rfl
    | cons x r ih =>
      intro acc hx
      obtain ⟨y, k⟩ := x
      rw [List.forIn_cons]
      unfold clOf
      by_cases hk : (k == .free) = true
      · simp only [hk, if_true]
        have hy : (env.cells.lookup y).isSome = true := hx y (by simp [freeOf, hk])
        obtain ⟨a, ha⟩ := Option.isSome_iff_exists.mp hy
        have : cellOf env y = pure a := by unfold cellOf; rw [ha]
        rw [this, ha]
        simp only [pure_bind, Option.getD_some]
        exact ih _ fun z hz => hx z (by simp only [freeOf, List.filter_cons, hk, if_true] at hz ⊢; simp; exact .inr (by simpa using hz))
      · simp only [hk, if_false, pure_bind]
        exact ih _ fun z hz => hx z (by simp only [freeOf, List.filter_cons, hk] at hz ⊢; simpa using hz)
  unfold closureFor
  have := key scope.names [] h
  simp only [bind_pure] 
  exact this
theorem clOf_sub {env : Env} : ∀ (names : List (Str × NameKind)) (acc : List (Str × Addr)), (∀ x ∈ freeOf names, (env.cells.lookup x).isSome = true) → (∀ p ∈ acc, env.cells.lookup p.1 = some p.2) → ∀ p ∈ clOf env names acc, env.cells.lookup p.1 = some p.2
  | [], acc, _, h, p, hp => h p hp
  | (x, k) :: r, acc, hx, h, p, hp => by
    unfold clOf at hp
    by_cases hk : (k == .free) = true
    · rw [if_pos hk] at hp
      have hy : (env.cells.lookup x).isSome = true := hx x (by simp [freeOf, hk])
      obtain ⟨a, ha⟩ := Option.isSome_iff_exists.mp hy
      refine clOf_sub r _ (fun z hz => hx z (by simp only [freeOf, List.filter_cons, hk, if_true] at hz ⊢; simp; exact .inr (by simpa using hz))) ?_ p hp
      intro q hq
      rcases List.mem_cons.mp hq with rfl | hq
      · simp [ha]
      · exact h q hq
    · rw [if_neg hk] at hp
      exact clOf_sub r _ (fun z hz => hx z (by simp only [freeOf, List.filter_cons, hk] at hz ⊢; simpa using hz)) h p hp
theorem clOf_mem {env : Env} {y : Str} : ∀ (names : List (Str × NameKind)) (acc : List (Str × Addr)), y ∈ freeOf names ∨ (∃ a, (y, a) ∈ acc) → ∃ a, (y, a) ∈ clOf env names acc
  | [], acc, h => by simpa [freeOf, clOf] using h
  | (x, k) :: r, acc, h => by
    unfold clOf
    by_cases hk : (k == .free) = true
    · rw [if_pos hk]
      refine clOf_mem r _ ?_
      rcases h with h | ⟨a, h⟩
      · simp only [freeOf, List.filter_cons, hk, if_true, List.map_cons, List.mem_cons] at h
        rcases h with rfl | h
        · exact .inr ⟨_, .head _⟩
        · exact .inl h
      · exact .inr ⟨a, .tail _ h⟩
    · rw [if_neg hk]
      refine clOf_mem r _ ?_
      rcases h with h | h
      · simp only [freeOf, List.filter_cons, hk] at h; exact .inl (by simpa [freeOf] using h)
      · exact .inr h
theorem lookup_of_mem {l : List (Str × Addr)} {y : Str} {a : Addr} (h : (y, a) ∈ l) : ∃ b, l.lookup y = some b := by
  induction l with
  | nil => cases h
  | cons p r ih =>
    obtain ⟨z, b⟩ := p
    rw [List.lookup_cons]
    by_cases e : (y == z) = true
    · rw [e]; exact ⟨b, rfl⟩
    · simp only [Bool.not_eq_true] at e
      rw [e]
      rcases List.mem_cons.mp h with q | q
      · cases q; simp at e
      · exact ih q
theorem clOf_lookup {env : Env} {names : List (Str × NameKind)} (hx : ∀ x ∈ freeOf names, (env.cells.lookup x).isSome = true) {y : Str} (hy : y ∈ freeOf names) : (clOf env names []).lookup y = env.cells.lookup y := by
  obtain ⟨a, ha⟩ := clOf_mem (env := env) names [] (.inl hy)
  obtain ⟨b, hb⟩ := lookup_of_mem ha
  rw [hb]
  exact (clOf_sub names [] hx (fun _ h => nomatch h) _ (mem_of_lookup hb)).symm
theorem clOf_apart {env : Env} {base : Heap} (hA : env.cells.Pairwise fun x y => x.2 ≠ y.2) : ∀ (names : List (Str × NameKind)) (acc : List (Str × Addr)), (∀ x ∈ freeOf names, (env.cells.lookup x).isSome = true) → (freeOf names).Nodup → (∀ p ∈ acc, env.cells.lookup p.1 = some p.2 ∧ p.1 ∉ freeOf names) → acc.Pairwise (fun x y => x.2 ≠ y.2) → (clOf env names acc).Pairwise fun x y => x.2 ≠ y.2
  | [], acc, _, _, _, h => h
  | (x, k) :: r, acc, hx, hn, ha, h => by
    unfold clOf
    by_cases hk : (k == .free) = true
    · rw [if_pos hk]
      have ef : freeOf ((x, k) :: r) = x :: freeOf r := by simp [freeOf, hk]
      rw [ef] at hx hn ha
      obtain ⟨a, hxa⟩ := Option.isSome_iff_exists.mp (hx x (.head _))
      refine clOf_apart (base := base) hA r _ (fun z hz => hx z (.tail _ hz)) (List.nodup_cons.mp hn).2 ?_ ?_
      · intro p hp
        rcases List.mem_cons.mp hp with rfl | hp
        · exact ⟨by simp [hxa], (List.nodup_cons.mp hn).1⟩
        · exact ⟨(ha p hp).1, fun q => (ha p hp).2 (.tail _ q)⟩
      · refine List.pairwise_cons.mpr ⟨fun p hp e => ?_, h⟩
        have h1 := (ha p hp).1
        rw [hxa] at e
        simp only [Option.getD_some] at e
        have : x = p.1 := name_of_addr hA (mem_of_lookup hxa) (mem_of_lookup (by rw [h1, ← e]))
        exact (ha p hp).2 (this ▸ .head _)
    · rw [if_neg hk]
      have ef : freeOf ((x, k) :: r) = freeOf r := by simp [freeOf, hk]
      rw [ef] at hx hn ha
      exact clOf_apart (base := base) hA r _ hx hn ha h

def capt (ks : List Nat) (ρ : AEnv) : AEnv := fun k => if ks.contains k then ρ k else none
/-- the rest of a turn -/
abbrev AB := (AEnv → AH → Prop) → AEnv → AH → Prop
def compL (g : ATg) (t : AT) (b : AB) (G : AH → Prop) (Q : AEnv → AH → Prop) : List PV → AEnv → AH → Prop
  | [], ρ, H => Q ρ H
  | p :: ps, ρ, H => g p (fun ρ1 H1 => t (fun k H2 => if k then b (fun ρ3 H3 => G H3 ∧ compL g t b G Q ps ρ3 H3) ρ1 H2 else G H2 ∧ compL g t b G Q ps ρ1 H2) ρ1 H1) ρ H
def bEmit (e : AE) (a : Nat) : AB := fun Q ρ H => e (fun v H3 => fAppend [.ref a, v] (fun _ H4 => Q ρ H4) H3) ρ H
def aCompB (ks : List Nat) (g : ATg) (src : AE) (t : AT) (b : Nat → AB) : AE := fun Q ρ H => src (fun p H1 => withItems p (fun items G H2 => ∀ a, H2 a = none → G (upd H2 a ⟨[], true⟩) ∧ compL g t (b a) G (fun _ H3 => Q (.ref a) H3) items (capt ks ρ) (upd H2 a ⟨[], true⟩)) H1) ρ H
def aComp (ks : List Nat) (g : ATg) (src : AE) (t : AT) (e : AE) : AE := aCompB ks g src t fun a => bEmit e a
def SoundCond (c : Cx) (n : Nat) (sc : SE) (ifs : List Expr) (t : AT) : Prop :=
  ∀ (A : Around) (env : Env) (ρ : AEnv) (H : AH) (s : Shared) (Q : Bool → AH → Prop) (E : Value → Shared → Prop), AOk n A → EOk sc A env → ER c.base c.N env ρ s.heap → St c.base H s → t Q ρ H →
    wpAny (model c.prog c.w) A (forIn ifs true fun e r => if r = true then do let ok ← isTrue e env (eval e env); pure (ForInStep.yield ok) else pure (ForInStep.yield r)) (ResB c H s Q) E s
theorem cond_nil : SoundCond c n sc [] tTrue := fun A env ρ H s Q E hA he R S q => wpAny_tests_nil ⟨H, S, .refl, q⟩
def SoundEm (c : Cx) (n : Nat) (sc : SE) (m : Env → Sem Unit) (b : AB) : Prop :=
  ∀ (A : Around) (env : Env) (ρ : AEnv) (H : AH) (s : Shared) (Q : AEnv → AH → Prop) (P : Unit → Shared → Prop) (E : Value → Shared → Prop), AOk n A → EOk sc A env → ER c.base c.N env ρ s.heap → St c.base H s → b Q ρ H →
    (∀ ρ' H' s', ER c.base c.N env ρ' s'.heap → St c.base H' s' → Ext (Own env) No H s H' s' → Q ρ' H' → P () s') → wpAny (model c.prog c.w) A (m env) P E s
def emit (elt : Expr) (acc : Value) (env : Env) : Sem Unit := do let _ ← call (.builtin "list.append") [acc, ← eval elt env]
theorem em_emit {elt : Expr} {e : AE} (hel : SoundE c n sc elt e) (a : Addr) : SoundEm c n sc (emit elt (.ref a)) (bEmit e a) := by
  intro A env ρ H s Q P E hA he R S q h
  refine wpAny_bind (seq1 (F := fun v H3 => fAppend [.ref a, v] (fun _ H4 => Q ρ H4) H3) hel hA he R S q fun vx px H3 s3 h3 R3 S3 e3 q3 => ?_)
  refine wpAny_bind (wpAny_mono (me_append (c := c) (n := n) A H3 s3 [.ref a, vx] [.ref a, px] _ _ hA (.cons (.ref a) (.one h3)) S3 q3) (fun _ s4 rr => rr.elim fun _ H4 _ S4 e4 q4 => ?_) fun _ _ x => x)
  exact wpAny_pure (h ρ H4 s4 (R3.ext0 S3 e4) S4 (e3.trans e4).of_no q4)

/-- one turn of a comprehension's loop -/
def turnOf (W : Expr) (d : Nat) (tg : Expr) (ifs : List Expr) (p : Pos) (it acc : Value) (env : Env) (m : Sem Unit) : Sem Fin := do
  standAt p
  match ← pyNext it with
  | none => pure (.done .next)
  | some v =>
    letOwnedTupleGo tg it v
    assign tg env v
    let mut ok := true
    for c in ifs do
      if ok then ok ← isTrue c env (eval c env)
    if ok then m
    again (.compLoop W d it acc env)

theorem comp_loop {A : Around} {env : Env} {H₀ : AH} {s₀ s : Shared} {I : Addr} {P PG : Nat → Prop} {G : AH → Prop} {J : List PV → AH → Shared → Prop} {elt tg : Expr} {gens : List Comprehension} {scope : Scope} {pos : Pos} {d : Nat} {ip : Pos} {ifs : List Expr} {m : Env → Sem Unit} {g : ATg} {t : AT} {b : AB} {a : Addr} {Q : AEnv → AH → Prop} {RR : Result → Shared → Prop} {items : List PV} {H : AH} {ρ : AEnv}
    (it : Iter c n I P PG G J) (hT : compTurn (.ListComp elt gens scope pos) d (.ref I) (.ref a) env = turnOf (.ListComp elt gens scope pos) d tg ifs ip (.ref I) (.ref a) env (m env))
    (hg : SoundA c n sc tg g) (ht : SoundCond c n sc ifs t) (hb : SoundEm c n sc m b) (hA : AOk n A) (he : EOk sc A env) (hto : (∃ elts k pos, tg = .Tuple elts k pos) ∨ ∀ it v, letOwnedTupleGo tg it v = pure ())
    (ownP : ∀ b, Own env b → ¬ P b) (hPC : ∀ x cc, env.cells.lookup x = some cc → ¬ P cc)
    (hj : J items H s) (R : ER c.base c.N env ρ s.heap) (S : St c.base H s) (ex : Ext (fun b => Own env b ∨ P b) PG H₀ s₀ H s) (q : compL g t b G Q items ρ H)
    (hR : ∀ H' s' ρ', ER c.base c.N env ρ' s'.heap → St c.base H' s' → Ext (fun b => Own env b ∨ P b) PG H₀ s₀ H' s' → Q ρ' H' → RR (.ok .next) s') : codeAny (model c.prog c.w) A (.compLoop (.ListComp elt gens scope pos) d (.ref I) (.ref a) env) RR s := by
  refine codeAny_loop rfl (fun k s => ∃ items H ρ, k = items.length ∧ J items H s ∧ ER c.base c.N env ρ s.heap ∧ St c.base H s ∧ Ext (fun b => Own env b ∨ P b) PG H₀ s₀ H s ∧ compL g t b G Q items ρ H) ?_ _ ⟨items, H, ρ, rfl, hj, R, S, ex, q⟩
  rintro k s ⟨items, H, ρ, rfl, hj, R, S, ex, q⟩
  show wpAny _ A ((compTurn (.ListComp elt gens scope pos) d (.ref I) (.ref a) env).onRaise (fun x => do noteFrame x env; theTreesLotGoes x)) _ _ s
  refine wpAny_noted ?_
  rw [hT]
  have wid : ∀ {H1 s1 H2 s2}, Ext (Own env) No H1 s1 H2 s2 → Ext (fun b => Own env b ∨ P b) PG H1 s1 H2 s2 := fun x => x.mono (fun _ h => .inl h) (fun _ h => h.elim)
  have widP : ∀ {H1 s1 H2 s2}, Ext P PG H1 s1 H2 s2 → Ext (fun b => Own env b ∨ P b) PG H1 s1 H2 s2 := fun x => x.mono (fun _ h => .inr h) (fun _ h => h)
  have keepR : ∀ s' : Shared, Ext P PG H s H s' → (∀ b o, Imm s.heap b o → s'.heap.get? b = some o) → ER c.base c.N env ρ s'.heap := fun s' e' hi => R.ext' S e' hi (ownP _ (.inl rfl)) hPC
  refine wpAny_bind (wpAny_standAt (wpAny_bind ?_))
  cases items with
  | nil =>
    refine it.done A H s _ _ hA hj S fun s' S' e' hi => ?_
    exact wpAny_pure (hR H s' ρ (keepR s' e' hi) S' (ex.trans (widP e')) q)
  | cons p ps =>
    refine it.item A p ps H s _ _ hA hj S fun v s' hv S' e' hj' hi => ?_
    have R' := keepR s' e' hi
    refine wpAny_bind (owned_any it hj' hto ?_)
    refine wpAny_bind (hg A env ρ H s' v p _ _ _ hA he R' S' hv q fun ρ1 H1 s1 R1 S1 e1 q1 => ?_)
    refine wpAny_bind (bool_mono (ht A env ρ1 H1 s1 _ _ hA he R1 S1 q1) fun k H2 s2 S2 e2 q2 => ?_)
    have R2 := R1.ext0 S1 e2
    have more : ∀ ρ3 H3 s3, ER c.base c.N env ρ3 s3.heap → St c.base H3 s3 → Ext (Own env) No H s' H3 s3 → G H3 ∧ compL g t b G Q ps ρ3 H3 →
        ∃ m, m < (p :: ps).length ∧ ∃ items H ρ, m = items.length ∧ J items H s3 ∧ ER c.base c.N env ρ s3.heap ∧ St c.base H s3 ∧ Ext (fun b => Own env b ∨ P b) PG H₀ s₀ H s3 ∧ compL g t b G Q items ρ H := fun ρ3 H3 s3 R3 S3 e3 hq =>
      ⟨ps.length, by simp, ps, H3, ρ3, rfl, it.frame (Own env) ps H s' H3 s3 hj' S' e3 S3 ownP (own_no_imm R') hq.1, R3, S3, (ex.trans (widP e')).trans (wid e3), hq.2⟩
    cases k with
    | false =>
      simp only [Bool.false_eq_true, if_false] at q2 ⊢
      exact wpAny_pure ⟨rfl, more ρ1 H2 s2 R2 S2 (e1.trans e2.of_no) q2⟩
    | true =>
      simp only [if_true] at q2 ⊢
      exact wpAny_bind (hb A env ρ1 H2 s2 _ _ _ hA he R2 S2 q2 fun ρ3 H3 s3 R3 S3 e3 q3 => wpAny_pure ⟨rfl, more ρ3 H3 s3 R3 S3 ((e1.trans e2.of_no).trans e3) q3⟩)

/-- what is checked of a comprehension's block -/
def compChk (N : List Str) (scope : Scope) (sc : SE) (ks : List Nat) : Bool :=
  (freeOf scope.names).all (fun x => sc.names.lookup x == some .cell) && decide (scope.names.map (·.1)).Nodup &&
  ks.all fun k => match N[k]? with
    | some x => (freeOf scope.names).contains x && (relabelS scope sc).names.lookup x == some .cell
    | none => false
theorem relabel_cell {scope : Scope} {x : Str} (h : (relabelS scope sc).names.lookup x = some .cell) : (x, NameKind.cell) ∈ scope.names ∨ x ∈ freeOf scope.names := by
  have h1 := mem_of_lookup h
  obtain ⟨⟨y, k⟩, hy, e⟩ := List.mem_map.mp h1
  by_cases hcond : (k == NameKind.free && sc.kind == .function && sc.names.lookup y == some .cell) = true
  · simp only [hcond, if_true] at e
    cases e
    simp only [Bool.and_eq_true] at hcond
    exact .inr (List.mem_map.mpr ⟨(x, k), List.mem_filter.mpr ⟨hy, hcond.1.1⟩, rfl⟩)
  · simp only [hcond, if_false] at e
    cases e
    exact .inl hy
theorem lookup_nodup {α : Type} : ∀ {l : List (Str × α)} {x : Str} {a : α}, (l.map (·.1)).Nodup → (x, a) ∈ l → l.lookup x = some a
  | (y, b) :: l, x, a, hn, h => by
    rw [List.lookup_cons]
    simp only [List.map_cons, List.nodup_cons] at hn
    rcases List.mem_cons.mp h with e | h2
    · cases e; simp
    · have : (x == y) = false := by
        simp only [beq_eq_false_iff_ne, ne_eq]
        rintro rfl
        exact hn.1 (List.mem_map.mpr ⟨(x, a), h2, rfl⟩)
      rw [this]; exact lookup_nodup hn.2 h2
theorem cellsFrom_app : ∀ (names : List (Str × NameKind)) (k : Nat) (acc : List (Str × Addr)), cellsFrom k names acc = cellsFrom k names [] ++ acc
  | [], _, _ => rfl
  | (x, kd) :: r, k, acc => by
    unfold cellsFrom
    split
    · rw [cellsFrom_app r _ ((x, k) :: acc), cellsFrom_app r _ [(x, k)]]; simp
    · exact cellsFrom_app r k acc
theorem cellsFrom_mem : ∀ {names : List (Str × NameKind)} {k : Nat} {acc : List (Str × Addr)} {x : Str}, ((x, NameKind.cell) ∈ names ∨ ∃ a, (x, a) ∈ acc) ↔ ∃ a, (x, a) ∈ cellsFrom k names acc
  | [], k, acc, x => by simp [cellsFrom]
  | (y, kd) :: r, k, acc, x => by
    unfold cellsFrom
    split
    · rename_i hk
      rw [← cellsFrom_mem (names := r)]
      have : kd = .cell := by simpa using hk
      subst this
      simp only [List.mem_cons, Prod.mk.injEq, and_true]
      constructor
      · rintro ((rfl | h) | ⟨a, h⟩)
        · exact .inr ⟨k, .inl ⟨rfl, rfl⟩⟩
        · exact .inl h
        · exact .inr ⟨a, .inr h⟩
      · rintro (h | ⟨a, ⟨rfl, rfl⟩ | h⟩)
        · exact .inl (.inr h)
        · exact .inl (.inl rfl)
        · exact .inr ⟨a, h⟩
    · rename_i hk
      rw [← cellsFrom_mem (names := r)]
      simp only [List.mem_cons, Prod.mk.injEq]
      constructor
      · rintro ((⟨rfl, rfl⟩ | h) | h)
        · exact absurd rfl hk
        · exact .inl h
        · exact .inr h
      · rintro (h | h)
        · exact .inl (.inr h)
        · exact .inr h
theorem new_env {M : Model} {A : Around} {scope : Scope} {globals : Addr} {cl : List (Str × Addr)} {qual : Str} {env : Env} {Q : Env → Shared → Prop} {E : Value → Shared → Prop} {s : Shared}
    (h : Q (newEnv scope s.heap.objs.size globals (cellsFrom (s.heap.objs.size + 1) scope.names [] ++ cl) qual none .none (some env) builtinsNs) { s with heap := pushCells (s.heap.push { cls := .type "dict", data := .dict #[] }) scope.names }) :
    wpAny M A (newFunctionEnv scope globals cl [] qual none .none (some env)) Q E s := by
  simp only [newFunctionEnv, Option.isSome_some, if_true]
  refine wpAny_bind (wpAny_alloc ?_)
  refine wpAny_bind (wpAny_layCells _ (fun name kind cells => by cases hkc : kind == NameKind.cell <;> simp [hkc]) _ _ _ _ ?_)
  rw [show ({ s with heap := s.heap.push { cls := .type "dict", data := .dict #[] } } : Shared).heap.objs.size = s.heap.objs.size + 1 from Heap.size_push .., cellsFrom_app]
  exact wpAny_bind (wpAny_pure (wpAny_pure h))
theorem pushCells_size : ∀ (names : List (Str × NameKind)) (h : Heap), h.objs.size ≤ (pushCells h names).objs.size
  | [], h => Nat.le_refl _
  | (_, k) :: r, h => by
    unfold pushCells
    split
    · exact Nat.le_trans (by rw [Heap.size_push]; exact Nat.le_succ _) (pushCells_size r _)
    · exact pushCells_size r h

theorem comp_sound {A : Around} {env : Env} {ρ : AEnv} {H : AH} {s : Shared} {E : Value → Shared → Prop} {elt tg iter : Expr} {ifs : List Expr} {rest : List Comprehension} {scope : Scope} {pos p : Pos} {ks : List Nat} {m : Value → Env → Sem Unit} {g : ATg} {src : AE} {t : AT} {b : Nat → AB} {Q : PV → AH → Prop} {use : Option (Value → Sem Unit)} {QQ : Value → Shared → Prop}
    (hT : ∀ I a env, compTurn (.ListComp elt (⟨tg, iter, ifs, 0⟩ :: rest) scope pos) 0 (.ref I) (.ref a) env = turnOf (.ListComp elt (⟨tg, iter, ifs, 0⟩ :: rest) scope pos) 0 tg ifs iter.pos (.ref I) (.ref a) env (m (.ref a) env))
    (hs : SoundE c n sc iter src) (hg : SoundA c n ⟨relabelS scope sc, freeOf scope.names, false⟩ tg g) (ht : SoundCond c n ⟨relabelS scope sc, freeOf scope.names, false⟩ ifs t) (hb : ∀ a, SoundEm c n ⟨relabelS scope sc, freeOf scope.names, false⟩ (m (.ref a)) (b a)) (hchk : compChk c.N scope sc ks = true) (hkind : scope.kind = .function)
    (hf : ∀ env x, foldedSetIterable iter env x = pure x) (hto : (∃ elts k pos, tg = .Tuple elts k pos) ∨ ∀ it v, letOwnedTupleGo tg it v = pure ())
    (hA : AOk n A) (he : EOk sc A env) (R : ER c.base c.N env ρ s.heap) (S : St c.base H s) (q : aCompB ks g src t b Q ρ H)
    (fin : ∀ a H' s' C, c.base.get? C = none → s.heap.objs.size ≤ C → (∃ m, s'.heap.Ns C m) → St c.base H' s' → Ext No No H s H' s' → Q (.ref a) H' → compPost (model c.prog c.w) A E use QQ (.ref a) C (.ok .next) s') :
    wpAny (model c.prog c.w) A (comprehension (.ListComp elt (⟨tg, iter, ifs, 0⟩ :: rest) scope pos) scope env p (newList []) false (eval iter env) use) QQ E s := by
  unfold compChk at hchk
  simp only [Bool.and_eq_true, List.all_eq_true, beq_iff_eq, decide_eq_true_eq] at hchk
  obtain ⟨⟨c1, c2⟩, c5⟩ := hchk
  have hfr : ∀ x ∈ freeOf scope.names, ∃ cc, env.cells.lookup x = some cc := fun x hx => let ⟨cc, h1, _⟩ := he.cells x (c1 x hx); ⟨cc, h1⟩
  have hfr' : ∀ x ∈ freeOf scope.names, (env.cells.lookup x).isSome = true := fun x hx => by obtain ⟨cc, h1⟩ := hfr x hx; rw [h1]; rfl
  have hfk : ∀ x, x ∈ freeOf scope.names → (x, NameKind.cell) ∉ scope.names := fun x hx h => by
    obtain ⟨⟨y, k⟩, hy, rfl⟩ := List.mem_map.mp hx
    obtain ⟨hy1, hy2⟩ := List.mem_filter.mp hy
    have e1 := lookup_nodup c2 h
    rw [lookup_nodup c2 hy1] at e1
    cases e1; cases hy2
  have hfn : (freeOf scope.names).Nodup := c2.sublist ((List.filter_sublist (l := scope.names)).map _)
  refine wpAny_comprehension_free (g := ⟨tg, iter, ifs, 0⟩) (gs := rest) rfl (hf env) (closure_eq hfr') hkind (fun x hx h => by obtain ⟨y, k⟩ := x; cases h; exact lookup_nodup c2 hx) ?_
  refine seq1 (F := fun p H1 => withItems p (fun items G H2 => ∀ a, H2 a = none → G (upd H2 a ⟨[], true⟩) ∧ compL g t (b a) G (fun _ H3 => Q (.ref a) H3) items (capt ks ρ) (upd H2 a ⟨[], true⟩)) H1) hs hA he R S q fun va pa H1 s1 h1 R1 S1 e1 q1 => ?_
  refine iter_sound (n := n) h1 S1 q1 fun I items P G J s2 it hj S2 e2 hP hG q2 => ?_
  have newAcc : wpAny (model c.prog c.w) A (newList []) (fun acc s3 => ∃ a H3, acc = .ref a ∧ a = s2.heap.objs.size ∧ H3 = upd H1 a ⟨[], true⟩ ∧ St c.base H3 s3 ∧ Ext No No H1 s2 H3 s3) E s2 :=
    wpAny_newObj_type ⟨_, _, rfl, rfl, rfl, S2.newList (vs := #[]) .nil, Ext.newList _ _⟩ (by show (#[] : Array Value).size ≤ sizeLine; simp)
  refine wpAny_mono newAcc (fun acc s3 ⟨a, H3, e4, e5, e6, S3, e3⟩ => ?_) fun _ _ x => x
  subst e4
  have ha : H1 a = none := S2.fresh (by rw [e5]; exact Nat.le_refl _)
  obtain ⟨q3, q4⟩ := q2 a ha
  rw [← e6] at q3 q4
  refine new_env ?_
  have ok := cellsFrom_ok scope.names (s3.heap.push { cls := .type "dict", data := .dict #[] }) (s3.heap.objs.size + 1) [] ⟨fun _ _ hm => (nomatch hm), List.Pairwise.nil⟩ (by rw [Heap.size_push]; exact Nat.le_refl _)
  have hn : (pushCells (s3.heap.push { cls := .type "dict", data := .dict #[] }) scope.names).Ns s3.heap.objs.size (fun _ => none) := (Heap.Ns.new s3.heap (.type "dict")).keeps (pushCells_keeps _ _)
  have hk4 : ∀ b o, s3.heap.get? b = some o → (pushCells (s3.heap.push { cls := .type "dict", data := .dict #[] }) scope.names).get? b = some o := fun b o hb => pushCells_keeps _ _ b o (Heap.get?_push_of_some _ hb)
  have hz4 : s3.heap.objs.size ≤ (pushCells (s3.heap.push { cls := .type "dict", data := .dict #[] }) scope.names).objs.size := Nat.le_trans (by rw [Heap.size_push]; exact Nat.le_succ _) (pushCells_size scope.names _)
  rw [Heap.size_push] at ok
  generalize pushCells (s3.heap.push { cls := .type "dict", data := .dict #[] }) scope.names = h' at *
  have own0 : ∀ x, (cellsFrom (s3.heap.objs.size + 1) scope.names []).lookup x ≠ none ↔ (x, NameKind.cell) ∈ scope.names := fun x => by
    constructor
    · intro h
      cases hl : (cellsFrom (s3.heap.objs.size + 1) scope.names []).lookup x with
      | none => exact absurd hl h
      | some a => exact (cellsFrom_mem.mpr ⟨a, mem_of_lookup hl⟩).resolve_right fun ⟨_, h⟩ => nomatch h
    · intro h e
      obtain ⟨a, ha⟩ := cellsFrom_mem (k := s3.heap.objs.size + 1) (acc := []).mp (.inl h)
      obtain ⟨b, hb⟩ := lookup_of_mem ha
      rw [e] at hb; cases hb
  generalize hown : cellsFrom (s3.heap.objs.size + 1) scope.names [] = own at *
  generalize hC : s3.heap.objs.size = C at *
  have S4 : St c.base H3 { s3 with heap := h' } := S3.of_keep (X := No) (tk := s3.toks) (fun b o _ h => hk4 b o h) (fun _ h => h.elim) (fun _ h => h.elim) (fun _ h => h.elim)
  have e34 : Ext No No H3 s3 H3 { s3 with heap := h' } := Ext.of_keep (tk := s3.toks) (fun b o _ h => hk4 b o h) (by rw [hC]; exact hz4)
  have hs2 : s1.heap.objs.size ≤ s2.heap.objs.size := e2.size
  have hs3 : s2.heap.objs.size ≤ s3.heap.objs.size := e3.size
  have hs1 : s.heap.objs.size ≤ s1.heap.objs.size := e1.size
  rw [relabel_eq he.toEOk0]
  generalize hce : newEnv scope C env.globals (own ++ clOf env scope.names []) env.qual none .none (some env) builtinsNs = cenv0
  have hL0 : cenv0.locals = C := by rw [← hce]; rfl
  have hC0 : cenv0.cells = own ++ clOf env scope.names [] := by rw [← hce]; rfl
  have hG0 : cenv0.globals = env.globals := by rw [← hce]; rfl
  have hB0 : cenv0.builtins = env.builtins := by rw [← hce]; rfl
  have e14 : Ext No No H1 s1 H3 { s3 with heap := h' } := (e2.trans e3).trans e34
  have R4 := R1.ext0 S1 e14
  have hcl : ∀ x cc, (x, cc) ∈ clOf env scope.names [] → env.cells.lookup x = some cc := fun x cc h => clOf_sub scope.names [] hfr' (fun _ h => nomatch h) _ h
  have hlk : ∀ x cc, cenv0.cells.lookup x = some cc → (x, cc) ∈ own ∨ (x, cc) ∈ clOf env scope.names [] := fun x cc h => by
    rw [hC0] at h; exact List.mem_append.mp (mem_of_lookup h)
  have hfree : ∀ x ∈ freeOf scope.names, cenv0.cells.lookup x = env.cells.lookup x := fun x hx => by
    have h0 : own.lookup x = none := Classical.byContradiction fun h => hfk x hx ((own0 x).mp h)
    rw [hC0, List.lookup_append, h0]; exact clOf_lookup hfr' hx
  have hbC : ∀ b, C ≤ b → c.base.get? b = none := fun b hb => S3.bsize (by rw [hC]; exact hb)
  have hlow : ∀ x cc, env.cells.lookup x = some cc → cc < s.heap.objs.size := fun x cc h => let ⟨w, hw⟩ := R.cells x cc h; hw.lt
  have hsC : s.heap.objs.size ≤ C := by rw [← hC]; omega
  have he4 : EOk ⟨relabelS scope sc, freeOf scope.names, false⟩ A { cenv0 with scope := relabelS scope sc } := ⟨⟨rfl, hkind, hG0.trans he.globals, hB0.trans he.builtins, fun x hx => by
    rcases relabel_cell hx with hm | hm
    · cases hl : own.lookup x with
      | none => exact absurd hl ((own0 x).mpr hm)
      | some a => exact ⟨a, by show cenv0.cells.lookup x = _; rw [hC0, List.lookup_append, hl]; rfl, fun _ => by show cenv0.locals < a; rw [hL0]; exact (ok.empty x a (mem_of_lookup hl)).2⟩
    · obtain ⟨cc, hcc⟩ := hfr x hm
      exact ⟨cc, by show cenv0.cells.lookup x = _; rw [hfree x hm]; exact hcc, fun h => absurd hm h⟩⟩, fun h => nomatch h⟩
  have own4 : ∀ b, Own { cenv0 with scope := relabelS scope sc } b → C ≤ b := by
    rintro b (h | ⟨h1, _⟩)
    · exact Nat.le_of_eq (h.trans hL0).symm
    · exact Nat.le_of_lt (by rw [← hL0]; exact h1)
  have ER4 : ER c.base c.N { cenv0 with scope := relabelS scope sc } (capt ks ρ) h' := {
    names := ⟨_, by show h'.Ns cenv0.locals _; rw [hL0]; exact hn, fun k p hp => by
      unfold capt at hp
      by_cases hkc : ks.contains k = true
      · rw [if_pos hkc] at hp
        obtain ⟨m, hm, hmk⟩ := R4.names
        obtain ⟨x, v, k1, k2, k3⟩ := hmk k p hp
        have c5' := c5 k (by simpa using hkc)
        rw [k1] at c5'
        simp only [Bool.and_eq_true, List.contains_iff_mem, beq_iff_eq] at c5'
        refine ⟨x, v, k1, k2, .inr ⟨.inl c5'.2, ?_⟩⟩
        have hsx : env.kindOf x = some .cell := by rw [he.kindOf]; exact c1 x c5'.1
        rcases k3 with ⟨k4, _⟩ | ⟨_, cc, k4, k5⟩
        · rw [hsx] at k4; cases k4
        · exact ⟨cc, (hfree x c5'.1).trans k4, k5⟩
      · rw [if_neg hkc] at hp; cases hp⟩
    cells := fun x cc hx => by
      rcases hlk x cc hx with h | h
      · exact ⟨_, (ok.empty x cc h).1⟩
      · exact R4.cells x cc (hcl x cc h)
    apart := by
      show cenv0.cells.Pairwise _
      rw [hC0]
      refine List.pairwise_append.mpr ⟨ok.apart, clOf_apart (base := c.base) R.apart scope.names [] hfr' hfn (fun _ h => nomatch h) .nil, fun x hx y hy e => ?_⟩
      have h1 := (ok.empty x.1 x.2 hx).2
      have h2 := hlow y.1 y.2 (hcl y.1 y.2 hy)
      rw [← e] at h2
      exact Nat.lt_irrefl _ (Nat.lt_of_lt_of_le h2 (Nat.le_trans hsC (Nat.le_of_lt h1)))
    new := by show c.base.get? cenv0.locals = none; rw [hL0]; exact hbC C (Nat.le_refl _)
    cnew := fun x cc hx => by
      rcases hlk x cc hx with h | h
      · exact hbC cc (Nat.le_of_lt (ok.empty x cc h).2)
      · exact R.cnew x cc (hcl x cc h) }
  have hPC : ∀ b, C ≤ b → ¬ P b := fun b hb h => by have h1 := (hP b h).2; rw [← hC] at hb; exact Nat.lt_irrefl _ (Nat.lt_of_lt_of_le h1 (Nat.le_trans hs3 hb))
  have hjj := it.frame No items H1 s2 H3 _ hj S2 (e3.trans e34) S4 (fun _ h => h.elim) (fun _ _ _ h => h) q3
  have loop : codeAny (model c.prog c.w) A (.compLoop (.ListComp elt (⟨tg, iter, ifs, 0⟩ :: rest) scope pos) 0 (.ref I) (.ref a) { cenv0 with scope := relabelS scope sc }) (compPost (model c.prog c.w) A E use QQ (.ref a) cenv0.locals) { s3 with heap := h' } := by
    refine comp_loop (H₀ := H1) (s₀ := s1) (sc := ⟨relabelS scope sc, freeOf scope.names, false⟩) it (hT I a _) hg ht (hb a) hA he4 hto (fun b hb => hPC b (own4 b hb)) (fun x cc hx hp => ?_) hjj ER4 S4 e14.of_no q4 fun H' s' ρ' R' S' ex' hQ => ?_
    · rcases hlk x cc hx with h | h
      · exact hPC cc (Nat.le_of_lt (ok.empty x cc h).2) hp
      · exact absurd (Nat.lt_of_lt_of_le (hlow x cc (hcl x cc h)) hs1) (Nat.not_lt.mpr (hP cc hp).1)
    · have ee : Ext No No H s H' s' := e1.then_new ex' (fun b hb => .inr (by
        rcases hb with hb | hb
        · exact Nat.le_trans hsC (own4 b hb)
        · exact Nat.le_trans hs1 (hP b hb).1)) (fun _ h => h.elim)
      rw [hL0]
      obtain ⟨m, hm, _⟩ := R'.names
      exact fin a H' s' C (hbC C (Nat.le_refl _)) hsC ⟨m, by rw [← hL0]; exact hm⟩ S' ee hQ
  exact codeAny_compStart_list loop (it.self A items H3 _ _ _ hjj loop)

theorem exec_assign1 (tg v : Expr) (pos : Pos) (env : Env) : exec (.Assign [tg] v pos) env = (do
    standAt pos
    if ← swapsWithSole [tg] v pos.line env then do
      evalThenUse v env fun v => assignAll v ((assignEach [tg] env).map (·.2))
      pure .next
    else do
      let v' ← eval v env
      assignStores env v' (← swappedStores [tg] v env) ((assignEach [tg] env).map (·.2))) := rfl
theorem use_comp (elt : Expr) (gens : List Comprehension) (scope : Scope) (pos : Pos) (env : Env) (use : Value → Sem Unit) : evalThenUse (.ListComp elt gens scope pos) env use = (do
    let _ ← comprehension (.ListComp elt gens scope pos) scope env (firstIterPos gens pos) (newList []) (firstAsync gens) (firstIter gens env) (some use)) := rfl
theorem stmt_assign_compB {elt tg iter : Expr} {ifs : List Expr} {rest : List Comprehension} {scope : Scope} {pos spos xpos : Pos} {x : Str} {k : Nat} {ks : List Nat} {m : Value → Env → Sem Unit} {g : ATg} {src : AE} {t : AT} {b : Nat → AB}
    (hT : ∀ I a env, compTurn (.ListComp elt (⟨tg, iter, ifs, 0⟩ :: rest) scope pos) 0 (.ref I) (.ref a) env = turnOf (.ListComp elt (⟨tg, iter, ifs, 0⟩ :: rest) scope pos) 0 tg ifs iter.pos (.ref I) (.ref a) env (m (.ref a) env))
    (hs : SoundE c n sc iter src) (hg : SoundA c n ⟨relabelS scope sc, freeOf scope.names, false⟩ tg g) (ht : SoundCond c n ⟨relabelS scope sc, freeOf scope.names, false⟩ ifs t) (hb : ∀ a, SoundEm c n ⟨relabelS scope sc, freeOf scope.names, false⟩ (m (.ref a)) (b a)) (hchk : compChk c.N scope sc ks = true) (hx : c.N[k]? = some x) (hk : sc.names.lookup x = some .local)
    (hsw : (xpos.line == pos.line && !(scope.names.any fun (n, k) => n == x && (k == .local || k == .cell))) = true) (hkind : scope.kind = .function)
    (hf : ∀ env x, foldedSetIterable iter env x = pure x) (hto : (∃ elts k pos, tg = .Tuple elts k pos) ∨ ∀ it v, letOwnedTupleGo tg it v = pure ()) :
    SoundS c n sc (.Assign [.Name x xpos] (.ListComp elt (⟨tg, iter, ifs, 0⟩ :: rest) scope pos) spos) (sAssign (gName k) (aCompB ks g src t b)) := by
  intro A env ρ H s Q E hA he R S q
  have hsole : swapsWithSole [.Name x xpos] (.ListComp elt (⟨tg, iter, ifs, 0⟩ :: rest) scope pos) spos.line env = pure true := by
    show (pure (env.blockKind == .function && env.kindOf x == some .local && xpos.line == pos.line && !(scope.names.any fun (n, k) => n == x && (k == .local || k == .cell))) : Sem Bool) = _
    have h1 : env.kindOf x = some .local := by rw [he.kindOf]; exact hk
    have h2 : env.blockKind = .function := by unfold Env.blockKind; rw [he.skind]; rfl
    rw [h1, h2]
    simp only [Bool.and_eq_true] at hsw
    simp [hsw.1, hsw.2]
  rw [exec_assign1, hsole]
  refine wpAny_bind (wpAny_standAt (wpAny_bind (wpAny_pure ?_)))
  simp only [if_true]
  rw [use_comp]
  refine wpAny_bind (wpAny_bind ?_)
  show wpAny _ _ (comprehension (.ListComp elt (⟨tg, iter, ifs, 0⟩ :: rest) scope pos) scope env iter.pos (newList []) false (eval iter env) (some fun v => assign (.Name x xpos) env v)) _ _ _
  refine comp_sound (use := some fun v => assign (.Name x xpos) env v) (Q := fun p H1 => Q .next (upd ρ k p) H1) hT hs hg ht hb hchk hkind hf hto hA he R S q fun a H' s' C hb hsC hm S' ee hQ => ?_
  obtain ⟨m, hm⟩ := hm
  show wpAny _ _ (assign (.Name x xpos) env (.ref a)) _ _ _
  refine wpAny_assign_Name (store_var he (R.ext0 S ee) S' hx (.inl hk) (.ref a) fun s3 R3 S3 e3 => ?_)
  have hCO : ¬ Own env C := fun h => Nat.lt_irrefl _ (Nat.lt_of_lt_of_le (own_lt R h) hsC)
  have hm3 := ns_stays S' e3 hm hCO
  refine ⟨m, hm3, fun h4 hs4 => wpAny_pure (wpAny_pure ?_)⟩
  have S4 : St c.base H' { s3 with heap := h4 } := st_upd (tk := s3.toks) S3 hs4 hb (ns_dict hm3)
  have e4 : Ext (fun b => b = C) No H' s3 H' { s3 with heap := h4 } := ext_upd (tk := s3.toks) hs4 rfl
  have R4 : ER c.base c.N env (upd ρ k (.ref a)) h4 := R3.ext' S3 e4 (imm_upd hs4 (ns_dict hm3)) (fun h => hCO (.inl h.symm)) (fun y cc hy h => by
    subst h
    obtain ⟨w, hw⟩ := R.cells y cc hy
    exact Nat.lt_irrefl _ (Nat.lt_of_lt_of_le hw.lt hsC))
  exact ⟨.next, _, H', .next, R4, S4, (ee.of_no.trans e3).then_new e4 (fun b hb => .inr (hb ▸ hsC)) (fun _ h => h.elim), hQ⟩
theorem stmt_assign_comp {elt tg iter : Expr} {ifs : List Expr} {scope : Scope} {pos spos xpos : Pos} {x : Str} {k : Nat} {ks : List Nat} {g : ATg} {src : AE} {t : AT} {e : AE}
    (hs : SoundE c n sc iter src) (hg : SoundA c n ⟨relabelS scope sc, freeOf scope.names, false⟩ tg g) (ht : SoundCond c n ⟨relabelS scope sc, freeOf scope.names, false⟩ ifs t) (hel : SoundE c n ⟨relabelS scope sc, freeOf scope.names, false⟩ elt e) (hchk : compChk c.N scope sc ks = true) (hx : c.N[k]? = some x) (hk : sc.names.lookup x = some .local)
    (hsw : (xpos.line == pos.line && !(scope.names.any fun (n, k) => n == x && (k == .local || k == .cell))) = true) (hkind : scope.kind = .function)
    (hf : ∀ env x, foldedSetIterable iter env x = pure x) (hto : (∃ elts k pos, tg = .Tuple elts k pos) ∨ ∀ it v, letOwnedTupleGo tg it v = pure ()) :
    SoundS c n sc (.Assign [.Name x xpos] (.ListComp elt [⟨tg, iter, ifs, 0⟩] scope pos) spos) (sAssign (gName k) (aComp ks g src t e)) :=
  stmt_assign_compB (m := fun a env => emit elt a env) (fun _ _ _ => rfl) hs hg ht (fun a => em_emit hel a) hchk hx hk hsw hkind hf hto
end
end Mine
open PySem PySem.W PySem.Calls PyProof.Rows
set_option Elab.async false
set_option linter.unusedVariables false
namespace Mine

theorem well_ints {P : Params} {h : Heap} : ∀ (vs : List Value) (ns : List Int), WellAll P h vs (ns.map .int) → VAll h vs (ns.map .int)
  | _, [], .nil => .nil
  | _, i :: ns, .cons hv hr => by
    cases hv
    exact .cons (.int i _) (well_ints _ ns hr)

/-- the same run, its names numbered by N -/
abbrev Cx.on (c : Cx) (N : List Str) (h : N.Nodup) : Cx := { c with N := N, nodup := h }

/-- the text's i-th statement, a def: its parts -/
def fnRec (p : Program) (i : Nat) : DefRec := match p.main.body[i]? with
  | some (.FunctionDef name a b _ _ _ sc _ _ pos) => ⟨name, a, b, sc, pos⟩
  | _ => ⟨Str.empty, ⟨[], [], none, [], [], none, []⟩, [], { kind := .function, names := [], isGenerator := false, isCoroutine := false }, ⟨0, 0, 0, 0⟩⟩

end Mine
open PySem PySem.W PySem.Calls PyProof.Rows
set_option Elab.async false
set_option linter.unusedVariables false
namespace Mine
section
variable {c : Cx} {n : Nat} {sc : SE}
def opNeg (a : PV) (Q : PV → AH → Prop) (H : AH) : Prop := match a with | .int x => Q (.int (-x)) H | _ => False
theorem op_negI : SoundOp1 c n (unaryOp .USub) opNeg := op_neg
end
end Mine
open PySem PySem.W PySem.Calls PyProof.Rows
set_option Elab.async false
set_option linter.unusedVariables false
namespace Mine

-- plain data without lists
mutual
def pd : PV → PyData
  | .none => .none
  | .bool b => .bool b
  | .int i => .int i
  | .str x => .str ⟨x.toArray⟩
  | .tup xs => .tuple (pds xs)
  | .ref _ => .none
  | .rng _ _ => .none
def pds : List PV → List PyData
  | [] => []
  | x :: xs => pd x :: pds xs
end
mutual
def flat : Nat → PV → Bool
  | n + 1, .tup xs => flats n xs
  | 0, .tup _ => false
  | _, .ref _ => false
  | _, .rng _ _ => false
  | _, _ => true
def flats : Nat → List PV → Bool
  | _, [] => true
  | n, x :: xs => flat n x && flats n xs
end
mutual
theorem rd_flat {H : AH} : ∀ (n : Nat) (p : PV), flat n p = true → Rd H n p (pd p)
  | n, .none, _ => by cases n <;> exact .none _
  | n, .bool b, _ => by cases n <;> exact .bool _ b
  | n, .int i, _ => by cases n <;> exact .int _ i
  | n, .str x, _ => by cases n <;> exact .str _ x
  | n + 1, .tup xs, h => .tup (rd_flats n xs (by simpa [flat] using h))
  | 0, .tup xs, h => by simp [flat] at h
  | n, .ref _, h => by cases n <;> simp [flat] at h
  | n, .rng _ _, h => by cases n <;> simp [flat] at h
theorem rd_flats {H : AH} : ∀ (n : Nat) (ps : List PV), flats n ps = true → RdAll H n ps (pds ps)
  | n, [], _ => .nil n
  | n, p :: ps, h => by
    simp only [flats, Bool.and_eq_true] at h
    exact .cons (rd_flat n p h.1) (rd_flats n ps h.2)
end
theorem flats_all {n : Nat} : ∀ {ps : List PV}, (∀ p ∈ ps, flat n p = true) → flats n ps = true
  | [], _ => rfl
  | p :: ps, h => by simp only [flats, Bool.and_eq_true]; exact ⟨h p (.head _), flats_all fun q hq => h q (.tail _ hq)⟩
theorem Rd.same {H : AH} {n : Nat} {p : PV} {d : PyData} (h : Rd H n p d) : PyData.eqv d d = true :=
  Rd.rec (motive_1 := fun _ _ d _ => PyData.eqv d d = true) (motive_2 := fun _ _ ds _ => PyData.eqvAll ds ds = true) (fun _ => rfl) (fun _ b => by simp [PyData.eqv]) (fun _ i => by simp [PyData.eqv]) (fun _ x => by simp [PyData.eqv]) (fun _ h => by simp [PyData.eqv, h]) (fun _ _ h => by simp [PyData.eqv, h]) (fun _ => rfl) (fun _ _ h k => by simp [PyData.eqvAll, h, k]) h

/-- two lists of flat items, equal ones -/
theorem cmp_lists {H : AH} {a b : Nat} {x y : LO} {Q : Bool → AH → Prop} (ha : H a = some x) (hb : H b = some y) (hf : flats 19 x.items = true) (he : y.items = x.items) (q : Q true H) : cmpEq (.ref a) (.ref b) Q H := by
  have r1 : Rd H 20 (.ref a) (.list (pds x.items)) := .ref ha (rd_flats 19 _ hf)
  have r2 : Rd H 20 (.ref b) (.list (pds x.items)) := .ref hb (by rw [he]; exact rd_flats 19 _ hf)
  exact ⟨_, _, r1, r2, by rw [r1.same]; exact q⟩
theorem cmp_tups {H : AH} {x y : List PV} {Q : Bool → AH → Prop} (hf : flats 19 x = true) (he : y = x) (q : Q true H) : cmpEq (.tup x) (.tup y) Q H := by
  subst he
  have r1 : Rd H 20 (.tup y) (.tuple (pds y)) := .tup (rd_flats 19 _ hf)
  exact ⟨_, _, r1, r1, by rw [r1.same]; exact q⟩

theorem upd_at {α : Type} (f : Nat → Option α) (k j : Nat) (v : α) : upd f k v j = if j = k then some v else f j := rfl
end Mine
open PySem PySem.W PySem.Calls PyProof.Rows
set_option Elab.async false
set_option linter.unusedVariables false
namespace Mine

-- all is monotone in what is asked of the end
def MonoE (e : AE) : Prop := ∀ (Q Q' : PV → AH → Prop) (ρ : AEnv) (H : AH), (∀ p H, Q p H → Q' p H) → e Q ρ H → e Q' ρ H
def MonoL (e : AL) : Prop := ∀ (Q Q' : List PV → AH → Prop) (ρ : AEnv) (H : AH), (∀ p H, Q p H → Q' p H) → e Q ρ H → e Q' ρ H
def MonoT (e : AT) : Prop := ∀ (Q Q' : Bool → AH → Prop) (ρ : AEnv) (H : AH), (∀ p H, Q p H → Q' p H) → e Q ρ H → e Q' ρ H
def MonoS (e : AS) : Prop := ∀ (Q Q' : Fl → AEnv → AH → Prop) (ρ : AEnv) (H : AH), (∀ f ρ H, Q f ρ H → Q' f ρ H) → e Q ρ H → e Q' ρ H
def MonoG (g : ATg) : Prop := ∀ (p : PV) (Q Q' : AEnv → AH → Prop) (ρ : AEnv) (H : AH), (∀ ρ H, Q ρ H → Q' ρ H) → g p Q ρ H → g p Q' ρ H
def MonoF (f : AF) : Prop := ∀ (ps : List PV) (Q Q' : PV → AH → Prop) (H : AH), (∀ p H, Q p H → Q' p H) → f ps Q H → f ps Q' H
def MonoO2 (f : PV → PV → (PV → AH → Prop) → AH → Prop) : Prop := ∀ (a b : PV) (Q Q' : PV → AH → Prop) (H : AH), (∀ p H, Q p H → Q' p H) → f a b Q H → f a b Q' H
def MonoO1 (f : PV → (PV → AH → Prop) → AH → Prop) : Prop := ∀ (a : PV) (Q Q' : PV → AH → Prop) (H : AH), (∀ p H, Q p H → Q' p H) → f a Q H → f a Q' H

theorem newL_mono {ps : List PV} {Q Q' : PV → AH → Prop} {H : AH} (h : ∀ p H, Q p H → Q' p H) (q : newL ps Q H) : newL ps Q' H := fun a ha => h _ _ (q a ha)

theorem m_var {k : Nat} : MonoE (aVar k) := by intro Q Q' ρ H h q; unfold aVar at *; split <;> simp_all
theorem m_cst {p : PV} : MonoE (aCst p) := fun Q Q' ρ H h q => h _ _ q
theorem m_bin {f} {a b : AE} (hf : MonoO2 f) (ha : MonoE a) (hb : MonoE b) : MonoE (aBin f a b) := fun Q Q' ρ H h q => ha _ _ _ _ (fun p H1 q1 => hb _ _ _ _ (fun p2 H2 q2 => hf _ _ _ _ _ h q2) q1) q
theorem m_un {f} {a : AE} (hf : MonoO1 f) (ha : MonoE a) : MonoE (aUn f a) := fun Q Q' ρ H h q => ha _ _ _ _ (fun p H1 q1 => hf _ _ _ _ h q1) q
theorem mo_add : MonoO2 opAdd := by
  intro a b Q Q' H h q
  unfold opAdd at *
  split at q
  · exact h _ _ q
  · exact ⟨q.1, h _ _ q.2⟩
  · split at q
    · exact ⟨q.1, newL_mono h q.2⟩
    · exact q.elim
  · exact q.elim
theorem mo_sub : MonoO2 opSub := by
  intro a b Q Q' H h q; unfold opSub at *; split at q
  · exact h _ _ q
  · exact q.elim
theorem mo_mul : MonoO2 opMul := by
  intro a b Q Q' H h q; unfold opMul at *; split at q
  · exact ⟨q.1, h _ _ q.2⟩
  · exact ⟨q.1, h _ _ q.2⟩
  · exact q.elim
theorem mo_div : MonoO2 opDiv := by
  intro a b Q Q' H h q; unfold opDiv at *; split at q
  · exact ⟨q.1, h _ _ q.2⟩
  · exact q.elim
theorem mo_mod : MonoO2 opMod := by
  intro a b Q Q' H h q; unfold opMod at *; split at q
  · exact ⟨q.1, h _ _ q.2⟩
  · exact q.elim
theorem mo_neg : MonoO1 opNeg := by
  intro a Q Q' H h q; unfold opNeg at *; split at q
  · exact h _ _ q
  · exact q.elim
theorem mo_item : MonoO2 opItem := by
  intro a b Q Q' H h q; unfold opItem at *
  split at q
  · split at q
    · skip
      split at q
      · exact ⟨q.1, h _ _ q.2⟩
      · exact q.elim
    · exact q.elim
  · split at q
    · exact ⟨q.1, h _ _ q.2⟩
    · exact q.elim
  · split at q
    · exact ⟨q.1, h _ _ q.2⟩
    · exact q.elim
  · exact q.elim
theorem truth_mono {a : PV} {Q Q' : Bool → AH → Prop} {H : AH} (h : ∀ p H, Q p H → Q' p H) (q : truth a Q H) : truth a Q' H := by
  unfold truth at *
  split at q
  · exact h _ _ q
  · exact h _ _ q
  · exact h _ _ q
  · exact ⟨q.1, h _ _ q.2⟩
  · split at q
    · exact ⟨q.1, h _ _ q.2⟩
    · exact q.elim
  · exact q.elim
  · exact q.elim
theorem mt_val {a : AE} (ha : MonoE a) : MonoT (tVal a) := fun Q Q' ρ H h q => ha _ _ _ _ (fun p H1 q1 => truth_mono h q1) q
theorem mt_not {a : AT} (ha : MonoT a) : MonoT (tNot a) := fun Q Q' ρ H h q => ha _ _ _ _ (fun p H1 q1 => h _ _ q1) q
theorem mt_or {a b : AT} (ha : MonoT a) (hb : MonoT b) : MonoT (tOr a b) := fun Q Q' ρ H h q => ha _ _ _ _ (fun p H1 q1 => by
  cases p
  · exact hb _ _ _ _ h (by simpa using q1)
  · exact h _ _ (by simpa using q1)) q
theorem mt_true : MonoT tTrue := fun Q Q' ρ H h q => h _ _ q
theorem mt_false : MonoT tFalse := fun Q Q' ρ H h q => h _ _ q
theorem mt_cmp {op : CmpOp} {a b : AE} (ha : MonoE a) (hb : MonoE b) : MonoT (tCmp op a b) := fun Q Q' ρ H h q => ha _ _ _ _ (fun p H1 q1 => hb _ _ _ _ (fun p2 H2 q2 => cmpOp_mono h q2) q1) q
theorem mt_cmp2 {op op' : CmpOp} {a b d : AE} (ha : MonoE a) (hb : MonoE b) (hd : MonoE d) : MonoT (tCmp2 op a op' b d) := fun Q Q' ρ H h q => ha _ _ _ _ (fun p H1 q1 => hb _ _ _ _ (fun p2 H2 q2 => cmpOp_mono (fun k H3 q3 => by
  cases k
  · exact h _ _ (by simpa using q3)
  · exact hd _ _ _ _ (fun p4 H4 q4 => cmpOp_mono h q4) (by simpa using q3)) q2) q1) q
theorem m_if {t : AT} {a b : AE} (ht : MonoT t) (ha : MonoE a) (hb : MonoE b) : MonoE (aIf t a b) := fun Q Q' ρ H h q => ht _ _ _ _ (fun p H1 q1 => by
  cases p
  · exact hb _ _ _ _ h (by simpa using q1)
  · exact ha _ _ _ _ h (by simpa using q1)) q
theorem ml_nil : MonoL lNil := fun Q Q' ρ H h q => h _ _ q
theorem ml_cons {a : AE} {l : AL} (ha : MonoE a) (hl : MonoL l) : MonoL (lCons a l) := fun Q Q' ρ H h q => ha _ _ _ _ (fun p H1 q1 => hl _ _ _ _ (fun ps H2 q2 => h _ _ q2) q1) q
theorem m_tup {l : AL} (hl : MonoL l) : MonoE (aTup l) := fun Q Q' ρ H h q => hl _ _ _ _ (fun p H1 q1 => ⟨q1.1, h _ _ q1.2⟩) q
theorem m_list {l : AL} (hl : MonoL l) : MonoE (aList l) := fun Q Q' ρ H h q => hl _ _ _ _ (fun p H1 q1 => ⟨q1.1, newL_mono h q1.2⟩) q
theorem m_call {f : AF} {l : AL} (hf : MonoF f) (hl : MonoL l) : MonoE (aCall f l) := fun Q Q' ρ H h q => hl _ _ _ _ (fun p H1 q1 => hf _ _ _ _ h q1) q
theorem m_slice {a b d e : AE} (ha : MonoE a) (hb : MonoE b) (hd : MonoE d) (he : MonoE e) : MonoE (aSlice a b d e) := fun Q Q' ρ H h q =>
  ha _ _ _ _ (fun p1 H1 q1 => hb _ _ _ _ (fun p2 H2 q2 => hd _ _ _ _ (fun p3 H3 q3 => he _ _ _ _ (fun p4 H4 q4 => by
    unfold opSlice at *
    split at q4
    · split at q4
      · split at q4
        · exact ⟨q4.1, newL_mono h q4.2⟩
        · exact q4.elim
      · exact ⟨q4.1, h _ _ q4.2⟩
      · exact q4.elim
    · exact q4.elim) q3) q2) q1) q
theorem withOwn_mono {p : PV} {k k' : Nat → List PV → Prop} {H : AH} (h : ∀ a xs, k a xs → k' a xs) (q : withOwn p k H) : withOwn p k' H := by
  unfold withOwn at *
  split at q
  · split at q
    · exact ⟨q.1, h _ _ q.2⟩
    · exact q.elim
  · exact q.elim
theorem mf_len : MonoF fLen := by
  intro ps Q Q' H h q; unfold fLen at *
  split at q
  · split at q
    · exact ⟨q.1, h _ _ q.2⟩
    · exact q.elim
  · exact ⟨q.1, h _ _ q.2⟩
  · exact ⟨q.1, h _ _ q.2⟩
  · exact q.elim
theorem mf_range : MonoF fRange := by
  intro ps Q Q' H h q; unfold fRange at *
  split at q
  · exact h _ _ q
  · exact h _ _ q
  · exact q.elim
theorem mf_list : MonoF fList := by
  intro ps Q Q' H h q; unfold fList at *
  split at q
  · split at q
    · exact ⟨q.1, newL_mono h q.2⟩
    · exact q.elim
  · exact ⟨q.1, newL_mono h q.2⟩
  · exact q.elim
theorem mf_tuple : MonoF fTuple := by
  intro ps Q Q' H h q; unfold fTuple at *
  split at q
  · split at q
    · exact ⟨q.1, h _ _ q.2⟩
    · exact q.elim
  · exact q.elim
theorem mf_append : MonoF fAppend := by
  intro ps Q Q' H h q; unfold fAppend at *
  split at q
  · exact withOwn_mono (fun a xs q => ⟨q.1, h _ _ q.2⟩) q
  · exact q.elim
theorem mg_name {k : Nat} : MonoG (gName k) := fun p Q Q' ρ H h q => h _ _ q
theorem setAt_mono {o i p : PV} {Q Q' : AH → Prop} {H : AH} (h : ∀ H, Q H → Q' H) (q : setAt o i p Q H) : setAt o i p Q' H := by
  unfold setAt at *
  split at q
  · exact withOwn_mono (fun a xs q => ⟨q.1, h _ q.2⟩) q
  · exact q.elim
theorem mg_sub {a b : AE} (ha : MonoE a) (hb : MonoE b) : MonoG (gSub a b) := fun p Q Q' ρ H h q => ha _ _ _ _ (fun p1 H1 q1 => hb _ _ _ _ (fun p2 H2 q2 => setAt_mono (fun H3 q3 => h _ _ q3) q2) q1) q
inductive MonoGs : List ATg → Prop
  | nil : MonoGs []
  | cons {g : ATg} {gs : List ATg} : MonoG g → MonoGs gs → MonoGs (g :: gs)
theorem go_mono : ∀ {gs : List ATg}, MonoGs gs → ∀ (ps : List PV) (Q Q' : AEnv → AH → Prop) (ρ : AEnv) (H : AH), (∀ ρ H, Q ρ H → Q' ρ H) → gTup.go gs ps Q ρ H → gTup.go gs ps Q' ρ H
  | _, .nil, ps, Q, Q', ρ, H, h, q => by simp only [gTup.go] at *; exact h _ _ q
  | _, .cons hg hgs, [], Q, Q', ρ, H, h, q => by simp only [gTup.go] at *; exact h _ _ q
  | _, .cons hg hgs, p :: ps, Q, Q', ρ, H, h, q => by
    simp only [gTup.go] at *
    exact hg _ _ _ _ _ (fun ρ1 H1 q1 => go_mono hgs ps Q Q' ρ1 H1 h q1) q
theorem mg_tup {gs : List ATg} (hg : MonoGs gs) : MonoG (gTup gs) := by
  intro p Q Q' ρ H h q; unfold gTup at *
  split at q
  · exact ⟨q.1, go_mono hg _ _ _ _ _ h q.2⟩
  · exact q.elim

-- statements
theorem ms_nil : MonoS sNil := fun Q Q' ρ H h q => h _ _ _ q
theorem ms_cons {a b : AS} (ha : MonoS a) (hb : MonoS b) : MonoS (sCons a b) := fun Q Q' ρ H h q => ha _ _ _ _ (fun fl ρ1 H1 q1 => by
  cases fl with
  | next => exact hb _ _ _ _ h q1
  | brk => exact h _ _ _ q1
  | cont => exact h _ _ _ q1
  | ret p => exact h _ _ _ q1) q
theorem ms_assign {g : ATg} {a : AE} (ha : MonoE a) (hg : MonoG g) : MonoS (sAssign g a) := fun Q Q' ρ H h q => ha _ _ _ _ (fun p H1 q1 => hg _ _ _ _ _ (fun ρ2 H2 q2 => h _ _ _ q2) q1) q
theorem ms_ret {a : AE} (ha : MonoE a) : MonoS (sRet a) := fun Q Q' ρ H h q => ha _ _ _ _ (fun p H1 q1 => h _ _ _ q1) q
theorem ms_if {t : AT} {a b : AS} (ht : MonoT t) (ha : MonoS a) (hb : MonoS b) : MonoS (sIf t a b) := fun Q Q' ρ H h q => ht _ _ _ _ (fun p H1 q1 => by
  cases p
  · exact hb _ _ _ _ h (by simpa using q1)
  · exact ha _ _ _ _ h (by simpa using q1)) q
theorem withItems_mono {p : PV} {k k' : List PV → (AH → Prop) → AH → Prop} {H : AH} (h : ∀ xs G H, k xs G H → k' xs G H) (q : withItems p k H) : withItems p k' H := by
  unfold withItems at *
  split at q
  · split at q
    · exact h _ _ _ q
    · exact q.elim
  · exact h _ _ _ q
  · exact h _ _ _ q
  · exact ⟨q.1, h _ _ _ q.2⟩
  · exact q.elim

/-- a loop by what holds ahead of each turn -/
theorem forL_inv {g : ATg} {body : AS} {G : AH → Prop} {Q : Fl → AEnv → AH → Prop} (mg : MonoG g) (mb : MonoS body) (I : List PV → AEnv → AH → Prop)
    (step : ∀ p ps ρ H, I (p :: ps) ρ H → g p (fun ρ1 H1 => body (fun fl ρ2 H2 => match fl with
      | .next => G H2 ∧ I ps ρ2 H2
      | .cont => G H2 ∧ I ps ρ2 H2
      | .brk => Q .next ρ2 H2
      | .ret v => Q (.ret v) ρ2 H2) ρ1 H1) ρ H) (fin : ∀ ρ H, I [] ρ H → Q .next ρ H) : ∀ (items : List PV) (ρ : AEnv) (H : AH), I items ρ H → forL g body G Q items ρ H
  | [], ρ, H, hi => fin ρ H hi
  | p :: ps, ρ, H, hi => by
    refine mg _ _ _ _ _ (fun ρ1 H1 q1 => mb _ _ _ _ (fun fl ρ2 H2 q2 => ?_) q1) (step p ps ρ H hi)
    cases fl with
    | next => exact ⟨q2.1, forL_inv mg mb I step fin ps ρ2 H2 q2.2⟩
    | cont => exact ⟨q2.1, forL_inv mg mb I step fin ps ρ2 H2 q2.2⟩
    | brk => exact q2
    | ret v => exact q2
theorem ms_for {g : ATg} {src : AE} {body : AS} (hs : MonoE src) (mg : MonoG g) (mb : MonoS body) : MonoS (sFor g src body) := fun Q Q' ρ H h q =>
  hs _ _ _ _ (fun p H1 q1 => withItems_mono (fun xs G H2 q2 => by
    refine forL_inv mg mb (fun ps ρ H => forL g body G Q ps ρ H) (fun p ps ρ H hi => ?_) (fun ρ H hi => h _ _ _ hi) xs ρ H2 q2
    refine mg _ _ _ _ _ (fun ρ1 H1 q1 => mb _ _ _ _ (fun fl ρ2 H2 q2 => ?_) q1) hi
    cases fl with
    | next => exact q2
    | cont => exact q2
    | brk => exact h _ _ _ q2
    | ret v => exact h _ _ _ q2) q1) q
theorem whileN_inv {t : AT} {body : AS} {Q : Fl → AEnv → AH → Prop} (mt : MonoT t) (mb : MonoS body) (I : Nat → AEnv → AH → Prop)
    (step : ∀ k ρ H, I k ρ H → t (fun r H1 => if r then body (fun fl ρ2 H2 => match fl with
      | .next => ∃ j, j < k ∧ I j ρ2 H2
      | .cont => ∃ j, j < k ∧ I j ρ2 H2
      | .brk => Q .next ρ2 H2
      | .ret v => Q (.ret v) ρ2 H2) ρ H1 else Q .next ρ H1) ρ H) : ∀ (n k : Nat), k < n → ∀ (ρ : AEnv) (H : AH), I k ρ H → whileN t body Q n ρ H
  | 0, k, hk, _, _, _ => absurd hk (Nat.not_lt_zero _)
  | n + 1, k, hk, ρ, H, hi => by
    refine mt _ _ _ _ (fun r H1 q1 => ?_) (step k ρ H hi)
    cases r with
    | false => simpa using q1
    | true =>
      simp only [if_true] at q1 ⊢
      refine mb _ _ _ _ (fun fl ρ2 H2 q2 => ?_) q1
      cases fl with
      | next => obtain ⟨j, hj, q2⟩ := q2; exact whileN_inv mt mb I step n j (by omega) ρ2 H2 q2
      | cont => obtain ⟨j, hj, q2⟩ := q2; exact whileN_inv mt mb I step n j (by omega) ρ2 H2 q2
      | brk => exact q2
      | ret v => exact q2
theorem while_inv {t : AT} {body : AS} {Q : Fl → AEnv → AH → Prop} {ρ : AEnv} {H : AH} (mt : MonoT t) (mb : MonoS body) (I : Nat → AEnv → AH → Prop) (k : Nat) (hi : I k ρ H)
    (step : ∀ k ρ H, I k ρ H → t (fun r H1 => if r then body (fun fl ρ2 H2 => match fl with
      | .next => ∃ j, j < k ∧ I j ρ2 H2
      | .cont => ∃ j, j < k ∧ I j ρ2 H2
      | .brk => Q .next ρ2 H2
      | .ret v => Q (.ret v) ρ2 H2) ρ H1 else Q .next ρ H1) ρ H) : sWhile t body Q ρ H := ⟨k + 1, whileN_inv mt mb I step (k + 1) k (Nat.lt_succ_self _) ρ H hi⟩
theorem ms_while {t : AT} {body : AS} (mt : MonoT t) (mb : MonoS body) : MonoS (sWhile t body) := by
  intro Q Q' ρ H h ⟨k, q⟩
  refine ⟨k, ?_⟩
  revert ρ H
  induction k with
  | zero => intro ρ H q; exact q
  | succ k ih =>
    intro ρ H q
    refine mt _ _ _ _ (fun r H1 q1 => ?_) q
    cases r with
    | false => simp only [Bool.false_eq_true, if_false] at q1 ⊢; exact h _ _ _ q1
    | true =>
      simp only [if_true] at q1 ⊢
      refine mb _ _ _ _ (fun fl ρ2 H2 q2 => ?_) q1
      cases fl with
      | next => exact ih _ _ q2
      | cont => exact ih _ _ q2
      | brk => exact h _ _ _ q2
      | ret v => exact h _ _ _ q2
theorem mf_fn {ks : List Nat} {b : AS} (hb : MonoS b) : MonoF (aFn ks b) := fun ps Q Q' H h q => ⟨q.1, hb _ _ _ _ (fun fl ρ1 H1 q1 => by
  cases fl with
  | next => exact h _ _ q1
  | brk => exact q1
  | cont => exact q1
  | ret p => exact h _ _ q1) q.2⟩

-- comprehensions
def MonoB (b : AB) : Prop := ∀ (Q Q' : AEnv → AH → Prop) (ρ : AEnv) (H : AH), (∀ ρ H, Q ρ H → Q' ρ H) → b Q ρ H → b Q' ρ H
/-- a comprehension's loop by an invariant -/
theorem compL_inv {g : ATg} {t : AT} {b : AB} {G : AH → Prop} {Q : AEnv → AH → Prop} (mg : MonoG g) (mt : MonoT t) (mb : MonoB b) (J : List PV → AEnv → AH → Prop) (hend : ∀ ρ H, J [] ρ H → Q ρ H)
    (hst : ∀ p ps ρ H, J (p :: ps) ρ H → g p (fun ρ1 H1 => t (fun k H2 => if k then b (fun ρ3 H3 => G H3 ∧ J ps ρ3 H3) ρ1 H2 else G H2 ∧ J ps ρ1 H2) ρ1 H1) ρ H) : ∀ (items : List PV) (ρ : AEnv) (H : AH), J items ρ H → compL g t b G Q items ρ H := by
  intro items
  induction items with
  | nil => intro ρ H h; exact hend ρ H h
  | cons p ps ih =>
    intro ρ H h
    refine mg _ _ _ _ _ (fun ρ1 H1 q1 => mt _ _ _ _ (fun k H2 q2 => ?_) q1) (hst p ps ρ H h)
    cases k with
    | false => exact ⟨q2.1, ih _ _ q2.2⟩
    | true => exact mb _ _ _ _ (fun ρ3 H3 q3 => ⟨q3.1, ih _ _ q3.2⟩) q2
theorem compL_mono {g : ATg} {t : AT} {b : AB} {G : AH → Prop} {Q Q' : AEnv → AH → Prop} (mg : MonoG g) (mt : MonoT t) (mb : MonoB b) (h : ∀ ρ H, Q ρ H → Q' ρ H) {items : List PV} {ρ : AEnv} {H : AH} (q : compL g t b G Q items ρ H) : compL g t b G Q' items ρ H :=
  compL_inv mg mt mb (fun ps ρ H => compL g t b G Q ps ρ H) h (fun _ _ _ _ q => q) items ρ H q
theorem mb_emit {e : AE} {a : Nat} (me : MonoE e) : MonoB (bEmit e a) := fun Q Q' ρ H h q => me _ _ _ _ (fun v H3 q3 => mf_append _ _ _ _ (fun _ H4 q4 => h _ _ q4) q3) q
theorem m_compB {ks : List Nat} {g : ATg} {src : AE} {t : AT} {b : Nat → AB} (hs : MonoE src) (mg : MonoG g) (mt : MonoT t) (mb : ∀ a, MonoB (b a)) : MonoE (aCompB ks g src t b) := fun Q Q' ρ H h q =>
  hs _ _ _ _ (fun p H1 q1 => withItems_mono (fun xs G H2 q2 a ha => ⟨(q2 a ha).1, compL_mono mg mt (mb a) (fun _ H3 q3 => h _ _ q3) (q2 a ha).2⟩) q1) q
theorem m_comp {ks : List Nat} {g : ATg} {src : AE} {t : AT} {e : AE} (hs : MonoE src) (mg : MonoG g) (mt : MonoT t) (me : MonoE e) : MonoE (aComp ks g src t e) := m_compB hs mg mt fun a => mb_emit me
def Keep (H H' : AH) : Prop := ∀ a x, H a = some x → H' a = some x
theorem Keep.refl {H : AH} : Keep H H := fun _ _ h => h
theorem Keep.trans {H H' H'' : AH} (h : Keep H H') (k : Keep H' H'') : Keep H H'' := fun a x q => k a x (h a x q)
theorem Keep.upd {H H' : AH} {a : Nat} {y : LO} (h : Keep H H') (ha : H a = none) : Keep H (upd H' a y) := fun b x q => by
  have : b ≠ a := by rintro rfl; rw [ha] at q; cases q
  rw [upd_other _ _ this]; exact h b x q
theorem Keep.new {H : AH} {a : Nat} {y : LO} (ha : H a = none) : Keep H (Mine.upd H a y) := Keep.refl.upd ha
theorem ne_new {H : AH} {a b : Nat} {x : LO} (h : H b = some x) (ha : H a = none) : b ≠ a := by rintro rfl; rw [ha] at h; cases h

/-- a comprehension whose parts write nothing -/
theorem compL_run {g : ATg} {t : AT} {e : AE} {a : Nat} {G Q : AH → Prop} (mg : MonoG g) (mt : MonoT t) (me : MonoE e) (J : AEnv → Prop) (val : PV → Option PV) {H₀ : AH} (h0 : H₀ a = none) (hG : ∀ H, Keep H₀ H → G H) : ∀ (items : List PV),
    (∀ p ∈ items, ∀ ρ H acc, J ρ → Keep H₀ H → H a = some ⟨acc, true⟩ → g p (fun ρ1 H1 => t (fun b H2 => if b then e (fun v H3 => J ρ1 ∧ Keep H₀ H3 ∧ H3 a = some ⟨acc, true⟩ ∧ val p = some v) ρ1 H2 else J ρ1 ∧ Keep H₀ H2 ∧ H2 a = some ⟨acc, true⟩ ∧ val p = none) ρ1 H1) ρ H) →
    ∀ (acc : List PV) (ρ : AEnv) (H : AH), J ρ → Keep H₀ H → H a = some ⟨acc, true⟩ → acc.length + items.length ≤ 16777216 → (∀ H', Keep H₀ H' → H' a = some ⟨acc ++ items.filterMap val, true⟩ → Q H') → compL g t (bEmit e a) G (fun _ H => Q H) items ρ H
  | [], hst, acc, ρ, H, hJ, hK, hA, hl, hQ => hQ H hK (by simpa using hA)
  | p :: ps, hst, acc, ρ, H, hJ, hK, hA, hl, hQ => by
    have hst' := fun q hq => hst q (.tail _ hq)
    simp only [List.length_cons] at hl
    refine mg _ _ _ _ _ (fun ρ1 H1 q1 => mt _ _ _ _ (fun b H2 q2 => ?_) q1) (hst p (.head _) ρ H acc hJ hK hA)
    cases b with
    | false =>
      simp only [Bool.false_eq_true, if_false] at q2 ⊢
      obtain ⟨j, k, l, m⟩ := q2
      exact ⟨hG _ k, compL_run mg mt me J val h0 hG ps hst' acc ρ1 H2 j k l (by omega) fun H' k' l' => hQ H' k' (by rw [l', List.filterMap_cons, m])⟩
    | true =>
      simp only [if_true] at q2 ⊢
      refine me _ _ _ _ (fun v H3 q3 => ?_) q2
      obtain ⟨j, k, l, m⟩ := q3
      simp only [fAppend, withOwn, l]
      have kk : Keep H₀ (upd H3 a ⟨acc ++ [v], true⟩) := k.upd h0
      refine ⟨trivial, by simp only [szOk]; omega, hG _ kk, compL_run mg mt me J val h0 hG ps hst' (acc ++ [v]) ρ1 _ j kk (upd_same _ _ _) (by simp; omega) fun H' k' l' => hQ H' k' (by rw [l', List.filterMap_cons, m]; simp)⟩
/-- from the source's items -/
theorem aComp_run {ks : List Nat} {g : ATg} {src : AE} {t : AT} {e : AE} {Q : PV → AH → Prop} {ρ : AEnv} {H : AH} (mg : MonoG g) (mt : MonoT t) (me : MonoE e) (ms : MonoE src)
    (h : src (fun p H1 => withItems p (fun items G H2 => ∃ (J : AEnv → Prop) (val : PV → Option PV), (∀ H', Keep H2 H' → G H') ∧ J (capt ks ρ) ∧ items.length ≤ 16777216 ∧
      (∀ p ∈ items, ∀ ρ' H', J ρ' → Keep H2 H' → g p (fun ρ1 H1 => t (fun b H4 => if b then e (fun v H3 => J ρ1 ∧ (∀ b x, H' b = some x → H3 b = some x) ∧ val p = some v) ρ1 H4 else J ρ1 ∧ (∀ b x, H' b = some x → H4 b = some x) ∧ val p = none) ρ1 H1) ρ' H') ∧
      ∀ a H', H2 a = none → Keep H2 H' → H' a = some ⟨items.filterMap val, true⟩ → Q (.ref a) H') H1) ρ H) : aComp ks g src t e Q ρ H := by
  refine ms _ _ _ _ (fun p H1 q1 => withItems_mono (fun items G H2 ⟨J, val, hG, hJ, hl, hst, hQ⟩ a ha => ?_) q1) h
  refine ⟨hG _ (Keep.new ha), compL_run mg mt me J val ha hG items (fun p hp ρ' H' acc j k l => ?_) [] _ _ hJ (Keep.new ha) (upd_same _ _ _) (by simpa using hl) fun H' k' l' => hQ a H' ha k' (by simpa using l')⟩
  refine mg _ _ _ _ _ (fun ρ1 H1 q1 => mt _ _ _ _ (fun b H2 q2 => ?_) q1) (hst p hp ρ' H' j k)
  cases b with
  | false => simp only [Bool.false_eq_true, if_false] at q2 ⊢; exact ⟨q2.1, fun b x hx => q2.2.1 b x (k b x hx), q2.2.1 a _ l, q2.2.2⟩
  | true =>
    simp only [if_true] at q2 ⊢
    exact me _ _ _ _ (fun v H3 q3 => ⟨q3.1, fun b x hx => q3.2.1 b x (k b x hx), q3.2.1 a _ l, q3.2.2⟩) q2
end Mine
open PySem PySem.W PySem.Calls PyProof.Rows
set_option Elab.async false
namespace Mine
theorem occ_one (ch : Nat) (x : List Nat) : occIn [ch] x = decide (ch ∈ x) := by
  unfold occIn
  have := StrLaws.found_one ⟨x.toArray⟩ ch
  simpa [str_len] using this
/-- what a function leaves: the old lists as they were -/
theorem Keep.at {H H' : AH} {a : Nat} {x : LO} (k : Keep H H') (h : H a = some x) : H' a = some x := k a x h
theorem Keep.none {H H' : AH} {a : Nat} (k : Keep H H') (h : H' a = Option.none) : H a = Option.none := by
  cases hq : H a with
  | none => rfl
  | some x => rw [k a x hq] at h; cases h
theorem nth_zero {α : Type} (x : α) (xs : List α) : nth (x :: xs) 0 = some x := by simp [nth]
theorem nth_one {α : Type} (x y : α) (xs : List α) : nth (x :: y :: xs) 1 = some y := by simp [nth]
theorem nth_two {α : Type} (x y z : α) (xs : List α) : nth (x :: y :: z :: xs) 2 = some z := by simp [nth]
theorem nth_last {α : Type} (xs : List α) : nth xs (-1) = xs.getLast? := by
  unfold nth
  rw [if_neg (by decide)]
  cases xs with
  | nil => simp
  | cons x xs =>
    rw [if_pos (by simp; omega), List.getLast?_eq_getElem?]
    congr 1
    simp; omega
theorem nth_of {α : Type} {xs : List α} {i : Int} {k : Nat} {x : α} (h : i = k) (hx : xs[k]? = some x) : nth xs i = some x := by
  subst h
  unfold nth
  rw [if_pos (Int.natCast_nonneg _)]; simpa using hx
theorem rng_mem {lo hi : Int} {p : PV} (h : p ∈ rngItems lo hi) : ∃ k : Nat, p = .int (lo + k) ∧ lo + k < hi := by
  unfold rngItems at h
  obtain ⟨k, hk, rfl⟩ := List.mem_map.mp h
  rw [List.mem_range] at hk
  exact ⟨k, rfl, by omega⟩
theorem eq_int (x y : Int) (Q : Bool → AH → Prop) (H : AH) : cmpEq (.int x) (.int y) Q H = Q (decide (x = y)) H := rfl
theorem eq_str (x y : List Nat) (Q : Bool → AH → Prop) (H : AH) : cmpEq (.str x) (.str y) Q H = Q (decide (x = y)) H := rfl
theorem eq_bool (x y : Bool) (Q : Bool → AH → Prop) (H : AH) : cmpEq (.bool x) (.bool y) Q H = Q (decide (x = y)) H := rfl
/-- one statement at a time: what follows stays behind a name -/
def after (b : AS) (Q : Fl → AEnv → AH → Prop) : Fl → AEnv → AH → Prop := fun fl ρ1 H1 => match fl with | .next => b Q ρ1 H1 | fl => Q fl ρ1 H1
theorem seq {a b : AS} {Q : Fl → AEnv → AH → Prop} {ρ : AEnv} {H : AH} (h : a (after b Q) ρ H) : sCons a b Q ρ H := h
theorem after_next {b : AS} {Q : Fl → AEnv → AH → Prop} {ρ : AEnv} {H : AH} (h : b Q ρ H) : after b Q .next ρ H := h
theorem after_ret {b : AS} {Q : Fl → AEnv → AH → Prop} {ρ : AEnv} {H : AH} {p : PV} (h : Q (.ret p) ρ H) : after b Q (.ret p) ρ H := h
/-- a function's end -/
def endF (Q : PV → AH → Prop) : Fl → AEnv → AH → Prop := fun fl _ H' => match fl with
  | .ret p => Q p H'
  | .next => Q .none H'
  | .brk => False
  | .cont => False
theorem fn {ks : List Nat} {b : AS} {ps : List PV} {Q : PV → AH → Prop} {H : AH} (hl : ps.length = ks.length) (h : b (endF Q) (bindP ks ps) H) : aFn ks b ps Q H := ⟨hl, h⟩
theorem end_ret {Q : PV → AH → Prop} {p : PV} {ρ : AEnv} {H : AH} (h : Q p H) : endF Q (.ret p) ρ H := h
end Mine
open PySem PySem.W PySem.Calls PyProof.Rows
set_option Elab.async false
namespace Mine
def freeChk (q : Program) (loose : List Str) (x : Str) : Bool := !(startupNames.contains x) && !(loose.contains x) && !(((recsOf q).map (·.name)).contains x) && !(((litsOf q).map (·.1)).contains x) && !(((clssOf q loose).map (·.name)).contains x)
theorem free_of {c : Cx} {q : Program} {loose : List Str} (hq : c.q = q) (hl : c.loose = looseW q loose) {x : Str} (h : freeChk q (looseW q loose) x = true) : c.mg x = none := by
  rw [← hl, ← hq] at h
  simp only [freeChk, Bool.and_eq_true, Bool.not_eq_true', List.contains_eq_mem, decide_eq_false_iff_not] at h
  obtain ⟨⟨⟨⟨h1, h2⟩, h3⟩, h4⟩, h5⟩ := h
  exact c.top.free x h1 h2 h3 h4 h5
theorem mem_rec {c : Cx} {q : Program} {d : DefRec} {i : Nat} (hq : c.q = q) (h : (recsOf q)[i]? = some d) : d ∈ recsOf c.q := by rw [hq]; exact List.mem_of_getElem? h
section
variable {c : Cx} {n : Nat} {sc : SE}
def isStar : Expr → Bool
  | .Starred .. => true
  | _ => false
theorem star_plain (e : Expr) (es : List Expr) (h : isStar e = false) (env : Env) : starEach (e :: es) env = (false, eval e env) :: starEach es env := by
  cases e <;> first | rfl | cases h
theorem list_consP {e : Expr} {es : List Expr} {a : AE} {l : AL} (h : SoundE c n sc e a) (k : SoundL c n sc es l) (hs : isStar e = false) : SoundL c n sc (e :: es) (lCons a l) := list_cons h k (star_plain e es hs)
theorem len1 {α : Type} {vs : List α} (h : vs.length = 1) : ∃ a, vs = [a] := by
  cases vs with
  | nil => cases h
  | cons a r => cases r with
    | nil => exact ⟨a, rfl⟩
    | cons _ _ => simp at h
theorem len2 {α : Type} {vs : List α} (h : vs.length = 2) : ∃ a b, vs = [a, b] := by
  cases vs with
  | nil => cases h
  | cons a r => obtain ⟨b, rfl⟩ := len1 (vs := r) (by simpa using h); exact ⟨a, b, rfl⟩
end
end Mine
open PySem PySem.W PySem.Calls PyProof.Rows
set_option Elab.async false
set_option linter.unusedVariables false
namespace Mine
section
variable {c : Cx} {n : Nat}

def fChr : AF := fun ps Q H => match ps with
  | [.int i] => (0 ≤ i ∧ i < 0x110000) ∧ Q (.str [i.toNat]) H
  | _ => False
def strsOf : List PV → Option (List (List Nat))
  | [] => some []
  | .str x :: r => (strsOf r).map (x :: ·)
  | _ :: _ => none
def joinL (sep : List Nat) : List (List Nat) → List Nat
  | [] => []
  | [x] => x
  | x :: r => x ++ sep ++ joinL sep r
theorem joinL_nil : ∀ xs : List (List Nat), joinL [] xs = xs.flatten
  | [] => rfl
  | [x] => by simp [joinL]
  | x :: y :: r => by simp only [joinL, List.append_nil, List.flatten_cons]; rw [joinL_nil (y :: r), List.flatten_cons]
def fSJoin : AF := fun ps Q H => match ps with
  | [.str sep, .ref a] => (match H a with
    | some x => (match strsOf x.items with
      | some ys => (ys.map List.length).sum + ys.length * sep.length ≤ 16777216 ∧ Q (.str (joinL sep ys)) H
      | none => False)
    | none => False)
  | _ => False
end
end Mine
open PySem PySem.W PySem.Calls PyProof.Rows
set_option Elab.async false
namespace Mine
def up (p : Nat × List Nat) : PV := .tup [.int p.1, .str p.2]
end Mine
open PySem PySem.W PySem.Calls PyProof.Rows
set_option Elab.async false
set_option linter.unusedVariables false
namespace Mine
section
variable {c : Cx} {n : Nat} {sc : SE}

def boolsOf : List PV → Option (List Bool)
  | [] => some []
  | .bool b :: r => (boolsOf r).map (b :: ·)
  | _ :: _ => none
def intsOf : List PV → Option (List Int)
  | [] => some []
  | .int i :: r => (intsOf r).map (i :: ·)
  | _ :: _ => none
def fAll : AF := fun ps Q H => match ps with
  | [.ref a] => (match H a with | some x => (match boolsOf x.items with | some bs => Q (.bool (bs.all id)) H | none => False) | none => False)
  | _ => False
def fAny : AF := fun ps Q H => match ps with
  | [.ref a] => (match H a with | some x => (match boolsOf x.items with | some bs => Q (.bool (bs.any id)) H | none => False) | none => False)
  | _ => False
def fSum : AF := fun ps Q H => match ps with
  | [.ref a] => (match H a with | some x => (match intsOf x.items with | some ns => Q (.int ns.sum) H | none => False) | none => False)
  | _ => False
def fMin : AF := fun ps Q H => match ps with
  | [.int a, .int b] => Q (.int (if b < a then b else a)) H
  | _ => False
end
end Mine
open PySem PySem.W PySem.Calls PyProof.Rows
set_option Elab.async false
set_option linter.unusedVariables false
set_option maxRecDepth 100000
set_option maxHeartbeats 8000000
namespace Mine
section
variable {α : Type} {M : Model} {A : Around} {E : Value → Shared → Prop} {s : Shared}
/-- an exception with a message, new -/
def Msg (h h' : Heap) (e : Addr) (cls msg : String) : Prop := ∃ t, Heap.MadeExc h h' e cls [.str (Str.ofString msg) t]
theorem raise_words {cls msg : String} {Q : α → Shared → Prop} (hp : PlainExc cls) (hh : A.handled = none) (h : ∀ h' tk e, Msg s.heap h' e cls msg → E (.ref e) { s with heap := h', toks := tk }) : wpAny M A (raiseErrorWords cls msg : Sem α) Q E s := by
  unfold raiseErrorWords
  exact wpAny_bind (wpAny_mkText (wpAny_bind (wpAny_newExc_plain hp (fun h' e hx => wpAny_raiseNew_none hh (h h' _ e ⟨_, hx⟩)) (by simp [sizeLine]))))
theorem raise_made {cls msg : String} {Q : α → Shared → Prop} (hp : PlainExc cls) (hh : A.handled = none) (h : ∀ h' tk e, Msg s.heap h' e cls msg → E (.ref e) { s with heap := h', toks := tk }) (hm : (msg : Str).length ≤ sizeLine) : wpAny M A (raiseErrorMade cls msg : Sem α) Q E s := by
  unfold raiseErrorMade
  exact wpAny_bind (wpAny_mkStr (wpAny_bind (wpAny_newExc_plain hp (fun h' e hx => wpAny_raiseNew_none hh (h h' _ e ⟨_, hx⟩)) (by simp [sizeLine]))) hm)
end
open Builtin Builtin.Str
/-- a value that is no number -/
structure NoNum (v : Value) (T : String) : Prop where
  typ : ∀ s : Shared, s.TypeIs v T
  noInt : ∀ {M : Model} {A : Around} {E : Value → Shared → Prop} {s : Shared} {Q : Option Int → Shared → Prop}, Q none s → wpAny M A (asInt? v) Q E s
  look : ∀ x : Str, x = "__int__" ∨ x = "__index__" ∨ x = "__float__" ∨ x = "__trunc__" → typeLookup (.type T) x = pure none
  fn : (Value.type T == Value.type "builtin_function_or_method") = false
theorem nonum_none : NoNum .none "NoneType" where
  typ s := rfl
  noInt h := wpAny_pure h
  look x hx := by
    rcases hx with rfl | rfl | rfl | rfl <;> (rw [typeLookup_type, builtinLookup_eq_fast]; kernel_rfl)
  fn := by decide
theorem nonum_str (x : PySem.Str) (t : Tok) : NoNum (.str x t) "str" where
  typ s := rfl
  noInt h := wpAny_pure h
  look x hx := by
    rcases hx with rfl | rfl | rfl | rfl <;> (rw [typeLookup_type, builtinLookup_eq_fast]; kernel_rfl)
  fn := by decide
theorem no_number {M : Model} {A : Around} {E : Value → Shared → Prop} {s : Shared} {v : Value} {T m : String} {Q : Int → Shared → Prop} (hv : NoNum v T) (hA : A.handled = none) (hm : s!"%{Char.ofNat 100} format: {if (100 == 100 || 100 == 105 || 100 == 117) = true then "a real number" else "an integer"} is required, not {shownName T}" = m) (hz : (m : PySem.Str).length ≤ sizeLine)
    (hE : ∀ h' tk e, Msg s.heap h' e "TypeError" m → E (.ref e) { s with heap := h', toks := tk }) : wpAny M A (percentIntOf 100 v) Q E s := by
  unfold percentIntOf
  refine wpAny_bind (hv.noInt ?_)
  refine wpAny_bind (wpAny_bind (wpAny_specialOf (hv.typ s) (hv.look _ (.inl rfl)) (wpAny_pure ?_)))
  refine wpAny_bind (wpAny_bind (wpAny_specialOf (hv.typ s) (hv.look _ (.inr (.inl rfl))) (wpAny_pure ?_)))
  refine wpAny_bind (wpAny_bind (wpAny_specialOf (hv.typ s) (hv.look _ (.inr (.inr (.inl rfl)))) (wpAny_pure ?_)))
  refine wpAny_bind (wpAny_bind (wpAny_specialOf (hv.typ s) (hv.look _ (.inr (.inr (.inr rfl)))) (wpAny_pure ?_)))
  repeat kpc_if
  refine wpAny_bind (wpAny_pure ?_)
  refine wpAny_bind (wpAny_rule (wpAny_bind (wpAny_typeNameOf' (hv.typ s) hv.fn ?_)))
  subst hm
  exact raise_made plainExc_TypeError hA hE hz
abbrev FS := List Value × Writer × List Nat
/-- a number's figures, its sign, noughts up to k signs -/
def padL (k : Nat) (neg : Bool) (d : List Nat) : List Nat := if neg then 45 :: (List.replicate (k - 1 - d.length) 48 ++ d) else List.replicate (k - d.length) 48 ++ d
def figs (n : Nat) : List Nat := (Nat.toDigits 10 n).map Char.toNat
def padI (k : Nat) (n : Int) : List Nat := padL k (decide (n < 0)) (figs n.natAbs)
theorem figs_text (n : Nat) : (PySem.Str.ofString (toString ((n : Nat) : Int))).cps.toList = figs n := by
  show (PySem.Str.ofString (String.ofList (Nat.toDigits 10 n))).cps.toList = figs n
  rw [Fast.ofString_ofList]; rfl
theorem figs_mem {n c : Nat} (h : c ∈ figs n) : 48 ≤ c ∧ c ≤ 57 := by
  obtain ⟨ch, h1, rfl⟩ := List.mem_map.mp h
  have := Nat.isDigit_of_mem_toDigits (by decide) (by decide) h1
  simp only [Char.isDigit, Bool.and_eq_true, decide_eq_true_eq, UInt32.le_iff_toNat_le] at this
  exact this
theorem figs_head (n : Nat) : ∀ r, figs n ≠ 45 :: r ∧ figs n ≠ 43 :: r := fun r =>
  ⟨fun e => by have := (figs_mem (n := n) (c := 45) (by rw [e]; exact .head _)).1; omega, fun e => by have := (figs_mem (n := n) (c := 43) (by rw [e]; exact .head _)).1; omega⟩
theorem digit_code {n : Nat} (h : n < 10) : (Nat.digitChar n).toNat = 48 + n := by
  have : ∀ n : Nat, n < 10 → (Nat.digitChar n).toNat = 48 + n := by decide
  exact this n h
theorem figs_rec (n : Nat) : figs n = if n < 10 then [48 + n] else figs (n / 10) ++ [48 + n % 10] := by
  unfold figs
  rw [Nat.toDigits_eq_if (by decide)]
  split
  · simp [digit_code ‹_›]
  · simp [digit_code (Nat.mod_lt n (by decide : 0 < 10))]
def pct (k : Nat) : Percent := { ljust := false, sign := false, blank := false, alt := false, zero := true, width := some k, prec := none, type := 100 }
theorem pad_field (k : Nat) (neg : Bool) (d : List Nat) (hd : ∀ r, d ≠ 45 :: r ∧ d ≠ 43 :: r) : (percentField (pct k) true (percentInt (pct k) neg d)).getD (percentInt (pct k) neg d) = padL k neg d := by
  cases neg with
  | false =>
    have e : percentInt (pct k) false d = d := by simp [percentInt, pct]
    rw [e]
    unfold percentField padL
    simp only [pct, Option.all_some, Option.all_none, Bool.and_true, Bool.not_false, decide_eq_true_eq, Bool.false_and, Bool.false_eq_true, if_false, Bool.not_true, if_true]
    by_cases hk : k ≤ d.length
    · rw [if_pos hk]; simp [Nat.sub_eq_zero_of_le hk]
    · rw [if_neg hk]
      split
      · rename_i r he; exact absurd (show d = 45 :: r from he) (hd r).1
      · rename_i r he; exact absurd (show d = 43 :: r from he) (hd r).2
      · simp
  | true =>
    have e : percentInt (pct k) true d = 45 :: d := by simp [percentInt, pct]
    rw [e]
    unfold percentField padL
    simp only [pct, Option.all_some, Option.all_none, Bool.and_true, Bool.not_false, decide_eq_true_eq, Bool.false_and, Bool.false_eq_true, if_false, Bool.not_true, if_true, List.length_cons]
    by_cases hk : k ≤ d.length + 1
    · rw [if_pos hk]; simp [show k - 1 - d.length = 0 by omega]
    · rw [if_neg hk]
      simp [show k - (1 + d.length) = k - 1 - d.length by omega]
theorem field_wp {M : Model} {A : Around} {Q : ForInStep (List Value × Writer × List Nat) → Shared → Prop} {E : Value → Shared → Prop} {s : Shared} {p : List Value} {wr : Writer} {r : List Nat} {k : Nat} {neg : Bool} {d : List Nat} (hd : ∀ r, d ≠ 45 :: r ∧ d ≠ 43 :: r) (h : Q (.yield (p, wr.add ⟨(padL k neg d).toArray⟩ none, r)) s) :
    wpAny M A (match percentField (pct k) true (percentInt (pct k) neg d) with
      | none => pure (.yield (p, wr.add ⟨(percentInt (pct k) neg d).toArray⟩ (if r.isEmpty = true then none else none), r))
      | some laid => pure (.yield (p, wr.add ⟨laid.toArray⟩ none, r))) Q E s := by
  rw [← pad_field k neg d hd] at h
  cases hq : percentField (pct k) true (percentInt (pct k) neg d) with
  | none => rw [hq] at h; rw [ite_self]; exact wpAny_pure h
  | some l => rw [hq] at h; exact wpAny_pure h
/-- the turns of a format's loop -/
structure FT (prog : Program) (w : World) (f : Nat → FS → Sem (ForInStep FS)) : Prop where
  done : ∀ (A : Around) (E : Value → Shared → Prop) (s : Shared) (Q : ForInStep FS → Shared → Prop) (x : Nat) (p : List Value) (wr : Writer), ¬ (tooLong wr.total = true) → Q (.done (p, wr, [])) s → wpAny (model prog w) A (f x (p, wr, [])) Q E s
  lit1 : ∀ (A : Around) (E : Value → Shared → Prop) (s : Shared) (Q : ForInStep FS → Shared → Prop) (x : Nat) (p : List Value) (wr : Writer) (r : List Nat), ¬ (tooLong wr.total = true) → Q (.yield (p, wr.add ⟨#[32]⟩ none, 37 :: r)) s → wpAny (model prog w) A (f x (p, wr, 32 :: 37 :: r)) Q E s
  lit2 : ∀ (A : Around) (E : Value → Shared → Prop) (s : Shared) (Q : ForInStep FS → Shared → Prop) (x : Nat) (p : List Value) (wr : Writer) (r : List Nat), ¬ (tooLong wr.total = true) → Q (.yield (p, wr.add ⟨#[58]⟩ none, 37 :: r)) s → wpAny (model prog w) A (f x (p, wr, 58 :: 37 :: r)) Q E s
  lit3 : ∀ (A : Around) (E : Value → Shared → Prop) (s : Shared) (Q : ForInStep FS → Shared → Prop) (x : Nat) (p : List Value) (wr : Writer) (r : List Nat), ¬ (tooLong wr.total = true) → Q (.yield (p, wr.add ⟨#[44, 32]⟩ none, 37 :: r)) s → wpAny (model prog w) A (f x (p, wr, 44 :: 32 :: 37 :: r)) Q E s
  padD : ∀ (A : Around) (E : Value → Shared → Prop) (s : Shared) (Q : ForInStep FS → Shared → Prop) (x : Nat) (p : List Value) (wr : Writer) (r : List Nat) (k : Nat) (n : Int) (t : Tok), k = 2 ∨ k = 4 → n.natAbs.log2 < 1920 → ¬ (tooLong wr.total = true) → (∀ tk, Q (.yield (p, wr.add ⟨(padI k n).toArray⟩ none, r)) { s with toks := tk }) → wpAny (model prog w) A (f x (.int n t :: p, wr, 37 :: 48 :: (48 + k) :: 100 :: r)) Q E s
  badD : ∀ (A : Around) (E : Value → Shared → Prop) (s : Shared) (Q : ForInStep FS → Shared → Prop) (x : Nat) (p : List Value) (wr : Writer) (r : List Nat) (k : Nat) (v : Value) (T m : String), k = 2 ∨ k = 4 → NoNum v T → A.handled = none → s!"%{Char.ofNat 100} format: {if (100 == 100 || 100 == 105 || 100 == 117) = true then "a real number" else "an integer"} is required, not {shownName T}" = m → (m : PySem.Str).length ≤ sizeLine → ¬ (tooLong wr.total = true) → (∀ h' tk e, Msg s.heap h' e "TypeError" m → E (.ref e) { s with heap := h', toks := tk }) → wpAny (model prog w) A (f x (v :: p, wr, 37 :: 48 :: (48 + k) :: 100 :: r)) Q E s
  intS : ∀ (A : Around) (E : Value → Shared → Prop) (s : Shared) (Q : ForInStep FS → Shared → Prop) (x : Nat) (p : List Value) (wr : Writer) (r : List Nat) (n : Int) (t : Tok), n.natAbs.log2 < 1920 → ¬ (tooLong wr.total = true) → (∀ o tk, KPc.Obj o (PySem.Str.ofString (toString n)) → Q (.yield (p, wr.add ⟨(PySem.Str.ofString (toString n)).cps.toList.toArray⟩ o, r)) { s with toks := tk }) → wpAny (model prog w) A (f x (.int n t :: p, wr, 37 :: 115 :: r)) Q E s
  noneS : ∀ (A : Around) (E : Value → Shared → Prop) (s : Shared) (Q : ForInStep FS → Shared → Prop) (x : Nat) (p : List Value) (wr : Writer) (r : List Nat), ¬ (tooLong wr.total = true) → (∀ o tk, KPc.Obj o (PySem.Str.ofString "None") → Q (.yield (p, wr.add ⟨(PySem.Str.ofString "None").cps.toList.toArray⟩ o, r)) { s with toks := tk }) → wpAny (model prog w) A (f x (.none :: p, wr, 37 :: 115 :: r)) Q E s
  strS : ∀ (A : Around) (E : Value → Shared → Prop) (s : Shared) (Q : ForInStep FS → Shared → Prop) (x : Nat) (p : List Value) (wr : Writer) (r : List Nat) (y : PySem.Str) (t : Tok), ¬ (tooLong wr.total = true) → (∀ o, KPc.Obj o y → Q (.yield (p, wr.add ⟨y.cps.toList.toArray⟩ o, r)) s) → wpAny (model prog w) A (f x (.str y t :: p, wr, 37 :: 115 :: r)) Q E s
theorem fmt_loop {prog : Program} {w : World} (obj : Value) (fmt : PySem.Str) (b : Addr) (its : Array Value) (hf : 3 ≤ fmt.length) : ∃ f, FT prog w f ∧
    ∀ (A : Around) (E : Value → Shared → Prop) (s : Shared) (Q : Fin → Shared → Prop), IsTup s.heap b its → wpAny (model prog w) A (forIn (List.range' 0 fmt.length 1) (its.toList, ({} : Writer), fmt.cps.toList) f) (fun r s' => r.1 = [] ∧ wpAny (model prog w) A (r.2.1.finish "str.__mod__") Q E s') E s → wpAny (model prog w) A (percentFormat obj fmt (.ref b)) Q E s := by
  have hl1 : (1 == fmt.length) = false := by simp; omega
  have hl2 : (2 == fmt.length) = false := by simp; omega
  apply Exists.intro
  apply And.intro
  case right =>
    intro A E s Q kptH h
    obtain ⟨kptO, kptG, kptC, kptN, kptD⟩ := kptH
    unfold Builtin.Str.percentFormat
    refine wpAny_bind (wpAny_isInstance (T := "tuple") ⟨kptO, kptG, kptC⟩ KPt.sub_tt ?_)
    refine wpAny_bind (KPt.asStr_ref kptG kptD ?_)
    refine wpAny_bind (KPt.fills_ref ⟨kptO, kptG, kptC⟩ ?_)
    intro bf
    cases bf
    all_goals
      kpc_if
      refine wpAny_bind (wpAny_seqItems kptG kptD ?_)
      refine wpAny_bind (wpAny_pure ?_)
      refine wpAny_bind ?_
      rw [KPc.range_list]
      refine wpAny_mono h (fun r s' hr => ?_) fun _ _ e => e
      obtain ⟨p, wr, r⟩ := r
      obtain ⟨rfl, hr⟩ := hr
      exact hr
  case left =>
    constructor
    · intro A E s Q x p wr hs h
      refine wpAny_ite (KPc.ite_no hs ?_)
      kpc_if
      exact wpAny_pure h
    · intro A E s Q x p wr r hs h
      refine wpAny_ite (KPc.ite_no hs ?_)
      repeat kpc_if
      refine wpAny_pure ?_
      show Q (.yield (p, wr.add ⟨#[32]⟩ (if (1 == fmt.length) = true then some obj else none), 37 :: r)) s
      rw [hl1]; exact h
    · intro A E s Q x p wr r hs h
      refine wpAny_ite (KPc.ite_no hs ?_)
      repeat kpc_if
      refine wpAny_pure ?_
      show Q (.yield (p, wr.add ⟨#[58]⟩ (if (1 == fmt.length) = true then some obj else none), 37 :: r)) s
      rw [hl1]; exact h
    · intro A E s Q x p wr r hs h
      refine wpAny_ite (KPc.ite_no hs ?_)
      repeat kpc_if
      refine wpAny_pure ?_
      show Q (.yield (p, wr.add ⟨#[44, 32]⟩ (if (2 == fmt.length) = true then some obj else none), 37 :: r)) s
      rw [hl2]; exact h
    · intro A E s Q x p wr r k n t hk hn hs h
      rcases hk with rfl | rfl
      · refine wpAny_ite (KPc.ite_no hs ?_)
        repeat kpc_if
        refine wpAny_bind ?_; refine wpAny_holding ?_; (repeat kpc_if)
        refine wpAny_bind (wpAny_of_eq (a := _) rfl ?_); (repeat kpc_if)
        refine wpAny_bind (wpAny_mkInt ?_)
        refine wpAny_bind (call_gives F.slot_int_repr (typeIs_int _ _ _) F.entry_int_repr (F.args_int_repr_1 _) (gives_int_repr _ _ (KPt.hd2 hn)) ⟨int_text_fits (KPt.hd2 hn), ?_⟩)
        refine wpAny_bind (wpAny_of_eq (a := some _) rfl ?_)
        refine wpAny_pure ?_
        rw [figs_text]
        exact field_wp (k := 2) (neg := decide (n < 0)) (d := figs n.natAbs) (figs_head _) (h _)
      · refine wpAny_ite (KPc.ite_no hs ?_)
        repeat kpc_if
        refine wpAny_bind ?_; refine wpAny_holding ?_; (repeat kpc_if)
        refine wpAny_bind (wpAny_of_eq (a := _) rfl ?_); (repeat kpc_if)
        refine wpAny_bind (wpAny_mkInt ?_)
        refine wpAny_bind (call_gives F.slot_int_repr (typeIs_int _ _ _) F.entry_int_repr (F.args_int_repr_1 _) (gives_int_repr _ _ (KPt.hd2 hn)) ⟨int_text_fits (KPt.hd2 hn), ?_⟩)
        refine wpAny_bind (wpAny_of_eq (a := some _) rfl ?_)
        refine wpAny_pure ?_
        rw [figs_text]
        exact field_wp (k := 4) (neg := decide (n < 0)) (d := figs n.natAbs) (figs_head _) (h _)
    · intro A E s Q x p wr r k v T m hk hv hA hm hz hs hE
      rcases hk with rfl | rfl
      · refine wpAny_ite (KPc.ite_no hs ?_)
        repeat kpc_if
        refine wpAny_bind ?_; refine wpAny_holding ?_; (repeat kpc_if)
        exact wpAny_bind (no_number hv hA hm hz hE)
      · refine wpAny_ite (KPc.ite_no hs ?_)
        repeat kpc_if
        refine wpAny_bind ?_; refine wpAny_holding ?_; (repeat kpc_if)
        exact wpAny_bind (no_number hv hA hm hz hE)
    · intro A E s Q x p wr r n t hn hs h
      refine wpAny_ite (KPc.ite_no hs ?_)
      repeat kpc_if
      refine wpAny_bind ?_; refine wpAny_holding ?_; (repeat kpc_if)
      refine wpAny_bind (KPc.strOf_int hn ?_)
      refine wpAny_bind (wpAny_of_eq (a := some _) rfl ?_); refine wpAny_pure ?_; refine wpAny_pure ?_
      refine h _ _ fun v hv => ?_
      by_cases hr : r.isEmpty = true
      · rw [if_pos hr] at hv; exact ⟨_, (Option.some.inj hv).symm⟩
      · rw [if_neg hr] at hv; cases hv
    · intro A E s Q x p wr r hs h
      refine wpAny_ite (KPc.ite_no hs ?_)
      repeat kpc_if
      refine wpAny_bind ?_; refine wpAny_holding ?_; (repeat kpc_if)
      refine wpAny_bind (wpAny_strOf_gives rfl (typeIs_none s) F.slot_NoneType_str F.slot_NoneType_repr F.entry_NoneType_repr (F.args_NoneType_repr_1 _) gives_none_repr ?_ (hsz := by decide +kernel))
      refine wpAny_bind (wpAny_of_eq (a := some _) rfl ?_); refine wpAny_pure ?_; refine wpAny_pure ?_
      refine h _ _ fun v hv => ?_
      by_cases hr : r.isEmpty = true
      · rw [if_pos hr] at hv; exact ⟨_, (Option.some.inj hv).symm⟩
      · rw [if_neg hr] at hv; cases hv
    · intro A E s Q x p wr r y t hs h
      refine wpAny_ite (KPc.ite_no hs ?_)
      repeat kpc_if
      refine wpAny_bind ?_; refine wpAny_holding ?_; (repeat kpc_if); kpt_conv; refine wpAny_pure ?_; refine wpAny_pure ?_
      refine h _ fun v hv => ?_
      by_cases hr : r.isEmpty = true
      · rw [if_pos hr] at hv; exact ⟨t, (Option.some.inj hv).symm⟩
      · rw [if_neg hr] at hv; cases hv
/-- the format of the project's one function -/
def fm0 : List Nat := [37, 115, 44, 32, 37, 48, 50, 100, 32, 37, 115, 32, 37, 48, 52, 100, 32, 37, 48, 50, 100, 58, 37, 48, 50, 100, 58, 37, 48, 50, 100, 32, 37, 115]
def fmText (w : List Nat) (d : Int) (m : List Nat) (y h i s : Int) (z : List Nat) : List Nat := w ++ [44, 32] ++ padI 2 d ++ [32] ++ m ++ [32] ++ padI 4 y ++ [32] ++ padI 2 h ++ [58] ++ padI 2 i ++ [58] ++ padI 2 s ++ [32] ++ z
theorem figs_len : ∀ (k n : Nat), n < 10 ^ (k + 1) → (figs n).length ≤ k + 1
  | 0, n, h => by rw [figs_rec, if_pos (by simpa using h)]; simp
  | k + 1, n, h => by
    rw [figs_rec]
    split
    · simp
    · have := figs_len k (n / 10) (by rw [Nat.pow_succ] at h; omega)
      simp; omega
def smI (n : Int) : Prop := -1000000000 < n ∧ n < 1000000000
theorem smI.log {n : Int} (h : smI n) : n.natAbs.log2 < 1920 := by
  have h1 : n.natAbs < 2 ^ 30 := by have := h.1; have := h.2; omega
  by_cases h0 : n.natAbs = 0
  · rw [h0]; decide
  · exact Nat.lt_of_lt_of_le ((Nat.log2_lt h0).mpr h1) (by decide)
theorem pad_len {k : Nat} {n : Int} (hk : k ≤ 10) (h : smI n) : (padI k n).length ≤ 20 := by
  have h1 := figs_len 8 n.natAbs (by have := h.1; have := h.2; omega)
  unfold padI padL
  split <;> simp <;> omega
end Mine
open PySem PySem.W PySem.Calls PyProof.Rows
set_option Elab.async false
set_option linter.unusedVariables false
namespace Mine
section
variable {c : Cx} {n : Nat} {sc : SE}
-- the format
theorem pad_ok {k : Nat} {i : Int} {ch : Nat} (h : ch ∈ padI k i) : ch < 0x110000 := by
  have hf : ∀ {ch}, ch ∈ figs i.natAbs → ch < 0x110000 := fun h => by have := (figs_mem h).2; omega
  unfold padI padL at h
  split at h
  · rcases List.mem_cons.mp h with rfl | h
    · decide
    · rcases List.mem_append.mp h with h | h
      · rw [(List.mem_replicate.mp h).2]; decide
      · exact hf h
  · rcases List.mem_append.mp h with h | h
    · rw [(List.mem_replicate.mp h).2]; decide
    · exact hf h
theorem okL_app {a b : List Nat} (h1 : ∀ ch ∈ a, ch < 0x110000) (h2 : ∀ ch ∈ b, ch < 0x110000) : ∀ ch ∈ a ++ b, ch < 0x110000 := fun ch h => (List.mem_append.mp h).elim (h1 ch) (h2 ch)
-- a number times a text
-- divmod, abs
def fDivmod : AF := fun ps Q H => match ps with
  | [.int a, .int b] => (0 < b ∧ b < 1073741824) ∧ Q (.tup [.int (a / b), .int (a % b)]) H
  | _ => False
theorem mf_divmod : MonoF fDivmod := by
  intro ps Q Q' H h q; unfold fDivmod at *; split at q
  · exact ⟨q.1, h _ _ q.2⟩
  · exact q.elim
theorem bi_divmod : SoundV c n (.builtin "divmod") fDivmod := by
  intro A H s vs ps Q E hA hv S q
  unfold fDivmod at q
  split at q
  · rename_i a b
    obtain ⟨hb, q⟩ := q
    cases hv with | cons h1 h2 =>
    cases h2 with | cons h2 h3 =>
    cases h3; cases h1; cases h2
    refine divmod_int (by omega) ?_ (.inl (PyProof.noPylong_small (by omega)))
    rw [Int.fdiv_eq_ediv_of_nonneg _ (by omega), Int.fmod_eq_emod_of_nonneg _ (by omega)]
    exact ⟨_, H, .tup (vs := [_, _]) (IsT.new _ _) (.cons (.int _ _) (.cons (.int _ _) .nil)), (S.push _).tok _, (Ext.push _).trans (.tok _), q⟩
  · exact q.elim
def fAbs : AF := fun ps Q H => match ps with
  | [.int a] => Q (.int (if a < 0 then -a else a)) H
  | _ => False
theorem mf_abs : MonoF fAbs := by
  intro ps Q Q' H h q; unfold fAbs at *; split at q
  · exact h _ _ q
  · exact q.elim
theorem bi_abs : SoundV c n (.builtin "abs") fAbs := by
  intro A H s vs ps Q E hA hv S q
  unfold fAbs at q
  split at q
  · cases hv with | cons h1 h2 =>
    cases h2; cases h1
    exact call_abs_int fun u tk => res_tok S (.int _ _) q
  · exact q.elim
-- where a figure lies, where a text lies in a list
-- unpacking what is walked over
end
end Mine
open PySem PySem.W PySem.Calls PyProof.Rows
set_option Elab.async false
set_option linter.unusedVariables false
set_option maxRecDepth 100000
namespace Mine
def raisesMsg (cls msg : String) : PySem.Spec := fun A R s => A.handled = none ∧ ∀ h' tk e, Msg s.heap h' e cls msg → R (.error (.ref e)) { s with heap := h', toks := tk }
theorem tuple_out (l : Addr) (items : Array Value) (n : Nat) (i : Int) (u : Tok) (hlo : -2 ^ 63 ≤ i) (hhi : i < 2 ^ 63) (hk : seqIndex? i items.size = none) :
    Meets (Builtin.«tuple.__getitem__» ⟨[.ref l, .int i u], []⟩)
      (fun A R s => s.heap.get? l = some { cls := .type "tuple", dict := none, data := .seq items n, slots := #[] } ∧ raisesMsg "IndexError" "tuple index out of range" A R s) :=
  .of_wp fun prog w A R s h => by
    obtain ⟨hp, g, d, tk, os⟩ := s; obtain ⟨hl, h⟩ := h
    have f1 := AutoSeq1.idx_int
    have hf : ¬ (decide (i < -2 ^ 63) || decide (i ≥ 2 ^ 63)) = true := by simp; omega
    wp_walk using AutoSeq1.wpAny_loadPart' hl
    simp only [hk, Option.bind_none]
    refine wpAny_ite_false (by simp; omega) ?_
    wp_walk
    exact raise_words plainExc_IndexError h.1 h.2
section
variable {prog : Program} {w : World} {A : Around} {E : Value → Shared → Prop} {s : Shared}
theorem get_list {l : Addr} {items : Array Value} {n : Nat} {i : Value} {Q : Value → Shared → Prop} (hl : IsL s.heap l items n) (h : wpAny (model prog w) A.in1 (Builtin.«list.__getitem__» ⟨[.ref l, i], []⟩) (fun r s' => ∃ v, r = .done (.ret v) ∧ Q v s') E s) : wpAny (model prog w) A (getItem (.ref l) i) Q E s := by
  have hT : s.TypeIs (.ref l) "list" := ⟨_, hl, rfl⟩
  unfold getItem
  try with_reducible refine wpAny_holding ?_
  first | refine wpAny_bind (wpAny_pure ?_) | skip
  refine wpAny_bind (wpAny_sequenceKey hT (by decide) ?_)
  exact wpAny_bind (wpAny_callSpecial?_slot (name := Str.ofString "__getitem__") hT slot_list_getitem (wpAny_call_entry slot_list_getitem hT entry_list_getitem (wpAny_mono h (fun r s' ⟨v, e, q⟩ => ⟨v, e, wpAny_pure q⟩) fun _ _ x => x) (args_list_getitem _ _)))
theorem list_out {l : Addr} {items : Array Value} {n : Nat} {k : Int} {t : Tok} {Q : Value → Shared → Prop} (hA : A.handled = none) (hl : IsL s.heap l items n) (hfit : Builtin.List.listFitsIndex k = true) (hk : seqIndex? k items.size = none)
    (hE : ∀ h' tk e, Msg s.heap h' e "IndexError" "list index out of range" → E (.ref e) { s with heap := h', toks := tk }) : wpAny (model prog w) A (getItem (.ref l) (.int k t)) Q E s := by
  refine get_list hl ?_
  show wpAny _ _ (Builtin.List.listSubscript? (.int k t) >>= _) _ _ s
  refine wpAny_bind (wpAny_listSubscript_int hfit ?_)
  cases k with
  | ofNat j =>
    have hx : items[j]? = none := by
      by_cases h : j < items.size
      · rw [seqIndex_of (k := Int.ofNat j) (by simp) (by simpa using h)] at hk; cases hk
      · exact Array.getElem?_eq_none (by omega)
    show wpAny _ _ ((seqItemAt l j >>= fun r => pure (r.map (j, ·))) >>= _) _ _ s
    refine wpAny_bind (wpAny_bind (wpAny_seqItemAt hl rfl (wpAny_pure ?_)))
    rw [hx]
    first
      | exact wpAny_bind (wpAny_rule (raise_words plainExc_IndexError hA hE))
      | exact wpAny_bind (wpAny_rule (wpAny_bind (raise_words plainExc_IndexError hA hE)))
      | exact wpAny_bind (wpAny_bind (wpAny_rule (raise_words plainExc_IndexError hA hE)))
      | exact wpAny_rule (raise_words plainExc_IndexError hA hE)
  | negSucc j =>
    show wpAny _ _ ((Builtin.List.listItems (.ref l) >>= fun xs => pure ((seqIndex? (Int.negSucc j) xs.size).bind fun i => xs[i]?.map (i, ·))) >>= _) _ _ s
    refine wpAny_bind (wpAny_bind ?_)
    show wpAny _ _ (seqItems? (.ref l) >>= _) _ _ s
    refine wpAny_bind (wpAny_seqItems hl rfl (wpAny_pure (wpAny_pure ?_)))
    rw [hk]
    first
      | exact wpAny_bind (wpAny_rule (raise_words plainExc_IndexError hA hE))
      | exact wpAny_bind (wpAny_rule (wpAny_bind (raise_words plainExc_IndexError hA hE)))
      | exact wpAny_bind (wpAny_bind (wpAny_rule (raise_words plainExc_IndexError hA hE)))
      | exact wpAny_rule (raise_words plainExc_IndexError hA hE)
/-- an index that is none -/
theorem list_bad {l : Addr} {items : Array Value} {n : Nat} {i : Value} {T : String} {m : String} {Q : Value → Shared → Prop} (hA : A.handled = none) (hl : IsL s.heap l items n) (hT : s.TypeIs i T) (hix : typeLookup (.type T) "__index__" = pure none) (hsl : (Value.type T != .type "slice") = true) (hbf : (Value.type T == Value.type "builtin_function_or_method") = false) (hm : s!"list indices must be integers or slices, not {shownName T}" = m) (hz : (m : Str).length ≤ sizeLine)
    (hE : ∀ h' tk e, Msg s.heap h' e "TypeError" m → E (.ref e) { s with heap := h', toks := tk }) : wpAny (model prog w) A (getItem (.ref l) i) Q E s := by
  refine get_list hl ?_
  show wpAny _ _ (Builtin.List.listSubscript? i >>= _) _ _ s
  refine wpAny_bind ?_
  unfold Builtin.List.listSubscript?
  refine wpAny_bind (wpAny_specialOf hT hix ?_)
  simp only [Option.isNone_none, if_true]
  refine wpAny_pure ?_
  refine wpAny_bind (wpAny_typeOf hT ?_)
  simp only [hsl, if_true]
  unfold Builtin.List.listBadSubscript
  refine wpAny_bind (wpAny_bind (wpAny_rule (wpAny_bind (wpAny_typeNameOf' hT hbf ?_))))
  subst hm
  exact raise_made plainExc_TypeError hA hE hz
theorem sub_bad {a : Value} {k : Int} {u : Tok} {T : String} {m : String} {Q : Value → Shared → Prop} (hA : A.handled = none) (hT : ∀ s : Shared, s.TypeIs a T) (hne : (Value.type T == Value.type "int") = false) (hfT : fillsNumberSlot (.type T) "sub" = pure false) (hr : Gives (Builtin.«int.__rsub__» ⟨[.int k u, a], []⟩) (.val Value.notImplemented)) (hbf : (Value.type T == Value.type "builtin_function_or_method") = false)
    (hm : s!"unsupported operand type(s) for {"-"}: '{shownName T}' and '{shownName "int"}'" = m) (hz : (m : Str).length ≤ sizeLine)
    (hE : ∀ h' tk e, Msg s.heap h' e "TypeError" m → E (.ref e) { s with heap := h', toks := tk }) : wpAny (model prog w) A (binaryOp .Sub a (.int k u)) Q E s := by
  unfold binaryOp
  refine wpAny_holding ?_
  show wpAny _ _ (binaryOp1 "sub" a (.int k u) >>= _) _ _ _
  refine wpAny_bind ?_
  simp only [binaryOp1]
  refine wpAny_bind (wpAny_typeOf (hT s) (wpAny_bind (wpAny_typeOf (typeIs_int s k u) (wpAny_bind (wpAny_of_eq hfT ?_)))))
  simp only [hne, Bool.false_eq_true, if_false]
  refine wpAny_bind (wpAny_of_eq F.fills_int_sub ?_)
  simp only [pure_bind, Bool.and_false, Bool.false_and, Bool.false_eq_true, if_false, Bool.not_false, Bool.and_self, if_true]
  refine wpAny_bind (wpAny_tryMethod_declines (typeIs_int s k u) F.slot_int_rsub (call_gives F.slot_int_rsub (typeIs_int s k u) F.entry_int_rsub (F.args_int_rsub_2 _ _) hr ⟨rfl, wpAny_pure ?_⟩))
  show wpAny _ _ (binopTypeError "-" a (.int k u)) _ _ _
  unfold binopTypeError
  refine wpAny_bind (wpAny_rule (wpAny_bind (wpAny_typeNameOf' (hT s) hbf (wpAny_bind (wpAny_typeNameOf' (typeIs_int s k u) (by decide) ?_)))))
  subst hm
  exact raise_made plainExc_TypeError hA hE hz
end
end Mine
open PySem PySem.W PySem.Calls PyProof.Rows
set_option Elab.async false
set_option linter.unusedVariables false
set_option maxRecDepth 100000
namespace Mine
open Builtin Builtin.Str
theorem int_text (n : Int) : (PySem.Str.ofString (toString n)).cps.toList = padI 0 n := by
  cases n with
  | ofNat k =>
    have := figs_text k
    show (PySem.Str.ofString (toString ((k : Nat) : Int))).cps.toList = _
    rw [this]
    unfold padI padL
    rw [if_neg (by simp)]
    simp
  | negSucc k =>
    show (PySem.Str.ofString (String.ofList ['-'] ++ String.ofList (Nat.toDigits 10 (k + 1)))).cps.toList = _
    rw [← String.ofList_append, Fast.ofString_ofList]
    unfold padI padL
    rw [if_pos (by simpa using Int.negSucc_lt_zero k)]
    simp [figs, Int.natAbs]
/-- a cell: a number, or none with its type's name -/
inductive CellV : Value → Option Int → String → Prop
  | int (n : Int) (t : Tok) : smI n → CellV (.int n t) (some n) ""
  | bad {v : Value} {T : String} : NoNum v T → CellV v none T
def msgD (T : String) : String := s!"%{Char.ofNat 100} format: {if (100 == 100 || 100 == 105 || 100 == 117) = true then "a real number" else "an integer"} is required, not {shownName T}"
/-- what is shown by %s -/
inductive ShownV : Value → List Nat → Prop
  | str (z : List Nat) (t : Tok) : z.length ≤ 1000 → ShownV (.str ⟨z.toArray⟩ t) z
  | int (n : Int) (t : Tok) : smI n → ShownV (.int n t) (padI 0 n)
  | none : ShownV .none [78, 111, 110, 101]
def fstB : List (Option Int × String) → Option String
  | [] => none
  | (some _, _) :: r => fstB r
  | (none, T) :: _ => some T
section
variable {prog : Program} {w' : World} {A : Around} {E : Value → Shared → Prop} {f : Nat → FS → Sem (ForInStep FS)}
theorem cell_turn (ft : FT prog w' f) {l : List Nat} {x : Nat} {p : List Value} {r : List Nat} {wr : Writer} {T : PySem.Str} {N k : Nat} {v : Value} {o : Option Int} {ty : String} {s : Shared} {QQ : FS → Shared → Prop} (g : KPc.Good wr T N) (hN : N ≤ 10000) (hk : k = 2 ∨ k = 4) (hA : A.handled = none) (hv : CellV v o ty) (hz : (msgD ty : PySem.Str).length ≤ sizeLine)
    (hE : o = none → ∀ h' tk e, Msg s.heap h' e "TypeError" (msgD ty) → E (.ref e) { s with heap := h', toks := tk })
    (h : ∀ n, o = some n → ∀ wr' tk, KPc.Good wr' (T ++ ⟨(padI k n).toArray⟩) (N + 20) → wpAny (model prog w') A (forIn l (p, wr', r) f) QQ E { s with toks := tk }) :
    wpAny (model prog w') A (forIn (x :: l) (v :: p, wr, 37 :: 48 :: (48 + k) :: 100 :: r) f) QQ E s := by
  cases hv with
  | int n t hn =>
    exact KPc.turn (ft.padD A E _ _ _ _ _ _ _ _ _ hk hn.log (KPc.short_good g (by omega)) fun tk => KPc.after_str (y := ⟨(padI _ _).toArray⟩) g (by rw [str_len]; exact pad_len (by omega) hn) (KPc.obj_none rfl) fun wr' g' => h n rfl wr' tk g')
  | bad hb => exact KPc.turn (ft.badD A E _ _ _ _ _ _ _ _ _ _ hk hb hA rfl hz (KPc.short_good g (by omega)) (hE rfl))
theorem show_turn (ft : FT prog w' f) {l : List Nat} {x : Nat} {p : List Value} {r : List Nat} {wr : Writer} {T : PySem.Str} {N : Nat} {v : Value} {z : List Nat} {s : Shared} {QQ : FS → Shared → Prop} (g : KPc.Good wr T N) (hN : N ≤ 10000) (hv : ShownV v z)
    (h : ∀ wr' tk, KPc.Good wr' (T ++ ⟨z.toArray⟩) (N + 1000) → wpAny (model prog w') A (forIn l (p, wr', r) f) QQ E { s with toks := tk }) :
    wpAny (model prog w') A (forIn (x :: l) (v :: p, wr, 37 :: 115 :: r) f) QQ E s := by
  cases hv with
  | str z t hz => exact KPc.turn (ft.strS A E _ _ _ _ _ _ _ _ (KPc.short_good g (by omega)) fun o ho => KPc.after_str g (by rw [str_len]; exact hz) ho fun wr' g' => h wr' s.toks g')
  | int n t hn =>
    have e : PySem.Str.ofString (toString n) = ⟨(padI 0 n).toArray⟩ := by rw [← int_text]
    refine KPc.turn (ft.intS A E _ _ _ _ _ _ _ _ hn.log (KPc.short_good g (by omega)) fun o tk ho => KPc.after_str g ?_ ho fun wr' g' => h wr' tk (by rw [← e]; exact g'))
    rw [e, str_len]
    have := pad_len (k := 0) (by omega) hn
    omega
  | none => exact KPc.turn (ft.noneS A E _ _ _ _ _ _ (KPc.short_good g (by omega)) fun o tk ho => KPc.after_str g (by decide +kernel) ho fun wr' g' => h wr' tk g')
end
theorem fmt_x {b : Addr} {w m z : List Nat} {vd vy vh vi vs vz : Value} {cd cy ch ci cs : Option Int} {Td Ty Th Ti Ts : String} {t t1 t3 : Tok} (hw : w.length ≤ 1000) (hm : m.length ≤ 1000) (hd : CellV vd cd Td) (hy : CellV vy cy Ty) (hh : CellV vh ch Th) (hi : CellV vi ci Ti) (hs : CellV vs cs Ts) (hz : ShownV vz z)
    (lz : ∀ T ∈ [Td, Ty, Th, Ti, Ts], (msgD T : PySem.Str).length ≤ sizeLine) :
    Meets («str.__mod__» ⟨[.str ⟨fm0.toArray⟩ t, .ref b], []⟩) (fun A R st => IsTup st.heap b #[.str ⟨w.toArray⟩ t1, vd, .str ⟨m.toArray⟩ t3, vy, vh, vi, vs, vz] ∧ A.handled = none ∧
      (∀ d y h i s, cd = some d → cy = some y → ch = some h → ci = some i → cs = some s → ∀ t' k, R (.ok (.ret (.str ⟨(fmText w d m y h i s z).toArray⟩ t'))) { st with toks := k }) ∧
      ∀ T, fstB [(cd, Td), (cy, Ty), (ch, Th), (ci, Ti), (cs, Ts)] = some T → ∀ h' tk e, Msg st.heap h' e "TypeError" (msgD T) → R (.error (.ref e)) { st with heap := h', toks := tk }) :=
  Meets.of_wp fun prog w' A0 R st hS => by
    obtain ⟨hT, hA0, hQ, hE⟩ := hS
    have hA : A0.in1.handled = none := hA0
    generalize A0.in1 = A at hA
    rw [KPt.entry_is_r]
    obtain ⟨f, ft, hf⟩ := fmt_loop (prog := prog) (w := w') (.str ⟨fm0.toArray⟩ t) ⟨fm0.toArray⟩ b _ (by decide)
    refine hf A _ st _ hT ?_
    refine KPc.start fun w0 g0 => ?_
    refine KPc.turn (ft.strS A _ _ _ 0 _ w0 _ ⟨w.toArray⟩ t1 (KPc.short_good g0 (by decide)) fun o ho => ?_)
    refine KPc.after_str0 g0 (K := 1000) (by simpa [str_len] using hw) ho fun w1 g1 => ?_
    refine KPc.turn (ft.lit3 A _ _ _ _ _ w1 _ (KPc.short_good g1 (by decide)) ?_)
    refine KPc.after_add g1 rfl (KPc.obj_none rfl) fun w2 g2 => ?_
    refine cell_turn ft (k := 2) g2 (by decide) (.inl rfl) hA hd (lz _ (.head _)) (fun e => hE Td (by rw [e]; rfl)) fun d ed w3 tk3 g3 => ?_
    subst ed
    refine KPc.turn (ft.lit1 A _ _ _ _ _ w3 _ (KPc.short_good g3 (by decide)) ?_)
    refine KPc.after_add g3 rfl (KPc.obj_none rfl) fun w4 g4 => ?_
    refine KPc.turn (ft.strS A _ _ _ _ _ w4 _ ⟨m.toArray⟩ t3 (KPc.short_good g4 (by decide)) fun o ho => ?_)
    refine KPc.after_str g4 (K := 1000) (by simpa [str_len] using hm) ho fun w5 g5 => ?_
    refine KPc.turn (ft.lit1 A _ _ _ _ _ w5 _ (KPc.short_good g5 (by decide)) ?_)
    refine KPc.after_add g5 rfl (KPc.obj_none rfl) fun w6 g6 => ?_
    refine cell_turn ft (k := 4) g6 (by decide) (.inr rfl) hA hy (lz _ (.tail _ (.head _))) (fun e h' tk ee hx => hE Ty (by rw [e]; rfl) h' tk ee hx) fun y ey w7 tk7 g7 => ?_
    subst ey
    refine KPc.turn (ft.lit1 A _ _ _ _ _ w7 _ (KPc.short_good g7 (by decide)) ?_)
    refine KPc.after_add g7 rfl (KPc.obj_none rfl) fun w8 g8 => ?_
    refine cell_turn ft (k := 2) g8 (by decide) (.inl rfl) hA hh (lz _ (.tail _ (.tail _ (.head _)))) (fun e h' tk ee hx => hE Th (by rw [e]; rfl) h' tk ee hx) fun h eh w9 tk9 g9 => ?_
    subst eh
    refine KPc.turn (ft.lit2 A _ _ _ _ _ w9 _ (KPc.short_good g9 (by decide)) ?_)
    refine KPc.after_add g9 rfl (KPc.obj_none rfl) fun w10 g10 => ?_
    refine cell_turn ft (k := 2) g10 (by decide) (.inl rfl) hA hi (lz _ (.tail _ (.tail _ (.tail _ (.head _))))) (fun e h' tk ee hx => hE Ti (by rw [e]; rfl) h' tk ee hx) fun i ei w11 tk11 g11 => ?_
    subst ei
    refine KPc.turn (ft.lit2 A _ _ _ _ _ w11 _ (KPc.short_good g11 (by decide)) ?_)
    refine KPc.after_add g11 rfl (KPc.obj_none rfl) fun w12 g12 => ?_
    refine cell_turn ft (k := 2) g12 (by decide) (.inl rfl) hA hs (lz _ (.tail _ (.tail _ (.tail _ (.tail _ (.head _)))))) (fun e h' tk ee hx => hE Ts (by rw [e]; rfl) h' tk ee hx) fun s es w13 tk13 g13 => ?_
    subst es
    refine KPc.turn (ft.lit1 A _ _ _ _ _ w13 _ (KPc.short_good g13 (by decide)) ?_)
    refine KPc.after_add g13 rfl (KPc.obj_none rfl) fun w14 g14 => ?_
    refine show_turn ft g14 (by decide) hz fun w15 tk15 g15 => ?_
    refine KPc.turn (ft.done A _ _ _ _ _ w15 (KPc.short_good g15 (by decide)) ?_)
    refine ⟨rfl, KPc.finish_ok g15 (by decide) ?_ fun t' k => ⟨_, rfl, hQ d y h i s rfl rfl rfl rfl rfl t' k⟩⟩
    have hn : ∀ c : Nat, (⟨#[c]⟩ : PySem.Str) = ⟨[c].toArray⟩ := fun _ => rfl
    rw [hn, hn, show (⟨#[44, 32]⟩ : PySem.Str) = ⟨[44, 32].toArray⟩ from rfl]
    simp only [str_app]
    rfl
end Mine
open PySem PySem.W PySem.Calls PyProof.Rows
set_option Elab.async false
set_option linter.unusedVariables false
set_option maxRecDepth 100000
namespace Mine
/-- an exception raised: new, with its message; all else as the step left it -/
def ResX (c : Cx) (H : AH) (s : Shared) (QX : String → String → AH → Prop) (ev : Value) (s' : Shared) : Prop :=
  ∃ e cls msg H' s1, ev = .ref e ∧ St c.base H' s1 ∧ Ext No No H s H' s1 ∧ Msg s1.heap s'.heap e cls msg ∧ s' = { s1 with heap := s'.heap, toks := s'.toks } ∧ QX cls msg H'
abbrev AX := (PV → AH → Prop) → (String → String → AH → Prop) → AEnv → AH → Prop
abbrev AXL := (List PV → AH → Prop) → (String → String → AH → Prop) → AEnv → AH → Prop
section
variable {c : Cx} {n : Nat} {sc : SE}
theorem ResX.trans {H H1 : AH} {s s1 s' : Shared} {QX : String → String → AH → Prop} {ev : Value} (e : Ext No No H s H1 s1) (r : ResX c H1 s1 QX ev s') : ResX c H s QX ev s' :=
  let ⟨a, cls, msg, H', s2, h1, h2, h3, h4, h5, h6⟩ := r; ⟨a, cls, msg, H', s2, h1, h2, e.trans h3, h4, h5, h6⟩
theorem resX_msg {H : AH} {s : Shared} {QX : String → String → AH → Prop} {cls msg : String} {h' : Heap} {tk : Nat} {e : Addr} (S : St c.base H s) (hm : Msg s.heap h' e cls msg) (q : QX cls msg H) : ResX c H s QX (.ref e) { s with heap := h', toks := tk } :=
  ⟨e, cls, msg, H, s, rfl, S, .refl, hm, rfl, q⟩
def SoundX (c : Cx) (n : Nat) (sc : SE) (e : Expr) (ax : AX) : Prop :=
  ∀ (A : Around) (env : Env) (ρ : AEnv) (H : AH) (s : Shared) (Q : PV → AH → Prop) (QX : String → String → AH → Prop) (E : Value → Shared → Prop), AOk n A → EOk sc A env → ER c.base c.N env ρ s.heap → St c.base H s → ax Q QX ρ H → (∀ ev s', ResX c H s QX ev s' → E ev s') →
    wpAny (model c.prog c.w) A (eval e env) (Res c H s Q) E s
def SoundLX (c : Cx) (n : Nat) (sc : SE) (es : List Expr) (al : AXL) : Prop :=
  ∀ (A : Around) (env : Env) (ρ : AEnv) (H : AH) (s : Shared) (Q : List PV → AH → Prop) (QX : String → String → AH → Prop) (E : Value → Shared → Prop) (pos : Pos), AOk n A → EOk sc A env → ER c.base c.N env ρ s.heap → St c.base H s → al Q QX ρ H → (∀ ev s', ResX c H s QX ev s' → E ev s') →
    wpAny (model c.prog c.w) A (spliced (backTo pos (starEach es env))) (ResL c H s Q) E s
def SoundO2X (c : Cx) (n : Nat) (t : Value → Value → Sem Value) (f : PV → PV → (PV → AH → Prop) → (String → String → AH → Prop) → AH → Prop) : Prop :=
  ∀ (A : Around) (H : AH) (s : Shared) (va vb : Value) (a b : PV) (Q : PV → AH → Prop) (QX : String → String → AH → Prop) (E : Value → Shared → Prop), AOk n A → VRel s.heap va a → VRel s.heap vb b → St c.base H s → f a b Q QX H → (∀ ev s', ResX c H s QX ev s' → E ev s') →
    wpAny (model c.prog c.w) A (t va vb) (Res c H s Q) E s
def xLift (a : AE) : AX := fun Q _ ρ H => a Q ρ H
theorem x_lift {e : Expr} {a : AE} (h : SoundE c n sc e a) : SoundX c n sc e (xLift a) := fun A env ρ H s Q _ E hA he R S q _ => h A env ρ H s Q E hA he R S q
theorem seqX {A : Around} {env : Env} {ρ : AEnv} {H : AH} {s : Shared} {E : Value → Shared → Prop} {l : Expr} {al : AX} {P : Value → Shared → Prop} {F : PV → AH → Prop} {QX : String → String → AH → Prop} (hl : SoundX c n sc l al) (hA : AOk n A) (he : EOk sc A env) (R : ER c.base c.N env ρ s.heap) (S : St c.base H s)
    (h : al F QX ρ H) (hE : ∀ ev s', ResX c H s QX ev s' → E ev s') (k : ∀ va a H1 s1, VRel s1.heap va a → ER c.base c.N env ρ s1.heap → St c.base H1 s1 → Ext No No H s H1 s1 → F a H1 → P va s1) :
    wpAny (model c.prog c.w) A (eval l env) P E s :=
  wpAny_mono (hl A env ρ H s F QX E hA he R S h hE) (fun va s1 rr => rr.elim fun a H1 h1 S1 e1 q1 => k va a H1 s1 h1 (R.ext0 S e1) S1 e1 q1) fun _ _ x => x
def xBin (f : PV → PV → (PV → AH → Prop) → (String → String → AH → Prop) → AH → Prop) (l r : AX) : AX := fun Q QX ρ H => l (fun a H1 => r (fun b H2 => f a b Q QX H2) QX ρ H1) QX ρ H
theorem x_bin {l r : Expr} {op : Operator} {pos : Pos} {al ar : AX} {f} (ho : SoundO2X c n (binaryOp op) f) (hl : SoundX c n sc l al) (hr : SoundX c n sc r ar) : SoundX c n sc (.BinOp l op r pos) (xBin f al ar) := by
  intro A env ρ H s Q QX E hA he R S h hE
  refine wpAny_BinOp (seqX hl hA he R S h hE fun va a H1 s1 h1 R1 S1 e1 q1 => ?_)
  refine seqX hr hA he R1 S1 q1 (fun ev s' r => hE ev s' (r.trans e1)) fun vb b H2 s2 h2 R2 S2 e2 q2 => ?_
  exact wpAny_mono (ho A H2 s2 va vb a b Q QX E hA (h1.ext0 S1 e2) h2 S2 q2 (fun ev s' r => hE ev s' (r.trans (e1.trans e2)))) (fun _ _ r => r.trans (e1.trans e2)) fun _ _ x => x
def xlNil : AXL := fun Q _ _ H => Q [] H
def xlCons (a : AX) (l : AXL) : AXL := fun Q QX ρ H => a (fun p H1 => l (fun ps H2 => Q (p :: ps) H2) QX ρ H1) QX ρ H
theorem xl_nil : SoundLX c n sc [] xlNil := fun _ _ _ H _ _ _ _ _ _ _ _ S h _ => wpAny_items_nil ⟨[], H, .nil, S, .refl, h⟩
theorem xl_cons {e : Expr} {es : List Expr} {a : AX} {l : AXL} (h : SoundX c n sc e a) (k : SoundLX c n sc es l) (hs : isStar e = false) : SoundLX c n sc (e :: es) (xlCons a l) := by
  intro A env ρ H s Q QX E pos hA he R S q hE
  refine wpAny_items_cons (seqX h hA he R S q hE fun va a H1 s1 h1 R1 S1 e1 q1 => ?_) (star_plain e es hs env)
  exact wpAny_mono (k A env ρ H1 s1 _ QX E pos hA he R1 S1 q1 (fun ev s' r => hE ev s' (r.trans e1))) (fun vs s2 rr => rr.elim fun ps H2 h2 S2 e2 q2 => ⟨a :: ps, H2, .cons (h1.ext0 S1 e2) h2, S2, e1.trans e2, q2⟩) fun _ _ x => x
def xTup (l : AXL) : AX := fun Q QX ρ H => l (fun ps H1 => szOk ps.length ∧ Q (.tup ps) H1) QX ρ H
theorem x_tup {es : List Expr} {k : Nat} {pos : Pos} {l : AXL} (h : SoundLX c n sc es l) : SoundX c n sc (.Tuple es k pos) (xTup l) := by
  intro A env ρ H s Q QX E hA he R S q hE
  exact wpAny_Tuple (wpAny_mono (h A env ρ H s _ QX E pos hA he R S q hE) (fun vs s1 rr => rr.elim fun ps H1 h1 S1 e1 q1 => ⟨by rw [h1.length]; exact sz_line q1.1, (res_tuple S1 h1 q1.2).trans e1⟩) fun _ _ x => x)
-- subscripts
def xItem (o i : PV) (Q : PV → AH → Prop) (QX : String → String → AH → Prop) (H : AH) : Prop := match o with
  | .ref a => (match H a with
    | some x => (match i with
      | .int k => kOk k ∧ (match nth x.items k with | some p => Q p H | none => QX "IndexError" "list index out of range" H)
      | .none => QX "TypeError" "list indices must be integers or slices, not NoneType" H
      | .str _ => QX "TypeError" "list indices must be integers or slices, not str" H
      | _ => False)
    | none => False)
  | .tup ps => (match i with
    | .int k => kOk k ∧ (match nth ps k with | some p => Q p H | none => QX "IndexError" "tuple index out of range" H)
    | _ => False)
  | _ => False
theorem x_sub {v i : Expr} {pos : Pos} {av ai : AX} (ho : SoundO2X c n getItem xItem) (hv : SoundX c n sc v av) (hi : SoundX c n sc i ai) : SoundX c n sc (.Subscript v i pos) (xBin xItem av ai) := by
  intro A env ρ H s Q QX E hA he R S h hE
  refine sub_any (M := model c.prog c.w) (seqX hv hA he R S h hE fun va a H1 s1 h1 R1 S1 e1 q1 => ?_)
  refine seqX hi hA he R1 S1 q1 (fun ev s' r => hE ev s' (r.trans e1)) fun vb b H2 s2 h2 R2 S2 e2 q2 => ⟨?_, ?_⟩
  · refine typ_get (k := 0) (Q := Q) (h1.ext0 S1 e2) S2 ?_
    unfold xItem at q2
    split at q2
    · rename_i aa
      split at q2
      · rename_i x hx; exact ⟨aa, x, .inl ⟨rfl, hx⟩⟩
      · exact q2.elim
    · exact ⟨0, ⟨[], false⟩, .inr (.inl ⟨_, rfl⟩)⟩
    · exact q2.elim
  · exact wpAny_mono (ho A H2 s2 va vb a b Q QX E hA (h1.ext0 S1 e2) h2 S2 q2 (fun ev s' r => hE ev s' (r.trans (e1.trans e2)))) (fun _ _ r => r.trans (e1.trans e2)) fun _ _ x => x
theorem seq_none {α : Type} {xs : List α} {k : Int} (h : nth xs k = none) : seqIndex? k xs.length = none := by
  unfold nth at h
  by_cases h0 : 0 ≤ k
  · rw [if_pos h0] at h
    cases hs : seqIndex? k xs.length with
    | none => rfl
    | some j =>
      obtain ⟨m, rfl⟩ : ∃ m : Nat, k = m := ⟨k.toNat, by omega⟩
      have hm : xs.length ≤ m := by simpa using h
      unfold seqIndex? at hs
      split at hs <;> simp_all <;> omega
  · rw [if_neg h0] at h
    by_cases h1 : -(xs.length : Int) ≤ k
    · rw [if_pos h1] at h
      have := List.getElem?_eq_none_iff.mp h
      omega
    · exact seqIndex_below (by omega)
theorem op_itemx : SoundO2X c n getItem xItem := by
  intro A H s va vb a b Q QX E hA h1 h2 S h hE
  unfold xItem at h
  split at h
  · rename_i aa
    split at h
    · rename_i x hx
      obtain ⟨vs, j, hL, hv⟩ := S.hr.list aa x hx
      have hlen : vs.size = x.items.length := by simpa using hv.length
      split at h
      · rename_i k
        cases hn : nth x.items k with
        | some p =>
          rw [hn] at h
          refine op_item A H s va vb (.ref aa) (.int k) Q E hA h1 h2 S ?_
          simp only [opItem, hx, hn]; exact h
        | none =>
          rw [hn] at h
          cases h1; cases h2
          have := h.1.1; have := h.1.2
          refine list_out hA.handled hL (by simp [Builtin.List.listFitsIndex]; omega) (by rw [hlen]; exact seq_none hn) fun h' tk e hm => hE _ _ (resX_msg S hm h.2)
      · cases h1; cases h2
        exact list_bad (T := "NoneType") hA.handled hL rfl (by rw [typeLookup_type, builtinLookup_eq_fast]; kernel_rfl) (by decide) (by decide) (by decide +kernel) (by decide +kernel) fun h' tk e hm => hE _ _ (resX_msg S hm h)
      · cases h1; cases h2
        exact list_bad (T := "str") hA.handled hL rfl (by rw [typeLookup_type, builtinLookup_eq_fast]; kernel_rfl) (by decide) (by decide) (by decide +kernel) (by decide +kernel) fun h' tk e hm => hE _ _ (resX_msg S hm h)
      · exact h.elim
    · exact h.elim
  · rename_i ps
    split at h
    · rename_i k
      cases hn : nth ps k with
      | some p =>
        rw [hn] at h
        refine op_item A H s va vb (.tup ps) (.int k) Q E hA h1 h2 S ?_
        simp only [opItem, hn]; exact h
      | none =>
        rw [hn] at h
        cases h1 with
        | tup hT hvs =>
        cases h2
        have hl := hvs.length
        have := h.1.1; have := h.1.2
        refine getItem_meets (T := "tuple") ⟨_, hT, rfl⟩ (by decide) F.slot_tuple_getitem F.entry_tuple_getitem (F.args_tuple_getitem_2 _ _) (tuple_out _ _ _ k _ (by omega) (by omega) (by simp [hl]; exact seq_none hn)) ⟨hT, hA.handled, fun h' tk e hm => hE _ _ (resX_msg S hm h.2)⟩
    · exact h.elim
  · exact h.elim
def xSub (a b : PV) (Q : PV → AH → Prop) (QX : String → String → AH → Prop) (H : AH) : Prop := match a, b with
  | .int x, .int y => Q (.int (x - y)) H
  | .none, .int _ => QX "TypeError" "unsupported operand type(s) for -: 'NoneType' and 'int'" H
  | .str _, .int _ => QX "TypeError" "unsupported operand type(s) for -: 'str' and 'int'" H
  | _, _ => False
theorem op_subx : SoundO2X c n (binaryOp .Sub) xSub := by
  intro A H s va vb a b Q QX E hA h1 h2 S h hE
  unfold xSub at h
  split at h
  · exact op_sub A H s va vb _ _ Q E hA h1 h2 S h
  · cases h1; cases h2
    exact sub_bad (T := "NoneType") hA.handled (fun _ => rfl) (by decide) (by
      have a : typeLookup (.type "NoneType") (PySem.dunder "sub") = pure none := by rw [typeLookup_type, builtinLookup_eq_fast]; kernel_rfl
      have b : typeLookup (.type "NoneType") (PySem.dunderR "sub") = pure none := by rw [typeLookup_type, builtinLookup_eq_fast]; kernel_rfl
      unfold fillsNumberSlot; simp [a, b]) (AutoIntG6.int___rsub___int_none_0 _ _) (by decide) (by decide +kernel) (by decide +kernel) fun h' tk e hm => hE _ _ (resX_msg S hm h)
  · cases h1; cases h2
    exact sub_bad (T := "str") hA.handled (fun _ => rfl) (by decide) (by
      have a : typeLookup (.type "str") (PySem.dunder "sub") = pure none := by rw [typeLookup_type, builtinLookup_eq_fast]; kernel_rfl
      have b : typeLookup (.type "str") (PySem.dunderR "sub") = pure none := by rw [typeLookup_type, builtinLookup_eq_fast]; kernel_rfl
      unfold fillsNumberSlot; simp [a, b]) (AutoIntG7.int___rsub___int_str_0 _ _ _ _) (by decide) (by decide +kernel) (by decide +kernel) fun h' tk e hm => hE _ _ (resX_msg S hm h)
  · exact h.elim
end
end Mine
open PySem PySem.W PySem.Calls PyProof.Rows
set_option Elab.async false
set_option linter.unusedVariables false
set_option maxRecDepth 100000
namespace Mine
/-- a cell of the row: a number that is not too great, or none with its type's name -/
inductive CellP : PV → Option Int → String → Prop
  | int (n : Int) : smI n → CellP (.int n) (some n) ""
  | none : CellP .none none "NoneType"
  | str (z : List Nat) : CellP (.str z) none "str"
inductive ShownP : PV → List Nat → Prop
  | str (z : List Nat) : z.length ≤ 1000 → ShownP (.str z) z
  | int (n : Int) : smI n → ShownP (.int n) (padI 0 n)
  | none : ShownP .none [78, 111, 110, 101]
theorem CellP.val {h : Heap} {v : Value} {p : PV} {o : Option Int} {T : String} (hv : VRel h v p) (hc : CellP p o T) : CellV v o T := by
  cases hc with
  | int n hn => cases hv; exact .int _ _ hn
  | none => cases hv; exact .bad nonum_none
  | str z => cases hv; exact .bad (nonum_str _ _)
theorem CellP.len {p : PV} {o : Option Int} {T : String} (hc : CellP p o T) : (msgD T : PySem.Str).length ≤ sizeLine := by
  cases hc <;> decide +kernel
theorem ShownP.val {h : Heap} {v : Value} {p : PV} {z : List Nat} (hv : VRel h v p) (hc : ShownP p z) : ShownV v z ∧ ∀ ch ∈ z, ch < 0x110000 := by
  cases hc with
  | int n hn => cases hv; exact ⟨.int _ _ hn, fun _ h => pad_ok h⟩
  | none => cases hv; exact ⟨.none, by decide⟩
  | str z hz => cases hv with | str _ t k => exact ⟨.str _ _ hz, k⟩
section
variable {c : Cx} {n : Nat} {sc : SE}
def xFmt (a b : PV) (Q : PV → AH → Prop) (QX : String → String → AH → Prop) (H : AH) : Prop := match a, b with
  | .str F, .tup [.str w, pd, .str m, py, ph, pi, ps, pz] => (F = fm0 ∧ w.length ≤ 1000 ∧ m.length ≤ 1000) ∧ ∃ cd cy ch ci cs Td Ty Th Ti Ts z, CellP pd cd Td ∧ CellP py cy Ty ∧ CellP ph ch Th ∧ CellP pi ci Ti ∧ CellP ps cs Ts ∧ ShownP pz z ∧
    (∀ d y h i s, cd = some d → cy = some y → ch = some h → ci = some i → cs = some s → Q (.str (fmText w d m y h i s z)) H) ∧
    ∀ T, fstB [(cd, Td), (cy, Ty), (ch, Th), (ci, Ti), (cs, Ts)] = some T → QX "TypeError" (msgD T) H
  | _, _ => False
theorem op_fmtx : SoundO2X c n (binaryOp .Mod) xFmt := by
  intro A H s va vb a b Q QX E hA h1 h2 S h hE
  unfold xFmt at h
  split at h
  · rename_i F w pd m py ph pi ps pz
    obtain ⟨⟨rfl, l1, l2⟩, cd, cy, ch, ci, cs, Td, Ty, Th, Ti, Ts, z, b1, b2, b3, b4, b5, b6, hq, hx⟩ := h
    cases h1 with
    | str _ t _ =>
    cases h2 with
    | tup hT hvs =>
    rename_i ad vs nn
    cases hvs with | cons v1 hvs =>
    cases hvs with | cons v2 hvs =>
    cases hvs with | cons v3 hvs =>
    cases hvs with | cons v4 hvs =>
    cases hvs with | cons v5 hvs =>
    cases hvs with | cons v6 hvs =>
    cases hvs with | cons v7 hvs =>
    cases hvs with | cons v8 hvs =>
    cases hvs
    cases v1 with | str _ t1 k1 =>
    cases v3 with | str _ t3 k3 =>
    obtain ⟨z1, z2⟩ := b6.val v8
    have hTT : s.TypeIs (.ref ad) "tuple" := ⟨_, hT, rfl⟩
    refine KPt.bin_left (T := "str") (U := "tuple") (op := .Mod) (by decide) (typeIs_str s _ t) hTT PySem.F.fills_str_mod KPt.fills_tuple PySem.F.slot_str_mod (call_meets PySem.F.slot_str_mod (typeIs_str s _ t) PySem.F.entry_str_mod (PySem.F.args_str_mod_2 _ _)
      (fmt_x l1 l2 (b1.val v2) (b2.val v4) (b3.val v5) (b4.val v6) (b5.val v7) z1 ?_) ⟨⟨_, hT, rfl, _, rfl⟩, hA.handled, fun d y h i s e1 e2 e3 e4 e5 t' k => ⟨fun e => (nomatch e), res_tok S (.str _ _ ?_) (hq d y h i s e1 e2 e3 e4 e5)⟩, fun T hT h' tk e hm => hE _ _ (resX_msg S hm (hx T hT))⟩)
    · intro T hT
      simp only [List.mem_cons, List.not_mem_nil, or_false] at hT
      rcases hT with rfl | rfl | rfl | rfl | rfl
      · exact b1.len
      · exact b2.len
      · exact b3.len
      · exact b4.len
      · exact b5.len
    · unfold fmText
      repeat' (apply okL_app)
      all_goals first | exact k1 | exact k3 | exact z2 | exact fun _ hch => pad_ok hch | (intro ch hch; simp at hch; omega)
  · exact h.elim
end
end Mine
open PySem PySem.W PySem.Calls PyProof.Rows
set_option Elab.async false
set_option linter.unusedVariables false
set_option maxRecDepth 100000
namespace Mine
section
variable {c : Cx} {n : Nat} {sc : SE}
/-- what holds at a body's begin -/
structure Entered (c : Cx) (d : DefRec) (ρ : AEnv) (H : AH) (s : Shared) (env : Env) (s1 : Shared) : Prop where
  ok : EOk0 ⟨d.scope, [], false⟩ env
  frame : env.frame = some env.locals
  loc : env.locals = s.heap.objs.size
  lt : env.locals < s1.heap.objs.size
  same : s1 = { s with heap := s1.heap, toks := s1.toks }
  er : ER c.base c.N env ρ s1.heap
  st : St c.base H s1
  ext : Ext No No H s H s1
  keep : ∀ b o, s.heap.get? b = some o → s1.heap.get? b = some o
  own : ∀ b, Own env b → s.heap.objs.size ≤ b
/-- a call of a def, its body's run as it may be -/
theorem fn_enter {d : DefRec} {ks : List Nat} {xs : List Str} (hd : d ∈ recsOf c.q) (hx : ks.map (c.N[·]?) = xs.map some) (hnd : xs.Nodup)
    (hbind : ∀ pm cd doc vs, vs.length = xs.length → bindArgs (Calls.docDef d.name d.params d.body d.scope pm cd doc) ⟨vs, []⟩ = pure (xs.zip vs))
    (hkind : ∀ x ∈ xs, d.scope.names.lookup x = some .local ∨ d.scope.names.lookup x = some .cell)
    (hco : d.scope.isCoroutine = false) (hgen : d.scope.isGenerator = false) (hk : d.scope.kind = .function) :
    ∃ a o fd, c.mg d.name = some (.ref a) ∧ c.base.get? a = some o ∧ o.data = .func fd ∧ ∀ (A : Around) (H : AH) (s : Shared) (vs : List Value) (ps : List PV) (Q : Value → Shared → Prop) (E : Value → Shared → Prop), AOk (n + 1) A → VAll s.heap vs ps → St c.base H s → ps.length = ks.length →
      (∀ env s1, Entered c d (bindP ks ps) H s env s1 →
        wpAny (model c.prog c.w) (A.deeper env) (execs d.body env) (fun f s' => Q (match f with | .ret v => v | _ => .none) s') (fun e s' => wpAny (model c.prog c.w) (A.deeper env) (leaving env e) (fun _ s'' => E e s'') E s') s1) →
      wpAny (model c.prog c.w) A (call (.ref a) vs) Q E s := by
  obtain ⟨a, o, pm, cd, doc, h1, h2, h3, h4⟩ := c.top.fn d hd
  refine ⟨a, o, _, h1, h2, h3, ?_⟩
  intro A H s vs ps Q E hA hv S ql q
  have hlen : ks.length = xs.length := by simpa using congrArg List.length hx
  have T := c.top.keeps S.hr.keep
  refine wpAny_call (codeAny_call_cells (by have := hA.depth; simp only [recursionLimit]; omega) (S.hr.keep a o h2) h3 T.nolimit (h4.keeps S.hr.keep) rfl (hbind pm cd doc vs (by rw [hv.length, ql, hlen])) rfl ?_ (fun s1 x => ?_) hco hgen hk)
  · intro y hy
    have hmem : y.1 ∈ xs := (List.of_mem_zip hy).1
    rcases hkind _ hmem with k | k
    · exact .inl k
    · exact .inr ⟨k, cellsFrom_some _ _ _ (.inl k)⟩
  · generalize henv : callEnvC (Calls.docDef d.name d.params d.body d.scope pm cd doc) s.heap.objs.size a = env at x ⊢
    have eL : env.locals = s.heap.objs.size := by rw [← henv]; rfl
    have eS : env.scope = d.scope := by rw [← henv]; rfl
    have eC : env.cells = cellsFrom (s.heap.objs.size + 1) d.scope.names [] := by rw [← henv]; rfl
    have eF : env.frame = some env.locals := by rw [← henv]; rfl
    have he : EOk0 ⟨d.scope, [], false⟩ env := ⟨eS, hk, by rw [← henv]; rfl, by rw [← henv]; rfl, fun y hy => by
      obtain ⟨a', ha'⟩ := Option.isSome_iff_exists.mp (cellsFrom_some d.scope.names (s.heap.objs.size + 1) [] (.inl hy))
      exact ⟨a', by rw [eC]; exact ha', fun _ => x.above y a' (mem_of_lookup (by rw [eC]; exact ha'))⟩⟩
    obtain ⟨h', tk, rfl⟩ := x.toInCall.same
    have hgrow : s.heap.objs.size ≤ h'.objs.size := Nat.le_of_lt (Nat.lt_of_le_of_lt x.toInCall.fresh x.toInCall.ns.lt)
    have S1 : St c.base H { s with heap := h', toks := tk } := S.of_keep (X := No) (fun b o _ h => x.toInCall.keep b o h) (fun _ h => h.elim) (fun _ h => h.elim) (fun _ h => h.elim)
    have e1 : Ext No No H s H { s with heap := h', toks := tk } := Ext.of_keep (fun b o _ h => x.toInCall.keep b o h) hgrow
    have hv' : VAll h' vs ps := hv.mono fun b o h => x.toInCall.keep b o h.1
    have hz : (xs.zip vs).map (·.1) = xs := by
      rw [List.map_fst_zip]; rw [hv.length, ql, hlen]; exact Nat.le_refl _
    have R1 : ER c.base c.N env (bindP ks ps) h' := {
      names := ⟨_, x.toInCall.ns, fun k p hp => by
        obtain ⟨y, v, k1, k2, k3⟩ := bindP_at ks xs vs ps hx hv' ql k p hp
        refine ⟨y, v, k1, k3, ?_⟩
        have hkd := hkind y (List.of_mem_zip k2).1
        rcases hkd with kd | kd
        · have kd' : env.kindOf y = some .local := by rw [he.kindOf]; exact kd
          exact .inl ⟨kd', bindL_at _ _ (by rw [hz]; exact hnd) k2 kd'⟩
        · have kd' : env.kindOf y = some .cell := by rw [he.kindOf]; exact kd
          obtain ⟨cc, hcc, _⟩ := he.cells y kd
          refine .inr ⟨.inl kd', cc, hcc, ?_⟩
          have := x.cell y cc hcc
          rwa [bindC_at _ _ (by rw [hz]; exact hnd) k2 (by rw [kd']; simp)] at this⟩
      cells := fun y cc hy => ⟨_, x.cell y cc hy⟩
      apart := x.apart
      new := S.bsize x.toInCall.fresh
      cnew := fun y cc hy => S.bsize (Nat.le_of_lt (Nat.lt_of_le_of_lt x.toInCall.fresh (x.above y cc (mem_of_lookup hy)))) }
    have own : ∀ b, Own env b → s.heap.objs.size ≤ b := by
      rintro b (rfl | ⟨_, y, hy⟩)
      · exact x.toInCall.fresh
      · exact Nat.le_of_lt (Nat.lt_of_le_of_lt x.toInCall.fresh (x.above y b (mem_of_lookup hy)))
    exact q env _ ⟨he, eF, eL, x.toInCall.ns.lt, rfl, R1, S1, e1, x.toInCall.keep, own⟩
/-- frames around: name tables, none of the base -/
def Outs (base h : Heap) (l : List Env) : Prop := ∀ env ∈ l, env.scope.kind ≠ .module ∧ env.frame = some env.locals ∧ base.get? env.locals = none ∧ ∃ m, h.Ns env.locals m
theorem Outs.funs {base h : Heap} {as : List Addr} : ∀ {l : List Env}, Outs base h l → (∀ env ∈ l, env.locals ∈ as) → h.FunFrames (hideAll h as) l
  | [], _, _ => trivial
  | env :: l, o, ha => by
    obtain ⟨h1, h2, h3, m, ob, es, ep, h4, h5, _⟩ := o env (.head _)
    exact ⟨h1, ⟨env.locals, ob, h2, hideAll_none as (ha env (.head _)), h4, fun vs q => by rw [h5] at q; cases q⟩, Outs.funs (fun e he => o e (.tail _ he)) fun e he => ha e (.tail _ he)⟩
theorem Outs.ext {base : Heap} {l : List Env} {H H' : AH} {s s' : Shared} {X Y : Nat → Prop} (o : Outs base s.heap l) (S : St base H s) (e : Ext X Y H s H' s') (hX : ∀ env ∈ l, ¬ X env.locals) : Outs base s'.heap l := fun env he =>
  let ⟨h1, h2, h3, m, h4⟩ := o env he; ⟨h1, h2, h3, m, ns_stays S e h4 (hX env he)⟩
/-- an exception on its way through the frames outer -/
def Fly (c : Cx) (outer : List Env) (H : AH) (s : Shared) (QX : String → String → AH → Prop) (ev : Value) (s' : Shared) : Prop :=
  ∃ e t cls msg u H' s1 B Lf, ev = .ref e ∧ St c.base H' s1 ∧ Ext No No H s H' s1 ∧ s.heap.objs.size ≤ Lf ∧ (∃ m, s1.heap.Ns Lf m) ∧ c.base.get? Lf = none ∧
   s' = { s1 with heap := s'.heap, toks := s'.toks } ∧ Heap.FlyingW B outer e (.type cls) (.ref t) s'.heap ∧ s'.heap.TupAt t [.str (Str.ofString msg) u] ∧ B.get? t = none ∧
   (∀ b o, s1.heap.get? b = some o → b ≠ Lf → b ∉ outer.map (·.locals) → B.get? b = some o) ∧ s1.heap.UpToSlots s'.heap ∧ QX cls msg H'
theorem leave_fly {A : Around} {env : Env} {outer : List Env} {d : DefRec} {ρ : AEnv} {H : AH} {s s1 s' : Shared} {QX : String → String → AH → Prop} {E : Value → Shared → Prop} {ev : Value} (x : Entered c d ρ H s env s1) (hf : A.frames = some outer) (ho : Outs c.base s.heap outer) (hs : St c.base H s)
    (r : ResX c H s1 QX ev s') (hE : ∀ ev s', Fly c outer H s QX ev s' → E ev s') : wpAny (model c.prog c.w) (A.deeper env) (leaving env ev) (fun _ s'' => E ev s'') E s' := by
  obtain ⟨e, cls, msg, H', s2, rfl, S2, e2, ⟨u, hm⟩, hsame, hq⟩ := r
  have R2 := x.er.ext0 x.st e2
  have e02 : Ext No No H s H' s2 := x.ext.trans e2
  have ho2 : Outs c.base s2.heap (env :: outer) := by
    intro en he
    rcases List.mem_cons.mp he with rfl | he
    · obtain ⟨m, hn, _⟩ := R2.names
      exact ⟨by rw [x.ok.skind]; simp, x.frame, R2.new, m, hn⟩
    · exact ho.ext hs e02 (fun _ _ h => h) en he
  refine wpAny_leaves_madeW (base := hideAll s2.heap ((env :: outer).map (·.locals))) (h := s2.heap) (Around.frames_deeper hf) x.frame (fun b o q => of_hideAll _ q) (ho2.funs fun en he => List.mem_map_of_mem he) (Heap.MadeExc.of hm) fun h' t x1 x2 x3 x4 => ?_
  refine hE _ _ ⟨e, t, cls, msg, u, H', s2, _, env.locals, rfl, S2, e02, Nat.le_of_eq x.loc.symm, R2.names.imp fun m hn => hn.1, R2.new, ?_, x1, x2, x3, fun b o hb h1 h2 => hideAll_get _ hb fun hm => ?_, (Heap.UpToSlots.of_keeps hm.keeps).trans x4, hq⟩
  · rw [hsame]
  · rcases List.mem_cons.mp hm with h | h
    · exact h1 h
    · exact h2 h
/-- a call of a def of one return that may raise -/
theorem call_x {d : DefRec} {ks : List Nat} {xs : List Str} {ex : Expr} {pos : Pos} {ax : AX} (hd : d ∈ recsOf c.q) (hbody : d.body = [.Return (some ex) pos]) (hb : SoundX c n ⟨d.scope, [], false⟩ ex ax) (hx : ks.map (c.N[·]?) = xs.map some) (hnd : xs.Nodup)
    (hbind : ∀ pm cd doc vs, vs.length = xs.length → bindArgs (Calls.docDef d.name d.params d.body d.scope pm cd doc) ⟨vs, []⟩ = pure (xs.zip vs))
    (hkind : ∀ x ∈ xs, d.scope.names.lookup x = some .local ∨ d.scope.names.lookup x = some .cell)
    (hco : d.scope.isCoroutine = false) (hgen : d.scope.isGenerator = false) (hk : d.scope.kind = .function) :
    ∃ a o fd, c.mg d.name = some (.ref a) ∧ c.base.get? a = some o ∧ o.data = .func fd ∧ ∀ (A : Around) (outer : List Env) (H : AH) (s : Shared) (vs : List Value) (ps : List PV) (Q : PV → AH → Prop) (QX : String → String → AH → Prop) (E : Value → Shared → Prop), AOk (n + 1) A → A.frames = some outer → Outs c.base s.heap outer →
      VAll s.heap vs ps → St c.base H s → ps.length = ks.length → ax Q QX (bindP ks ps) H → (∀ ev s', Fly c outer H s QX ev s' → E ev s') → wpAny (model c.prog c.w) A (call (.ref a) vs) (Res c H s Q) E s := by
  obtain ⟨a, o, fd, h1, h2, h3, h4⟩ := fn_enter (n := n) hd hx hnd hbind hkind hco hgen hk
  refine ⟨a, o, fd, h1, h2, h3, fun A outer H s vs ps Q QX E hA hf ho hv S hl q hE => h4 A H s vs ps _ E hA hv S hl fun env s1 x => ?_⟩
  rw [hbody]
  refine wpAny_execs_cons (wpAny_Return_some ?_)
  exact wpAny_mono (hb (A.deeper env) env _ H s1 Q QX _ (hA.deeper env) ⟨x.ok, fun h => nomatch h⟩ x.er x.st q fun ev s' r => leave_fly x hf ho S r hE) (fun v s' r => r.trans x.ext) fun _ _ y => y
end
end Mine
open PySem PySem.W PySem.Calls PyProof.Rows
set_option Elab.async false
set_option linter.unusedVariables false
set_option maxRecDepth 100000
namespace Mine
def codes (m : String) : List Nat := (Str.ofString m).cps.toList
theorem codes_ok (m : String) : ∀ ch ∈ codes m, ch < 0x110000 := by
  intro ch h
  unfold codes at h
  rw [← String.ofList_toList (s := m), Fast.ofString_ofList] at h
  simp only [List.mem_map, List.toList_toArray] at h
  obtain ⟨c, _, rfl⟩ := h
  have := c.valid
  unfold UInt32.isValidChar Nat.isValidChar at this
  show c.val.toNat < _
  omega
theorem codes_eq (m : String) : Str.ofString m = ⟨(codes m).toArray⟩ := by
  unfold codes
  cases Str.ofString m
  simp
section
variable {c : Cx} {n : Nat} {sc : SE}
theorem name_builtin {A : Around} {env : Env} {s : Shared} {H : AH} {Q : Value → Shared → Prop} {E : Value → Shared → Prop} {name : Str} {cv : Value} {p : Pos} (he : EOk0 sc env) (S : St c.base H s) (hm : c.mg name = none) (hb : bootBuiltins name = some cv) (hn : name ≠ ("__name__" : Str)) (hk : sc.names.lookup name = some .globalImplicit)
    (hd : (name == ("__debug__" : Str)) = false) (h : Q cv s) : wpAny (model c.prog c.w) A (eval (.Name name p) env) Q E s := by
  have T := c.top.keeps S.hr.keep
  exact Name_function_global he.skind (by rw [he.kindOf]; exact hk) (loadGlobal_builtin (mg := c.mg) (mb := c.mb) (by rw [he.globals]; exact T.g) hm (by rw [he.builtins]; exact T.b) ((T.builtins name hn).trans hb) h) hd
/-- what a handler's steps leave as it was before the raise -/
structure Hd (env : Env) (outer : List Env) (s1 : Shared) (Lf : Addr) (s : Shared) : Prop where
  same : s = { s1 with heap := s.heap, toks := s.toks }
  keep : ∀ b o, s1.heap.get? b = some o → b ≠ Lf → b ∉ (env :: outer).map (·.locals) → s.heap.get? b = some o
  outs : ∀ en ∈ outer, ∀ m, s1.heap.Ns en.locals m → s.heap.Ns en.locals m
theorem ns_no_imm {h : Heap} {a : Addr} {m : Str → Option Value} (hn : h.Ns a m) : ∀ o, ¬ Imm h a o := by
  intro o hi
  obtain ⟨o', es, ep, ho, hd, _⟩ := hn
  rw [hi.1] at ho; cases ho
  rcases imm_data hi with ⟨vs, n, q⟩ | ⟨vs, q⟩ <;> · rw [hd] at q; cases q
theorem Hd.st {env : Env} {outer : List Env} {s1 : Shared} {Lf : Addr} {s : Shared} {H' : AH} (x : Hd env outer s1 Lf s) (S : St c.base H' s1) (hL : c.base.get? Lf = none) (hn : ∃ m, s1.heap.Ns Lf m) (ho : Outs c.base s1.heap (env :: outer)) : St c.base H' s := by
  have hnx : ∀ b, (b = Lf ∨ b ∈ (env :: outer).map (·.locals)) → c.base.get? b = none ∧ ∃ m, s1.heap.Ns b m := by
    rintro b (rfl | hb)
    · exact ⟨hL, hn⟩
    · obtain ⟨en, he, rfl⟩ := List.mem_map.mp hb
      obtain ⟨_, _, h3, m, h4⟩ := ho en he
      exact ⟨h3, m, h4⟩
  rw [x.same]
  exact S.of_keep (X := fun b => b = Lf ∨ b ∈ (env :: outer).map (·.locals)) (fun b o hb h => x.keep b o h (fun q => hb (.inl q)) fun q => hb (.inr q)) (fun b hb => (hnx b hb).1) (fun b hb => let ⟨_, m, h⟩ := hnx b hb; ns_no_list h) (fun b hb => let ⟨_, m, h⟩ := hnx b hb; ns_no_imm h)
theorem Hd.upd {env : Env} {outer : List Env} {s1 : Shared} {Lf : Addr} {s : Shared} {h' : Heap} {tk : Nat} (x : Hd env outer s1 Lf s) (hs : Heap.SameBut env.locals s.heap h') (hne : ∀ en ∈ outer, en.locals ≠ env.locals) : Hd env outer s1 Lf { s with heap := h', toks := tk } where
  same := by rw [x.same]
  keep b o h h1 h2 := (hs.2 b (fun q => h2 (by rw [q]; exact .head _))).trans (x.keep b o h h1 h2)
  outs en he m h := (x.outs en he m h).sameBut hs (hne en he)
theorem Hd.tok {env : Env} {outer : List Env} {s1 : Shared} {Lf : Addr} {s : Shared} (tk : Nat) (x : Hd env outer s1 Lf s) : Hd env outer s1 Lf { s with toks := tk } := ⟨by rw [x.same], x.keep, x.outs⟩
theorem ns_push {h : Heap} {a : Addr} {m : Str → Option Value} (o : Obj) (hn : h.Ns a m) : (h.push o).Ns a m := by
  obtain ⟨o', es, ep, ho, r⟩ := hn
  exact ⟨o', es, ep, Heap.get?_push_of_some _ ho, r⟩
theorem Hd.push {env : Env} {outer : List Env} {s1 : Shared} {Lf : Addr} {s : Shared} (o : Obj) (x : Hd env outer s1 Lf s) : Hd env outer s1 Lf { s with heap := s.heap.push o } := ⟨by rw [x.same], fun b o' h h1 h2 => Heap.get?_push_of_some _ (x.keep b o' h h1 h2), fun en he m h => ns_push o (x.outs en he m h)⟩
theorem suite_tried {A A' : Around} {env : Env} {outer : List Env} {H' : AH} {s1 s : Shared} {B : Heap} {Lf e t : Addr} {X msg lit nn : String} {u : Tok} {x : Str} {k1 k2 : Nat} {p1 p2 p3 p4 p5 p6 p7 : Pos} {Q : Flow → Shared → Prop} {E E1 E2 E3 : Value → Shared → Prop}
    (he : EOk0 sc env) (hu : A'.units + 2 < cLine) (FX : ExcStrFacts X nn) (S1 : St c.base H' s1) (hL : c.base.get? Lf = none) (hn : ∃ m, s1.heap.Ns Lf m) (ho : Outs c.base s1.heap (env :: outer)) (hne : ∀ en ∈ outer, en.locals ≠ env.locals)
    (hs : s = { s1 with heap := s.heap, toks := s.toks }) (fl : Heap.FlyingW B (env :: outer) e (.type X) (.ref t) s.heap) (ht : s.heap.TupAt t [.str (Str.ofString msg) u])
    (hB : ∀ b o, s1.heap.get? b = some o → b ≠ Lf → b ∉ (env :: outer).map (·.locals) → B.get? b = some o) (up : s1.heap.UpToSlots s.heap)
    (hx : sc.names.lookup x = some .local) (hd : (x == ("__debug__" : Str)) = false) (hstr : sc.names.lookup ("str" : Str) = some .globalImplicit) (hms : c.mg ("str" : Str) = none)
    (hQ : ∀ v s', VRel s'.heap v (.tup [.str (codes lit), .str (codes msg)]) → Hd env outer s1 Lf s' → St c.base H' s' → env.locals < s'.heap.objs.size → Q (.ret v) s') :
    wpAny (model c.prog c.w) A' (setFlight (.ref e) none) (fun _ s₂ => wpAny (model c.prog c.w) A' (storeName env x (.ref e)) (fun _ s₃ =>
      wpAny (model c.prog c.w) A' (execs [.Return (some (.Tuple [.Constant (.str (Str.ofString lit)) k1 p1, .Call (.Name "str" p2) [.Name x p3] [] p4] k2 p5)) p6] env)
        (fun f s₄ => wpAny (model c.prog c.w) A (do bindName env x .none; unbindBehindTheSuite env x p7) (fun _ s₅ => Q f s₅) E s₄) E1 s₃) E2 s₂) E3 s := by
  have hkl : env.kindOf x = some .local := by rw [he.kindOf]; exact hx
  have hpk : (env.scope.kind == .class || (env.scope.kind == .module && env.locals != env.globals)) = false := by rw [he.skind]; rfl
  refine lands_againW fl fun h6 fl6 up6 => ?_
  obtain ⟨_, _, hbL, m0, hm0⟩ := ho env (.head _)
  have hm6 : h6.Ns env.locals m0 := (up.trans up6).ns hm0
  have hd6 : Hd env outer s1 Lf { s with heap := h6 } := ⟨by rw [hs], fun b o h h1 h2 => fl6.1 b o (hB b o h h1 h2), fun en he m h => (up.trans up6).ns h⟩
  have ht6 := ht.of_slots up6
  refine wpAny_storeName_local hkl hm6 (fun h7 hn7 hs7 => ?_) hpk
  have hd7 : Hd env outer s1 Lf { s with heap := h7, toks := s.toks + 1 } := hd6.upd hs7 hne
  have S7 := hd7.st S1 hL hn ho
  obtain ⟨oe, ws, hoe, hc, hdt, h0⟩ := fl6.first
  obtain ⟨ot, nt, hot, htc, htd⟩ := ht6
  have dL : ∀ b o, h6.get? b = some o → (∀ es ep, o.data ≠ .dict es ep) → h7.get? b = some o := fun b o hb hnd => by
    refine (hs7.2 b ?_).trans hb
    rintro rfl
    obtain ⟨o', es, ep, ho', hd', _⟩ := hm6
    rw [hb] at ho'; cases ho'
    exact hnd _ _ hd'
  have xe : h7.ExcAt e X (.ref t) := ⟨oe, ws, dL e oe hoe (fun es ep q => by rw [hdt] at q; cases q), hc, hdt, h0⟩
  have xt : h7.TupAt t [.str (Str.ofString msg) u] := ⟨ot, nt, dL t ot hot (fun es ep q => by rw [htd] at q; cases q), htc, htd⟩
  refine wpAny_execs_cons (wpAny_Return_some (wpAny_Tuple (wpAny_items_cons (wpAny_Constant_str (wpAny_items_cons ?_)))))
  refine Call_ (name_builtin (cv := .type "str") he (S7.tok _) hms rfl (by decide) hstr (by decide) ?_)
  refine PySem.callWith_type rfl (evalArgs_plain (wpAny_items_cons (pos := p4) (env := env) (e := .Name x p3) (rest := []) (wpAny_Name (wpAny_loadName_local (v := .ref e) he.skind hkl hn7 (if_pos rfl) (wpAny_items_nil ?_)) hd)))
  refine P.str_of_exc_one FX hu xe xt (wpAny_items_nil ⟨by show 2 ≤ sizeLine; rw [sizeLine_eq]; omega, ?_⟩)
  have hd8 := (hd7.tok (s.toks + 1 + 1)).push { cls := .type "tuple", data := .seq [.str (Str.ofString lit) (s.toks + 1), .str (Str.ofString msg) u].toArray }
  refine wpAny_nameGoes hkl (ns_push _ hn7) hpk fun h9 m9 hn9 hs9 => ?_
  have hd9 := hd8.upd (tk := s.toks + 1 + 1 + 1) hs9 hne
  refine hQ _ _ (.tup (vs := [_, _]) ((hs9.2 _ ?_).trans (IsT.new _ _)) (.cons (p := .str (codes lit)) ?_ (.one (p := .str (codes msg)) ?_))) hd9 (hd9.st S1 hL hn ho) hn9.lt
  · exact fun q => absurd hn7.lt (by rw [← q]; exact Nat.lt_irrefl _)
  · rw [codes_eq]; exact .str _ _ (codes_ok _)
  · rw [codes_eq msg]; exact .str _ _ (codes_ok _)
end
end Mine
open PySem PySem.W PySem.Calls PyProof.Rows
set_option Elab.async false
set_option linter.unusedVariables false
set_option maxRecDepth 100000
namespace Mine
section
variable {c : Cx} {n : Nat} {sc : SE}
/-- a call's end that may have written the slots of the frames around -/
def ResF (c : Cx) (outer : List Env) (H : AH) (s : Shared) (Q : PV → AH → Prop) (v : Value) (s' : Shared) : Prop :=
  ∃ p H', VRel s'.heap v p ∧ St c.base H' s' ∧ Ext (fun a => a ∈ outer.map (·.locals)) No H s H' s' ∧ (∀ en ∈ outer, ∀ m, s.heap.Ns en.locals m → s'.heap.Ns en.locals m) ∧ Q p H'
theorem ResF.of_res {outer : List Env} {H : AH} {s : Shared} {Q : PV → AH → Prop} {v : Value} {s' : Shared} (S : St c.base H s) (r : Res c H s Q v s') : ResF c outer H s Q v s' :=
  r.elim fun p H' h1 S' e q => ⟨p, H', h1, S', e.of_no, fun en _ m h => ns_stays S e h fun z => z, q⟩
theorem sub_IT : isSubtype (.type "TypeError") (.type "IndexError") = pure false := by rw [isSubtype_type]; kernel_rfl
theorem nt_I : isSubtype (.type ((Manifest.find? "IndexError").elim "type" fun x => x.metatype)) (.type "tuple") = pure false := by rw [isSubtype_type]; kernel_rfl
theorem nt_T : isSubtype (.type ((Manifest.find? "TypeError").elim "type" fun x => x.metatype)) (.type "tuple") = pure false := by rw [isSubtype_type]; kernel_rfl
def fTried (kf : List Nat) (ax : AX) : AF := fun ps Q H => ps.length = kf.length ∧ ax (fun p H' => Q (.tup [.str [], p]) H') (fun cls msg H' => (cls = "IndexError" ∨ cls = "TypeError") ∧ Q (.tup [.str (codes cls), .str (codes msg)]) H') (bindP kf ps) H
/-- a handler's suite: the class by its name, and the words -/
def hdl (T : String) (x : Str) (pt ps p1 p2 p3 p4 p5 p6 : Pos) (k1 k2 : Nat) : ExceptHandler :=
  .ExceptHandler (some (.Name (Str.ofString T) pt)) (some x) [.Return (some (.Tuple [.Constant (.str (Str.ofString T)) k1 p1, .Call (.Name "str" p2) [.Name x p3] [] p4] k2 p5)) p6] ps
theorem sound_tried {d d2 : DefRec} {ks kf : List Nat} {xf : List Str} {ex : Expr} {pos : Pos} {ax : AX} {y1 y2 x : Str} {k1 k2 kk1 kk2 ll1 ll2 : Nat} {q1 q2 q3 q4 q5 q6 q7 q8 : Pos} {a1 a2 a3 a4 a5 a6 a7 a8 b1 b2 b3 b4 b5 b6 b7 b8 : Pos}
    (hd : d ∈ recsOf c.q) (hbody : d.body = [.Return (some ex) pos]) (hb : SoundX c n ⟨d.scope, [], false⟩ ex ax) (hx : kf.map (c.N[·]?) = xf.map some) (hnd : xf.Nodup)
    (hbind : ∀ pm cd doc vs, vs.length = xf.length → bindArgs (Calls.docDef d.name d.params d.body d.scope pm cd doc) ⟨vs, []⟩ = pure (xf.zip vs))
    (hkind : ∀ x ∈ xf, d.scope.names.lookup x = some .local ∨ d.scope.names.lookup x = some .cell)
    (hco : d.scope.isCoroutine = false) (hgen : d.scope.isGenerator = false) (hk : d.scope.kind = .function)
    (hd2 : d2 ∈ recsOf c.q) (hbody2 : d2.body = [.Try [.Return (some (.Tuple [.Constant (.str (Str.ofString "")) kk1 q1, .Call (.Name d.name q2) [.Name y1 q3, .Name y2 q4] [] q5] kk2 q6)) q7] [hdl "IndexError" x a1 a2 a3 a4 a5 a6 a7 a8 k1 k2, hdl "TypeError" x b1 b2 b3 b4 b5 b6 b7 b8 ll1 ll2] [] [] q8])
    (hx2 : ks.map (c.N[·]?) = [y1, y2].map some) (hnd2 : [y1, y2].Nodup)
    (hbind2 : ∀ pm cd doc vs, vs.length = 2 → bindArgs (Calls.docDef d2.name d2.params d2.body d2.scope pm cd doc) ⟨vs, []⟩ = pure ([y1, y2].zip vs))
    (hkind2 : ∀ x ∈ [y1, y2], d2.scope.names.lookup x = some .local ∨ d2.scope.names.lookup x = some .cell)
    (hco2 : d2.scope.isCoroutine = false) (hgen2 : d2.scope.isGenerator = false) (hk2 : d2.scope.kind = .function)
    (hy1 : (y1 == ("__debug__" : Str)) = false) (hy1' : (y1 == ("__classdict__" : Str)) = false) (hy2 : (y2 == ("__debug__" : Str)) = false) (hy2' : (y2 == ("__classdict__" : Str)) = false)
    (hdx : (x == ("__debug__" : Str)) = false) (hlx : d2.scope.names.lookup x = some .local) (hls : d2.scope.names.lookup ("str" : Str) = some .globalImplicit)
    (hld : d2.scope.names.lookup d.name = some .globalImplicit) (hdd : (d.name == ("__debug__" : Str)) = false)
    (hlI : d2.scope.names.lookup (Str.ofString "IndexError") = some .globalImplicit) (hlT : d2.scope.names.lookup (Str.ofString "TypeError") = some .globalImplicit)
    (hms : c.mg ("str" : Str) = none) (hmI : c.mg (Str.ofString "IndexError") = none) (hmT : c.mg (Str.ofString "TypeError") = none) (hkl : kf.length = 2) :
    ∃ a o fd, c.mg d2.name = some (.ref a) ∧ c.base.get? a = some o ∧ o.data = .func fd ∧ ∀ (A : Around) (outer : List Env) (H : AH) (s : Shared) (vs : List Value) (ps : List PV) (Q : PV → AH → Prop) (E : Value → Shared → Prop), AOk (n + 2) A → A.frames = some outer → Outs c.base s.heap outer →
      VAll s.heap vs ps → St c.base H s → fTried kf ax ps Q H → wpAny (model c.prog c.w) A (call (.ref a) vs) (ResF c outer H s Q) E s := by
  obtain ⟨fa, fo, ffd, f1, f2, f3, f4⟩ := call_x (n := n) hd hbody hb hx hnd hbind hkind hco hgen hk
  obtain ⟨a, o, fd, h1, h2, h3, h4⟩ := fn_enter (n := n + 1) hd2 hx2 hnd2 hbind2 hkind2 hco2 hgen2 hk2
  refine ⟨a, o, fd, h1, h2, h3, fun A outer H s vs ps Q E hA hf ho hv S q => ?_⟩
  obtain ⟨hl, q⟩ := q
  have hks : ks.length = 2 := by simpa using congrArg List.length hx2
  refine h4 A H s vs ps _ E hA hv S (by rw [hl, hkl, hks]) fun env s1 x1 => ?_
  rw [hbody2]
  -- the arguments
  obtain ⟨g1, g2, rfl⟩ : ∃ g1 g2, ks = [g1, g2] := by
    match ks, hks with | [g1, g2], _ => exact ⟨g1, g2, rfl⟩
  obtain ⟨p, z, rfl⟩ : ∃ p z, ps = [p, z] := by
    rw [hkl] at hl
    match ps, hl with | [p, z], _ => exact ⟨p, z, rfl⟩
  have hN1 : c.N[g1]? = some y1 := by simpa using (List.cons.inj hx2).1
  have hN2 : c.N[g2]? = some y2 := by simpa using (List.cons.inj (List.cons.inj hx2).2).1
  have hne12 : g2 ≠ g1 := by
    rintro rfl
    rw [hN1] at hN2; cases hN2
    simp at hnd2
  have r1 : bindP [g1, g2] [p, z] g1 = some p := by simp [bindP, upd]
  have r2 : bindP [g1, g2] [p, z] g2 = some z := by simp [bindP, upd, hne12]
  have he : EOk ⟨d2.scope, [], false⟩ (A.deeper env) env := ⟨x1.ok, fun h => nomatch h⟩
  have hA1 := hA.deeper env
  have hfr := Around.frames_deeper (env := env) hf
  have T := c.top.keeps (x1.st.tok (s1.toks + 1)).hr.keep
  have ho1 : Outs c.base s1.heap (env :: outer) := by
    intro en hen
    rcases List.mem_cons.mp hen with rfl | hen
    · obtain ⟨m, hn, _⟩ := x1.er.names
      exact ⟨by rw [x1.ok.skind]; simp, x1.frame, x1.er.new, m, hn⟩
    · exact ho.ext S x1.ext (fun _ _ h => h) en hen
  have hne : ∀ en ∈ outer, en.locals ≠ env.locals := by
    intro en hen
    obtain ⟨_, _, _, m, hm⟩ := ho en hen
    exact fun q => absurd hm.lt (by rw [q, x1.loc]; exact Nat.lt_irrefl _)
  refine wpAny_execs_cons (wpAny_Try_except (wpAny_execs_cons (wpAny_Return_some (wpAny_Tuple (wpAny_items_cons (wpAny_Constant_str (wpAny_items_cons ?_)))))))
  refine Call_ (Name_function_global he.skind (by rw [he.kindOf]; exact hld) (loadGlobal_global (mg := c.mg) (by rw [he.globals]; exact T.g) f1 ?_) hdd)
  refine callWith_def f3 (wpAny_items_cons (wpAny_Name (load_var he x1.er hN1 r1 (fun v1 hv1 => wpAny_items_cons (wpAny_Name (load_var he x1.er hN2 r2 (fun v2 hv2 => wpAny_items_nil ⟨x1.st.hr.keep fa fo f2, ?_⟩) hy2') hy2)) hy1') hy1)) rfl
  refine wpAny_mono (f4 (A.deeper env) (env :: outer) H { s1 with toks := s1.toks + 1 } [v1, v2] [p, z] _ _ _ hA1 hfr ho1 (.cons hv1 (.one hv2)) (x1.st.tok _) hl q fun ev s' fly => fly) (fun v s2 rr => ?_) fun ev s' fly => ?_
  · refine rr.elim fun pv H' hp S2 e2 hq => wpAny_items_nil ⟨by show 2 ≤ sizeLine; rw [sizeLine_eq]; omega, ?_⟩
    refine ResF.of_res S ((res_tuple (ps := [.str [], pv]) S2 (.cons ?_ (.one hp)) hq).trans (x1.ext.trans ((Ext.tok _).trans e2)))
    have : Str.ofString "" = ⟨([] : List Nat).toArray⟩ := by decide +kernel
    rw [this]; exact .str [] _ (fun _ h => nomatch h)
  · obtain ⟨e, t, cls, msg, u, H', s2, B, Lf, rfl, S2, e2, hLf, hnL, hbL, hsame, fl, ht, hBt, hB, up, hcls, hq⟩ := fly
    have e12 : Ext No No H s1 H' s2 := (Ext.tok _).trans e2
    have ho2 : Outs c.base s2.heap (env :: outer) := ho1.ext x1.st e12 fun _ _ h => h
    refine wpAny_looks_onW hfr x1.frame fl fun h₄ hheld₄ up₄ => ?_
    refine wpAny_landsW hheld₄ fun h₅ fl₅ up₅ => ?_
    have up5 := (up.trans up₄).trans up₅
    have ht5 := (ht.of_slots up₄).of_slots up₅
    have hs5 : ({ s' with heap := h₅ } : Shared) = { s2 with heap := h₅, toks := s'.toks } := by rw [hsame]
    have hd5 : Hd env outer s2 Lf { s' with heap := h₅ } := ⟨by rw [hs5], fun b o h q1 q2 => fl₅.1 b o (hB b o h q1 q2), fun en _ m h => up5.ns h⟩
    have S5 : St c.base H' { s' with heap := h₅ } := hd5.st S2 hbL hnL ho2
    obtain ⟨ob, hob, hobc⟩ := fl₅.there
    have fin : ∀ v s'', VRel s''.heap v (.tup [.str (codes cls), .str (codes msg)]) → Hd env outer s2 Lf s'' → St c.base H' s'' → env.locals < s''.heap.objs.size → ResF c outer H s Q v s'' := by
      intro v s'' hv x'' S'' hlt
      refine ⟨_, H', hv, S'', ⟨fun b ob hb hX hown => ?_, by rw [← x1.loc]; exact Nat.le_of_lt hlt, fun b y hy => ?_, fun i g hg hY => ?_, ?_, ?_⟩, fun en hen m hm => ?_, hq⟩
      · have hb1 := x1.keep b ob hb
        have hb2 := e12.keep b ob hb1 (fun h => h) hown
        have hlt := Heap.lt_size hb
        refine x''.keep b ob hb2 ?_ ?_
        · rintro rfl
          have : s1.heap.objs.size ≤ b := hLf
          exact absurd (Heap.lt_size hb1) (Nat.not_lt.mpr this)
        · intro hm
          rcases List.mem_cons.mp hm with h | h
          · exact absurd hlt (by rw [show b = env.locals from h, x1.loc]; exact Nat.lt_irrefl _)
          · exact hX h
      · rcases (x1.ext.trans e12).dom b y hy with h | h
        · exact .inl h
        · exact .inr h
      · rw [x''.same]
        exact (x1.ext.trans e12).gens i g hg (fun h => h)
      · rw [x''.same]; exact (x1.ext.trans e12).gsize
      · rw [x''.same]; exact (x1.ext.trans e12).os
      · exact x''.outs en hen m (ns_stays x1.st e12 (ns_stays S x1.ext hm fun h => h) fun h => h)
    have hu : ((A.deeper env).mark (some (.ref e))).units + 2 < cLine := by
      show A.units + 3 + 2 < cLine
      have := hA.units
      have : cLine ≥ 9006 := by decide
      omega
    rcases hcls with rfl | rfl
    · refine wpAny_handleBy_builtin_as (X := "IndexError") (T := "IndexError") (b := true) F.isExc_IndexError nt_I F.self_IndexError (name_builtin (sc := ⟨d2.scope, [], false⟩) (cv := .type "IndexError") x1.ok S5 hmI rfl (by decide) hlI (by decide) ⟨rfl, ⟨ob, hob, hobc⟩, ?_⟩)
      exact suite_tried x1.ok hu F.excStr_IndexError S2 hbL hnL ho2 hne hs5 fl₅ ht5 hB up5 hlx hdx hls hms fin
    · refine wpAny_handleBy_builtin_as (X := "TypeError") (T := "IndexError") (b := false) F.isExc_IndexError nt_I sub_IT (name_builtin (sc := ⟨d2.scope, [], false⟩) (cv := .type "IndexError") x1.ok S5 hmI rfl (by decide) hlI (by decide) ⟨rfl, ⟨ob, hob, hobc⟩, ?_⟩)
      refine wpAny_handleBy_builtin_as (X := "TypeError") (T := "TypeError") (b := true) F.isExc_TypeError nt_T F.self_TypeError (name_builtin (sc := ⟨d2.scope, [], false⟩) (cv := .type "TypeError") x1.ok S5 hmT rfl (by decide) hlT (by decide) ⟨rfl, ⟨ob, hob, hobc⟩, ?_⟩)
      exact suite_tried x1.ok hu F.excStr_TypeError S2 hbL hnL ho2 hne hs5 fl₅ ht5 hB up5 hlx hdx hls hms fin
end
end Mine
open PySem PySem.W PySem.Calls PyProof.Rows
set_option Elab.async false
set_option linter.unusedVariables false
set_option maxRecDepth 100000
namespace Mine
section
variable {c : Cx} {n : Nat} {sc : SE}
/-- a def that may write the slots of the frames around -/
def SoundFF (c : Cx) (m : Nat) (name : Str) (f : AF) : Prop := ∃ a o fd, c.mg name = some (.ref a) ∧ c.base.get? a = some o ∧ o.data = .func fd ∧ ∀ (A : Around) (outer : List Env) (H : AH) (s : Shared) (vs : List Value) (ps : List PV) (Q : PV → AH → Prop) (E : Value → Shared → Prop), AOk m A → A.frames = some outer → Outs c.base s.heap outer →
      VAll s.heap vs ps → St c.base H s → f ps Q H → wpAny (model c.prog c.w) A (call (.ref a) vs) (ResF c outer H s Q) E s
theorem er_frame {env : Env} {ρ : AEnv} {H H' : AH} {s s' : Shared} {Y : Nat → Prop} (R : ER c.base c.N env ρ s.heap) (S : St c.base H s) (e : Ext (fun a => a ∈ [env].map (·.locals)) Y H s H' s') (hn : ∀ m, s.heap.Ns env.locals m → s'.heap.Ns env.locals m) : ER c.base c.N env ρ s'.heap := by
  obtain ⟨m, hm, hk⟩ := R.names
  have x1 : ∀ a o, Imm s.heap a o → ¬ a ∈ [env].map (·.locals) := fun a o hi ha => by
    rcases List.mem_cons.mp ha with rfl | h
    · exact ns_no_imm hm o hi
    · exact nomatch h
  have x2 : ∀ cc v, s.heap.IsCell cc v → ¬ cc ∈ [env].map (·.locals) := fun cc v hc ha => by
    rcases List.mem_cons.mp ha with rfl | h
    · exact ns_ne_cell hm hc rfl
    · exact nomatch h
  refine ⟨⟨m, hn m hm, fun k p hp => ?_⟩, fun x cc h => let ⟨v, hv⟩ := R.cells x cc h; ⟨v, cell_stays S e hv (x2 cc v hv)⟩, R.apart, R.new, R.cnew⟩
  obtain ⟨x, v, h1, h2, h3⟩ := hk k p hp
  refine ⟨x, v, h1, h2.ext S e x1, ?_⟩
  rcases h3 with h3 | ⟨h3, cc, h4, h5⟩
  · exact .inl h3
  · exact .inr ⟨h3, cc, h4, cell_stays S e h5 (x2 cc _ h5)⟩
theorem stmt_if_tried {tname : Str} {f : AF} {e1 : Expr} {es : List Expr} {l : AL} {r : Expr} {ar : AE} {op : CmpOp} {body orelse : List Stmt} {p pos1 pos2 pos : Pos} {a b : AS} {m : Nat} (hf : SoundFF c m tname f) (htop : sc.top = true) (hl : SoundL c n sc (e1 :: es) l) (hr : SoundE c n sc r ar) (ha : SoundB c n sc body a) (hb : SoundB c n sc orelse b)
    (hk : sc.names.lookup tname = some .globalImplicit) (hm : m ≤ n) (hd : (tname == ("__debug__" : Str)) = false) (he' : ∀ env, starEach (e1 :: es) env = (false, eval e1 env) :: starEach es env) (hbm : behindInMarks op r = false) :
    SoundS c n sc (.If (.Compare (.Call (.Name tname p) (e1 :: es) [] pos1) [op] [r] pos2) body orelse pos) (sIf (tCmp op (aCall f l) ar) a b) := by
  intro A env ρ H s Q E hA he R S q
  obtain ⟨fa, fo, fd, f1, f2, f3, f4⟩ := hf
  obtain ⟨hfr, hfe⟩ := he.fr htop
  have T := c.top.keeps S.hr.keep
  refine wpAny_If (wpAny_isTrue_Compare1 (Call_ (Name_function_global he.skind (by rw [he.kindOf]; exact hk) (loadGlobal_global (mg := c.mg) (by rw [he.globals]; exact T.g) f1 ?_) hd)) hbm)
  refine callWith_def f3 (seqL (F := fun ps H1 => f ps (fun p H2 => ar (fun d H3 => cmpOp op p d (fun k H4 => if k then a Q ρ H4 else b Q ρ H4) H3) ρ H2) H1) hl hA he R S q fun vs ps H1 s1 hv R1 S1 x1 q1 => ⟨S1.hr.keep fa fo f2, ?_⟩) (he' env)
  have outs : Outs c.base s1.heap [env] := by
    intro en hen
    rcases List.mem_cons.mp hen with rfl | h
    · obtain ⟨m, hn, _⟩ := R1.names
      exact ⟨by rw [he.skind]; simp, hfe, R1.new, m, hn⟩
    · exact nomatch h
  refine wpAny_mono (f4 A [env] H1 s1 vs ps _ E (hA.of_le hm) hfr outs hv S1 q1) (fun va s2 rr => ?_) fun _ _ x => x
  obtain ⟨pa, H2, hv2, S2, x2, ns2, q2⟩ := rr
  have R2 := er_frame R1 S1 x2 (ns2 env (.head _))
  have x02 : Ext (Own env) No H s H2 s2 := x1.of_no.trans (x2.mono (fun b hb => by
    rcases List.mem_cons.mp hb with rfl | h
    · exact .inl rfl
    · exact nomatch h) fun _ h => h)
  refine seq1 (F := fun d H3 => cmpOp op pa d (fun k H4 => if k then a Q ρ H4 else b Q ρ H4) H3) hr hA he R2 S2 q2 fun vb pb H3 s3 hv3 R3 S3 x3 q3 => ?_
  refine cmp_bool hA (hv2.ext0 S2 x3) hv3 S3 q3 fun k H4 s4 S4 x4 q4 => wpAny_truthy_bool ?_
  have R4 := R3.ext0 S3 x4
  have x04 : Ext (Own env) No H s H4 s4 := (x02.trans x3.of_no).trans x4.of_no
  cases k with
  | true => exact wpAny_mono (ha A env ρ H4 s4 Q E hA he R4 S4 (by simpa using q4)) (fun _ _ r => r.trans x04) fun _ _ x => x
  | false => exact wpAny_mono (hb A env ρ H4 s4 Q E hA he R4 S4 (by simpa using q4)) (fun _ _ r => r.trans x04) fun _ _ x => x
/-- a def called where no frame is around -/
def SoundFT (c : Cx) (m : Nat) (name : Str) (f : AF) : Prop := ∃ a o fd, c.mg name = some (.ref a) ∧ c.base.get? a = some o ∧ o.data = .func fd ∧ ∀ (A : Around) (H : AH) (s : Shared) (vs : List Value) (ps : List PV) (Q : PV → AH → Prop) (E : Value → Shared → Prop), AOk m A → A.frames = some [] → VAll s.heap vs ps → St c.base H s → f ps Q H → wpAny (model c.prog c.w) A (call (.ref a) vs) (Res c H s Q) E s
theorem sound_fn_top {d : DefRec} {ks : List Nat} {xs : List Str} {b : AS} (hd : d ∈ recsOf c.q) (hb : SoundB c n ⟨d.scope, [], true⟩ d.body b) (hx : ks.map (c.N[·]?) = xs.map some) (hnd : xs.Nodup)
    (hbind : ∀ pm cd doc vs, vs.length = xs.length → bindArgs (Calls.docDef d.name d.params d.body d.scope pm cd doc) ⟨vs, []⟩ = pure (xs.zip vs))
    (hkind : ∀ x ∈ xs, d.scope.names.lookup x = some .local ∨ d.scope.names.lookup x = some .cell)
    (hco : d.scope.isCoroutine = false) (hgen : d.scope.isGenerator = false) (hk : d.scope.kind = .function) : SoundFT c (n + 1) d.name (aFn ks b) := by
  obtain ⟨a, o, fd, h1, h2, h3, h4⟩ := fn_enter (n := n) hd hx hnd hbind hkind hco hgen hk
  refine ⟨a, o, fd, h1, h2, h3, fun A H s vs ps Q E hA hf hv S q => h4 A H s vs ps _ E hA hv S q.1 fun env s1 x => ?_⟩
  have he : EOk ⟨d.scope, [], true⟩ (A.deeper env) env := ⟨⟨x.ok.scope, x.ok.kind, x.ok.globals, x.ok.builtins, x.ok.cells⟩, fun _ => ⟨Around.frames_deeper hf, x.frame⟩⟩
  refine wpAny_mono (hb _ env (bindP ks ps) H _ _ _ (hA.deeper env) he x.er x.st q.2) (fun f s' rr => rr.elim fun fl ρ' H' hf R' S' e' q' => ?_) fun _ _ x => x
  have e2 := x.ext.then_new e' (fun b hb => .inr (x.own b hb)) (fun _ h => h.elim)
  cases hf with
  | next => exact ⟨.none, H', .none, S', e2, q'⟩
  | brk => exact q'.elim
  | cont => exact q'.elim
  | ret hv => exact ⟨_, H', hv, S', e2, q'⟩
-- monotony
def MonoX (e : AX) : Prop := ∀ (Q Q' : PV → AH → Prop) (X X' : String → String → AH → Prop) (ρ : AEnv) (H : AH), (∀ p H, Q p H → Q' p H) → (∀ c m H, X c m H → X' c m H) → e Q X ρ H → e Q' X' ρ H
theorem mf_tried {kf : List Nat} {ax : AX} (h : MonoX ax) : MonoF (fTried kf ax) := fun ps Q Q' H hq q => ⟨q.1, h _ _ _ _ _ _ (fun p H' k => hq _ _ k) (fun c m H' k => ⟨k.1, hq _ _ k.2⟩) q.2⟩
end
/-- from the law's own function to the claim -/
theorem link_top {l : OpenLaw} {q : Program} {loose : List Str} {XP : (Str → Option Value) → Heap → Prop} {YP : World → Heap → Prop} {d : DefRec} {kwd : List (Str × Expr)} (N : List Str) (hN : N.Nodup) (hm : l.most = some 63) (hb : l.bound = none)
    (main : ∀ c : Cx, c.q = q → c.loose = looseW q loose → ∃ k f, k ≤ 500 ∧ SoundFT (c.on N hN) k d.name f ∧ ∀ (ns : List Int) (a : Nat) (H : AH), ns.length ≤ 63 → H a = some ⟨ns.map .int, false⟩ → f [.ref a] (fun p _ => p = .bool true) H) :
    WalkO q loose XP YP l.row.toRowW d kwd fun f vs => PySem.call f vs := by
  intro w s₀ s₁ mg mb G Y fa o pm cd doc dV kV ho hd hcd hD hmg hg args vals as hpre hlay hrd hwl hlo
  have hpre' : (WShape.hasAll [] args [.list .int] && l.pre.holds [] { args := args }) = true := hpre
  simp only [Bool.and_eq_true] at hpre'
  obtain ⟨p1, p2⟩ := hpre'
  have one : ∃ ns : List Int, args = [.list (ns.map .int)] := by
    cases args with
    | nil => cases p1
    | cons x r =>
      have p3 : (WShape.has [] x (.list .int) && WShape.hasAll [] r []) = true := p1
      simp only [Bool.and_eq_true] at p3
      cases r with
      | cons y r => exact nomatch p3.2
      | nil =>
        obtain ⟨xs, e1, h1⟩ := hasW_list p3.1
        obtain ⟨ns, e2⟩ := items_int h1
        exact ⟨ns, by rw [e1, e2]⟩
  obtain ⟨ns, rfl⟩ := one
  have hlen : ns.length ≤ 63 := by
    unfold OpenLaw.pre at p2
    rw [hm, hb] at p2
    have hv := w_and (w_not (w_lt (w_lit (R := []) (e := { args := [.list (ns.map .int)] }) (d := .int (63 : Nat))) (w_len_list (w_arg (i := 0) rfl)))) (w_lit (d := .bool true))
    unfold WTm.holds at p2
    rw [hv] at p2
    cases hd : decide (((63 : Nat) : Int) < (((ns.map WData.int).length : Nat) : Int)) with
    | true => rw [hd] at p2; cases p2
    | false => have := of_decide_eq_false hd; simp at this; omega
  obtain ⟨vl, rfl⟩ : ∃ vl, vals = [vl] := by
    cases hwl with
    | cons h1 h2 => cases h2; exact ⟨_, rfl⟩
  cases hwl with
  | cons h1 h2 =>
    cases h1 with
    | list hget hws =>
      rename_i la vs
      let c : Cx := ⟨l.prog, w, s₁.heap, q, looseW q loose, _, mg, mb, G.T, N, hN⟩
      obtain ⟨k, f, hk, ⟨a', o', fd, m1, m2, m3, hf⟩, hmain⟩ := main c rfl rfl
      have ea : a' = fa := by
        have : mg d.name = some (.ref a') := m1
        rw [hmg] at this; cases this; rfl
      subst ea
      let H : AH := fun b => if b = la then some ⟨ns.map .int, false⟩ else none
      have hH : ∀ b x, H b = some x → b = la ∧ x = ⟨ns.map .int, false⟩ := by
        intro b x hx
        by_cases e : b = la
        · simp [H, e] at hx; exact ⟨e, hx.symm⟩
        · simp [H, e] at hx
      have S : St c.base H s₁ := ⟨⟨fun _ _ h => h, fun b x hx => by
          obtain ⟨rfl, rfl⟩ := hH b x hx
          exact ⟨vs.toArray, 0, hget, by simpa using well_ints vs ns hws⟩, fun b x hx ho => by
          obtain ⟨rfl, rfl⟩ := hH b x hx
          cases ho⟩, by rw [hg]; exact AllBare.empty⟩
      have hA : AOk k callerA := ⟨rfl, by show 1 + claimMargin + k ≤ 900; simp only [claimMargin]; omega, by show 4 + 10 * k ≤ 9000; omega⟩
      refine wpAny_mono (hf callerA H s₁ [.ref la] [.ref la] _ _ hA rfl (.one (.ref la)) S (hmain ns la H hlen (by simp [H]))) (fun v s' rr => rr.elim fun p H' hv S' e hp => ?_) fun _ _ x => x
      subst hp
      cases hv
      refine ⟨.inl ⟨.bool true, .bool true, [], rfl, fun _ => rfl, .bool true, postW_of (r := l.row.toRowW) (X := true == true) (by show WShape.has [] (.bool true) .bool = true; decide +kernel) (by show (WTm.eq .res (.lit (.bool true))).value [] _ = _; exact w_eq_bool (w_res rfl) w_lit) rfl, fun _ => ⟨List.nodup_nil, fun _ h => nomatch h⟩⟩, OldK.of_keep fun b o hb => e.keep b o hb (fun h => h) fun x hx => ?_, e.os, S'.bare⟩
      obtain ⟨_, rfl⟩ := hH b x hx
      rfl
end Mine
open PySem PySem.W PySem.Calls PyProof.Rows
set_option Elab.async false
set_option linter.unusedVariables false
set_option maxRecDepth 100000
namespace Mine
section
variable {c : Cx} {n : Nat} {sc : SE}
def isInt (p : PV) (Q : PV → AH → Prop) (H : AH) : Prop := match p with
  | .int _ => Q (.bool true) H
  | .str _ => Q (.bool false) H
  | .none => Q (.bool false) H
  | _ => False
def isLst (p : PV) (Q : PV → AH → Prop) (H : AH) : Prop := match p with
  | .ref a => (∃ x, H a = some x) ∧ Q (.bool true) H
  | .tup _ => Q (.bool false) H
  | _ => False
def SoundI (c : Cx) (n : Nat) (T : String) (f : PV → (PV → AH → Prop) → AH → Prop) : Prop :=
  ∀ (A : Around) (H : AH) (s : Shared) (va : Value) (a : PV) (Q : PV → AH → Prop) (E : Value → Shared → Prop), VRel s.heap va a → St c.base H s → f a Q H →
    wpAny (model c.prog c.w) A (call (.builtin "isinstance") [va, .type T]) (Res c H s Q) E s
theorem isi_int : SoundI c n "int" isInt := by
  intro A H s va a Q E h1 S q
  unfold isInt at q
  split at q
  · cases h1; exact IsiPair.int_int (res_pure S (.bool _) q)
  · cases h1; exact IsiPair.str_int (res_tok S (.bool _) q)
  · cases h1; exact IsiPair.NoneType_int (res_tok S (.bool _) q)
  · exact q.elim
theorem isi_list : SoundI c n "list" isLst := by
  intro A H s va a Q E h1 S q
  unfold isLst at q
  split at q
  · obtain ⟨⟨x, hx⟩, q⟩ := q
    cases h1
    obtain ⟨vs, j, hL, hv⟩ := S.hr.list _ x hx
    exact IsiPair.list_list hL rfl (res_pure S (.bool _) q)
  · cases h1 with
    | tup hT hvs => exact IsiPair.tuple_list hT rfl (res_tok S (.bool _) q)
  · exact q.elim
def aIsi (f : PV → (PV → AH → Prop) → AH → Prop) (a : AE) : AE := fun Q ρ H => a (fun p H1 => f p Q H1) ρ H
theorem sound_isi {T : String} {e : Expr} {a : AE} {f} {p p2 pos : Pos} (hi : SoundI c n T f) (ha : SoundE c n sc e a) (hs : isStar e = false) (hm : c.mg (Str.ofString "isinstance") = none) (hmT : c.mg (Str.ofString T) = none) (hbT : bootBuiltins (Str.ofString T) = some (.type T)) (hnT : Str.ofString T ≠ ("__name__" : Str))
    (hk : sc.names.lookup (Str.ofString "isinstance") = some .globalImplicit) (hkT : sc.names.lookup (Str.ofString T) = some .globalImplicit) (hdT : (Str.ofString T == ("__debug__" : Str)) = false) :
    SoundE c n sc (.Call (.Name (Str.ofString "isinstance") p) [e, .Name (Str.ofString T) p2] [] pos) (aIsi f a) := by
  intro A env ρ H s Q E hA he R S q
  refine Call_ (name_builtin (cv := .builtin "isinstance") he.toEOk0 S hm (by decide +kernel) (by decide) hk (by decide) ?_)
  have args : wpAny (model c.prog c.w) A (spliced (backTo pos (starEach [e, .Name (Str.ofString T) p2] env))) (fun vs s1 => wpAny (model c.prog c.w) A (call (.builtin "isinstance") vs) (Res c H s Q) E s1) E s := by
    refine wpAny_items_cons (seq1 (F := fun p H1 => f p Q H1) ha hA he R S q fun va a H1 s1 h1 R1 S1 e1 q1 => ?_) (star_plain e _ hs env)
    refine wpAny_items_cons (name_builtin (cv := .type T) he.toEOk0 S1 hmT hbT hnT hkT hdT (wpAny_items_nil ?_)) rfl
    exact wpAny_mono (hi A H1 s1 va a Q E h1 S1 q1) (fun _ _ r => r.trans e1) fun _ _ x => x
  exact callWith_builtin1 args (star_plain e _ hs env) rfl
theorem m_isi {f} {a : AE} (hf : MonoO1 f) (ha : MonoE a) : MonoE (aIsi f a) := fun Q Q' ρ H h q => ha _ _ _ _ (fun p H1 q1 => hf _ _ _ _ h q1) q
theorem mo_isint : MonoO1 isInt := by
  intro a Q Q' H h q; unfold isInt at *; split at q <;> first | exact h _ _ q | exact q.elim
theorem mo_islst : MonoO1 isLst := by
  intro a Q Q' H h q; unfold isLst at *; split at q <;> first | exact ⟨q.1, h _ _ q.2⟩ | exact h _ _ q | exact q.elim
end
end Mine
open PySem PySem.W PySem.Calls PyProof.Rows
set_option Elab.async false
set_option linter.unusedVariables false
set_option maxRecDepth 100000
namespace Mine
def MonoXL (e : AXL) : Prop := ∀ (Q Q' : List PV → AH → Prop) (X X' : String → String → AH → Prop) (ρ : AEnv) (H : AH), (∀ p H, Q p H → Q' p H) → (∀ c m H, X c m H → X' c m H) → e Q X ρ H → e Q' X' ρ H
def MonoO2X (f : PV → PV → (PV → AH → Prop) → (String → String → AH → Prop) → AH → Prop) : Prop := ∀ (a b : PV) (Q Q' : PV → AH → Prop) (X X' : String → String → AH → Prop) (H : AH), (∀ p H, Q p H → Q' p H) → (∀ c m H, X c m H → X' c m H) → f a b Q X H → f a b Q' X' H
/-- the value of a body of one return -/
def retOf : List Stmt → Expr
  | [.Return (some e) _] => e
  | _ => .Constant .none 0 ⟨0, 0, 0, 0⟩
theorem mx_lift {a : AE} (h : MonoE a) : MonoX (xLift a) := fun Q Q' X X' ρ H hq _ q => h _ _ _ _ hq q
theorem mx_bin {f} {a b : AX} (hf : MonoO2X f) (ha : MonoX a) (hb : MonoX b) : MonoX (xBin f a b) := fun Q Q' X X' ρ H hq hx q => ha _ _ _ _ _ _ (fun p H1 q1 => hb _ _ _ _ _ _ (fun p2 H2 q2 => hf _ _ _ _ _ _ _ hq hx q2) hx q1) hx q
theorem mxl_nil : MonoXL xlNil := fun Q Q' X X' ρ H hq _ q => hq _ _ q
theorem mxl_cons {a : AX} {l : AXL} (ha : MonoX a) (hl : MonoXL l) : MonoXL (xlCons a l) := fun Q Q' X X' ρ H hq hx q => ha _ _ _ _ _ _ (fun p H1 q1 => hl _ _ _ _ _ _ (fun ps H2 q2 => hq _ _ q2) hx q1) hx q
theorem mx_tup {l : AXL} (hl : MonoXL l) : MonoX (xTup l) := fun Q Q' X X' ρ H hq hx q => hl _ _ _ _ _ _ (fun ps H1 q1 => ⟨q1.1, hq _ _ q1.2⟩) hx q
theorem mox_item : MonoO2X xItem := by
  intro a b Q Q' X X' H hq hx q
  unfold xItem at *
  split at q
  · split at q
    · split at q
      · refine ⟨q.1, ?_⟩
        have := q.2
        split at this
        · exact hq _ _ this
        · exact hx _ _ _ this
      · exact hx _ _ _ q
      · exact hx _ _ _ q
      · exact q.elim
    · exact q.elim
  · split at q
    · refine ⟨q.1, ?_⟩
      have := q.2
      split at this
      · exact hq _ _ this
      · exact hx _ _ _ this
    · exact q.elim
  · exact q.elim
theorem mox_sub : MonoO2X xSub := by
  intro a b Q Q' X X' H hq hx q
  unfold xSub at *
  split at q
  · exact hq _ _ q
  · exact hx _ _ _ q
  · exact hx _ _ _ q
  · exact q.elim
theorem mox_fmt : MonoO2X xFmt := by
  intro a b Q Q' X X' H hq hx q
  unfold xFmt at *
  split at q
  · obtain ⟨h0, cd, cy, ch, ci, cs, Td, Ty, Th, Ti, Ts, z, h1, h2, h3, h4, h5, h6, h7, h8⟩ := q
    exact ⟨h0, cd, cy, ch, ci, cs, Td, Ty, Th, Ti, Ts, z, h1, h2, h3, h4, h5, h6, fun d y h i s e1 e2 e3 e4 e5 => hq _ _ (h7 d y h i s e1 e2 e3 e4 e5), fun T hT => hx _ _ _ (h8 T hT)⟩
  · exact q.elim
end Mine
open PySem PySem.W PySem.Calls PyProof.Rows
set_option Elab.async false
set_option linter.unusedVariables false
set_option linter.unusedSimpArgs false
set_option maxRecDepth 100000
set_option maxHeartbeats 8000000
namespace Mine
abbrev prg : Program := PySem.Challenge.pw_dm0098_01
def NN : List Str := [Str.ofString "timetuple", Str.ofString "zone", Str.ofString "number", Str.ofString "bound", Str.ofString "size", Str.ofString "width", Str.ofString "sign", Str.ofString "figures", Str.ofString "left", Str.ofString "figure", Str.ofString "cell", Str.ofString "row", Str.ofString "text", Str.ofString "at", Str.ofString "month", Str.ofString "weekday", Str.ofString "kind", Str.ofString "error", Str.ofString "numbers", Str.ofString "worded", Str.ofString "empty", Str.ofString "bounds", Str.ofString "i", Str.ofString "script", Str.ofString "ring", Str.ofString "start", Str.ofString "kept", Str.ofString "given", Str.ofString "zones"]
theorem NN_nodup : NN.Nodup := by decide +kernel
def x__format_timetuple_and_zone : AX := xBin xFmt (xLift (aCst (.str [37, 115, 44, 32, 37, 48, 50, 100, 32, 37, 115, 32, 37, 48, 52, 100, 32, 37, 48, 50, 100, 58, 37, 48, 50, 100, 58, 37, 48, 50, 100, 32, 37, 115]))) (xTup (xlCons (xBin xItem (xLift (aList (lCons (aCst (.str [77, 111, 110])) (lCons (aCst (.str [84, 117, 101])) (lCons (aCst (.str [87, 101, 100])) (lCons (aCst (.str [84, 104, 117])) (lCons (aCst (.str [70, 114, 105])) (lCons (aCst (.str [83, 97, 116])) (lCons (aCst (.str [83, 117, 110])) (lNil)))))))))) (xBin xItem (xLift (aVar 0)) (xLift (aCst (.int 6))))) (xlCons (xBin xItem (xLift (aVar 0)) (xLift (aCst (.int 2)))) (xlCons (xBin xItem (xLift (aList (lCons (aCst (.str [74, 97, 110])) (lCons (aCst (.str [70, 101, 98])) (lCons (aCst (.str [77, 97, 114])) (lCons (aCst (.str [65, 112, 114])) (lCons (aCst (.str [77, 97, 121])) (lCons (aCst (.str [74, 117, 110])) (lCons (aCst (.str [74, 117, 108])) (lCons (aCst (.str [65, 117, 103])) (lCons (aCst (.str [83, 101, 112])) (lCons (aCst (.str [79, 99, 116])) (lCons (aCst (.str [78, 111, 118])) (lCons (aCst (.str [68, 101, 99])) (lNil))))))))))))))) (xBin xSub (xBin xItem (xLift (aVar 0)) (xLift (aCst (.int 1)))) (xLift (aCst (.int 1))))) (xlCons (xBin xItem (xLift (aVar 0)) (xLift (aCst (.int 0)))) (xlCons (xBin xItem (xLift (aVar 0)) (xLift (aCst (.int 3)))) (xlCons (xBin xItem (xLift (aVar 0)) (xLift (aCst (.int 4)))) (xlCons (xBin xItem (xLift (aVar 0)) (xLift (aCst (.int 5)))) (xlCons (xLift (aVar 1)) (xlNil))))))))))
theorem mx__format_timetuple_and_zone : MonoX x__format_timetuple_and_zone := by
  unfold x__format_timetuple_and_zone
  repeat' first | with_reducible apply m_var | with_reducible apply m_cst | with_reducible apply ms_nil | with_reducible apply ms_cons | with_reducible apply ms_assign | with_reducible apply ms_ret | with_reducible apply ms_ret0 | with_reducible apply ms_cont | with_reducible apply ms_if | with_reducible apply ms_expr | with_reducible apply ms_aug | with_reducible apply ms_augsub | with_reducible apply ms_for | with_reducible apply ms_while | with_reducible apply m_bin | with_reducible apply m_un | with_reducible apply m_cmp | with_reducible apply mt_val | with_reducible apply mt_not | with_reducible apply mt_and | with_reducible apply mt_or | with_reducible apply mt_true | with_reducible apply mt_false | with_reducible apply mt_cmp | with_reducible apply mt_cmp2 | with_reducible apply m_not | with_reducible apply m_if | with_reducible apply m_and | with_reducible apply m_or | with_reducible apply ml_nil | with_reducible apply ml_cons | with_reducible apply m_tup | with_reducible apply m_list | with_reducible apply m_call | with_reducible apply m_meth | with_reducible apply m_slice | with_reducible apply m_comp | with_reducible apply m_comp2 | with_reducible apply mg_name | with_reducible apply mg_sub | with_reducible apply mg_tup | with_reducible apply MonoGs.nil | with_reducible apply MonoGs.cons | with_reducible apply mo_add | with_reducible apply mo_iadd | with_reducible apply mo_sub | with_reducible apply mo_mul | with_reducible apply mo_div | with_reducible apply mo_mod | with_reducible apply mo_neg | with_reducible apply mo_item | with_reducible apply mf_len | with_reducible apply mf_range | with_reducible apply mf_list | with_reducible apply mf_tuple | with_reducible apply mf_append | with_reducible apply mf_insert | with_reducible apply mf_pop | with_reducible apply mf_chr | with_reducible apply mf_sjoin | with_reducible apply mf_all | with_reducible apply mf_any | with_reducible apply mf_sum | with_reducible apply mf_min | with_reducible apply mo_fmt | with_reducible apply mo_mulis | with_reducible apply mf_divmod | with_reducible apply mf_abs | with_reducible apply mf_sindex | with_reducible apply mf_index | with_reducible apply mg_tupl | with_reducible apply m_isi | with_reducible apply mo_isint | with_reducible apply mo_islst | with_reducible apply mx_lift | with_reducible apply mx_bin | with_reducible apply mx_tup | with_reducible apply mxl_nil | with_reducible apply mxl_cons | with_reducible apply mox_item | with_reducible apply mox_sub | with_reducible apply mox_fmt
theorem xs__format_timetuple_and_zone (c : Cx) : SoundX (c.on NN NN_nodup) 0 ⟨(fnRec prg 1).scope, [], false⟩ (retOf (fnRec prg 1).body) x__format_timetuple_and_zone :=
  @x_bin _ _ _ _ _ _ _ _ _ _ op_fmtx (@x_lift _ _ _ _ _ (sound_str (hx := rfl) (hy := rfl))) (@x_tup _ _ _ _ _ _ _ (@xl_cons _ _ _ _ _ _ _ (@x_sub _ _ _ _ _ _ _ _ op_itemx (@x_lift _ _ _ _ _ (@sound_list _ _ _ _ _ _ (@list_consP _ _ _ _ _ _ _ (sound_str (hx := rfl) (hy := rfl)) (@list_consP _ _ _ _ _ _ _ (sound_str (hx := rfl) (hy := rfl)) (@list_consP _ _ _ _ _ _ _ (sound_str (hx := rfl) (hy := rfl)) (@list_consP _ _ _ _ _ _ _ (sound_str (hx := rfl) (hy := rfl)) (@list_consP _ _ _ _ _ _ _ (sound_str (hx := rfl) (hy := rfl)) (@list_consP _ _ _ _ _ _ _ (sound_str (hx := rfl) (hy := rfl)) (@list_consP _ _ _ _ _ _ _ (sound_str (hx := rfl) (hy := rfl)) (list_nil) rfl) rfl) rfl) rfl) rfl) rfl) rfl))) (@x_sub _ _ _ _ _ _ _ _ op_itemx (@x_lift _ _ _ _ _ (sound_var rfl (hd := by decide) (hn := by decide))) (@x_lift _ _ _ _ _ (sound_int)))) (@xl_cons _ _ _ _ _ _ _ (@x_sub _ _ _ _ _ _ _ _ op_itemx (@x_lift _ _ _ _ _ (sound_var rfl (hd := by decide) (hn := by decide))) (@x_lift _ _ _ _ _ (sound_int))) (@xl_cons _ _ _ _ _ _ _ (@x_sub _ _ _ _ _ _ _ _ op_itemx (@x_lift _ _ _ _ _ (@sound_list _ _ _ _ _ _ (@list_consP _ _ _ _ _ _ _ (sound_str (hx := rfl) (hy := rfl)) (@list_consP _ _ _ _ _ _ _ (sound_str (hx := rfl) (hy := rfl)) (@list_consP _ _ _ _ _ _ _ (sound_str (hx := rfl) (hy := rfl)) (@list_consP _ _ _ _ _ _ _ (sound_str (hx := rfl) (hy := rfl)) (@list_consP _ _ _ _ _ _ _ (sound_str (hx := rfl) (hy := rfl)) (@list_consP _ _ _ _ _ _ _ (sound_str (hx := rfl) (hy := rfl)) (@list_consP _ _ _ _ _ _ _ (sound_str (hx := rfl) (hy := rfl)) (@list_consP _ _ _ _ _ _ _ (sound_str (hx := rfl) (hy := rfl)) (@list_consP _ _ _ _ _ _ _ (sound_str (hx := rfl) (hy := rfl)) (@list_consP _ _ _ _ _ _ _ (sound_str (hx := rfl) (hy := rfl)) (@list_consP _ _ _ _ _ _ _ (sound_str (hx := rfl) (hy := rfl)) (@list_consP _ _ _ _ _ _ _ (sound_str (hx := rfl) (hy := rfl)) (list_nil) rfl) rfl) rfl) rfl) rfl) rfl) rfl) rfl) rfl) rfl) rfl) rfl))) (@x_bin _ _ _ _ _ _ _ _ _ _ op_subx (@x_sub _ _ _ _ _ _ _ _ op_itemx (@x_lift _ _ _ _ _ (sound_var rfl (hd := by decide) (hn := by decide))) (@x_lift _ _ _ _ _ (sound_int))) (@x_lift _ _ _ _ _ (sound_int)))) (@xl_cons _ _ _ _ _ _ _ (@x_sub _ _ _ _ _ _ _ _ op_itemx (@x_lift _ _ _ _ _ (sound_var rfl (hd := by decide) (hn := by decide))) (@x_lift _ _ _ _ _ (sound_int))) (@xl_cons _ _ _ _ _ _ _ (@x_sub _ _ _ _ _ _ _ _ op_itemx (@x_lift _ _ _ _ _ (sound_var rfl (hd := by decide) (hn := by decide))) (@x_lift _ _ _ _ _ (sound_int))) (@xl_cons _ _ _ _ _ _ _ (@x_sub _ _ _ _ _ _ _ _ op_itemx (@x_lift _ _ _ _ _ (sound_var rfl (hd := by decide) (hn := by decide))) (@x_lift _ _ _ _ _ (sound_int))) (@xl_cons _ _ _ _ _ _ _ (@x_sub _ _ _ _ _ _ _ _ op_itemx (@x_lift _ _ _ _ _ (sound_var rfl (hd := by decide) (hn := by decide))) (@x_lift _ _ _ _ _ (sound_int))) (@xl_cons _ _ _ _ _ _ _ (@x_lift _ _ _ _ _ (sound_var rfl (hd := by decide) (hn := by decide))) (xl_nil) rfl) rfl) rfl) rfl) rfl) rfl) rfl) rfl))
def f__law_small : AF := aFn [2, 3] <|
    sCons (sAssign (gName 4) (aBin opMod (aCall fAbs (lCons (aVar 2) (lNil))) (aVar 3))) <|
    sCons (sRet (aIf (tCmp .Lt (aVar 2) (aCst (.int 0))) (aUn opNeg (aVar 4)) (aVar 4))) <|
    sNil
theorem m_f__law_small : MonoF f__law_small := by
  unfold f__law_small
  apply mf_fn
  repeat' first | with_reducible apply m_var | with_reducible apply m_cst | with_reducible apply ms_nil | with_reducible apply ms_cons | with_reducible apply ms_assign | with_reducible apply ms_ret | with_reducible apply ms_ret0 | with_reducible apply ms_cont | with_reducible apply ms_if | with_reducible apply ms_expr | with_reducible apply ms_aug | with_reducible apply ms_augsub | with_reducible apply ms_for | with_reducible apply ms_while | with_reducible apply m_bin | with_reducible apply m_un | with_reducible apply m_cmp | with_reducible apply mt_val | with_reducible apply mt_not | with_reducible apply mt_and | with_reducible apply mt_or | with_reducible apply mt_true | with_reducible apply mt_false | with_reducible apply mt_cmp | with_reducible apply mt_cmp2 | with_reducible apply m_not | with_reducible apply m_if | with_reducible apply m_and | with_reducible apply m_or | with_reducible apply ml_nil | with_reducible apply ml_cons | with_reducible apply m_tup | with_reducible apply m_list | with_reducible apply m_call | with_reducible apply m_meth | with_reducible apply m_slice | with_reducible apply m_comp | with_reducible apply m_comp2 | with_reducible apply mg_name | with_reducible apply mg_sub | with_reducible apply mg_tup | with_reducible apply MonoGs.nil | with_reducible apply MonoGs.cons | with_reducible apply mo_add | with_reducible apply mo_iadd | with_reducible apply mo_sub | with_reducible apply mo_mul | with_reducible apply mo_div | with_reducible apply mo_mod | with_reducible apply mo_neg | with_reducible apply mo_item | with_reducible apply mf_len | with_reducible apply mf_range | with_reducible apply mf_list | with_reducible apply mf_tuple | with_reducible apply mf_append | with_reducible apply mf_insert | with_reducible apply mf_pop | with_reducible apply mf_chr | with_reducible apply mf_sjoin | with_reducible apply mf_all | with_reducible apply mf_any | with_reducible apply mf_sum | with_reducible apply mf_min | with_reducible apply mo_fmt | with_reducible apply mo_mulis | with_reducible apply mf_divmod | with_reducible apply mf_abs | with_reducible apply mf_sindex | with_reducible apply mf_index | with_reducible apply mg_tupl | with_reducible apply m_isi | with_reducible apply mo_isint | with_reducible apply mo_islst | with_reducible apply mx_lift | with_reducible apply mx_bin | with_reducible apply mx_tup | with_reducible apply mxl_nil | with_reducible apply mxl_cons | with_reducible apply mox_item | with_reducible apply mox_sub | with_reducible apply mox_fmt
theorem s__law_small (c : Cx) (hd : fnRec prg 3 ∈ recsOf c.q) (b_abs : c.mg (Str.ofString "abs") = none) : SoundF (c.on NN NN_nodup) 1 (Str.ofString "_law_small") f__law_small :=
  sound_fn (c := c.on NN NN_nodup) (d := fnRec prg 3) (xs := [Str.ofString "number", Str.ofString "bound"]) hd (
    @block_cons _ _ _ _ _ _ _ (@stmt_assign _ _ _ _ _ _ _ _ (@sound_bin _ _ _ _ _ _ _ _ _ _ op_mod (sound_bi bi_abs rfl b_abs (by decide +kernel) (by decide +kernel) (@list_consP _ _ _ _ _ _ _ (sound_var rfl (hd := by decide) (hn := by decide)) (list_nil) rfl) (by decide +kernel) (hd := by decide) (he' := fun _ => rfl) (hp := fun _ => rfl)) (sound_var rfl (hd := by decide) (hn := by decide))) (tgt_name rfl (.inl (by decide +kernel))) (fun _ _ => rfl) (fun _ _ => rfl) (fun _ => rfl)) <|
    @block_cons _ _ _ _ _ _ _ (@stmt_ret _ _ _ _ _ _ (sound_if (test_cmp (sound_var rfl (hd := by decide) (hn := by decide)) (sound_int) (hm := by with_unfolding_all rfl)) (@sound_un _ _ _ _ _ _ _ _ op_negI (sound_var rfl (hd := by decide) (hn := by decide))) (sound_var rfl (hd := by decide) (hn := by decide)))) <|
    block_nil) rfl (by decide +kernel) (fun _ _ _ vs h => by obtain ⟨v0, v1, rfl⟩ := len2 h; rfl) (by decide +kernel) (hco := rfl) (hgen := rfl) (hk := rfl)
def l__law_figures_1 : AS := sCons (sAssign (gName 7) (aBin opAdd (aCst (.str [48])) (aVar 7))) <|
    sNil
theorem m_l__law_figures_1 : MonoS l__law_figures_1 := by
  unfold l__law_figures_1
  repeat' first | with_reducible apply m_var | with_reducible apply m_cst | with_reducible apply ms_nil | with_reducible apply ms_cons | with_reducible apply ms_assign | with_reducible apply ms_ret | with_reducible apply ms_ret0 | with_reducible apply ms_cont | with_reducible apply ms_if | with_reducible apply ms_expr | with_reducible apply ms_aug | with_reducible apply ms_augsub | with_reducible apply ms_for | with_reducible apply ms_while | with_reducible apply m_bin | with_reducible apply m_un | with_reducible apply m_cmp | with_reducible apply mt_val | with_reducible apply mt_not | with_reducible apply mt_and | with_reducible apply mt_or | with_reducible apply mt_true | with_reducible apply mt_false | with_reducible apply mt_cmp | with_reducible apply mt_cmp2 | with_reducible apply m_not | with_reducible apply m_if | with_reducible apply m_and | with_reducible apply m_or | with_reducible apply ml_nil | with_reducible apply ml_cons | with_reducible apply m_tup | with_reducible apply m_list | with_reducible apply m_call | with_reducible apply m_meth | with_reducible apply m_slice | with_reducible apply m_comp | with_reducible apply m_comp2 | with_reducible apply mg_name | with_reducible apply mg_sub | with_reducible apply mg_tup | with_reducible apply MonoGs.nil | with_reducible apply MonoGs.cons | with_reducible apply mo_add | with_reducible apply mo_iadd | with_reducible apply mo_sub | with_reducible apply mo_mul | with_reducible apply mo_div | with_reducible apply mo_mod | with_reducible apply mo_neg | with_reducible apply mo_item | with_reducible apply mf_len | with_reducible apply mf_range | with_reducible apply mf_list | with_reducible apply mf_tuple | with_reducible apply mf_append | with_reducible apply mf_insert | with_reducible apply mf_pop | with_reducible apply mf_chr | with_reducible apply mf_sjoin | with_reducible apply mf_all | with_reducible apply mf_any | with_reducible apply mf_sum | with_reducible apply mf_min | with_reducible apply mo_fmt | with_reducible apply mo_mulis | with_reducible apply mf_divmod | with_reducible apply mf_abs | with_reducible apply mf_sindex | with_reducible apply mf_index | with_reducible apply mg_tupl | with_reducible apply m_isi | with_reducible apply mo_isint | with_reducible apply mo_islst | with_reducible apply mx_lift | with_reducible apply mx_bin | with_reducible apply mx_tup | with_reducible apply mxl_nil | with_reducible apply mxl_cons | with_reducible apply mox_item | with_reducible apply mox_sub | with_reducible apply mox_fmt
def l__law_figures_2 : AS := sCons (sAssign (gTup [gName 8, gName 9]) (aCall fDivmod (lCons (aVar 8) (lCons (aCst (.int 10)) (lNil))))) <|
    sCons (sAssign (gName 7) (aBin opAdd (aBin opItem (aCst (.str [48, 49, 50, 51, 52, 53, 54, 55, 56, 57])) (aVar 9)) (aVar 7))) <|
    sNil
theorem m_l__law_figures_2 : MonoS l__law_figures_2 := by
  unfold l__law_figures_2
  repeat' first | with_reducible apply m_var | with_reducible apply m_cst | with_reducible apply ms_nil | with_reducible apply ms_cons | with_reducible apply ms_assign | with_reducible apply ms_ret | with_reducible apply ms_ret0 | with_reducible apply ms_cont | with_reducible apply ms_if | with_reducible apply ms_expr | with_reducible apply ms_aug | with_reducible apply ms_augsub | with_reducible apply ms_for | with_reducible apply ms_while | with_reducible apply m_bin | with_reducible apply m_un | with_reducible apply m_cmp | with_reducible apply mt_val | with_reducible apply mt_not | with_reducible apply mt_and | with_reducible apply mt_or | with_reducible apply mt_true | with_reducible apply mt_false | with_reducible apply mt_cmp | with_reducible apply mt_cmp2 | with_reducible apply m_not | with_reducible apply m_if | with_reducible apply m_and | with_reducible apply m_or | with_reducible apply ml_nil | with_reducible apply ml_cons | with_reducible apply m_tup | with_reducible apply m_list | with_reducible apply m_call | with_reducible apply m_meth | with_reducible apply m_slice | with_reducible apply m_comp | with_reducible apply m_comp2 | with_reducible apply mg_name | with_reducible apply mg_sub | with_reducible apply mg_tup | with_reducible apply MonoGs.nil | with_reducible apply MonoGs.cons | with_reducible apply mo_add | with_reducible apply mo_iadd | with_reducible apply mo_sub | with_reducible apply mo_mul | with_reducible apply mo_div | with_reducible apply mo_mod | with_reducible apply mo_neg | with_reducible apply mo_item | with_reducible apply mf_len | with_reducible apply mf_range | with_reducible apply mf_list | with_reducible apply mf_tuple | with_reducible apply mf_append | with_reducible apply mf_insert | with_reducible apply mf_pop | with_reducible apply mf_chr | with_reducible apply mf_sjoin | with_reducible apply mf_all | with_reducible apply mf_any | with_reducible apply mf_sum | with_reducible apply mf_min | with_reducible apply mo_fmt | with_reducible apply mo_mulis | with_reducible apply mf_divmod | with_reducible apply mf_abs | with_reducible apply mf_sindex | with_reducible apply mf_index | with_reducible apply mg_tupl | with_reducible apply m_isi | with_reducible apply mo_isint | with_reducible apply mo_islst | with_reducible apply mx_lift | with_reducible apply mx_bin | with_reducible apply mx_tup | with_reducible apply mxl_nil | with_reducible apply mxl_cons | with_reducible apply mox_item | with_reducible apply mox_sub | with_reducible apply mox_fmt | with_reducible apply m_l__law_figures_1
def f__law_figures : AF := aFn [2, 5] <|
    sCons (sAssign (gName 8) (aCall fAbs (lCons (aVar 2) (lNil)))) <|
    sCons (sAssign (gName 7) (aCst (.str []))) <|
    sCons (sWhile (tOr (tCmp .Gt (aVar 8) (aCst (.int 0))) (tOr (tCmp .Eq (aVar 7) (aCst (.str []))) (tFalse))) (l__law_figures_2)) <|
    sCons (sAssign (gName 6) (aIf (tCmp .Lt (aVar 2) (aCst (.int 0))) (aCst (.str [45])) (aCst (.str [])))) <|
    sCons (sWhile (tCmp .Lt (aBin opAdd (aCall fLen (lCons (aVar 6) (lNil))) (aCall fLen (lCons (aVar 7) (lNil)))) (aVar 5)) (l__law_figures_1)) <|
    sCons (sRet (aBin opAdd (aVar 6) (aVar 7))) <|
    sNil
theorem m_f__law_figures : MonoF f__law_figures := by
  unfold f__law_figures
  apply mf_fn
  repeat' first | with_reducible apply m_var | with_reducible apply m_cst | with_reducible apply ms_nil | with_reducible apply ms_cons | with_reducible apply ms_assign | with_reducible apply ms_ret | with_reducible apply ms_ret0 | with_reducible apply ms_cont | with_reducible apply ms_if | with_reducible apply ms_expr | with_reducible apply ms_aug | with_reducible apply ms_augsub | with_reducible apply ms_for | with_reducible apply ms_while | with_reducible apply m_bin | with_reducible apply m_un | with_reducible apply m_cmp | with_reducible apply mt_val | with_reducible apply mt_not | with_reducible apply mt_and | with_reducible apply mt_or | with_reducible apply mt_true | with_reducible apply mt_false | with_reducible apply mt_cmp | with_reducible apply mt_cmp2 | with_reducible apply m_not | with_reducible apply m_if | with_reducible apply m_and | with_reducible apply m_or | with_reducible apply ml_nil | with_reducible apply ml_cons | with_reducible apply m_tup | with_reducible apply m_list | with_reducible apply m_call | with_reducible apply m_meth | with_reducible apply m_slice | with_reducible apply m_comp | with_reducible apply m_comp2 | with_reducible apply mg_name | with_reducible apply mg_sub | with_reducible apply mg_tup | with_reducible apply MonoGs.nil | with_reducible apply MonoGs.cons | with_reducible apply mo_add | with_reducible apply mo_iadd | with_reducible apply mo_sub | with_reducible apply mo_mul | with_reducible apply mo_div | with_reducible apply mo_mod | with_reducible apply mo_neg | with_reducible apply mo_item | with_reducible apply mf_len | with_reducible apply mf_range | with_reducible apply mf_list | with_reducible apply mf_tuple | with_reducible apply mf_append | with_reducible apply mf_insert | with_reducible apply mf_pop | with_reducible apply mf_chr | with_reducible apply mf_sjoin | with_reducible apply mf_all | with_reducible apply mf_any | with_reducible apply mf_sum | with_reducible apply mf_min | with_reducible apply mo_fmt | with_reducible apply mo_mulis | with_reducible apply mf_divmod | with_reducible apply mf_abs | with_reducible apply mf_sindex | with_reducible apply mf_index | with_reducible apply mg_tupl | with_reducible apply m_isi | with_reducible apply mo_isint | with_reducible apply mo_islst | with_reducible apply mx_lift | with_reducible apply mx_bin | with_reducible apply mx_tup | with_reducible apply mxl_nil | with_reducible apply mxl_cons | with_reducible apply mox_item | with_reducible apply mox_sub | with_reducible apply mox_fmt | with_reducible apply m_l__law_figures_1 | with_reducible apply m_l__law_figures_2
theorem s__law_figures (c : Cx) (hd : fnRec prg 4 ∈ recsOf c.q) (b_abs : c.mg (Str.ofString "abs") = none) (b_divmod : c.mg (Str.ofString "divmod") = none) (b_len : c.mg (Str.ofString "len") = none) : SoundF (c.on NN NN_nodup) 1 (Str.ofString "_law_figures") f__law_figures :=
  sound_fn (c := c.on NN NN_nodup) (d := fnRec prg 4) (xs := [Str.ofString "number", Str.ofString "width"]) hd (
    @block_cons _ _ _ _ _ _ _ (@stmt_assign _ _ _ _ _ _ _ _ (sound_bi bi_abs rfl b_abs (by decide +kernel) (by decide +kernel) (@list_consP _ _ _ _ _ _ _ (sound_var rfl (hd := by decide) (hn := by decide)) (list_nil) rfl) (by decide +kernel) (hd := by decide) (he' := fun _ => rfl) (hp := fun _ => rfl)) (tgt_name rfl (.inl (by decide +kernel))) (fun _ _ => rfl) (fun _ _ => rfl) (fun _ => rfl)) <|
    @block_cons _ _ _ _ _ _ _ (@stmt_assign _ _ _ _ _ _ _ _ (sound_str (hx := rfl) (hy := rfl)) (tgt_name rfl (.inl (by decide +kernel))) (fun _ _ => rfl) (fun _ _ => rfl) (fun _ => rfl)) <|
    @block_cons _ _ _ _ _ _ _ (stmt_while (test_bool (or_cons (test_cmp (sound_var rfl (hd := by decide) (hn := by decide)) (sound_int) (hm := by with_unfolding_all rfl)) (or_cons (test_cmp (sound_var rfl (hd := by decide) (hn := by decide)) (sound_str (hx := rfl) (hy := rfl)) (hm := by with_unfolding_all rfl)) (or_nil)))) (@block_cons _ _ _ _ _ _ _ (@stmt_assign _ _ _ _ _ _ _ _ (sound_bi bi_divmod rfl b_divmod (by decide +kernel) (by decide +kernel) (@list_consP _ _ _ _ _ _ _ (sound_var rfl (hd := by decide) (hn := by decide)) (@list_consP _ _ _ _ _ _ _ (sound_int) (list_nil) rfl) rfl) (by decide +kernel) (hd := by decide) (he' := fun _ => rfl) (hp := fun _ => rfl)) (tgt_tup (.cons (tgt_name rfl (.inl (by decide +kernel))) (fun _ => rfl) (.cons (tgt_name rfl (.inl (by decide +kernel))) (fun _ => rfl) (.nil)))) (fun _ _ => rfl) (fun _ _ => rfl) (fun _ => rfl)) <|
    @block_cons _ _ _ _ _ _ _ (@stmt_assign _ _ _ _ _ _ _ _ (@sound_bin _ _ _ _ _ _ _ _ _ _ op_add (@sound_sub _ _ _ _ _ _ _ _ (sound_str (hx := rfl) (hy := rfl)) (sound_var rfl (hd := by decide) (hn := by decide))) (sound_var rfl (hd := by decide) (hn := by decide))) (tgt_name rfl (.inl (by decide +kernel))) (fun _ _ => rfl) (fun _ _ => rfl) (fun _ => rfl)) <|
    block_nil)) <|
    @block_cons _ _ _ _ _ _ _ (@stmt_assign _ _ _ _ _ _ _ _ (sound_if (test_cmp (sound_var rfl (hd := by decide) (hn := by decide)) (sound_int) (hm := by with_unfolding_all rfl)) (sound_str (hx := rfl) (hy := rfl)) (sound_str (hx := rfl) (hy := rfl))) (tgt_name rfl (.inl (by decide +kernel))) (fun _ _ => rfl) (fun _ _ => rfl) (fun _ => rfl)) <|
    @block_cons _ _ _ _ _ _ _ (stmt_while (test_cmp (@sound_bin _ _ _ _ _ _ _ _ _ _ op_add (sound_bi bi_len rfl b_len (by decide +kernel) (by decide +kernel) (@list_consP _ _ _ _ _ _ _ (sound_var rfl (hd := by decide) (hn := by decide)) (list_nil) rfl) (by decide +kernel) (hd := by decide) (he' := fun _ => rfl) (hp := fun _ => rfl)) (sound_bi bi_len rfl b_len (by decide +kernel) (by decide +kernel) (@list_consP _ _ _ _ _ _ _ (sound_var rfl (hd := by decide) (hn := by decide)) (list_nil) rfl) (by decide +kernel) (hd := by decide) (he' := fun _ => rfl) (hp := fun _ => rfl))) (sound_var rfl (hd := by decide) (hn := by decide)) (hm := by with_unfolding_all rfl)) (@block_cons _ _ _ _ _ _ _ (@stmt_assign _ _ _ _ _ _ _ _ (@sound_bin _ _ _ _ _ _ _ _ _ _ op_add (sound_str (hx := rfl) (hy := rfl)) (sound_var rfl (hd := by decide) (hn := by decide))) (tgt_name rfl (.inl (by decide +kernel))) (fun _ _ => rfl) (fun _ _ => rfl) (fun _ => rfl)) <|
    block_nil)) <|
    @block_cons _ _ _ _ _ _ _ (@stmt_ret _ _ _ _ _ _ (@sound_bin _ _ _ _ _ _ _ _ _ _ op_add (sound_var rfl (hd := by decide) (hn := by decide)) (sound_var rfl (hd := by decide) (hn := by decide)))) <|
    block_nil) rfl (by decide +kernel) (fun _ _ _ vs h => by obtain ⟨v0, v1, rfl⟩ := len2 h; rfl) (by decide +kernel) (hco := rfl) (hgen := rfl) (hk := rfl)
def f__law_kind : AF := aFn [10] <|
    sCons (sRet (aIf (tCmp .Is (aVar 10) (aCst .none)) (aCst (.str [78, 111, 110, 101, 84, 121, 112, 101])) (aCst (.str [115, 116, 114])))) <|
    sNil
theorem m_f__law_kind : MonoF f__law_kind := by
  unfold f__law_kind
  apply mf_fn
  repeat' first | with_reducible apply m_var | with_reducible apply m_cst | with_reducible apply ms_nil | with_reducible apply ms_cons | with_reducible apply ms_assign | with_reducible apply ms_ret | with_reducible apply ms_ret0 | with_reducible apply ms_cont | with_reducible apply ms_if | with_reducible apply ms_expr | with_reducible apply ms_aug | with_reducible apply ms_augsub | with_reducible apply ms_for | with_reducible apply ms_while | with_reducible apply m_bin | with_reducible apply m_un | with_reducible apply m_cmp | with_reducible apply mt_val | with_reducible apply mt_not | with_reducible apply mt_and | with_reducible apply mt_or | with_reducible apply mt_true | with_reducible apply mt_false | with_reducible apply mt_cmp | with_reducible apply mt_cmp2 | with_reducible apply m_not | with_reducible apply m_if | with_reducible apply m_and | with_reducible apply m_or | with_reducible apply ml_nil | with_reducible apply ml_cons | with_reducible apply m_tup | with_reducible apply m_list | with_reducible apply m_call | with_reducible apply m_meth | with_reducible apply m_slice | with_reducible apply m_comp | with_reducible apply m_comp2 | with_reducible apply mg_name | with_reducible apply mg_sub | with_reducible apply mg_tup | with_reducible apply MonoGs.nil | with_reducible apply MonoGs.cons | with_reducible apply mo_add | with_reducible apply mo_iadd | with_reducible apply mo_sub | with_reducible apply mo_mul | with_reducible apply mo_div | with_reducible apply mo_mod | with_reducible apply mo_neg | with_reducible apply mo_item | with_reducible apply mf_len | with_reducible apply mf_range | with_reducible apply mf_list | with_reducible apply mf_tuple | with_reducible apply mf_append | with_reducible apply mf_insert | with_reducible apply mf_pop | with_reducible apply mf_chr | with_reducible apply mf_sjoin | with_reducible apply mf_all | with_reducible apply mf_any | with_reducible apply mf_sum | with_reducible apply mf_min | with_reducible apply mo_fmt | with_reducible apply mo_mulis | with_reducible apply mf_divmod | with_reducible apply mf_abs | with_reducible apply mf_sindex | with_reducible apply mf_index | with_reducible apply mg_tupl | with_reducible apply m_isi | with_reducible apply mo_isint | with_reducible apply mo_islst | with_reducible apply mx_lift | with_reducible apply mx_bin | with_reducible apply mx_tup | with_reducible apply mxl_nil | with_reducible apply mxl_cons | with_reducible apply mox_item | with_reducible apply mox_sub | with_reducible apply mox_fmt
theorem s__law_kind (c : Cx) (hd : fnRec prg 5 ∈ recsOf c.q) : SoundF (c.on NN NN_nodup) 1 (Str.ofString "_law_kind") f__law_kind :=
  sound_fn (c := c.on NN NN_nodup) (d := fnRec prg 5) (xs := [Str.ofString "cell"]) hd (
    @block_cons _ _ _ _ _ _ _ (@stmt_ret _ _ _ _ _ _ (sound_if (test_cmp (sound_var rfl (hd := by decide) (hn := by decide)) (sound_none) (hm := by with_unfolding_all rfl)) (sound_str (hx := rfl) (hy := rfl)) (sound_str (hx := rfl) (hy := rfl)))) <|
    block_nil) rfl (by decide +kernel) (fun _ _ _ vs h => by obtain ⟨v0, rfl⟩ := len1 h; rfl) (by decide +kernel) (hco := rfl) (hgen := rfl) (hk := rfl)
def l__law_shown_1 : AS := sCons (sRet (aCall f__law_figures (lCons (aVar 1) (lCons (aCst (.int 1)) (lNil))))) <|
    sNil
theorem m_l__law_shown_1 : MonoS l__law_shown_1 := by
  unfold l__law_shown_1
  repeat' first | with_reducible apply m_var | with_reducible apply m_cst | with_reducible apply ms_nil | with_reducible apply ms_cons | with_reducible apply ms_assign | with_reducible apply ms_ret | with_reducible apply ms_ret0 | with_reducible apply ms_cont | with_reducible apply ms_if | with_reducible apply ms_expr | with_reducible apply ms_aug | with_reducible apply ms_augsub | with_reducible apply ms_for | with_reducible apply ms_while | with_reducible apply m_bin | with_reducible apply m_un | with_reducible apply m_cmp | with_reducible apply mt_val | with_reducible apply mt_not | with_reducible apply mt_and | with_reducible apply mt_or | with_reducible apply mt_true | with_reducible apply mt_false | with_reducible apply mt_cmp | with_reducible apply mt_cmp2 | with_reducible apply m_not | with_reducible apply m_if | with_reducible apply m_and | with_reducible apply m_or | with_reducible apply ml_nil | with_reducible apply ml_cons | with_reducible apply m_tup | with_reducible apply m_list | with_reducible apply m_call | with_reducible apply m_meth | with_reducible apply m_slice | with_reducible apply m_comp | with_reducible apply m_comp2 | with_reducible apply mg_name | with_reducible apply mg_sub | with_reducible apply mg_tup | with_reducible apply MonoGs.nil | with_reducible apply MonoGs.cons | with_reducible apply mo_add | with_reducible apply mo_iadd | with_reducible apply mo_sub | with_reducible apply mo_mul | with_reducible apply mo_div | with_reducible apply mo_mod | with_reducible apply mo_neg | with_reducible apply mo_item | with_reducible apply mf_len | with_reducible apply mf_range | with_reducible apply mf_list | with_reducible apply mf_tuple | with_reducible apply mf_append | with_reducible apply mf_insert | with_reducible apply mf_pop | with_reducible apply mf_chr | with_reducible apply mf_sjoin | with_reducible apply mf_all | with_reducible apply mf_any | with_reducible apply mf_sum | with_reducible apply mf_min | with_reducible apply mo_fmt | with_reducible apply mo_mulis | with_reducible apply mf_divmod | with_reducible apply mf_abs | with_reducible apply mf_sindex | with_reducible apply mf_index | with_reducible apply mg_tupl | with_reducible apply m_isi | with_reducible apply mo_isint | with_reducible apply mo_islst | with_reducible apply mx_lift | with_reducible apply mx_bin | with_reducible apply mx_tup | with_reducible apply mxl_nil | with_reducible apply mxl_cons | with_reducible apply mox_item | with_reducible apply mox_sub | with_reducible apply mox_fmt | with_reducible apply m_f__law_figures
def l__law_shown_2 : AS := sCons (sRet (aCst (.str [78, 111, 110, 101]))) <|
    sNil
theorem m_l__law_shown_2 : MonoS l__law_shown_2 := by
  unfold l__law_shown_2
  repeat' first | with_reducible apply m_var | with_reducible apply m_cst | with_reducible apply ms_nil | with_reducible apply ms_cons | with_reducible apply ms_assign | with_reducible apply ms_ret | with_reducible apply ms_ret0 | with_reducible apply ms_cont | with_reducible apply ms_if | with_reducible apply ms_expr | with_reducible apply ms_aug | with_reducible apply ms_augsub | with_reducible apply ms_for | with_reducible apply ms_while | with_reducible apply m_bin | with_reducible apply m_un | with_reducible apply m_cmp | with_reducible apply mt_val | with_reducible apply mt_not | with_reducible apply mt_and | with_reducible apply mt_or | with_reducible apply mt_true | with_reducible apply mt_false | with_reducible apply mt_cmp | with_reducible apply mt_cmp2 | with_reducible apply m_not | with_reducible apply m_if | with_reducible apply m_and | with_reducible apply m_or | with_reducible apply ml_nil | with_reducible apply ml_cons | with_reducible apply m_tup | with_reducible apply m_list | with_reducible apply m_call | with_reducible apply m_meth | with_reducible apply m_slice | with_reducible apply m_comp | with_reducible apply m_comp2 | with_reducible apply mg_name | with_reducible apply mg_sub | with_reducible apply mg_tup | with_reducible apply MonoGs.nil | with_reducible apply MonoGs.cons | with_reducible apply mo_add | with_reducible apply mo_iadd | with_reducible apply mo_sub | with_reducible apply mo_mul | with_reducible apply mo_div | with_reducible apply mo_mod | with_reducible apply mo_neg | with_reducible apply mo_item | with_reducible apply mf_len | with_reducible apply mf_range | with_reducible apply mf_list | with_reducible apply mf_tuple | with_reducible apply mf_append | with_reducible apply mf_insert | with_reducible apply mf_pop | with_reducible apply mf_chr | with_reducible apply mf_sjoin | with_reducible apply mf_all | with_reducible apply mf_any | with_reducible apply mf_sum | with_reducible apply mf_min | with_reducible apply mo_fmt | with_reducible apply mo_mulis | with_reducible apply mf_divmod | with_reducible apply mf_abs | with_reducible apply mf_sindex | with_reducible apply mf_index | with_reducible apply mg_tupl | with_reducible apply m_isi | with_reducible apply mo_isint | with_reducible apply mo_islst | with_reducible apply mx_lift | with_reducible apply mx_bin | with_reducible apply mx_tup | with_reducible apply mxl_nil | with_reducible apply mxl_cons | with_reducible apply mox_item | with_reducible apply mox_sub | with_reducible apply mox_fmt | with_reducible apply m_f__law_figures | with_reducible apply m_l__law_shown_1
def f__law_shown : AF := aFn [1] <|
    sCons (sIf (tCmp .Is (aVar 1) (aCst .none)) (l__law_shown_2) (sNil)) <|
    sCons (sIf (tVal (aIsi isInt (aVar 1))) (l__law_shown_1) (sNil)) <|
    sCons (sRet (aVar 1)) <|
    sNil
theorem m_f__law_shown : MonoF f__law_shown := by
  unfold f__law_shown
  apply mf_fn
  repeat' first | with_reducible apply m_var | with_reducible apply m_cst | with_reducible apply ms_nil | with_reducible apply ms_cons | with_reducible apply ms_assign | with_reducible apply ms_ret | with_reducible apply ms_ret0 | with_reducible apply ms_cont | with_reducible apply ms_if | with_reducible apply ms_expr | with_reducible apply ms_aug | with_reducible apply ms_augsub | with_reducible apply ms_for | with_reducible apply ms_while | with_reducible apply m_bin | with_reducible apply m_un | with_reducible apply m_cmp | with_reducible apply mt_val | with_reducible apply mt_not | with_reducible apply mt_and | with_reducible apply mt_or | with_reducible apply mt_true | with_reducible apply mt_false | with_reducible apply mt_cmp | with_reducible apply mt_cmp2 | with_reducible apply m_not | with_reducible apply m_if | with_reducible apply m_and | with_reducible apply m_or | with_reducible apply ml_nil | with_reducible apply ml_cons | with_reducible apply m_tup | with_reducible apply m_list | with_reducible apply m_call | with_reducible apply m_meth | with_reducible apply m_slice | with_reducible apply m_comp | with_reducible apply m_comp2 | with_reducible apply mg_name | with_reducible apply mg_sub | with_reducible apply mg_tup | with_reducible apply MonoGs.nil | with_reducible apply MonoGs.cons | with_reducible apply mo_add | with_reducible apply mo_iadd | with_reducible apply mo_sub | with_reducible apply mo_mul | with_reducible apply mo_div | with_reducible apply mo_mod | with_reducible apply mo_neg | with_reducible apply mo_item | with_reducible apply mf_len | with_reducible apply mf_range | with_reducible apply mf_list | with_reducible apply mf_tuple | with_reducible apply mf_append | with_reducible apply mf_insert | with_reducible apply mf_pop | with_reducible apply mf_chr | with_reducible apply mf_sjoin | with_reducible apply mf_all | with_reducible apply mf_any | with_reducible apply mf_sum | with_reducible apply mf_min | with_reducible apply mo_fmt | with_reducible apply mo_mulis | with_reducible apply mf_divmod | with_reducible apply mf_abs | with_reducible apply mf_sindex | with_reducible apply mf_index | with_reducible apply mg_tupl | with_reducible apply m_isi | with_reducible apply mo_isint | with_reducible apply mo_islst | with_reducible apply mx_lift | with_reducible apply mx_bin | with_reducible apply mx_tup | with_reducible apply mxl_nil | with_reducible apply mxl_cons | with_reducible apply mox_item | with_reducible apply mox_sub | with_reducible apply mox_fmt | with_reducible apply m_f__law_figures | with_reducible apply m_l__law_shown_1 | with_reducible apply m_l__law_shown_2
theorem s__law_shown (c : Cx) (hd : fnRec prg 6 ∈ recsOf c.q) (h__law_figures : SoundF (c.on NN NN_nodup) 1 (Str.ofString "_law_figures") f__law_figures) (b_int : c.mg (Str.ofString "int") = none) (b_isinstance : c.mg (Str.ofString "isinstance") = none) : SoundF (c.on NN NN_nodup) 2 (Str.ofString "_law_shown") f__law_shown :=
  sound_fn (c := c.on NN NN_nodup) (d := fnRec prg 6) (xs := [Str.ofString "zone"]) hd (
    @block_cons _ _ _ _ _ _ _ (stmt_if (test_cmp (sound_var rfl (hd := by decide) (hn := by decide)) (sound_none) (hm := by with_unfolding_all rfl)) (@block_cons _ _ _ _ _ _ _ (@stmt_ret _ _ _ _ _ _ (sound_str (hx := rfl) (hy := rfl))) <|
    block_nil) (block_nil)) <|
    @block_cons _ _ _ _ _ _ _ (stmt_if (test_val (sound_isi isi_int (sound_var rfl (hd := by decide) (hn := by decide)) rfl b_isinstance b_int (by decide +kernel) (by decide +kernel) (by decide +kernel) (by decide +kernel) (by decide +kernel)) (hv := fun _ _ => rfl)) (@block_cons _ _ _ _ _ _ _ (@stmt_ret _ _ _ _ _ _ (sound_call h__law_figures (@list_consP _ _ _ _ _ _ _ (sound_var rfl (hd := by decide) (hn := by decide)) (@list_consP _ _ _ _ _ _ _ (sound_int) (list_nil) rfl) rfl) (by decide +kernel) (by decide) (hd := by decide) (he' := fun _ => rfl))) <|
    block_nil) (block_nil)) <|
    @block_cons _ _ _ _ _ _ _ (@stmt_ret _ _ _ _ _ _ (sound_var rfl (hd := by decide) (hn := by decide))) <|
    block_nil) rfl (by decide +kernel) (fun _ _ _ vs h => by obtain ⟨v0, rfl⟩ := len1 h; rfl) (by decide +kernel) (hco := rfl) (hgen := rfl) (hk := rfl)
def l__law_wanted_1 : AS := sCons (sRet (aTup (lCons (aCst (.str [84, 121, 112, 101, 69, 114, 114, 111, 114])) (lCons (aBin opAdd (aCst (.str [37, 100, 32, 102, 111, 114, 109, 97, 116, 58, 32, 97, 32, 114, 101, 97, 108, 32, 110, 117, 109, 98, 101, 114, 32, 105, 115, 32, 114, 101, 113, 117, 105, 114, 101, 100, 44, 32, 110, 111, 116, 32])) (aCall f__law_kind (lCons (aVar 10) (lNil)))) (lNil))))) <|
    sNil
theorem m_l__law_wanted_1 : MonoS l__law_wanted_1 := by
  unfold l__law_wanted_1
  repeat' first | with_reducible apply m_var | with_reducible apply m_cst | with_reducible apply ms_nil | with_reducible apply ms_cons | with_reducible apply ms_assign | with_reducible apply ms_ret | with_reducible apply ms_ret0 | with_reducible apply ms_cont | with_reducible apply ms_if | with_reducible apply ms_expr | with_reducible apply ms_aug | with_reducible apply ms_augsub | with_reducible apply ms_for | with_reducible apply ms_while | with_reducible apply m_bin | with_reducible apply m_un | with_reducible apply m_cmp | with_reducible apply mt_val | with_reducible apply mt_not | with_reducible apply mt_and | with_reducible apply mt_or | with_reducible apply mt_true | with_reducible apply mt_false | with_reducible apply mt_cmp | with_reducible apply mt_cmp2 | with_reducible apply m_not | with_reducible apply m_if | with_reducible apply m_and | with_reducible apply m_or | with_reducible apply ml_nil | with_reducible apply ml_cons | with_reducible apply m_tup | with_reducible apply m_list | with_reducible apply m_call | with_reducible apply m_meth | with_reducible apply m_slice | with_reducible apply m_comp | with_reducible apply m_comp2 | with_reducible apply mg_name | with_reducible apply mg_sub | with_reducible apply mg_tup | with_reducible apply MonoGs.nil | with_reducible apply MonoGs.cons | with_reducible apply mo_add | with_reducible apply mo_iadd | with_reducible apply mo_sub | with_reducible apply mo_mul | with_reducible apply mo_div | with_reducible apply mo_mod | with_reducible apply mo_neg | with_reducible apply mo_item | with_reducible apply mf_len | with_reducible apply mf_range | with_reducible apply mf_list | with_reducible apply mf_tuple | with_reducible apply mf_append | with_reducible apply mf_insert | with_reducible apply mf_pop | with_reducible apply mf_chr | with_reducible apply mf_sjoin | with_reducible apply mf_all | with_reducible apply mf_any | with_reducible apply mf_sum | with_reducible apply mf_min | with_reducible apply mo_fmt | with_reducible apply mo_mulis | with_reducible apply mf_divmod | with_reducible apply mf_abs | with_reducible apply mf_sindex | with_reducible apply mf_index | with_reducible apply mg_tupl | with_reducible apply m_isi | with_reducible apply mo_isint | with_reducible apply mo_islst | with_reducible apply mx_lift | with_reducible apply mx_bin | with_reducible apply mx_tup | with_reducible apply mxl_nil | with_reducible apply mxl_cons | with_reducible apply mox_item | with_reducible apply mox_sub | with_reducible apply mox_fmt | with_reducible apply m_f__law_figures | with_reducible apply m_f__law_kind | with_reducible apply m_f__law_shown
def l__law_wanted_2 : AS := sCons (sIf (tNot (tVal (aIsi isInt (aVar 10)))) (l__law_wanted_1) (sNil)) <|
    sNil
theorem m_l__law_wanted_2 : MonoS l__law_wanted_2 := by
  unfold l__law_wanted_2
  repeat' first | with_reducible apply m_var | with_reducible apply m_cst | with_reducible apply ms_nil | with_reducible apply ms_cons | with_reducible apply ms_assign | with_reducible apply ms_ret | with_reducible apply ms_ret0 | with_reducible apply ms_cont | with_reducible apply ms_if | with_reducible apply ms_expr | with_reducible apply ms_aug | with_reducible apply ms_augsub | with_reducible apply ms_for | with_reducible apply ms_while | with_reducible apply m_bin | with_reducible apply m_un | with_reducible apply m_cmp | with_reducible apply mt_val | with_reducible apply mt_not | with_reducible apply mt_and | with_reducible apply mt_or | with_reducible apply mt_true | with_reducible apply mt_false | with_reducible apply mt_cmp | with_reducible apply mt_cmp2 | with_reducible apply m_not | with_reducible apply m_if | with_reducible apply m_and | with_reducible apply m_or | with_reducible apply ml_nil | with_reducible apply ml_cons | with_reducible apply m_tup | with_reducible apply m_list | with_reducible apply m_call | with_reducible apply m_meth | with_reducible apply m_slice | with_reducible apply m_comp | with_reducible apply m_comp2 | with_reducible apply mg_name | with_reducible apply mg_sub | with_reducible apply mg_tup | with_reducible apply MonoGs.nil | with_reducible apply MonoGs.cons | with_reducible apply mo_add | with_reducible apply mo_iadd | with_reducible apply mo_sub | with_reducible apply mo_mul | with_reducible apply mo_div | with_reducible apply mo_mod | with_reducible apply mo_neg | with_reducible apply mo_item | with_reducible apply mf_len | with_reducible apply mf_range | with_reducible apply mf_list | with_reducible apply mf_tuple | with_reducible apply mf_append | with_reducible apply mf_insert | with_reducible apply mf_pop | with_reducible apply mf_chr | with_reducible apply mf_sjoin | with_reducible apply mf_all | with_reducible apply mf_any | with_reducible apply mf_sum | with_reducible apply mf_min | with_reducible apply mo_fmt | with_reducible apply mo_mulis | with_reducible apply mf_divmod | with_reducible apply mf_abs | with_reducible apply mf_sindex | with_reducible apply mf_index | with_reducible apply mg_tupl | with_reducible apply m_isi | with_reducible apply mo_isint | with_reducible apply mo_islst | with_reducible apply mx_lift | with_reducible apply mx_bin | with_reducible apply mx_tup | with_reducible apply mxl_nil | with_reducible apply mxl_cons | with_reducible apply mox_item | with_reducible apply mox_sub | with_reducible apply mox_fmt | with_reducible apply m_f__law_figures | with_reducible apply m_f__law_kind | with_reducible apply m_f__law_shown | with_reducible apply m_l__law_wanted_1
def l__law_wanted_3 : AS := sCons (sRet (aTup (lCons (aCst (.str [73, 110, 100, 101, 120, 69, 114, 114, 111, 114])) (lCons (aCst (.str [108, 105, 115, 116, 32, 105, 110, 100, 101, 120, 32, 111, 117, 116, 32, 111, 102, 32, 114, 97, 110, 103, 101])) (lNil))))) <|
    sNil
theorem m_l__law_wanted_3 : MonoS l__law_wanted_3 := by
  unfold l__law_wanted_3
  repeat' first | with_reducible apply m_var | with_reducible apply m_cst | with_reducible apply ms_nil | with_reducible apply ms_cons | with_reducible apply ms_assign | with_reducible apply ms_ret | with_reducible apply ms_ret0 | with_reducible apply ms_cont | with_reducible apply ms_if | with_reducible apply ms_expr | with_reducible apply ms_aug | with_reducible apply ms_augsub | with_reducible apply ms_for | with_reducible apply ms_while | with_reducible apply m_bin | with_reducible apply m_un | with_reducible apply m_cmp | with_reducible apply mt_val | with_reducible apply mt_not | with_reducible apply mt_and | with_reducible apply mt_or | with_reducible apply mt_true | with_reducible apply mt_false | with_reducible apply mt_cmp | with_reducible apply mt_cmp2 | with_reducible apply m_not | with_reducible apply m_if | with_reducible apply m_and | with_reducible apply m_or | with_reducible apply ml_nil | with_reducible apply ml_cons | with_reducible apply m_tup | with_reducible apply m_list | with_reducible apply m_call | with_reducible apply m_meth | with_reducible apply m_slice | with_reducible apply m_comp | with_reducible apply m_comp2 | with_reducible apply mg_name | with_reducible apply mg_sub | with_reducible apply mg_tup | with_reducible apply MonoGs.nil | with_reducible apply MonoGs.cons | with_reducible apply mo_add | with_reducible apply mo_iadd | with_reducible apply mo_sub | with_reducible apply mo_mul | with_reducible apply mo_div | with_reducible apply mo_mod | with_reducible apply mo_neg | with_reducible apply mo_item | with_reducible apply mf_len | with_reducible apply mf_range | with_reducible apply mf_list | with_reducible apply mf_tuple | with_reducible apply mf_append | with_reducible apply mf_insert | with_reducible apply mf_pop | with_reducible apply mf_chr | with_reducible apply mf_sjoin | with_reducible apply mf_all | with_reducible apply mf_any | with_reducible apply mf_sum | with_reducible apply mf_min | with_reducible apply mo_fmt | with_reducible apply mo_mulis | with_reducible apply mf_divmod | with_reducible apply mf_abs | with_reducible apply mf_sindex | with_reducible apply mf_index | with_reducible apply mg_tupl | with_reducible apply m_isi | with_reducible apply mo_isint | with_reducible apply mo_islst | with_reducible apply mx_lift | with_reducible apply mx_bin | with_reducible apply mx_tup | with_reducible apply mxl_nil | with_reducible apply mxl_cons | with_reducible apply mox_item | with_reducible apply mox_sub | with_reducible apply mox_fmt | with_reducible apply m_f__law_figures | with_reducible apply m_f__law_kind | with_reducible apply m_f__law_shown | with_reducible apply m_l__law_wanted_1 | with_reducible apply m_l__law_wanted_2
def l__law_wanted_4 : AS := sCons (sRet (aTup (lCons (aCst (.str [84, 121, 112, 101, 69, 114, 114, 111, 114])) (lCons (aBin opAdd (aBin opAdd (aCst (.str [117, 110, 115, 117, 112, 112, 111, 114, 116, 101, 100, 32, 111, 112, 101, 114, 97, 110, 100, 32, 116, 121, 112, 101, 40, 115, 41, 32, 102, 111, 114, 32, 45, 58, 32, 39])) (aCall f__law_kind (lCons (aVar 14) (lNil)))) (aCst (.str [39, 32, 97, 110, 100, 32, 39, 105, 110, 116, 39]))) (lNil))))) <|
    sNil
theorem m_l__law_wanted_4 : MonoS l__law_wanted_4 := by
  unfold l__law_wanted_4
  repeat' first | with_reducible apply m_var | with_reducible apply m_cst | with_reducible apply ms_nil | with_reducible apply ms_cons | with_reducible apply ms_assign | with_reducible apply ms_ret | with_reducible apply ms_ret0 | with_reducible apply ms_cont | with_reducible apply ms_if | with_reducible apply ms_expr | with_reducible apply ms_aug | with_reducible apply ms_augsub | with_reducible apply ms_for | with_reducible apply ms_while | with_reducible apply m_bin | with_reducible apply m_un | with_reducible apply m_cmp | with_reducible apply mt_val | with_reducible apply mt_not | with_reducible apply mt_and | with_reducible apply mt_or | with_reducible apply mt_true | with_reducible apply mt_false | with_reducible apply mt_cmp | with_reducible apply mt_cmp2 | with_reducible apply m_not | with_reducible apply m_if | with_reducible apply m_and | with_reducible apply m_or | with_reducible apply ml_nil | with_reducible apply ml_cons | with_reducible apply m_tup | with_reducible apply m_list | with_reducible apply m_call | with_reducible apply m_meth | with_reducible apply m_slice | with_reducible apply m_comp | with_reducible apply m_comp2 | with_reducible apply mg_name | with_reducible apply mg_sub | with_reducible apply mg_tup | with_reducible apply MonoGs.nil | with_reducible apply MonoGs.cons | with_reducible apply mo_add | with_reducible apply mo_iadd | with_reducible apply mo_sub | with_reducible apply mo_mul | with_reducible apply mo_div | with_reducible apply mo_mod | with_reducible apply mo_neg | with_reducible apply mo_item | with_reducible apply mf_len | with_reducible apply mf_range | with_reducible apply mf_list | with_reducible apply mf_tuple | with_reducible apply mf_append | with_reducible apply mf_insert | with_reducible apply mf_pop | with_reducible apply mf_chr | with_reducible apply mf_sjoin | with_reducible apply mf_all | with_reducible apply mf_any | with_reducible apply mf_sum | with_reducible apply mf_min | with_reducible apply mo_fmt | with_reducible apply mo_mulis | with_reducible apply mf_divmod | with_reducible apply mf_abs | with_reducible apply mf_sindex | with_reducible apply mf_index | with_reducible apply mg_tupl | with_reducible apply m_isi | with_reducible apply mo_isint | with_reducible apply mo_islst | with_reducible apply mx_lift | with_reducible apply mx_bin | with_reducible apply mx_tup | with_reducible apply mxl_nil | with_reducible apply mxl_cons | with_reducible apply mox_item | with_reducible apply mox_sub | with_reducible apply mox_fmt | with_reducible apply m_f__law_figures | with_reducible apply m_f__law_kind | with_reducible apply m_f__law_shown | with_reducible apply m_l__law_wanted_1 | with_reducible apply m_l__law_wanted_2 | with_reducible apply m_l__law_wanted_3
def l__law_wanted_5 : AS := sCons (sRet (aTup (lCons (aCst (.str [73, 110, 100, 101, 120, 69, 114, 114, 111, 114])) (lCons (aCst (.str [108, 105, 115, 116, 32, 105, 110, 100, 101, 120, 32, 111, 117, 116, 32, 111, 102, 32, 114, 97, 110, 103, 101])) (lNil))))) <|
    sNil
theorem m_l__law_wanted_5 : MonoS l__law_wanted_5 := by
  unfold l__law_wanted_5
  repeat' first | with_reducible apply m_var | with_reducible apply m_cst | with_reducible apply ms_nil | with_reducible apply ms_cons | with_reducible apply ms_assign | with_reducible apply ms_ret | with_reducible apply ms_ret0 | with_reducible apply ms_cont | with_reducible apply ms_if | with_reducible apply ms_expr | with_reducible apply ms_aug | with_reducible apply ms_augsub | with_reducible apply ms_for | with_reducible apply ms_while | with_reducible apply m_bin | with_reducible apply m_un | with_reducible apply m_cmp | with_reducible apply mt_val | with_reducible apply mt_not | with_reducible apply mt_and | with_reducible apply mt_or | with_reducible apply mt_true | with_reducible apply mt_false | with_reducible apply mt_cmp | with_reducible apply mt_cmp2 | with_reducible apply m_not | with_reducible apply m_if | with_reducible apply m_and | with_reducible apply m_or | with_reducible apply ml_nil | with_reducible apply ml_cons | with_reducible apply m_tup | with_reducible apply m_list | with_reducible apply m_call | with_reducible apply m_meth | with_reducible apply m_slice | with_reducible apply m_comp | with_reducible apply m_comp2 | with_reducible apply mg_name | with_reducible apply mg_sub | with_reducible apply mg_tup | with_reducible apply MonoGs.nil | with_reducible apply MonoGs.cons | with_reducible apply mo_add | with_reducible apply mo_iadd | with_reducible apply mo_sub | with_reducible apply mo_mul | with_reducible apply mo_div | with_reducible apply mo_mod | with_reducible apply mo_neg | with_reducible apply mo_item | with_reducible apply mf_len | with_reducible apply mf_range | with_reducible apply mf_list | with_reducible apply mf_tuple | with_reducible apply mf_append | with_reducible apply mf_insert | with_reducible apply mf_pop | with_reducible apply mf_chr | with_reducible apply mf_sjoin | with_reducible apply mf_all | with_reducible apply mf_any | with_reducible apply mf_sum | with_reducible apply mf_min | with_reducible apply mo_fmt | with_reducible apply mo_mulis | with_reducible apply mf_divmod | with_reducible apply mf_abs | with_reducible apply mf_sindex | with_reducible apply mf_index | with_reducible apply mg_tupl | with_reducible apply m_isi | with_reducible apply mo_isint | with_reducible apply mo_islst | with_reducible apply mx_lift | with_reducible apply mx_bin | with_reducible apply mx_tup | with_reducible apply mxl_nil | with_reducible apply mxl_cons | with_reducible apply mox_item | with_reducible apply mox_sub | with_reducible apply mox_fmt | with_reducible apply m_f__law_figures | with_reducible apply m_f__law_kind | with_reducible apply m_f__law_shown | with_reducible apply m_l__law_wanted_1 | with_reducible apply m_l__law_wanted_2 | with_reducible apply m_l__law_wanted_3 | with_reducible apply m_l__law_wanted_4
def l__law_wanted_6 : AS := sCons (sRet (aTup (lCons (aCst (.str [84, 121, 112, 101, 69, 114, 114, 111, 114])) (lCons (aBin opAdd (aCst (.str [108, 105, 115, 116, 32, 105, 110, 100, 105, 99, 101, 115, 32, 109, 117, 115, 116, 32, 98, 101, 32, 105, 110, 116, 101, 103, 101, 114, 115, 32, 111, 114, 32, 115, 108, 105, 99, 101, 115, 44, 32, 110, 111, 116, 32])) (aCall f__law_kind (lCons (aVar 15) (lNil)))) (lNil))))) <|
    sNil
theorem m_l__law_wanted_6 : MonoS l__law_wanted_6 := by
  unfold l__law_wanted_6
  repeat' first | with_reducible apply m_var | with_reducible apply m_cst | with_reducible apply ms_nil | with_reducible apply ms_cons | with_reducible apply ms_assign | with_reducible apply ms_ret | with_reducible apply ms_ret0 | with_reducible apply ms_cont | with_reducible apply ms_if | with_reducible apply ms_expr | with_reducible apply ms_aug | with_reducible apply ms_augsub | with_reducible apply ms_for | with_reducible apply ms_while | with_reducible apply m_bin | with_reducible apply m_un | with_reducible apply m_cmp | with_reducible apply mt_val | with_reducible apply mt_not | with_reducible apply mt_and | with_reducible apply mt_or | with_reducible apply mt_true | with_reducible apply mt_false | with_reducible apply mt_cmp | with_reducible apply mt_cmp2 | with_reducible apply m_not | with_reducible apply m_if | with_reducible apply m_and | with_reducible apply m_or | with_reducible apply ml_nil | with_reducible apply ml_cons | with_reducible apply m_tup | with_reducible apply m_list | with_reducible apply m_call | with_reducible apply m_meth | with_reducible apply m_slice | with_reducible apply m_comp | with_reducible apply m_comp2 | with_reducible apply mg_name | with_reducible apply mg_sub | with_reducible apply mg_tup | with_reducible apply MonoGs.nil | with_reducible apply MonoGs.cons | with_reducible apply mo_add | with_reducible apply mo_iadd | with_reducible apply mo_sub | with_reducible apply mo_mul | with_reducible apply mo_div | with_reducible apply mo_mod | with_reducible apply mo_neg | with_reducible apply mo_item | with_reducible apply mf_len | with_reducible apply mf_range | with_reducible apply mf_list | with_reducible apply mf_tuple | with_reducible apply mf_append | with_reducible apply mf_insert | with_reducible apply mf_pop | with_reducible apply mf_chr | with_reducible apply mf_sjoin | with_reducible apply mf_all | with_reducible apply mf_any | with_reducible apply mf_sum | with_reducible apply mf_min | with_reducible apply mo_fmt | with_reducible apply mo_mulis | with_reducible apply mf_divmod | with_reducible apply mf_abs | with_reducible apply mf_sindex | with_reducible apply mf_index | with_reducible apply mg_tupl | with_reducible apply m_isi | with_reducible apply mo_isint | with_reducible apply mo_islst | with_reducible apply mx_lift | with_reducible apply mx_bin | with_reducible apply mx_tup | with_reducible apply mxl_nil | with_reducible apply mxl_cons | with_reducible apply mox_item | with_reducible apply mox_sub | with_reducible apply mox_fmt | with_reducible apply m_f__law_figures | with_reducible apply m_f__law_kind | with_reducible apply m_f__law_shown | with_reducible apply m_l__law_wanted_1 | with_reducible apply m_l__law_wanted_2 | with_reducible apply m_l__law_wanted_3 | with_reducible apply m_l__law_wanted_4 | with_reducible apply m_l__law_wanted_5
def l__law_wanted_7 : AS := sCons (sAssign (gName 16) (aIf (tVal (aIsi isLst (aVar 11))) (aCst (.str [108, 105, 115, 116])) (aCst (.str [116, 117, 112, 108, 101])))) <|
    sCons (sRet (aTup (lCons (aCst (.str [73, 110, 100, 101, 120, 69, 114, 114, 111, 114])) (lCons (aBin opAdd (aVar 16) (aCst (.str [32, 105, 110, 100, 101, 120, 32, 111, 117, 116, 32, 111, 102, 32, 114, 97, 110, 103, 101]))) (lNil))))) <|
    sNil
theorem m_l__law_wanted_7 : MonoS l__law_wanted_7 := by
  unfold l__law_wanted_7
  repeat' first | with_reducible apply m_var | with_reducible apply m_cst | with_reducible apply ms_nil | with_reducible apply ms_cons | with_reducible apply ms_assign | with_reducible apply ms_ret | with_reducible apply ms_ret0 | with_reducible apply ms_cont | with_reducible apply ms_if | with_reducible apply ms_expr | with_reducible apply ms_aug | with_reducible apply ms_augsub | with_reducible apply ms_for | with_reducible apply ms_while | with_reducible apply m_bin | with_reducible apply m_un | with_reducible apply m_cmp | with_reducible apply mt_val | with_reducible apply mt_not | with_reducible apply mt_and | with_reducible apply mt_or | with_reducible apply mt_true | with_reducible apply mt_false | with_reducible apply mt_cmp | with_reducible apply mt_cmp2 | with_reducible apply m_not | with_reducible apply m_if | with_reducible apply m_and | with_reducible apply m_or | with_reducible apply ml_nil | with_reducible apply ml_cons | with_reducible apply m_tup | with_reducible apply m_list | with_reducible apply m_call | with_reducible apply m_meth | with_reducible apply m_slice | with_reducible apply m_comp | with_reducible apply m_comp2 | with_reducible apply mg_name | with_reducible apply mg_sub | with_reducible apply mg_tup | with_reducible apply MonoGs.nil | with_reducible apply MonoGs.cons | with_reducible apply mo_add | with_reducible apply mo_iadd | with_reducible apply mo_sub | with_reducible apply mo_mul | with_reducible apply mo_div | with_reducible apply mo_mod | with_reducible apply mo_neg | with_reducible apply mo_item | with_reducible apply mf_len | with_reducible apply mf_range | with_reducible apply mf_list | with_reducible apply mf_tuple | with_reducible apply mf_append | with_reducible apply mf_insert | with_reducible apply mf_pop | with_reducible apply mf_chr | with_reducible apply mf_sjoin | with_reducible apply mf_all | with_reducible apply mf_any | with_reducible apply mf_sum | with_reducible apply mf_min | with_reducible apply mo_fmt | with_reducible apply mo_mulis | with_reducible apply mf_divmod | with_reducible apply mf_abs | with_reducible apply mf_sindex | with_reducible apply mf_index | with_reducible apply mg_tupl | with_reducible apply m_isi | with_reducible apply mo_isint | with_reducible apply mo_islst | with_reducible apply mx_lift | with_reducible apply mx_bin | with_reducible apply mx_tup | with_reducible apply mxl_nil | with_reducible apply mxl_cons | with_reducible apply mox_item | with_reducible apply mox_sub | with_reducible apply mox_fmt | with_reducible apply m_f__law_figures | with_reducible apply m_f__law_kind | with_reducible apply m_f__law_shown | with_reducible apply m_l__law_wanted_1 | with_reducible apply m_l__law_wanted_2 | with_reducible apply m_l__law_wanted_3 | with_reducible apply m_l__law_wanted_4 | with_reducible apply m_l__law_wanted_5 | with_reducible apply m_l__law_wanted_6
def f__law_wanted : AF := aFn [11, 1] <|
    sCons (sIf (tCmp .Lt (aCall fLen (lCons (aVar 11) (lNil))) (aCst (.int 7))) (l__law_wanted_7) (sNil)) <|
    sCons (sAssign (gName 15) (aBin opItem (aVar 11) (aCst (.int 6)))) <|
    sCons (sAssign (gName 14) (aBin opItem (aVar 11) (aCst (.int 1)))) <|
    sCons (sIf (tNot (tVal (aIsi isInt (aVar 15)))) (l__law_wanted_6) (sNil)) <|
    sCons (sIf (tOr (tCmp .Lt (aVar 15) (aUn opNeg (aCst (.int 7)))) (tOr (tCmp .Gt (aVar 15) (aCst (.int 6))) (tFalse))) (l__law_wanted_5) (sNil)) <|
    sCons (sIf (tNot (tVal (aIsi isInt (aVar 14)))) (l__law_wanted_4) (sNil)) <|
    sCons (sIf (tOr (tCmp .Lt (aVar 14) (aUn opNeg (aCst (.int 11)))) (tOr (tCmp .Gt (aVar 14) (aCst (.int 12))) (tFalse))) (l__law_wanted_3) (sNil)) <|
    sCons (sFor (gName 10) (aList (lCons (aBin opItem (aVar 11) (aCst (.int 2))) (lCons (aBin opItem (aVar 11) (aCst (.int 0))) (lCons (aBin opItem (aVar 11) (aCst (.int 3))) (lCons (aBin opItem (aVar 11) (aCst (.int 4))) (lCons (aBin opItem (aVar 11) (aCst (.int 5))) (lNil))))))) (l__law_wanted_2)) <|
    sCons (sAssign (gName 13) (aBin opMul (aBin opMod (aVar 15) (aCst (.int 7))) (aCst (.int 3)))) <|
    sCons (sAssign (gName 12) (aBin opAdd (aBin opAdd (aSlice (aCst (.str [77, 111, 110, 84, 117, 101, 87, 101, 100, 84, 104, 117, 70, 114, 105, 83, 97, 116, 83, 117, 110])) (aVar 13) (aBin opAdd (aVar 13) (aCst (.int 3))) (aCst .none)) (aCst (.str [44, 32]))) (aCall f__law_figures (lCons (aBin opItem (aVar 11) (aCst (.int 2))) (lCons (aCst (.int 2)) (lNil)))))) <|
    sCons (sAssign (gName 13) (aBin opMul (aBin opMod (aBin opAdd (aVar 14) (aCst (.int 11))) (aCst (.int 12))) (aCst (.int 3)))) <|
    sCons (sAssign (gName 12) (aBin opAdd (aBin opAdd (aVar 12) (aCst (.str [32]))) (aSlice (aCst (.str [74, 97, 110, 70, 101, 98, 77, 97, 114, 65, 112, 114, 77, 97, 121, 74, 117, 110, 74, 117, 108, 65, 117, 103, 83, 101, 112, 79, 99, 116, 78, 111, 118, 68, 101, 99])) (aVar 13) (aBin opAdd (aVar 13) (aCst (.int 3))) (aCst .none)))) <|
    sCons (sAssign (gName 12) (aBin opAdd (aBin opAdd (aBin opAdd (aBin opAdd (aVar 12) (aCst (.str [32]))) (aCall f__law_figures (lCons (aBin opItem (aVar 11) (aCst (.int 0))) (lCons (aCst (.int 4)) (lNil))))) (aCst (.str [32]))) (aCall f__law_figures (lCons (aBin opItem (aVar 11) (aCst (.int 3))) (lCons (aCst (.int 2)) (lNil)))))) <|
    sCons (sAssign (gName 12) (aBin opAdd (aBin opAdd (aBin opAdd (aBin opAdd (aVar 12) (aCst (.str [58]))) (aCall f__law_figures (lCons (aBin opItem (aVar 11) (aCst (.int 4))) (lCons (aCst (.int 2)) (lNil))))) (aCst (.str [58]))) (aCall f__law_figures (lCons (aBin opItem (aVar 11) (aCst (.int 5))) (lCons (aCst (.int 2)) (lNil)))))) <|
    sCons (sRet (aTup (lCons (aCst (.str [])) (lCons (aBin opAdd (aBin opAdd (aVar 12) (aCst (.str [32]))) (aCall f__law_shown (lCons (aVar 1) (lNil)))) (lNil))))) <|
    sNil
theorem m_f__law_wanted : MonoF f__law_wanted := by
  unfold f__law_wanted
  apply mf_fn
  repeat' first | with_reducible apply m_var | with_reducible apply m_cst | with_reducible apply ms_nil | with_reducible apply ms_cons | with_reducible apply ms_assign | with_reducible apply ms_ret | with_reducible apply ms_ret0 | with_reducible apply ms_cont | with_reducible apply ms_if | with_reducible apply ms_expr | with_reducible apply ms_aug | with_reducible apply ms_augsub | with_reducible apply ms_for | with_reducible apply ms_while | with_reducible apply m_bin | with_reducible apply m_un | with_reducible apply m_cmp | with_reducible apply mt_val | with_reducible apply mt_not | with_reducible apply mt_and | with_reducible apply mt_or | with_reducible apply mt_true | with_reducible apply mt_false | with_reducible apply mt_cmp | with_reducible apply mt_cmp2 | with_reducible apply m_not | with_reducible apply m_if | with_reducible apply m_and | with_reducible apply m_or | with_reducible apply ml_nil | with_reducible apply ml_cons | with_reducible apply m_tup | with_reducible apply m_list | with_reducible apply m_call | with_reducible apply m_meth | with_reducible apply m_slice | with_reducible apply m_comp | with_reducible apply m_comp2 | with_reducible apply mg_name | with_reducible apply mg_sub | with_reducible apply mg_tup | with_reducible apply MonoGs.nil | with_reducible apply MonoGs.cons | with_reducible apply mo_add | with_reducible apply mo_iadd | with_reducible apply mo_sub | with_reducible apply mo_mul | with_reducible apply mo_div | with_reducible apply mo_mod | with_reducible apply mo_neg | with_reducible apply mo_item | with_reducible apply mf_len | with_reducible apply mf_range | with_reducible apply mf_list | with_reducible apply mf_tuple | with_reducible apply mf_append | with_reducible apply mf_insert | with_reducible apply mf_pop | with_reducible apply mf_chr | with_reducible apply mf_sjoin | with_reducible apply mf_all | with_reducible apply mf_any | with_reducible apply mf_sum | with_reducible apply mf_min | with_reducible apply mo_fmt | with_reducible apply mo_mulis | with_reducible apply mf_divmod | with_reducible apply mf_abs | with_reducible apply mf_sindex | with_reducible apply mf_index | with_reducible apply mg_tupl | with_reducible apply m_isi | with_reducible apply mo_isint | with_reducible apply mo_islst | with_reducible apply mx_lift | with_reducible apply mx_bin | with_reducible apply mx_tup | with_reducible apply mxl_nil | with_reducible apply mxl_cons | with_reducible apply mox_item | with_reducible apply mox_sub | with_reducible apply mox_fmt | with_reducible apply m_f__law_figures | with_reducible apply m_f__law_kind | with_reducible apply m_f__law_shown | with_reducible apply m_l__law_wanted_1 | with_reducible apply m_l__law_wanted_2 | with_reducible apply m_l__law_wanted_3 | with_reducible apply m_l__law_wanted_4 | with_reducible apply m_l__law_wanted_5 | with_reducible apply m_l__law_wanted_6 | with_reducible apply m_l__law_wanted_7
theorem s__law_wanted (c : Cx) (hd : fnRec prg 7 ∈ recsOf c.q) (h__law_figures : SoundF (c.on NN NN_nodup) 1 (Str.ofString "_law_figures") f__law_figures) (h__law_kind : SoundF (c.on NN NN_nodup) 1 (Str.ofString "_law_kind") f__law_kind) (h__law_shown : SoundF (c.on NN NN_nodup) 2 (Str.ofString "_law_shown") f__law_shown) (b_int : c.mg (Str.ofString "int") = none) (b_isinstance : c.mg (Str.ofString "isinstance") = none) (b_len : c.mg (Str.ofString "len") = none) (b_list : c.mg (Str.ofString "list") = none) : SoundF (c.on NN NN_nodup) 3 (Str.ofString "_law_wanted") f__law_wanted :=
  sound_fn (c := c.on NN NN_nodup) (d := fnRec prg 7) (xs := [Str.ofString "row", Str.ofString "zone"]) hd (
    @block_cons _ _ _ _ _ _ _ (stmt_if (test_cmp (sound_bi bi_len rfl b_len (by decide +kernel) (by decide +kernel) (@list_consP _ _ _ _ _ _ _ (sound_var rfl (hd := by decide) (hn := by decide)) (list_nil) rfl) (by decide +kernel) (hd := by decide) (he' := fun _ => rfl) (hp := fun _ => rfl)) (sound_int) (hm := by with_unfolding_all rfl)) (@block_cons _ _ _ _ _ _ _ (@stmt_assign _ _ _ _ _ _ _ _ (sound_if (test_val (sound_isi isi_list (sound_var rfl (hd := by decide) (hn := by decide)) rfl b_isinstance b_list (by decide +kernel) (by decide +kernel) (by decide +kernel) (by decide +kernel) (by decide +kernel)) (hv := fun _ _ => rfl)) (sound_str (hx := rfl) (hy := rfl)) (sound_str (hx := rfl) (hy := rfl))) (tgt_name rfl (.inl (by decide +kernel))) (fun _ _ => rfl) (fun _ _ => rfl) (fun _ => rfl)) <|
    @block_cons _ _ _ _ _ _ _ (@stmt_ret _ _ _ _ _ _ (@sound_tup _ _ _ _ _ _ _ (@list_consP _ _ _ _ _ _ _ (sound_str (hx := rfl) (hy := rfl)) (@list_consP _ _ _ _ _ _ _ (@sound_bin _ _ _ _ _ _ _ _ _ _ op_add (sound_var rfl (hd := by decide) (hn := by decide)) (sound_str (hx := rfl) (hy := rfl))) (list_nil) rfl) rfl))) <|
    block_nil) (block_nil)) <|
    @block_cons _ _ _ _ _ _ _ (@stmt_assign _ _ _ _ _ _ _ _ (@sound_sub _ _ _ _ _ _ _ _ (sound_var rfl (hd := by decide) (hn := by decide)) (sound_int)) (tgt_name rfl (.inl (by decide +kernel))) (fun _ _ => rfl) (fun _ _ => rfl) (fun _ => rfl)) <|
    @block_cons _ _ _ _ _ _ _ (@stmt_assign _ _ _ _ _ _ _ _ (@sound_sub _ _ _ _ _ _ _ _ (sound_var rfl (hd := by decide) (hn := by decide)) (sound_int)) (tgt_name rfl (.inl (by decide +kernel))) (fun _ _ => rfl) (fun _ _ => rfl) (fun _ => rfl)) <|
    @block_cons _ _ _ _ _ _ _ (stmt_if (test_not (test_val (sound_isi isi_int (sound_var rfl (hd := by decide) (hn := by decide)) rfl b_isinstance b_int (by decide +kernel) (by decide +kernel) (by decide +kernel) (by decide +kernel) (by decide +kernel)) (hv := fun _ _ => rfl))) (@block_cons _ _ _ _ _ _ _ (@stmt_ret _ _ _ _ _ _ (@sound_tup _ _ _ _ _ _ _ (@list_consP _ _ _ _ _ _ _ (sound_str (hx := rfl) (hy := rfl)) (@list_consP _ _ _ _ _ _ _ (@sound_bin _ _ _ _ _ _ _ _ _ _ op_add (sound_str (hx := rfl) (hy := rfl)) (sound_call h__law_kind (@list_consP _ _ _ _ _ _ _ (sound_var rfl (hd := by decide) (hn := by decide)) (list_nil) rfl) (by decide +kernel) (by decide) (hd := by decide) (he' := fun _ => rfl))) (list_nil) rfl) rfl))) <|
    block_nil) (block_nil)) <|
    @block_cons _ _ _ _ _ _ _ (stmt_if (test_bool (or_cons (test_cmp (sound_var rfl (hd := by decide) (hn := by decide)) (@sound_un _ _ _ _ _ _ _ _ op_negI (sound_int)) (hm := by with_unfolding_all rfl)) (or_cons (test_cmp (sound_var rfl (hd := by decide) (hn := by decide)) (sound_int) (hm := by with_unfolding_all rfl)) (or_nil)))) (@block_cons _ _ _ _ _ _ _ (@stmt_ret _ _ _ _ _ _ (@sound_tup _ _ _ _ _ _ _ (@list_consP _ _ _ _ _ _ _ (sound_str (hx := rfl) (hy := rfl)) (@list_consP _ _ _ _ _ _ _ (sound_str (hx := rfl) (hy := rfl)) (list_nil) rfl) rfl))) <|
    block_nil) (block_nil)) <|
    @block_cons _ _ _ _ _ _ _ (stmt_if (test_not (test_val (sound_isi isi_int (sound_var rfl (hd := by decide) (hn := by decide)) rfl b_isinstance b_int (by decide +kernel) (by decide +kernel) (by decide +kernel) (by decide +kernel) (by decide +kernel)) (hv := fun _ _ => rfl))) (@block_cons _ _ _ _ _ _ _ (@stmt_ret _ _ _ _ _ _ (@sound_tup _ _ _ _ _ _ _ (@list_consP _ _ _ _ _ _ _ (sound_str (hx := rfl) (hy := rfl)) (@list_consP _ _ _ _ _ _ _ (@sound_bin _ _ _ _ _ _ _ _ _ _ op_add (@sound_bin _ _ _ _ _ _ _ _ _ _ op_add (sound_str (hx := rfl) (hy := rfl)) (sound_call h__law_kind (@list_consP _ _ _ _ _ _ _ (sound_var rfl (hd := by decide) (hn := by decide)) (list_nil) rfl) (by decide +kernel) (by decide) (hd := by decide) (he' := fun _ => rfl))) (sound_str (hx := rfl) (hy := rfl))) (list_nil) rfl) rfl))) <|
    block_nil) (block_nil)) <|
    @block_cons _ _ _ _ _ _ _ (stmt_if (test_bool (or_cons (test_cmp (sound_var rfl (hd := by decide) (hn := by decide)) (@sound_un _ _ _ _ _ _ _ _ op_negI (sound_int)) (hm := by with_unfolding_all rfl)) (or_cons (test_cmp (sound_var rfl (hd := by decide) (hn := by decide)) (sound_int) (hm := by with_unfolding_all rfl)) (or_nil)))) (@block_cons _ _ _ _ _ _ _ (@stmt_ret _ _ _ _ _ _ (@sound_tup _ _ _ _ _ _ _ (@list_consP _ _ _ _ _ _ _ (sound_str (hx := rfl) (hy := rfl)) (@list_consP _ _ _ _ _ _ _ (sound_str (hx := rfl) (hy := rfl)) (list_nil) rfl) rfl))) <|
    block_nil) (block_nil)) <|
    @block_cons _ _ _ _ _ _ _ (stmt_for (@sound_list _ _ _ _ _ _ (@list_consP _ _ _ _ _ _ _ (@sound_sub _ _ _ _ _ _ _ _ (sound_var rfl (hd := by decide) (hn := by decide)) (sound_int)) (@list_consP _ _ _ _ _ _ _ (@sound_sub _ _ _ _ _ _ _ _ (sound_var rfl (hd := by decide) (hn := by decide)) (sound_int)) (@list_consP _ _ _ _ _ _ _ (@sound_sub _ _ _ _ _ _ _ _ (sound_var rfl (hd := by decide) (hn := by decide)) (sound_int)) (@list_consP _ _ _ _ _ _ _ (@sound_sub _ _ _ _ _ _ _ _ (sound_var rfl (hd := by decide) (hn := by decide)) (sound_int)) (@list_consP _ _ _ _ _ _ _ (@sound_sub _ _ _ _ _ _ _ _ (sound_var rfl (hd := by decide) (hn := by decide)) (sound_int)) (list_nil) rfl) rfl) rfl) rfl) rfl)) (tgt_name rfl (.inl (by decide +kernel))) (@block_cons _ _ _ _ _ _ _ (stmt_if (test_not (test_val (sound_isi isi_int (sound_var rfl (hd := by decide) (hn := by decide)) rfl b_isinstance b_int (by decide +kernel) (by decide +kernel) (by decide +kernel) (by decide +kernel) (by decide +kernel)) (hv := fun _ _ => rfl))) (@block_cons _ _ _ _ _ _ _ (@stmt_ret _ _ _ _ _ _ (@sound_tup _ _ _ _ _ _ _ (@list_consP _ _ _ _ _ _ _ (sound_str (hx := rfl) (hy := rfl)) (@list_consP _ _ _ _ _ _ _ (@sound_bin _ _ _ _ _ _ _ _ _ _ op_add (sound_str (hx := rfl) (hy := rfl)) (sound_call h__law_kind (@list_consP _ _ _ _ _ _ _ (sound_var rfl (hd := by decide) (hn := by decide)) (list_nil) rfl) (by decide +kernel) (by decide) (hd := by decide) (he' := fun _ => rfl))) (list_nil) rfl) rfl))) <|
    block_nil) (block_nil)) <|
    block_nil) (hf := fun _ _ => rfl) (ht := by first | exact .inl ⟨_, _, _, rfl⟩ | exact .inr fun _ _ => rfl)) <|
    @block_cons _ _ _ _ _ _ _ (@stmt_assign _ _ _ _ _ _ _ _ (@sound_bin _ _ _ _ _ _ _ _ _ _ op_mul (@sound_bin _ _ _ _ _ _ _ _ _ _ op_mod (sound_var rfl (hd := by decide) (hn := by decide)) (sound_int)) (sound_int)) (tgt_name rfl (.inl (by decide +kernel))) (fun _ _ => rfl) (fun _ _ => rfl) (fun _ => rfl)) <|
    @block_cons _ _ _ _ _ _ _ (@stmt_assign _ _ _ _ _ _ _ _ (@sound_bin _ _ _ _ _ _ _ _ _ _ op_add (@sound_bin _ _ _ _ _ _ _ _ _ _ op_add (sound_slice (sound_str (hx := rfl) (hy := rfl)) (part_some (sound_var rfl (hd := by decide) (hn := by decide))) (part_some (@sound_bin _ _ _ _ _ _ _ _ _ _ op_add (sound_var rfl (hd := by decide) (hn := by decide)) (sound_int))) (part_none)) (sound_str (hx := rfl) (hy := rfl))) (sound_call h__law_figures (@list_consP _ _ _ _ _ _ _ (@sound_sub _ _ _ _ _ _ _ _ (sound_var rfl (hd := by decide) (hn := by decide)) (sound_int)) (@list_consP _ _ _ _ _ _ _ (sound_int) (list_nil) rfl) rfl) (by decide +kernel) (by decide) (hd := by decide) (he' := fun _ => rfl))) (tgt_name rfl (.inl (by decide +kernel))) (fun _ _ => rfl) (fun _ _ => rfl) (fun _ => rfl)) <|
    @block_cons _ _ _ _ _ _ _ (@stmt_assign _ _ _ _ _ _ _ _ (@sound_bin _ _ _ _ _ _ _ _ _ _ op_mul (@sound_bin _ _ _ _ _ _ _ _ _ _ op_mod (@sound_bin _ _ _ _ _ _ _ _ _ _ op_add (sound_var rfl (hd := by decide) (hn := by decide)) (sound_int)) (sound_int)) (sound_int)) (tgt_name rfl (.inl (by decide +kernel))) (fun _ _ => rfl) (fun _ _ => rfl) (fun _ => rfl)) <|
    @block_cons _ _ _ _ _ _ _ (@stmt_assign _ _ _ _ _ _ _ _ (@sound_bin _ _ _ _ _ _ _ _ _ _ op_add (@sound_bin _ _ _ _ _ _ _ _ _ _ op_add (sound_var rfl (hd := by decide) (hn := by decide)) (sound_str (hx := rfl) (hy := rfl))) (sound_slice (sound_str (hx := rfl) (hy := rfl)) (part_some (sound_var rfl (hd := by decide) (hn := by decide))) (part_some (@sound_bin _ _ _ _ _ _ _ _ _ _ op_add (sound_var rfl (hd := by decide) (hn := by decide)) (sound_int))) (part_none))) (tgt_name rfl (.inl (by decide +kernel))) (fun _ _ => rfl) (fun _ _ => rfl) (fun _ => rfl)) <|
    @block_cons _ _ _ _ _ _ _ (@stmt_assign _ _ _ _ _ _ _ _ (@sound_bin _ _ _ _ _ _ _ _ _ _ op_add (@sound_bin _ _ _ _ _ _ _ _ _ _ op_add (@sound_bin _ _ _ _ _ _ _ _ _ _ op_add (@sound_bin _ _ _ _ _ _ _ _ _ _ op_add (sound_var rfl (hd := by decide) (hn := by decide)) (sound_str (hx := rfl) (hy := rfl))) (sound_call h__law_figures (@list_consP _ _ _ _ _ _ _ (@sound_sub _ _ _ _ _ _ _ _ (sound_var rfl (hd := by decide) (hn := by decide)) (sound_int)) (@list_consP _ _ _ _ _ _ _ (sound_int) (list_nil) rfl) rfl) (by decide +kernel) (by decide) (hd := by decide) (he' := fun _ => rfl))) (sound_str (hx := rfl) (hy := rfl))) (sound_call h__law_figures (@list_consP _ _ _ _ _ _ _ (@sound_sub _ _ _ _ _ _ _ _ (sound_var rfl (hd := by decide) (hn := by decide)) (sound_int)) (@list_consP _ _ _ _ _ _ _ (sound_int) (list_nil) rfl) rfl) (by decide +kernel) (by decide) (hd := by decide) (he' := fun _ => rfl))) (tgt_name rfl (.inl (by decide +kernel))) (fun _ _ => rfl) (fun _ _ => rfl) (fun _ => rfl)) <|
    @block_cons _ _ _ _ _ _ _ (@stmt_assign _ _ _ _ _ _ _ _ (@sound_bin _ _ _ _ _ _ _ _ _ _ op_add (@sound_bin _ _ _ _ _ _ _ _ _ _ op_add (@sound_bin _ _ _ _ _ _ _ _ _ _ op_add (@sound_bin _ _ _ _ _ _ _ _ _ _ op_add (sound_var rfl (hd := by decide) (hn := by decide)) (sound_str (hx := rfl) (hy := rfl))) (sound_call h__law_figures (@list_consP _ _ _ _ _ _ _ (@sound_sub _ _ _ _ _ _ _ _ (sound_var rfl (hd := by decide) (hn := by decide)) (sound_int)) (@list_consP _ _ _ _ _ _ _ (sound_int) (list_nil) rfl) rfl) (by decide +kernel) (by decide) (hd := by decide) (he' := fun _ => rfl))) (sound_str (hx := rfl) (hy := rfl))) (sound_call h__law_figures (@list_consP _ _ _ _ _ _ _ (@sound_sub _ _ _ _ _ _ _ _ (sound_var rfl (hd := by decide) (hn := by decide)) (sound_int)) (@list_consP _ _ _ _ _ _ _ (sound_int) (list_nil) rfl) rfl) (by decide +kernel) (by decide) (hd := by decide) (he' := fun _ => rfl))) (tgt_name rfl (.inl (by decide +kernel))) (fun _ _ => rfl) (fun _ _ => rfl) (fun _ => rfl)) <|
    @block_cons _ _ _ _ _ _ _ (@stmt_ret _ _ _ _ _ _ (@sound_tup _ _ _ _ _ _ _ (@list_consP _ _ _ _ _ _ _ (sound_str (hx := rfl) (hy := rfl)) (@list_consP _ _ _ _ _ _ _ (@sound_bin _ _ _ _ _ _ _ _ _ _ op_add (@sound_bin _ _ _ _ _ _ _ _ _ _ op_add (sound_var rfl (hd := by decide) (hn := by decide)) (sound_str (hx := rfl) (hy := rfl))) (sound_call h__law_shown (@list_consP _ _ _ _ _ _ _ (sound_var rfl (hd := by decide) (hn := by decide)) (list_nil) rfl) (by decide +kernel) (by decide) (hd := by decide) (he' := fun _ => rfl))) (list_nil) rfl) rfl))) <|
    block_nil) rfl (by decide +kernel) (fun _ _ _ vs h => by obtain ⟨v0, v1, rfl⟩ := len2 h; rfl) (by decide +kernel) (hco := rfl) (hgen := rfl) (hk := rfl)
def f__law_tried : AF := fTried [0, 1] x__format_timetuple_and_zone
theorem m_f__law_tried : MonoF f__law_tried := mf_tried mx__format_timetuple_and_zone
theorem s__law_tried (c : Cx) (hd : fnRec prg 1 ∈ recsOf c.q) (hd2 : fnRec prg 8 ∈ recsOf c.q) (b_str : c.mg (Str.ofString "str") = none) (b_IndexError : c.mg (Str.ofString "IndexError") = none) (b_TypeError : c.mg (Str.ofString "TypeError") = none) : SoundFF (c.on NN NN_nodup) 2 (Str.ofString "_law_tried") f__law_tried :=
  sound_tried (c := c.on NN NN_nodup) (n := 0) (d := fnRec prg 1) (ex := retOf (fnRec prg 1).body) (d2 := fnRec prg 8) (ks := [11, 1]) (kf := [0, 1]) (xf := [Str.ofString "timetuple", Str.ofString "zone"]) (y1 := Str.ofString "row") (y2 := Str.ofString "zone") (x := Str.ofString "error") (ax := x__format_timetuple_and_zone) hd rfl (
    xs__format_timetuple_and_zone c) rfl (by decide +kernel) (fun _ _ _ vs h => by obtain ⟨v0, v1, rfl⟩ := len2 h; rfl) (by decide +kernel) rfl rfl rfl hd2 rfl rfl (by decide +kernel) (fun _ _ _ vs h => by obtain ⟨v0, v1, rfl⟩ := len2 h; rfl) (by decide +kernel) rfl rfl rfl (by decide +kernel) (by decide +kernel) (by decide +kernel) (by decide +kernel) (by decide +kernel) (by decide +kernel) (by decide +kernel) (by decide +kernel) (by decide +kernel) (by decide +kernel) (by decide +kernel) b_str b_IndexError b_TypeError rfl
def l__law_row_1 : AS := sCons (sAssign (gName 11) (aSlice (aVar 11) (aCst .none) (aBin opMod (aBin opDiv (aBin opItem (aVar 18) (aCst (.int 11))) (aCst (.int 5))) (aCst (.int 8))) (aCst .none))) <|
    sNil
theorem m_l__law_row_1 : MonoS l__law_row_1 := by
  unfold l__law_row_1
  repeat' first | with_reducible apply m_var | with_reducible apply m_cst | with_reducible apply ms_nil | with_reducible apply ms_cons | with_reducible apply ms_assign | with_reducible apply ms_ret | with_reducible apply ms_ret0 | with_reducible apply ms_cont | with_reducible apply ms_if | with_reducible apply ms_expr | with_reducible apply ms_aug | with_reducible apply ms_augsub | with_reducible apply ms_for | with_reducible apply ms_while | with_reducible apply m_bin | with_reducible apply m_un | with_reducible apply m_cmp | with_reducible apply mt_val | with_reducible apply mt_not | with_reducible apply mt_and | with_reducible apply mt_or | with_reducible apply mt_true | with_reducible apply mt_false | with_reducible apply mt_cmp | with_reducible apply mt_cmp2 | with_reducible apply m_not | with_reducible apply m_if | with_reducible apply m_and | with_reducible apply m_or | with_reducible apply ml_nil | with_reducible apply ml_cons | with_reducible apply m_tup | with_reducible apply m_list | with_reducible apply m_call | with_reducible apply m_meth | with_reducible apply m_slice | with_reducible apply m_comp | with_reducible apply m_comp2 | with_reducible apply mg_name | with_reducible apply mg_sub | with_reducible apply mg_tup | with_reducible apply MonoGs.nil | with_reducible apply MonoGs.cons | with_reducible apply mo_add | with_reducible apply mo_iadd | with_reducible apply mo_sub | with_reducible apply mo_mul | with_reducible apply mo_div | with_reducible apply mo_mod | with_reducible apply mo_neg | with_reducible apply mo_item | with_reducible apply mf_len | with_reducible apply mf_range | with_reducible apply mf_list | with_reducible apply mf_tuple | with_reducible apply mf_append | with_reducible apply mf_insert | with_reducible apply mf_pop | with_reducible apply mf_chr | with_reducible apply mf_sjoin | with_reducible apply mf_all | with_reducible apply mf_any | with_reducible apply mf_sum | with_reducible apply mf_min | with_reducible apply mo_fmt | with_reducible apply mo_mulis | with_reducible apply mf_divmod | with_reducible apply mf_abs | with_reducible apply mf_sindex | with_reducible apply mf_index | with_reducible apply mg_tupl | with_reducible apply m_isi | with_reducible apply mo_isint | with_reducible apply mo_islst | with_reducible apply mx_lift | with_reducible apply mx_bin | with_reducible apply mx_tup | with_reducible apply mxl_nil | with_reducible apply mxl_cons | with_reducible apply mox_item | with_reducible apply mox_sub | with_reducible apply mox_fmt | with_reducible apply m_f__law_small
def l__law_row_2 : AS := sCons (sAssign (gSub (aVar 11) (aVar 19)) (aCst (.str [55]))) <|
    sNil
theorem m_l__law_row_2 : MonoS l__law_row_2 := by
  unfold l__law_row_2
  repeat' first | with_reducible apply m_var | with_reducible apply m_cst | with_reducible apply ms_nil | with_reducible apply ms_cons | with_reducible apply ms_assign | with_reducible apply ms_ret | with_reducible apply ms_ret0 | with_reducible apply ms_cont | with_reducible apply ms_if | with_reducible apply ms_expr | with_reducible apply ms_aug | with_reducible apply ms_augsub | with_reducible apply ms_for | with_reducible apply ms_while | with_reducible apply m_bin | with_reducible apply m_un | with_reducible apply m_cmp | with_reducible apply mt_val | with_reducible apply mt_not | with_reducible apply mt_and | with_reducible apply mt_or | with_reducible apply mt_true | with_reducible apply mt_false | with_reducible apply mt_cmp | with_reducible apply mt_cmp2 | with_reducible apply m_not | with_reducible apply m_if | with_reducible apply m_and | with_reducible apply m_or | with_reducible apply ml_nil | with_reducible apply ml_cons | with_reducible apply m_tup | with_reducible apply m_list | with_reducible apply m_call | with_reducible apply m_meth | with_reducible apply m_slice | with_reducible apply m_comp | with_reducible apply m_comp2 | with_reducible apply mg_name | with_reducible apply mg_sub | with_reducible apply mg_tup | with_reducible apply MonoGs.nil | with_reducible apply MonoGs.cons | with_reducible apply mo_add | with_reducible apply mo_iadd | with_reducible apply mo_sub | with_reducible apply mo_mul | with_reducible apply mo_div | with_reducible apply mo_mod | with_reducible apply mo_neg | with_reducible apply mo_item | with_reducible apply mf_len | with_reducible apply mf_range | with_reducible apply mf_list | with_reducible apply mf_tuple | with_reducible apply mf_append | with_reducible apply mf_insert | with_reducible apply mf_pop | with_reducible apply mf_chr | with_reducible apply mf_sjoin | with_reducible apply mf_all | with_reducible apply mf_any | with_reducible apply mf_sum | with_reducible apply mf_min | with_reducible apply mo_fmt | with_reducible apply mo_mulis | with_reducible apply mf_divmod | with_reducible apply mf_abs | with_reducible apply mf_sindex | with_reducible apply mf_index | with_reducible apply mg_tupl | with_reducible apply m_isi | with_reducible apply mo_isint | with_reducible apply mo_islst | with_reducible apply mx_lift | with_reducible apply mx_bin | with_reducible apply mx_tup | with_reducible apply mxl_nil | with_reducible apply mxl_cons | with_reducible apply mox_item | with_reducible apply mox_sub | with_reducible apply mox_fmt | with_reducible apply m_f__law_small | with_reducible apply m_l__law_row_1
def l__law_row_3 : AS := sCons (sAssign (gSub (aVar 11) (aVar 20)) (aCst .none)) <|
    sNil
theorem m_l__law_row_3 : MonoS l__law_row_3 := by
  unfold l__law_row_3
  repeat' first | with_reducible apply m_var | with_reducible apply m_cst | with_reducible apply ms_nil | with_reducible apply ms_cons | with_reducible apply ms_assign | with_reducible apply ms_ret | with_reducible apply ms_ret0 | with_reducible apply ms_cont | with_reducible apply ms_if | with_reducible apply ms_expr | with_reducible apply ms_aug | with_reducible apply ms_augsub | with_reducible apply ms_for | with_reducible apply ms_while | with_reducible apply m_bin | with_reducible apply m_un | with_reducible apply m_cmp | with_reducible apply mt_val | with_reducible apply mt_not | with_reducible apply mt_and | with_reducible apply mt_or | with_reducible apply mt_true | with_reducible apply mt_false | with_reducible apply mt_cmp | with_reducible apply mt_cmp2 | with_reducible apply m_not | with_reducible apply m_if | with_reducible apply m_and | with_reducible apply m_or | with_reducible apply ml_nil | with_reducible apply ml_cons | with_reducible apply m_tup | with_reducible apply m_list | with_reducible apply m_call | with_reducible apply m_meth | with_reducible apply m_slice | with_reducible apply m_comp | with_reducible apply m_comp2 | with_reducible apply mg_name | with_reducible apply mg_sub | with_reducible apply mg_tup | with_reducible apply MonoGs.nil | with_reducible apply MonoGs.cons | with_reducible apply mo_add | with_reducible apply mo_iadd | with_reducible apply mo_sub | with_reducible apply mo_mul | with_reducible apply mo_div | with_reducible apply mo_mod | with_reducible apply mo_neg | with_reducible apply mo_item | with_reducible apply mf_len | with_reducible apply mf_range | with_reducible apply mf_list | with_reducible apply mf_tuple | with_reducible apply mf_append | with_reducible apply mf_insert | with_reducible apply mf_pop | with_reducible apply mf_chr | with_reducible apply mf_sjoin | with_reducible apply mf_all | with_reducible apply mf_any | with_reducible apply mf_sum | with_reducible apply mf_min | with_reducible apply mo_fmt | with_reducible apply mo_mulis | with_reducible apply mf_divmod | with_reducible apply mf_abs | with_reducible apply mf_sindex | with_reducible apply mf_index | with_reducible apply mg_tupl | with_reducible apply m_isi | with_reducible apply mo_isint | with_reducible apply mo_islst | with_reducible apply mx_lift | with_reducible apply mx_bin | with_reducible apply mx_tup | with_reducible apply mxl_nil | with_reducible apply mxl_cons | with_reducible apply mox_item | with_reducible apply mox_sub | with_reducible apply mox_fmt | with_reducible apply m_f__law_small | with_reducible apply m_l__law_row_1 | with_reducible apply m_l__law_row_2
def f__law_row : AF := aFn [18] <|
    sCons (sAssign (gName 21) (aList (lCons (aCst (.int 100000)) (lCons (aCst (.int 15)) (lCons (aCst (.int 1000)) (lCons (aCst (.int 1000)) (lCons (aCst (.int 1000)) (lCons (aCst (.int 1000)) (lCons (aCst (.int 9)) (lCons (aCst (.int 400)) (lCons (aCst (.int 3)) (lNil)))))))))))) <|
    sCons (sAssign (gName 11) (aComp [21, 18] (gName 22) (aCall fRange (lCons (aCst (.int 9)) (lNil))) (tTrue) (aCall f__law_small (lCons (aBin opItem (aVar 18) (aVar 22)) (lCons (aBin opItem (aVar 21) (aVar 22)) (lNil)))))) <|
    sCons (sAssign (gName 20) (aBin opSub (aBin opMod (aCall fAbs (lCons (aBin opItem (aVar 18) (aCst (.int 9))) (lNil))) (aCst (.int 23))) (aCst (.int 10)))) <|
    sCons (sIf (tCmp2 .LtE (aCst (.int 0)) .Lt (aVar 20) (aCst (.int 9))) (l__law_row_3) (sNil)) <|
    sCons (sAssign (gName 19) (aBin opSub (aBin opMod (aCall fAbs (lCons (aBin opItem (aVar 18) (aCst (.int 10))) (lNil))) (aCst (.int 19))) (aCst (.int 9)))) <|
    sCons (sIf (tCmp2 .LtE (aCst (.int 0)) .Lt (aVar 19) (aCst (.int 9))) (l__law_row_2) (sNil)) <|
    sCons (sIf (tCmp .Eq (aBin opMod (aBin opItem (aVar 18) (aCst (.int 11))) (aCst (.int 5))) (aCst (.int 4))) (l__law_row_1) (sNil)) <|
    sCons (sRet (aVar 11)) <|
    sNil
theorem m_f__law_row : MonoF f__law_row := by
  unfold f__law_row
  apply mf_fn
  repeat' first | with_reducible apply m_var | with_reducible apply m_cst | with_reducible apply ms_nil | with_reducible apply ms_cons | with_reducible apply ms_assign | with_reducible apply ms_ret | with_reducible apply ms_ret0 | with_reducible apply ms_cont | with_reducible apply ms_if | with_reducible apply ms_expr | with_reducible apply ms_aug | with_reducible apply ms_augsub | with_reducible apply ms_for | with_reducible apply ms_while | with_reducible apply m_bin | with_reducible apply m_un | with_reducible apply m_cmp | with_reducible apply mt_val | with_reducible apply mt_not | with_reducible apply mt_and | with_reducible apply mt_or | with_reducible apply mt_true | with_reducible apply mt_false | with_reducible apply mt_cmp | with_reducible apply mt_cmp2 | with_reducible apply m_not | with_reducible apply m_if | with_reducible apply m_and | with_reducible apply m_or | with_reducible apply ml_nil | with_reducible apply ml_cons | with_reducible apply m_tup | with_reducible apply m_list | with_reducible apply m_call | with_reducible apply m_meth | with_reducible apply m_slice | with_reducible apply m_comp | with_reducible apply m_comp2 | with_reducible apply mg_name | with_reducible apply mg_sub | with_reducible apply mg_tup | with_reducible apply MonoGs.nil | with_reducible apply MonoGs.cons | with_reducible apply mo_add | with_reducible apply mo_iadd | with_reducible apply mo_sub | with_reducible apply mo_mul | with_reducible apply mo_div | with_reducible apply mo_mod | with_reducible apply mo_neg | with_reducible apply mo_item | with_reducible apply mf_len | with_reducible apply mf_range | with_reducible apply mf_list | with_reducible apply mf_tuple | with_reducible apply mf_append | with_reducible apply mf_insert | with_reducible apply mf_pop | with_reducible apply mf_chr | with_reducible apply mf_sjoin | with_reducible apply mf_all | with_reducible apply mf_any | with_reducible apply mf_sum | with_reducible apply mf_min | with_reducible apply mo_fmt | with_reducible apply mo_mulis | with_reducible apply mf_divmod | with_reducible apply mf_abs | with_reducible apply mf_sindex | with_reducible apply mf_index | with_reducible apply mg_tupl | with_reducible apply m_isi | with_reducible apply mo_isint | with_reducible apply mo_islst | with_reducible apply mx_lift | with_reducible apply mx_bin | with_reducible apply mx_tup | with_reducible apply mxl_nil | with_reducible apply mxl_cons | with_reducible apply mox_item | with_reducible apply mox_sub | with_reducible apply mox_fmt | with_reducible apply m_f__law_small | with_reducible apply m_l__law_row_1 | with_reducible apply m_l__law_row_2 | with_reducible apply m_l__law_row_3
theorem s__law_row (c : Cx) (hd : fnRec prg 9 ∈ recsOf c.q) (h__law_small : SoundF (c.on NN NN_nodup) 1 (Str.ofString "_law_small") f__law_small) (b_abs : c.mg (Str.ofString "abs") = none) (b_range : c.mg (Str.ofString "range") = none) : SoundF (c.on NN NN_nodup) 2 (Str.ofString "_law_row") f__law_row :=
  sound_fn (c := c.on NN NN_nodup) (d := fnRec prg 9) (xs := [Str.ofString "numbers"]) hd (
    @block_cons _ _ _ _ _ _ _ (@stmt_assign _ _ _ _ _ _ _ _ (@sound_list _ _ _ _ _ _ (@list_consP _ _ _ _ _ _ _ (sound_int) (@list_consP _ _ _ _ _ _ _ (sound_int) (@list_consP _ _ _ _ _ _ _ (sound_int) (@list_consP _ _ _ _ _ _ _ (sound_int) (@list_consP _ _ _ _ _ _ _ (sound_int) (@list_consP _ _ _ _ _ _ _ (sound_int) (@list_consP _ _ _ _ _ _ _ (sound_int) (@list_consP _ _ _ _ _ _ _ (sound_int) (@list_consP _ _ _ _ _ _ _ (sound_int) (list_nil) rfl) rfl) rfl) rfl) rfl) rfl) rfl) rfl) rfl)) (tgt_name rfl (.inr (by decide +kernel))) (fun _ _ => rfl) (fun _ _ => rfl) (fun _ => rfl)) <|
    @block_cons _ _ _ _ _ _ _ (stmt_assign_comp (sound_bi bi_range rfl b_range (by decide +kernel) (by decide +kernel) (@list_consP _ _ _ _ _ _ _ (sound_int) (list_nil) rfl) (by decide +kernel) (hd := by decide) (he' := fun _ => rfl) (hp := fun _ => rfl)) (tgt_name rfl (.inl (by decide +kernel))) (cond_nil) (sound_call h__law_small (@list_consP _ _ _ _ _ _ _ (@sound_sub _ _ _ _ _ _ _ _ (sound_var rfl (hd := by decide) (hn := by decide)) (sound_var rfl (hd := by decide) (hn := by decide))) (@list_consP _ _ _ _ _ _ _ (@sound_sub _ _ _ _ _ _ _ _ (sound_var rfl (hd := by decide) (hn := by decide)) (sound_var rfl (hd := by decide) (hn := by decide))) (list_nil) rfl) rfl) (by decide +kernel) (by decide) (hd := by decide) (he' := fun _ => rfl)) (by show compChk NN _ _ _ = true; decide +kernel) rfl (by decide +kernel) (by decide +kernel) (hkind := rfl) (hf := fun _ _ => rfl) (hto := by first | exact .inl ⟨_, _, _, rfl⟩ | exact .inr fun _ _ => rfl)) <|
    @block_cons _ _ _ _ _ _ _ (@stmt_assign _ _ _ _ _ _ _ _ (@sound_bin _ _ _ _ _ _ _ _ _ _ op_sub (@sound_bin _ _ _ _ _ _ _ _ _ _ op_mod (sound_bi bi_abs rfl b_abs (by decide +kernel) (by decide +kernel) (@list_consP _ _ _ _ _ _ _ (@sound_sub _ _ _ _ _ _ _ _ (sound_var rfl (hd := by decide) (hn := by decide)) (sound_int)) (list_nil) rfl) (by decide +kernel) (hd := by decide) (he' := fun _ => rfl) (hp := fun _ => rfl)) (sound_int)) (sound_int)) (tgt_name rfl (.inl (by decide +kernel))) (fun _ _ => rfl) (fun _ _ => rfl) (fun _ => rfl)) <|
    @block_cons _ _ _ _ _ _ _ (stmt_if (test_cmp2 (sound_int) (sound_var rfl (hd := by decide) (hn := by decide)) (sound_int) (hb := by with_unfolding_all rfl)) (@block_cons _ _ _ _ _ _ _ (@stmt_assign _ _ _ _ _ _ _ _ (sound_none) (tgt_sub (sound_var rfl (hd := by decide) (hn := by decide)) (sound_var rfl (hd := by decide) (hn := by decide))) (fun _ _ => rfl) (fun _ _ => rfl) (fun _ => rfl)) <|
    block_nil) (block_nil)) <|
    @block_cons _ _ _ _ _ _ _ (@stmt_assign _ _ _ _ _ _ _ _ (@sound_bin _ _ _ _ _ _ _ _ _ _ op_sub (@sound_bin _ _ _ _ _ _ _ _ _ _ op_mod (sound_bi bi_abs rfl b_abs (by decide +kernel) (by decide +kernel) (@list_consP _ _ _ _ _ _ _ (@sound_sub _ _ _ _ _ _ _ _ (sound_var rfl (hd := by decide) (hn := by decide)) (sound_int)) (list_nil) rfl) (by decide +kernel) (hd := by decide) (he' := fun _ => rfl) (hp := fun _ => rfl)) (sound_int)) (sound_int)) (tgt_name rfl (.inl (by decide +kernel))) (fun _ _ => rfl) (fun _ _ => rfl) (fun _ => rfl)) <|
    @block_cons _ _ _ _ _ _ _ (stmt_if (test_cmp2 (sound_int) (sound_var rfl (hd := by decide) (hn := by decide)) (sound_int) (hb := by with_unfolding_all rfl)) (@block_cons _ _ _ _ _ _ _ (@stmt_assign _ _ _ _ _ _ _ _ (sound_str (hx := rfl) (hy := rfl)) (tgt_sub (sound_var rfl (hd := by decide) (hn := by decide)) (sound_var rfl (hd := by decide) (hn := by decide))) (fun _ _ => rfl) (fun _ _ => rfl) (fun _ => rfl)) <|
    block_nil) (block_nil)) <|
    @block_cons _ _ _ _ _ _ _ (stmt_if (test_cmp (@sound_bin _ _ _ _ _ _ _ _ _ _ op_mod (@sound_sub _ _ _ _ _ _ _ _ (sound_var rfl (hd := by decide) (hn := by decide)) (sound_int)) (sound_int)) (sound_int) (hm := by with_unfolding_all rfl)) (@block_cons _ _ _ _ _ _ _ (@stmt_assign _ _ _ _ _ _ _ _ (sound_slice (sound_var rfl (hd := by decide) (hn := by decide)) (part_none) (part_some (@sound_bin _ _ _ _ _ _ _ _ _ _ op_mod (@sound_bin _ _ _ _ _ _ _ _ _ _ op_div (@sound_sub _ _ _ _ _ _ _ _ (sound_var rfl (hd := by decide) (hn := by decide)) (sound_int)) (sound_int)) (sound_int))) (part_none)) (tgt_name rfl (.inl (by decide +kernel))) (fun _ _ => rfl) (fun _ _ => rfl) (fun _ => rfl)) <|
    block_nil) (block_nil)) <|
    @block_cons _ _ _ _ _ _ _ (@stmt_ret _ _ _ _ _ _ (sound_var rfl (hd := by decide) (hn := by decide))) <|
    block_nil) rfl (by decide +kernel) (fun _ _ _ vs h => by obtain ⟨v0, rfl⟩ := len1 h; rfl) (by decide +kernel) (hco := rfl) (hgen := rfl) (hk := rfl)
def l_law_1 : AS := sCons (sRet (aCst (.bool false))) <|
    sNil
theorem m_l_law_1 : MonoS l_law_1 := by
  unfold l_law_1
  repeat' first | with_reducible apply m_var | with_reducible apply m_cst | with_reducible apply ms_nil | with_reducible apply ms_cons | with_reducible apply ms_assign | with_reducible apply ms_ret | with_reducible apply ms_ret0 | with_reducible apply ms_cont | with_reducible apply ms_if | with_reducible apply ms_expr | with_reducible apply ms_aug | with_reducible apply ms_augsub | with_reducible apply ms_for | with_reducible apply ms_while | with_reducible apply m_bin | with_reducible apply m_un | with_reducible apply m_cmp | with_reducible apply mt_val | with_reducible apply mt_not | with_reducible apply mt_and | with_reducible apply mt_or | with_reducible apply mt_true | with_reducible apply mt_false | with_reducible apply mt_cmp | with_reducible apply mt_cmp2 | with_reducible apply m_not | with_reducible apply m_if | with_reducible apply m_and | with_reducible apply m_or | with_reducible apply ml_nil | with_reducible apply ml_cons | with_reducible apply m_tup | with_reducible apply m_list | with_reducible apply m_call | with_reducible apply m_meth | with_reducible apply m_slice | with_reducible apply m_comp | with_reducible apply m_comp2 | with_reducible apply mg_name | with_reducible apply mg_sub | with_reducible apply mg_tup | with_reducible apply MonoGs.nil | with_reducible apply MonoGs.cons | with_reducible apply mo_add | with_reducible apply mo_iadd | with_reducible apply mo_sub | with_reducible apply mo_mul | with_reducible apply mo_div | with_reducible apply mo_mod | with_reducible apply mo_neg | with_reducible apply mo_item | with_reducible apply mf_len | with_reducible apply mf_range | with_reducible apply mf_list | with_reducible apply mf_tuple | with_reducible apply mf_append | with_reducible apply mf_insert | with_reducible apply mf_pop | with_reducible apply mf_chr | with_reducible apply mf_sjoin | with_reducible apply mf_all | with_reducible apply mf_any | with_reducible apply mf_sum | with_reducible apply mf_min | with_reducible apply mo_fmt | with_reducible apply mo_mulis | with_reducible apply mf_divmod | with_reducible apply mf_abs | with_reducible apply mf_sindex | with_reducible apply mf_index | with_reducible apply mg_tupl | with_reducible apply m_isi | with_reducible apply mo_isint | with_reducible apply mo_islst | with_reducible apply mx_lift | with_reducible apply mx_bin | with_reducible apply mx_tup | with_reducible apply mxl_nil | with_reducible apply mxl_cons | with_reducible apply mox_item | with_reducible apply mox_sub | with_reducible apply mox_fmt | with_reducible apply m_f__law_row | with_reducible apply m_f__law_small | with_reducible apply m_f__law_tried | with_reducible apply m_f__law_wanted
def l_law_2 : AS := sCons (sRet (aCst (.bool false))) <|
    sNil
theorem m_l_law_2 : MonoS l_law_2 := by
  unfold l_law_2
  repeat' first | with_reducible apply m_var | with_reducible apply m_cst | with_reducible apply ms_nil | with_reducible apply ms_cons | with_reducible apply ms_assign | with_reducible apply ms_ret | with_reducible apply ms_ret0 | with_reducible apply ms_cont | with_reducible apply ms_if | with_reducible apply ms_expr | with_reducible apply ms_aug | with_reducible apply ms_augsub | with_reducible apply ms_for | with_reducible apply ms_while | with_reducible apply m_bin | with_reducible apply m_un | with_reducible apply m_cmp | with_reducible apply mt_val | with_reducible apply mt_not | with_reducible apply mt_and | with_reducible apply mt_or | with_reducible apply mt_true | with_reducible apply mt_false | with_reducible apply mt_cmp | with_reducible apply mt_cmp2 | with_reducible apply m_not | with_reducible apply m_if | with_reducible apply m_and | with_reducible apply m_or | with_reducible apply ml_nil | with_reducible apply ml_cons | with_reducible apply m_tup | with_reducible apply m_list | with_reducible apply m_call | with_reducible apply m_meth | with_reducible apply m_slice | with_reducible apply m_comp | with_reducible apply m_comp2 | with_reducible apply mg_name | with_reducible apply mg_sub | with_reducible apply mg_tup | with_reducible apply MonoGs.nil | with_reducible apply MonoGs.cons | with_reducible apply mo_add | with_reducible apply mo_iadd | with_reducible apply mo_sub | with_reducible apply mo_mul | with_reducible apply mo_div | with_reducible apply mo_mod | with_reducible apply mo_neg | with_reducible apply mo_item | with_reducible apply mf_len | with_reducible apply mf_range | with_reducible apply mf_list | with_reducible apply mf_tuple | with_reducible apply mf_append | with_reducible apply mf_insert | with_reducible apply mf_pop | with_reducible apply mf_chr | with_reducible apply mf_sjoin | with_reducible apply mf_all | with_reducible apply mf_any | with_reducible apply mf_sum | with_reducible apply mf_min | with_reducible apply mo_fmt | with_reducible apply mo_mulis | with_reducible apply mf_divmod | with_reducible apply mf_abs | with_reducible apply mf_sindex | with_reducible apply mf_index | with_reducible apply mg_tupl | with_reducible apply m_isi | with_reducible apply mo_isint | with_reducible apply mo_islst | with_reducible apply mx_lift | with_reducible apply mx_bin | with_reducible apply mx_tup | with_reducible apply mxl_nil | with_reducible apply mxl_cons | with_reducible apply mox_item | with_reducible apply mox_sub | with_reducible apply mox_fmt | with_reducible apply m_f__law_row | with_reducible apply m_f__law_small | with_reducible apply m_f__law_tried | with_reducible apply m_f__law_wanted | with_reducible apply m_l_law_1
def l_law_3 : AS := sCons (sAssign (gName 18) (aComp [24, 25] (gName 22) (aCall fRange (lCons (aCst (.int 14)) (lNil))) (tTrue) (aBin opItem (aVar 24) (aBin opMod (aBin opAdd (aVar 25) (aVar 22)) (aCall fLen (lCons (aVar 24) (lNil))))))) <|
    sCons (sAssign (gName 11) (aCall f__law_row (lCons (aVar 18) (lNil)))) <|
    sCons (sAssign (gName 26) (aCall fList (lCons (aVar 11) (lNil)))) <|
    sCons (sAssign (gName 28) (aList (lCons (aCst (.str [71, 77, 84])) (lCons (aCst (.str [])) (lCons (aCst (.str [37, 115, 32, 37, 100, 37, 37])) (lCons (aCst .none) (lCons (aCall f__law_small (lCons (aBin opItem (aVar 18) (aCst (.int 13))) (lCons (aCst (.int 100000)) (lNil)))) (lCons (aCst (.str [43, 48, 49, 48, 48, 32, 40, 97, 44, 32, 98, 41])) (lNil))))))))) <|
    sCons (sAssign (gName 1) (aBin opItem (aVar 28) (aBin opMod (aCall fAbs (lCons (aBin opItem (aVar 18) (aCst (.int 13))) (lNil))) (aCst (.int 6))))) <|
    sCons (sAssign (gName 27) (aIf (tCmp .Eq (aBin opMod (aBin opItem (aVar 18) (aCst (.int 12))) (aCst (.int 2))) (aCst (.int 1))) (aCall fTuple (lCons (aVar 11) (lNil))) (aVar 11))) <|
    sCons (sIf (tCmp .NotEq (aCall f__law_tried (lCons (aVar 27) (lCons (aVar 1) (lNil)))) (aCall f__law_wanted (lCons (aVar 27) (lCons (aVar 1) (lNil))))) (l_law_2) (sNil)) <|
    sCons (sIf (tCmp .NotEq (aVar 11) (aVar 26)) (l_law_1) (sNil)) <|
    sNil
theorem m_l_law_3 : MonoS l_law_3 := by
  unfold l_law_3
  repeat' first | with_reducible apply m_var | with_reducible apply m_cst | with_reducible apply ms_nil | with_reducible apply ms_cons | with_reducible apply ms_assign | with_reducible apply ms_ret | with_reducible apply ms_ret0 | with_reducible apply ms_cont | with_reducible apply ms_if | with_reducible apply ms_expr | with_reducible apply ms_aug | with_reducible apply ms_augsub | with_reducible apply ms_for | with_reducible apply ms_while | with_reducible apply m_bin | with_reducible apply m_un | with_reducible apply m_cmp | with_reducible apply mt_val | with_reducible apply mt_not | with_reducible apply mt_and | with_reducible apply mt_or | with_reducible apply mt_true | with_reducible apply mt_false | with_reducible apply mt_cmp | with_reducible apply mt_cmp2 | with_reducible apply m_not | with_reducible apply m_if | with_reducible apply m_and | with_reducible apply m_or | with_reducible apply ml_nil | with_reducible apply ml_cons | with_reducible apply m_tup | with_reducible apply m_list | with_reducible apply m_call | with_reducible apply m_meth | with_reducible apply m_slice | with_reducible apply m_comp | with_reducible apply m_comp2 | with_reducible apply mg_name | with_reducible apply mg_sub | with_reducible apply mg_tup | with_reducible apply MonoGs.nil | with_reducible apply MonoGs.cons | with_reducible apply mo_add | with_reducible apply mo_iadd | with_reducible apply mo_sub | with_reducible apply mo_mul | with_reducible apply mo_div | with_reducible apply mo_mod | with_reducible apply mo_neg | with_reducible apply mo_item | with_reducible apply mf_len | with_reducible apply mf_range | with_reducible apply mf_list | with_reducible apply mf_tuple | with_reducible apply mf_append | with_reducible apply mf_insert | with_reducible apply mf_pop | with_reducible apply mf_chr | with_reducible apply mf_sjoin | with_reducible apply mf_all | with_reducible apply mf_any | with_reducible apply mf_sum | with_reducible apply mf_min | with_reducible apply mo_fmt | with_reducible apply mo_mulis | with_reducible apply mf_divmod | with_reducible apply mf_abs | with_reducible apply mf_sindex | with_reducible apply mf_index | with_reducible apply mg_tupl | with_reducible apply m_isi | with_reducible apply mo_isint | with_reducible apply mo_islst | with_reducible apply mx_lift | with_reducible apply mx_bin | with_reducible apply mx_tup | with_reducible apply mxl_nil | with_reducible apply mxl_cons | with_reducible apply mox_item | with_reducible apply mox_sub | with_reducible apply mox_fmt | with_reducible apply m_f__law_row | with_reducible apply m_f__law_small | with_reducible apply m_f__law_tried | with_reducible apply m_f__law_wanted | with_reducible apply m_l_law_1 | with_reducible apply m_l_law_2
def f_law : AF := aFn [23] <|
    sCons (sAssign (gName 24) (aIf (tVal (aVar 23)) (aCall fList (lCons (aVar 23) (lNil))) (aList (lCons (aCst (.int 0)) (lNil))))) <|
    sCons (sFor (gName 25) (aCall fRange (lCons (aCall fLen (lCons (aVar 24) (lNil))) (lNil))) (l_law_3)) <|
    sCons (sRet (aCst (.bool true))) <|
    sNil
theorem s_law (c : Cx) (hd : fnRec prg 10 ∈ recsOf c.q) (h__law_row : SoundF (c.on NN NN_nodup) 2 (Str.ofString "_law_row") f__law_row) (h__law_small : SoundF (c.on NN NN_nodup) 1 (Str.ofString "_law_small") f__law_small) (h__law_tried : SoundFF (c.on NN NN_nodup) 2 (Str.ofString "_law_tried") f__law_tried) (h__law_wanted : SoundF (c.on NN NN_nodup) 3 (Str.ofString "_law_wanted") f__law_wanted) (b_abs : c.mg (Str.ofString "abs") = none) (b_len : c.mg (Str.ofString "len") = none) (b_list : c.mg (Str.ofString "list") = none) (b_range : c.mg (Str.ofString "range") = none) (b_tuple : c.mg (Str.ofString "tuple") = none) : SoundFT (c.on NN NN_nodup) 4 (Str.ofString "law") f_law :=
  sound_fn_top (c := c.on NN NN_nodup) (d := fnRec prg 10) (xs := [Str.ofString "script"]) hd (
    @block_cons _ _ _ _ _ _ _ (@stmt_assign _ _ _ _ _ _ _ _ (sound_if (test_val (sound_var rfl (hd := by decide) (hn := by decide)) (hv := fun _ _ => rfl)) (sound_bi bi_list rfl b_list (by decide +kernel) (by decide +kernel) (@list_consP _ _ _ _ _ _ _ (sound_var rfl (hd := by decide) (hn := by decide)) (list_nil) rfl) (by decide +kernel) (hd := by decide) (he' := fun _ => rfl) (hp := fun _ => rfl)) (@sound_list _ _ _ _ _ _ (@list_consP _ _ _ _ _ _ _ (sound_int) (list_nil) rfl))) (tgt_name rfl (.inr (by decide +kernel))) (fun _ _ => rfl) (fun _ _ => rfl) (fun _ => rfl)) <|
    @block_cons _ _ _ _ _ _ _ (stmt_for (sound_bi bi_range rfl b_range (by decide +kernel) (by decide +kernel) (@list_consP _ _ _ _ _ _ _ (sound_bi bi_len rfl b_len (by decide +kernel) (by decide +kernel) (@list_consP _ _ _ _ _ _ _ (sound_var rfl (hd := by decide) (hn := by decide)) (list_nil) rfl) (by decide +kernel) (hd := by decide) (he' := fun _ => rfl) (hp := fun _ => rfl)) (list_nil) rfl) (by decide +kernel) (hd := by decide) (he' := fun _ => rfl) (hp := fun _ => rfl)) (tgt_name rfl (.inr (by decide +kernel))) (@block_cons _ _ _ _ _ _ _ (stmt_assign_comp (sound_bi bi_range rfl b_range (by decide +kernel) (by decide +kernel) (@list_consP _ _ _ _ _ _ _ (sound_int) (list_nil) rfl) (by decide +kernel) (hd := by decide) (he' := fun _ => rfl) (hp := fun _ => rfl)) (tgt_name rfl (.inl (by decide +kernel))) (cond_nil) (@sound_sub _ _ _ _ _ _ _ _ (sound_var rfl (hd := by decide) (hn := by decide)) (@sound_bin _ _ _ _ _ _ _ _ _ _ op_mod (@sound_bin _ _ _ _ _ _ _ _ _ _ op_add (sound_var rfl (hd := by decide) (hn := by decide)) (sound_var rfl (hd := by decide) (hn := by decide))) (sound_bi bi_len rfl b_len (by decide +kernel) (by decide +kernel) (@list_consP _ _ _ _ _ _ _ (sound_var rfl (hd := by decide) (hn := by decide)) (list_nil) rfl) (by decide +kernel) (hd := by decide) (he' := fun _ => rfl) (hp := fun _ => rfl)))) (by show compChk NN _ _ _ = true; decide +kernel) rfl (by decide +kernel) (by decide +kernel) (hkind := rfl) (hf := fun _ _ => rfl) (hto := by first | exact .inl ⟨_, _, _, rfl⟩ | exact .inr fun _ _ => rfl)) <|
    @block_cons _ _ _ _ _ _ _ (@stmt_assign _ _ _ _ _ _ _ _ (sound_call h__law_row (@list_consP _ _ _ _ _ _ _ (sound_var rfl (hd := by decide) (hn := by decide)) (list_nil) rfl) (by decide +kernel) (by decide) (hd := by decide) (he' := fun _ => rfl)) (tgt_name rfl (.inl (by decide +kernel))) (fun _ _ => rfl) (fun _ _ => rfl) (fun _ => rfl)) <|
    @block_cons _ _ _ _ _ _ _ (@stmt_assign _ _ _ _ _ _ _ _ (sound_bi bi_list rfl b_list (by decide +kernel) (by decide +kernel) (@list_consP _ _ _ _ _ _ _ (sound_var rfl (hd := by decide) (hn := by decide)) (list_nil) rfl) (by decide +kernel) (hd := by decide) (he' := fun _ => rfl) (hp := fun _ => rfl)) (tgt_name rfl (.inl (by decide +kernel))) (fun _ _ => rfl) (fun _ _ => rfl) (fun _ => rfl)) <|
    @block_cons _ _ _ _ _ _ _ (@stmt_assign _ _ _ _ _ _ _ _ (@sound_list _ _ _ _ _ _ (@list_consP _ _ _ _ _ _ _ (sound_str (hx := rfl) (hy := rfl)) (@list_consP _ _ _ _ _ _ _ (sound_str (hx := rfl) (hy := rfl)) (@list_consP _ _ _ _ _ _ _ (sound_str (hx := rfl) (hy := rfl)) (@list_consP _ _ _ _ _ _ _ (sound_none) (@list_consP _ _ _ _ _ _ _ (sound_call h__law_small (@list_consP _ _ _ _ _ _ _ (@sound_sub _ _ _ _ _ _ _ _ (sound_var rfl (hd := by decide) (hn := by decide)) (sound_int)) (@list_consP _ _ _ _ _ _ _ (sound_int) (list_nil) rfl) rfl) (by decide +kernel) (by decide) (hd := by decide) (he' := fun _ => rfl)) (@list_consP _ _ _ _ _ _ _ (sound_str (hx := rfl) (hy := rfl)) (list_nil) rfl) rfl) rfl) rfl) rfl) rfl)) (tgt_name rfl (.inl (by decide +kernel))) (fun _ _ => rfl) (fun _ _ => rfl) (fun _ => rfl)) <|
    @block_cons _ _ _ _ _ _ _ (@stmt_assign _ _ _ _ _ _ _ _ (@sound_sub _ _ _ _ _ _ _ _ (sound_var rfl (hd := by decide) (hn := by decide)) (@sound_bin _ _ _ _ _ _ _ _ _ _ op_mod (sound_bi bi_abs rfl b_abs (by decide +kernel) (by decide +kernel) (@list_consP _ _ _ _ _ _ _ (@sound_sub _ _ _ _ _ _ _ _ (sound_var rfl (hd := by decide) (hn := by decide)) (sound_int)) (list_nil) rfl) (by decide +kernel) (hd := by decide) (he' := fun _ => rfl) (hp := fun _ => rfl)) (sound_int))) (tgt_name rfl (.inl (by decide +kernel))) (fun _ _ => rfl) (fun _ _ => rfl) (fun _ => rfl)) <|
    @block_cons _ _ _ _ _ _ _ (@stmt_assign _ _ _ _ _ _ _ _ (sound_if (test_cmp (@sound_bin _ _ _ _ _ _ _ _ _ _ op_mod (@sound_sub _ _ _ _ _ _ _ _ (sound_var rfl (hd := by decide) (hn := by decide)) (sound_int)) (sound_int)) (sound_int) (hm := by with_unfolding_all rfl)) (sound_bi bi_tuple rfl b_tuple (by decide +kernel) (by decide +kernel) (@list_consP _ _ _ _ _ _ _ (sound_var rfl (hd := by decide) (hn := by decide)) (list_nil) rfl) (by decide +kernel) (hd := by decide) (he' := fun _ => rfl) (hp := fun _ => rfl)) (sound_var rfl (hd := by decide) (hn := by decide))) (tgt_name rfl (.inl (by decide +kernel))) (fun _ _ => rfl) (fun _ _ => rfl) (fun _ => rfl)) <|
    @block_cons _ _ _ _ _ _ _ (stmt_if_tried h__law_tried rfl (@list_consP _ _ _ _ _ _ _ (sound_var rfl (hd := by decide) (hn := by decide)) (@list_consP _ _ _ _ _ _ _ (sound_var rfl (hd := by decide) (hn := by decide)) (list_nil) rfl) rfl) (sound_call h__law_wanted (@list_consP _ _ _ _ _ _ _ (sound_var rfl (hd := by decide) (hn := by decide)) (@list_consP _ _ _ _ _ _ _ (sound_var rfl (hd := by decide) (hn := by decide)) (list_nil) rfl) rfl) (by decide +kernel) (by decide) (hd := by decide) (he' := fun _ => rfl)) (@block_cons _ _ _ _ _ _ _ (@stmt_ret _ _ _ _ _ _ (sound_bool)) <|
    block_nil) (block_nil) (by decide +kernel) (by decide) (by decide) (fun _ => rfl) (by with_unfolding_all rfl)) <|
    @block_cons _ _ _ _ _ _ _ (stmt_if (test_cmp (sound_var rfl (hd := by decide) (hn := by decide)) (sound_var rfl (hd := by decide) (hn := by decide)) (hm := by with_unfolding_all rfl)) (@block_cons _ _ _ _ _ _ _ (@stmt_ret _ _ _ _ _ _ (sound_bool)) <|
    block_nil) (block_nil)) <|
    block_nil) (hf := fun _ _ => rfl) (ht := by first | exact .inl ⟨_, _, _, rfl⟩ | exact .inr fun _ _ => rfl)) <|
    @block_cons _ _ _ _ _ _ _ (@stmt_ret _ _ _ _ _ _ (sound_bool)) <|
    block_nil) rfl (by decide +kernel) (fun _ _ _ vs h => by obtain ⟨v0, rfl⟩ := len1 h; rfl) (by decide +kernel) (hco := rfl) (hgen := rfl) (hk := rfl)
end Mine
open PySem PySem.W PySem.Calls PyProof.Rows
set_option Elab.async false
set_option linter.unusedVariables false
set_option linter.unusedSimpArgs false
set_option maxRecDepth 100000
set_option maxHeartbeats 8000000
namespace Mine

local macro_rules | `(tactic| walk_at "st") => `(tactic| refine seq ?_)
-- figures
theorem sNil_next {Q : Fl → AEnv → AH → Prop} {ρ : AEnv} {H : AH} (h : Q .next ρ H) : sNil Q ρ H := h
def ab (n : Int) : Int := if n < 0 then -n else n
def sm (n b : Int) : Int := if n < 0 then -(ab n % b) else ab n % b
theorem small_spec {Q : PV → AH → Prop} {H : AH} {n b : Int} (hb : 0 < b) (h : Q (.int (sm n b)) H) : f__law_small [.int n, .int b] Q H := by
  refine fn rfl ?_
  walk_at "st"
  (try simp only [sCons, sNil, sAssign, sRet, sRet0, sIf, sExpr, sFor, sAugSub, sAug, sCont, gName, gSub, gTup, gTup.go, aVar, aCst, aBin, aUn, aIf, aTup, aList, lCons, lNil, aCall, aMeth, aCmp, aSlice, tCmp, tCmp2, tAnd, tOr, tNot, tVal, tTrue, tFalse, upd_at, if_true, if_false, Bool.false_eq_true, decide_true, decide_false, decide_eq_true_eq, opItem, opAdd, opIAdd, opSub, opMul, opDiv, opMod, opNeg, cmpOp, cmpLt, cmpIn, cmpIs, eq_int, eq_str, eq_bool, occ_one, truth, kList, kStr, fLen, fRange, fList, fTuple, fChr, fSJoin, fAll, fAny, fSum, fMin, fDivmod, fAbs, joinL_nil, fAppend, fInsert, fPop, withOwn, withItems, setAt, nth_zero, nth_one, nth_two, nth_last, kOk, bindP, List.length_cons, List.length_nil, List.isEmpty_cons, List.isEmpty_nil, List.map_nil, List.map_cons, Nat.reduceAdd, Nat.reduceEqDiff, Nat.succ_ne_self, Int.reduceNeg, Int.reduceLE, Int.reduceLT, Int.reduceEq, Int.cast_ofNat_Int, Int.toNat_zero, Int.toNat_one, Int.reduceToNat, Int.le_refl, List.getElem?_cons_zero, List.getElem?_cons_succ, reduceIte, reduceCtorEq, true_and, and_true, and_self, not_true_eq_false, not_false_eq_true, Bool.not_true, Bool.not_false, Bool.not_eq_true, Bool.not_eq_false, ne_eq, decide_not])
  refine ⟨hb, after_next ?_⟩
  walk_at "st"
  by_cases hn : n < 0
  · try simp only [eq_true hn, sNil, sAssign, sRet, sRet0, sIf, sExpr, sAugSub, sAug, sCont, gName, gSub, gTup, gTup.go, aVar, aCst, aBin, aUn, aIf, aTup, aList, lCons, lNil, aCall, aMeth, aCmp, aSlice, tCmp, tCmp2, tAnd, tOr, tNot, tVal, tTrue, tFalse, upd_at, if_true, if_false, Bool.false_eq_true, decide_true, decide_false, decide_eq_true_eq, opItem, opAdd, opIAdd, opSub, opMul, opDiv, opMod, opNeg, cmpOp, cmpLt, cmpIn, cmpIs, eq_int, eq_str, eq_bool, occ_one, truth, kList, kStr, fLen, fRange, fList, fTuple, fChr, fSJoin, fAll, fAny, fSum, fMin, fDivmod, fAbs, joinL_nil, fAppend, fInsert, fPop, withOwn, withItems, setAt, nth_zero, nth_one, nth_two, nth_last, kOk, bindP, List.length_cons, List.length_nil, List.isEmpty_cons, List.isEmpty_nil, List.map_nil, List.map_cons, Nat.reduceAdd, Nat.reduceEqDiff, Nat.succ_ne_self, Int.reduceNeg, Int.reduceLE, Int.reduceLT, Int.reduceEq, Int.cast_ofNat_Int, Int.toNat_zero, Int.toNat_one, Int.reduceToNat, Int.le_refl, List.getElem?_cons_zero, List.getElem?_cons_succ, reduceIte, reduceCtorEq, true_and, and_true, and_self, not_true_eq_false, not_false_eq_true, Bool.not_true, Bool.not_false, Bool.not_eq_true, Bool.not_eq_false, ne_eq, decide_not]
    refine after_ret (end_ret ?_)
    have e : sm n b = -(-n % b) := by simp [sm, ab, hn]
    rw [e] at h; exact h
  · try simp only [eq_false hn, sNil, sAssign, sRet, sRet0, sIf, sExpr, sAugSub, sAug, sCont, gName, gSub, gTup, gTup.go, aVar, aCst, aBin, aUn, aIf, aTup, aList, lCons, lNil, aCall, aMeth, aCmp, aSlice, tCmp, tCmp2, tAnd, tOr, tNot, tVal, tTrue, tFalse, upd_at, if_true, if_false, Bool.false_eq_true, decide_true, decide_false, decide_eq_true_eq, opItem, opAdd, opIAdd, opSub, opMul, opDiv, opMod, opNeg, cmpOp, cmpLt, cmpIn, cmpIs, eq_int, eq_str, eq_bool, occ_one, truth, kList, kStr, fLen, fRange, fList, fTuple, fChr, fSJoin, fAll, fAny, fSum, fMin, fDivmod, fAbs, joinL_nil, fAppend, fInsert, fPop, withOwn, withItems, setAt, nth_zero, nth_one, nth_two, nth_last, kOk, bindP, List.length_cons, List.length_nil, List.isEmpty_cons, List.isEmpty_nil, List.map_nil, List.map_cons, Nat.reduceAdd, Nat.reduceEqDiff, Nat.succ_ne_self, Int.reduceNeg, Int.reduceLE, Int.reduceLT, Int.reduceEq, Int.cast_ofNat_Int, Int.toNat_zero, Int.toNat_one, Int.reduceToNat, Int.le_refl, List.getElem?_cons_zero, List.getElem?_cons_succ, reduceIte, reduceCtorEq, true_and, and_true, and_self, not_true_eq_false, not_false_eq_true, Bool.not_true, Bool.not_false, Bool.not_eq_true, Bool.not_eq_false, ne_eq, decide_not]
    refine after_ret (end_ret ?_)
    have e : sm n b = n % b := by simp [sm, ab, hn]
    rw [e] at h; exact h
theorem sm_bound {n b : Int} (hb : 0 < b) : -b < sm n b ∧ sm n b < b := by
  unfold sm
  have h1 := Int.emod_nonneg (ab n) (show b ≠ 0 by omega)
  have h2 := Int.emod_lt_of_pos (ab n) hb
  split <;> omega
def pre (l : Nat) (f : List Nat) : List Nat := if l = 0 ∧ f ≠ [] then f else figs l ++ f
theorem pre_step {l : Nat} {f : List Nat} (h : 0 < l ∨ f = []) : pre (l / 10) ((48 + l % 10) :: f) = pre l f := by
  have e : pre l f = figs l ++ f := by
    unfold pre
    rw [if_neg]
    rintro ⟨h1, h2⟩
    rcases h with h | h
    · omega
    · exact h2 h
  rw [e, figs_rec]
  unfold pre
  by_cases h10 : l < 10
  · rw [if_pos h10, if_pos ⟨by omega, by simp⟩, Nat.mod_eq_of_lt h10]; simp
  · rw [if_neg h10, if_neg (fun q => by omega)]; simp
theorem dig_at {k : Nat} (h : k < 10) : nth [48, 49, 50, 51, 52, 53, 54, 55, 56, 57] ((k : Nat) : Int) = some (48 + k) := by
  have : k = 0 ∨ k = 1 ∨ k = 2 ∨ k = 3 ∨ k = 4 ∨ k = 5 ∨ k = 6 ∨ k = 7 ∨ k = 8 ∨ k = 9 := by omega
  rcases this with rfl | rfl | rfl | rfl | rfl | rfl | rfl | rfl | rfl | rfl <;> rfl
def tI (N : Nat) (ρ : AEnv) (H : AH) (k : Nat) (ρ' : AEnv) (H' : AH) : Prop := H' = H ∧ ∃ (l : Nat) (f : List Nat), k = l + (if f = [] then 1 else 0) ∧ (∀ j, j ≠ 7 → j ≠ 8 → j ≠ 9 → ρ' j = ρ j) ∧ ρ' 8 = some (.int l) ∧ ρ' 7 = some (.str f) ∧ pre l f = figs N
theorem pre_len {N l : Nat} {f : List Nat} (hN : N < 1000000000) (e : pre l f = figs N) (h : 0 < l ∨ f = []) : f.length ≤ 12 := by
  have e1 : figs l ++ f = figs N := by
    rw [← e]; unfold pre
    rw [if_neg]
    rintro ⟨h1, h2⟩
    rcases h with h | h
    · omega
    · exact h2 h
  have := figs_len 8 N (by omega)
  rw [← e1, List.length_append] at this
  omega
theorem tens_body {N : Nat} {ρ ρ' : AEnv} {H : AH} {l : Nat} {f : List Nat} {Q : Fl → AEnv → AH → Prop} (hN : N < 1000000000) (hk : ∀ j, j ≠ 7 → j ≠ 8 → j ≠ 9 → ρ' j = ρ j) (q8 : ρ' 8 = some (.int l)) (q7 : ρ' 7 = some (.str f)) (e : pre l f = figs N) (h : 0 < l ∨ f = [])
    (hQ : ∀ ρ2 j, j < l + (if f = [] then 1 else 0) → tI N ρ H j ρ2 H → Q .next ρ2 H) : l__law_figures_2 Q ρ' H := by
  have hl12 := pre_len hN e h
  have hd := dig_at (show l % 10 < 10 by omega)
  have e1 : ((l : Int) % 10) = ((l % 10 : Nat) : Int) := by omega
  have e2 : ((l : Int) / 10) = ((l / 10 : Nat) : Int) := by omega
  simp only [l__law_figures_2]
  walk_at "st"
  simp only [sAssign, aCall, lCons, lNil, aVar, q8, aCst, fDivmod, gTup, gTup.go, gName]
  rw [e1, e2]
  refine ⟨⟨by decide, by decide⟩, rfl, after_next ?_⟩
  walk_at "st"
  have p7 : upd (upd ρ' 8 (.int ((l / 10 : Nat) : Int))) 9 (.int ((l % 10 : Nat) : Int)) 7 = some (.str f) := by rw [upd_other _ _ (by decide), upd_other _ _ (by decide)]; exact q7
  have p8 : upd (upd ρ' 8 (.int ((l / 10 : Nat) : Int))) 9 (.int ((l % 10 : Nat) : Int)) 8 = some (.int ((l / 10 : Nat) : Int)) := by rw [upd_other _ _ (by decide), upd_same]
  have p9 : upd (upd ρ' 8 (.int ((l / 10 : Nat) : Int))) 9 (.int ((l % 10 : Nat) : Int)) 9 = some (.int ((l % 10 : Nat) : Int)) := upd_same _ _ _
  have pk : ∀ j, j ≠ 7 → j ≠ 8 → j ≠ 9 → upd (upd ρ' 8 (.int ((l / 10 : Nat) : Int))) 9 (.int ((l % 10 : Nat) : Int)) j = ρ j := fun j h7 h8 h9 => by rw [upd_other _ _ h9, upd_other _ _ h8]; exact hk j h7 h8 h9
  generalize upd (upd ρ' 8 (.int ((l / 10 : Nat) : Int))) 9 (.int ((l % 10 : Nat) : Int)) = ρ1 at *
  simp only [sAssign, aBin, aCst, aVar, p7, p9, opItem, hd, opAdd, gName]
  refine ⟨⟨by omega, by omega⟩, by simp only [szOk, List.length_append, List.length_cons, List.length_nil]; omega, after_next (sNil_next (hQ _ (l / 10) ?_ ⟨rfl, l / 10, (48 + l % 10) :: f, ?_, ?_, ?_, ?_, (pre_step h).trans e⟩))⟩
  · rcases h with h | h
    · split <;> omega
    · rw [if_pos h]; omega
  · rw [if_neg (fun q => nomatch q)]; rfl
  · intro j h7 h8 h9; rw [upd_other _ _ h7]; exact pk j h7 h8 h9
  · rw [upd_other _ _ (by decide)]; exact p8
  · rw [upd_same]; rfl
theorem tens_loop {Q : Fl → AEnv → AH → Prop} {ρ : AEnv} {H : AH} {N : Nat} (hN : N < 1000000000) (r8 : ρ 8 = some (.int N)) (r7 : ρ 7 = some (.str []))
    (hQ : ∀ ρ', (∀ k, k ≠ 7 → k ≠ 8 → k ≠ 9 → ρ' k = ρ k) → ρ' 7 = some (.str (figs N)) → Q .next ρ' H) :
    sWhile (tOr (tCmp .Gt (aVar 8) (aCst (.int 0))) (tOr (tCmp .Eq (aVar 7) (aCst (.str []))) (tFalse))) (l__law_figures_2) Q ρ H := by
  refine while_inv (mt_or (mt_cmp m_var m_cst) (mt_or (mt_cmp m_var m_cst) mt_false)) m_l__law_figures_2 (tI N ρ H) (N + 1) ⟨rfl, N, [], rfl, fun _ _ _ _ => rfl, r8, r7, ?_⟩ ?_
  · unfold pre
    rw [if_neg (fun q => q.2 rfl), List.append_nil]
  rintro k ρ' H' ⟨rfl, l, f, rfl, hk, q8, q7, e⟩
  by_cases h1 : 0 < l
  · have h1' : ((l : Int) > 0) = True := eq_true (by omega)
    simp only [tOr, tCmp, aVar, aCst, q8, cmpOp, cmpLt, h1', decide_true, if_true]
    exact tens_body hN hk q8 q7 e (.inl h1) fun ρ2 j hj hI => ⟨j, hj, hI⟩
  · have h1' : ((l : Int) > 0) = False := eq_false (by omega)
    by_cases h2 : f = []
    · have h2' : decide (f = []) = true := decide_eq_true h2
      simp only [tOr, tCmp, aVar, aCst, q8, q7, cmpOp, cmpLt, h1', decide_false, Bool.false_eq_true, if_false, eq_str]
      rw [h2', if_pos rfl, if_pos trivial]
      exact tens_body hN hk q8 q7 e (.inr h2) fun ρ2 j hj hI => ⟨j, hj, hI⟩
    · have h2' : decide (f = []) = false := decide_eq_false h2
      simp only [tOr, tCmp, tFalse, aVar, aCst, q8, q7, cmpOp, cmpLt, h1', decide_false, Bool.false_eq_true, if_false, eq_str]
      rw [h2', if_neg Bool.false_ne_true]
      refine hQ ρ' hk ?_
      rw [q7, ← e]
      unfold pre
      rw [if_pos ⟨by omega, h2⟩]
-- the width
def wI (sl w : Nat) (g : List Nat) (ρ : AEnv) (H : AH) (k : Nat) (ρ' : AEnv) (H' : AH) : Prop := H' = H ∧ ∃ j : Nat, k = w - (sl + (j + g.length)) ∧ (∀ i, i ≠ 7 → ρ' i = ρ i) ∧ ρ' 7 = some (.str (List.replicate j 48 ++ g)) ∧ (j = 0 ∨ sl + (j + g.length) ≤ w)
theorem wide_loop {Q : Fl → AEnv → AH → Prop} {ρ : AEnv} {H : AH} {sg g : List Nat} {w : Nat} (hw : w ≤ 10) (hg : g.length ≤ 20) (hs : sg.length ≤ 1) (r5 : ρ 5 = some (.int w)) (r6 : ρ 6 = some (.str sg)) (r7 : ρ 7 = some (.str g))
    (hQ : ∀ ρ', (∀ k, k ≠ 7 → ρ' k = ρ k) → ρ' 7 = some (.str (List.replicate (w - sg.length - g.length) 48 ++ g)) → Q .next ρ' H) :
    sWhile (tCmp .Lt (aBin opAdd (aCall fLen (lCons (aVar 6) (lNil))) (aCall fLen (lCons (aVar 7) (lNil)))) (aVar 5)) (l__law_figures_1) Q ρ H := by
  refine while_inv (mt_cmp (m_bin mo_add (m_call mf_len (ml_cons m_var ml_nil)) (m_call mf_len (ml_cons m_var ml_nil))) m_var) m_l__law_figures_1 (wI sg.length w g ρ H) _ ⟨rfl, 0, rfl, fun _ _ => rfl, by rw [r7]; rfl, .inl rfl⟩ ?_
  rintro k ρ' H' ⟨rfl, j, rfl, hk, q7, hj⟩
  have q6 : ρ' 6 = some (.str sg) := by rw [hk 6 (by decide)]; exact r6
  have q5 : ρ' 5 = some (.int w) := by rw [hk 5 (by decide)]; exact r5
  have hlen : (List.replicate j 48 ++ g).length = j + g.length := by simp
  have hj10 : j ≤ 10 := by omega
  simp only [tCmp, aBin, aCall, lCons, lNil, aVar, q5, q6, q7, fLen, opAdd, cmpOp, cmpLt]
  refine ⟨by simp only [szOk]; omega, by rw [hlen]; simp only [szOk]; omega, ?_⟩
  rw [hlen]
  by_cases hlt : sg.length + (j + g.length) < w
  · have h' : decide (((sg.length : Nat) : Int) + ((j + g.length : Nat) : Int) < (w : Int)) = true := decide_eq_true (by omega)
    refine cast (if_pos h').symm ?_
    simp only [l__law_figures_1]
    walk_at "st"
    simp only [sAssign, aBin, aCst, aVar, q7, opAdd, gName]
    refine ⟨by simp only [szOk, hlen, List.length_append, List.length_cons, List.length_nil]; simp; omega, after_next (sNil_next ⟨w - (sg.length + (j + 1 + g.length)), by omega, rfl, j + 1, rfl, fun i hi => by rw [upd_other _ _ hi]; exact hk i hi, ?_, .inr (by omega)⟩)⟩
    rw [upd_same, List.replicate_succ]; rfl
  · have h' : decide (((sg.length : Nat) : Int) + ((j + g.length : Nat) : Int) < (w : Int)) = false := decide_eq_false (by omega)
    refine cast (if_neg (fun q => Bool.false_ne_true (h'.symm.trans q))).symm ?_
    refine hQ ρ' hk ?_
    have : w - sg.length - g.length = j := by omega
    rw [q7, this]
theorem figures_spec {Q : PV → AH → Prop} {H : AH} {n : Int} {w : Nat} (hn : smI n) (hw : w ≤ 10) (h : Q (.str (padI w n)) H) : f__law_figures [.int n, .int w] Q H := by
  refine fn rfl ?_
  have hN : n.natAbs < 1000000000 := by have := hn.1; have := hn.2; omega
  have eN : (if n < 0 then -n else n) = ((n.natAbs : Nat) : Int) := by split <;> omega
  have hlen := figs_len 8 n.natAbs (by omega)
  walk_at "st"
  (try simp only [sCons, sNil, sAssign, sRet, sRet0, sIf, sExpr, sFor, sAugSub, sAug, sCont, gName, gSub, gTup, gTup.go, aVar, aCst, aBin, aUn, aIf, aTup, aList, lCons, lNil, aCall, aMeth, aCmp, aSlice, tCmp, tCmp2, tAnd, tOr, tNot, tVal, tTrue, tFalse, upd_at, if_true, if_false, Bool.false_eq_true, decide_true, decide_false, decide_eq_true_eq, opItem, opAdd, opIAdd, opSub, opMul, opDiv, opMod, opNeg, cmpOp, cmpLt, cmpIn, cmpIs, eq_int, eq_str, eq_bool, occ_one, truth, kList, kStr, fLen, fRange, fList, fTuple, fChr, fSJoin, fAll, fAny, fSum, fMin, fDivmod, fAbs, joinL_nil, fAppend, fInsert, fPop, withOwn, withItems, setAt, nth_zero, nth_one, nth_two, nth_last, kOk, bindP, List.length_cons, List.length_nil, List.isEmpty_cons, List.isEmpty_nil, List.map_nil, List.map_cons, Nat.reduceAdd, Nat.reduceEqDiff, Nat.succ_ne_self, Int.reduceNeg, Int.reduceLE, Int.reduceLT, Int.reduceEq, Int.cast_ofNat_Int, Int.toNat_zero, Int.toNat_one, Int.reduceToNat, Int.le_refl, List.getElem?_cons_zero, List.getElem?_cons_succ, reduceIte, reduceCtorEq, true_and, and_true, and_self, not_true_eq_false, not_false_eq_true, Bool.not_true, Bool.not_false, Bool.not_eq_true, Bool.not_eq_false, ne_eq, decide_not])
  rw [eN]
  refine after_next ?_
  walk_at "st"
  (try simp only [sCons, sNil, sAssign, sRet, sRet0, sIf, sExpr, sFor, sAugSub, sAug, sCont, gName, gSub, gTup, gTup.go, aVar, aCst, aBin, aUn, aIf, aTup, aList, lCons, lNil, aCall, aMeth, aCmp, aSlice, tCmp, tCmp2, tAnd, tOr, tNot, tVal, tTrue, tFalse, upd_at, if_true, if_false, Bool.false_eq_true, decide_true, decide_false, decide_eq_true_eq, opItem, opAdd, opIAdd, opSub, opMul, opDiv, opMod, opNeg, cmpOp, cmpLt, cmpIn, cmpIs, eq_int, eq_str, eq_bool, occ_one, truth, kList, kStr, fLen, fRange, fList, fTuple, fChr, fSJoin, fAll, fAny, fSum, fMin, fDivmod, fAbs, joinL_nil, fAppend, fInsert, fPop, withOwn, withItems, setAt, nth_zero, nth_one, nth_two, nth_last, kOk, bindP, List.length_cons, List.length_nil, List.isEmpty_cons, List.isEmpty_nil, List.map_nil, List.map_cons, Nat.reduceAdd, Nat.reduceEqDiff, Nat.succ_ne_self, Int.reduceNeg, Int.reduceLE, Int.reduceLT, Int.reduceEq, Int.cast_ofNat_Int, Int.toNat_zero, Int.toNat_one, Int.reduceToNat, Int.le_refl, List.getElem?_cons_zero, List.getElem?_cons_succ, reduceIte, reduceCtorEq, true_and, and_true, and_self, not_true_eq_false, not_false_eq_true, Bool.not_true, Bool.not_false, Bool.not_eq_true, Bool.not_eq_false, ne_eq, decide_not])
  refine after_next ?_
  walk_at "st"
  refine tens_loop hN (by simp [upd_at]) (by simp [upd_at]) fun ρ1 hk1 q7 => after_next ?_
  have q2 : ρ1 2 = some (.int n) := by rw [hk1 2 (by decide) (by decide) (by decide)]; simp [upd_at]
  have q5 : ρ1 5 = some (.int w) := by rw [hk1 5 (by decide) (by decide) (by decide)]; simp [upd_at]
  clear hk1
  walk_at "st"
  by_cases hneg : n < 0
  · try simp only [q2, eq_true hneg, sNil, sAssign, sRet, sRet0, sIf, sExpr, sAugSub, sAug, sCont, gName, gSub, gTup, gTup.go, aVar, aCst, aBin, aUn, aIf, aTup, aList, lCons, lNil, aCall, aMeth, aCmp, aSlice, tCmp, tCmp2, tAnd, tOr, tNot, tVal, tTrue, tFalse, upd_at, if_true, if_false, Bool.false_eq_true, decide_true, decide_false, decide_eq_true_eq, opItem, opAdd, opIAdd, opSub, opMul, opDiv, opMod, opNeg, cmpOp, cmpLt, cmpIn, cmpIs, eq_int, eq_str, eq_bool, occ_one, truth, kList, kStr, fLen, fRange, fList, fTuple, fChr, fSJoin, fAll, fAny, fSum, fMin, fDivmod, fAbs, joinL_nil, fAppend, fInsert, fPop, withOwn, withItems, setAt, nth_zero, nth_one, nth_two, nth_last, kOk, bindP, List.length_cons, List.length_nil, List.isEmpty_cons, List.isEmpty_nil, List.map_nil, List.map_cons, Nat.reduceAdd, Nat.reduceEqDiff, Nat.succ_ne_self, Int.reduceNeg, Int.reduceLE, Int.reduceLT, Int.reduceEq, Int.cast_ofNat_Int, Int.toNat_zero, Int.toNat_one, Int.reduceToNat, Int.le_refl, List.getElem?_cons_zero, List.getElem?_cons_succ, reduceIte, reduceCtorEq, true_and, and_true, and_self, not_true_eq_false, not_false_eq_true, Bool.not_true, Bool.not_false, Bool.not_eq_true, Bool.not_eq_false, ne_eq, decide_not]
    refine after_next ?_
    walk_at "st"
    refine wide_loop (sg := [45]) (g := figs n.natAbs) (w := w) hw (by omega) (by simp) (by rw [upd_other _ _ (by decide)]; exact q5) (upd_same _ _ _) (by rw [upd_other _ _ (by decide)]; exact q7) fun ρ2 hk2 p7 => after_next ?_
    have p6 : ρ2 6 = some (.str [45]) := by rw [hk2 6 (by decide)]; exact upd_same _ _ _
    walk_at "st"
    try simp only [p6, p7, sNil, sAssign, sRet, sRet0, sIf, sExpr, sAugSub, sAug, sCont, gName, gSub, gTup, gTup.go, aVar, aCst, aBin, aUn, aIf, aTup, aList, lCons, lNil, aCall, aMeth, aCmp, aSlice, tCmp, tCmp2, tAnd, tOr, tNot, tVal, tTrue, tFalse, upd_at, if_true, if_false, Bool.false_eq_true, decide_true, decide_false, decide_eq_true_eq, opItem, opAdd, opIAdd, opSub, opMul, opDiv, opMod, opNeg, cmpOp, cmpLt, cmpIn, cmpIs, eq_int, eq_str, eq_bool, occ_one, truth, kList, kStr, fLen, fRange, fList, fTuple, fChr, fSJoin, fAll, fAny, fSum, fMin, fDivmod, fAbs, joinL_nil, fAppend, fInsert, fPop, withOwn, withItems, setAt, nth_zero, nth_one, nth_two, nth_last, kOk, bindP, List.length_cons, List.length_nil, List.isEmpty_cons, List.isEmpty_nil, List.map_nil, List.map_cons, Nat.reduceAdd, Nat.reduceEqDiff, Nat.succ_ne_self, Int.reduceNeg, Int.reduceLE, Int.reduceLT, Int.reduceEq, Int.cast_ofNat_Int, Int.toNat_zero, Int.toNat_one, Int.reduceToNat, Int.le_refl, List.getElem?_cons_zero, List.getElem?_cons_succ, reduceIte, reduceCtorEq, true_and, and_true, and_self, not_true_eq_false, not_false_eq_true, Bool.not_true, Bool.not_false, Bool.not_eq_true, Bool.not_eq_false, ne_eq, decide_not]
    have e : padI w n = [45] ++ (List.replicate (w - [45].length - (figs n.natAbs).length) 48 ++ figs n.natAbs) := by
      unfold padI padL
      rw [decide_eq_true hneg, if_pos rfl]; rfl
    rw [e] at h
    refine ⟨?_, after_ret (end_ret h)⟩
    simp only [szOk, List.length_append, List.length_replicate, List.length_cons, List.length_nil]; omega
  · try simp only [q2, eq_false hneg, sNil, sAssign, sRet, sRet0, sIf, sExpr, sAugSub, sAug, sCont, gName, gSub, gTup, gTup.go, aVar, aCst, aBin, aUn, aIf, aTup, aList, lCons, lNil, aCall, aMeth, aCmp, aSlice, tCmp, tCmp2, tAnd, tOr, tNot, tVal, tTrue, tFalse, upd_at, if_true, if_false, Bool.false_eq_true, decide_true, decide_false, decide_eq_true_eq, opItem, opAdd, opIAdd, opSub, opMul, opDiv, opMod, opNeg, cmpOp, cmpLt, cmpIn, cmpIs, eq_int, eq_str, eq_bool, occ_one, truth, kList, kStr, fLen, fRange, fList, fTuple, fChr, fSJoin, fAll, fAny, fSum, fMin, fDivmod, fAbs, joinL_nil, fAppend, fInsert, fPop, withOwn, withItems, setAt, nth_zero, nth_one, nth_two, nth_last, kOk, bindP, List.length_cons, List.length_nil, List.isEmpty_cons, List.isEmpty_nil, List.map_nil, List.map_cons, Nat.reduceAdd, Nat.reduceEqDiff, Nat.succ_ne_self, Int.reduceNeg, Int.reduceLE, Int.reduceLT, Int.reduceEq, Int.cast_ofNat_Int, Int.toNat_zero, Int.toNat_one, Int.reduceToNat, Int.le_refl, List.getElem?_cons_zero, List.getElem?_cons_succ, reduceIte, reduceCtorEq, true_and, and_true, and_self, not_true_eq_false, not_false_eq_true, Bool.not_true, Bool.not_false, Bool.not_eq_true, Bool.not_eq_false, ne_eq, decide_not]
    refine after_next ?_
    walk_at "st"
    refine wide_loop (sg := []) (g := figs n.natAbs) (w := w) hw (by omega) (by simp) (by rw [upd_other _ _ (by decide)]; exact q5) (upd_same _ _ _) (by rw [upd_other _ _ (by decide)]; exact q7) fun ρ2 hk2 p7 => after_next ?_
    have p6 : ρ2 6 = some (.str []) := by rw [hk2 6 (by decide)]; exact upd_same _ _ _
    walk_at "st"
    try simp only [p6, p7, sNil, sAssign, sRet, sRet0, sIf, sExpr, sAugSub, sAug, sCont, gName, gSub, gTup, gTup.go, aVar, aCst, aBin, aUn, aIf, aTup, aList, lCons, lNil, aCall, aMeth, aCmp, aSlice, tCmp, tCmp2, tAnd, tOr, tNot, tVal, tTrue, tFalse, upd_at, if_true, if_false, Bool.false_eq_true, decide_true, decide_false, decide_eq_true_eq, opItem, opAdd, opIAdd, opSub, opMul, opDiv, opMod, opNeg, cmpOp, cmpLt, cmpIn, cmpIs, eq_int, eq_str, eq_bool, occ_one, truth, kList, kStr, fLen, fRange, fList, fTuple, fChr, fSJoin, fAll, fAny, fSum, fMin, fDivmod, fAbs, joinL_nil, fAppend, fInsert, fPop, withOwn, withItems, setAt, nth_zero, nth_one, nth_two, nth_last, kOk, bindP, List.length_cons, List.length_nil, List.isEmpty_cons, List.isEmpty_nil, List.map_nil, List.map_cons, Nat.reduceAdd, Nat.reduceEqDiff, Nat.succ_ne_self, Int.reduceNeg, Int.reduceLE, Int.reduceLT, Int.reduceEq, Int.cast_ofNat_Int, Int.toNat_zero, Int.toNat_one, Int.reduceToNat, Int.le_refl, List.getElem?_cons_zero, List.getElem?_cons_succ, reduceIte, reduceCtorEq, true_and, and_true, and_self, not_true_eq_false, not_false_eq_true, Bool.not_true, Bool.not_false, Bool.not_eq_true, Bool.not_eq_false, ne_eq, decide_not]
    have e : padI w n = [] ++ (List.replicate (w - ([] : List Nat).length - (figs n.natAbs).length) 48 ++ figs n.natAbs) := by
      unfold padI padL
      rw [decide_eq_false hneg, if_neg Bool.false_ne_true]; rfl
    rw [e] at h
    refine ⟨?_, after_ret (end_ret h)⟩
    simp only [szOk, List.length_append, List.length_replicate, List.length_nil]; omega
-- kinds, zones, rows
theorem figs_ne (n : Nat) : 1 ≤ (figs n).length := by
  rw [figs_rec]; split <;> simp
theorem pad_one (n : Int) : padI 1 n = padI 0 n := by
  have := figs_ne n.natAbs
  unfold padI padL
  split
  · simp
  · rw [show 1 - (figs n.natAbs).length = 0 - (figs n.natAbs).length by omega]
theorem codes_none : codes "NoneType" = [78, 111, 110, 101, 84, 121, 112, 101] := by decide +kernel
theorem codes_str : codes "str" = [115, 116, 114] := by decide +kernel
theorem kind_spec {Q : PV → AH → Prop} {H : AH} {p : PV} {T : String} (hc : CellP p none T) (h : Q (.str (codes T)) H) : f__law_kind [p] Q H := by
  refine fn rfl ?_
  walk_at "st"
  cases hc with
  | none => rw [codes_none] at h; (try simp only [sCons, sNil, sAssign, sRet, sRet0, sIf, sExpr, sFor, sAugSub, sAug, sCont, gName, gSub, gTup, gTup.go, aVar, aCst, aBin, aUn, aIf, aTup, aList, lCons, lNil, aCall, aMeth, aCmp, aSlice, tCmp, tCmp2, tAnd, tOr, tNot, tVal, tTrue, tFalse, upd_at, if_true, if_false, Bool.false_eq_true, decide_true, decide_false, decide_eq_true_eq, opItem, opAdd, opIAdd, opSub, opMul, opDiv, opMod, opNeg, cmpOp, cmpLt, cmpIn, cmpIs, eq_int, eq_str, eq_bool, occ_one, truth, kList, kStr, fLen, fRange, fList, fTuple, fChr, fSJoin, fAll, fAny, fSum, fMin, fDivmod, fAbs, joinL_nil, fAppend, fInsert, fPop, withOwn, withItems, setAt, nth_zero, nth_one, nth_two, nth_last, kOk, bindP, List.length_cons, List.length_nil, List.isEmpty_cons, List.isEmpty_nil, List.map_nil, List.map_cons, Nat.reduceAdd, Nat.reduceEqDiff, Nat.succ_ne_self, Int.reduceNeg, Int.reduceLE, Int.reduceLT, Int.reduceEq, Int.cast_ofNat_Int, Int.toNat_zero, Int.toNat_one, Int.reduceToNat, Int.le_refl, List.getElem?_cons_zero, List.getElem?_cons_succ, reduceIte, reduceCtorEq, true_and, and_true, and_self, not_true_eq_false, not_false_eq_true, Bool.not_true, Bool.not_false, Bool.not_eq_true, Bool.not_eq_false, ne_eq, decide_not]); exact after_ret (end_ret h)
  | str z => rw [codes_str] at h; (try simp only [sCons, sNil, sAssign, sRet, sRet0, sIf, sExpr, sFor, sAugSub, sAug, sCont, gName, gSub, gTup, gTup.go, aVar, aCst, aBin, aUn, aIf, aTup, aList, lCons, lNil, aCall, aMeth, aCmp, aSlice, tCmp, tCmp2, tAnd, tOr, tNot, tVal, tTrue, tFalse, upd_at, if_true, if_false, Bool.false_eq_true, decide_true, decide_false, decide_eq_true_eq, opItem, opAdd, opIAdd, opSub, opMul, opDiv, opMod, opNeg, cmpOp, cmpLt, cmpIn, cmpIs, eq_int, eq_str, eq_bool, occ_one, truth, kList, kStr, fLen, fRange, fList, fTuple, fChr, fSJoin, fAll, fAny, fSum, fMin, fDivmod, fAbs, joinL_nil, fAppend, fInsert, fPop, withOwn, withItems, setAt, nth_zero, nth_one, nth_two, nth_last, kOk, bindP, List.length_cons, List.length_nil, List.isEmpty_cons, List.isEmpty_nil, List.map_nil, List.map_cons, Nat.reduceAdd, Nat.reduceEqDiff, Nat.succ_ne_self, Int.reduceNeg, Int.reduceLE, Int.reduceLT, Int.reduceEq, Int.cast_ofNat_Int, Int.toNat_zero, Int.toNat_one, Int.reduceToNat, Int.le_refl, List.getElem?_cons_zero, List.getElem?_cons_succ, reduceIte, reduceCtorEq, true_and, and_true, and_self, not_true_eq_false, not_false_eq_true, Bool.not_true, Bool.not_false, Bool.not_eq_true, Bool.not_eq_false, ne_eq, decide_not]); exact after_ret (end_ret h)
theorem shown_spec {Q : PV → AH → Prop} {H : AH} {z : PV} {zz : List Nat} (hz : ShownP z zz) (h : Q (.str zz) H) : f__law_shown [z] Q H := by
  refine fn rfl ?_
  walk_at "st"
  cases hz with
  | none =>
    (try simp only [sCons, sNil, sAssign, sRet, sRet0, sIf, sExpr, sFor, sAugSub, sAug, sCont, gName, gSub, gTup, gTup.go, aVar, aCst, aBin, aUn, aIf, aTup, aList, lCons, lNil, aCall, aMeth, aCmp, aSlice, tCmp, tCmp2, tAnd, tOr, tNot, tVal, tTrue, tFalse, upd_at, if_true, if_false, Bool.false_eq_true, decide_true, decide_false, decide_eq_true_eq, opItem, opAdd, opIAdd, opSub, opMul, opDiv, opMod, opNeg, cmpOp, cmpLt, cmpIn, cmpIs, eq_int, eq_str, eq_bool, occ_one, truth, kList, kStr, fLen, fRange, fList, fTuple, fChr, fSJoin, fAll, fAny, fSum, fMin, fDivmod, fAbs, joinL_nil, fAppend, fInsert, fPop, withOwn, withItems, setAt, nth_zero, nth_one, nth_two, nth_last, kOk, bindP, List.length_cons, List.length_nil, List.isEmpty_cons, List.isEmpty_nil, List.map_nil, List.map_cons, Nat.reduceAdd, Nat.reduceEqDiff, Nat.succ_ne_self, Int.reduceNeg, Int.reduceLE, Int.reduceLT, Int.reduceEq, Int.cast_ofNat_Int, Int.toNat_zero, Int.toNat_one, Int.reduceToNat, Int.le_refl, List.getElem?_cons_zero, List.getElem?_cons_succ, reduceIte, reduceCtorEq, true_and, and_true, and_self, not_true_eq_false, not_false_eq_true, Bool.not_true, Bool.not_false, Bool.not_eq_true, Bool.not_eq_false, ne_eq, decide_not])
    simp only [l__law_shown_2]
    walk_at "st"
    (try simp only [sCons, sNil, sAssign, sRet, sRet0, sIf, sExpr, sFor, sAugSub, sAug, sCont, gName, gSub, gTup, gTup.go, aVar, aCst, aBin, aUn, aIf, aTup, aList, lCons, lNil, aCall, aMeth, aCmp, aSlice, tCmp, tCmp2, tAnd, tOr, tNot, tVal, tTrue, tFalse, upd_at, if_true, if_false, Bool.false_eq_true, decide_true, decide_false, decide_eq_true_eq, opItem, opAdd, opIAdd, opSub, opMul, opDiv, opMod, opNeg, cmpOp, cmpLt, cmpIn, cmpIs, eq_int, eq_str, eq_bool, occ_one, truth, kList, kStr, fLen, fRange, fList, fTuple, fChr, fSJoin, fAll, fAny, fSum, fMin, fDivmod, fAbs, joinL_nil, fAppend, fInsert, fPop, withOwn, withItems, setAt, nth_zero, nth_one, nth_two, nth_last, kOk, bindP, List.length_cons, List.length_nil, List.isEmpty_cons, List.isEmpty_nil, List.map_nil, List.map_cons, Nat.reduceAdd, Nat.reduceEqDiff, Nat.succ_ne_self, Int.reduceNeg, Int.reduceLE, Int.reduceLT, Int.reduceEq, Int.cast_ofNat_Int, Int.toNat_zero, Int.toNat_one, Int.reduceToNat, Int.le_refl, List.getElem?_cons_zero, List.getElem?_cons_succ, reduceIte, reduceCtorEq, true_and, and_true, and_self, not_true_eq_false, not_false_eq_true, Bool.not_true, Bool.not_false, Bool.not_eq_true, Bool.not_eq_false, ne_eq, decide_not])
    exact after_ret (after_ret (end_ret h))
  | int n hn =>
    (try simp only [sCons, sNil, sAssign, sRet, sRet0, sIf, sExpr, sFor, sAugSub, sAug, sCont, gName, gSub, gTup, gTup.go, aVar, aCst, aBin, aUn, aIf, aTup, aList, lCons, lNil, aCall, aMeth, aCmp, aSlice, tCmp, tCmp2, tAnd, tOr, tNot, tVal, tTrue, tFalse, upd_at, if_true, if_false, Bool.false_eq_true, decide_true, decide_false, decide_eq_true_eq, opItem, opAdd, opIAdd, opSub, opMul, opDiv, opMod, opNeg, cmpOp, cmpLt, cmpIn, cmpIs, eq_int, eq_str, eq_bool, occ_one, truth, kList, kStr, fLen, fRange, fList, fTuple, fChr, fSJoin, fAll, fAny, fSum, fMin, fDivmod, fAbs, joinL_nil, fAppend, fInsert, fPop, withOwn, withItems, setAt, nth_zero, nth_one, nth_two, nth_last, kOk, bindP, List.length_cons, List.length_nil, List.isEmpty_cons, List.isEmpty_nil, List.map_nil, List.map_cons, Nat.reduceAdd, Nat.reduceEqDiff, Nat.succ_ne_self, Int.reduceNeg, Int.reduceLE, Int.reduceLT, Int.reduceEq, Int.cast_ofNat_Int, Int.toNat_zero, Int.toNat_one, Int.reduceToNat, Int.le_refl, List.getElem?_cons_zero, List.getElem?_cons_succ, reduceIte, reduceCtorEq, true_and, and_true, and_self, not_true_eq_false, not_false_eq_true, Bool.not_true, Bool.not_false, Bool.not_eq_true, Bool.not_eq_false, ne_eq, decide_not])
    refine after_next ?_
    walk_at "st"
    try simp only [aIsi, isInt, sNil, sAssign, sRet, sRet0, sIf, sExpr, sAugSub, sAug, sCont, gName, gSub, gTup, gTup.go, aVar, aCst, aBin, aUn, aIf, aTup, aList, lCons, lNil, aCall, aMeth, aCmp, aSlice, tCmp, tCmp2, tAnd, tOr, tNot, tVal, tTrue, tFalse, upd_at, if_true, if_false, Bool.false_eq_true, decide_true, decide_false, decide_eq_true_eq, opItem, opAdd, opIAdd, opSub, opMul, opDiv, opMod, opNeg, cmpOp, cmpLt, cmpIn, cmpIs, eq_int, eq_str, eq_bool, occ_one, truth, kList, kStr, fLen, fRange, fList, fTuple, fChr, fSJoin, fAll, fAny, fSum, fMin, fDivmod, fAbs, joinL_nil, fAppend, fInsert, fPop, withOwn, withItems, setAt, nth_zero, nth_one, nth_two, nth_last, kOk, bindP, List.length_cons, List.length_nil, List.isEmpty_cons, List.isEmpty_nil, List.map_nil, List.map_cons, Nat.reduceAdd, Nat.reduceEqDiff, Nat.succ_ne_self, Int.reduceNeg, Int.reduceLE, Int.reduceLT, Int.reduceEq, Int.cast_ofNat_Int, Int.toNat_zero, Int.toNat_one, Int.reduceToNat, Int.le_refl, List.getElem?_cons_zero, List.getElem?_cons_succ, reduceIte, reduceCtorEq, true_and, and_true, and_self, not_true_eq_false, not_false_eq_true, Bool.not_true, Bool.not_false, Bool.not_eq_true, Bool.not_eq_false, ne_eq, decide_not]
    simp only [l__law_shown_1]
    walk_at "st"
    (try simp only [sCons, sNil, sAssign, sRet, sRet0, sIf, sExpr, sFor, sAugSub, sAug, sCont, gName, gSub, gTup, gTup.go, aVar, aCst, aBin, aUn, aIf, aTup, aList, lCons, lNil, aCall, aMeth, aCmp, aSlice, tCmp, tCmp2, tAnd, tOr, tNot, tVal, tTrue, tFalse, upd_at, if_true, if_false, Bool.false_eq_true, decide_true, decide_false, decide_eq_true_eq, opItem, opAdd, opIAdd, opSub, opMul, opDiv, opMod, opNeg, cmpOp, cmpLt, cmpIn, cmpIs, eq_int, eq_str, eq_bool, occ_one, truth, kList, kStr, fLen, fRange, fList, fTuple, fChr, fSJoin, fAll, fAny, fSum, fMin, fDivmod, fAbs, joinL_nil, fAppend, fInsert, fPop, withOwn, withItems, setAt, nth_zero, nth_one, nth_two, nth_last, kOk, bindP, List.length_cons, List.length_nil, List.isEmpty_cons, List.isEmpty_nil, List.map_nil, List.map_cons, Nat.reduceAdd, Nat.reduceEqDiff, Nat.succ_ne_self, Int.reduceNeg, Int.reduceLE, Int.reduceLT, Int.reduceEq, Int.cast_ofNat_Int, Int.toNat_zero, Int.toNat_one, Int.reduceToNat, Int.le_refl, List.getElem?_cons_zero, List.getElem?_cons_succ, reduceIte, reduceCtorEq, true_and, and_true, and_self, not_true_eq_false, not_false_eq_true, Bool.not_true, Bool.not_false, Bool.not_eq_true, Bool.not_eq_false, ne_eq, decide_not])
    refine figures_spec (w := 1) hn (by decide) ?_
    rw [pad_one]
    exact after_ret (after_ret (end_ret h))
  | str z hl =>
    (try simp only [sCons, sNil, sAssign, sRet, sRet0, sIf, sExpr, sFor, sAugSub, sAug, sCont, gName, gSub, gTup, gTup.go, aVar, aCst, aBin, aUn, aIf, aTup, aList, lCons, lNil, aCall, aMeth, aCmp, aSlice, tCmp, tCmp2, tAnd, tOr, tNot, tVal, tTrue, tFalse, upd_at, if_true, if_false, Bool.false_eq_true, decide_true, decide_false, decide_eq_true_eq, opItem, opAdd, opIAdd, opSub, opMul, opDiv, opMod, opNeg, cmpOp, cmpLt, cmpIn, cmpIs, eq_int, eq_str, eq_bool, occ_one, truth, kList, kStr, fLen, fRange, fList, fTuple, fChr, fSJoin, fAll, fAny, fSum, fMin, fDivmod, fAbs, joinL_nil, fAppend, fInsert, fPop, withOwn, withItems, setAt, nth_zero, nth_one, nth_two, nth_last, kOk, bindP, List.length_cons, List.length_nil, List.isEmpty_cons, List.isEmpty_nil, List.map_nil, List.map_cons, Nat.reduceAdd, Nat.reduceEqDiff, Nat.succ_ne_self, Int.reduceNeg, Int.reduceLE, Int.reduceLT, Int.reduceEq, Int.cast_ofNat_Int, Int.toNat_zero, Int.toNat_one, Int.reduceToNat, Int.le_refl, List.getElem?_cons_zero, List.getElem?_cons_succ, reduceIte, reduceCtorEq, true_and, and_true, and_self, not_true_eq_false, not_false_eq_true, Bool.not_true, Bool.not_false, Bool.not_eq_true, Bool.not_eq_false, ne_eq, decide_not])
    refine after_next ?_
    walk_at "st"
    try simp only [aIsi, isInt, sNil, sAssign, sRet, sRet0, sIf, sExpr, sAugSub, sAug, sCont, gName, gSub, gTup, gTup.go, aVar, aCst, aBin, aUn, aIf, aTup, aList, lCons, lNil, aCall, aMeth, aCmp, aSlice, tCmp, tCmp2, tAnd, tOr, tNot, tVal, tTrue, tFalse, upd_at, if_true, if_false, Bool.false_eq_true, decide_true, decide_false, decide_eq_true_eq, opItem, opAdd, opIAdd, opSub, opMul, opDiv, opMod, opNeg, cmpOp, cmpLt, cmpIn, cmpIs, eq_int, eq_str, eq_bool, occ_one, truth, kList, kStr, fLen, fRange, fList, fTuple, fChr, fSJoin, fAll, fAny, fSum, fMin, fDivmod, fAbs, joinL_nil, fAppend, fInsert, fPop, withOwn, withItems, setAt, nth_zero, nth_one, nth_two, nth_last, kOk, bindP, List.length_cons, List.length_nil, List.isEmpty_cons, List.isEmpty_nil, List.map_nil, List.map_cons, Nat.reduceAdd, Nat.reduceEqDiff, Nat.succ_ne_self, Int.reduceNeg, Int.reduceLE, Int.reduceLT, Int.reduceEq, Int.cast_ofNat_Int, Int.toNat_zero, Int.toNat_one, Int.reduceToNat, Int.le_refl, List.getElem?_cons_zero, List.getElem?_cons_succ, reduceIte, reduceCtorEq, true_and, and_true, and_self, not_true_eq_false, not_false_eq_true, Bool.not_true, Bool.not_false, Bool.not_eq_true, Bool.not_eq_false, ne_eq, decide_not]
    refine after_next ?_
    walk_at "st"
    (try simp only [sCons, sNil, sAssign, sRet, sRet0, sIf, sExpr, sFor, sAugSub, sAug, sCont, gName, gSub, gTup, gTup.go, aVar, aCst, aBin, aUn, aIf, aTup, aList, lCons, lNil, aCall, aMeth, aCmp, aSlice, tCmp, tCmp2, tAnd, tOr, tNot, tVal, tTrue, tFalse, upd_at, if_true, if_false, Bool.false_eq_true, decide_true, decide_false, decide_eq_true_eq, opItem, opAdd, opIAdd, opSub, opMul, opDiv, opMod, opNeg, cmpOp, cmpLt, cmpIn, cmpIs, eq_int, eq_str, eq_bool, occ_one, truth, kList, kStr, fLen, fRange, fList, fTuple, fChr, fSJoin, fAll, fAny, fSum, fMin, fDivmod, fAbs, joinL_nil, fAppend, fInsert, fPop, withOwn, withItems, setAt, nth_zero, nth_one, nth_two, nth_last, kOk, bindP, List.length_cons, List.length_nil, List.isEmpty_cons, List.isEmpty_nil, List.map_nil, List.map_cons, Nat.reduceAdd, Nat.reduceEqDiff, Nat.succ_ne_self, Int.reduceNeg, Int.reduceLE, Int.reduceLT, Int.reduceEq, Int.cast_ofNat_Int, Int.toNat_zero, Int.toNat_one, Int.reduceToNat, Int.le_refl, List.getElem?_cons_zero, List.getElem?_cons_succ, reduceIte, reduceCtorEq, true_and, and_true, and_self, not_true_eq_false, not_false_eq_true, Bool.not_true, Bool.not_false, Bool.not_eq_true, Bool.not_eq_false, ne_eq, decide_not])
    exact after_ret (end_ret h)
def kinds (lst : Bool) : String := if lst then "list" else "tuple"
def outR (lst : Bool) : String := if lst then "list index out of range" else "tuple index out of range"
def RowAt (H : AH) (p : PV) (lst : Bool) (ps : List PV) : Prop := (lst = true ∧ ∃ a o, p = .ref a ∧ H a = some ⟨ps, o⟩) ∨ (lst = false ∧ p = .tup ps)
theorem RowAt.keep {H H' : AH} {p : PV} {lst : Bool} {ps : List PV} (r : RowAt H p lst ps) (k : Keep H H') : RowAt H' p lst ps := by
  rcases r with ⟨e, a, o, e2, h⟩ | h
  · exact .inl ⟨e, a, o, e2, k.at h⟩
  · exact .inr h
section
variable {H : AH} {p : PV} {lst : Bool} {ps : List PV} {Q : PV → AH → Prop} {QX : String → String → AH → Prop} {k : Int} {q : PV}
theorem RowAt.item (r : RowAt H p lst ps) (hk : kOk k) (hn : nth ps k = some q) (h : Q q H) : opItem p (.int k) Q H := by
  rcases r with ⟨e, a, o, rfl, ha⟩ | ⟨e, rfl⟩
  · simp only [opItem, ha, hn]; exact ⟨hk, h⟩
  · simp only [opItem, hn]; exact ⟨hk, h⟩
theorem RowAt.itemx (r : RowAt H p lst ps) (hk : kOk k) (hn : nth ps k = some q) (h : Q q H) : xItem p (.int k) Q QX H := by
  rcases r with ⟨e, a, o, rfl, ha⟩ | ⟨e, rfl⟩
  · simp only [xItem, ha, hn]; exact ⟨hk, h⟩
  · simp only [xItem, hn]; exact ⟨hk, h⟩
theorem RowAt.outx (r : RowAt H p lst ps) (hk : kOk k) (hn : nth ps k = none) (h : QX "IndexError" (outR lst) H) : xItem p (.int k) Q QX H := by
  rcases r with ⟨rfl, a, o, rfl, ha⟩ | ⟨rfl, rfl⟩
  · simp only [xItem, ha, hn]; exact ⟨hk, h⟩
  · simp only [xItem, hn]; exact ⟨hk, h⟩
theorem RowAt.len (r : RowAt H p lst ps) (hl : ps.length ≤ 100) (h : Q (.int ps.length) H) : fLen [p] Q H := by
  rcases r with ⟨rfl, a, o, rfl, ha⟩ | ⟨rfl, rfl⟩
  · simp only [fLen, ha]; exact ⟨by simp only [szOk]; omega, h⟩
  · simp only [fLen]; exact ⟨by simp only [szOk]; omega, h⟩
theorem RowAt.isl (r : RowAt H p lst ps) (h : Q (.bool lst) H) : isLst p Q H := by
  rcases r with ⟨rfl, a, o, rfl, ha⟩ | ⟨rfl, rfl⟩
  · exact ⟨⟨_, ha⟩, h⟩
  · exact h
end
def wks : List (List Nat) := [[77, 111, 110], [84, 117, 101], [87, 101, 100], [84, 104, 117], [70, 114, 105], [83, 97, 116], [83, 117, 110]]
def mns : List (List Nat) := [[74, 97, 110], [70, 101, 98], [77, 97, 114], [65, 112, 114], [77, 97, 121], [74, 117, 110], [74, 117, 108], [65, 117, 103], [83, 101, 112], [79, 99, 116], [78, 111, 118], [68, 101, 99]]
/-- what is given for a row: a class and words, or the text -/
inductive Outc (lst : Bool) (ps : List PV) (zz : List Nat) : List Nat → List Nat → Prop
  | short : ps.length < 7 → Outc lst ps zz (codes "IndexError") (codes (outR lst))
  | wdBad {y m d h i s w : PV} {r : List PV} {T : String} : ps = y :: m :: d :: h :: i :: s :: w :: r → CellP w none T → Outc lst ps zz (codes "TypeError") (codes ("list indices must be integers or slices, not " ++ T))
  | wdOut {y m d h i s : PV} {r : List PV} {wd : Int} : ps = y :: m :: d :: h :: i :: s :: .int wd :: r → smI wd → wd < -7 ∨ 6 < wd → Outc lst ps zz (codes "IndexError") (codes "list index out of range")
  | moBad {y m d h i s : PV} {r : List PV} {wd : Int} {T : String} : ps = y :: m :: d :: h :: i :: s :: .int wd :: r → -7 ≤ wd → wd ≤ 6 → CellP m none T → Outc lst ps zz (codes "TypeError") (codes ("unsupported operand type(s) for -: '" ++ T ++ "' and 'int'"))
  | moOut {y d h i s : PV} {r : List PV} {wd mo : Int} : ps = y :: .int mo :: d :: h :: i :: s :: .int wd :: r → -7 ≤ wd → wd ≤ 6 → smI mo → mo < -11 ∨ 12 < mo → Outc lst ps zz (codes "IndexError") (codes "list index out of range")
  | cell {y d h i s : PV} {r : List PV} {wd mo : Int} {cd cy ch ci cs : Option Int} {Td Ty Th Ti Ts T : String} : ps = y :: .int mo :: d :: h :: i :: s :: .int wd :: r → -7 ≤ wd → wd ≤ 6 → -11 ≤ mo → mo ≤ 12 → CellP d cd Td → CellP y cy Ty → CellP h ch Th → CellP i ci Ti → CellP s cs Ts → fstB [(cd, Td), (cy, Ty), (ch, Th), (ci, Ti), (cs, Ts)] = some T → Outc lst ps zz (codes "TypeError") (codes (msgD T))
  | text {y d h i s : Int} {r : List PV} {wd mo : Int} {w n : List Nat} : ps = .int y :: .int mo :: .int d :: .int h :: .int i :: .int s :: .int wd :: r → -7 ≤ wd → wd ≤ 6 → -11 ≤ mo → mo ≤ 12 → smI d → smI y → smI h → smI i → smI s → nth (wks.map PV.str) wd = some (.str w) → nth (mns.map PV.str) (mo - 1) = some (.str n) → Outc lst ps zz [] (fmText w d n y h i s zz)
-- what the function gives, errors and all
theorem kOk_sm {k : Int} (h : smI k) : kOk k := ⟨by have := h.1; omega, by have := h.2; omega⟩
theorem kOk_of {x : Int} (h0 : -100000 < x) (h1 : x < 100000) : kOk x := ⟨by omega, by omega⟩
theorem nth_out {α : Type} {xs : List α} {k : Int} (h : k < -(xs.length : Int) ∨ (xs.length : Int) ≤ k) : nth xs k = none := by
  unfold nth
  split
  · exact List.getElem?_eq_none (by omega)
  · split
    · omega
    · rfl
theorem li_some {H : AH} {a : Nat} {l : List PV} {o : Bool} {k : Int} {q : PV} {Q : PV → AH → Prop} {QX : String → String → AH → Prop} (ha : H a = some ⟨l, o⟩) (hk : kOk k) (hn : nth l k = some q) (h : Q q H) : xItem (.ref a) (.int k) Q QX H := by
  simp only [xItem, ha, hn]; exact ⟨hk, h⟩
theorem li_none {H : AH} {a : Nat} {l : List PV} {o : Bool} {k : Int} {Q : PV → AH → Prop} {QX : String → String → AH → Prop} (ha : H a = some ⟨l, o⟩) (hk : kOk k) (hn : nth l k = none) (h : QX "IndexError" "list index out of range" H) : xItem (.ref a) (.int k) Q QX H := by
  simp only [xItem, ha, hn]; exact ⟨hk, h⟩
theorem li_bad {H : AH} {a : Nat} {l : List PV} {o : Bool} {w : PV} {T : String} {Q : PV → AH → Prop} {QX : String → String → AH → Prop} (ha : H a = some ⟨l, o⟩) (hc : CellP w none T) (h : QX "TypeError" ("list indices must be integers or slices, not " ++ T) H) : xItem (.ref a) w Q QX H := by
  cases hc <;> · simp only [xItem, ha]; exact h
theorem sub_badc {H : AH} {w : PV} {T : String} {Q : PV → AH → Prop} {QX : String → String → AH → Prop} (hc : CellP w none T) (h : QX "TypeError" ("unsupported operand type(s) for -: '" ++ T ++ "' and 'int'") H) : xSub w (.int 1) Q QX H := by
  cases hc <;> exact h
theorem sub_ok {H : AH} {x : Int} {Q : PV → AH → Prop} {QX : String → String → AH → Prop} (h : Q (.int (x - 1)) H) : xSub (.int x) (.int 1) Q QX H := h
theorem tried_spec {Q : PV → AH → Prop} {H : AH} {p z : PV} {lst : Bool} {ps : List PV} {zz cls msg : List Nat} (hz : ShownP z zz) (r : RowAt H p lst ps) (ho : Outc lst ps zz cls msg) (hQ : ∀ H', Keep H H' → Q (.tup [.str cls, .str msg]) H') : f__law_tried [p, z] Q H := by
  refine ⟨rfl, ?_⟩
  simp only [x__format_timetuple_and_zone, xBin, xLift, xTup, xlCons, xlNil, aList, lCons, lNil, aCst, aVar, bindP, upd_at, reduceIte, Nat.reduceEqDiff]
  refine ⟨by simp only [szOk, List.length_cons, List.length_nil]; omega, fun a1 h1 => ?_⟩
  have K1 : Keep H (upd H a1 ⟨wks.map PV.str, true⟩) := Keep.new h1
  have E1 : (upd H a1 ⟨wks.map PV.str, true⟩) a1 = some ⟨wks.map PV.str, true⟩ := upd_same _ _ _
  have r1 := r.keep K1
  change xItem p _ _ _ (upd H a1 ⟨wks.map PV.str, true⟩)
  generalize upd H a1 ⟨wks.map PV.str, true⟩ = H1 at *
  have k6 : kOk 6 := kOk_of (by decide) (by decide)
  have k2 : kOk 2 := kOk_of (by decide) (by decide)
  have k1 : kOk 1 := kOk_of (by decide) (by decide)
  have k0 : kOk 0 := kOk_of (by decide) (by decide)
  have k3 : kOk 3 := kOk_of (by decide) (by decide)
  have k4 : kOk 4 := kOk_of (by decide) (by decide)
  have k5 : kOk 5 := kOk_of (by decide) (by decide)
  have hwd : ∀ wd : Int, -7 ≤ wd → wd ≤ 6 → ∃ w, nth (wks.map PV.str) wd = some (.str w) ∧ w.length ≤ 1000 := by
    intro wd w0 w1
    have : wd = -7 ∨ wd = -6 ∨ wd = -5 ∨ wd = -4 ∨ wd = -3 ∨ wd = -2 ∨ wd = -1 ∨ wd = 0 ∨ wd = 1 ∨ wd = 2 ∨ wd = 3 ∨ wd = 4 ∨ wd = 5 ∨ wd = 6 := by omega
    rcases this with rfl | rfl | rfl | rfl | rfl | rfl | rfl | rfl | rfl | rfl | rfl | rfl | rfl | rfl <;> exact ⟨_, rfl, by decide⟩
  have hmn : ∀ mo : Int, -11 ≤ mo → mo ≤ 12 → ∃ w, nth (mns.map PV.str) (mo - 1) = some (.str w) ∧ w.length ≤ 1000 := by
    intro mo m0 m1
    have : mo = -11 ∨ mo = -10 ∨ mo = -9 ∨ mo = -8 ∨ mo = -7 ∨ mo = -6 ∨ mo = -5 ∨ mo = -4 ∨ mo = -3 ∨ mo = -2 ∨ mo = -1 ∨ mo = 0 ∨ mo = 1 ∨ mo = 2 ∨ mo = 3 ∨ mo = 4 ∨ mo = 5 ∨ mo = 6 ∨ mo = 7 ∨ mo = 8 ∨ mo = 9 ∨ mo = 10 ∨ mo = 11 ∨ mo = 12 := by omega
    rcases this with rfl | rfl | rfl | rfl | rfl | rfl | rfl | rfl | rfl | rfl | rfl | rfl | rfl | rfl | rfl | rfl | rfl | rfl | rfl | rfl | rfl | rfl | rfl | rfl <;> exact ⟨_, rfl, by decide⟩
  cases ho with
  | short hl => exact r1.outx k6 (nth_out (by omega)) ⟨.inl rfl, hQ _ K1⟩
  | wdBad e hc =>
    subst e
    exact r1.itemx k6 rfl (li_bad E1 hc ⟨.inr rfl, hQ _ K1⟩)
  | wdOut e hs hw =>
    subst e
    exact r1.itemx k6 rfl (li_none E1 (kOk_sm hs) (nth_out (by show _ < -(7 : Int) ∨ (7 : Int) ≤ _; omega)) ⟨.inl rfl, hQ _ K1⟩)
  | moBad e w0 w1 hc =>
    subst e
    obtain ⟨w, hw, _⟩ := hwd _ w0 w1
    refine r1.itemx k6 rfl (li_some E1 (kOk_of (by omega) (by omega)) hw (r1.itemx k2 rfl ⟨by simp only [szOk, List.length_cons, List.length_nil]; omega, fun a2 h2 => ?_⟩))
    have K2 := K1.trans (Keep.new (y := ⟨mns.map PV.str, true⟩) h2)
    exact (r.keep K2).itemx k1 rfl (sub_badc hc ⟨.inr rfl, hQ _ K2⟩)
  | moOut e w0 w1 hs hm =>
    subst e
    obtain ⟨w, hw, _⟩ := hwd _ w0 w1
    refine r1.itemx k6 rfl (li_some E1 (kOk_of (by omega) (by omega)) hw (r1.itemx k2 rfl ⟨by simp only [szOk, List.length_cons, List.length_nil]; omega, fun a2 h2 => ?_⟩))
    have K2 := K1.trans (Keep.new (y := ⟨mns.map PV.str, true⟩) h2)
    refine (r.keep K2).itemx k1 rfl (sub_ok (li_none (l := mns.map PV.str) (o := true) (upd_same _ _ _) ⟨by have := hs.1; omega, by have := hs.2; omega⟩ (nth_out (by show _ < -(12 : Int) ∨ (12 : Int) ≤ _; omega)) ⟨.inl rfl, hQ _ K2⟩))
  | cell e w0 w1 m0 m1 cd cy ch ci cs hT =>
    subst e
    obtain ⟨w, hw, lw⟩ := hwd _ w0 w1
    obtain ⟨n, hn, ln⟩ := hmn _ m0 m1
    refine r1.itemx k6 rfl (li_some E1 (kOk_of (by omega) (by omega)) hw (r1.itemx k2 rfl ⟨by simp only [szOk, List.length_cons, List.length_nil]; omega, fun a2 h2 => ?_⟩))
    have K2 := K1.trans (Keep.new (y := ⟨mns.map PV.str, true⟩) h2)
    have r2 := r.keep K2
    refine r2.itemx k1 rfl (sub_ok (li_some (l := mns.map PV.str) (o := true) (upd_same _ _ _) (kOk_of (by omega) (by omega)) hn ?_))
    refine r2.itemx k0 rfl (r2.itemx k3 rfl (r2.itemx k4 rfl (r2.itemx k5 rfl ⟨by simp only [szOk, List.length_cons, List.length_nil]; omega, ⟨rfl, lw, ln⟩, _, _, _, _, _, _, _, _, _, _, zz, cd, cy, ch, ci, cs, hz, ?_, ?_⟩)))
    · rintro d' y' h' i' s' rfl rfl rfl rfl rfl
      cases cd; cases cy; cases ch; cases ci; cases cs; cases hT
    · intro T' hT'
      rw [hT] at hT'; cases hT'
      exact ⟨.inr rfl, hQ _ K2⟩
  | text e w0 w1 m0 m1 sd sy sh si ss hw hn =>
    subst e
    obtain ⟨w', hw', lw⟩ := hwd _ w0 w1
    obtain ⟨n', hn', ln⟩ := hmn _ m0 m1
    rw [hw] at hw'; cases hw'
    rw [hn] at hn'; cases hn'
    refine r1.itemx k6 rfl (li_some E1 (kOk_of (by omega) (by omega)) hw (r1.itemx k2 rfl ⟨by simp only [szOk, List.length_cons, List.length_nil]; omega, fun a2 h2 => ?_⟩))
    have K2 := K1.trans (Keep.new (y := ⟨mns.map PV.str, true⟩) h2)
    have r2 := r.keep K2
    refine r2.itemx k1 rfl (sub_ok (li_some (l := mns.map PV.str) (o := true) (upd_same _ _ _) (kOk_of (by omega) (by omega)) hn ?_))
    refine r2.itemx k0 rfl (r2.itemx k3 rfl (r2.itemx k4 rfl (r2.itemx k5 rfl ⟨by simp only [szOk, List.length_cons, List.length_nil]; omega, ⟨rfl, lw, ln⟩, _, _, _, _, _, _, _, _, _, _, zz, .int _ sd, .int _ sy, .int _ sh, .int _ si, .int _ ss, hz, ?_, ?_⟩)))
    · rintro d' y' h' i' s' e1 e2 e3 e4 e5
      cases e1; cases e2; cases e3; cases e4; cases e5
      exact hQ _ K2
    · intro T' hT'
      cases hT'
-- what is wanted: its steps
section
variable {Q : Fl → AEnv → AH → Prop} {ρ : AEnv} {H : AH} {a : AS} {k : Nat} {n lo hi : Int} {w : PV} {T : String}
theorem if_notint_ok (h : ρ k = some (.int n)) (q : Q .next ρ H) : sIf (tNot (tVal (aIsi isInt (aVar k)))) a sNil Q ρ H := by
  simp only [sIf, tNot, tVal, aIsi, aVar, h, isInt, truth, Bool.not_true, Bool.false_eq_true, if_false]
  exact q
theorem if_notint_bad (h : ρ k = some w) (hc : CellP w none T) (q : a Q ρ H) : sIf (tNot (tVal (aIsi isInt (aVar k)))) a sNil Q ρ H := by
  cases hc <;>
  · simp only [sIf, tNot, tVal, aIsi, aVar, h, isInt, truth, Bool.not_false, if_true]
    exact q
theorem if_range_ok (h : ρ k = some (.int n)) (h1 : -lo ≤ n) (h2 : n ≤ hi) (q : Q .next ρ H) : sIf (tOr (tCmp .Lt (aVar k) (aUn opNeg (aCst (.int lo)))) (tOr (tCmp .Gt (aVar k) (aCst (.int hi))) (tFalse))) a sNil Q ρ H := by
  have e1 : (n < -lo) = False := eq_false (by omega)
  have e2 : (n > hi) = False := eq_false (by omega)
  simp only [sIf, tOr, tCmp, aVar, h, aUn, opNeg, aCst, cmpOp, cmpLt, tFalse, e1, e2, decide_false, Bool.false_eq_true, if_false]
  exact q
theorem if_range_out (h : ρ k = some (.int n)) (h1 : n < -lo ∨ hi < n) (q : a Q ρ H) : sIf (tOr (tCmp .Lt (aVar k) (aUn opNeg (aCst (.int lo)))) (tOr (tCmp .Gt (aVar k) (aCst (.int hi))) (tFalse))) a sNil Q ρ H := by
  by_cases g : n < -lo
  · have e1 : (n < -lo) = True := eq_true g
    simp only [sIf, tOr, tCmp, aVar, h, aUn, opNeg, aCst, cmpOp, cmpLt, e1, decide_true, if_true]
    exact q
  · have e1 : (n < -lo) = False := eq_false g
    have e2 : (n > hi) = True := eq_true (by omega)
    simp only [sIf, tOr, tCmp, aVar, h, aUn, opNeg, aCst, cmpOp, cmpLt, e1, e2, decide_false, Bool.false_eq_true, if_false, decide_true, if_true]
    exact q
end
theorem msg_none : codes (msgD "NoneType") = [37, 100, 32, 102, 111, 114, 109, 97, 116, 58, 32, 97, 32, 114, 101, 97, 108, 32, 110, 117, 109, 98, 101, 114, 32, 105, 115, 32, 114, 101, 113, 117, 105, 114, 101, 100, 44, 32, 110, 111, 116, 32] ++ codes "NoneType" := by decide +kernel
theorem msg_str : codes (msgD "str") = [37, 100, 32, 102, 111, 114, 109, 97, 116, 58, 32, 97, 32, 114, 101, 97, 108, 32, 110, 117, 109, 98, 101, 114, 32, 105, 115, 32, 114, 101, 113, 117, 105, 114, 101, 100, 44, 32, 110, 111, 116, 32] ++ codes "str" := by decide +kernel
theorem codes_TE : codes "TypeError" = [84, 121, 112, 101, 69, 114, 114, 111, 114] := by decide +kernel
theorem codes_IE : codes "IndexError" = [73, 110, 100, 101, 120, 69, 114, 114, 111, 114] := by decide +kernel
theorem codes_LO : codes "list index out of range" = [108, 105, 115, 116, 32, 105, 110, 100, 101, 120, 32, 111, 117, 116, 32, 111, 102, 32, 114, 97, 110, 103, 101] := by decide +kernel
theorem len_kind {p : PV} {T : String} (hc : CellP p none T) : (codes T).length ≤ 8 := by
  cases hc
  · rw [codes_none]; decide
  · rw [codes_str]; decide
theorem cells_loop {G : AH → Prop} {Q : Fl → AEnv → AH → Prop} : ∀ (l : List (PV × Option Int × String)) (ρ : AEnv) (H : AH), (∀ x ∈ l, CellP x.1 x.2.1 x.2.2) → G H → (fstB (l.map (·.2)) = none → ∀ ρ', (∀ k, k ≠ 10 → ρ' k = ρ k) → Q .next ρ' H) →
    (∀ T, fstB (l.map (·.2)) = some T → ∀ ρ', Q (.ret (.tup [.str (codes "TypeError"), .str (codes (msgD T))])) ρ' H) → forL (gName 10) l__law_wanted_2 G Q (l.map (·.1)) ρ H
  | [], ρ, H, _, _, h1, _ => h1 rfl ρ fun _ _ => rfl
  | (p, o, T) :: l, ρ, H, hc, hG, h1, h2 => by
    have hp : CellP p o T := hc _ (.head _)
    show l__law_wanted_2 _ (upd ρ 10 p) H
    simp only [l__law_wanted_2]
    walk_at "st"
    cases o with
    | some n =>
      obtain rfl : p = .int n := by cases hp; rfl
      refine if_notint_ok (upd_same _ _ _) (after_next (sNil_next ⟨hG, cells_loop l _ H (fun x hx => hc x (.tail _ hx)) hG (fun e ρ' hk => h1 e ρ' fun k hk' => (hk k hk').trans (upd_other _ _ hk')) h2⟩))
    | none =>
      refine if_notint_bad (upd_same _ _ _) hp ?_
      simp only [l__law_wanted_1]
      walk_at "st"
      simp only [sRet, aTup, lCons, lNil, aCst, aBin, aCall, aVar, upd_same]
      refine kind_spec hp ?_
      have hk := len_kind hp
      have e : codes (msgD T) = [37, 100, 32, 102, 111, 114, 109, 97, 116, 58, 32, 97, 32, 114, 101, 97, 108, 32, 110, 117, 109, 98, 101, 114, 32, 105, 115, 32, 114, 101, 113, 117, 105, 114, 101, 100, 44, 32, 110, 111, 116, 32] ++ codes T := by
        cases hp
        · exact msg_none
        · exact msg_str
      refine ⟨by simp only [szOk, List.length_cons, List.length_nil]; omega, by simp only [szOk, List.length_cons, List.length_nil]; omega, after_ret (after_ret ?_)⟩
      have := h2 T rfl (upd ρ 10 p)
      rw [e, codes_TE] at this
      exact this
theorem cells5 {G : AH → Prop} {Q : Fl → AEnv → AH → Prop} {ρ : AEnv} {H : AH} {d y h i s : PV} {cd cy ch ci cs : Option Int} {Td Ty Th Ti Ts : String} (hd : CellP d cd Td) (hy : CellP y cy Ty) (hh : CellP h ch Th) (hi : CellP i ci Ti) (hs : CellP s cs Ts) (hG : G H)
    (h1 : fstB [(cd, Td), (cy, Ty), (ch, Th), (ci, Ti), (cs, Ts)] = none → ∀ ρ', (∀ k, k ≠ 10 → ρ' k = ρ k) → Q .next ρ' H) (h2 : ∀ T, fstB [(cd, Td), (cy, Ty), (ch, Th), (ci, Ti), (cs, Ts)] = some T → ∀ ρ', Q (.ret (.tup [.str (codes "TypeError"), .str (codes (msgD T))])) ρ' H) : forL (gName 10) l__law_wanted_2 G Q [d, y, h, i, s] ρ H := by
  refine cells_loop [(d, cd, Td), (y, cy, Ty), (h, ch, Th), (i, ci, Ti), (s, cs, Ts)] ρ H ?_ hG h1 h2
  intro x hx
  simp only [List.mem_cons, List.not_mem_nil, or_false] at hx
  rcases hx with rfl | rfl | rfl | rfl | rfl
  · exact hd
  · exact hy
  · exact hh
  · exact hi
  · exact hs
-- what is wanted
def wkT : List Nat := [77, 111, 110, 84, 117, 101, 87, 101, 100, 84, 104, 117, 70, 114, 105, 83, 97, 116, 83, 117, 110]
def mnT : List Nat := [74, 97, 110, 70, 101, 98, 77, 97, 114, 65, 112, 114, 77, 97, 121, 74, 117, 110, 74, 117, 108, 65, 117, 103, 83, 101, 112, 79, 99, 116, 78, 111, 118, 68, 101, 99]
theorem wk_cut {wd : Int} (w0 : -7 ≤ wd) (w1 : wd ≤ 6) : ∃ w, nth (wks.map PV.str) wd = some (.str w) ∧ slc wkT (some (wd % 7 * 3)) (some (wd % 7 * 3 + 3)) = w ∧ w.length = 3 := by
  have : wd = -7 ∨ wd = -6 ∨ wd = -5 ∨ wd = -4 ∨ wd = -3 ∨ wd = -2 ∨ wd = -1 ∨ wd = 0 ∨ wd = 1 ∨ wd = 2 ∨ wd = 3 ∨ wd = 4 ∨ wd = 5 ∨ wd = 6 := by omega
  rcases this with rfl | rfl | rfl | rfl | rfl | rfl | rfl | rfl | rfl | rfl | rfl | rfl | rfl | rfl <;> exact ⟨_, rfl, by decide, rfl⟩
theorem mn_cut {mo : Int} (m0 : -11 ≤ mo) (m1 : mo ≤ 12) : ∃ w, nth (mns.map PV.str) (mo - 1) = some (.str w) ∧ slc mnT (some ((mo + 11) % 12 * 3)) (some ((mo + 11) % 12 * 3 + 3)) = w ∧ w.length = 3 := by
  have : mo = -11 ∨ mo = -10 ∨ mo = -9 ∨ mo = -8 ∨ mo = -7 ∨ mo = -6 ∨ mo = -5 ∨ mo = -4 ∨ mo = -3 ∨ mo = -2 ∨ mo = -1 ∨ mo = 0 ∨ mo = 1 ∨ mo = 2 ∨ mo = 3 ∨ mo = 4 ∨ mo = 5 ∨ mo = 6 ∨ mo = 7 ∨ mo = 8 ∨ mo = 9 ∨ mo = 10 ∨ mo = 11 ∨ mo = 12 := by omega
  rcases this with rfl | rfl | rfl | rfl | rfl | rfl | rfl | rfl | rfl | rfl | rfl | rfl | rfl | rfl | rfl | rfl | rfl | rfl | rfl | rfl | rfl | rfl | rfl | rfl <;> exact ⟨_, rfl, by decide, rfl⟩
theorem mulL {a : Int} (b : Int) (h1 : -(2 ^ 64) < a) (h2 : a < 2 ^ 64) : IntMulOk a b := .of_left (intBits_le_64 h1 h2)
theorem add_str {x y : List Nat} {Q : PV → AH → Prop} {H : AH} (h : x.length + y.length ≤ 100000) (q : Q (.str (x ++ y)) H) : opAdd (.str x) (.str y) Q H := ⟨by simp only [szOk]; omega, q⟩
theorem out_ex {lst : Bool} {ps : List PV} {zz : List Nat} (h : ∀ p ∈ ps, ∃ o T, CellP p o T) : ∃ cls msg, Outc lst ps zz cls msg := by
  by_cases h7 : ps.length < 7
  · exact ⟨_, _, .short h7⟩
  obtain ⟨y, m, d, hh, i, s, w, r, rfl⟩ : ∃ y m d hh i s w r, ps = y :: m :: d :: hh :: i :: s :: w :: r := by
    match ps, h7 with
    | y :: m :: d :: hh :: i :: s :: w :: r, _ => exact ⟨y, m, d, hh, i, s, w, r, rfl⟩
    | [], h | [_], h | [_, _], h | [_, _, _], h | [_, _, _, _], h | [_, _, _, _, _], h | [_, _, _, _, _, _], h => simp at h
  obtain ⟨oy, Ty, cy⟩ := h y (by simp)
  obtain ⟨om, Tm, cm⟩ := h m (by simp)
  obtain ⟨od, Td, cd⟩ := h d (by simp)
  obtain ⟨oh, Th, ch⟩ := h hh (by simp)
  obtain ⟨oi, Ti, ci⟩ := h i (by simp)
  obtain ⟨os, Ts, cs⟩ := h s (by simp)
  obtain ⟨ow, Tw, cw⟩ := h w (by simp)
  cases ow with
  | none => exact ⟨_, _, .wdBad rfl cw⟩
  | some wd =>
    obtain ⟨rfl, sw⟩ : w = .int wd ∧ smI wd := by cases cw; exact ⟨rfl, ‹_›⟩
    by_cases w0 : wd < -7 ∨ 6 < wd
    · exact ⟨_, _, .wdOut rfl sw w0⟩
    cases om with
    | none => exact ⟨_, _, .moBad rfl (by omega) (by omega) cm⟩
    | some mo =>
      obtain ⟨rfl, sm⟩ : m = .int mo ∧ smI mo := by cases cm; exact ⟨rfl, ‹_›⟩
      by_cases m0 : mo < -11 ∨ 12 < mo
      · exact ⟨_, _, .moOut rfl (by omega) (by omega) sm m0⟩
      cases hf : fstB [(od, Td), (oy, Ty), (oh, Th), (oi, Ti), (os, Ts)] with
      | some T => exact ⟨_, _, .cell rfl (by omega) (by omega) (by omega) (by omega) cd cy ch ci cs hf⟩
      | none =>
        obtain ⟨w', hw, _⟩ := wk_cut (wd := wd) (by omega) (by omega)
        obtain ⟨n', hn, _⟩ := mn_cut (mo := mo) (by omega) (by omega)
        cases cd with
        | none => cases hf
        | str => cases hf
        | int d sd =>
        cases cy with
        | none => cases hf
        | str => cases hf
        | int y sy =>
        cases ch with
        | none => cases hf
        | str => cases hf
        | int hh sh =>
        cases ci with
        | none => cases hf
        | str => cases hf
        | int i si =>
        cases cs with
        | none => cases hf
        | str => cases hf
        | int s ss => exact ⟨_, _, .text rfl (by omega) (by omega) (by omega) (by omega) sd sy sh si ss hw hn⟩
theorem wanted_spec {Q : PV → AH → Prop} {H : AH} {p z : PV} {lst : Bool} {ps : List PV} {zz cls msg : List Nat} (hl9 : ps.length ≤ 9) (hzl : zz.length ≤ 1000) (hz : ShownP z zz) (r : RowAt H p lst ps) (ho : Outc lst ps zz cls msg) (hQ : ∀ H', Keep H H' → Q (.tup [.str cls, .str msg]) H') : f__law_wanted [p, z] Q H := by
  refine fn rfl ?_
  walk_at "st"
  have q11 : bindP [11, 1] [p, z] 11 = some p := rfl
  have q1 : bindP [11, 1] [p, z] 1 = some z := rfl
  generalize bindP [11, 1] [p, z] = ρ0 at *
  have k6 : kOk 6 := kOk_of (by decide) (by decide)
  have k2 : kOk 2 := kOk_of (by decide) (by decide)
  have k1 : kOk 1 := kOk_of (by decide) (by decide)
  have k0 : kOk 0 := kOk_of (by decide) (by decide)
  have k3 : kOk 3 := kOk_of (by decide) (by decide)
  have k4 : kOk 4 := kOk_of (by decide) (by decide)
  have k5 : kOk 5 := kOk_of (by decide) (by decide)
  simp only [sIf, tCmp, aCall, lCons, lNil, aVar, q11, aCst]
  refine r.len (by omega) ?_
  simp only [cmpOp, cmpLt]
  by_cases h7 : ps.length < 7
  · have h' : decide (((ps.length : Nat) : Int) < 7) = true := decide_eq_true (by omega)
    refine cast (if_pos h').symm ?_
    have hs : cls = codes "IndexError" ∧ msg = codes (outR lst) := by
      cases ho with
      | short => exact ⟨rfl, rfl⟩
      | wdBad e => subst e; simp at h7; omega
      | wdOut e => subst e; simp at h7; omega
      | moBad e => subst e; simp at h7; omega
      | moOut e => subst e; simp at h7; omega
      | cell e => subst e; simp at h7; omega
      | text e => subst e; simp at h7; omega
    obtain ⟨rfl, rfl⟩ := hs
    have hq := hQ H .refl
    simp only [l__law_wanted_7]
    walk_at "st"
    simp only [sAssign, aIf, tVal, aIsi, aVar, q11]
    refine r.isl ?_
    cases lst with
    | true =>
      simp only [truth, if_true, aCst, gName]
      refine after_next ?_
      walk_at "st"
      (try simp only [sCons, sNil, sAssign, sRet, sRet0, sIf, sExpr, sFor, sAugSub, sAug, sCont, gName, gSub, gTup, gTup.go, aVar, aCst, aBin, aUn, aIf, aTup, aList, lCons, lNil, aCall, aMeth, aCmp, aSlice, tCmp, tCmp2, tAnd, tOr, tNot, tVal, tTrue, tFalse, upd_at, if_true, if_false, Bool.false_eq_true, decide_true, decide_false, decide_eq_true_eq, opItem, opAdd, opIAdd, opSub, opMul, opDiv, opMod, opNeg, cmpOp, cmpLt, cmpIn, cmpIs, eq_int, eq_str, eq_bool, occ_one, truth, kList, kStr, fLen, fRange, fList, fTuple, fChr, fSJoin, fAll, fAny, fSum, fMin, fDivmod, fAbs, joinL_nil, fAppend, fInsert, fPop, withOwn, withItems, setAt, nth_zero, nth_one, nth_two, nth_last, kOk, bindP, List.length_cons, List.length_nil, List.isEmpty_cons, List.isEmpty_nil, List.map_nil, List.map_cons, Nat.reduceAdd, Nat.reduceEqDiff, Nat.succ_ne_self, Int.reduceNeg, Int.reduceLE, Int.reduceLT, Int.reduceEq, Int.cast_ofNat_Int, Int.toNat_zero, Int.toNat_one, Int.reduceToNat, Int.le_refl, List.getElem?_cons_zero, List.getElem?_cons_succ, reduceIte, reduceCtorEq, true_and, and_true, and_self, not_true_eq_false, not_false_eq_true, Bool.not_true, Bool.not_false, Bool.not_eq_true, Bool.not_eq_false, ne_eq, decide_not])
      refine ⟨by simp only [szOk]; decide, by simp only [szOk]; decide, after_ret (after_ret (end_ret ?_))⟩
      rw [codes_IE, show outR true = "list index out of range" from rfl, codes_LO] at hq
      exact hq
    | false =>
      simp only [truth, Bool.false_eq_true, if_false, aCst, gName]
      refine after_next ?_
      walk_at "st"
      (try simp only [sCons, sNil, sAssign, sRet, sRet0, sIf, sExpr, sFor, sAugSub, sAug, sCont, gName, gSub, gTup, gTup.go, aVar, aCst, aBin, aUn, aIf, aTup, aList, lCons, lNil, aCall, aMeth, aCmp, aSlice, tCmp, tCmp2, tAnd, tOr, tNot, tVal, tTrue, tFalse, upd_at, if_true, if_false, Bool.false_eq_true, decide_true, decide_false, decide_eq_true_eq, opItem, opAdd, opIAdd, opSub, opMul, opDiv, opMod, opNeg, cmpOp, cmpLt, cmpIn, cmpIs, eq_int, eq_str, eq_bool, occ_one, truth, kList, kStr, fLen, fRange, fList, fTuple, fChr, fSJoin, fAll, fAny, fSum, fMin, fDivmod, fAbs, joinL_nil, fAppend, fInsert, fPop, withOwn, withItems, setAt, nth_zero, nth_one, nth_two, nth_last, kOk, bindP, List.length_cons, List.length_nil, List.isEmpty_cons, List.isEmpty_nil, List.map_nil, List.map_cons, Nat.reduceAdd, Nat.reduceEqDiff, Nat.succ_ne_self, Int.reduceNeg, Int.reduceLE, Int.reduceLT, Int.reduceEq, Int.cast_ofNat_Int, Int.toNat_zero, Int.toNat_one, Int.reduceToNat, Int.le_refl, List.getElem?_cons_zero, List.getElem?_cons_succ, reduceIte, reduceCtorEq, true_and, and_true, and_self, not_true_eq_false, not_false_eq_true, Bool.not_true, Bool.not_false, Bool.not_eq_true, Bool.not_eq_false, ne_eq, decide_not])
      refine ⟨by simp only [szOk]; decide, by simp only [szOk]; decide, after_ret (after_ret (end_ret ?_))⟩
      rw [codes_IE, show codes (outR false) = [116, 117, 112, 108, 101, 32, 105, 110, 100, 101, 120, 32, 111, 117, 116, 32, 111, 102, 32, 114, 97, 110, 103, 101] by decide +kernel] at hq
      exact hq
  · have h' : decide (((ps.length : Nat) : Int) < 7) = false := decide_eq_false (by omega)
    refine cast (if_neg (fun q => Bool.false_ne_true (h'.symm.trans q))).symm ?_
    refine sNil_next (after_next ?_)
    obtain ⟨y, m, d, hh, i, s, w, rr, rfl⟩ : ∃ y m d hh i s w r, ps = y :: m :: d :: hh :: i :: s :: w :: r := by
      match ps, h7 with
      | y :: m :: d :: hh :: i :: s :: w :: r, _ => exact ⟨y, m, d, hh, i, s, w, r, rfl⟩
      | [], h | [_], h | [_, _], h | [_, _, _], h | [_, _, _, _], h | [_, _, _, _, _], h | [_, _, _, _, _, _], h => simp at h
    walk_at "st"
    simp only [sAssign, aBin, aVar, q11, aCst]
    refine r.item k6 rfl ?_
    simp only [gName]
    refine after_next ?_
    walk_at "st"
    simp only [sAssign, aBin, aVar, upd_other ρ0 w (show 11 ≠ 15 by decide), q11, aCst]
    refine r.item k1 rfl ?_
    simp only [gName]
    refine after_next ?_
    have p15 : upd (upd ρ0 15 w) 14 m 15 = some w := by rw [upd_other _ _ (by decide), upd_same]
    have p14 : upd (upd ρ0 15 w) 14 m 14 = some m := upd_same _ _ _
    have p11 : upd (upd ρ0 15 w) 14 m 11 = some p := by rw [upd_other _ _ (by decide), upd_other _ _ (by decide)]; exact q11
    have p1 : upd (upd ρ0 15 w) 14 m 1 = some z := by rw [upd_other _ _ (by decide), upd_other _ _ (by decide)]; exact q1
    generalize upd (upd ρ0 15 w) 14 m = ρ1 at *
    clear q11 q1 ρ0
    walk_at "st"
    have wdI : ∀ n : Int, w = .int n → ∀ {QQ : Fl → AEnv → AH → Prop}, QQ .next ρ1 H → sIf (tNot (tVal (aIsi isInt (aVar 15)))) l__law_wanted_6 sNil QQ ρ1 H := fun n e QQ q => if_notint_ok (n := n) (by rw [p15, e]) q
    cases ho with
    | short h => simp at h; omega
    | wdBad e hc =>
      cases e
      refine if_notint_bad p15 hc ?_
      have hq := hQ H .refl
      have hk := len_kind hc
      simp only [l__law_wanted_6]
      walk_at "st"
      simp only [sRet, aTup, lCons, lNil, aCst, aBin, aCall, aVar, p15]
      refine kind_spec hc (add_str (by simp only [List.length_cons, List.length_nil]; omega) ⟨by simp only [szOk, List.length_cons, List.length_nil]; omega, after_ret (after_ret (end_ret ?_))⟩)
      rw [codes_TE] at hq
      cases hc with
      | none => rw [show codes ("list indices must be integers or slices, not " ++ "NoneType") = [108, 105, 115, 116, 32, 105, 110, 100, 105, 99, 101, 115, 32, 109, 117, 115, 116, 32, 98, 101, 32, 105, 110, 116, 101, 103, 101, 114, 115, 32, 111, 114, 32, 115, 108, 105, 99, 101, 115, 44, 32, 110, 111, 116, 32] ++ codes "NoneType" by decide +kernel] at hq; exact hq
      | str => rw [show codes ("list indices must be integers or slices, not " ++ "str") = [108, 105, 115, 116, 32, 105, 110, 100, 105, 99, 101, 115, 32, 109, 117, 115, 116, 32, 98, 101, 32, 105, 110, 116, 101, 103, 101, 114, 115, 32, 111, 114, 32, 115, 108, 105, 99, 101, 115, 44, 32, 110, 111, 116, 32] ++ codes "str" by decide +kernel] at hq; exact hq
    | wdOut e hs hw =>
      cases e
      refine if_notint_ok p15 (after_next ?_)
      walk_at "st"
      refine if_range_out p15 hw ?_
      have hq := hQ H .refl
      simp only [l__law_wanted_5]
      walk_at "st"
      (try simp only [sCons, sNil, sAssign, sRet, sRet0, sIf, sExpr, sFor, sAugSub, sAug, sCont, gName, gSub, gTup, gTup.go, aVar, aCst, aBin, aUn, aIf, aTup, aList, lCons, lNil, aCall, aMeth, aCmp, aSlice, tCmp, tCmp2, tAnd, tOr, tNot, tVal, tTrue, tFalse, upd_at, if_true, if_false, Bool.false_eq_true, decide_true, decide_false, decide_eq_true_eq, opItem, opAdd, opIAdd, opSub, opMul, opDiv, opMod, opNeg, cmpOp, cmpLt, cmpIn, cmpIs, eq_int, eq_str, eq_bool, occ_one, truth, kList, kStr, fLen, fRange, fList, fTuple, fChr, fSJoin, fAll, fAny, fSum, fMin, fDivmod, fAbs, joinL_nil, fAppend, fInsert, fPop, withOwn, withItems, setAt, nth_zero, nth_one, nth_two, nth_last, kOk, bindP, List.length_cons, List.length_nil, List.isEmpty_cons, List.isEmpty_nil, List.map_nil, List.map_cons, Nat.reduceAdd, Nat.reduceEqDiff, Nat.succ_ne_self, Int.reduceNeg, Int.reduceLE, Int.reduceLT, Int.reduceEq, Int.cast_ofNat_Int, Int.toNat_zero, Int.toNat_one, Int.reduceToNat, Int.le_refl, List.getElem?_cons_zero, List.getElem?_cons_succ, reduceIte, reduceCtorEq, true_and, and_true, and_self, not_true_eq_false, not_false_eq_true, Bool.not_true, Bool.not_false, Bool.not_eq_true, Bool.not_eq_false, ne_eq, decide_not])
      refine ⟨by simp only [szOk]; decide, after_ret (after_ret (end_ret ?_))⟩
      rw [codes_IE, codes_LO] at hq
      exact hq
    | moBad e w0 w1 hc =>
      cases e
      refine if_notint_ok p15 (after_next ?_)
      walk_at "st"
      refine if_range_ok p15 w0 w1 (after_next ?_)
      walk_at "st"
      refine if_notint_bad p14 hc ?_
      have hq := hQ H .refl
      have hk := len_kind hc
      simp only [l__law_wanted_4]
      walk_at "st"
      simp only [sRet, aTup, lCons, lNil, aCst, aBin, aCall, aVar, p14]
      refine kind_spec hc (add_str (by simp only [List.length_cons, List.length_nil]; omega) (add_str (by simp only [List.length_append, List.length_cons, List.length_nil]; omega) ⟨by simp only [szOk, List.length_cons, List.length_nil]; omega, after_ret (after_ret (end_ret ?_))⟩))
      rw [codes_TE] at hq
      cases hc with
      | none => rw [show codes ("unsupported operand type(s) for -: '" ++ "NoneType" ++ "' and 'int'") = [117, 110, 115, 117, 112, 112, 111, 114, 116, 101, 100, 32, 111, 112, 101, 114, 97, 110, 100, 32, 116, 121, 112, 101, 40, 115, 41, 32, 102, 111, 114, 32, 45, 58, 32, 39] ++ codes "NoneType" ++ [39, 32, 97, 110, 100, 32, 39, 105, 110, 116, 39] by decide +kernel] at hq; exact hq
      | str => rw [show codes ("unsupported operand type(s) for -: '" ++ "str" ++ "' and 'int'") = [117, 110, 115, 117, 112, 112, 111, 114, 116, 101, 100, 32, 111, 112, 101, 114, 97, 110, 100, 32, 116, 121, 112, 101, 40, 115, 41, 32, 102, 111, 114, 32, 45, 58, 32, 39] ++ codes "str" ++ [39, 32, 97, 110, 100, 32, 39, 105, 110, 116, 39] by decide +kernel] at hq; exact hq
    | moOut e w0 w1 hs hm =>
      cases e
      refine if_notint_ok p15 (after_next ?_)
      walk_at "st"
      refine if_range_ok p15 w0 w1 (after_next ?_)
      walk_at "st"
      refine if_notint_ok p14 (after_next ?_)
      walk_at "st"
      refine if_range_out p14 hm ?_
      have hq := hQ H .refl
      simp only [l__law_wanted_3]
      walk_at "st"
      (try simp only [sCons, sNil, sAssign, sRet, sRet0, sIf, sExpr, sFor, sAugSub, sAug, sCont, gName, gSub, gTup, gTup.go, aVar, aCst, aBin, aUn, aIf, aTup, aList, lCons, lNil, aCall, aMeth, aCmp, aSlice, tCmp, tCmp2, tAnd, tOr, tNot, tVal, tTrue, tFalse, upd_at, if_true, if_false, Bool.false_eq_true, decide_true, decide_false, decide_eq_true_eq, opItem, opAdd, opIAdd, opSub, opMul, opDiv, opMod, opNeg, cmpOp, cmpLt, cmpIn, cmpIs, eq_int, eq_str, eq_bool, occ_one, truth, kList, kStr, fLen, fRange, fList, fTuple, fChr, fSJoin, fAll, fAny, fSum, fMin, fDivmod, fAbs, joinL_nil, fAppend, fInsert, fPop, withOwn, withItems, setAt, nth_zero, nth_one, nth_two, nth_last, kOk, bindP, List.length_cons, List.length_nil, List.isEmpty_cons, List.isEmpty_nil, List.map_nil, List.map_cons, Nat.reduceAdd, Nat.reduceEqDiff, Nat.succ_ne_self, Int.reduceNeg, Int.reduceLE, Int.reduceLT, Int.reduceEq, Int.cast_ofNat_Int, Int.toNat_zero, Int.toNat_one, Int.reduceToNat, Int.le_refl, List.getElem?_cons_zero, List.getElem?_cons_succ, reduceIte, reduceCtorEq, true_and, and_true, and_self, not_true_eq_false, not_false_eq_true, Bool.not_true, Bool.not_false, Bool.not_eq_true, Bool.not_eq_false, ne_eq, decide_not])
      refine ⟨by simp only [szOk]; decide, after_ret (after_ret (end_ret ?_))⟩
      rw [codes_IE, codes_LO] at hq
      exact hq
    | cell e w0 w1 m0 m1 cd cy ch ci cs hT =>
      cases e
      refine if_notint_ok p15 (after_next ?_)
      walk_at "st"
      refine if_range_ok p15 w0 w1 (after_next ?_)
      walk_at "st"
      refine if_notint_ok p14 (after_next ?_)
      walk_at "st"
      refine if_range_ok p14 m0 m1 (after_next ?_)
      walk_at "st"
      simp only [sFor, aList, lCons, lNil, aBin, aVar, p11, aCst]
      refine r.item k2 rfl (r.item k0 rfl (r.item k3 rfl (r.item k4 rfl (r.item k5 rfl ⟨by simp only [szOk, List.length_cons, List.length_nil]; omega, fun a3 h3 => ?_⟩))))
      simp only [withItems, upd_same]
      refine cells5 cd cy ch ci cs (upd_same _ _ _) (fun e => ?_) (fun T' e ρ' => ?_)
      · have : some _ = none := hT.symm.trans e
        cases this
      · have e' : some _ = some _ := hT.symm.trans e
        cases e'
        exact after_ret (end_ret (hQ _ (Keep.new h3)))
    | text e w0 w1 m0 m1 sd sy sh si ss hw hn =>
      cases e
      rename_i yy dd hh' ii ss' wd mo wt nt
      refine if_notint_ok p15 (after_next ?_)
      walk_at "st"
      refine if_range_ok p15 w0 w1 (after_next ?_)
      walk_at "st"
      refine if_notint_ok p14 (after_next ?_)
      walk_at "st"
      refine if_range_ok p14 m0 m1 (after_next ?_)
      walk_at "st"
      simp only [sFor, aList, lCons, lNil, aBin, aVar, p11, aCst]
      refine r.item k2 rfl (r.item k0 rfl (r.item k3 rfl (r.item k4 rfl (r.item k5 rfl ⟨by simp only [szOk, List.length_cons, List.length_nil]; omega, fun a3 h3 => ?_⟩))))
      simp only [withItems, upd_same]
      refine cells5 (.int _ sd) (.int _ sy) (.int _ sh) (.int _ si) (.int _ ss) (upd_same _ _ _) (fun e ρ2 hk => ?_) (fun T' e ρ' => nomatch e)
      have K2 : Keep H (upd H a3 ⟨[PV.int dd, .int yy, .int hh', .int ii, .int ss'], true⟩) := Keep.new h3
      have r2 := r.keep K2
      have hq := hQ _ K2
      generalize upd H a3 ⟨[PV.int dd, .int yy, .int hh', .int ii, .int ss'], true⟩ = H2 at *
      have s15 : ρ2 15 = _ := (hk 15 (by decide)).trans p15
      have s14 : ρ2 14 = _ := (hk 14 (by decide)).trans p14
      have s11 : ρ2 11 = _ := (hk 11 (by decide)).trans p11
      have s1 : ρ2 1 = _ := (hk 1 (by decide)).trans p1
      clear hk p15 p14 p11 p1 wdI
      obtain ⟨w', hw', cw, lw⟩ := wk_cut w0 w1
      obtain ⟨n', hn', cn, ln⟩ := mn_cut m0 m1
      rw [hw] at hw'; cases hw'
      rw [hn] at hn'; cases hn'
      refine after_next ?_
      have b1 : 0 ≤ wd % 7 ∧ wd % 7 < 7 := by omega
      have b2 : 0 ≤ (mo + 11) % 12 ∧ (mo + 11) % 12 < 12 := by omega
      have l2 : ∀ {n : Int}, smI n → (padI 2 n).length ≤ 20 := fun h => pad_len (by decide) h
      have l4 : ∀ {n : Int}, smI n → (padI 4 n).length ≤ 20 := fun h => pad_len (by decide) h
      have ld := l2 sd; have ly := l4 sy; have lh := l2 sh; have li := l2 si; have ls := l2 ss
      clear l2 l4
      walk_at "st"
      simp only [sAssign, aBin, aVar, s15, aCst, opMod, opMul, gName]
      refine ⟨by decide, mulL _ (by omega) (by omega), after_next ?_⟩
      have t13 : upd ρ2 13 (.int (wd % 7 * 3)) 13 = some (.int (wd % 7 * 3)) := upd_same _ _ _
      have t14 : upd ρ2 13 (.int (wd % 7 * 3)) 14 = _ := (upd_other _ _ (by decide)).trans s14
      have t11 : upd ρ2 13 (.int (wd % 7 * 3)) 11 = _ := (upd_other _ _ (by decide)).trans s11
      have t1 : upd ρ2 13 (.int (wd % 7 * 3)) 1 = _ := (upd_other _ _ (by decide)).trans s1
      generalize upd ρ2 13 (.int (wd % 7 * 3)) = ρ3 at *
      clear s15 s14 s11 s1
      walk_at "st"
      simp only [sAssign, aBin, aSlice, aVar, t13, t11, aCst, aCall, lCons, lNil, opSlice, partOf]
      refine ⟨⟨rfl, by simp only [szOk]; decide⟩, ?_⟩
      rw [show slc [77, 111, 110, 84, 117, 101, 87, 101, 100, 84, 104, 117, 70, 114, 105, 83, 97, 116, 83, 117, 110] (some (wd % 7 * 3)) (some (wd % 7 * 3 + 3)) = wt from cw]
      refine add_str (by simp only [List.length_cons, List.length_nil]; omega) (r2.item k2 rfl (figures_spec (w := 2) sd (by decide) (add_str (by simp only [List.length_append, List.length_cons, List.length_nil]; omega) ?_)))
      simp only [gName]
      refine after_next ?_
      generalize hx1 : wt ++ [44, 32] ++ padI 2 dd = x1
      have lx1 : x1.length ≤ 30 := by rw [← hx1]; simp only [List.length_append, List.length_cons, List.length_nil]; omega
      have u14 : upd ρ3 12 (.str x1) 14 = _ := (upd_other _ _ (by decide)).trans t14
      have u11 : upd ρ3 12 (.str x1) 11 = _ := (upd_other _ _ (by decide)).trans t11
      have u1 : upd ρ3 12 (.str x1) 1 = _ := (upd_other _ _ (by decide)).trans t1
      have u12 : upd ρ3 12 (.str x1) 12 = some (.str x1) := upd_same _ _ _
      generalize upd ρ3 12 (.str x1) = ρ4 at *
      clear t13 t14 t11 t1
      walk_at "st"
      simp only [sAssign, aBin, aVar, u14, aCst, opAdd, opMod, opMul, gName]
      refine ⟨by decide, mulL _ (by omega) (by omega), after_next ?_⟩
      have v13 : upd ρ4 13 (.int ((mo + 11) % 12 * 3)) 13 = some (.int ((mo + 11) % 12 * 3)) := upd_same _ _ _
      have v12 : upd ρ4 13 (.int ((mo + 11) % 12 * 3)) 12 = _ := (upd_other _ _ (by decide)).trans u12
      have v11 : upd ρ4 13 (.int ((mo + 11) % 12 * 3)) 11 = _ := (upd_other _ _ (by decide)).trans u11
      have v1 : upd ρ4 13 (.int ((mo + 11) % 12 * 3)) 1 = _ := (upd_other _ _ (by decide)).trans u1
      generalize upd ρ4 13 (.int ((mo + 11) % 12 * 3)) = ρ5 at *
      clear u14 u12 u11 u1
      walk_at "st"
      simp only [sAssign, aBin, aVar, v12, v13, aCst]
      refine add_str (by simp only [List.length_cons, List.length_nil]; omega) ?_
      simp only [aSlice, aCst, aVar, v13, aBin, opSlice, partOf]
      refine ⟨⟨rfl, by simp only [szOk]; decide⟩, ?_⟩
      rw [show slc [74, 97, 110, 70, 101, 98, 77, 97, 114, 65, 112, 114, 77, 97, 121, 74, 117, 110, 74, 117, 108, 65, 117, 103, 83, 101, 112, 79, 99, 116, 78, 111, 118, 68, 101, 99] (some ((mo + 11) % 12 * 3)) (some ((mo + 11) % 12 * 3 + 3)) = nt from cn]
      refine add_str (by simp only [List.length_append, List.length_cons, List.length_nil]; omega) ?_
      simp only [gName]
      refine after_next ?_
      generalize hx2 : x1 ++ [32] ++ nt = x2
      have lx2 : x2.length ≤ 40 := by rw [← hx2]; simp only [List.length_append, List.length_cons, List.length_nil]; omega
      have u11 : upd ρ5 12 (.str x2) 11 = _ := (upd_other _ _ (by decide)).trans v11
      have u1 : upd ρ5 12 (.str x2) 1 = _ := (upd_other _ _ (by decide)).trans v1
      have u12 : upd ρ5 12 (.str x2) 12 = some (.str x2) := upd_same _ _ _
      generalize upd ρ5 12 (.str x2) = ρ6 at *
      clear v13 v12 v11 v1
      walk_at "st"
      simp only [sAssign, aBin, aVar, u12, u11, aCst, aCall, lCons, lNil]
      refine add_str (by simp only [List.length_cons, List.length_nil]; omega) (r2.item k0 rfl (figures_spec (w := 4) sy (by decide) (add_str (by simp only [List.length_append, List.length_cons, List.length_nil]; omega) (add_str (by simp only [List.length_append, List.length_cons, List.length_nil]; omega) (r2.item k3 rfl (figures_spec (w := 2) sh (by decide) (add_str (by simp only [List.length_append, List.length_cons, List.length_nil]; omega) ?_)))))))
      simp only [gName]
      refine after_next ?_
      generalize hx3 : x2 ++ [32] ++ padI 4 yy ++ [32] ++ padI 2 hh' = x3
      have lx3 : x3.length ≤ 90 := by rw [← hx3]; simp only [List.length_append, List.length_cons, List.length_nil]; omega
      have t11 : upd ρ6 12 (.str x3) 11 = _ := (upd_other _ _ (by decide)).trans u11
      have t1 : upd ρ6 12 (.str x3) 1 = _ := (upd_other _ _ (by decide)).trans u1
      have t12 : upd ρ6 12 (.str x3) 12 = some (.str x3) := upd_same _ _ _
      generalize upd ρ6 12 (.str x3) = ρ7 at *
      clear u12 u11 u1
      walk_at "st"
      simp only [sAssign, aBin, aVar, t12, t11, aCst, aCall, lCons, lNil]
      refine add_str (by simp only [List.length_cons, List.length_nil]; omega) (r2.item k4 rfl (figures_spec (w := 2) si (by decide) (add_str (by simp only [List.length_append, List.length_cons, List.length_nil]; omega) (add_str (by simp only [List.length_append, List.length_cons, List.length_nil]; omega) (r2.item k5 rfl (figures_spec (w := 2) ss (by decide) (add_str (by simp only [List.length_append, List.length_cons, List.length_nil]; omega) ?_)))))))
      simp only [gName]
      refine after_next ?_
      generalize hx4 : x3 ++ [58] ++ padI 2 ii ++ [58] ++ padI 2 ss' = x4
      have lx4 : x4.length ≤ 150 := by rw [← hx4]; simp only [List.length_append, List.length_cons, List.length_nil]; omega
      have u1 : upd ρ7 12 (.str x4) 1 = _ := (upd_other _ _ (by decide)).trans t1
      have u12 : upd ρ7 12 (.str x4) 12 = some (.str x4) := upd_same _ _ _
      generalize upd ρ7 12 (.str x4) = ρ8 at *
      walk_at "st"
      simp only [sRet, aTup, lCons, lNil, aBin, aVar, u12, u1, aCst, aCall]
      refine add_str (by simp only [List.length_cons, List.length_nil]; omega) (shown_spec hz (add_str (by simp only [List.length_append, List.length_cons, List.length_nil]; omega) ⟨by simp only [szOk, List.length_cons, List.length_nil]; omega, after_ret (end_ret ?_)⟩))
      rw [← hx4, ← hx3, ← hx2, ← hx1]
      unfold fmText at hq
      simpa only [List.append_assoc, List.cons_append, List.nil_append] using hq
-- the rows that are built
def CellOk (p : PV) : Prop := ∃ o T, CellP p o T
def bds : List Int := [100000, 15, 1000, 1000, 1000, 1000, 9, 400, 3]
def valR (ns : List Int) : PV → Option PV
  | .int i => some (.int (sm (ns.getD i.toNat 0) (bds.getD i.toNat 1)))
  | _ => none
theorem item_list {H : AH} {a : Nat} {x : LO} {k : Int} {p : PV} {Q : PV → AH → Prop} (h : H a = some x) (hn : nth x.items k = some p) (hk : kOk k) (q : Q p H) : opItem (.ref a) (.int k) Q H := by
  simp only [opItem, h, hn]; exact ⟨hk, q⟩
theorem bd_at {i : Nat} (h : i < 9) : (bds.map PV.int)[i]? = some (.int (bds.getD i 1)) ∧ 0 < bds.getD i 1 ∧ bds.getD i 1 ≤ 100000 := by
  have : i = 0 ∨ i = 1 ∨ i = 2 ∨ i = 3 ∨ i = 4 ∨ i = 5 ∨ i = 6 ∨ i = 7 ∨ i = 8 := by omega
  rcases this with rfl | rfl | rfl | rfl | rfl | rfl | rfl | rfl | rfl <;> exact ⟨rfl, by decide, by decide⟩
theorem ns_at {ns : List Int} {i : Nat} (h : i < ns.length) : (ns.map PV.int)[i]? = some (.int (ns.getD i 0)) := by
  rw [List.getElem?_map, List.getElem?_eq_getElem h]
  simp [List.getD, h]
theorem rng_nine : rngItems 0 9 = [.int 0, .int 1, .int 2, .int 3, .int 4, .int 5, .int 6, .int 7, .int 8] := by rfl
theorem rowc_spec {Q : PV → AH → Prop} {ρ : AEnv} {H : AH} {N B : Nat} {o o' : Bool} {ns : List Int} (hn : ns.length = 14) (hN : H N = some ⟨ns.map .int, o⟩) (hB : H B = some ⟨bds.map .int, o'⟩) (r18 : ρ 18 = some (.ref N)) (r21 : ρ 21 = some (.ref B))
    (hQ : ∀ a H' ps, H a = none → Keep H H' → H' a = some ⟨ps, true⟩ → ps.length = 9 → (∀ p ∈ ps, CellOk p) → Q (.ref a) H') :
    aComp [21, 18] (gName 22) (aCall fRange (lCons (aCst (.int 9)) (lNil))) (tTrue) (aCall f__law_small (lCons (aBin opItem (aVar 18) (aVar 22)) (lCons (aBin opItem (aVar 21) (aVar 22)) (lNil)))) Q ρ H := by
  refine aComp_run mg_name mt_true (m_call m_f__law_small (ml_cons (m_bin mo_item m_var m_var) (ml_cons (m_bin mo_item m_var m_var) ml_nil))) (m_call mf_range (ml_cons m_cst ml_nil)) ?_
  simp only [aCall, lCons, lNil, aCst, fRange, withItems]
  refine ⟨⟨⟨by decide, by decide⟩, by decide, by decide⟩, fun ρ' => ρ' 18 = some (.ref N) ∧ ρ' 21 = some (.ref B), valR ns, fun _ _ => trivial, ⟨by simp [capt, r18], by simp [capt, r21]⟩, by rw [rng_nine]; decide, ?_, ?_⟩
  · rintro p hp ρ' H' ⟨j18, j21⟩ K
    obtain ⟨i, hi, rfl⟩ : ∃ i : Nat, i < 9 ∧ p = .int (i : Int) := by
      rw [rng_nine] at hp
      simp only [List.mem_cons, List.not_mem_nil, or_false] at hp
      rcases hp with rfl | rfl | rfl | rfl | rfl | rfl | rfl | rfl | rfl
      · exact ⟨0, by decide, rfl⟩
      · exact ⟨1, by decide, rfl⟩
      · exact ⟨2, by decide, rfl⟩
      · exact ⟨3, by decide, rfl⟩
      · exact ⟨4, by decide, rfl⟩
      · exact ⟨5, by decide, rfl⟩
      · exact ⟨6, by decide, rfl⟩
      · exact ⟨7, by decide, rfl⟩
      · exact ⟨8, by decide, rfl⟩
    have p18 : upd ρ' 22 (.int (i : Int)) 18 = some (.ref N) := by rw [upd_other _ _ (by decide)]; exact j18
    have p21 : upd ρ' 22 (.int (i : Int)) 21 = some (.ref B) := by rw [upd_other _ _ (by decide)]; exact j21
    have p22 : upd ρ' 22 (.int (i : Int)) 22 = some (.int (i : Int)) := upd_same _ _ _
    obtain ⟨b1, b2, b3⟩ := bd_at hi
    simp only [gName, tTrue, if_true, aBin, aVar, p18, p21, p22]
    refine item_list (K.at hN) (nth_of rfl (ns_at (by omega))) (kOk_of (by omega) (by omega)) (item_list (K.at hB) (nth_of rfl b1) (kOk_of (by omega) (by omega)) (small_spec b2 ⟨⟨trivial, trivial⟩, fun _ _ h => h, rfl⟩))
  · intro a H' ha K hE
    refine hQ a H' _ ha K hE (by rw [rng_nine]; rfl) ?_
    intro p hp
    obtain ⟨q, hq, e⟩ := List.mem_filterMap.mp hp
    obtain ⟨i, hi, rfl⟩ : ∃ i : Nat, i < 9 ∧ q = .int (i : Int) := by
      rw [rng_nine] at hq
      simp only [List.mem_cons, List.not_mem_nil, or_false] at hq
      rcases hq with rfl | rfl | rfl | rfl | rfl | rfl | rfl | rfl | rfl
      · exact ⟨0, by decide, rfl⟩
      · exact ⟨1, by decide, rfl⟩
      · exact ⟨2, by decide, rfl⟩
      · exact ⟨3, by decide, rfl⟩
      · exact ⟨4, by decide, rfl⟩
      · exact ⟨5, by decide, rfl⟩
      · exact ⟨6, by decide, rfl⟩
      · exact ⟨7, by decide, rfl⟩
      · exact ⟨8, by decide, rfl⟩
    obtain ⟨_, b2, b3⟩ := bd_at hi
    have e' : p = .int (sm (ns.getD i 0) (bds.getD i 1)) := (Option.some.inj e).symm
    subst e'
    have := sm_bound (n := ns.getD i 0) b2
    exact ⟨_, _, .int _ ⟨by omega, by omega⟩⟩
theorem set_step {Q : Fl → AEnv → AH → Prop} {ρ : AEnv} {H : AH} {k a : Nat} {e : Int} {v : PV} {ps : List PV} (r11 : ρ 11 = some (.ref a)) (rk : ρ k = some (.int e)) (ha : H a = some ⟨ps, true⟩) (hl : ps.length = 9) (hc : ∀ p ∈ ps, CellOk p) (hv : CellOk v)
    (hQ : ∀ H' ps', (∀ b, b ≠ a → H' b = H b) → H' a = some ⟨ps', true⟩ → ps'.length = 9 → (∀ p ∈ ps', CellOk p) → Q .next ρ H') :
    sIf (tCmp2 .LtE (aCst (.int 0)) .Lt (aVar k) (aCst (.int 9))) (sCons (sAssign (gSub (aVar 11) (aVar k)) (aCst v)) <| sNil) (sNil) Q ρ H := by
  simp only [sIf, tCmp2, aCst, aVar, rk, cmpOp, cmpLt]
  by_cases h0 : 0 ≤ e
  · have e0 : decide (0 ≤ e) = true := decide_eq_true h0
    refine cast (if_pos e0).symm ?_
    by_cases h9 : e < 9
    · have e9 : decide (e < 9) = true := decide_eq_true h9
      refine cast (if_pos e9).symm ?_
      walk_at "st"
      simp only [sAssign, aCst, gSub, aVar, r11, rk, setAt, withOwn, ha]
      refine ⟨trivial, ⟨h0, by omega, by omega⟩, after_next (sNil_next (hQ _ (ps.set e.toNat v) (fun b hb => upd_other _ _ hb) (upd_same _ _ _) (by rw [List.length_set]; exact hl) fun p hp => ?_))⟩
      rcases List.mem_or_eq_of_mem_set hp with h | rfl
      · exact hc p h
      · exact hv
    · have e9 : decide (e < 9) = false := decide_eq_false h9
      refine cast (if_neg (fun q => Bool.false_ne_true (e9.symm.trans q))).symm ?_
      exact sNil_next (hQ H ps (fun _ _ => rfl) ha hl hc)
  · have e0 : decide (0 ≤ e) = false := decide_eq_false h0
    refine cast (if_neg (fun q => Bool.false_ne_true (e0.symm.trans q))).symm ?_
    exact sNil_next (hQ H ps (fun _ _ => rfl) ha hl hc)
theorem cut_ok {ps : List PV} {k : Int} (hl : ps.length = 9) (hc : ∀ p ∈ ps, CellOk p) : (slcG ps none (some k) none).length ≤ 9 ∧ ∀ p ∈ slcG ps none (some k) none, CellOk p := by
  rw [slcG_plain]
  unfold slc
  refine ⟨?_, fun p hp => hc p (List.mem_of_mem_drop (List.mem_of_mem_take hp))⟩
  simp only [List.length_take, List.length_drop]; omega
theorem row_spec {Q : PV → AH → Prop} {H : AH} {N : Nat} {o : Bool} {ns : List Int} (hn : ns.length = 14) (hN : H N = some ⟨ns.map .int, o⟩)
    (hQ : ∀ a H' ps, H a = none → Keep H H' → H' a = some ⟨ps, true⟩ → ps.length ≤ 9 → (∀ p ∈ ps, CellOk p) → Q (.ref a) H') : f__law_row [.ref N] Q H := by
  refine fn rfl ?_
  walk_at "st"
  have q18 : bindP [18] [PV.ref N] 18 = some (.ref N) := rfl
  generalize bindP [18] [PV.ref N] = ρ0 at *
  simp only [sAssign, aList, lCons, lNil, aCst]
  refine ⟨by simp only [szOk]; decide, fun B hB => ?_⟩
  simp only [gName]
  refine after_next ?_
  have KB : Keep H (upd H B ⟨bds.map PV.int, true⟩) := Keep.new hB
  have EB : (upd H B ⟨bds.map PV.int, true⟩) B = some ⟨bds.map PV.int, true⟩ := upd_same _ _ _
  change sCons _ _ _ _ (upd H B ⟨bds.map PV.int, true⟩)
  generalize upd H B ⟨bds.map PV.int, true⟩ = H1 at *
  have p18 : upd ρ0 21 (.ref B) 18 = _ := (upd_other _ _ (by decide)).trans q18
  have p21 : upd ρ0 21 (.ref B) 21 = some (.ref B) := upd_same _ _ _
  generalize upd ρ0 21 (.ref B) = ρ1 at *
  clear q18
  walk_at "st"
  simp only [sAssign]
  refine rowc_spec hn (KB.at hN) EB p18 p21 fun a H2 ps ha K2 E2 l2 c2 => ?_
  simp only [gName]
  refine after_next ?_
  have K02 := KB.trans K2
  have ha0 : H a = none := KB.none ha
  have s18 : upd ρ1 11 (.ref a) 18 = _ := (upd_other _ _ (by decide)).trans p18
  have s11 : upd ρ1 11 (.ref a) 11 = some (.ref a) := upd_same _ _ _
  generalize upd ρ1 11 (.ref a) = ρ2 at *
  clear p18 p21 K2 EB KB ha
  have hN2 := K02.at hN
  have hNa : N ≠ a := ne_new hN ha0
  walk_at "st"
  simp only [sAssign, aBin, aCall, lCons, lNil, aVar, s18, aCst]
  refine item_list hN2 (nth_of (k := 9) rfl (ns_at (by omega))) (kOk_of (by decide) (by decide)) ?_
  simp only [fAbs, opMod, opSub, gName]
  refine ⟨by decide, after_next ?_⟩
  generalize (if ns.getD 9 0 < 0 then -ns.getD 9 0 else ns.getD 9 0) % 23 - 10 = e1
  have t18 : upd ρ2 20 (.int e1) 18 = _ := (upd_other _ _ (by decide)).trans s18
  have t11 : upd ρ2 20 (.int e1) 11 = _ := (upd_other _ _ (by decide)).trans s11
  have t20 : upd ρ2 20 (.int e1) 20 = some (.int e1) := upd_same _ _ _
  generalize upd ρ2 20 (.int e1) = ρ3 at *
  clear s18 s11
  walk_at "st"
  refine set_step t11 t20 E2 l2 c2 ⟨_, _, .none⟩ fun H3 ps3 k3 E3 l3 c3 => after_next ?_
  have hN3 : H3 N = _ := (k3 N hNa).trans hN2
  walk_at "st"
  simp only [sAssign, aBin, aCall, lCons, lNil, aVar, t18, aCst]
  refine item_list hN3 (nth_of (k := 10) rfl (ns_at (by omega))) (kOk_of (by decide) (by decide)) ?_
  simp only [fAbs, opMod, opSub, gName]
  refine ⟨by decide, after_next ?_⟩
  generalize (if ns.getD 10 0 < 0 then -ns.getD 10 0 else ns.getD 10 0) % 19 - 9 = e2
  have s18 : upd ρ3 19 (.int e2) 18 = _ := (upd_other _ _ (by decide)).trans t18
  have s11 : upd ρ3 19 (.int e2) 11 = _ := (upd_other _ _ (by decide)).trans t11
  have s19 : upd ρ3 19 (.int e2) 19 = some (.int e2) := upd_same _ _ _
  generalize upd ρ3 19 (.int e2) = ρ4 at *
  clear t18 t11 t20
  walk_at "st"
  refine set_step s11 s19 E3 l3 c3 ⟨_, _, .str _⟩ fun H4 ps4 k4 E4 l4 c4 => after_next ?_
  have hN4 : H4 N = _ := (k4 N hNa).trans hN3
  have K4 : Keep H H4 := fun b x hb => by
    have hba : b ≠ a := ne_new hb ha0
    rw [k4 b hba, k3 b hba]; exact K02.at hb
  walk_at "st"
  simp only [sIf, tCmp, aBin, aVar, s18, aCst]
  refine item_list hN4 (nth_of (k := 11) rfl (ns_at (by omega))) (kOk_of (by decide) (by decide)) ?_
  simp only [opMod, cmpOp, eq_int]
  refine ⟨by decide, ?_⟩
  by_cases h5 : ns.getD 11 0 % 5 = 4
  · have e5 : decide (ns.getD 11 0 % 5 = 4) = true := decide_eq_true h5
    refine cast (if_pos e5).symm ?_
    simp only [l__law_row_1]
    walk_at "st"
    simp only [sAssign, aSlice, aVar, s11, s18, aCst, aBin]
    refine item_list hN4 (nth_of (k := 11) rfl (ns_at (by omega))) (kOk_of (by decide) (by decide)) ?_
    simp only [opDiv, opMod, opSlice, partOf, E4]
    refine ⟨⟨by decide, by decide⟩, by decide, ⟨⟨(fun q => nomatch q), by rw [l4]; simp only [szOk]; omega⟩, fun a5 h5' => ?_⟩⟩
    simp only [gName]
    refine after_next (sNil_next (after_next ?_))
    walk_at "st"
    simp only [sRet, aVar, upd_same]
    obtain ⟨c5, c6⟩ := cut_ok (k := ns.getD 11 0 / 5 % 8) l4 c4
    exact after_ret (end_ret (hQ a5 _ _ (K4.none h5') (K4.trans (Keep.new h5')) (upd_same _ _ _) c5 c6))
  · have e5 : decide (ns.getD 11 0 % 5 = 4) = false := decide_eq_false h5
    refine cast (if_neg (fun q => Bool.false_ne_true (e5.symm.trans q))).symm ?_
    refine sNil_next (after_next ?_)
    walk_at "st"
    simp only [sRet, aVar, s11]
    exact after_ret (end_ret (hQ a _ _ ha0 K4 E4 (by omega) c4))
-- the law
theorem shown_len {z : PV} {zz : List Nat} (h : ShownP z zz) : zz.length ≤ 1000 := by
  cases h with
  | str z h => exact h
  | int n hn => have := pad_len (k := 0) (by decide) hn; omega
  | none => decide
theorem cell_flat {p : PV} {n : Nat} (h : CellOk p) : flat n p = true := by
  obtain ⟨o, T, c⟩ := h
  cases c <;> cases n <;> rfl
theorem rng_14 : rngItems 0 14 = [.int 0, .int 1, .int 2, .int 3, .int 4, .int 5, .int 6, .int 7, .int 8, .int 9, .int 10, .int 11, .int 12, .int 13] := by rfl
def ringAt (rs : List Int) (st i : Int) : Int := rs.getD ((st + i) % (rs.length : Int)).toNat 0
def valN (rs : List Int) (st : Int) : PV → Option PV
  | .int i => some (.int (ringAt rs st i))
  | _ => none
def numsAt (rs : List Int) (st : Int) : List Int := [0, 1, 2, 3, 4, 5, 6, 7, 8, 9, 10, 11, 12, 13].map (ringAt rs st)
theorem nums_spec {Q : PV → AH → Prop} {ρ : AEnv} {H : AH} {R : Nat} {o : Bool} {rs : List Int} {st : Int} (h0 : 0 < rs.length) (h1 : rs.length ≤ 63) (hR : H R = some ⟨rs.map .int, o⟩) (r24 : ρ 24 = some (.ref R)) (r25 : ρ 25 = some (.int st))
    (hQ : ∀ a H', H a = none → Keep H H' → H' a = some ⟨(numsAt rs st).map .int, true⟩ → Q (.ref a) H') :
    aComp [24, 25] (gName 22) (aCall fRange (lCons (aCst (.int 14)) (lNil))) (tTrue) (aBin opItem (aVar 24) (aBin opMod (aBin opAdd (aVar 25) (aVar 22)) (aCall fLen (lCons (aVar 24) (lNil))))) Q ρ H := by
  refine aComp_run mg_name mt_true (m_bin mo_item m_var (m_bin mo_mod (m_bin mo_add m_var m_var) (m_call mf_len (ml_cons m_var ml_nil)))) (m_call mf_range (ml_cons m_cst ml_nil)) ?_
  simp only [aCall, lCons, lNil, aCst, fRange, withItems]
  refine ⟨⟨⟨by decide, by decide⟩, by decide, by decide⟩, fun ρ' => ρ' 24 = some (.ref R) ∧ ρ' 25 = some (.int st), valN rs st, fun _ _ => trivial, ⟨by simp [capt, r24], by simp [capt, r25]⟩, by rw [rng_14]; decide, ?_, ?_⟩
  · rintro p hp ρ' H' ⟨j24, j25⟩ K
    obtain ⟨i, rfl, _⟩ := rng_mem hp
    have p24 : upd ρ' 22 (.int (0 + (i : Int))) 24 = some (.ref R) := by rw [upd_other _ _ (by decide)]; exact j24
    have p25 : upd ρ' 22 (.int (0 + (i : Int))) 25 = some (.int st) := by rw [upd_other _ _ (by decide)]; exact j25
    have p22 : upd ρ' 22 (.int (0 + (i : Int))) 22 = some (.int (0 + (i : Int))) := upd_same _ _ _
    generalize (0 + (i : Int)) = k at *
    have hm := K.at hR
    simp only [gName, tTrue, if_true, aBin, aCall, lCons, lNil, aVar, p24, p25, p22, opAdd, fLen, hm, opMod, List.length_map]
    have g0 := Int.emod_nonneg (st + k) (show (rs.length : Int) ≠ 0 by omega)
    have g1 := Int.emod_lt_of_pos (st + k) (show (0 : Int) < (rs.length : Int) by omega)
    refine ⟨by simp only [szOk]; omega, by omega, item_list hm (nth_of (k := ((st + k) % (rs.length : Int)).toNat) (by omega) (ns_at (by omega))) (kOk_of (by omega) (by omega)) ⟨⟨trivial, trivial⟩, fun _ _ h => h, rfl⟩⟩
  · intro a H' ha K hE
    rw [rng_14] at hE
    exact hQ a H' ha K hE
theorem zone_ex {n : Int} {x : Int} (hx : smI x) (h0 : 0 ≤ n) (h1 : n < 6) : ∃ z zz, nth [PV.str [71, 77, 84], .str [], .str [37, 115, 32, 37, 100, 37, 37], .none, .int x, .str [43, 48, 49, 48, 48, 32, 40, 97, 44, 32, 98, 41]] n = some z ∧ ShownP z zz := by
  have : n = 0 ∨ n = 1 ∨ n = 2 ∨ n = 3 ∨ n = 4 ∨ n = 5 := by omega
  rcases this with rfl | rfl | rfl | rfl | rfl | rfl
  · exact ⟨_, _, rfl, .str _ (by decide)⟩
  · exact ⟨_, _, rfl, .str _ (by decide)⟩
  · exact ⟨_, _, rfl, .str _ (by decide)⟩
  · exact ⟨_, _, rfl, .none⟩
  · exact ⟨_, _, rfl, .int _ hx⟩
  · exact ⟨_, _, rfl, .str _ (by decide)⟩
theorem ne_tups {H : AH} {x y : List Nat} {Q : Bool → AH → Prop} (q : Q false H) : cmpOp .NotEq (.tup [.str x, .str y]) (.tup [.str x, .str y]) Q H := by
  simp only [cmpOp]
  exact cmp_tups rfl rfl q
theorem turn_spec {Q : Fl → AEnv → AH → Prop} {ρ : AEnv} {H : AH} {R : Nat} {o : Bool} {rs : List Int} {st : Int} (h0 : 0 < rs.length) (h1 : rs.length ≤ 63) (hR : H R = some ⟨rs.map .int, o⟩) (r24 : ρ 24 = some (.ref R)) (r25 : ρ 25 = some (.int st))
    (hQ : ∀ ρ' H', ρ' 24 = some (.ref R) → Keep H H' → Q .next ρ' H') : l_law_3 Q ρ H := by
  simp only [l_law_3]
  walk_at "st"
  simp only [sAssign]
  refine nums_spec h0 h1 hR r24 r25 fun N H1 hN K1 E1 => ?_
  simp only [gName]
  refine after_next ?_
  have ln : (numsAt rs st).length = 14 := rfl
  generalize numsAt rs st = ns at *
  have q24 : upd ρ 18 (.ref N) 24 = _ := (upd_other _ _ (by decide)).trans r24
  have q18 : upd ρ 18 (.ref N) 18 = some (.ref N) := upd_same _ _ _
  generalize upd ρ 18 (.ref N) = ρ1 at *
  walk_at "st"
  simp only [sAssign, aCall, lCons, lNil, aVar, q18]
  refine row_spec ln E1 fun a H2 ps ha K2 E2 l2 c2 => ?_
  simp only [gName]
  refine after_next ?_
  have p24 : upd ρ1 11 (.ref a) 24 = _ := (upd_other _ _ (by decide)).trans q24
  have p18 : upd ρ1 11 (.ref a) 18 = _ := (upd_other _ _ (by decide)).trans q18
  have p11 : upd ρ1 11 (.ref a) 11 = some (.ref a) := upd_same _ _ _
  generalize upd ρ1 11 (.ref a) = ρ2 at *
  clear q24 q18
  walk_at "st"
  simp only [sAssign, aCall, lCons, lNil, aVar, p11, fList, E2]
  refine ⟨by simp only [szOk]; omega, fun b hb => ?_⟩
  simp only [gName]
  refine after_next ?_
  have K3 : Keep H2 (upd H2 b ⟨ps, true⟩) := Keep.new hb
  have E3 : upd H2 b ⟨ps, true⟩ b = some ⟨ps, true⟩ := upd_same _ _ _
  generalize upd H2 b ⟨ps, true⟩ = H3 at *
  have s24 : upd ρ2 26 (.ref b) 24 = _ := (upd_other _ _ (by decide)).trans p24
  have s18 : upd ρ2 26 (.ref b) 18 = _ := (upd_other _ _ (by decide)).trans p18
  have s11 : upd ρ2 26 (.ref b) 11 = _ := (upd_other _ _ (by decide)).trans p11
  have s26 : upd ρ2 26 (.ref b) 26 = some (.ref b) := upd_same _ _ _
  generalize upd ρ2 26 (.ref b) = ρ3 at *
  clear p24 p18 p11
  have N3 : H3 N = _ := K3.at (K2.at E1)
  have A3 : H3 a = _ := K3.at E2
  walk_at "st"
  simp only [sAssign, aList, aCall, lCons, lNil, aVar, aCst, aBin, s18]
  refine item_list N3 (nth_of (k := 13) rfl (ns_at (by omega))) (kOk_of (by decide) (by decide)) (small_spec (by decide) ⟨by simp only [szOk, List.length_cons, List.length_nil]; omega, fun Z hZ => ?_⟩)
  have hx := sm_bound (n := ns.getD 13 0) (b := 100000) (by decide)
  generalize sm (ns.getD 13 0) 100000 = x at *
  simp only [gName]
  refine after_next ?_
  have K4 : Keep H3 (upd H3 Z ⟨[PV.str [71, 77, 84], .str [], .str [37, 115, 32, 37, 100, 37, 37], .none, .int x, .str [43, 48, 49, 48, 48, 32, 40, 97, 44, 32, 98, 41]], true⟩) := Keep.new hZ
  have E4 : upd H3 Z ⟨[PV.str [71, 77, 84], .str [], .str [37, 115, 32, 37, 100, 37, 37], .none, .int x, .str [43, 48, 49, 48, 48, 32, 40, 97, 44, 32, 98, 41]], true⟩ Z = some ⟨[PV.str [71, 77, 84], .str [], .str [37, 115, 32, 37, 100, 37, 37], .none, .int x, .str [43, 48, 49, 48, 48, 32, 40, 97, 44, 32, 98, 41]], true⟩ := upd_same _ _ _
  generalize upd H3 Z ⟨[PV.str [71, 77, 84], .str [], .str [37, 115, 32, 37, 100, 37, 37], .none, .int x, .str [43, 48, 49, 48, 48, 32, 40, 97, 44, 32, 98, 41]], true⟩ = H4 at *
  have p24 : upd ρ3 28 (.ref Z) 24 = _ := (upd_other _ _ (by decide)).trans s24
  have p18 : upd ρ3 28 (.ref Z) 18 = _ := (upd_other _ _ (by decide)).trans s18
  have p11 : upd ρ3 28 (.ref Z) 11 = _ := (upd_other _ _ (by decide)).trans s11
  have p26 : upd ρ3 28 (.ref Z) 26 = _ := (upd_other _ _ (by decide)).trans s26
  have p28 : upd ρ3 28 (.ref Z) 28 = some (.ref Z) := upd_same _ _ _
  generalize upd ρ3 28 (.ref Z) = ρ4 at *
  clear s24 s18 s11 s26
  have N4 := K4.at N3
  have A4 := K4.at A3
  have B4 := K4.at E3
  have K04 : Keep H H4 := ((K1.trans K2).trans K3).trans K4
  clear N3 A3 E3 K4 K3 K2 K1 hR
  walk_at "st"
  simp only [sAssign, aCall, lCons, lNil, aVar, aCst, aBin, p18, p28]
  refine item_list N4 (nth_of (k := 13) rfl (ns_at (by omega))) (kOk_of (by decide) (by decide)) ?_
  simp only [fAbs, opMod]
  refine ⟨by decide, ?_⟩
  generalize (if ns.getD 13 0 < 0 then -ns.getD 13 0 else ns.getD 13 0) = u
  have u0 := Int.emod_nonneg u (show (6 : Int) ≠ 0 by decide)
  have u1 := Int.emod_lt_of_pos u (show (0 : Int) < 6 by decide)
  obtain ⟨z, zz, hz1, hz⟩ := zone_ex (n := u % 6) (x := x) ⟨by omega, by omega⟩ u0 u1
  refine item_list E4 hz1 (kOk_of (by omega) (by omega)) ?_
  simp only [gName]
  refine after_next ?_
  have s24 : upd ρ4 1 z 24 = _ := (upd_other _ _ (by decide)).trans p24
  have s18 : upd ρ4 1 z 18 = _ := (upd_other _ _ (by decide)).trans p18
  have s11 : upd ρ4 1 z 11 = _ := (upd_other _ _ (by decide)).trans p11
  have s26 : upd ρ4 1 z 26 = _ := (upd_other _ _ (by decide)).trans p26
  have s1 : upd ρ4 1 z 1 = some z := upd_same _ _ _
  generalize upd ρ4 1 z = ρ5 at *
  clear p24 p18 p11 p26 p28
  walk_at "st"
  have rest : ∀ (g : PV) (lst : Bool), RowAt H4 g lst ps → sCons (sIf (tCmp .NotEq (aCall f__law_tried (lCons (aVar 27) (lCons (aVar 1) (lNil)))) (aCall f__law_wanted (lCons (aVar 27) (lCons (aVar 1) (lNil))))) (l_law_2) (sNil)) (sCons (sIf (tCmp .NotEq (aVar 11) (aVar 26)) (l_law_1) (sNil)) sNil) Q (upd ρ5 27 g) H4 := by
    intro g lst r
    have p24 : upd ρ5 27 g 24 = _ := (upd_other _ _ (by decide)).trans s24
    have p11 : upd ρ5 27 g 11 = _ := (upd_other _ _ (by decide)).trans s11
    have p26 : upd ρ5 27 g 26 = _ := (upd_other _ _ (by decide)).trans s26
    have p1 : upd ρ5 27 g 1 = _ := (upd_other _ _ (by decide)).trans s1
    have p27 : upd ρ5 27 g 27 = some g := upd_same _ _ _
    generalize upd ρ5 27 g = ρ6 at *
    obtain ⟨cls, msg, ho⟩ := out_ex (lst := lst) (ps := ps) (zz := zz) c2
    walk_at "st"
    simp only [sIf, tCmp, aCall, lCons, lNil, aVar, p27, p1]
    refine tried_spec hz r ho fun H5 K5 => wanted_spec l2 (shown_len hz) hz (r.keep K5) ho fun H6 K6 => ne_tups ?_
    refine sNil_next (after_next ?_)
    have K46 := K5.trans K6
    walk_at "st"
    simp only [sIf, tCmp, aVar, p11, p26, cmpOp]
    refine cmp_lists (K46.at A4) (K46.at B4) (flats_all fun p hp => cell_flat (c2 p hp)) rfl ?_
    exact sNil_next (after_next (sNil_next (hQ _ _ p24 (K04.trans K46))))
  simp only [sAssign, aIf, tCmp, aCall, lCons, lNil, aVar, aCst, aBin, s18, s11, gName]
  refine item_list N4 (nth_of (k := 12) rfl (ns_at (by omega))) (kOk_of (by decide) (by decide)) ?_
  simp only [opMod, cmpOp, eq_int]
  refine ⟨by decide, ?_⟩
  by_cases h2 : ns.getD 12 0 % 2 = 1
  · refine cast (if_pos (decide_eq_true h2)).symm ?_
    simp only [fTuple, A4]
    exact ⟨by simp only [szOk]; omega, after_next (rest _ false (.inr ⟨rfl, rfl⟩))⟩
  · refine cast (if_neg (fun q => h2 (of_decide_eq_true q))).symm ?_
    exact after_next (rest _ true (.inl ⟨rfl, a, true, rfl, A4⟩))
def rI (R : Nat) (rs : List Int) (ps : List PV) (ρ : AEnv) (H : AH) : Prop := H R = some ⟨rs.map .int, true⟩ ∧ ρ 24 = some (.ref R) ∧ ∀ p ∈ ps, ∃ k : Int, p = .int k
theorem ring_spec {H : AH} {R : Nat} {rs : List Int} {ρ : AEnv} (h0 : 0 < rs.length) (h1 : rs.length ≤ 63) (hR : H R = some ⟨rs.map .int, true⟩) (r24 : ρ 24 = some (.ref R)) :
    sCons (sFor (gName 25) (aCall fRange (lCons (aCall fLen (lCons (aVar 24) (lNil))) (lNil))) (l_law_3)) (sCons (sRet (aCst (.bool true))) sNil) (endF (fun p _ => p = .bool true)) ρ H := by
  walk_at "st"
  simp only [sFor, aCall, lCons, lNil, aVar, r24, fLen, hR, fRange, withItems, List.length_map]
  refine ⟨by simp only [szOk]; omega, ⟨⟨by decide, by decide⟩, by omega, by omega⟩, ?_⟩
  refine forL_inv mg_name m_l_law_3 (rI R rs) ?_ ?_ _ _ _ ⟨hR, r24, fun p hp => ?_⟩
  · rintro p ps ρ' H' ⟨hR', r24', hp⟩
    obtain ⟨k, rfl⟩ := hp p (.head _)
    simp only [gName]
    exact turn_spec h0 h1 hR' ((upd_other _ _ (by decide)).trans r24') (upd_same _ _ _) fun ρ2 H2 r2 K2 => ⟨trivial, K2.at hR', r2, fun q hq => hp q (.tail _ hq)⟩
  · rintro ρ' H' _
    refine after_next ?_
    walk_at "st"
    simp only [sRet, aCst]
    exact after_ret (end_ret rfl)
  · obtain ⟨k, e, _⟩ := rng_mem hp
    exact ⟨_, e⟩
theorem law_spec {ns : List Int} {s : Nat} {H : AH} (hn : ns.length ≤ 63) (hs : H s = some ⟨ns.map .int, false⟩) : f_law [.ref s] (fun p _ => p = .bool true) H := by
  refine fn rfl ?_
  walk_at "st"
  have q23 : bindP [23] [PV.ref s] 23 = some (.ref s) := rfl
  generalize bindP [23] [PV.ref s] = ρ0 at *
  simp only [sAssign, aIf, tVal, aVar, q23, truth, hs, List.length_map]
  refine ⟨by simp only [szOk]; omega, ?_⟩
  cases ns with
  | nil =>
    simp only [List.map_nil, List.isEmpty_nil, Bool.not_true, Bool.false_eq_true, if_false, aList, lCons, lNil, aCst]
    refine ⟨by simp only [szOk]; decide, fun R hR => ?_⟩
    simp only [gName]
    exact after_next (ring_spec (rs := [0]) (by decide) (by decide) (upd_same _ _ _) (upd_same _ _ _))
  | cons n ns =>
    simp only [List.map_cons, List.isEmpty_cons, Bool.not_false, if_true, aCall, lCons, lNil, aVar, q23, fList, hs]
    refine ⟨by simp only [szOk, List.length_cons, List.length_map] at *; omega, fun R hR => ?_⟩
    simp only [gName]
    exact after_next (ring_spec (rs := n :: ns) (by simp) hn (upd_same _ _ _) (upd_same _ _ _))
end Mine
namespace Mine
open_top hd for PySem.Challenge.rw_dm0098_01
end Mine
open Mine
theorem PySem.Challenge.cw_dm0098_01_holds : PySem.Challenge.rw_dm0098_01.Holds :=
  Mine.hd (Mine.link_top Mine.NN Mine.NN_nodup rfl rfl fun c hq hl => by
  have b_IndexError : c.mg (Str.ofString "IndexError") = none := free_of hq hl (by decide +kernel)
  have b_TypeError : c.mg (Str.ofString "TypeError") = none := free_of hq hl (by decide +kernel)
  have b_abs : c.mg (Str.ofString "abs") = none := free_of hq hl (by decide +kernel)
  have b_divmod : c.mg (Str.ofString "divmod") = none := free_of hq hl (by decide +kernel)
  have b_int : c.mg (Str.ofString "int") = none := free_of hq hl (by decide +kernel)
  have b_isinstance : c.mg (Str.ofString "isinstance") = none := free_of hq hl (by decide +kernel)
  have b_len : c.mg (Str.ofString "len") = none := free_of hq hl (by decide +kernel)
  have b_list : c.mg (Str.ofString "list") = none := free_of hq hl (by decide +kernel)
  have b_range : c.mg (Str.ofString "range") = none := free_of hq hl (by decide +kernel)
  have b_str : c.mg (Str.ofString "str") = none := free_of hq hl (by decide +kernel)
  have b_tuple : c.mg (Str.ofString "tuple") = none := free_of hq hl (by decide +kernel)
  have h__law_small := s__law_small c (mem_rec (i := 1) hq rfl) b_abs
  have h__law_figures := s__law_figures c (mem_rec (i := 2) hq rfl) b_abs b_divmod b_len
  have h__law_kind := s__law_kind c (mem_rec (i := 3) hq rfl)
  have h__law_shown := s__law_shown c (mem_rec (i := 4) hq rfl) h__law_figures b_int b_isinstance
  have h__law_wanted := s__law_wanted c (mem_rec (i := 5) hq rfl) h__law_figures h__law_kind h__law_shown b_int b_isinstance b_len b_list
  have h__law_tried := s__law_tried c (mem_rec (i := 0) hq rfl) (mem_rec (i := 6) hq rfl) b_str b_IndexError b_TypeError
  have h__law_row := s__law_row c (mem_rec (i := 7) hq rfl) h__law_small b_abs b_range
  have h_law := s_law c (mem_rec (i := 8) hq rfl) h__law_row h__law_small h__law_tried h__law_wanted b_abs b_len b_list b_range b_tuple
  exact ⟨4, _, by decide, h_law, fun ns a H hn ha => law_spec hn ha⟩)
