import PyProof.Rows.All
import Wide.All
import OpenK.AllK
import Wide.FinOn
import Lean
import PySem.Challenge.RW_oo0004_02
set_option Elab.async false
set_option maxRecDepth 100000
set_option linter.all false
namespace Mine
open PySem PySem.W PySem.Calls PySem.Spec PyProof.Rows

abbrev Led := List (Addr × Obj)
abbrev NE : Value → Shared → Prop := fun _ _ => False

inductive D where
  | int (i : Int)
  | bool (b : Bool)
  | str (x : PySem.Str)
  | none
  | list (ds : List D)
  | tup (ds : List D)
  | own (k : Nat)
  | rng (a : Int) (n : Nat)
  | typ (T : String)
  | tab (P : Addr → Obj → Prop)

abbrev Rho := List (PySem.Str × D)
abbrev Sig := List (List D)

abbrev tupO (vs : List Value) : Obj := { cls := .type "tuple", data := .seq vs.toArray }
abbrev rngO (a b : Int) (t u v : Tok) : Obj := { cls := .type "range", dict := none, data := .fields #[.int a t, .int b u, .int 1 v], slots := #[] }

def Src (hr : Heap) (a : Addr) (its : Array Value) (Z : Led) : Prop := hr.IsList a its ∨ ∃ n, (a, W.listOf its n) ∈ Z

inductive Rep (hr : Heap) (as : List Addr) (Z : Led) : Value → D → Prop
  | int (i : Int) (t : Tok) : Rep hr as Z (.int i t) (.int i)
  | bool (b : Bool) : Rep hr as Z (.bool b) (.bool b)
  | str (x : PySem.Str) (t : Tok) : Rep hr as Z (.str x t) (.str x)
  | none : Rep hr as Z .none .none
  | typ (T : String) : Rep hr as Z (.type T) (.typ T)
  | tab {a : Addr} {o : Obj} {P : Addr → Obj → Prop} : (a, o) ∈ Z → P a o → Rep hr as Z (.ref a) (.tab P)
  | list {a : Addr} {vs : List Value} {ds : List D} : Src hr a vs.toArray Z → vs.length = ds.length →
      (∀ (i : Nat) v d, vs[i]? = some v → ds[i]? = some d → Rep hr as Z v d) → Rep hr as Z (.ref a) (.list ds)
  | tup {a : Addr} {vs : List Value} {ds : List D} : (a, tupO vs) ∈ Z → vs.length = ds.length →
      (∀ (i : Nat) v d, vs[i]? = some v → ds[i]? = some d → Rep hr as Z v d) → Rep hr as Z (.ref a) (.tup ds)
  | own {a : Addr} {k : Nat} : as[k]? = some a → Rep hr as Z (.ref a) (.own k)
  | rng {r : Addr} {a b : Int} {n : Nat} {t u v : Tok} : (r, rngO a b t u v) ∈ Z → Builtin.Range.small a b 1 = true →
      Builtin.Range.rangeSize a b 1 = ((n : Nat) : Int) → Rep hr as Z (.ref r) (.rng a n)

def RepL (hr : Heap) (as : List Addr) (Z : Led) (vs : List Value) (ds : List D) : Prop :=
  vs.length = ds.length ∧ ∀ (i : Nat) v d, vs[i]? = some v → ds[i]? = some d → Rep hr as Z v d

theorem srcAt_mono {hr : Heap} {a : Addr} {its : Array Value} {Z Z' : Led} (hz : ∀ p ∈ Z, p ∈ Z') (h : Src hr a its Z) : Src hr a its Z' := by
  rcases h with h | ⟨o, hm⟩
  · exact .inl h
  · exact .inr ⟨o, hz _ hm⟩

theorem Rep.ext {hr : Heap} {as as' : List Addr} {Z Z' : Led} (ha : ∀ (k : Nat) (a : Addr), as[k]? = some a → as'[k]? = some a) (hz : ∀ p ∈ Z, p ∈ Z') {v : Value} {d : D} (h : Rep hr as Z v d) : Rep hr as' Z' v d := by
  induction h with
  | int i t => exact .int i t
  | bool b => exact .bool b
  | str x t => exact .str x t
  | none => exact .none
  | typ T => exact .typ T
  | tab h p => exact .tab (hz _ h) p
  | list hs hl _ ih => exact .list (srcAt_mono hz hs) hl ih
  | tup hm hl _ ih => exact .tup (hz _ hm) hl ih
  | own hk => exact .own (ha _ _ hk)
  | rng hm h1 h2 => exact .rng (hz _ hm) h1 h2

theorem RepL.ext {hr : Heap} {as as' : List Addr} {Z Z' : Led} (ha : ∀ (k : Nat) (a : Addr), as[k]? = some a → as'[k]? = some a) (hz : ∀ p ∈ Z, p ∈ Z') {vs : List Value} {ds : List D} (h : RepL hr as Z vs ds) : RepL hr as' Z' vs ds :=
  ⟨h.1, fun i v d a b => (h.2 i v d a b).ext ha hz⟩
theorem RepL.nil {hr : Heap} {as : List Addr} {Z : Led} : RepL hr as Z [] [] := ⟨rfl, fun i v d a _ => by simp at a⟩
theorem RepL.cons {hr : Heap} {as : List Addr} {Z : Led} {v : Value} {d : D} {vs : List Value} {ds : List D} (h : Rep hr as Z v d) (r : RepL hr as Z vs ds) : RepL hr as Z (v :: vs) (d :: ds) := by
  refine ⟨by simp [r.1], fun i v' d' a b => ?_⟩
  cases i with
  | zero => simp at a b; subst a; subst b; exact h
  | succ i => simp at a b; exact r.2 i _ _ a b
theorem RepL.append {hr : Heap} {as : List Addr} {Z : Led} {vs ws : List Value} {ds es : List D} (h : RepL hr as Z vs ds) (r : RepL hr as Z ws es) : RepL hr as Z (vs ++ ws) (ds ++ es) := by
  refine ⟨by simp [h.1, r.1], fun i v' d' a b => ?_⟩
  by_cases hi : i < vs.length
  · rw [List.getElem?_append_left hi] at a
    rw [List.getElem?_append_left (h.1 ▸ hi)] at b
    exact h.2 i _ _ a b
  · have hi' : vs.length ≤ i := Nat.le_of_not_lt hi
    rw [List.getElem?_append_right hi'] at a
    rw [List.getElem?_append_right (h.1 ▸ hi')] at b
    rw [← h.1] at b
    exact r.2 _ _ _ a b
theorem RepL.toList {hr : Heap} {as : List Addr} {Z : Led} {a : Addr} {vs : List Value} {ds : List D} (hs : Src hr a vs.toArray Z) (r : RepL hr as Z vs ds) : Rep hr as Z (.ref a) (.list ds) := .list hs r.1 r.2

/-- what holds of the heap between two steps -/
structure Inv (h₀ hr : Heap) (L : Addr) (h : Heap) (m : PySem.Str → Option Value) (X O Z : Led) (σ : Sig) : Prop where
  F : Fr h₀ L h m
  N : News h₀ L h (X ++ (O ++ Z))
  nd : ((X ++ (O ++ Z)).map (·.1)).Nodup
  on : O.length = σ.length
  ow : ∀ (k : Nat) p ds, O[k]? = some p → σ[k]? = some ds → ∃ vs n, p.2 = W.listOf (List.toArray vs) n ∧ RepL hr (O.map (·.1)) Z vs ds

def Ext (O O' Z Z' : Led) : Prop := (∃ t, O'.map (·.1) = O.map (·.1) ++ t) ∧ ∀ p ∈ Z, p ∈ Z'
theorem Ext.refl {O Z : Led} : Ext O O Z Z := ⟨⟨[], by simp⟩, fun _ h => h⟩
theorem Ext.trans {O O' O'' Z Z' Z'' : Led} (a : Ext O O' Z Z') (b : Ext O' O'' Z' Z'') : Ext O O'' Z Z'' := by
  obtain ⟨⟨t, e⟩, s⟩ := a
  obtain ⟨⟨t', e'⟩, s'⟩ := b
  exact ⟨⟨t ++ t', by rw [e', e, List.append_assoc]⟩, fun p h => s' p (s p h)⟩
theorem Ext.as {O O' Z Z' : Led} (a : Ext O O' Z Z') : ∀ (k : Nat) b, (O.map (·.1))[k]? = some b → (O'.map (·.1))[k]? = some b := by
  obtain ⟨⟨t, e⟩, _⟩ := a
  intro k b h
  rw [e]
  have hk : k < (O.map (·.1)).length := by
    rcases Nat.lt_or_ge k (O.map (·.1)).length with h1 | h1
    · exact h1
    · rw [List.getElem?_eq_none h1] at h; cases h
  rw [List.getElem?_append_left hk]; exact h
theorem Rep.up {hr : Heap} {O O' Z Z' : Led} (x : Ext O O' Z Z') {v : Value} {d : D} (h : Rep hr (O.map (·.1)) Z v d) : Rep hr (O'.map (·.1)) Z' v d := h.ext x.as x.2
theorem RepL.up {hr : Heap} {O O' Z Z' : Led} (x : Ext O O' Z Z') {v : List Value} {d : List D} (h : RepL hr (O.map (·.1)) Z v d) : RepL hr (O'.map (·.1)) Z' v d := h.ext x.as x.2

/-- where a name's value stands -/
inductive LocAt (env : Env) (L : Addr) (m : PySem.Str → Option Value) (X : Led) (x : PySem.Str) (v : Value) : Prop
  | loc : env.scope.kind = .function → env.kindOf x = some .local → env.locals = L → m x = some v → LocAt env L m X x v
  | comp {oC : Obj} {m₂ : PySem.Str → Option Value} : env.scope.kind = .function → env.kindOf x = some .local → (env.locals, oC) ∈ X → LCg.NsObj oC m₂ → m₂ x = some v → LocAt env L m X x v
  | cell {c : Addr} {o : Obj} : env.scope.kind = .function → env.kindOf x = some .cell → env.cells.lookup x = some c → (c, o) ∈ X → o.data = .cell (some v) → LocAt env L m X x v

def Mod (env : Env) (hr : Heap) (L : Addr) (m : PySem.Str → Option Value) (X : Led) (as : List Addr) (Z : Led) (ρ : Rho) : Prop :=
  ∀ x d, ρ.lookup x = some d → ∃ v, LocAt env L m X x v ∧ Rep hr as Z v d
theorem Mod.up {env : Env} {hr : Heap} {L : Addr} {m : PySem.Str → Option Value} {X O O' Z Z' : Led} {ρ : Rho} (x : Ext O O' Z Z') (h : Mod env hr L m X (O.map (·.1)) Z ρ) : Mod env hr L m X (O'.map (·.1)) Z' ρ :=
  fun y d e => let ⟨v, a, b⟩ := h y d e; ⟨v, a, b.up x⟩

structure Gl where
  prog : Program
  w : World
  K : Frag
  p : Program
  loose : List PySem.Str
  mean : ExcName → Option Value
  mg : PySem.Str → Option Value
  mb : PySem.Str → Option Value

structure Cx (g : Gl) (A : Around) (hr : Heap) (outer : List Env) (ef : Env) (L : Addr) (h₀ : Heap) (n : Nat) : Prop where
  below : ∃ A₀, Below A₀ hr outer h₀
  frames : A.frames = some (ef :: outer)
  efr : ef.frame = some L
  ekd : ef.scope.kind = .function
  K : g.K.In h₀
  T : Top g.p g.loose g.mean g.mg g.mb h₀
  hh : A.handled = none
  dep : A.depth + n < recursionLimit
  un : A.units + 4 * n + 80 < cLine

theorem Cx.stays {g : Gl} {A : Around} {hr : Heap} {outer : List Env} {ef : Env} {L : Addr} {h₀ : Heap} {n : Nat} (C : Cx g A hr outer ef L h₀ n) : hr.StaysIn h₀ := let ⟨_, B⟩ := C.below; B.stays

theorem srcAt_list {g : Gl} {A : Around} {hr : Heap} {outer : List Env} {ef : Env} {L : Addr} {h₀ h : Heap} {n : Nat} {m : PySem.Str → Option Value} {X O Z : Led} {σ : Sig} {a : Addr} {its : Array Value}
    (C : Cx g A hr outer ef L h₀ n) (I : Inv h₀ hr L h m X O Z σ) (s : Src hr a its Z) : h.IsList a its := by
  rcases s with ⟨o, e, r⟩ | ⟨c, hm⟩
  · exact ⟨o, I.F.keep _ _ (C.stays _ _ e), r⟩
  · exact ⟨_, (I.N _ (List.mem_append_right _ (List.mem_append_right _ hm))).1, rfl, c, rfl⟩

/-- the expression e, in the frame's state ρ, σ, gives d and leaves σ' -/
def Ev (g : Gl) (n : Nat) (env : Env) (ρ : Rho) (σ : Sig) (e : Expr) (d : D) (σ' : Sig) : Prop :=
  ∀ ⦃A : Around⦄ ⦃hr : Heap⦄ ⦃outer : List Env⦄ ⦃ef : Env⦄ ⦃L : Addr⦄ ⦃h₀ : Heap⦄ ⦃m : PySem.Str → Option Value⦄ ⦃X O Z : Led⦄ ⦃s : Shared⦄ ⦃Q : Value → Shared → Prop⦄,
    Cx g A hr outer ef L h₀ n → Inv h₀ hr L s.heap m X O Z σ → Mod env hr L m X (O.map (·.1)) Z ρ →
    (∀ v h' tk O' Z', Inv h₀ hr L h' m X O' Z' σ' → Ext O O' Z Z' → Rep hr (O'.map (·.1)) Z' v d → Q v { s with heap := h', toks := tk }) →
    wpAny (model g.prog g.w) A (eval e env) Q NE s

/-- an address that nothing of the state speaks of -/
structure Fresh (h₀ : Heap) (L : Addr) (h : Heap) (X O Z : Led) (a : Addr) (o : Obj) : Prop where
  at_ : h.get? a = some o
  nL : a ≠ L
  n0 : h₀.get? a = none
  nm : a ∉ (X ++ (O ++ Z)).map (·.1)

/-- the same for a list that is made anew -/
def EvF (g : Gl) (n : Nat) (env : Env) (ρ : Rho) (σ : Sig) (e : Expr) (ds : List D) (σ' : Sig) : Prop :=
  ∀ ⦃A : Around⦄ ⦃hr : Heap⦄ ⦃outer : List Env⦄ ⦃ef : Env⦄ ⦃L : Addr⦄ ⦃h₀ : Heap⦄ ⦃m : PySem.Str → Option Value⦄ ⦃X O Z : Led⦄ ⦃s : Shared⦄ ⦃Q : Value → Shared → Prop⦄,
    Cx g A hr outer ef L h₀ n → Inv h₀ hr L s.heap m X O Z σ → Mod env hr L m X (O.map (·.1)) Z ρ →
    (∀ a vs c h' tk O' Z', Inv h₀ hr L h' m X O' Z' σ' → Fresh h₀ L h' X O' Z' a (W.listOf (List.toArray vs) c) → Ext O O' Z Z' → RepL hr (O'.map (·.1)) Z' vs ds → Q (.ref a) { s with heap := h', toks := tk }) →
    wpAny (model g.prog g.w) A (eval e env) Q NE s

theorem Inv.addZ {h₀ hr : Heap} {L : Addr} {h : Heap} {m : PySem.Str → Option Value} {X O Z : Led} {σ : Sig} {a : Addr} {o : Obj}
    (I : Inv h₀ hr L h m X O Z σ) (f : Fresh h₀ L h X O Z a o) : Inv h₀ hr L h m X O ((a, o) :: Z) σ := by
  have pm : (X ++ (O ++ (a, o) :: Z)).Perm ((a, o) :: (X ++ (O ++ Z))) := by
    rw [← List.append_assoc, ← List.append_assoc]; exact List.perm_middle
  refine ⟨I.F, fun p hp => ?_, ?_, I.on, fun k p ds hp hd => ?_⟩
  · rcases List.mem_cons.mp (pm.mem_iff.mp hp) with rfl | hp
    · exact ⟨f.at_, f.nL, f.n0⟩
    · exact I.N p hp
  · rw [(pm.map _).nodup_iff]
    exact List.nodup_cons.mpr ⟨f.nm, I.nd⟩
  · obtain ⟨vs, c, e, r⟩ := I.ow k p ds hp hd
    exact ⟨vs, c, e, r.ext (fun _ _ q => q) fun p hp => .tail _ hp⟩

theorem map_up {O : Led} {p : Addr × Obj} : ∀ (k : Nat) (b : Addr), (O.map (·.1))[k]? = some b → ((O ++ [p]).map (·.1))[k]? = some b :=
  Ext.as (O' := O ++ [p]) (Z := []) (Z' := []) ⟨⟨[p.1], by simp⟩, fun _ h => h⟩

theorem Inv.addO {h₀ hr : Heap} {L : Addr} {h : Heap} {m : PySem.Str → Option Value} {X O Z : Led} {σ : Sig} {a : Addr} {vs : List Value} {c : Nat} {ds : List D}
    (I : Inv h₀ hr L h m X O Z σ) (f : Fresh h₀ L h X O Z a (W.listOf (List.toArray vs) c)) (r : RepL hr (O.map (·.1)) Z vs ds) :
    Inv h₀ hr L h m X (O ++ [(a, W.listOf (List.toArray vs) c)]) Z (σ ++ [ds]) := by
  have pm : (X ++ ((O ++ [(a, W.listOf (List.toArray vs) c)]) ++ Z)).Perm ((a, W.listOf (List.toArray vs) c) :: (X ++ (O ++ Z))) := by
    have e : X ++ ((O ++ [(a, W.listOf (List.toArray vs) c)]) ++ Z) = (X ++ O) ++ (a, W.listOf (List.toArray vs) c) :: Z := by simp
    rw [e, ← List.append_assoc]; exact List.perm_middle
  refine ⟨I.F, fun p hp => ?_, ?_, by simp [I.on], fun k p ds' hp hd => ?_⟩
  · rcases List.mem_cons.mp (pm.mem_iff.mp hp) with rfl | hp
    · exact ⟨f.at_, f.nL, f.n0⟩
    · exact I.N p hp
  · rw [(pm.map _).nodup_iff]
    exact List.nodup_cons.mpr ⟨f.nm, I.nd⟩
  · by_cases hk : k < O.length
    · rw [List.getElem?_append_left hk] at hp
      rw [List.getElem?_append_left (I.on ▸ hk)] at hd
      obtain ⟨vs', n', e', r'⟩ := I.ow k p ds' hp hd
      exact ⟨vs', n', e', r'.ext map_up fun _ h => h⟩
    · have hk' : O.length ≤ k := Nat.le_of_not_lt hk
      rw [List.getElem?_append_right hk'] at hp
      rw [List.getElem?_append_right (I.on ▸ hk')] at hd
      rw [← I.on] at hd
      cases hz : k - O.length with
      | zero =>
        rw [hz] at hp hd
        simp at hp hd
        subst hp; subst hd
        exact ⟨vs, c, rfl, r.ext map_up fun _ h => h⟩
      | succ j => rw [hz] at hp; simp at hp

theorem EvF.frozen {g : Gl} {n : Nat} {env : Env} {ρ : Rho} {σ σ' : Sig} {e : Expr} {ds : List D} (h : EvF g n env ρ σ e ds σ') : Ev g n env ρ σ e (.list ds) σ' := by
  intro A hr outer ef L h₀ m X O Z s Q C I M k
  refine h C I M fun a vs c h' tk O' Z' I' f x r => k _ _ _ O' _ (I'.addZ f) ⟨x.1, fun p hp => .tail _ (x.2 p hp)⟩ ?_
  exact RepL.toList (.inr ⟨c, .head _⟩) (r.ext (fun _ _ q => q) fun p hp => .tail _ hp)

theorem EvF.own {g : Gl} {n : Nat} {env : Env} {ρ : Rho} {σ σ' : Sig} {e : Expr} {ds : List D} (h : EvF g n env ρ σ e ds σ') : Ev g n env ρ σ e (.own σ'.length) (σ' ++ [ds]) := by
  intro A hr outer ef L h₀ m X O Z s Q C I M k
  refine h C I M fun a vs c h' tk O' Z' I' f x r => k _ _ _ (O' ++ [(a, W.listOf (List.toArray vs) c)]) Z' (I'.addO f r) (x.trans ⟨⟨[a], by simp⟩, fun _ h => h⟩) ?_
  refine .own ?_
  rw [List.map_append, ← I'.on, List.getElem?_append_right (by simp)]
  simp

/-- a fresh object by the library's own words -/
theorem Fresh.of {h₀ hr : Heap} {L : Addr} {h h' : Heap} {m : PySem.Str → Option Value} {X O Z : Led} {σ : Sig} {a : Addr} {o : Obj}
    (I : Inv h₀ hr L h m X O Z σ) (F : Fr h₀ L h' m) (N : News h₀ L h' ((a, o) :: (X ++ (O ++ Z)))) (lt : ∀ p ∈ X ++ (O ++ Z), p.1 < a) :
    Inv h₀ hr L h' m X O Z σ ∧ Fresh h₀ L h' X O Z a o := by
  refine ⟨⟨F, fun p hp => N p (.tail _ hp), I.nd, I.on, I.ow⟩, (N _ (.head _)).1, (N _ (.head _)).2.1, (N _ (.head _)).2.2, fun hm => ?_⟩
  obtain ⟨p, hp, e⟩ := List.mem_map.mp hm
  exact absurd (lt p hp) (e ▸ Nat.lt_irrefl _)
end Mine

namespace Mine
open PySem PySem.W PySem.Calls PySem.Spec PyProof.Rows

section
variable {g : Gl} {n : Nat} {env : Env} {ρ : Rho} {σ σ₁ σ₂ σ₃ : Sig}

def Op1 (g : Gl) (n : Nat) (f : Value → Sem Value) (σ : Sig) (da d : D) : Prop :=
  ∀ ⦃A : Around⦄ ⦃hr : Heap⦄ ⦃outer : List Env⦄ ⦃ef : Env⦄ ⦃L : Addr⦄ ⦃h₀ : Heap⦄ ⦃m : PySem.Str → Option Value⦄ ⦃X O Z : Led⦄ ⦃s : Shared⦄ ⦃Q : Value → Shared → Prop⦄ (va : Value),
    Cx g A hr outer ef L h₀ n → Inv h₀ hr L s.heap m X O Z σ → Rep hr (O.map (·.1)) Z va da →
    (∀ v h' tk O' Z', Inv h₀ hr L h' m X O' Z' σ → Ext O O' Z Z' → Rep hr (O'.map (·.1)) Z' v d → Q v { s with heap := h', toks := tk }) →
    wpAny (model g.prog g.w) A (f va) Q NE s

def Op2 (g : Gl) (n : Nat) (f : Value → Value → Sem Value) (σ : Sig) (da db d : D) : Prop :=
  ∀ ⦃A : Around⦄ ⦃hr : Heap⦄ ⦃outer : List Env⦄ ⦃ef : Env⦄ ⦃L : Addr⦄ ⦃h₀ : Heap⦄ ⦃m : PySem.Str → Option Value⦄ ⦃X O Z : Led⦄ ⦃s : Shared⦄ ⦃Q : Value → Shared → Prop⦄ (va vb : Value),
    Cx g A hr outer ef L h₀ n → Inv h₀ hr L s.heap m X O Z σ → Rep hr (O.map (·.1)) Z va da → Rep hr (O.map (·.1)) Z vb db →
    (∀ v h' tk O' Z', Inv h₀ hr L h' m X O' Z' σ → Ext O O' Z Z' → Rep hr (O'.map (·.1)) Z' v d → Q v { s with heap := h', toks := tk }) →
    wpAny (model g.prog g.w) A (f va vb) Q NE s

def Op2F (g : Gl) (n : Nat) (f : Value → Value → Sem Value) (σ : Sig) (da db : D) (ds : List D) : Prop :=
  ∀ ⦃A : Around⦄ ⦃hr : Heap⦄ ⦃outer : List Env⦄ ⦃ef : Env⦄ ⦃L : Addr⦄ ⦃h₀ : Heap⦄ ⦃m : PySem.Str → Option Value⦄ ⦃X O Z : Led⦄ ⦃s : Shared⦄ ⦃Q : Value → Shared → Prop⦄ (va vb : Value),
    Cx g A hr outer ef L h₀ n → Inv h₀ hr L s.heap m X O Z σ → Rep hr (O.map (·.1)) Z va da → Rep hr (O.map (·.1)) Z vb db →
    (∀ a vs c h' tk O' Z', Inv h₀ hr L h' m X O' Z' σ → Fresh h₀ L h' X O' Z' a (W.listOf (List.toArray vs) c) → Ext O O' Z Z' → RepL hr (O'.map (·.1)) Z' vs ds → Q (.ref a) { s with heap := h', toks := tk }) →
    wpAny (model g.prog g.w) A (f va vb) Q NE s

/-! constants, names -/
theorem Ev.int {i : Int} {k : Nat} {pos : Pos} : Ev g n env ρ σ (.Constant (.int i) k pos) (.int i) σ := by
  intro A hr outer ef L h₀ m X O Z s Q C I M k
  exact wpAny_Constant_int (k _ _ _ _ _ I Ext.refl (.int _ _))
theorem Ev.str {x : PySem.Str} {k : Nat} {pos : Pos} : Ev g n env ρ σ (.Constant (.str x) k pos) (.str x) σ := by
  intro A hr outer ef L h₀ m X O Z s Q C I M k
  exact Constant_str (k _ _ _ _ _ I Ext.refl (.str _ _))
theorem Ev.bool {b : Bool} {k : Nat} {pos : Pos} : Ev g n env ρ σ (.Constant (.bool b) k pos) (.bool b) σ := by
  intro A hr outer ef L h₀ m X O Z s Q C I M k
  exact Constant_bool (k _ _ _ _ _ I Ext.refl (.bool _))

theorem loc_load {env : Env} {L : Addr} {m : PySem.Str → Option Value} {X : Led} {x : PySem.Str} {v : Value} {M : Model} {A : Around} {s : Shared} {h₀ : Heap} {R : Led} {Q : Value → Shared → Prop}
    (l : LocAt env L m X x v) (F : Fr h₀ L s.heap m) (N : News h₀ L s.heap (X ++ R)) (h : Q v s) : wpAny M A (loadName env x) Q NE s := by
  cases l with
  | loc hk hl he hm => exact wpAny_loadName_local hk hl (he ▸ F.ns) hm h
  | comp hk hl hx ho hm => exact wpAny_loadName_local hk hl (ho.ns (N _ (List.mem_append_left _ hx)).1) hm h
  | cell hk hl hc hx ho => exact wpAny_loadName_cell hk hl hc ⟨_, (N _ (List.mem_append_left _ hx)).1, ho⟩ h

theorem Ev.name {x : PySem.Str} {d : D} {pos : Pos} (h : ρ.lookup x = some d) (hd : (x == ("__debug__" : PySem.Str)) = false) : Ev g n env ρ σ (.Name x pos) d σ := by
  intro A hr outer ef L h₀ m X O Z s Q C I M k
  obtain ⟨v, hl, hv⟩ := M x d h
  exact wpAny_Name (loc_load hl I.F I.N (k v s.heap s.toks O Z I Ext.refl hv)) hd

/-! operators -/
theorem Ev.bin {l r : Expr} {op : Operator} {pos : Pos} {da db d : D} (hl : Ev g n env ρ σ l da σ₁) (hr' : Ev g n env ρ σ₁ r db σ₂) (ho : Op2 g n (binaryOp op) σ₂ da db d) : Ev g n env ρ σ (.BinOp l op r pos) d σ₂ := by
  intro A hr outer ef L h₀ m X O Z s Q C I M k
  refine wpAny_BinOp (hl C I M fun va h₁ t₁ O₁ Z₁ I₁ x₁ ra => hr' C I₁ (M.up x₁) fun vb h₂ t₂ O₂ Z₂ I₂ x₂ rb => ?_)
  exact ho va vb C I₂ (ra.up x₂) rb fun v h₃ t₃ O₃ Z₃ I₃ x₃ rv => k v h₃ t₃ O₃ Z₃ I₃ ((x₁.trans x₂).trans x₃) rv
theorem EvF.bin {l r : Expr} {op : Operator} {pos : Pos} {da db : D} {ds : List D} (hl : Ev g n env ρ σ l da σ₁) (hr' : Ev g n env ρ σ₁ r db σ₂) (ho : Op2F g n (binaryOp op) σ₂ da db ds) : EvF g n env ρ σ (.BinOp l op r pos) ds σ₂ := by
  intro A hr outer ef L h₀ m X O Z s Q C I M k
  refine wpAny_BinOp (hl C I M fun va h₁ t₁ O₁ Z₁ I₁ x₁ ra => hr' C I₁ (M.up x₁) fun vb h₂ t₂ O₂ Z₂ I₂ x₂ rb => ?_)
  exact ho va vb C I₂ (ra.up x₂) rb fun a vs c h₃ t₃ O₃ Z₃ I₃ f₃ x₃ rv => k a vs c h₃ t₃ O₃ Z₃ I₃ f₃ ((x₁.trans x₂).trans x₃) rv
theorem Ev.cmp {l r : Expr} {op : CmpOp} {pos : Pos} {da db d : D} (hl : Ev g n env ρ σ l da σ₁) (hr' : Ev g n env ρ σ₁ r db σ₂) (ho : Op2 g n (compareOp op) σ₂ da db d) (hb : behindInMarks op r = false) : Ev g n env ρ σ (.Compare l [op] [r] pos) d σ₂ := by
  intro A hr outer ef L h₀ m X O Z s Q C I M k
  refine wpAny_Compare1 (hl C I M fun va h₁ t₁ O₁ Z₁ I₁ x₁ ra => hr' C I₁ (M.up x₁) fun vb h₂ t₂ O₂ Z₂ I₂ x₂ rb => ?_) hb
  exact ho va vb C I₂ (ra.up x₂) rb fun v h₃ t₃ O₃ Z₃ I₃ x₃ rv => k v h₃ t₃ O₃ Z₃ I₃ ((x₁.trans x₂).trans x₃) rv
theorem Ev.un {x : Expr} {op : UnaryOp} {pos : Pos} {da d : D} (hx : Ev g n env ρ σ x da σ₁) (ho : Op1 g n (unaryOp op) σ₁ da d) : Ev g n env ρ σ (.UnaryOp op x pos) d σ₁ := by
  intro A hr outer ef L h₀ m X O Z s Q C I M k
  refine UnaryOp_ (hx C I M fun va h₁ t₁ O₁ Z₁ I₁ x₁ ra => ?_)
  exact ho va C I₁ ra fun v h₃ t₃ O₃ Z₃ I₃ x₃ rv => k v h₃ t₃ O₃ Z₃ I₃ (x₁.trans x₃) rv

theorem op_add (a b : Int) : Op2 g n (binaryOp .Add) σ (.int a) (.int b) (.int (a + b)) := by
  intro A hr outer ef L h₀ m X O Z s Q va vb C I ra rb k
  cases ra; cases rb
  exact add_int (k _ _ _ _ _ I Ext.refl (.int _ _))
theorem op_sub (a b : Int) : Op2 g n (binaryOp .Sub) σ (.int a) (.int b) (.int (a - b)) := by
  intro A hr outer ef L h₀ m X O Z s Q va vb C I ra rb k
  cases ra; cases rb
  exact sub_int (k _ _ _ _ _ I Ext.refl (.int _ _))
theorem op_mul (a b : Int) (h : IntMulOk a b) : Op2 g n (binaryOp .Mult) σ (.int a) (.int b) (.int (a * b)) := by
  intro A hr outer ef L h₀ m X O Z s Q va vb C I ra rb k
  cases ra; cases rb
  exact mul_int (k _ _ _ _ _ I Ext.refl (.int _ _)) h
theorem op_mod (a b : Int) (h : b ≠ 0) : Op2 g n (binaryOp .Mod) σ (.int a) (.int b) (.int (a.fmod b)) := by
  intro A hr outer ef L h₀ m X O Z s Q va vb C I ra rb k
  cases ra; cases rb
  exact mod_int' h (k _ _ _ _ _ I Ext.refl (.int _ _))
theorem op_div (a b : Int) (h : b ≠ 0) (hs : b.natAbs < 1073741824) : Op2 g n (binaryOp .FloorDiv) σ (.int a) (.int b) (.int (a.fdiv b)) := by
  intro A hr outer ef L h₀ m X O Z s Q va vb C I ra rb k
  cases ra; cases rb
  exact floordiv_int h (k _ _ _ _ _ I Ext.refl (.int _ _)) (.inl (PyProof.noPylong_small hs))
theorem op_pow (a b : Int) (h0 : 0 ≤ b) (h1 : b ≤ 1000000) (h2 : a.natAbs < 2 ^ 64) : Op2 g n (binaryOp .Pow) σ (.int a) (.int b) (.int (a ^ b.toNat)) := by
  intro A hr outer ef L h₀ m X O Z s Q va vb C I ra rb k
  cases ra; cases rb
  exact pow_int_small h0 h1 h2 (k _ _ _ _ _ I Ext.refl (.int _ _))
theorem op_shl (a b : Int) (h0 : 0 ≤ b) (h1 : b ≤ 1000000) (h2 : a.natAbs < 2 ^ 64) : Op2 g n (binaryOp .LShift) σ (.int a) (.int b) (.int (a * 2 ^ b.toNat)) := by
  intro A hr outer ef L h₀ m X O Z s Q va vb C I ra rb k
  cases ra; cases rb
  exact lshift_int_small h0 h1 h2 (k _ _ _ _ _ I Ext.refl (.int _ _))
theorem op_shr (a b : Int) (h0 : 0 ≤ b) : Op2 g n (binaryOp .RShift) σ (.int a) (.int b) (.int (a.fdiv (2 ^ b.toNat))) := by
  intro A hr outer ef L h₀ m X O Z s Q va vb C I ra rb k
  cases ra; cases rb
  exact rshift_int h0 (k _ _ _ _ _ I Ext.refl (.int _ _))
theorem op_xor (a b : Int) : Op2 g n (binaryOp .BitXor) σ (.int a) (.int b) (.int (Builtin.bitXor a b)) := by
  intro A hr outer ef L h₀ m X O Z s Q va vb C I ra rb k
  cases ra; cases rb
  exact xor_int (k _ _ _ _ _ I Ext.refl (.int _ _))
theorem op_and (a b : Int) : Op2 g n (binaryOp .BitAnd) σ (.int a) (.int b) (.int (Builtin.bitAnd a b)) := by
  intro A hr outer ef L h₀ m X O Z s Q va vb C I ra rb k
  cases ra; cases rb
  exact and_int (k _ _ _ _ _ I Ext.refl (.int _ _))
theorem op_ixor (a b : Int) : Op2 g n (inplaceOp .BitXor) σ (.int a) (.int b) (.int (Builtin.bitXor a b)) := by
  intro A hr outer ef L h₀ m X O Z s Q va vb C I ra rb k
  cases ra; cases rb
  exact ixor_int (k _ _ _ _ _ I Ext.refl (.int _ _))

theorem op_lt (a b : Int) : Op2 g n (compareOp .Lt) σ (.int a) (.int b) (.bool (decide (a < b))) := by
  intro A hr outer ef L h₀ m X O Z s Q va vb C I ra rb k
  cases ra; cases rb
  exact lt_int (k _ _ _ _ _ I Ext.refl (.bool _))
theorem op_gt (a b : Int) : Op2 g n (compareOp .Gt) σ (.int a) (.int b) (.bool (decide (b < a))) := by
  intro A hr outer ef L h₀ m X O Z s Q va vb C I ra rb k
  cases ra; cases rb
  exact gt_int (k _ _ _ _ _ I Ext.refl (.bool _))
theorem op_ge (a b : Int) : Op2 g n (compareOp .GtE) σ (.int a) (.int b) (.bool (decide (b ≤ a))) := by
  intro A hr outer ef L h₀ m X O Z s Q va vb C I ra rb k
  cases ra; cases rb
  exact ge_int (k _ _ _ _ _ I Ext.refl (.bool _))
theorem op_eq (a b : Int) : Op2 g n (compareOp .Eq) σ (.int a) (.int b) (.bool (a == b)) := by
  intro A hr outer ef L h₀ m X O Z s Q va vb C I ra rb k
  cases ra; cases rb
  exact eq_int (k _ _ _ _ _ I Ext.refl (.bool _))
theorem op_ne (a b : Int) : Op2 g n (compareOp .NotEq) σ (.int a) (.int b) (.bool (a != b)) := by
  intro A hr outer ef L h₀ m X O Z s Q va vb C I ra rb k
  cases ra; cases rb
  exact ne_int (k _ _ _ _ _ I Ext.refl (.bool _))
theorem op_eqb (a b : Bool) : Op2 g n (compareOp .Eq) σ (.bool a) (.bool b) (.bool (a == b)) := by
  intro A hr outer ef L h₀ m X O Z s Q va vb C I ra rb k
  cases ra; cases rb
  exact eq_bool (k _ _ _ _ _ I Ext.refl (.bool _))

/-! truth -/
def Tr (g : Gl) (n : Nat) (env : Env) (ρ : Rho) (σ : Sig) (e : Expr) (b : Bool) (σ' : Sig) : Prop :=
  ∀ ⦃A : Around⦄ ⦃hr : Heap⦄ ⦃outer : List Env⦄ ⦃ef : Env⦄ ⦃L : Addr⦄ ⦃h₀ : Heap⦄ ⦃m : PySem.Str → Option Value⦄ ⦃X O Z : Led⦄ ⦃s : Shared⦄ ⦃Q : Bool → Shared → Prop⦄,
    Cx g A hr outer ef L h₀ n → Inv h₀ hr L s.heap m X O Z σ → Mod env hr L m X (O.map (·.1)) Z ρ →
    (∀ h' tk O' Z', Inv h₀ hr L h' m X O' Z' σ' → Ext O O' Z Z' → Q b { s with heap := h', toks := tk }) →
    wpAny (model g.prog g.w) A (PySem.isTrue e env (eval e env)) Q NE s

theorem Tr.cmp {l r : Expr} {op : CmpOp} {pos : Pos} {da db : D} {b : Bool} (hl : Ev g n env ρ σ l da σ₁) (hr' : Ev g n env ρ σ₁ r db σ₂) (ho : Op2 g n (compareOp op) σ₂ da db (.bool b)) (hb : behindInMarks op r = false) : Tr g n env ρ σ (.Compare l [op] [r] pos) b σ₂ := by
  intro A hr outer ef L h₀ m X O Z s Q C I M k
  refine wpAny_isTrue_Compare1 (hl C I M fun va h₁ t₁ O₁ Z₁ I₁ x₁ ra => hr' C I₁ (M.up x₁) fun vb h₂ t₂ O₂ Z₂ I₂ x₂ rb => ?_) hb
  refine ho va vb C I₂ (ra.up x₂) rb fun v h₃ t₃ O₃ Z₃ I₃ x₃ rv => ?_
  cases rv
  exact wpAny_truthy_bool (k h₃ t₃ O₃ Z₃ I₃ ((x₁.trans x₂).trans x₃))
theorem Tr.not {x : Expr} {pos : Pos} {b : Bool} (h : Tr g n env ρ σ x b σ₁) : Tr g n env ρ σ (.UnaryOp .Not x pos) (!b) σ₁ := by
  intro A hr outer ef L h₀ m X O Z s Q C I M k
  exact isTrue_not (h C I M fun h₁ t₁ O₁ Z₁ I₁ x₁ => k h₁ t₁ O₁ Z₁ I₁ x₁)
/-- a plain expression that gives a bool -/
theorem Tr.plain {e : Expr} {b : Bool} (h : Ev g n env ρ σ e (.bool b) σ₁)
    (hp : ∀ whole, PySem.isTrue e env whole = (do let v ← whole; standAt e.pos; holding [v] (truthy v))) : Tr g n env ρ σ e b σ₁ := by
  intro A hr outer ef L h₀ m X O Z s Q C I M k
  refine isTrue_plain (h C I M fun v h₁ t₁ O₁ Z₁ I₁ x₁ rv => ?_) (hp _)
  cases rv
  exact wpAny_truthy_bool (k h₁ t₁ O₁ Z₁ I₁ x₁)
/-- an int's truth -/
theorem Tr.plainI {e : Expr} {i : Int} (h : Ev g n env ρ σ e (.int i) σ₁)
    (hp : ∀ whole, PySem.isTrue e env whole = (do let v ← whole; standAt e.pos; holding [v] (truthy v))) : Tr g n env ρ σ e (i != 0) σ₁ := by
  intro A hr outer ef L h₀ m X O Z s Q C I M k
  refine isTrue_plain (h C I M fun v h₁ t₁ O₁ Z₁ I₁ x₁ rv => ?_) (hp _)
  cases rv
  exact truthy_int (k h₁ _ O₁ Z₁ I₁ x₁)
theorem Tr.or_t {x : Expr} {rest : List Expr} {pos : Pos} (h : Tr g n env ρ σ x true σ₁) : Tr g n env ρ σ (.BoolOp .Or (x :: rest) pos) true σ₁ := by
  intro A hr outer ef L h₀ m X O Z s Q C I M k
  refine isTrue_or (h C I M fun h₁ t₁ O₁ Z₁ I₁ x₁ => ?_)
  simp only [if_true]
  exact k h₁ t₁ O₁ Z₁ I₁ x₁
end
end Mine

namespace Mine
open PySem PySem.W PySem.Calls PySem.Spec PyProof.Rows

section
variable {g : Gl} {n : Nat} {env : Env} {ρ : Rho} {σ σ₁ σ₂ σ₃ : Sig}

theorem Tr.or {x y : Expr} {rest : List Expr} {pos : Pos} {a b : Bool} (h : Tr g n env ρ σ x a σ₁) (h2 : a = false → Tr g n env ρ σ₁ (.BoolOp .Or (y :: rest) pos) b σ₁) : Tr g n env ρ σ (.BoolOp .Or (x :: y :: rest) pos) (a || b) σ₁ := by
  intro A hr outer ef L h₀ m X O Z s Q C I M k
  refine isTrue_or (h C I M fun h₁ t₁ O₁ Z₁ I₁ x₁ => ?_)
  cases a with
  | true => simp only [if_true]; exact k h₁ t₁ O₁ Z₁ I₁ x₁
  | false =>
    simp only [Bool.false_eq_true, if_false]
    exact h2 rfl C I₁ (M.up x₁) fun h₂ t₂ O₂ Z₂ I₂ x₂ => k h₂ t₂ O₂ Z₂ I₂ (x₁.trans x₂)
theorem Tr.or1 {x : Expr} {pos : Pos} {a : Bool} (h : Tr g n env ρ σ x a σ₁) : Tr g n env ρ σ (.BoolOp .Or [x] pos) a σ₁ := by
  intro A hr outer ef L h₀ m X O Z s Q C I M k
  refine isTrue_or (h C I M fun h₁ t₁ O₁ Z₁ I₁ x₁ => ?_)
  cases a with
  | true => simp only [if_true]; exact k h₁ t₁ O₁ Z₁ I₁ x₁
  | false =>
    simp only [Bool.false_eq_true, if_false]
    exact isTrue_or_nil (k h₁ t₁ O₁ Z₁ I₁ x₁)
theorem Tr.and {x y : Expr} {rest : List Expr} {pos : Pos} {a b : Bool} (h : Tr g n env ρ σ x a σ₁) (h2 : a = true → Tr g n env ρ σ₁ (.BoolOp .And (y :: rest) pos) b σ₁) : Tr g n env ρ σ (.BoolOp .And (x :: y :: rest) pos) (a && b) σ₁ := by
  intro A hr outer ef L h₀ m X O Z s Q C I M k
  refine isTrue_and (h C I M fun h₁ t₁ O₁ Z₁ I₁ x₁ => ?_)
  cases a with
  | false => simp only [Bool.false_eq_true, if_false]; exact k h₁ t₁ O₁ Z₁ I₁ x₁
  | true =>
    simp only [if_true]
    exact h2 rfl C I₁ (M.up x₁) fun h₂ t₂ O₂ Z₂ I₂ x₂ => k h₂ t₂ O₂ Z₂ I₂ (x₁.trans x₂)
theorem Tr.and1 {x : Expr} {pos : Pos} {a : Bool} (h : Tr g n env ρ σ x a σ₁) : Tr g n env ρ σ (.BoolOp .And [x] pos) a σ₁ := by
  intro A hr outer ef L h₀ m X O Z s Q C I M k
  refine isTrue_and (h C I M fun h₁ t₁ O₁ Z₁ I₁ x₁ => ?_)
  cases a with
  | false => simp only [Bool.false_eq_true, if_false]; exact k h₁ t₁ O₁ Z₁ I₁ x₁
  | true =>
    simp only [if_true]
    exact isTrue_and_nil (k h₁ t₁ O₁ Z₁ I₁ x₁)

theorem Ev.ite {test body orelse : Expr} {pos : Pos} {b : Bool} {d : D} (ht : Tr g n env ρ σ test b σ₁) (h1 : b = true → Ev g n env ρ σ₁ body d σ₂) (h2 : b = false → Ev g n env ρ σ₁ orelse d σ₂) : Ev g n env ρ σ (.IfExp test body orelse pos) d σ₂ := by
  intro A hr outer ef L h₀ m X O Z s Q C I M k
  refine IfExp_ (ht C I M fun h₁ t₁ O₁ Z₁ I₁ x₁ => ?_)
  cases b with
  | true => simp only [if_true]; exact h1 rfl C I₁ (M.up x₁) fun v h₂ t₂ O₂ Z₂ I₂ x₂ rv => k v h₂ t₂ O₂ Z₂ I₂ (x₁.trans x₂) rv
  | false => simp only [Bool.false_eq_true, if_false]; exact h2 rfl C I₁ (M.up x₁) fun v h₂ t₂ O₂ Z₂ I₂ x₂ rv => k v h₂ t₂ O₂ Z₂ I₂ (x₁.trans x₂) rv
theorem Ev.ite' {test body orelse : Expr} {pos : Pos} {b : Bool} {d1 d2 : D} (ht : Tr g n env ρ σ test b σ₁) (h1 : b = true → Ev g n env ρ σ₁ body d1 σ₂) (h2 : b = false → Ev g n env ρ σ₁ orelse d2 σ₂) : Ev g n env ρ σ (.IfExp test body orelse pos) (if b = true then d1 else d2) σ₂ :=
  Ev.ite ht (fun e => by rw [if_pos e]; exact h1 e) (fun e => by rw [if_neg (by simp [e])]; exact h2 e)
theorem Ev.iteI {test body orelse : Expr} {pos : Pos} {b : Bool} {i j : Int} (ht : Tr g n env ρ σ test b σ₁) (h1 : b = true → Ev g n env ρ σ₁ body (.int i) σ₂) (h2 : b = false → Ev g n env ρ σ₁ orelse (.int j) σ₂) : Ev g n env ρ σ (.IfExp test body orelse pos) (.int (if b = true then i else j)) σ₂ :=
  Ev.ite ht (fun e => by rw [if_pos e]; exact h1 e) (fun e => by rw [if_neg (by simp [e])]; exact h2 e)

theorem Ev.and {x y : Expr} {rest : List Expr} {pos : Pos} {a b : Bool} (h : Ev g n env ρ σ x (.bool a) σ₁) (h2 : a = true → Ev g n env ρ σ₁ (.BoolOp .And (y :: rest) pos) (.bool b) σ₁) : Ev g n env ρ σ (.BoolOp .And (x :: y :: rest) pos) (.bool (a && b)) σ₁ := by
  intro A hr outer ef L h₀ m X O Z s Q C I M k
  refine BoolOp_and (h C I M fun v h₁ t₁ O₁ Z₁ I₁ x₁ rv => ?_)
  cases rv
  refine wpAny_truthy_bool ?_
  cases a with
  | false => simp only [Bool.false_eq_true, if_false]; exact k _ h₁ t₁ O₁ Z₁ I₁ x₁ (.bool _)
  | true =>
    simp only [if_true]
    exact h2 rfl C I₁ (M.up x₁) fun v h₂ t₂ O₂ Z₂ I₂ x₂ rv => k v h₂ t₂ O₂ Z₂ I₂ (x₁.trans x₂) rv
theorem Ev.and1 {x : Expr} {pos : Pos} {d : D} {op : BoolOp} (h : Ev g n env ρ σ x d σ₁) : Ev g n env ρ σ (.BoolOp op [x] pos) d σ₁ := by
  intro A hr outer ef L h₀ m X O Z s Q C I M k
  exact BoolOp_one (h C I M k)

/-! arguments, displays -/
def Evs (g : Gl) (n : Nat) (env : Env) (ρ : Rho) (σ : Sig) (es : List Expr) (ds : List D) (σ' : Sig) : Prop :=
  ∀ ⦃A : Around⦄ ⦃hr : Heap⦄ ⦃outer : List Env⦄ ⦃ef : Env⦄ ⦃L : Addr⦄ ⦃h₀ : Heap⦄ ⦃m : PySem.Str → Option Value⦄ ⦃X O Z : Led⦄ ⦃s : Shared⦄ ⦃Q : List Value → Shared → Prop⦄ ⦃pos : Pos⦄,
    Cx g A hr outer ef L h₀ n → Inv h₀ hr L s.heap m X O Z σ → Mod env hr L m X (O.map (·.1)) Z ρ →
    (∀ vs h' tk O' Z', Inv h₀ hr L h' m X O' Z' σ' → Ext O O' Z Z' → RepL hr (O'.map (·.1)) Z' vs ds → Q vs { s with heap := h', toks := tk }) →
    wpAny (model g.prog g.w) A (spliced (backTo pos (starEach es env))) Q NE s

theorem Evs.nil : Evs g n env ρ σ [] [] σ := by
  intro A hr outer ef L h₀ m X O Z s Q pos C I M k
  exact spliced_none (k _ s.heap s.toks O Z I Ext.refl RepL.nil)
theorem Evs.cons {e : Expr} {es : List Expr} {d : D} {ds : List D} (he : starEach (e :: es) env = (false, eval e env) :: starEach es env) (h : Ev g n env ρ σ e d σ₁) (hs : Evs g n env ρ σ₁ es ds σ₂) : Evs g n env ρ σ (e :: es) (d :: ds) σ₂ := by
  intro A hr outer ef L h₀ m X O Z s Q pos C I M k
  refine spliced_more (h C I M fun v h₁ t₁ O₁ Z₁ I₁ x₁ rv => hs C I₁ (M.up x₁) fun vs h₂ t₂ O₂ Z₂ I₂ x₂ rvs => ?_) he
  exact k _ h₂ t₂ O₂ Z₂ I₂ (x₁.trans x₂) (RepL.cons (rv.up x₂) rvs)

theorem EvF.list {es : List Expr} {ds : List D} {pos : Pos} (h : Evs g n env ρ σ es ds σ₁) (hz : ds.length ≤ 2 ^ 20) : EvF g n env ρ σ (.List es pos) ds σ₁ := by
  intro A hr outer ef L h₀ m X O Z s Q C I M k
  refine List_ (h C I M fun vs h₁ t₁ O₁ Z₁ I₁ x₁ rv => ?_)
  refine newList_K I₁.F I₁.N (fun l h' F' N' lt => ?_) (by rw [rv.1]; exact Nat.le_trans hz (by rw [sizeLine_eq]; decide))
  obtain ⟨I₂, f₂⟩ := Fresh.of I₁ F' N' lt
  exact k l vs 0 h' t₁ O₁ Z₁ I₂ f₂ x₁ rv
theorem Ev.tup {es : List Expr} {ds : List D} {pos : Pos} {kk : Nat} (h : Evs g n env ρ σ es ds σ₁) (hz : ds.length ≤ 2 ^ 20) : Ev g n env ρ σ (.Tuple es kk pos) (.tup ds) σ₁ := by
  intro A hr outer ef L h₀ m X O Z s Q C I M k
  refine Tuple_ (h C I M fun vs h₁ t₁ O₁ Z₁ I₁ x₁ rv => ?_)
  refine kup_newTuple I₁.F I₁.N (fun l h' F' N' lt => ?_) (by rw [rv.1]; exact Nat.le_trans hz (by rw [sizeLine_eq]; decide))
  obtain ⟨I₂, f₂⟩ := Fresh.of I₁ F' N' lt
  have rv' : RepL hr (O₁.map (·.1)) ((l, tupO vs) :: Z₁) vs ds := rv.ext (fun _ _ q => q) fun p hp => .tail _ hp
  exact k (.ref l) h' t₁ O₁ _ (I₂.addZ f₂) (x₁.trans ⟨⟨[], by simp⟩, fun p hp => .tail _ hp⟩) (.tup (.head _) rv'.1 rv'.2)

/-! global names -/
def Gv (g : Gl) (n : Nat) (env : Env) (f : PySem.Str) (v : Value) : Prop :=
  ∀ ⦃A : Around⦄ ⦃hr : Heap⦄ ⦃outer : List Env⦄ ⦃ef : Env⦄ ⦃L : Addr⦄ ⦃h₀ : Heap⦄ ⦃m : PySem.Str → Option Value⦄ ⦃X O Z : Led⦄ ⦃s : Shared⦄ ⦃Q : Value → Shared → Prop⦄ ⦃pos : Pos⦄ ⦃σ : Sig⦄,
    Cx g A hr outer ef L h₀ n → Inv h₀ hr L s.heap m X O Z σ → Q v s → wpAny (model g.prog g.w) A (eval (.Name f pos) env) Q NE s
theorem Gv.own {f : PySem.Str} {v : Value} (hg : env.globals = mainGlobals) (hk : env.scope.kind = .function) (hx : env.kindOf f = some .globalImplicit) (hn : nsIn g.K mainGlobals f = some (some v)) (hd : (f == ("__debug__" : PySem.Str)) = false) : Gv g n env f v := by
  intro A hr outer ef L h₀ m X O Z s Q pos σ C I q
  exact Name_function_global hk hx (loadGlobal_global (by rw [hg]; exact C.T.g.keeps I.F.keep) (mg_of C.K C.T.g hn) q) hd
theorem Gv.bi {f : PySem.Str} {v : Value} (hg : env.globals = mainGlobals) (hb : env.builtins = builtinsNs) (hk : env.scope.kind = .function) (hx : env.kindOf f = some .globalImplicit) (hn : nsIn g.K mainGlobals f = some none) (hv : bootBuiltins f = some v) (hnn : f ≠ "__name__") (hd : (f == ("__debug__" : PySem.Str)) = false) : Gv g n env f v := by
  intro A hr outer ef L h₀ m X O Z s Q pos σ C I q
  exact Name_function_global hk hx (loadGlobal_builtin (by rw [hg]; exact C.T.g.keeps I.F.keep) (mg_none_of C.K C.T.g hn) (by rw [hb]; exact C.T.b.keeps I.F.keep) ((C.T.builtins f hnn).trans hv) q) hd
theorem Ev.typ {f : PySem.Str} {T : String} {pos : Pos} (h : Gv g n env f (.type T)) : Ev g n env ρ σ (.Name f pos) (.typ T) σ := by
  intro A hr outer ef L h₀ m X O Z s Q C I M k
  exact h C I (k _ s.heap s.toks O Z I Ext.refl (.typ T))

/-! calls -/
def OpN (g : Gl) (n : Nat) (f : List Value → Sem Value) (σ : Sig) (ds : List D) (d : D) (σ' : Sig) : Prop :=
  ∀ ⦃A : Around⦄ ⦃hr : Heap⦄ ⦃outer : List Env⦄ ⦃ef : Env⦄ ⦃L : Addr⦄ ⦃h₀ : Heap⦄ ⦃m : PySem.Str → Option Value⦄ ⦃X O Z : Led⦄ ⦃s : Shared⦄ ⦃Q : Value → Shared → Prop⦄ (vs : List Value),
    Cx g A hr outer ef L h₀ n → Inv h₀ hr L s.heap m X O Z σ → RepL hr (O.map (·.1)) Z vs ds →
    (∀ v h' tk O' Z', Inv h₀ hr L h' m X O' Z' σ' → Ext O O' Z Z' → Rep hr (O'.map (·.1)) Z' v d → Q v { s with heap := h', toks := tk }) →
    wpAny (model g.prog g.w) A (f vs) Q NE s
def OpNF (g : Gl) (n : Nat) (f : List Value → Sem Value) (σ : Sig) (ds : List D) (es : List D) (σ' : Sig) : Prop :=
  ∀ ⦃A : Around⦄ ⦃hr : Heap⦄ ⦃outer : List Env⦄ ⦃ef : Env⦄ ⦃L : Addr⦄ ⦃h₀ : Heap⦄ ⦃m : PySem.Str → Option Value⦄ ⦃X O Z : Led⦄ ⦃s : Shared⦄ ⦃Q : Value → Shared → Prop⦄ (vs : List Value),
    Cx g A hr outer ef L h₀ n → Inv h₀ hr L s.heap m X O Z σ → RepL hr (O.map (·.1)) Z vs ds →
    (∀ a us c h' tk O' Z', Inv h₀ hr L h' m X O' Z' σ' → Fresh h₀ L h' X O' Z' a (W.listOf (List.toArray us) c) → Ext O O' Z Z' → RepL hr (O'.map (·.1)) Z' us es → Q (.ref a) { s with heap := h', toks := tk }) →
    wpAny (model g.prog g.w) A (f vs) Q NE s

theorem RepL.one {hr : Heap} {as : List Addr} {Z : Led} {vs : List Value} {d : D} (r : RepL hr as Z vs [d]) : ∃ v, vs = [v] ∧ Rep hr as Z v d := by
  match vs, r with
  | [v], r => exact ⟨v, rfl, r.2 0 v d rfl rfl⟩
  | [], r => exact absurd r.1 (by simp)
  | _ :: _ :: _, r => exact absurd r.1 (by simp)
theorem RepL.two {hr : Heap} {as : List Addr} {Z : Led} {vs : List Value} {d e : D} (r : RepL hr as Z vs [d, e]) : ∃ v w, vs = [v, w] ∧ Rep hr as Z v d ∧ Rep hr as Z w e := by
  match vs, r with
  | [v, w], r => exact ⟨v, w, rfl, r.2 0 v d rfl rfl, r.2 1 w e rfl rfl⟩
  | [], r => exact absurd r.1 (by simp)
  | [_], r => exact absurd r.1 (by simp)
  | _ :: _ :: _ :: _, r => exact absurd r.1 (by simp)

theorem Ev.callB {f : PySem.Str} {p pos : Pos} {id : String} {e : Expr} {es : List Expr} {ds : List D} {d : D} (hf : Gv g n env f (.builtin id)) (ha : Evs g n env ρ σ (e :: es) ds σ₁) (ho : OpN g n (fun vs => call (.builtin id) vs) σ₁ ds d σ₂)
    (he : starEach (e :: es) env = (false, eval e env) :: starEach es env) (hp : ∀ pos, ((backTo pos (starEach es env)).any (·.1)) = false)
    (hc : eval (.Call (.Name f p) (e :: es) [] pos) env = (do callWith pos (← eval (.Name f p) env) [] (backTo pos (starEach (e :: es) env)) (backToKw pos (keywordEach [] env)))) :
    Ev g n env ρ σ (.Call (.Name f p) (e :: es) [] pos) d σ₂ := by
  intro A hr outer ef L h₀ m X O Z s Q C I M k
  refine Call_ (hf C I ?_) hc
  refine PyProof.Rows.callWith_builtin1 (ha C I M fun vs h₁ t₁ O₁ Z₁ I₁ x₁ rv => ?_) he (hp _)
  exact ho vs C I₁ rv fun v h₂ t₂ O₂ Z₂ I₂ x₂ rv' => k v h₂ t₂ O₂ Z₂ I₂ (x₁.trans x₂) rv'
theorem EvF.callT {f : PySem.Str} {p pos : Pos} {T : String} {e : Expr} {es : List Expr} {ds es' : List D} (hf : Gv g n env f (.type T)) (ha : Evs g n env ρ σ (e :: es) ds σ₁) (ho : OpNF g n (fun vs => call (.type T) vs) σ₁ ds es' σ₂)
    (he : starEach (e :: es) env = (false, eval e env) :: starEach es env) (hp : ∀ pos, ((backTo pos (starEach es env)).any (·.1)) = false)
    (hc : eval (.Call (.Name f p) (e :: es) [] pos) env = (do callWith pos (← eval (.Name f p) env) [] (backTo pos (starEach (e :: es) env)) (backToKw pos (keywordEach [] env)))) :
    EvF g n env ρ σ (.Call (.Name f p) (e :: es) [] pos) es' σ₂ := by
  intro A hr outer ef L h₀ m X O Z s Q C I M k
  refine Call_ (hf C I ?_) hc
  have hany : ((backTo pos (starEach (e :: es) env)).any (·.1)) = false := by rw [he]; show (false || (backTo pos (starEach es env)).any (·.1)) = false; rw [hp]; rfl
  refine PyProof.Rows.callWith_type hany ?_
  rw [he]
  refine evalArgs_plain ?_
  show wpAny _ _ (spliced (backTo pos ((false, eval e env) :: starEach es env))) _ _ _
  rw [← he]
  refine ha C I M fun vs h₁ t₁ O₁ Z₁ I₁ x₁ rv => ?_
  exact ho vs C I₁ rv fun a us c h₂ t₂ O₂ Z₂ I₂ f₂ x₂ rv' => k a us c h₂ t₂ O₂ Z₂ I₂ f₂ (x₁.trans x₂) rv'
theorem Ev.callT {f : PySem.Str} {p pos : Pos} {T : String} {e : Expr} {es : List Expr} {ds : List D} {d : D} (hf : Gv g n env f (.type T)) (ha : Evs g n env ρ σ (e :: es) ds σ₁) (ho : OpN g n (fun vs => call (.type T) vs) σ₁ ds d σ₂)
    (he : starEach (e :: es) env = (false, eval e env) :: starEach es env) (hp : ∀ pos, ((backTo pos (starEach es env)).any (·.1)) = false)
    (hc : eval (.Call (.Name f p) (e :: es) [] pos) env = (do callWith pos (← eval (.Name f p) env) [] (backTo pos (starEach (e :: es) env)) (backToKw pos (keywordEach [] env)))) :
    Ev g n env ρ σ (.Call (.Name f p) (e :: es) [] pos) d σ₂ := by
  intro A hr outer ef L h₀ m X O Z s Q C I M k
  refine Call_ (hf C I ?_) hc
  have hany : ((backTo pos (starEach (e :: es) env)).any (·.1)) = false := by rw [he]; show (false || (backTo pos (starEach es env)).any (·.1)) = false; rw [hp]; rfl
  refine PyProof.Rows.callWith_type hany ?_
  rw [he]
  refine evalArgs_plain ?_
  show wpAny _ _ (spliced (backTo pos ((false, eval e env) :: starEach es env))) _ _ _
  rw [← he]
  refine ha C I M fun vs h₁ t₁ O₁ Z₁ I₁ x₁ rv => ?_
  exact ho vs C I₁ rv fun v h₂ t₂ O₂ Z₂ I₂ x₂ rv' => k v h₂ t₂ O₂ Z₂ I₂ (x₁.trans x₂) rv'

/-! built-ins -/
theorem call_abs (a : Int) : OpN g n (fun vs => call (.builtin "abs") vs) σ [.int a] (.int (if a < 0 then -a else a)) σ := by
  intro A hr outer ef L h₀ m X O Z s Q vs C I r k
  obtain ⟨v, rfl, rv⟩ := r.one
  cases rv
  exact call_abs_int fun u tk => k _ s.heap tk O Z I Ext.refl (.int _ _)
theorem call_chr (i : Int) (h0 : 0 ≤ i) (h1 : i ≤ 1114111) : OpN g n (fun vs => call (.builtin "chr") vs) σ [.int i] (.str ⟨#[i.toNat]⟩) σ := by
  intro A hr outer ef L h₀ m X O Z s Q vs C I r k
  obtain ⟨v, rfl, rv⟩ := r.one
  cases rv
  exact chr_of_range h0 h1 (k _ s.heap _ O Z I Ext.refl (.str _ _))
theorem call_ord (c : Nat) : OpN g n (fun vs => call (.builtin "ord") vs) σ [.str ⟨#[c]⟩] (.int c) σ := by
  intro A hr outer ef L h₀ m X O Z s Q vs C I r k
  obtain ⟨v, rfl, rv⟩ := r.one
  cases rv
  exact ord_of_one rfl (k _ s.heap _ O Z I Ext.refl (.int _ _))
theorem call_len (ds : List D) (hz : ds.length ≤ 16384) : OpN g n (fun vs => call (.builtin "len") vs) σ [.list ds] (.int ds.length) σ := by
  intro A hr outer ef L h₀ m X O Z s Q vs C I r k
  obtain ⟨v, rfl, rv⟩ := r.one
  cases rv with
  | list hs hl hi =>
    exact kun_lenL (srcAt_list C I hs) (by rw [List.size_toArray, hl]) (by omega) (k _ s.heap _ O Z I Ext.refl (.int _ _))
theorem Inv.owned {h₀ hr : Heap} {L : Addr} {h : Heap} {m : PySem.Str → Option Value} {X O Z : Led} {σ : Sig} (I : Inv h₀ hr L h m X O Z σ) {k : Nat} {a : Addr} {ds : List D}
    (ha : (O.map (·.1))[k]? = some a) (hd : σ[k]? = some ds) : ∃ vs c, O[k]? = some (a, W.listOf (List.toArray vs) c) ∧ h.get? a = some (W.listOf (List.toArray vs) c) ∧ RepL hr (O.map (·.1)) Z vs ds := by
  rw [List.getElem?_map] at ha
  cases hp : O[k]? with
  | none => rw [hp] at ha; cases ha
  | some p =>
    rw [hp] at ha
    obtain ⟨vs, c, e, r⟩ := I.ow k p ds hp hd
    obtain ⟨b, o⟩ := p
    have hb : b = a := by simpa using ha
    subst hb
    have e' : o = W.listOf (List.toArray vs) c := e
    subst e'
    exact ⟨vs, c, rfl, (I.N _ (List.mem_append_right _ (List.mem_append_left _ (List.mem_of_getElem? hp)))).1, r⟩
theorem call_lenO (k : Nat) (ds : List D) (hd : σ[k]? = some ds) (hz : ds.length ≤ 16384) : OpN g n (fun vs => call (.builtin "len") vs) σ [.own k] (.int ds.length) σ := by
  intro A hr outer ef L h₀ m X O Z s Q vs C I r kk
  obtain ⟨v, rfl, rv⟩ := r.one
  cases rv with
  | own ha =>
    obtain ⟨us, c, _, hg, ru⟩ := I.owned ha hd
    exact kun_lenL (items := us.toArray) ⟨_, hg, rfl, c, rfl⟩ (by rw [List.size_toArray, ru.1]) (by omega) (kk _ s.heap _ O Z I Ext.refl (.int _ _))
theorem call_isi_int (i : Int) : OpN g n (fun vs => call (.builtin "isinstance") vs) σ [.int i, .typ "int"] (.bool true) σ := by
  intro A hr outer ef L h₀ m X O Z s Q vs C I r k
  obtain ⟨v, w, rfl, rv, rw'⟩ := r.two
  cases rv; cases rw'
  exact IsiPair.int_int (k _ s.heap _ O Z I Ext.refl (.bool _))
theorem call_isi_bool (b : Bool) : OpN g n (fun vs => call (.builtin "isinstance") vs) σ [.bool b, .typ "bool"] (.bool true) σ := by
  intro A hr outer ef L h₀ m X O Z s Q vs C I r k
  obtain ⟨v, w, rfl, rv, rw'⟩ := r.two
  cases rv; cases rw'
  exact IsiPair.bool_bool (k _ s.heap _ O Z I Ext.refl (.bool _))
theorem call_min (a b : Int) : OpN g n (fun vs => call (.builtin "min") vs) σ [.int a, .int b] (.int (if b < a then b else a)) σ := by
  intro A hr outer ef L h₀ m X O Z s Q vs C I r k
  obtain ⟨v, w, rfl, rv, rw'⟩ := r.two
  cases rv; cases rw'
  exact min_two_N C.hh I.F I.N fun h' tk F' N' => k _ h' tk O Z ⟨F', N', I.nd, I.on, I.ow⟩ Ext.refl (.int _ _)
theorem call_max (a b : Int) : OpN g n (fun vs => call (.builtin "max") vs) σ [.int a, .int b] (.int (if b > a then b else a)) σ := by
  intro A hr outer ef L h₀ m X O Z s Q vs C I r k
  obtain ⟨v, w, rfl, rv, rw'⟩ := r.two
  cases rv; cases rw'
  exact max_two_N C.hh I.F I.N fun h' tk F' N' => k _ h' tk O Z ⟨F', N', I.nd, I.on, I.ow⟩ Ext.refl (.int _ _)

theorem fresh_size {h₀ hr : Heap} {L : Addr} {h h' : Heap} {m : PySem.Str → Option Value} {X O Z : Led} {σ : Sig} {o : Obj}
    (I : Inv h₀ hr L h m X O Z σ) (ho : h'.get? h.objs.size = some o) : Fresh h₀ L h' X O Z h.objs.size o := by
  refine ⟨ho, Nat.ne_of_gt I.F.ns.lt, ?_, fun hm => ?_⟩
  · cases e : h₀.get? h.objs.size with
    | none => rfl
    | some o' => exact absurd (Heap.lt_size (I.F.keep _ _ e)) (Nat.lt_irrefl _)
  · obtain ⟨p, hp, e⟩ := List.mem_map.mp hm
    exact absurd (Heap.lt_size (I.N p hp).1) (e ▸ Nat.lt_irrefl _)

theorem rangeSize_nat (b : Nat) : Builtin.Range.rangeSize 0 (b : Int) 1 = ((b : Nat) : Int) := by
  unfold Builtin.Range.rangeSize
  simp
  omega
theorem call_range1 (b : Nat) (hs : Builtin.Range.small 0 b 1 = true) : OpN g n (fun vs => call (.type "range") vs) σ [.int b] (.rng 0 b) σ := by
  intro A hr outer ef L h₀ m X O Z s Q vs C I r k
  obtain ⟨v, rfl, rv⟩ := r.one
  cases rv
  refine range1_rows I.F I.N fun h' tk t₁ u₁ v₁ ir F' N' kp => ?_
  have I' : Inv h₀ hr L h' m X O Z σ := ⟨F', N', I.nd, I.on, I.ow⟩
  exact k _ h' tk O _ (I'.addZ (fresh_size I ir) (hr := hr)) ⟨⟨[], by simp⟩, fun p hp => .tail _ hp⟩ (.rng (.head _) hs (rangeSize_nat b))
end
end Mine

namespace Mine
open PySem PySem.W PySem.Calls PySem.Spec PyProof.Rows

/-- d speaks of no owned list from the k-th on -/
inductive Low (k : Nat) : D → Prop
  | int (i : Int) : Low k (.int i)
  | bool (b : Bool) : Low k (.bool b)
  | str (x : PySem.Str) : Low k (.str x)
  | none : Low k .none
  | typ (T : String) : Low k (.typ T)
  | tab (P : Addr → Obj → Prop) : Low k (.tab P)
  | rng (a : Int) (n : Nat) : Low k (.rng a n)
  | list {ds : List D} : (∀ d ∈ ds, Low k d) → Low k (.list ds)
  | tup {ds : List D} : (∀ d ∈ ds, Low k d) → Low k (.tup ds)
  | own {j : Nat} : j < k → Low k (.own j)

theorem Rep.low {hr : Heap} {k : Nat} {as as' : List Addr} {Z : Led} {v : Value} {d : D} (ha : ∀ (j : Nat) (a : Addr), j < k → as[j]? = some a → as'[j]? = some a) (r : Rep hr as Z v d) (l : Low k d) : Rep hr as' Z v d := by
  induction r with
  | int i t => exact .int i t
  | bool b => exact .bool b
  | str x t => exact .str x t
  | none => exact .none
  | typ T => exact .typ T
  | tab h p => exact .tab h p
  | list hs hl _ ih =>
    cases l with
    | list lh => exact .list hs hl fun i v d a b => ih i v d a b (lh _ (List.mem_of_getElem? b))
  | tup hm hl _ ih =>
    cases l with
    | tup lh => exact .tup hm hl fun i v d a b => ih i v d a b (lh _ (List.mem_of_getElem? b))
  | own hk =>
    cases l with
    | own hj => exact .own (ha _ _ hj hk)
  | rng hm h1 h2 => exact .rng hm h1 h2
theorem RepL.low {hr : Heap} {k : Nat} {as as' : List Addr} {Z : Led} {vs : List Value} {ds : List D} (ha : ∀ (j : Nat) (a : Addr), j < k → as[j]? = some a → as'[j]? = some a) (r : RepL hr as Z vs ds) (l : ∀ d ∈ ds, Low k d) : RepL hr as' Z vs ds :=
  ⟨r.1, fun i v d a b => (r.2 i v d a b).low ha (l _ (List.mem_of_getElem? b))⟩

section
variable {g : Gl} {n : Nat} {env : Env} {ρ : Rho} {σ σ₁ σ₂ σ₃ : Sig}

theorem Inv.hide {h₀ hr : Heap} {L : Addr} {h : Heap} {m : PySem.Str → Option Value} {X O Z : Led} (I : Inv h₀ hr L h m X O Z σ) : Inv h₀ hr L h m (X ++ O) [] Z [] := by
  have e : (X ++ O) ++ ([] ++ Z) = X ++ (O ++ Z) := by simp
  exact ⟨I.F, by rw [e]; exact I.N, by rw [e]; exact I.nd, rfl, fun k p ds hp _ => by simp at hp⟩
theorem Inv.show {h₀ hr : Heap} {L : Addr} {h h' : Heap} {m m' : PySem.Str → Option Value} {X O Z Z' : Led} (I₀ : Inv h₀ hr L h m X O Z σ) (I : Inv h₀ hr L h' m' (X ++ O) [] Z' []) (hz : ∀ p ∈ Z, p ∈ Z') : Inv h₀ hr L h' m' X O Z' σ := by
  have e : (X ++ O) ++ ([] ++ Z') = X ++ (O ++ Z') := by simp
  refine ⟨I.F, by rw [← e]; exact I.N, by rw [← e]; exact I.nd, I₀.on, fun k p ds hp hd => ?_⟩
  obtain ⟨vs, c, e, r⟩ := I₀.ow k p ds hp hd
  exact ⟨vs, c, e, r.ext (fun _ _ q => q) hz⟩

/-- what holds where nothing is owned holds everywhere -/
theorem OpN.lift {f : List Value → Sem Value} {ds : List D} {d : D} (h : OpN g n f [] ds d []) (hl : ∀ x ∈ ds, Low 0 x) : OpN g n f σ ds d σ := by
  intro A hr outer ef L h₀ m X O Z s Q vs C I r k
  refine h vs C I.hide (RepL.low (k := 0) (by intro j a hj; exact absurd hj (Nat.not_lt_zero _)) r hl) fun v h' tk O' Z' I' x r' => ?_
  have hO : O' = [] := by
    have := I'.on; simpa using this
  subst hO
  exact k v h' tk O Z' (I.show I' x.2) ⟨⟨[], by simp⟩, x.2⟩ (r'.ext (by intro j a hj; simp at hj) fun _ h => h)
theorem OpNF.lift {f : List Value → Sem Value} {ds es : List D} (h : OpNF g n f [] ds es []) (hl : ∀ x ∈ ds, Low 0 x) : OpNF g n f σ ds es σ := by
  intro A hr outer ef L h₀ m X O Z s Q vs C I r k
  refine h vs C I.hide (RepL.low (k := 0) (by intro j a hj; exact absurd hj (Nat.not_lt_zero _)) r hl) fun a us c h' tk O' Z' I' f' x r' => ?_
  have hO : O' = [] := by
    have := I'.on; simpa using this
  subst hO
  refine k a us c h' tk O Z' (I.show I' x.2) ⟨f'.at_, f'.nL, f'.n0, ?_⟩ ⟨⟨[], by simp⟩, x.2⟩ (r'.ext (by intro j a hj; simp at hj) fun _ h => h)
  have := f'.nm
  simpa using this

theorem Ev.callF {f : PySem.Str} {p pos : Pos} {a : Addr} {e : Expr} {es : List Expr} {ds : List D} {d : D} (hf : Gv g n env f (.ref a)) (hk : keepIn g.K (.ref a) = true) (ha : Evs g n env ρ σ (e :: es) ds σ₁) (ho : OpN g n (fun vs => call (.ref a) vs) σ₁ ds d σ₂)
    (he : starEach (e :: es) env = (false, eval e env) :: starEach es env) (hp : ∀ pos, ((backTo pos (starEach es env)).any (·.1)) = false)
    (hc : eval (.Call (.Name f p) (e :: es) [] pos) env = (do callWith pos (← eval (.Name f p) env) [] (backTo pos (starEach (e :: es) env)) (backToKw pos (keywordEach [] env)))) :
    Ev g n env ρ σ (.Call (.Name f p) (e :: es) [] pos) d σ₂ := by
  intro A hr outer ef L h₀ m X O Z s Q C I M k
  refine Call_ (hf C I ?_) hc
  refine callWith_K C.K hk (ha C I M fun vs h₁ t₁ O₁ Z₁ I₁ x₁ rv => ?_) he (hp _)
  exact ⟨Frag.In.keeps C.K I₁.F.keep, ho vs C I₁ rv fun v h₂ t₂ O₂ Z₂ I₂ x₂ rv' => k v h₂ t₂ O₂ Z₂ I₂ (x₁.trans x₂) rv'⟩
theorem Ev.callF0 {f : PySem.Str} {p pos : Pos} {a : Addr} {d : D} (hf : Gv g n env f (.ref a)) (hk : keepIn g.K (.ref a) = true) (ho : OpN g n (fun vs => call (.ref a) vs) σ [] d σ₂)
    (hc : eval (.Call (.Name f p) [] [] pos) env = (do callWith pos (← eval (.Name f p) env) [] (backTo pos (starEach [] env)) (backToKw pos (keywordEach [] env)))) :
    Ev g n env ρ σ (.Call (.Name f p) [] [] pos) d σ₂ := by
  intro A hr outer ef L h₀ m X O Z s Q C I M k
  refine Call_ (hf C I ?_) hc
  refine callWith_K0 (Frag.In.keeps C.K I.F.keep) hk ?_
  exact ho [] C I RepL.nil k

/-! statements -/
inductive Out where
  | next (ρ : Rho) (σ : Sig)
  | ret (d : D) (σ : Sig)

/-- the first b owned lists stand where they stood -/
def ExtB (b : Nat) (O O' Z Z' : Led) : Prop := (O'.map (·.1)).take b = (O.map (·.1)).take b ∧ ∀ p ∈ Z, p ∈ Z'
theorem ExtB.refl {b : Nat} {O Z : Led} : ExtB b O O Z Z := ⟨rfl, fun _ h => h⟩
theorem ExtB.trans {b : Nat} {O O' O'' Z Z' Z'' : Led} (x : ExtB b O O' Z Z') (y : ExtB b O' O'' Z' Z'') : ExtB b O O'' Z Z'' := ⟨y.1.trans x.1, fun p h => y.2 p (x.2 p h)⟩
theorem Ext.toB {b : Nat} {O O' Z Z' : Led} (x : Ext O O' Z Z') (hb : b ≤ O.length) : ExtB b O O' Z Z' := by
  obtain ⟨⟨t, e⟩, s⟩ := x
  exact ⟨by rw [e, List.take_append_of_le_length (by simpa using hb)], s⟩
theorem ExtB.len {b : Nat} {O O' Z Z' : Led} (x : ExtB b O O' Z Z') (hb : b ≤ O.length) : b ≤ O'.length := by
  have := congrArg List.length x.1
  simp only [List.length_take, List.length_map] at this
  omega

/-- the frame's state between two statements -/
structure Sx (b : Nat) (env : Env) (hr : Heap) (L : Addr) (h₀ h : Heap) (m : PySem.Str → Option Value) (cs X O Z : Led) (ρ : Rho) (σ : Sig) : Prop where
  loc : env.locals = L
  bo : b ≤ O.length
  I : Inv h₀ hr L h m (cs ++ X) O Z σ
  ca : cs.map (·.1) = env.cells.map (·.2)
  ck : ∀ p ∈ cs, ∃ v, p.2.data = .cell v
  M : Mod env hr L m (cs ++ X) (O.map (·.1)) Z ρ

def Ex (g : Gl) (n : Nat) (b : Nat) (env : Env) (ρ : Rho) (σ : Sig) (body : List Stmt) (R : Out → Prop) : Prop :=
  ∀ ⦃A : Around⦄ ⦃hr : Heap⦄ ⦃outer : List Env⦄ ⦃ef : Env⦄ ⦃L : Addr⦄ ⦃h₀ : Heap⦄ ⦃m : PySem.Str → Option Value⦄ ⦃cs X O Z : Led⦄ ⦃s : Shared⦄ ⦃Q : Flow → Shared → Prop⦄,
    Cx g A hr outer ef L h₀ n → Sx b env hr L h₀ s.heap m cs X O Z ρ σ →
    (∀ ρ' σ' h' tk m' cs' O' Z', R (.next ρ' σ') → Sx b env hr L h₀ h' m' cs' X O' Z' ρ' σ' → ExtB b O O' Z Z' → Q .next { s with heap := h', toks := tk }) →
    (∀ d ρ' σ' h' tk v m' cs' O' Z', R (.ret d σ') → Sx b env hr L h₀ h' m' cs' X O' Z' ρ' σ' → ExtB b O O' Z Z' → Rep hr (O'.map (·.1)) Z' v d → Q (.ret v) { s with heap := h', toks := tk }) →
    wpAny (model g.prog g.w) A (execs body env) Q NE s

theorem CellsAre.ok {cm : PySem.Str → Option Value} : ∀ {cl : List (PySem.Str × Addr)} {cells : Led}, CellsAre cm cl cells → ∀ p ∈ cells, ∃ v, p.2.data = .cell v
  | _, _, .nil, p, hp => by cases hp
  | _, _, .cons (n := y) hd r, p, hp => by
    rcases List.mem_cons.mp hp with rfl | hp
    · exact ⟨_, hd⟩
    · exact CellsAre.ok r p hp
theorem CellsAre.get {cm : PySem.Str → Option Value} {x : PySem.Str} {c : Addr} : ∀ {cl : List (PySem.Str × Addr)} {cells : Led}, CellsAre cm cl cells → cl.lookup x = some c → ∃ o, (c, o) ∈ cells ∧ o.data = .cell (cm x)
  | _, _, .nil, h => by simp at h
  | _, _, .cons (n := y) (c := c') (o := o') hd r, h => by
    rw [List.lookup_cons] at h
    by_cases e : x = y
    · subst e
      simp at h
      subst h
      exact ⟨_, .head _, hd⟩
    · have : (x == y) = false := by simp [e]
      rw [this] at h
      obtain ⟨o, hm, hd'⟩ := CellsAre.get r h
      exact ⟨o, .tail _ hm, hd'⟩
theorem CellsAre.adr {cm : PySem.Str → Option Value} : ∀ {cl : List (PySem.Str × Addr)} {cells : Led}, CellsAre cm cl cells → cells.map (·.1) = cl.map (·.2)
  | _, _, .nil => rfl
  | _, _, .cons _ r => by simp [CellsAre.adr r]

theorem bindL_out {kindOf : PySem.Str → Option NameKind} {x : PySem.Str} : ∀ (binds : List (PySem.Str × Value)) (m : PySem.Str → Option Value), x ∉ binds.map (·.1) → bindL kindOf binds m x = m x
  | [], _, _ => rfl
  | (y, v) :: r, m, h => by
    simp only [List.map_cons, List.mem_cons, not_or] at h
    rw [bindL, bindL_out r _ h.2]
    split
    · simp [h.1]
    · rfl
theorem bindL_in {kindOf : PySem.Str → Option NameKind} {x : PySem.Str} {v : Value} (hx : kindOf x = some .local) : ∀ (binds : List (PySem.Str × Value)) (m : PySem.Str → Option Value), (binds.map (·.1)).Nodup → (x, v) ∈ binds → bindL kindOf binds m x = some v
  | [], _, _, h => by cases h
  | (y, w) :: r, m, hn, h => by
    simp only [List.map_cons, List.nodup_cons] at hn
    rcases List.mem_cons.mp h with e | h
    · cases e
      rw [bindL, bindL_out r _ hn.1]
      simp [hx]
    · rw [bindL]; exact bindL_in hx r _ hn.2 h
theorem bindC_out {kindOf : PySem.Str → Option NameKind} {x : PySem.Str} : ∀ (binds : List (PySem.Str × Value)) (m : PySem.Str → Option Value), x ∉ binds.map (·.1) → bindC kindOf binds m x = m x
  | [], _, _ => rfl
  | (y, v) :: r, m, h => by
    simp only [List.map_cons, List.mem_cons, not_or] at h
    rw [bindC, bindC_out r _ h.2]
    split
    · rfl
    · simp [h.1]
theorem bindC_in {kindOf : PySem.Str → Option NameKind} {x : PySem.Str} {v : Value} (hx : kindOf x = some .cell) : ∀ (binds : List (PySem.Str × Value)) (m : PySem.Str → Option Value), (binds.map (·.1)).Nodup → (x, v) ∈ binds → bindC kindOf binds m x = some v
  | [], _, _, h => by cases h
  | (y, w) :: r, m, hn, h => by
    simp only [List.map_cons, List.nodup_cons] at hn
    rcases List.mem_cons.mp h with e | h
    · cases e
      rw [bindC, bindC_out r _ hn.1]
      simp [hx]
    · rw [bindC]; exact bindC_in hx r _ hn.2 h

theorem zip_lookup {x : PySem.Str} {d : D} : ∀ (xs : List PySem.Str) (ds : List D) (vs : List Value), xs.length = ds.length → vs.length = ds.length → (xs.zip ds).lookup x = some d → ∃ (i : Nat) (v : Value), (x, v) ∈ xs.zip vs ∧ vs[i]? = some v ∧ ds[i]? = some d
  | [], _, _, _, _, h => by simp at h
  | y :: xs, [], _, hl, _, _ => by simp at hl
  | y :: xs, e :: ds, [], _, hv, _ => by simp at hv
  | y :: xs, e :: ds, w :: vs, hl, hv, h => by
    rw [List.zip_cons_cons, List.lookup_cons] at h
    by_cases q : x = y
    · subst q
      simp at h
      subst h
      exact ⟨0, w, by simp, rfl, rfl⟩
    · have : (x == y) = false := by simp [q]
      rw [this] at h
      obtain ⟨i, v, a, b, c⟩ := zip_lookup xs ds vs (by simpa using hl) (by simpa using hv) h
      exact ⟨i + 1, v, by simp [a], by simpa using b, by simpa using c⟩
theorem zip_fst {α β : Type} : ∀ (xs : List α) (ys : List β), ys.length = xs.length → (xs.zip ys).map (·.1) = xs
  | [], _, _ => by simp
  | x :: xs, [], h => by simp at h
  | x :: xs, y :: ys, h => by simp only [List.zip_cons_cons, List.map_cons]; rw [zip_fst xs ys (by simpa using h)]

theorem mod_params {env : Env} {hr : Heap} {L : Addr} {cells X : Led} {as : List Addr} {Z : Led} {xs : List PySem.Str} {vs : List Value} {ds : List D}
    (hfk : env.scope.kind = .function) (hL : env.locals = L) (hxn : xs.Nodup) (hl : xs.length = ds.length) (r : RepL hr as Z vs ds)
    (hkind : ∀ x ∈ xs, env.kindOf x = some .local ∨ (env.kindOf x = some .cell ∧ (env.cells.lookup x).isSome = true))
    (Y : CellsAre (bindC env.kindOf (xs.zip vs) fun _ => none) env.cells cells) :
    Mod env hr L (bindL env.kindOf (xs.zip vs) fun _ => none) (cells ++ X) as Z (xs.zip ds) := by
  intro x d h
  obtain ⟨i, v, hm, hv, hd⟩ := zip_lookup xs ds vs hl r.1 h
  have hn : ((xs.zip vs).map (·.1)).Nodup := by rw [zip_fst xs vs (r.1.trans hl.symm)]; exact hxn
  refine ⟨v, ?_, r.2 i v d hv hd⟩
  have hx : x ∈ xs := (List.of_mem_zip hm).1
  rcases hkind x hx with hk | ⟨hk, hc⟩
  · exact .loc hfk hk hL (bindL_in hk _ _ hn hm)
  · obtain ⟨c, hc⟩ := Option.isSome_iff_exists.mp hc
    obtain ⟨o, ho, hod⟩ := CellsAre.get Y hc
    exact .cell hfk hk hc (List.mem_append_left _ ho) (by rw [hod, bindC_in hk _ _ hn hm])

theorem cellsFrom_adr (k : Nat) : ∀ (names : List (PySem.Str × NameKind)) (i : Nat) (acc : List (PySem.Str × Addr)), (∀ p ∈ acc, k < p.2 ∧ p.2 < i) → (acc.map (·.2)).Nodup → k < i →
    (∀ p ∈ cellsFrom i names acc, k < p.2) ∧ ((cellsFrom i names acc).map (·.2)).Nodup
  | [], i, acc, h, hn, hk => ⟨fun p hp => (h p hp).1, hn⟩
  | (y, kd) :: r, i, acc, h, hn, hk => by
    unfold cellsFrom
    split
    · refine cellsFrom_adr k r (i + 1) ((y, i) :: acc) (fun p hp => ?_) ?_ (Nat.lt_succ_of_lt hk)
      · rcases List.mem_cons.mp hp with rfl | hp
        · exact ⟨hk, Nat.lt_succ_self _⟩
        · exact ⟨(h p hp).1, Nat.lt_succ_of_lt (h p hp).2⟩
      · simp only [List.map_cons, List.nodup_cons]
        refine ⟨fun hm => ?_, hn⟩
        obtain ⟨p, hp, e⟩ := List.mem_map.mp hm
        exact absurd (h p hp).2 (by rw [e]; exact Nat.lt_irrefl _)
    · exact cellsFrom_adr k r i acc h hn hk

/-- a def of the text's: the call by its body -/
theorem fn_pure {a : Addr} {name qual : PySem.Str} {params : Arguments} {body : List Stmt} {scope : Scope} {dV kV doc pm cdv ct oc : Value} {an od : Option Addr} {osl : Array (Option Value)} {xs : List PySem.Str} {ds : List D} {d : D}
    (ho : g.K.lookup a = some ⟨oc, od, .func (fnOf name qual params body scope dV kV doc pm an cdv ct), osl⟩)
    (hcd : codeIn g.K cdv qual = true)
    (hb : ∀ vs : List Value, vs.length = xs.length → ∀ s, BindsTo s (fnOf name qual params body scope dV kV doc pm an cdv ct) ⟨vs, []⟩ (xs.zip vs))
    (hl : xs.length = ds.length) (hxn : xs.Nodup)
    (hkind : ∀ x ∈ xs, scope.names.lookup x = some .local ∨ (scope.names.lookup x = some .cell ∧ ((cellsFrom 0 scope.names []).lookup x).isSome = true))
    (hnd : ((cellsFrom 0 scope.names []).map (·.1)).Nodup)
    (hco : scope.isCoroutine = false) (hgen : scope.isGenerator = false) (hk : scope.kind = .function)
    (hbody : ∀ L', Ex g n 0 (envOfC qual scope L' a cdv) (xs.zip ds) [] body (fun o => ∃ σ', o = .ret d σ'))
    (hno : Low 0 d) : OpN g (n + 1) (fun vs => call (.ref a) vs) [] ds d [] := by
  intro A hr outer ef L h₀ m X O Z s Q vs C I r k
  obtain ⟨A₀, B⟩ := C.below
  have hO : O = [] := by have := I.on; simpa using this
  subst hO
  refine wpAny_call ?_
  refine code_defC B I.F C.K I.N C.T C.frames C.efr C.ekd ho hcd (Nat.lt_of_le_of_lt (Nat.le_add_right _ _) C.dep) (hb vs (r.1.trans hl.symm) s) ?_ hnd (fun g' L' h₁ tk cells FG F' N' Y B' X' T' lt => ?_) hco hgen hk
  · refine List.all_eq_true.mpr fun y hy => ?_
    have := hkind y.1 (List.of_mem_zip hy).1
    rcases this with q | ⟨q, _⟩ <;> rw [q] <;> rfl
  · have hce : (envOfC qual scope L' a cdv).cells = cellsFrom (L' + 1) scope.names [] := rfl
    have ca := cellsFrom_adr L' scope.names (L' + 1) [] (by intro p hp; cases hp) (by simp) (Nat.lt_succ_self _)
    have hca := CellsAre.adr Y
    have I' : Inv g' hr L' h₁ (bindL (envOfC qual scope L' a cdv).kindOf (xs.zip vs) fun _ => none) (cells ++ X) [] Z [] := by
      have e : (cells ++ X) ++ ([] ++ Z) = cells ++ (X ++ ([] ++ Z)) := by simp
      refine ⟨F', by rw [e]; exact N', ?_, rfl, fun k p ds hp _ => by simp at hp⟩
      rw [e, List.map_append]
      refine List.nodup_append.mpr ⟨by rw [hca]; exact ca.2, I.nd, fun x hx y hy => ?_⟩
      rw [hca] at hx
      obtain ⟨p, hp, rfl⟩ := List.mem_map.mp hx
      obtain ⟨q, hq, rfl⟩ := List.mem_map.mp hy
      have h1 := ca.1 p hp
      have h2 := lt q hq
      intro e
      rw [e] at h1
      exact absurd (Nat.lt_trans h1 h2) (Nat.lt_irrefl _)
    have C' : Cx g (A.deeper (envOfC qual scope L' a cdv)) hr (ef :: outer) (envOfC qual scope L' a cdv) L' g' n := by
      refine ⟨⟨A, B'⟩, ?_, rfl, hk, X', T', C.hh, ?_, ?_⟩
      · exact Around.frames_deeper C.frames
      · have := C.dep
        show A.depth + 1 + n < recursionLimit
        omega
      · have := C.un
        show A.units + 3 + 4 * n + 80 < cLine
        omega
    have M' : Mod (envOfC qual scope L' a cdv) hr L' (bindL (envOfC qual scope L' a cdv).kindOf (xs.zip vs) fun _ => none) (cells ++ X) (([] : Led).map (·.1)) Z (xs.zip ds) := by
      refine mod_params hk rfl hxn hl r (fun x hx => ?_) Y
      rcases hkind x hx with q | ⟨q, q'⟩
      · exact .inl q
      · refine .inr ⟨q, ?_⟩
        have hcf := cellsFrom_some (x := x) scope.names (L' + 1) [] (.inl q)
        exact hcf
    refine wpAny_noRaise (hbody L' C' ⟨rfl, Nat.zero_le _, I', hca, CellsAre.ok Y, M'⟩ (fun ρ' σ' h' tk m' cs' O' Z' hR => ?_) fun d' ρ' σ' h' tk' v m' cs' O' Z' hR S₂ x r₂ => ?_)
    · obtain ⟨σ', e⟩ := hR; cases e
    · obtain ⟨_, e⟩ := hR
      cases e
      have I₂ := S₂.I
      refine leaveK_ I₂.F I₂.N fun F₃ N₃ => ?_
      have I₃ : Inv h₀ hr L h' m X [] Z' [] := by
        refine ⟨F₃, fun p hp => N₃ p ?_, ?_, rfl, fun k p ds hp _ => by simp at hp⟩
        · rcases List.mem_append.mp hp with hp | hp
          · exact List.mem_append_left _ (List.mem_append_right _ hp)
          · exact List.mem_append_right _ (List.mem_append_right _ (by simpa using hp))
        · refine List.Nodup.sublist (List.Sublist.map _ ?_) I₂.nd
          exact List.Sublist.append (List.sublist_append_right _ _) (by simp)
      exact k v h' tk' [] Z' I₃ ⟨⟨[], by simp⟩, x.2⟩ (r₂.low (k := 0) (by intro j a hj; exact absurd hj (Nat.not_lt_zero _)) hno)
end
end Mine

namespace Mine
open PySem PySem.W PySem.Calls PySem.Spec PyProof.Rows

/-- the part of Inv that speaks of no heap -/
structure Lok (hr : Heap) (X O Z : Led) (σ : Sig) : Prop where
  nd : ((X ++ (O ++ Z)).map (·.1)).Nodup
  on : O.length = σ.length
  ow : ∀ (k : Nat) p ds, O[k]? = some p → σ[k]? = some ds → ∃ vs n, p.2 = W.listOf (List.toArray vs) n ∧ RepL hr (O.map (·.1)) Z vs ds
theorem Inv.lok {h₀ hr : Heap} {L : Addr} {h : Heap} {m : PySem.Str → Option Value} {X O Z : Led} {σ : Sig} (I : Inv h₀ hr L h m X O Z σ) : Lok hr X O Z σ := ⟨I.nd, I.on, I.ow⟩
theorem Lok.inv {h₀ hr : Heap} {L : Addr} {h : Heap} {m : PySem.Str → Option Value} {X O Z : Led} {σ : Sig} (l : Lok hr X O Z σ) (F : Fr h₀ L h m) (N : News h₀ L h (X ++ (O ++ Z))) : Inv h₀ hr L h m X O Z σ := ⟨F, N, l.nd, l.on, l.ow⟩

def itemsOf : D → Option (List D)
  | .list ds => some ds
  | .rng a n => some ((List.range n).map fun i => .int (a + (i : Nat)))
  | .str x => some (x.cps.toList.map fun c => .str ⟨#[c]⟩)
  | _ => none

/-- an iterator J of the items ds -/
structure IterOk (g : Gl) (A : Around) (h₀ hr : Heap) (L : Addr) (as : List Addr) (Z : Led) (J : Addr) (fp : List Addr) (P : Nat → Value → Prop) (St : Nat → Heap → Prop) (ds : List D) : Prop where
  walk : Walks g.prog g.w A J fp [J] ds.length P St
  item : ∀ i v d, P i v → ds[i]? = some d → Rep hr as Z v d
  here : ∀ i h, St i h → ∃ o, h.get? J = some o
  kind : ∀ i h o, St i h → h.get? J = some o → o.cls = .type "list_iterator" ∨ o.cls = .type "range_iterator" ∨ o.cls = .type "str_iterator" ∨ o.cls = .type "str_ascii_iterator"
  still : ∀ i h h' o nw, St i h → h.get? J = some o → h'.get? J = some o → (∀ b o, h₀.get? b = some o → h'.get? b = some o) → News h₀ L h' nw → (∀ p ∈ Z, p ∈ nw) → St i h'

section
variable {g : Gl} {n : Nat} {env : Env} {ρ : Rho} {σ σ₁ σ₂ σ₃ : Sig}

theorem srcAt_base {hr h₀ : Heap} {a : Addr} {its : Array Value} {Z nw : Led} (st : hr.StaysIn h₀) (hz : ∀ p ∈ Z, p ∈ nw) (s : Src hr a its Z) : LCg.SrcAt h₀ a its nw := by
  rcases s with ⟨o, e, r⟩ | ⟨c, hm⟩
  · exact .inl ⟨o, st _ _ e, r⟩
  · exact .inr ⟨_, hz _ hm, rfl, c, rfl⟩

theorem pyIter_D {A : Around} {hr : Heap} {outer : List Env} {ef : Env} {L : Addr} {h₀ : Heap} {m : PySem.Str → Option Value} {X O Z : Led} {s : Shared} {Q : Value → Shared → Prop} {v : Value} {d : D} {ds : List D}
    (C : Cx g A hr outer ef L h₀ n) (I : Inv h₀ hr L s.heap m X O Z σ) (r : Rep hr (O.map (·.1)) Z v d) (hi : itemsOf d = some ds)
    (k : ∀ oJ fp P St h', Inv h₀ hr L h' m X O Z σ → Fresh h₀ L h' X O Z s.heap.objs.size oJ → IterOk g A h₀ hr L (O.map (·.1)) Z s.heap.objs.size fp P St ds → St 0 h' → (∀ b ∈ fp, b < h'.objs.size) →
      Q (.ref s.heap.objs.size) { s with heap := h' }) :
    wpAny (model g.prog g.w) A (pyIter v) Q NE s := by
  have up : ∀ o b ob, s.heap.get? b = some ob → (s.heap.push o).get? b = some ob := fun o b ob e => Heap.get?_push_of_some _ e
  have I' : ∀ o, Inv h₀ hr L (s.heap.push o) m X O Z σ := fun o => I.lok.inv (I.F.keeps (up o)) (I.N.grown (up o))
  cases r with
  | int i t => cases hi
  | bool b => cases hi
  | none => cases hi
  | typ T => cases hi
  | tab h p => cases hi
  | tup => cases hi
  | own => cases hi
  | @list a vs ds' hs hl hit =>
    cases hi
    have L1 := srcAt_list C I hs
    refine wpAny_pyIter_list L1 ?_
    obtain ⟨oa, ea, ra⟩ := id L1
    have hne : a ≠ s.heap.objs.size := Nat.ne_of_lt (Heap.lt_size ea)
    have hJ : (s.heap.push { cls := .type "list_iterator", data := .fields #[.ref a, .int 0 0] }).get? s.heap.objs.size = some { cls := .type "list_iterator", data := .fields #[.ref a, .int 0 0] } := Heap.get?_push_size _ rfl
    have W := Walks.list (prog := g.prog) (w := g.w) C.hh s.heap.objs.size a hne vs.toArray
    have hlen : vs.toArray.size = ds.length := by simpa using hl
    rw [hlen] at W
    refine k _ _ _ _ _ (I' _) (fresh_size I hJ) ⟨W, fun i v d hp hd => hit i v d (by simpa using hp) hd, fun i h st => by obtain ⟨o, e, _⟩ := st.1; exact ⟨o, e⟩, fun i h o st e => by obtain ⟨o', e', hc, _⟩ := st.1; rw [e] at e'; cases e'; exact .inl hc, fun i h h' o nw st e e' kp N hz => ?_⟩ ⟨⟨_, hJ, rfl, rfl⟩, ⟨oa, up _ _ _ ea, ra⟩⟩ fun b hb => ?_
    · refine ⟨?_, (srcAt_base C.stays hz hs).list kp N⟩
      obtain ⟨o', q, r⟩ := st.1
      rw [e] at q; cases q
      exact ⟨o, e', r⟩
    · rw [Heap.size_push]
      rcases List.mem_cons.mp hb with rfl | hb
      · exact Nat.lt_succ_self _
      · rw [List.mem_singleton.mp hb]; exact Nat.lt_succ_of_lt (Heap.lt_size ea)
  | @rng r a b nn t u v hm hs hz =>
    cases hi
    have hg := (I.N _ (List.mem_append_right _ (List.mem_append_right _ hm))).1
    refine wpAny_pyIter_range (t := t) (u := u) (v := v) hg hs ?_
    have hJ : (s.heap.push { cls := .type "range_iterator", data := .fields #[rawInt a, rawInt (Builtin.Range.rangeSize a b 1), rawInt 1] }).get? s.heap.objs.size = some { cls := .type "range_iterator", data := .fields #[rawInt a, rawInt (Builtin.Range.rangeSize a b 1), rawInt 1] } := Heap.get?_push_size _ rfl
    have W := LCg.range_walks (prog := g.prog) (w := g.w) (I := s.heap.objs.size) C.hh a nn
    have hlen : ((List.range nn).map fun i => D.int (a + (i : Nat))).length = nn := by simp
    rw [← hlen] at W
    refine k _ _ _ _ _ (I' _) (fresh_size I hJ) ⟨W, fun i v d hp hd => ?_, fun i h st => ⟨_, st⟩, fun i h o st e => by have st' : h.get? s.heap.objs.size = some _ := st; rw [e] at st'; cases st'; exact .inr (.inl rfl), fun i h h' o nw st e e' kp N _ => ?_⟩ ?_ fun b hb => ?_
    · obtain ⟨t, rfl⟩ := hp
      have : d = .int (a + (i : Int)) := by
        rw [List.getElem?_map] at hd
        cases hq : (List.range nn)[i]? with
        | none => rw [hq] at hd; cases hd
        | some j =>
          rw [hq] at hd
          have := List.getElem?_eq_some_iff.mp hq
          obtain ⟨hi', hj⟩ := this
          simp at hj
          subst hj
          simpa using hd.symm
      subst this
      exact .int _ _
    · have st' : h.get? s.heap.objs.size = some _ := st
      show h'.get? s.heap.objs.size = some _
      rw [e', ← e]; exact st'
    · show IsRangeIter _ _ _ _ _
      rw [hlen]
      simp only [hz] at hJ ⊢
      simpa using hJ
    · rw [Heap.size_push, List.mem_singleton.mp hb]; exact Nat.lt_succ_self _
  | str x t =>
    cases hi
    have hlen : (x.cps.toList.map fun c => D.str ⟨#[c]⟩).length = x.cps.size := by simp
    have item : ∀ i v d, SignAt x i v → (x.cps.toList.map fun c => D.str ⟨#[c]⟩)[i]? = some d → Rep hr (O.map (·.1)) Z v d := by
      rintro i v d ⟨c, u, hc, rfl⟩ hd
      rw [List.getElem?_map] at hd
      have hc' : x.cps.toList[i]? = some c := by simpa using hc
      rw [hc'] at hd
      cases hd
      exact .str _ _
    cases ha : x.cps.all (· < 128)
    · refine wpAny_pyIter_wide ha ?_
      have hJ : (s.heap.push { cls := .type "str_iterator", data := .fields #[.str x t, .int 0 0] }).get? s.heap.objs.size = some { cls := .type "str_iterator", data := .fields #[.str x t, .int 0 0] } := Heap.get?_push_size _ rfl
      have W := Walks.strWide (prog := g.prog) (w := g.w) C.hh s.heap.objs.size x t
      rw [← hlen] at W
      refine k _ _ _ _ _ (I' _) (fresh_size I hJ) ⟨W, item, fun i h st => by obtain ⟨o, e, _⟩ := st; exact ⟨o, e⟩, fun i h o st e => by obtain ⟨o', e', hc, _⟩ := st; rw [e] at e'; cases e'; exact .inr (.inr (.inl hc)), fun i h h' o nw st e e' kp N _ => ?_⟩ ⟨_, hJ, rfl, rfl⟩ fun b hb => ?_
      · obtain ⟨o', q, r⟩ := st
        rw [e] at q; cases q
        exact ⟨o, e', r⟩
      · rw [Heap.size_push, List.mem_singleton.mp hb]; exact Nat.lt_succ_self _
    · refine wpAny_pyIter_ascii ha ?_
      have hJ : (s.heap.push { cls := .type "str_ascii_iterator", data := .fields #[.str x t, .int 0 0] }).get? s.heap.objs.size = some { cls := .type "str_ascii_iterator", data := .fields #[.str x t, .int 0 0] } := Heap.get?_push_size _ rfl
      have W := Walks.strAscii (prog := g.prog) (w := g.w) C.hh s.heap.objs.size x t
      rw [← hlen] at W
      refine k _ _ _ _ _ (I' _) (fresh_size I hJ) ⟨W, item, fun i h st => by obtain ⟨o, e, _⟩ := st; exact ⟨o, e⟩, fun i h o st e => by obtain ⟨o', e', hc, _⟩ := st; rw [e] at e'; cases e'; exact .inr (.inr (.inr hc)), fun i h h' o nw st e e' kp N _ => ?_⟩ ⟨_, hJ, rfl, rfl⟩ fun b hb => ?_
      · obtain ⟨o', q, r⟩ := st
        rw [e] at q; cases q
        exact ⟨o, e', r⟩
      · rw [Heap.size_push, List.mem_singleton.mp hb]; exact Nat.lt_succ_self _
end
end Mine

namespace Mine
open PySem PySem.W PySem.Calls PySem.Spec PyProof.Rows

section
variable {g : Gl} {n : Nat} {env : Env} {ρ : Rho} {σ σ₁ σ₂ σ₃ : Sig}

/-- the names that a comprehension's block sees of the frame around it -/
def FreeOk (env : Env) (scope : Scope) (cl : List (PySem.Str × Addr)) (ρ ρf : Rho) : Prop :=
  ∀ p ∈ ρf, ρ.lookup p.1 = some p.2 ∧ (∀ C, (compEnvC scope cl C env).kindOf p.1 = some .cell) ∧ env.kindOf p.1 = some .cell ∧ cl.lookup p.1 = env.cells.lookup p.1

theorem lookup_mem {x : PySem.Str} {d : D} : ∀ {ρ : Rho}, ρ.lookup x = some d → (x, d) ∈ ρ
  | [], h => by simp at h
  | (y, e) :: r, h => by
    rw [List.lookup_cons] at h
    by_cases q : x = y
    · subst q; simp at h; subst h; exact .head _
    · have : (x == y) = false := by simp [q]
      rw [this] at h
      exact .tail _ (lookup_mem h)

theorem mod_comp {hr : Heap} {L : Addr} {m : PySem.Str → Option Value} {X : Led} {as : List Addr} {Z : Led} {scope : Scope} {cl : List (PySem.Str × Addr)} {ρf : Rho} {x : PySem.Str} {di : D} {v : Value} {I C D' : Addr} {oI oC oD : Obj} {m₂ : PySem.Str → Option Value}
    (M : Mod env hr L m X as Z ρ) (hf : FreeOk env scope cl ρ ρf) (hkind : scope.kind = .function) (hx : scope.names.lookup x = some .local)
    (hC : LCg.NsObj oC m₂) (hm : m₂ x = some v) (rv : Rep hr as Z v di) :
    Mod (compEnvC scope cl C env) hr L m ((I, oI) :: (C, oC) :: (D', oD) :: X) as Z ((x, di) :: ρf) := by
  have hk : (compEnvC scope cl C env).scope.kind = .function := by simp [compEnvC, relabel, hkind]
  intro y d h
  rw [List.lookup_cons] at h
  by_cases q : y = x
  · subst q
    simp at h
    subst h
    exact ⟨v, .comp hk (lookup_relabel_local hx) (.tail _ (.head _)) hC hm, rv⟩
  · have : (y == x) = false := by simp [q]
    rw [this] at h
    obtain ⟨h1, h2, h3, h4⟩ := hf _ (lookup_mem h)
    obtain ⟨w, hl, hw⟩ := M y d h1
    refine ⟨w, ?_, hw⟩
    cases hl with
    | loc _ a _ _ => rw [h3] at a; cases a
    | comp _ a _ _ _ => rw [h3] at a; cases a
    | cell _ _ hc hx ho => exact .cell hk (h2 C) (h4.trans hc) (.tail _ (.tail _ (.tail _ hx))) ho

theorem nd3 {I C D' : Addr} {oI oC oD : Obj} {Y : Led} (hn : (Y.map (·.1)).Nodup) (off : LCg.Off3 I C D' Y) (ne : (@Ne Nat I C) ∧ (@Ne Nat I D') ∧ (@Ne Nat C D')) : (((I, oI) :: (C, oC) :: (D', oD) :: Y).map (·.1)).Nodup := by
  have m := off.mem
  simp only [List.map_cons, List.nodup_cons, List.mem_cons, not_or]
  refine ⟨⟨ne.1, ne.2.1, ?_⟩, ⟨ne.2.2, ?_⟩, ?_, hn⟩ <;> intro hm <;> obtain ⟨p, hp, e⟩ := List.mem_map.mp hm
  · exact (m p hp).1 e
  · exact (m p hp).2.1 e
  · exact (m p hp).2.2 e
theorem off3_of {I C D' : Addr} {oI oC oD : Obj} {Y : Led} (hn : (((I, oI) :: (C, oC) :: (D', oD) :: Y).map (·.1)).Nodup) : LCg.Off3 I C D' Y := by
  simp only [List.map_cons, List.nodup_cons, List.mem_cons, not_or] at hn
  refine LCg.Off3.of fun p hp => ⟨fun e => hn.1.2.2 ?_, fun e => hn.2.1.2 ?_, fun e => hn.2.2.1 ?_⟩ <;> exact List.mem_map.mpr ⟨p, hp, e⟩
theorem Lok.add3 {hr : Heap} {I C D' : Addr} {oI oC oD : Obj} {X O Z : Led} (l : Lok hr X O Z σ) (off : LCg.Off3 I C D' (X ++ (O ++ Z))) (ne : (@Ne Nat I C) ∧ (@Ne Nat I D') ∧ (@Ne Nat C D')) :
    Lok hr ((I, oI) :: (C, oC) :: (D', oD) :: X) O Z σ := ⟨nd3 l.nd off ne, l.on, l.ow⟩
theorem Lok.drop3 {hr : Heap} {I C D' : Addr} {oI oC oD : Obj} {X O Z : Led} (l : Lok hr ((I, oI) :: (C, oC) :: (D', oD) :: X) O Z σ) : Lok hr X O Z σ := by
  refine ⟨?_, l.on, l.ow⟩
  have := l.nd
  simp only [List.cons_append, List.map_cons, List.nodup_cons] at this
  exact this.2.2.2

def CFin (hr : Heap) (X O Z : Led) (σe : Sig) (es : List D) (ys : List Value) (news : Led) : Prop :=
  ∃ O' Z', news = X ++ (O' ++ Z') ∧ Lok hr X O' Z' σe ∧ Ext O O' Z Z' ∧ RepL hr (O'.map (·.1)) Z' ys es

theorem compRest_ind {A : Around} {hr : Heap} {outer : List Env} {ef : Env} {L : Addr} {h₀ : Heap} {m : PySem.Str → Option Value} {X O Z : Led} {s₂ : Shared} {elt : Expr} {x : PySem.Str} {scope : Scope} {cl : List (PySem.Str × Addr)} {ρf : Rho} {ds es : List D} {P : Nat → Value → Prop} {S : Nat → Sig}
    (C₀ : Cx g A hr outer ef L h₀ n) (M : Mod env hr L m X (O.map (·.1)) Z ρ) (hf : FreeOk env scope cl ρ ρf) (hkind : scope.kind = .function) (hx : scope.names.lookup x = some .local)
    (hP : ∀ i v d, P i v → ds[i]? = some d → Rep hr (O.map (·.1)) Z v d) (hl : es.length = ds.length)
    (helt : ∀ (i : Nat) di ei C, ds[i]? = some di → es[i]? = some ei → Ev g n (compEnvC scope cl C env) ((x, di) :: ρf) (S i) elt ei (S (i + 1))) :
    ∀ k i ys O' Z', i + k = ds.length → Lok hr X O' Z' (S i) → Ext O O' Z Z' → RepL hr (O'.map (·.1)) Z' ys (es.take i) →
      LCg.CompRest g.prog g.w A h₀ L m env elt x scope cl s₂ (fun nw => ∀ p ∈ Z, p ∈ nw) P (CFin hr X O Z (S ds.length) es) k i ys (X ++ (O' ++ Z')) := by
  intro k
  induction k with
  | zero =>
    intro i ys O' Z' hik l e r
    have hi : i = ds.length := by omega
    subst hi
    rw [← hl, List.take_length] at r
    exact LCg.CompRest.zero ⟨O', Z', rfl, l, e, r⟩
  | succ k ih =>
    intro i ys O' Z' hik l e r
    refine LCg.CompRest.succ fun v I oI C oC D' m₂ h tk E' hv hC hm F N off ne => ?_
    have hid : i < ds.length := by omega
    obtain ⟨di, hdi⟩ : ∃ di, ds[i]? = some di := ⟨ds[i], by simp [hid]⟩
    obtain ⟨ei, hei⟩ : ∃ ei, es[i]? = some ei := ⟨es[i]'(by omega), by simp⟩
    have rv := (hP i v di hv hdi).up e
    have M' := mod_comp (X := X) (I := I) (oI := oI) (D' := D') (oD := LCg.lst ys) (C := C) (M.up e) hf hkind hx hC hm rv
    have l' := l.add3 (oI := oI) (oC := oC) (oD := LCg.lst ys) off ne
    refine wpAny_noRaise (helt i di ei C hdi hei C₀ (l'.inv F N) M' fun y h' tk' O'' Z'' I'' x'' ry => ?_)
    refine ⟨h', tk', X ++ (O'' ++ Z''), rfl, I''.F, I''.N, off3_of I''.nd, fun p hp => List.mem_append_right _ (List.mem_append_right _ (x''.2 p (e.2 p hp))), ?_⟩
    refine ih (i + 1) _ O'' Z'' (by omega) I''.lok.drop3 (e.trans x'') ?_
    rw [List.take_add_one, hei]
    exact RepL.append (r.up x'') (RepL.cons ry RepL.nil)

theorem comp_core {A : Around} {hr : Heap} {outer : List Env} {ef : Env} {L : Addr} {h₀ : Heap} {m : PySem.Str → Option Value} {X O Z : Led} {s₂ : Shared} {elt iter : Expr} {x : PySem.Str} {px pos : Pos} {scope : Scope} {cl : List (PySem.Str × Addr)} {ρf : Rho} {ds es : List D} {S : Nat → Sig}
    {J : Addr} {oJ : Obj} {fp : List Addr} {P : Nat → Value → Prop} {St : Nat → Heap → Prop} {RR : Value → Addr → Result → Shared → Prop}
    (C₀ : Cx g A hr outer ef L h₀ n) (I : Inv h₀ hr L s₂.heap m X O Z (S 0)) (M : Mod env hr L m X (O.map (·.1)) Z ρ) (f : Fresh h₀ L s₂.heap X O Z J oJ) (it : IterOk g A h₀ hr L (O.map (·.1)) Z J fp P St ds) (st : St 0 s₂.heap) (hfp : ∀ b ∈ fp, b < s₂.heap.objs.size)
    (hlen : ds.length ≤ 2 ^ 20) (hf : FreeOk env scope cl ρ ρf) (hcell : ∀ y ∈ scope.names, y.2 ≠ .cell) (hkind : scope.kind = .function) (hx : scope.names.lookup x = some .local) (hl : es.length = ds.length)
    (helt : ∀ (i : Nat) di ei C, ds[i]? = some di → es[i]? = some ei → Ev g n (compEnvC scope cl C env) ((x, di) :: ρf) (S i) elt ei (S (i + 1)))
    (hRR : ∀ D' C h tk m' O' Z' ys, Inv h₀ hr L h m X O' Z' (S ds.length) → Fresh h₀ L h X O' Z' D' (W.listOf (List.toArray ys) ys.length) → Ext O O' Z Z' → RepL hr (O'.map (·.1)) Z' ys es →
      h.Ns C m' → h₀.get? C = none → C ≠ L → C ≠ D' → (∀ p ∈ X ++ (O' ++ Z'), p.1 ≠ C) → RR (.ref D') C (.ok .next) { s₂ with heap := h, toks := tk }) :
    wpAny (model g.prog g.w) A (newList []) (fun acc s₃ => wpAny (model g.prog g.w) A (newFunctionEnv scope env.globals cl [] env.qual none .none (some env)) (fun cenv s₄ =>
      codeAny (model g.prog g.w) A (.compStart (.ListComp elt [⟨.Name x px, iter, [], 0⟩] scope pos) 0 (.ref J) acc { cenv with scope := relabel scope env }) (RR acc cenv.locals) s₄) NE s₃) NE s₂ := by
  have off : ∀ p ∈ X ++ (O ++ Z), p.1 ≠ J := fun p hp e => f.nm (List.mem_map.mpr ⟨p, hp, e⟩)
  refine LCg.block_U it.walk (Nat.le_trans hlen (by rw [sizeLine_eq]; decide)) it.here it.still hcell hkind hx st hfp I.F I.N (Ne.symm f.nL) f.n0 off (fun p hp => List.mem_append_right _ (List.mem_append_right _ hp))
    (compRest_ind C₀ M hf hkind hx it.item hl helt ds.length 0 [] O Z (by omega) I.lok Ext.refl (by simpa using RepL.nil)) ?_
  rintro D' C h tk m' ys news' F' N' o1 hn hC₀ hD₀ hCL hDL hCD offC ⟨O', Z', rfl, l, e, r⟩
  refine hRR D' C h tk m' O' Z' ys (l.inv F' fun p hp => N' p (.tail _ hp)) ⟨(N' _ (.head _)).1, hDL, hD₀, fun hm => ?_⟩ e r hn hC₀ hCL hCD offC
  obtain ⟨p, hp, q⟩ := List.mem_map.mp hm
  have off1 : ∀ {l : Led}, LCg.Off1 D' l → ∀ p ∈ l, p.1 ≠ D' := by
    intro l
    induction l with
    | nil => intro _ p hp; cases hp
    | cons a r ih =>
      intro h p hp
      rcases List.mem_cons.mp hp with rfl | hp
      · exact h.1
      · exact ih h.2 p hp
  exact off1 o1 p hp q

theorem Inv.sameBut {h₀ hr : Heap} {L C : Addr} {h h' : Heap} {m : PySem.Str → Option Value} {X O Z : Led} (I : Inv h₀ hr L h m X O Z σ) (hs : Heap.SameBut C h h') (hC₀ : h₀.get? C = none) (hCL : C ≠ L) (off : ∀ p ∈ X ++ (O ++ Z), p.1 ≠ C) : Inv h₀ hr L h' m X O Z σ :=
  I.lok.inv (I.F.change hs hCL hC₀) fun p hp => ⟨hs.extBut _ _ (off p hp) (I.N p hp).1, (I.N p hp).2⟩
theorem Fresh.sameBut {h₀ : Heap} {L C a : Addr} {o : Obj} {h h' : Heap} {X O Z : Led} (f : Fresh h₀ L h X O Z a o) (hs : Heap.SameBut C h h') (hCa : C ≠ a) : Fresh h₀ L h' X O Z a o :=
  ⟨hs.extBut _ _ (Ne.symm hCa) f.at_, f.nL, f.n0, f.nm⟩

theorem EvF.compS {elt iter : Expr} {x : PySem.Str} {px pos : Pos} {scope : Scope} {cl : List (PySem.Str × Addr)} {ρf : Rho} {d : D} {ds es : List D} {S : Nat → Sig}
    (hit : Ev g n env ρ σ iter d (S 0)) (hi : itemsOf d = some ds) (hlen : ds.length ≤ 2 ^ 20) (hl : es.length = ds.length)
    (hclos : closureFor scope env = pure cl) (hcell : ∀ y ∈ scope.names, y.2 ≠ .cell) (hkind : scope.kind = .function)
    (hnames : ∀ y ∈ scope.names, y.2 = .local → scope.names.lookup y.1 = some .local) (hx : scope.names.lookup x = some .local) (hf : FreeOk env scope cl ρ ρf)
    (hs : ∀ x, foldedSetIterable iter env x = pure x)
    (helt : ∀ (i : Nat) di ei C, ds[i]? = some di → es[i]? = some ei → Ev g n (compEnvC scope cl C env) ((x, di) :: ρf) (S i) elt ei (S (i + 1))) :
    EvF g n env ρ σ (.ListComp elt [⟨.Name x px, iter, [], 0⟩] scope pos) es (S ds.length) := by
  intro A hr outer ef L h₀ m X O Z s Q C₀ I M k
  rw [eval_ListComp]
  refine wpAny_comprehension_free (use := none) rfl hs hclos hkind hnames (hit C₀ I M fun xv h₁ t₁ O₁ Z₁ I₁ x₁ rx => ?_)
  refine pyIter_D C₀ I₁ rx hi fun oJ fp P St h' I₂ f₂ it st hfp => ?_
  refine comp_core (s₂ := { s with heap := h', toks := t₁ }) C₀ I₂ (M.up x₁) f₂ it st hfp hlen hf hcell hkind hx hl helt fun D' C h tk m' O' Z' ys I₃ f₃ x₃ r₃ hn hC₀ hCL hCD offC => ?_
  exact ⟨m', hn, fun h'' hs'' => k D' ys _ h'' tk O' Z' (I₃.sameBut hs'' hC₀ hCL offC) (f₃.sameBut hs'' hCD) (x₁.trans x₃) r₃⟩

theorem EvF.comp {elt iter : Expr} {x : PySem.Str} {px pos : Pos} {scope : Scope} {cl : List (PySem.Str × Addr)} {ρf : Rho} {d : D} {ds es : List D}
    (hit : Ev g n env ρ σ iter d σ₁) (hi : itemsOf d = some ds) (hlen : ds.length ≤ 2 ^ 20) (hl : es.length = ds.length)
    (hclos : closureFor scope env = pure cl) (hcell : ∀ y ∈ scope.names, y.2 ≠ .cell) (hkind : scope.kind = .function)
    (hnames : ∀ y ∈ scope.names, y.2 = .local → scope.names.lookup y.1 = some .local) (hx : scope.names.lookup x = some .local) (hf : FreeOk env scope cl ρ ρf)
    (hs : ∀ x, foldedSetIterable iter env x = pure x)
    (helt : ∀ (i : Nat) di ei C, ds[i]? = some di → es[i]? = some ei → Ev g n (compEnvC scope cl C env) ((x, di) :: ρf) σ₁ elt ei σ₁) :
    EvF g n env ρ σ (.ListComp elt [⟨.Name x px, iter, [], 0⟩] scope pos) es σ₁ :=
  EvF.compS (S := fun _ => σ₁) hit hi hlen hl hclos hcell hkind hnames hx hf hs helt

/-! with a test -/
def pick (ks : List Bool) (es : List D) : List D := (ks.zip es).filterMap fun p => if p.1 = true then some p.2 else none

theorem compRestT_ind {A : Around} {hr : Heap} {outer : List Env} {ef : Env} {L : Addr} {h₀ : Heap} {m : PySem.Str → Option Value} {X O Z : Led} {s₂ : Shared} {ct elt : Expr} {x : PySem.Str} {scope : Scope} {cl : List (PySem.Str × Addr)} {ρf : Rho} {ds es : List D} {ks : List Bool} {P : Nat → Value → Prop}
    (C₀ : Cx g A hr outer ef L h₀ n) (M : Mod env hr L m X (O.map (·.1)) Z ρ) (hf : FreeOk env scope cl ρ ρf) (hkind : scope.kind = .function) (hx : scope.names.lookup x = some .local)
    (hP : ∀ i v d, P i v → ds[i]? = some d → Rep hr (O.map (·.1)) Z v d) (hl : es.length = ds.length) (hkl : ks.length = ds.length)
    (htest : ∀ (i : Nat) di ki C, ds[i]? = some di → ks[i]? = some ki → Tr g n (compEnvC scope cl C env) ((x, di) :: ρf) σ ct ki σ)
    (helt : ∀ (i : Nat) di ei C, ds[i]? = some di → ks[i]? = some true → es[i]? = some ei → Ev g n (compEnvC scope cl C env) ((x, di) :: ρf) σ elt ei σ) :
    ∀ k i ys O' Z', i + k = ds.length → Lok hr X O' Z' σ → Ext O O' Z Z' → RepL hr (O'.map (·.1)) Z' ys (pick (ks.take i) (es.take i)) →
      LCt.CompRestT g.prog g.w A h₀ L m env ct elt x scope cl s₂ (fun nw => ∀ p ∈ Z, p ∈ nw) P (CFin hr X O Z σ (pick ks es)) k i ys (X ++ (O' ++ Z')) := by
  intro k
  induction k with
  | zero =>
    intro i ys O' Z' hik l e r
    have hi : i = ds.length := by omega
    subst hi
    rw [← hl, List.take_length, hl, ← hkl, List.take_length] at r
    exact LCt.CompRestT.zero ⟨O', Z', rfl, l, e, r⟩
  | succ k ih =>
    intro i ys O' Z' hik l e r
    refine LCt.CompRestT.succ fun v I oI C oC D' m₂ h tk E' hv hC hm F N off ne => ?_
    have hid : i < ds.length := by omega
    obtain ⟨di, hdi⟩ : ∃ di, ds[i]? = some di := ⟨ds[i], by simp [hid]⟩
    obtain ⟨ei, hei⟩ : ∃ ei, es[i]? = some ei := ⟨es[i]'(by omega), by simp⟩
    obtain ⟨ki, hki⟩ : ∃ ki, ks[i]? = some ki := ⟨ks[i]'(by omega), by simp⟩
    have hpick : pick (ks.take (i + 1)) (es.take (i + 1)) = pick (ks.take i) (es.take i) ++ (if ki = true then [ei] else []) := by
      have l1 : (ks.take i).length = (es.take i).length := by simp [List.length_take]; omega
      unfold pick
      rw [List.take_add_one, List.take_add_one, hki, hei, Option.toList_some, Option.toList_some, List.zip_append l1, List.filterMap_append]
      congr 1
      cases ki <;> rfl
    have rv := (hP i v di hv hdi).up e
    have M' := mod_comp (X := X) (I := I) (oI := oI) (D' := D') (oD := LCg.lst ys) (C := C) (M.up e) hf hkind hx hC hm rv
    have l' := l.add3 (oI := oI) (oC := oC) (oD := LCg.lst ys) off ne
    refine wpAny_noRaise (htest i di ki C hdi hki C₀ (l'.inv F N) M' fun h₁ t₁ O₁ Z₁ I₁ x₁ => ?_)
    cases ki with
    | true =>
      simp only [if_true]
      refine wpAny_noRaise (helt i di ei C hdi hki hei C₀ I₁ (M'.up x₁) fun y h' tk' O'' Z'' I'' x'' ry => ?_)
      have x2 := x₁.trans x''
      refine ⟨h', tk', X ++ (O'' ++ Z''), rfl, I''.F, I''.N, off3_of I''.nd, fun p hp => List.mem_append_right _ (List.mem_append_right _ (x2.2 p (e.2 p hp))), ?_⟩
      refine ih (i + 1) _ O'' Z'' (by omega) I''.lok.drop3 (e.trans x2) ?_
      rw [hpick]
      exact RepL.append (r.up x2) (RepL.cons ry RepL.nil)
    | false =>
      simp only [Bool.false_eq_true, if_false]
      refine ⟨h₁, t₁, X ++ (O₁ ++ Z₁), rfl, I₁.F, I₁.N, off3_of I₁.nd, fun p hp => List.mem_append_right _ (List.mem_append_right _ (x₁.2 p (e.2 p hp))), ?_⟩
      refine ih (i + 1) _ O₁ Z₁ (by omega) I₁.lok.drop3 (e.trans x₁) ?_
      rw [hpick]
      simpa using r.up x₁

theorem EvF.compT {ct elt iter : Expr} {x : PySem.Str} {px pos : Pos} {scope : Scope} {cl : List (PySem.Str × Addr)} {ρf : Rho} {d : D} {ds es : List D} {ks : List Bool}
    (hit : Ev g n env ρ σ iter d σ₁) (hi : itemsOf d = some ds) (hlen : ds.length ≤ 2 ^ 20) (hl : es.length = ds.length) (hkl : ks.length = ds.length)
    (hclos : closureFor scope env = pure cl) (hcell : ∀ y ∈ scope.names, y.2 ≠ .cell) (hkind : scope.kind = .function)
    (hnames : ∀ y ∈ scope.names, y.2 = .local → scope.names.lookup y.1 = some .local) (hx : scope.names.lookup x = some .local) (hf : FreeOk env scope cl ρ ρf)
    (hs : ∀ x, foldedSetIterable iter env x = pure x)
    (htest : ∀ (i : Nat) di ki C, ds[i]? = some di → ks[i]? = some ki → Tr g n (compEnvC scope cl C env) ((x, di) :: ρf) σ₁ ct ki σ₁)
    (helt : ∀ (i : Nat) di ei C, ds[i]? = some di → ks[i]? = some true → es[i]? = some ei → Ev g n (compEnvC scope cl C env) ((x, di) :: ρf) σ₁ elt ei σ₁) :
    EvF g n env ρ σ (.ListComp elt [⟨.Name x px, iter, [ct], 0⟩] scope pos) (pick ks es) σ₁ := by
  intro A hr outer ef L h₀ m X O Z s Q C₀ I M k
  rw [eval_ListComp]
  refine wpAny_comprehension_free (use := none) rfl hs hclos hkind hnames (hit C₀ I M fun xv h₁ t₁ O₁ Z₁ I₁ x₁ rx => ?_)
  refine pyIter_D C₀ I₁ rx hi fun oJ fp P St h' I₂ f₂ it st hfp => ?_
  have off : ∀ p ∈ X ++ (O₁ ++ Z₁), p.1 ≠ s.heap.objs.size ∨ True := fun _ _ => .inr trivial
  refine LCt.block_T (s₂ := { s with heap := h', toks := t₁ }) it.walk (Nat.le_trans hlen (by rw [sizeLine_eq]; decide)) it.here it.still hcell hkind hx st hfp I₂.F I₂.N (Ne.symm f₂.nL) f₂.n0
    (fun p hp e => f₂.nm (List.mem_map.mpr ⟨p, hp, e⟩)) (fun p hp => List.mem_append_right _ (List.mem_append_right _ hp))
    (compRestT_ind C₀ (M.up x₁) hf hkind hx it.item hl hkl htest helt ds.length 0 [] O₁ Z₁ (by omega) I₂.lok Ext.refl (by simpa [pick] using RepL.nil)) ?_
  rintro D' C h tk m' ys news' F' N' o1 hn hC₀ hD₀ hCL hDL hCD offC ⟨O', Z', rfl, l, e, r⟩
  have off1 : ∀ {l : Led}, LCg.Off1 D' l → ∀ p ∈ l, p.1 ≠ D' := by
    intro l
    induction l with
    | nil => intro _ p hp; cases hp
    | cons a r ih =>
      intro h p hp
      rcases List.mem_cons.mp hp with rfl | hp
      · exact h.1
      · exact ih h.2 p hp
  have I₃ := l.inv F' fun p hp => N' p (.tail _ hp)
  have f₃ : Fresh h₀ L h X O' Z' D' (W.listOf (List.toArray ys) ys.length) := ⟨(N' _ (.head _)).1, hDL, hD₀, fun hm => by
    obtain ⟨p, hp, q⟩ := List.mem_map.mp hm
    exact off1 o1 p hp q⟩
  exact ⟨m', hn, fun h'' hs'' => k D' ys _ h'' tk O' Z' (I₃.sameBut hs'' hC₀ hCL offC) (f₃.sameBut hs'' hCD) (x₁.trans e) r⟩
end
end Mine

namespace Mine
open PySem PySem.W PySem.Calls PySem.Spec PyProof.Rows

section
variable {g : Gl} {n : Nat} {b : Nat} {env : Env} {ρ : Rho} {σ σ₁ σ₂ σ₃ : Sig} {R : Out → Prop}

/-- a name that may be stored -/
def Stb (env : Env) (x : PySem.Str) : Prop := env.scope.kind = .function ∧ (env.kindOf x = some .local ∨ (env.kindOf x = some .cell ∧ (env.cells.lookup x).isSome = true))

theorem lookup_snd {x : PySem.Str} {c : Addr} : ∀ {cl : List (PySem.Str × Addr)}, cl.lookup x = some c → c ∈ cl.map (·.2)
  | [], h => by simp at h
  | (y, a) :: r, h => by
    rw [List.lookup_cons] at h
    by_cases q : x = y
    · subst q; simp at h; subst h; simp
    · have : (x == y) = false := by simp [q]
      rw [this] at h
      have := lookup_snd h
      simp at this ⊢
      exact .inr this
theorem nodup_snd {x y : PySem.Str} {c : Addr} : ∀ {cl : List (PySem.Str × Addr)}, (cl.map (·.2)).Nodup → cl.lookup x = some c → cl.lookup y = some c → x = y
  | [], _, h, _ => by simp at h
  | (z, a) :: r, hn, hx, hy => by
    simp only [List.map_cons, List.nodup_cons] at hn
    rw [List.lookup_cons] at hx hy
    by_cases q : x = z
    · by_cases q' : y = z
      · exact q.trans q'.symm
      · have e1 : (x == z) = true := by simp [q]
        have e2 : (y == z) = false := by simp [q']
        rw [e1] at hx; rw [e2] at hy
        simp at hx
        subst hx
        exact absurd (lookup_snd hy) hn.1
    · have e1 : (x == z) = false := by simp [q]
      rw [e1] at hx
      by_cases q' : y = z
      · have e2 : (y == z) = true := by simp [q']
        rw [e2] at hy
        simp at hy
        subst hy
        exact absurd (lookup_snd hx) hn.1
      · have e2 : (y == z) = false := by simp [q']
        rw [e2] at hy
        exact nodup_snd hn.2 hx hy

/-- an object of the ledger is changed -/
theorem led_split {a : Addr} {o : Obj} {Y : Led} (hn : (Y.map (·.1)).Nodup) (hm : (a, o) ∈ Y) : ∃ pre post, Y = pre ++ (a, o) :: post ∧ (∀ p ∈ pre, p.1 ≠ a) ∧ ∀ p ∈ post, p.1 ≠ a := by
  obtain ⟨pre, post, rfl⟩ := List.append_of_mem hm
  simp only [List.map_append, List.map_cons] at hn
  obtain ⟨h1, h2, h3⟩ := List.nodup_append.mp hn
  refine ⟨pre, post, rfl, fun p hp e => ?_, fun p hp e => ?_⟩
  · exact h3 _ (List.mem_map_of_mem hp) a (by simp) e
  · simp only [List.nodup_cons] at h2
    exact h2.1 (e ▸ List.mem_map_of_mem hp)

theorem st_name {A : Around} {hr : Heap} {L : Addr} {h₀ : Heap} {m : PySem.Str → Option Value} {cs X O Z : Led} {s : Shared} {Q : Unit → Shared → Prop} {x : PySem.Str} {d : D} {v : Value} {M : Model}
    (hx : Stb env x) (S : Sx b env hr L h₀ s.heap m cs X O Z ρ σ) (r : Rep hr (O.map (·.1)) Z v d)
    (k : ∀ h' tk m' cs', Sx b env hr L h₀ h' m' cs' X O Z ((x, d) :: ρ) σ → Q () { s with heap := h', toks := tk }) :
    wpAny M A (storeName env x v) Q NE s := by
  obtain ⟨hk, hx | ⟨hx, hc⟩⟩ := hx
  · refine wpAny_storeName_local hx (by rw [S.loc]; exact S.I.F.ns) (fun h' hn hs => ?_) (by rw [hk]; rfl)
    rw [S.loc] at hn hs
    refine k h' _ _ cs ⟨S.loc, S.bo, S.I.lok.inv (S.I.F.set hn hs) (S.I.N.set hs), S.ca, S.ck, fun y e hy => ?_⟩
    rw [List.lookup_cons] at hy
    by_cases q : y = x
    · subst q
      simp at hy
      subst hy
      exact ⟨v, .loc hk hx S.loc (by simp), r⟩
    · have : (y == x) = false := by simp [q]
      rw [this] at hy
      obtain ⟨w, hl, hw⟩ := S.M y e hy
      refine ⟨w, ?_, hw⟩
      cases hl with
      | loc a1 a2 a3 a4 => exact .loc a1 a2 a3 (by simp [q, a4])
      | comp a1 a2 a3 a4 a5 => exact .comp a1 a2 a3 a4 a5
      | cell a1 a2 a3 a4 a5 => exact .cell a1 a2 a3 a4 a5
  · obtain ⟨c, hc⟩ := Option.isSome_iff_exists.mp hc
    have hm : c ∈ cs.map (·.1) := by rw [S.ca]; exact lookup_snd hc
    obtain ⟨p, hp, rfl⟩ := List.mem_map.mp hm
    obtain ⟨c, o⟩ := p
    obtain ⟨v₀, hv⟩ := S.ck _ hp
    have hin : (c, o) ∈ (cs ++ X) ++ (O ++ Z) := List.mem_append_left _ (List.mem_append_left _ hp)
    obtain ⟨e1, e2, e3⟩ := S.I.N _ hin
    have hcn : (cs.map (·.1)).Nodup := by
      have := S.I.nd
      simp only [List.map_append, List.append_assoc] at this
      exact (List.nodup_append.mp this).1
    obtain ⟨pre, post, rfl, h1, h2⟩ := led_split hcn hp
    refine wpAny_storeName_cell hk hx hc ⟨o, e1, hv⟩ fun h' hcell hs => ?_
    obtain ⟨o', ho', hd'⟩ := hcell
    have nda := S.I.nd
    have ca' : (pre ++ (c, o') :: post).map (·.1) = (pre ++ (c, o) :: post).map (·.1) := by simp
    have eL : ∀ q : Addr × Obj, (pre ++ q :: post) ++ X ++ (O ++ Z) = pre ++ q :: (post ++ (X ++ (O ++ Z))) := by intro q; simp
    have offp : ∀ p ∈ post ++ (X ++ (O ++ Z)), p.1 ≠ c := by
      rw [eL, List.map_append, List.map_cons] at nda
      have := (List.nodup_append.mp nda).2.1
      simp only [List.nodup_cons] at this
      intro p hp e
      exact this.1 (e ▸ List.mem_map_of_mem hp)
    have I' : Inv h₀ hr L h' m ((pre ++ (c, o') :: post) ++ X) O Z σ := by
      refine ⟨S.I.F.change hs e2 e3, ?_, ?_, S.I.on, S.I.ow⟩
      · rw [eL]
        exact (eL (c, o) ▸ S.I.N).setAt h1 offp hs ho'
      · have : (((pre ++ (c, o') :: post) ++ X ++ (O ++ Z)).map (·.1)) = (((pre ++ (c, o) :: post) ++ X ++ (O ++ Z)).map (·.1)) := by simp
        rw [this]; exact nda
    refine k h' s.toks m (pre ++ (c, o') :: post) ⟨S.loc, S.bo, I', ca'.trans S.ca, fun p hp => ?_, fun y e hy => ?_⟩
    · rcases List.mem_append.mp hp with hp | hp
      · exact S.ck p (List.mem_append_left _ hp)
      · rcases List.mem_cons.mp hp with rfl | hp
        · exact ⟨_, hd'⟩
        · exact S.ck p (List.mem_append_right _ (.tail _ hp))
    · rw [List.lookup_cons] at hy
      by_cases q : y = x
      · subst q
        simp at hy
        subst hy
        exact ⟨v, .cell hk hx hc (List.mem_append_left _ (List.mem_append_right _ (.head _))) hd', r⟩
      · have : (y == x) = false := by simp [q]
        rw [this] at hy
        obtain ⟨w, hl, hw⟩ := S.M y e hy
        refine ⟨w, ?_, hw⟩
        have move : ∀ {a : Addr} {ob : Obj}, a ≠ c → (a, ob) ∈ (pre ++ (c, o) :: post) ++ X → (a, ob) ∈ (pre ++ (c, o') :: post) ++ X := by
          intro a ob hne hm
          simp only [List.mem_append, List.mem_cons, Prod.mk.injEq] at hm ⊢
          rcases hm with (hm | ⟨e, _⟩ | hm) | hm
          · exact .inl (.inl hm)
          · exact absurd e hne
          · exact .inl (.inr (.inr hm))
          · exact .inr hm
        cases hl with
        | loc a1 a2 a3 a4 => exact .loc a1 a2 a3 a4
        | comp a1 a2 a3 a4 a5 =>
          exact .comp a1 a2 (move (fun e => e2 (by rw [← e]; exact S.loc)) a3) a4 a5
        | cell a1 a2 a3 a4 a5 =>
          refine .cell a1 a2 a3 (move (fun e => q ?_) a4) a5
          subst e
          exact nodup_snd (by rw [← S.ca]; exact hcn) a3 hc

theorem Sx.up {hr : Heap} {L : Addr} {h₀ h h' : Heap} {m : PySem.Str → Option Value} {cs X O Z O' Z' : Led} (S : Sx b env hr L h₀ h m cs X O Z ρ σ) (I' : Inv h₀ hr L h' m (cs ++ X) O' Z' σ₁) (x : Ext O O' Z Z') : Sx b env hr L h₀ h' m cs X O' Z' ρ σ₁ :=
  ⟨S.loc, (x.toB S.bo).len S.bo, I', S.ca, S.ck, S.M.up x⟩

/-! the rules -/
theorem Ex.nil (h : R (.next ρ σ)) : Ex g n b env ρ σ [] R := by
  intro A hr outer ef L h₀ m cs X O Z s Q C S kn kr
  exact wpAny_execs_nil (kn ρ σ s.heap s.toks m cs O Z h S ExtB.refl)

theorem Ex.sub {body : List Stmt} {ρ' : Rho} (hs : ∀ x d, ρ'.lookup x = some d → ρ.lookup x = some d) (h : Ex g n b env ρ' σ body R) : Ex g n b env ρ σ body R := by
  intro A hr outer ef L h₀ m cs X O Z s Q C S kn kr
  exact h C ⟨S.loc, S.bo, S.I, S.ca, S.ck, fun x d e => S.M x d (hs x d e)⟩ kn kr

theorem Ex.mono {body : List Stmt} {R' : Out → Prop} (hR : ∀ o, R' o → R o) (h : Ex g n b env ρ σ body R') : Ex g n b env ρ σ body R := by
  intro A hr outer ef L h₀ m cs X O Z s Q C S kn kr
  exact h C S (fun ρ' σ' h' tk m' cs' O' Z' q => kn ρ' σ' h' tk m' cs' O' Z' (hR _ q)) (fun d ρ' σ' h' tk v m' cs' O' Z' q => kr d ρ' σ' h' tk v m' cs' O' Z' (hR _ q))

/-- one statement, then the others -/
def Xs (g : Gl) (n b : Nat) (env : Env) (ρ : Rho) (σ : Sig) (st : Stmt) (R : Out → Prop) : Prop :=
  ∀ ⦃A : Around⦄ ⦃hr : Heap⦄ ⦃outer : List Env⦄ ⦃ef : Env⦄ ⦃L : Addr⦄ ⦃h₀ : Heap⦄ ⦃m : PySem.Str → Option Value⦄ ⦃cs X O Z : Led⦄ ⦃s : Shared⦄ ⦃Q : Flow → Shared → Prop⦄,
    Cx g A hr outer ef L h₀ n → Sx b env hr L h₀ s.heap m cs X O Z ρ σ →
    (∀ ρ' σ' h' tk m' cs' O' Z', R (.next ρ' σ') → Sx b env hr L h₀ h' m' cs' X O' Z' ρ' σ' → ExtB b O O' Z Z' → Q .next { s with heap := h', toks := tk }) →
    (∀ d ρ' σ' h' tk v m' cs' O' Z', R (.ret d σ') → Sx b env hr L h₀ h' m' cs' X O' Z' ρ' σ' → ExtB b O O' Z Z' → Rep hr (O'.map (·.1)) Z' v d → Q (.ret v) { s with heap := h', toks := tk }) →
    wpAny (model g.prog g.w) A (exec st env) Q NE s

theorem Ex.cons {st : Stmt} {rest : List Stmt} {R₁ : Out → Prop} (h : Xs g n b env ρ σ st R₁) (hn : ∀ ρ' σ', R₁ (.next ρ' σ') → Ex g n b env ρ' σ' rest R) (hret : ∀ d σ', R₁ (.ret d σ') → R (.ret d σ')) : Ex g n b env ρ σ (st :: rest) R := by
  intro A hr outer ef L h₀ m cs X O Z s Q C S kn kr
  refine wpAny_execs_cons (h C S (fun ρ' σ' h' tk m' cs' O' Z' q S' x => ?_) fun d ρ' σ' h' tk v m' cs' O' Z' q S' x r => ?_)
  · exact hn ρ' σ' q C S' (fun ρ₂ σ₂ h₂ tk₂ m₂ cs₂ O₂ Z₂ q₂ S₂ x₂ => kn ρ₂ σ₂ h₂ tk₂ m₂ cs₂ O₂ Z₂ q₂ S₂ (x.trans x₂))
      (fun d ρ₂ σ₂ h₂ tk₂ v m₂ cs₂ O₂ Z₂ q₂ S₂ x₂ r => kr d ρ₂ σ₂ h₂ tk₂ v m₂ cs₂ O₂ Z₂ q₂ S₂ (x.trans x₂) r)
  · exact kr d ρ' σ' h' tk v m' cs' O' Z' (hret d σ' q) S' x r

theorem Xs.assign {x : PySem.Str} {px pos : Pos} {e : Expr} {d : D} (hx : Stb env x) (h : Ev g n env ρ σ e d σ₁) (hs : swapsWith e (some (.Name x px)) pos.line env = pure false) :
    Xs g n b env ρ σ (.Assign [.Name x px] e pos) (fun o => o = .next ((x, d) :: ρ) σ₁) := by
  intro A hr outer ef L h₀ m cs X O Z s Q C S kn kr
  refine wpAny_Assign_Name (h C S.I S.M fun v h₁ t₁ O₁ Z₁ I₁ x₁ rv => ?_) hs
  refine st_name hx (s := { s with heap := h₁, toks := t₁ }) (S.up I₁ x₁) rv fun h' tk m' cs' S' => ?_
  exact kn _ _ h' tk m' cs' O₁ Z₁ rfl S' (x₁.toB S.bo)
theorem Ex.assign {x : PySem.Str} {px pos : Pos} {e : Expr} {d : D} {rest : List Stmt} (hx : Stb env x) (h : Ev g n env ρ σ e d σ₁) (hs : swapsWith e (some (.Name x px)) pos.line env = pure false)
    (hr : Ex g n b env ((x, d) :: ρ) σ₁ rest R) : Ex g n b env ρ σ (.Assign [.Name x px] e pos :: rest) R :=
  Ex.cons (Xs.assign hx h hs) (fun ρ' σ' q => by cases q; exact hr) (fun d σ' q => by cases q)

theorem Ex.aug {x : PySem.Str} {px pos : Pos} {op : Operator} {e : Expr} {d₀ d₁ d : D} {rest : List Stmt} (hx : Stb env x) (hl : ρ.lookup x = some d₀) (h : Ev g n env ρ σ e d₁ σ₁) (ho : Op2 g n (inplaceOp op) σ₁ d₀ d₁ d)
    (hr : Ex g n b env ((x, d) :: ρ) σ₁ rest R) : Ex g n b env ρ σ (.AugAssign (.Name x px) op e pos :: rest) R := by
  refine Ex.cons (R₁ := fun o => o = .next ((x, d) :: ρ) σ₁) ?_ (fun ρ' σ' q => by cases q; exact hr) (fun d σ' q => by cases q)
  intro A hr outer ef L h₀ m cs X O Z s Q C S kn kr
  obtain ⟨v, hlv, hv⟩ := S.M x d₀ hl
  refine wpAny_AugAssign_Name (loc_load hlv S.I.F S.I.N ?_)
  refine h C S.I S.M fun v' h₁ t₁ O₁ Z₁ I₁ x₁ rv => ?_
  refine ho v v' C I₁ (hv.up x₁) rv fun v₂ h₂ t₂ O₂ Z₂ I₂ x₂ rv₂ => ?_
  refine st_name hx (s := { s with heap := h₂, toks := t₂ }) (S.up I₂ (x₁.trans x₂)) rv₂ fun h' tk m' cs' S' => ?_
  exact kn _ _ h' tk m' cs' O₂ Z₂ rfl S' ((x₁.trans x₂).toB S.bo)

theorem Ex.ret {e : Expr} {pos : Pos} {d : D} {rest : List Stmt} (h : Ev g n env ρ σ e d σ₁) (hR : R (.ret d σ₁)) : Ex g n b env ρ σ (.Return (some e) pos :: rest) R := by
  refine Ex.cons (R₁ := fun o => o = .ret d σ₁) ?_ (fun ρ' σ' q => by cases q) (fun d σ' q => by cases q; exact hR)
  intro A hr outer ef L h₀ m cs X O Z s Q C S kn kr
  refine wpAny_Return_some (h C S.I S.M fun v h₁ t₁ O₁ Z₁ I₁ x₁ rv => ?_)
  exact kr d ρ _ h₁ t₁ v m cs O₁ Z₁ rfl (S.up I₁ x₁) (x₁.toB S.bo) rv

theorem Ex.ite {test : Expr} {body orelse rest : List Stmt} {pos : Pos} {c : Bool} {R₁ : Out → Prop} (ht : Tr g n env ρ σ test c σ₁) (h1 : c = true → Ex g n b env ρ σ₁ body R₁) (h2 : c = false → Ex g n b env ρ σ₁ orelse R₁)
    (hn : ∀ ρ' σ', R₁ (.next ρ' σ') → Ex g n b env ρ' σ' rest R) (hret : ∀ d σ', R₁ (.ret d σ') → R (.ret d σ')) : Ex g n b env ρ σ (.If test body orelse pos :: rest) R := by
  refine Ex.cons (R₁ := R₁) ?_ hn hret
  intro A hr outer ef L h₀ m cs X O Z s Q C S kn kr
  refine wpAny_If (ht C S.I S.M fun h₁ t₁ O₁ Z₁ I₁ x₁ => ?_)
  have S₁ := S.up I₁ x₁
  have xb := x₁.toB S.bo
  have kn' : ∀ ρ' σ' h' tk m' cs' O' Z', R₁ (.next ρ' σ') → Sx b env hr L h₀ h' m' cs' X O' Z' ρ' σ' → ExtB b O₁ O' Z₁ Z' → Q .next { s with heap := h', toks := tk } :=
    fun ρ₂ σ₂ h₂ tk₂ m₂ cs₂ O₂ Z₂ q₂ S₂ x₂ => kn ρ₂ σ₂ h₂ tk₂ m₂ cs₂ O₂ Z₂ q₂ S₂ (xb.trans x₂)
  have kr' : ∀ d ρ' σ' h' tk v m' cs' O' Z', R₁ (.ret d σ') → Sx b env hr L h₀ h' m' cs' X O' Z' ρ' σ' → ExtB b O₁ O' Z₁ Z' → Rep hr (O'.map (·.1)) Z' v d → Q (.ret v) { s with heap := h', toks := tk } :=
    fun d ρ₂ σ₂ h₂ tk₂ v m₂ cs₂ O₂ Z₂ q₂ S₂ x₂ r => kr d ρ₂ σ₂ h₂ tk₂ v m₂ cs₂ O₂ Z₂ q₂ S₂ (xb.trans x₂) r
  cases c with
  | true => simp only [if_true]; exact h1 rfl C S₁ kn' kr'
  | false => simp only [Bool.false_eq_true, if_false]; exact h2 rfl C S₁ kn' kr'
/-- an if whose test is refuted -/
theorem Ex.if_no {test : Expr} {body rest : List Stmt} {pos : Pos} (ht : Tr g n env ρ σ test false σ₁) (h : Ex g n b env ρ σ₁ rest R) : Ex g n b env ρ σ (.If test body [] pos :: rest) R :=
  Ex.ite (R₁ := fun o => o = .next ρ σ₁) ht (fun e => by cases e) (fun _ => Ex.nil (R := fun o => o = .next ρ σ₁) rfl) (fun ρ' σ' q => by cases q; exact h) (fun d σ' q => by cases q)

/-- an owned list is changed -/
theorem Inv.setO {h₀ hr : Heap} {L : Addr} {h h' : Heap} {m : PySem.Str → Option Value} {X O Z : Led} {k : Nat} {a : Addr} {o : Obj} {us : List Value} {c : Nat} {ds : List D}
    (I : Inv h₀ hr L h m X O Z σ) (hk : O[k]? = some (a, o)) (hs : Heap.SameBut a h h') (ho : h'.get? a = some (W.listOf (List.toArray us) c)) (hr' : RepL hr (O.map (·.1)) Z us ds) :
    Inv h₀ hr L h' m X (O.set k (a, W.listOf (List.toArray us) c)) Z (σ.set k ds) ∧ (O.set k (a, W.listOf (List.toArray us) c)).map (·.1) = O.map (·.1) := by
  obtain ⟨hkl, hke⟩ := List.getElem?_eq_some_iff.mp hk
  have hmem : (a, o) ∈ O := List.mem_of_getElem? hk
  have hin : (a, o) ∈ X ++ (O ++ Z) := List.mem_append_right _ (List.mem_append_left _ hmem)
  obtain ⟨e1, e2, e3⟩ := I.N _ hin
  have hmap : (O.set k (a, W.listOf (List.toArray us) c)).map (·.1) = O.map (·.1) := by
    rw [List.map_set]
    show (O.map (·.1)).set k a = O.map (·.1)
    have : (O.map (·.1))[k]'(by simpa using hkl) = a := by simp [hke]
    calc (O.map (·.1)).set k a = (O.map (·.1)).set k ((O.map (·.1))[k]'(by simpa using hkl)) := by rw [this]
      _ = _ := List.set_getElem_self _
  refine ⟨⟨I.F.change hs e2 e3, ?_, ?_, by simp [I.on], fun j p ds' hp hd => ?_⟩, hmap⟩
  · have hO : O = O.take k ++ (a, o) :: O.drop (k + 1) := by
      rw [← hke]; simp
    have hO' : O.set k (a, W.listOf (List.toArray us) c) = O.take k ++ (a, W.listOf (List.toArray us) c) :: O.drop (k + 1) := List.set_eq_take_append_cons_drop .. |>.trans (by simp [hkl])
    have eL : ∀ q : Addr × Obj, X ++ ((O.take k ++ q :: O.drop (k + 1)) ++ Z) = (X ++ O.take k) ++ q :: (O.drop (k + 1) ++ Z) := by intro q; simp
    have nd := I.nd
    have N := I.N
    rw [hO, eL] at nd N
    rw [List.map_append, List.map_cons] at nd
    obtain ⟨n1, n2, n3⟩ := List.nodup_append.mp nd
    rw [hO', eL]
    refine N.setAt (fun p hp e => n3 _ (List.mem_map_of_mem hp) a (by simp) e) (fun p hp e => ?_) hs ho
    simp only [List.nodup_cons] at n2
    exact n2.1 (e ▸ List.mem_map_of_mem hp)
  · have : (X ++ (O.set k (a, W.listOf (List.toArray us) c) ++ Z)).map (·.1) = (X ++ (O ++ Z)).map (·.1) := by
      simp only [List.map_append]; rw [hmap]
    rw [this]; exact I.nd
  · rw [hmap]
    by_cases hj : j = k
    · subst hj
      rw [List.getElem?_set_self hkl] at hp
      rw [List.getElem?_set_self (I.on ▸ hkl)] at hd
      cases hp; cases hd
      exact ⟨us, c, rfl, hr'⟩
    · rw [List.getElem?_set_ne (Ne.symm hj)] at hp hd
      exact I.ow j p ds' hp hd

/-- x.append(e) -/
theorem Ex.append {x : PySem.Str} {p1 p2 p3 p4 : Pos} {e : Expr} {k : Nat} {ds : List D} {d : D} {rest : List Stmt} (hx : ρ.lookup x = some (.own k)) (hdb : (x == ("__debug__" : PySem.Str)) = false)
    (h : Ev g n env ρ σ e d σ₁) (hd : σ₁[k]? = some ds) (hz : ds.length ≤ 2 ^ 20)
    (hst : starEach [e] env = (false, eval e env) :: starEach [] env) (hi : interactive env = false)
    (hsw : swapsWith (.Call (.Attribute (.Name x p1) "append" p2) [e] [] p3) none p4.line env = pure false)
    (pl : Sem Bool) (hpl : eval (.Call (.Attribute (.Name x p1) "append" p2) [e] [] p3) env = (do
      let ov ← eval (.Name x p1) env
      standAt p2.atName
      let (f, first) ← holding [ov] (getMethod ov "append" pl)
      callWith p3 f first (backTo p3 (starEach [e] env)) []))
    (hr : Ex g n b env ρ (σ₁.set k (ds ++ [d])) rest R) : Ex g n b env ρ σ (.Expr (.Call (.Attribute (.Name x p1) "append" p2) [e] [] p3) p4 :: rest) R := by
  refine Ex.cons (R₁ := fun o => o = .next ρ (σ₁.set k (ds ++ [d]))) ?_ (fun ρ' σ' q => by cases q; exact hr) (fun d σ' q => by cases q)
  intro A hr outer ef L h₀ m cs X O Z s Q C S kn kr
  refine wpAny_Expr ?_ hi hsw
  refine MethodCall_ (pl := pl) ?_ hpl
  obtain ⟨v, hlv, hv⟩ := S.M x _ hx
  refine wpAny_Name (loc_load hlv S.I.F S.I.N ?_) hdb
  cases hv with
  | own ha =>
    rename_i a
    rw [List.getElem?_map] at ha
    cases hO : O[k]? with
    | none => rw [hO] at ha; cases ha
    | some p =>
      rw [hO] at ha
      obtain ⟨a', o⟩ := p
      have : a' = a := by simpa using ha
      subst this
      have hin : (a', o) ∈ (cs ++ X) ++ (O ++ Z) := List.mem_append_right _ (List.mem_append_left _ (List.mem_of_getElem? hO))
      have hkσ : k < σ.length := by
        rw [← S.I.on]; exact (List.getElem?_eq_some_iff.mp hO).1
      obtain ⟨vs₀, c₀, e₀, _⟩ := S.I.ow k _ (σ[k]) hO (by simp)
      have e₀' : o = W.listOf (List.toArray vs₀) c₀ := e₀
      subst e₀'
      refine getMethod_append_N S.I.N hin ?_
      show wpAny _ _ (callWith p3 (.builtin "list.append") [.ref a'] (backTo p3 (starEach [e] env)) []) _ _ _
      refine callWith_builtin (by rw [hst]; rfl) ?_
      rw [hst]
      refine evalArgs_plain ?_
      show wpAny _ _ (spliced (backTo p3 ((false, eval e env) :: starEach [] env))) _ _ _
      rw [← hst]
      refine spliced_more (h C S.I S.M fun w h₁ t₁ O₁ Z₁ I₁ x₁ rw' => spliced_none ?_) hst
      have hO₁ : (O₁.map (·.1))[k]? = some a' := x₁.as k a' (by rw [List.getElem?_map, hO]; rfl)
      obtain ⟨us, c, hk₁, hg, ru⟩ := I₁.owned hO₁ hd
      show wpAny _ _ (call (.builtin "list.append") [.ref a', w]) _ _ _
      refine append_at hg (fun h' hs' ho' => ?_) (hsz := by rw [List.size_toArray, ru.1]; exact Nat.le_trans hz (by rw [sizeLine_eq]; decide))
      have ho'' : h'.get? a' = some (W.listOf (List.toArray (us ++ [w])) (c + 1)) := by rw [ho']; simp [W.listOf]
      obtain ⟨I₂, hmap⟩ := I₁.setO hk₁ hs' ho'' (RepL.append ru (RepL.cons rw' RepL.nil))
      refine kn _ _ h' t₁ m cs (O₁.set k (a', W.listOf (List.toArray (us ++ [w])) (c + 1))) Z₁ rfl ⟨S.loc, ?_, I₂, S.ca, S.ck, ?_⟩ ?_
      · have := (x₁.toB S.bo).len S.bo
        simpa using this
      · rw [hmap]; exact S.M.up x₁
      · have := x₁.toB S.bo
        exact ⟨by rw [hmap]; exact this.1, this.2⟩
end
end Mine

namespace Mine
open PySem PySem.W PySem.Calls PySem.Spec PyProof.Rows

section
variable {g : Gl} {n : Nat} {b : Nat} {env : Env} {ρ : Rho} {σ σ₁ σ₂ σ₃ : Sig} {R : Out → Prop}

/-- the last owned list is owned no more -/
theorem Ex.freeze {body : List Stmt} {ds : List D} {ρ' : Rho} (hb : b ≤ σ.length)
    (hρ : ∀ p ∈ ρ', (ρ.lookup p.1 = some (.own σ.length) ∧ p.2 = .list ds) ∨ (ρ.lookup p.1 = some p.2 ∧ Low σ.length p.2))
    (hds : ∀ d ∈ ds, Low σ.length d) (hσ : ∀ l ∈ σ, ∀ d ∈ l, Low σ.length d)
    (h : Ex g n b env ρ' σ body R) : Ex g n b env ρ (σ ++ [ds]) body R := by
  intro A hr outer ef L h₀ m cs X O Z s Q C S kn kr
  have hlen : O.length = σ.length + 1 := by rw [S.I.on]; simp
  obtain ⟨O₀, q, rfl⟩ : ∃ O₀ q, O = O₀ ++ [q] := by
    rcases List.eq_nil_or_concat O with e | ⟨O₀, q, e⟩
    · subst e; simp at hlen
    · exact ⟨O₀, q, by simpa using e⟩
  have hl₀ : O₀.length = σ.length := by simpa using hlen
  have low : ∀ (j : Nat) (a : Addr), j < σ.length → ((O₀ ++ [q]).map (·.1))[j]? = some a → (O₀.map (·.1))[j]? = some a := by
    intro j a hj ha
    rw [List.map_append, List.getElem?_append_left (by simpa [hl₀] using hj)] at ha
    exact ha
  have eL : (cs ++ X) ++ ((O₀ ++ [q]) ++ Z) = (cs ++ X) ++ (O₀ ++ (q :: Z)) := by simp
  obtain ⟨vs, c, eq, rq⟩ := S.I.ow O₀.length q ds (by simp) (by rw [hl₀]; simp)
  have I' : Inv h₀ hr L s.heap m (cs ++ X) O₀ (q :: Z) σ := by
    refine ⟨S.I.F, by rw [← eL]; exact S.I.N, by rw [← eL]; exact S.I.nd, hl₀, fun k p ds' hp hd => ?_⟩
    have hk : k < O₀.length := (List.getElem?_eq_some_iff.mp hp).1
    obtain ⟨vs', c', e', r'⟩ := S.I.ow k p ds' (by rw [List.getElem?_append_left hk]; exact hp) (by rw [List.getElem?_append_left (hl₀ ▸ hk)]; exact hd)
    refine ⟨vs', c', e', (r'.low low (hσ ds' (List.mem_of_getElem? hd))).ext (fun _ _ h => h) fun p hp => .tail _ hp⟩
  have rds : RepL hr (O₀.map (·.1)) (q :: Z) vs ds := (rq.low low hds).ext (fun _ _ h => h) fun p hp => .tail _ hp
  have S' : Sx b env hr L h₀ s.heap m cs X O₀ (q :: Z) ρ' σ := by
    refine ⟨S.loc, by rw [hl₀]; exact hb, I', S.ca, S.ck, fun x d hx => ?_⟩
    rcases hρ _ (lookup_mem hx) with ⟨h1, h2⟩ | ⟨h1, h2⟩
    · obtain ⟨v, hl, hv⟩ := S.M x _ h1
      refine ⟨v, hl, ?_⟩
      have h2' : d = .list ds := h2
      subst h2'
      cases hv with
      | own ha =>
        rw [List.map_append, List.getElem?_append_right (by simp [hl₀])] at ha
        simp [hl₀] at ha
        subst ha
        obtain ⟨qa, qo⟩ := q
        have : qo = W.listOf (List.toArray vs) c := eq
        subst this
        exact RepL.toList (.inr ⟨c, .head _⟩) rds
    · obtain ⟨v, hl, hv⟩ := S.M x _ h1
      exact ⟨v, hl, (hv.low low h2).ext (fun _ _ h => h) fun p hp => .tail _ hp⟩
  have xb : ExtB b (O₀ ++ [q]) O₀ Z (q :: Z) := ⟨by rw [List.map_append, List.take_append_of_le_length (by simp [hl₀]; exact hb)], fun p hp => .tail _ hp⟩
  exact h C S' (fun ρ₂ σ₂ h₂ tk₂ m₂ cs₂ O₂ Z₂ q₂ S₂ x₂ => kn ρ₂ σ₂ h₂ tk₂ m₂ cs₂ O₂ Z₂ q₂ S₂ (xb.trans x₂))
    (fun d ρ₂ σ₂ h₂ tk₂ v m₂ cs₂ O₂ Z₂ q₂ S₂ x₂ r => kr d ρ₂ σ₂ h₂ tk₂ v m₂ cs₂ O₂ Z₂ q₂ S₂ (xb.trans x₂) r)

/-! while -/
theorem Ex.while {test : Expr} {body rest : List Stmt} {pos : Pos} (J : Nat → Rho → Sig → Prop) (k₀ : Nat) (h0 : J k₀ ρ σ)
    (step : ∀ k ρ' σ', J k ρ' σ' → ∃ c, Tr g n env ρ' σ' test c σ' ∧
      (c = true → Ex g n b env ρ' σ' body (fun o => match o with | .next ρ'' σ'' => ∃ k', k' < k ∧ J k' ρ'' σ'' | .ret d σ'' => R (.ret d σ''))) ∧
      (c = false → Ex g n b env ρ' σ' rest R)) : Ex g n b env ρ σ (.While test body [] pos :: rest) R := by
  refine Ex.cons (R₁ := fun o => match o with | .next ρ' σ' => Ex g n b env ρ' σ' rest R | .ret d σ' => R (.ret d σ')) ?_ (fun ρ' σ' q => q) (fun d σ' q => q)
  intro A hr outer ef L h₀ m cs X O Z s Q C S kn kr
  refine wpAny_While ?_
  refine codeAny_whileLoop (fun k s' => ∃ ρ' σ' h' tk m' cs' O' Z', s' = { s with heap := h', toks := tk } ∧ J k ρ' σ' ∧ Sx b env hr L h₀ h' m' cs' X O' Z' ρ' σ' ∧ ExtB b O O' Z Z') ?_ k₀
    ⟨ρ, σ, s.heap, s.toks, m, cs, O, Z, rfl, h0, S, ExtB.refl⟩
  rintro k s' ⟨ρ', σ', h', tk, m', cs', O', Z', rfl, hJ, S', x'⟩
  obtain ⟨c, ht, h1, h2⟩ := step k ρ' σ' hJ
  refine wpAny_noRaise (ht C S'.I S'.M fun h₁ t₁ O₁ Z₁ I₁ x₁ => ?_)
  have S₁ := S'.up I₁ x₁
  have xb := x'.trans (x₁.toB S'.bo)
  cases c with
  | true =>
    simp only [if_true]
    refine wpAny_noRaise (h1 rfl C S₁ (fun ρ₂ σ₂ h₂ tk₂ m₂ cs₂ O₂ Z₂ q₂ S₂ x₂ => ?_) fun d ρ₂ σ₂ h₂ tk₂ v m₂ cs₂ O₂ Z₂ q₂ S₂ x₂ r => ?_)
    · obtain ⟨k', hk, hJ'⟩ := q₂
      exact ⟨k', hk, ρ₂, σ₂, h₂, tk₂, m₂, cs₂, O₂, Z₂, rfl, hJ', S₂, xb.trans x₂⟩
    · exact kr d ρ₂ σ₂ h₂ tk₂ v m₂ cs₂ O₂ Z₂ q₂ S₂ (xb.trans x₂) r
  | false =>
    simp only [Bool.false_eq_true, if_false]
    refine wpAny_execs_nil ?_
    exact kn ρ' σ' h₁ t₁ m' cs' O₁ Z₁ (h2 rfl) S₁ xb

/-! for -/
/-- a target is given its value -/
def As (g : Gl) (n b : Nat) (env : Env) (ρ : Rho) (target : Expr) (d : D) (ρ' : Rho) : Prop :=
  ∀ ⦃A : Around⦄ ⦃hr : Heap⦄ ⦃outer : List Env⦄ ⦃ef : Env⦄ ⦃L : Addr⦄ ⦃h₀ : Heap⦄ ⦃m : PySem.Str → Option Value⦄ ⦃cs X O Z : Led⦄ ⦃s : Shared⦄ ⦃Q : Unit → Shared → Prop⦄ ⦃v : Value⦄ ⦃σ : Sig⦄,
    Cx g A hr outer ef L h₀ n → Sx b env hr L h₀ s.heap m cs X O Z ρ σ → Rep hr (O.map (·.1)) Z v d →
    (∀ h' tk m' cs', Sx b env hr L h₀ h' m' cs' X O Z ρ' σ → Q () { s with heap := h', toks := tk }) →
    wpAny (model g.prog g.w) A (assign target env v) Q NE s
theorem As.name {x : PySem.Str} {px : Pos} {d : D} (hx : Stb env x) : As g n b env ρ (.Name x px) d ((x, d) :: ρ) := by
  intro A hr outer ef L h₀ m cs X O Z s Q v σ C S r k
  exact wpAny_assign_Name (st_name hx S r k)

theorem Sx.addX {hr : Heap} {L : Addr} {h₀ h : Heap} {m : PySem.Str → Option Value} {cs X O Z : Led} {J : Addr} {oJ : Obj} (S : Sx b env hr L h₀ h m cs X O Z ρ σ) (f : Fresh h₀ L h (cs ++ X) O Z J oJ) : Sx b env hr L h₀ h m cs ((J, oJ) :: X) O Z ρ σ := by
  have pm : ((cs ++ (J, oJ) :: X) ++ (O ++ Z)).Perm ((J, oJ) :: ((cs ++ X) ++ (O ++ Z))) := by
    have : (cs ++ (J, oJ) :: X) ++ (O ++ Z) = cs ++ (J, oJ) :: (X ++ (O ++ Z)) := by simp
    rw [this]
    have e2 : (cs ++ X) ++ (O ++ Z) = cs ++ (X ++ (O ++ Z)) := by simp
    rw [e2]
    exact List.perm_middle
  refine ⟨S.loc, S.bo, ⟨S.I.F, fun p hp => ?_, ?_, S.I.on, S.I.ow⟩, S.ca, S.ck, fun y d hy => ?_⟩
  · rcases List.mem_cons.mp (pm.mem_iff.mp hp) with rfl | hp
    · exact ⟨f.at_, f.nL, f.n0⟩
    · exact S.I.N p hp
  · rw [(pm.map _).nodup_iff]
    exact List.nodup_cons.mpr ⟨f.nm, S.I.nd⟩
  · obtain ⟨v, hl, hv⟩ := S.M y d hy
    refine ⟨v, ?_, hv⟩
    have up : ∀ {p : Addr × Obj}, p ∈ cs ++ X → p ∈ cs ++ (J, oJ) :: X := fun hp => by
      rcases List.mem_append.mp hp with hp | hp
      · exact List.mem_append_left _ hp
      · exact List.mem_append_right _ (.tail _ hp)
    cases hl with
    | loc a1 a2 a3 a4 => exact .loc a1 a2 a3 a4
    | comp a1 a2 a3 a4 a5 => exact .comp a1 a2 (up a3) a4 a5
    | cell a1 a2 a3 a4 a5 => exact .cell a1 a2 a3 (up a4) a5
theorem Sx.split {hr : Heap} {L : Addr} {h₀ h : Heap} {m : PySem.Str → Option Value} {cs X O Z : Led} {J : Addr} {oJ : Obj} (S : Sx b env hr L h₀ h m cs ((J, oJ) :: X) O Z ρ σ) :
    h.get? J = some oJ ∧ J ≠ L ∧ h₀.get? J = none ∧ ∀ p ∈ (cs ++ X) ++ (O ++ Z), p.1 ≠ J := by
  have hin : (J, oJ) ∈ (cs ++ (J, oJ) :: X) ++ (O ++ Z) := List.mem_append_left _ (List.mem_append_right _ (.head _))
  obtain ⟨e1, e2, e3⟩ := S.I.N _ hin
  refine ⟨e1, e2, e3, fun p hp e => ?_⟩
  have nd := S.I.nd
  have eq : (cs ++ (J, oJ) :: X) ++ (O ++ Z) = cs ++ (J, oJ) :: (X ++ (O ++ Z)) := by simp
  have pm : ((cs ++ (J, oJ) :: X) ++ (O ++ Z)).Perm ((J, oJ) :: ((cs ++ X) ++ (O ++ Z))) := by
    rw [eq, List.append_assoc]; exact List.perm_middle
  rw [(pm.map _).nodup_iff] at nd
  exact (List.nodup_cons.mp nd).1 (List.mem_map.mpr ⟨p, hp, e⟩)
theorem Sx.chgX {hr : Heap} {L : Addr} {h₀ h h' : Heap} {m : PySem.Str → Option Value} {cs X O Z : Led} {J : Addr} {oJ oJ' : Obj} (S : Sx b env hr L h₀ h m cs ((J, oJ) :: X) O Z ρ σ)
    (hk : ∀ b o, b ∉ [J] → h.get? b = some o → h'.get? b = some o) (hJ : h'.get? J = some oJ') : Sx b env hr L h₀ h' m cs ((J, oJ') :: X) O Z ρ σ := by
  obtain ⟨e1, e2, e3, e4⟩ := S.split
  have memJ : ∀ {p : Addr × Obj} {o : Obj}, p ∈ (cs ++ (J, o) :: X) ++ (O ++ Z) → p = (J, o) ∨ p ∈ (cs ++ X) ++ (O ++ Z) := by
    intro p o hp
    simp only [List.mem_append, List.mem_cons] at hp ⊢
    rcases hp with (hp | rfl | hp) | hp
    · exact .inr (.inl (.inl hp))
    · exact .inl rfl
    · exact .inr (.inl (.inr hp))
    · exact .inr (.inr hp)
  have memU : ∀ {p : Addr × Obj} {o : Obj}, p ∈ (cs ++ X) ++ (O ++ Z) → p ∈ (cs ++ (J, o) :: X) ++ (O ++ Z) := by
    intro p o hp
    simp only [List.mem_append, List.mem_cons] at hp ⊢
    rcases hp with (hp | hp) | hp
    · exact .inl (.inl hp)
    · exact .inl (.inr (.inr hp))
    · exact .inr hp
  refine ⟨S.loc, S.bo, ⟨LCg.fr_but S.I.F hk (Ne.symm e2) e3, fun p hp => ?_, ?_, S.I.on, S.I.ow⟩, S.ca, S.ck, fun y d hy => ?_⟩
  · rcases memJ hp with rfl | hp
    · exact ⟨hJ, e2, e3⟩
    · have z := S.I.N p (memU hp)
      exact ⟨hk _ _ (by simpa using e4 p hp) z.1, z.2⟩
  · have : ((cs ++ (J, oJ') :: X) ++ (O ++ Z)).map (·.1) = ((cs ++ (J, oJ) :: X) ++ (O ++ Z)).map (·.1) := by simp
    rw [this]; exact S.I.nd
  · obtain ⟨v, hl, hv⟩ := S.M y d hy
    refine ⟨v, ?_, hv⟩
    have nJ : ∀ {a : Addr} {o : Obj}, (a, o) ∈ cs ++ (J, oJ) :: X → a ≠ J → (a, o) ∈ cs ++ (J, oJ') :: X := fun hp hne => by
      rcases List.mem_append.mp hp with hp | hp
      · exact List.mem_append_left _ hp
      · rcases List.mem_cons.mp hp with e | hp
        · cases e; exact absurd rfl hne
        · exact List.mem_append_right _ (.tail _ hp)
    cases hl with
    | loc a1 a2 a3 a4 => exact .loc a1 a2 a3 a4
    | comp a1 a2 a3 a4 a5 =>
      have hL := (S.I.N _ (List.mem_append_left _ a3)).2.1
      exact absurd S.loc hL
    | @cell c o a1 a2 a3 a4 a5 =>
      refine .cell a1 a2 a3 (nJ a4 fun e => ?_) a5
      subst e
      have hc : c ∈ cs.map (·.1) := by rw [S.ca]; exact lookup_snd a3
      obtain ⟨p, hp, hpe⟩ := List.mem_map.mp hc
      exact e4 p (List.mem_append_left _ (List.mem_append_left _ hp)) hpe
theorem Sx.dropX {hr : Heap} {L : Addr} {h₀ h : Heap} {m : PySem.Str → Option Value} {cs X O Z : Led} {J : Addr} {oJ : Obj} (S : Sx b env hr L h₀ h m cs ((J, oJ) :: X) O Z ρ σ) : Sx b env hr L h₀ h m cs X O Z ρ σ := by
  have sub : List.Sublist ((cs ++ X) ++ (O ++ Z)) ((cs ++ (J, oJ) :: X) ++ (O ++ Z)) :=
    List.Sublist.append (List.Sublist.append (List.Sublist.refl _) (List.sublist_cons_self _ _)) (List.Sublist.refl _)
  refine ⟨S.loc, S.bo, ⟨S.I.F, fun p hp => S.I.N p (sub.subset hp), List.Nodup.sublist (sub.map _) S.I.nd, S.I.on, S.I.ow⟩, S.ca, S.ck, fun y d hy => ?_⟩
  obtain ⟨v, hl, hv⟩ := S.M y d hy
  refine ⟨v, ?_, hv⟩
  cases hl with
  | loc a1 a2 a3 a4 => exact .loc a1 a2 a3 a4
  | comp a1 a2 a3 a4 a5 =>
    have hL := (S.I.N _ (List.mem_append_left _ a3)).2.1
    exact absurd S.loc hL
  | @cell c o a1 a2 a3 a4 a5 =>
    refine .cell a1 a2 a3 ?_ a5
    rcases List.mem_append.mp a4 with hp | hp
    · exact List.mem_append_left _ hp
    · rcases List.mem_cons.mp hp with e | hp
      · have hc : c ∈ cs.map (·.1) := by rw [S.ca]; exact lookup_snd a3
        obtain ⟨p', hp', hpe⟩ := List.mem_map.mp hc
        obtain ⟨_, _, _, e4⟩ := S.split
        have ec : c = J := congrArg Prod.fst e
        exact absurd (hpe.trans ec) (e4 p' (List.mem_append_left _ (List.mem_append_left _ hp')))
      · exact List.mem_append_right _ hp

theorem Rep.lowB {hr : Heap} {O O' Z Z' : Led} {v : Value} {d : D} (x : ExtB b O O' Z Z') (l : Low b d) (r : Rep hr (O.map (·.1)) Z v d) : Rep hr (O'.map (·.1)) Z' v d := by
  refine (r.low (k := b) (as' := O'.map (·.1)) (fun j a hj ha => ?_) l).ext (fun _ _ h => h) x.2
  have := congrArg (fun l => l[j]?) x.1
  simp only [List.getElem?_take, hj, if_true] at this
  rw [this]; exact ha

theorem letGo {A : Around} {s' : Shared} {target : Expr} {J : Addr} {o : Obj} {v : Value} {M : Model} {Q' : Unit → Shared → Prop} (ho : s'.heap.get? J = some o)
    (hk : o.cls = .type "list_iterator" ∨ o.cls = .type "range_iterator" ∨ o.cls = .type "str_iterator" ∨ o.cls = .type "str_ascii_iterator") (h : Q' () s') : wpAny M A (letOwnedTupleGo target (.ref J) v) Q' NE s' := by
  unfold letOwnedTupleGo
  cases target <;> first
    | exact wpAny_pure h
    | (cases v <;> first
        | exact wpAny_pure h
        | (refine wpAny_bind (wpAny_load ho ?_)
           rcases hk with hk | hk | hk | hk <;> rw [hk] <;> (cases o.data <;> exact wpAny_pure h)))

theorem Ex.for {target iter : Expr} {body rest : List Stmt} {pos : Pos} {d : D} {ds : List D} (up : Rho → D → Rho)
    (hit : Ev g n env ρ σ iter d σ₁) (hi : itemsOf d = some ds) (hlow : ∀ d ∈ ds, Low b d)
    (hs : ∀ x, foldedSetIterable iter env x = pure x)
    (has : ∀ ρ' (i : Nat) di, ds[i]? = some di → As g n b env ρ' target di (up ρ' di))
    (J : Nat → Rho → Sig → Prop) (h0 : J 0 ρ σ₁)
    (step : ∀ (i : Nat) di ρ' σ', ds[i]? = some di → J i ρ' σ' → Ex g n b env (up ρ' di) σ' body (fun o => match o with | .next ρ'' σ'' => J (i + 1) ρ'' σ'' | .ret d σ'' => R (.ret d σ'')))
    (hrest : ∀ ρ' σ', J ds.length ρ' σ' → Ex g n b env ρ' σ' rest R) : Ex g n b env ρ σ (.For target iter body [] pos :: rest) R := by
  refine Ex.cons (R₁ := fun o => match o with | .next ρ' σ' => J ds.length ρ' σ' | .ret d σ' => R (.ret d σ')) ?_ hrest (fun d σ' q => q)
  intro A hr outer ef L h₀ m cs X O Z s Q C S kn kr
  refine wpAny_For (hit C S.I S.M fun xv h₁ t₁ O₁ Z₁ I₁ x₁ rx => ?_) hs
  refine pyIter_D C I₁ rx hi fun oJ fp P St h' I₂ f₂ it st hfp => ?_
  have S₂ : Sx b env hr L h₀ h' m cs ((h₁.objs.size, oJ) :: X) O₁ Z₁ ρ σ₁ := (S.up I₂ x₁).addX f₂
  have xb := x₁.toB S.bo
  refine codeAny_forLoop_any (fun k s' => ∃ i ρ' σ' h' tk m' cs' O' Z' oJ', s' = { s with heap := h', toks := tk } ∧ i ≤ ds.length ∧ k = ds.length + 1 - i ∧ J i ρ' σ' ∧ St i h' ∧ Sx b env hr L h₀ h' m' cs' ((h₁.objs.size, oJ') :: X) O' Z' ρ' σ' ∧ ExtB b O₁ O' Z₁ Z') ?_ (ds.length + 1)
    ⟨0, ρ, σ₁, h', t₁, m, cs, O₁, Z₁, oJ, rfl, Nat.zero_le _, rfl, h0, st, S₂, ExtB.refl⟩
  rintro k s' ⟨i, ρ', σ', h'', tk, m', cs', O', Z', oJ', rfl, hi', rfl, hJ, st', S', x'⟩
  by_cases hlt : i < ds.length
  · obtain ⟨di, hdi⟩ : ∃ di, ds[i]? = some di := ⟨ds[i], by simp [hlt]⟩
    refine it.walk.item i _ _ _ hlt st' fun v h₃ t₃ hP st₃ hk₃ => ?_
    obtain ⟨o₃, ho₃⟩ := it.here _ _ st₃
    have S₃ := S'.chgX hk₃ ho₃
    have rv : Rep hr (O'.map (·.1)) Z' v di := Rep.lowB x' (hlow di (List.mem_of_getElem? hdi)) (it.item i v di hP hdi)
    refine wpAny_noRaise (letGo ho₃ (it.kind _ _ _ st₃ ho₃) ?_)
    refine wpAny_noRaise (has ρ' i di hdi C S₃ rv fun h₄ t₄ m₄ cs₄ S₄ => ?_)
    refine wpAny_noRaise (step i di ρ' σ' hdi hJ C S₄ (fun ρ₅ σ₅ h₅ t₅ m₅ cs₅ O₅ Z₅ q₅ S₅ x₅ => ?_) fun d ρ₅ σ₅ h₅ t₅ v m₅ cs₅ O₅ Z₅ q₅ S₅ x₅ r => ?_)
    · refine ⟨ds.length + 1 - (i + 1), by omega, i + 1, ρ₅, σ₅, h₅, t₅, m₅, cs₅, O₅, Z₅, o₃, rfl, hlt, rfl, q₅, ?_, S₅, x'.trans x₅⟩
      exact it.still _ _ _ _ _ st₃ ho₃ S₅.split.1 S₅.I.F.keep S₅.I.N fun p hp => List.mem_append_right _ (List.mem_append_right _ ((x'.trans x₅).2 p hp))
    · exact kr d ρ₅ σ₅ h₅ t₅ v m₅ cs₅ O₅ Z₅ q₅ S₅.dropX (xb.trans (x'.trans x₅)) r
  · obtain rfl : i = ds.length := Nat.le_antisymm hi' (Nat.not_lt.mp hlt)
    refine it.walk.done _ _ _ st' fun h₃ t₃ hk₃ => wpAny_execs_nil ?_
    have S₃ : Sx b env hr L h₀ h₃ m' cs' X O' Z' ρ' σ' := by
      obtain ⟨e1, e2, e3, e4⟩ := S'.split
      have S₀ := S'.dropX
      exact ⟨S₀.loc, S₀.bo, S₀.I.lok.inv (LCg.fr_but S₀.I.F hk₃ (Ne.symm e2) e3) (LCg.news_but S₀.I.N hk₃ e4), S₀.ca, S₀.ck, S₀.M⟩
    exact kn ρ' σ' h₃ t₃ m' cs' O' Z' hJ S₃ (xb.trans x')

theorem Ex.forN {x : PySem.Str} {px : Pos} {iter : Expr} {body rest : List Stmt} {pos : Pos} {d : D} {ds : List D} (hx : Stb env x)
    (hit : Ev g n env ρ σ iter d σ₁) (hi : itemsOf d = some ds) (hlow : ∀ d ∈ ds, Low b d)
    (hs : ∀ x, foldedSetIterable iter env x = pure x)
    (J : Nat → Rho → Sig → Prop) (h0 : J 0 ρ σ₁)
    (step : ∀ (i : Nat) di ρ' σ', ds[i]? = some di → J i ρ' σ' → Ex g n b env ((x, di) :: ρ') σ' body (fun o => match o with | .next ρ'' σ'' => J (i + 1) ρ'' σ'' | .ret d σ'' => R (.ret d σ'')))
    (hrest : ∀ ρ' σ', J ds.length ρ' σ' → Ex g n b env ρ' σ' rest R) : Ex g n b env ρ σ (.For (.Name x px) iter body [] pos :: rest) R :=
  Ex.for (fun ρ d => (x, d) :: ρ) hit hi hlow hs (fun _ _ _ _ => As.name hx) J h0 step hrest
end
end Mine

namespace Mine
open PySem PySem.W PySem.Calls PySem.Spec PyProof.Rows

section
variable {g : Gl} {n : Nat} {b : Nat} {env : Env} {ρ : Rho} {σ σ₁ σ₂ σ₃ : Sig} {R : Out → Prop}

theorem op_neg (a : Int) : Op1 g n (unaryOp .USub) σ (.int a) (.int (-a)) := by
  intro A hr outer ef L h₀ m X O Z s Q va C I ra k
  cases ra
  exact neg_int (k _ _ _ _ _ I Ext.refl (.int _ _))

/-! an item -/
theorem Ev.item {value slice : Expr} {pos : Pos} {ds : List D} {k : Int} {d : D} (hv : Ev g n env ρ σ value (.list ds) σ₁) (hs : Ev g n env ρ σ₁ slice (.int k) σ₂)
    (h0 : 0 ≤ k) (h1 : k < 2 ^ 63) (hd : ds[k.toNat]? = some d)
    (hsub : ∀ a t, subscripted slice false (.ref a) (.int k t) = operate [.ref a, .int k t] (getItem (.ref a) (.int k t))) :
    Ev g n env ρ σ (.Subscript value slice pos) d σ₂ := by
  intro A hr outer ef L h₀ m X O Z s Q C I M kk
  refine Subscript_ (hv C I M fun v h₁ t₁ O₁ Z₁ I₁ x₁ rv => hs C I₁ (M.up x₁) fun w h₂ t₂ O₂ Z₂ I₂ x₂ rw' => ?_)
  cases rw'
  have rv' := rv.up x₂
  cases rv' with
  | @list a vs _ hs' hl hi =>
    have hk : k.toNat < ds.length := (List.getElem?_eq_some_iff.mp hd).1
    obtain ⟨u, hu⟩ : ∃ u, vs[k.toNat]? = some u := ⟨vs[k.toNat]'(hl ▸ hk), by simp⟩
    exact item_litK (srcAt_list C I₂ hs') h0 h1 hu (kk u h₂ t₂ O₂ Z₂ I₂ (x₁.trans x₂) (hi _ _ _ hu hd)) (hsub a _)
theorem Ev.itemO {value slice : Expr} {pos : Pos} {j : Nat} {ds : List D} {k : Int} {d : D} (hv : Ev g n env ρ σ value (.own j) σ₁) (hs : Ev g n env ρ σ₁ slice (.int k) σ₂) (hj : σ₂[j]? = some ds)
    (h0 : 0 ≤ k) (h1 : k < 2 ^ 63) (hd : ds[k.toNat]? = some d)
    (hsub : ∀ a t, subscripted slice false (.ref a) (.int k t) = operate [.ref a, .int k t] (getItem (.ref a) (.int k t))) :
    Ev g n env ρ σ (.Subscript value slice pos) d σ₂ := by
  intro A hr outer ef L h₀ m X O Z s Q C I M kk
  refine Subscript_ (hv C I M fun v h₁ t₁ O₁ Z₁ I₁ x₁ rv => hs C I₁ (M.up x₁) fun w h₂ t₂ O₂ Z₂ I₂ x₂ rw' => ?_)
  cases rw'
  have rv' := rv.up x₂
  cases rv' with
  | @own a _ ha =>
    obtain ⟨vs, c, _, hg, hl, hi⟩ := I₂.owned ha hj
    have hk : k.toNat < ds.length := (List.getElem?_eq_some_iff.mp hd).1
    obtain ⟨u, hu⟩ : ∃ u, vs[k.toNat]? = some u := ⟨vs[k.toNat]'(hl ▸ hk), by simp⟩
    exact item_litK (vs := vs) ⟨_, hg, rfl, c, rfl⟩ h0 h1 hu (kk u h₂ t₂ O₂ Z₂ I₂ (x₁.trans x₂) (hi _ _ _ hu hd)) (hsub a _)
/-- the last item, by -1 -/
theorem Ev.lastO {value slice : Expr} {pos : Pos} {j : Nat} {ds : List D} {d : D} (hv : Ev g n env ρ σ value (.own j) σ₁) (hs : Ev g n env ρ σ₁ slice (.int (-1)) σ₂) (hj : σ₂[j]? = some ds)
    (hd : ds.getLast? = some d)
    (hsub : ∀ a t, subscripted slice false (.ref a) (.int (-1) t) = operate [.ref a, .int (-1) t] (getItem (.ref a) (.int (-1) t))) :
    Ev g n env ρ σ (.Subscript value slice pos) d σ₂ := by
  intro A hr outer ef L h₀ m X O Z s Q C I M kk
  refine Subscript_ (hv C I M fun v h₁ t₁ O₁ Z₁ I₁ x₁ rv => hs C I₁ (M.up x₁) fun w h₂ t₂ O₂ Z₂ I₂ x₂ rw' => ?_)
  cases rw'
  have rv' := rv.up x₂
  cases rv' with
  | @own a _ ha =>
    obtain ⟨vs, c, _, hg, hl, hi⟩ := I₂.owned ha hj
    rw [List.getLast?_eq_getElem?] at hd
    have hk : ds.length - 1 < ds.length := (List.getElem?_eq_some_iff.mp hd).1
    obtain ⟨u, hu⟩ : ∃ u, vs[ds.length - 1]? = some u := ⟨vs[ds.length - 1]'(hl ▸ hk), by simp⟩
    refine kde_neg (vs := vs) (j := ds.length - 1) ⟨_, hg, rfl, c, rfl⟩ (by decide) (by decide) ?_ hu (kk u h₂ t₂ O₂ Z₂ I₂ (x₁.trans x₂) (hi _ _ _ hu hd)) (hsub a _)
    unfold seqIndex?
    rw [hl]
    have : (if (-1 : Int) < 0 then (-1 : Int) + (ds.length : Int) else -1) = (ds.length : Int) - 1 := by simp; omega
    simp only [this]
    have h1 : decide (0 ≤ (ds.length : Int) - 1) = true := decide_eq_true (by omega)
    have h2 : decide ((ds.length : Int) - 1 < (ds.length : Int)) = true := decide_eq_true (by omega)
    rw [h1, h2]
    simp

/-! a part -/
def Pt (g : Gl) (n : Nat) (env : Env) (ρ : Rho) (σ : Sig) (e : Option Expr) (i : Option Int) : Prop :=
  ∀ ⦃A : Around⦄ ⦃hr : Heap⦄ ⦃outer : List Env⦄ ⦃ef : Env⦄ ⦃L : Addr⦄ ⦃h₀ : Heap⦄ ⦃m : PySem.Str → Option Value⦄ ⦃X O Z : Led⦄ ⦃s : Shared⦄ ⦃Q : Value → Shared → Prop⦄,
    Cx g A hr outer ef L h₀ n → Inv h₀ hr L s.heap m X O Z σ → Mod env hr L m X (O.map (·.1)) Z ρ →
    (∀ v h' tk O' Z', Inv h₀ hr L h' m X O' Z' σ → Ext O O' Z Z' → IsPart v i → Q v { s with heap := h', toks := tk }) →
    wpAny (model g.prog g.w) A (evalPart e env) Q NE s
theorem Pt.none : Pt g n env ρ σ none none := by
  intro A hr outer ef L h₀ m X O Z s Q C I M k
  exact wpAny_pure (k _ s.heap s.toks O Z I Ext.refl .none)
theorem Pt.some {e : Expr} {i : Int} (h : Ev g n env ρ σ e (.int i) σ) : Pt g n env ρ σ (some e) (some i) := by
  intro A hr outer ef L h₀ m X O Z s Q C I M k
  show wpAny _ _ (eval e env) _ _ _
  refine h C I M fun v h₁ t₁ O₁ Z₁ I₁ x₁ rv => ?_
  cases rv
  exact k _ h₁ t₁ O₁ Z₁ I₁ x₁ (.int _ _)

def cut (ds : List D) (lo hi : Option Int) : List D := (ds.drop (kms_lo lo ds.length)).take (kms_hi hi ds.length - kms_lo lo ds.length)

theorem RepL.drop {hr : Heap} {as : List Addr} {Z : Led} {vs : List Value} {ds : List D} (k : Nat) (r : RepL hr as Z vs ds) : RepL hr as Z (vs.drop k) (ds.drop k) :=
  ⟨by simp [r.1], fun i v d a b => r.2 (k + i) v d (by simpa using a) (by simpa using b)⟩
theorem RepL.take {hr : Heap} {as : List Addr} {Z : Led} {vs : List Value} {ds : List D} (k : Nat) (r : RepL hr as Z vs ds) : RepL hr as Z (vs.take k) (ds.take k) := by
  refine ⟨by simp [r.1], fun i v d a b => ?_⟩
  rw [List.getElem?_take] at a b
  by_cases hk : i < k
  · rw [if_pos hk] at a b; exact r.2 i v d a b
  · rw [if_neg hk] at a; cases a

theorem EvF.slice {value : Expr} {lo hi : Option Expr} {p pos : Pos} {ds : List D} {i j : Option Int} (hv : Ev g n env ρ σ value (.list ds) σ₁) (hlo : Pt g n env ρ σ₁ lo i) (hhi : Pt g n env ρ σ₁ hi j)
    (hz : ds.length ≤ 2 ^ 20)
    (hsub : ∀ a c, subscripted (.Slice lo hi none p) false (.ref a) (.ref c) = operate [.ref c, .ref a] (getItem (.ref a) (.ref c)))
    (hlet : ∀ o r, letTemporaryGo value o r = pure ()) : EvF g n env ρ σ (.Subscript value (.Slice lo hi none p) pos) (cut ds i j) σ₁ := by
  intro A hr outer ef L h₀ m X O Z s Q C I M kk
  refine Subscript_ (hv C I M fun v h₁ t₁ O₁ Z₁ I₁ x₁ rv => wpAny_Slice (hlo C I₁ (M.up x₁) fun vl h₂ t₂ O₂ Z₂ I₂ x₂ pl => hhi C I₂ (M.up (x₁.trans x₂)) fun vu h₃ t₃ O₃ Z₃ I₃ x₃ pu => wpAny_pure ?_))
  have rv' := rv.up (x₂.trans x₃)
  cases rv' with
  | @list a vs _ hs' hl hi' =>
    refine kms_slice_lit (s := { s with heap := h₃, toks := t₃ }) I₃.F I₃.N (srcAt_list C I₃ hs') pl pu rfl (fun D' h' F' N' lt => ?_) (hsub a _) (hlet _) (by simpa [hl] using Nat.le_trans hz (by rw [sizeLine_eq]; decide))
    obtain ⟨I₄, f₄⟩ := Fresh.of I₃ F' N' lt
    refine kk D' _ 0 h' t₃ O₃ Z₃ I₄ f₄ (x₁.trans (x₂.trans x₃)) ?_
    have r : RepL hr (O₃.map (·.1)) Z₃ vs ds := ⟨hl, hi'⟩
    show RepL _ _ _ (kms_pick vs i j) (cut ds i j)
    unfold kms_pick cut
    rw [hl]
    exact (r.drop _).take _

/-! list + list, list * int, list(..) -/
theorem op_addL (ds es : List D) (hz : ds.length + es.length ≤ 2 ^ 20) : Op2F g n (binaryOp .Add) σ (.list ds) (.list es) (ds ++ es) := by
  intro A hr outer ef L h₀ m X O Z s Q va vb C I ra rb k
  cases ra with
  | @list a vs _ hs hl hi =>
    cases rb with
    | @list a' ws _ hs' hl' hi' =>
      refine kmk_add_lit I.F I.N (srcAt_list C I hs) (srcAt_list C I hs') rfl (fun D' h' F' N' lt => ?_) (by simp only [hl, hl']; exact Nat.le_trans hz (by rw [sizeLine_eq]; decide))
      obtain ⟨I₄, f₄⟩ := Fresh.of I F' N' lt
      exact k D' _ 0 h' s.toks O Z I₄ f₄ Ext.refl (RepL.append ⟨hl, hi⟩ ⟨hl', hi'⟩)
theorem repl_flat {hr : Heap} {as : List Addr} {Z : Led} {vs : List Value} {ds : List D} (r : RepL hr as Z vs ds) : ∀ k : Nat, RepL hr as Z (List.replicate k vs).flatten (List.replicate k ds).flatten
  | 0 => RepL.nil
  | k + 1 => by simp only [List.replicate_succ, List.flatten_cons]; exact RepL.append r (repl_flat r k)
theorem op_mulL (ds : List D) (x : Int) (h0 : -2 ^ 63 ≤ x) (h1 : x < 2 ^ 63) (hz : ds.length * x.toNat ≤ 256) : Op2F g n (binaryOp .Mult) σ (.list ds) (.int x) (List.replicate x.toNat ds).flatten := by
  intro A hr outer ef L h₀ m X O Z s Q va vb C I ra rb k
  cases rb
  cases ra with
  | @list a vs _ hs hl hi =>
    refine KMa.mul I.F I.N (srcAt_list C I hs) h0 h1 (by rw [hl]; exact hz) rfl (fun D' h' F' N' lt => ?_)
    obtain ⟨I₄, f₄⟩ := Fresh.of I F' N' lt
    exact k D' _ 0 h' s.toks O Z I₄ f₄ Ext.refl (repl_flat ⟨hl, hi⟩ _)
theorem call_list (ds : List D) (hz : ds.length ≤ 2 ^ 20) : OpNF g n (fun vs => call (.type "list") vs) σ [.list ds] ds σ := by
  intro A hr outer ef L h₀ m X O Z s Q vs C I r k
  obtain ⟨v, rfl, rv⟩ := r.one
  cases rv with
  | @list a vs _ hs hl hi =>
    refine list_copyK I.F I.N (srcAt_list C I hs) (fun D' c h' F' N' lt => ?_) (by simpa [hl] using Nat.le_trans hz (by rw [sizeLine_eq]; decide))
    obtain ⟨I₄, f₄⟩ := Fresh.of I F' N' lt
    exact k D' _ c h' s.toks O Z I₄ f₄ Ext.refl ⟨hl, hi⟩

/-! texts -/
theorem carried_strs {hr : Heap} {as : List Addr} {Z : Led} : ∀ {vs : List Value} (xs : List PySem.Str), RepL hr as Z vs (xs.map D.str) → CarriedAll vs (xs.map fun x => PyData.str x)
  | [], [], _ => .nil
  | [], _ :: _, r => absurd r.1 (by simp)
  | _ :: _, [], r => absurd r.1 (by simp)
  | v :: vs, x :: xs, r => by
    have h := r.2 0 v (.str x) rfl rfl
    cases h
    exact .cons (.str _ _) (carried_strs xs ⟨by simpa using r.1, fun i w d a b => r.2 (i + 1) w d (by simpa using a) (by simpa using b)⟩)
theorem glued_fold : ∀ (cs : List Nat) (acc : Array Nat), (cs.map fun c => (⟨#[c]⟩ : PySem.Str)).foldl (fun acc p => acc ++ (PySem.Str.ofString "").cps ++ p.cps) acc = acc ++ cs.toArray
  | [], acc => by simp
  | c :: cs, acc => by
    simp only [List.map_cons, List.foldl_cons]
    rw [glued_fold cs]
    have : (PySem.Str.ofString "").cps = #[] := by decide +kernel
    rw [this]
    simp
theorem glued_signs (cs : List Nat) : Txt.join (PySem.Str.ofString "") (cs.map fun c => (⟨#[c]⟩ : PySem.Str)) = ⟨cs.toArray⟩ := by
  unfold Txt.join Builtin.Str.glued
  cases cs with
  | nil => rfl
  | cons c cs =>
    simp only [List.map_cons, List.drop_succ_cons, List.drop_zero, List.headD_cons]
    rw [glued_fold]
    simp
theorem Ev.join {p1 p2 pos : Pos} {kk : Nat} {e : Expr} {cs : List Nat} (h : Ev g n env ρ σ e (.list (cs.map fun c => .str ⟨#[c]⟩)) σ₁) (hz : cs.length ≤ 1048576)
    (hst : starEach [e] env = (false, eval e env) :: starEach [] env) (pl : Sem Bool)
    (hpl : eval (.Call (.Attribute (.Constant (.str (PySem.Str.ofString "")) kk p1) (PySem.Str.ofString "join") p2) [e] [] pos) env = (do
      let ov ← eval (.Constant (.str (PySem.Str.ofString "")) kk p1) env
      standAt p2.atName
      let (f, first) ← holding [ov] (getMethod ov (PySem.Str.ofString "join") pl)
      callWith pos f first (backTo pos (starEach [e] env)) [])) :
    Ev g n env ρ σ (.Call (.Attribute (.Constant (.str (PySem.Str.ofString "")) kk p1) (PySem.Str.ofString "join") p2) [e] [] pos) (.str ⟨cs.toArray⟩) σ₁ := by
  intro A hr outer ef L h₀ m X O Z s Q C I M k
  refine MethodCall_ (pl := pl) ?_ hpl
  refine Constant_str (GM.join ?_)
  show wpAny _ _ (callWith pos (.builtin "str.join") [.str _ _] (backTo pos (starEach [e] env)) []) _ _ _
  refine callWith_builtin (by rw [hst]; rfl) ?_
  rw [hst]
  refine evalArgs_plain ?_
  show wpAny _ _ (spliced (backTo pos ((false, eval e env) :: starEach [] env))) _ _ _
  rw [← hst]
  refine spliced_more (h (s := { s with toks := s.toks + 1 }) C I M fun w h₁ t₁ O₁ Z₁ I₁ x₁ rw' => spliced_none ?_) hst
  cases rw' with
  | @list a vs _ hs hl hi =>
    show wpAny _ _ (call (.builtin "str.join") [.str _ _, .ref a]) _ _ _
    have e1 : (cs.map fun c => D.str ⟨#[c]⟩) = (cs.map fun c => (⟨#[c]⟩ : PySem.Str)).map D.str := by simp
    have r : RepL hr (O₁.map (·.1)) Z₁ vs ((cs.map fun c => (⟨#[c]⟩ : PySem.Str)).map D.str) := e1 ▸ ⟨hl, hi⟩
    have cr := carried_strs _ r
    rw [List.map_map] at cr
    refine KT.join_B (l := cs) (g := fun c => ⟨#[c]⟩) 1 (srcAt_list C I₁ hs) cr (fun a _ => Nat.le_refl _) hz (by decide +kernel) fun t' kt => ?_
    rw [glued_signs]
    exact k _ h₁ kt O₁ Z₁ I₁ x₁ (.str _ _)

/-! comparing what is plain data -/
mutual
def pyOf : D → PyData
  | .int i => .int i
  | .bool b => .bool b
  | .str x => .str x
  | .list ds => .list (pyOfs ds)
  | .tup ds => .tuple (pyOfs ds)
  | .none => .none
  | .own _ => .none
  | .rng _ _ => .none
  | .typ _ => .none
  | .tab _ => .none
def pyOfs : List D → List PyData
  | [] => []
  | d :: ds => pyOf d :: pyOfs ds
end
inductive Plain : D → Prop
  | int (i : Int) : Plain (.int i)
  | bool (b : Bool) : Plain (.bool b)
  | str (x : PySem.Str) : Plain (.str x)
  | none : Plain .none
  | list {ds : List D} : (∀ d ∈ ds, Plain d) → Plain (.list ds)
  | tup {ds : List D} : (∀ d ∈ ds, Plain d) → Plain (.tup ds)

theorem reads_all {h : Heap} : ∀ {vs : List Value} {ds : List D}, vs.length = ds.length → (∀ (i : Nat) v d, vs[i]? = some v → ds[i]? = some d → ∃ xs, Reads h v (pyOf d) xs) → ∃ xs, ReadsAll h vs (pyOfs ds) xs
  | [], [], _, _ => ⟨[], .nil⟩
  | [], _ :: _, e, _ => absurd e (by simp)
  | _ :: _, [], e, _ => absurd e (by simp)
  | v :: vs, d :: ds, e, f => by
    obtain ⟨xs, hx⟩ := f 0 v d rfl rfl
    obtain ⟨ys, hy⟩ := reads_all (h := h) (vs := vs) (ds := ds) (by simpa using e) fun i v' d' a b => f (i + 1) v' d' (by simpa using a) (by simpa using b)
    exact ⟨_, .cons hx hy⟩
theorem Rep.reads {A : Around} {hr : Heap} {outer : List Env} {ef : Env} {L : Addr} {h₀ h : Heap} {m : PySem.Str → Option Value} {X O Z : Led} {v : Value} {d : D}
    (C : Cx g A hr outer ef L h₀ n) (I : Inv h₀ hr L h m X O Z σ) (r : Rep hr (O.map (·.1)) Z v d) (p : Plain d) : ∃ xs, Reads h v (pyOf d) xs := by
  induction r with
  | int i t => exact ⟨_, .int i t⟩
  | bool b => exact ⟨_, .bool b⟩
  | str x t => exact ⟨_, .str x t⟩
  | none => exact ⟨_, .none⟩
  | typ T => cases p
  | tab h p' => cases p
  | own => cases p
  | rng => cases p
  | list hs hl hi ih =>
    cases p with
    | list hp =>
      obtain ⟨o, ho, hc, c, hd⟩ := srcAt_list C I hs
      obtain ⟨xs, hx⟩ := reads_all hl fun i v d a b => ih i v d a b (hp _ (List.mem_of_getElem? b))
      exact ⟨_, by rw [pyOf]; exact .list ho hc hd (by simpa using hx)⟩
  | tup hm hl hi ih =>
    cases p with
    | tup hp =>
      obtain ⟨xs, hx⟩ := reads_all hl fun i v d a b => ih i v d a b (hp _ (List.mem_of_getElem? b))
      exact ⟨_, by rw [pyOf]; exact .tuple (I.N _ (List.mem_append_right _ (List.mem_append_right _ hm))).1 rfl rfl (by simpa using hx)⟩

theorem op_eqD {d e : D} (pd : Plain d) (pe : Plain e) (hd : (∃ ds, d = .list ds) ∨ ∃ ds, d = .tup ds) (he : (∃ ds, e = .list ds) ∨ ∃ ds, e = .tup ds) (sd : SeqAt.shaped (pyOf d) = true) (se : SeqAt.shaped (pyOf e) = true) :
    Op2 g n (compareOp .Eq) σ d e (.bool (PyData.eqv (pyOf d) (pyOf e))) := by
  intro A hr outer ef L h₀ m X O Z s Q va vb C I ra rb k
  obtain ⟨xs, hx⟩ := ra.reads C I pd
  obtain ⟨ys, hy⟩ := rb.reads C I pe
  have kk := k (.bool (PyData.eqv (pyOf d) (pyOf e))) s.heap s.toks O Z I Ext.refl (.bool _)
  have un := C.un
  rcases hd with ⟨ds, rfl⟩ | ⟨ds, rfl⟩ <;> rcases he with ⟨es, rfl⟩ | ⟨es, rfl⟩ <;> cases ra <;> cases rb <;> exact eq_dataH hx hy sd se (by omega) kk
theorem op_neD {d e : D} (pd : Plain d) (pe : Plain e) (hd : (∃ ds, d = .list ds) ∨ ∃ ds, d = .tup ds) (he : (∃ ds, e = .list ds) ∨ ∃ ds, e = .tup ds) (sd : SeqAt.shaped (pyOf d) = true) (se : SeqAt.shaped (pyOf e) = true) :
    Op2 g n (compareOp .NotEq) σ d e (.bool (!PyData.eqv (pyOf d) (pyOf e))) := by
  intro A hr outer ef L h₀ m X O Z s Q va vb C I ra rb k
  obtain ⟨xs, hx⟩ := ra.reads C I pd
  obtain ⟨ys, hy⟩ := rb.reads C I pe
  have kk := k (.bool (!PyData.eqv (pyOf d) (pyOf e))) s.heap s.toks O Z I Ext.refl (.bool _)
  have un := C.un
  rcases hd with ⟨ds, rfl⟩ | ⟨ds, rfl⟩ <;> rcases he with ⟨es, rfl⟩ | ⟨es, rfl⟩ <;> cases ra <;> cases rb <;> exact ne_dataH hx hy sd se (by omega) kk

/-! rows of whole numbers -/
abbrev iLs (ns : List Int) : List D := ns.map D.int
theorem plain_ints (ns : List Int) : Plain (.list (iLs ns)) := .list fun d hd => by
  obtain ⟨i, _, rfl⟩ := List.mem_map.mp hd; exact .int i
theorem pyOfs_ints : ∀ ns : List Int, pyOfs (iLs ns) = ns.map PyData.int
  | [] => rfl
  | n :: r => by simp only [iLs, List.map_cons, pyOfs, pyOf]; rw [← pyOfs_ints r]
theorem pyOf_ints (ns : List Int) : pyOf (.list (iLs ns)) = .list (ns.map PyData.int) := by rw [pyOf, pyOfs_ints]
theorem shaped_ints' (ns : List Int) : SeqAt.shaped (pyOf (.list (iLs ns))) = true := by rw [pyOf_ints]; exact ke_shaped_ints ns
theorem eqv_ints (ns ms : List Int) : PyData.eqv (pyOf (.list (iLs ns))) (pyOf (.list (iLs ms))) = decide (ns = ms) := by
  rw [pyOf_ints, pyOf_ints, PyData.eqv, ked_eqvAll]
theorem op_eqI (ns ms : List Int) : Op2 g n (compareOp .Eq) σ (.list (iLs ns)) (.list (iLs ms)) (.bool (decide (ns = ms))) := by
  rw [← eqv_ints]
  exact op_eqD (plain_ints _) (plain_ints _) (.inl ⟨_, rfl⟩) (.inl ⟨_, rfl⟩) (shaped_ints' _) (shaped_ints' _)
theorem op_neI (ns ms : List Int) : Op2 g n (compareOp .NotEq) σ (.list (iLs ns)) (.list (iLs ms)) (.bool (!decide (ns = ms))) := by
  rw [← eqv_ints]
  exact op_neD (plain_ints _) (plain_ints _) (.inl ⟨_, rfl⟩) (.inl ⟨_, rfl⟩) (shaped_ints' _) (shaped_ints' _)
theorem low_ints {k : Nat} (ns : List Int) : Low k (.list (iLs ns)) := .list fun d hd => by
  obtain ⟨i, _, rfl⟩ := List.mem_map.mp hd; exact .int i

/-! x.index(k) of a row -/
theorem intsAre_of {hr : Heap} {as : List Addr} {Z : Led} : ∀ {vs : List Value} (ns : List Int), RepL hr as Z vs (iLs ns) → IntsAre vs ns
  | [], [], _ => .nil
  | [], _ :: _, r => absurd r.1 (by simp)
  | _ :: _, [], r => absurd r.1 (by simp)
  | v :: vs, x :: xs, r => by
    have h := r.2 0 v (.int x) rfl rfl
    cases h
    exact .cons _ _ (intsAre_of xs ⟨by simpa using r.1, fun i w d a b => r.2 (i + 1) w d (by simpa using a) (by simpa using b)⟩)
end
end Mine

namespace Mine
open PySem PySem.W PySem.Calls PySem.Spec PyProof.Rows

section
variable {g : Gl} {n : Nat} {b : Nat} {env : Env} {ρ : Rho} {σ σ₁ σ₂ σ₃ : Sig} {R : Out → Prop}

/-- x[i] = e, x an owned list -/
theorem Ex.setItem {x : PySem.Str} {p1 p2 p3 : Pos} {ie e : Expr} {k : Nat} {ds : List D} {i : Int} {d : D} {rest : List Stmt} (hx : ρ.lookup x = some (.own k)) (hdb : (x == ("__debug__" : PySem.Str)) = false)
    (h : Ev g n env ρ σ e d σ₁) (hi : Ev g n env ρ σ₁ ie (.int i) σ₂) (hd : σ₂[k]? = some ds) (h0 : 0 ≤ i) (h1 : i < ds.length) (hz : ds.length ≤ 2 ^ 20)
    (hsw : swapsWith e (some (.Subscript (.Name x p1) ie p2)) p3.line env = pure false)
    (hr : Ex g n b env ρ (σ₂.set k (ds.set i.toNat d)) rest R) : Ex g n b env ρ σ (.Assign [.Subscript (.Name x p1) ie p2] e p3 :: rest) R := by
  refine Ex.cons (R₁ := fun o => o = .next ρ (σ₂.set k (ds.set i.toNat d))) ?_ (fun ρ' σ' q => by cases q; exact hr) (fun d σ' q => by cases q)
  intro A hr outer ef L h₀ m cs X O Z s Q C S kn kr
  refine wpAny_Assign_Subscript (h C S.I S.M fun v h₁ t₁ O₁ Z₁ I₁ x₁ rv => ?_) hsw
  obtain ⟨u, hlu, hu⟩ := (S.M.up x₁) x _ hx
  refine wpAny_Name (loc_load (s := { s with heap := h₁, toks := t₁ }) hlu I₁.F I₁.N ?_) hdb
  refine hi (s := { s with heap := h₁, toks := t₁ }) C I₁ (S.M.up x₁) fun w h₂ t₂ O₂ Z₂ I₂ x₂ rw' => ?_
  cases rw'
  have hu' := hu.up x₂
  cases hu' with
  | @own a _ ha =>
    obtain ⟨us, c, hk₂, hg, ru⟩ := I₂.owned ha hd
    refine ki_setAt (s := { s with heap := h₂, toks := t₂ }) hg h0 (by omega) (by rw [List.size_toArray, ru.1]; exact h1) ?_
    have ho : (h₂.update a (Obj.mapSeq (·.setIfInBounds i.toNat v))).get? a = some (W.listOf (List.toArray (us.set i.toNat v)) c) := by
      have q := PySem.IsL.update (n := c) hg (·.setIfInBounds i.toNat v)
      have e1 : us.toArray.setIfInBounds i.toNat v = (us.set i.toNat v).toArray := by
        apply Array.toList_inj.mp; simp
      rw [e1] at q
      simpa [PySem.IsL] using q
    have rv₂ := rv.up x₂
    have hit : i.toNat < ds.length := by omega
    have rset : RepL hr (O₂.map (·.1)) Z₂ (us.set i.toNat v) (ds.set i.toNat d) := by
      refine ⟨by simp [ru.1], fun j w e hw he => ?_⟩
      by_cases hj : j = i.toNat
      · subst hj
        rw [List.getElem?_set_self (ru.1 ▸ hit)] at hw
        rw [List.getElem?_set_self hit] at he
        cases hw; cases he; exact rv₂
      · rw [List.getElem?_set_ne (Ne.symm hj)] at hw he
        exact ru.2 j w e hw he
    obtain ⟨I₃, hmap⟩ := I₂.setO hk₂ (Heap.SameBut.update ..) ho rset
    have xx := x₁.trans x₂
    refine kn _ _ _ t₂ m cs (O₂.set k (a, W.listOf (List.toArray (us.set i.toNat v)) c)) Z₂ rfl ⟨S.loc, ?_, I₃, S.ca, S.ck, ?_⟩ ?_
    · have := (xx.toB S.bo).len S.bo
      simpa using this
    · rw [hmap]; exact S.M.up xx
    · have := xx.toB S.bo
      exact ⟨by rw [hmap]; exact this.1, this.2⟩

/-! y = [..] where y is a plain local: the store comes within the comprehension -/
theorem assign_tail {A : Around} {hr : Heap} {L C' : Addr} {h₀ : Heap} {m m' : PySem.Str → Option Value} {cs X O Z : Led} {s : Shared} {Q : Flow → Shared → Prop} {y : PySem.Str} {py : Pos} {d : D} {v : Value} {M : Model}
    (hy : Stb env y) (S : Sx b env hr L h₀ s.heap m cs X O Z ρ σ) (r : Rep hr (O.map (·.1)) Z v d)
    (hn : s.heap.Ns C' m') (hC₀ : h₀.get? C' = none) (hCL : C' ≠ L) (off : ∀ p ∈ (cs ++ X) ++ (O ++ Z), p.1 ≠ C')
    (k : ∀ h' tk m' cs', Sx b env hr L h₀ h' m' cs' X O Z ((y, d) :: ρ) σ → Q .next { s with heap := h', toks := tk }) :
    wpAny M A (assign (.Name y py) env v) (fun _ s'' => ∃ m, s''.heap.Ns C' m ∧ ∀ h', Heap.SameBut C' s''.heap h' → Q .next { s'' with heap := h' }) NE s := by
  obtain ⟨oC, hoC, hnC⟩ := LCg.ns_obj hn
  have S₁ := S.addX (J := C') (oJ := oC) ⟨hoC, hCL, hC₀, fun hm => by
    obtain ⟨p, hp, e⟩ := List.mem_map.mp hm
    exact off p hp e⟩
  refine wpAny_assign_Name (st_name hy S₁ r fun h' tk m₂ cs' S₂ => ?_)
  refine ⟨m', hnC.ns S₂.split.1, fun h'' hs => ?_⟩
  have S₃ := S₂.dropX
  refine k h'' tk m₂ cs' ⟨S₃.loc, S₃.bo, S₃.I.sameBut hs hC₀ hCL S₂.split.2.2.2, S₃.ca, S₃.ck, S₃.M⟩

theorem Fresh.cs {h₀ : Heap} {L : Addr} {h : Heap} {X O Z : Led} {a : Addr} {o : Obj} (f : Fresh h₀ L h X O Z a o) : ∀ p ∈ X ++ (O ++ Z), p.1 ≠ a := fun p hp e => f.nm (List.mem_map.mpr ⟨p, hp, e⟩)

theorem Ex.assignC {elt iter : Expr} {x y : PySem.Str} {px py pos spos : Pos} {scope : Scope} {cl : List (PySem.Str × Addr)} {ρf : Rho} {d : D} {ds es : List D} {rest : List Stmt}
    (hy : Stb env y) (hsw : swapsWith (.ListComp elt [⟨.Name x px, iter, [], 0⟩] scope pos) (some (.Name y py)) spos.line env = pure true)
    (hit : Ev g n env ρ σ iter d σ₁) (hi : itemsOf d = some ds) (hlen : ds.length ≤ 2 ^ 20) (hl : es.length = ds.length)
    (hclos : closureFor scope env = pure cl) (hcell : ∀ y ∈ scope.names, y.2 ≠ .cell) (hkind : scope.kind = .function)
    (hnames : ∀ y ∈ scope.names, y.2 = .local → scope.names.lookup y.1 = some .local) (hx : scope.names.lookup x = some .local) (hf : FreeOk env scope cl ρ ρf)
    (hs : ∀ x, foldedSetIterable iter env x = pure x)
    (helt : ∀ (i : Nat) di ei C, ds[i]? = some di → es[i]? = some ei → Ev g n (compEnvC scope cl C env) ((x, di) :: ρf) σ₁ elt ei σ₁)
    (hr : Ex g n b env ((y, .list es) :: ρ) σ₁ rest R ∨ Ex g n b env ((y, .own σ₁.length) :: ρ) (σ₁ ++ [es]) rest R) :
    Ex g n b env ρ σ (.Assign [.Name y py] (.ListComp elt [⟨.Name x px, iter, [], 0⟩] scope pos) spos :: rest) R := by
  refine Ex.cons (R₁ := fun o => match o with | .next ρ' σ' => Ex g n b env ρ' σ' rest R | .ret _ _ => False) ?_ (fun ρ' σ' q => q) (fun d σ' q => q.elim)
  intro A hr' outer ef L h₀ m cs X O Z s Q C₀ S kn kr
  rw [exec_Assign_Name_used _ _ _ _ hsw]
  refine wpAny_bind (wpAny_standAt (wpAny_bind ?_))
  rw [arm_evalThenUse_ListComp]
  refine wpAny_bind (wpAny_mono (Q := fun _ s' => Q .next s') (wpAny_comprehension_free (use := some (PySem.assign (Expr.Name y py) env)) (Q := fun _ s' => Q .next s') rfl hs hclos hkind hnames
    (hit C₀ S.I S.M fun xv h₁ t₁ O₁ Z₁ I₁ x₁ rx => ?_)) (fun _ s' hq => wpAny_pure (wpAny_pure hq)) fun _ _ e => e)
  refine pyIter_D C₀ I₁ rx hi fun oJ fp P St h' I₂ f₂ it st hfp => ?_
  refine comp_core (s₂ := { s with heap := h', toks := t₁ }) (S := fun _ => σ₁) C₀ I₂ (S.M.up x₁) f₂ it st hfp hlen hf hcell hkind hx hl helt fun D' C h tk m' O' Z' ys I₃ f₃ x₃ r₃ hn hC₀ hCL hCD offC => ?_
  have xx := x₁.trans x₃
  have Sa : Sx b env hr' L h₀ h m cs X O' Z' ρ σ₁ := S.up I₃ xx
  rcases hr with hr | hr
  · have xz : Ext O' O' Z' ((D', W.listOf (List.toArray ys) ys.length) :: Z') := ⟨⟨[], by simp⟩, fun p hp => .tail _ hp⟩
    have rr : Rep hr' (O'.map (·.1)) ((D', W.listOf (List.toArray ys) ys.length) :: Z') (.ref D') (.list es) := RepL.toList (.inr ⟨_, .head _⟩) (r₃.ext (fun _ _ q => q) fun p hp => .tail _ hp)
    refine assign_tail (s := { s with heap := h, toks := tk }) hy (Sa.up (I₃.addZ f₃) xz) rr hn hC₀ hCL (fun p hp => ?_) fun h'' tk'' m'' cs' S' => kn _ _ h'' tk'' m'' cs' _ _ hr S' ((xx.trans xz).toB S.bo)
    simp only [List.mem_append, List.mem_cons] at hp
    rcases hp with hp | hp | rfl | hp
    · exact offC p (List.mem_append_left _ (List.mem_append.mpr hp))
    · exact offC p (List.mem_append_right _ (List.mem_append_left _ hp))
    · exact Ne.symm hCD
    · exact offC p (List.mem_append_right _ (List.mem_append_right _ hp))
  · have xo : Ext O' (O' ++ [(D', W.listOf (List.toArray ys) ys.length)]) Z' Z' := ⟨⟨[D'], by simp⟩, fun _ h => h⟩
    have rr : Rep hr' ((O' ++ [(D', W.listOf (List.toArray ys) ys.length)]).map (·.1)) Z' (.ref D') (.own σ₁.length) := by
      refine .own ?_
      rw [List.map_append, ← I₃.on, List.getElem?_append_right (by simp)]
      simp
    refine assign_tail (s := { s with heap := h, toks := tk }) hy (Sa.up (I₃.addO f₃ r₃) xo) rr hn hC₀ hCL (fun p hp => ?_) fun h'' tk'' m'' cs' S' => kn _ _ h'' tk'' m'' cs' _ _ hr S' ((xx.trans xo).toB S.bo)
    simp only [List.mem_append, List.mem_cons, List.not_mem_nil, or_false] at hp
    rcases hp with hp | (hp | rfl) | hp
    · exact offC p (List.mem_append_left _ (List.mem_append.mpr hp))
    · exact offC p (List.mem_append_right _ (List.mem_append_left _ hp))
    · exact Ne.symm hCD
    · exact offC p (List.mem_append_right _ (List.mem_append_right _ hp))

/-! a, b, c = .. -/
def nameOf : Expr → Option PySem.Str
  | .Name x _ => some x
  | _ => none
/-- the names of a tuple's places -/
def Names (env : Env) : List Expr → List PySem.Str → Prop
  | [], [] => True
  | e :: es, x :: xs => (∃ p, e = .Name x p) ∧ Stb env x ∧ Names env es xs
  | _, _ => False

theorem inOrder {A : Around} {hr : Heap} {outer : List Env} {ef : Env} {L : Addr} {h₀ : Heap} {X O Z : Led} {Q : Unit → Shared → Prop} :
    ∀ (elts : List Expr) (xs : List PySem.Str) (ds : List D) (vs : List Value) (ρ : Rho) (m : PySem.Str → Option Value) (cs : Led) (s : Shared), Names env elts xs → xs.length = ds.length → RepL hr (O.map (·.1)) Z vs ds →
      Cx g A hr outer ef L h₀ n → Sx b env hr L h₀ s.heap m cs X O Z ρ σ →
      (∀ h' tk m' cs', Sx b env hr L h₀ h' m' cs' X O Z ((xs.zip ds).reverse ++ ρ) σ → Q () { s with heap := h', toks := tk }) →
      wpAny (model g.prog g.w) A (assignInOrder ((assignEach elts env).map (·.2)) vs) Q NE s
  | [], [], ds, vs, ρ, m, cs, s, _, hl, r, C, S, k => assignInOrder_nil (k s.heap s.toks m cs (by simpa using S))
  | [], _ :: _, _, _, _, _, _, _, hn, _, _, _, _, _ => hn.elim
  | _ :: _, [], _, _, _, _, _, _, hn, _, _, _, _, _ => hn.elim
  | e :: es, x :: xs, [], vs, ρ, m, cs, s, _, hl, r, C, S, k => absurd hl (by simp)
  | e :: es, x :: xs, d :: ds, [], ρ, m, cs, s, _, hl, r, C, S, k => absurd r.1 (by simp)
  | e :: es, x :: xs, d :: ds, v :: vs, ρ, m, cs, s, hn, hl, r, C, S, k => by
    obtain ⟨⟨p, rfl⟩, hx, hn'⟩ := hn
    have r0 := r.2 0 v d rfl rfl
    have r1 : RepL hr (O.map (·.1)) Z vs ds := ⟨by simpa using r.1, fun i w d a b => r.2 (i + 1) w d (by simpa using a) (by simpa using b)⟩
    show wpAny _ _ (assignInOrder (assign (.Name x p) env :: (assignEach es env).map (·.2)) (v :: vs)) _ _ _
    refine assignInOrder_cons (wpAny_assign_Name (st_name hx S r0 fun h' tk m' cs' S' => ?_))
    refine inOrder es xs ds vs ((x, d) :: ρ) m' cs' { s with heap := h', toks := tk } hn' (by simpa using hl) r1 C S' fun h'' tk'' m'' cs'' S'' => ?_
    exact k h'' tk'' m'' cs'' (by simpa using S'')

theorem As.tupT {elts : List Expr} {kk : Nat} {pos : Pos} {xs : List PySem.Str} {ds : List D} (hn : Names env elts xs) (hl : xs.length = ds.length)
    (h1 : (assignEach elts env).length = xs.length) (h2 : (assignEach elts env).findIdx? (·.1) = none) : As g n b env ρ (.Tuple elts kk pos) (.tup ds) ((xs.zip ds).reverse ++ ρ) := by
  intro A hr outer ef L h₀ m cs X O Z s Q v σ C S r k
  cases r with
  | @tup a vs _ hm hl' hi =>
    have ht : IsTup s.heap a vs.toArray := News.isTup S.I.N (List.mem_append_right _ (List.mem_append_right _ hm))
    refine unpackN_ S.I.F S.I.N ht C.hh (by rw [h1, List.size_toArray, hl', hl]) h2 fun h' F' N' => ?_
    exact inOrder elts xs ds vs ρ m cs { s with heap := h' } hn hl ⟨hl', hi⟩ C ⟨S.loc, S.bo, S.I.lok.inv F' N', S.ca, S.ck, S.M⟩ k
theorem As.tupL {elts : List Expr} {kk : Nat} {pos : Pos} {xs : List PySem.Str} {ds : List D} (hn : Names env elts xs) (hl : xs.length = ds.length)
    (h1 : (assignEach elts env).length = xs.length) (h2 : (assignEach elts env).findIdx? (·.1) = none) : As g n b env ρ (.Tuple elts kk pos) (.list ds) ((xs.zip ds).reverse ++ ρ) := by
  intro A hr outer ef L h₀ m cs X O Z s Q v σ C S r k
  cases r with
  | @list a vs _ hm hl' hi =>
    refine kun_list S.I.F S.I.N (srcAt_list C S.I hm) C.hh (by rw [h1, List.size_toArray, hl', hl]) h2 fun h' F' N' => ?_
    exact inOrder elts xs ds vs ρ m cs { s with heap := h' } hn hl ⟨hl', hi⟩ C ⟨S.loc, S.bo, S.I.lok.inv F' N', S.ca, S.ck, S.M⟩ k

theorem Ex.unpack {elts : List Expr} {kk : Nat} {tpos pos : Pos} {e : Expr} {d : D} {ρ' : Rho} {rest : List Stmt} (h : Ev g n env ρ σ e d σ₁) (ha : As g n b env ρ (.Tuple elts kk tpos) d ρ')
    (hs1 : swapsWithSole [.Tuple elts kk tpos] e pos.line env = pure false) (hs2 : swappedStores [.Tuple elts kk tpos] e env = pure none)
    (hr : Ex g n b env ρ' σ₁ rest R) : Ex g n b env ρ σ (.Assign [.Tuple elts kk tpos] e pos :: rest) R := by
  refine Ex.cons (R₁ := fun o => o = .next ρ' σ₁) ?_ (fun ρ' σ' q => by cases q; exact hr) (fun d σ' q => by cases q)
  intro A hr outer ef L h₀ m cs X O Z s Q C S kn kr
  refine Assign_Tuple (h C S.I S.M fun v h₁ t₁ O₁ Z₁ I₁ x₁ rv => ?_) hs1 hs2
  exact ha C (S.up I₁ x₁) rv fun h' tk m' cs' S' => kn _ _ h' tk m' cs' O₁ Z₁ rfl S' (x₁.toB S.bo)

theorem zip_rev {α β : Type} : ∀ (xs : List α) (ys : List β), xs.length = ys.length → (xs.reverse.zip ys.reverse).reverse = xs.zip ys
  | [], [], _ => rfl
  | [], _ :: _, h => absurd h (by simp)
  | _ :: _, [], h => absurd h (by simp)
  | x :: xs, y :: ys, h => by
    have h' : xs.length = ys.length := by simpa using h
    rw [List.reverse_cons, List.reverse_cons, List.zip_append (by simp [h']), List.reverse_append, zip_rev xs ys h']
    simp

/-- two or three locals out of a tuple display: stored from the last on -/
theorem Ex.unpackS {elts : List Expr} {kk : Nat} {tpos pos : Pos} {e : Expr} {ds : List D} {xs : List PySem.Str} {rest : List Stmt} (h : Ev g n env ρ σ e (.tup ds) σ₁) (hx : ∀ x ∈ xs, Stb env x) (hl : xs.length = ds.length)
    (hs1 : swapsWithSole [.Tuple elts kk tpos] e pos.line env = pure false) (hs2 : swappedStores [.Tuple elts kk tpos] e env = pure (some xs))
    (hr : Ex g n b env (xs.zip ds ++ ρ) σ₁ rest R) : Ex g n b env ρ σ (.Assign [.Tuple elts kk tpos] e pos :: rest) R := by
  refine Ex.cons (R₁ := fun o => o = .next (xs.zip ds ++ ρ) σ₁) ?_ (fun ρ' σ' q => by cases q; exact hr) (fun d σ' q => by cases q)
  intro A hr outer ef L h₀ m cs X O Z s Q C S kn kr
  refine Assign_Tuple_swapped (h C S.I S.M fun v h₁ t₁ O₁ Z₁ I₁ x₁ rv => ?_) hs1 hs2
  cases rv with
  | @tup a vs _ hm hl' hi =>
    have ht : IsTup h₁ a vs.toArray := News.isTup I₁.N (List.mem_append_right _ (List.mem_append_right _ hm))
    refine unpackItemsN_ (s := { s with heap := h₁, toks := t₁ }) I₁.F I₁.N ht C.hh (by rw [List.size_toArray, hl', hl]) fun h' F' N' => ?_
    have go : ∀ (xs : List PySem.Str) (ds : List D) (vs : List Value) (ρ : Rho) (m : PySem.Str → Option Value) (cs : Led) (s : Shared) (Q : Unit → Shared → Prop), (∀ x ∈ xs, Stb env x) → xs.length = ds.length → RepL hr (O₁.map (·.1)) Z₁ vs ds →
        Sx b env hr L h₀ s.heap m cs X O₁ Z₁ ρ σ₁ →
        (∀ h' tk m' cs', Sx b env hr L h₀ h' m' cs' X O₁ Z₁ ((xs.zip ds).reverse ++ ρ) σ₁ → Q () { s with heap := h', toks := tk }) →
        wpAny (model g.prog g.w) A (assignInOrder (xs.map fun n => bindName env n) vs) Q NE s := by
      intro xs
      induction xs with
      | nil => intro ds vs ρ m cs s Q _ _ _ S k; exact assignInOrder_nil (k s.heap s.toks m cs (by simpa using S))
      | cons x xs ih =>
        intro ds vs ρ m cs s Q hx hl r S k
        match ds, vs, r with
        | [], _, _ => exact absurd hl (by simp)
        | _ :: _, [], r => exact absurd r.1 (by simp)
        | d :: ds, v :: vs, r =>
          have r0 := r.2 0 v d rfl rfl
          have r1 : RepL hr (O₁.map (·.1)) Z₁ vs ds := ⟨by simpa using r.1, fun i w d a b => r.2 (i + 1) w d (by simpa using a) (by simpa using b)⟩
          refine assignInOrder_cons (wpAny_bindName (st_name (hx x (.head _)) S r0 fun h' tk m' cs' S' => ?_))
          refine ih ds vs ((x, d) :: ρ) m' cs' { s with heap := h', toks := tk } Q (fun y hy => hx y (.tail _ hy)) (by simpa using hl) r1 S' fun h'' tk'' m'' cs'' S'' => ?_
          exact k h'' tk'' m'' cs'' (by simpa using S'')
    have rrev : RepL hr (O₁.map (·.1)) Z₁ vs.reverse ds.reverse := by
      refine ⟨by simp [hl'], fun i v d a b => ?_⟩
      by_cases hi' : i < vs.length
      · rw [List.getElem?_reverse hi'] at a
        rw [List.getElem?_reverse (hl' ▸ hi')] at b
        rw [← hl'] at b
        exact hi _ _ _ a b
      · rw [List.getElem?_eq_none (by simpa using Nat.le_of_not_lt hi')] at a; cases a
    have S₁ := S.up I₁ x₁
    refine go xs.reverse ds.reverse vs.toArray.toList.reverse ρ m cs { s with heap := h', toks := t₁ } _ (fun x hx' => hx x (by simpa using hx')) (by simp [hl]) (by simpa using rrev) ⟨S₁.loc, S₁.bo, S₁.I.lok.inv F' N', S₁.ca, S₁.ck, S₁.M⟩ fun h'' tk'' m'' cs'' S'' => ?_
    have ez : (xs.reverse.zip ds.reverse).reverse = xs.zip ds := by
      exact zip_rev xs ds hl
    rw [ez] at S''
    exact kn _ _ h'' tk'' m'' cs'' O₁ Z₁ rfl S'' (x₁.toB S.bo)
end
end Mine

namespace Mine
open PySem PySem.W PySem.Calls PySem.Spec PyProof.Rows

theorem xorN (a b : Nat) : Builtin.bitXor (a : Int) (b : Int) = ((a ^^^ b : Nat) : Int) := by
  have h : ∀ a b : Nat, 2 * (a &&& b) + (a ^^^ b) = a + b := by
    intro a
    induction a using Nat.strongRecOn with
    | _ a ih =>
      intro b
      by_cases h0 : a = 0
      · subst h0; simp
      · have e1 := ih (a / 2) (by omega) (b / 2)
        have a1 : (a &&& b) / 2 = a / 2 &&& b / 2 := Nat.and_div_two
        have a2 : (a ^^^ b) / 2 = a / 2 ^^^ b / 2 := Nat.xor_div_two
        rw [← a1, ← a2] at e1
        have b1 : (a &&& b) % 2 = (a % 2) * (b % 2) := by
          have q : (a &&& b) % 2 = (a % 2) &&& (b % 2) := by
            have := Nat.and_mod_two_pow (a := a) (b := b) (n := 1)
            simpa using this
          rw [q]
          rcases Nat.mod_two_eq_zero_or_one a with x | x <;> rcases Nat.mod_two_eq_zero_or_one b with y | y <;> rw [x, y] <;> rfl
        have b2 : (a ^^^ b) % 2 = (a % 2 + b % 2) % 2 := by
          have q : (a ^^^ b) % 2 = (a % 2) ^^^ (b % 2) := by
            have := Nat.xor_mod_two_pow (a := a) (b := b) (n := 1)
            simpa using this
          rw [q]
          rcases Nat.mod_two_eq_zero_or_one a with x | x <;> rcases Nat.mod_two_eq_zero_or_one b with y | y <;> rw [x, y] <;> rfl
        have d1 := Nat.div_add_mod (a &&& b) 2
        have d2 := Nat.div_add_mod (a ^^^ b) 2
        have d3 := Nat.div_add_mod a 2
        have d4 := Nat.div_add_mod b 2
        rcases Nat.mod_two_eq_zero_or_one a with x | x <;> rcases Nat.mod_two_eq_zero_or_one b with y | y <;> rw [x, y] at b1 b2 <;> omega
  rw [bitXor_and]
  have e : Builtin.bitAnd (a : Int) (b : Int) = ((a &&& b : Nat) : Int) := by
    unfold Builtin.bitAnd
    simp
  rw [e]
  have := h a b
  omega
theorem andN (a b : Nat) : Builtin.bitAnd (a : Int) (b : Int) = ((a &&& b : Nat) : Int) := by
  unfold Builtin.bitAnd
  simp
theorem shrN (a b : Nat) : Int.fdiv (a : Int) (2 ^ (b : Int).toNat) = ((a >>> b : Nat) : Int) := by
  rw [Nat.shiftRight_eq_div_pow, Int.toNat_natCast]
  have : (2 ^ b : Int) = ((2 ^ b : Nat) : Int) := by simp
  rw [this, Int.fdiv_eq_ediv_of_nonneg _ (Int.natCast_nonneg _)]; rfl
theorem shlN (a b : Nat) : (a : Int) * 2 ^ (b : Int).toNat = ((a <<< b : Nat) : Int) := by
  rw [Nat.shiftLeft_eq, Int.toNat_natCast]; simp
theorem modN (a b : Nat) : Int.fmod (a : Int) (b : Int) = ((a % b : Nat) : Int) := by
  rw [Int.fmod_eq_emod_of_nonneg _ (Int.natCast_nonneg _)]; rfl
theorem divN (a b : Nat) : Int.fdiv (a : Int) (b : Int) = ((a / b : Nat) : Int) := by
  rw [Int.fdiv_eq_ediv_of_nonneg _ (Int.natCast_nonneg _)]; rfl

section
variable {g : Gl} {n : Nat} {env : Env} {ρ : Rho} {σ : Sig}
theorem Ev.nat {k : Nat} {kk : Nat} {pos : Pos} : Ev g n env ρ σ (.Constant (.int (k : Int)) kk pos) (.int (k : Int)) σ := Ev.int
theorem opn_xor (a b : Nat) : Op2 g n (binaryOp .BitXor) σ (.int a) (.int b) (.int (a ^^^ b : Nat)) := xorN a b ▸ op_xor (a : Int) b
theorem opn_ixor (a b : Nat) : Op2 g n (inplaceOp .BitXor) σ (.int a) (.int b) (.int (a ^^^ b : Nat)) := xorN a b ▸ op_ixor (a : Int) b
theorem opn_and (a b : Nat) : Op2 g n (binaryOp .BitAnd) σ (.int a) (.int b) (.int (a &&& b : Nat)) := andN a b ▸ op_and (a : Int) b
theorem opn_shr (a b : Nat) : Op2 g n (binaryOp .RShift) σ (.int a) (.int b) (.int (a >>> b : Nat)) := shrN a b ▸ op_shr (a : Int) b (Int.natCast_nonneg _)
theorem opn_shl (a b : Nat) (h1 : b ≤ 1000000) (h2 : a < 2 ^ 64) : Op2 g n (binaryOp .LShift) σ (.int a) (.int b) (.int (a <<< b : Nat)) := shlN a b ▸ op_shl (a : Int) b (Int.natCast_nonneg _) (by omega) (by simpa using h2)
theorem opn_mod (a b : Nat) (h : b ≠ 0) : Op2 g n (binaryOp .Mod) σ (.int a) (.int b) (.int (a % b : Nat)) := modN a b ▸ op_mod (a : Int) b (by omega)
theorem opn_div (a b : Nat) (h : b ≠ 0) (hs : b < 1073741824) : Op2 g n (binaryOp .FloorDiv) σ (.int a) (.int b) (.int (a / b : Nat)) := divN a b ▸ op_div (a : Int) b (by omega) (by simpa using hs)
theorem opn_add (a b : Nat) : Op2 g n (binaryOp .Add) σ (.int a) (.int b) (.int (a + b : Nat)) := by
  have := op_add (g := g) (n := n) (σ := σ) (a : Int) b
  rwa [← Int.natCast_add] at this
theorem opn_sub (a b : Nat) (h : b ≤ a) : Op2 g n (binaryOp .Sub) σ (.int a) (.int b) (.int (a - b : Nat)) := by
  have := op_sub (g := g) (n := n) (σ := σ) (a : Int) b
  rwa [← Int.natCast_sub h] at this
theorem opn_eq (a b : Nat) : Op2 g n (compareOp .Eq) σ (.int a) (.int b) (.bool (a == b)) := by
  have := op_eq (g := g) (n := n) (σ := σ) (a : Int) b
  have e : ((a : Int) == (b : Int)) = (a == b) := by
    rw [Bool.eq_iff_iff]; simp only [beq_iff_eq]; omega
  rwa [e] at this
end

/-- rows of natural numbers -/
abbrev nL (ns : List Nat) : List D := ns.map fun (k : Nat) => D.int (k : Int)
theorem nL_get {ns : List Nat} {i : Nat} {d : D} (h : (nL ns)[i]? = some d) : ∃ k, ns[i]? = some k ∧ d = .int (k : Int) := by
  rw [List.getElem?_map] at h
  cases e : ns[i]? with
  | none => rw [e] at h; cases h
  | some k => rw [e] at h; exact ⟨k, rfl, by simpa using h.symm⟩
theorem nL_iLs (ns : List Nat) : nL ns = iLs (ns.map fun (k : Nat) => (k : Int)) := by simp [nL, iLs]
theorem low_nL {k : Nat} (ns : List Nat) : ∀ d ∈ nL ns, Low k d := fun d hd => by
  obtain ⟨i, _, rfl⟩ := List.mem_map.mp hd; exact .int _

/-! parts of a written top -/
def fdBody : Stmt → List Stmt
  | .FunctionDef _ _ b _ _ _ _ _ _ _ => b
  | _ => []
def fdScope : Stmt → Scope
  | .FunctionDef _ _ _ _ _ _ s _ _ _ => s
  | _ => default
def fdArgs : Stmt → Arguments
  | .FunctionDef _ a _ _ _ _ _ _ _ _ => a
  | _ => default
def stAt (p : Program) (k : Nat) : Stmt := p.main.body.getD k (.Pass default)

/-- the def of that name stands in the written part -/
def HasFn (K : Frag) (name : PySem.Str) (st : Stmt) (a : Addr) : Prop :=
  nsIn K mainGlobals name = some (some (.ref a)) ∧ keepIn K (.ref a) = true ∧
  ∃ oc od doc pm an cdv ct osl, K.lookup a = some ⟨oc, od, .func (fnOf name name (fdArgs st) (fdBody st) (fdScope st) .none .none doc pm an cdv ct), osl⟩ ∧ codeIn K cdv name = true

/-- a def's meaning by its body -/
theorem fn_of {g : Gl} {n : Nat} {name : PySem.Str} {st : Stmt} {a : Addr} {ds : List D} {d : D} (xs : List PySem.Str)
    (hf : HasFn g.K name st a)
    (hb : ∀ doc pm an cdv ct, ∀ vs : List Value, vs.length = xs.length → ∀ s, BindsTo s (fnOf name name (fdArgs st) (fdBody st) (fdScope st) .none .none doc pm an cdv ct) ⟨vs, []⟩ (xs.zip vs))
    (hl : xs.length = ds.length) (hxn : xs.Nodup)
    (hkind : ∀ x ∈ xs, (fdScope st).names.lookup x = some .local ∨ ((fdScope st).names.lookup x = some .cell ∧ ((cellsFrom 0 (fdScope st).names []).lookup x).isSome = true))
    (hnd : ((cellsFrom 0 (fdScope st).names []).map (·.1)).Nodup)
    (hco : (fdScope st).isCoroutine = false) (hgen : (fdScope st).isGenerator = false) (hk : (fdScope st).kind = .function)
    (hbody : ∀ L' cdv, Ex g n 0 (envOfC name (fdScope st) L' a cdv) (xs.zip ds) [] (fdBody st) (fun o => ∃ σ', o = .ret d σ'))
    (hno : Low 0 d) : OpN g (n + 1) (fun vs => call (.ref a) vs) [] ds d [] := by
  obtain ⟨_, _, oc, od, doc, pm, an, cdv, ct, osl, ho, hcd⟩ := hf
  exact fn_pure ho hcd (hb doc pm an cdv ct) hl hxn hkind hnd hco hgen hk (fun L' => hbody L' cdv) hno
end Mine

namespace Mine
open PySem PySem.W PySem.Calls PySem.Spec PyProof.Rows

/-- b knows at least what a says -/
def SubR : Rho → Rho → Prop
  | [], _ => True
  | p :: r, b => b.lookup p.1 = some p.2 ∧ SubR r b
theorem SubR.get {b : Rho} {x : PySem.Str} {d : D} : ∀ {a : Rho}, SubR a b → a.lookup x = some d → b.lookup x = some d
  | [], _, h => by simp at h
  | (y, e) :: r, s, h => by
    rw [List.lookup_cons] at h
    by_cases q : x = y
    · subst q; simp at h; subst h; exact s.1
    · have : (x == y) = false := by simp [q]
      rw [this] at h
      exact SubR.get s.2 h

section
variable {g : Gl} {n : Nat} {b : Nat} {env : Env} {ρ : Rho} {σ σ₁ σ₂ σ₃ : Sig} {R : Out → Prop}

theorem Ex.weak {body : List Stmt} (ρ' : Rho) (h : SubR ρ' ρ) (k : Ex g n b env ρ' σ body R) : Ex g n b env ρ σ body R := Ex.sub (fun _ _ e => h.get e) k

def Till (R : Out → Prop) (ρ' : Rho) (σ' : Sig) : Out → Prop
  | .next ρ'' σ'' => SubR ρ' ρ'' ∧ σ'' = σ'
  | .ret d σ'' => R (.ret d σ'')

theorem Ex.forI {x : PySem.Str} {px : Pos} {iter : Expr} {body rest : List Stmt} {pos : Pos} {d : D} {ds : List D} (ρI : Nat → Rho) (σI : Nat → Sig) (hx : Stb env x)
    (hit : Ev g n env ρ σ iter d (σI 0)) (hi : itemsOf d = some ds) (hlow : ∀ d ∈ ds, Low b d)
    (hs : ∀ x, foldedSetIterable iter env x = pure x) (h0 : SubR (ρI 0) ρ)
    (step : ∀ (i : Nat) di, ds[i]? = some di → Ex g n b env ((x, di) :: ρI i) (σI i) body (Till R (ρI (i + 1)) (σI (i + 1))))
    (hrest : Ex g n b env (ρI ds.length) (σI ds.length) rest R) : Ex g n b env ρ σ (.For (.Name x px) iter body [] pos :: rest) R := by
  refine Ex.forN hx hit hi hlow hs (fun i ρ' σ' => SubR (ρI i) ρ' ∧ σ' = σI i) ⟨h0, rfl⟩ (fun i di ρ' σ' hd hJ => ?_) (fun ρ' σ' hJ => ?_)
  · obtain ⟨h1, rfl⟩ := hJ
    refine Ex.sub (ρ' := (x, di) :: ρI i) (fun y e hy => ?_) (Ex.mono (fun o ho => ?_) (step i di hd))
    · rw [List.lookup_cons] at hy ⊢
      split at hy
      · exact hy
      · exact h1.get hy
    · cases o with
      | next ρ'' σ'' => exact ho
      | ret d σ'' => exact ho
  · obtain ⟨h1, rfl⟩ := hJ
    exact Ex.weak _ h1 hrest

/-- a while by its turns: c tells whether the k-th turn is made -/
theorem Ex.whileI {test : Expr} {body rest : List Stmt} {pos : Pos} (ρI : Nat → Rho) (σI : Nat → Sig) (N : Nat) (h0 : SubR (ρI 0) ρ) (hσ : σ = σI 0)
    (ht : ∀ k, k < N → Tr g n env (ρI k) (σI k) test true (σI k))
    (hf : Tr g n env (ρI N) (σI N) test false (σI N))
    (step : ∀ k, k < N → Ex g n b env (ρI k) (σI k) body (Till R (ρI (k + 1)) (σI (k + 1))))
    (hrest : Ex g n b env (ρI N) (σI N) rest R) : Ex g n b env ρ σ (.While test body [] pos :: rest) R := by
  subst hσ
  refine Ex.while (fun k ρ' σ' => ∃ i, i ≤ N ∧ k = N - i ∧ SubR (ρI i) ρ' ∧ σ' = σI i) N ⟨0, Nat.zero_le _, rfl, h0, rfl⟩ ?_
  rintro k ρ' σ' ⟨i, hi, rfl, hs, rfl⟩
  have trUp : ∀ {c : Bool}, Tr g n env (ρI i) (σI i) test c (σI i) → Tr g n env ρ' (σI i) test c (σI i) := by
    intro c h A hr outer ef L h₀ m X O Z s Q C I M kk
    exact h C I (fun x d e => M x d (hs.get e)) kk
  by_cases hlt : i < N
  · refine ⟨true, trUp (ht i hlt), fun _ => ?_, (fun e => by cases e)⟩
    refine Ex.weak _ hs (Ex.mono (fun o ho => ?_) (step i hlt))
    cases o with
    | next ρ'' σ'' => exact ⟨N - (i + 1), by omega, i + 1, hlt, rfl, ho.1, ho.2⟩
    | ret d σ'' => exact ho
  · have e : i = N := by omega
    subst e
    exact ⟨false, trUp hf, (fun e => by cases e), fun _ => Ex.weak _ hs hrest⟩

/-! natural numbers -/
theorem Tr.nat {e : Expr} {k : Nat} (h : Ev g n env ρ σ e (.int (k : Int)) σ₁)
    (hp : ∀ whole, PySem.isTrue e env whole = (do let v ← whole; standAt e.pos; holding [v] (truthy v))) : Tr g n env ρ σ e (k != 0) σ₁ := by
  have := Tr.plainI h hp
  have e : ((k : Int) != 0) = (k != 0) := by
    rw [Bool.eq_iff_iff]; simp only [bne_iff_ne]; omega
  rwa [e] at this
theorem Ev.iteN {test body orelse : Expr} {pos : Pos} {c : Bool} {i j : Nat} (ht : Tr g n env ρ σ test c σ₁) (h1 : c = true → Ev g n env ρ σ₁ body (.int (i : Int)) σ₂) (h2 : c = false → Ev g n env ρ σ₁ orelse (.int (j : Int)) σ₂) : Ev g n env ρ σ (.IfExp test body orelse pos) (.int ((if c = true then i else j : Nat) : Int)) σ₂ :=
  Ev.ite ht (fun e => by rw [if_pos e]; exact h1 e) (fun e => by rw [if_neg (by simp [e])]; exact h2 e)
theorem Ev.itemN {value slice : Expr} {pos : Pos} {ns : List Nat} {k : Nat} (hv : Ev g n env ρ σ value (.list (nL ns)) σ₁) (hs : Ev g n env ρ σ₁ slice (.int (k : Int)) σ₂)
    (hk : k < ns.length) (hz : ns.length ≤ 2 ^ 20)
    (hsub : ∀ a t, subscripted slice false (.ref a) (.int (k : Int) t) = operate [.ref a, .int (k : Int) t] (getItem (.ref a) (.int (k : Int) t))) :
    Ev g n env ρ σ (.Subscript value slice pos) (.int ((ns.getD k 0 : Nat) : Int)) σ₂ :=
  Ev.item hv hs (Int.natCast_nonneg _) (by omega) (by rw [Int.toNat_natCast, List.getElem?_map, List.getElem?_eq_getElem hk]; simp [hk]) hsub

theorem opn_mul (a b : Nat) (h : IntMulOk (a : Int) (b : Int)) : Op2 g n (binaryOp .Mult) σ (.int a) (.int b) (.int (a * b : Nat)) := by
  have := op_mul (g := g) (n := n) (σ := σ) (a : Int) b h
  rwa [← Int.natCast_mul] at this
theorem opn_lt (a b : Nat) : Op2 g n (compareOp .Lt) σ (.int a) (.int b) (.bool (decide (a < b))) := by
  have := op_lt (g := g) (n := n) (σ := σ) (a : Int) b
  have e : decide ((a : Int) < (b : Int)) = decide (a < b) := by
    rw [Bool.eq_iff_iff]; simp only [decide_eq_true_eq]; omega
  rwa [e] at this
theorem opn_gt (a b : Nat) : Op2 g n (compareOp .Gt) σ (.int a) (.int b) (.bool (decide (b < a))) := by
  have := op_gt (g := g) (n := n) (σ := σ) (a : Int) b
  have e : decide ((b : Int) < (a : Int)) = decide (b < a) := by
    rw [Bool.eq_iff_iff]; simp only [decide_eq_true_eq]; omega
  rwa [e] at this
theorem opn_ge (a b : Nat) : Op2 g n (compareOp .GtE) σ (.int a) (.int b) (.bool (decide (b ≤ a))) := by
  have := op_ge (g := g) (n := n) (σ := σ) (a : Int) b
  have e : decide ((b : Int) ≤ (a : Int)) = decide (b ≤ a) := by
    rw [Bool.eq_iff_iff]; simp only [decide_eq_true_eq]; omega
  rwa [e] at this
theorem opn_ne (a b : Nat) : Op2 g n (compareOp .NotEq) σ (.int a) (.int b) (.bool (a != b)) := by
  have := op_ne (g := g) (n := n) (σ := σ) (a : Int) b
  have e : ((a : Int) != (b : Int)) = (a != b) := by
    rw [Bool.eq_iff_iff]; simp only [bne_iff_ne]; omega
  rwa [e] at this

theorem bt_range : bootBuiltins "range" = some (.type "range") := by decide +kernel
theorem bt_list : bootBuiltins "list" = some (.type "list") := by decide +kernel
theorem bt_len : bootBuiltins "len" = some (.builtin "len") := by decide +kernel
theorem bt_abs : bootBuiltins "abs" = some (.builtin "abs") := by decide +kernel
theorem bt_chr : bootBuiltins "chr" = some (.builtin "chr") := by decide +kernel
theorem bt_ord : bootBuiltins "ord" = some (.builtin "ord") := by decide +kernel
theorem bt_min : bootBuiltins "min" = some (.builtin "min") := by decide +kernel
theorem bt_max : bootBuiltins "max" = some (.builtin "max") := by decide +kernel
theorem bt_isi : bootBuiltins "isinstance" = some (.builtin "isinstance") := by decide +kernel
theorem bt_int : bootBuiltins "int" = some (.type "int") := by decide +kernel
theorem bt_bool : bootBuiltins "bool" = some (.type "bool") := by decide +kernel

/-- a built-in's name that the text does not bind -/
def NoName (K : Frag) (x : PySem.Str) : Prop := nsIn K mainGlobals x = some none
end
end Mine

namespace Mine
open PySem PySem.W PySem.Calls PySem.Spec PyProof.Rows

def FrR (ρ : Rho) (k : Nat) (ds : List D) : Rho → Prop
  | [] => True
  | p :: r => ((ρ.lookup p.1 = some (.own k) ∧ p.2 = .list ds) ∨ (ρ.lookup p.1 = some p.2 ∧ Low k p.2)) ∧ FrR ρ k ds r
theorem FrR.all {ρ : Rho} {k : Nat} {ds : List D} : ∀ {r : Rho}, FrR ρ k ds r → ∀ p ∈ r, (ρ.lookup p.1 = some (.own k) ∧ p.2 = .list ds) ∨ (ρ.lookup p.1 = some p.2 ∧ Low k p.2)
  | [], _, p, hp => by cases hp
  | q :: r, h, p, hp => by
    rcases List.mem_cons.mp hp with rfl | hp
    · exact h.1
    · exact FrR.all h.2 p hp

def FreeR (env : Env) (scope : Scope) (cl : List (PySem.Str × Addr)) (ρ : Rho) : Rho → Prop
  | [] => True
  | p :: r => (ρ.lookup p.1 = some p.2 ∧ (∀ C, (compEnvC scope cl C env).kindOf p.1 = some .cell) ∧ env.kindOf p.1 = some .cell ∧ cl.lookup p.1 = env.cells.lookup p.1) ∧ FreeR env scope cl ρ r
theorem FreeR.ok {env : Env} {scope : Scope} {cl : List (PySem.Str × Addr)} {ρ : Rho} : ∀ {r : Rho}, FreeR env scope cl ρ r → FreeOk env scope cl ρ r
  | [], _, p, hp => by cases hp
  | q :: r, h, p, hp => by
    rcases List.mem_cons.mp hp with rfl | hp
    · exact h.1
    · exact FreeR.ok h.2 p hp

section
variable {g : Gl} {n : Nat} {b : Nat} {env : Env} {ρ : Rho} {σ σ₁ σ₂ σ₃ : Sig} {R : Out → Prop}

theorem Ex.frz {body : List Stmt} {ds : List D} (σ : Sig) (ρ' : Rho) (hb : b ≤ σ.length) (hρ : FrR ρ σ.length ds ρ')
    (hds : ∀ d ∈ ds, Low σ.length d) (hσ : ∀ l ∈ σ, ∀ d ∈ l, Low σ.length d)
    (h : Ex g n b env ρ' σ body R) : Ex g n b env ρ (σ ++ [ds]) body R := Ex.freeze hb hρ.all hds hσ h

theorem idx_cast (k : Nat) : ∀ ns : List Nat, (ns.map fun (k : Nat) => (k : Int)).idxOf (k : Int) = ns.idxOf k
  | [] => rfl
  | y :: ys => by
    simp only [List.map_cons, List.idxOf_cons]
    have : ((y : Int) == (k : Int)) = (y == k) := by rw [Bool.eq_iff_iff]; simp only [beq_iff_eq]; omega
    rw [this, idx_cast k ys]

theorem Ev.indexO {x : PySem.Str} {p1 p2 pos : Pos} {e : Expr} {j : Nat} {ns : List Nat} {k : Nat} (hx : ρ.lookup x = some (.own j)) (hdb : (x == ("__debug__" : PySem.Str)) = false)
    (h : Ev g n env ρ σ e (.int (k : Int)) σ) (hj : σ[j]? = some (nL ns)) (hk : k ∈ ns) (hlay : (PyData.list ((ns.map fun (k : Nat) => (k : Int)).map PyData.int)).layable0 = true)
    (hst : starEach [e] env = (false, eval e env) :: starEach [] env) (pl : Sem Bool)
    (hpl : eval (.Call (.Attribute (.Name x p1) (PySem.Str.ofString "index") p2) [e] [] pos) env = (do
      let ov ← eval (.Name x p1) env
      standAt p2.atName
      let (f, first) ← holding [ov] (getMethod ov (PySem.Str.ofString "index") pl)
      callWith pos f first (backTo pos (starEach [e] env)) [])) :
    Ev g n env ρ σ (.Call (.Attribute (.Name x p1) (PySem.Str.ofString "index") p2) [e] [] pos) (.int ((ns.idxOf k : Nat) : Int)) σ := by
  intro A hr outer ef L h₀ m X O Z s Q C I M kk
  refine MethodCall_ (pl := pl) ?_ hpl
  obtain ⟨v, hlv, hv⟩ := M x _ hx
  refine wpAny_Name (loc_load hlv I.F I.N ?_) hdb
  cases hv with
  | @own a _ ha =>
    obtain ⟨us, c, hO, hg, ru⟩ := I.owned ha hj
    have hin : (a, W.listOf us.toArray c) ∈ X ++ (O ++ Z) := List.mem_append_right _ (List.mem_append_left _ (List.mem_of_getElem? hO))
    refine kf_method I.N hin PySem.F.slot_list_index PySem.F.type_list_index ?_
    show wpAny _ _ (callWith pos (.builtin "list.index") [.ref a] (backTo pos (starEach [e] env)) []) _ _ _
    refine callWith_builtin (by rw [hst]; rfl) ?_
    rw [hst]
    refine evalArgs_plain ?_
    show wpAny _ _ (spliced (backTo pos ((false, eval e env) :: starEach [] env))) _ _ _
    rw [← hst]
    refine spliced_more (h C I M fun w h₁ t₁ O₁ Z₁ I₁ x₁ rw' => spliced_none ?_) hst
    cases rw'
    have hO₁ : (O₁.map (·.1))[j]? = some a := x₁.as j a ha
    obtain ⟨us', c', hO', hg', ru'⟩ := I₁.owned hO₁ hj
    have il : IntsAre us' (ns.map fun (k : Nat) => (k : Int)) := intsAre_of _ (nL_iLs ns ▸ ru')
    show wpAny _ _ (call (.builtin "list.index") [.ref a, .int (k : Int) _]) _ _ _
    refine index_list_ints ⟨_, hg', rfl, c', rfl⟩ il hlay (List.mem_map_of_mem hk) ?_
    rw [idx_cast]
    exact kk _ h₁ _ O₁ Z₁ I₁ x₁ (.int _ _)

theorem Ex.whileC {test : Expr} {body rest : List Stmt} {pos : Pos} (ρI : Nat → Rho) (σI : Nat → Sig) (c : Nat → Bool) (N : Nat) (h0 : SubR (ρI 0) ρ) (hσ : σ = σI 0)
    (hc : ∀ k, k < N → c k = true) (hN : c N = false)
    (ht : ∀ k, k ≤ N → Tr g n env (ρI k) (σI k) test (c k) (σI k))
    (step : ∀ k, k < N → Ex g n b env (ρI k) (σI k) body (Till R (ρI (k + 1)) (σI (k + 1))))
    (hrest : Ex g n b env (ρI N) (σI N) rest R) : Ex g n b env ρ σ (.While test body [] pos :: rest) R :=
  Ex.whileI ρI σI N h0 hσ (fun k hk => hc k hk ▸ ht k (Nat.le_of_lt hk)) (hN ▸ ht N (Nat.le_refl _)) step hrest

theorem Ev.itemON {value slice : Expr} {pos : Pos} {ns : List Nat} {j k : Nat} (hv : Ev g n env ρ σ value (.own j) σ₁) (hs : Ev g n env ρ σ₁ slice (.int (k : Int)) σ₂) (hj : σ₂[j]? = some (nL ns))
    (hk : k < ns.length) (hz : ns.length ≤ 2 ^ 20)
    (hsub : ∀ a t, subscripted slice false (.ref a) (.int (k : Int) t) = operate [.ref a, .int (k : Int) t] (getItem (.ref a) (.int (k : Int) t))) :
    Ev g n env ρ σ (.Subscript value slice pos) (.int ((ns.getD k 0 : Nat) : Int)) σ₂ :=
  Ev.itemO hv hs hj (Int.natCast_nonneg _) (by omega) (by rw [Int.toNat_natCast, List.getElem?_map, List.getElem?_eq_getElem hk]; simp [hk]) hsub

/-! an expression whose value is told twice -/
theorem Ev.conv {e : Expr} {d d' : D} (h : Ev g n env ρ σ e d σ₁) (q : d = d') : Ev g n env ρ σ e d' σ₁ := q ▸ h
theorem EvF.conv {e : Expr} {d d' : List D} (h : EvF g n env ρ σ e d σ₁) (q : d = d') : EvF g n env ρ σ e d' σ₁ := q ▸ h
end

/-! helpers over plain lists -/
theorem take_succ_foldl {α β : Type} (f : β → α → β) (b : β) {l : List α} {i : Nat} {x : α} (h : l[i]? = some x) : (l.take (i + 1)).foldl f b = f ((l.take i).foldl f b) x := by
  rw [List.take_add_one, h]; simp
theorem range_succ_foldl {β : Type} (f : β → Nat → β) (b : β) (i : Nat) : (List.range (i + 1)).foldl f b = f ((List.range i).foldl f b) i := by
  rw [List.range_succ]; simp
theorem rng_get {a : Int} {k j : Nat} {d : D} (h : ((List.range k).map fun i => D.int (a + (i : Nat)))[j]? = some d) : j < k ∧ d = .int (a + (j : Nat)) := by
  rw [List.getElem?_map] at h
  by_cases h5 : j < k
  · rw [List.getElem?_range h5] at h
    exact ⟨h5, by simpa using h.symm⟩
  · rw [List.getElem?_eq_none (by simpa using h5)] at h; cases h
theorem rng_get0 {k j : Nat} {d : D} (h : ((List.range k).map fun i => D.int ((0 : Int) + (i : Nat)))[j]? = some d) : j < k ∧ d = .int (j : Nat) := by
  obtain ⟨a, b⟩ := rng_get h
  exact ⟨a, by rw [b]; simp⟩
theorem low_rng {b k : Nat} {a : Int} : ∀ d ∈ ((List.range k).map fun i => D.int (a + (i : Nat))), Low b d := fun d hd => by
  obtain ⟨k, _, rfl⟩ := List.mem_map.mp hd; exact .int _
abbrev sD (cs : List Nat) : D := .str ⟨cs.toArray⟩
theorem sD_get {cs : List Nat} {i : Nat} {d : D} (h : (cs.map fun c => D.str ⟨#[c]⟩)[i]? = some d) : ∃ c, cs[i]? = some c ∧ d = .str ⟨#[c]⟩ := by
  rw [List.getElem?_map] at h
  cases e : cs[i]? with
  | none => rw [e] at h; cases h
  | some k => rw [e] at h; exact ⟨k, rfl, by simpa using h.symm⟩

/-- the digits of N to the base B, the lowest first, `most` at most -/
def digT (B : Nat) : Nat → Nat → Nat
  | 0, _ => 0
  | f + 1, N => if B ≤ N then digT B f (N / B) + 1 else 0
theorem digT_spec (B : Nat) : ∀ f N, (∀ k, k < digT B f N → B ≤ N / B ^ k ∧ k < f) ∧ ¬ (B ≤ N / B ^ digT B f N ∧ digT B f N < f)
  | 0, N => ⟨fun k h => absurd h (Nat.not_lt_zero _), fun h => absurd h.2 (Nat.lt_irrefl _)⟩
  | f + 1, N => by
    unfold digT
    by_cases h : B ≤ N
    · rw [if_pos h]
      obtain ⟨a, b⟩ := digT_spec B f (N / B)
      have e : ∀ k, N / B ^ (k + 1) = N / B / B ^ k := fun k => by rw [Nat.pow_succ, Nat.mul_comm, Nat.div_div_eq_div_mul]
      refine ⟨fun k hk => ?_, fun q => b ?_⟩
      · cases k with
        | zero => exact ⟨by simpa using h, Nat.succ_pos _⟩
        | succ k => rw [e]; exact ⟨(a k (by omega)).1, by have := (a k (by omega)).2; omega⟩
      · rw [e] at q; exact ⟨q.1, by omega⟩
    · rw [if_neg h]
      exact ⟨fun k hk => absurd hk (Nat.not_lt_zero _), fun q => h (by simpa using q.1)⟩
def digN (N B most : Nat) : List Nat := (List.range (digT B (most - 1) N + 1)).map fun i => N / B ^ i % B
theorem digT_le (B f N : Nat) : digT B f N ≤ f := by
  rcases Nat.eq_zero_or_pos (digT B f N) with h | h
  · omega
  · have := ((digT_spec B f N).1 (digT B f N - 1) (by omega)).2; omega
theorem digN_len (N B most : Nat) : 1 ≤ (digN N B most).length ∧ (digN N B most).length ≤ max most 1 := by
  have := digT_le B (most - 1) N
  simp only [digN, List.length_map, List.length_range]
  omega
theorem digN_lt {N B most : Nat} (hB : 0 < B) : ∀ x ∈ digN N B most, x < B := fun x hx => by
  obtain ⟨i, _, rfl⟩ := List.mem_map.mp hx; exact Nat.mod_lt _ hB
def atI (xs : List Int) (k : Nat) (o : Int) : Int := if k < xs.length then xs.getD k 0 else o
end Mine

namespace Mine
open PySem PySem.W PySem.Calls PySem.Spec PyProof.Rows
section
variable {g : Gl} {n : Nat} {b : Nat} {env : Env} {ρ : Rho} {σ σ₁ σ₂ σ₃ : Sig} {R : Out → Prop}
theorem opn_neL (a : List Nat) : Op2 g n (compareOp .NotEq) σ (.list (nL a)) (.list (nL a)) (.bool false) := by
  have := op_neI (g := g) (n := n) (σ := σ) (a.map fun (k : Nat) => (k : Int)) (a.map fun (k : Nat) => (k : Int))
  rw [← nL_iLs] at this
  simpa using this
theorem map_cast_inj : ∀ {a c : List Nat}, (a.map fun (k : Nat) => (k : Int)) = (c.map fun (k : Nat) => (k : Int)) → a = c
  | [], [], _ => rfl
  | [], _ :: _, h => by simp at h
  | _ :: _, [], h => by simp at h
  | x :: xs, y :: ys, h => by
    simp only [List.map_cons, List.cons.injEq] at h
    rw [map_cast_inj h.2, Int.ofNat_inj.mp h.1]
theorem opn_eqL (a c : List Nat) : Op2 g n (compareOp .Eq) σ (.list (nL a)) (.list (nL c)) (.bool (decide (a = c))) := by
  have := op_eqI (g := g) (n := n) (σ := σ) (a.map fun (k : Nat) => (k : Int)) (c.map fun (k : Nat) => (k : Int))
  rw [← nL_iLs, ← nL_iLs] at this
  have e : decide ((a.map fun (k : Nat) => (k : Int)) = c.map fun (k : Nat) => (k : Int)) = decide (a = c) := by
    by_cases q : a = c
    · subst q; simp
    · rw [decide_eq_false q, decide_eq_false (fun h => q (map_cast_inj h))]
  rwa [e] at this
theorem opn_neL' (a c : List Nat) : Op2 g n (compareOp .NotEq) σ (.list (nL a)) (.list (nL c)) (.bool (!decide (a = c))) := by
  have := op_neI (g := g) (n := n) (σ := σ) (a.map fun (k : Nat) => (k : Int)) (c.map fun (k : Nat) => (k : Int))
  rw [← nL_iLs, ← nL_iLs] at this
  have e : decide ((a.map fun (k : Nat) => (k : Int)) = c.map fun (k : Nat) => (k : Int)) = decide (a = c) := by
    by_cases q : a = c
    · subst q; simp
    · rw [decide_eq_false q, decide_eq_false (fun h => q (map_cast_inj h))]
  rwa [e] at this
theorem opn_pow (a b : Nat) (h1 : b ≤ 1000000) (h2 : a < 2 ^ 64) : Op2 g n (binaryOp .Pow) σ (.int a) (.int b) (.int (a ^ b : Nat)) := by
  have := op_pow (g := g) (n := n) (σ := σ) (a : Int) b (Int.natCast_nonneg _) (by omega) (by simpa using h2)
  rw [Int.toNat_natCast] at this
  rwa [Int.natCast_pow]
theorem pick_no : ∀ (ks : List Bool) (es : List D), (∀ k ∈ ks, k = false) → pick ks es = []
  | [], es, _ => by simp [pick]
  | k :: ks, [], _ => by simp [pick]
  | k :: ks, e :: es, h => by
    have h1 : k = false := h k (.head _)
    subst h1
    have := pick_no ks es (fun x hx => h x (.tail _ hx))
    simp only [pick] at this ⊢
    simpa using this

abbrev pD (s : Nat × Nat) : D := .tup [.int (s.1 : Int), .int (s.2 : Int)]
theorem plain_pD (s : Nat × Nat) : Plain (pD s) := .tup (by simp; exact ⟨.int _, .int _⟩)
theorem shaped_pD (s : Nat × Nat) : SeqAt.shaped (pyOf (pD s)) = true := by
  simp [pD, pyOf, pyOfs, SeqAt.shaped, PyData.canLay0, PyData.canLayAll0, PyData.depth, PyData.depthAll]
theorem eqv_pD (s t : Nat × Nat) : PyData.eqv (pyOf (pD s)) (pyOf (pD t)) = (s == t) := by
  obtain ⟨a, b⟩ := s
  obtain ⟨c, d⟩ := t
  simp only [pD, pyOf, pyOfs, PyData.eqv, PyData.eqvAll, Bool.and_true]
  rw [Bool.eq_iff_iff]
  simp [Int.ofNat_inj]
theorem op_eqP (s t : Nat × Nat) : Op2 g n (compareOp .Eq) σ (pD s) (pD t) (.bool (s == t)) := by
  rw [← eqv_pD]
  exact op_eqD (plain_pD _) (plain_pD _) (.inr ⟨_, rfl⟩) (.inr ⟨_, rfl⟩) (shaped_pD _) (shaped_pD _)
theorem op_neP (s t : Nat × Nat) : Op2 g n (compareOp .NotEq) σ (pD s) (pD t) (.bool (!(s == t))) := by
  rw [← eqv_pD]
  exact op_neD (plain_pD _) (plain_pD _) (.inr ⟨_, rfl⟩) (.inr ⟨_, rfl⟩) (shaped_pD _) (shaped_pD _)
/-- rows of truths -/
abbrev bL (bs : List Bool) : List D := bs.map D.bool
theorem plain_bL (bs : List Bool) : Plain (.list (bL bs)) := .list fun d hd => by
  obtain ⟨i, _, rfl⟩ := List.mem_map.mp hd; exact .bool i
theorem pyOfs_bL : ∀ bs : List Bool, pyOfs (bL bs) = bs.map PyData.bool
  | [] => rfl
  | n :: r => by simp only [bL, List.map_cons, pyOfs, pyOf]; rw [← pyOfs_bL r]
theorem eqvAll_bL : ∀ bs cs : List Bool, PyData.eqvAll (bs.map PyData.bool) (cs.map PyData.bool) = (bs == cs)
  | [], [] => by simp [PyData.eqvAll]
  | [], _ :: _ => by simp [PyData.eqvAll]
  | _ :: _, [] => by simp [PyData.eqvAll]
  | a :: r, b :: t => by
    simp only [List.map_cons, PyData.eqvAll, PyData.eqv, eqvAll_bL r t]; rfl
theorem lay_bL : ∀ bs : List Bool, PyData.canLayAll0 (bs.map PyData.bool) = true
  | [] => by simp [PyData.canLayAll0]
  | b :: r => by simp [PyData.canLayAll0, PyData.canLay0, lay_bL r]
theorem dep_bL : ∀ bs : List Bool, PyData.depthAll (bs.map PyData.bool) ≤ 1
  | [] => by simp [PyData.depthAll]
  | b :: r => by have := dep_bL r; simp [PyData.depthAll, PyData.depth]; omega
theorem shaped_bL (bs : List Bool) : SeqAt.shaped (pyOf (.list (bL bs))) = true := by
  have := dep_bL bs
  rw [pyOf, pyOfs_bL]
  simp only [SeqAt.shaped, PyData.canLay0, PyData.depth, lay_bL, Bool.true_and]
  exact decide_eq_true (by omega)
theorem op_eqB (bs cs : List Bool) : Op2 g n (compareOp .Eq) σ (.list (bL bs)) (.list (bL cs)) (.bool (bs == cs)) := by
  have := op_eqD (g := g) (n := n) (σ := σ) (plain_bL bs) (plain_bL cs) (.inl ⟨_, rfl⟩) (.inl ⟨_, rfl⟩) (shaped_bL _) (shaped_bL _)
  rwa [pyOf, pyOf, pyOfs_bL, pyOfs_bL, PyData.eqv, eqvAll_bL] at this
theorem bL_get {ns : List Bool} {i : Nat} {d : D} (h : (bL ns)[i]? = some d) : ∃ k, ns[i]? = some k ∧ d = .bool k := by
  rw [List.getElem?_map] at h
  cases e : ns[i]? with
  | none => rw [e] at h; cases h
  | some k => rw [e] at h; exact ⟨k, rfl, by simpa using h.symm⟩
theorem iLs_get {ns : List Int} {i : Nat} {d : D} (h : (iLs ns)[i]? = some d) : ∃ k, ns[i]? = some k ∧ d = .int k := by
  rw [List.getElem?_map] at h
  cases e : ns[i]? with
  | none => rw [e] at h; cases h
  | some k => rw [e] at h; exact ⟨k, rfl, by simpa using h.symm⟩

/-- a loop over tuples, each torn into names -/
theorem Ex.forT {elts : List Expr} {kk : Nat} {tp : Pos} {iter : Expr} {body rest : List Stmt} {pos : Pos} {d : D} {ds : List D} (xs : List PySem.Str) (ρI : Nat → Rho) (σI : Nat → Sig)
    (hn : Names env elts xs) (h1 : (assignEach elts env).length = xs.length) (h2 : (assignEach elts env).findIdx? (·.1) = none)
    (hit : Ev g n env ρ σ iter d (σI 0)) (hi : itemsOf d = some ds) (hds : ∀ d ∈ ds, ∃ es, d = .tup es ∧ xs.length = es.length) (hlow : ∀ d ∈ ds, Low b d)
    (hs : ∀ x, foldedSetIterable iter env x = pure x) (h0 : SubR (ρI 0) ρ)
    (step : ∀ (i : Nat) es, ds[i]? = some (.tup es) → Ex g n b env ((xs.zip es).reverse ++ ρI i) (σI i) body (Till R (ρI (i + 1)) (σI (i + 1))))
    (hrest : Ex g n b env (ρI ds.length) (σI ds.length) rest R) : Ex g n b env ρ σ (.For (.Tuple elts kk tp) iter body [] pos :: rest) R := by
  refine Ex.for (fun r d => match d with | .tup es => (xs.zip es).reverse ++ r | _ => r) hit hi hlow hs (fun ρ' i di hd => ?_) (fun i ρ' σ' => SubR (ρI i) ρ' ∧ σ' = σI i) ⟨h0, rfl⟩ (fun i di ρ' σ' hd hJ => ?_) (fun ρ' σ' hJ => ?_)
  · obtain ⟨es, rfl, hl⟩ := hds _ (List.mem_of_getElem? hd)
    exact As.tupT hn hl h1 h2
  · obtain ⟨h1, rfl⟩ := hJ
    obtain ⟨es, rfl, hl⟩ := hds _ (List.mem_of_getElem? hd)
    refine Ex.sub (ρ' := (xs.zip es).reverse ++ ρI i) (fun y e hy => ?_) (Ex.mono (fun o ho => ?_) (step i es hd))
    · show ((xs.zip es).reverse ++ ρ').lookup y = some e
      rw [List.lookup_append] at hy ⊢
      cases q : (xs.zip es).reverse.lookup y with
      | none => rw [q] at hy; rw [Option.none_or] at hy ⊢; exact h1.get hy
      | some w => rw [q] at hy; exact hy
    · cases o with
      | next ρ'' σ'' => exact ho
      | ret d σ'' => exact ho
  · obtain ⟨h1, rfl⟩ := hJ
    exact Ex.weak _ h1 hrest
end
end Mine

namespace Mine
open PySem PySem.W PySem.Calls PySem.Spec PyProof.Rows
theorem repL_ints {hr : Heap} {as : List Addr} {Z : Led} : ∀ {vs : List Value} {ns : List Int}, IntsAre vs ns → RepL hr as Z vs (iLs ns)
  | _, _, .nil => RepL.nil
  | _, _, .cons k t r => RepL.cons (.int k t) (repL_ints r)
theorem run_body {g : Gl} {n : Nat} {name : PySem.Str} {scope : Scope} {L fa a : Addr} {cd : Value} {vs : List Value} {xs : List Int} {h₀ : Heap} {cells : Led} {s : Shared} {body : List Stmt} {Q : Flow → Shared → Prop} {E : Value → Shared → Prop} {p : PySem.Str}
    (h : Ex g n 0 (envOfC name scope L fa cd) [(p, .list (iLs xs))] [] body (fun o => ∃ σ', o = .ret (.bool true) σ'))
    (K : g.K.In h₀) (T : Top g.p g.loose g.mean g.mg g.mb h₀) (hL : h₀.IsList a vs.toArray) (hI : IntsAre vs xs)
    (hkind : scope.kind = .function) (hxk : scope.names.lookup p = some .local) (hn : n ≤ 100)
    (F : Fr h₀ L s.heap (bindL (envOfC name scope L fa cd).kindOf ([p].zip [.ref a]) fun _ => none))
    (N : News h₀ L s.heap cells) (Y : CellsAre (bindC (envOfC name scope L fa cd).kindOf ([p].zip [.ref a]) fun _ => none) (envOfC name scope L fa cd).cells cells)
    (hq : ∀ h' tk m', Fr h₀ L h' m' → Q (.ret (.bool true)) { s with heap := h', toks := tk }) :
    wpAny (model g.prog g.w) (callerA.deeper (envOfC name scope L fa cd)) (execs body (envOfC name scope L fa cd)) Q E s := by
  have ca := cellsFrom_adr L scope.names (L + 1) [] (by intro p hp; cases hp) (by simp) (Nat.lt_succ_self _)
  have hca := CellsAre.adr Y
  have I : Inv h₀ h₀ L s.heap (bindL (envOfC name scope L fa cd).kindOf ([p].zip [.ref a]) fun _ => none) (cells ++ []) [] [] [] := by
    refine ⟨F, by simpa using N, ?_, rfl, fun k p ds hp _ => by simp at hp⟩
    simp only [List.append_nil]
    rw [hca]; exact ca.2
  have C : Cx g (callerA.deeper (envOfC name scope L fa cd)) h₀ [] (envOfC name scope L fa cd) L h₀ n := by
    refine ⟨⟨callerA, below_caller h₀⟩, ?_, rfl, hkind, K, T, rfl, ?_, ?_⟩
    · exact Around.frames_deeper (below_caller h₀).stack
    · rw [depth_deeper, depth_caller]; show 301 + 1 + n < 1000; omega
    · rw [units_deeper, units_caller, cLine_is]; omega
  have M : Mod (envOfC name scope L fa cd) h₀ L (bindL (envOfC name scope L fa cd).kindOf ([p].zip [.ref a]) fun _ => none) (cells ++ []) (([] : Led).map (·.1)) [] ([p].zip [.list (iLs xs)]) := by
    refine mod_params hkind rfl (by simp) rfl ?_ (fun x hx => ?_) Y
    · exact RepL.cons ((repL_ints hI).toList (.inl hL)) RepL.nil
    · simp at hx; subst hx; exact .inl hxk
  refine wpAny_noRaise (h C ⟨rfl, Nat.zero_le _, I, hca, CellsAre.ok Y, M⟩ (fun ρ' σ' h' tk m' cs' O' Z' hR => ?_) fun d' ρ' σ' h' tk' v m' cs' O' Z' hR S₂ x r₂ => ?_)
  · obtain ⟨σ', e⟩ := hR; cases e
  · obtain ⟨_, e⟩ := hR
    cases e
    cases r₂
    exact hq _ _ _ S₂.I.F
end Mine

namespace Mine
open PySem PySem.W PySem.Calls PySem.Spec PyProof.Rows
section
variable {g : Gl} {n : Nat} {b : Nat} {env : Env} {ρ : Rho} {σ σ₁ σ₂ σ₃ : Sig} {R : Out → Prop}
theorem call_lenS (cs : List Nat) (hz : cs.length ≤ 16384) : OpN g n (fun vs => call (.builtin "len") vs) σ [sD cs] (.int (cs.length : Nat)) σ := by
  intro A hr outer ef L h₀ m X O Z s Q vs C I r k
  obtain ⟨v, rfl, rv⟩ := r.one
  cases rv
  have hl : (⟨cs.toArray⟩ : PySem.Str).length = cs.length := by simp [PySem.Str.length]
  refine P.len_str (by rw [hl]; omega) ?_
  rw [hl]
  exact k _ s.heap _ O Z I Ext.refl (.int _ _)
def imod (a : Int) (b : Nat) : Nat := (a.fmod b).toNat
theorem imod_cast (a : Int) (b : Nat) (h : b ≠ 0) : ((imod a b : Nat) : Int) = a.fmod b := by
  unfold imod
  have : 0 ≤ a.fmod b := Int.fmod_nonneg_of_pos _ (by omega)
  omega
theorem imod_lt (a : Int) {b : Nat} (h : b ≠ 0) : imod a b < b := by
  have h1 := imod_cast a b h
  have h2 : a.fmod b < b := Int.fmod_lt_of_pos _ (by omega)
  omega
theorem opi_mod (a : Int) (b : Nat) (h : b ≠ 0) : Op2 g n (binaryOp .Mod) σ (.int a) (.int (b : Int)) (.int (imod a b : Nat)) := by
  rw [imod_cast a b h]
  exact op_mod a b (by omega)
theorem opi_div (a : Int) (b : Nat) (h : b ≠ 0) (hs : b < 1073741824) : Op2 g n (binaryOp .FloorDiv) σ (.int a) (.int (b : Int)) (.int (a.fdiv b)) := op_div a b (by omega) (by simpa using hs)
theorem cut_take {ds : List D} {k : Nat} (h : k ≤ ds.length) : cut ds none (some (k : Int)) = ds.take k := by
  have : ¬ ((k : Int) < 0) := by omega
  simp only [cut, kms_lo, kms_hi, if_neg this, Int.toNat_natCast, List.drop_zero, Nat.sub_zero, Nat.min_eq_left h]
theorem cut_drop {ds : List D} {k : Nat} (h : k ≤ ds.length) : cut ds (some (k : Int)) none = ds.drop k := by
  have : ¬ ((k : Int) < 0) := by omega
  simp only [cut, kms_lo, kms_hi, if_neg this, Int.toNat_natCast, Nat.min_eq_left h]
  rw [List.take_of_length_le (by simp)]
theorem cut_mid {ds : List D} {j k : Nat} (h : j ≤ ds.length) (h' : k ≤ ds.length) : cut ds (some (j : Int)) (some (k : Int)) = (ds.drop j).take (k - j) := by
  have h1 : ¬ ((k : Int) < 0) := by omega
  have h2 : ¬ ((j : Int) < 0) := by omega
  simp only [cut, kms_lo, kms_hi, if_neg h1, if_neg h2, Int.toNat_natCast, Nat.min_eq_left h, Nat.min_eq_left h']
theorem nL_take (ns : List Nat) (k : Nat) : (nL ns).take k = nL (ns.take k) := by simp [nL, List.map_take]
theorem nL_drop (ns : List Nat) (k : Nat) : (nL ns).drop k = nL (ns.drop k) := by simp [nL, List.map_drop]
/-- a comprehension over range(k), its value told by places -/
theorem rngN_get {f : Nat → Nat} {m i : Nat} {di ei : D} (h1 : ((List.range m).map fun i => D.int ((0 : Int) + (i : Nat)))[i]? = some di) (h2 : (nL ((List.range m).map f))[i]? = some ei) : i < m ∧ di = .int (i : Nat) ∧ ei = .int (f i : Nat) := by
  obtain ⟨hi, rfl⟩ := rng_get0 h1
  obtain ⟨k, hk, rfl⟩ := nL_get h2
  rw [List.getElem?_map, List.getElem?_range hi] at hk
  have e : f i = k := by simpa using hk
  exact ⟨hi, rfl, by rw [e]⟩
theorem getD_lt {l : List Nat} {m : Nat} (hm : 0 < m) (h : ∀ x ∈ l, x < m) (k : Nat) : l.getD k 0 < m := by
  rw [List.getD_eq_getElem?_getD]
  cases e : l[k]? with
  | none => exact hm
  | some y => exact h y (List.mem_of_getElem? e)
theorem small_of {b : Nat} (h : b ≤ 100000) : Builtin.Range.small 0 (b : Int) 1 = true := by
  have h1 := rangeSize_nat b
  have f : ∀ x : Int, -1 ≤ x → x ≤ 200000 → Builtin.Range.rangeFitsLong x = true := by
    intro x h h'
    simp only [Builtin.Range.rangeFitsLong, Bool.and_eq_true, decide_eq_true_eq]
    omega
  have f1 := f b (by omega) (by omega)
  have f2 := f (b + (1 - 1)) (by omega) (by omega)
  have f3 := f 0 (by omega) (by omega)
  have f4 := f 1 (by omega) (by omega)
  simp only [Builtin.Range.small, h1, f1, f2, f3, f4, Bool.and_true, Bool.true_and, if_true, show (1 : Int) > 0 from by decide, Bool.or_true]
theorem call_lenN (ns : List Nat) (hz : ns.length ≤ 16384) : OpN g n (fun vs => call (.builtin "len") vs) σ [.list (nL ns)] (.int (ns.length : Nat)) σ := by
  have := call_len (g := g) (n := n) (σ := σ) (nL ns) (by simpa using hz)
  rwa [List.length_map] at this
theorem Low.args {ds : List D} (h : ∀ d ∈ ds, Low 0 d) : ∀ d ∈ ds, Low 0 d := h
end
end Mine

namespace Mine
open PySem PySem.W PySem.Calls PySem.Spec PyProof.Rows
section
variable {g : Gl} {n : Nat} {σ : Sig}
theorem call_minN (a b : Nat) : OpN g n (fun vs => call (.builtin "min") vs) σ [.int (a : Int), .int (b : Int)] (.int (min a b : Nat)) σ := by
  have := call_min (g := g) (n := n) (σ := σ) (a : Int) b
  have e : (if (b : Int) < a then (b : Int) else a) = ((min a b : Nat) : Int) := by split <;> omega
  rwa [e] at this
end
def codesA (N : Int) : List Nat := (digN N.natAbs 94 8).map (33 + ·)
theorem codesA_lt (N : Int) : ∀ c ∈ codesA N, 33 ≤ c ∧ c < 127 := by
  intro c hc
  obtain ⟨k, hk, rfl⟩ := List.mem_map.mp hc
  have := digN_lt (B := 94) (by decide) k hk
  omega
theorem codesA_len (N : Int) : 1 ≤ (codesA N).length ∧ (codesA N).length ≤ 8 := by simp [codesA]; have := digN_len N.natAbs 94 8; omega
end Mine

namespace Mine
open PySem PySem.W PySem.Calls PySem.Spec PyProof.Rows
abbrev LL (fs : List (List Nat)) : List D := fs.map fun m => D.list (nL m)
theorem plain_nL (m : List Nat) : Plain (.list (nL m)) := .list fun d hd => by
  obtain ⟨i, _, rfl⟩ := List.mem_map.mp hd; exact .int _
theorem plain_LL (fs : List (List Nat)) : Plain (.list (LL fs)) := .list fun d hd => by
  obtain ⟨i, _, rfl⟩ := List.mem_map.mp hd; exact plain_nL _
theorem lay_nL : ∀ m : List Nat, PyData.canLayAll0 (pyOfs (nL m)) = true
  | [] => by simp [pyOfs, PyData.canLayAll0]
  | b :: r => by simp [nL, pyOfs, pyOf, PyData.canLayAll0, PyData.canLay0]; exact lay_nL r
theorem dep_nL : ∀ m : List Nat, PyData.depthAll (pyOfs (nL m)) ≤ 1
  | [] => by simp [pyOfs, PyData.depthAll]
  | b :: r => by have := dep_nL r; simp only [nL, List.map_cons, pyOfs, pyOf, PyData.depthAll, PyData.depth] at this ⊢; omega
theorem lay_LL : ∀ fs : List (List Nat), PyData.canLayAll0 (pyOfs (LL fs)) = true
  | [] => by simp [pyOfs, PyData.canLayAll0]
  | m :: r => by
    simp only [LL, List.map_cons, pyOfs, pyOf, PyData.canLayAll0, PyData.canLay0, Bool.and_eq_true]
    exact ⟨lay_nL m, lay_LL r⟩
theorem dep_LL : ∀ fs : List (List Nat), PyData.depthAll (pyOfs (LL fs)) ≤ 3
  | [] => by simp [pyOfs, PyData.depthAll]
  | m :: r => by
    have := dep_LL r; have := dep_nL m
    simp only [LL, List.map_cons, pyOfs, pyOf, PyData.depthAll, PyData.depth] at *; omega
theorem shaped_LL (fs : List (List Nat)) : SeqAt.shaped (pyOf (.list (LL fs))) = true := by
  have := dep_LL fs
  simp only [pyOf, SeqAt.shaped, PyData.canLay0, PyData.depth, lay_LL, Bool.true_and]
  exact decide_eq_true (by omega)
section
variable {g : Gl} {n : Nat} {σ : Sig}
theorem op_eqLL (f : List Nat) (fs : List (List Nat)) : Op2 g n (compareOp .Eq) σ (.list (LL (f :: fs))) (.list (LL [])) (.bool false) := by
  have := op_eqD (g := g) (n := n) (σ := σ) (plain_LL (f :: fs)) (plain_LL []) (.inl ⟨_, rfl⟩) (.inl ⟨_, rfl⟩) (shaped_LL _) (shaped_LL _)
  have e : PyData.eqv (pyOf (.list (LL (f :: fs)))) (pyOf (.list (LL []))) = false := by
    simp [LL, pyOf, pyOfs, PyData.eqv, PyData.eqvAll]
  rwa [e] at this
end
theorem pick_filter (p : Nat → Bool) : ∀ xs : List Nat, pick (xs.map p) (nL xs) = nL (xs.filter p)
  | [] => by simp [pick]
  | x :: xs => by
    have := pick_filter p xs
    simp only [pick] at this
    cases h : p x
    · simp only [pick, nL, List.map_cons, List.zip_cons_cons, List.filterMap_cons, h, List.filter_cons]
      simpa using this
    · simp only [pick, nL, List.map_cons, List.zip_cons_cons, List.filterMap_cons, h, List.filter_cons]
      simpa using this
theorem LL_get {fs : List (List Nat)} {i : Nat} {d : D} (h : (LL fs)[i]? = some d) : ∃ m, fs[i]? = some m ∧ d = .list (nL m) := by
  rw [List.getElem?_map] at h
  cases e : fs[i]? with
  | none => rw [e] at h; cases h
  | some k => rw [e] at h; exact ⟨k, rfl, by simpa using h.symm⟩
theorem low_LL {k : Nat} (fs : List (List Nat)) : ∀ d ∈ LL fs, Low k d := fun d hd => by
  obtain ⟨c, _, rfl⟩ := List.mem_map.mp hd; exact .list (low_nL _)
end Mine

namespace Mine
open PySem PySem.W PySem.Calls PySem.Spec PyProof.Rows
section
variable {g : Gl} {n : Nat} {σ σ' : Sig}
/-- a def that may write into the lists it is handed -/
theorem fn_own {a : Addr} {name qual : PySem.Str} {params : Arguments} {body : List Stmt} {scope : Scope} {dV kV doc pm cdv ct oc : Value} {an od : Option Addr} {osl : Array (Option Value)} {xs : List PySem.Str} {ds : List D} {d : D}
    (ho : g.K.lookup a = some ⟨oc, od, .func (fnOf name qual params body scope dV kV doc pm an cdv ct), osl⟩)
    (hcd : codeIn g.K cdv qual = true)
    (hb : ∀ vs : List Value, vs.length = xs.length → ∀ s, BindsTo s (fnOf name qual params body scope dV kV doc pm an cdv ct) ⟨vs, []⟩ (xs.zip vs))
    (hl : xs.length = ds.length) (hxn : xs.Nodup)
    (hkind : ∀ x ∈ xs, scope.names.lookup x = some .local ∨ (scope.names.lookup x = some .cell ∧ ((cellsFrom 0 scope.names []).lookup x).isSome = true))
    (hnd : ((cellsFrom 0 scope.names []).map (·.1)).Nodup)
    (hco : scope.isCoroutine = false) (hgen : scope.isGenerator = false) (hk : scope.kind = .function)
    (hbody : ∀ L', Ex g n σ.length (envOfC qual scope L' a cdv) (xs.zip ds) σ body (fun o => o = .ret d σ'))
    (hlen : σ'.length = σ.length) : OpN g (n + 1) (fun vs => call (.ref a) vs) σ ds d σ' := by
  intro A hr outer ef L h₀ m X O Z s Q vs C I r k
  obtain ⟨A₀, B⟩ := C.below
  refine wpAny_call ?_
  refine code_defC B I.F C.K I.N C.T C.frames C.efr C.ekd ho hcd (Nat.lt_of_le_of_lt (Nat.le_add_right _ _) C.dep) (hb vs (r.1.trans hl.symm) s) ?_ hnd (fun g' L' h₁ tk cells FG F' N' Y B' X' T' lt => ?_) hco hgen hk
  · refine List.all_eq_true.mpr fun y hy => ?_
    have := hkind y.1 (List.of_mem_zip hy).1
    rcases this with q | ⟨q, _⟩ <;> rw [q] <;> rfl
  · have ca := cellsFrom_adr L' scope.names (L' + 1) [] (by intro p hp; cases hp) (by simp) (Nat.lt_succ_self _)
    have hca := CellsAre.adr Y
    have I' : Inv g' hr L' h₁ (bindL (envOfC qual scope L' a cdv).kindOf (xs.zip vs) fun _ => none) (cells ++ X) O Z σ := by
      have e : (cells ++ X) ++ (O ++ Z) = cells ++ (X ++ (O ++ Z)) := List.append_assoc _ _ _
      refine ⟨F', by rw [e]; exact N', ?_, I.on, I.ow⟩
      rw [e, List.map_append]
      refine List.nodup_append.mpr ⟨by rw [hca]; exact ca.2, I.nd, fun x hx y hy => ?_⟩
      rw [hca] at hx
      obtain ⟨p, hp, rfl⟩ := List.mem_map.mp hx
      obtain ⟨q, hq, rfl⟩ := List.mem_map.mp hy
      have h1 := ca.1 p hp
      have h2 := lt q hq
      intro e
      rw [e] at h1
      exact absurd (Nat.lt_trans h1 h2) (Nat.lt_irrefl _)
    have C' : Cx g (A.deeper (envOfC qual scope L' a cdv)) hr (ef :: outer) (envOfC qual scope L' a cdv) L' g' n := by
      refine ⟨⟨A, B'⟩, ?_, rfl, hk, X', T', C.hh, ?_, ?_⟩
      · exact Around.frames_deeper C.frames
      · have := C.dep
        show A.depth + 1 + n < recursionLimit
        omega
      · have := C.un
        show A.units + 3 + 4 * n + 80 < cLine
        omega
    have M' : Mod (envOfC qual scope L' a cdv) hr L' (bindL (envOfC qual scope L' a cdv).kindOf (xs.zip vs) fun _ => none) (cells ++ X) (O.map (·.1)) Z (xs.zip ds) := by
      refine mod_params hk rfl hxn hl r (fun x hx => ?_) Y
      rcases hkind x hx with q | ⟨q, q'⟩
      · exact .inl q
      · refine .inr ⟨q, ?_⟩
        have hcf := cellsFrom_some (x := x) scope.names (L' + 1) [] (.inl q)
        exact hcf
    refine wpAny_noRaise (hbody L' C' ⟨rfl, by rw [I.on]; exact Nat.le_refl _, I', hca, CellsAre.ok Y, M'⟩ (fun ρ' σ'' h' tk m' cs' O' Z' hR => ?_) fun d' ρ' σ'' h' tk' v m' cs' O' Z' hR S₂ x r₂ => ?_)
    · cases hR
    · cases hR
      have I₂ := S₂.I
      refine leaveK_ I₂.F I₂.N fun F₃ N₃ => ?_
      have hO : O'.map (·.1) = O.map (·.1) := by
        have h1 := x.1
        have e1 : O'.length = σ.length := by rw [I₂.on, hlen]
        have e2 : O.length = σ.length := I.on
        rw [List.take_of_length_le (by simp [e1]), List.take_of_length_le (by simp [e2])] at h1
        exact h1
      have I₃ : Inv h₀ hr L h' m X O' Z' σ' := by
        refine ⟨F₃, fun p hp => N₃ p ?_, ?_, I₂.on, I₂.ow⟩
        · rcases List.mem_append.mp hp with hp | hp
          · exact List.mem_append_left _ (List.mem_append_right _ hp)
          · exact List.mem_append_right _ hp
        · refine List.Nodup.sublist (List.Sublist.map _ ?_) I₂.nd
          exact List.Sublist.append (List.sublist_append_right _ _) (List.Sublist.refl _)
      exact k v h' tk' O' Z' I₃ ⟨⟨[], by rw [hO]; simp⟩, x.2⟩ r₂
theorem fn_ofO {name : PySem.Str} {st : Stmt} {a : Addr} {ds : List D} {d : D} (xs : List PySem.Str)
    (hf : HasFn g.K name st a)
    (hb : ∀ doc pm an cdv ct, ∀ vs : List Value, vs.length = xs.length → ∀ s, BindsTo s (fnOf name name (fdArgs st) (fdBody st) (fdScope st) .none .none doc pm an cdv ct) ⟨vs, []⟩ (xs.zip vs))
    (hl : xs.length = ds.length) (hxn : xs.Nodup)
    (hkind : ∀ x ∈ xs, (fdScope st).names.lookup x = some .local ∨ ((fdScope st).names.lookup x = some .cell ∧ ((cellsFrom 0 (fdScope st).names []).lookup x).isSome = true))
    (hnd : ((cellsFrom 0 (fdScope st).names []).map (·.1)).Nodup)
    (hco : (fdScope st).isCoroutine = false) (hgen : (fdScope st).isGenerator = false) (hk : (fdScope st).kind = .function)
    (hbody : ∀ L' cdv, Ex g n σ.length (envOfC name (fdScope st) L' a cdv) (xs.zip ds) σ (fdBody st) (fun o => o = .ret d σ'))
    (hlen : σ'.length = σ.length) : OpN g (n + 1) (fun vs => call (.ref a) vs) σ ds d σ' := by
  obtain ⟨_, _, oc, od, doc, pm, an, cdv, ct, osl, hlk, hcd⟩ := hf
  exact fn_own hlk hcd (hb doc pm an cdv ct) hl hxn hkind hnd hco hgen hk (fun L' => hbody L' cdv) hlen
end
end Mine

namespace Mine
open PySem PySem.W PySem.Calls PySem.Spec PyProof.Rows
section
variable {g : Gl} {n : Nat} {b : Nat} {env : Env} {ρ : Rho} {σ σ₁ σ₂ σ₃ : Sig} {R : Out → Prop}
theorem Ex.assignCS {elt iter : Expr} {x y : PySem.Str} {px py pos spos : Pos} {scope : Scope} {cl : List (PySem.Str × Addr)} {ρf : Rho} {d : D} {ds es : List D} {S : Nat → Sig} {rest : List Stmt}
    (hy : Stb env y) (hsw : swapsWith (.ListComp elt [⟨.Name x px, iter, [], 0⟩] scope pos) (some (.Name y py)) spos.line env = pure true)
    (hit : Ev g n env ρ σ iter d (S 0)) (hi : itemsOf d = some ds) (hlen : ds.length ≤ 2 ^ 20) (hl : es.length = ds.length)
    (hclos : closureFor scope env = pure cl) (hcell : ∀ y ∈ scope.names, y.2 ≠ .cell) (hkind : scope.kind = .function)
    (hnames : ∀ y ∈ scope.names, y.2 = .local → scope.names.lookup y.1 = some .local) (hx : scope.names.lookup x = some .local) (hf : FreeOk env scope cl ρ ρf)
    (hs : ∀ x, foldedSetIterable iter env x = pure x)
    (helt : ∀ (i : Nat) di ei C, ds[i]? = some di → es[i]? = some ei → Ev g n (compEnvC scope cl C env) ((x, di) :: ρf) (S i) elt ei (S (i + 1)))
    (hr : Ex g n b env ((y, .list es) :: ρ) (S ds.length) rest R) :
    Ex g n b env ρ σ (.Assign [.Name y py] (.ListComp elt [⟨.Name x px, iter, [], 0⟩] scope pos) spos :: rest) R := by
  refine Ex.cons (R₁ := fun o => match o with | .next ρ' σ' => Ex g n b env ρ' σ' rest R | .ret _ _ => False) ?_ (fun ρ' σ' q => q) (fun d σ' q => q.elim)
  intro A hr' outer ef L h₀ m cs X O Z s Q C₀ S₀ kn kr
  rw [exec_Assign_Name_used _ _ _ _ hsw]
  refine wpAny_bind (wpAny_standAt (wpAny_bind ?_))
  rw [arm_evalThenUse_ListComp]
  refine wpAny_bind (wpAny_mono (Q := fun _ s' => Q .next s') (wpAny_comprehension_free (use := some (PySem.assign (Expr.Name y py) env)) (Q := fun _ s' => Q .next s') rfl hs hclos hkind hnames
    (hit C₀ S₀.I S₀.M fun xv h₁ t₁ O₁ Z₁ I₁ x₁ rx => ?_)) (fun _ s' hq => wpAny_pure (wpAny_pure hq)) fun _ _ e => e)
  refine pyIter_D C₀ I₁ rx hi fun oJ fp P St h' I₂ f₂ it st hfp => ?_
  refine comp_core (s₂ := { s with heap := h', toks := t₁ }) (S := S) C₀ I₂ (S₀.M.up x₁) f₂ it st hfp hlen hf hcell hkind hx hl helt fun D' C h tk m' O' Z' ys I₃ f₃ x₃ r₃ hn hC₀ hCL hCD offC => ?_
  have xx := x₁.trans x₃
  have Sa : Sx b env hr' L h₀ h m cs X O' Z' ρ (S ds.length) := S₀.up I₃ xx
  have xz : Ext O' O' Z' ((D', W.listOf (List.toArray ys) ys.length) :: Z') := ⟨⟨[], by simp⟩, fun p hp => .tail _ hp⟩
  have rr : Rep hr' (O'.map (·.1)) ((D', W.listOf (List.toArray ys) ys.length) :: Z') (.ref D') (.list es) := RepL.toList (.inr ⟨_, .head _⟩) (r₃.ext (fun _ _ q => q) fun p hp => .tail _ hp)
  refine assign_tail (s := { s with heap := h, toks := tk }) hy (Sa.up (I₃.addZ f₃) xz) rr hn hC₀ hCL (fun p hp => ?_) fun h'' tk'' m'' cs' S' => kn _ _ h'' tk'' m'' cs' _ _ hr S' ((xx.trans xz).toB S₀.bo)
  simp only [List.mem_append, List.mem_cons] at hp
  rcases hp with hp | hp | rfl | hp
  · exact offC p (List.mem_append_left _ (List.mem_append.mpr hp))
  · exact offC p (List.mem_append_right _ (List.mem_append_left _ hp))
  · exact Ne.symm hCD
  · exact offC p (List.mem_append_right _ (List.mem_append_right _ hp))
theorem Ev.itemS {value slice : Expr} {pos : Pos} {cs : List Nat} {k c : Nat} (hv : Ev g n env ρ σ value (sD cs) σ₁) (hs : Ev g n env ρ σ₁ slice (.int (k : Int)) σ₂)
    (hz : cs.length ≤ 1000) (hd : cs[k]? = some c)
    (hsub : ∀ x t u, subscripted slice false (.str x t) (.int (k : Int) u) = operate [.str x t, .int (k : Int) u] (getItem (.str x t) (.int (k : Int) u))) :
    Ev g n env ρ σ (.Subscript value slice pos) (.str ⟨#[c]⟩) σ₂ := by
  intro A hr outer ef L h₀ m X O Z s Q C I M kk
  refine Subscript_ (hv C I M fun v h₁ t₁ O₁ Z₁ I₁ x₁ rv => hs C I₁ (M.up x₁) fun w h₂ t₂ O₂ Z₂ I₂ x₂ rw' => ?_)
  cases rw'
  cases rv
  have hk : k < cs.length := (List.getElem?_eq_some_iff.mp hd).1
  refine tail_any (typeIs_str _ _ _) PySem.F.slot_str_getitem.lookup (P.getItem_str (c := c) ?_ ?_ ?_) (hsub _ _ _)
  · rw [Bool.or_eq_false_iff]
    exact ⟨decide_eq_false (by omega), decide_eq_false (by omega)⟩
  · have e : (⟨cs.toArray⟩ : PySem.Str).length = cs.length := by simp [PySem.Str.length]
    rw [e]
    have e2 : seqIndex? (k : Int) cs.length = some k := by
      unfold seqIndex?
      simp
      omega
    rw [e2]
    simpa using hd
  · exact kk _ h₂ _ O₂ Z₂ I₂ (x₁.trans x₂) (.str _ _)
end
end Mine

namespace Mine
open PySem PySem.W PySem.Calls PySem.Spec PyProof.Rows PyProof.V
/-- a table of ints by ints -/
def kvD (kvs : List (Int × Int)) : List (PyData × PyData) := kvs.map fun p => (PyData.int p.1, PyData.int p.2)
def isTab (g : Gl) (kvs : List (Int × Int)) (a : Addr) (o : Obj) : Prop := (a == sysModules) = false ∧ ∃ k, o.IsDictOf (intKind g.prog g.w) k ∧ FlatPairs PyData.int k (kvD kvs)
abbrev tD (g : Gl) (kvs : List (Int × Int)) : D := .tab (isTab g kvs)
def look : List (Int × Int) → Int → Option Int
  | [], _ => none
  | p :: r, k => if p.1 = k then some p.2 else look r k
theorem look_is (k : Int) : ∀ kvs, PySem.Spec.lookup (PyData.int k) (kvD kvs) = (look kvs k).map PyData.int
  | [] => rfl
  | p :: r => by
    have ih := look_is k r
    simp only [kvD, List.map_cons, PySem.Spec.lookup, same_int, look] at ih ⊢
    by_cases h : p.1 = k
    · rw [if_pos (by simpa using h), if_pos h]; rfl
    · rw [if_neg (by simpa using h), if_neg h, ih]
theorem flat_int {v : Value} {i : Int} (h : Flat v (.int i)) : ∃ t, v = .int i t := by
  have r := h {}
  cases r
  exact ⟨_, rfl⟩
section
variable {g : Gl} {n : Nat} {b : Nat} {env : Env} {ρ : Rho} {σ σ₁ σ₂ σ₃ : Sig} {R : Out → Prop}
theorem Rep.tabAt {h₀ hr : Heap} {L : Addr} {h : Heap} {m : PySem.Str → Option Value} {X O Z : Led} {kvs : List (Int × Int)} {v : Value} (I : Inv h₀ hr L h m X O Z σ) (r : Rep hr (O.map (·.1)) Z v (tD g kvs)) :
    ∃ a, v = .ref a ∧ TabAt (intKind g.prog g.w) PyData.int h a (kvD kvs) := by
  cases r with
  | tab hm hp =>
    obtain ⟨lo, k, hd, hf⟩ := hp
    exact ⟨_, rfl, TabAt.ofNews I.N (List.mem_append_right _ (List.mem_append_right _ hm)) lo hd hf⟩
theorem op_in (k : Int) (kvs : List (Int × Int)) : Op2 g n (compareOp .In) σ (.int k) (tD g kvs) (.bool (look kvs k).isSome) := by
  intro A hr outer ef L h₀ m X O Z s Q va vb C I ra rb kk
  cases ra
  obtain ⟨a, rfl, T⟩ := rb.tabAt I
  refine kys_in (k := k) same_int (intKind_is _ _ _ _) T ?_
  unfold KysD
  rw [look_is]
  cases e : look kvs k with
  | none => rw [e] at kk; exact kk _ s.heap _ O Z I Ext.refl (.bool _)
  | some v => rw [e] at kk; exact kk _ s.heap _ O Z I Ext.refl (.bool _)
theorem Ev.itemT {value slice : Expr} {pos : Pos} {kvs : List (Int × Int)} {k v : Int} (hv : Ev g n env ρ σ value (tD g kvs) σ₁) (hs : Ev g n env ρ σ₁ slice (.int k) σ₂) (hd : look kvs k = some v)
    (hsub : ∀ a u, subscripted slice false (.ref a) (.int k u) = operate [.ref a, .int k u] (getItem (.ref a) (.int k u)))
    (hlet : ∀ a r, letTemporaryGo value (.ref a) r = pure ()) : Ev g n env ρ σ (.Subscript value slice pos) (.int v) σ₂ := by
  intro A hr outer ef L h₀ m X O Z s Q C I M kk
  refine Subscript_ (hv C I M fun w h₁ t₁ O₁ Z₁ I₁ x₁ rv => hs C I₁ (M.up x₁) fun u h₂ t₂ O₂ Z₂ I₂ x₂ rw' => ?_)
  cases rw'
  obtain ⟨a, rfl, T⟩ := (rv.up x₂).tabAt I₂
  refine kys_item (k := k) same_int (intKind_is _ _ _ _) T ?_ (hsub _ _) (hlet _)
  unfold KysD
  rw [look_is, hd]
  intro w hw
  obtain ⟨t, rfl⟩ := flat_int hw
  exact kk _ h₂ _ O₂ Z₂ I₂ (x₁.trans x₂) (.int _ _)
theorem call_lenT (kvs : List (Int × Int)) (hz : kvs.length ≤ 10000) : OpN g n (fun vs => call (.builtin "len") vs) σ [tD g kvs] (.int (kvs.length : Nat)) σ := by
  intro A hr outer ef L h₀ m X O Z s Q vs C I r k
  obtain ⟨v, rfl, rv⟩ := r.one
  obtain ⟨a, rfl, T⟩ := rv.tabAt I
  have hl : (kvD kvs).length = kvs.length := by simp [kvD]
  refine kys_len T (by rw [hl]; omega) ?_
  unfold KysLen
  rw [hl, Nat.add_zero]
  exact k _ s.heap _ O Z I Ext.refl (.int _ _)
theorem call_get2T (kvs : List (Int × Int)) (k z : Int) : OpN g n (fun vs => call (.builtin "dict.get") vs) σ [tD g kvs, .int k, .int z] (.int ((look kvs k).getD z)) σ := by
  intro A hr outer ef L h₀ m X O Z s Q vs C I r kk
  match vs, r with
  | [v, w, x], r =>
    have r0 := r.2 0 v _ rfl rfl
    have r1 := r.2 1 w _ rfl rfl
    have r2 := r.2 2 x _ rfl rfl
    obtain ⟨a, rfl, T⟩ := r0.tabAt I
    cases r1; cases r2
    refine kys_get2 (k := k) same_int (intKind_is _ _ _ _) T (Flat.int z _) ?_
    unfold KysD
    rw [look_is]
    cases e : look kvs k with
    | none =>
      intro w hw
      obtain ⟨t, rfl⟩ := flat_int hw
      rw [e] at kk
      exact kk _ s.heap _ O Z I Ext.refl (.int _ _)
    | some v =>
      intro w hw
      obtain ⟨t, rfl⟩ := flat_int hw
      rw [e] at kk
      exact kk _ s.heap _ O Z I Ext.refl (.int _ _)
theorem Ev.get2T {ov e : Expr} {p2 pos : Pos} {es : List Expr} {kvs : List (Int × Int)} {k z : Int} (ho : Ev g n env ρ σ ov (tD g kvs) σ) (ha : Evs g n env ρ σ (e :: es) [.int k, .int z] σ)
    (he : starEach (e :: es) env = (false, eval e env) :: starEach es env) (hp : ∀ pos, ((backTo pos (starEach es env)).any (·.1)) = false) (pl : Sem Bool)
    (hpl : eval (.Call (.Attribute ov (PySem.Str.ofString "get") p2) (e :: es) [] pos) env = (do
      let ov ← eval ov env
      standAt p2.atName
      let (f, first) ← holding [ov] (getMethod ov (PySem.Str.ofString "get") pl)
      callWith pos f first (backTo pos (starEach (e :: es) env)) [])) :
    Ev g n env ρ σ (.Call (.Attribute ov (PySem.Str.ofString "get") p2) (e :: es) [] pos) (.int ((look kvs k).getD z)) σ := by
  intro A hr outer ef L h₀ m X O Z s Q C I M kk
  refine MethodCall_ (pl := pl) ?_ hpl
  refine ho C I M fun v h₁ t₁ O₁ Z₁ I₁ x₁ rv => ?_
  obtain ⟨a, rfl, T⟩ := rv.tabAt I₁
  refine getMethod_tab PySem.F.slot_dict_get PySem.F.type_dict_get T ?_
  show wpAny _ _ (callWith pos (.builtin "dict.get") [.ref a] (backTo pos (starEach (e :: es) env)) []) _ _ _
  refine callWith_builtin (by rw [he]; exact hp pos) ?_
  rw [he]
  refine evalArgs_plain ?_
  show wpAny _ _ (spliced (backTo pos ((false, eval e env) :: starEach es env))) _ _ _
  rw [← he]
  refine ha C I₁ (M.up x₁) fun vs h₂ t₂ O₂ Z₂ I₂ x₂ rv' => ?_
  exact call_get2T kvs k z (.ref a :: vs) C I₂ (RepL.cons (rv.up x₂) rv') fun v h₃ t₃ O₃ Z₃ I₃ x₃ r₃ => kk v h₃ t₃ O₃ Z₃ I₃ ((x₁.trans x₂).trans x₃) r₃
end
end Mine

namespace Mine
open PySem PySem.W PySem.Calls PySem.Spec PyProof.Rows PyProof.V
section
variable {g : Gl} {n : Nat} {b : Nat} {env : Env} {ρ : Rho} {σ σ₁ σ₂ σ₃ : Sig} {R : Out → Prop}
theorem Inv.addX {h₀ hr : Heap} {L : Addr} {h : Heap} {m : PySem.Str → Option Value} {X O Z : Led} {a : Addr} {o : Obj}
    (I : Inv h₀ hr L h m X O Z σ) (f : Fresh h₀ L h X O Z a o) : Inv h₀ hr L h m ((a, o) :: X) O Z σ := by
  refine ⟨I.F, fun p hp => ?_, ?_, I.on, I.ow⟩
  · rcases List.mem_cons.mp hp with rfl | hp
    · exact ⟨f.at_, f.nL, f.n0⟩
    · exact I.N p hp
  · show (a :: (X ++ (O ++ Z)).map (·.1)).Nodup
    exact List.nodup_cons.mpr ⟨f.nm, I.nd⟩
theorem Inv.dropX {h₀ hr : Heap} {L : Addr} {h : Heap} {m : PySem.Str → Option Value} {X O Z : Led} {a : Addr} {o : Obj}
    (I : Inv h₀ hr L h m ((a, o) :: X) O Z σ) : Inv h₀ hr L h m X O Z σ ∧ Fresh h₀ L h X O Z a o := by
  have nd : (a :: (X ++ (O ++ Z)).map (·.1)).Nodup := I.nd
  have h1 := I.N (a, o) (.head _)
  exact ⟨⟨I.F, fun p hp => I.N p (.tail _ hp), (List.nodup_cons.mp nd).2, I.on, I.ow⟩, ⟨h1.1, h1.2.1, h1.2.2, (List.nodup_cons.mp nd).1⟩⟩
theorem flatPairs_two {a c x y : Int} {t u : Tok} : FlatPairs PyData.int [(a, Value.int x t), (c, Value.int y u)] (kvD [(a, x), (c, y)]) := .cons (Flat.int x t) (.cons (Flat.int y u) .nil)
theorem Mod.addX {hr : Heap} {L : Addr} {m : PySem.Str → Option Value} {X : Led} {as : List Addr} {Z : Led} {p : Addr × Obj} (M : Mod env hr L m X as Z ρ) : Mod env hr L m (p :: X) as Z ρ := by
  intro x d hx
  obtain ⟨v, l, r⟩ := M x d hx
  refine ⟨v, ?_, r⟩
  cases l with
  | loc h1 h2 h3 h4 => exact .loc h1 h2 h3 h4
  | comp h1 h2 h3 h4 h5 => exact .comp h1 h2 (.tail _ h3) h4 h5
  | cell h1 h2 h3 h4 h5 => exact .cell h1 h2 h3 (.tail _ h4) h5
theorem Ev.dict2 {k1 k2 v1 v2 : Expr} {pos : Pos} {a c x y : Int} (h1 : Ev g n env ρ σ k1 (.int a) σ) (h2 : Ev g n env ρ σ v1 (.int x) σ₁) (h3 : Ev g n env ρ σ₁ k2 (.int c) σ₁) (h4 : Ev g n env ρ σ₁ v2 (.int y) σ₂) (hac : a ≠ c) :
    Ev g n env ρ σ (.Dict [some k1, some k2] [v1, v2] pos) (tD g [(a, x), (c, y)]) σ₂ := by
  intro A hr outer ef L h₀ m X O Z s Q C I M kk
  refine Dict_made (knd := intKind g.prog g.w) I.F rfl rfl (by simp) (by simp) fun FF => ?_
  have up : ∀ b ob, s.heap.get? b = some ob → (s.heap.push { cls := .type "dict", data := .dict #[] }).get? b = some ob := fun b ob e => Heap.get?_push_of_some _ e
  have I' : Inv h₀ hr L (s.heap.push { cls := .type "dict", data := .dict #[] }) m X O Z σ := I.lok.inv (I.F.keeps up) (I.N.grown up)
  have f' := fresh_size (h' := s.heap.push { cls := .type "dict", data := .dict #[] }) I (Heap.get?_push_size _ rfl)
  have IX := Inv.addX I' f'
  have MX : Mod env hr L m ((s.heap.objs.size, ({ cls := .type "dict", data := .dict #[] } : Obj)) :: X) (O.map (·.1)) Z ρ := Mod.addX M
  refine evalPairs_cons ?_
  refine h1 C IX MX fun w1 g1 t1 O1 Z1 I1 x1 r1 => ?_
  refine wpAny_bind (h2 C I1 (MX.up x1) fun w2 g2 t2 O2 Z2 I2 x2 r2 => wpAny_bind (wpAny_standAt (wpAny_pure ?_)))
  refine evalPairs_cons ?_
  refine h3 C I2 (MX.up (x1.trans x2)) fun w3 g3 t3 O3 Z3 I3 x3 r3 => ?_
  refine wpAny_bind (h4 C I3 (MX.up ((x1.trans x2).trans x3)) fun w4 g4 t4 O4 Z4 I4 x4 r4 => wpAny_bind (wpAny_standAt (wpAny_pure ?_)))
  refine evalPairs_nil ?_
  cases r1; cases r2; cases r3; cases r4
  obtain ⟨I5, f5⟩ := I4.dropX
  have hd : g4.DictOf (intKind g.prog g.w) s.heap.objs.size [] := by
    obtain ⟨o, ho, hd⟩ := Heap.dictOf_iff.mp (Heap.DictOf.new (knd := intKind g.prog g.w) s.heap)
    rw [Heap.get?_push_size _ rfl] at ho
    cases ho
    exact Heap.dictOf_iff.mpr ⟨_, f5.at_, hd⟩
  refine display_done_int rfl (by simp [intKeyPairs, hac]) hd fun h' hm hs => ?_
  obtain ⟨o', ho', hd'⟩ := Heap.dictOf_iff.mp hm
  have off : ∀ p ∈ X ++ (O4 ++ Z4), p.1 ≠ s.heap.objs.size := fun p hp e => f5.nm (List.mem_map.mpr ⟨p, hp, e⟩)
  have I6 := I5.sameBut hs f5.n0 f5.nL off
  have I7 := I6.addZ (a := s.heap.objs.size) (o := o') ⟨ho', f5.nL, f5.n0, f5.nm⟩
  have lo : (s.heap.objs.size == sysModules) = false := Fr.notModules I.F (modules_low (Top.nolimit C.T))
  exact kk (.ref s.heap.objs.size) h' _ O4 ((s.heap.objs.size, o') :: Z4) I7 ((((x1.trans x2).trans x3).trans x4).trans ⟨⟨[], by simp⟩, fun p hp => .tail _ hp⟩) (.tab (.head _) ⟨lo, _, hd', flatPairs_two⟩)
end
end Mine

namespace Mine
open PySem PySem.W PySem.Calls PySem.Spec PyProof.Rows PyProof.V
def putI (k v : Int) (D : List (Int × Int)) : List (Int × Int) := if (D.any fun p => decide (p.1 = k)) = true then D.map fun p => if (decide (p.1 = k)) = true then (p.1, v) else p else D ++ [(k, v)]
theorem putI_is (k v : Int) (D : List (Int × Int)) : putD (PyData.int k) (PyData.int v) (kvD D) = kvD (putI k v D) := by
  unfold putD putI
  have e : (kvD D).any (fun p => same p.1 (PyData.int k)) = D.any fun p => decide (p.1 = k) := by
    simp only [kvD, List.any_map, Function.comp_def, same_int]
  rw [e]
  cases D.any fun p => decide (p.1 = k) with
  | false => simp [kvD]
  | true =>
    simp only [if_true, kvD, List.map_map]
    refine List.map_congr_left fun p _ => ?_
    simp only [Function.comp_def, same_int]
    by_cases h : p.1 = k <;> simp [h]
def dictN (ts : List Nat) : List (Int × Int) := (List.range ts.length).foldl (fun D i => putI (ts.getD i 0 : Nat) (i : Nat) D) []
theorem stored_flat {ts : List Nat} {l : List Value} {kvs : List (Int × Value)}
    (x : StoredAll (fun v k => ∃ (i : Nat) (t : Tok), v = .int (i : Int) t ∧ k = ((ts.getD i 0 : Nat) : Int)) (fun v y => ∃ (i : Nat) (t u : Tok), v = .int (i : Int) t ∧ y = .int (i : Int) u) l kvs) :
    (∀ (j : Nat) v, l[j]? = some v → ∃ t, v = .int (j : Int) t) → FlatPairs PyData.int kvs (kvD ((List.range l.length).foldl (fun D i => putI (ts.getD i 0 : Nat) (i : Nat) D) [])) := by
  induction x with
  | nil => intro _; exact .nil
  | @snoc l kvs v k y _ hk hy ih =>
    intro h
    have hl := ih fun j v hj => h j v (by rw [List.getElem?_append_left (List.getElem?_eq_some_iff.mp hj).1]; exact hj)
    obtain ⟨t, hv⟩ := h l.length v (by simp)
    obtain ⟨i, t1, e1, rfl⟩ := hk
    obtain ⟨i2, t2, u, e2, rfl⟩ := hy
    rw [hv] at e1 e2
    simp only [Value.int.injEq, Int.ofNat_inj] at e1 e2
    obtain ⟨rfl, _⟩ := e1
    obtain ⟨rfl, _⟩ := e2
    rw [List.length_append, List.length_singleton, range_succ_foldl, ← putI_is]
    exact FlatPairs.stored same_int hl _ (Flat.int _ _)
section
variable {g : Gl} {n : Nat} {b : Nat} {env : Env} {ρ : Rho} {σ σ₁ σ₂ σ₃ : Sig} {R : Out → Prop}
theorem Inv.but {h₀ hr : Heap} {L J : Addr} {h h' : Heap} {m : PySem.Str → Option Value} {X O Z : Led} {oJ : Obj} (I : Inv h₀ hr L h m X O Z σ) (f : Fresh h₀ L h X O Z J oJ)
    (hk : ∀ b o, b ∉ [J] → h.get? b = some o → h'.get? b = some o) : Inv h₀ hr L h' m X O Z σ := by
  refine I.lok.inv ⟨I.F.ns.at' fun o e => hk _ o (fun hm => f.nL (List.mem_singleton.mp hm).symm) e, fun b o e => hk b o (fun hm => ?_) (I.F.keep b o e), I.F.above⟩ fun p hp => ⟨hk _ _ (fun hm => ?_) (I.N p hp).1, (I.N p hp).2⟩
  · rw [List.mem_singleton.mp hm, f.n0] at e; cases e
  · exact f.nm (List.mem_map.mpr ⟨p, hp, List.mem_singleton.mp hm⟩)
theorem walks_lt {prog : Program} {w : World} {A : Around} {I : Addr} {fp wr : List Addr} {n : Nat} {P : Nat → Value → Prop} {St : Nat → Heap → Prop} (W : Walks prog w A I fp wr n P St) : Walks prog w A I fp wr n (fun i v => i < n ∧ P i v) St :=
  { W with item := fun i s Q E hi st k => W.item i s Q E hi st fun v h' tk hp => k v h' tk ⟨hi, hp⟩ }
theorem Ex.assignDC {x y told : PySem.Str} {iter : Expr} {px py pt pv pv' ps pos spos : Pos} {scope : Scope} {cl : List (PySem.Str × Addr)} {ts : List Nat} {rest : List Stmt} {m : Nat}
    (hy : Stb env y) (hsw : swapsWith (.DictComp (.Subscript (.Name told pt) (.Name x pv) ps) (.Name x pv') [⟨.Name x px, iter, [], 0⟩] scope pos) (some (.Name y py)) spos.line env = pure true)
    (hit : Ev g n env ρ σ iter (.rng 0 m) σ) (hm : ts.length = m) (hlen : m ≤ 1000)
    (hclos : closureFor scope env = pure cl) (hcell : ∀ y ∈ scope.names, y.2 ≠ .cell) (hkind : scope.kind = .function)
    (hnames : ∀ y ∈ scope.names, y.2 = .local → scope.names.lookup y.1 = some .local) (hx : scope.names.lookup x = some .local) (hf : FreeOk env scope cl ρ [(told, .list (nL ts))])
    (hd1 : (told == ("__debug__" : PySem.Str)) = false) (hd2 : (x == ("__debug__" : PySem.Str)) = false)
    (hs : ∀ x, foldedSetIterable iter env x = pure x)
    (hsub : ∀ a (i : Nat) t, subscripted (.Name x pv) false (.ref a) (.int (i : Int) t) = operate [.ref a, .int (i : Int) t] (getItem (.ref a) (.int (i : Int) t)))
    (hr : Ex g n b env ((y, tD g (dictN ts)) :: ρ) σ rest R) :
    Ex g n b env ρ σ (.Assign [.Name y py] (.DictComp (.Subscript (.Name told pt) (.Name x pv) ps) (.Name x pv') [⟨.Name x px, iter, [], 0⟩] scope pos) spos :: rest) R := by
  refine Ex.cons (R₁ := fun o => match o with | .next ρ' σ' => Ex g n b env ρ' σ' rest R | .ret _ _ => False) ?_ (fun ρ' σ' q => q) (fun d σ' q => q.elim)
  intro A hr' outer ef L h₀ mm cs X O Z s Q C₀ S kn kr
  rw [exec_Assign_Name_used _ _ _ _ hsw]
  refine wpAny_bind (wpAny_standAt (wpAny_bind ?_))
  rw [arm_evalThenUse_DictComp]
  refine wpAny_bind (wpAny_mono (Q := fun _ s' => Q .next s') (wpAny_comprehension_free (use := some (PySem.assign (Expr.Name y py) env)) (Q := fun _ s' => Q .next s') rfl hs hclos hkind hnames
    (hit C₀ S.I S.M fun xv h₁ t₁ O₁ Z₁ I₁ x₁ rx => ?_)) (fun _ s' hq => wpAny_pure (wpAny_pure hq)) fun _ _ e => e)
  refine pyIter_D C₀ I₁ rx rfl fun oJ fp P St h' I₂ f₂ it st hfp => ?_
  obtain ⟨tv, lt, rt⟩ := (S.M.up x₁) told (.list (nL ts)) (hf _ (.head _)).1
  obtain ⟨_, hf2, hf3, hf4⟩ := hf _ (.head _)
  have hds : ((List.range m).map fun i => D.int ((0 : Int) + (i : Nat))).length = m := by simp
  have item : ∀ i v, i < ((List.range m).map fun i => D.int ((0 : Int) + (i : Nat))).length ∧ P i v → i < m ∧ ∃ t, v = .int (i : Int) t := by
    intro i v hp
    have hi : i < m := by simpa using hp.1
    have r := it.item i v (.int ((i : Nat) : Int)) hp.2 (by rw [List.getElem?_map, List.getElem?_range hi]; simp)
    cases r
    exact ⟨hi, _, rfl⟩
  have ldx : ∀ (C : Addr) (v : Value) (s₃ : Shared) m₃ (E' : Value → Shared → Prop) (Q : Value → Shared → Prop), s₃.heap.Ns C m₃ → m₃ x = some v → Q v s₃ → ∀ p, wpAny (model g.prog g.w) A (eval (.Name x p) (compEnvC scope cl C env)) Q E' s₃ := by
    intro C v s₃ m₃ E' Q hn hmx hq p
    exact wpAny_Name (wpAny_loadName_local (by simp [compEnvC, relabel, hkind]) (lookup_relabel_local hx) hn hmx hq) hd2
  have keyOk : ∀ C i v (s₃ : Shared) m₃ (E' : Value → Shared → Prop), (i < ((List.range m).map fun i => D.int ((0 : Int) + (i : Nat))).length ∧ P i v) → s₃.heap.Ns C m₃ → m₃ x = some v → (∀ b o, b ∉ [h₁.objs.size] → h'.get? b = some o → s₃.heap.get? b = some o) →
      wpAny (model g.prog g.w) A (eval (.Subscript (.Name told pt) (.Name x pv) ps) (compEnvC scope cl C env)) (fun key s₄ => (∃ k, (intKind g.prog g.w).is k key = true ∧ ∃ (i : Nat) (t : Tok), v = .int (i : Int) t ∧ k = ((ts.getD i 0 : Nat) : Int)) ∧ Keeps s₃ s₄) E' s₃ := by
    intro C i v s₃ m₃ E' hP hn hmx hk
    obtain ⟨hi, t, rfl⟩ := item i v hP
    have I₃ := I₂.but f₂ hk
    cases lt with
    | loc _ hl _ _ => rw [hf3] at hl; cases hl
    | comp _ hl _ _ _ => rw [hf3] at hl; cases hl
    | cell _ _ hc hxm ho =>
      refine Subscript_ (wpAny_Name (wpAny_loadName_cell (by simp [compEnvC, relabel, hkind]) (hf2 C) (show cl.lookup told = _ from hf4.trans hc) ⟨_, (I₃.N _ (List.mem_append_left _ hxm)).1, ho⟩ ?_) hd1)
      refine ldx C _ s₃ m₃ _ _ hn hmx ?_ _
      cases rt with
      | @list a vs _ hs' hl hi' =>
        have hiv : i < vs.length := by rw [hl, List.length_map, hm]; exact hi
        have hts : i < ts.length := by omega
        have hu : vs[i]? = some vs[i] := List.getElem?_eq_getElem hiv
        have hr2 := hi' i vs[i] (.int ((ts.getD i 0 : Nat) : Int)) hu (by rw [List.getElem?_map, List.getElem?_eq_getElem hts, List.getD_eq_getElem?_getD, List.getElem?_eq_getElem hts]; rfl)
        refine item_litK (srcAt_list C₀ I₃ hs') (Int.natCast_nonneg _) (by omega) (by rw [Int.toNat_natCast]; exact hu) ?_ (hsub a i _)
        generalize vs[i] = w at hr2
        cases hr2
        exact ⟨⟨_, intKind_is _ _ _ _, i, t, rfl, rfl⟩, _, _, rfl, fun _ _ e => e⟩
  have D0 : (h'.push { cls := .type "dict", dict := none, data := .dict #[] }).DictOf (intKind g.prog g.w) h'.objs.size [] := Heap.DictOf.new h'
  have up1 : ∀ b o, h'.get? b = some o → (h'.push { cls := .type "dict", dict := none, data := .dict #[] }).get? b = some o := fun b o e => Heap.get?_push_of_some _ e
  have sz1 : (h'.push { cls := .type "dict", dict := none, data := .dict #[] }).objs.size = h'.objs.size + 1 := Heap.size_push _ _
  refine wpAny_newObj_type (wpAny_newFunctionEnv hcell (by intro y hy; simp at hy) (fun h₃ hns hsb => ?_) hkind)
  dsimp only at hns hsb ⊢
  generalize h'.push { cls := .type "dict", dict := none, data := .dict #[] } = H2 at D0 up1 sz1 hns hsb ⊢
  have old : ∀ b o, h'.get? b = some o → h₃.get? b = some o := fun b o e => hsb.extBut b o (by rw [sz1]; exact Nat.ne_of_lt (Nat.lt_succ_of_lt (Heap.lt_size e))) (Heap.get?_push_of_some _ (up1 b o e))
  have hDC : h'.objs.size ≠ H2.objs.size := by rw [sz1]; exact Nat.ne_of_lt (Nat.lt_succ_self _)
  have hacc : h₃.DictOf (intKind g.prog g.w) h'.objs.size [] := D0.at fun o e => hsb.extBut _ _ hDC (Heap.get?_push_of_some _ e)
  have hst₁ : St 0 h₃ := it.walk.frame _ _ _ st fun b _ o e => old b o e
  have hDf : h'.objs.size ∉ fp := fun hm => Nat.lt_irrefl _ (hfp _ hm)
  have hCf : H2.objs.size ∉ fp := fun hm => by have := hfp _ hm; rw [sz1] at this; exact Nat.lt_irrefl _ (Nat.lt_of_succ_lt this)
  have below : ∀ b o, h'.get? b = some o → b ≠ H2.objs.size ∧ b ≠ h'.objs.size := fun b o e => ⟨by rw [sz1]; exact Nat.ne_of_lt (Nat.lt_succ_of_lt (Heap.lt_size e)), Nat.ne_of_lt (Heap.lt_size e)⟩
  have loop : codeAny (model g.prog g.w) A (.compLoop (.DictComp (.Subscript (.Name told pt) (.Name x pv) ps) (.Name x pv') [⟨.Name x px, iter, [], 0⟩] scope pos) 0 (.ref h₁.objs.size) (.ref h'.objs.size) (compEnvC scope cl H2.objs.size env))
      (compPost (model g.prog g.w) A NE (some (PySem.assign (Expr.Name y py) env)) (fun _ s' => Q .next s') (.ref h'.objs.size) H2.objs.size) { s with heap := h₃, toks := t₁ + ([] : List (PySem.Str × Value)).length } := by
    refine codeAny_compLoop_walkD (hsz := by rw [hds]; exact Nat.le_trans hlen (by decide)) (knd := intKind g.prog g.w) (cenv := compEnvC scope cl H2.objs.size env) (walks_lt it.walk) (fun _ => true)
      (fun v k => ∃ (i : Nat) (t : Tok), v = .int (i : Int) t ∧ k = ((ts.getD i 0 : Nat) : Int)) (fun v y => ∃ (i : Nat) (t u : Tok), v = .int (i : Int) t ∧ y = .int (i : Int) u) (lookup_relabel_local hx) (by simp [compEnvC, relabel, hkind]) hDC hDf hCf hst₁ hacc hns ?_ ?_ ?_ ?_
    · intro i v s₃ m₃ hP hn hmx hk
      exact wpAny_pure ⟨rfl, _, _, rfl, fun _ _ e => e⟩
    · intro i v s₃ m₃ hP _ hn hmx hk
      exact keyOk _ i v s₃ m₃ _ hP hn hmx fun b o hb e => hk b o (below b o e).1 hb (below b o e).2 (old b o e)
    · intro i v s₃ m₃ hP _ hn hmx hk
      obtain ⟨hi, t, rfl⟩ := item i v hP
      exact ldx _ _ s₃ m₃ _ _ hn hmx ⟨⟨i, t, t, rfl, rfl⟩, _, _, rfl, fun _ _ e => e⟩ _
    · intro h'' tk m' kvs vs hnC hlD hlen2 hP hF hk0
      have hk : ∀ b o, b ∉ [h₁.objs.size] → h'.get? b = some o → h''.get? b = some o := fun b o hb e => hk0 b o (below b o e).1 hb (below b o e).2 (old b o e)
      have gone : ∀ q, h'.objs.size ≤ q → h'.get? q = none := fun q hq => by
        cases e : h'.get? q with
        | none => rfl
        | some o' => exact absurd (Heap.lt_size e) (Nat.not_lt.mpr hq)
      have I₄ := I₂.but f₂ hk
      obtain ⟨o, ho, hd⟩ := Heap.dictOf_iff.mp hlD
      have off : ∀ q, h'.get? q = none → q ≠ L ∧ h₀.get? q = none ∧ q ∉ ((cs ++ X) ++ (O₁ ++ Z₁)).map (·.1) := by
        intro q hq
        refine ⟨?_, ?_, ?_⟩
        · rintro rfl
          obtain ⟨o, _, _, ho, _⟩ := I₂.F.ns
          rw [hq] at ho; cases ho
        · cases e : h₀.get? q with
          | none => rfl
          | some o' => have := I₂.F.keep _ _ e; rw [hq] at this; cases this
        · intro hm
          obtain ⟨p, hp, e⟩ := List.mem_map.mp hm
          have := (I₂.N p hp).1
          rw [e, hq] at this; cases this
      have oD := off h'.objs.size (gone _ (Nat.le_refl _))
      have oC := off H2.objs.size (gone _ (by rw [sz1]; exact Nat.le_succ _))
      have I₅ := I₄.addZ (a := h'.objs.size) (o := o) ⟨ho, oD.1, oD.2.1, oD.2.2⟩
      have lo : (h'.objs.size == sysModules) = false := Fr.notModules I₂.F (modules_low (Top.nolimit C₀.T))
      have hvf : vs.filter (fun _ => true) = vs := List.filter_eq_self.mpr (by simp)
      rw [hvf] at hF
      have fl := stored_flat hF fun j v hj => (item j v (hP j v hj)).2
      rw [hlen2, hds, ← hm] at fl
      have Sa : Sx b env hr' L h₀ h'' mm cs X O₁ ((h'.objs.size, o) :: Z₁) ρ σ := S.up I₅ (x₁.trans ⟨⟨[], by simp⟩, fun p hp => .tail _ hp⟩)
      refine assign_tail (s := { s with heap := h'', toks := tk }) hy Sa (.tab (.head _) ⟨lo, kvs, hd, fl⟩) hnC oC.2.1 oC.1 (fun p hp e => ?_) fun h3 tk3 m3 cs3 S3 => kn _ _ h3 tk3 m3 cs3 _ _ hr S3 ((x₁.trans ⟨⟨[], by simp⟩, fun p hp => .tail _ hp⟩).toB S.bo)
      simp only [List.mem_append, List.mem_cons] at hp
      rcases hp with hp | hp | rfl | hp
      · exact oC.2.2 (List.mem_map.mpr ⟨p, List.mem_append_left _ (List.mem_append.mpr hp), e⟩)
      · exact oC.2.2 (List.mem_map.mpr ⟨p, List.mem_append_right _ (List.mem_append_left _ hp), e⟩)
      · exact hDC e
      · exact oC.2.2 (List.mem_map.mpr ⟨p, List.mem_append_right _ (List.mem_append_right _ hp), e⟩)
  exact codeAny_compStart_dict loop (it.walk.self 0 _ _ _ hst₁ loop)
end
end Mine

namespace Mine
open PySem PySem.W PySem.Calls PySem.Spec PyProof.Rows PyProof.V
/-- what one pair tells: place, value, place, value -/
abbrev qD (q : Int × Int × Int × Int) : D := .tup [.int q.1, .int q.2.1, .int q.2.2.1, .int q.2.2.2]
abbrev qL (qs : List (Int × Int × Int × Int)) : List D := qs.map qD
theorem plain_qL (qs : List (Int × Int × Int × Int)) : Plain (.list (qL qs)) := .list fun d hd => by
  obtain ⟨q, _, rfl⟩ := List.mem_map.mp hd
  refine .tup fun d hd => ?_
  simp only [List.mem_cons, List.not_mem_nil, or_false] at hd
  rcases hd with rfl | rfl | rfl | rfl <;> exact .int _
theorem low_qL {k : Nat} (qs : List (Int × Int × Int × Int)) : ∀ d ∈ qL qs, Low k d := fun d hd => by
  obtain ⟨q, _, rfl⟩ := List.mem_map.mp hd
  refine .tup fun d hd => ?_
  simp only [List.mem_cons, List.not_mem_nil, or_false] at hd
  rcases hd with rfl | rfl | rfl | rfl <;> exact .int _
theorem lay_qL : ∀ qs : List (Int × Int × Int × Int), PyData.canLayAll0 (pyOfs (qL qs)) = true
  | [] => by simp [pyOfs, PyData.canLayAll0]
  | q :: r => by
    simp only [qL, List.map_cons, pyOfs, pyOf, PyData.canLayAll0, PyData.canLay0, Bool.and_true, Bool.true_and]
    exact lay_qL r
theorem dep_qL : ∀ qs : List (Int × Int × Int × Int), PyData.depthAll (pyOfs (qL qs)) ≤ 3
  | [] => by simp [pyOfs, PyData.depthAll]
  | q :: r => by
    have := dep_qL r
    simp only [qL, List.map_cons, pyOfs, pyOf, PyData.depthAll, PyData.depth] at *; omega
theorem shaped_qL (qs : List (Int × Int × Int × Int)) : SeqAt.shaped (pyOf (.list (qL qs))) = true := by
  have := dep_qL qs
  simp only [pyOf, SeqAt.shaped, PyData.canLay0, PyData.depth, lay_qL, Bool.true_and]
  exact decide_eq_true (by omega)
section
variable {g : Gl} {n : Nat} {σ : Sig}
theorem op_neQ (q : Int × Int × Int × Int) : Op2 g n (compareOp .NotEq) σ (.list (qL [q])) (.list (qL [q])) (.bool false) := by
  have := op_neD (g := g) (n := n) (σ := σ) (plain_qL [q]) (plain_qL [q]) (.inl ⟨_, rfl⟩) (.inl ⟨_, rfl⟩) (shaped_qL _) (shaped_qL _)
  have e : PyData.eqv (pyOf (.list (qL [q]))) (pyOf (.list (qL [q]))) = true := by
    simp [qL, pyOf, pyOfs, PyData.eqv, PyData.eqvAll]
  rwa [e] at this
end
end Mine

namespace Mine
open PySem PySem.W PySem.Calls PySem.Spec PyProof.Rows PyProof.V
section
variable {g : Gl} {n : Nat} {σ : Sig}
theorem call_range2 (a b : Int) (m : Nat) (hs : Builtin.Range.small a b 1 = true) (hz : Builtin.Range.rangeSize a b 1 = ((m : Nat) : Int)) : OpN g n (fun vs => call (.type "range") vs) σ [.int a, .int b] (.rng a m) σ := by
  intro A hr outer ef L h₀ mm X O Z s Q vs C I r k
  obtain ⟨v, w, rfl, rv, rw'⟩ := r.two
  cases rv; cases rw'
  refine range2_rows I.F I.N fun h' tk t₁ u₁ v₁ ir F' N' kp => ?_
  have I' : Inv h₀ hr L h' mm X O Z σ := ⟨F', N', I.nd, I.on, I.ow⟩
  exact k _ h' tk O _ (I'.addZ (fresh_size I ir) (hr := hr)) ⟨⟨[], by simp⟩, fun p hp => .tail _ hp⟩ (.rng (.head _) hs hz)
theorem call_maxN (a b : Nat) : OpN g n (fun vs => call (.builtin "max") vs) σ [.int (a : Int), .int (b : Int)] (.int (max a b : Nat)) σ := by
  have := call_max (g := g) (n := n) (σ := σ) (a : Int) b
  have e : (if (b : Int) > a then (b : Int) else a) = ((max a b : Nat) : Int) := by split <;> omega
  rwa [e] at this
theorem Ev.itemTT {env : Env} {ρ : Rho} {σ σ₁ σ₂ : Sig} {value slice : Expr} {pos : Pos} {kvs : List (Int × Int)} {k v : Int} (hv : Ev g n env ρ σ value (tD g kvs) σ₁) (hs : Ev g n env ρ σ₁ slice (.int k) σ₂) (hd : look kvs k = some v)
    (hsub : ∀ a u, subscripted slice false (.ref a) (.int k u) = operate [.ref a, .int k u] (getItem (.ref a) (.int k u))) : Ev g n env ρ σ (.Subscript value slice pos) (.int v) σ₂ := by
  intro A hr outer ef L h₀ m X O Z s Q C I M kk
  refine Subscript_ (hv C I M fun w h₁ t₁ O₁ Z₁ I₁ x₁ rv => hs C I₁ (M.up x₁) fun u h₂ t₂ O₂ Z₂ I₂ x₂ rw' => ?_)
  cases rw'
  obtain ⟨a, rfl, T⟩ := (rv.up x₂).tabAt I₂
  obtain ⟨lo, kvs', hdd, hf⟩ := id T
  refine tail_any hdd.typeIs slot_dict_getitem.lookup (kys_getItem (k := k) same_int (intKind_is _ _ _ _) T ?_) (hsub _ _)
  unfold KysD
  rw [look_is, hd]
  intro w hw
  obtain ⟨t, rfl⟩ := flat_int hw
  exact kk _ h₂ _ O₂ Z₂ I₂ (x₁.trans x₂) (.int _ _)
end
end Mine

namespace Mine
open PySem PySem.W PySem.Calls PySem.Spec PyProof.Rows
abbrev pw : Program := PySem.Challenge.pw_oo0004_02

/-! what the code computes, in plain functions -/
def gens : List Nat := [996825010, 642813549, 513874426, 1027748829, 705979059]
def bitStep (c : Nat) (r : Nat) (i : Nat) : Nat := r ^^^ (if ((c >>> 25) >>> i &&& 1 != 0) = true then gens.getD i 0 else 0)
def stepN (c v : Nat) : Nat := (List.range 5).foldl (bitStep c) (((c &&& 33554431) <<< 5) ^^^ v)
def polyN (vs : List Nat) : Nat := vs.foldl stepN 1
def hrpN (cs : List Nat) : List Nat := cs.map (· >>> 5) ++ [0] ++ cs.map (· &&& 31)
def sixN (p : Nat) : List Nat := (List.range 6).map fun i => (p >>> (5 * (5 - i))) &&& 31
def createN (cs ds : List Nat) : List Nat := sixN (polyN ((hrpN cs ++ ds) ++ [0, 0, 0, 0, 0, 0]) ^^^ 1)
def verifyN (cs ds : List Nat) : Bool := polyN (hrpN cs ++ ds) == 1

section
variable {g : Gl} {n : Nat}

theorem poly_fn {a : Addr} (hf : HasFn g.K "bech32_polymod" (stAt pw 1) a) (hr : NoName g.K "range") (ns : List Nat) : OpN g (n + 1) (fun vs => call (.ref a) vs) [] [.list (nL ns)] (.int (polyN ns : Nat)) [] := by
  refine fn_of [PySem.Str.ofString "values"] hf ?_ rfl (by simp) ?_ (by decide) rfl rfl rfl (fun L cdv => ?_) (.int _)
  · intro doc pm an cdv ct vs hl s
    match vs, hl with
    | [v], _ => exact BindsTo.of_eq rfl
  · intro x hx
    simp at hx; subst hx; exact .inl rfl
  change Ex _ _ _ _ _ _ (_ :: _ :: _ :: _ :: []) _
  refine Ex.assign (d := .list (nL gens)) ⟨rfl, .inl rfl⟩ (EvF.frozen (EvF.list (Evs.cons rfl Ev.int (Evs.cons rfl Ev.int (Evs.cons rfl Ev.int (Evs.cons rfl Ev.int (Evs.cons rfl Ev.int Evs.nil))))) (by decide))) rfl ?_
  refine Ex.assign (d := .int (1 : Nat)) ⟨rfl, .inl rfl⟩ Ev.int rfl ?_
  refine Ex.forI (fun i => [(PySem.Str.ofString "chk", .int (polyN (ns.take i) : Nat)), (PySem.Str.ofString "generator", .list (nL gens))]) (fun _ => []) ⟨rfl, .inl rfl⟩ (Ev.name rfl rfl) rfl (low_nL _) (fun _ => rfl) ⟨rfl, rfl, trivial⟩ (fun i di hd => ?_) ?_
  · obtain ⟨v, hv, rfl⟩ := nL_get hd
    refine Ex.assign ⟨rfl, .inl rfl⟩ (Ev.bin (Ev.name rfl rfl) (Ev.nat (k := 25)) (opn_shr _ 25)) rfl ?_
    refine Ex.assign ⟨rfl, .inl rfl⟩ (Ev.bin (Ev.bin (Ev.bin (Ev.name rfl rfl) (Ev.nat (k := 33554431)) (opn_and _ 33554431)) (Ev.nat (k := 5)) (opn_shl _ 5 (by decide) (Nat.lt_of_le_of_lt Nat.and_le_right (by decide)))) (Ev.name rfl rfl) (opn_xor _ _)) rfl ?_
    refine Ex.forI (fun j => [(PySem.Str.ofString "chk", .int (((List.range j).foldl (bitStep (polyN (ns.take i))) (((polyN (ns.take i) &&& 33554431) <<< 5) ^^^ v) : Nat) : Int)), (PySem.Str.ofString "generator", .list (nL gens)), (PySem.Str.ofString "top", .int (polyN (ns.take i) >>> 25 : Nat))]) (fun _ => []) ⟨rfl, .inl rfl⟩
      (Ev.callT (Gv.bi rfl rfl rfl rfl hr bt_range (by decide) rfl) (Evs.cons rfl (Ev.nat (k := 5)) Evs.nil) (call_range1 5 (by decide)) rfl (fun _ => rfl) rfl) rfl low_rng (fun _ => rfl) ⟨rfl, rfl, rfl, trivial⟩ (fun j dj hj => ?_) ?_
    · obtain ⟨hj5, rfl⟩ := rng_get0 hj
      refine Ex.aug ⟨rfl, .inl rfl⟩ rfl (Ev.iteN (j := 0) (Tr.nat (Ev.bin (Ev.bin (Ev.name rfl rfl) (Ev.name rfl rfl) (opn_shr _ _)) (Ev.nat (k := 1)) (opn_and _ 1)) (fun _ => rfl)) (fun _ => Ev.itemN (Ev.name rfl rfl) (Ev.name rfl rfl) hj5 (by decide) (fun _ _ => rfl)) (fun _ => Ev.nat (k := 0))) (opn_ixor _ _) (Ex.nil ⟨⟨?_, rfl, rfl, trivial⟩, rfl⟩)
      rw [range_succ_foldl]; rfl
    · refine Ex.nil ⟨⟨?_, rfl, trivial⟩, rfl⟩
      have e : polyN (ns.take (i + 1)) = stepN (polyN (ns.take i)) v := take_succ_foldl _ _ hv
      rw [e]
      simp only [List.length_map, List.length_range]
      rfl
  · refine Ex.ret (Ev.name rfl rfl) ⟨[], ?_⟩
    rw [show (nL ns).length = ns.length by simp, List.take_length]

theorem hrp_fn {a : Addr} (hf : HasFn g.K "bech32_hrp_expand" (stAt pw 2) a) (ho : NoName g.K "ord") (cs : List Nat) (hz : cs.length ≤ 100) : OpN g (n + 1) (fun vs => call (.ref a) vs) [] [sD cs] (.list (nL (hrpN cs))) [] := by
  refine fn_of [PySem.Str.ofString "hrp"] hf ?_ rfl (by simp) ?_ (by decide) rfl rfl rfl (fun L cdv => ?_) (.list (low_nL _))
  · intro doc pm an cdv ct vs hl s
    match vs, hl with
    | [v], _ => exact BindsTo.of_eq rfl
  · intro x hx
    simp at hx; subst hx; exact .inl rfl
  change Ex _ _ _ _ _ _ (_ :: []) _
  refine Ex.ret (d := .list (nL (hrpN cs))) (EvF.frozen ?_) ⟨[], rfl⟩
  have e : nL (hrpN cs) = (nL (cs.map (· >>> 5)) ++ nL [0]) ++ nL (cs.map (· &&& 31)) := by simp [hrpN, nL]
  rw [e]
  have hd : itemsOf (sD cs) = some (cs.map fun c => D.str ⟨#[c]⟩) := rfl
  refine EvF.bin (σ₁ := []) (da := .list (nL (cs.map (· >>> 5)) ++ nL [0])) (db := .list (nL (cs.map (· &&& 31)))) (EvF.frozen (EvF.bin (σ₁ := []) (da := .list (nL (cs.map (· >>> 5)))) (db := .list (nL [0])) (EvF.frozen ?_) (EvF.frozen (EvF.list (Evs.cons rfl Ev.int Evs.nil) (by decide))) (op_addL _ _ (by simp; omega)))) (EvF.frozen ?_) (op_addL _ _ (by simp; omega))
  · refine EvF.comp (ρf := []) (Ev.name rfl rfl) hd (by simp; omega) (by simp) rfl (by decide) rfl (by decide) rfl (by intro p hp; cases hp) (fun _ => rfl) (fun i di ei C h1 h2 => ?_)
    obtain ⟨c, hc, rfl⟩ := sD_get h1
    obtain ⟨k, hk, rfl⟩ := nL_get h2
    have : k = c >>> 5 := by rw [List.getElem?_map, hc] at hk; simpa using hk.symm
    subst this
    exact Ev.bin (Ev.callB (Gv.bi rfl rfl rfl rfl ho bt_ord (by decide) rfl) (Evs.cons rfl (Ev.name rfl rfl) Evs.nil) (call_ord c) rfl (fun _ => rfl) rfl) (Ev.nat (k := 5)) (opn_shr _ 5)
  · refine EvF.comp (ρf := []) (Ev.name rfl rfl) hd (by simp; omega) (by simp) rfl (by decide) rfl (by decide) rfl (by intro p hp; cases hp) (fun _ => rfl) (fun i di ei C h1 h2 => ?_)
    obtain ⟨c, hc, rfl⟩ := sD_get h1
    obtain ⟨k, hk, rfl⟩ := nL_get h2
    have : k = c &&& 31 := by rw [List.getElem?_map, hc] at hk; simpa using hk.symm
    subst this
    exact Ev.bin (Ev.callB (Gv.bi rfl rfl rfl rfl ho bt_ord (by decide) rfl) (Evs.cons rfl (Ev.name rfl rfl) Evs.nil) (call_ord c) rfl (fun _ => rfl) rfl) (Ev.nat (k := 31)) (opn_and _ 31)

theorem verify_fn {a a1 a2 : Addr} (hf : HasFn g.K "bech32_verify_checksum" (stAt pw 3) a) (h1 : HasFn g.K "bech32_polymod" (stAt pw 1) a1) (h2 : HasFn g.K "bech32_hrp_expand" (stAt pw 2) a2)
    (hr : NoName g.K "range") (ho : NoName g.K "ord") (hl : NoName g.K "list") (cs ds : List Nat) (hz : cs.length ≤ 100) (hz' : ds.length ≤ 1000) :
    OpN g (n + 2) (fun vs => call (.ref a) vs) [] [sD cs, .list (nL ds)] (.bool (verifyN cs ds)) [] := by
  refine fn_of [PySem.Str.ofString "hrp", PySem.Str.ofString "data"] hf ?_ rfl (by decide) ?_ (by decide) rfl rfl rfl (fun L cdv => ?_) (.bool _)
  · intro doc pm an cdv ct vs hl s
    match vs, hl with
    | [v, w], _ => exact BindsTo.of_eq rfl
  · intro x hx
    simp at hx; rcases hx with rfl | rfl <;> exact .inl rfl
  change Ex _ _ _ _ _ _ (_ :: []) _
  refine Ex.ret (d := .bool (verifyN cs ds)) (Ev.cmp (Ev.callF (Gv.own rfl rfl rfl h1.1 rfl) h1.2.1 (Evs.cons rfl (EvF.frozen (EvF.conv (EvF.bin
    (Ev.callF (Gv.own rfl rfl rfl h2.1 rfl) h2.2.1 (Evs.cons rfl (Ev.name rfl rfl) Evs.nil) (hrp_fn h2 ho cs hz) rfl (fun _ => rfl) rfl)
    (EvF.frozen (EvF.callT (Gv.bi rfl rfl rfl rfl hl bt_list (by decide) rfl) (Evs.cons rfl (Ev.name rfl rfl) Evs.nil) (call_list _ (by simp; omega)) rfl (fun _ => rfl) rfl))
    (op_addL _ _ (by simp [hrpN]; omega))) (d' := nL (hrpN cs ++ ds)) (by simp [nL]))) Evs.nil) (poly_fn h1 hr (hrpN cs ++ ds)) rfl (fun _ => rfl) rfl) (Ev.nat (k := 1)) (opn_eq _ 1) rfl) ⟨[], rfl⟩

theorem create_fn {a a1 a2 : Addr} (hf : HasFn g.K "bech32_create_checksum" (stAt pw 4) a) (h1 : HasFn g.K "bech32_polymod" (stAt pw 1) a1) (h2 : HasFn g.K "bech32_hrp_expand" (stAt pw 2) a2)
    (hr : NoName g.K "range") (ho : NoName g.K "ord") (hl : NoName g.K "list") (cs ds : List Nat) (hz : cs.length ≤ 100) (hz' : ds.length ≤ 1000) :
    OpN g (n + 2) (fun vs => call (.ref a) vs) [] [sD cs, .list (nL ds)] (.list (nL (createN cs ds))) [] := by
  refine fn_of [PySem.Str.ofString "hrp", PySem.Str.ofString "data"] hf ?_ rfl (by decide) ?_ (by decide) rfl rfl rfl (fun L cdv => ?_) (.list (low_nL _))
  · intro doc pm an cdv ct vs hl s
    match vs, hl with
    | [v, w], _ => exact BindsTo.of_eq rfl
  · intro x hx
    simp at hx; rcases hx with rfl | rfl <;> exact .inl rfl
  change Ex _ _ _ _ _ _ (_ :: _ :: _ :: []) _
  refine Ex.assign (d := .list (nL (hrpN cs ++ ds))) ⟨rfl, .inl rfl⟩ (EvF.frozen (EvF.conv (EvF.bin
    (Ev.callF (Gv.own rfl rfl rfl h2.1 rfl) h2.2.1 (Evs.cons rfl (Ev.name rfl rfl) Evs.nil) (hrp_fn h2 ho cs hz) rfl (fun _ => rfl) rfl)
    (EvF.frozen (EvF.callT (Gv.bi rfl rfl rfl rfl hl bt_list (by decide) rfl) (Evs.cons rfl (Ev.name rfl rfl) Evs.nil) (call_list _ (by simp; omega)) rfl (fun _ => rfl) rfl))
    (op_addL _ _ (by simp [hrpN]; omega))) (by simp [nL]))) rfl ?_
  refine Ex.assign (d := .int ((polyN ((hrpN cs ++ ds) ++ [0, 0, 0, 0, 0, 0]) ^^^ 1 : Nat) : Int)) ⟨rfl, .inr ⟨rfl, rfl⟩⟩ (Ev.bin (Ev.callF (Gv.own rfl rfl rfl h1.1 rfl) h1.2.1 (Evs.cons rfl (EvF.frozen (EvF.conv (EvF.bin (Ev.name rfl rfl)
    (EvF.frozen (EvF.list (Evs.cons rfl Ev.int (Evs.cons rfl Ev.int (Evs.cons rfl Ev.int (Evs.cons rfl Ev.int (Evs.cons rfl Ev.int (Evs.cons rfl Ev.int Evs.nil)))))) (by decide)))
    (op_addL _ _ (by simp [hrpN]; omega))) (d' := nL ((hrpN cs ++ ds) ++ [0, 0, 0, 0, 0, 0])) (by simp [nL]))) Evs.nil) (poly_fn h1 hr _) rfl (fun _ => rfl) rfl) (Ev.nat (k := 1)) (opn_xor _ 1)) rfl ?_
  refine Ex.ret (σ₁ := []) (d := .list (nL (createN cs ds))) (EvF.frozen ?_) ⟨[], rfl⟩
  refine EvF.comp (ρf := [(PySem.Str.ofString "polymod", .int ((polyN ((hrpN cs ++ ds) ++ [0, 0, 0, 0, 0, 0]) ^^^ 1 : Nat) : Int))]) (Ev.callT (Gv.bi rfl rfl rfl rfl hr bt_range (by decide) rfl) (Evs.cons rfl (Ev.nat (k := 6)) Evs.nil) (call_range1 6 (by decide)) rfl (fun _ => rfl) rfl) rfl (by decide) (by simp [createN, sixN]) rfl (by decide) rfl (by decide) rfl (FreeR.ok ⟨⟨rfl, fun _ => rfl, rfl, rfl⟩, trivial⟩) (fun _ => rfl) (fun i di ei C h1 h2 => ?_)
  · obtain ⟨hi, rfl⟩ := rng_get0 h1
    obtain ⟨k, hk, rfl⟩ := nL_get h2
    have : k = (polyN ((hrpN cs ++ ds) ++ [0, 0, 0, 0, 0, 0]) ^^^ 1) >>> (5 * (5 - i)) &&& 31 := by
      unfold createN sixN at hk
      rw [List.getElem?_map, List.getElem?_range hi] at hk
      simpa using hk.symm
    subst this
    exact Ev.bin (Ev.bin (Ev.name rfl rfl) (Ev.bin (Ev.nat (k := 5)) (Ev.bin (Ev.nat (k := 5)) (Ev.name rfl rfl) (opn_sub 5 i (by omega))) (opn_mul 5 _ (IntMulOk.of_left (by decide +kernel)))) (opn_shr _ _)) (Ev.nat (k := 31)) (opn_and _ 31)
end
end Mine

namespace Mine
end Mine

namespace Mine
open PySem PySem.W PySem.Calls PySem.Spec PyProof.Rows
section
variable {g : Gl} {n : Nat} {b : Nat} {env : Env} {ρ : Rho} {σ σ₁ : Sig} {R : Out → Prop}
theorem Ex.if_yes {test : Expr} {body rest : List Stmt} {pos : Pos} (ht : Tr g n env ρ σ test true σ₁) (h : Ex g n b env ρ σ₁ body (fun o => match o with | .next _ _ => False | .ret d σ' => R (.ret d σ'))) : Ex g n b env ρ σ (.If test body [] pos :: rest) R :=
  Ex.ite ht (fun _ => h) (fun q => by cases q) (fun _ _ hF => hF.elim) (fun _ _ h => h)
end
/-- what stands in the state: the numbers, the place, the seed -/
structure Stt where
  i : Nat
  s : Nat
def stD (l : List Int) (q : Stt) : List D := [.list (iLs l), .int (q.i : Int), .int (q.s : Int)]
def nextQ (l : List Int) (q : Stt) : Stt := if (decide (q.i < l.length)) = true then ⟨q.i + 1, (q.s * 31 + (l.getD q.i 0).natAbs) % 2147483647⟩ else ⟨q.i, (q.s * 48271 + 11) % 2147483647⟩
def nextV (l : List Int) (q : Stt) (m : Nat) : Nat := if (decide (q.i < l.length)) = true then (l.getD q.i 0).natAbs % m else (nextQ l q).s / 7 % m
section
variable {g : Gl} {n : Nat}
theorem next_fn {a : Addr} (hf : HasFn g.K "_law_next" (stAt pw 6) a) (hl : NoName g.K "len") (ha : NoName g.K "abs") (l : List Int) (hz : l.length ≤ 63) (q : Stt) (m : Nat) (hm : m ≠ 0) :
    OpN g (n + 1) (fun vs => call (.ref a) vs) [stD l q] [.own 0, .int (m : Nat)] (.int (nextV l q m : Nat)) [stD l (nextQ l q)] := by
  refine fn_ofO [PySem.Str.ofString "state", PySem.Str.ofString "many"] hf ?_ rfl (by decide) ?_ (by decide) rfl rfl rfl (fun L cdv => ?_) rfl
  · intro doc pm an cdv ct vs hl s
    match vs, hl with
    | [u, v], _ => exact BindsTo.of_eq rfl
  · intro x hx
    simp at hx; rcases hx with rfl | rfl <;> exact .inl rfl
  change Ex _ _ _ _ _ _ (_ :: _ :: _ :: []) _
  have hx : ∀ {i : Nat}, i < l.length → (iLs l)[((i : Nat) : Int).toNat]? = some (.int (l.getD i 0)) := fun {i} h => by
    rw [Int.toNat_natCast, List.getElem?_map, List.getElem?_eq_getElem h, List.getD_eq_getElem?_getD, List.getElem?_eq_getElem h]; rfl
  by_cases hc : q.i < l.length
  · have e1 : nextQ l q = ⟨q.i + 1, (q.s * 31 + (l.getD q.i 0).natAbs) % 2147483647⟩ := by unfold nextQ; rw [if_pos (decide_eq_true hc)]
    have e2 : nextV l q m = (l.getD q.i 0).natAbs % m := by unfold nextV; rw [if_pos (decide_eq_true hc)]
    rw [e1, e2]
    refine Ex.if_yes (σ₁ := [stD l q]) ?_ ?_
    · have h1 : decide (q.i < l.length) = true := decide_eq_true hc
      refine h1 ▸ Tr.cmp (Ev.itemO (j := 0) (k := 1) (Ev.name rfl rfl) Ev.int rfl (by decide) (by decide) rfl (fun _ _ => rfl)) (Ev.callB (Gv.bi rfl rfl rfl rfl hl bt_len (by decide) rfl) (Evs.cons rfl (Ev.itemO (j := 0) (k := 0) (Ev.name rfl rfl) Ev.int rfl (by decide) (by decide) rfl (fun _ _ => rfl)) Evs.nil) (call_len _ (by simp; omega)) rfl (fun _ => rfl) rfl) ?_ rfl
      rw [List.length_map]; exact opn_lt _ _
    · refine Ex.assign (d := .int ((l.getD q.i 0).natAbs : Nat)) (σ₁ := [stD l q]) ⟨rfl, .inl rfl⟩ (Ev.conv (Ev.callB (Gv.bi rfl rfl rfl rfl ha bt_abs (by decide) rfl) (Evs.cons rfl (Ev.item (σ₁ := [stD l q]) (k := (q.i : Int)) (Ev.itemO (j := 0) (k := 0) (Ev.name rfl rfl) Ev.int rfl (by decide) (by decide) rfl (fun _ _ => rfl)) (Ev.itemO (j := 0) (k := 1) (Ev.name rfl rfl) Ev.int rfl (by decide) (by decide) rfl (fun _ _ => rfl)) (Int.natCast_nonneg _) (by omega) (hx hc) (fun _ _ => rfl)) Evs.nil) (call_abs _) rfl (fun _ => rfl) rfl) (by congr 1; split <;> omega)) rfl ?_
      refine Ex.setItem (k := 0) (i := ((1 : Nat) : Int)) (d := .int (q.i + 1 : Nat)) rfl rfl (Ev.bin (Ev.itemO (j := 0) (k := 1) (Ev.name rfl rfl) Ev.int rfl (by decide) (by decide) rfl (fun _ _ => rfl)) (Ev.nat (k := 1)) (opn_add _ 1)) (Ev.nat (k := 1)) rfl (by decide) (show ((1 : Nat) : Int) < ((3 : Nat) : Int) by decide) (show 3 ≤ 2 ^ 20 by decide) rfl ?_
      refine Ex.setItem (k := 0) (i := ((2 : Nat) : Int)) (d := .int ((q.s * 31 + (l.getD q.i 0).natAbs) % 2147483647 : Nat)) rfl rfl (Ev.bin (Ev.bin (Ev.bin (Ev.itemO (j := 0) (k := 2) (Ev.name rfl rfl) Ev.int rfl (by decide) (by decide) rfl (fun _ _ => rfl)) (Ev.nat (k := 31)) (opn_mul _ 31 (IntMulOk.of_right (by decide +kernel)))) (Ev.name rfl rfl) (opn_add _ _)) (Ev.nat (k := 2147483647)) (opn_mod _ _ (by decide))) (Ev.nat (k := 2)) rfl (by decide) (show ((2 : Nat) : Int) < ((3 : Nat) : Int) by decide) (show 3 ≤ 2 ^ 20 by decide) rfl ?_
      exact Ex.ret (Ev.bin (Ev.name rfl rfl) (Ev.name rfl rfl) (opn_mod _ _ hm)) rfl
  · have e1 : nextQ l q = ⟨q.i, (q.s * 48271 + 11) % 2147483647⟩ := by unfold nextQ; rw [if_neg (by simp [hc])]
    have e2 : nextV l q m = (q.s * 48271 + 11) % 2147483647 / 7 % m := by unfold nextV; rw [if_neg (by simp [hc]), e1]
    rw [e1, e2]
    refine Ex.if_no (σ₁ := [stD l q]) ?_ ?_
    · have h1 : decide (q.i < l.length) = false := decide_eq_false hc
      refine h1 ▸ Tr.cmp (Ev.itemO (j := 0) (k := 1) (Ev.name rfl rfl) Ev.int rfl (by decide) (by decide) rfl (fun _ _ => rfl)) (Ev.callB (Gv.bi rfl rfl rfl rfl hl bt_len (by decide) rfl) (Evs.cons rfl (Ev.itemO (j := 0) (k := 0) (Ev.name rfl rfl) Ev.int rfl (by decide) (by decide) rfl (fun _ _ => rfl)) Evs.nil) (call_len _ (by simp; omega)) rfl (fun _ => rfl) rfl) ?_ rfl
      rw [List.length_map]; exact opn_lt _ _
    · refine Ex.setItem (k := 0) (i := ((2 : Nat) : Int)) (d := .int ((q.s * 48271 + 11) % 2147483647 : Nat)) rfl rfl (Ev.bin (Ev.bin (Ev.bin (Ev.itemO (j := 0) (k := 2) (Ev.name rfl rfl) Ev.int rfl (by decide) (by decide) rfl (fun _ _ => rfl)) (Ev.nat (k := 48271)) (opn_mul _ 48271 (IntMulOk.of_right (by decide +kernel)))) (Ev.nat (k := 11)) (opn_add _ _)) (Ev.nat (k := 2147483647)) (opn_mod _ _ (by decide))) (Ev.nat (k := 2)) rfl (by decide) (show ((2 : Nat) : Int) < ((3 : Nat) : Int) by decide) (show 3 ≤ 2 ^ 20 by decide) rfl ?_
      exact Ex.ret (Ev.bin (Ev.bin (Ev.itemO (j := 0) (k := 2) (Ev.name rfl rfl) Ev.int rfl (by decide) (by decide) rfl (fun _ _ => rfl)) (Ev.nat (k := 7)) (opn_div _ 7 (by decide) (by decide))) (Ev.name rfl rfl) (opn_mod _ _ hm)) rfl
end
end Mine

namespace Mine
open PySem PySem.W PySem.Calls PySem.Spec PyProof.Rows
def bareN (far : Nat) : Nat := polyN (List.replicate (far + 1) 0)
def shareN (far b : Nat) : Nat := polyN (b :: List.replicate far 0) ^^^ bareN far
def bringS (far : Nat) (t : List Nat) (b : Nat) : List Nat := t ++ t.map (· ^^^ shareN far b)
def bringN (far : Nat) : List Nat := [1, 2, 4, 8, 16].foldl (bringS far) [0]
theorem bring_len (far : Nat) : ∀ i, i ≤ 5 → (([1, 2, 4, 8, 16].take i).foldl (bringS far) [0]).length = 2 ^ i
  | 0, _ => rfl
  | 1, _ => by simp [bringS]
  | 2, _ => by simp [bringS]
  | 3, _ => by simp [bringS]
  | 4, _ => by simp [bringS]
  | 5, _ => by simp [bringS]
  | k + 6, h => by omega
theorem mulL_z (k : Nat) : (List.replicate ((k : Int)).toNat (nL [0])).flatten = nL (List.replicate k 0) := by
  rw [Int.toNat_natCast]
  induction k with
  | zero => rfl
  | succ k ih => rw [List.replicate_succ, List.flatten_cons, ih, List.replicate_succ]; rfl
section
variable {g : Gl} {n : Nat}
theorem brought_fn {a a1 : Addr} (hf : HasFn g.K "_law_brought" (stAt pw 7) a) (h1 : HasFn g.K "bech32_polymod" (stAt pw 1) a1) (hr : NoName g.K "range") (far : Nat) (hz : far ≤ 30) :
    OpN g (n + 2) (fun vs => call (.ref a) vs) [] [.int (far : Nat)] (.list (nL (bringN far))) [] := by
  refine fn_of [PySem.Str.ofString "far"] hf ?_ rfl (by decide) ?_ (by decide) rfl rfl rfl (fun L cdv => ?_) (.list (low_nL _))
  · intro doc pm an cdv ct vs hl s
    match vs, hl with
    | [u], _ => exact BindsTo.of_eq rfl
  · intro x hx
    simp at hx; rcases hx with rfl; exact .inl rfl
  change Ex _ _ _ _ _ _ (_ :: _ :: _ :: []) _
  refine Ex.unpackS (σ₁ := []) (ds := [.int (bareN far : Nat), .list (nL [0])]) (xs := [PySem.Str.ofString "bare", PySem.Str.ofString "told"]) (Ev.tup (Evs.cons (σ₁ := []) rfl ?_ (Evs.cons (σ₁ := []) rfl ?_ Evs.nil)) (by simp)) (by simp only [List.mem_cons, List.not_mem_nil, or_false]; rintro x (rfl | rfl) <;> exact ⟨rfl, .inl rfl⟩) rfl rfl rfl ?_
  · exact Ev.callF (Gv.own rfl rfl rfl h1.1 rfl) h1.2.1 (Evs.cons rfl (EvF.frozen (EvF.conv (EvF.bin (EvF.frozen (EvF.list (Evs.cons rfl (Ev.nat (k := 0)) Evs.nil) (by simp))) (Ev.bin (Ev.name rfl rfl) (Ev.nat (k := 1)) (opn_add _ 1)) (op_mulL _ _ (by omega) (by omega) (by simp; omega))) (mulL_z (far + 1)))) Evs.nil) (poly_fn h1 hr _) rfl (fun _ => rfl) rfl
  · exact EvF.frozen (EvF.list (Evs.cons rfl (Ev.nat (k := 0)) Evs.nil) (by simp))
  refine Ex.forI (ds := nL [1, 2, 4, 8, 16]) (d := .list (nL [1, 2, 4, 8, 16])) (fun i => [(PySem.Str.ofString "told", .list (nL (([1, 2, 4, 8, 16].take i).foldl (bringS far) [0]))), (PySem.Str.ofString "bare", .int (bareN far : Nat)), (PySem.Str.ofString "far", .int (far : Nat))]) (fun _ => []) ⟨rfl, .inl rfl⟩ (EvF.frozen (EvF.list (Evs.cons rfl (Ev.nat (k := 1)) (Evs.cons rfl (Ev.nat (k := 2)) (Evs.cons rfl (Ev.nat (k := 4)) (Evs.cons rfl (Ev.nat (k := 8)) (Evs.cons rfl (Ev.nat (k := 16)) Evs.nil))))) (by simp))) rfl (low_nL _) (fun _ => rfl) ⟨rfl, rfl, rfl, trivial⟩ (fun i di hd => ?_) ?_
  · obtain ⟨c, hc, rfl⟩ := nL_get hd
    have hi : i < 5 := by
      have := (List.getElem?_eq_some_iff.mp hc).1
      simpa using this
    have hln := bring_len far i (by omega)
    have h2 : 2 ^ i ≤ 2 ^ 5 := Nat.pow_le_pow_right (by decide) (by omega)
    have hst : ([1, 2, 4, 8, 16].take (i + 1)).foldl (bringS far) [0] = bringS far (([1, 2, 4, 8, 16].take i).foldl (bringS far) [0]) c := take_succ_foldl _ _ hc
    rw [hst]
    generalize ([1, 2, 4, 8, 16].take i).foldl (bringS far) [0] = t at hln ⊢
    refine Ex.assign (d := .int (shareN far c : Nat)) (σ₁ := []) ⟨rfl, .inr ⟨rfl, rfl⟩⟩ (Ev.bin (Ev.callF (Gv.own rfl rfl rfl h1.1 rfl) h1.2.1 (Evs.cons rfl (EvF.frozen (EvF.conv (EvF.bin (σ₁ := []) (EvF.frozen (EvF.list (Evs.cons rfl (Ev.name rfl rfl) Evs.nil) (by simp))) (EvF.frozen (EvF.conv (EvF.bin (EvF.frozen (EvF.list (Evs.cons rfl (Ev.nat (k := 0)) Evs.nil) (by simp))) (Ev.name rfl rfl) (op_mulL _ _ (by omega) (by omega) (by simp; omega))) (mulL_z far))) (op_addL _ _ (by simp; omega))) (d' := nL (c :: List.replicate far 0)) rfl)) Evs.nil) (poly_fn h1 hr _) rfl (fun _ => rfl) rfl) (Ev.name rfl rfl) (opn_xor _ _)) rfl ?_
    refine Ex.assign (d := .list (nL (bringS far t c))) (σ₁ := []) ⟨rfl, .inl rfl⟩ (EvF.frozen (EvF.conv (EvF.bin (σ₁ := []) (Ev.name rfl rfl) (db := .list (nL (t.map (· ^^^ shareN far c)))) (EvF.frozen ?_) (op_addL _ _ (by simp; omega))) (by simp [nL, bringS]))) rfl (Ex.nil ⟨⟨rfl, rfl, rfl, trivial⟩, rfl⟩)
    refine EvF.comp (ρf := [(PySem.Str.ofString "share", .int (shareN far c : Nat))]) (Ev.name rfl rfl) rfl (by simp; omega) (by simp) rfl (by decide) rfl (by decide) rfl (FreeR.ok ⟨⟨rfl, fun _ => rfl, rfl, rfl⟩, trivial⟩) (fun _ => rfl) (fun i di ei C h1 h2 => ?_)
    obtain ⟨x, hx, rfl⟩ := nL_get h1
    obtain ⟨y, hy, rfl⟩ := nL_get h2
    have : y = x ^^^ shareN far c := by rw [List.getElem?_map, hx] at hy; simpa using hy.symm
    subst this
    exact (Ev.bin (Ev.name rfl rfl) (Ev.name rfl rfl) (opn_xor _ _))
  · exact Ex.ret (σ₁ := []) (Ev.name rfl rfl) ⟨[], rfl⟩
end
end Mine

namespace Mine
open PySem PySem.W PySem.Calls PySem.Spec PyProof.Rows
structure Fns (K : Frag) where
  a1 : Addr
  a2 : Addr
  a3 : Addr
  a4 : Addr
  a6 : Addr
  a7 : Addr
  f1 : HasFn K "bech32_polymod" (stAt pw 1) a1
  f2 : HasFn K "bech32_hrp_expand" (stAt pw 2) a2
  f3 : HasFn K "bech32_verify_checksum" (stAt pw 3) a3
  f4 : HasFn K "bech32_create_checksum" (stAt pw 4) a4
  f6 : HasFn K "_law_next" (stAt pw 6) a6
  f7 : HasFn K "_law_brought" (stAt pw 7) a7
  range : NoName K "range"
  ord : NoName K "ord"
  list : NoName K "list"
  len : NoName K "len"
  abs : NoName K "abs"
  min : NoName K "min"
  max : NoName K "max"

def seqQ (l : List Int) (q : Stt) : Nat → Stt
  | 0 => q
  | i + 1 => nextQ l (seqQ l q i)
def signs3 : List Nat := [97, 98, 122]
def nameL (l : List Int) (q : Stt) (m : Nat) : List Nat := (List.range m).map fun i => signs3.getD (nextV l (seqQ l q i) 3) 0
def numL (l : List Int) (q : Stt) (m : Nat) : List Nat := (List.range m).map fun i => nextV l (seqQ l q i) 32
theorem nextV_lt (l : List Int) (q : Stt) {m : Nat} (h : 0 < m) : nextV l q m < m := by
  unfold nextV; split <;> exact Nat.mod_lt _ h
theorem nameL_lt (l : List Int) (q : Stt) (m : Nat) : ∀ c ∈ nameL l q m, 33 ≤ c ∧ c < 127 := by
  intro c hc
  obtain ⟨i, _, rfl⟩ := List.mem_map.mp hc
  have h := nextV_lt l (seqQ l q i) (m := 3) (by decide)
  generalize nextV l (seqQ l q i) 3 = j at h
  exact (by decide : ∀ j, j < 3 → 33 ≤ signs3.getD j 0 ∧ signs3.getD j 0 < 127) j h
theorem take_cut (xs : List Int) : cut (iLs xs) none (some 12) = iLs (xs.take 12) := by
  simp only [cut, kms_lo, kms_hi, List.drop_zero, Nat.sub_zero, List.length_map]
  show (iLs xs).take (min 12 xs.length) = _
  rw [iLs, iLs, ← List.map_take]
  congr 1
  by_cases h : 12 ≤ xs.length
  · rw [Nat.min_eq_left h]
  · rw [Nat.min_eq_right (by omega), List.take_of_length_le (by omega), List.take_of_length_le (by omega)]
def tvN (first second v1 v2 k : Nat) : Nat := if k = first then v1 else if k = second then v2 else 0
theorem look_tv (first second v1 v2 k : Nat) : (look [((first : Nat), (v1 : Nat)), ((second : Nat), (v2 : Nat))] (k : Int)).getD 0 = ((tvN first second v1 v2 k : Nat) : Int) := by
  unfold tvN look
  by_cases h : k = first
  · subst h; simp
  · rw [if_neg (by omega : ¬ ((first : Nat) : Int) = k), if_neg h]
    unfold look
    by_cases h2 : k = second
    · subst h2; simp
    · rw [if_neg (by omega : ¬ ((second : Nat) : Int) = k), if_neg h2]; rfl
theorem look_tvS (first second v1 v2 k : Nat) (h : k = first ∨ k = second) : look [((first : Nat), (v1 : Nat)), ((second : Nat), (v2 : Nat))] (k : Int) = some ((tvN first second v1 v2 k : Nat) : Int) := by
  have := look_tv first second v1 v2 k
  cases e : look [((first : Nat), (v1 : Nat)), ((second : Nat), (v2 : Nat))] (k : Int) with
  | some w => rw [e] at this; exact congrArg some this
  | none =>
    exfalso
    unfold look at e
    split at e
    · cases e
    · unfold look at e
      split at e
      · cases e
      · omega
theorem look_tvS1 (first second v1 v2 : Nat) : look [((first : Nat), (v1 : Nat)), ((second : Nat), (v2 : Nat))] ((min first second : Nat) : Int) = some ((tvN first second v1 v2 (min first second) : Nat) : Int) := look_tvS _ _ _ _ _ (by omega)
theorem look_tvS2 (first second v1 v2 : Nat) : look [((first : Nat), (v1 : Nat)), ((second : Nat), (v2 : Nat))] ((max first second : Nat) : Int) = some ((tvN first second v1 v2 (max first second) : Nat) : Int) := look_tvS _ _ _ _ _ (by omega)
def hitS (m left j k : Nat) (fd : List (Int × Int × Int × Int)) (i : Nat) : List (Int × Int × Int × Int) :=
  match look (dictN (bringN (m - 1 - j))) ((left ^^^ (bringN (m - 1 - k)).getD (1 + i) 0 : Nat) : Int) with
  | some w => fd ++ [((j : Int), w, (k : Int), ((1 + i : Nat) : Int))]
  | none => fd
def hitJ (m left k : Nat) (fd : List (Int × Int × Int × Int)) (j : Nat) : List (Int × Int × Int × Int) := (List.range 31).foldl (hitS m left j k) fd
def hitK (m left : Nat) (fd : List (Int × Int × Int × Int)) (k : Nat) : List (Int × Int × Int × Int) := (List.range k).foldl (hitJ m left k) fd
def foundQ (m left k : Nat) : List (Int × Int × Int × Int) := (List.range k).foldl (hitK m left) []
def tabQ (g : Gl) (m k : Nat) : List D := (List.range k).map fun i => tD g (dictN (bringN (m - 1 - i)))
def turnedN (whole : List Nat) (first second v1 v2 : Nat) : List Nat := (List.range whole.length).map fun k => whole.getD k 0 ^^^ tvN first second v1 v2 k
theorem tabQ_get (g : Gl) (m : Nat) {j k : Nat} (h : j < k) : (tabQ g m k)[((j : Nat) : Int).toNat]? = some (tD g (dictN (bringN (m - 1 - j)))) := by
  rw [Int.toNat_natCast, tabQ, List.getElem?_map, List.getElem?_range h]; rfl
theorem tabQ_succ (g : Gl) (m k : Nat) : tabQ g m (k + 1) = tabQ g m k ++ [tD g (dictN (bringN (m - 1 - k)))] := by
  simp [tabQ, List.range_succ]
theorem fold_len {α β : Type} (f : List α → β → List α) (c : Nat) (hf : ∀ l x, (f l x).length ≤ l.length + c) : ∀ (xs : List β) (l : List α), (xs.foldl f l).length ≤ l.length + c * xs.length
  | [], l => by simp
  | x :: xs, l => by
    have h1 := fold_len f c hf xs (f l x)
    have h2 := hf l x
    simp only [List.foldl_cons, List.length_cons, Nat.mul_add] at h1 ⊢
    omega
theorem hitS_len (m left j k : Nat) (fd : List (Int × Int × Int × Int)) (i : Nat) : (hitS m left j k fd i).length ≤ fd.length + 1 := by
  unfold hitS; split <;> simp
theorem hitJ_len (m left k : Nat) (fd : List (Int × Int × Int × Int)) (j : Nat) : (hitJ m left k fd j).length ≤ fd.length + 31 := by
  have := fold_len _ 1 (hitS_len m left j k) (List.range 31) fd
  simpa [hitJ] using this
theorem hitK_len (m left : Nat) (fd : List (Int × Int × Int × Int)) (k : Nat) (hk : k ≤ 10) : (hitK m left fd k).length ≤ fd.length + 310 := by
  have := fold_len _ 31 (hitJ_len m left k) (List.range k) fd
  simp only [hitK, List.length_range] at this ⊢
  omega
theorem foundQ_len (m left : Nat) : ∀ k, k ≤ 10 → (foundQ m left k).length ≤ 310 * k
  | 0, _ => by simp [foundQ]
  | k + 1, h => by
    have h1 := foundQ_len m left k (by omega)
    have h2 := hitK_len m left (foundQ m left k) k (by omega)
    have e : foundQ m left (k + 1) = hitK m left (foundQ m left k) k := range_succ_foldl _ _ _
    rw [e]; omega
/-- what the arithmetic has to give -/
structure Law2 (name whole : List Nat) (first second v1 v2 : Nat) : Prop where
  len : ∀ k, k < whole.length → (dictN (bringN (whole.length - 1 - k))).length = 32
  out : ∀ k, k < whole.length → look (dictN (bringN (whole.length - 1 - k))) ((polyN (hrpN name ++ turnedN whole first second v1 v2) ^^^ 1 : Nat) : Int) = none
  found : foundQ whole.length (polyN (hrpN name ++ turnedN whole first second v1 v2) ^^^ 1) whole.length = [(((min first second : Nat) : Int), ((tvN first second v1 v2 (min first second) : Nat) : Int), ((max first second : Nat) : Int), ((tvN first second v1 v2 (max first second) : Nat) : Int))]
  turned : verifyN name (turnedN whole first second v1 v2) = false
  whole : verifyN name whole = true
def All2 : Prop := ∀ (name nums : List Nat) (first second v1 v2 : Nat), name.length ≤ 2 → (∀ c ∈ name, 33 ≤ c ∧ c < 127) → nums.length ≤ 4 → (∀ k ∈ nums, k < 32) → first < nums.length + 6 → second < nums.length + 6 → first ≠ second → 1 ≤ v1 → v1 < 32 → 1 ≤ v2 → v2 < 32 → Law2 name (nums ++ createN name nums) first second v1 v2
section
variable {g : Gl} {n : Nat}
set_option maxHeartbeats 4000000 in
theorem law_body (fs : Fns g.K) (H : All2) {a L : Addr} {cdv : Value} (xs : List Int) (hz : xs.length ≤ 63) :
    Ex g (n + 2) 0 (envOfC "law" (fdScope (stAt pw 8)) L a cdv) [(PySem.Str.ofString "script", .list (iLs xs))] [] (fdBody (stAt pw 8)) (fun o => ∃ σ', o = .ret (.bool true) σ') := by
  change Ex _ _ _ _ _ _ (_ :: _ :: _ :: _ :: _ :: _ :: _ :: _ :: _ :: _ :: _ :: _ :: _ :: _ :: []) _
  have hl : (xs.take 12).length ≤ 63 := by simp; omega
  refine Ex.assign (d := .own 0) (σ₁ := [stD (xs.take 12) ⟨0, 17⟩]) ⟨rfl, .inr ⟨rfl, rfl⟩⟩ (EvF.own (σ' := []) (EvF.list (Evs.cons (σ₁ := []) rfl (Ev.conv (EvF.frozen (EvF.slice (i := none) (j := some 12) (Ev.name rfl rfl) Pt.none (Pt.some Ev.int) (by simp; omega) (fun _ _ => rfl) (fun _ _ => rfl))) (by rw [take_cut])) (Evs.cons rfl (Ev.nat (k := 0)) (Evs.cons rfl (Ev.nat (k := 17)) Evs.nil))) (show 3 ≤ 2 ^ 20 by decide))) rfl ?_
  generalize xs.take 12 = l at hl ⊢
  generalize hq0 : (⟨0, 17⟩ : Stt) = q0
  have hab : (D.str (PySem.Str.ofString "abz")) = sD signs3 := congrArg D.str (by decide +kernel)
  have hc1 : 1 + nextV l q0 2 ≤ 2 := by have := nextV_lt l q0 (m := 2) (by decide); omega
  generalize hcn : 1 + nextV l q0 2 = c1 at hc1

  refine Ex.assign (d := sD (nameL l (nextQ l q0) c1)) ⟨rfl, .inl rfl⟩ (Ev.join (cs := nameL l (nextQ l q0) c1) (EvF.frozen (EvF.compS (ρf := [(PySem.Str.ofString "state", .own 0)]) (S := fun i => [stD l (seqQ l (nextQ l q0) i)]) (d := .rng 0 c1) ?_ rfl (by simp; omega) (by simp [nameL]) rfl (by decide) rfl (by decide) rfl (FreeR.ok ⟨⟨rfl, fun _ => rfl, rfl, rfl⟩, trivial⟩) (fun _ => rfl) (fun i di ei C h1 h2 => ?_))) (by simp [nameL]; omega) rfl _ rfl) rfl ?_
  · exact Ev.callT (Gv.bi rfl rfl rfl rfl fs.range bt_range (by decide) rfl) (Evs.cons rfl (Ev.bin (Ev.nat (k := 1)) (Ev.callF (Gv.own rfl rfl rfl fs.f6.1 rfl) fs.f6.2.1 (Evs.cons rfl (Ev.name rfl rfl) (Evs.cons rfl (Ev.nat (k := 2)) Evs.nil)) (next_fn fs.f6 fs.len fs.abs _ hl _ 2 (by decide)) rfl (fun _ => rfl) rfl) (hcn ▸ opn_add 1 (nextV l q0 2))) Evs.nil) (call_range1 _ (small_of (by omega))) rfl (fun _ => rfl) rfl
  · obtain ⟨hi, rfl⟩ := rng_get0 h1
    obtain ⟨c, hc, rfl⟩ := sD_get h2
    have : c = signs3.getD (nextV l (seqQ l (nextQ l q0) i) 3) 0 := by
      rw [nameL, List.getElem?_map, List.getElem?_range hi] at hc
      simpa using hc.symm
    subst this
    have h3 := nextV_lt l (seqQ l (nextQ l q0) i) (m := 3) (by decide)
    exact Ev.itemS (Ev.conv Ev.str hab) (Ev.callF (Gv.own rfl rfl rfl fs.f6.1 rfl) fs.f6.2.1 (Evs.cons rfl (Ev.name rfl rfl) (Evs.cons rfl (Ev.nat (k := 3)) Evs.nil)) (next_fn fs.f6 fs.len fs.abs _ hl _ 3 (by decide)) rfl (fun _ => rfl) rfl) (by decide) (by rw [List.getD_eq_getElem?_getD, List.getElem?_eq_getElem (show _ < signs3.length from h3)]; rfl) (fun _ _ _ => rfl)
  simp only [List.length_map, List.length_range]
  have hnl : (nameL l (nextQ l q0) c1).length = c1 := by simp [nameL]
  have hnc := nameL_lt l (nextQ l q0) c1
  generalize nameL l (nextQ l q0) c1 = name at hnl hnc
  generalize seqQ l (nextQ l q0) c1 = q2
  have hc2 := nextV_lt l q2 (m := 5) (by decide)
  generalize hcm : nextV l q2 5 = c2 at hc2
  refine Ex.assignCS (x := PySem.Str.ofString "_") (es := nL (numL l (nextQ l q2) c2)) (ρf := [(PySem.Str.ofString "state", .own 0)]) (S := fun i => [stD l (seqQ l (nextQ l q2) i)]) (d := .rng 0 c2) ⟨rfl, .inl rfl⟩ rfl ?_ rfl (by simp; omega) (by simp [numL]) rfl (by decide) rfl (by decide) rfl (FreeR.ok ⟨⟨rfl, fun _ => rfl, rfl, rfl⟩, trivial⟩) (fun _ => rfl) (fun i di ei C h1 h2 => ?_) ?_
  · exact Ev.callT (Gv.bi rfl rfl rfl rfl fs.range bt_range (by decide) rfl) (Evs.cons rfl (Ev.callF (Gv.own rfl rfl rfl fs.f6.1 rfl) fs.f6.2.1 (Evs.cons rfl (Ev.name rfl rfl) (Evs.cons rfl (Ev.nat (k := 5)) Evs.nil)) (next_fn fs.f6 fs.len fs.abs _ hl _ 5 (by decide)) rfl (fun _ => rfl) rfl) Evs.nil) (hcm ▸ call_range1 _ (small_of (by omega))) rfl (fun _ => rfl) rfl
  · obtain ⟨hi, rfl, rfl⟩ := rngN_get h1 h2
    exact (Ev.callF (Gv.own rfl rfl rfl fs.f6.1 rfl) fs.f6.2.1 (Evs.cons rfl (Ev.name rfl rfl) (Evs.cons rfl (Ev.nat (k := 32)) Evs.nil)) (next_fn fs.f6 fs.len fs.abs _ hl _ 32 (by decide)) rfl (fun _ => rfl) rfl)
  simp only [List.length_map, List.length_range]
  have hml : (numL l (nextQ l q2) c2).length = c2 := by simp [numL]
  have hm32 : ∀ k ∈ numL l (nextQ l q2) c2, k < 32 := by
    intro k hk
    obtain ⟨i, _, rfl⟩ := List.mem_map.mp hk
    exact nextV_lt _ _ (by decide)
  generalize numL l (nextQ l q2) c2 = nums at hml hm32
  generalize seqQ l (nextQ l q2) c2 = q3
  have h6 : (createN name nums).length = 6 := by simp [createN, sixN]
  have hs32 : ∀ k ∈ nums ++ createN name nums, k < 32 := by
    intro k hk
    rcases List.mem_append.mp hk with hk | hk
    · exact hm32 k hk
    · obtain ⟨i, _, rfl⟩ := List.mem_map.mp hk
      exact Nat.lt_of_le_of_lt Nat.and_le_right (by decide)
  refine Ex.assign (d := .list (nL (nums ++ createN name nums))) (σ₁ := [stD l q3]) ⟨rfl, .inr ⟨rfl, rfl⟩⟩ (EvF.frozen (EvF.conv (EvF.bin (Ev.name rfl rfl) (Ev.callF (Gv.own rfl rfl rfl fs.f4.1 rfl) fs.f4.2.1 (Evs.cons rfl (Ev.name rfl rfl) (Evs.cons rfl (Ev.name rfl rfl) Evs.nil)) ((create_fn fs.f4 fs.f1 fs.f2 fs.range fs.ord fs.list name nums (by omega) (by omega)).lift (by intro x hx; simp only [List.mem_cons, List.not_mem_nil, or_false] at hx; rcases hx with rfl | rfl; exact .str _; exact .list (low_nL _))) rfl (fun _ => rfl) rfl) (op_addL _ _ (by simp; omega))) (by simp [nL]))) rfl ?_
  have hwl : (nums ++ createN name nums).length = c2 + 6 := by simp [h6, hml]
  have hF' : ∀ first second v1 v2, first < c2 + 6 → second < c2 + 6 → first ≠ second → 1 ≤ v1 → v1 < 32 → 1 ≤ v2 → v2 < 32 → Law2 name (nums ++ createN name nums) first second v1 v2 := fun first second v1 v2 h1 h2 => H name nums first second v1 v2 (by omega) hnc (by omega) hm32 (by omega) (by omega)
  generalize nums ++ createN name nums = whole at hs32 hwl hF'
  refine Ex.assign (d := .int (nextV l q3 whole.length : Nat)) (σ₁ := [stD l (nextQ l q3)]) ⟨rfl, .inl rfl⟩ (Ev.callF (Gv.own rfl rfl rfl fs.f6.1 rfl) fs.f6.2.1 (Evs.cons rfl (Ev.name rfl rfl) (Evs.cons rfl (Ev.callB (Gv.bi rfl rfl rfl rfl fs.len bt_len (by decide) rfl) (Evs.cons rfl (Ev.name rfl rfl) Evs.nil) (call_lenN _ (by omega)) rfl (fun _ => rfl) rfl) Evs.nil)) (next_fn fs.f6 fs.len fs.abs _ hl _ _ (by omega)) rfl (fun _ => rfl) rfl) rfl ?_
  have hfi := nextV_lt l q3 (m := whole.length) (by omega)
  generalize nextV l q3 whole.length = first at hfi
  generalize nextQ l q3 = q4
  refine Ex.assign (d := .int ((first + 1 + nextV l q4 (whole.length - 1)) % whole.length : Nat)) (σ₁ := [stD l (nextQ l q4)]) ⟨rfl, .inl rfl⟩ (Ev.bin (Ev.bin (Ev.bin (Ev.name rfl rfl) (Ev.nat (k := 1)) (opn_add _ 1)) (Ev.callF (Gv.own rfl rfl rfl fs.f6.1 rfl) fs.f6.2.1 (Evs.cons rfl (Ev.name rfl rfl) (Evs.cons rfl (Ev.bin (Ev.callB (Gv.bi rfl rfl rfl rfl fs.len bt_len (by decide) rfl) (Evs.cons rfl (Ev.name rfl rfl) Evs.nil) (call_lenN _ (by omega)) rfl (fun _ => rfl) rfl) (Ev.nat (k := 1)) (opn_sub _ 1 (by omega))) Evs.nil)) (next_fn fs.f6 fs.len fs.abs _ hl _ _ (by omega)) rfl (fun _ => rfl) rfl) (opn_add _ _)) (Ev.callB (Gv.bi rfl rfl rfl rfl fs.len bt_len (by decide) rfl) (Evs.cons rfl (Ev.name rfl rfl) Evs.nil) (call_lenN _ (by omega)) rfl (fun _ => rfl) rfl) (opn_mod _ _ (by omega))) rfl ?_
  have hse := nextV_lt l q4 (m := whole.length - 1) (by omega)
  have hs2 : (first + 1 + nextV l q4 (whole.length - 1)) % whole.length < whole.length := Nat.mod_lt _ (by omega)
  have hne : first ≠ (first + 1 + nextV l q4 (whole.length - 1)) % whole.length := by
    intro e
    by_cases h : first + 1 + nextV l q4 (whole.length - 1) < whole.length
    · rw [Nat.mod_eq_of_lt h] at e; omega
    · rw [Nat.mod_eq_sub_mod (by omega), Nat.mod_eq_of_lt (by omega)] at e; omega
  generalize (first + 1 + nextV l q4 (whole.length - 1)) % whole.length = second at hs2 hne
  generalize nextQ l q4 = q5
  refine Ex.assign (d := tD g [((first : Nat), (1 + nextV l q5 31 : Nat)), ((second : Nat), (1 + nextV l (nextQ l q5) 31 : Nat))]) (σ₁ := [stD l (nextQ l (nextQ l q5))]) ⟨rfl, .inr ⟨rfl, rfl⟩⟩ (Ev.dict2 (Ev.name rfl rfl) (Ev.bin (Ev.nat (k := 1)) (Ev.callF (Gv.own rfl rfl rfl fs.f6.1 rfl) fs.f6.2.1 (Evs.cons rfl (Ev.name rfl rfl) (Evs.cons rfl (Ev.nat (k := 31)) Evs.nil)) (next_fn fs.f6 fs.len fs.abs _ hl _ 31 (by decide)) rfl (fun _ => rfl) rfl) (opn_add _ _)) (Ev.name rfl rfl) (Ev.bin (Ev.nat (k := 1)) (Ev.callF (Gv.own rfl rfl rfl fs.f6.1 rfl) fs.f6.2.1 (Evs.cons rfl (Ev.name rfl rfl) (Evs.cons rfl (Ev.nat (k := 31)) Evs.nil)) (next_fn fs.f6 fs.len fs.abs _ hl _ 31 (by decide)) rfl (fun _ => rfl) rfl) (opn_add _ _)) (by omega)) rfl ?_
  have hv1 := nextV_lt l q5 (m := 31) (by decide)
  have hv2 := nextV_lt l (nextQ l q5) (m := 31) (by decide)
  generalize hw1 : 1 + nextV l q5 31 = v1
  generalize hw2 : 1 + nextV l (nextQ l q5) 31 = v2
  generalize nextQ l (nextQ l q5) = q6
  refine Ex.frz (ds := stD l q6) [] [(PySem.Str.ofString "turns", tD g [((first : Nat), (v1 : Nat)), ((second : Nat), (v2 : Nat))]), (PySem.Str.ofString "first", .int (first : Nat)), (PySem.Str.ofString "second", .int (second : Nat)), (PySem.Str.ofString "whole", .list (nL whole)), (PySem.Str.ofString "name", sD name)] (Nat.zero_le _) ⟨.inr ⟨rfl, .tab _⟩, .inr ⟨rfl, .int _⟩, .inr ⟨rfl, .int _⟩, .inr ⟨rfl, .list (low_nL _)⟩, .inr ⟨rfl, .str _⟩, trivial⟩ ?_ (by simp) ?_
  · intro d hd
    simp only [stD, List.mem_cons, List.not_mem_nil, or_false] at hd
    rcases hd with rfl | rfl | rfl
    · exact low_ints _
    · exact .int _
    · exact .int _
  refine Ex.assignC (x := PySem.Str.ofString "k") (es := nL (turnedN whole first second v1 v2)) (ρf := [(PySem.Str.ofString "whole", .list (nL whole)), (PySem.Str.ofString "turns", tD g [((first : Nat), (v1 : Nat)), ((second : Nat), (v2 : Nat))])]) ⟨rfl, .inl rfl⟩ rfl (Ev.callT (Gv.bi rfl rfl rfl rfl fs.range bt_range (by decide) rfl) (Evs.cons rfl (Ev.callB (Gv.bi rfl rfl rfl rfl fs.len bt_len (by decide) rfl) (Evs.cons rfl (Ev.name rfl rfl) Evs.nil) (call_lenN _ (by omega)) rfl (fun _ => rfl) rfl) Evs.nil) (call_range1 _ (small_of (by omega))) rfl (fun _ => rfl) rfl) rfl (by simp; omega) (by simp [turnedN]) rfl (by decide) rfl (by decide) rfl (FreeR.ok ⟨⟨rfl, fun _ => rfl, rfl, rfl⟩, ⟨rfl, fun _ => rfl, rfl, rfl⟩, trivial⟩) (fun _ => rfl) (fun i di ei C h1 h2 => ?_) (.inl ?_)
  · obtain ⟨hi, rfl, rfl⟩ := rngN_get h1 h2
    exact Ev.bin (Ev.itemN (Ev.name rfl rfl) (Ev.name rfl rfl) (by omega) (by omega) (fun _ _ => rfl)) (Ev.conv (Ev.get2T (Ev.name rfl rfl) (Evs.cons rfl (Ev.name rfl rfl) (Evs.cons rfl (Ev.nat (k := 0)) Evs.nil)) rfl (fun _ => rfl) _ rfl) (congrArg D.int (look_tv first second v1 v2 i))) (opn_xor _ _)
  have htl : (turnedN whole first second v1 v2).length = whole.length := by simp [turnedN]
  have hF : Law2 name whole first second v1 v2 := hF' first second v1 v2 (by omega) (by omega) hne (by omega) (by omega) (by omega) (by omega)
  obtain ⟨hF1, hF2, hF3, hF4, hF5⟩ := hF
  generalize htn : turnedN whole first second v1 v2 = turned at htl hF2 hF3 hF4
  refine Ex.assign (d := .int (polyN (hrpN name ++ turned) ^^^ 1 : Nat)) (σ₁ := []) ⟨rfl, .inl rfl⟩ (Ev.bin (Ev.callF (Gv.own rfl rfl rfl fs.f1.1 rfl) fs.f1.2.1 (Evs.cons rfl (EvF.frozen (EvF.conv (EvF.bin (Ev.callF (Gv.own rfl rfl rfl fs.f2.1 rfl) fs.f2.2.1 (Evs.cons rfl (Ev.name rfl rfl) Evs.nil) (hrp_fn fs.f2 fs.ord name (by omega)) rfl (fun _ => rfl) rfl) (Ev.name rfl rfl) (op_addL _ _ (by simp [hrpN]; omega))) (d' := nL (hrpN name ++ turned)) (by simp [nL]))) Evs.nil) (poly_fn fs.f1 fs.range _) rfl (fun _ => rfl) rfl) (Ev.nat (k := 1)) (opn_xor _ 1)) rfl ?_
  generalize hleft : polyN (hrpN name ++ turned) ^^^ 1 = left at hF2 hF3
  refine Ex.unpackS (σ₁ := [[], []]) (ds := [.own 0, .own 1]) (xs := [PySem.Str.ofString "found", PySem.Str.ofString "tables"]) (Ev.tup (Evs.cons (σ₁ := [[]]) rfl (EvF.own (σ' := []) (EvF.list Evs.nil (by simp))) (Evs.cons (σ₁ := [[], []]) rfl (EvF.own (σ' := [[]]) (EvF.list Evs.nil (by simp))) Evs.nil)) (by simp)) (by simp only [List.mem_cons, List.not_mem_nil, or_false]; rintro x (rfl | rfl) <;> exact ⟨rfl, .inl rfl⟩) rfl rfl rfl ?_
  refine Ex.forI (fun k => [(PySem.Str.ofString "found", .own 0), (PySem.Str.ofString "tables", .own 1), (PySem.Str.ofString "left", .int (left : Nat)), (PySem.Str.ofString "turns", tD g [((first : Nat), (v1 : Nat)), ((second : Nat), (v2 : Nat))]), (PySem.Str.ofString "first", .int (first : Nat)), (PySem.Str.ofString "second", .int (second : Nat)), (PySem.Str.ofString "whole", .list (nL whole)), (PySem.Str.ofString "turned", .list (nL turned)), (PySem.Str.ofString "name", sD name)]) (fun k => [qL (foundQ whole.length left k), tabQ g whole.length k]) ⟨rfl, .inl rfl⟩ (Ev.callT (Gv.bi rfl rfl rfl rfl fs.range bt_range (by decide) rfl) (Evs.cons rfl (Ev.callB (Gv.bi rfl rfl rfl rfl fs.len bt_len (by decide) rfl) (Evs.cons rfl (Ev.name rfl rfl) Evs.nil) (call_lenN _ (by omega)) rfl (fun _ => rfl) rfl) Evs.nil) (call_range1 _ (small_of (by omega))) rfl (fun _ => rfl) rfl) rfl low_rng (fun _ => rfl) ⟨rfl, rfl, rfl, rfl, rfl, rfl, rfl, rfl, rfl, trivial⟩ (fun k dk hk => ?_) ?_
  · obtain ⟨hkm, rfl⟩ := rng_get0 hk
    have hfl : (foundQ whole.length left k).length ≤ 3100 := by
      have := foundQ_len whole.length left k (by omega); omega
    have hks : foundQ whole.length left (k + 1) = hitK whole.length left (foundQ whole.length left k) k := range_succ_foldl _ _ _
    rw [hks, tabQ_succ]
    generalize foundQ whole.length left k = fd at hfl ⊢
    refine Ex.assign (d := .list (nL (bringN (whole.length - 1 - k)))) (σ₁ := [qL fd, tabQ g whole.length k]) ⟨rfl, .inr ⟨rfl, rfl⟩⟩ (Ev.callF (Gv.own rfl rfl rfl fs.f7.1 rfl) fs.f7.2.1 (Evs.cons rfl (Ev.bin (Ev.bin (Ev.callB (Gv.bi rfl rfl rfl rfl fs.len bt_len (by decide) rfl) (Evs.cons rfl (Ev.name rfl rfl) Evs.nil) (call_lenN _ (by omega)) rfl (fun _ => rfl) rfl) (Ev.nat (k := 1)) (opn_sub _ 1 (by omega))) (Ev.name rfl rfl) (opn_sub _ _ (by omega))) Evs.nil) ((brought_fn fs.f7 fs.f1 fs.range _ (by omega)).lift (by intro x hx; simp only [List.mem_cons, List.not_mem_nil, or_false] at hx; subst hx; exact .int _)) rfl (fun _ => rfl) rfl) rfl ?_
    have hbl : (bringN (whole.length - 1 - k)).length = 32 := bring_len _ 5 (by decide)
    refine Ex.assignDC (m := 32) ⟨rfl, .inl rfl⟩ rfl (Ev.callT (Gv.bi rfl rfl rfl rfl fs.range bt_range (by decide) rfl) (Evs.cons rfl (Ev.nat (k := 32)) Evs.nil) (call_range1 32 (by decide)) rfl (fun _ => rfl) rfl) hbl (by decide) rfl (by decide) rfl (by decide) rfl (FreeR.ok ⟨⟨rfl, fun _ => rfl, rfl, rfl⟩, trivial⟩) rfl rfl (fun _ => rfl) (fun _ _ _ => rfl) ?_
    have hd1 := hF1 k hkm
    have hd2 := hF2 k hkm
    have hno : (((32 : Nat) != 32) || (none : Option Int).isSome) = false := rfl
    refine Ex.if_no (σ₁ := [qL fd, tabQ g whole.length k]) ?_ ?_
    · refine hno ▸ Tr.or (σ₁ := [qL fd, tabQ g whole.length k]) (Tr.cmp (Ev.callB (Gv.bi rfl rfl rfl rfl fs.len bt_len (by decide) rfl) (Evs.cons rfl (Ev.name rfl rfl) Evs.nil) (call_lenT _ (by omega)) rfl (fun _ => rfl) rfl) (Ev.nat (k := 32)) (by rw [hd1]; exact opn_ne 32 32) rfl) (fun _ => Tr.or1 (Tr.cmp (Ev.name rfl rfl) (Ev.name rfl rfl) (by rw [← hd2]; exact op_in _ _) rfl))
    refine Ex.forI (fun j => [(PySem.Str.ofString "table", tD g (dictN (bringN (whole.length - 1 - k)))), (PySem.Str.ofString "told", .list (nL (bringN (whole.length - 1 - k)))), (PySem.Str.ofString "k", .int (k : Nat)), (PySem.Str.ofString "found", .own 0), (PySem.Str.ofString "tables", .own 1), (PySem.Str.ofString "left", .int (left : Nat)), (PySem.Str.ofString "turns", tD g [((first : Nat), (v1 : Nat)), ((second : Nat), (v2 : Nat))]), (PySem.Str.ofString "first", .int (first : Nat)), (PySem.Str.ofString "second", .int (second : Nat)), (PySem.Str.ofString "whole", .list (nL whole)), (PySem.Str.ofString "turned", .list (nL turned)), (PySem.Str.ofString "name", sD name)]) (fun j => [qL ((List.range j).foldl (hitJ whole.length left k) fd), tabQ g whole.length k]) ⟨rfl, .inl rfl⟩ (Ev.callT (Gv.bi rfl rfl rfl rfl fs.range bt_range (by decide) rfl) (Evs.cons rfl (Ev.name rfl rfl) Evs.nil) (call_range1 _ (small_of (by omega))) rfl (fun _ => rfl) rfl) rfl low_rng (fun _ => rfl) ⟨rfl, rfl, rfl, rfl, rfl, rfl, rfl, rfl, rfl, rfl, rfl, rfl, trivial⟩ (fun j dj hj => ?_) ?_
    · obtain ⟨hjk, rfl⟩ := rng_get0 hj
      have hjs : (List.range (j + 1)).foldl (hitJ whole.length left k) fd = hitJ whole.length left k ((List.range j).foldl (hitJ whole.length left k) fd) j := range_succ_foldl _ _ _
      have hjl : ((List.range j).foldl (hitJ whole.length left k) fd).length ≤ 3500 := by
        have := fold_len _ 31 (hitJ_len whole.length left k) (List.range j) fd
        rw [List.length_range] at this; omega
      rw [hjs]
      generalize (List.range j).foldl (hitJ whole.length left k) fd = fj at hjl ⊢
      refine Ex.forI (fun i => [(PySem.Str.ofString "j", .int (j : Nat)), (PySem.Str.ofString "table", tD g (dictN (bringN (whole.length - 1 - k)))), (PySem.Str.ofString "told", .list (nL (bringN (whole.length - 1 - k)))), (PySem.Str.ofString "k", .int (k : Nat)), (PySem.Str.ofString "found", .own 0), (PySem.Str.ofString "tables", .own 1), (PySem.Str.ofString "left", .int (left : Nat)), (PySem.Str.ofString "turns", tD g [((first : Nat), (v1 : Nat)), ((second : Nat), (v2 : Nat))]), (PySem.Str.ofString "first", .int (first : Nat)), (PySem.Str.ofString "second", .int (second : Nat)), (PySem.Str.ofString "whole", .list (nL whole)), (PySem.Str.ofString "turned", .list (nL turned)), (PySem.Str.ofString "name", sD name)]) (fun i => [qL ((List.range i).foldl (hitS whole.length left j k) fj), tabQ g whole.length k]) ⟨rfl, .inl rfl⟩ (Ev.callT (Gv.bi rfl rfl rfl rfl fs.range bt_range (by decide) rfl) (Evs.cons rfl (Ev.nat (k := 1)) (Evs.cons rfl (Ev.nat (k := 32)) Evs.nil)) (call_range2 1 32 31 (by decide +kernel) (by decide +kernel)) rfl (fun _ => rfl) rfl) rfl low_rng (fun _ => rfl) ⟨rfl, rfl, rfl, rfl, rfl, rfl, rfl, rfl, rfl, rfl, rfl, rfl, rfl, trivial⟩ (fun i di hi => ?_) (Ex.nil ⟨⟨rfl, rfl, rfl, rfl, rfl, rfl, rfl, rfl, rfl, rfl, rfl, rfl, trivial⟩, ?_⟩)
      · obtain ⟨hi31, hdi⟩ := rng_get hi
        have hdi2 : di = .int ((1 + i : Nat) : Int) := by rw [hdi]; exact congrArg D.int (by omega)
        subst hdi2
        have his : (List.range (i + 1)).foldl (hitS whole.length left j k) fj = hitS whole.length left j k ((List.range i).foldl (hitS whole.length left j k) fj) i := range_succ_foldl _ _ _
        have hil : ((List.range i).foldl (hitS whole.length left j k) fj).length ≤ 3600 := by
          have := fold_len _ 1 (hitS_len whole.length left j k) (List.range i) fj
          rw [List.length_range] at this; omega
        rw [his]
        generalize (List.range i).foldl (hitS whole.length left j k) fj = fi at hil ⊢
        refine Ex.assign (d := .int (left ^^^ (bringN (whole.length - 1 - k)).getD (1 + i) 0 : Nat)) (σ₁ := [qL fi, tabQ g whole.length k]) ⟨rfl, .inl rfl⟩ (Ev.bin (Ev.name rfl rfl) (Ev.itemN (Ev.name rfl rfl) (Ev.name rfl rfl) (by omega) (by omega) (fun _ _ => rfl)) (opn_xor _ _)) rfl ?_
        have hget := tabQ_get g whole.length hjk
        unfold hitS
        generalize left ^^^ (bringN (whole.length - 1 - k)).getD (1 + i) 0 = rest
        refine Ex.ite (σ₁ := [qL fi, tabQ g whole.length k]) (c := (look (dictN (bringN (whole.length - 1 - j))) (rest : Nat)).isSome) (Tr.cmp (Ev.name rfl rfl) (Ev.itemO (Ev.name rfl rfl) (Ev.name rfl rfl) rfl (by omega) (by omega) hget (fun _ _ => rfl)) (op_in _ _) rfl)
          (R₁ := Till _ [(PySem.Str.ofString "j", .int (j : Nat)), (PySem.Str.ofString "table", tD g (dictN (bringN (whole.length - 1 - k)))), (PySem.Str.ofString "told", .list (nL (bringN (whole.length - 1 - k)))), (PySem.Str.ofString "k", .int (k : Nat)), (PySem.Str.ofString "found", .own 0), (PySem.Str.ofString "tables", .own 1), (PySem.Str.ofString "left", .int (left : Nat)), (PySem.Str.ofString "turns", tD g [((first : Nat), (v1 : Nat)), ((second : Nat), (v2 : Nat))]), (PySem.Str.ofString "first", .int (first : Nat)), (PySem.Str.ofString "second", .int (second : Nat)), (PySem.Str.ofString "whole", .list (nL whole)), (PySem.Str.ofString "turned", .list (nL turned)), (PySem.Str.ofString "name", sD name)] [qL (match look (dictN (bringN (whole.length - 1 - j))) (rest : Nat) with | some w => fi ++ [((j : Int), w, (k : Int), ((1 + i : Nat) : Int))] | none => fi), tabQ g whole.length k]) (fun h => ?_) (fun h => ?_) (fun ρ' σ' h => Ex.nil h) (fun d σ' h => h)
        · obtain ⟨w, hw⟩ := Option.isSome_iff_exists.mp h
          refine Ex.append (k := 0) rfl rfl (Ev.tup (Evs.cons rfl (Ev.name rfl rfl) (Evs.cons rfl (Ev.itemTT (Ev.itemO (Ev.name rfl rfl) (Ev.name rfl rfl) rfl (by omega) (by omega) hget (fun _ _ => rfl)) (Ev.name rfl rfl) hw (fun _ _ => rfl)) (Evs.cons rfl (Ev.name rfl rfl) (Evs.cons rfl (Ev.name rfl rfl) Evs.nil)))) (by simp)) rfl (by simp; omega) rfl rfl rfl _ rfl (Ex.nil ⟨⟨rfl, rfl, rfl, rfl, rfl, rfl, rfl, rfl, rfl, rfl, rfl, rfl, rfl, trivial⟩, ?_⟩)
          rw [hw]
          show [qL fi ++ [_], _] = _
          simp
        · have hw : look (dictN (bringN (whole.length - 1 - j))) (rest : Nat) = none := by simpa using h
          rw [hw]
          exact Ex.nil ⟨⟨rfl, rfl, rfl, rfl, rfl, rfl, rfl, rfl, rfl, rfl, rfl, rfl, rfl, trivial⟩, rfl⟩
      · rfl
    refine Ex.append (k := 1) rfl rfl (Ev.name rfl rfl) rfl (by simp [tabQ]; omega) rfl rfl rfl _ rfl (Ex.nil ⟨⟨rfl, rfl, rfl, rfl, rfl, rfl, rfl, rfl, rfl, trivial⟩, ?_⟩)
    simp [hitK]
  have hlr : ((List.range whole.length).map fun i => D.int ((0 : Int) + (i : Nat))).length = whole.length := by simp
  rw [hlr, hF3]
  refine Ex.frz (ds := tabQ g whole.length whole.length) [qL [(((min first second : Nat) : Int), ((tvN first second v1 v2 (min first second) : Nat) : Int), ((max first second : Nat) : Int), ((tvN first second v1 v2 (max first second) : Nat) : Int))]] [(PySem.Str.ofString "found", .own 0), (PySem.Str.ofString "turns", tD g [((first : Nat), (v1 : Nat)), ((second : Nat), (v2 : Nat))]), (PySem.Str.ofString "first", .int (first : Nat)), (PySem.Str.ofString "second", .int (second : Nat)), (PySem.Str.ofString "whole", .list (nL whole)), (PySem.Str.ofString "turned", .list (nL turned)), (PySem.Str.ofString "name", sD name)] (by simp) ⟨.inr ⟨rfl, .own (by simp)⟩, .inr ⟨rfl, .tab _⟩, .inr ⟨rfl, .int _⟩, .inr ⟨rfl, .int _⟩, .inr ⟨rfl, .list (low_nL _)⟩, .inr ⟨rfl, .list (low_nL _)⟩, .inr ⟨rfl, .str _⟩, trivial⟩ ?_ ?_ ?_
  · intro d hd
    obtain ⟨i, _, rfl⟩ := List.mem_map.mp hd
    exact .tab _
  · intro l hl d hd
    simp only [List.mem_cons, List.not_mem_nil, or_false] at hl
    subst hl
    exact low_qL _ d hd
  refine Ex.frz (ds := qL [(((min first second : Nat) : Int), ((tvN first second v1 v2 (min first second) : Nat) : Int), ((max first second : Nat) : Int), ((tvN first second v1 v2 (max first second) : Nat) : Int))]) [] [(PySem.Str.ofString "found", .list (qL [(((min first second : Nat) : Int), ((tvN first second v1 v2 (min first second) : Nat) : Int), ((max first second : Nat) : Int), ((tvN first second v1 v2 (max first second) : Nat) : Int))])), (PySem.Str.ofString "turns", tD g [((first : Nat), (v1 : Nat)), ((second : Nat), (v2 : Nat))]), (PySem.Str.ofString "first", .int (first : Nat)), (PySem.Str.ofString "second", .int (second : Nat)), (PySem.Str.ofString "whole", .list (nL whole)), (PySem.Str.ofString "turned", .list (nL turned)), (PySem.Str.ofString "name", sD name)] (by simp) ⟨.inl ⟨rfl, rfl⟩, .inr ⟨rfl, .tab _⟩, .inr ⟨rfl, .int _⟩, .inr ⟨rfl, .int _⟩, .inr ⟨rfl, .list (low_nL _)⟩, .inr ⟨rfl, .list (low_nL _)⟩, .inr ⟨rfl, .str _⟩, trivial⟩ (low_qL _) (by simp) ?_
  refine Ex.unpackS (σ₁ := []) (ds := [.int (min first second : Nat), .int (max first second : Nat)]) (xs := [PySem.Str.ofString "low", PySem.Str.ofString "high"]) (Ev.tup (Evs.cons rfl (Ev.callB (Gv.bi rfl rfl rfl rfl fs.min bt_min (by decide) rfl) (Evs.cons rfl (Ev.name rfl rfl) (Evs.cons rfl (Ev.name rfl rfl) Evs.nil)) (call_minN _ _) rfl (fun _ => rfl) rfl) (Evs.cons rfl (Ev.callB (Gv.bi rfl rfl rfl rfl fs.max bt_max (by decide) rfl) (Evs.cons rfl (Ev.name rfl rfl) (Evs.cons rfl (Ev.name rfl rfl) Evs.nil)) (call_maxN _ _) rfl (fun _ => rfl) rfl) Evs.nil)) (by simp)) (by simp only [List.mem_cons, List.not_mem_nil, or_false]; rintro x (rfl | rfl) <;> exact ⟨rfl, .inl rfl⟩) rfl rfl rfl ?_
  have hno : (false || false) = false := rfl
  refine Ex.if_no (σ₁ := []) ?_ ?_
  · refine hno ▸ Tr.or (σ₁ := []) (a := false) (b := false) (Tr.cmp (σ₁ := []) (Ev.name rfl rfl) (EvF.frozen (EvF.list (Evs.cons (σ₁ := []) rfl (Ev.tup (Evs.cons rfl (Ev.name rfl rfl) (Evs.cons rfl (Ev.itemTT (Ev.name rfl rfl) (Ev.name rfl rfl) (look_tvS1 first second v1 v2) (fun _ _ => rfl)) (Evs.cons rfl (Ev.name rfl rfl) (Evs.cons rfl (Ev.itemTT (Ev.name rfl rfl) (Ev.name rfl rfl) (look_tvS2 first second v1 v2) (fun _ _ => rfl)) Evs.nil)))) (by simp)) Evs.nil) (by simp))) (op_neQ _) rfl) (fun _ => Tr.or1 (Tr.plain (Ev.callF (Gv.own rfl rfl rfl fs.f3.1 rfl) fs.f3.2.1 (Evs.cons rfl (Ev.name rfl rfl) (Evs.cons rfl (Ev.name rfl rfl) Evs.nil)) (hF4 ▸ verify_fn fs.f3 fs.f1 fs.f2 fs.range fs.ord fs.list name turned (by omega) (by omega)) rfl (fun _ => rfl) rfl) (fun _ => rfl)))
  refine Ex.ret (σ₁ := []) (d := .bool true) (Ev.callF (Gv.own rfl rfl rfl fs.f3.1 rfl) fs.f3.2.1 (Evs.cons rfl (Ev.name rfl rfl) (Evs.cons rfl (Ev.name rfl rfl) Evs.nil)) (hF5 ▸ verify_fn fs.f3 fs.f1 fs.f2 fs.range fs.ord fs.list name whole (by omega) (by omega)) rfl (fun _ => rfl) rfl) ⟨[], rfl⟩
end
end Mine

namespace Mine
open PySem PySem.W PySem.Calls PySem.Spec PyProof.Rows
def codesN (xs : List Int) (o : Int) (m : Nat) : List Nat := (digN (atI xs 0 o).natAbs 94 m).map (33 + ·)
def slN (xs : List Int) (a b : Int) : List Int := (xs.drop (kms_lo (some a) xs.length)).take (kms_hi (some b) xs.length - kms_lo (some a) xs.length)
theorem cut_iLs (xs : List Int) (a b : Int) : cut (iLs xs) (some a) (some b) = iLs (slN xs a b) := by
  simp [cut, slN, iLs, List.map_drop, List.map_take]
def rowStep (top : Nat) (r : List Nat) (x : Int) : List Nat := if (decide (r.length < top)) = true then r ++ digN x.natAbs 32 (top - r.length) else r
def rowN (top : Nat) (xs : List Int) : List Nat := xs.foldl (rowStep top) []
theorem rowStep_le {top : Nat} (x : Int) {r : List Nat} (h : r.length ≤ top) : (rowStep top r x).length ≤ top := by
  unfold rowStep
  split
  · have h' : r.length < top := of_decide_eq_true ‹_›
    have := (digN_len x.natAbs 32 (top - r.length)).2
    rw [List.length_append]; omega
  · exact h
theorem foldl_row_le {top : Nat} : ∀ (xs : List Int) (r : List Nat), r.length ≤ top → (xs.foldl (rowStep top) r).length ≤ top
  | [], _, h => h
  | x :: xs, r, h => foldl_row_le xs _ (rowStep_le x h)
theorem rowN_le (top : Nat) (xs : List Int) : (rowN top xs).length ≤ top := foldl_row_le xs [] (Nat.zero_le _)
theorem rowStep_lt {top : Nat} (x : Int) {r : List Nat} (h : ∀ k ∈ r, k < 32) : ∀ k ∈ rowStep top r x, k < 32 := by
  unfold rowStep
  split
  · intro k hk
    rcases List.mem_append.mp hk with hk | hk
    · exact h k hk
    · exact digN_lt (by decide) k hk
  · exact h
theorem foldl_row_lt {top : Nat} : ∀ (xs : List Int) (r : List Nat), (∀ k ∈ r, k < 32) → ∀ k ∈ xs.foldl (rowStep top) r, k < 32
  | [], _, h => h
  | x :: xs, r, h => foldl_row_lt xs _ (rowStep_lt x h)
theorem rowN_lt (top : Nat) (xs : List Int) : ∀ k ∈ rowN top xs, k < 32 := foldl_row_lt xs [] (by simp)

def wholeN (cs row : List Nat) : List Nat := (cs.map (· / 32) ++ [0] ++ cs.map (· % 32)) ++ row
theorem wholeN_lt {cs row : List Nat} (hc : ∀ c ∈ cs, c < 127) (hr : ∀ k ∈ row, k < 32) : ∀ k ∈ wholeN cs row, k < 32 := by
  intro k hk
  simp only [wholeN, List.mem_append, List.mem_map, List.mem_cons, List.not_mem_nil, or_false] at hk
  rcases hk with ((⟨c, hc', rfl⟩ | rfl) | ⟨c, hc', rfl⟩) | hk
  · have := hc c hc'; omega
  · decide
  · omega
  · exact hr k hk
theorem codesN_lt (xs : List Int) (o : Int) (m : Nat) : ∀ c ∈ codesN xs o m, c < 127 := by
  intro c hc
  obtain ⟨k, hk, rfl⟩ := List.mem_map.mp hc
  have := digN_lt (B := 94) (by decide) k hk
  omega
end Mine

namespace Mine

theorem xor4 (a b c d : Nat) : (a ^^^ b) ^^^ (c ^^^ d) = (a ^^^ c) ^^^ (b ^^^ d) := by
  rw [Nat.xor_assoc, Nat.xor_assoc, ← Nat.xor_assoc b, ← Nat.xor_assoc c, Nat.xor_comm b c]
theorem ite_xor (p q : Bool) (k : Nat) : (if (p ^^ q) = true then k else 0) = (if p = true then k else 0) ^^^ (if q = true then k else 0) := by
  cases p <;> cases q <;> simp
theorem bit_test (c i : Nat) : ((c >>> 25) >>> i &&& 1 != 0) = c.testBit (25 + i) := by
  rw [← Nat.shiftRight_add, Nat.testBit, Nat.and_comm]
theorem bitStep_lin (a b r s i : Nat) : bitStep (a ^^^ b) (r ^^^ s) i = bitStep a r i ^^^ bitStep b s i := by
  unfold bitStep
  rw [bit_test, bit_test, bit_test, Nat.testBit_xor, ite_xor, xor4]
theorem fold_bit_lin (a b : Nat) : ∀ (is : List Nat) (r s : Nat), is.foldl (bitStep (a ^^^ b)) (r ^^^ s) = is.foldl (bitStep a) r ^^^ is.foldl (bitStep b) s
  | [], _, _ => rfl
  | i :: is, r, s => by simp only [List.foldl_cons]; rw [bitStep_lin, fold_bit_lin a b is]
theorem stepN_lin (a b u v : Nat) : stepN (a ^^^ b) (u ^^^ v) = stepN a u ^^^ stepN b v := by
  unfold stepN
  rw [Nat.and_xor_distrib_right, Nat.shiftLeft_xor_distrib, xor4, fold_bit_lin]
theorem gens_lt (i : Nat) : gens.getD i 0 < 2 ^ 30 := by
  rw [List.getD_eq_getElem?_getD]
  cases e : gens[i]? with
  | none => decide
  | some y => exact (by decide : ∀ y ∈ gens, y < 2 ^ 30) y (List.mem_of_getElem? e)
theorem bitStep_lt {c r i : Nat} (h : r < 2 ^ 30) : bitStep c r i < 2 ^ 30 := by
  unfold bitStep
  refine Nat.xor_lt_two_pow h ?_
  split
  · exact gens_lt i
  · decide
theorem fold_bit_lt {c : Nat} : ∀ (is : List Nat) (r : Nat), r < 2 ^ 30 → is.foldl (bitStep c) r < 2 ^ 30
  | [], _, h => h
  | i :: is, r, h => fold_bit_lt is _ (bitStep_lt h)
theorem stepN_lt (c : Nat) {v : Nat} (h : v < 32) : stepN c v < 2 ^ 30 := by
  refine fold_bit_lt _ _ (Nat.xor_lt_two_pow ?_ (by omega))
  rw [Nat.shiftLeft_eq]
  have : c &&& 33554431 ≤ 33554431 := Nat.and_le_right
  omega
theorem fold_lt : ∀ (vs : List Nat) (c : Nat), (∀ v ∈ vs, v < 32) → c < 2 ^ 30 → vs.foldl stepN c < 2 ^ 30
  | [], _, _, h => h
  | v :: vs, c, hv, h => fold_lt vs _ (fun x hx => hv x (.tail _ hx)) (stepN_lt c (hv v (.head _)))
theorem polyN_lt {vs : List Nat} (h : ∀ v ∈ vs, v < 32) : polyN vs < 2 ^ 30 := fold_lt vs 1 h (by decide)
theorem fold_lin : ∀ (us vs : List Nat) (a b : Nat), us.length = vs.length → (List.zipWith (· ^^^ ·) us vs).foldl stepN (a ^^^ b) = us.foldl stepN a ^^^ vs.foldl stepN b
  | [], [], _, _, _ => rfl
  | [], _ :: _, _, _, h => by simp at h
  | _ :: _, [], _, _, h => by simp at h
  | u :: us, v :: vs, a, b, h => by
    simp only [List.zipWith_cons_cons, List.foldl_cons]
    rw [stepN_lin, fold_lin us vs _ _ (by simpa using h)]

/-! two maps that are linear over xor and agree at the powers of two agree -/
theorem top_xor {k y : Nat} (h : y < 2 ^ k) : 2 ^ k ^^^ y = 2 ^ k + y := by
  have h1 : 2 ^ k &&& y = 0 := by
    apply Nat.eq_of_testBit_eq
    intro i
    rw [Nat.testBit_and, Nat.testBit_two_pow, Nat.zero_testBit]
    by_cases e : k = i
    · subst e; rw [Nat.testBit_lt_two_pow h]; simp
    · simp [e]
  have h2 : 2 ^ k + y = 2 ^ k ||| y := by have := Nat.two_pow_add_eq_or_of_lt h 1; simpa using this
  rw [h2]
  apply Nat.eq_of_testBit_eq
  intro i
  have := congrArg (fun z => z.testBit i) h1
  simp only [Nat.testBit_and, Nat.zero_testBit] at this
  rw [Nat.testBit_xor, Nat.testBit_or]
  revert this
  cases (2 ^ k).testBit i <;> cases y.testBit i <;> simp
theorem lin_ext {f h : Nat → Nat} {n : Nat} (hf : ∀ a b, a < 2 ^ n → b < 2 ^ n → f (a ^^^ b) = f a ^^^ f b) (hh : ∀ a b, a < 2 ^ n → b < 2 ^ n → h (a ^^^ b) = h a ^^^ h b)
    (e : ∀ k, k < n → f (2 ^ k) = h (2 ^ k)) : ∀ c, c < 2 ^ n → f c = h c := by
  have z : ∀ {f : Nat → Nat}, (∀ a b, a < 2 ^ n → b < 2 ^ n → f (a ^^^ b) = f a ^^^ f b) → f 0 = 0 := fun {f} hf => by
    have := hf 0 0 (Nat.pow_pos (by decide)) (Nat.pow_pos (by decide))
    rwa [Nat.xor_self, Nat.xor_self] at this
  have main : ∀ k, k ≤ n → ∀ c, c < 2 ^ k → f c = h c := by
    intro k
    induction k with
    | zero => intro _ c hc; have : c = 0 := by simpa using hc
              subst this; rw [z hf, z hh]
    | succ k ih =>
      intro hk c hc
      by_cases q : c < 2 ^ k
      · exact ih (by omega) c q
      · have hp : 2 ^ (k + 1) = 2 ^ k * 2 := Nat.pow_succ ..
        have hy : c - 2 ^ k < 2 ^ k := by omega
        have hc' : c = 2 ^ k ^^^ (c - 2 ^ k) := by rw [top_xor hy]; omega
        have hn : 2 ^ (k + 1) ≤ 2 ^ n := Nat.pow_le_pow_right (by decide) hk
        rw [hc', hf _ _ (by omega) (by omega), hh _ _ (by omega) (by omega), e k (by omega), ih (by omega) _ hy]
  exact main n (Nat.le_refl n)
end Mine

namespace Mine

theorem digit_xor (a b j : Nat) : (a ^^^ b) >>> j &&& 31 = (a >>> j &&& 31) ^^^ (b >>> j &&& 31) := by
  rw [Nat.shiftRight_xor_distrib, Nat.and_xor_distrib_right]
theorem map_xor (f h : Nat → Nat) : ∀ is : List Nat, is.map (fun i => f i ^^^ h i) = List.zipWith (· ^^^ ·) (is.map f) (is.map h)
  | [] => rfl
  | i :: is => by simp only [List.map_cons, List.zipWith_cons_cons]; rw [map_xor f h is]
theorem sixN_xor (a b : Nat) : sixN (a ^^^ b) = List.zipWith (· ^^^ ·) (sixN a) (sixN b) := by
  unfold sixN
  rw [← map_xor]
  simp only [digit_xor]
theorem sixN_len (a : Nat) : (sixN a).length = 6 := by simp [sixN]
theorem sixN_lt (a : Nat) : ∀ x ∈ sixN a, x < 32 := by
  intro x hx
  obtain ⟨i, _, rfl⟩ := List.mem_map.mp hx
  exact Nat.lt_of_le_of_lt Nat.and_le_right (by decide)
theorem pack_six : ∀ x, x < 2 ^ 30 → (sixN x).foldl stepN 0 = x := by
  refine lin_ext (f := fun x => (sixN x).foldl stepN 0) (h := fun x => x) (fun a b _ _ => ?_) (fun a b _ _ => rfl) (by decide +kernel)
  have := fold_lin (sixN a) (sixN b) 0 0 (by rw [sixN_len, sixN_len])
  rw [Nat.xor_self] at this
  show (sixN (a ^^^ b)).foldl stepN 0 = _
  rw [sixN_xor, this]
theorem zip_zero : ∀ (ds : List Nat), List.zipWith (· ^^^ ·) (List.replicate ds.length 0) ds = ds
  | [] => rfl
  | d :: ds => by simp only [List.length_cons, List.replicate_succ, List.zipWith_cons_cons, Nat.zero_xor]; rw [zip_zero ds]
/-- the six signs make the rest one -/
theorem poly_six {W : List Nat} (hW : ∀ v ∈ W, v < 32) : polyN (W ++ sixN (polyN (W ++ [0, 0, 0, 0, 0, 0]) ^^^ 1)) = 1 := by
  unfold polyN
  rw [List.foldl_append, List.foldl_append]
  generalize hs : W.foldl stepN 1 = s
  have hp : [0, 0, 0, 0, 0, 0].foldl stepN s < 2 ^ 30 := fold_lt _ _ (by decide) (hs ▸ fold_lt W 1 hW (by decide))
  generalize hP : [0, 0, 0, 0, 0, 0].foldl stepN s = P at hp
  have h1 := pack_six (P ^^^ 1) (Nat.xor_lt_two_pow hp (by decide))
  have h2 := fold_lin [0, 0, 0, 0, 0, 0] (sixN (P ^^^ 1)) s 0 (by rw [sixN_len]; rfl)
  have h3 := zip_zero (sixN (P ^^^ 1))
  rw [sixN_len] at h3
  have h4 : List.zipWith (· ^^^ ·) [0, 0, 0, 0, 0, 0] (sixN (P ^^^ 1)) = sixN (P ^^^ 1) := h3
  rw [h4, h1, hP, Nat.xor_zero] at h2
  rw [h2, ← Nat.xor_assoc, Nat.xor_self, Nat.zero_xor]
theorem hrp_eq {cs : List Nat} : hrpN cs = cs.map (· / 32) ++ [0] ++ cs.map (· % 32) := by
  unfold hrpN
  have e1 : (fun x => x >>> 5) = (fun x => x / 32) := funext fun c => by rw [Nat.shiftRight_eq_div_pow]
  have e2 : (fun x : Nat => x &&& 31) = (fun x => x % 32) := funext fun c => by rw [show (31 : Nat) = 2 ^ 5 - 1 from rfl, Nat.and_two_pow_sub_one_eq_mod]
  rw [e1, e2]
theorem step_zero (v : Nat) : stepN 0 v = v := by
  simp [stepN, List.range_succ, bitStep]
theorem step_split (c v : Nat) : stepN c v = stepN c 0 ^^^ v := by
  have := stepN_lin c 0 0 v
  rwa [Nat.xor_zero, Nat.zero_xor, step_zero] at this

end Mine

namespace Mine

/-! maps over xor, told by bits -/
def selStep (t : List Nat) (x r i : Nat) : Nat := r ^^^ (if x.testBit i = true then t.getD i 0 else 0)
theorem sel_fold (t : List Nat) (a b : Nat) : ∀ (is : List Nat) (r s : Nat), is.foldl (selStep t (a ^^^ b)) (r ^^^ s) = is.foldl (selStep t a) r ^^^ is.foldl (selStep t b) s
  | [], _, _ => rfl
  | i :: is, r, s => by
    simp only [List.foldl_cons]
    rw [← sel_fold t a b is]
    congr 1
    unfold selStep
    rw [Nat.testBit_xor, ite_xor, xor4]
def selN (m : Nat) (t : List Nat) (x : Nat) : Nat := (List.range m).foldl (selStep t x) 0
theorem selN_xor (m : Nat) (t : List Nat) (a b : Nat) : selN m t (a ^^^ b) = selN m t a ^^^ selN m t b := by
  have := sel_fold t a b (List.range m) 0 0
  rwa [Nat.xor_self] at this
def undo : List Nat := [579596712, 386123600, 748105641, 187587186, 349738477, 1, 2, 4, 8, 16, 32, 64, 128, 256, 512, 1024, 2048, 4096, 8192, 16384, 32768, 65536, 131072, 262144, 524288, 1048576, 2097152, 4194304, 8388608, 16777216]
theorem step0_lin (a b : Nat) : stepN (a ^^^ b) 0 = stepN a 0 ^^^ stepN b 0 := by
  have := stepN_lin a b 0 0
  rwa [Nat.xor_self] at this
theorem undo_is : ∀ c, c < 2 ^ 30 → selN 30 undo (stepN c 0) = c :=
  lin_ext (f := fun c => selN 30 undo (stepN c 0)) (h := fun c => c) (fun a b _ _ => by rw [step0_lin, selN_xor]) (fun _ _ _ _ => rfl) (by decide +kernel)
theorem step0_inj {c : Nat} (h : c < 2 ^ 30) (e : stepN c 0 = 0) : c = 0 := by
  have := undo_is c h
  rw [e] at this
  rw [← this]; decide +kernel
theorem zeros_fold : ∀ m, (List.replicate m 0).foldl stepN 0 = 0
  | 0 => rfl
  | m + 1 => by rw [List.replicate_succ, List.foldl_cons, step_zero, zeros_fold m]
theorem zeros_ne : ∀ (m c : Nat), c < 2 ^ 30 → c ≠ 0 → (List.replicate m 0).foldl stepN c ≠ 0
  | 0, _, _, h => h
  | m + 1, c, hc, h => by
    rw [List.replicate_succ, List.foldl_cons]
    exact zeros_ne m _ (stepN_lt c (by decide)) fun e => h (step0_inj hc e)

end Mine

namespace Mine
/-! the field of 32 signs, over packed rows of six -/
def mul2 (x : Nat) : Nat := Nat.xor (Nat.shiftLeft (Nat.land x 519552495) 1) (Nat.xor (Nat.land (Nat.shiftRight x 4) 34636833) (Nat.shiftLeft (Nat.land (Nat.shiftRight x 4) 34636833) 3))
def bitN (i t : Nat) : Nat := Nat.land (Nat.shiftRight t i) 1
def fs (t x : Nat) : Nat :=
  Nat.xor (Nat.mul (bitN 0 t) x) (mul2 (Nat.xor (Nat.mul (bitN 1 t) x) (mul2 (Nat.xor (Nat.mul (bitN 2 t) x) (mul2 (Nat.xor (Nat.mul (bitN 3 t) x) (mul2 (Nat.mul (bitN 4 t) x))))))))
def dig (d x : Nat) : Nat := Nat.land (Nat.shiftRight x d) 31
def invL : List Nat := [0, 1, 20, 24, 10, 8, 12, 29, 5, 11, 4, 9, 6, 28, 26, 31, 22, 18, 17, 23, 2, 25, 16, 19, 3, 21, 14, 30, 13, 7, 27, 15]
theorem mul2_def (x : Nat) : mul2 x = ((x &&& 519552495) <<< 1) ^^^ ((x >>> 4 &&& 34636833) ^^^ ((x >>> 4 &&& 34636833) <<< 3)) := rfl
theorem fs_def (t x : Nat) : fs t x = (bitN 0 t * x) ^^^ mul2 ((bitN 1 t * x) ^^^ mul2 ((bitN 2 t * x) ^^^ mul2 ((bitN 3 t * x) ^^^ mul2 (bitN 4 t * x)))) := rfl
theorem mul2_xor (x y : Nat) : mul2 (x ^^^ y) = mul2 x ^^^ mul2 y := by
  rw [mul2_def, mul2_def, mul2_def]
  rw [Nat.and_xor_distrib_right, Nat.shiftLeft_xor_distrib, Nat.shiftRight_xor_distrib, Nat.and_xor_distrib_right, Nat.shiftLeft_xor_distrib]
  rw [xor4 (x >>> 4 &&& 34636833), xor4 ((x &&& 519552495) <<< 1)]
theorem mul2_lt (x : Nat) : mul2 x < 2 ^ 30 := by
  rw [mul2_def]
  have h1 : x &&& 519552495 ≤ 519552495 := Nat.and_le_right
  have h2 : x >>> 4 &&& 34636833 ≤ 34636833 := Nat.and_le_right
  refine Nat.xor_lt_two_pow ?_ (Nat.xor_lt_two_pow ?_ ?_)
  · rw [Nat.shiftLeft_eq]; omega
  · omega
  · rw [Nat.shiftLeft_eq]; omega
theorem bitN_01 (i t : Nat) : bitN i t = 0 ∨ bitN i t = 1 := by
  have : bitN i t = (t >>> i) % 2 := Nat.and_one_is_mod _
  omega
theorem bitN_xor (i s t : Nat) : bitN i (s ^^^ t) = bitN i s ^^^ bitN i t := by
  show (s ^^^ t) >>> i &&& 1 = (s >>> i &&& 1) ^^^ (t >>> i &&& 1)
  rw [Nat.shiftRight_xor_distrib, Nat.and_xor_distrib_right]
theorem bm_r {b : Nat} (h : b = 0 ∨ b = 1) (x y : Nat) : b * (x ^^^ y) = (b * x) ^^^ (b * y) := by
  rcases h with rfl | rfl <;> simp
theorem bm_l {a b : Nat} (h : a = 0 ∨ a = 1) (h' : b = 0 ∨ b = 1) (x : Nat) : (a ^^^ b) * x = (a * x) ^^^ (b * x) := by
  rcases h with rfl | rfl <;> rcases h' with rfl | rfl <;> simp
theorem bm_lt {b x : Nat} (h : b = 0 ∨ b = 1) (hx : x < 2 ^ 30) : b * x < 2 ^ 30 := by
  rcases h with rfl | rfl <;> simp <;> omega
theorem lay_r {b : Nat} (h : b = 0 ∨ b = 1) (x y r s : Nat) : (b * (x ^^^ y)) ^^^ mul2 (r ^^^ s) = ((b * x) ^^^ mul2 r) ^^^ ((b * y) ^^^ mul2 s) := by
  rw [bm_r h, mul2_xor, xor4]
theorem lay_l {a b : Nat} (h : a = 0 ∨ a = 1) (h' : b = 0 ∨ b = 1) (x r s : Nat) : ((a ^^^ b) * x) ^^^ mul2 (r ^^^ s) = ((a * x) ^^^ mul2 r) ^^^ ((b * x) ^^^ mul2 s) := by
  rw [bm_l h h', mul2_xor, xor4]
theorem fs_xor (t x y : Nat) : fs t (x ^^^ y) = fs t x ^^^ fs t y := by
  rw [fs_def, fs_def, fs_def, bm_r (bitN_01 4 t), lay_r (bitN_01 3 t), lay_r (bitN_01 2 t), lay_r (bitN_01 1 t), lay_r (bitN_01 0 t)]
theorem xor_fs (s t x : Nat) : fs (s ^^^ t) x = fs s x ^^^ fs t x := by
  rw [fs_def, fs_def, fs_def]
  simp only [bitN_xor]
  rw [bm_l (bitN_01 4 s) (bitN_01 4 t), lay_l (bitN_01 3 s) (bitN_01 3 t), lay_l (bitN_01 2 s) (bitN_01 2 t), lay_l (bitN_01 1 s) (bitN_01 1 t), lay_l (bitN_01 0 s) (bitN_01 0 t)]
theorem fs_lt (t : Nat) {x : Nat} (h : x < 2 ^ 30) : fs t x < 2 ^ 30 := by
  rw [fs_def]
  exact Nat.xor_lt_two_pow (bm_lt (bitN_01 0 t) h) (mul2_lt _)
theorem fs_zero (t : Nat) : fs t 0 = 0 := by
  have := fs_xor t 0 0
  rwa [Nat.xor_self, Nat.xor_self] at this
theorem zero_fs (x : Nat) : fs 0 x = 0 := by
  have := xor_fs 0 0 x
  rwa [Nat.xor_self, Nat.xor_self] at this
theorem fs_small : ∀ t, t < 32 → ∀ v, v < 32 → fs t v < 32 := by decide +kernel
theorem fs_assoc {s t x : Nat} (hs : s < 32) (ht : t < 32) (hx : x < 2 ^ 30) : fs s (fs t x) = fs (fs s t) x := by
  have b : ∀ i, i < 5 → ∀ j, j < 5 → ∀ k, k < 30 → fs (2 ^ i) (fs (2 ^ j) (2 ^ k)) = fs (fs (2 ^ i) (2 ^ j)) (2 ^ k) := by decide +kernel
  have h1 : ∀ i, i < 5 → ∀ j, j < 5 → fs (2 ^ i) (fs (2 ^ j) x) = fs (fs (2 ^ i) (2 ^ j)) x := fun i hi j hj =>
    lin_ext (n := 30) (f := fun x => fs (2 ^ i) (fs (2 ^ j) x)) (h := fun x => fs (fs (2 ^ i) (2 ^ j)) x) (fun a b _ _ => by rw [fs_xor, fs_xor]) (fun a b _ _ => by rw [fs_xor]) (b i hi j hj) x hx
  have h2 : ∀ i, i < 5 → fs (2 ^ i) (fs t x) = fs (fs (2 ^ i) t) x := fun i hi =>
    lin_ext (n := 5) (f := fun t => fs (2 ^ i) (fs t x)) (h := fun t => fs (fs (2 ^ i) t) x) (fun a b _ _ => by rw [xor_fs, fs_xor]) (fun a b _ _ => by rw [fs_xor, xor_fs]) (h1 i hi) t ht
  exact lin_ext (n := 5) (f := fun s => fs s (fs t x)) (h := fun s => fs (fs s t) x) (fun a b _ _ => by rw [xor_fs]) (fun a b _ _ => by rw [xor_fs, xor_fs]) h2 s hs
theorem fs_step0 {t c : Nat} (ht : t < 32) (hc : c < 2 ^ 30) : fs t (stepN c 0) = stepN (fs t c) 0 := by
  have b : ∀ j, j < 5 → ∀ k, k < 30 → fs (2 ^ j) (stepN (2 ^ k) 0) = stepN (fs (2 ^ j) (2 ^ k)) 0 := by decide +kernel
  have h1 : ∀ j, j < 5 → fs (2 ^ j) (stepN c 0) = stepN (fs (2 ^ j) c) 0 := fun j hj =>
    lin_ext (n := 30) (f := fun c => fs (2 ^ j) (stepN c 0)) (h := fun c => stepN (fs (2 ^ j) c) 0) (fun a b _ _ => by rw [step0_lin, fs_xor]) (fun a b _ _ => by rw [fs_xor, step0_lin]) (b j hj) c hc
  exact lin_ext (n := 5) (f := fun t => fs t (stepN c 0)) (h := fun t => stepN (fs t c) 0) (fun a b _ _ => by rw [xor_fs]) (fun a b _ _ => by rw [xor_fs, step0_lin]) h1 t ht
theorem dig_xor (d x y : Nat) : dig d (x ^^^ y) = dig d x ^^^ dig d y := digit_xor x y d
theorem dig_lt (d x : Nat) : dig d x < 32 := Nat.lt_of_le_of_lt (show x >>> d &&& 31 ≤ 31 from Nat.and_le_right) (by decide)
def tops : List Nat := [0, 5, 10, 15, 20, 25]
theorem dig_fs {d t x : Nat} (hd : d ∈ tops) (ht : t < 32) (hx : x < 2 ^ 30) : dig d (fs t x) = fs t (dig d x) := by
  have b : ∀ d ∈ tops, ∀ j, j < 5 → ∀ k, k < 30 → dig d (fs (2 ^ j) (2 ^ k)) = fs (2 ^ j) (dig d (2 ^ k)) := by decide +kernel
  have h1 : ∀ j, j < 5 → dig d (fs (2 ^ j) x) = fs (2 ^ j) (dig d x) := fun j hj =>
    lin_ext (n := 30) (f := fun x => dig d (fs (2 ^ j) x)) (h := fun x => fs (2 ^ j) (dig d x)) (fun a b _ _ => by rw [fs_xor, dig_xor]) (fun a b _ _ => by rw [dig_xor, fs_xor]) (b d hd j hj) x hx
  exact lin_ext (n := 5) (f := fun t => dig d (fs t x)) (h := fun t => fs t (dig d x)) (fun a b _ _ => by rw [xor_fs, dig_xor]) (fun a b _ _ => by rw [xor_fs]) h1 t ht
def inv (t : Nat) : Nat := invL.getD t 0
theorem inv_l : ∀ t, t < 32 → t ≠ 0 → fs (inv t) t = 1 ∧ fs t (inv t) = 1 ∧ inv t < 32 := by decide +kernel
theorem inv_two : ∀ t, t < 32 → t ≠ 0 → ∀ y, y < 32 → y ≠ 0 → fs (inv (fs t y)) t = inv y ∧ fs t y ≠ 0 := by decide +kernel
theorem one_fs (x : Nat) (h : x < 2 ^ 30) : fs 1 x = x :=
  lin_ext (n := 30) (f := fun x => fs 1 x) (h := fun x => x) (fun a b _ _ => by rw [fs_xor]) (fun _ _ _ _ => rfl) (by decide +kernel) x h
theorem fs_inj {t x : Nat} (ht : t < 32) (h0 : t ≠ 0) (hx : x < 2 ^ 30) (e : fs t x = 0) : x = 0 := by
  obtain ⟨h1, _, h3⟩ := inv_l t ht h0
  rw [← one_fs x hx, ← h1, ← fs_assoc h3 ht hx, e, fs_zero]

/-! the top sign, the normal form, what is left behind a column -/
def topd (x : Nat) : Nat := cond (Nat.beq (dig 25 x) 0) (cond (Nat.beq (dig 20 x) 0) (cond (Nat.beq (dig 15 x) 0) (cond (Nat.beq (dig 10 x) 0) (cond (Nat.beq (dig 5 x) 0) 0 5) 10) 15) 20) 25
def nf (x : Nat) : Nat := fs (inv (dig (topd x) x)) x
def cut1 (u d w : Nat) : Nat := Nat.xor w (fs (dig d w) u)
theorem topd_mem (x : Nat) : topd x ∈ tops := by
  unfold topd tops
  cases Nat.beq (dig 25 x) 0 <;> cases Nat.beq (dig 20 x) 0 <;> cases Nat.beq (dig 15 x) 0 <;> cases Nat.beq (dig 10 x) 0 <;> cases Nat.beq (dig 5 x) 0 <;> simp
theorem beq0 {a b : Nat} (h : a = 0 ↔ b = 0) : Nat.beq a 0 = Nat.beq b 0 := by
  rw [Bool.eq_iff_iff, Nat.beq_eq, Nat.beq_eq]; exact h
theorem topd_fs {t x : Nat} (ht : t < 32) (h0 : t ≠ 0) (hx : x < 2 ^ 30) : topd (fs t x) = topd x := by
  have e : ∀ d ∈ tops, Nat.beq (dig d (fs t x)) 0 = Nat.beq (dig d x) 0 := fun d hd => beq0 (by
    rw [dig_fs hd ht hx]
    exact ⟨fun e => fs_inj ht h0 (Nat.lt_trans (dig_lt d x) (by decide)) e, fun e => by rw [e, fs_zero]⟩)
  unfold topd
  rw [e 25 (by decide), e 20 (by decide), e 15 (by decide), e 10 (by decide), e 5 (by decide)]
theorem digs_zero {x : Nat} (hx : x < 2 ^ 30) (h : ∀ d ∈ tops, dig d x = 0) : x = 0 := by
  have p := pack_six x hx
  have : sixN x = [0, 0, 0, 0, 0, 0] := by
    have e : sixN x = [dig 25 x, dig 20 x, dig 15 x, dig 10 x, dig 5 x, dig 0 x] := rfl
    rw [e, h 25 (by decide), h 20 (by decide), h 15 (by decide), h 10 (by decide), h 5 (by decide), h 0 (by decide)]
  rw [← p, this]; decide +kernel
theorem top_ne {x : Nat} (hx : x < 2 ^ 30) (h0 : x ≠ 0) : dig (topd x) x ≠ 0 := by
  intro e
  refine h0 (digs_zero hx ?_)
  unfold topd at e
  have hb : ∀ d, Nat.beq (dig d x) 0 = false → dig d x ≠ 0 := fun d h e => by rw [e] at h; cases h
  have ht : ∀ d, Nat.beq (dig d x) 0 = true → dig d x = 0 := fun d h => Nat.eq_of_beq_eq_true h
  cases c25 : Nat.beq (dig 25 x) 0
  · rw [c25] at e; exact absurd e (hb 25 c25)
  rw [c25] at e
  cases c20 : Nat.beq (dig 20 x) 0
  · rw [c20] at e; exact absurd e (hb 20 c20)
  rw [c20] at e
  cases c15 : Nat.beq (dig 15 x) 0
  · rw [c15] at e; exact absurd e (hb 15 c15)
  rw [c15] at e
  cases c10 : Nat.beq (dig 10 x) 0
  · rw [c10] at e; exact absurd e (hb 10 c10)
  rw [c10] at e
  cases c5 : Nat.beq (dig 5 x) 0
  · rw [c5] at e; exact absurd e (hb 5 c5)
  rw [c5] at e
  intro d hd
  simp only [tops, List.mem_cons, List.not_mem_nil, or_false] at hd
  rcases hd with rfl | rfl | rfl | rfl | rfl | rfl
  · exact e
  · exact ht _ c5
  · exact ht _ c10
  · exact ht _ c15
  · exact ht _ c20
  · exact ht _ c25
theorem nf_fs {t x : Nat} (ht : t < 32) (h0 : t ≠ 0) (hx : x < 2 ^ 30) (hx0 : x ≠ 0) : nf (fs t x) = nf x := by
  unfold nf
  rw [topd_fs ht h0 hx, dig_fs (topd_mem x) ht hx]
  obtain ⟨h1, h2⟩ := inv_two t ht h0 _ (dig_lt _ _) (top_ne hx hx0)
  have h3 := fs_small t ht _ (dig_lt (topd x) x)
  rw [fs_assoc (inv_l _ h3 h2).2.2 ht hx, h1]
theorem cut_xor (u d x y : Nat) : cut1 u d (x ^^^ y) = cut1 u d x ^^^ cut1 u d y := by
  show (x ^^^ y) ^^^ fs (dig d (x ^^^ y)) u = (x ^^^ fs (dig d x) u) ^^^ (y ^^^ fs (dig d y) u)
  rw [dig_xor, xor_fs, xor4]
theorem cut_fs {u d t x : Nat} (hd : d ∈ tops) (ht : t < 32) (hx : x < 2 ^ 30) (hu : u < 2 ^ 30) : cut1 u d (fs t x) = fs t (cut1 u d x) := by
  show fs t x ^^^ fs (dig d (fs t x)) u = fs t (x ^^^ fs (dig d x) u)
  rw [dig_fs hd ht hx, fs_xor, fs_assoc ht (dig_lt d x) hu]
theorem cut_self {v : Nat} (hv : v < 2 ^ 30) (h0 : v ≠ 0) : cut1 (nf v) (topd v) v = 0 := by
  show v ^^^ fs (dig (topd v) v) (fs (inv (dig (topd v) v)) v) = 0
  obtain ⟨_, h2, h3⟩ := inv_l _ (dig_lt (topd v) v) (top_ne hv h0)
  rw [fs_assoc (dig_lt _ _) h3 hv, h2, one_fs v hv, Nat.xor_self]
theorem nf_lt {v : Nat} (hv : v < 2 ^ 30) : nf v < 2 ^ 30 := fs_lt _ hv
theorem cut_lt {u d x : Nat} (hu : u < 2 ^ 30) (hx : x < 2 ^ 30) : cut1 u d x < 2 ^ 30 := Nat.xor_lt_two_pow hx (fs_lt _ hu)
end Mine

namespace Mine
/-! few columns are never bound together -/
def comb : List Nat → List Nat → Nat
  | c :: cs, v :: vs => fs c v ^^^ comb cs vs
  | _, _ => 0
def wt (cs : List Nat) : Nat := (cs.filter fun c => c != 0).length
def Zer (cs : List Nat) : Prop := ∀ c ∈ cs, c = 0
def Sm (cs : List Nat) : Prop := ∀ c ∈ cs, c < 32
def Bd (vs : List Nat) : Prop := ∀ v ∈ vs, v < 2 ^ 30
/-- at most k of the columns, with factors not all zero, never give zero -/
def Ind (k : Nat) (vs : List Nat) : Prop := ∀ cs, cs.length ≤ vs.length → Sm cs → wt cs ≤ k → comb cs vs = 0 → Zer cs
theorem Zer.cons {c : Nat} {cs : List Nat} (h : c = 0) (hs : Zer cs) : Zer (c :: cs) := by
  intro x hx
  rcases List.mem_cons.mp hx with rfl | hx
  · exact h
  · exact hs x hx
theorem wt_zero {cs : List Nat} (h : wt cs = 0) : Zer cs := by
  intro c hc
  by_cases q : c = 0
  · exact q
  · have : c ∈ cs.filter fun c => c != 0 := List.mem_filter.mpr ⟨hc, by simp [q]⟩
    rw [wt, List.length_eq_zero_iff] at h
    rw [h] at this; cases this
theorem wt_cons0 (cs : List Nat) : wt (0 :: cs) = wt cs := by simp [wt]
theorem wt_cons {c : Nat} (h : c ≠ 0) (cs : List Nat) : wt (c :: cs) = wt cs + 1 := by simp [wt, h]
theorem comb_zer : ∀ (cs vs : List Nat), Zer cs → comb cs vs = 0
  | [], _, _ => by simp [comb]
  | _ :: _, [], _ => by simp [comb]
  | c :: cs, v :: vs, h => by
    rw [comb, h c (.head _), zero_fs, comb_zer cs vs (fun x hx => h x (.tail _ hx))]; rfl
theorem comb_map {E : Nat → Nat} (hx : ∀ a b, E (a ^^^ b) = E a ^^^ E b) (hf : ∀ t x, t < 32 → x < 2 ^ 30 → E (fs t x) = fs t (E x)) : ∀ (cs vs : List Nat), Sm cs → Bd vs → comb cs (vs.map E) = E (comb cs vs)
  | [], _, _, _ => by
    have := hx 0 0
    rw [Nat.xor_self, Nat.xor_self] at this
    simp [comb, this]
  | _ :: _, [], _, _ => by
    have := hx 0 0
    rw [Nat.xor_self, Nat.xor_self] at this
    simp [comb, this]
  | c :: cs, v :: vs, hc, hv => by
    rw [List.map_cons, comb, comb, hx, hf c v (hc c (.head _)) (hv v (.head _)), comb_map hx hf cs vs (fun x h => hc x (.tail _ h)) (fun x h => hv x (.tail _ h))]
theorem Ind.nil (k : Nat) : Ind k [] := fun cs hl _ _ _ => by
  have : cs = [] := by simpa using hl
  subst this
  intro c hc; cases hc
theorem Ind.cons {k : Nat} {v : Nat} {rest : List Nat} (hv : v < 2 ^ 30) (h0 : v ≠ 0) (hr : Bd rest) (h1 : Ind k (rest.map (cut1 (nf v) (topd v)))) (h2 : Ind (k + 1) rest) : Ind (k + 1) (v :: rest) := by
  intro cs hl hs hw hz
  match cs, hl, hs, hw, hz with
  | [], _, _, _, _ => intro c hc; cases hc
  | c :: cs, hl, hs, hw, hz =>
    have hs' : Sm cs := fun x h => hs x (.tail _ h)
    have hc := hs c (.head _)
    by_cases q : c = 0
    · subst q
      rw [wt_cons0] at hw
      rw [comb, zero_fs, Nat.zero_xor] at hz
      exact Zer.cons rfl (h2 cs (by simpa using hl) hs' hw hz)
    · rw [wt_cons q] at hw
      rw [comb] at hz
      have e : comb cs (rest.map (cut1 (nf v) (topd v))) = 0 := by
        rw [comb_map (cut_xor _ _) (fun t x ht hx => cut_fs (topd_mem v) ht hx (nf_lt hv)) cs rest hs' hr]
        have := congrArg (cut1 (nf v) (topd v)) hz
        rw [cut_xor, cut_fs (topd_mem v) hc hv (nf_lt hv), cut_self hv h0, fs_zero, Nat.zero_xor] at this
        rw [this]
        show 0 ^^^ fs (dig (topd v) 0) (nf v) = 0
        have : dig (topd v) 0 = 0 := by
          have := dig_xor (topd v) 0 0
          rwa [Nat.xor_self, Nat.xor_self] at this
        rw [this, zero_fs]; rfl
      have z := h1 cs (by simpa using hl) hs' (by omega) e
      rw [comb_zer cs rest z, Nat.xor_zero] at hz
      exact absurd (fs_inj hc q hv hz) h0
theorem comb_one : ∀ (cs vs : List Nat), Sm cs → cs.length ≤ vs.length → wt cs ≤ 1 → Zer cs ∨ ∃ c w, w ∈ vs ∧ c < 32 ∧ c ≠ 0 ∧ comb cs vs = fs c w
  | [], _, _, _, _ => .inl fun c hc => by cases hc
  | _ :: _, [], _, hl, _ => by simp at hl
  | c :: cs, v :: vs, hs, hl, hw => by
    have hs' : Sm cs := fun x h => hs x (.tail _ h)
    by_cases q : c = 0
    · subst q
      rw [wt_cons0] at hw
      rcases comb_one cs vs hs' (by simpa using hl) hw with h | ⟨c, w, h1, h2, h3, h4⟩
      · exact .inl (Zer.cons rfl h)
      · exact .inr ⟨c, w, .tail _ h1, h2, h3, by rw [comb, zero_fs, Nat.zero_xor, h4]⟩
    · rw [wt_cons q] at hw
      have z := wt_zero (cs := cs) (by omega)
      exact .inr ⟨c, v, .head _, hs c (.head _), q, by rw [comb, comb_zer cs vs z, Nat.xor_zero]⟩
theorem Ind.two {v : Nat} {rest : List Nat} (hv : v < 2 ^ 30) (h0 : v ≠ 0) (hr : Bd rest) (hr0 : ∀ w ∈ rest, w ≠ 0) (hd : ∀ w ∈ rest, nf w ≠ nf v) (h2 : Ind 2 rest) : Ind 2 (v :: rest) := by
  intro cs hl hs hw hz
  match cs, hl, hs, hw, hz with
  | [], _, _, _, _ => intro c hc; cases hc
  | c :: cs, hl, hs, hw, hz =>
    have hs' : Sm cs := fun x h => hs x (.tail _ h)
    have hc := hs c (.head _)
    by_cases q : c = 0
    · subst q
      rw [wt_cons0] at hw
      rw [comb, zero_fs, Nat.zero_xor] at hz
      exact Zer.cons rfl (h2 cs (by simpa using hl) hs' hw hz)
    · rw [wt_cons q] at hw
      rw [comb] at hz
      rcases comb_one cs rest hs' (by simpa using hl) (by omega) with h | ⟨c', w, h1, h3, h4, h5⟩
      · rw [comb_zer cs rest h, Nat.xor_zero] at hz
        exact absurd (fs_inj hc q hv hz) h0
      · rw [h5] at hz
        have e : fs c' w = fs c v := by
          have := congrArg (fs c v ^^^ ·) hz
          simpa [← Nat.xor_assoc] using this
        refine absurd ?_ (hd w h1)
        rw [← nf_fs h3 h4 (hr w h1) (hr0 w h1), e, nf_fs hc q hv h0]

/-! the checks -/
noncomputable def notIn (x : Nat) (ys : List Nat) : Bool := List.rec (motive := fun _ => Bool) true (fun y _ ih => cond (Nat.beq y x) false ih) ys
noncomputable def uniq (xs : List Nat) : Bool := List.rec (motive := fun _ => Bool) true (fun x r ih => cond (notIn x r) ih false) xs
noncomputable def full (xs : List Nat) : Bool := List.rec (motive := fun _ => Bool) true (fun x _ ih => cond (Nat.beq x 0) false ih) xs
noncomputable def chk2 (vs : List Nat) : Bool := cond (full vs) (uniq (vs.map nf)) false
noncomputable def chkS (c : List Nat → Bool) (vs : List Nat) : Bool := List.rec (motive := fun _ => Bool) true (fun v r ih => cond (Nat.beq v 0) false (cond (c (r.map (cut1 (nf v) (topd v)))) ih false)) vs
noncomputable def chk : Nat → List Nat → Bool
  | 0 => chk2
  | m + 1 => chkS (chk m)
theorem beq_ff {a : Nat} (h : Nat.beq a 0 = false) : a ≠ 0 := fun e => by rw [e] at h; cases h
theorem notIn_ok (x : Nat) : ∀ ys, notIn x ys = true → ∀ y ∈ ys, y ≠ x
  | [], _, y, hy => by cases hy
  | z :: ys, h, y, hy => by
    have h : cond (Nat.beq z x) false (notIn x ys) = true := h
    cases q : Nat.beq z x with
    | true => rw [q] at h; cases h
    | false =>
      rw [q] at h
      rcases List.mem_cons.mp hy with rfl | hy
      · intro e; rw [e, Nat.beq_refl] at q; cases q
      · exact notIn_ok x ys h y hy
theorem full_ok : ∀ xs, full xs = true → ∀ x ∈ xs, x ≠ 0
  | [], _, y, hy => by cases hy
  | z :: ys, h, y, hy => by
    have h : cond (Nat.beq z 0) false (full ys) = true := h
    cases q : Nat.beq z 0 with
    | true => rw [q] at h; cases h
    | false =>
      rw [q] at h
      rcases List.mem_cons.mp hy with rfl | hy
      · exact beq_ff q
      · exact full_ok ys h y hy
theorem ind2_of : ∀ vs, Bd vs → (∀ v ∈ vs, v ≠ 0) → uniq (vs.map nf) = true → Ind 2 vs
  | [], _, _, _ => Ind.nil 2
  | v :: vs, hb, h0, hu => by
    have hu : cond (notIn (nf v) (vs.map nf)) (uniq (vs.map nf)) false = true := hu
    cases q : notIn (nf v) (vs.map nf) with
    | false => rw [q] at hu; cases hu
    | true =>
      rw [q] at hu
      refine Ind.two (hb v (.head _)) (h0 v (.head _)) (fun x h => hb x (.tail _ h)) (fun x h => h0 x (.tail _ h)) (fun w hw => ?_) (ind2_of vs (fun x h => hb x (.tail _ h)) (fun x h => h0 x (.tail _ h)) hu)
      exact notIn_ok _ _ q _ (List.mem_map_of_mem hw)
theorem chk2_ok {vs : List Nat} (hb : Bd vs) (h : chk2 vs = true) : Ind 2 vs := by
  have h : cond (full vs) (uniq (vs.map nf)) false = true := h
  cases q : full vs with
  | false => rw [q] at h; cases h
  | true => rw [q] at h; exact ind2_of vs hb (full_ok vs q) h
theorem chkS_ok {k : Nat} {c : List Nat → Bool} (hc : ∀ vs, Bd vs → c vs = true → Ind k vs) : ∀ vs, Bd vs → chkS c vs = true → Ind (k + 1) vs
  | [], _, _ => Ind.nil _
  | v :: vs, hb, h => by
    have h : cond (Nat.beq v 0) false (cond (c (vs.map (cut1 (nf v) (topd v)))) (chkS c vs) false) = true := h
    cases q : Nat.beq v 0 with
    | true => rw [q] at h; cases h
    | false =>
      rw [q] at h
      cases q2 : c (vs.map (cut1 (nf v) (topd v))) with
      | false => rw [q2] at h; cases h
      | true =>
        rw [q2] at h
        have hv := hb v (.head _)
        have hb' : Bd vs := fun x h => hb x (.tail _ h)
        refine Ind.cons hv (beq_ff q) hb' (hc _ ?_ q2) (chkS_ok hc vs hb' h)
        intro x hx
        obtain ⟨y, hy, rfl⟩ := List.mem_map.mp hx
        exact cut_lt (nf_lt hv) (hb' y hy)
theorem chk_ok : ∀ m vs, Bd vs → chk m vs = true → Ind (m + 2) vs
  | 0, vs, hb, h => chk2_ok hb h
  | m + 1, vs, hb, h => chkS_ok (chk_ok m) vs hb h
/-- the columns: what one turned sign leaves behind, by its distance from the end -/
def colsN : Nat → Nat → List Nat
  | 0, _ => []
  | k + 1, c => c :: colsN k (stepN c 0)
theorem colsN_len : ∀ k c, (colsN k c).length = k
  | 0, _ => rfl
  | k + 1, c => by rw [colsN, List.length_cons, colsN_len]
theorem colsN_bd : ∀ k c, c < 2 ^ 30 → Bd (colsN k c)
  | 0, _, _ => fun v hv => by cases hv
  | k + 1, c, h => fun v hv => by
    rcases List.mem_cons.mp hv with rfl | hv
    · exact h
    · exact colsN_bd k _ (stepN_lt c (by decide)) v hv
theorem colsN_map : ∀ k c, (colsN k c).map (fun x => stepN x 0) = colsN k (stepN c 0)
  | 0, _ => rfl
  | k + 1, c => by rw [colsN, List.map_cons, colsN_map, colsN]
theorem comb_take : ∀ (cs vs ws : List Nat), cs.length ≤ vs.length → comb cs (vs ++ ws) = comb cs vs
  | [], _, _, _ => by simp [comb]
  | _ :: _, [], _, h => by simp at h
  | c :: cs, v :: vs, ws, h => by rw [List.cons_append, comb, comb, comb_take cs vs ws (by simpa using h)]
/-- what a row leaves behind -/
theorem syn : ∀ (e : List Nat) (k : Nat), e.length ≤ k → Sm e → comb e (colsN k 1) = e.reverse.foldl stepN 0
  | [], k, _, _ => by simp [comb]
  | v :: e, 0, h, _ => by simp at h
  | v :: e, k + 1, h, hs => by
    have hs' : Sm e := fun x h => hs x (.tail _ h)
    have hv := hs v (.head _)
    rw [colsN, comb, ← colsN_map, comb_map step0_lin (fun t x ht hx => (fs_step0 ht hx).symm) e _ hs' (colsN_bd k 1 (by decide)), syn e k (by simpa using h) hs', List.reverse_cons, List.foldl_append, List.foldl_cons, List.foldl_nil, step_split _ v, Nat.xor_comm]
    congr 1
    exact (by decide +kernel : ∀ v, v < 32 → fs v 1 = v) v hv
theorem wt_rev (e : List Nat) : wt e.reverse = wt e := by simp [wt, List.filter_reverse]
/-- a row of a check word that differs in few places is never a check word -/
theorem none_of {m W : Nat} (h : Ind m ((colsN W (stepN 1 0)).map (cut1 (nf 1) (topd 1)))) : ∀ (r : List Nat), r.length ≤ W + 1 → Sm r → wt r ≤ m + 1 → r.reverse.foldl stepN 0 = 0 → Zer r
  | [], _, _, _, _ => fun c hc => by cases hc
  | v :: e, hl, hs, hw, hz => by
    have hs' : Sm e := fun x h => hs x (.tail _ h)
    have hv := hs v (.head _)
    by_cases q : v = 0
    · subst q
      rw [wt_cons0] at hw
      rw [List.reverse_cons, List.foldl_append, List.foldl_cons, List.foldl_nil] at hz
      have hz' := step0_inj (fold_lt e.reverse 0 (fun x hx => hs' x (List.mem_reverse.mp hx)) (by decide)) hz
      exact Zer.cons rfl (none_of h e (by simp at hl; omega) hs' hw hz')
    · rw [wt_cons q] at hw
      have hl' : e.length ≤ W := by simpa using hl
      have hz' := hz
      rw [← syn (v :: e) (W + 1) hl hs, colsN, comb] at hz'
      have hE : cut1 (nf 1) (topd 1) 1 = 0 := by decide +kernel
      have e0 := congrArg (cut1 (nf 1) (topd 1)) hz'
      rw [cut_xor, cut_fs (topd_mem 1) hv (by decide) (by decide +kernel), hE, fs_zero, Nat.zero_xor, ← comb_map (cut_xor _ _) (fun t x ht hx => cut_fs (topd_mem 1) ht hx (by decide +kernel)) e _ hs' (colsN_bd W _ (by decide +kernel))] at e0
      have z := h e (by simp [colsN_len]; omega) hs' (by omega) (by rw [e0]; decide +kernel)
      rw [comb_zer e _ z, Nat.xor_zero] at hz'
      exact absurd (fs_inj hv q (by decide) hz') (by decide)
end Mine

namespace Mine
def colT : List Nat := [32, 1024, 32768, 1048576, 33554432, 996825010, 534243686, 69525304, 583756141]
def colU : List Nat := [32, 1024, 32768, 1048576, 33554432, 996824992, 534243680, 69525280, 583756128]
theorem colT_is : colsN 9 (stepN 1 0) = colT := by decide +kernel
theorem colU_is : colT.map (cut1 (nf 1) (topd 1)) = colU := by decide +kernel
theorem colU_bd : Bd colU := by
  have : ∀ v ∈ colU, v < 2 ^ 30 := by decide +kernel
  exact this
theorem i4' : chk 1 colU = true := by decide +kernel
theorem ind4' : Ind 3 ((colsN 9 (stepN 1 0)).map (cut1 (nf 1) (topd 1))) := by
  rw [colT_is, colU_is]; exact chk_ok 1 _ colU_bd i4'
end Mine

namespace Mine
/-! what one turned sign leaves behind, by the zeros behind it -/
def tellN (far v : Nat) : Nat := (List.replicate far 0).foldl stepN v
theorem zips0 : ∀ (us : List Nat), List.zipWith (· ^^^ ·) us (List.replicate us.length 0) = us
  | [] => rfl
  | d :: ds => by simp only [List.length_cons, List.replicate_succ, List.zipWith_cons_cons, Nat.xor_zero]; rw [zips0 ds]
theorem tell_xor (far a b : Nat) : tellN far (a ^^^ b) = tellN far a ^^^ tellN far b := by
  have h := zips0 (List.replicate far 0)
  rw [List.length_replicate] at h
  have := fold_lin (List.replicate far 0) (List.replicate far 0) a b rfl
  rw [h] at this
  exact this
theorem tell_0 (far : Nat) : tellN far 0 = 0 := zeros_fold far
theorem xor_0 {x y : Nat} (h : x ^^^ y = 0) : x = y := by
  have := congrArg (· ^^^ y) h
  simpa [Nat.xor_assoc] using this
theorem tell_ne {far v : Nat} (hv : v < 32) (h : tellN far v = 0) : v = 0 := by
  by_cases q : v = 0
  · exact q
  · exact absurd h (zeros_ne far v (by omega) q)
theorem tell_inj {far a b : Nat} (ha : a < 32) (hb : b < 32) (h : tellN far a = tellN far b) : a = b := by
  have h1 : tellN far (a ^^^ b) = 0 := by rw [tell_xor, h, Nat.xor_self]
  exact xor_0 (tell_ne (Nat.xor_lt_two_pow (n := 5) ha hb) h1)
theorem share_is (far b : Nat) : shareN far b = tellN far b := by
  unfold shareN bareN polyN
  rw [List.replicate_succ, List.foldl_cons, List.foldl_cons]
  show tellN far (stepN 1 b) ^^^ tellN far (stepN 1 0) = _
  rw [← tell_xor, step_split 1 b, Nat.xor_comm (stepN 1 0) b, Nat.xor_assoc, Nat.xor_self, Nat.xor_zero]
theorem bringS_is (far b : Nat) (l : List Nat) : bringS far (l.map (tellN far)) b = (l ++ l.map (· ^^^ b)).map (tellN far) := by
  unfold bringS
  rw [List.map_append, List.map_map, List.map_map, share_is]
  congr 1
  refine List.map_congr_left fun x _ => ?_
  exact (tell_xor far x b).symm
theorem bring_is (far : Nat) : bringN far = (List.range 32).map (tellN far) := by
  have h : ∀ (bs : List Nat) (l : List Nat), bs.foldl (bringS far) (l.map (tellN far)) = (bs.foldl (fun l b => l ++ l.map (· ^^^ b)) l).map (tellN far) := by
    intro bs
    induction bs with
    | nil => intro l; rfl
    | cons b bs ih => intro l; rw [List.foldl_cons, List.foldl_cons, bringS_is, ih]
  have e : ([0] : List Nat) = [0].map (tellN far) := by simp [tell_0]
  unfold bringN
  rw [e, h]
  congr 1
theorem bring_getD (far : Nat) {v : Nat} (hv : v < 32) : (bringN far).getD v 0 = tellN far v := by
  rw [bring_is, List.getD_eq_getElem?_getD, List.getElem?_map, List.getElem?_range hv]; rfl
/-! the dict of what the signs leave behind -/
def kvN (f : Nat → Nat) (m : Nat) : List (Int × Int) := (List.range m).map fun i => (((f i : Nat) : Int), ((i : Nat) : Int))
theorem put_new (k v : Int) (D : List (Int × Int)) (h : ∀ p ∈ D, p.1 ≠ k) : putI k v D = D ++ [(k, v)] := by
  unfold putI
  rw [if_neg]
  intro e
  obtain ⟨p, hp, hq⟩ := List.any_eq_true.mp e
  exact h p hp (of_decide_eq_true hq)
theorem fold_kv (f : Nat → Nat) : ∀ m, (∀ a b, a < m → b < m → f a = f b → a = b) → (List.range m).foldl (fun D i => putI (f i : Nat) (i : Nat) D) [] = kvN f m
  | 0, _ => rfl
  | m + 1, h => by
    rw [range_succ_foldl, fold_kv f m (fun a b ha hb => h a b (by omega) (by omega)), put_new]
    · simp [kvN, List.range_succ]
    · intro p hp
      obtain ⟨i, hi, rfl⟩ := List.mem_map.mp hp
      have hi := List.mem_range.mp hi
      intro e
      have e : ((f i : Nat) : Int) = ((f m : Nat) : Int) := e
      have := h i m (by omega) (by omega) (by omega)
      omega
theorem dict_is (far : Nat) : dictN (bringN far) = kvN (tellN far) 32 := by
  unfold dictN
  have hl : (bringN far).length = 32 := by rw [bring_is]; simp
  rw [hl, ← fold_kv (tellN far) 32 (fun a b ha hb h => tell_inj ha hb h)]
  have : ∀ (l : List Nat) (D : List (Int × Int)), (∀ i ∈ l, i < 32) → l.foldl (fun D i => putI ((bringN far).getD i 0 : Nat) (i : Nat) D) D = l.foldl (fun D i => putI (tellN far i : Nat) (i : Nat) D) D := by
    intro l
    induction l with
    | nil => intro D _; rfl
    | cons i l ih =>
      intro D h
      rw [List.foldl_cons, List.foldl_cons, bring_getD far (h i (.head _)), ih _ (fun j hj => h j (.tail _ hj))]
  exact this _ _ (fun i hi => List.mem_range.mp hi)
theorem look_mem : ∀ (D : List (Int × Int)) (k w : Int), look D k = some w → (k, w) ∈ D
  | [], _, _, h => by cases h
  | p :: r, k, w, h => by
    unfold look at h
    split at h
    · cases h; rename_i e; subst e; exact .head _
    · exact .tail _ (look_mem r k w h)
theorem look_none : ∀ (D : List (Int × Int)) (k : Int), look D k = none → ∀ p ∈ D, p.1 ≠ k
  | [], _, _, p, hp => by cases hp
  | q :: r, k, h, p, hp => by
    unfold look at h
    split at h
    · cases h
    · rcases List.mem_cons.mp hp with rfl | hp
      · assumption
      · exact look_none r k h p hp
theorem look_some_is {far x : Nat} {w : Int} (h : look (dictN (bringN far)) ((x : Nat) : Int) = some w) : ∃ i, i < 32 ∧ w = ((i : Nat) : Int) ∧ tellN far i = x := by
  rw [dict_is] at h
  obtain ⟨i, hi, e⟩ := List.mem_map.mp (look_mem _ _ _ h)
  have e1 : ((tellN far i : Nat) : Int) = ((x : Nat) : Int) := congrArg Prod.fst e
  have e2 : ((i : Nat) : Int) = w := congrArg Prod.snd e
  exact ⟨i, List.mem_range.mp hi, e2.symm, by omega⟩
theorem look_tell {far i : Nat} (hi : i < 32) : look (dictN (bringN far)) ((tellN far i : Nat) : Int) = some ((i : Nat) : Int) := by
  cases h : look (dictN (bringN far)) ((tellN far i : Nat) : Int) with
  | some w =>
    obtain ⟨j, hj, rfl, e⟩ := look_some_is h
    rw [tell_inj hj hi e]
  | none =>
    rw [dict_is] at h
    exact absurd rfl (look_none _ _ h _ (List.mem_map.mpr ⟨i, List.mem_range.mpr hi, rfl⟩))
/-! a row with one sign -/
def oneR (m k v : Nat) : List Nat := (List.replicate m 0).set k v
theorem oneR_len (m k v : Nat) : (oneR m k v).length = m := by simp [oneR]
theorem oneR_get {m k p : Nat} (v : Nat) (hp : p < m) : (oneR m k v).getD p 0 = if k = p then v else 0 := by
  unfold oneR
  rw [List.getD_eq_getElem?_getD, List.getElem?_set]
  by_cases q : k = p
  · subst q; simp [hp]
  · rw [if_neg q, if_neg q, List.getElem?_replicate, if_pos hp]; rfl
theorem oneR_sm {m k v : Nat} (hv : v < 32) : Sm (oneR m k v) := by
  intro c hc
  rcases List.mem_or_eq_of_mem_set hc with h | rfl
  · rw [List.eq_of_mem_replicate h]; decide
  · exact hv
theorem oneR_fold : ∀ (m k v : Nat), k < m → (oneR m k v).foldl stepN 0 = tellN (m - 1 - k) v
  | 0, _, _, h => by omega
  | m + 1, 0, v, _ => by
    unfold oneR
    rw [List.replicate_succ, List.set_cons_zero, List.foldl_cons, step_zero]; rfl
  | m + 1, k + 1, v, h => by
    have := oneR_fold m k v (by omega)
    unfold oneR at this ⊢
    rw [List.replicate_succ, List.set_cons_succ, List.foldl_cons, step_zero, this]
    congr 1
    omega
theorem wt_set (p x : Nat) : ∀ (e : List Nat), wt (e.set p x) ≤ wt e + 1 := by
  induction p with
  | zero =>
    intro e
    cases e with
    | nil => simp [wt]
    | cons c e =>
      rw [List.set_cons_zero]
      by_cases q : x = 0
      · subst q; rw [wt_cons0]
        by_cases q2 : c = 0
        · subst q2; rw [wt_cons0]; omega
        · rw [wt_cons q2]; omega
      · rw [wt_cons q]
        by_cases q2 : c = 0
        · subst q2; rw [wt_cons0]; omega
        · rw [wt_cons q2]; omega
  | succ p ih =>
    intro e
    cases e with
    | nil => simp [wt]
    | cons c e =>
      rw [List.set_cons_succ]
      have := ih e
      by_cases q2 : c = 0
      · subst q2; rw [wt_cons0, wt_cons0]; exact this
      · rw [wt_cons q2, wt_cons q2]; omega
theorem wt_oneR (m k v : Nat) : wt (oneR m k v) ≤ 1 := by
  have := wt_set k v (List.replicate m 0)
  have h : wt (List.replicate m 0) = 0 := by simp [wt]
  unfold oneR; omega
theorem wt_c (c : Nat) (cs : List Nat) : wt (c :: cs) = (if c = 0 then 0 else 1) + wt cs := by
  by_cases h : c = 0
  · subst h; rw [wt_cons0]; simp
  · rw [wt_cons h, if_neg h]; omega
abbrev zipX (a b : List Nat) : List Nat := List.zipWith (· ^^^ ·) a b
theorem wt_zip : ∀ (a b : List Nat), wt (zipX a b) ≤ wt a + wt b
  | [], _ => by simp [wt]
  | _ :: _, [] => by simp [wt]
  | x :: a, y :: b => by
    have := wt_zip a b
    simp only [zipX, List.zipWith_cons_cons, wt_c] at this ⊢
    by_cases e1 : x = 0
    · subst e1
      by_cases e2 : y = 0
      · subst e2; simp; omega
      · simp [e2]; omega
    · simp only [e1]
      split <;> simp <;> omega
theorem zip_sm {a b : List Nat} (ha : Sm a) (hb : Sm b) : Sm (zipX a b) := by
  intro c hc
  obtain ⟨i, hi, rfl⟩ := List.mem_iff_getElem.mp hc
  rw [List.getElem_zipWith]
  exact Nat.xor_lt_two_pow (n := 5) (ha _ (List.getElem_mem _)) (hb _ (List.getElem_mem _))
theorem getD_zip {a b : List Nat} (h : a.length = b.length) (i : Nat) : (zipX a b).getD i 0 = a.getD i 0 ^^^ b.getD i 0 := by
  by_cases hi : i < a.length
  · rw [List.getD_eq_getElem?_getD, List.getElem?_eq_getElem (by simp; omega), List.getD_eq_getElem?_getD, List.getElem?_eq_getElem hi, List.getD_eq_getElem?_getD, List.getElem?_eq_getElem (by omega)]
    simp
  · rw [List.getD_eq_getElem?_getD, List.getElem?_eq_none (by simp; omega), List.getD_eq_getElem?_getD, List.getElem?_eq_none (by omega), List.getD_eq_getElem?_getD, List.getElem?_eq_none (by omega)]
    rfl
theorem zip_fold {a b : List Nat} (h : a.length = b.length) : (zipX a b).foldl stepN 0 = a.foldl stepN 0 ^^^ b.foldl stepN 0 := by
  have := fold_lin a b 0 0 h
  rwa [Nat.xor_self] at this
/-- four places -/
theorem four {m a b c d v w x y : Nat} (hm : m ≤ 10) (ha : a < m) (hb : b < m) (hc : c < m) (hd : d < m) (hv : v < 32) (hw : w < 32) (hx : x < 32) (hy : y < 32)
    (h : (tellN (m - 1 - a) v ^^^ tellN (m - 1 - b) w) ^^^ (tellN (m - 1 - c) x ^^^ tellN (m - 1 - d) y) = 0) :
    ∀ p, p < m → ((if a = p then v else 0) ^^^ (if b = p then w else 0)) ^^^ ((if c = p then x else 0) ^^^ (if d = p then y else 0)) = 0 := by
  intro p hp
  have l1 : (zipX (oneR m a v) (oneR m b w)).length = m := by simp [zipX, oneR_len]
  have l2 : (zipX (oneR m c x) (oneR m d y)).length = m := by simp [zipX, oneR_len]
  have l3 : (zipX (zipX (oneR m a v) (oneR m b w)) (zipX (oneR m c x) (oneR m d y))).length = m := by
    show (List.zipWith _ _ _).length = m
    rw [List.length_zipWith, l1, l2, Nat.min_self]
  have e0 : (zipX (zipX (oneR m a v) (oneR m b w)) (zipX (oneR m c x) (oneR m d y))).foldl stepN 0 = 0 := by
    rw [zip_fold (by rw [l1, l2]), zip_fold (by rw [oneR_len, oneR_len]), zip_fold (by rw [oneR_len, oneR_len]), oneR_fold _ _ _ ha, oneR_fold _ _ _ hb, oneR_fold _ _ _ hc, oneR_fold _ _ _ hd, h]
  have es : Sm (zipX (zipX (oneR m a v) (oneR m b w)) (zipX (oneR m c x) (oneR m d y))) := zip_sm (zip_sm (oneR_sm hv) (oneR_sm hw)) (zip_sm (oneR_sm hx) (oneR_sm hy))
  have ew : wt (zipX (zipX (oneR m a v) (oneR m b w)) (zipX (oneR m c x) (oneR m d y))) ≤ 4 := by
    have h1 := wt_zip (zipX (oneR m a v) (oneR m b w)) (zipX (oneR m c x) (oneR m d y))
    have h2 := wt_zip (oneR m a v) (oneR m b w)
    have h3 := wt_zip (oneR m c x) (oneR m d y)
    have := wt_oneR m a v; have := wt_oneR m b w; have := wt_oneR m c x; have := wt_oneR m d y
    omega
  have eg := getD_zip (a := zipX (oneR m a v) (oneR m b w)) (b := zipX (oneR m c x) (oneR m d y)) (by rw [l1, l2]) p
  rw [getD_zip (a := oneR m a v) (by rw [oneR_len, oneR_len]), getD_zip (a := oneR m c x) (by rw [oneR_len, oneR_len]), oneR_get v hp, oneR_get w hp, oneR_get x hp, oneR_get y hp] at eg
  generalize zipX (zipX (oneR m a v) (oneR m b w)) (zipX (oneR m c x) (oneR m d y)) = e at l3 e0 es ew eg
  have z := none_of ind4' e.reverse (by simp; omega) (fun x hx => es x (List.mem_reverse.mp hx)) (by rw [wt_rev]; omega) (by rw [List.reverse_reverse]; exact e0)
  rw [← eg, List.getD_eq_getElem?_getD, List.getElem?_eq_getElem (by omega)]
  exact z _ (List.mem_reverse.mpr (List.getElem_mem _))
end Mine

namespace Mine
/-! gathering by turns -/
theorem fold_flat {α β : Type} (f : List β → α → List β) (h : α → List β) (hf : ∀ l x, f l x = l ++ h x) : ∀ (xs : List α) (l : List β), xs.foldl f l = l ++ xs.flatMap h
  | [], l => by simp
  | x :: xs, l => by rw [List.foldl_cons, hf, fold_flat f h hf xs, List.flatMap_cons, List.append_assoc]
theorem flat_at {β : Type} (a : Nat) (L : List β) (h : Nat → List β) : ∀ m, (∀ x, x < m → h x = if x = a then L else []) → (List.range m).flatMap h = if a < m then L else []
  | 0, _ => by simp
  | m + 1, hh => by
    rw [List.range_succ, List.flatMap_append, flat_at a L h m (fun x hx => hh x (by omega)), List.flatMap_cons, List.flatMap_nil, List.append_nil, hh m (by omega)]
    by_cases q : m = a
    · subst q
      rw [if_neg (Nat.lt_irrefl m), if_pos rfl, if_pos (by omega)]; rfl
    · rw [if_neg q, List.append_nil]
      by_cases q2 : a < m
      · rw [if_pos q2, if_pos (by omega)]
      · rw [if_neg q2, if_neg (by omega)]
theorem flat_no {β : Type} (h : Nat → List β) (m : Nat) (hh : ∀ x, x < m → h x = []) : (List.range m).flatMap h = [] := by
  rw [flat_at 0 [] h m (fun x hx => by rw [hh x hx]; split <;> rfl)]; split <;> rfl
def hitC (m left j k i : Nat) : List (Int × Int × Int × Int) :=
  match look (dictN (bringN (m - 1 - j))) ((left ^^^ (bringN (m - 1 - k)).getD (1 + i) 0 : Nat) : Int) with
  | some w => [((j : Int), w, (k : Int), ((1 + i : Nat) : Int))]
  | none => []
theorem hitS_is (m left j k : Nat) (fd : List (Int × Int × Int × Int)) (i : Nat) : hitS m left j k fd i = fd ++ hitC m left j k i := by
  unfold hitS hitC
  cases look (dictN (bringN (m - 1 - j))) ((left ^^^ (bringN (m - 1 - k)).getD (1 + i) 0 : Nat) : Int) with
  | none => simp
  | some w => rfl
theorem found_is (m left n : Nat) : foundQ m left n = (List.range n).flatMap fun k => (List.range k).flatMap fun j => (List.range 31).flatMap fun i => hitC m left j k i := by
  unfold foundQ
  rw [fold_flat _ _ (fun l k => ?_) (List.range n) []]
  · rw [List.nil_append]
  · unfold hitK
    rw [fold_flat _ _ (fun l j => ?_) (List.range k) l]
    unfold hitJ
    rw [fold_flat _ _ (fun l i => hitS_is m left j k l i) (List.range 31) l]
section
variable {m a b x y : Nat}
/-- the pair is the only one -/
theorem hit_only (hm : m ≤ 10) (hab : a < b) (hb : b < m) (hx : 1 ≤ x) (hx' : x < 32) (hy : 1 ≤ y) (hy' : y < 32) {j k i : Nat} (hjk : j < k) (hk : k < m) (hi : i < 31) :
    hitC m (tellN (m - 1 - a) x ^^^ tellN (m - 1 - b) y) j k i = if k = b then (if j = a then (if i = y - 1 then [((a : Int), (x : Int), (b : Int), (y : Int))] else []) else []) else [] := by
  unfold hitC
  rw [bring_getD _ (by omega : 1 + i < 32)]
  by_cases q : k = b ∧ j = a ∧ i = y - 1
  · obtain ⟨rfl, rfl, rfl⟩ := q
    have e : 1 + (y - 1) = y := by omega
    rw [if_pos rfl, if_pos rfl, if_pos rfl, e, Nat.xor_assoc, Nat.xor_self, Nat.xor_zero, look_tell hx']
  · have e2 : (if k = b then (if j = a then (if i = y - 1 then [((a : Int), (x : Int), (b : Int), (y : Int))] else []) else []) else []) = ([] : List (Int × Int × Int × Int)) := by
      by_cases q1 : k = b
      · by_cases q2 : j = a
        · by_cases q3 : i = y - 1
          · exact absurd ⟨q1, q2, q3⟩ q
          · rw [if_pos q1, if_pos q2, if_neg q3]
        · rw [if_pos q1, if_neg q2]
      · rw [if_neg q1]
    rw [e2]
    cases h : look (dictN (bringN (m - 1 - j))) ((tellN (m - 1 - a) x ^^^ tellN (m - 1 - b) y ^^^ tellN (m - 1 - k) (1 + i) : Nat) : Int) with
    | none => rfl
    | some w =>
      exfalso
      obtain ⟨v, hv, rfl, e⟩ := look_some_is h
      have z : (tellN (m - 1 - j) v ^^^ tellN (m - 1 - k) (1 + i)) ^^^ (tellN (m - 1 - a) x ^^^ tellN (m - 1 - b) y) = 0 := by
        rw [e, Nat.xor_assoc (tellN (m - 1 - a) x ^^^ tellN (m - 1 - b) y), Nat.xor_self, Nat.xor_zero, Nat.xor_self]
      have f := four hm (by omega) hk (by omega) hb hv (by omega) hx' hy' z
      have fk := f k hk
      rw [if_neg (by omega : ¬ j = k), if_pos rfl, Nat.zero_xor] at fk
      by_cases qb : b = k
      · subst qb
        rw [if_neg (by omega : ¬ a = b), if_pos rfl, Nat.zero_xor] at fk
        have e1 := xor_0 fk
        have fa := f a (by omega)
        rw [if_neg (by omega : ¬ b = a), if_neg (by omega : ¬ b = a), if_pos rfl, Nat.xor_zero, Nat.xor_zero] at fa
        by_cases qa : j = a
        · exact q ⟨rfl, qa, by omega⟩
        · rw [if_neg qa, Nat.zero_xor] at fa; omega
      · rw [if_neg qb, Nat.xor_zero] at fk
        by_cases qa : a = k
        · subst qa
          have fb := f b hb
          rw [if_neg (by omega : ¬ j = b), if_neg (by omega : ¬ a = b), if_neg (by omega : ¬ a = b), if_pos rfl] at fb
          simp at fb; omega
        · rw [if_neg qa, Nat.xor_zero] at fk; omega
theorem found_one (hm : m ≤ 10) (hab : a < b) (hb : b < m) (hx : 1 ≤ x) (hx' : x < 32) (hy : 1 ≤ y) (hy' : y < 32) :
    foundQ m (tellN (m - 1 - a) x ^^^ tellN (m - 1 - b) y) m = [((a : Int), (x : Int), (b : Int), (y : Int))] := by
  rw [found_is, flat_at b [((a : Int), (x : Int), (b : Int), (y : Int))] _ m (fun k hk => ?_), if_pos hb]
  by_cases q : k = b
  · subst q
    rw [if_pos rfl, flat_at a [((a : Int), (x : Int), (k : Int), (y : Int))] _ k (fun j hj => ?_), if_pos hab]
    by_cases q2 : j = a
    · subst q2
      rw [if_pos rfl, flat_at (y - 1) [((j : Int), (x : Int), (k : Int), (y : Int))] _ 31 (fun i hi => ?_), if_pos (by omega)]
      rw [hit_only hm hab hb hx hx' hy hy' hj hk hi, if_pos rfl, if_pos rfl]
    · rw [if_neg q2]
      refine flat_no _ _ fun i hi => ?_
      rw [hit_only hm hab hb hx hx' hy hy' hj hk hi, if_pos rfl, if_neg q2]
  · rw [if_neg q]
    refine flat_no _ _ fun j hj => flat_no _ _ fun i hi => ?_
    rw [hit_only hm hab hb hx hx' hy hy' hj hk hi, if_neg q]
/-- no single place brings what the pair brings -/
theorem out_one (hm : m ≤ 10) (hab : a < b) (hb : b < m) (hx : 1 ≤ x) (hx' : x < 32) (hy : 1 ≤ y) (hy' : y < 32) {k : Nat} (hk : k < m) :
    look (dictN (bringN (m - 1 - k))) ((tellN (m - 1 - a) x ^^^ tellN (m - 1 - b) y : Nat) : Int) = none := by
  cases h : look (dictN (bringN (m - 1 - k))) ((tellN (m - 1 - a) x ^^^ tellN (m - 1 - b) y : Nat) : Int) with
  | none => rfl
  | some w =>
    exfalso
    obtain ⟨v, hv, rfl, e⟩ := look_some_is h
    have z : (tellN (m - 1 - k) v ^^^ tellN (m - 1 - k) 0) ^^^ (tellN (m - 1 - a) x ^^^ tellN (m - 1 - b) y) = 0 := by
      rw [tell_0, Nat.xor_zero, e, Nat.xor_self]
    have f := four hm hk hk (by omega) hb hv (by decide) hx' hy' z
    by_cases qa : k = a
    · subst qa
      have fb := f b hb
      rw [if_neg (by omega : ¬ k = b), if_neg (by omega : ¬ k = b), if_neg (by omega : ¬ k = b), if_pos rfl] at fb
      simp at fb; omega
    · have fa := f a (by omega)
      rw [if_neg qa, if_neg qa, if_pos rfl, if_neg (by omega : ¬ b = a)] at fa
      simp at fa; omega
end
theorem tv_row {m p q v w : Nat} (hp : p < m) (hq : q < m) (hne : p ≠ q) (hv : v < 32) (hw : w < 32) :
    ((List.range m).map (tvN p q v w)) = zipX (oneR m (min p q) (tvN p q v w (min p q))) (oneR m (max p q) (tvN p q v w (max p q))) := by
  refine List.ext_getElem (by simp [oneR_len]) fun i h1 h2 => ?_
  have hi : i < m := by simpa using h1
  have g1 := getD_zip (a := oneR m (min p q) (tvN p q v w (min p q))) (b := oneR m (max p q) (tvN p q v w (max p q))) (by rw [oneR_len, oneR_len]) i
  rw [oneR_get _ hi, oneR_get _ hi, List.getD_eq_getElem?_getD, List.getElem?_eq_getElem h2] at g1
  simp only [Option.getD_some] at g1
  rw [g1, List.getElem_map, List.getElem_range]
  by_cases c1 : min p q = i
  · rw [if_pos c1, if_neg (by omega), Nat.xor_zero, c1]
  · by_cases c2 : max p q = i
    · rw [if_neg c1, if_pos c2, Nat.zero_xor, c2]
    · rw [if_neg c1, if_neg c2]
      unfold tvN
      rw [if_neg (by omega), if_neg (by omega)]; rfl
theorem turned_zip (whole : List Nat) (p q v w : Nat) : turnedN whole p q v w = zipX whole ((List.range whole.length).map (tvN p q v w)) := by
  refine List.ext_getElem (by simp [turnedN]) fun i h1 h2 => ?_
  have hi : i < whole.length := by simpa [turnedN] using h1
  simp [turnedN, hi]
theorem tv_ok {p q v w k : Nat} (hv : 1 ≤ v ∧ v < 32) (hw : 1 ≤ w ∧ w < 32) (h : k = p ∨ k = q) : 1 ≤ tvN p q v w k ∧ tvN p q v w k < 32 := by
  unfold tvN
  split
  · exact hv
  · split
    · exact hw
    · omega
theorem all2 : All2 := by
  intro name nums p q v w hnl hnc hml hm32 hp hq hne hv hv' hw hw'
  have hW : ∀ v ∈ hrpN name ++ nums, v < 32 := by rw [hrp_eq]; exact wholeN_lt (fun c h => (hnc c h).2) hm32
  have p6 := poly_six hW
  have ec : createN name nums = sixN (polyN ((hrpN name ++ nums) ++ [0, 0, 0, 0, 0, 0]) ^^^ 1) := rfl
  rw [← ec, List.append_assoc] at p6
  have h6 : (createN name nums).length = 6 := by simp [createN, sixN]
  have hwl : (nums ++ createN name nums).length = nums.length + 6 := by simp [h6]
  generalize nums ++ createN name nums = whole at p6 hwl
  have t1 := tv_ok (p := p) (q := q) (k := min p q) ⟨hv, hv'⟩ ⟨hw, hw'⟩ (by omega)
  have t2 := tv_ok (p := p) (q := q) (k := max p q) ⟨hv, hv'⟩ ⟨hw, hw'⟩ (by omega)
  have tr := tv_row (m := whole.length) (p := p) (q := q) (by omega) (by omega) hne hv' hw'
  have tz := turned_zip whole p q v w
  rw [tr] at tz
  have hm : whole.length ≤ 10 := by omega
  have hab : min p q < max p q := by omega
  have hb : max p q < whole.length := by omega
  have hleft : polyN (hrpN name ++ turnedN whole p q v w) ^^^ 1 = tellN (whole.length - 1 - min p q) (tvN p q v w (min p q)) ^^^ tellN (whole.length - 1 - max p q) (tvN p q v w (max p q)) := by
    have h1 := fold_lin whole (zipX (oneR whole.length (min p q) (tvN p q v w (min p q))) (oneR whole.length (max p q) (tvN p q v w (max p q)))) (polyN (hrpN name)) 0 (by simp [zipX, oneR_len])
    rw [Nat.xor_zero, ← zipX, ← tz, zip_fold (by rw [oneR_len, oneR_len]), oneR_fold _ _ _ (by omega), oneR_fold _ _ _ hb] at h1
    have h2 : whole.foldl stepN (polyN (hrpN name)) = 1 := by unfold polyN at p6 ⊢; rw [List.foldl_append] at p6; exact p6
    rw [h2] at h1
    have h3 : polyN (hrpN name ++ turnedN whole p q v w) = (turnedN whole p q v w).foldl stepN (polyN (hrpN name)) := by unfold polyN; rw [List.foldl_append]
    rw [h3, h1, Nat.xor_comm 1, Nat.xor_assoc, Nat.xor_self, Nat.xor_zero]
  refine ⟨fun k _ => by rw [dict_is]; simp [kvN], fun k hk => ?_, ?_, ?_, ?_⟩
  · rw [hleft]; exact out_one hm hab hb t1.1 t1.2 t2.1 t2.2 hk
  · rw [hleft]; exact found_one hm hab hb t1.1 t1.2 t2.1 t2.2
  · unfold verifyN
    rw [beq_eq_false_iff_ne]
    intro e
    rw [e, Nat.xor_self] at hleft
    have o := out_one hm hab hb t1.1 t1.2 t2.1 t2.2 hb
    rw [← hleft, ← tell_0 (whole.length - 1 - max p q), look_tell (by decide)] at o
    cases o
  · unfold verifyN; rw [p6]; rfl
end Mine

namespace Mine
open PySem PySem.W PyProof.Rows
def adr (K : Frag) (x : PySem.Str) : Addr := match nsIn K mainGlobals x with
  | some (some (.ref a)) => a
  | _ => 0
open_top hd2 for PySem.Challenge.rw_oo0004_02
section
variable (pr : Params)
theorem k1 : HasFn (hd2.heap_39 pr) "bech32_polymod" (stAt pw 1) (adr (hd2.heap_39 pr) "bech32_polymod") := ⟨rfl, rfl, _, _, _, _, _, _, _, _, rfl, rfl⟩
theorem k2 : HasFn (hd2.heap_39 pr) "bech32_hrp_expand" (stAt pw 2) (adr (hd2.heap_39 pr) "bech32_hrp_expand") := ⟨rfl, rfl, _, _, _, _, _, _, _, _, rfl, rfl⟩
theorem k3 : HasFn (hd2.heap_39 pr) "bech32_verify_checksum" (stAt pw 3) (adr (hd2.heap_39 pr) "bech32_verify_checksum") := ⟨rfl, rfl, _, _, _, _, _, _, _, _, rfl, rfl⟩
theorem k4 : HasFn (hd2.heap_39 pr) "bech32_create_checksum" (stAt pw 4) (adr (hd2.heap_39 pr) "bech32_create_checksum") := ⟨rfl, rfl, _, _, _, _, _, _, _, _, rfl, rfl⟩
theorem k6 : HasFn (hd2.heap_39 pr) "_law_next" (stAt pw 6) (adr (hd2.heap_39 pr) "_law_next") := ⟨rfl, rfl, _, _, _, _, _, _, _, _, rfl, rfl⟩
theorem k7 : HasFn (hd2.heap_39 pr) "_law_brought" (stAt pw 7) (adr (hd2.heap_39 pr) "_law_brought") := ⟨rfl, rfl, _, _, _, _, _, _, _, _, rfl, rfl⟩
noncomputable def fns2 : Fns (hd2.heap_39 pr) where
  a1 := _
  a2 := _
  a3 := _
  a4 := _
  a6 := _
  a7 := _
  f1 := k1 pr
  f2 := k2 pr
  f3 := k3 pr
  f4 := k4 pr
  f6 := k6 pr
  f7 := k7 pr
  range := rfl
  ord := rfl
  list := rfl
  len := rfl
  abs := rfl
  min := rfl
  max := rfl
end
end Mine
open PySem PySem.W PyProof.Rows Mine
set_option maxHeartbeats 8000000 in
theorem PySem.Challenge.cw_oo0004_02_holds : PySem.Challenge.rw_oo0004_02.Holds :=
  Mine.hd2 (by
    k_fill
    intro w s₀ s₁ mg mb G Y fa o pm cd doc dV kV ho hd hcd hD hmg hg args vals as hpre hlay hrd hwl hlo
    have KX := kIn_of Y
    refine Ground.open G ?_
    intro T B D TE TW
    try (refine guard_noD D (by decide +kernel) ?_; clear D)
    clear hmg
    wrow_args hpre hlay hrd hwl hlo
    first | refine callC_kw (enter_call ?_) | refine enter_call ?_ | refine callC_kw (enter_callW ?_) | refine enter_callW ?_ | w_how
    w_top on
    try refine codeAny_mono ?_ (fun _ _ g => GoodW.toG g)
    have he := Dflts.none hD rfl
    subst he
    have he := Dflts.noKw hD
    subst he
    rename IntsAre _ _ => II
    rename Heap.IsList _ _ _ => LL
    refine call_cellsN (by decide) ho (fd_plain hd) (Top.nolimit T) hcd rfl (kinds_of (by kinds_ok)) (by decide) fun h₁ tk₁ cells FF NN XX => ?_
    refine run_body (g := ⟨_, _, _, _, _, _, _, _⟩) (law_body (n := 0) ?fs all2 _ ?hz) KX T LL II rfl rfl (by decide) FF NN XX ?_
    case fs => exact fns2 _
    case hz => omega
    intro h' tk m' F'
    refine goodW_bool F' (by assumption) (raisesW_false ?_) ?_
    · wrow_none_raised
    · wrow_post)

