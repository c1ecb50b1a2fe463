import PyProof.Rows.All
import Wide.All
import OpenK.AllK
import Wide.FinOn
import PySem.Challenge.RW_oy0061_01
set_option Elab.async false
set_option maxRecDepth 100000
set_option maxHeartbeats 8000000
namespace Mine
open PySem PySem.W PyProof.Rows PySem.Calls

/-! Abstract values: tuples and frozen lists by value, mutable objects by address. -/
inductive V where
  | none
  | bool (b : Bool)
  | int (i : Int)
  | bytes (b : List Int)
  | tuple (xs : List V)
  | list (xs : List V)
  | range (a b c : Int)
  | ref (a : Addr)
  | raw (v : Value)

inductive AO where
  | list (xs : List V)
  | dict (es : List (Int × V)) (ep : Nat)
  | biter (b : List Int) (i : Nat)
  | riter (x left step : Int)

abbrev Fz := Addr → Option Obj
abbrev tupOf (vs : List Value) (n : Nat) : Obj := { cls := .type "tuple", data := .seq vs.toArray n }
abbrev rngOf (a b c : Int) (t u v : Tok) : Obj := { cls := .type "range", data := .fields #[.int a t, .int b u, .int c v] }

def BytesAre (b : Array UInt8) (xs : List Int) : Prop := b.toList.map (fun c => (c.toNat : Int)) = xs

mutual
inductive R (F : Fz) : V → Value → Prop
  | none : R F .none .none
  | bool (b : Bool) : R F (.bool b) (.bool b)
  | int (i : Int) (t : Tok) : R F (.int i) (.int i t)
  | bytes {b : Array UInt8} {xs : List Int} (t : Tok) : BytesAre b xs → R F (.bytes xs) (.bytes b t)
  | tuple {a : Addr} {vs : List Value} {n : Nat} {xs : List V} : F a = some (tupOf vs n) → RAll F xs vs → R F (.tuple xs) (.ref a)
  | list {a : Addr} {vs : List Value} {n : Nat} {xs : List V} : F a = some (listOf vs.toArray n) → RAll F xs vs → R F (.list xs) (.ref a)
  | range {l : Addr} {a b c : Int} {t u v : Tok} : F l = some (rngOf a b c t u v) → R F (.range a b c) (.ref l)
  | ref (a : Addr) : R F (.ref a) (.ref a)
  | raw (v : Value) : R F (.raw v) v
inductive RAll (F : Fz) : List V → List Value → Prop
  | nil : RAll F [] []
  | cons {x : V} {v : Value} {xs : List V} {vs : List Value} : R F x v → RAll F xs vs → RAll F (x :: xs) (v :: vs)
end

def Fz.Le (F F' : Fz) : Prop := ∀ a o, F a = some o → F' a = some o
theorem Fz.Le.refl (F : Fz) : F.Le F := fun _ _ e => e
theorem Fz.Le.trans {F G H : Fz} (x : F.Le G) (y : G.Le H) : F.Le H := fun a o e => y a o (x a o e)

mutual
theorem R.mono {F F' : Fz} (h : F.Le F') : ∀ {x : V} {v : Value}, R F x v → R F' x v
  | _, _, .none => .none
  | _, _, .bool b => .bool b
  | _, _, .int i t => .int i t
  | _, _, .bytes t e => .bytes t e
  | _, _, .tuple e r => .tuple (h _ _ e) (RAll.mono h r)
  | _, _, .list e r => .list (h _ _ e) (RAll.mono h r)
  | _, _, .range e => .range (h _ _ e)
  | _, _, .ref a => .ref a
  | _, _, .raw v => .raw v
theorem RAll.mono {F F' : Fz} (h : F.Le F') : ∀ {xs : List V} {vs : List Value}, RAll F xs vs → RAll F' xs vs
  | _, _, .nil => .nil
  | _, _, .cons a r => .cons (R.mono h a) (RAll.mono h r)
end

theorem RAll.length {F : Fz} : ∀ {xs : List V} {vs : List Value}, RAll F xs vs → xs.length = vs.length := by
  intro xs
  induction xs with
  | nil => intro vs h; cases h; rfl
  | cons x xs ih => intro vs h; cases h with | cons _ r => rw [List.length_cons, List.length_cons, ih r]
theorem RAll.append {F : Fz} {ys : List V} {ws : List Value} : ∀ {xs : List V} {vs : List Value}, RAll F xs vs → RAll F ys ws → RAll F (xs ++ ys) (vs ++ ws) := by
  intro xs
  induction xs with
  | nil => intro vs h r'; cases h; exact r'
  | cons x xs ih => intro vs h r'; cases h with | cons a r => exact .cons a (ih r r')
theorem RAll.get {F : Fz} : ∀ {xs : List V} {vs : List Value}, RAll F xs vs → ∀ {k : Nat} {x : V}, xs[k]? = some x → ∃ v, vs[k]? = some v ∧ R F x v := by
  intro xs
  induction xs with
  | nil => intro vs h k x e; cases e
  | cons y xs ih =>
    intro vs h k x e
    cases h with
    | cons a r =>
      cases k with
      | zero => cases e; exact ⟨_, rfl, a⟩
      | succ k => exact ih r (k := k) e
theorem RAll.set {F : Fz} {x : V} {v : Value} (hx : R F x v) : ∀ {xs : List V} {vs : List Value}, RAll F xs vs → ∀ (k : Nat), RAll F (xs.set k x) (vs.set k v) := by
  intro xs
  induction xs with
  | nil => intro vs h k; cases h; exact .nil
  | cons y xs ih =>
    intro vs h k
    cases h with
    | cons a r =>
      cases k with
      | zero => exact .cons hx r
      | succ k => exact .cons a (ih r k)
theorem RAll.take {F : Fz} : ∀ {xs : List V} {vs : List Value}, RAll F xs vs → ∀ (k : Nat), RAll F (xs.take k) (vs.take k) := by
  intro xs
  induction xs with
  | nil => intro vs h k; cases h; rw [List.take_nil, List.take_nil]; exact .nil
  | cons y xs ih =>
    intro vs h k
    cases h with
    | cons a r =>
      cases k with
      | zero => exact .nil
      | succ k => exact .cons a (ih r k)
theorem RAll.drop {F : Fz} : ∀ {xs : List V} {vs : List Value}, RAll F xs vs → ∀ (k : Nat), RAll F (xs.drop k) (vs.drop k) := by
  intro xs
  induction xs with
  | nil => intro vs h k; cases h; rw [List.drop_nil, List.drop_nil]; exact .nil
  | cons y xs ih =>
    intro vs h k
    cases h with
    | cons a r =>
      cases k with
      | zero => exact .cons a r
      | succ k => exact ih r k

/-! The world: the program, its oracle, the heap that the top left. -/
structure Wd where
  prog : Program
  w : World
  h₀ : Heap
  lim : h₀.NoLimit

abbrev Wd.M (W : Wd) : Model := model W.prog W.w

/-! The store's objects. -/
def SO (W : Wd) (F : Fz) (h : Heap) (a : Addr) : AO → Prop
  | .list xs => ∃ vs n, h.get? a = some (listOf vs.toArray n) ∧ RAll F xs vs
  | .dict ps ep => ∃ kvs : List (Int × Value), h.DictAt (intKind W.prog W.w) a kvs ep ∧ (a == sysModules) = false ∧ ps.map (·.1) = kvs.map (·.1) ∧ RAll F (ps.map (·.2)) (kvs.map (·.2))
  | .biter b i => ∃ ar t, BytesAre ar b ∧ KBw.IsBytesIter h a ar t i
  | .riter x left step => IsRangeIter h a x left step

theorem SO.there {W : Wd} {F : Fz} {h : Heap} {a : Addr} {x : AO} (k : SO W F h a x) : ∃ o, h.get? a = some o := by
  cases x with
  | list xs => obtain ⟨vs, n, e, _⟩ := k; exact ⟨_, e⟩
  | dict ps ep => obtain ⟨kvs, ⟨o, es, e, _⟩, _⟩ := k; exact ⟨o, e⟩
  | biter b i => obtain ⟨ar, t, _, o, e, _⟩ := k; exact ⟨o, e⟩
  | riter x l c => exact ⟨_, k⟩
theorem SO.mono {W : Wd} {F F' : Fz} {h h' : Heap} {a : Addr} {x : AO} (k : SO W F h a x) (hF : F.Le F') (hh : ∀ o, h.get? a = some o → h'.get? a = some o) : SO W F' h' a x := by
  cases x with
  | list xs => obtain ⟨vs, n, e, r⟩ := k; exact ⟨vs, n, hh _ e, r.mono hF⟩
  | dict ps ep => obtain ⟨kvs, ⟨o, es, e, r⟩, n, q, z⟩ := k; exact ⟨kvs, ⟨o, es, hh _ e, r⟩, n, q, z.mono hF⟩
  | biter b i => obtain ⟨ar, t, b, o, e, r⟩ := k; exact ⟨ar, t, b, o, hh _ e, r⟩
  | riter x l c => exact hh _ k

abbrev St := Addr → Option AO

structure SimG (W : Wd) (F : Fz) (σ : St) (h : Heap) : Prop where
  base : ∀ a o, W.h₀.get? a = some o → F a = some o
  fz : ∀ a o, F a = some o → h.get? a = some o
  st : ∀ a x, σ a = some x → F a = none ∧ SO W F h a x

structure PostG (own : List Addr) (W : Wd) (F : Fz) (σ : St) (s : Shared) (F' : Fz) (σ' : St) (s' : Shared) : Prop where
  ext : F.Le F'
  simg : SimG W F' σ' s'.heap
  keep : ∀ b o, s.heap.get? b = some o → σ b = none → b ∉ own → s'.heap.get? b = some o
  freshS : ∀ b, σ' b ≠ none → σ b ≠ none ∨ (s.heap.get? b = none ∧ b ∉ own)
  freshF : ∀ b, F' b ≠ none → F b ≠ none ∨ σ b ≠ none ∨ (s.heap.get? b = none ∧ b ∉ own)
  same : ∃ h tk, s' = { s with heap := h, toks := tk }

theorem PostG.refl {own : List Addr} {W : Wd} {F : Fz} {σ : St} {s : Shared} (g : SimG W F σ s.heap) : PostG own W F σ s F σ s :=
  ⟨.refl _, g, fun _ _ e _ _ => e, fun _ h => .inl h, fun _ h => .inl h, _, _, rfl⟩
theorem PostG.trans {own : List Addr} {W : Wd} {F F₁ F₂ : Fz} {σ σ₁ σ₂ : St} {s s₁ s₂ : Shared} (p : PostG own W F σ s F₁ σ₁ s₁) (q : PostG own W F₁ σ₁ s₁ F₂ σ₂ s₂) : PostG own W F σ s F₂ σ₂ s₂ := by
  have back : ∀ b, s₁.heap.get? b = none → b ∉ own → σ b ≠ none ∨ (s.heap.get? b = none ∧ b ∉ own) := fun b h ho => by
    cases e : s.heap.get? b with
    | none => exact .inr ⟨rfl, ho⟩
    | some o =>
      cases z : σ b with
      | some x => exact .inl (by simp)
      | none => rw [p.keep b o e z ho] at h; cases h
  refine ⟨p.ext.trans q.ext, q.simg, fun b o e hb ho => q.keep b o (p.keep b o e hb ho) ?_ ho, fun b h => ?_, fun b h => ?_, ?_⟩
  · cases h : σ₁ b with
    | none => rfl
    | some x =>
      rcases p.freshS b (by rw [h]; simp) with z | z
      · exact absurd hb z
      · rw [z.1] at e; cases e
  · rcases q.freshS b h with z | z
    · exact p.freshS b z
    · exact back b z.1 z.2
  · rcases q.freshF b h with z | z | z
    · exact p.freshF b z
    · exact .inr (p.freshS b z)
    · exact .inr (back b z.1 z.2)
  · obtain ⟨h, t, rfl⟩ := p.same
    obtain ⟨h', t', rfl⟩ := q.same
    exact ⟨h', t', rfl⟩
theorem PostG.weaken {own : List Addr} {W : Wd} {F F₁ : Fz} {σ σ₁ : St} {s s₁ : Shared} (p : PostG [] W F σ s F₁ σ₁ s₁) (ho : ∀ b ∈ own, ∃ o, s.heap.get? b = some o) : PostG own W F σ s F₁ σ₁ s₁ := by
  have z : ∀ b, s.heap.get? b = none → b ∉ own := fun b h m => by obtain ⟨o, e⟩ := ho b m; rw [e] at h; cases h
  refine { p with keep := fun b o e hb _ => p.keep b o e hb (by simp), freshS := fun b h => ?_, freshF := fun b h => ?_ }
  · exact (p.freshS b h).imp_right fun y => ⟨y.1, z b y.1⟩
  · exact (p.freshF b h).imp_right fun q => q.imp_right fun y => ⟨y.1, z b y.1⟩
/-- an address that was not there may be struck from the list -/
theorem PostG.strike {own : List Addr} {a : Addr} {W : Wd} {F F₁ : Fz} {σ σ₁ : St} {s s₁ : Shared} (p : PostG (a :: own) W F σ s F₁ σ₁ s₁) (ha : s.heap.get? a = none) : PostG own W F σ s F₁ σ₁ s₁ :=
  { p with
    keep := fun b o e hb ho => p.keep b o e hb (fun m => by
      rcases List.mem_cons.mp m with rfl | m
      · rw [ha] at e; cases e
      · exact ho m)
    freshS := fun b h => (p.freshS b h).imp_right fun y => ⟨y.1, fun m => y.2 (.tail _ m)⟩
    freshF := fun b h => (p.freshF b h).imp_right fun q => q.imp_right fun y => ⟨y.1, fun m => y.2 (.tail _ m)⟩ }
/-- a longer list of one's own, where no new address comes -/
theorem PostG.more {own own' : List Addr} {W : Wd} {F : Fz} {σ : St} {s s₁ : Shared} (p : PostG own W F σ s F σ s₁) (h : ∀ b ∈ own, b ∈ own') : PostG own' W F σ s F σ s₁ :=
  { p with
    keep := fun b o e hb ho => p.keep b o e hb fun m => ho (h b m)
    freshS := fun _ h => .inl h
    freshF := fun _ h => .inl h }

theorem SimG.heap {W : Wd} {F : Fz} {σ : St} {h h' : Heap} (g : SimG W F σ h) (ex : List Addr) (hk : ∀ b o, b ∉ ex → h.get? b = some o → h'.get? b = some o) (hx : ∀ b ∈ ex, F b = none ∧ σ b = none) : SimG W F σ h' := by
  refine ⟨g.base, fun a o e => hk a o (fun m => ?_) (g.fz a o e), fun a x e => ⟨(g.st a x e).1, (g.st a x e).2.mono (.refl _) fun o ho => hk a o (fun m => ?_) ho⟩⟩
  · rw [(hx a m).1] at e; cases e
  · rw [(hx a m).2] at e; cases e
/-- the heap alone has changed, and that off the store and off what is frozen -/
theorem PostG.heap {own : List Addr} {W : Wd} {F : Fz} {σ : St} {s : Shared} {h' : Heap} {tk : Nat} (g : SimG W F σ s.heap) (ex : List Addr) (hk : ∀ b o, b ∉ ex → s.heap.get? b = some o → h'.get? b = some o)
    (hx : ∀ b ∈ ex, F b = none ∧ σ b = none) (ho : ∀ b ∈ ex, b ∈ own ∨ s.heap.get? b = none) : PostG own W F σ s F σ { s with heap := h', toks := tk } := by
  refine ⟨.refl _, g.heap ex hk hx, fun b o e _ hn => hk b o (fun m => ?_) e, fun _ h => .inl h, fun _ h => .inl h, _, _, rfl⟩
  rcases ho b m with z | z
  · exact hn z
  · rw [z] at e; cases e

/-! Places of local names. -/
inductive Pl where
  | d (L : Addr) (x : Str)
  | c (a : Addr)
abbrev Pl.addr : Pl → Addr
  | .d L _ => L
  | .c a => a
def Pl.Ok (F : Fz) (h : Heap) : Pl → Option V → Prop
  | .d L x, o => ∃ m, h.Ns L m ∧ ∀ v, o = some v → ∃ u, m x = some u ∧ R F v u
  | .c a, o => ∃ u, h.IsCell a u ∧ ∀ v, o = some v → ∃ u', u = some u' ∧ R F v u'
theorem Pl.Ok.mono {F F' : Fz} {h h' : Heap} {p : Pl} {o : Option V} (k : p.Ok F h o) (hF : F.Le F') (hh : ∀ ob, h.get? p.addr = some ob → h'.get? p.addr = some ob) : p.Ok F' h' o := by
  cases p with
  | d L x => obtain ⟨m, n, r⟩ := k; exact ⟨m, n.at' hh, fun v e => let ⟨u, a, b⟩ := r v e; ⟨u, a, b.mono hF⟩⟩
  | c a => obtain ⟨u, ⟨ob, e, c⟩, r⟩ := k; exact ⟨u, ⟨ob, hh _ e, c⟩, fun v e => let ⟨u, a, b⟩ := r v e; ⟨u, a, b.mono hF⟩⟩
theorem Pl.Ok.there {F : Fz} {h : Heap} {p : Pl} {o : Option V} (k : p.Ok F h o) : ∃ ob, h.get? p.addr = some ob := by
  cases p with
  | d L x => obtain ⟨m, ⟨o, _, _, e, _⟩, r⟩ := k; exact ⟨o, e⟩
  | c a => obtain ⟨u, ⟨ob, e, c⟩, r⟩ := k; exact ⟨ob, e⟩

structure S where
  σ : St
  ρ : Nat → Option V
def S.put (st : S) (a : Addr) (x : AO) : S := { st with σ := fun b => if b = a then some x else st.σ b }
def S.del (st : S) (a : Addr) : S := { st with σ := fun b => if b = a then none else st.σ b }
def S.set (st : S) (i : Nat) (v : V) : S := { st with ρ := fun j => if j = i then some v else st.ρ j }

structure Cx where
  W : Wd
  A : Around
  env : Env
  pl : List Pl
  lev : Nat
abbrev Cx.own (C : Cx) : List Addr := C.pl.map Pl.addr

structure OkA (A : Around) (j : Nat) : Prop where
  handled : A.handled = none
  depth : A.depth + j < recursionLimit
  units : A.units + 8 * j + 100 < cLine

structure Sim (C : Cx) (F : Fz) (st : S) (h : Heap) : Prop where
  g : SimG C.W F st.σ h
  loc : ∀ (i : Nat) (p : Pl), C.pl[i]? = some p → p.Ok F h (st.ρ i)
  own : ∀ p ∈ C.pl, F p.addr = none ∧ st.σ p.addr = none
  ok : OkA C.A C.lev
  fn : C.env.scope.kind = .function
  nodup : C.pl.Nodup

structure Post (C : Cx) (F : Fz) (st : S) (s : Shared) (F' : Fz) (st' : S) (s' : Shared) : Prop where
  p : PostG C.own C.W F st.σ s F' st'.σ s'
  sim : Sim C F' st' s'.heap
theorem Post.refl {C : Cx} {F : Fz} {st : S} {s : Shared} (k : Sim C F st s.heap) : Post C F st s F st s := ⟨.refl k.g, k⟩
theorem Post.trans {C : Cx} {F F₁ F₂ : Fz} {σ σ₁ σ₂ : S} {s s₁ s₂ : Shared} (p : Post C F σ s F₁ σ₁ s₁) (q : Post C F₁ σ₁ s₁ F₂ σ₂ s₂) : Post C F σ s F₂ σ₂ s₂ := ⟨p.p.trans q.p, q.sim⟩
theorem Post.ext {C : Cx} {F F₁ : Fz} {σ σ₁ : S} {s s₁ : Shared} (p : Post C F σ s F₁ σ₁ s₁) : F.Le F₁ := p.p.ext

theorem Sim.there {C : Cx} {F : Fz} {st : S} {h : Heap} (k : Sim C F st h) : ∀ b ∈ C.own, ∃ o, h.get? b = some o := fun b m => by
  obtain ⟨q, hq, rfl⟩ := List.mem_map.mp m
  obtain ⟨i, e⟩ := List.getElem?_of_mem hq
  exact (k.loc i q e).there
/-- what leaves a frame's names alone (a call, an object made): locals stand -/
theorem Post.ofG {C : Cx} {F F₁ : Fz} {st : S} {σ₁ : St} {s s₁ : Shared} (k : Sim C F st s.heap) (p : PostG [] C.W F st.σ s F₁ σ₁ s₁) : Post C F st s F₁ ⟨σ₁, st.ρ⟩ s₁ := by
  refine ⟨p.weaken k.there, p.simg, fun i q e => ?_, fun q hq => ?_, k.ok, k.fn, k.nodup⟩
  · have hm := List.mem_of_getElem? e
    exact (k.loc i q e).mono p.ext fun ob h => p.keep _ _ h (k.own q hm).2 (by simp)
  · obtain ⟨ob, h⟩ := k.there q.addr (List.mem_map_of_mem hq)
    have o := k.own q hq
    constructor
    · cases z : F₁ q.addr with
      | none => rfl
      | some y =>
        rcases p.freshF _ (by rw [z]; simp) with y | y | y
        · exact absurd o.1 y
        · exact absurd o.2 y
        · rw [y.1] at h; cases h
    · show σ₁ q.addr = none
      cases z : σ₁ q.addr with
      | none => rfl
      | some y =>
        rcases p.freshS _ (by rw [z]; simp) with y | y
        · exact absurd o.2 y
        · rw [y.1] at h; cases h
/-- the heap alone has changed, off store, frozen part and names -/
theorem Sim.heap {C : Cx} {F : Fz} {st : S} {h h' : Heap} (k : Sim C F st h) (ex : List Addr) (hk : ∀ b o, b ∉ ex → h.get? b = some o → h'.get? b = some o) (hx : ∀ b ∈ ex, F b = none ∧ st.σ b = none) (ho : ∀ b ∈ ex, b ∉ C.own) : Sim C F st h' :=
  ⟨k.g.heap ex hk hx, fun i q e => (k.loc i q e).mono (.refl _) fun ob h => hk _ _ (fun m => ho _ m (List.mem_map_of_mem (List.mem_of_getElem? e))) h, k.own, k.ok, k.fn, k.nodup⟩
theorem Sim.grown {C : Cx} {F : Fz} {st : S} {s : Shared} (k : Sim C F st s.heap) {h' : Heap} {tk : Nat} (hk : ∀ b o, s.heap.get? b = some o → h'.get? b = some o) : Post C F st s F st { s with heap := h', toks := tk } :=
  ⟨.heap k.g [] (fun b o _ e => hk b o e) (fun _ m => nomatch m) (fun _ m => nomatch m), k.heap [] (fun b o _ e => hk b o e) (fun _ m => nomatch m) (fun _ m => nomatch m)⟩

/-- a tree does what a transformer says -/
def Imp {X α : Type} (C : Cx) (F₀ : Fz) (Rel : Fz → X → α → Prop) (t : Sem α) (T : (X → S → Prop) → S → Prop) : Prop :=
  ∀ (E : Value → Shared → Prop) (Q : X → S → Prop) (st : S) (F : Fz) (s : Shared), F₀.Le F → Sim C F st s.heap → T Q st →
    wpAny C.W.M C.A t (fun v s' => ∃ F' x st', Post C F st s F' st' s' ∧ Rel F' x v ∧ Q x st') E s

abbrev F0 : Fz := fun _ => none
theorem F0.le (F : Fz) : F0.Le F := fun _ _ e => nomatch e
abbrev RB : Fz → Bool → Bool → Prop := fun _ x v => x = v
abbrev RU : Fz → Unit → Unit → Prop := fun _ _ _ => True
inductive Fl where
  | next | brk | cont | ret (v : V)
inductive RF (F : Fz) : Fl → Flow → Prop
  | next : RF F .next .next
  | brk : RF F .brk .brk
  | cont : RF F .cont .cont
  | ret {x : V} {v : Value} : R F x v → RF F (.ret x) (.ret v)
abbrev Ev (C : Cx) (e : Expr) (T : (V → S → Prop) → S → Prop) : Prop := Imp C F0 R (eval e C.env) T
abbrev EvT (C : Cx) (e : Expr) (T : (Bool → S → Prop) → S → Prop) : Prop := Imp C F0 RB (isTrue e C.env (eval e C.env)) T
abbrev Ex (C : Cx) (e : Stmt) (T : (Fl → S → Prop) → S → Prop) : Prop := Imp C F0 RF (exec e C.env) T
abbrev Exs (C : Cx) (e : List Stmt) (T : (Fl → S → Prop) → S → Prop) : Prop := Imp C F0 RF (execs e C.env) T

/-- one step and then another, at the level of wp -/
theorem Imp.then {X α : Type} {C : Cx} {F₀ : Fz} {Rel : Fz → X → α → Prop} {t : Sem α} {T : (X → S → Prop) → S → Prop} (h : Imp C F₀ Rel t T)
    {E : Value → Shared → Prop} {Q : X → S → Prop} {st : S} {F : Fz} {s : Shared} (hF : F₀.Le F) (k : Sim C F st s.heap) (hT : T Q st) {Z : α → Shared → Prop}
    (next : ∀ F' x st' v s', Post C F st s F' st' s' → Rel F' x v → Q x st' → Z v s') : wpAny C.W.M C.A t Z E s :=
  wpAny_mono (h E Q st F s hF k hT) (fun _ _ ⟨F', x, st', p, r, q⟩ => next F' x st' _ _ p r q) fun _ _ e => e

end Mine

namespace Mine
open PySem PySem.W PyProof.Rows PySem.Calls

variable {C : Cx}

/-! ### ways to go on -/
theorem Imp.pureV {C : Cx} {F₀ : Fz} {v : Value} {x : V} (r : R F₀ x v) : Imp C F₀ R (pure v) (fun Q st => Q x st) :=
  fun _ _ st F _ hF k h => wpAny_pure ⟨F, x, st, .refl k, r.mono hF, h⟩
theorem Imp.weakenF {X α : Type} {F₀ F₁ : Fz} {Rel : Fz → X → α → Prop} {t : Sem α} {T : (X → S → Prop) → S → Prop} (h : Imp C F₀ Rel t T) (hF : F₀.Le F₁) : Imp C F₁ Rel t T :=
  fun E Q st F s hF' k hT => h E Q st F s (hF.trans hF') k hT

/-- tokens alone have gone on -/
theorem Sim.toks {C : Cx} {F : Fz} {st : S} {s : Shared} (k : Sim C F st s.heap) (n : Nat) : Post C F st s F st { s with toks := n } :=
  ⟨{ (PostG.refl (own := C.own) k.g) with same := ⟨_, _, rfl⟩ }, k⟩

/-! ### names -/
abbrev locW (i : Nat) (Q : V → S → Prop) (st : S) : Prop := ∃ v, st.ρ i = some v ∧ Q v st

theorem ev_local {x : Str} {pos : Pos} {i : Nat} (hp : C.pl[i]? = some (.d C.env.locals x)) (hl : C.env.kindOf x = some .local) (hd : (x == ("__debug__" : Str)) = false) : Ev C (.Name x pos) (locW i) := by
  intro E Q st F s _ k ⟨v, hv, q⟩
  obtain ⟨m, n, r⟩ := k.loc i _ hp
  obtain ⟨u, hu, hr⟩ := r v hv
  exact wpAny_Name (wpAny_loadName_local k.fn hl n hu ⟨F, v, st, .refl k, hr, q⟩) hd
theorem ev_cell {x : Str} {pos : Pos} {i : Nat} {c : Addr} (hc : C.env.cells.lookup x = some c) (hp : C.pl[i]? = some (.c c)) (hl : C.env.kindOf x = some .cell) (hd : (x == ("__debug__" : Str)) = false) : Ev C (.Name x pos) (locW i) := by
  intro E Q st F s _ k ⟨v, hv, q⟩
  obtain ⟨u, n, r⟩ := k.loc i _ hp
  obtain ⟨u', rfl, hr⟩ := r v hv
  exact wpAny_Name (wpAny_loadName_cell k.fn hl hc n ⟨F, v, st, .refl k, hr, q⟩) hd
theorem ev_free {x : Str} {pos : Pos} {i : Nat} {c : Addr} (hc : C.env.cells.lookup x = some c) (hp : C.pl[i]? = some (.c c)) (hl : C.env.kindOf x = some .free) (hd : (x == ("__debug__" : Str)) = false) (hn : (x == ("__classdict__" : Str)) = false) : Ev C (.Name x pos) (locW i) := by
  intro E Q st F s _ k ⟨v, hv, q⟩
  obtain ⟨u, n, r⟩ := k.loc i _ hp
  obtain ⟨u', rfl, hr⟩ := r v hv
  exact wpAny_Name (wpAny_loadName_free k.fn hl hc n ⟨F, v, st, .refl k, hr, q⟩ hn) hd

/-- a name of the text's top, or of the builtins -/
def GlobIs (h : Heap) (x : Str) (v : Value) : Prop := ∃ mg mb, h.Ns mainGlobals mg ∧ h.Ns builtinsNs mb ∧ (mg x = some v ∨ (mg x = none ∧ mb x = some v))
theorem SimG.up {W : Wd} {F : Fz} {σ : St} {h : Heap} (g : SimG W F σ h) : ∀ b o, W.h₀.get? b = some o → h.get? b = some o := fun b o e => g.fz b o (g.base b o e)
theorem wpAny_loadGlobal {M : Model} {A : Around} {E : Value → Shared → Prop} {s : Shared} {env : Env} {x : Str} {v : Value} {Q : Value → Shared → Prop} (hg : GlobIs s.heap x v) (eg : env.globals = mainGlobals) (eb : env.builtins = builtinsNs) (h : Q v s) : wpAny M A (loadGlobal env x) Q E s := by
  obtain ⟨mg, mb, n, nb, e⟩ := hg
  unfold loadGlobal
  refine wpAny_bind ?_
  rw [eg]
  refine wpAny_nsGet n ?_
  rcases e with e | ⟨e, e'⟩
  · rw [e]; exact wpAny_pure h
  · rw [e]
    refine wpAny_bind ?_
    rw [eb]
    refine wpAny_nsGet nb ?_
    rw [e']
    exact wpAny_pure h
theorem ev_global {x : Str} {pos : Pos} {v : Value} {y : V} (hy : R F0 y v) (hg : GlobIs C.W.h₀ x v) (eg : C.env.globals = mainGlobals) (eb : C.env.builtins = builtinsNs) (hl : C.env.kindOf x = some .globalImplicit) (hd : (x == ("__debug__" : Str)) = false) :
    Ev C (.Name x pos) (fun Q st => Q y st) := by
  intro E Q st F s _ k q
  refine Name_function_global k.fn hl (wpAny_loadGlobal (v := v) ?_ eg eb ⟨F, y, st, .refl k, hy.mono (F0.le F), q⟩) hd
  obtain ⟨mg, mb, a, b, e⟩ := hg
  exact ⟨mg, mb, a.keeps k.g.up, b.keeps k.g.up, e⟩

/-! ### constants -/
theorem ev_int {i : Int} {k : _} {pos : Pos} : Ev C (.Constant (.int i) k pos) (fun Q st => Q (.int i) st) := fun _ _ st F _ _ k h =>
  wpAny_mkInt ⟨F, .int i, st, k.toks _, .int _ _, h⟩
theorem ev_bool {i : Bool} {k : _} {pos : Pos} : Ev C (.Constant (.bool i) k pos) (fun Q st => Q (.bool i) st) := fun _ _ st F _ _ k h =>
  wpAny_pure ⟨F, .bool i, st, .refl k, .bool _, h⟩
theorem ev_none {k : _} {pos : Pos} : Ev C (.Constant .none k pos) (fun Q st => Q .none st) := fun _ _ st F _ _ k h =>
  wpAny_pure ⟨F, .none, st, .refl k, .none, h⟩
theorem ev_bytes {b : List UInt8} {xs : List Int} {k : _} {pos : Pos} (hb : b.map (fun c => (c.toNat : Int)) = xs) : Ev C (.Constant (.bytes b) k pos) (fun Q st => Q (.bytes xs) st) := fun _ _ st F _ _ k h =>
  wpAny_mkTextBytes ⟨F, .bytes xs, st, k.toks _, .bytes _ (by simpa [BytesAre] using hb), h⟩

/-! ### composite expressions -/
theorem ev_bin {l r : Expr} {op : Operator} {pos : Pos} {T₁ T₂ : (V → S → Prop) → S → Prop} {B : V → V → (V → S → Prop) → S → Prop} (h₁ : Ev C l T₁) (h₂ : Ev C r T₂)
    (h : ∀ F x y a b, R F x a → R F y b → Imp C F R (binaryOp op a b) (B x y)) : Ev C (.BinOp l op r pos) (fun Q => T₁ fun x => T₂ fun y => B x y Q) := by
  intro E Q st F s hF k q
  refine wpAny_BinOp (h₁.then hF k q fun F₁ x st₁ a s₁ p₁ ra q₁ => h₂.then (F0.le _) p₁.sim q₁ fun F₂ y st₂ b s₂ p₂ rb q₂ => ?_)
  exact (h F₂ x y a b (ra.mono p₂.ext) rb).then (.refl _) p₂.sim q₂ fun F₃ z st₃ v s₃ p₃ rz q₃ => ⟨F₃, z, st₃, p₁.trans (p₂.trans p₃), rz, q₃⟩
theorem ev_un {x : Expr} {op : UnaryOp} {pos : Pos} {T : (V → S → Prop) → S → Prop} {B : V → (V → S → Prop) → S → Prop} (h₁ : Ev C x T)
    (h : ∀ F x a, R F x a → Imp C F R (unaryOp op a) (B x)) : Ev C (.UnaryOp op x pos) (fun Q => T fun x => B x Q) := by
  intro E Q st F s hF k q
  refine wpAny_UnaryOp (h₁.then hF k q fun F₁ x st₁ a s₁ p₁ ra q₁ => ?_)
  exact (h F₁ x a ra).then (.refl _) p₁.sim q₁ fun F₃ z st₃ v s₃ p₃ rz q₃ => ⟨F₃, z, st₃, p₁.trans p₃, rz, q₃⟩
theorem ev_cmp {l r : Expr} {op : CmpOp} {pos : Pos} {T₁ T₂ : (V → S → Prop) → S → Prop} {B : V → V → (Bool → S → Prop) → S → Prop} (h₁ : Ev C l T₁) (h₂ : Ev C r T₂)
    (h : ∀ F x y a b, R F x a → R F y b → Imp C F (fun _ z v => v = Value.bool z) (compareOp op a b) (B x y)) (hm : behindInMarks op r = false) : Ev C (.Compare l [op] [r] pos) (fun Q => T₁ fun x => T₂ fun y => B x y fun b => Q (.bool b)) := by
  intro E Q st F s hF k q
  refine wpAny_Compare1 (h₁.then hF k q fun F₁ x st₁ a s₁ p₁ ra q₁ => h₂.then (F0.le _) p₁.sim q₁ fun F₂ y st₂ b s₂ p₂ rb q₂ => ?_) hm
  exact (h F₂ x y a b (ra.mono p₂.ext) rb).then (.refl _) p₂.sim q₂ fun F₃ z st₃ v s₃ p₃ rz q₃ => ⟨F₃, .bool z, st₃, p₁.trans (p₂.trans p₃), by rw [rz]; exact .bool _, q₃⟩
theorem evT_cmp {l r : Expr} {op : CmpOp} {pos : Pos} {T₁ T₂ : (V → S → Prop) → S → Prop} {B : V → V → (Bool → S → Prop) → S → Prop} (h₁ : Ev C l T₁) (h₂ : Ev C r T₂)
    (h : ∀ F x y a b, R F x a → R F y b → Imp C F (fun _ z v => v = Value.bool z) (compareOp op a b) (B x y)) (hm : behindInMarks op r = false) : EvT C (.Compare l [op] [r] pos) (fun Q => T₁ fun x => T₂ fun y => B x y Q) := by
  intro E Q st F s hF k q
  refine wpAny_isTrue_Compare1 (h₁.then hF k q fun F₁ x st₁ a s₁ p₁ ra q₁ => h₂.then (F0.le _) p₁.sim q₁ fun F₂ y st₂ b s₂ p₂ rb q₂ => ?_) hm
  exact (h F₂ x y a b (ra.mono p₂.ext) rb).then (.refl _) p₂.sim q₂ fun F₃ z st₃ v s₃ p₃ rz q₃ => by
    rw [rz]; exact wpAny_truthy_bool ⟨F₃, z, st₃, p₁.trans (p₂.trans p₃), rfl, q₃⟩
/-- two links in a chain: a op b op' c -/
theorem evT_cmp2 {l m r : Expr} {op op' : CmpOp} {pos : Pos} {T₁ T₂ T₃ : (V → S → Prop) → S → Prop} {B B' : V → V → (Bool → S → Prop) → S → Prop} (h₁ : Ev C l T₁) (h₂ : Ev C m T₂) (h₃ : Ev C r T₃)
    (h : ∀ F x y a b, R F x a → R F y b → Imp C F (fun _ z v => v = Value.bool z) (compareOp op a b) (B x y)) (h' : ∀ F x y a b, R F x a → R F y b → Imp C F (fun _ z v => v = Value.bool z) (compareOp op' a b) (B' x y)) (hm : behindInMarks op' r = false) :
    EvT C (.Compare l [op, op'] [m, r] pos) (fun Q => T₁ fun x => T₂ fun y => B x y fun z => if z then T₃ fun u => B' y u Q else Q false) := by
  intro E Q st F s hF k q
  show wpAny _ _ (isTrue (.Compare l [op, op'] [m, r] pos) C.env _) _ _ _
  unfold PySem.isTrue
  refine wpAny_bind (h₁.then hF k q fun F₁ x st₁ a s₁ p₁ ra q₁ => ?_)
  simp only [evalEach, markedEach, markedBehindIn, hm, testChain]
  refine wpAny_bind (wpAny_holding (h₂.then (F0.le _) p₁.sim q₁ fun F₂ y st₂ b s₂ p₂ rb q₂ => wpAny_bind (wpAny_standAt (wpAny_bind (wpAny_holding ?_)))))
  refine (h F₂ x y a b (ra.mono p₂.ext) rb).then (.refl _) p₂.sim q₂ fun F₃ z st₃ v s₃ p₃ rz q₃ => ?_
  rw [rz]
  refine wpAny_bind (wpAny_release (wpAny_bind (wpAny_holding (wpAny_truthy_bool ?_))))
  cases z with
  | false => exact wpAny_pure ⟨F₃, false, st₃, p₁.trans (p₂.trans p₃), rfl, q₃⟩
  | true =>
    refine wpAny_bind (wpAny_holding (h₃.then (F0.le _) p₃.sim q₃ fun F₄ u st₄ c s₄ p₄ rc q₄ => wpAny_bind (wpAny_standAt (wpAny_bind (wpAny_operate' ?_)))))
    refine (h' F₄ y u b c (rb.mono (p₃.ext.trans p₄.ext)) rc).then (.refl _) p₄.sim q₄ fun F₅ z st₅ v s₅ p₅ rz q₅ => ?_
    rw [rz]
    exact wpAny_holding (wpAny_truthy_bool ⟨F₅, z, st₅, p₁.trans (p₂.trans (p₃.trans (p₄.trans p₅))), rfl, q₅⟩)
theorem evT_not {x : Expr} {pos : Pos} {T : (Bool → S → Prop) → S → Prop} (h : EvT C x T) : EvT C (.UnaryOp .Not x pos) (fun Q => T fun b => Q (!b)) := by
  intro E Q st F s hF k q
  exact wpAny_isTrue_Not (h.then hF k q fun F₁ x st₁ a s₁ p₁ ra q₁ => ⟨F₁, !x, st₁, p₁, by rw [ra], q₁⟩)
theorem evT_and {x y : Expr} {pos : Pos} {T₁ T₂ : (Bool → S → Prop) → S → Prop} (h₁ : EvT C x T₁) (h₂ : EvT C y T₂) : EvT C (.BoolOp .And [x, y] pos) (fun Q => T₁ fun b => if b then T₂ Q else Q false) := by
  intro E Q st F s hF k q
  refine wpAny_isTrue_BoolOp (wpAny_allTrue_And_cons (h₁.then hF k q fun F₁ b st₁ a s₁ p₁ ra q₁ => ?_))
  subst ra
  cases b with
  | false => exact ⟨F₁, false, st₁, p₁, rfl, q₁⟩
  | true => exact wpAny_allTrue_And_cons (h₂.then (F0.le _) p₁.sim q₁ fun F₂ b st₂ a s₂ p₂ ra q₂ => by
      subst ra
      cases b with
      | false => exact ⟨F₂, false, st₂, p₁.trans p₂, rfl, q₂⟩
      | true => exact wpAny_allTrue_And_nil ⟨F₂, true, st₂, p₁.trans p₂, rfl, q₂⟩)
theorem evT_or {x y : Expr} {pos : Pos} {T₁ T₂ : (Bool → S → Prop) → S → Prop} (h₁ : EvT C x T₁) (h₂ : EvT C y T₂) : EvT C (.BoolOp .Or [x, y] pos) (fun Q => T₁ fun b => if b then Q true else T₂ Q) := by
  intro E Q st F s hF k q
  refine wpAny_isTrue_BoolOp (wpAny_allTrue_Or_cons (h₁.then hF k q fun F₁ b st₁ a s₁ p₁ ra q₁ => ?_))
  subst ra
  cases b with
  | true => exact ⟨F₁, true, st₁, p₁, rfl, q₁⟩
  | false => exact wpAny_allTrue_Or_cons (h₂.then (F0.le _) p₁.sim q₁ fun F₂ b st₂ a s₂ p₂ ra q₂ => by
      subst ra
      cases b with
      | true => exact ⟨F₂, true, st₂, p₁.trans p₂, rfl, q₂⟩
      | false => exact wpAny_allTrue_Or_nil ⟨F₂, false, st₂, p₁.trans p₂, rfl, q₂⟩)
theorem ev_ite {t b o : Expr} {pos : Pos} {T : (Bool → S → Prop) → S → Prop} {T₁ T₂ : (V → S → Prop) → S → Prop} (h : EvT C t T) (h₁ : Ev C b T₁) (h₂ : Ev C o T₂) : Ev C (.IfExp t b o pos) (fun Q => T fun z => if z then T₁ Q else T₂ Q) := by
  intro E Q st F s hF k q
  refine wpAny_IfExp (h.then hF k q fun F₁ z st₁ a s₁ p₁ ra q₁ => ?_)
  subst ra
  cases z with
  | true => exact h₁.then (F0.le _) p₁.sim q₁ fun F₂ y st₂ b s₂ p₂ rb q₂ => ⟨F₂, y, st₂, p₁.trans p₂, rb, q₂⟩
  | false => exact h₂.then (F0.le _) p₁.sim q₁ fun F₂ y st₂ b s₂ p₂ rb q₂ => ⟨F₂, y, st₂, p₁.trans p₂, rb, q₂⟩

/-! ### statements -/
theorem exs_nil : Exs C [] (fun Q st => Q .next st) := fun _ _ st F _ _ k q => wpAny_execs_nil ⟨F, .next, st, .refl k, .next, q⟩
abbrev seqW (T₁ T₂ : (Fl → S → Prop) → S → Prop) (Q : Fl → S → Prop) : S → Prop := T₁ fun f st => match f with | .next => T₂ Q st | f => Q f st
theorem exs_cons {st : Stmt} {r : List Stmt} {T₁ T₂ : (Fl → S → Prop) → S → Prop} (h₁ : Ex C st T₁) (h₂ : Exs C r T₂) : Exs C (st :: r) (seqW T₁ T₂) := by
  intro E Q st F s hF k q
  refine wpAny_execs_cons (h₁.then hF k q fun F₁ f st₁ a s₁ p₁ ra q₁ => ?_)
  cases ra with
  | next => exact h₂.then (F0.le _) p₁.sim q₁ fun F₂ y st₂ b s₂ p₂ rb q₂ => ⟨F₂, y, st₂, p₁.trans p₂, rb, q₂⟩
  | brk => exact ⟨F₁, _, st₁, p₁, .brk, q₁⟩
  | cont => exact ⟨F₁, _, st₁, p₁, .cont, q₁⟩
  | ret r => exact ⟨F₁, _, st₁, p₁, .ret r, q₁⟩
theorem ex_if {t : Expr} {b o : List Stmt} {pos : Pos} {T : (Bool → S → Prop) → S → Prop} {T₁ T₂ : (Fl → S → Prop) → S → Prop} (h : EvT C t T) (h₁ : Exs C b T₁) (h₂ : Exs C o T₂) : Ex C (.If t b o pos) (fun Q => T fun z => if z then T₁ Q else T₂ Q) := by
  intro E Q st F s hF k q
  refine wpAny_If (h.then hF k q fun F₁ z st₁ a s₁ p₁ ra q₁ => ?_)
  subst ra
  cases z with
  | true => exact h₁.then (F0.le _) p₁.sim q₁ fun F₂ y st₂ b s₂ p₂ rb q₂ => ⟨F₂, y, st₂, p₁.trans p₂, rb, q₂⟩
  | false => exact h₂.then (F0.le _) p₁.sim q₁ fun F₂ y st₂ b s₂ p₂ rb q₂ => ⟨F₂, y, st₂, p₁.trans p₂, rb, q₂⟩
theorem ex_ret {e : Expr} {pos : Pos} {T : (V → S → Prop) → S → Prop} (h : Ev C e T) : Ex C (.Return (some e) pos) (fun Q => T fun v => Q (.ret v)) := by
  intro E Q st F s hF k q
  exact wpAny_Return_some (h.then hF k q fun F₁ z st₁ a s₁ p₁ ra q₁ => ⟨F₁, .ret z, st₁, p₁, .ret ra, q₁⟩)
theorem ex_break {pos : Pos} : Ex C (.Break pos) (fun Q st => Q .brk st) := fun _ _ st F _ _ k q => wpAny_Break ⟨F, .brk, st, .refl k, .brk, q⟩
theorem ex_continue {pos : Pos} : Ex C (.Continue pos) (fun Q st => Q .cont st) := fun _ _ st F _ _ k q => wpAny_Continue ⟨F, .cont, st, .refl k, .cont, q⟩
theorem ex_pass {pos : Pos} : Ex C (.Pass pos) (fun Q st => Q .next st) := fun _ _ st F _ _ k q => wpAny_Pass ⟨F, .next, st, .refl k, .next, q⟩
theorem ex_expr {e : Expr} {pos : Pos} {T : (V → S → Prop) → S → Prop} (h : Ev C e T) (hi : interactive C.env = false := by rfl) (hs : swapsWith e none pos.line C.env = pure false := by rfl) : Ex C (.Expr e pos) (fun Q => T fun _ => Q .next) := by
  intro E Q st F s hF k q
  exact wpAny_Expr_any (h.then hF k q fun F₁ z st₁ a s₁ p₁ ra q₁ => ⟨F₁, .next, st₁, p₁, .next, q₁⟩) hi hs

end Mine

namespace Mine
open PySem PySem.W PyProof.Rows PySem.Calls

variable {C : Cx}

/-! ### names stored -/
theorem Ns.uniq {h : Heap} {L : Addr} {m m' : Str → Option Value} (a : h.Ns L m) (b : h.Ns L m') : m = m' := by
  obtain ⟨o, es, ep, e, d, _, f⟩ := a
  obtain ⟨o', es', ep', e', d', _, f'⟩ := b
  rw [e] at e'; cases e'
  rw [d] at d'; cases d'
  funext x
  rw [← f x, ← f' x]
theorem Ns.notCell {h : Heap} {L : Addr} {m : Str → Option Value} {u : Option Value} (a : h.Ns L m) (b : h.IsCell L u) : False := by
  obtain ⟨o, es, ep, e, d, _, f⟩ := a
  obtain ⟨o', e', d'⟩ := b
  rw [e] at e'; cases e'
  rw [d] at d'; cases d'
theorem nodup_at {α : Type} {l : List α} (h : l.Nodup) {i j : Nat} {x : α} (hi : l[i]? = some x) (hj : l[j]? = some x) : i = j := by
  obtain ⟨li, ei⟩ := List.getElem?_eq_some_iff.mp hi
  obtain ⟨lj, ej⟩ := List.getElem?_eq_some_iff.mp hj
  rcases Nat.lt_trichotomy i j with z | z | z
  · exact absurd (ei.trans ej.symm) (List.pairwise_iff_getElem.mp h i j li lj z)
  · exact z
  · exact absurd (ej.trans ei.symm) (List.pairwise_iff_getElem.mp h j i lj li z)

theorem Sim.storeD {F : Fz} {st : S} {s : Shared} (k : Sim C F st s.heap) {i : Nat} {L : Addr} {x : Str} {v : V} {a : Value} (hp : C.pl[i]? = some (.d L x)) (r : R F v a) {m : Str → Option Value} {h' : Heap} {tk : Nat}
    (hn : s.heap.Ns L m) (hn' : h'.Ns L (fun y => if y = x then some a else m y)) (hs : Heap.SameBut L s.heap h') : Post C F st s F (st.set i v) { s with heap := h', toks := tk } := by
  have hm := List.mem_of_getElem? hp
  have o := k.own _ hm
  have hk : ∀ b ob, b ∉ [L] → s.heap.get? b = some ob → h'.get? b = some ob := fun b ob hb e => (hs.2 b (by simpa using hb)).trans e
  have hx : ∀ b ∈ [L], F b = none ∧ st.σ b = none := fun b hb => by rw [List.mem_singleton.mp hb]; exact o
  refine ⟨.heap k.g [L] hk hx fun b hb => .inl (by rw [List.mem_singleton.mp hb]; exact List.mem_map_of_mem hm), k.g.heap [L] hk hx, fun j q e => ?_, k.own, k.ok, k.fn, k.nodup⟩
  show q.Ok F h' (if j = i then some v else st.ρ j)
  by_cases hj : j = i
  · subst hj
    rw [hp] at e; cases e
    rw [if_pos rfl]
    exact ⟨_, hn', fun w e => ⟨a, if_pos rfl, by cases e; exact r⟩⟩
  · rw [if_neg hj]
    have z := k.loc j q e
    cases q with
    | c b =>
      obtain ⟨u, hc, hr⟩ := z
      have hb : b ≠ L := fun e => Ns.notCell hn (e ▸ hc)
      exact ⟨u, hc.sameBut hs hb, hr⟩
    | d L' y =>
      by_cases hL : L' = L
      · subst hL
        obtain ⟨m', hn₂, hr⟩ := z
        have := Ns.uniq hn hn₂
        subst this
        have hy : y ≠ x := fun e' => hj (nodup_at k.nodup e (e' ▸ hp))
        exact ⟨_, hn', fun w e => let ⟨u, hu, hr⟩ := hr w e; ⟨u, by rw [if_neg hy]; exact hu, hr⟩⟩
      · exact z.mono (.refl _) fun ob e => (hs.2 _ hL).trans e
theorem Sim.storeC {F : Fz} {st : S} {s : Shared} (k : Sim C F st s.heap) {i : Nat} {c : Addr} {v : V} {a : Value} (hp : C.pl[i]? = some (.c c)) (r : R F v a) {u₀ : Option Value} {h' : Heap} {tk : Nat}
    (hn : s.heap.IsCell c u₀) (hn' : h'.IsCell c (some a)) (hs : Heap.SameBut c s.heap h') : Post C F st s F (st.set i v) { s with heap := h', toks := tk } := by
  have hm := List.mem_of_getElem? hp
  have o := k.own _ hm
  have hk : ∀ b ob, b ∉ [c] → s.heap.get? b = some ob → h'.get? b = some ob := fun b ob hb e => (hs.2 b (by simpa using hb)).trans e
  have hx : ∀ b ∈ [c], F b = none ∧ st.σ b = none := fun b hb => by rw [List.mem_singleton.mp hb]; exact o
  refine ⟨.heap k.g [c] hk hx fun b hb => .inl (by rw [List.mem_singleton.mp hb]; exact List.mem_map_of_mem hm), k.g.heap [c] hk hx, fun j q e => ?_, k.own, k.ok, k.fn, k.nodup⟩
  show q.Ok F h' (if j = i then some v else st.ρ j)
  by_cases hj : j = i
  · subst hj
    rw [hp] at e; cases e
    rw [if_pos rfl]
    exact ⟨_, hn', fun w e => ⟨a, rfl, by cases e; exact r⟩⟩
  · rw [if_neg hj]
    have z := k.loc j q e
    have hq : q.addr ≠ c := by
      cases q with
      | c b => exact fun e' => hj (nodup_at k.nodup e (by rw [show Pl.c b = Pl.c c from congrArg Pl.c e']; exact hp))
      | d L' y => intro e'; obtain ⟨m, hm, _⟩ := z; exact Ns.notCell hm ((show L' = c from e') ▸ hn)
    exact z.mono (.refl _) fun ob e => (hs.2 _ hq).trans e

/-- a target takes a value -/
abbrev AT := V → (S → Prop) → S → Prop
def Asg (C : Cx) (t : Expr) (T : AT) : Prop := ∀ F x v, R F x v → Imp C F RU (assign t C.env v) (fun Q => T x (Q ()))
abbrev setW (i : Nat) : AT := fun x K st => K (st.set i x)
theorem asg_local {x : Str} {pos : Pos} {i : Nat} (hp : C.pl[i]? = some (.d C.env.locals x)) (hl : C.env.kindOf x = some .local) : Asg C (.Name x pos) (setW i) := by
  intro F₀ y v r E Q st F s hF k q
  obtain ⟨m, n, _⟩ := k.loc i _ hp
  exact wpAny_assign_Name (wpAny_storeName_local hl n (fun h' hn hs => ⟨F, (), _, k.storeD hp (r.mono hF) n hn hs, trivial, q⟩) (by rw [k.fn]; rfl))
theorem asg_cell {x : Str} {pos : Pos} {i : Nat} {c : Addr} (hc : C.env.cells.lookup x = some c) (hp : C.pl[i]? = some (.c c)) (hl : C.env.kindOf x = some .cell) : Asg C (.Name x pos) (setW i) := by
  intro F₀ y v r E Q st F s hF k q
  obtain ⟨u, n, _⟩ := k.loc i _ hp
  exact wpAny_assign_Name (wpAny_storeName_cell k.fn hl hc n (fun h' hn hs => ⟨F, (), _, k.storeC (tk := s.toks) hp (r.mono hF) n hn hs, trivial, q⟩))

/-- names in a row -/
inductive AsgAll (C : Cx) : List Expr → List AT → Prop
  | nil : AsgAll C [] []
  | cons {e : Expr} {es : List Expr} {T : AT} {Ts : List AT} : isStarred e = false → Asg C e T → AsgAll C es Ts → AsgAll C (e :: es) (T :: Ts)
abbrev allW : List AT → List V → (S → Prop) → S → Prop
  | [], [], K, st => K st
  | T :: Ts, x :: xs, K, st => T x (allW Ts xs K) st
  | _, _, _, _ => False
theorem assignEach_cons {e : Expr} {es : List Expr} {env : Env} (h : isStarred e = false) : assignEach (e :: es) env = (false, assign e env) :: assignEach es env := by
  cases e <;> first | rfl | (simp [isStarred] at h)
theorem AsgAll.len {es : List Expr} {Ts : List AT} (h : AsgAll C es Ts) : (assignEach es C.env).length = Ts.length ∧ (assignEach es C.env).findIdx? (·.1) = none := by
  induction h with
  | nil => exact ⟨rfl, rfl⟩
  | cons hs _ _ ih => rw [assignEach_cons hs]; simp [ih.1, ih.2, List.findIdx?_cons]
theorem AsgAll.run {es : List Expr} {Ts : List AT} (h : AsgAll C es Ts) : ∀ {F : Fz} {xs : List V} {vs : List Value}, RAll F xs vs → Imp C F RU (assignInOrder ((assignEach es C.env).map (·.2)) vs) (fun Q => allW Ts xs (Q ())) := by
  induction h with
  | nil =>
    intro F₀ xs vs r E Q st F s hF k q
    cases r with
    | nil => exact wpAny_assignInOrder_none ⟨F, (), st, .refl k, trivial, q⟩
    | cons _ _ => exact q.elim
  | @cons e es T Ts hs ha _ ih =>
    intro F₀ xs vs r E Q st F s hF k q
    cases r with
    | nil => exact q.elim
    | @cons x v xs vs r rs =>
      rw [assignEach_cons hs]
      refine wpAny_assignInOrder_more ((ha F₀ x v r).then (Q := fun _ => allW Ts xs (Q ())) hF k q fun F₁ _ st₁ _ s₁ p₁ _ q₁ => ?_)
      exact (ih rs).then (hF.trans p₁.ext) p₁.sim q₁ fun F₂ _ st₂ _ s₂ p₂ _ q₂ => ⟨F₂, (), st₂, p₁.trans p₂, trivial, q₂⟩
abbrev tupW (Ts : List AT) : AT := fun x K st => ∃ xs, x = .tuple xs ∧ xs.length = Ts.length ∧ allW Ts xs K st
theorem IsTuple.of {h : Heap} {a : Addr} {vs : List Value} {n : Nat} (e : h.get? a = some (tupOf vs n)) : h.IsTuple a vs.toArray := ⟨_, e, rfl, n, rfl⟩
theorem asg_tuple {es : List Expr} {n : _} {pos : Pos} {Ts : List AT} (h : AsgAll C es Ts) : Asg C (.Tuple es n pos) (tupW Ts) := by
  rintro F₀ y v r E Q st F s hF k ⟨xs, rfl, hlen, q⟩
  cases r with
  | @tuple a vs n _ e rs =>
    have hl := h.len
    refine wpAny_assign_Tuple k.ok.handled (IsTuple.of (k.g.fz _ _ (hF _ _ e))) (by rw [hl.1, ← hlen, rs.length]; simp) hl.2 fun h' he => ?_
    have p₁ : Post C F st s F st { s with heap := h' } := k.grown (tk := s.toks) fun b o eb => he b o (Nat.ne_of_lt (Heap.lt_size eb)) eb
    exact (h.run rs).then (hF.trans p₁.ext) p₁.sim q fun F₂ _ st₂ _ s₂ p₂ _ q₂ => ⟨F₂, (), st₂, p₁.trans p₂, trivial, q₂⟩

/-! ### assignments -/
theorem ex_assign {t v : Expr} {pos : Pos} {T : (V → S → Prop) → S → Prop} {Ta : AT} (h : Ev C v T) (ha : Asg C t Ta) (hst : isStarred t = false := by rfl) (hs : swapsWithSole [t] v pos.line C.env = pure false := by rfl) (hw : swappedStores [t] v C.env = pure none := by rfl) :
    Ex C (.Assign [t] v pos) (fun Q => T fun x => Ta x (Q .next)) := by
  intro E Q st F s hF k q
  refine wpAny_Assign_stores (h.then hF k q fun F₁ x st₁ a s₁ p₁ ra q₁ => ?_) hs hw
  rw [assignEach_cons hst]
  exact (ha F₁ x a ra).then (Q := fun _ => Q .next) (.refl _) p₁.sim q₁ fun F₂ _ st₂ _ s₂ p₂ _ q₂ => ⟨F₂, .next, st₂, p₁.trans p₂, .next, q₂⟩

/-! ### while -/
def whileN (T : (Bool → S → Prop) → S → Prop) (B : (Fl → S → Prop) → S → Prop) (Q : Fl → S → Prop) : Nat → S → Prop
  | 0, _ => False
  | n + 1, st => T (fun b st₁ => if b then B (fun f st₂ => match f with | .next => whileN T B Q n st₂ | .cont => whileN T B Q n st₂ | .brk => Q .next st₂ | .ret v => Q (.ret v) st₂) st₁ else Q .next st₁) st
abbrev whileW (T : (Bool → S → Prop) → S → Prop) (B : (Fl → S → Prop) → S → Prop) (Q : Fl → S → Prop) (st : S) : Prop := ∃ n, whileN T B Q n st
theorem ex_while {t : Expr} {b : List Stmt} {pos : Pos} {T : (Bool → S → Prop) → S → Prop} {B : (Fl → S → Prop) → S → Prop} (ht : EvT C t T) (hb : Exs C b B) : Ex C (.While t b [] pos) (whileW T B) := by
  rintro E Q st F s hF k ⟨n, q⟩
  refine wpAny_While (codeAny_whileLoop (fun n s' => ∃ F' st', Post C F st s F' st' s' ∧ whileN T B Q n st') ?_ n ⟨F, st, .refl k, q⟩)
  rintro n s₁ ⟨F₁, st₁, p₁, q₁⟩
  cases n with
  | zero => exact q₁.elim
  | succ n =>
    refine ht.then (F0.le _) p₁.sim q₁ fun F₂ z st₂ a s₂ p₂ ra q₂ => ?_
    subst ra
    cases z with
    | false => exact wpAny_execs_nil ⟨F₂, .next, st₂, p₁.trans p₂, .next, q₂⟩
    | true =>
      refine hb.then (F0.le _) p₂.sim q₂ fun F₃ f st₃ a s₃ p₃ rf q₃ => ?_
      have p := p₁.trans (p₂.trans p₃)
      cases rf with
      | next => exact ⟨n, Nat.lt_succ_self _, F₃, st₃, p, q₃⟩
      | cont => exact ⟨n, Nat.lt_succ_self _, F₃, st₃, p, q₃⟩
      | brk => exact ⟨F₃, .next, st₃, p, .next, q₃⟩
      | ret r => exact ⟨F₃, _, st₃, p, .ret r, q₃⟩

/-! ### what may be gone through -/
def itemsOf : V → Option (List V)
  | .tuple xs => some xs
  | .list xs => some xs
  | .bytes xs => some (xs.map .int)
  | .range a b c => if Builtin.Range.small a b c = true then some ((List.range (Builtin.Range.rangeSize a b c).toNat).map fun (i : Nat) => V.int (a + (i : Int) * c)) else none
  | _ => none

/-- an iterator that is at hand, and what it will still give -/
structure Gives (C : Cx) (F : Fz) (I : Addr) (xs : List V) (h : Heap) (fp : List Addr) (P : Nat → Value → Prop) (Sx : Nat → Heap → Prop) : Prop where
  walks : Walks C.W.prog C.W.w C.A I fp [I] xs.length P Sx
  item : ∀ i v, P i v → ∃ x, xs[i]? = some x ∧ R F x v
  start : Sx 0 h
  foot : ∀ b ∈ fp, b = I ∨ ∃ o, F b = some o
  there : ∀ i h, Sx i h → ∃ o, h.get? I = some o
  quiet : ∀ t s (Q : Unit → Shared → Prop) (E : Value → Shared → Prop) i v, Sx i s.heap → Q () s → wpAny C.W.M C.A (letOwnedTupleGo t (.ref I) v) Q E s

theorem lot_quiet {M : Model} {A : Around} {I : Addr} {o : Obj} {n : String} {vs : Array Value} {t : Expr} {v : Value} {s : Shared} {Q : Unit → Shared → Prop} {E : Value → Shared → Prop} (ho : s.heap.get? I = some o) (hc : o.cls = .type n) (hd : o.data = .fields vs)
    (hn : (["enumerate", "zip", "dict_itemiterator", "dict_reverseitemiterator", "odict_iterator", "itertools.zip_longest", "itertools.pairwise"].contains n) = false) (h : Q () s) : wpAny M A (letOwnedTupleGo t (.ref I) v) Q E s := by
  unfold letOwnedTupleGo
  split
  · cases v <;> first
      | exact wpAny_pure h
      | (refine wpAny_bind (wpAny_load ho ?_); rw [hc, hd]; simp only [hn, Bool.false_and]; exact wpAny_pure h)
  · cases v <;> first
      | exact wpAny_pure h
      | (refine wpAny_bind (wpAny_load ho ?_); rw [hc, hd]; simp only [hn, Bool.false_and]; exact wpAny_pure h)
  · exact wpAny_pure h
end Mine

namespace Mine
open PySem PySem.W PyProof.Rows PySem.Calls

variable {C : Cx}

/-- a loop is under way: hidden objects of its own (its iterator, a list that grows) -/
structure LoopAt (C : Cx) (hid : List Addr) (F₀ : Fz) (σ₀ : St) (s₀ : Shared) (F : Fz) (st : S) (s : Shared) : Prop where
  p : PostG (hid ++ C.own) C.W F₀ σ₀ s₀ F st.σ s
  sim : Sim C F st s.heap
  off : ∀ b ∈ hid, F b = none ∧ st.σ b = none ∧ b ∉ C.own ∧ ∃ o, s.heap.get? b = some o

theorem LoopAt.step {hid : List Addr} {F₀ : Fz} {σ₀ : St} {s₀ : Shared} {F F' : Fz} {st st' : S} {s s' : Shared} (l : LoopAt C hid F₀ σ₀ s₀ F st s) (q : Post C F st s F' st' s') : LoopAt C hid F₀ σ₀ s₀ F' st' s' := by
  have z : ∀ b, s.heap.get? b = none ∧ b ∉ C.own → s.heap.get? b = none ∧ b ∉ hid ++ C.own := fun b h => ⟨h.1, fun m => by
    rcases List.mem_append.mp m with m | m
    · obtain ⟨o, e⟩ := (l.off b m).2.2.2; rw [e] at h; cases h.1
    · exact h.2 m⟩
  refine ⟨l.p.trans { q.p with keep := fun b o e hb ho => q.p.keep b o e hb fun m => ho (List.mem_append.mpr (.inr m)), freshS := fun b h => (q.p.freshS b h).imp_right (z b), freshF := fun b h => (q.p.freshF b h).imp_right fun y => y.imp_right (z b) }, q.sim, fun b hb => ?_⟩
  obtain ⟨h1, h2, h3, o, h4⟩ := l.off b hb
  refine ⟨?_, ?_, h3, o, q.p.keep b o h4 h2 h3⟩
  · cases e : F' b with
    | none => rfl
    | some y =>
      rcases q.p.freshF b (by rw [e]; simp) with y | y | y
      · exact absurd h1 y
      · exact absurd h2 y
      · rw [y.1] at h4; cases h4
  · cases e : st'.σ b with
    | none => rfl
    | some y =>
      rcases q.p.freshS b (by rw [e]; simp) with y | y
      · exact absurd h2 y
      · rw [y.1] at h4; cases h4
/-- the heap changes at a hidden object alone -/
theorem LoopAt.at {hid : List Addr} {F₀ : Fz} {σ₀ : St} {s₀ : Shared} {F : Fz} {st : S} {s : Shared} (l : LoopAt C hid F₀ σ₀ s₀ F st s) {h' : Heap} {tk : Nat} (ex : List Addr) (hx : ∀ b ∈ ex, b ∈ hid)
    (hk : ∀ b o, b ∉ ex → s.heap.get? b = some o → h'.get? b = some o) (ht : ∀ b ∈ ex, ∃ o, h'.get? b = some o) : LoopAt C hid F₀ σ₀ s₀ F st { s with heap := h', toks := tk } := by
  have h1 : ∀ b ∈ ex, F b = none ∧ st.σ b = none := fun b hb => let z := l.off b (hx b hb); ⟨z.1, z.2.1⟩
  refine ⟨l.p.trans (.heap l.sim.g ex hk h1 fun b hb => .inl (List.mem_append.mpr (.inl (hx b hb)))), l.sim.heap ex hk h1 fun b hb => (l.off b (hx b hb)).2.2.1, fun b hb => ?_⟩
  obtain ⟨a, b', c, o, e⟩ := l.off b hb
  refine ⟨a, b', c, ?_⟩
  by_cases m : b ∈ ex
  · exact ht b m
  · exact ⟨o, hk b o m e⟩
theorem strikeAll {own : List Addr} {W : Wd} {F F₁ : Fz} {σ σ₁ : St} {s s₁ : Shared} : ∀ {hid : List Addr}, PostG (hid ++ own) W F σ s F₁ σ₁ s₁ → (∀ b ∈ hid, s.heap.get? b = none) → PostG own W F σ s F₁ σ₁ s₁
  | [], p, _ => p
  | a :: _, p, h => strikeAll (PostG.strike p (h a (.head _))) fun b hb => h b (.tail _ hb)
/-- the loop is through -/
theorem LoopAt.out {hid : List Addr} {F₀ : Fz} {st₀ : S} {s₀ : Shared} {F : Fz} {st : S} {s : Shared} (l : LoopAt C hid F₀ st₀.σ s₀ F st s) (hn : ∀ b ∈ hid, s₀.heap.get? b = none) {h' : Heap} {tk : Nat}
    (hk : ∀ b o, b ∉ hid → s.heap.get? b = some o → h'.get? b = some o) : Post C F₀ st₀ s₀ F st { s with heap := h', toks := tk } := by
  have h1 : ∀ b ∈ hid, F b = none ∧ st.σ b = none := fun b hb => let z := l.off b hb; ⟨z.1, z.2.1⟩
  exact ⟨strikeAll (l.p.trans (.heap l.sim.g hid hk h1 fun b hb => .inl (List.mem_append.mpr (.inl hb)))) hn, l.sim.heap hid hk h1 fun b hb => (l.off b hb).2.2.1⟩
theorem get_size {h : Heap} : h.get? h.objs.size = none := by
  cases e : h.get? h.objs.size with
  | none => rfl
  | some o => exact absurd (Heap.lt_size e) (Nat.lt_irrefl _)
/-- a new hidden object -/
theorem LoopAt.alloc {hid : List Addr} {F₀ : Fz} {σ₀ : St} {s₀ : Shared} {F : Fz} {st : S} {s : Shared} (l : LoopAt C hid F₀ σ₀ s₀ F st s) {o : Obj} (ho : o.isFreed = false := by rfl) :
    LoopAt C (s.heap.objs.size :: hid) F₀ σ₀ s₀ F st { s with heap := s.heap.push o } := by
  have hs : s.heap.get? s.heap.objs.size = none := get_size
  have hF : F s.heap.objs.size = none := by
    cases e : F s.heap.objs.size with
    | none => rfl
    | some y => rw [l.sim.g.fz _ _ e] at hs; cases hs
  have hσ : st.σ s.heap.objs.size = none := by
    cases e : st.σ s.heap.objs.size with
    | none => rfl
    | some y => obtain ⟨o, h⟩ := (l.sim.g.st _ _ e).2.there; rw [h] at hs; cases hs
  have ho' : s.heap.objs.size ∉ C.own := fun m => by obtain ⟨o, h⟩ := l.sim.there _ m; rw [h] at hs; cases hs
  have hk : ∀ b ob, b ∉ ([] : List Addr) → s.heap.get? b = some ob → (s.heap.push o).get? b = some ob := fun b ob _ e => Heap.get?_push_of_some _ e
  have hh : s.heap.objs.size ∉ hid := fun m => by obtain ⟨o, h⟩ := (l.off _ m).2.2.2; rw [h] at hs; cases hs
  refine ⟨?_, l.sim.heap [] hk (fun _ m => nomatch m) (fun _ m => nomatch m), fun b hb => ?_⟩
  · have q : PostG (hid ++ C.own) C.W F st.σ s F st.σ { s with heap := s.heap.push o } := .heap (tk := s.toks) l.sim.g [] hk (fun _ m => nomatch m) (fun _ m => nomatch m)
    have z := l.p.trans q
    have s₀n : s₀.heap.get? s.heap.objs.size = none ∨ σ₀ s.heap.objs.size ≠ none := by
      cases e : s₀.heap.get? s.heap.objs.size with
      | none => exact .inl rfl
      | some ob =>
        cases e' : σ₀ s.heap.objs.size with
        | some y => exact .inr (by simp)
        | none => rw [l.p.keep _ _ e e' (fun m => (List.mem_append.mp m).elim hh ho')] at hs; cases hs
    refine { z with keep := fun b ob e hb hn => z.keep b ob e hb fun m => hn (.tail _ m), freshS := fun b h => ?_, freshF := fun b h => ?_ }
    · refine (z.freshS b h).imp_right fun y => ⟨y.1, fun m => ?_⟩
      rcases List.mem_cons.mp m with rfl | m
      · exact h hσ
      · exact y.2 m
    · refine (z.freshF b h).imp_right fun y => y.imp_right fun y => ⟨y.1, fun m => ?_⟩
      rcases List.mem_cons.mp m with rfl | m
      · exact h hF
      · exact y.2 m
  · rcases List.mem_cons.mp hb with rfl | hb
    · exact ⟨hF, hσ, ho', _, Heap.get?_push_size _ ho⟩
    · obtain ⟨a, b', c, ob, e⟩ := l.off b hb
      exact ⟨a, b', c, ob, Heap.get?_push_of_some _ e⟩
theorem LoopAt.begin {F : Fz} {st : S} {s : Shared} (k : Sim C F st s.heap) : LoopAt C [] F st.σ s F st s := ⟨.refl k.g, k, fun _ m => nomatch m⟩

/-! ### iterators -/
theorem Gives.frame {F : Fz} {I : Addr} {xs : List V} {h h₁ h₂ : Heap} {fp : List Addr} {P : Nat → Value → Prop} {Sx : Nat → Heap → Prop} (g : Gives C F I xs h fp P Sx) {i : Nat} (hs : Sx i h₁) (hI : ∀ o, h₁.get? I = some o → h₂.get? I = some o)
    (hF : ∀ a o, F a = some o → h₁.get? a = some o) (hF' : ∀ a o, F a = some o → h₂.get? a = some o) : Sx i h₂ := by
  refine g.walks.frame i h₁ h₂ hs fun b hb o e => ?_
  rcases g.foot b hb with rfl | ⟨o', e'⟩
  · exact hI o e
  · rw [hF b o' e'] at e; cases e; exact hF' b _ e'

theorem iter_ok {hid : List Addr} {F₀ F : Fz} {σ₀ : St} {st : S} {s₀ s : Shared} {x : V} {v : Value} {xs : List V} (l : LoopAt C hid F₀ σ₀ s₀ F st s) (hx : itemsOf x = some xs) (r : R F x v) {Q : Value → Shared → Prop} {E : Value → Shared → Prop}
    (h : ∀ fp P Sx s₁, s₁.toks = s.toks → Gives C F s.heap.objs.size xs s₁.heap fp P Sx → LoopAt C (s.heap.objs.size :: hid) F₀ σ₀ s₀ F st s₁ → Q (.ref s.heap.objs.size) s₁) : wpAny C.W.M C.A (pyIter v) Q E s := by
  have hh := l.sim.ok.handled
  cases r with
  | none => cases hx
  | bool => cases hx
  | int => cases hx
  | ref => cases hx
  | raw => cases hx
  | @bytes b ks t hb =>
    cases hx
    refine KBw.pyIter_bytes ?_
    have hl : (ks.map V.int).length = b.size := by rw [← hb]; simp
    refine h [s.heap.objs.size] _ _ _ rfl ⟨hl ▸ KBw.walks hh s.heap.objs.size b t, ?_, ⟨_, Heap.get?_push_size _ rfl, rfl, rfl⟩, fun b hb => .inl (List.mem_singleton.mp hb), fun _ _ ⟨o, ho, _⟩ => ⟨o, ho⟩, ?_⟩ l.alloc
    · rintro i v ⟨c, u, e, rfl⟩
      refine ⟨.int c.toNat, ?_, .int _ _⟩
      rw [← hb]; simp [e]
    · rintro t s Q E i v ⟨o, ho, hc, hd⟩ q
      exact lot_quiet ho hc hd (by decide) q
  | @tuple a vs n xs' e rs =>
    cases hx
    have it := IsTuple.of (l.sim.g.fz _ _ e)
    refine wpAny_pyIter_tuple it ?_
    have hl : xs.length = vs.toArray.size := by rw [rs.length]; simp
    have hne : a ≠ s.heap.objs.size := Nat.ne_of_lt (Heap.lt_size (l.sim.g.fz _ _ e))
    refine h [s.heap.objs.size, a] _ _ _ rfl ⟨hl ▸ Walks.tuple hh s.heap.objs.size a hne vs.toArray, ?_, ⟨⟨_, Heap.get?_push_size _ rfl, rfl, rfl⟩, it.push _⟩, ?_, fun _ _ ⟨⟨o, ho, _⟩, _⟩ => ⟨o, ho⟩, ?_⟩ l.alloc
    · intro i v e
      have e' : vs[i]? = some v := by simpa using e
      have : i < xs.length := by rw [rs.length]; exact (List.getElem?_eq_some_iff.mp e').1
      obtain ⟨u, hu, r⟩ := rs.get (k := i) (x := xs[i]) (by simp)
      rw [e'] at hu; cases hu
      exact ⟨xs[i], by simp, r⟩
    · intro b hb
      rcases List.mem_cons.mp hb with rfl | hb
      · exact .inl rfl
      · rw [List.mem_singleton.mp hb]; exact .inr ⟨_, e⟩
    · rintro t s Q E i v ⟨⟨o, ho, hc, hd⟩, _⟩ q
      exact lot_quiet ho hc hd (by decide) q
  | @list a vs n xs' e rs =>
    cases hx
    have it : s.heap.IsList a vs.toArray := ⟨_, l.sim.g.fz _ _ e, rfl, n, rfl⟩
    refine wpAny_pyIter_list it ?_
    have hl : xs.length = vs.toArray.size := by rw [rs.length]; simp
    have hne : a ≠ s.heap.objs.size := Nat.ne_of_lt (Heap.lt_size (l.sim.g.fz _ _ e))
    refine h [s.heap.objs.size, a] _ _ _ rfl ⟨hl ▸ Walks.list hh s.heap.objs.size a hne vs.toArray, ?_, ⟨⟨_, Heap.get?_push_size _ rfl, rfl, rfl⟩, ⟨_, Heap.get?_push_of_some _ (l.sim.g.fz _ _ e), rfl, n, rfl⟩⟩, ?_, fun _ _ ⟨⟨o, ho, _⟩, _⟩ => ⟨o, ho⟩, ?_⟩ l.alloc
    · intro i v e
      have e' : vs[i]? = some v := by simpa using e
      have : i < xs.length := by rw [rs.length]; exact (List.getElem?_eq_some_iff.mp e').1
      obtain ⟨u, hu, r⟩ := rs.get (k := i) (x := xs[i]) (by simp)
      rw [e'] at hu; cases hu
      exact ⟨xs[i], by simp, r⟩
    · intro b hb
      rcases List.mem_cons.mp hb with rfl | hb
      · exact .inl rfl
      · rw [List.mem_singleton.mp hb]; exact .inr ⟨_, e⟩
    · rintro t s Q E i v ⟨⟨o, ho, hc, hd⟩, _⟩ q
      exact lot_quiet ho hc hd (by decide) q
  | @range a i j c t u v e =>
    simp only [itemsOf] at hx
    split at hx
    · rename_i hsm
      cases hx
      have hr : IsRange s.heap a i j c t u v := l.sim.g.fz _ _ e
      refine wpAny_pyIter_range hr hsm ?_
      have hnn : 0 ≤ Builtin.Range.rangeSize i j c := by
        unfold Builtin.Range.rangeSize
        (repeat' split)
        · have := Int.ediv_nonneg (a := j - i - 1) (b := c) (by omega) (by omega); omega
        · omega
        · have := Int.ediv_nonneg (a := i - j - 1) (b := -c) (by omega) (by omega); omega
        · omega
      have hw := (Walks.range (prog := C.W.prog) (w := C.W.w) hh s.heap.objs.size i c (Builtin.Range.rangeSize i j c).toNat).bound
      refine h [s.heap.objs.size] _ _ _ rfl ⟨(by rw [List.length_map, List.length_range]; exact hw), ?_, ?_, fun b hb => .inl (List.mem_singleton.mp hb), fun _ _ ho => ⟨_, ho⟩, ?_⟩ l.alloc
      · rintro k v ⟨hk, t, rfl⟩
        exact ⟨_, by rw [List.getElem?_map, List.getElem?_range hk]; rfl, .int _ _⟩
      · show IsRangeIter _ _ _ _ _
        rw [Int.toNat_of_nonneg hnn]
        simpa using Heap.get?_push_size _ rfl
      · rintro t s Q E i v ho q
        exact lot_quiet ho rfl rfl (by decide) q
    · cases hx

/-! ### for -/
def forL (Ta : AT) (B : (Fl → S → Prop) → S → Prop) (Q : Fl → S → Prop) : List V → S → Prop
  | [], st => Q .next st
  | x :: xs, st => Ta x (fun st₁ => B (fun f st₂ => match f with | .next => forL Ta B Q xs st₂ | .cont => forL Ta B Q xs st₂ | .brk => Q .next st₂ | .ret v => Q (.ret v) st₂) st₁) st
abbrev forW (T : (V → S → Prop) → S → Prop) (Ta : AT) (B : (Fl → S → Prop) → S → Prop) (Q : Fl → S → Prop) : S → Prop := T fun x st => ∃ xs, itemsOf x = some xs ∧ forL Ta B Q xs st

theorem ex_for {t it : Expr} {b : List Stmt} {pos : Pos} {T : (V → S → Prop) → S → Prop} {Ta : AT} {B : (Fl → S → Prop) → S → Prop} (hi : Ev C it T) (ha : Asg C t Ta) (hb : Exs C b B) (hs : ∀ x, foldedSetIterable it C.env x = pure x := by intro _; rfl) :
    Ex C (.For t it b [] pos) (forW T Ta B) := by
  intro E Q st F s hF k q
  refine wpAny_For (hi.then hF k q fun F₁ x st₁ v s₁ p₁ r₁ q₁ => ?_) hs
  obtain ⟨xs, hx, q₁⟩ := q₁
  refine iter_ok (.begin p₁.sim) hx r₁ fun fp P Sx s₂ _ g l => ?_
  have hI : s₁.heap.get? s₁.heap.objs.size = none := get_size
  refine codeAny_forLoop_any (fun n s' => ∃ i F' st', n = xs.length + 1 - i ∧ i ≤ xs.length ∧ F₁.Le F' ∧ LoopAt C [s₁.heap.objs.size] F₁ st₁.σ s₁ F' st' s' ∧ Sx i s'.heap ∧ forL Ta B Q (xs.drop i) st') ?_ (xs.length + 1) ⟨0, F₁, st₁, rfl, Nat.zero_le _, .refl _, l, g.start, by simpa using q₁⟩
  rintro n s₃ ⟨i, F₃, st₃, rfl, hle, hF₃, l₃, hs₃, q₃⟩
  by_cases hlt : i < xs.length
  · refine g.walks.item i s₃ _ _ hlt hs₃ fun v h₄ tk hP hs₄ hk => ?_
    have hk' : ∀ b o, b ∉ [s₁.heap.objs.size] → s₃.heap.get? b = some o → h₄.get? b = some o := fun b o hb e => hk b o hb e
    have l₄ := l₃.at (tk := tk) [s₁.heap.objs.size] (fun _ m => m) hk' (fun b m => by rw [List.mem_singleton.mp m]; exact g.there _ _ hs₄)
    refine g.quiet t _ _ _ _ v hs₄ ?_
    obtain ⟨x', hx', rx⟩ := g.item i v hP
    have hd : xs.drop i = x' :: xs.drop (i + 1) := by
      obtain ⟨hl, e⟩ := List.getElem?_eq_some_iff.mp hx'
      rw [List.drop_eq_getElem_cons hl, e]
    rw [hd] at q₃
    refine (ha F₃ x' v (rx.mono hF₃)).then (Q := fun _ => _) (.refl _) l₄.sim q₃ fun F₅ _ st₅ _ s₅ p₅ _ q₅ => ?_
    refine hb.then (F0.le _) p₅.sim q₅ fun F₆ f st₆ a s₆ p₆ rf q₆ => ?_
    have l₆ := l₄.step (p₅.trans p₆)
    have fin : Post C F st s F₆ st₆ s₆ := by
      obtain ⟨h, tk, rfl⟩ := p₆.p.same
      have := l₆.out (h' := h) (tk := tk) (by intro b m; rw [List.mem_singleton.mp m]; exact hI) (fun b o _ e => e)
      exact p₁.trans this
    have hsx : Sx (i + 1) s₆.heap := by
      have pp := p₅.trans p₆
      exact g.frame hs₄ (fun o e => pp.p.keep _ o e (l₄.off _ (.head _)).2.1 (l₄.off _ (.head _)).2.2.1) (fun a o e => l₄.sim.g.fz a o (hF₃ a o e)) (fun a o e => p₆.sim.g.fz a o (pp.ext a o (hF₃ a o e)))
    have on : forL Ta B Q (xs.drop (i + 1)) st₆ → ∃ m, m < xs.length + 1 - i ∧ ∃ i F' st', m = xs.length + 1 - i ∧ i ≤ xs.length ∧ F₁.Le F' ∧ LoopAt C [s₁.heap.objs.size] F₁ st₁.σ s₁ F' st' s₆ ∧ Sx i s₆.heap ∧ forL Ta B Q (xs.drop i) st' :=
      fun z => ⟨xs.length + 1 - (i + 1), by omega, i + 1, F₆, st₆, rfl, hlt, hF₃.trans ((p₅.trans p₆).ext), l₆, hsx, z⟩
    cases rf with
    | next => exact on q₆
    | cont => exact on q₆
    | brk => exact ⟨F₆, .next, st₆, fin, .next, q₆⟩
    | ret r => exact ⟨F₆, _, st₆, fin, .ret r, q₆⟩
  · have e : i = xs.length := by omega
    subst e
    refine g.walks.done s₃ _ _ hs₃ fun h₄ tk hk => ?_
    rw [List.drop_length] at q₃
    refine wpAny_execs_nil ⟨F₃, .next, st₃, p₁.trans (l₃.out (by intro b m; rw [List.mem_singleton.mp m]; exact hI) fun b o hb e => hk b o hb e), .next, q₃⟩
end Mine

namespace Mine
open PySem PySem.W PyProof.Rows PySem.Calls

variable {C : Cx}

theorem PostG.congr {own own' : List Addr} {W : Wd} {F F₁ : Fz} {σ σ₁ : St} {s s₁ : Shared} (p : PostG own W F σ s F₁ σ₁ s₁) (h : ∀ b, b ∈ own' ↔ b ∈ own) : PostG own' W F σ s F₁ σ₁ s₁ :=
  { p with
    keep := fun b o e hb ho => p.keep b o e hb fun m => ho ((h b).mpr m)
    freshS := fun b k => (p.freshS b k).imp_right fun y => ⟨y.1, fun m => y.2 ((h b).mp m)⟩
    freshF := fun b k => (p.freshF b k).imp_right fun q => q.imp_right fun y => ⟨y.1, fun m => y.2 ((h b).mp m)⟩ }
theorem Pl.Ok.forget {F : Fz} {h : Heap} {p : Pl} {o : Option V} (k : p.Ok F h o) : p.Ok F h none := by
  cases p with
  | d L x => obtain ⟨m, n, _⟩ := k; exact ⟨m, n, fun _ e => nomatch e⟩
  | c a => obtain ⟨u, n, _⟩ := k; exact ⟨u, n, fun _ e => nomatch e⟩
theorem Sim.forget {F : Fz} {σ : St} {ρ ρ' : Nat → Option V} {h : Heap} (k : Sim C F ⟨σ, ρ'⟩ h) (e : ∀ i, i < C.pl.length → ρ i = ρ' i ∨ ρ i = none) : Sim C F ⟨σ, ρ⟩ h := by
  refine ⟨k.g, fun i p hp => ?_, k.own, k.ok, k.fn, k.nodup⟩
  rcases e i (List.getElem?_eq_some_iff.mp hp).1 with z | z
  · show p.Ok F h (ρ i); rw [z]; exact k.loc i p hp
  · show p.Ok F h (ρ i); rw [z]; exact (k.loc i p hp).forget
theorem LoopAt.forget {hid : List Addr} {F₀ F : Fz} {σ₀ σ : St} {ρ ρ' : Nat → Option V} {s₀ s : Shared} (l : LoopAt C hid F₀ σ₀ s₀ F ⟨σ, ρ'⟩ s) (e : ∀ i, i < C.pl.length → ρ i = ρ' i ∨ ρ i = none) : LoopAt C hid F₀ σ₀ s₀ F ⟨σ, ρ⟩ s :=
  ⟨l.p, l.sim.forget e, l.off⟩

/-! ### a comprehension's own block -/
def Cx.comp (C : Cx) (scope : Scope) (cl : List (Str × Addr)) (L : Addr) (names : List Str) : Cx := { C with env := compEnvC scope cl L C.env, pl := C.pl ++ names.map (Pl.d L) }
abbrev cutρ (n : Nat) (ρ : Nat → Option V) : Nat → Option V := fun i => if i < n then ρ i else none

theorem comp_own {scope : Scope} {cl : List (Str × Addr)} {L : Addr} {names : List Str} (hne : names ≠ []) (b : Addr) : b ∈ (C.comp scope cl L names).own ↔ b = L ∨ b ∈ C.own := by
  simp only [Cx.comp, Cx.own, List.map_append, List.mem_append, List.map_map]
  constructor
  · rintro (h | h)
    · exact .inr h
    · obtain ⟨x, _, rfl⟩ := List.mem_map.mp h; exact .inl rfl
  · rintro (h | h)
    · obtain ⟨x, r, e⟩ := List.exists_cons_of_ne_nil hne
      exact .inr (List.mem_map.mpr ⟨x, by rw [e]; exact .head _, h.symm⟩)
    · exact .inl h

theorem comp_enter {hid : List Addr} {F₀ F : Fz} {σ₀ : St} {st : S} {s₀ s : Shared} {scope : Scope} {cl : List (Str × Addr)} {names : List Str} {h' : Heap} {tk : Nat} {o : Obj} (l : LoopAt C hid F₀ σ₀ s₀ F st s) (hne : names ≠ []) (hnd : names.Nodup) (hk : scope.kind = .function)
    (hn : h'.Ns s.heap.objs.size fun _ => none) (hs : Heap.SameBut s.heap.objs.size (s.heap.push o) h') (ho : o.isFreed = false := by rfl) :
    LoopAt (C.comp scope cl s.heap.objs.size names) hid F₀ σ₀ s₀ F ⟨st.σ, cutρ C.pl.length st.ρ⟩ { s with heap := h', toks := tk } ∧ s.heap.objs.size ∉ C.own := by
  have l₁ := l.alloc (o := o) ho
  have l₂ := l₁.at (h' := h') (tk := tk) [s.heap.objs.size] (fun b m => by rw [List.mem_singleton.mp m]; exact .head _) (fun b ob hb e => (hs.2 b (by simpa using hb)).trans e) (fun b m => by
    rw [List.mem_singleton.mp m]; obtain ⟨ob, _, _, e, _⟩ := hn; exact ⟨ob, e⟩)
  have hL := l₂.off s.heap.objs.size (.head _)
  refine ⟨⟨l₂.p.congr fun b => ?_, ⟨l₂.sim.g, fun i p hp => ?_, fun p hp => ?_, l.sim.ok, hk, ?_⟩, fun b hb => ?_⟩, hL.2.2.1⟩
  · simp only [List.mem_append, comp_own hne, List.mem_cons]
    constructor
    · rintro (h | h | h) <;> simp [h]
    · rintro ((h | h) | h) <;> simp [h]
  · have hp' : (C.pl ++ names.map (Pl.d s.heap.objs.size))[i]? = some p := hp
    show p.Ok F h' (if i < C.pl.length then st.ρ i else none)
    by_cases hi : i < C.pl.length
    · rw [if_pos hi]
      rw [List.getElem?_append_left hi] at hp'
      exact l₂.sim.loc i p hp'
    · rw [if_neg hi]
      rw [List.getElem?_append_right (Nat.le_of_not_lt hi), List.getElem?_map] at hp'
      obtain ⟨x, _, rfl⟩ := Option.map_eq_some_iff.mp hp'
      exact ⟨_, hn, fun _ e => nomatch e⟩
  · have hp' : p ∈ C.pl ++ names.map (Pl.d s.heap.objs.size) := hp
    rcases List.mem_append.mp hp' with m | m
    · exact l₂.sim.own p m
    · obtain ⟨x, _, rfl⟩ := List.mem_map.mp m
      exact ⟨hL.1, hL.2.1⟩
  · show (C.pl ++ names.map (Pl.d s.heap.objs.size)).Nodup
    refine List.nodup_append.mpr ⟨l.sim.nodup, ?_, fun p hp q hq e => ?_⟩
    · exact List.pairwise_map.mpr (hnd.imp fun h e => h (by injection e))
    · obtain ⟨x, _, rfl⟩ := List.mem_map.mp hq
      exact hL.2.2.1 (List.mem_map.mpr ⟨p, hp, by rw [e]⟩)
  · obtain ⟨a, b', c, e⟩ := l₂.off b (.tail _ hb)
    refine ⟨a, b', fun m => ?_, e⟩
    rcases (comp_own hne b).mp m with rfl | m
    · obtain ⟨_, _, _, ob, e⟩ := l.off _ hb
      rw [get_size] at e; cases e
    · exact c m
theorem comp_leave {hid : List Addr} {F₀ F : Fz} {σ₀ σ : St} {ρ ρ' : Nat → Option V} {s₀ s : Shared} {scope : Scope} {cl : List (Str × Addr)} {L : Addr} {names : List Str} (hne : names ≠ []) (hL : L ∉ C.own) (hk : C.env.scope.kind = .function) (l : LoopAt (C.comp scope cl L names) hid F₀ σ₀ s₀ F ⟨σ, ρ'⟩ s)
    (e : ∀ i, i < C.pl.length → ρ i = ρ' i) : LoopAt C (L :: hid) F₀ σ₀ s₀ F ⟨σ, ρ⟩ s := by
  have hlen : ∀ (i : Nat) (p : Pl), C.pl[i]? = some p → (C.comp scope cl L names).pl[i]? = some p := fun i p hp => by
    show (C.pl ++ names.map (Pl.d L))[i]? = some p
    rw [List.getElem?_append_left (List.getElem?_eq_some_iff.mp hp).1, hp]
  obtain ⟨x, r, ex⟩ := List.exists_cons_of_ne_nil hne
  have hm : Pl.d L x ∈ (C.comp scope cl L names).pl := List.mem_append.mpr (.inr (List.mem_map.mpr ⟨x, by rw [ex]; exact .head _, rfl⟩))
  have oL := l.sim.own _ hm
  refine ⟨l.p.congr fun b => ?_, ⟨l.sim.g, fun i p hp => ?_, fun p hp => l.sim.own p (List.mem_append.mpr (.inl hp)), l.sim.ok, hk, (List.nodup_append.mp l.sim.nodup).1⟩, fun b hb => ?_⟩
  · simp only [List.mem_append, comp_own hne, List.mem_cons]
    constructor
    · rintro ((h | h) | h) <;> simp [h]
    · rintro (h | h | h) <;> simp [h]
  · show p.Ok F s.heap (ρ i)
    rw [e i (List.getElem?_eq_some_iff.mp hp).1]
    exact l.sim.loc i p (hlen i p hp)
  · rcases List.mem_cons.mp hb with rfl | hb
    · exact ⟨oL.1, oL.2, hL, l.sim.there _ ((comp_own hne _).mpr (.inl rfl))⟩
    · obtain ⟨a, b', c, o⟩ := l.off b hb
      exact ⟨a, b', fun m => c ((comp_own hne b).mpr (.inr m)), o⟩

/-! tests of a comprehension -/
def Tst (C : Cx) (ifs : List Expr) (T : (Bool → S → Prop) → S → Prop) : Prop :=
  Imp C F0 RB (forIn ifs true fun c r => if r = true then do let ok ← PySem.isTrue c C.env (eval c C.env); pure (ForInStep.yield ok) else pure (ForInStep.yield r)) T
theorem tst_nil : Tst C [] (fun Q st => Q true st) := fun _ _ st F _ _ k q => wpAny_tests_nil ⟨F, true, st, .refl k, rfl, q⟩
theorem tst_one {c : Expr} {T : (Bool → S → Prop) → S → Prop} (h : EvT C c T) : Tst C [c] T := fun E Q st F s hF k q => wpAny_tests_one (h E Q st F s hF k q)

theorem compLoop_any {prog : Program} {w : World} {A : Around} {R : Result → Shared → Prop} {s : Shared} {elt target iter : Expr} {ifs : List Expr} {scope : Scope} {pos : Pos} {it acc : Value} {env : Env} (I : Nat → Shared → Prop)
    (turn : ∀ n s, I n s → wpAny (model prog w) A (pyNext it) (fun r s₁ => match r with
      | none => R (.ok .next) s₁
      | some v => wpAny (model prog w) A (letOwnedTupleGo target it v) (fun _ s₁ => wpAny (model prog w) A (assign target env v) (fun _ s₂ =>
          wpAny (model prog w) A (forIn ifs true fun c r => if r = true then do let ok ← PySem.isTrue c env (eval c env); pure (ForInStep.yield ok) else pure (ForInStep.yield r)) (fun ok s₃ =>
            if ok = true then wpAny (model prog w) A (eval elt env) (fun x s₄ =>
              wpAny (model prog w) A (call (.builtin "list.append") [acc, x]) (fun _ s₅ => ∃ m, m < n ∧ I m s₅) (notedBy (model prog w) A env fun e s' => R (.error e) s') s₄) (notedBy (model prog w) A env fun e s' => R (.error e) s') s₃
            else ∃ m, m < n ∧ I m s₃) (notedBy (model prog w) A env fun e s' => R (.error e) s') s₂) (notedBy (model prog w) A env fun e s' => R (.error e) s') s₁) (notedBy (model prog w) A env fun e s' => R (.error e) s') s₁) (notedBy (model prog w) A env fun e s' => R (.error e) s') s)
    (n : Nat) (h : I n s) :
    codeAny (model prog w) A (.compLoop (.ListComp elt [⟨target, iter, ifs, 0⟩] scope pos) 0 it acc env) R s := by
  refine codeAny_loop rfl I (fun n s hI => ?_) n h
  show wpAny _ A ((compTurn (.ListComp elt [⟨target, iter, ifs, 0⟩] scope pos) 0 it acc env).onRaise (fun x => do noteFrame x env; theTreesLotGoes x)) _ _ s
  refine wpAny_noted ?_
  rw [compTurn_list]
  refine wpAny_bind (wpAny_standAt (wpAny_bind (wpAny_mono (turn n s hI) (fun r s₁ h₁ => ?_) fun _ _ h' => h')))
  cases r with
  | none => exact wpAny_pure h₁
  | some v =>
    refine wpAny_bind (wpAny_mono h₁ (fun _ s₁ h₁ => ?_) fun _ _ h' => h')
    refine wpAny_bind (wpAny_mono h₁ (fun _ s₂ h₂ => wpAny_bind (wpAny_mono h₂ (fun ok s₃ h₃ => ?_) fun _ _ h' => h')) fun _ _ h' => h')
    cases ok with
    | false => exact wpAny_pure ⟨rfl, h₃⟩
    | true =>
      exact wpAny_bind (wpAny_bind (wpAny_mono h₃ (fun x s₄ h₄ => wpAny_bind (wpAny_mono h₄ (fun _ s₅ h₅ => wpAny_pure (wpAny_pure ⟨rfl, h₅⟩)) fun _ _ h' => h')) fun _ _ h' => h'))

def compL (n : Nat) (Ta : AT) (Tc : (Bool → S → Prop) → S → Prop) (Te : (V → S → Prop) → S → Prop) (ρ : Nat → Option V) (K : List V → St → Prop) : List V → List V → St → Prop
  | [], acc, σ => K acc σ
  | x :: xs, acc, σ => Ta x (Tc fun b st => if b then Te (fun y st' => (∀ i, i < n → st'.ρ i = ρ i) ∧ compL n Ta Tc Te ρ K xs (acc ++ [y]) st'.σ) st else (∀ i, i < n → st.ρ i = ρ i) ∧ compL n Ta Tc Te ρ K xs acc st.σ) ⟨σ, ρ⟩

theorem Gives.comp {F : Fz} {I : Addr} {xs : List V} {h : Heap} {fp : List Addr} {P : Nat → Value → Prop} {Sx : Nat → Heap → Prop} {scope : Scope} {cl : List (Str × Addr)} {L : Addr} {names : List Str} (g : Gives C F I xs h fp P Sx) {h' : Heap} (hs : Sx 0 h') : Gives (C.comp scope cl L names) F I xs h' fp P Sx :=
  ⟨g.walks, g.item, hs, g.foot, g.there, g.quiet⟩

theorem comp_loop {n : Nat} {D I : Addr} {F₀ F : Fz} {σ₀ σ : St} {ρ : Nat → Option V} {s₀ s : Shared} {elt t it : Expr} {ifs : List Expr} {scope : Scope} {pos : Pos} {Ta : AT} {Tc : (Bool → S → Prop) → S → Prop} {Te : (V → S → Prop) → S → Prop}
    {K : List V → St → Prop} {xs : List V} {fp : List Addr} {P : Nat → Value → Prop} {Sx : Nat → Heap → Prop} {RR : Result → Shared → Prop}
    (ha : Asg C t Ta) (hc : Tst C ifs Tc) (he : Ev C elt Te) (hρ : ∀ i, ¬ i < n → ρ i = none) (hDI : D ≠ I)
    (l : LoopAt C [D, I] F₀ σ₀ s₀ F ⟨σ, ρ⟩ s) (g : Gives C F I xs s.heap fp P Sx) (hD : s.heap.PlainList D #[]) (hsz : xs.length ≤ sizeLine) (q : compL n Ta Tc Te ρ K xs [] σ)
    (fin : ∀ F' σ' s' h' tk acc vs, F.Le F' → LoopAt C [D, I] F₀ σ₀ s₀ F' ⟨σ', ρ⟩ s' → (∀ b o, b ∉ [I] → s'.heap.get? b = some o → h'.get? b = some o) → h'.PlainList D (List.toArray vs) → RAll F' acc vs → K acc σ' → RR (.ok .next) { s' with heap := h', toks := tk }) :
    codeAny C.W.M C.A (.compLoop (.ListComp elt [⟨t, it, ifs, 0⟩] scope pos) 0 (.ref I) (.ref D) C.env) RR s := by
  refine compLoop_any (fun m s' => ∃ i F' σ' acc vs, m = xs.length + 1 - i ∧ i ≤ xs.length ∧ acc.length ≤ i ∧ F.Le F' ∧ LoopAt C [D, I] F₀ σ₀ s₀ F' ⟨σ', ρ⟩ s' ∧ Sx i s'.heap ∧ s'.heap.PlainList D (List.toArray vs) ∧ RAll F' acc vs ∧ compL n Ta Tc Te ρ K (xs.drop i) acc σ') ?_
    (xs.length + 1) ⟨0, F, σ, [], [], rfl, Nat.zero_le _, Nat.le_refl _, .refl _, l, g.start, hD, .nil, by simpa using q⟩
  rintro m s₁ ⟨i, F₁, σ₁, acc, vs, rfl, hle, hacc, hF₁, l₁, hs₁, hD₁, ra, q₁⟩
  by_cases hlt : i < xs.length
  · refine g.walks.item i s₁ _ _ hlt hs₁ fun v h₂ tk hP hs₂ hk => ?_
    have hk' : ∀ b o, b ∉ [I] → s₁.heap.get? b = some o → h₂.get? b = some o := fun b o hb e => hk b o hb e
    have l₂ := l₁.at (tk := tk) [I] (fun b m => .tail _ m) hk' (fun b m => by rw [List.mem_singleton.mp m]; exact g.there _ _ hs₂)
    have hD₂ : h₂.PlainList D vs.toArray := hD₁.at fun o e => hk' _ o (by simpa using hDI) e
    refine g.quiet t _ _ _ _ v hs₂ ?_
    obtain ⟨x', hx', rx⟩ := g.item i v hP
    have hd : xs.drop i = x' :: xs.drop (i + 1) := by
      obtain ⟨hl, e⟩ := List.getElem?_eq_some_iff.mp hx'
      rw [List.drop_eq_getElem_cons hl, e]
    rw [hd] at q₁
    refine (ha F₁ x' v (rx.mono hF₁)).then (Q := fun _ => _) (.refl _) l₂.sim q₁ fun F₃ _ st₃ _ s₃ p₃ _ q₃ => ?_
    refine hc.then (F0.le _) p₃.sim q₃ fun F₄ b st₄ _ s₄ p₄ rb q₄ => ?_
    subst rb
    have sx : ∀ {F' st' s'}, Post C F₁ ⟨σ₁, ρ⟩ { s₁ with heap := h₂, toks := tk } F' st' s' → Sx (i + 1) s'.heap := fun pp =>
      g.frame hs₂ (fun o e => pp.p.keep _ o e (l₂.off I (.tail _ (.head _))).2.1 (l₂.off I (.tail _ (.head _))).2.2.1) (fun a o e => l₂.sim.g.fz a o (hF₁ a o e)) (fun a o e => pp.sim.g.fz a o (pp.ext a o (hF₁ a o e)))
    have dx : ∀ {F' st' s'}, Post C F₁ ⟨σ₁, ρ⟩ { s₁ with heap := h₂, toks := tk } F' st' s' → s'.heap.PlainList D vs.toArray := fun pp =>
      hD₂.at fun o e => pp.p.keep _ o e (l₂.off D (.head _)).2.1 (l₂.off D (.head _)).2.2.1
    have back : ∀ {ρ' : Nat → Option V}, (∀ i, i < n → ρ' i = ρ i) → ∀ i, i < C.pl.length → ρ i = ρ' i ∨ ρ i = none := fun h i _ => by
      by_cases hi : i < n
      · exact .inl (h i hi).symm
      · exact .inr (hρ i hi)
    cases b with
    | false =>
      obtain ⟨hr, q₄⟩ := q₄
      have pp := p₃.trans p₄
      obtain ⟨σ₄, ρ₄⟩ := st₄
      exact ⟨xs.length + 1 - (i + 1), by omega, i + 1, F₄, σ₄, acc, vs, rfl, hlt, by omega, hF₁.trans pp.ext, (l₂.step pp).forget (back hr), sx pp, dx pp, ra.mono pp.ext, q₄⟩
    | true =>
      refine he.then (F0.le _) p₄.sim q₄ fun F₅ y st₅ u s₅ p₅ ry q₅ => ?_
      have pp := p₃.trans (p₄.trans p₅)
      obtain ⟨hr, q₅⟩ := q₅
      obtain ⟨σ₅, ρ₅⟩ := st₅
      refine wpAny_list_append_plain (dx pp) (fun h₆ hD₆ hs₆ => ?_) (by have := (ra.length); simp; omega)
      have l₅ := l₂.step pp
      have l₆ := l₅.at (h' := h₆) (tk := s₅.toks) [D] (fun b m => by rw [List.mem_singleton.mp m]; exact .head _) (fun b o hb e => (hs₆.2 b (by simpa using hb)).trans e) (fun b m => by rw [List.mem_singleton.mp m]; exact let ⟨n, e⟩ := hD₆; ⟨_, e⟩)
      refine ⟨xs.length + 1 - (i + 1), by omega, i + 1, F₅, σ₅, acc ++ [y], vs ++ [u], rfl, hlt, by simp; omega, hF₁.trans pp.ext, l₆.forget (back hr), ?_, ?_, (ra.mono pp.ext).append (.cons ry .nil), q₅⟩
      · exact g.frame (sx pp) (fun o e => (hs₆.2 _ (Ne.symm hDI)).trans e) (fun a o e => l₅.sim.g.fz a o (pp.ext a o (hF₁ a o e))) (fun a o e => l₆.sim.g.fz a o (pp.ext a o (hF₁ a o e)))
      · simpa using hD₆
  · have e : i = xs.length := by omega
    subst e
    refine g.walks.done s₁ _ _ hs₁ fun h₂ tk hk => ?_
    rw [List.drop_length] at q₁
    exact fin F₁ σ₁ s₁ h₂ tk acc vs hF₁ l₁ (fun b o hb e => hk b o hb e) (hD₁.at fun o e => hk _ o (by simpa using hDI) e) ra q₁

theorem LoopAt.fresh {hid : List Addr} {F₀ F : Fz} {st : S} {s₀ s : Shared} (l : LoopAt C hid F₀ st.σ s₀ F st s) (hn : ∀ b ∈ hid, s₀.heap.get? b = none) : s₀.heap.get? s.heap.objs.size = none := by
  cases e : s₀.heap.get? s.heap.objs.size with
  | none => rfl
  | some o =>
    cases e' : st.σ s.heap.objs.size with
    | none =>
      have := l.p.keep _ o e e' (fun m => by
        rcases List.mem_append.mp m with m | m
        · rw [hn _ m] at e; cases e
        · obtain ⟨o, h⟩ := l.sim.there _ m; rw [get_size] at h; cases h)
      rw [get_size] at this; cases this
    | some y => obtain ⟨o, h⟩ := (l.sim.g.st _ _ e').2.there; rw [get_size] at h; cases h
/-! the whole of a list comprehension -/
abbrev newW (x : AO) (Q : V → S → Prop) (σ : St) (ρ : Nat → Option V) : Prop := ∀ a, σ a = none → Q (.ref a) ⟨fun b => if b = a then some x else σ b, ρ⟩
abbrev compW (n : Nat) (T : (V → S → Prop) → S → Prop) (Ta : AT) (Tc : (Bool → S → Prop) → S → Prop) (Te : (V → S → Prop) → S → Prop) (Q : V → S → Prop) : S → Prop :=
  T fun x st => ∃ xs, itemsOf x = some xs ∧ xs.length ≤ sizeLine ∧ compL n Ta Tc Te (cutρ n st.ρ) (fun acc σ => newW (.list acc) Q σ st.ρ) xs [] st.σ

/-- a hidden list comes into the store -/
theorem LoopAt.list {hid : List Addr} {D : Addr} {F₀ F : Fz} {st₀ : S} {σ : St} {ρ : Nat → Option V} {s₀ s : Shared} {acc : List V} {vs : List Value} (l : LoopAt C hid F₀ st₀.σ s₀ F ⟨σ, ρ⟩ s) (hn : ∀ b ∈ hid, s₀.heap.get? b = none) (hD : D ∈ hid) {h' : Heap} {tk : Nat} (hp : h'.PlainList D vs.toArray) (ra : RAll F acc vs)
    (hk : ∀ b o, b ∉ hid → s.heap.get? b = some o → h'.get? b = some o) : Post C F₀ st₀ s₀ F ⟨fun b => if b = D then some (.list acc) else σ b, ρ⟩ { s with heap := h', toks := tk } := by
  have p := l.out hn (tk := tk) hk
  obtain ⟨hF, _, hO, _⟩ := l.off D hD
  have g : SimG C.W F (fun b => if b = D then some (.list acc) else σ b) h' := by
    refine ⟨p.sim.g.base, p.sim.g.fz, fun a x e => ?_⟩
    by_cases ha : a = D
    · subst ha
      rw [if_pos rfl] at e; cases e
      obtain ⟨n, e⟩ := hp
      exact ⟨hF, vs, n, e, ra⟩
    · rw [if_neg ha] at e
      exact p.sim.g.st a x e
  refine ⟨{ p.p with simg := g, freshS := fun b h => ?_ }, ⟨g, p.sim.loc, fun q hq => ⟨(p.sim.own q hq).1, ?_⟩, p.sim.ok, p.sim.fn, p.sim.nodup⟩⟩
  · by_cases hb : b = D
    · subst hb; exact .inr ⟨hn _ hD, hO⟩
    · exact p.p.freshS b (by simpa [hb] using h)
  · show (if q.addr = D then _ else σ q.addr) = none
    rw [if_neg (show ¬ q.addr = D from fun e => hO (e ▸ List.mem_map_of_mem hq))]
    exact (p.sim.own q hq).2

theorem Post.hide {F F' : Fz} {st st' : S} {s s' : Shared} {L : Addr} (p : Post C F st s F' st' s') (h1 : F' L = none) (h2 : st'.σ L = none) (h3 : L ∉ C.own) (h4 : ∃ o, s'.heap.get? L = some o) : LoopAt C [L] F st.σ s F' st' s' := by
  refine ⟨{ p.p with keep := fun b o e hb ho => p.p.keep b o e hb fun m => ho (.tail _ m), freshS := fun b h => ?_, freshF := fun b h => ?_ }, p.sim, fun b m => by rw [List.mem_singleton.mp m]; exact ⟨h1, h2, h3, h4⟩⟩
  · refine (p.p.freshS b h).imp_right fun y => ⟨y.1, fun m => ?_⟩
    rcases List.mem_cons.mp m with rfl | m
    · exact h h2
    · exact y.2 m
  · refine (p.p.freshF b h).imp_right fun z => z.imp_right fun y => ⟨y.1, fun m => ?_⟩
    rcases List.mem_cons.mp m with rfl | m
    · exact h h1
    · exact y.2 m

theorem comp_run {elt t it : Expr} {ifs : List Expr} {scope : Scope} {pos pos' : Pos} {cl : List (Str × Addr)} {names : List Str} {T : (V → S → Prop) → S → Prop} {Ta : AT} {Tc : (Bool → S → Prop) → S → Prop} {Te : (V → S → Prop) → S → Prop} {use : Option (Value → Sem Unit)}
    (hclos : closureFor scope C.env = pure cl) (hcell : ∀ x ∈ scope.names, x.2 ≠ .cell) (hkind : scope.kind = .function) (hnames : ∀ x ∈ scope.names, x.2 = .local → scope.names.lookup x.1 = some .local)
    (hs : ∀ x, foldedSetIterable it C.env x = pure x) (hne : names ≠ []) (hnd : names.Nodup)
    (hi : Ev C it T) (ha : ∀ L, Asg (C.comp scope cl L names) t Ta) (hc : ∀ L, Tst (C.comp scope cl L names) ifs Tc) (he : ∀ L, Ev (C.comp scope cl L names) elt Te)
    {E : Value → Shared → Prop} {Q : V → S → Prop} {Z : Value → Shared → Prop} {st : S} {F : Fz} {s : Shared} (k : Sim C F st s.heap) (q : compW C.pl.length T Ta Tc Te Q st)
    (fin : ∀ D L F₁ st₁ s₁ F' st' s', Post C F st s F₁ st₁ s₁ → LoopAt C [L] F₁ st₁.σ s₁ F' st' s' → s₁.heap.get? L = none → Q (.ref D) st' → (∃ m, s'.heap.Ns L m) → compPost C.W.M C.A E use Z (.ref D) L (.ok .next) s') :
    wpAny C.W.M C.A (comprehension (.ListComp elt [⟨t, it, ifs, 0⟩] scope pos) scope C.env pos' (newList []) false (eval it C.env) use) Z E s := by
  refine wpAny_comprehension_free rfl hs hclos hkind hnames (hi.then (F0.le _) k q fun F₁ x st₁ v s₁ p₁ r₁ q₁ => ?_)
  obtain ⟨xs, hx, hsz, q₁⟩ := q₁
  have hI : s₁.heap.get? s₁.heap.objs.size = none := get_size
  refine iter_ok (.begin p₁.sim) hx r₁ fun fp P Sx s₂ _ g l₂ => ?_
  refine wpAny_newList ?_ (by size_fits)
  have l₃ := l₂.alloc (o := listOf #[] 0)
  have hDn := l₂.fresh (by intro b m; rw [List.mem_singleton.mp m]; exact hI)
  have hDI : s₂.heap.objs.size ≠ s₁.heap.objs.size := fun e => by obtain ⟨_, _, _, o, h⟩ := l₂.off _ (.head _); rw [← e, get_size] at h; cases h
  have hLn := l₃.fresh (by intro b m; rcases List.mem_cons.mp m with rfl | m; exact hDn; rw [List.mem_singleton.mp m]; exact hI)
  refine wpAny_newFunctionEnv hcell (by intro y hy; simp at hy) (fun h₄ hn₄ hs₄ => ?_) hkind
  dsimp only at hn₄ hs₄ ⊢
  have hDp : h₄.PlainList s₂.heap.objs.size #[] := ⟨0, (hs₄.2 _ (Nat.ne_of_lt (by show _ < (s₂.heap.push _).objs.size; rw [Heap.size_push]; exact Nat.lt_succ_self _))).trans (Heap.get?_push_of_some _ (Heap.get?_push_size _ rfl))⟩
  have hS₄ : Sx 0 h₄ := g.walks.frame 0 _ _ g.start fun b hb o e => (hs₄.2 b (Nat.ne_of_lt (by show _ < (s₂.heap.push _).objs.size; rw [Heap.size_push]; exact Nat.lt_succ_of_lt (Heap.lt_size e)))).trans (Heap.get?_push_of_some _ (Heap.get?_push_of_some _ e))
  obtain ⟨l₄, hL⟩ := comp_enter (scope := scope) (cl := cl) (names := names) (tk := s₂.toks + ([] : List (Str × Value)).length) l₃ hne hnd hkind hn₄ hs₄
  have key : codeAny C.W.M C.A (.compLoop (.ListComp elt [⟨t, it, ifs, 0⟩] scope pos) 0 (.ref s₁.heap.objs.size) (.ref s₂.heap.objs.size) (compEnvC scope cl (s₂.heap.push (listOf #[] 0)).objs.size C.env))
      (compPost C.W.M C.A E use Z (.ref s₂.heap.objs.size) (s₂.heap.push (listOf #[] 0)).objs.size) { s₂ with heap := h₄, toks := s₂.toks + ([] : List (Str × Value)).length } := by
    refine comp_loop (C := C.comp scope cl (s₂.heap.push (listOf #[] 0)).objs.size names) (n := C.pl.length) (ha _) (hc _) (he _) (fun i hi => if_neg hi) hDI l₄ (g.comp hS₄) hDp hsz q₁ fun F' σ' s' h' tk acc vs hF' l' hk' hD' ra q' => ?_
    have hLo := l'.sim.own (Pl.d (s₂.heap.push (listOf #[] 0)).objs.size (names.head hne)) (List.mem_append.mpr (.inr (List.mem_map.mpr ⟨_, List.head_mem hne, rfl⟩)))
    have l₅ := comp_leave (ρ := st₁.ρ) hne hL p₁.sim.fn l' (fun i hi => (if_pos hi).symm)
    have hσD := (l'.off _ (.head _)).2.1
    have p₅ := l₅.list (h' := h') (tk := tk) (by
      intro b m
      rcases List.mem_cons.mp m with rfl | m
      · exact hLn
      · rcases List.mem_cons.mp m with rfl | m
        · exact hDn
        · rw [List.mem_singleton.mp m]; exact hI) (.tail _ (.head _)) hD' ra (fun b o hb e => hk' b o (fun m => hb (.tail _ (.tail _ m))) e)
    obtain ⟨m', hn', _⟩ := l'.sim.loc C.pl.length (Pl.d _ (names.head hne)) (by
      show (C.pl ++ names.map (Pl.d _))[C.pl.length]? = _
      rw [List.getElem?_append_right (Nat.le_refl _), Nat.sub_self]
      cases names with
      | nil => exact absurd rfl hne
      | cons x r => rfl)
    have hLI : (s₂.heap.push (listOf #[] 0)).objs.size ≠ s₁.heap.objs.size := fun e => by
      obtain ⟨_, _, _, o, h⟩ := l₃.off s₁.heap.objs.size (.tail _ (.head _))
      have h' : (s₂.heap.push (listOf #[] 0)).get? s₁.heap.objs.size = some o := h
      rw [← e, get_size] at h'; cases h'
    have hLD : (s₂.heap.push (listOf #[] 0)).objs.size ≠ s₂.heap.objs.size := by rw [Heap.size_push]; exact Nat.succ_ne_self _
    have hσL : (if (s₂.heap.push (listOf #[] 0)).objs.size = s₂.heap.objs.size then some (AO.list acc) else σ' (s₂.heap.push (listOf #[] 0)).objs.size) = none := by rw [if_neg hLD]; exact hLo.2
    have hNs := hn'.at' (h' := h') fun o e => hk' _ o (by simpa using hLI) e
    exact fin _ _ F₁ st₁ s₁ F' _ _ p₁ (p₅.hide hLo.1 hσL hL (let ⟨o, _, _, e, _⟩ := hNs; ⟨o, e⟩)) hLn (q' _ hσD) ⟨m', hNs⟩
  exact codeAny_compStart_list key (g.walks.self 0 _ _ _ hS₄ key)

theorem ev_comp {elt t it : Expr} {ifs : List Expr} {scope : Scope} {pos : Pos} {cl : List (Str × Addr)} (names : List Str) {T : (V → S → Prop) → S → Prop} {Ta : AT} {Tc : (Bool → S → Prop) → S → Prop} {Te : (V → S → Prop) → S → Prop}
    (hclos : closureFor scope C.env = pure cl) (hcell : ∀ x ∈ scope.names, x.2 ≠ .cell) (hkind : scope.kind = .function) (hnames : ∀ x ∈ scope.names, x.2 = .local → scope.names.lookup x.1 = some .local)
    (hs : ∀ x, foldedSetIterable it C.env x = pure x) (hne : names ≠ []) (hnd : names.Nodup) (n : Nat) (hn : n = C.pl.length)
    (hi : Ev C it T) (ha : ∀ L, Asg (C.comp scope cl L names) t Ta) (hc : ∀ L, Tst (C.comp scope cl L names) ifs Tc) (he : ∀ L, Ev (C.comp scope cl L names) elt Te) :
    Ev C (.ListComp elt [⟨t, it, ifs, 0⟩] scope pos) (compW n T Ta Tc Te) := by
  subst hn
  intro E Q st F s _ k q
  refine comp_run (use := none) hclos hcell hkind hnames hs hne hnd hi ha hc he k q fun D L F₁ st₁ s₁ F' st' s' p₁ l hL q' ⟨m, hn⟩ => ⟨m, hn, fun h' hs' => ?_⟩
  exact ⟨F', .ref D, st', p₁.trans (l.out (tk := s'.toks) (by intro b m; rw [List.mem_singleton.mp m]; exact hL) fun b o hb e => (hs'.2 b (by simpa using hb)).trans e), .ref _, q'⟩

theorem ex_assign_comp {elt t it : Expr} {y : Str} {py : Pos} {ifs : List Expr} {scope : Scope} {pos spos : Pos} {cl : List (Str × Addr)} (names : List Str) {T : (V → S → Prop) → S → Prop} {Ta Ty : AT} {Tc : (Bool → S → Prop) → S → Prop} {Te : (V → S → Prop) → S → Prop}
    (hsw : swapsWith (.ListComp elt [⟨t, it, ifs, 0⟩] scope pos) (some (.Name y py)) spos.line C.env = pure true)
    (hclos : closureFor scope C.env = pure cl) (hcell : ∀ x ∈ scope.names, x.2 ≠ .cell) (hkind : scope.kind = .function) (hnames : ∀ x ∈ scope.names, x.2 = .local → scope.names.lookup x.1 = some .local)
    (hs : ∀ x, foldedSetIterable it C.env x = pure x) (hne : names ≠ []) (hnd : names.Nodup) (n : Nat) (hn : n = C.pl.length)
    (hi : Ev C it T) (ha : ∀ L, Asg (C.comp scope cl L names) t Ta) (hc : ∀ L, Tst (C.comp scope cl L names) ifs Tc) (he : ∀ L, Ev (C.comp scope cl L names) elt Te) (hay : Asg C (.Name y py) Ty) :
    Ex C (.Assign [.Name y py] (.ListComp elt [⟨t, it, ifs, 0⟩] scope pos) spos) (fun Q => compW n T Ta Tc Te fun v => Ty v (Q .next)) := by
  subst hn
  intro E Q st F s _ k q
  rw [exec_Assign_Name_used _ _ _ _ hsw]
  refine wpAny_bind (wpAny_standAt (wpAny_bind ?_))
  show wpAny _ _ (do let _ ← comprehension (.ListComp elt [⟨t, it, ifs, 0⟩] scope pos) scope C.env _ (newList []) false (eval it C.env) (some (assign (.Name y py) C.env))) _ _ s
  refine wpAny_bind (comp_run (use := some (assign (.Name y py) C.env)) (Q := fun v => Ty v (Q .next)) hclos hcell hkind hnames hs hne hnd hi ha hc he k q fun D L F₁ st₁ s₁ F' st' s' p₁ l hL q' hm => ?_)
  obtain ⟨m, hn⟩ := hm
  show wpAny C.W.M C.A (assign (.Name y py) C.env (.ref D)) _ _ _
  refine (hay F' (.ref D) (.ref D) (.ref _)).then (Q := fun _ => Q .next) (.refl _) l.sim q' fun F₂ _ st₂ _ s₂ p₂ _ q₂ => ?_
  have hLo := l.off L (.head _)
  refine ⟨m, hn.at' fun o e => p₂.p.keep _ o e hLo.2.1 hLo.2.2.1, fun h' hs' => wpAny_pure (wpAny_pure ?_)⟩
  exact ⟨F₂, .next, st₂, p₁.trans ((l.step p₂).out (tk := s₂.toks) (by intro b m; rw [List.mem_singleton.mp m]; exact hL) fun b o hb e => (hs'.2 b (by simpa using hb)).trans e), .next, q₂⟩
end Mine

namespace Mine
open PySem PySem.W PyProof.Rows PySem.Calls

variable {C : Cx}

/-! ### new objects -/
theorem SimG.free {W : Wd} {F : Fz} {σ : St} {h : Heap} (g : SimG W F σ h) {a : Addr} (ha : h.get? a = none) : F a = none ∧ σ a = none := by
  constructor
  · cases e : F a with
    | none => rfl
    | some y => rw [g.fz _ _ e] at ha; cases ha
  · cases e : σ a with
    | none => rfl
    | some y => obtain ⟨o, h⟩ := (g.st _ _ e).2.there; rw [h] at ha; cases ha
/-- a new object of the store -/
theorem PostG.new {W : Wd} {F : Fz} {σ : St} {s : Shared} (g : SimG W F σ s.heap) {x : AO} {h' : Heap} {tk : Nat} {a : Addr} (ha : s.heap.get? a = none) (hk : ∀ b o, s.heap.get? b = some o → h'.get? b = some o) (hx : SO W F h' a x) :
    PostG [] W F σ s F (fun b => if b = a then some x else σ b) { s with heap := h', toks := tk } := by
  have z := g.free ha
  refine ⟨.refl _, ⟨g.base, fun b o e => hk b o (g.fz b o e), fun b y e => ?_⟩, fun b o e _ _ => hk b o e, fun b h => ?_, fun b h => .inl h, _, _, rfl⟩
  · by_cases hb : b = a
    · subst hb
      rw [if_pos rfl] at e; cases e
      exact ⟨z.1, hx⟩
    · rw [if_neg hb] at e
      exact ⟨(g.st b y e).1, (g.st b y e).2.mono (.refl _) fun o h => hk b o h⟩
  · by_cases hb : b = a
    · subst hb; exact .inr ⟨ha, by simp⟩
    · rw [if_neg hb] at h; exact .inl h
/-- a new frozen object -/
theorem PostG.frozen {W : Wd} {F : Fz} {σ : St} {s : Shared} (g : SimG W F σ s.heap) {o : Obj} {h' : Heap} {tk : Nat} {a : Addr} (ha : s.heap.get? a = none) (hk : ∀ b o, s.heap.get? b = some o → h'.get? b = some o) (ho : h'.get? a = some o) :
    PostG [] W F σ s (fun b => if b = a then some o else F b) σ { s with heap := h', toks := tk } := by
  have z := g.free ha
  have le : F.Le (fun b => if b = a then some o else F b) := fun b o' e => by
    have hb : b ≠ a := fun h => by rw [h, z.1] at e; cases e
    show (if b = a then _ else F b) = _
    rw [if_neg hb]; exact e
  refine ⟨le, ⟨fun b o' e => le _ _ (g.base b o' e), fun b o' e => ?_, fun b y e => ?_⟩, fun b o e _ _ => hk b o e, fun b h => .inl h, fun b h => ?_, _, _, rfl⟩
  · by_cases hb : b = a
    · subst hb
      rw [if_pos rfl] at e; cases e
      exact ho
    · rw [if_neg hb] at e
      exact hk b o' (g.fz b o' e)
  · have hb : b ≠ a := fun h => by rw [h, z.2] at e; cases e
    exact ⟨by show (if b = a then _ else F b) = none; rw [if_neg hb]; exact (g.st b y e).1, (g.st b y e).2.mono le fun o h => hk b o h⟩
  · by_cases hb : b = a
    · subst hb; exact .inr (.inr ⟨ha, by simp⟩)
    · rw [if_neg hb] at h; exact .inl h
/-- an object of the store changes -/
theorem PostG.change {W : Wd} {F : Fz} {σ : St} {s : Shared} (g : SimG W F σ s.heap) {x y : AO} {h' : Heap} {tk : Nat} {a : Addr} (ha : σ a = some x) (hk : ∀ b o, b ≠ a → s.heap.get? b = some o → h'.get? b = some o) (hy : SO W F h' a y) :
    PostG [] W F σ s F (fun b => if b = a then some y else σ b) { s with heap := h', toks := tk } := by
  have z := (g.st a x ha).1
  refine ⟨.refl _, ⟨g.base, fun b o e => hk b o (fun h => by rw [h, z] at e; cases e) (g.fz b o e), fun b u e => ?_⟩, fun b o e hb _ => hk b o (fun h => by rw [h, ha] at hb; cases hb) e, fun b h => ?_, fun b h => .inl h, _, _, rfl⟩
  · by_cases hb : b = a
    · subst hb
      rw [if_pos rfl] at e; cases e
      exact ⟨z, hy⟩
    · rw [if_neg hb] at e
      exact ⟨(g.st b u e).1, (g.st b u e).2.mono (.refl _) fun o h => hk b o hb h⟩
  · by_cases hb : b = a
    · subst hb; exact .inl (by rw [ha]; simp)
    · rw [if_neg hb] at h; exact .inl h
/-- an object of the store is frozen: a list -/
theorem PostG.freeze {W : Wd} {F : Fz} {σ : St} {s : Shared} (g : SimG W F σ s.heap) {xs : List V} {a : Addr} (ha : σ a = some (.list xs)) :
    ∃ F', PostG [] W F σ s F' (fun b => if b = a then none else σ b) s ∧ R F' (.list xs) (.ref a) := by
  obtain ⟨z, vs, n, ho, r⟩ := g.st a _ ha
  have le : F.Le (fun b => if b = a then some (listOf vs.toArray n) else F b) := fun b o' e => by
    have hb : b ≠ a := fun h => by rw [h, z] at e; cases e
    show (if b = a then _ else F b) = _
    rw [if_neg hb]; exact e
  refine ⟨_, ⟨le, ⟨fun b o' e => le _ _ (g.base b o' e), fun b o' e => ?_, fun b y e => ?_⟩, fun b o e _ _ => e, fun b h => ?_, fun b h => ?_, _, _, rfl⟩, .list (if_pos rfl) (r.mono le)⟩
  · by_cases hb : b = a
    · subst hb
      rw [if_pos rfl] at e; cases e
      exact ho
    · rw [if_neg hb] at e
      exact g.fz b o' e
  · by_cases hb : b = a
    · rw [if_pos hb] at e; cases e
    · rw [if_neg hb] at e
      exact ⟨by show (if b = a then _ else F b) = none; rw [if_neg hb]; exact (g.st b y e).1, (g.st b y e).2.mono le fun o h => h⟩
  · by_cases hb : b = a
    · rw [if_pos hb] at h; exact absurd rfl h
    · rw [if_neg hb] at h; exact .inl h
  · by_cases hb : b = a
    · subst hb; exact .inr (.inl (by rw [ha]; simp))
    · rw [if_neg hb] at h; exact .inl h

abbrev newWS (x : AO) (Q : V → S → Prop) (st : S) : Prop := ∀ a, st.σ a = none → Q (.ref a) (st.put a x)

/-- a list that is made -/
theorem made_list {F : Fz} {st : S} {s : Shared} {Q : V → S → Prop} {xs : List V} {vs : List Value} {n : Nat} (k : Sim C F st s.heap) (r : RAll F xs vs) (q : newWS (.list xs) Q st) :
    ∃ F' x st', Post C F st s F' st' { s with heap := s.heap.push (listOf vs.toArray n) } ∧ R F' x (.ref s.heap.objs.size) ∧ Q x st' :=
  ⟨F, .ref _, st.put s.heap.objs.size (.list xs), Post.ofG k (PostG.new (tk := s.toks) k.g get_size (fun _ _ e => Heap.get?_push_of_some _ e) ⟨vs, n, Heap.get?_push_size _ rfl, r⟩), .ref _, q _ (k.g.free get_size).2⟩
/-- a tuple that is made -/
theorem made_tuple {F : Fz} {st : S} {s : Shared} {Q : V → S → Prop} {xs : List V} {vs : List Value} {n : Nat} (k : Sim C F st s.heap) (r : RAll F xs vs) (q : Q (.tuple xs) st) :
    ∃ F' x st', Post C F st s F' st' { s with heap := s.heap.push (tupOf vs n) } ∧ R F' x (.ref s.heap.objs.size) ∧ Q x st' :=
  have p := PostG.frozen (o := tupOf vs n) (tk := s.toks) k.g get_size (fun _ _ e => Heap.get?_push_of_some _ e) (Heap.get?_push_size _ rfl)
  ⟨_, .tuple xs, st, Post.ofG k p, .tuple (if_pos rfl) (r.mono p.ext), q⟩

/-- an expression whose list is frozen at once -/
abbrev fzW (T : (V → S → Prop) → S → Prop) (Q : V → S → Prop) : S → Prop := T fun x st => ∃ a xs, x = .ref a ∧ st.σ a = some (.list xs) ∧ Q (.list xs) (st.del a)
theorem ev_freeze {e : Expr} {T : (V → S → Prop) → S → Prop} (h : Ev C e T) : Ev C e (fzW T) := by
  intro E Q st F s hF k q
  refine h.then hF k q fun F₁ x st₁ v s₁ p₁ r₁ ⟨a, xs, hx, ha, q₁⟩ => ?_
  subst hx
  obtain ⟨F₂, p₂, r₂⟩ := PostG.freeze p₁.sim.g ha
  cases r₁
  exact ⟨F₂, .list xs, st₁.del a, p₁.trans (Post.ofG p₁.sim p₂), r₂, q₁⟩

/-! ### displays -/
inductive EvAll (C : Cx) : List Expr → ((List V → S → Prop) → S → Prop) → Prop
  | nil : EvAll C [] (fun Q st => Q [] st)
  | cons {e : Expr} {es : List Expr} {T : (V → S → Prop) → S → Prop} {Ts : (List V → S → Prop) → S → Prop} : isStarred e = false → Ev C e T → EvAll C es Ts → EvAll C (e :: es) (fun Q => T fun x => Ts fun xs => Q (x :: xs))
theorem starEach_cons {e : Expr} {es : List Expr} {env : Env} (h : isStarred e = false) : starEach (e :: es) env = (false, eval e env) :: starEach es env := by
  cases e <;> first | rfl | (simp [isStarred] at h)
theorem EvAll.run {es : List Expr} {Ts : (List V → S → Prop) → S → Prop} (h : EvAll C es Ts) (pos : Pos) : Imp C F0 RAll (spliced (backTo pos (starEach es C.env))) Ts := by
  induction h with
  | nil => exact fun E Q st F s _ k q => wpAny_pure ⟨F, [], st, .refl k, .nil, q⟩
  | @cons e es T Ts hs he _ ih =>
    intro E Q st F s hF k q
    rw [starEach_cons hs]
    show wpAny _ _ (do let v ← eval e C.env; let here ← (pure [v] : Sem (List Value)); return here ++ (← holding here (spliced (backTo pos (starEach es C.env))))) _ _ _
    refine wpAny_bind (he.then hF k q fun F₁ x st₁ v s₁ p₁ r₁ q₁ => ?_)
    refine wpAny_bind (wpAny_pure (wpAny_bind (wpAny_holding ?_)))
    exact ih.then (F0.le _) p₁.sim q₁ fun F₂ xs st₂ vs s₂ p₂ r₂ q₂ => wpAny_pure ⟨F₂, x :: xs, st₂, p₁.trans p₂, .cons (r₁.mono p₂.ext) r₂, q₂⟩
theorem EvAll.len {es : List Expr} {Ts : (List V → S → Prop) → S → Prop} (h : EvAll C es Ts) : ∀ {Q : List V → S → Prop} {st : S}, True := fun {_ _} => trivial
theorem ev_list {es : List Expr} {pos : Pos} {Ts : (List V → S → Prop) → S → Prop} (h : EvAll C es Ts) : Ev C (.List es pos) (fun Q => Ts fun xs st => xs.length ≤ sizeLine ∧ newWS (.list xs) Q st) := by
  intro E Q st F s hF k q
  refine List_ ((h.run pos).then hF k q fun F₁ xs st₁ vs s₁ p₁ r₁ ⟨hsz, q₁⟩ => ?_)
  refine wpAny_newList ?_ (by rw [← r₁.length]; exact hsz)
  obtain ⟨F₂, x, st₂, p₂, r₂, q₂⟩ := made_list (n := 0) p₁.sim r₁ q₁
  exact ⟨F₂, x, st₂, p₁.trans p₂, r₂, q₂⟩
theorem ev_tuple {es : List Expr} {n : _} {pos : Pos} {Ts : (List V → S → Prop) → S → Prop} (h : EvAll C es Ts) : Ev C (.Tuple es n pos) (fun Q => Ts fun xs st => xs.length ≤ sizeLine ∧ Q (.tuple xs) st) := by
  intro E Q st F s hF k q
  refine Tuple_ ((h.run pos).then hF k q fun F₁ xs st₁ vs s₁ p₁ r₁ ⟨hsz, q₁⟩ => ?_)
  refine wpAny_newTuple ?_ (by rw [← r₁.length]; exact hsz)
  obtain ⟨F₂, x, st₂, p₂, r₂, q₂⟩ := made_tuple (n := 0) p₁.sim r₁ q₁
  exact ⟨F₂, x, st₂, p₁.trans p₂, r₂, q₂⟩

/-! ### lists at hand -/
def getL (st : S) : V → Option (List V)
  | .list xs => some xs
  | .ref a => match st.σ a with
    | some (.list xs) => some xs
    | _ => none
  | _ => none
theorem getL_ok {F : Fz} {st : S} {h : Heap} {x : V} {v : Value} {xs : List V} (k : Sim C F st h) (r : R F x v) (e : getL st x = some xs) : ∃ a vs n, v = .ref a ∧ h.get? a = some (listOf vs.toArray n) ∧ RAll F xs vs := by
  cases r with
  | @list a vs n ys ho rs => cases e; exact ⟨a, vs, n, rfl, k.g.fz _ _ ho, rs⟩
  | ref a =>
    simp only [getL] at e
    split at e
    · rename_i ys hs
      cases e
      obtain ⟨_, vs, n, ho, rs⟩ := k.g.st a _ hs
      exact ⟨a, vs, n, rfl, ho, rs⟩
    · cases e
  | _ => cases e

end Mine

namespace Mine
open PySem PySem.W PyProof.Rows PySem.Calls

variable {C : Cx}
abbrev PV := (V → S → Prop) → S → Prop
abbrev PB := (Bool → S → Prop) → S → Prop
abbrev RC : Fz → Bool → Value → Prop := fun _ z v => v = Value.bool z

/-- an int comes out, tokens alone go on -/
theorem int_out {F : Fz} {st : S} {s : Shared} {Q : V → S → Prop} {i : Int} {t n : Nat} (k : Sim C F st s.heap) (q : Q (.int i) st) : ∃ F' x st', Post C F st s F' st' { s with toks := n } ∧ R F' x (.int i t) ∧ Q x st' :=
  ⟨F, .int i, st, k.toks n, .int _ _, q⟩

/-! ### arithmetic -/
def addW (x y : V) (Q : V → S → Prop) (st : S) : Prop := match x, y with
  | .int i, .int j => Q (.int (i + j)) st
  | .bytes a, .bytes b => a.length + b.length ≤ 16777216 ∧ Q (.bytes (a ++ b)) st
  | x, y => ∃ xs ys, getL st x = some xs ∧ getL st y = some ys ∧ xs.length + ys.length ≤ sizeLine ∧ newWS (.list (xs ++ ys)) Q st
theorem add_lists_ok {F : Fz} {x y : V} {a b : Value} (rx : R F x a) (ry : R F y b) : Imp C F R (binaryOp .Add a b) (fun Q st => ∃ xs ys, getL st x = some xs ∧ getL st y = some ys ∧ xs.length + ys.length ≤ sizeLine ∧ newWS (.list (xs ++ ys)) Q st) := by
  rintro E Q st F' s hF k ⟨xs, ys, hx, hy, hsz, q⟩
  obtain ⟨l, vs, n, rfl, ho, rs⟩ := getL_ok k (rx.mono hF) hx
  obtain ⟨l', ws, m, rfl, ho', rs'⟩ := getL_ok k (ry.mono hF) hy
  have e : vs.toArray ++ ws.toArray = (vs ++ ws).toArray := by simp
  exact P.add_list ho ho' (by rw [e]; exact made_list (n := 0) k (rs.append rs') q) (by simp [← rs.length, ← rs'.length]; exact hsz)
theorem add_ok (F : Fz) (x y : V) (a b : Value) (rx : R F x a) (ry : R F y b) : Imp C F R (binaryOp .Add a b) (addW x y) := by
  have dflt := add_lists_ok (C := C) rx ry
  cases rx with
  | int i t =>
    cases ry with
    | int j u => exact fun E Q st F' s hF k q => add_int (int_out k q)
    | _ => exact dflt
  | bytes t hb =>
    rename_i b xs
    cases ry with
    | bytes u hc =>
      rename_i c ys
      rintro E Q st F' s hF k ⟨hsz, q⟩
      refine PySem.W.KBy.add_bytes (by rw [← hb, ← hc] at hsz; simpa using hsz) fun t' n => ⟨F', .bytes (xs ++ ys), st, k.toks n, .bytes _ ?_, q⟩
      unfold BytesAre at *
      simp [hb, hc]
    | _ => exact dflt
  | _ => exact dflt
abbrev intsW (P : Int → Int → Prop) (f : Int → Int → Int) (x y : V) (Q : V → S → Prop) (st : S) : Prop := ∃ i j, x = .int i ∧ y = .int j ∧ P i j ∧ Q (.int (f i j)) st
theorem ints_ok {op : Operator} {P : Int → Int → Prop} {f : Int → Int → Int}
    (h : ∀ (i j : Int) (t u : Tok) (A : Around) (E : Value → Shared → Prop) (Q : Value → Shared → Prop) (s : Shared), P i j → (∀ t' n, Q (.int (f i j) t') { s with toks := n }) → wpAny C.W.M A (binaryOp op (.int i t) (.int j u)) Q E s) (F : Fz) (x y : V) (a b : Value) (rx : R F x a) (ry : R F y b) :
    Imp C F R (binaryOp op a b) (intsW P f x y) := by
  rintro E Q st F' s hF k ⟨i, j, hx, hy, hp, q⟩
  subst hx; subst hy
  cases rx; cases ry
  exact h i j _ _ _ _ _ _ hp fun t' n => int_out k q
abbrev subW := intsW (fun _ _ => True) (· - ·)
theorem sub_ok (F : Fz) (x y : V) (a b : Value) (rx : R F x a) (ry : R F y b) : Imp C F R (binaryOp .Sub a b) (subW x y) := by
  refine ints_ok (C := C) ?_ F x y a b rx ry
  exact fun _ _ _ _ _ _ _ _ _ q => sub_int (q _ _)
abbrev andW := intsW (fun _ _ => True) Builtin.bitAnd
theorem and_ok (F : Fz) (x y : V) (a b : Value) (rx : R F x a) (ry : R F y b) : Imp C F R (binaryOp .BitAnd a b) (andW x y) := by
  refine ints_ok (C := C) ?_ F x y a b rx ry
  exact fun _ _ _ _ _ _ _ _ _ q => and_int (q _ _)
abbrev orW := intsW (fun _ _ => True) Builtin.bitOr
theorem or_ok (F : Fz) (x y : V) (a b : Value) (rx : R F x a) (ry : R F y b) : Imp C F R (binaryOp .BitOr a b) (orW x y) := by
  refine ints_ok (C := C) ?_ F x y a b rx ry
  exact fun _ _ _ _ _ _ _ _ _ q => or_int (q _ _)
abbrev xorW := intsW (fun _ _ => True) Builtin.bitXor
theorem xor_ok (F : Fz) (x y : V) (a b : Value) (rx : R F x a) (ry : R F y b) : Imp C F R (binaryOp .BitXor a b) (xorW x y) := by
  refine ints_ok (C := C) ?_ F x y a b rx ry
  exact fun _ _ _ _ _ _ _ _ _ q => xor_int (q _ _)
abbrev fdivW := intsW (fun _ j => 0 < j ∧ j < 1073741824) (· / ·)
theorem fdiv_ok (F : Fz) (x y : V) (a b : Value) (rx : R F x a) (ry : R F y b) : Imp C F R (binaryOp .FloorDiv a b) (fdivW x y) := by
  refine ints_ok (C := C) ?_ F x y a b rx ry
  intro i j t u A E Q s hp q
  obtain ⟨h0, h1⟩ := hp
  refine floordiv_int (by omega) ?_ (.inl (PyProof.noPylong_small (by omega)))
  rw [Int.fdiv_eq_ediv_of_nonneg _ (Int.le_of_lt h0)]
  exact q _ _
abbrev modW := intsW (fun _ j => 0 < j) (· % ·)
theorem mod_ok (F : Fz) (x y : V) (a b : Value) (rx : R F x a) (ry : R F y b) : Imp C F R (binaryOp .Mod a b) (modW x y) := by
  refine ints_ok (C := C) ?_ F x y a b rx ry
  intro i j t u A E Q s hp q
  refine PyProof.Rows.mod_int (by omega) ?_
  rw [Int.fmod_eq_emod_of_nonneg _ (Int.le_of_lt hp)]
  exact q _ _
abbrev rshW := intsW (fun _ j => 0 ≤ j) (fun i j => i / 2 ^ j.toNat)
theorem rsh_ok (F : Fz) (x y : V) (a b : Value) (rx : R F x a) (ry : R F y b) : Imp C F R (binaryOp .RShift a b) (rshW x y) := by
  refine ints_ok (C := C) ?_ F x y a b rx ry
  intro i j t u A E Q s hp q
  refine rshift_int hp ?_
  rw [Int.fdiv_eq_ediv_of_nonneg _ (Int.pow_nonneg (by decide))]
  exact q _ _
abbrev lshW := intsW (fun i j => 0 ≤ j ∧ j ≤ 1000 ∧ i.natAbs < 2 ^ 64) (fun i j => i * 2 ^ j.toNat)
theorem lsh_ok (F : Fz) (x y : V) (a b : Value) (rx : R F x a) (ry : R F y b) : Imp C F R (binaryOp .LShift a b) (lshW x y) := by
  refine ints_ok (C := C) ?_ F x y a b rx ry
  exact fun i j t u A E Q s hp q =>
  lshift_int_small hp.1 (by omega) hp.2.2 (q _ _)
abbrev powW := intsW (fun i j => (i = 2 ∨ i = 3) ∧ 0 ≤ j ∧ j ≤ 1000) (fun i j => i ^ j.toNat)
theorem pow_ok (F : Fz) (x y : V) (a b : Value) (rx : R F x a) (ry : R F y b) : Imp C F R (binaryOp .Pow a b) (powW x y) := by
  refine ints_ok (C := C) ?_ F x y a b rx ry
  intro i j t u A E Q s hp q
  obtain ⟨hi, h0, h1⟩ := hp
  refine pow_int h0 ?_ (q _ _)
  have : Builtin.Int.intBits i = 2 := by rcases hi with rfl | rfl <;> decide +kernel
  rw [this]; omega
def mulW (x y : V) (Q : V → S → Prop) (st : S) : Prop := match x, y with
  | .int i, .int j => (-(2 ^ 62) < i ∧ i < 2 ^ 62) ∧ Q (.int (i * j)) st
  | x, .int j => ∃ z, getL st x = some [z] ∧ j ≤ 1000000 ∧ -1000000 ≤ j ∧ newWS (.list (List.replicate j.toNat z)) Q st
  | _, _ => False
theorem foldl_rep (u : Value) : ∀ (n : Nat) (acc : Array Value), List.foldl (fun x1 x2 => x1 ++ x2) acc (List.replicate n #[u]) = acc ++ (List.replicate n u).toArray
  | 0, acc => by simp
  | n + 1, acc => by
    rw [List.replicate_succ, List.foldl_cons, foldl_rep u n]
    apply Array.ext'
    simp [List.replicate_succ]
theorem RAll.replicate {F : Fz} {x : V} {v : Value} (r : R F x v) : ∀ n, RAll F (List.replicate n x) (List.replicate n v)
  | 0 => .nil
  | n + 1 => .cons r (RAll.replicate r n)
theorem mul_list_ok {F : Fz} {x : V} {j : Int} {u : Tok} {a : Value} (rx : R F x a) : Imp C F R (binaryOp .Mult a (.int j u)) (fun Q st => ∃ z, getL st x = some [z] ∧ j ≤ 1000000 ∧ -1000000 ≤ j ∧ newWS (.list (List.replicate j.toNat z)) Q st) := by
  rintro E Q st F' s hF k ⟨z, hx, h1, h2, q⟩
  obtain ⟨l, vs, n, rfl, ho, rs⟩ := getL_ok k (rx.mono hF) hx
  cases rs with
  | @cons z v zs ws r rs =>
  cases rs
  refine wpAny_binaryOp_repeat_ref (T := "list") (U := "int") (by decide) ⟨_, ho, rfl⟩ (fun s' => typeIs_int s' j u) noFill_list_mul PySem.F.fills_int_mul PySem.F.slot_int_rmul repeat_list PySem.F.slot_int_index.lookup
    (call_meets PySem.F.slot_int_rmul (typeIs_int s j u) PySem.F.entry_int_rmul (PySem.F.args_int_rmul_2 _ _) (int___rmul___int_list j u l [v].toArray n)
      ⟨ho, rfl, ⟨_, ho, rfl⟩, call_meets PySem.F.slot_list_mul ⟨_, ho, rfl⟩ PySem.F.entry_list_mul (PySem.F.args_list_mul_2 _ _)
        (AutoListH.list___mul___list_int_3 l [v].toArray n j u (by simp [Builtin.List.listFitsIndex]; omega) (by simp; omega) (by simp [Builtin.List.listTooLong, sizeLine]; omega))
        ⟨ho, ?_⟩⟩)
  have e : List.foldl (fun x1 x2 => x1 ++ x2) #[] (List.replicate (if [v].toArray.isEmpty = true then 0 else j.toNat) [v].toArray) = (List.replicate j.toNat v).toArray := by
    have := foldl_rep v j.toNat #[]
    simpa using this
  show ∃ F' x st', _
  rw [e]
  exact made_list (n := 0) k (RAll.replicate r j.toNat) q
end Mine

namespace Mine
open PySem PySem.W PyProof.Rows PySem.Calls

variable {C : Cx}

theorem mul_ok (F : Fz) (x y : V) (a b : Value) (rx : R F x a) (ry : R F y b) : Imp C F R (binaryOp .Mult a b) (mulW x y) := by
  cases ry with
  | int j u =>
    have dflt := mul_list_ok (C := C) (j := j) (u := u) rx
    cases rx with
    | int i t =>
      rintro E Q st F' s hF k ⟨⟨h1, h2⟩, q⟩
      exact mul_int (int_out k q) (IntMulOk.of_left (intBits_le_64 (by omega) (by omega)))
    | _ => exact dflt
  | _ => intro E Q st F' s hF k q; cases rx <;> exact q.elim
theorem neg_ok (F : Fz) (x : V) (a : Value) (rx : R F x a) : Imp C F R (unaryOp .USub a) (fun Q st => ∃ i, x = .int i ∧ Q (.int (-i)) st) := by
  rintro E Q st F' s hF k ⟨i, hx, q⟩
  subst hx
  cases rx
  exact neg_int (int_out k q)

/-! ### truth -/
def truW (x : V) (Q : Bool → S → Prop) (st : S) : Prop := match x with
  | .bool b => Q b st
  | .int i => Q (i != 0) st
  | x => ∃ xs, getL st x = some xs ∧ xs.length ≤ sizeLine ∧ Q (!xs.isEmpty) st
theorem tru_ok (F : Fz) (x : V) (a : Value) (rx : R F x a) : Imp C F RB (truthy a) (truW x) := by
  have dflt : Imp C F RB (truthy a) (fun Q st => ∃ xs, getL st x = some xs ∧ xs.length ≤ sizeLine ∧ Q (!xs.isEmpty) st) := by
    rintro E Q st F' s hF k ⟨xs, hx, hsz, q⟩
    obtain ⟨l, vs, n, rfl, ho, rs⟩ := getL_ok k (rx.mono hF) hx
    have hl := rs.length
    refine wpAny_truthy_list (PySem.IsL.isList (n := n) ho) (by simp [← hl]; unfold sizeLine at hsz; omega) ⟨F', _, st, k.toks _, ?_, q⟩
    cases xs <;> cases vs <;> simp_all
  cases rx with
  | bool b => exact fun E Q st F' s hF k q => wpAny_truthy_bool ⟨F', b, st, .refl k, rfl, q⟩
  | int i t => exact fun E Q st F' s hF k q => truthy_int ⟨F', _, st, .refl k, rfl, q⟩
  | _ => exact dflt
theorem evT_val {e : Expr} {T : PV} (h : Ev C e T) (he : ∀ w : Sem Value, PySem.isTrue e C.env w = (do let v ← w; standAt e.pos; holding [v] (truthy v)) := by intro _; rfl) : EvT C e (fun Q => T fun x => truW x Q) := by
  intro E Q st F s hF k q
  refine wpAny_isTrue_value (h.then hF k q fun F₁ x st₁ a s₁ p₁ ra q₁ => ?_) (he _)
  exact (tru_ok F₁ x a ra).then (.refl _) p₁.sim q₁ fun F₂ z st₂ v s₂ p₂ rz q₂ => ⟨F₂, z, st₂, p₁.trans p₂, rz, q₂⟩

/-! ### data for == and in -/
def toPy (σ : St) : Nat → V → Option PyData
  | _, .none => some .none
  | _, .int i => some (.int i)
  | n + 1, .tuple xs => (xs.mapM (toPy σ n)).map .tuple
  | n + 1, .list xs => (xs.mapM (toPy σ n)).map .list
  | n + 1, .ref a => match σ a with
    | some (.list xs) => (xs.mapM (toPy σ n)).map .list
    | _ => none
  | _, _ => none
theorem mapM_cons' {α β : Type} {f : α → Option β} {x : α} {xs : List α} {ds : List β} (h : (x :: xs).mapM f = some ds) : ∃ d r, ds = d :: r ∧ f x = some d ∧ xs.mapM f = some r := by
  rw [List.mapM_cons] at h
  cases e : f x with
  | none => rw [e] at h; cases h
  | some d =>
    rw [e] at h
    cases e' : xs.mapM f with
    | none => simp [e'] at h
    | some r => simp [e'] at h; exact ⟨d, r, h.symm, rfl, rfl⟩
theorem toPy_all {F : Fz} {h : Heap} {f : V → Option PyData} {n : Nat} (hf : ∀ {x v d}, R F x v → f x = some d → (∃ as, Reads h v d as) ∧ d.canLay0 = true ∧ d.depth ≤ n) :
    ∀ {xs : List V} {vs : List Value} {ds : List PyData}, RAll F xs vs → xs.mapM f = some ds → (∃ as, ReadsAll h vs ds as) ∧ PyData.canLayAll0 ds = true ∧ PyData.depthAll ds ≤ n := by
  intro xs
  induction xs with
  | nil => intro vs ds h e; cases h; cases e; exact ⟨⟨_, .nil⟩, rfl, Nat.zero_le _⟩
  | cons x xs ih =>
    intro vs ds h e
    cases h with
    | cons r rs =>
      obtain ⟨d, r', rfl, e1, e2⟩ := mapM_cons' e
      obtain ⟨⟨as, a⟩, b, c⟩ := hf r e1
      obtain ⟨⟨bs, a'⟩, b', c'⟩ := ih rs e2
      exact ⟨⟨_, .cons a a'⟩, by simp [PyData.canLayAll0, b, b'], by simp [PyData.depthAll]; omega⟩
theorem toPy_ok {F : Fz} {st : S} {h : Heap} (k : Sim C F st h) : ∀ {n : Nat} {x : V} {v : Value} {d : PyData}, R F x v → toPy st.σ n x = some d → (∃ as, Reads h v d as) ∧ d.canLay0 = true ∧ d.depth ≤ n
  | n, _, _, _, .none, e => by cases n <;> (cases e; exact ⟨⟨_, .none⟩, rfl, Nat.zero_le _⟩)
  | n, _, _, _, .int i t, e => by cases n <;> (cases e; exact ⟨⟨_, .int _ _⟩, rfl, Nat.zero_le _⟩)
  | n, _, _, _, .bool _, e => by cases n <;> cases e
  | n, _, _, _, .bytes _ _, e => by cases n <;> cases e
  | n, _, _, _, .range _, e => by cases n <;> cases e
  | n, _, _, _, .raw _, e => by cases n <;> cases e
  | 0, _, _, _, .tuple _ _, e => by cases e
  | 0, _, _, _, .list _ _, e => by cases e
  | 0, _, _, _, .ref _, e => by cases e
  | n + 1, _, _, d, .tuple (xs := xs) ho rs, e => by
    simp only [toPy] at e
    obtain ⟨ds, e1, rfl⟩ := Option.map_eq_some_iff.mp e
    obtain ⟨⟨as, a⟩, b, c⟩ := toPy_all (fun {x v d} r e => toPy_ok k (n := n) r e) rs e1
    exact ⟨⟨_, .tuple (k.g.fz _ _ ho) rfl rfl (by simpa using a)⟩, b, Nat.succ_le_succ c⟩
  | n + 1, _, _, d, .list (xs := xs) ho rs, e => by
    simp only [toPy] at e
    obtain ⟨ds, e1, rfl⟩ := Option.map_eq_some_iff.mp e
    obtain ⟨⟨as, a⟩, b, c⟩ := toPy_all (fun {x v d} r e => toPy_ok k (n := n) r e) rs e1
    exact ⟨⟨_, .list (k.g.fz _ _ ho) rfl rfl (by simpa using a)⟩, b, Nat.succ_le_succ c⟩
  | n + 1, _, _, d, .ref a, e => by
    simp only [toPy] at e
    split at e
    · rename_i xs hs
      obtain ⟨ds, e1, rfl⟩ := Option.map_eq_some_iff.mp e
      obtain ⟨_, vs, m, ho, rs⟩ := k.g.st a _ hs
      obtain ⟨⟨as, a⟩, b, c⟩ := toPy_all (fun {x v d} r e => toPy_ok k (n := n) r e) rs e1
      exact ⟨⟨_, .list ho rfl rfl (by simpa using a)⟩, b, Nat.succ_le_succ c⟩
    · cases e
abbrev dataW (f : PyData → PyData → Bool) (x y : V) (Q : Bool → S → Prop) (st : S) : Prop := ∃ d e, toPy st.σ 8 x = some d ∧ toPy st.σ 8 y = some e ∧ Q (f d e) st
abbrev eqW := dataW PyData.eqv
abbrev neW := dataW fun d e => !PyData.eqv d e
theorem shaped_of {d : PyData} (h1 : d.canLay0 = true) (h2 : d.depth ≤ 8) : SeqAt.shaped d = true := by
  unfold SeqAt.shaped; rw [h1, Bool.true_and]; exact decide_eq_true (Nat.le_trans h2 (by decide))
theorem eq_ok (F : Fz) (x y : V) (a b : Value) (rx : R F x a) (ry : R F y b) : Imp C F RC (compareOp .Eq a b) (eqW x y) := by
  rintro E Q st F' s hF k ⟨d, e, hd, he, q⟩
  obtain ⟨⟨as, ra⟩, la, da⟩ := toPy_ok k (rx.mono hF) hd
  obtain ⟨⟨bs, rb⟩, lb, db⟩ := toPy_ok k (ry.mono hF) he
  exact eq_dataH ra rb (shaped_of la da) (shaped_of lb db) (by have := k.ok.units; omega) ⟨F', _, st, .refl k, rfl, q⟩
theorem ne_ok (F : Fz) (x y : V) (a b : Value) (rx : R F x a) (ry : R F y b) : Imp C F RC (compareOp .NotEq a b) (neW x y) := by
  rintro E Q st F' s hF k ⟨d, e, hd, he, q⟩
  obtain ⟨⟨as, ra⟩, la, da⟩ := toPy_ok k (rx.mono hF) hd
  obtain ⟨⟨bs, rb⟩, lb, db⟩ := toPy_ok k (ry.mono hF) he
  exact ne_dataH ra rb (shaped_of la da) (shaped_of lb db) (by have := k.ok.units; omega) ⟨F', _, st, .refl k, rfl, q⟩
abbrev inW (x y : V) (Q : Bool → S → Prop) (st : S) : Prop := ∃ d es, toPy st.σ 8 x = some d ∧ toPy st.σ 8 y = some (.list es) ∧ Q (es.any fun z => PyData.eqv z d) st
abbrev notInW (x y : V) (Q : Bool → S → Prop) (st : S) : Prop := ∃ d es, toPy st.σ 8 x = some d ∧ toPy st.σ 8 y = some (.list es) ∧ Q (!es.any fun z => PyData.eqv z d) st
theorem in_ok (F : Fz) (x y : V) (a b : Value) (rx : R F x a) (ry : R F y b) : Imp C F RC (compareOp .In a b) (inW x y) := by
  rintro E Q st F' s hF k ⟨d, e, hd, he, q⟩
  obtain ⟨⟨as, ra⟩, la, da⟩ := toPy_ok k (rx.mono hF) hd
  obtain ⟨⟨bs, rb⟩, lb, db⟩ := toPy_ok k (ry.mono hF) he
  refine SeqAt.in_list_reads rb ra lb la ?_ ⟨F', _, st, .refl k, rfl, q⟩
  have := k.ok.units
  have := Nat.min_le_right (PyData.depthAll e) d.depth
  omega
theorem notIn_ok (F : Fz) (x y : V) (a b : Value) (rx : R F x a) (ry : R F y b) : Imp C F RC (compareOp .NotIn a b) (notInW x y) := by
  rintro E Q st F' s hF k ⟨d, e, hd, he, q⟩
  obtain ⟨⟨as, ra⟩, la, da⟩ := toPy_ok k (rx.mono hF) hd
  obtain ⟨⟨bs, rb⟩, lb, db⟩ := toPy_ok k (ry.mono hF) he
  refine SeqAt.notIn_list_reads rb ra lb la ?_ ⟨F', _, st, .refl k, rfl, q⟩
  have := k.ok.units
  have := Nat.min_le_right (PyData.depthAll e) d.depth
  omega

/-! ### order -/
theorem icmp_ok {op : CmpOp} {f : Int → Int → Bool}
    (h : ∀ (i j : Int) (t u : Tok) (A : Around) (E : Value → Shared → Prop) (Q : Value → Shared → Prop) (s : Shared), Q (.bool (f i j)) s → wpAny C.W.M A (compareOp op (.int i t) (.int j u)) Q E s) (F : Fz) (x y : V) (a b : Value) (rx : R F x a) (ry : R F y b) :
    Imp C F RC (compareOp op a b) (fun Q st => ∃ i j, x = .int i ∧ y = .int j ∧ Q (f i j) st) := by
  rintro E Q st F' s hF k ⟨i, j, hx, hy, q⟩
  subst hx; subst hy
  cases rx; cases ry
  exact h i j _ _ _ _ _ _ ⟨F', _, st, .refl k, rfl, q⟩
abbrev icmpW (f : Int → Int → Bool) (x y : V) (Q : Bool → S → Prop) (st : S) : Prop := ∃ i j, x = .int i ∧ y = .int j ∧ Q (f i j) st
theorem le_ok (F : Fz) (x y : V) (a b : Value) (rx : R F x a) (ry : R F y b) : Imp C F RC (compareOp .LtE a b) (icmpW (fun i j => decide (i ≤ j)) x y) := icmp_ok (fun _ _ _ _ _ _ _ _ q => PyProof.Rows.le_int q) F x y a b rx ry
theorem gt_ok (F : Fz) (x y : V) (a b : Value) (rx : R F x a) (ry : R F y b) : Imp C F RC (compareOp .Gt a b) (icmpW (fun i j => decide (j < i)) x y) := icmp_ok (fun _ _ _ _ _ _ _ _ q => PyProof.Rows.gt_int q) F x y a b rx ry
theorem ge_ok (F : Fz) (x y : V) (a b : Value) (rx : R F x a) (ry : R F y b) : Imp C F RC (compareOp .GtE a b) (icmpW (fun i j => decide (j ≤ i)) x y) := icmp_ok (fun _ _ _ _ _ _ _ _ q => PyProof.Rows.ge_int q) F x y a b rx ry
theorem lti_ok (F : Fz) (x y : V) (a b : Value) (rx : R F x a) (ry : R F y b) : Imp C F RC (compareOp .Lt a b) (icmpW (fun i j => decide (i < j)) x y) := icmp_ok (fun _ _ _ _ _ _ _ _ q => PyProof.Rows.lt_int q) F x y a b rx ry

/-! tuples of ints, the lesser first -/
def lexLt : List Int → List Int → Bool
  | [], [] => false
  | [], _ :: _ => true
  | _ :: _, [] => false
  | x :: xs, y :: ys => if x == y then lexLt xs ys else decide (x < y)
inductive IntsV : List V → List Int → Prop
  | nil : IntsV [] []
  | cons {i : Int} {xs : List V} {is : List Int} : IntsV xs is → IntsV (.int i :: xs) (i :: is)
def intsOf : List V → Option (List Int)
  | [] => some []
  | .int i :: r => (intsOf r).map (i :: ·)
  | _ :: _ => none
theorem intsOf_all {F : Fz} : ∀ {xs : List V} {vs : List Value} {is : List Int}, RAll F xs vs → intsOf xs = some is → IntsAre vs is := by
  intro xs
  induction xs with
  | nil => intro vs is h e; cases h; cases e; exact .nil
  | cons x xs ih =>
    intro vs is h e
    cases h with
    | cons r rs =>
      cases x with
      | int i =>
        cases r
        simp only [intsOf] at e
        obtain ⟨js, e1, rfl⟩ := Option.map_eq_some_iff.mp e
        exact .cons _ _ (ih rs e1)
      | _ => simp [intsOf] at e
theorem tuple_lt_tree {prog : Program} {w : World} {A : Around} {E : Value → Shared → Prop} {s : Shared} {is js : List Int} {a b : Addr} {vs ws : List Value} {n m : Nat} {P : Fin → Shared → Prop} (ha : s.heap.get? a = some (tupOf vs n)) (hb : s.heap.get? b = some (tupOf ws m)) (hi : IntsAre vs is) (hj : IntsAre ws js) (hl : is.length = js.length)
    (h : P (.done (.ret (.bool (lexLt is js)))) s) : wpAny (model prog w) A (Builtin.«tuple.__lt__» ⟨[.ref a, .ref b], []⟩) P E s := by
  show wpAny _ _ (isInstance (.ref b) (.type "tuple") >>= _) _ _ s
  refine wpAny_bind (wpAny_isInstance (T := "tuple") ⟨_, hb, rfl⟩ isSubtype_tuple_tuple ?_)
  simp only [Bool.not_true, Bool.false_eq_true, if_false]
  refine wpAny_bind (wpAny_tupleItemsOf ha rfl ?_)
  refine wpAny_bind (wpAny_tupleItemsOf hb rfl ?_)
  refine wpAny_bind ?_
  refine wpAny_forIn_list _
    (fun rest r s' => r.1 = none ∧ s' = s ∧ ∃ x' y' xs' ys', rest = List.zip xs' ys' ∧ IntsAre xs' x' ∧ IntsAre ys' y' ∧ lexLt x' y' = lexLt is js ∧ x'.length = y'.length)
    _ ?_ ?_ _ _ ⟨rfl, rfl, is, js, vs, ws, by simp, hi, hj, rfl, hl⟩
  · rintro ⟨u, v⟩ rest r s' ⟨hr, rfl, x', y', xs', ys', hz, hx', hy', hdec, hlen⟩
    cases hx' with
    | nil => simp at hz
    | @cons k1 t1 xs'' x'' hx'' =>
      cases hy' with
      | nil => simp at hz
      | @cons k2 t2 ys'' y'' hy'' =>
        simp only [List.zip_cons_cons, List.cons.injEq, Prod.mk.injEq] at hz
        obtain ⟨⟨rfl, rfl⟩, rfl⟩ := hz
        refine wpAny_bind (wpAny_eqBool_int ?_)
        simp only [lexLt] at hdec
        by_cases hk : k1 = k2
        · subst hk
          simp only [beq_self_eq_true, Bool.not_true, Bool.false_eq_true, if_false, if_true] at hdec ⊢
          exact wpAny_pure ⟨rfl, rfl, x'', y'', xs'', ys'', rfl, hx'', hy'', hdec, by simpa using hlen⟩
        · have hk' : (k1 == k2) = false := by simpa using hk
          rw [hk'] at hdec
          simp only [hk', Bool.not_false, if_true, Bool.false_eq_true, if_false] at hdec ⊢
          refine wpAny_bind (wpAny_rule (wpAny_bind (show wpAny _ _ (compareOp .Lt (.int k1 t1) (.int k2 t2)) _ _ _ from PyProof.Rows.lt_int ?_)))
          rw [← hdec] at h
          exact wpAny_bind (wpAny_pure (wpAny_pure (wpAny_pure h)))
  · rintro ⟨r1, r2⟩ s' ⟨hr, rfl, x', y', xs', ys', hz, hx', hy', hdec, hlen⟩
    simp only at hr
    subst hr
    refine wpAny_pure ?_
    have e : x' = [] ∧ y' = [] := by
      cases hx' with
      | nil =>
        cases hy' with
        | nil => exact ⟨rfl, rfl⟩
        | cons _ _ _ => simp at hlen
      | cons _ _ _ =>
        cases hy' with
        | nil => simp at hlen
        | cons _ _ _ => simp at hz
    obtain ⟨rfl, rfl⟩ := e
    show P (.done (.ret (.bool (decide (vs.toArray.size < ws.toArray.size))))) s'
    rw [← hdec] at h
    have e1 := hi.length
    have e2 := hj.length
    rw [decide_eq_false (by simp; omega)]
    exact h
def ltW (x y : V) (Q : Bool → S → Prop) (st : S) : Prop := match x, y with
  | .int i, .int j => Q (decide (i < j)) st
  | .tuple xs, .tuple ys => ∃ is js, intsOf xs = some is ∧ intsOf ys = some js ∧ is.length = js.length ∧ Q (lexLt is js) st
  | _, _ => False
theorem lt_ok (F : Fz) (x y : V) (a b : Value) (rx : R F x a) (ry : R F y b) : Imp C F RC (compareOp .Lt a b) (ltW x y) := by
  cases rx with
  | int i t =>
    cases ry with
    | int j u => exact fun E Q st F' s hF k q => PyProof.Rows.lt_int ⟨F', _, st, .refl k, rfl, q⟩
    | _ => exact fun E Q st F' s hF k q => q.elim
  | tuple ha rs =>
    cases ry with
    | tuple hb rs' =>
      rintro E Q st F' s hF k ⟨is, js, hi, hj, hl, q⟩
      have ha' := k.g.fz _ _ (hF _ _ ha)
      have hb' := k.g.fz _ _ (hF _ _ hb)
      refine wpAny_richCompare_same_or (op := .Lt) (T := "tuple") ⟨_, ha', rfl⟩ ⟨_, hb', rfl⟩ PySem.F.slot_tuple_lt (wpAny_call_entry PySem.F.slot_tuple_lt ⟨_, ha', rfl⟩ PySem.F.entry_tuple_lt ?_ (PySem.F.args_tuple_lt_2 _ _)) (.inr (by have := k.ok.units; omega))
      exact tuple_lt_tree ha' hb' (intsOf_all rs hi) (intsOf_all rs' hj) hl ⟨_, rfl, (fun z => nomatch z), F', _, st, .refl k, rfl, q⟩
    | _ => exact fun E Q st F' s hF k q => q.elim
  | _ => exact fun E Q st F' s hF k q => q.elim
/-! ### is -/
inductive IsV : V → V → Bool → Prop
  | nn : IsV .none .none true
  | bn (b : Bool) : IsV (.bool b) .none false
  | yn (b : List Int) : IsV (.bytes b) .none false
  | tt (a b : String) : IsV (.raw (.type a)) (.raw (.type b)) (Value.type a == Value.type b)
abbrev isW (x y : V) (Q : Bool → S → Prop) (st : S) : Prop := ∃ b, IsV x y b ∧ Q b st
abbrev isNotW (x y : V) (Q : Bool → S → Prop) (st : S) : Prop := ∃ b, IsV x y b ∧ Q (!b) st
theorem isV_ok {F : Fz} {x y : V} {a b : Value} {z : Bool} (rx : R F x a) (ry : R F y b) (h : IsV x y z) : plainIs a b = true ∧ (a == b) = z := by
  cases h with
  | nn => cases rx; cases ry; exact ⟨rfl, rfl⟩
  | bn b => cases rx; cases ry; exact ⟨rfl, rfl⟩
  | yn b => cases rx; cases ry; exact ⟨rfl, rfl⟩
  | tt a b => cases rx; cases ry; exact ⟨rfl, rfl⟩
theorem is_ok (F : Fz) (x y : V) (a b : Value) (rx : R F x a) (ry : R F y b) : Imp C F RC (compareOp .Is a b) (isW x y) := by
  rintro E Q st F' s hF k ⟨z, hz, q⟩
  obtain ⟨h1, h2⟩ := isV_ok rx ry hz
  exact wpAny_is_plain h1 ⟨F', z, st, .refl k, by rw [h2], q⟩
theorem isNot_ok (F : Fz) (x y : V) (a b : Value) (rx : R F x a) (ry : R F y b) : Imp C F RC (compareOp .IsNot a b) (isNotW x y) := by
  rintro E Q st F' s hF k ⟨z, hz, q⟩
  obtain ⟨h1, h2⟩ := isV_ok rx ry hz
  exact wpAny_isNot_plain h1 ⟨F', !z, st, .refl k, by rw [h2], q⟩
end Mine

namespace Mine
open PySem PySem.W PyProof.Rows PySem.Calls

variable {C : Cx}

/-! ### dicts of int keys -/
def lookD (ps : List (Int × V)) (k : Int) : Option V := (ps.find? fun p => p.1 = k).map (·.2)
def storeD (ps : List (Int × V)) (k : Int) (z : V) : List (Int × V) :=
  if ps.any (fun p => p.1 = k) then ps.map (fun p => if p.1 = k then (p.1, z) else p) else ps ++ [(k, z)]
theorem lookD_ok {F : Fz} : ∀ {ps : List (Int × V)} {kvs : List (Int × Value)} {k : Int} {z : V}, ps.map (·.1) = kvs.map (·.1) → RAll F (ps.map (·.2)) (kvs.map (·.2)) → lookD ps k = some z → ∃ v, valueAt kvs k = some v ∧ R F z v
  | [], [], _, _, _, _, h => by simp [lookD] at h
  | [], _ :: _, _, _, e, _, _ => by simp at e
  | _ :: _, [], _, _, e, _, _ => by simp at e
  | (i, x) :: ps, (j, v) :: kvs, k, z, e, .cons r rs, h => by
    simp only [List.map_cons, List.cons.injEq] at e
    obtain ⟨rfl, e⟩ := e
    by_cases hk : i = k
    · subst hk
      simp [lookD] at h
      subst h
      exact ⟨v, by simp [valueAt], r⟩
    · have h' : lookD ps k = some z := by simpa [lookD, hk] using h
      obtain ⟨u, hu, hr⟩ := lookD_ok e rs h'
      exact ⟨u, by simpa [valueAt, hk] using hu, hr⟩
theorem any_keys {α β : Type} {ps : List (Int × α)} {kvs : List (Int × β)} (e : ps.map (·.1) = kvs.map (·.1)) (k : Int) : ps.any (fun p => decide (p.1 = k)) = kvs.any (fun p => decide (p.1 = k)) := by
  have h1 : ps.any (fun p => decide (p.1 = k)) = (ps.map (·.1)).any (fun i => decide (i = k)) := by rw [List.any_map]; rfl
  have h2 : kvs.any (fun p => decide (p.1 = k)) = (kvs.map (·.1)).any (fun i => decide (i = k)) := by rw [List.any_map]; rfl
  rw [h1, h2, e]
theorem mapStore_ok {F : Fz} {k : Int} {z : V} {v : Value} (r : R F z v) : ∀ {ps : List (Int × V)} {kvs : List (Int × Value)}, ps.map (·.1) = kvs.map (·.1) → RAll F (ps.map (·.2)) (kvs.map (·.2)) →
    (ps.map (fun p => if p.1 = k then (p.1, z) else p)).map (·.1) = (kvs.map (fun p => if p.1 = k then (p.1, v) else p)).map (·.1) ∧ RAll F ((ps.map (fun p => if p.1 = k then (p.1, z) else p)).map (·.2)) ((kvs.map (fun p => if p.1 = k then (p.1, v) else p)).map (·.2))
  | [], [], _, _ => ⟨rfl, .nil⟩
  | [], _ :: _, e, _ => by simp at e
  | _ :: _, [], e, _ => by simp at e
  | (i, x) :: ps, (j, u) :: kvs, e, .cons rx rs => by
    simp only [List.map_cons, List.cons.injEq] at e
    obtain ⟨rfl, e⟩ := e
    obtain ⟨a, b⟩ := mapStore_ok r e rs
    by_cases hk : i = k
    · simp only [List.map_cons, hk, if_true]
      exact ⟨by rw [a], .cons r b⟩
    · simp only [List.map_cons, hk, if_false]
      exact ⟨by rw [a], .cons rx b⟩
theorem storeD_ok {F : Fz} {k : Int} {z : V} {v : Value} (r : R F z v) {ps : List (Int × V)} {kvs : List (Int × Value)} (e : ps.map (·.1) = kvs.map (·.1)) (rs : RAll F (ps.map (·.2)) (kvs.map (·.2))) :
    (storeD ps k z).map (·.1) = (stored kvs k v).map (·.1) ∧ RAll F ((storeD ps k z).map (·.2)) ((stored kvs k v).map (·.2)) := by
  unfold storeD stored
  rw [any_keys e k]
  by_cases h : (kvs.any fun kv => decide (kv.1 = k)) = true
  · rw [if_pos h, if_pos h]; exact mapStore_ok r e rs
  · rw [if_neg h, if_neg h]
    simp only [List.map_append, List.map_cons, List.map_nil]
    exact ⟨by rw [e], rs.append (.cons r .nil)⟩

/-- a dict's item stored: a key that is there leaves the epoch -/
theorem dictSet_at {prog : Program} {w : World} {A : Around} {E : Value → Shared → Prop} {s : Shared} {d : Addr} {kvs : List (Int × Value)} {ep : Nat} {k : Int} {t : Tok} {v : Value} {Q : Unit → Shared → Prop} (hm : s.heap.DictAt (intKind prog w) d kvs ep)
    (hQ : ∀ h' ep', (kvs.any (fun p => decide (p.1 = k)) = true → ep' = ep) → h'.DictAt (intKind prog w) d (stored kvs k v) ep' → Heap.SameBut d s.heap h' → Q () { s with heap := h', toks := s.toks + 1 }) (hsz : kvs.length ≤ sizeLine) :
    wpAny (model prog w) A (dictSet d (.int k t) v) Q E s := by
  have hkey : (intKind prog w).is k (.int k t) = true := by simp [intKind, Value.isInt]
  obtain ⟨o, es, ho, hc, hd, hk, hp, hn⟩ := hm
  have hes : es.size ≤ sizeLine := by
    have e1 := hp.length
    have e2 : es.toList.length = es.size := by simp
    omega
  unfold dictSet
  refine wpAny_holding (wpAny_bind ((intKind prog w).pyHash hkey ?_))
  unfold dictSetHashed
  refine wpAny_holding (wpAny_bind (wpAny_dictFind_of (s := { s with toks := s.toks + 1 }) hkey ho hd hk ?_))
  have hidx : (es.findIdx? fun e => (intKind prog w).is k e.key) = kvs.findIdx? fun kv => decide (kv.1 = k) := by
    rw [← hp.findIdx k]; obtain ⟨l⟩ := es; simp
  cases hi : es.findIdx? fun e => (intKind prog w).is k e.key with
  | some i =>
    have hany := any_of_findIdx_some (hidx ▸ hi)
    refine wpAny_bind (wpAny_rule (wpAny_bind (wpAny_updateDict (s := { s with toks := s.toks + 1 }) ho hd (wpAny_point (hQ _ ep (fun _ => rfl) ⟨_, _, Heap.get?_update_self _ ho (Obj.isFreed_of_dict (Obj.data_mapDict hd _)),
      hc.mapDict _, Obj.data_mapDict hd _, hk.modify _ _, ?_, ?_⟩ (Heap.SameBut.update ..))))))
    · rw [stored, if_pos hany]
      have hl : (es.toList.findIdx? fun e => (intKind prog w).is k e.key) = some i := by rw [← hi]; obtain ⟨l⟩ := es; simp
      have := hp.modify hn hl v
      obtain ⟨l⟩ := es
      simpa using this
    · rw [stored, if_pos hany, keys_map_store]; exact hn
  | none =>
    have hnot : k ∉ kvs.map (·.1) := not_mem_of_findIdx_none (hidx ▸ hi)
    have hany : ¬ (kvs.any fun kv => decide (kv.1 = k)) = true := by
      rw [List.any_eq_true]
      rintro ⟨kv, hkv, he⟩
      exact hnot (List.mem_map.mpr ⟨kv, hkv, of_decide_eq_true he⟩)
    refine wpAny_bind (wpAny_rule (wpAny_updateDictKeys (s := { s with toks := s.toks + 1 }) (hz := hes) ho hd (hQ _ (ep + 1) (fun h => absurd h hany) ⟨_, _, Heap.get?_update_self _ ho (Obj.isFreed_of_dict (Obj.data_mapDictKeys hd _)),
      hc.mapDictKeys _, Obj.data_mapDictKeys hd _, hk.push hkey _, ?_, ?_⟩ (Heap.SameBut.update ..))))
    · rw [stored, if_neg hany]
      have := hp.append hkey ((intKind prog w).hash k) v
      obtain ⟨l⟩ := es
      simpa using this
    · rw [stored, if_neg hany, List.map_append, List.nodup_append]
      refine ⟨hn, by simp, ?_⟩
      intro a ha b hb e
      simp at hb
      exact hnot (hb ▸ e ▸ ha)
theorem setItem_at {prog : Program} {w : World} {A : Around} {E : Value → Shared → Prop} {s : Shared} {d : Addr} {kvs : List (Int × Value)} {ep : Nat} {k : Int} {t : Tok} {v : Value} {Q : Unit → Shared → Prop} (hm : s.heap.DictAt (intKind prog w) d kvs ep)
    (hQ : ∀ h' ep', (kvs.any (fun p => decide (p.1 = k)) = true → ep' = ep) → h'.DictAt (intKind prog w) d (stored kvs k v) ep' → Heap.SameBut d s.heap h' → Q () { s with heap := h', toks := s.toks + 1 }) (hsz : kvs.length ≤ sizeLine) :
    wpAny (model prog w) A (setItem (.ref d) (.int k t) v) Q E s := by
  have hT := hm.dictOf.typeIs
  unfold setItem
  refine wpAny_holding (wpAny_bind (wpAny_sequenceKey hT (by decide) ?_))
  refine wpAny_bind (wpAny_callSpecial?_slot (name := Str.ofString "__setitem__") hT slot_dict_setitem
    (wpAny_call_entry slot_dict_setitem hT entry_dict_setitem ?_ (args_dict_setitem _ _ _)))
  show wpAny _ _ (Builtin.Dict.notOrdered "__setitem__" ⟨[.ref d, .int k t, v], []⟩ >>= _) _ _ s
  refine wpAny_bind (wpAny_notOrdered_dict hT ?_)
  show wpAny _ _ (dictSet d (.int k t) v >>= _) _ _ s
  exact wpAny_bind (dictSet_at hm (fun h' ep' he hm' hs' => wpAny_pure ⟨.none, rfl, wpAny_pure (hQ h' ep' he hm' hs')⟩) hsz)

/-! ### items read -/
def getW (x i : V) (Q : V → S → Prop) (st : S) : Prop := match x, i with
  | .tuple xs, .int k => 0 ≤ k ∧ k < 1000000 ∧ ∃ z, xs[k.toNat]? = some z ∧ Q z st
  | .bytes b, .int k => 0 ≤ k ∧ b.length ≤ 1000000 ∧ ∃ z, b[k.toNat]? = some z ∧ Q (.int z) st
  | x, .int k => (∃ xs, getL st x = some xs ∧ 0 ≤ k ∧ k < 1000000 ∧ ∃ z, xs[k.toNat]? = some z ∧ Q z st) ∨ (∃ a ps ep z, x = .ref a ∧ st.σ a = some (.dict ps ep) ∧ lookD ps k = some z ∧ Q z st)
  | _, _ => False
theorem seqIndex_nat {k : Int} {n : Nat} (h0 : 0 ≤ k) (h1 : k.toNat < n) : seqIndex? k n = some k.toNat := by
  unfold seqIndex?
  have : ¬ k < 0 := by omega
  simp [this]
  omega
/-- reading at an int: the type has a built-in __getitem__, and the reading goes so -/
theorem get_ok {x : V} {k : Int} {a : Value} {t : Tok} {F : Fz} (rx : R F x a) {E : Value → Shared → Prop} {Q : V → S → Prop} {st : S} {F' : Fz} {s : Shared} (hF : F.Le F') (sim : Sim C F' st s.heap) (q : getW x (.int k) Q st) :
    ∃ T id, s.TypeIs a T ∧ typeLookup (.type T) "__getitem__" = pure (some (.builtin id)) ∧
      wpAny C.W.M C.A (getItem a (.int k t)) (fun v s' => ∃ F'' z st', Post C F' st s F'' st' s' ∧ R F'' z v ∧ Q z st') E s := by
  have dflt : (∃ xs, getL st x = some xs ∧ 0 ≤ k ∧ k < 1000000 ∧ ∃ z, xs[k.toNat]? = some z ∧ Q z st) ∨ (∃ a ps ep z, x = .ref a ∧ st.σ a = some (.dict ps ep) ∧ lookD ps k = some z ∧ Q z st) → ∃ T id, s.TypeIs a T ∧ typeLookup (.type T) "__getitem__" = pure (some (.builtin id)) ∧
      wpAny C.W.M C.A (getItem a (.int k t)) (fun v s' => ∃ F'' z st', Post C F' st s F'' st' s' ∧ R F'' z v ∧ Q z st') E s := by
    rintro (⟨xs, hx, h0, h1, z, hz, q⟩ | ⟨d, ps, ep, z, rfl, hd, hz, q⟩)
    · obtain ⟨l, vs, n, rfl, ho, rs⟩ := getL_ok sim (rx.mono hF) hx
      obtain ⟨v, hv, r⟩ := rs.get hz
      have hl := PySem.IsL.isList (n := n) ho
      exact ⟨"list", _, hl.typeIs, PySem.F.slot_list_getitem.lookup, wpAny_getItem_list hl h0 (by omega) (by simpa using hv) ⟨F', z, st, .refl sim, r, q⟩⟩
    · cases rx with
      | ref =>
        obtain ⟨_, kvs, hm, _, e, rs⟩ := sim.g.st d _ hd
        obtain ⟨v, hv, r⟩ := lookD_ok e rs hz
        exact ⟨"dict", _, hm.dictOf.typeIs, PySem.F.slot_dict_getitem.lookup, wpAny_getItem_of (knd := intKind C.W.prog C.W.w) (k := k) (by simp [intKind, Value.isInt]) hm.dictOf.mapOf hv ⟨F', z, st, sim.toks _, r, q⟩⟩
  cases rx with
  | tuple e rs =>
    obtain ⟨h0, h1, z, hz, q⟩ := q
    have ho := sim.g.fz _ _ (hF _ _ e)
    obtain ⟨v, hv, r⟩ := (rs.mono hF).get hz
    have hlt := (List.getElem?_eq_some_iff.mp hv).1
    exact ⟨"tuple", _, ⟨_, ho, rfl⟩, PySem.F.slot_tuple_getitem.lookup, PyProof.Rows.getItem_tuple (j := k.toNat) ⟨_, ho, rfl, _, rfl⟩ (by omega) (by omega) (seqIndex_nat h0 (by simpa using hlt)) (by simpa using hv) ⟨F', z, st, .refl sim, r, q⟩⟩
  | bytes u hb =>
    rename_i b bs
    obtain ⟨h0, h1, z, hz, q⟩ := q
    have hlen : bs.length = b.toList.length := by rw [← hb]; simp
    have hlt := (List.getElem?_eq_some_iff.mp hz).1
    refine ⟨"bytes", _, rfl, FB.slot_bytes_getitem.lookup, ?_⟩
    have := getItem_bytes (prog := C.W.prog) (w := C.W.w) (A := C.A) (E := E) (s := s) (t := u) (u := t) (l := b.toList) (i := k) (Q := fun v s' => ∃ F'' z st', Post C F' st s F'' st' s' ∧ R F'' z v ∧ Q z st') (by omega) h0 (by omega) ?_
    · simpa using this
    · refine ⟨F', .int z, st, sim.toks _, ?_, q⟩
      have e : z = ((b.toList.getD k.toNat 0).toNat : Int) := by
        rw [← hb] at hz
        simp only [List.getElem?_map] at hz
        obtain ⟨c, hc, rfl⟩ := Option.map_eq_some_iff.mp hz
        rw [List.getD_eq_getElem?_getD, hc]; rfl
      rw [e]; exact .int _ _
  | _ => exact dflt q
theorem ev_item {o i : Expr} {pos : Pos} {T₁ T₂ : PV} (h₁ : Ev C o T₁) (h₂ : Ev C i T₂) (hs : ∀ a b, subscripted i false a b = operate [a, b] (getItem a b) := by intro _ _; rfl) : Ev C (.Subscript o i pos) (fun Q => T₁ fun x => T₂ fun y st => ∃ k, y = .int k ∧ getW x (.int k) Q st) := by
  intro E Q st F s hF k q
  refine Subscript_ (h₁.then hF k q fun F₁ x st₁ a s₁ p₁ ra q₁ => h₂.then (F0.le _) p₁.sim q₁ fun F₂ y st₂ b s₂ p₂ rb q₂ => ?_)
  obtain ⟨n, rfl, q₂⟩ := q₂
  cases rb with
  | int _ t =>
    obtain ⟨Ty, id, hT, hl, hg⟩ := get_ok (E := E) (t := t) ra p₂.ext p₂.sim q₂
    exact tail_any hT hl (wpAny_mono hg (fun v s₃ ⟨F₃, z, st₃, p₃, rz, q₃⟩ => ⟨F₃, z, st₃, p₁.trans (p₂.trans p₃), rz, q₃⟩) fun _ _ e => e) (hs _ _)
end Mine

namespace Mine
open PySem PySem.W PyProof.Rows PySem.Calls

variable {C : Cx}

/-! ### items stored -/
def putW (x i v : V) (K : S → Prop) (st : S) : Prop := ∃ a k, x = .ref a ∧ i = .int k ∧
  ((∃ xs, st.σ a = some (.list xs) ∧ 0 ≤ k ∧ k < 1000000 ∧ k.toNat < xs.length ∧ K (st.put a (.list (xs.set k.toNat v)))) ∨
   (∃ ps ep, st.σ a = some (.dict ps ep) ∧ ps.length ≤ 1000000 ∧ ∀ ep', (ps.any (fun p => decide (p.1 = k)) = true → ep' = ep) → K (st.put a (.dict (storeD ps k v) ep'))))
theorem put_ok {F : Fz} {x i v : V} {a b c : Value} (rx : R F x a) (ri : R F i b) (rv : R F v c) : Imp C F RU (setItem a b c) (fun Q => putW x i v (Q ())) := by
  rintro E Q st F' s hF k ⟨d, n, rfl, rfl, ⟨xs, hs, h0, h1, h2, q⟩ | ⟨ps, ep, hs, hsz, q⟩⟩
  · cases rx with
    | ref =>
      cases ri with
      | int _ t =>
        obtain ⟨_, vs, m, ho, rs⟩ := k.g.st d _ hs
        have hl := rs.length
        refine ki_setAt ho h0 (by omega) (by simp; omega) ⟨F', (), _, Post.ofG k (PostG.change (y := .list (xs.set n.toNat v)) (tk := s.toks) k.g hs (fun b o hb e => (Heap.get?_update_other _ _ (Ne.symm hb)).trans e) ⟨vs.set n.toNat c, m, ?_, RAll.set (rv.mono hF) rs _⟩), trivial, q⟩
        have := PySem.IsL.update (h := s.heap) ho (·.setIfInBounds n.toNat c)
        simpa using this
  · cases rx with
    | ref =>
      cases ri with
      | int _ t =>
        obtain ⟨_, kvs, hm, hsm, e, rs⟩ := k.g.st d _ hs
        have hlen : kvs.length = ps.length := by have := congrArg List.length e; simpa using this.symm
        refine setItem_at hm (fun h' ep' he hm' hs' => ?_) (by unfold sizeLine; omega)
        have z := storeD_ok (k := n) (rv.mono hF) e rs
        exact ⟨F', (), _, Post.ofG k (PostG.change (y := .dict (storeD ps n v) ep') (tk := s.toks + 1) k.g hs (fun b o hb e => (hs'.2 b hb).trans e) ⟨_, hm', hsm, z.1, z.2⟩), trivial, q ep' fun h => he (by rw [← any_keys e n]; exact h)⟩
theorem ex_put {o i v : Expr} {pos' pos : Pos} {T₁ T₂ T₃ : PV} (h₃ : Ev C v T₃) (h₁ : Ev C o T₁) (h₂ : Ev C i T₂) (hs : swapsWith v (some (.Subscript o i pos')) pos.line C.env = pure false := by rfl) :
    Ex C (.Assign [.Subscript o i pos'] v pos) (fun Q => T₃ fun z => T₁ fun x => T₂ fun y => putW x y z (Q .next)) := by
  intro E Q st F s hF k q
  refine wpAny_Assign_Subscript (h₃.then hF k q fun F₁ z st₁ c s₁ p₁ rc q₁ => h₁.then (F0.le _) p₁.sim q₁ fun F₂ x st₂ a s₂ p₂ ra q₂ => h₂.then (F0.le _) p₂.sim q₂ fun F₃ y st₃ b s₃ p₃ rb q₃ => ?_) hs
  exact (put_ok (ra.mono p₃.ext) rb (rc.mono (p₂.ext.trans p₃.ext))).then (Q := fun _ => Q .next) (.refl _) p₃.sim q₃ fun F₄ _ st₄ _ s₄ p₄ _ q₄ => ⟨F₄, .next, st₄, p₁.trans (p₂.trans (p₃.trans p₄)), .next, q₄⟩

/-! ### a name changed in place -/
theorem ex_aug {x : Str} {i : Nat} {op : Operator} {v : Expr} {pos' pos : Pos} {T : PV} {B : V → V → PV} (hp : C.pl[i]? = some (.d C.env.locals x)) (hl : C.env.kindOf x = some .local) (h₁ : Ev C v T)
    (h : ∀ F x y a b, R F x a → R F y b → Imp C F R (inplaceOp op a b) (B x y)) : Ex C (.AugAssign (.Name x pos') op v pos) (fun Q => locW i fun o => T fun y => B o y fun z st => Q .next (st.set i z)) := by
  rintro E Q st F s hF k ⟨o, ho, q⟩
  obtain ⟨m, n, r⟩ := k.loc i _ hp
  obtain ⟨u, hu, hr⟩ := r o ho
  refine wpAny_AugAssign_Name (wpAny_loadName_local k.fn hl n hu (h₁.then hF k q fun F₁ y st₁ b s₁ p₁ rb q₁ => ?_))
  refine (h F₁ o y u b (hr.mono p₁.ext) rb).then (.refl _) p₁.sim q₁ fun F₂ z st₂ c s₂ p₂ rc q₂ => ?_
  obtain ⟨m', n', _⟩ := p₂.sim.loc i _ hp
  exact wpAny_storeName_local hl n' (fun h' hn hs => ⟨F₂, .next, _, p₁.trans (p₂.trans (p₂.sim.storeD hp rc n' hn hs)), .next, q₂⟩) (by rw [k.fn]; rfl)
theorem iints_ok {op : Operator} {P : Int → Int → Prop} {f : Int → Int → Int}
    (h : ∀ (i j : Int) (t u : Tok) (A : Around) (E : Value → Shared → Prop) (Q : Value → Shared → Prop) (s : Shared), P i j → (∀ t' n, Q (.int (f i j) t') { s with toks := n }) → wpAny C.W.M A (inplaceOp op (.int i t) (.int j u)) Q E s) (F : Fz) (x y : V) (a b : Value) (rx : R F x a) (ry : R F y b) :
    Imp C F R (inplaceOp op a b) (intsW P f x y) := by
  rintro E Q st F' s hF k ⟨i, j, hx, hy, hp, q⟩
  subst hx; subst hy
  cases rx; cases ry
  exact h i j _ _ _ _ _ _ hp fun t' n => int_out k q
theorem iadd_ok (F : Fz) (x y : V) (a b : Value) (rx : R F x a) (ry : R F y b) : Imp C F R (inplaceOp .Add a b) (intsW (fun _ _ => True) (· + ·) x y) := iints_ok (fun _ _ _ _ _ _ _ _ _ q => iadd_int (q _ _)) F x y a b rx ry
theorem ior_ok (F : Fz) (x y : V) (a b : Value) (rx : R F x a) (ry : R F y b) : Imp C F R (inplaceOp .BitOr a b) (orW x y) := iints_ok (fun _ _ _ _ _ _ _ _ _ q => ior_int (q _ _)) F x y a b rx ry
theorem ilsh_ok (F : Fz) (x y : V) (a b : Value) (rx : R F x a) (ry : R F y b) : Imp C F R (inplaceOp .LShift a b) (lshW x y) :=
  iints_ok (fun i j t u A E Q s hp q => ilshift_int_small hp.1 (by omega) hp.2.2 (q _ _)) F x y a b rx ry

/-! ### calls of what is built in -/
theorem plain_args {es : List Expr} {Ts : (List V → S → Prop) → S → Prop} (h : EvAll C es Ts) (pos : Pos) : (backTo pos (starEach es C.env)).any (·.1) = false := by
  induction h with
  | nil => rfl
  | cons hs _ _ ih => rw [starEach_cons hs]; simpa [backTo] using ih
theorem evalArgs_run {f : Value} {es : List Expr} {Ts : (List V → S → Prop) → S → Prop} (h : EvAll C es Ts) (pos : Pos) {E : Value → Shared → Prop} {Q : List V → S → Prop} {st : S} {F : Fz} {s : Shared} (k : Sim C F st s.heap) (q : Ts Q st) {Z : Args → Shared → Prop}
    (next : ∀ F' xs st' vs s', Post C F st s F' st' s' → RAll F' xs vs → Q xs st' → Z ⟨vs, []⟩ s') : wpAny C.W.M C.A (evalArgs f true (backTo pos (starEach es C.env)) []) Z E s := by
  have run := (h.run pos).then (E := E) (F0.le _) k q (Z := fun vs s' => Z ⟨vs, []⟩ s') next
  cases h with
  | nil => exact PySem.evalArgs_none (next F [] st [] s (.refl k) .nil q)
  | cons hs _ _ => rw [starEach_cons hs] at run ⊢; exact evalArgs_plain run
theorem name_wp {F : Fz} {st : S} {x : Str} {pos : Pos} {v : Value} {Q : Value → Shared → Prop} {E : Value → Shared → Prop} {s : Shared} (k : Sim C F st s.heap) (hg : GlobIs C.W.h₀ x v) (eg : C.env.globals = mainGlobals) (eb : C.env.builtins = builtinsNs) (hl : C.env.kindOf x = some .globalImplicit) (hd : (x == ("__debug__" : Str)) = false) (q : Q v s) :
    wpAny C.W.M C.A (eval (.Name x pos) C.env) Q E s := by
  refine Name_function_global k.fn hl (wpAny_loadGlobal (v := v) ?_ eg eb q) hd
  obtain ⟨mg, mb, a, b, e⟩ := hg
  exact ⟨mg, mb, a.keeps k.g.up, b.keeps k.g.up, e⟩
structure Glo (C : Cx) (x : Str) (v : Value) : Prop where
  is : GlobIs C.W.h₀ x v
  eg : C.env.globals = mainGlobals
  eb : C.env.builtins = builtinsNs
  hl : C.env.kindOf x = some .globalImplicit
  hd : (x == ("__debug__" : Str)) = false
theorem ev_callB {x : Str} {p pos : Pos} {id : String} {es : List Expr} {Ts : (List V → S → Prop) → S → Prop} {B : List V → PV} (g : Glo C x (.builtin id))
    (ha : EvAll C es Ts) (h : ∀ F xs vs, RAll F xs vs → Imp C F R (call (.builtin id) vs) (B xs)) : Ev C (.Call (.Name x p) es [] pos) (fun Q => Ts fun xs => B xs Q) := by
  intro E Q st F s hF k q
  refine wpAny_Call_NameR (name_wp k g.is g.eg g.eb g.hl g.hd ?_)
  refine Calls.callWith_builtin (plain_args ha pos) (evalArgs_run ha pos k q fun F₁ xs st₁ vs s₁ p₁ rs q₁ => ?_)
  exact (h F₁ xs vs rs).then (.refl _) p₁.sim q₁ fun F₂ z st₂ v s₂ p₂ rz q₂ => ⟨F₂, z, st₂, p₁.trans p₂, rz, q₂⟩
theorem ev_callT {x : Str} {p pos : Pos} {T : String} {es : List Expr} {Ts : (List V → S → Prop) → S → Prop} {B : List V → PV} (g : Glo C x (.type T))
    (ha : EvAll C es Ts) (h : ∀ F xs vs, RAll F xs vs → Imp C F R (call (.type T) vs) (B xs)) : Ev C (.Call (.Name x p) es [] pos) (fun Q => Ts fun xs => B xs Q) := by
  intro E Q st F s hF k q
  refine wpAny_Call_NameR (name_wp k g.is g.eg g.eb g.hl g.hd ?_)
  refine PySem.callWith_type (plain_args ha pos) (evalArgs_run ha pos k q fun F₁ xs st₁ vs s₁ p₁ rs q₁ => ?_)
  exact (h F₁ xs vs rs).then (.refl _) p₁.sim q₁ fun F₂ z st₂ v s₂ p₂ rz q₂ => ⟨F₂, z, st₂, p₁.trans p₂, rz, q₂⟩

/-! methods of lists -/
theorem ev_meth {o : Expr} {name : Str} {apos pos : Pos} {id : String} {es : List Expr} {T : PV} {Ts : (List V → S → Prop) → S → Prop} {B : V → List V → PV} (slot : Slot "list" name id) (hty : typeOf (.builtin id) = pure (.type "method_descriptor"))
    (ho : Ev C o T) (ha : EvAll C es Ts) (h : ∀ F x xs a vs, R F x a → RAll F xs vs → Imp C F R (call (.builtin id) (a :: vs)) (B x xs))
    (hbase : attributeBase o name C.env (eval o C.env) = eval o C.env := by rfl)
    (hfew : ((backTo pos (starEach es C.env)).all (fun x => !x.1) && (backToKw pos (keywordEach [] C.env)).all (fun x => x.1.isSome) && decide (es.length + ([] : List Keyword).length + (if ([] : List Keyword).isEmpty then 0 else 1) < 30)) = true := by rfl)
    (hline : (apos.endLine == pos.line) = true := by rfl) :
    Ev C (.Call (.Attribute o name apos) es [] pos) (fun Q => T fun x st => ∃ l, getL st x = some l ∧ Ts (fun xs => B x xs Q) st) := by
  intro E Q st F s hF k q
  refine wpAny_Call_method hbase hfew hline PySem.F.plainAttrs_list slot hty (ho.then hF k q fun F₁ x st₁ a s₁ p₁ ra q₁ => ?_)
  obtain ⟨l, hl, q₁⟩ := q₁
  obtain ⟨D, vs, n, rfl, hD, rs⟩ := getL_ok p₁.sim ra hl
  refine ⟨⟨_, hD, rfl⟩, fun b e => by cases e; exact ⟨_, hD, rfl⟩, ?_⟩
  refine Calls.callWith_builtin (plain_args ha pos) (evalArgs_run ha pos p₁.sim q₁ fun F₂ xs st₂ vs s₂ p₂ rs q₂ => ?_)
  exact (h F₂ x xs (.ref D) vs (ra.mono p₂.ext) rs).then (.refl _) p₂.sim q₂ fun F₃ z st₃ v s₃ p₃ rz q₃ => ⟨F₃, z, st₃, p₁.trans (p₂.trans p₃), rz, q₃⟩
abbrev appendW (x : V) (xs : List V) (Q : V → S → Prop) (st : S) : Prop := ∃ a y l, x = .ref a ∧ xs = [y] ∧ st.σ a = some (.list l) ∧ l.length ≤ 1000000 ∧ Q .none (st.put a (.list (l ++ [y])))
theorem append_ok (F : Fz) (x : V) (xs : List V) (a : Value) (vs : List Value) (rx : R F x a) (rs : RAll F xs vs) : Imp C F R (call (.builtin "list.append") (a :: vs)) (appendW x xs) := by
  rintro E Q st F' s hF k ⟨D, y, l, hx, hxs, hs, hsz, q⟩
  subst hx; subst hxs
  cases rs with
  | @cons _ v _ _ ry rs =>
    cases rs
    cases rx
    obtain ⟨_, ws, n, ho, rw⟩ := k.g.st D _ hs
    have hl := rw.length
    refine append_at ho (fun h' hs' ho' => ?_) (by simp; unfold sizeLine; omega)
    exact ⟨F', .none, _, Post.ofG k (PostG.change (y := .list (l ++ [y])) (tk := s.toks) k.g hs (fun b o hb e => (hs'.2 b hb).trans e) ⟨ws ++ [v], n + 1, by simpa using ho', rw.append (.cons (ry.mono hF) .nil)⟩), .none, q⟩
abbrev popW (x : V) (xs : List V) (Q : V → S → Prop) (st : S) : Prop := ∃ a y l, x = .ref a ∧ xs = [] ∧ st.σ a = some (.list (l ++ [y])) ∧ l.length ≤ 1000000 ∧ Q y (st.put a (.list l))
theorem RAll.snoc {F : Fz} : ∀ {xs : List V} {y : V} {vs : List Value}, RAll F (xs ++ [y]) vs → ∃ ws v, vs = ws ++ [v] ∧ RAll F xs ws ∧ R F y v
  | [], _, _, .cons r .nil => ⟨[], _, rfl, .nil, r⟩
  | _ :: _, _, _, .cons r rs => by
    obtain ⟨ws, v, rfl, a, b⟩ := RAll.snoc rs
    exact ⟨_ :: ws, v, rfl, .cons r a, b⟩
theorem pop_ok (F : Fz) (x : V) (xs : List V) (a : Value) (vs : List Value) (rx : R F x a) (rs : RAll F xs vs) : Imp C F R (call (.builtin "list.pop") (a :: vs)) (popW x xs) := by
  rintro E Q st F' s hF k ⟨D, y, l, hx, hxs, hs, hsz, q⟩
  subst hx; subst hxs
  cases rs
  cases rx
  obtain ⟨_, us, n, ho, ru⟩ := k.g.st D _ hs
  obtain ⟨ws, v, rfl, rw, ry⟩ := ru.snoc
  have hl := rw.length
  have e1 : (ws ++ [v]).toArray[(ws ++ [v]).toArray.size - 1]? = some v := by simp
  refine call_meets PySem.F.slot_list_pop ⟨_, ho, rfl⟩ PySem.F.entry_list_pop (PySem.F.args_list_pop_1 _) (MeetsSeq.list_pop_last D _ n v e1 (by simp; unfold sizeLine; omega)) ⟨ho, ?_⟩
  refine ⟨F', y, _, Post.ofG k (PostG.change (y := .list l) (tk := s.toks) k.g hs (fun b o hb e => (Heap.get?_update_other _ _ (Ne.symm hb)).trans e) ⟨ws, n + 1, ?_, rw⟩), ry, q⟩
  have := PySem.IsL.update (h := s.heap) ho (fun xs => xs.eraseIdxIfInBounds ((ws ++ [v]).toArray.size - 1))
  rw [show (ws ++ [v]).toArray.size - 1 = ws.length by simp, kl_erase ws [] v] at this
  simpa using this
abbrev lenW (xs : List V) (Q : V → S → Prop) (st : S) : Prop := ∃ x, xs = [x] ∧ ((∃ l, getL st x = some l ∧ l.length ≤ 1000000 ∧ Q (.int l.length) st) ∨ (∃ l, x = .bytes l ∧ l.length ≤ 1000000 ∧ Q (.int l.length) st) ∨ (∃ l, x = .tuple l ∧ l.length ≤ 1000000 ∧ Q (.int l.length) st))
theorem len_ok (F : Fz) (xs : List V) (vs : List Value) (rs : RAll F xs vs) : Imp C F R (call (.builtin "len") vs) (lenW xs) := by
  rintro E Q st F' s hF k ⟨x, hx, q⟩
  subst hx
  cases rs with
  | @cons _ v _ _ r rs =>
    cases rs
    rcases q with ⟨l, hl, hsz, q⟩ | ⟨l, hl, hsz, q⟩ | ⟨l, hl, hsz, q⟩
    · obtain ⟨D, ws, n, rfl, ho, rw⟩ := getL_ok k (r.mono hF) hl
      have e := rw.length
      refine PyProof.Rows.len_list (PySem.IsL.isList (n := n) ho) (by simp; omega) ?_
      rw [show (ws.toArray.size : Int) = (l.length : Int) by simp [e]]
      exact int_out k q
    · subst hl
      cases r with
      | @bytes b _ t hb =>
        have e : b.size = l.length := by rw [← hb]; simp
        refine len_bytes (by omega) ?_
        rw [e]
        exact int_out k q
    · subst hl
      cases r with
      | @tuple a ws n _ e rw =>
        have e' := rw.length
        have ho := k.g.fz _ _ (hF _ _ e)
        refine P.len_tuple (n := n) ho (by simp; omega) ?_
        rw [show (ws.toArray.size : Int) = (l.length : Int) by simp [e']]
        exact int_out k q
end Mine

namespace Mine
open PySem PySem.W PyProof.Rows PySem.Calls

variable {C : Cx}

/-! ### calls of the text's own functions -/
structure FnAt (W : Wd) (a : Addr) (fd : FuncData) : Prop where
  at_ : ∃ o, W.h₀.get? a = some o ∧ o.data = .func fd
  code : W.h₀.CodeRec fd.code fd.qualname

def CallOK (W : Wd) (j : Nat) (a : Addr) (xs : List V) (kw : List (Str × V)) (Q : V → St → Prop) (σ : St) : Prop :=
  ∀ (A : Around) (E : Value → Shared → Prop) (F : Fz) (s : Shared) (vs : List Value) (kvs : List (Str × Value)), OkA A j → SimG W F σ s.heap → RAll F xs vs → kw.map (·.1) = kvs.map (·.1) → RAll F (kw.map (·.2)) (kvs.map (·.2)) →
    wpAny W.M A (call (.ref a) vs kvs) (fun v s' => ∃ F' x σ', PostG [] W F σ s F' σ' s' ∧ R F' x v ∧ Q x σ') E s

abbrev callW (W : Wd) (j : Nat) (a : Addr) (xs : List V) (Q : V → S → Prop) (st : S) : Prop := CallOK W j a xs [] (fun x σ' => Q x ⟨σ', st.ρ⟩) st.σ
theorem ev_callF {x : Str} {p pos : Pos} {a : Addr} {fd : FuncData} {es : List Expr} {Ts : (List V → S → Prop) → S → Prop} (g : Glo C x (.ref a)) (f : FnAt C.W a fd) (ha : EvAll C es Ts) {W : Wd} (hW : C.W = W) {j : Nat} (hj : C.lev = j) :
    Ev C (.Call (.Name x p) es [] pos) (fun Q => Ts fun xs => callW W j a xs Q) := by
  subst hW; subst hj
  intro E Q st F s hF k q
  obtain ⟨o, ho, hd⟩ := f.at_
  refine wpAny_Call_NameR (name_wp k g.is g.eg g.eb g.hl g.hd ?_)
  refine Calls.callWith_function (o := o) (fd := fd) (evalArgs_run ha pos k q fun F₁ xs st₁ vs s₁ p₁ rs q₁ => ⟨⟨p₁.sim.g.up _ _ ho, hd⟩, ?_⟩)
  exact wpAny_mono (q₁ C.A E F₁ s₁ vs [] p₁.sim.ok p₁.sim.g rs rfl .nil) (fun v s₂ ⟨F₂, z, σ₂, p₂, rz, q₂⟩ => ⟨F₂, z, ⟨σ₂, st₁.ρ⟩, p₁.trans (Post.ofG p₁.sim p₂), rz, q₂⟩) fun _ _ e => e

def St.Sub (σ' σ : St) : Prop := ∀ b x, σ' b = some x → σ b = some x
theorem PostG.sub {own : List Addr} {W : Wd} {F F' : Fz} {σ σ' σ'' : St} {s s' : Shared} (p : PostG own W F σ s F' σ' s') (h : St.Sub σ'' σ') : PostG own W F σ s F' σ'' s' :=
  { p with
    simg := ⟨p.simg.base, p.simg.fz, fun a x e => p.simg.st a x (h a x e)⟩
    freshS := fun b hb => p.freshS b (by
      cases e : σ'' b with
      | none => exact absurd e hb
      | some x => rw [h b x e]; simp) }
/-- what a body must give: the returned value, in a store that may forget -/
abbrev retW (Q : V → St → Prop) : Fl → S → Prop
  | .ret x, st => ∃ σ', St.Sub σ' st.σ ∧ Q x σ'
  | .next, st => ∃ σ', St.Sub σ' st.σ ∧ Q .none σ'
  | _, _ => False
def fnCx (W : Wd) (A : Around) (fd : FuncData) (L a : Addr) (names : List Str) (lev : Nat) : Cx := { W := W, A := A.deeper (callEnv fd L a), env := callEnv fd L a, pl := names.map (Pl.d L), lev := lev }

theorem lookup_zip : ∀ {ns : List Str} {vs : List Value} {i : Nat} {x : Str} {v : Value}, ns.Nodup → ns[i]? = some x → vs[i]? = some v → (ns.zip vs).reverse.lookup x = some v
  | [], _, _, _, _, _, h, _ => by simp at h
  | _ :: _, [], _, _, _, _, _, h => by simp at h
  | n :: ns, u :: vs, 0, x, v, hn, h1, h2 => by
    simp at h1 h2
    subst h1; subst h2
    rw [List.zip_cons_cons, List.reverse_cons, List.lookup_append]
    have : (ns.zip vs).reverse.lookup n = none := by
      rw [List.lookup_eq_none_iff]
      rintro ⟨a, b⟩ hp
      have hm := (List.of_mem_zip (List.mem_reverse.mp hp)).1
      have : n ≠ a := fun e => (List.nodup_cons.mp hn).1 (e ▸ hm)
      simpa using this
    rw [this]; simp
  | n :: ns, u :: vs, i + 1, x, v, hn, h1, h2 => by
    rw [List.zip_cons_cons, List.reverse_cons, List.lookup_append, lookup_zip (List.nodup_cons.mp hn).2 (by simpa using h1) (by simpa using h2)]
    simp

theorem okA_deeper {A : Around} {env : Env} {j : Nat} (h : OkA A (j + 1)) : OkA (A.deeper env) j :=
  ⟨h.handled, by have := h.depth; show A.depth + 1 + j < recursionLimit; omega, by have := h.units; show A.units + 3 + 8 * j + 100 < cLine; omega⟩

theorem get_fresh_none {h : Heap} {F : Fz} {σ : St} {W : Wd} (g : SimG W F σ h) : F h.objs.size = none ∧ σ h.objs.size = none := g.free get_size

theorem call_intro {W : Wd} {a : Addr} {fd : FuncData} {body : List Stmt} {params names : List Str} {lev : Nat} {T : (Fl → S → Prop) → S → Prop} {xs : List V} {Q : V → St → Prop} {σ : St} (f : FnAt W a fd)
    (hb : fd.body = .stmts body) (hT : ∀ A L, Exs (fnCx W A fd L a (params ++ names) lev) body T)
    (hbind : ∀ vs : List Value, vs.length = params.length → bindArgs fd ⟨vs, []⟩ = pure (params.zip vs))
    (hcell : ∀ x ∈ fd.scope.names, x.2 ≠ .cell) (hloc : ∀ x ∈ params, fd.scope.names.lookup x = some .local) (hnd : (params ++ names).Nodup) (hlen : xs.length = params.length)
    (q : T (retW Q) ⟨σ, fun i => xs[i]?⟩)
    (hco : fd.scope.isCoroutine = false := by rfl) (hgen : fd.scope.isGenerator = false := by rfl) (hk : fd.scope.kind = .function := by rfl) : CallOK W (lev + 1) a xs [] Q σ := by
  intro A E F s vs kvs hA g rs hkn _
  obtain ⟨o, ho, hd⟩ := f.at_
  cases kvs with
  | cons _ _ => simp at hkn
  | nil =>
  have hvl : vs.length = params.length := by rw [← rs.length, hlen]
  have hbd := hbind vs hvl
  refine wpAny_call (codeAny_call_def (fd := fd) (body := body) (binds := params.zip vs) (by have := hA.depth; omega) (g.up _ _ ho) hd (W.lim.keeps g.up) (f.code.keeps g.up) hb (fun M A E Q q => by rw [hbd]; exact wpAny_pure q) hcell (fun x hx => hloc x.1 (List.of_mem_zip hx).1) (fun h₀ hn hk₀ => ?_) hco hgen hk)
  obtain ⟨hF, hσ⟩ := get_fresh_none g
  have hs : s.heap.get? s.heap.objs.size = none := get_size
  have hpl : ∀ p ∈ (params ++ names).map (Pl.d s.heap.objs.size), p.addr = s.heap.objs.size := fun p hp => by obtain ⟨x, _, rfl⟩ := List.mem_map.mp hp; rfl
  have g₁ : SimG W F σ h₀ := g.heap [] (fun b o _ e => hk₀ b o e) (fun _ m => nomatch m)
  have sim : Sim (fnCx W A fd s.heap.objs.size a (params ++ names) lev) F ⟨σ, fun i => xs[i]?⟩ h₀ := by
    refine ⟨g₁, fun i p hp => ?_, fun p hp => ?_, okA_deeper hA, hk, ?_⟩
    · have hp' : ((params ++ names).map (Pl.d s.heap.objs.size))[i]? = some p := hp
      rw [List.getElem?_map] at hp'
      obtain ⟨x, hx, rfl⟩ := Option.map_eq_some_iff.mp hp'
      refine ⟨_, hn, fun v hv => ?_⟩
      have hv' : xs[i]? = some v := hv
      have hi : i < params.length := by rw [← hlen]; exact (List.getElem?_eq_some_iff.mp hv').1
      rw [List.getElem?_append_left hi] at hx
      obtain ⟨u, hu, r⟩ := rs.get hv'
      exact ⟨u, lookup_zip (List.nodup_append.mp hnd).1 hx hu, r⟩
    · rw [hpl p hp]; exact ⟨hF, hσ⟩
    · exact List.pairwise_map.mpr (hnd.imp fun h e => h (by injection e))
  refine (hT A s.heap.objs.size).then (F0.le _) sim q fun F₁ fl st₁ w s₁ p₁ rf q₁ => ?_
  have fin : PostG [] W F σ s F₁ st₁.σ s₁ := by
    have z : PostG ((params ++ names).map (fun _ => s.heap.objs.size)) W F σ s F σ { s with heap := h₀, toks := s.toks + (params.zip vs).length } := .heap g [] (fun b o _ e => hk₀ b o e) (fun _ m => nomatch m) (fun _ m => nomatch m)
    have p₁' : PostG ((params ++ names).map (fun _ => s.heap.objs.size)) W F σ { s with heap := h₀, toks := s.toks + (params.zip vs).length } F₁ st₁.σ s₁ := by
      have := p₁.p
      refine this.congr fun b => ?_
      show b ∈ (params ++ names).map _ ↔ b ∈ ((params ++ names).map (Pl.d s.heap.objs.size)).map Pl.addr
      rw [List.map_map]; exact Iff.rfl
    have t := z.trans p₁'
    have u : PostG ((params ++ names).map (fun _ => s.heap.objs.size) ++ []) W F σ s F₁ st₁.σ s₁ := by rw [List.append_nil]; exact t
    exact strikeAll u fun b hb => by obtain ⟨_, _, rfl⟩ := List.mem_map.mp hb; exact hs
  cases rf with
  | next => obtain ⟨σ', hsub, q₁⟩ := q₁; exact ⟨F₁, .none, σ', fin.sub hsub, .none, q₁⟩
  | brk => exact q₁.elim
  | cont => exact q₁.elim
  | ret r => obtain ⟨σ', hsub, q₁⟩ := q₁; exact ⟨F₁, _, σ', fin.sub hsub, r, q₁⟩
end Mine

namespace Mine
open PySem PySem.W PyProof.Rows PySem.Calls

variable {C : Cx}

/-! ### iterators that lie in the store -/
def itemsIt : AO → Option (List V)
  | .riter x l c => if 0 ≤ l then some ((List.range l.toNat).map fun (i : Nat) => V.int (x + (i : Int) * c)) else none
  | .biter b i => if i ≤ b.length then some ((b.drop i).map V.int) else none
  | _ => none
theorem LoopAt.held {F : Fz} {st : S} {s : Shared} {a : Addr} {x : AO} (k : Sim C F st s.heap) (ha : st.σ a = some x) : LoopAt C [a] F st.σ s F (st.del a) s := by
  have z := k.g.st a x ha
  have hsub : ∀ b y, (st.del a).σ b = some y → st.σ b = some y := fun b y e => by
    have e' : (if b = a then none else st.σ b) = some y := e
    by_cases hb : b = a
    · rw [if_pos hb] at e'; cases e'
    · rw [if_neg hb] at e'; exact e'
  have g : SimG C.W F (st.del a).σ s.heap := ⟨k.g.base, k.g.fz, fun b y e => k.g.st b y (hsub b y e)⟩
  have hda : (st.del a).σ a = none := by show (if a = a then none else st.σ a) = none; rw [if_pos rfl]
  refine ⟨⟨.refl _, g, fun _ _ e _ _ => e, fun b h => ?_, fun _ h => .inl h, _, _, rfl⟩, ⟨g, k.loc, fun p hp => ⟨(k.own p hp).1, ?_⟩, k.ok, k.fn, k.nodup⟩, fun b hb => ?_⟩
  · cases e : (st.del a).σ b with
    | none => exact absurd e h
    | some y => exact .inl (by rw [hsub b y e]; simp)
  · cases e : (st.del a).σ p.addr with
    | none => rfl
    | some y => have := hsub _ _ e; rw [(k.own p hp).2] at this; cases this
  · rw [List.mem_singleton.mp hb]
    refine ⟨z.1, hda, fun m => ?_, z.2.there⟩
    obtain ⟨p, hp, rfl⟩ := List.mem_map.mp m
    rw [(k.own p hp).2] at ha; cases ha
/-- the loop's hidden object was the store's: it is forgotten -/
theorem LoopAt.outS {F₀ : Fz} {st₀ : S} {s₀ : Shared} {F : Fz} {st : S} {s : Shared} {a : Addr} {x : AO} (l : LoopAt C [a] F₀ st₀.σ s₀ F st s) (ha : st₀.σ a = some x) {h' : Heap} {tk : Nat} (hk : ∀ b o, b ∉ [a] → s.heap.get? b = some o → h'.get? b = some o) :
    Post C F₀ st₀ s₀ F st { s with heap := h', toks := tk } := by
  have h1 : ∀ b ∈ [a], F b = none ∧ st.σ b = none := fun b hb => let z := l.off b hb; ⟨z.1, z.2.1⟩
  have p := l.p.trans (.heap (tk := tk) l.sim.g [a] hk h1 fun b hb => .inl (List.mem_append.mpr (.inl hb)))
  refine ⟨{ p with keep := fun b o e hb ho => p.keep b o e hb fun m => ?_, freshS := fun b h => (p.freshS b h).imp_right fun y => ⟨y.1, fun m => y.2 (List.mem_append.mpr (.inr m))⟩, freshF := fun b h => (p.freshF b h).imp_right fun z => z.imp_right fun y => ⟨y.1, fun m => y.2 (List.mem_append.mpr (.inr m))⟩ }, l.sim.heap [a] hk h1 fun b hb => (l.off b hb).2.2.1⟩
  rcases List.mem_append.mp m with m | m
  · rw [List.mem_singleton.mp m, ha] at hb; cases hb
  · exact ho m
theorem held_gives {F : Fz} {h : Heap} {a : Addr} {x : AO} {xs : List V} (hh : C.A.handled = none) (hx : itemsIt x = some xs) (so : SO C.W F h a x) : ∃ P Sx, Gives C F a xs h [a] P Sx := by
  cases x with
  | list _ => cases hx
  | dict _ _ => cases hx
  | riter x l c =>
    simp only [itemsIt] at hx
    split at hx
    · rename_i hl
      cases hx
      refine ⟨_, _, (by rw [List.length_map, List.length_range]; exact (Walks.range (prog := C.W.prog) (w := C.W.w) hh a x c l.toNat).bound), ?_, ?_, fun b hb => .inl (List.mem_singleton.mp hb), fun _ _ ho => ⟨_, ho⟩, ?_⟩
      · rintro k v ⟨hk, t, rfl⟩
        exact ⟨_, by rw [List.getElem?_map, List.getElem?_range hk]; rfl, .int _ _⟩
      · show IsRangeIter _ _ _ _ _
        rw [Int.toNat_of_nonneg hl]
        have so' : IsRangeIter h a x l c := so
        simpa using so'
      · rintro t s Q E i v ho q
        exact lot_quiet ho rfl rfl (by decide) q
    · cases hx
  | biter b i =>
    simp only [itemsIt] at hx
    split at hx
    · rename_i hl
      cases hx
      obtain ⟨ar, t, hb, it⟩ := so
      have hsz : ar.size = b.length := by rw [← hb]; simp
      have hw := kun_shift (KBw.walks (prog := C.W.prog) (w := C.W.w) hh a ar t) (k := i) (by omega)
      refine ⟨fun k v => ∃ c u, ar[i + k]? = some c ∧ v = .int (c.toNat : Int) u, fun k h => KBw.IsBytesIter h a ar t (i + k), (by rw [List.length_map, List.length_drop, ← hsz]; exact hw), ?_, it, fun b hb => .inl (List.mem_singleton.mp hb), fun _ _ z => let ⟨o, ho, _⟩ := z; ⟨o, ho⟩, ?_⟩
      · rintro k v ⟨c, u, e, rfl⟩
        refine ⟨.int c.toNat, ?_, .int _ _⟩
        rw [← hb]
        simp [e]
      · rintro t s Q E i v ⟨o, ho, hc, hd⟩ q
        exact lot_quiet ho hc hd (by decide) q
    · cases hx

/-- the turns of a for, whatever the hidden iterator is -/
theorem for_turns {t : Expr} {b : List Stmt} {Ta : AT} {B : (Fl → S → Prop) → S → Prop} (ha : Asg C t Ta) (hb : Exs C b B) {I : Addr} {xs : List V} {F₁ : Fz} {st₁ : S} {σ₁ : St} {s₁ s₂ : Shared} {fp : List Addr} {P : Nat → Value → Prop} {Sx : Nat → Heap → Prop} {h₀ : Heap} {Q : Fl → S → Prop} {R : Result → Shared → Prop}
    (g : Gives C F₁ I xs h₀ fp P Sx) (hs : Sx 0 s₂.heap) (l : LoopAt C [I] F₁ σ₁ s₁ F₁ st₁ s₂) (q : forL Ta B Q xs st₁)
    (out : ∀ F st s h' tk f fl, LoopAt C [I] F₁ σ₁ s₁ F st s → (∀ b o, b ∉ [I] → s.heap.get? b = some o → h'.get? b = some o) → Q f st → RF F f fl → R (.ok fl) { s with heap := h', toks := tk }) :
    codeAny C.W.M C.A (.forLoop t (.ref I) b [] C.env) R s₂ := by
  refine codeAny_forLoop_any (fun n s' => ∃ i F' st', n = xs.length + 1 - i ∧ i ≤ xs.length ∧ F₁.Le F' ∧ LoopAt C [I] F₁ σ₁ s₁ F' st' s' ∧ Sx i s'.heap ∧ forL Ta B Q (xs.drop i) st') ?_ (xs.length + 1) ⟨0, F₁, st₁, rfl, Nat.zero_le _, .refl _, l, hs, by simpa using q⟩
  rintro n s₃ ⟨i, F₃, st₃, rfl, hle, hF₃, l₃, hs₃, q₃⟩
  by_cases hlt : i < xs.length
  · refine g.walks.item i s₃ _ _ hlt hs₃ fun v h₄ tk hP hs₄ hk => ?_
    have hk' : ∀ b o, b ∉ [I] → s₃.heap.get? b = some o → h₄.get? b = some o := fun b o hb e => hk b o hb e
    have l₄ := l₃.at (tk := tk) [I] (fun _ m => m) hk' (fun b m => by rw [List.mem_singleton.mp m]; exact g.there _ _ hs₄)
    refine g.quiet t _ _ _ _ v hs₄ ?_
    obtain ⟨x', hx', rx⟩ := g.item i v hP
    have hd : xs.drop i = x' :: xs.drop (i + 1) := by
      obtain ⟨hl, e⟩ := List.getElem?_eq_some_iff.mp hx'
      rw [List.drop_eq_getElem_cons hl, e]
    rw [hd] at q₃
    refine (ha F₃ x' v (rx.mono hF₃)).then (Q := fun _ => _) (.refl _) l₄.sim q₃ fun F₅ _ st₅ _ s₅ p₅ _ q₅ => ?_
    refine hb.then (F0.le _) p₅.sim q₅ fun F₆ f st₆ a s₆ p₆ rf q₆ => ?_
    have pp := p₅.trans p₆
    have l₆ := l₄.step pp
    have fin : ∀ fl fl', Q fl st₆ → RF F₆ fl fl' → R (.ok fl') s₆ := fun fl fl' hq hr => by
      exact out F₆ st₆ s₆ s₆.heap s₆.toks fl fl' l₆ (fun b o _ e => e) hq hr
    have hsx : Sx (i + 1) s₆.heap := g.frame hs₄ (fun o e => pp.p.keep _ o e (l₄.off _ (.head _)).2.1 (l₄.off _ (.head _)).2.2.1) (fun a o e => l₄.sim.g.fz a o (hF₃ a o e)) (fun a o e => p₆.sim.g.fz a o (pp.ext a o (hF₃ a o e)))
    have on : forL Ta B Q (xs.drop (i + 1)) st₆ → ∃ m, m < xs.length + 1 - i ∧ ∃ i F' st', m = xs.length + 1 - i ∧ i ≤ xs.length ∧ F₁.Le F' ∧ LoopAt C [I] F₁ σ₁ s₁ F' st' s₆ ∧ Sx i s₆.heap ∧ forL Ta B Q (xs.drop i) st' :=
      fun z => ⟨xs.length + 1 - (i + 1), by omega, i + 1, F₆, st₆, rfl, hlt, hF₃.trans pp.ext, l₆, hsx, z⟩
    cases rf with
    | next => exact on q₆
    | cont => exact on q₆
    | brk => exact fin .next .next q₆ .next
    | ret r => exact fin _ _ q₆ (.ret r)
  · have e : i = xs.length := by omega
    subst e
    refine g.walks.done s₃ _ _ hs₃ fun h₄ tk hk => ?_
    rw [List.drop_length] at q₃
    exact wpAny_execs_nil (out F₃ st₃ s₃ h₄ tk .next .next l₃ (fun b o hb e => hk b o hb e) q₃ .next)

abbrev forSW (T : PV) (Ta : AT) (B : (Fl → S → Prop) → S → Prop) (Q : Fl → S → Prop) : S → Prop := T fun x st => ∃ a it xs, x = .ref a ∧ st.σ a = some it ∧ itemsIt it = some xs ∧ forL Ta B Q xs (st.del a)
theorem ex_forS {t it : Expr} {b : List Stmt} {pos : Pos} {T : PV} {Ta : AT} {B : (Fl → S → Prop) → S → Prop} (hi : Ev C it T) (ha : Asg C t Ta) (hb : Exs C b B) (hs : ∀ x, foldedSetIterable it C.env x = pure x := by intro _; rfl) :
    Ex C (.For t it b [] pos) (forSW T Ta B) := by
  intro E Q st F s hF k q
  refine wpAny_For (hi.then hF k q fun F₁ x st₁ v s₁ p₁ r₁ ⟨a, ao, xs, hx, hσ, hit, q₁⟩ => ?_) hs
  subst hx
  cases r₁
  obtain ⟨P, Sx, g⟩ := held_gives p₁.sim.ok.handled hit (p₁.sim.g.st a ao hσ).2
  refine g.walks.self 0 _ _ _ g.start ?_
  refine for_turns ha hb g g.start (.held p₁.sim hσ) q₁ fun F' st' s' h' tk f fl l hk q' rf => ?_
  exact ⟨F', f, st', p₁.trans (l.outS hσ hk), rf, q'⟩
end Mine

namespace Mine
open PySem PySem.W PyProof.Rows PySem.Calls

variable {C : Cx}

/-! ### range, reversed -/
abbrev rangeW (xs : List V) (Q : V → S → Prop) (st : S) : Prop := (∃ n, xs = [.int n] ∧ Q (.range 0 n 1) st) ∨ (∃ a b, xs = [.int a, .int b] ∧ Q (.range a b 1) st)
theorem made_fz {F : Fz} {st : S} {s : Shared} (k : Sim C F st s.heap) (o : Obj) (n : Nat) (ho : o.isFreed = false := by rfl) : ∃ F', Post C F st s F' st { s with heap := s.heap.push o, toks := n } ∧ F' s.heap.objs.size = some o :=
  ⟨_, Post.ofG k (PostG.frozen (o := o) (tk := n) k.g get_size (fun _ _ e => Heap.get?_push_of_some _ e) (Heap.get?_push_size _ ho)), if_pos rfl⟩
theorem range_ok (F : Fz) (xs : List V) (vs : List Value) (rs : RAll F xs vs) : Imp C F R (call (.type "range") vs) (rangeW xs) := by
  rintro E Q st F' s hF k (⟨n, hx, q⟩ | ⟨a, b, hx, q⟩)
  · subst hx
    cases rs with
    | cons r rs =>
      cases rs
      cases r with
      | int _ t =>
        refine call_range_1 ?_
        obtain ⟨F₁, p, e⟩ := made_fz k (rngOf 0 n 1 s.toks t (s.toks + 1)) (s.toks + 1 + 1)
        exact ⟨F₁, .range 0 n 1, st, p, .range e, q⟩
  · subst hx
    cases rs with
    | cons r rs =>
      cases rs with
      | cons r' rs =>
        cases rs
        cases r with
        | int _ t =>
          cases r' with
          | int _ u =>
            refine call_range_2 ?_
            obtain ⟨F₁, p, e⟩ := made_fz k (rngOf a b 1 t u s.toks) (s.toks + 1)
            exact ⟨F₁, .range a b 1, st, p, .range e, q⟩

theorem call_range_reversed {prog : Program} {w : World} {A : Around} {E : Value → Shared → Prop} {s : Shared} {l : Addr} {n : Int} {t u v : Tok} {Q : Value → Shared → Prop} (hr : IsRange s.heap l 0 n 1 t u v) (h0 : 0 ≤ n) (h1 : n ≤ 1000000)
    (h : Q (.ref s.heap.objs.size) { s with heap := s.heap.push { cls := .type "range_iterator", data := .fields #[rawInt (n - 1), rawInt n, rawInt (-1)] } }) : wpAny (model prog w) A (call (.builtin "range.__reversed__") [.ref l]) Q E s := by
  refine wpAny_call_entry PySem.F.slot_range_reversed ⟨_, hr, rfl⟩ PySem.F.entry_range_reversed ?_ (PySem.F.args_range_reversed_1 _)
  unfold Builtin.«range.__reversed__»
  refine wpAny_bind (wpAny_of_eq (a := Value.ref l) rfl ?_)
  unfold Builtin.Range.rangeFields
  refine wpAny_bind (wpAny_bind (wpAny_field hr rfl (x := .int 0 t) rfl (wpAny_bind (wpAny_pure (wpAny_bind (wpAny_field hr rfl (x := .int n u) rfl (wpAny_bind (wpAny_pure (wpAny_bind (wpAny_field hr rfl (x := .int 1 v) rfl (wpAny_bind (wpAny_pure (wpAny_pure ?_)))))))))))))
  have e : Builtin.Range.rangeSize 0 n 1 = n := by rw [rangeSize_one]; split <;> omega
  dsimp only
  rw [e]
  have hs : (Builtin.Range.rangeFitsLong 0 && Builtin.Range.rangeFitsLong n && Builtin.Range.rangeFitsLong 1 && Builtin.Range.rangeFitsLong (-1) && Builtin.Range.rangeFitsLong (0 - 1) && Builtin.Range.rangeFitsLong n) = true := by
    simp [Builtin.Range.rangeFitsLong]; omega
  rw [hs]
  simp only [Bool.not_true, Bool.false_eq_true, if_false, if_true]
  have e2 : (0 : Int) + (n - 1) * 1 = n - 1 := by omega
  rw [e2]
  exact wpAny_bind (wpAny_newObj_type (wpAny_pure ⟨_, rfl, h⟩))

theorem sub_ri_reversed : isSubtype (.type "range_iterator") (.type "reversed") = pure false := by rw [isSubtype_type]; kernel_rfl
theorem code_reversed_range {prog : Program} {w : World} {A : Around} {E : Value → Shared → Prop} {s : Shared} {l : Addr} {n : Int} {t u v : Tok} {Q₁ : Value → Shared → Prop} (hr : IsRange s.heap l 0 n 1 t u v) (h0 : 0 ≤ n) (h1 : n ≤ 1000000)
    (h : Q₁ (.ref s.heap.objs.size) { s with heap := s.heap.push { cls := .type "range_iterator", data := .fields #[rawInt (n - 1), rawInt n, rawInt (-1)] } }) :
    codeAny (model prog w) A (.call (.builtin "reversed.__new__") ⟨[.type "reversed", .ref l], []⟩) (wants Q₁ E) s := by
  have hT : s.TypeIs (.ref l) "range" := ⟨_, hr, rfl⟩
  refine codeAny_of_tree ?_
  show wpAny _ A.in1 (do checkBuiltinCall "reversed.__new__" ⟨[.type "reversed", .ref l], []⟩; again (.builtin "reversed.__new__" ⟨[.type "reversed", .ref l], []⟩)) _ _ s
  refine wpAny_bind (wpAny_of_eq (PySem.F.newCall_reversed_1 _) (wpAny_pure ⟨plainId_quiet PySem.F.plain_reversed_new _, codeAny_builtin PySem.F.entry_reversed_new ?_⟩))
  rw [Around.under_plainId PySem.F.plain_reversed_new _]
  unfold Builtin.«reversed.__new__»
  refine wpAny_bind (wpAny_of_eq (newClass_reversed _) ?_)
  dsimp only
  refine wpAny_bind (wpAny_of_eq (a := ()) (by first | rfl | kernel_rfl) ?_)
  refine wpAny_bind (wpAny_of_eq (a := ()) (by first | rfl | kernel_rfl) ?_)
  try dsimp only
  refine wpAny_bind (wpAny_specialOf hT PySem.F.slot_range_reversed.lookup ?_)
  dsimp only
  refine wpAny_bind (wpAny_of_eq (PySem.F.slot_range_reversed.bind _) ?_)
  dsimp only
  rw [if_neg (show ¬ ((Value.builtin "range.__reversed__" == Value.none) = true) from Bool.false_ne_true)]
  refine wpAny_bind (wpAny_rule ?_)
  refine wpAny_bind (m := runValue (.call (.builtin "range.__reversed__") ⟨[.ref l], []⟩)) (show wpAny _ _ (call (.builtin "range.__reversed__") [.ref l]) _ _ _ from call_range_reversed hr h0 h1 ?_)
  first
  | exact wpAny_pure h
  | exact wpAny_bind (wpAny_pure (wpAny_pure h))
theorem call_reversed_range {prog : Program} {w : World} {A : Around} {E : Value → Shared → Prop} {s : Shared} {l : Addr} {n : Int} {t u v : Tok} {Q : Value → Shared → Prop} (hr : IsRange s.heap l 0 n 1 t u v) (h0 : 0 ≤ n) (h1 : n ≤ 1000000)
    (h : Q (.ref s.heap.objs.size) { s with heap := s.heap.push { cls := .type "range_iterator", data := .fields #[rawInt (n - 1), rawInt n, rawInt (-1)] } }) : wpAny (model prog w) A (call (.type "reversed") [.ref l]) Q E s := by
  refine callType_other (U := "range_iterator") (Q₁ := fun obj s₁ => obj = .ref s.heap.objs.size ∧ s₁ = { s with heap := s.heap.push { cls := .type "range_iterator", data := .fields #[rawInt (n - 1), rawInt n, rawInt (-1)] } }) (by decide +kernel) PySem.F.create_reversed ⟨_, _, PySem.F.mro_reversed⟩ PySem.F.made_reversed sub_ri_reversed (PySem.F.typeCall_reversed_1 _) (code_reversed_range hr h0 h1 ⟨rfl, rfl⟩) ?_
  rintro obj s₁ ⟨rfl, rfl⟩
  exact ⟨⟨_, Heap.get?_push_size _ rfl, rfl⟩, h⟩
abbrev revW (xs : List V) (Q : V → S → Prop) (st : S) : Prop := ∃ n, xs = [.range 0 n 1] ∧ 0 ≤ n ∧ n ≤ 1000000 ∧ newWS (.riter (n - 1) n (-1)) Q st
theorem rev_ok (F : Fz) (xs : List V) (vs : List Value) (rs : RAll F xs vs) : Imp C F R (call (.type "reversed") vs) (revW xs) := by
  rintro E Q st F' s hF k ⟨n, hx, h0, h1, q⟩
  subst hx
  cases rs with
  | cons r rs =>
    cases rs
    cases r with
    | @range l _ _ _ t u v e =>
      have hr : IsRange s.heap l 0 n 1 t u v := k.g.fz _ _ (hF _ _ e)
      refine call_reversed_range hr h0 h1 ⟨F', .ref _, st.put s.heap.objs.size _, Post.ofG k (PostG.new (x := .riter (n - 1) n (-1)) (tk := s.toks) k.g get_size (fun _ _ e => Heap.get?_push_of_some _ e) ?_), .ref _, q _ (k.g.free get_size).2⟩
      exact Heap.get?_push_size _ rfl

/-! ### bytes, iter, next -/
theorem byteArr_are : ∀ {ns : List Int}, (∀ n ∈ ns, 0 ≤ n ∧ n < 256) → BytesAre (byteArr ns) ns := by
  intro ns h
  unfold BytesAre byteArr
  simp only [List.map_map]
  have : ∀ n ∈ ns, ((fun c : UInt8 => (c.toNat : Int)) ∘ fun n : Int => n.toNat.toUInt8) n = n := fun n hn => by
    obtain ⟨h0, h1⟩ := h n hn
    simp only [Function.comp]
    have : n.toNat.toUInt8.toNat = n.toNat := by
      show (UInt8.ofNat n.toNat).toNat = n.toNat
      rw [UInt8.toNat_ofNat']
      omega
    rw [this]; omega
  conv => rhs; rw [← List.map_id ns]
  exact List.map_congr_left fun n hn => this n hn
abbrev bytesW (xs : List V) (Q : V → S → Prop) (st : S) : Prop := ∃ x l ns, xs = [x] ∧ getL st x = some l ∧ intsOf l = some ns ∧ (∀ n ∈ ns, 0 ≤ n ∧ n < 256) ∧ ns.length ≤ 1000000 ∧ Q (.bytes ns) st
theorem bytes_ok (F : Fz) (xs : List V) (vs : List Value) (rs : RAll F xs vs) : Imp C F R (call (.type "bytes") vs) (bytesW xs) := by
  rintro E Q st F' s hF k ⟨x, l, ns, hx, hl, hn, hr, hsz, q⟩
  subst hx
  cases rs with
  | cons r rs =>
    cases rs
    obtain ⟨D, ws, n, rfl, ho, rw⟩ := getL_ok k (r.mono hF) hl
    have hi := intsOf_all rw hn
    refine call_bytes_ints (PySem.IsL.isList (n := n) ho) hi hr (by have := hi.length; unfold sizeLine; omega) k.ok.handled fun h' t m hk => ?_
    exact ⟨F', .bytes ns, st, k.grown hk, .bytes _ (byteArr_are hr), q⟩
abbrev iterW (xs : List V) (Q : V → S → Prop) (st : S) : Prop := ∃ b, xs = [.bytes b] ∧ newWS (.biter b 0) Q st
theorem iter_ok' (F : Fz) (xs : List V) (vs : List Value) (rs : RAll F xs vs) : Imp C F R (call (.builtin "iter") vs) (iterW xs) := by
  rintro E Q st F' s hF k ⟨b, hx, q⟩
  subst hx
  cases rs with
  | cons r rs =>
    cases rs
    cases r with
    | @bytes ar _ t hb =>
      refine call_function_entry (by decide +kernel) (by decide +kernel) kdk_entry_iter (kdk_args_iter _) ?_
      unfold Builtin.«iter»
      refine wpAny_bind (m := someArgs "iter" 1 2 _) (wpAny_of_eq (a := [Value.bytes ar t]) (by first | rfl | kernel_rfl!) ?_)
      show wpAny _ _ (pyIter (.bytes ar t) >>= _) _ _ _
      refine wpAny_bind (KBw.pyIter_bytes (wpAny_pure ⟨_, rfl, F', .ref _, st.put s.heap.objs.size _, Post.ofG k (PostG.new (x := .biter b 0) (tk := s.toks) k.g get_size (fun _ _ e => Heap.get?_push_of_some _ e) ?_), .ref _, q _ (k.g.free get_size).2⟩))
      exact ⟨ar, t, hb, _, Heap.get?_push_size _ rfl, rfl, rfl⟩
theorem biter_special {prog : Program} {w : World} {A : Around} {E : Value → Shared → Prop} {s : Shared} {b : Array UInt8} {t : Tok} {it : Addr} {i : Nat} {c : UInt8} {Q : Option Value → Shared → Prop} (hit : KBw.IsBytesIter s.heap it b t i) (hx : b[i]? = some c)
    (hQ : ∀ h', KBw.IsBytesIter h' it b t (i + 1) → Heap.SameBut it s.heap h' → Q (some (.int (c.toNat : Int) s.toks)) { s with heap := h', toks := s.toks + 1 }) : wpAny (model prog w) A (callSpecial? (.ref it) (Str.ofString "__next__")) Q E s := by
  obtain ⟨o, ho, hc, hd⟩ := id hit
  refine wpAny_callSpecial?_slot (name := PySem.Str.ofString "__next__") (KBw.iter_typeIs hit) KBw.slot_next
    (wpAny_call_entry KBw.slot_next (KBw.iter_typeIs hit) KBw.entry_next ?_ (KBw.args_next _))
  show wpAny _ _ (field (.ref it) 0 >>= _) _ _ s
  refine wpAny_bind (wpAny_field ho hd (x := .bytes b t) rfl ?_)
  show wpAny _ _ (if (Value.bytes b t == Value.none) = true then _ else _) _ _ s
  rw [if_neg (show ¬ ((Value.bytes b t == Value.none) = true) from Bool.false_ne_true)]
  show wpAny _ _ (field (.ref it) 1 >>= _) _ _ s
  refine wpAny_bind (wpAny_field ho hd (x := .int i 0) rfl ?_)
  refine wpAny_bind (wpAny_of_eq (a := b) rfl ?_)
  simp only [Int.toNat_natCast, hx]
  refine wpAny_bind (wpAny_setField ho hd (by simp) (wpAny_bind (wpAny_mkInt (wpAny_pure ⟨_, rfl, hQ _ ?_ (Heap.SameBut.update ..)⟩))))
  exact ⟨_, Heap.get?_update_self _ ho (Obj.isFreed_of_fields (Obj.data_mapFields hd _)), (Obj.cls_mapFields ..).trans hc, by
    rw [Obj.data_mapFields hd]; simp [rawInt]⟩
abbrev nextW (xs : List V) (Q : V → S → Prop) (st : S) : Prop := ∃ a b i z, xs = [.ref a] ∧ st.σ a = some (.biter b i) ∧ b[i]? = some z ∧ Q (.int z) (st.put a (.biter b (i + 1)))
theorem next_ok (F : Fz) (xs : List V) (vs : List Value) (rs : RAll F xs vs) : Imp C F R (call (.builtin "next") vs) (nextW xs) := by
  rintro E Q st F' s hF k ⟨a, b, i, z, hx, hs, hz, q⟩
  subst hx
  cases rs with
  | cons r rs =>
    cases rs
    cases r
    obtain ⟨_, ar, t, hb, hit⟩ := k.g.st a _ hs
    refine call_function_entry (by decide +kernel) (by decide +kernel) kdk_entry_next (kdk_args_next _) ?_
    unfold Builtin.«next»
    refine wpAny_bind (m := someArgs "next" 1 2 _) (wpAny_of_eq (a := [Value.ref a]) (by first | rfl | kernel_rfl!) ?_)
    dsimp only
    refine wpAny_bind (wpAny_specialOf (name := Str.ofString "__next__") (KBw.iter_typeIs hit) KBw.slot_next.lookup ?_)
    refine wpAny_ite_split (fun hab => absurd hab (by decide)) (fun _ => ?_)
    have hc : ∃ c : UInt8, ar[i]? = some c ∧ z = (c.toNat : Int) := by
      rw [← hb] at hz
      simp only [List.getElem?_map] at hz
      obtain ⟨c, hc, rfl⟩ := Option.map_eq_some_iff.mp hz
      exact ⟨c, by simpa using hc, rfl⟩
    obtain ⟨c, hc, rfl⟩ := hc
    refine wpAny_bind (biter_special hit hc fun h' hit' hs' => ?_)
    exact wpAny_pure ⟨_, rfl, F', .int _, _, Post.ofG k (PostG.change (y := .biter b (i + 1)) (tk := s.toks + 1) k.g hs (fun b o hb e => (hs'.2 b hb).trans e) ⟨ar, t, hb, hit'⟩), .int _ _, q⟩

/-! ### list.insert(0, x) -/
abbrev insertW (x : V) (xs : List V) (Q : V → S → Prop) (st : S) : Prop := ∃ a y l, x = .ref a ∧ xs = [.int 0, y] ∧ st.σ a = some (.list l) ∧ l.length ≤ 1000000 ∧ Q .none (st.put a (.list (y :: l)))
theorem insert_ok (F : Fz) (x : V) (xs : List V) (a : Value) (vs : List Value) (rx : R F x a) (rs : RAll F xs vs) : Imp C F R (call (.builtin "list.insert") (a :: vs)) (insertW x xs) := by
  rintro E Q st F' s hF k ⟨D, y, l, hx, hxs, hs, hsz, q⟩
  subst hx; subst hxs
  cases rs with
  | cons r0 rs =>
    cases rs with
    | @cons _ v _ _ ry rs =>
      cases rs
      cases rx
      cases r0 with
      | int _ u =>
        obtain ⟨_, ws, n, ho, rw⟩ := k.g.st D _ hs
        have hl := rw.length
        refine call_meets PySem.F.slot_list_insert ⟨_, ho, rfl⟩ PySem.F.entry_list_insert (PySem.F.args_list_insert_3 _ _ _) (AutoSeq1.list_insert_list_int_val_1 D ws.toArray n 0 u v (by decide) (by simp; unfold sizeLine; omega)) ⟨ho, ?_⟩
        refine ⟨F', .none, _, Post.ofG k (PostG.change (y := .list (y :: l)) (tk := s.toks) k.g hs (fun b o hb e => (Heap.get?_update_other _ _ (Ne.symm hb)).trans e) ⟨v :: ws, n + 1, ?_, .cons (ry.mono hF) rw⟩), .none, q⟩
        have := PySem.IsL.update (h := s.heap) ho (fun xs => have k := if (0 : Int) < 0 then ((0 : Int) + (xs.size : Int)).toNat else min (0 : Int).toNat xs.size; (xs.extract 0 k).push v ++ xs.extract k)
        simpa using this

/-! ### max of two, an empty dict, and in values, what is never run -/
abbrev maxW (xs : List V) (Q : V → S → Prop) (st : S) : Prop := ∃ a b, xs = [.int a, .int b] ∧ Q (.int (max a b)) st
theorem max_ok (F : Fz) (xs : List V) (vs : List Value) (rs : RAll F xs vs) : Imp C F R (call (.builtin "max") vs) (maxW xs) := by
  rintro E Q st F' s hF k ⟨a, b, hx, q⟩
  subst hx
  cases rs with
  | cons r rs =>
    cases rs with
    | cons r' rs =>
      cases rs
      cases r with
      | int _ t =>
        cases r' with
        | int _ u =>
          refine max_two_ints k.ok.handled fun h' tk hk => ⟨F', .int (max a b), st, k.grown hk, ?_, q⟩
          by_cases h : b > a
          · rw [if_pos h, Int.max_eq_right (by omega)]; exact .int _ _
          · rw [if_neg h, Int.max_eq_left (by omega)]; exact .int _ _
abbrev minW (xs : List V) (Q : V → S → Prop) (st : S) : Prop := ∃ a b, xs = [.int a, .int b] ∧ Q (.int (min a b)) st
theorem min_ok (F : Fz) (xs : List V) (vs : List Value) (rs : RAll F xs vs) : Imp C F R (call (.builtin "min") vs) (minW xs) := by
  rintro E Q st F' s hF k ⟨a, b, hx, q⟩
  subst hx
  cases rs with
  | cons r rs =>
    cases rs with
    | cons r' rs =>
      cases rs
      cases r with
      | int _ t =>
        cases r' with
        | int _ u =>
          refine min_two_ints k.ok.handled fun h' tk hk => ⟨F', .int (min a b), st, k.grown hk, ?_, q⟩
          by_cases h : b < a
          · rw [if_pos h, Int.min_eq_right (by omega)]; exact .int _ _
          · rw [if_neg h, Int.min_eq_left (by omega)]; exact .int _ _
theorem SimG.big {W : Wd} {F : Fz} {σ : St} {h : Heap} (g : SimG W F σ h) : (h.objs.size == sysModules) = false := by
  obtain ⟨mc, ⟨o, _, _, e, _⟩, _⟩ := W.lim
  have h2 : 2 < h.objs.size := Heap.lt_size (g.up _ _ e)
  show (h.objs.size == 1) = false
  rw [beq_eq_false_iff_ne]
  omega
theorem ev_dict0 {pos : Pos} : Ev C (.Dict [] [] pos) (fun Q st => newWS (.dict [] 0) Q st) := by
  intro E Q st F s hF k q
  refine wpAny_Dict_empty ⟨F, .ref _, st.put s.heap.objs.size (.dict [] 0), Post.ofG k (PostG.new (x := .dict [] 0) (tk := s.toks) k.g get_size (fun _ _ e => Heap.get?_push_of_some _ e) ?_), .ref _, q _ (k.g.free get_size).2⟩
  exact ⟨[], ⟨_, #[], Heap.get?_push_size _ rfl, ⟨rfl, rfl, rfl⟩, rfl, fun _ he => by simp at he, Pairs.nil, List.nodup_nil⟩, k.g.big, rfl, .nil⟩
theorem ev_and {x y : Expr} {pos : Pos} {T₁ T₂ : PV} (h₁ : Ev C x T₁) (h₂ : Ev C y T₂) : Ev C (.BoolOp .And [x, y] pos) (fun Q => T₁ fun v => truW v fun b st => if b then T₂ Q st else Q v st) := by
  intro E Q st F s hF k q
  show wpAny _ _ (boolOp pos .And [eval x C.env, eval y C.env]) _ _ _
  unfold boolOp
  refine wpAny_bind (h₁.then hF k q fun F₁ v st₁ a s₁ p₁ ra q₁ => wpAny_bind (wpAny_standAt (wpAny_bind (wpAny_holding ?_))))
  refine (tru_ok F₁ v a ra).then (.refl _) p₁.sim q₁ fun F₂ b st₂ b' s₂ p₂ rb q₂ => ?_
  subst rb
  cases b with
  | false => exact wpAny_pure ⟨F₂, v, st₂, p₁.trans p₂, ra.mono p₂.ext, q₂⟩
  | true => exact h₂.then (F0.le _) p₂.sim q₂ fun F₃ z st₃ u s₃ p₃ rz q₃ => ⟨F₃, z, st₃, p₁.trans (p₂.trans p₃), rz, q₃⟩
theorem imp_false {X α : Type} {Rel : Fz → X → α → Prop} {t : Sem α} {F₀ : Fz} : Imp C F₀ Rel t (fun _ _ => False) := fun _ _ _ _ _ _ _ q => q.elim
end Mine

namespace Mine
open PySem PySem.W PyProof.Rows PySem.Calls

variable {C : Cx}

/-! ### slices of lists -/
def pickV (l : List V) (lo hi : Option Int) : List V := (l.drop (kms_lo lo l.length)).take (kms_hi hi l.length - kms_lo lo l.length)
def OptEv (C : Cx) (e : Option Expr) (T : (Option Int → S → Prop) → S → Prop) : Prop := Imp C F0 (fun _ x v => IsPart v x) (evalPart e C.env) T
theorem opt_none : OptEv C none (fun Q st => Q none st) := fun _ _ st F _ _ k q => wpAny_evalPart_none ⟨F, none, st, .refl k, .none, q⟩
theorem opt_some {e : Expr} {T : PV} (h : Ev C e T) : OptEv C (some e) (fun Q => T fun x st => ∃ i, x = .int i ∧ Q (some i) st) := by
  intro E Q st F s hF k q
  refine wpAny_evalPart_some (h.then hF k q fun F₁ x st₁ v s₁ p₁ r₁ ⟨i, hx, q₁⟩ => ?_)
  subst hx
  cases r₁
  exact ⟨F₁, some i, st₁, p₁, .int _ _, q₁⟩
theorem ev_slice {o : Expr} {lo hi : Option Expr} {p pos : Pos} {T : PV} {T₁ T₂ : (Option Int → S → Prop) → S → Prop} (ho : Ev C o T) (h₁ : OptEv C lo T₁) (h₂ : OptEv C hi T₂) :
    Ev C (.Subscript o (.Slice lo hi none p) pos) (fun Q => T fun x => T₁ fun i => T₂ fun j st => ∃ l, getL st x = some l ∧ l.length ≤ 1000000 ∧ newWS (.list (pickV l i j)) Q st) := by
  intro E Q st F s hF k q
  refine Subscript_ (ho.then hF k q fun F₁ x st₁ a s₁ p₁ ra q₁ => wpAny_Slice (h₁.then (F0.le _) p₁.sim q₁ fun F₂ i st₂ vl s₂ p₂ rl q₂ => h₂.then (F0.le _) p₂.sim q₂ fun F₃ j st₃ vu s₃ p₃ ru q₃ => wpAny_evalPart_none ?_))
  obtain ⟨l, hl, hsz, q₃⟩ := q₃
  obtain ⟨D, vs, n, rfl, hD, rs⟩ := getL_ok p₃.sim (ra.mono (p₂.ext.trans p₃.ext)) hl
  have hlen := rs.length
  have hD' : (s₃.heap.push { cls := .type "slice", data := .fields #[vl, vu, .none] }).get? D = some (listOf vs.toArray n) := Heap.get?_push_of_some _ hD
  have p₄ : Post C F₃ st₃ s₃ F₃ st₃ { s₃ with heap := s₃.heap.push { cls := .type "slice", data := .fields #[vl, vu, .none] } } := p₃.sim.grown (tk := s₃.toks) fun b o e => Heap.get?_push_of_some _ e
  have hL : ({ s₃ with heap := s₃.heap.push { cls := .type "slice", data := .fields #[vl, vu, .none] } } : Shared).heap.IsList D vs.toArray := PySem.IsL.isList (n := n) hD'
  refine tail_any hL.typeIs PySem.F.slot_list_getitem.lookup (wpAny_getItem_list_slice hL ⟨_, Heap.get?_push_size _ rfl, rfl, rfl⟩ rl ru .none (by simp) ?_ (by simp; unfold sizeLine; omega)) rfl
  rw [kms_pick_eq]
  have rp : RAll F₃ (pickV l i j) (kms_pick vs.toArray.toList i j) := by
    unfold pickV kms_pick
    simp only [List.toList_toArray, ← hlen]
    exact (rs.drop _).take _
  obtain ⟨F₅, z, st₅, p₅, rz, q₅⟩ := made_list (n := 0) p₄.sim rp q₃
  exact ⟨F₅, z, st₅, p₁.trans (p₂.trans (p₃.trans (p₄.trans p₅))), rz, q₅⟩

/-! ### isinstance and type of bytes -/
abbrev isiW (W : Wd) (xs : List V) (Q : V → S → Prop) (st : S) : Prop :=
  (∃ b T z, xs = [.bytes b, .raw (.type T)] ∧ kitOne [] (.type "bytes") (.type T) = some z ∧ Q (.bool z) st) ∨
  (∃ b tp its n z, xs = [.bytes b, .raw (.ref tp)] ∧ W.h₀.get? tp = some (tupOf its n) ∧ kitAny [] (.type "bytes") its = some z ∧ Q (.bool z) st)
theorem isi_ok (F : Fz) (xs : List V) (vs : List Value) (rs : RAll F xs vs) : Imp C F R (call (.builtin "isinstance") vs) (isiW C.W xs) := by
  rintro E Q st F' s hF k (⟨b, T, z, hx, hz, q⟩ | ⟨b, tp, its, n, z, hx, ht, hz, q⟩)
  · subst hx
    cases rs with
    | cons r rs =>
      cases rs with
      | cons r' rs =>
        cases rs
        cases r with
        | @bytes ar _ u hb =>
          cases r' with
          | raw =>
            exact kia_one (K := []) kitx_bytes (fun _ _ e => by cases e) trivial hz (fun e => nomatch e) fun tk => ⟨F', .bool z, st, k.toks tk, .bool _, q⟩
  · subst hx
    cases rs with
    | cons r rs =>
      cases rs with
      | cons r' rs =>
        cases rs
        cases r with
        | @bytes ar _ u hb =>
          cases r' with
          | raw =>
            exact kia_tup (K := []) kitx_bytes (fun _ _ e => by cases e) trivial (k.g.up _ _ ht) hz (fun e => nomatch e) fun tk => ⟨F', .bool z, st, k.toks tk, .bool _, q⟩
abbrev typeW (xs : List V) (Q : V → S → Prop) (st : S) : Prop := (∃ b, xs = [.bytes b] ∧ Q (.raw (.type "bytes")) st) ∨ (∃ b, xs = [.bool b] ∧ Q (.raw (.type "bool")) st)
theorem type_ok (F : Fz) (xs : List V) (vs : List Value) (rs : RAll F xs vs) : Imp C F R (call (.type "type") vs) (typeW xs) := by
  rintro E Q st F' s hF k (⟨b, hx, q⟩ | ⟨b, hx, q⟩)
  · subst hx
    cases rs with
    | cons r rs =>
      cases rs
      cases r
      exact call_type_of (Tx := "bytes") rfl (by decide +kernel) ⟨F', _, st, .refl k, .raw _, q⟩
  · subst hx
    cases rs with
    | cons r rs =>
      cases rs
      cases r
      exact call_type_of (Tx := "bool") rfl (by decide +kernel) ⟨F', _, st, .refl k, .raw _, q⟩

/-! ### a call by keyword -/
inductive KwAll (C : Cx) : List Keyword → List Str → ((List V → S → Prop) → S → Prop) → Prop
  | nil : KwAll C [] [] (fun Q st => Q [] st)
  | cons {n : Str} {e : Expr} {p : Pos} {ks : List Keyword} {ns : List Str} {T : PV} {Ts : (List V → S → Prop) → S → Prop} : Ev C e T → KwAll C ks ns Ts → KwAll C (⟨some n, e, p⟩ :: ks) (n :: ns) (fun Q => T fun x => Ts fun xs => Q (x :: xs))
theorem KwAll.run {ks : List Keyword} {ns : List Str} {Ts : (List V → S → Prop) → S → Prop} (h : KwAll C ks ns Ts) (pos : Pos) : Imp C F0 RAll (evalAll ((backToKw pos (keywordEach ks C.env)).map (·.2))) Ts ∧ (backToKw pos (keywordEach ks C.env)).all (·.1.isSome) = true ∧ (backToKw pos (keywordEach ks C.env)).filterMap (·.1) = ns := by
  induction h with
  | nil => exact ⟨fun E Q st F s _ k q => wpAny_evalAll_nil ⟨F, [], st, .refl k, .nil, q⟩, rfl, rfl⟩
  | @cons n e p ks ns T Ts he _ ih =>
    obtain ⟨i1, i2, i3⟩ := ih
    refine ⟨fun E Q st F s hF k q => ?_, by simpa [keywordEach, backToKw] using i2, by simpa [keywordEach, backToKw] using i3⟩
    show wpAny _ _ (evalAll ((do let v ← eval e C.env; standAt pos; pure v) :: ((backToKw pos (keywordEach ks C.env)).map (·.2)))) _ _ _
    refine wpAny_evalAll_cons (wpAny_bind (he.then hF k q fun F₁ x st₁ v s₁ p₁ r₁ q₁ => wpAny_bind (wpAny_standAt (wpAny_pure ?_))))
    exact i1.then (F0.le _) p₁.sim q₁ fun F₂ xs st₂ vs s₂ p₂ r₂ q₂ => ⟨F₂, x :: xs, st₂, p₁.trans p₂, .cons (r₁.mono p₂.ext) r₂, q₂⟩
theorem ev_callK {x : Str} {p pos : Pos} {a : Addr} {fd : FuncData} {e : Expr} {es : List Expr} {ks : List Keyword} {ns : List Str} {Ts Tk : (List V → S → Prop) → S → Prop} (g : Glo C x (.ref a)) (f : FnAt C.W a fd) (ha : EvAll C (e :: es) Ts) (hk : KwAll C ks ns Tk) {W : Wd} (hW : C.W = W) {j : Nat} (hj : C.lev = j) :
    Ev C (.Call (.Name x p) (e :: es) ks pos) (fun Q => Ts fun xs => Tk fun ys st => ys.length = ns.length ∧ CallOK W j a xs (ns.zip ys) (fun x σ' => Q x ⟨σ', st.ρ⟩) st.σ) := by
  subst hW; subst hj
  intro E Q st F s hF k q
  obtain ⟨o, ho, hd⟩ := f.at_
  obtain ⟨i1, i2, i3⟩ := hk.run pos
  refine wpAny_Call_Name_kw (name_wp k g.is g.eg g.eb g.hl g.hd ?_)
  have hst : isStarred e = false := by cases ha with | cons h _ _ => exact h
  have run := (ha.run pos).then (E := E) (F0.le _) k q (Z := fun vs s₁ => wpAny C.W.M C.A (evalAll ((backToKw pos (keywordEach ks C.env)).map (·.2))) (fun ks' s₂ => (s₂.heap.get? a = some o ∧ o.data = .func fd) ∧ wpAny C.W.M C.A (call (.ref a) ([] ++ vs) (((backToKw pos (keywordEach ks C.env)).filterMap (·.1)).zip ks')) (fun v s' => ∃ F' x st', Post C F st s F' st' s' ∧ R F' x v ∧ Q x st') E s₂) E s₁)
    fun F₁ xs st₁ vs s₁ p₁ rs q₁ => i1.then (F0.le _) p₁.sim q₁ fun F₂ ys st₂ ws s₂ p₂ rw q₂ => by
      refine ⟨⟨p₂.sim.g.up _ _ ho, hd⟩, ?_⟩
      have hlen := rw.length
      refine wpAny_mono (q₂.2 C.A E F₂ s₂ vs _ p₂.sim.ok p₂.sim.g (rs.mono p₂.ext) ?_ ?_) (fun v s₃ ⟨F₃, z, σ₃, p₃, rz, q₃⟩ => ⟨F₃, z, ⟨σ₃, st₂.ρ⟩, p₁.trans (p₂.trans (Post.ofG p₂.sim p₃)), rz, q₃⟩) fun _ _ e => e
      · rw [i3, List.map_fst_zip (by omega), List.map_fst_zip (by omega)]
      · rw [i3, List.map_snd_zip (by omega), List.map_snd_zip (by omega)]; exact rw
  refine callWith_function_kw (o := o) (fd := fd) ?_
  rw [starEach_cons hst] at run ⊢
  exact evalArgs_kw i2 run

/-- entering a def whose parameters are bound in whatever way -/
theorem call_introB {W : Wd} {a : Addr} {fd : FuncData} {body : List Stmt} {params names : List Str} {lev : Nat} {T : (Fl → S → Prop) → S → Prop} {xs ys : List V} {kw : List (Str × V)} {Q : V → St → Prop} {σ : St} (f : FnAt W a fd)
    (hb : fd.body = .stmts body) (hT : ∀ A L, Exs (fnCx W A fd L a (params ++ names) lev) body T)
    (hbind : ∀ (F : Fz) (s : Shared) (vs : List Value) (kvs : List (Str × Value)), SimG W F σ s.heap → RAll F xs vs → kw.map (·.1) = kvs.map (·.1) → RAll F (kw.map (·.2)) (kvs.map (·.2)) → ∃ ws, BindsTo s fd ⟨vs, kvs⟩ (params.zip ws) ∧ RAll F ys ws)
    (hcell : ∀ x ∈ fd.scope.names, x.2 ≠ .cell) (hloc : ∀ x ∈ params, fd.scope.names.lookup x = some .local) (hnd : (params ++ names).Nodup) (hlen : ys.length = params.length)
    (q : T (retW Q) ⟨σ, fun i => ys[i]?⟩)
    (hco : fd.scope.isCoroutine = false := by rfl) (hgen : fd.scope.isGenerator = false := by rfl) (hk : fd.scope.kind = .function := by rfl) : CallOK W (lev + 1) a xs kw Q σ := by
  intro A E F s vs kvs hA g rs hkn rk
  obtain ⟨o, ho, hd⟩ := f.at_
  obtain ⟨ws, hbd, rw⟩ := hbind F s vs kvs g rs hkn rk
  refine wpAny_call (codeAny_call_def (fd := fd) (body := body) (binds := params.zip ws) (by have := hA.depth; omega) (g.up _ _ ho) hd (W.lim.keeps g.up) (f.code.keeps g.up) hb hbd hcell (fun x hx => hloc x.1 (List.of_mem_zip hx).1) (fun h₀ hn hk₀ => ?_) hco hgen hk)
  obtain ⟨hF, hσ⟩ := get_fresh_none g
  have hs : s.heap.get? s.heap.objs.size = none := get_size
  have hpl : ∀ p ∈ (params ++ names).map (Pl.d s.heap.objs.size), p.addr = s.heap.objs.size := fun p hp => by obtain ⟨x, _, rfl⟩ := List.mem_map.mp hp; rfl
  have g₁ : SimG W F σ h₀ := g.heap [] (fun b o _ e => hk₀ b o e) (fun _ m => nomatch m)
  have sim : Sim (fnCx W A fd s.heap.objs.size a (params ++ names) lev) F ⟨σ, fun i => ys[i]?⟩ h₀ := by
    refine ⟨g₁, fun i p hp => ?_, fun p hp => ?_, okA_deeper hA, hk, ?_⟩
    · have hp' : ((params ++ names).map (Pl.d s.heap.objs.size))[i]? = some p := hp
      rw [List.getElem?_map] at hp'
      obtain ⟨x, hx, rfl⟩ := Option.map_eq_some_iff.mp hp'
      refine ⟨_, hn, fun v hv => ?_⟩
      have hv' : ys[i]? = some v := hv
      have hi : i < params.length := by rw [← hlen]; exact (List.getElem?_eq_some_iff.mp hv').1
      rw [List.getElem?_append_left hi] at hx
      obtain ⟨u, hu, r⟩ := rw.get hv'
      exact ⟨u, lookup_zip (List.nodup_append.mp hnd).1 hx hu, r⟩
    · rw [hpl p hp]; exact ⟨hF, hσ⟩
    · exact List.pairwise_map.mpr (hnd.imp fun h e => h (by injection e))
  refine (hT A s.heap.objs.size).then (F0.le _) sim q fun F₁ fl st₁ w s₁ p₁ rf q₁ => ?_
  have fin : PostG [] W F σ s F₁ st₁.σ s₁ := by
    have z : PostG ((params ++ names).map (fun _ => s.heap.objs.size)) W F σ s F σ { s with heap := h₀, toks := s.toks + (params.zip ws).length } := .heap g [] (fun b o _ e => hk₀ b o e) (fun _ m => nomatch m) (fun _ m => nomatch m)
    have p₁' : PostG ((params ++ names).map (fun _ => s.heap.objs.size)) W F σ { s with heap := h₀, toks := s.toks + (params.zip ws).length } F₁ st₁.σ s₁ := by
      have := p₁.p
      refine this.congr fun b => ?_
      show b ∈ (params ++ names).map _ ↔ b ∈ ((params ++ names).map (Pl.d s.heap.objs.size)).map Pl.addr
      rw [List.map_map]; exact Iff.rfl
    have t := z.trans p₁'
    have u : PostG ((params ++ names).map (fun _ => s.heap.objs.size) ++ []) W F σ s F₁ st₁.σ s₁ := by rw [List.append_nil]; exact t
    exact strikeAll u fun b hb => by obtain ⟨_, _, rfl⟩ := List.mem_map.mp hb; exact hs
  cases rf with
  | next => obtain ⟨σ', hsub, q₁⟩ := q₁; exact ⟨F₁, .none, σ', fin.sub hsub, .none, q₁⟩
  | brk => exact q₁.elim
  | cont => exact q₁.elim
  | ret r => obtain ⟨σ', hsub, q₁⟩ := q₁; exact ⟨F₁, _, σ', fin.sub hsub, r, q₁⟩
end Mine

namespace Mine
open PySem PySem.W PyProof.Rows PySem.Calls

variable {C : Cx}

/-! ### defs some of whose names lie in cells -/
def cellsAt (fd : FuncData) (L : Addr) : List (Str × Addr) := cellsFrom (L + 1) fd.scope.names []
def envC (fd : FuncData) (L a : Addr) : Env := newEnv fd.scope L fd.globals (cellsAt fd L) (fd.qualname ++ ".<locals>.") (some a) fd.code none fd.builtins
def plOf (fd : FuncData) (L : Addr) (p : Str × Bool) : Pl := if p.2 then .c (((cellsAt fd L).lookup p.1).getD 0) else .d L p.1
def fnCxC (W : Wd) (A : Around) (fd : FuncData) (L a : Addr) (names : List (Str × Bool)) (lev : Nat) : Cx := { W := W, A := A.deeper (envC fd L a), env := envC fd L a, pl := names.map (plOf fd L), lev := lev }

theorem bindL_off (kd : Str → Option NameKind) : ∀ {ns : List Str} {ws : List Value} {m : Str → Option Value} {x : Str}, x ∉ ns → bindL kd (ns.zip ws) m x = m x
  | [], _, _, _, _ => rfl
  | _ :: _, [], _, _, _ => rfl
  | n :: ns, w :: ws, m, x, h => by
    rw [List.zip_cons_cons, bindL, bindL_off kd (fun q => h (.tail _ q))]
    split
    · exact if_neg (show ¬ x = n from fun e => h (by rw [e]; exact .head _))
    · rfl
theorem bindL_at {kd : Str → Option NameKind} : ∀ {ns : List Str} {ws : List Value} {m : Str → Option Value} {i : Nat} {x : Str} {v : Value}, ns.Nodup → ns[i]? = some x → ws[i]? = some v → kd x = some .local → bindL kd (ns.zip ws) m x = some v
  | [], _, _, _, _, _, _, h, _, _ => by simp at h
  | _ :: _, [], _, _, _, _, _, _, h, _ => by simp at h
  | n :: ns, w :: ws, m, 0, x, v, hn, h1, h2, hk => by
    simp at h1 h2
    subst h1; subst h2
    rw [List.zip_cons_cons, bindL, if_pos hk, bindL_off kd (List.nodup_cons.mp hn).1, if_pos rfl]
  | n :: ns, w :: ws, m, i + 1, x, v, hn, h1, h2, hk => by
    rw [List.zip_cons_cons, bindL]
    exact bindL_at (List.nodup_cons.mp hn).2 (by simpa using h1) (by simpa using h2) hk
theorem bindC_off (kd : Str → Option NameKind) : ∀ {ns : List Str} {ws : List Value} {m : Str → Option Value} {x : Str}, x ∉ ns → bindC kd (ns.zip ws) m x = m x
  | [], _, _, _, _ => rfl
  | _ :: _, [], _, _, _ => rfl
  | n :: ns, w :: ws, m, x, h => by
    rw [List.zip_cons_cons, bindC, bindC_off kd (fun q => h (.tail _ q))]
    split
    · rfl
    · exact if_neg (show ¬ x = n from fun e => h (by rw [e]; exact .head _))
theorem bindC_at {kd : Str → Option NameKind} : ∀ {ns : List Str} {ws : List Value} {m : Str → Option Value} {i : Nat} {x : Str} {v : Value}, ns.Nodup → ns[i]? = some x → ws[i]? = some v → kd x ≠ some .local → bindC kd (ns.zip ws) m x = some v
  | [], _, _, _, _, _, _, h, _, _ => by simp at h
  | _ :: _, [], _, _, _, _, _, _, h, _ => by simp at h
  | n :: ns, w :: ws, m, 0, x, v, hn, h1, h2, hk => by
    simp at h1 h2
    subst h1; subst h2
    rw [List.zip_cons_cons, bindC, if_neg hk, bindC_off kd (List.nodup_cons.mp hn).1, if_pos rfl]
  | n :: ns, w :: ws, m, i + 1, x, v, hn, h1, h2, hk => by
    rw [List.zip_cons_cons, bindC]
    exact bindC_at (List.nodup_cons.mp hn).2 (by simpa using h1) (by simpa using h2) hk

theorem call_introC {W : Wd} {a : Addr} {fd : FuncData} {body : List Stmt} {params : List Str} {names : List (Str × Bool)} {lev : Nat} {T : (Fl → S → Prop) → S → Prop} {xs : List V} {Q : V → St → Prop} {σ : St} (f : FnAt W a fd)
    (hb : fd.body = .stmts body) (hT : ∀ A L, Exs (fnCxC W A fd L a names lev) body T)
    (hbind : ∀ vs : List Value, vs.length = params.length → bindArgs fd ⟨vs, []⟩ = pure (params.zip vs)) (hcl : fd.closure = [])
    (hpar : (names.map (·.1)).take params.length = params)
    (hkd : ∀ p ∈ names, fd.scope.names.lookup p.1 = some (if p.2 then .cell else .local)) (hin : ∀ L, ∀ p ∈ names, p.2 = true → ((cellsAt fd L).lookup p.1).isSome = true)
    (hnd : (names.map (·.1)).Nodup) (hlen : xs.length = params.length)
    (q : T (retW Q) ⟨σ, fun i => xs[i]?⟩)
    (hco : fd.scope.isCoroutine = false := by rfl) (hgen : fd.scope.isGenerator = false := by rfl) (hk : fd.scope.kind = .function := by rfl) : CallOK W (lev + 1) a xs [] Q σ := by
  intro A E F s vs kvs hA g rs hkn _
  obtain ⟨o, ho, hd⟩ := f.at_
  cases kvs with
  | cons _ _ => simp at hkn
  | nil =>
  have hvl : vs.length = params.length := by rw [← rs.length, hlen]
  have hbd := hbind vs hvl
  have hpnd : params.Nodup := by rw [← hpar]; exact hnd.sublist (List.take_sublist _ _)
  have hpm : ∀ x ∈ params, ∃ p ∈ names, p.1 = x := fun x hx => by
    rw [← hpar] at hx
    obtain ⟨p, hp, e⟩ := List.mem_map.mp (List.mem_of_mem_take hx)
    exact ⟨p, hp, e⟩
  refine wpAny_call (codeAny_call_function (by have := hA.depth; omega) (g.up _ _ ho) hd hco hgen hb (f.code.keeps g.up) ?_)
  rw [hbd]
  refine wpAny_pure ?_
  rw [hcl]
  refine wpAny_newFunctionEnv_cells hk (fun x hx => ?_) (fun env henv s₁ ic => ?_)
  · obtain ⟨p, hp, e⟩ := hpm x.1 (List.of_mem_zip hx).1
    have := hkd p hp
    rw [e] at this
    cases h : p.2 with
    | false => rw [h] at this; exact .inl this
    | true => rw [h] at this; exact .inr ⟨this, by rw [← e]; exact hin _ p hp h⟩
  have henv' : env = envC fd s.heap.objs.size a := henv
  clear henv
  subst henv'
  have L0 : (envC fd s.heap.objs.size a).locals = s.heap.objs.size := rfl
  have C0 : (envC fd s.heap.objs.size a).cells = cellsAt fd s.heap.objs.size := rfl
  rw [L0, C0] at ic
  obtain ⟨h₁, tk, rfl⟩ := ic.toInCall.same
  have keep := ic.toInCall.keep
  have hns := ic.toInCall.ns
  refine ⟨(W.lim.keeps g.up).keeps keep, codeAny_func ?_⟩
  have hs : s.heap.get? s.heap.objs.size = none := get_size
  have big : ∀ c, s.heap.objs.size ≤ c → s.heap.get? c = none := fun c hc => by
    cases e : s.heap.get? c with
    | none => rfl
    | some o => exact absurd (Heap.lt_size e) (Nat.not_lt.mpr hc)
  have hpl : ∀ p ∈ names, s.heap.get? (plOf fd s.heap.objs.size p).addr = none := fun p hp => by
    unfold plOf
    cases h : p.2 with
    | false => exact hs
    | true =>
      obtain ⟨c, hc⟩ := Option.isSome_iff_exists.mp (hin s.heap.objs.size p hp h)
      simp only [if_true, hc, Option.getD_some]
      exact big c (Nat.le_of_lt (ic.above p.1 c (mem_of_lookup hc)))
  have g₁ : SimG W F σ h₁ := g.heap [] (fun b o _ e => keep b o e) (fun _ m => nomatch m)
  have sim : Sim (fnCxC W A fd s.heap.objs.size a names lev) F ⟨σ, fun i => xs[i]?⟩ h₁ := by
    refine ⟨g₁, fun i p hp => ?_, fun p hp => ?_, okA_deeper hA, hk, ?_⟩
    · have hp' : (names.map (plOf fd s.heap.objs.size))[i]? = some p := hp
      rw [List.getElem?_map] at hp'
      obtain ⟨x, hx, rfl⟩ := Option.map_eq_some_iff.mp hp'
      have hxm := List.mem_of_getElem? hx
      have kd := hkd x hxm
      have at_ : ∀ v, xs[i]? = some v → ∃ u, vs[i]? = some u ∧ R F v u ∧ params[i]? = some x.1 := fun v hv => by
        obtain ⟨u, hu, r⟩ := rs.get hv
        refine ⟨u, hu, r, ?_⟩
        have hi : i < params.length := by rw [← hlen]; exact (List.getElem?_eq_some_iff.mp hv).1
        rw [← hpar, List.getElem?_take, if_pos hi, List.getElem?_map, hx]; rfl
      unfold plOf
      cases h : x.2 with
      | false =>
        rw [h] at kd
        refine ⟨_, hns, fun v hv => ?_⟩
        obtain ⟨u, hu, r, hpi⟩ := at_ v hv
        exact ⟨u, bindL_at hpnd hpi hu kd, r⟩
      | true =>
        rw [h] at kd
        obtain ⟨c, hc⟩ := Option.isSome_iff_exists.mp (hin s.heap.objs.size x hxm h)
        simp only [if_true, hc, Option.getD_some]
        refine ⟨_, ic.cell x.1 c hc, fun v hv => ?_⟩
        obtain ⟨u, hu, r, hpi⟩ := at_ v hv
        refine ⟨u, bindC_at hpnd hpi hu ?_, r⟩
        show fd.scope.names.lookup x.1 ≠ some .local
        rw [kd]; simp
    · obtain ⟨x, hx, rfl⟩ := List.mem_map.mp hp
      exact g.free (hpl x hx)
    · show (names.map (plOf fd s.heap.objs.size)).Nodup
      refine List.pairwise_map.mpr (List.Pairwise.imp_of_mem ?_ (List.pairwise_map.mp hnd))
      intro x y hx hy hne e
      unfold plOf at e
      cases h1 : x.2 with
      | false =>
        cases h2 : y.2 with
        | false => rw [h1, h2] at e; simp at e; exact hne e
        | true => rw [h1, h2] at e; simp at e
      | true =>
        cases h2 : y.2 with
        | false => rw [h1, h2] at e; simp at e
        | true =>
          obtain ⟨c, hc⟩ := Option.isSome_iff_exists.mp (hin s.heap.objs.size x hx h1)
          obtain ⟨d, hd'⟩ := Option.isSome_iff_exists.mp (hin s.heap.objs.size y hy h2)
          rw [h1, h2, hc, hd'] at e
          simp at e
          subst e
          exact hne (name_of_addr ic.apart (mem_of_lookup hc) (mem_of_lookup hd'))
  refine (hT A s.heap.objs.size).then (F0.le _) sim q fun F₁ fl st₁ w s₂ p₁ rf q₁ => ?_
  have fin : PostG [] W F σ s F₁ st₁.σ s₂ := by
    have z : PostG ((names.map (plOf fd s.heap.objs.size)).map Pl.addr) W F σ s F σ { s with heap := h₁, toks := tk } := .heap g [] (fun b o _ e => keep b o e) (fun _ m => nomatch m) (fun _ m => nomatch m)
    have t := z.trans p₁.p
    have u : PostG ((names.map (plOf fd s.heap.objs.size)).map Pl.addr ++ []) W F σ s F₁ st₁.σ s₂ := by rw [List.append_nil]; exact t
    exact strikeAll u fun b hb => by
      obtain ⟨p, hp, rfl⟩ := List.mem_map.mp hb
      obtain ⟨x, hx, rfl⟩ := List.mem_map.mp hp
      exact hpl x hx
  cases rf with
  | next => obtain ⟨σ', hsub, q₁⟩ := q₁; exact ⟨F₁, .none, σ', fin.sub hsub, .none, q₁⟩
  | brk => exact q₁.elim
  | cont => exact q₁.elim
  | ret r => obtain ⟨σ', hsub, q₁⟩ := q₁; exact ⟨F₁, _, σ', fin.sub hsub, r, q₁⟩
end Mine

namespace Mine
open PySem PySem.W PyProof.Rows PySem.Calls

variable {C : Cx}

/-! ### == of two dicts, where it holds -/
abbrev dictEqW (x y : V) (Q : Bool → S → Prop) (st : S) : Prop := ∃ a b ps qs ea eb, x = .ref a ∧ y = .ref b ∧ st.σ a = some (.dict ps ea) ∧ st.σ b = some (.dict qs eb) ∧ ps.length = qs.length ∧
  (∀ p ∈ ps, ∃ z d e, lookD qs p.1 = some z ∧ toPy st.σ 8 p.2 = some d ∧ toPy st.σ 8 z = some e ∧ PyData.eqv d e = true) ∧ Q true st
theorem dict_hits {F : Fz} {st : S} {s : Shared} (k : Sim C F st s.heap) {qs : List (Int × V)} {kb : List (Int × Value)} (eb : qs.map (·.1) = kb.map (·.1)) (rb : RAll F (qs.map (·.2)) (kb.map (·.2))) :
    ∀ {ps : List (Int × V)} {ka : List (Int × Value)}, ps.map (·.1) = ka.map (·.1) → RAll F (ps.map (·.2)) (ka.map (·.2)) → (∀ p ∈ ps, ∃ z d e, lookD qs p.1 = some z ∧ toPy st.σ 8 p.2 = some d ∧ toPy st.σ 8 z = some e ∧ PyData.eqv d e = true) → KeqHits C.A.in1 s kb ka true
  | [], [], _, _, _ => .nil
  | [], _ :: _, e, _, _ => by simp at e
  | _ :: _, [], e, _, _ => by simp at e
  | (i, x) :: ps, (j, v) :: ka, e, .cons r rs, h => by
    simp only [List.map_cons, List.cons.injEq] at e
    obtain ⟨rfl, e⟩ := e
    obtain ⟨z, d, e', hz, hd, he, hq⟩ := h _ (.head _)
    obtain ⟨y, hy, ry⟩ := lookD_ok eb rb hz
    obtain ⟨⟨as, ra⟩, la, da⟩ := toPy_ok k r hd
    obtain ⟨⟨bs, rb'⟩, lb, db⟩ := toPy_ok k ry he
    have := keq_at (A := C.A) ra rb' (shaped_of la da) (shaped_of lb db) (by have := k.ok.units; show C.A.units + 1 + 64 < cLine; omega)
    rw [hq] at this
    exact .hit (e := true) (b := true) hy this (dict_hits k eb rb e rs fun p hp => h p (.tail _ hp))
theorem dictEq_ok (F : Fz) (x y : V) (a b : Value) (rx : R F x a) (ry : R F y b) : Imp C F RC (compareOp .Eq a b) (dictEqW x y) := by
  rintro E Q st F' s hF k ⟨p, q, ps, qs, e1, e2, hx, hy, hp, hq, hl, hh, q'⟩
  subst hx; subst hy
  cases rx; cases ry
  obtain ⟨_, ka, ma, na, ea, ra⟩ := k.g.st p _ hp
  obtain ⟨_, kb, mb, nb, eb, rb⟩ := k.g.st q _ hq
  have h1 : ka.length = ps.length := by have := congrArg List.length ea; simpa using this.symm
  have h2 : kb.length = qs.length := by have := congrArg List.length eb; simpa using this.symm
  refine keq_eq (knd := intKind C.W.prog C.W.w) (r := true) na nb ma.dictOf mb.dictOf (by have := k.ok.units; omega) (fun _ => dict_hits k eb rb ea ra hh) ⟨F', true, st, .refl k, ?_, q'⟩
  rw [h1, h2, hl]; simp

/-! ### for over a dict's keys, its values may be stored meanwhile -/
def Keys (d : Addr) (ep : Nat) (ks : List Int) (st : S) : Prop := ∃ ps, st.σ d = some (.dict ps ep) ∧ ps.map (·.1) = ks
def forDL (d : Addr) (ep : Nat) (ks : List Int) (Ta : AT) (B : (Fl → S → Prop) → S → Prop) (Q : Fl → S → Prop) : List Int → S → Prop
  | [], st => Keys d ep ks st ∧ Q .next st
  | k :: r, st => Keys d ep ks st ∧ Ta (.int k) (fun st₁ => B (fun f st₂ => match f with | .next => forDL d ep ks Ta B Q r st₂ | .cont => forDL d ep ks Ta B Q r st₂ | .brk => Q .next st₂ | .ret v => Q (.ret v) st₂) st₁) st
abbrev forDW (T : PV) (Ta : AT) (B : (Fl → S → Prop) → S → Prop) (Q : Fl → S → Prop) : S → Prop := T fun x st => ∃ d ps ep, x = .ref d ∧ st.σ d = some (.dict ps ep) ∧ forDL d ep (ps.map (·.1)) Ta B Q (ps.map (·.1)) st
theorem keyAt {F : Fz} {st : S} {h : Heap} (k : Sim C F st h) {d : Addr} {ep : Nat} {ks : List Int} (hk : Keys d ep ks st) : ∃ kvs : List (Int × Value), h.DictAt (intKind C.W.prog C.W.w) d kvs ep ∧ (d == sysModules) = false ∧ kvs.map (·.1) = ks := by
  obtain ⟨ps, hs, e⟩ := hk
  obtain ⟨_, kvs, m, n, e', _⟩ := k.g.st d _ hs
  exact ⟨kvs, m, n, e'.symm.trans e⟩
theorem keyIter_quiet {M : Model} {A : Around} {I d : Addr} {i n ep : Nat} {t : Expr} {v : Value} {s : Shared} {Q : Unit → Shared → Prop} {E : Value → Shared → Prop} (h : s.heap.IsKeyIter I d i n ep) (q : Q () s) : wpAny M A (letOwnedTupleGo t (.ref I) v) Q E s := by
  obtain ⟨o, ho, hc, hd⟩ := h
  exact lot_quiet ho hc hd (by decide) q
theorem keyIter_at {h h' : Heap} {it d : Addr} {i n ep : Nat} (x : h.IsKeyIter it d i n ep) (e : ∀ o, h.get? it = some o → h'.get? it = some o) : h'.IsKeyIter it d i n ep := let ⟨o, ho, r⟩ := x; ⟨o, e o ho, r⟩
theorem ex_forD {t it : Expr} {b : List Stmt} {pos : Pos} {T : PV} {Ta : AT} {B : (Fl → S → Prop) → S → Prop} (hi : Ev C it T) (ha : Asg C t Ta) (hb : Exs C b B) (hs : ∀ x, foldedSetIterable it C.env x = pure x := by intro _; rfl) :
    Ex C (.For t it b [] pos) (forDW T Ta B) := by
  intro E Q st F s hF k q
  refine wpAny_For (hi.then hF k q fun F₁ x st₁ v s₁ p₁ r₁ ⟨d, ps, ep, hx, hσ, q₁⟩ => ?_) hs
  subst hx
  cases r₁
  generalize hks : ps.map (·.1) = ks at q₁
  obtain ⟨kvs, m, nm, ek⟩ := keyAt p₁.sim ⟨ps, hσ, hks⟩
  refine wpAny_pyIter_dict (knd := intKind C.W.prog C.W.w) nm m ?_
  have hI : s₁.heap.get? s₁.heap.objs.size = none := get_size
  have hkl : kvs.length = ks.length := by rw [← ek]; simp
  have l := (LoopAt.begin p₁.sim).alloc (o := { cls := .type "dict_keyiterator", data := .fields #[.ref d, .int 0 0, .int kvs.length 0, .int ep 0] })
  refine codeAny_forLoop_any (fun n s' => ∃ i F' st', n = ks.length + 1 - i ∧ i ≤ ks.length ∧ F₁.Le F' ∧ LoopAt C [s₁.heap.objs.size] F₁ st₁.σ s₁ F' st' s' ∧ s'.heap.IsKeyIter s₁.heap.objs.size d i ks.length ep ∧ forDL d ep ks Ta B Q (ks.drop i) st') ?_ (ks.length + 1)
    ⟨0, F₁, st₁, rfl, Nat.zero_le _, .refl _, l, ⟨_, Heap.get?_push_size _ rfl, rfl, by rw [hkl]; rfl⟩, by simpa using q₁⟩
  rintro n s₃ ⟨i, F₃, st₃, rfl, hle, hF₃, l₃, hs₃, q₃⟩
  by_cases hlt : i < ks.length
  · have hd : ks.drop i = ks[i] :: ks.drop (i + 1) := List.drop_eq_getElem_cons hlt
    rw [hd] at q₃
    obtain ⟨hky, q₃⟩ := q₃
    obtain ⟨kvs', m', _, ek'⟩ := keyAt l₃.sim hky
    have hl' : kvs'.length = ks.length := by rw [← ek']; simp
    have hx : kvs'[i]? = some (ks[i], (kvs'[i]'(by omega)).2) := by
      have e1 : (kvs'.map (·.1))[i]? = some ks[i] := by rw [ek']; simp
      rw [List.getElem?_map, List.getElem?_eq_getElem (by omega)] at e1
      rw [List.getElem?_eq_getElem (by omega)]
      simp at e1
      rw [← e1]
    rw [← hl'] at hs₃
    refine wpAny_pyNext_dict_item hs₃ m' hx fun key h₄ hkey hit₄ hsb => ?_
    obtain ⟨t', rfl⟩ := Value.isInt_shape hkey
    have l₄ := l₃.at (h' := h₄) (tk := s₃.toks) [s₁.heap.objs.size] (fun _ m => m) (fun b o hb e => (hsb.2 b (by simpa using hb)).trans e) (fun b m => by rw [List.mem_singleton.mp m]; exact let ⟨o, ho, _⟩ := hit₄; ⟨o, ho⟩)
    refine keyIter_quiet hit₄ ?_
    refine (ha F₃ (.int ks[i]) _ (.int _ t')).then (Q := fun _ => _) (.refl _) l₄.sim q₃ fun F₅ _ st₅ _ s₅ p₅ _ q₅ => ?_
    refine hb.then (F0.le _) p₅.sim q₅ fun F₆ f st₆ a s₆ p₆ rf q₆ => ?_
    have pp := p₅.trans p₆
    have l₆ := l₄.step pp
    have fin : Post C F st s F₆ st₆ s₆ := by
      have := l₆.out (h' := s₆.heap) (tk := s₆.toks) (by intro b m; rw [List.mem_singleton.mp m]; exact hI) (fun b o _ e => e)
      exact p₁.trans this
    have hsx : s₆.heap.IsKeyIter s₁.heap.objs.size d (i + 1) ks.length ep := by
      rw [hl'] at hit₄
      exact keyIter_at hit₄ fun o e => pp.p.keep _ o e (l₄.off _ (.head _)).2.1 (l₄.off _ (.head _)).2.2.1
    have on : forDL d ep ks Ta B Q (ks.drop (i + 1)) st₆ → ∃ m, m < ks.length + 1 - i ∧ ∃ i F' st', m = ks.length + 1 - i ∧ i ≤ ks.length ∧ F₁.Le F' ∧ LoopAt C [s₁.heap.objs.size] F₁ st₁.σ s₁ F' st' s₆ ∧ s₆.heap.IsKeyIter s₁.heap.objs.size d i ks.length ep ∧ forDL d ep ks Ta B Q (ks.drop i) st' :=
      fun z => ⟨ks.length + 1 - (i + 1), by omega, i + 1, F₆, st₆, rfl, hlt, hF₃.trans pp.ext, l₆, hsx, z⟩
    cases rf with
    | next => exact on q₆
    | cont => exact on q₆
    | brk => exact ⟨F₆, .next, st₆, fin, .next, q₆⟩
    | ret r => exact ⟨F₆, _, st₆, fin, .ret r, q₆⟩
  · have e : i = ks.length := by omega
    subst e
    rw [List.drop_length] at q₃
    obtain ⟨hky, q₃⟩ := q₃
    obtain ⟨kvs', m', _, ek'⟩ := keyAt l₃.sim hky
    have hl' : kvs'.length = ks.length := by rw [← ek']; simp
    rw [← hl'] at hs₃
    refine wpAny_pyNext_dict_end l₃.sim.ok.handled hs₃ m' (by simp) fun h₄ hk => ?_
    exact wpAny_execs_nil ⟨F₃, .next, st₃, p₁.trans (l₃.out (tk := s₃.toks) (by intro b m; rw [List.mem_singleton.mp m]; exact hI) fun b o hb e => hk b o (by simpa using hb) e), .next, q₃⟩
end Mine

namespace Mine
open PySem PySem.W PyProof.Rows PySem.Calls

variable {C : Cx}

/-! ### a list comprehension over a dict's keys -/
def compDL (n : Nat) (d : Addr) (ep : Nat) (ks : List Int) (Ta : AT) (Tc : PB) (Te : PV) (ρ : Nat → Option V) (K : List V → St → Prop) : List Int → List V → St → Prop
  | [], acc, σ => Keys d ep ks ⟨σ, ρ⟩ ∧ K acc σ
  | k :: r, acc, σ => Keys d ep ks ⟨σ, ρ⟩ ∧ Ta (.int k) (Tc fun b st => if b then Te (fun y st' => (∀ i, i < n → st'.ρ i = ρ i) ∧ compDL n d ep ks Ta Tc Te ρ K r (acc ++ [y]) st'.σ) st else (∀ i, i < n → st.ρ i = ρ i) ∧ compDL n d ep ks Ta Tc Te ρ K r acc st.σ) ⟨σ, ρ⟩

theorem compD_loop {n : Nat} {D I d : Addr} {ep : Nat} {ks : List Int} {F₀ F : Fz} {σ₀ σ : St} {ρ : Nat → Option V} {s₀ s : Shared} {elt t it : Expr} {ifs : List Expr} {scope : Scope} {pos : Pos} {Ta : AT} {Tc : PB} {Te : PV}
    {K : List V → St → Prop} {RR : Result → Shared → Prop}
    (ha : Asg C t Ta) (hc : Tst C ifs Tc) (he : Ev C elt Te) (hρ : ∀ i, ¬ i < n → ρ i = none) (hDI : D ≠ I)
    (l : LoopAt C [D, I] F₀ σ₀ s₀ F ⟨σ, ρ⟩ s) (hit : s.heap.IsKeyIter I d 0 ks.length ep) (hD : s.heap.PlainList D #[]) (hsz : ks.length ≤ sizeLine) (q : compDL n d ep ks Ta Tc Te ρ K ks [] σ)
    (fin : ∀ F' σ' s' h' tk acc vs, F.Le F' → LoopAt C [D, I] F₀ σ₀ s₀ F' ⟨σ', ρ⟩ s' → (∀ b o, b ∉ [I] → s'.heap.get? b = some o → h'.get? b = some o) → h'.PlainList D (List.toArray vs) → RAll F' acc vs → K acc σ' → RR (.ok .next) { s' with heap := h', toks := tk }) :
    codeAny C.W.M C.A (.compLoop (.ListComp elt [⟨t, it, ifs, 0⟩] scope pos) 0 (.ref I) (.ref D) C.env) RR s := by
  refine compLoop_any (fun m s' => ∃ i F' σ' acc vs, m = ks.length + 1 - i ∧ i ≤ ks.length ∧ acc.length ≤ i ∧ F.Le F' ∧ LoopAt C [D, I] F₀ σ₀ s₀ F' ⟨σ', ρ⟩ s' ∧ s'.heap.IsKeyIter I d i ks.length ep ∧ s'.heap.PlainList D (List.toArray vs) ∧ RAll F' acc vs ∧ compDL n d ep ks Ta Tc Te ρ K (ks.drop i) acc σ') ?_
    (ks.length + 1) ⟨0, F, σ, [], [], rfl, Nat.zero_le _, Nat.le_refl _, .refl _, l, hit, hD, .nil, by simpa using q⟩
  rintro m s₁ ⟨i, F₁, σ₁, acc, vs, rfl, hle, hacc, hF₁, l₁, hs₁, hD₁, ra, q₁⟩
  by_cases hlt : i < ks.length
  · have hd : ks.drop i = ks[i] :: ks.drop (i + 1) := List.drop_eq_getElem_cons hlt
    rw [hd] at q₁
    obtain ⟨hky, q₁⟩ := q₁
    obtain ⟨kvs', m', _, ek'⟩ := keyAt l₁.sim hky
    have hl' : kvs'.length = ks.length := by rw [← ek']; simp
    have hx : kvs'[i]? = some (ks[i], (kvs'[i]'(by omega)).2) := by
      have e1 : (kvs'.map (·.1))[i]? = some ks[i] := by rw [ek']; simp
      rw [List.getElem?_map, List.getElem?_eq_getElem (by omega)] at e1
      rw [List.getElem?_eq_getElem (by omega)]
      simp at e1
      rw [← e1]
    rw [← hl'] at hs₁
    refine wpAny_pyNext_dict_item hs₁ m' hx fun key h₂ hkey hit₂ hsb => ?_
    obtain ⟨t', rfl⟩ := Value.isInt_shape hkey
    have hk' : ∀ b o, b ∉ [I] → s₁.heap.get? b = some o → h₂.get? b = some o := fun b o hb e => (hsb.2 b (by simpa using hb)).trans e
    have l₂ := l₁.at (tk := s₁.toks) [I] (fun b m => .tail _ m) hk' (fun b m => by rw [List.mem_singleton.mp m]; exact let ⟨o, ho, _⟩ := hit₂; ⟨o, ho⟩)
    have hD₂ : h₂.PlainList D vs.toArray := hD₁.at fun o e => hk' _ o (by simpa using hDI) e
    refine keyIter_quiet hit₂ ?_
    refine (ha F₁ (.int ks[i]) _ (.int _ t')).then (Q := fun _ => _) (.refl _) l₂.sim q₁ fun F₃ _ st₃ _ s₃ p₃ _ q₃ => ?_
    refine hc.then (F0.le _) p₃.sim q₃ fun F₄ b st₄ _ s₄ p₄ rb q₄ => ?_
    subst rb
    rw [hl'] at hit₂
    have sx : ∀ {F' st' s'}, Post C F₁ ⟨σ₁, ρ⟩ { s₁ with heap := h₂, toks := s₁.toks } F' st' s' → s'.heap.IsKeyIter I d (i + 1) ks.length ep := fun pp =>
      keyIter_at hit₂ fun o e => pp.p.keep _ o e (l₂.off I (.tail _ (.head _))).2.1 (l₂.off I (.tail _ (.head _))).2.2.1
    have dx : ∀ {F' st' s'}, Post C F₁ ⟨σ₁, ρ⟩ { s₁ with heap := h₂, toks := s₁.toks } F' st' s' → s'.heap.PlainList D vs.toArray := fun pp =>
      hD₂.at fun o e => pp.p.keep _ o e (l₂.off D (.head _)).2.1 (l₂.off D (.head _)).2.2.1
    have back : ∀ {ρ' : Nat → Option V}, (∀ i, i < n → ρ' i = ρ i) → ∀ i, i < C.pl.length → ρ i = ρ' i ∨ ρ i = none := fun h i _ => by
      by_cases hi : i < n
      · exact .inl (h i hi).symm
      · exact .inr (hρ i hi)
    cases b with
    | false =>
      obtain ⟨hr, q₄⟩ := q₄
      have pp := p₃.trans p₄
      obtain ⟨σ₄, ρ₄⟩ := st₄
      exact ⟨ks.length + 1 - (i + 1), by omega, i + 1, F₄, σ₄, acc, vs, rfl, hlt, by omega, hF₁.trans pp.ext, (l₂.step pp).forget (back hr), sx pp, dx pp, ra.mono pp.ext, q₄⟩
    | true =>
      refine he.then (F0.le _) p₄.sim q₄ fun F₅ y st₅ u s₅ p₅ ry q₅ => ?_
      have pp := p₃.trans (p₄.trans p₅)
      obtain ⟨hr, q₅⟩ := q₅
      obtain ⟨σ₅, ρ₅⟩ := st₅
      refine wpAny_list_append_plain (dx pp) (fun h₆ hD₆ hs₆ => ?_) (by have := (ra.length); simp; omega)
      have l₅ := l₂.step pp
      have l₆ := l₅.at (h' := h₆) (tk := s₅.toks) [D] (fun b m => by rw [List.mem_singleton.mp m]; exact .head _) (fun b o hb e => (hs₆.2 b (by simpa using hb)).trans e) (fun b m => by rw [List.mem_singleton.mp m]; exact let ⟨n, e⟩ := hD₆; ⟨_, e⟩)
      refine ⟨ks.length + 1 - (i + 1), by omega, i + 1, F₅, σ₅, acc ++ [y], vs ++ [u], rfl, hlt, by simp; omega, hF₁.trans pp.ext, l₆.forget (back hr), ?_, ?_, (ra.mono pp.ext).append (.cons ry .nil), q₅⟩
      · exact keyIter_at (sx pp) fun o e => (hs₆.2 _ (Ne.symm hDI)).trans e
      · simpa using hD₆
  · have e : i = ks.length := by omega
    subst e
    rw [List.drop_length] at q₁
    obtain ⟨hky, q₁⟩ := q₁
    obtain ⟨kvs', m', _, ek'⟩ := keyAt l₁.sim hky
    have hl' : kvs'.length = ks.length := by rw [← ek']; simp
    rw [← hl'] at hs₁
    refine wpAny_pyNext_dict_end l₁.sim.ok.handled hs₁ m' (by simp) fun h₂ hk => ?_
    have hk' : ∀ b o, b ∉ [I] → s₁.heap.get? b = some o → h₂.get? b = some o := fun b o hb e => hk b o (by simpa using hb) e
    exact fin F₁ σ₁ s₁ h₂ s₁.toks acc vs hF₁ l₁ hk' (hD₁.at fun o e => hk' _ o (by simpa using hDI) e) ra q₁

abbrev compDW (n : Nat) (T : PV) (Ta : AT) (Tc : PB) (Te : PV) (Q : V → S → Prop) : S → Prop :=
  T fun x st => ∃ d ps ep, x = .ref d ∧ st.σ d = some (.dict ps ep) ∧ ps.length ≤ sizeLine ∧ compDL n d ep (ps.map (·.1)) Ta Tc Te (cutρ n st.ρ) (fun acc σ => newW (.list acc) Q σ st.ρ) (ps.map (·.1)) [] st.σ
theorem compD_run {elt t it : Expr} {ifs : List Expr} {scope : Scope} {pos pos' : Pos} {cl : List (Str × Addr)} {names : List Str} {T : (V → S → Prop) → S → Prop} {Ta : AT} {Tc : (Bool → S → Prop) → S → Prop} {Te : (V → S → Prop) → S → Prop} {use : Option (Value → Sem Unit)}
    (hclos : closureFor scope C.env = pure cl) (hcell : ∀ x ∈ scope.names, x.2 ≠ .cell) (hkind : scope.kind = .function) (hnames : ∀ x ∈ scope.names, x.2 = .local → scope.names.lookup x.1 = some .local)
    (hs : ∀ x, foldedSetIterable it C.env x = pure x) (hne : names ≠ []) (hnd : names.Nodup)
    (hi : Ev C it T) (ha : ∀ L, Asg (C.comp scope cl L names) t Ta) (hc : ∀ L, Tst (C.comp scope cl L names) ifs Tc) (he : ∀ L, Ev (C.comp scope cl L names) elt Te)
    {E : Value → Shared → Prop} {Q : V → S → Prop} {Z : Value → Shared → Prop} {st : S} {F : Fz} {s : Shared} (k : Sim C F st s.heap) (q : compDW C.pl.length T Ta Tc Te Q st)
    (fin : ∀ D L F₁ st₁ s₁ F' st' s', Post C F st s F₁ st₁ s₁ → LoopAt C [L] F₁ st₁.σ s₁ F' st' s' → s₁.heap.get? L = none → Q (.ref D) st' → (∃ m, s'.heap.Ns L m) → compPost C.W.M C.A E use Z (.ref D) L (.ok .next) s') :
    wpAny C.W.M C.A (comprehension (.ListComp elt [⟨t, it, ifs, 0⟩] scope pos) scope C.env pos' (newList []) false (eval it C.env) use) Z E s := by
  refine wpAny_comprehension_free rfl hs hclos hkind hnames (hi.then (F0.le _) k q fun F₁ x st₁ v s₁ p₁ r₁ q₁ => ?_)
  obtain ⟨d, ps, ep, hx, hσ, hsz, q₁⟩ := q₁
  subst hx
  cases r₁
  generalize hks : ps.map (·.1) = ks at q₁
  obtain ⟨kvs, m, nm, ek⟩ := keyAt p₁.sim ⟨ps, hσ, hks⟩
  have hkl : kvs.length = ks.length := by rw [← ek]; simp
  have hksz : ks.length ≤ sizeLine := by rw [← hks]; simpa using hsz
  have hI : s₁.heap.get? s₁.heap.objs.size = none := get_size
  refine wpAny_pyIter_dict (knd := intKind C.W.prog C.W.w) nm m ?_
  have l₂ := (LoopAt.begin p₁.sim).alloc (o := { cls := .type "dict_keyiterator", data := .fields #[.ref d, .int 0 0, .int kvs.length 0, .int ep 0] })
  have g₂ : (s₁.heap.push { cls := .type "dict_keyiterator", data := .fields #[.ref d, .int 0 0, .int kvs.length 0, .int ep 0] }).IsKeyIter s₁.heap.objs.size d 0 ks.length ep := ⟨_, Heap.get?_push_size _ rfl, rfl, by rw [hkl]; rfl⟩
  generalize hs₂ : ({ s₁ with heap := s₁.heap.push { cls := .type "dict_keyiterator", data := .fields #[.ref d, .int 0 0, .int kvs.length 0, .int ep 0] } } : Shared) = s₂ at l₂ ⊢
  have g₂' : s₂.heap.IsKeyIter s₁.heap.objs.size d 0 ks.length ep := by rw [← hs₂]; exact g₂
  refine wpAny_newList ?_ (by size_fits)
  have l₃ := l₂.alloc (o := listOf #[] 0)
  have hDn := l₂.fresh (by intro b m; rw [List.mem_singleton.mp m]; exact hI)
  have hDI : s₂.heap.objs.size ≠ s₁.heap.objs.size := fun e => by obtain ⟨_, _, _, o, h⟩ := l₂.off _ (.head _); rw [← e, get_size] at h; cases h
  have hLn := l₃.fresh (by intro b m; rcases List.mem_cons.mp m with rfl | m; exact hDn; rw [List.mem_singleton.mp m]; exact hI)
  refine wpAny_newFunctionEnv hcell (by intro y hy; simp at hy) (fun h₄ hn₄ hs₄ => ?_) hkind
  dsimp only at hn₄ hs₄ ⊢
  have hDp : h₄.PlainList s₂.heap.objs.size #[] := ⟨0, (hs₄.2 _ (Nat.ne_of_lt (by show _ < (s₂.heap.push _).objs.size; rw [Heap.size_push]; exact Nat.lt_succ_self _))).trans (Heap.get?_push_of_some _ (Heap.get?_push_size _ rfl))⟩
  have hS₄ : h₄.IsKeyIter s₁.heap.objs.size d 0 ks.length ep := keyIter_at g₂' fun o e => (hs₄.2 _ (Nat.ne_of_lt (by show _ < (s₂.heap.push _).objs.size; rw [Heap.size_push]; exact Nat.lt_succ_of_lt (Heap.lt_size e)))).trans (Heap.get?_push_of_some _ (Heap.get?_push_of_some _ e))
  obtain ⟨l₄, hL⟩ := comp_enter (scope := scope) (cl := cl) (names := names) (tk := s₂.toks + ([] : List (Str × Value)).length) l₃ hne hnd hkind hn₄ hs₄
  have key : codeAny C.W.M C.A (.compLoop (.ListComp elt [⟨t, it, ifs, 0⟩] scope pos) 0 (.ref s₁.heap.objs.size) (.ref s₂.heap.objs.size) (compEnvC scope cl (s₂.heap.push (listOf #[] 0)).objs.size C.env))
      (compPost C.W.M C.A E use Z (.ref s₂.heap.objs.size) (s₂.heap.push (listOf #[] 0)).objs.size) { s₂ with heap := h₄, toks := s₂.toks + ([] : List (Str × Value)).length } := by
    refine compD_loop (C := C.comp scope cl (s₂.heap.push (listOf #[] 0)).objs.size names) (n := C.pl.length) (ha _) (hc _) (he _) (fun i hi => if_neg hi) hDI l₄ hS₄ hDp hksz q₁ fun F' σ' s' h' tk acc vs hF' l' hk' hD' ra q' => ?_
    have hLo := l'.sim.own (Pl.d (s₂.heap.push (listOf #[] 0)).objs.size (names.head hne)) (List.mem_append.mpr (.inr (List.mem_map.mpr ⟨_, List.head_mem hne, rfl⟩)))
    have l₅ := comp_leave (ρ := st₁.ρ) hne hL p₁.sim.fn l' (fun i hi => (if_pos hi).symm)
    have hσD := (l'.off _ (.head _)).2.1
    have p₅ := l₅.list (h' := h') (tk := tk) (by
      intro b m
      rcases List.mem_cons.mp m with rfl | m
      · exact hLn
      · rcases List.mem_cons.mp m with rfl | m
        · exact hDn
        · rw [List.mem_singleton.mp m]; exact hI) (.tail _ (.head _)) hD' ra (fun b o hb e => hk' b o (fun m => hb (.tail _ (.tail _ m))) e)
    obtain ⟨m', hn', _⟩ := l'.sim.loc C.pl.length (Pl.d _ (names.head hne)) (by
      show (C.pl ++ names.map (Pl.d _))[C.pl.length]? = _
      rw [List.getElem?_append_right (Nat.le_refl _), Nat.sub_self]
      cases names with
      | nil => exact absurd rfl hne
      | cons x r => rfl)
    have hLI : (s₂.heap.push (listOf #[] 0)).objs.size ≠ s₁.heap.objs.size := fun e => by
      obtain ⟨_, _, _, o, h⟩ := l₃.off s₁.heap.objs.size (.tail _ (.head _))
      have h' : (s₂.heap.push (listOf #[] 0)).get? s₁.heap.objs.size = some o := h
      rw [← e, get_size] at h'; cases h'
    have hLD : (s₂.heap.push (listOf #[] 0)).objs.size ≠ s₂.heap.objs.size := by rw [Heap.size_push]; exact Nat.succ_ne_self _
    have hσL : (if (s₂.heap.push (listOf #[] 0)).objs.size = s₂.heap.objs.size then some (AO.list acc) else σ' (s₂.heap.push (listOf #[] 0)).objs.size) = none := by rw [if_neg hLD]; exact hLo.2
    have hNs := hn'.at' (h' := h') fun o e => hk' _ o (by simpa using hLI) e
    exact fin _ _ F₁ st₁ s₁ F' _ _ p₁ (p₅.hide hLo.1 hσL hL (let ⟨o, _, _, e, _⟩ := hNs; ⟨o, e⟩)) hLn (q' _ hσD) ⟨m', hNs⟩
  exact codeAny_compStart_list key (wpAny_pyIter_keyiter hS₄ key)

theorem ev_compD {elt t it : Expr} {ifs : List Expr} {scope : Scope} {pos : Pos} {cl : List (Str × Addr)} (names : List Str) {T : (V → S → Prop) → S → Prop} {Ta : AT} {Tc : (Bool → S → Prop) → S → Prop} {Te : (V → S → Prop) → S → Prop}
    (hclos : closureFor scope C.env = pure cl) (hcell : ∀ x ∈ scope.names, x.2 ≠ .cell) (hkind : scope.kind = .function) (hnames : ∀ x ∈ scope.names, x.2 = .local → scope.names.lookup x.1 = some .local)
    (hs : ∀ x, foldedSetIterable it C.env x = pure x) (hne : names ≠ []) (hnd : names.Nodup) (n : Nat) (hn : n = C.pl.length)
    (hi : Ev C it T) (ha : ∀ L, Asg (C.comp scope cl L names) t Ta) (hc : ∀ L, Tst (C.comp scope cl L names) ifs Tc) (he : ∀ L, Ev (C.comp scope cl L names) elt Te) :
    Ev C (.ListComp elt [⟨t, it, ifs, 0⟩] scope pos) (compDW n T Ta Tc Te) := by
  subst hn
  intro E Q st F s _ k q
  refine compD_run (use := none) hclos hcell hkind hnames hs hne hnd hi ha hc he k q fun D L F₁ st₁ s₁ F' st' s' p₁ l hL q' ⟨m, hn⟩ => ⟨m, hn, fun h' hs' => ?_⟩
  exact ⟨F', .ref D, st', p₁.trans (l.out (tk := s'.toks) (by intro b m; rw [List.mem_singleton.mp m]; exact hL) fun b o hb e => (hs'.2 b (by simpa using hb)).trans e), .ref _, q'⟩

theorem ex_assign_compD {elt t it : Expr} {y : Str} {py : Pos} {ifs : List Expr} {scope : Scope} {pos spos : Pos} {cl : List (Str × Addr)} (names : List Str) {T : (V → S → Prop) → S → Prop} {Ta Ty : AT} {Tc : (Bool → S → Prop) → S → Prop} {Te : (V → S → Prop) → S → Prop}
    (hsw : swapsWith (.ListComp elt [⟨t, it, ifs, 0⟩] scope pos) (some (.Name y py)) spos.line C.env = pure true)
    (hclos : closureFor scope C.env = pure cl) (hcell : ∀ x ∈ scope.names, x.2 ≠ .cell) (hkind : scope.kind = .function) (hnames : ∀ x ∈ scope.names, x.2 = .local → scope.names.lookup x.1 = some .local)
    (hs : ∀ x, foldedSetIterable it C.env x = pure x) (hne : names ≠ []) (hnd : names.Nodup) (n : Nat) (hn : n = C.pl.length)
    (hi : Ev C it T) (ha : ∀ L, Asg (C.comp scope cl L names) t Ta) (hc : ∀ L, Tst (C.comp scope cl L names) ifs Tc) (he : ∀ L, Ev (C.comp scope cl L names) elt Te) (hay : Asg C (.Name y py) Ty) :
    Ex C (.Assign [.Name y py] (.ListComp elt [⟨t, it, ifs, 0⟩] scope pos) spos) (fun Q => compDW n T Ta Tc Te fun v => Ty v (Q .next)) := by
  subst hn
  intro E Q st F s _ k q
  rw [exec_Assign_Name_used _ _ _ _ hsw]
  refine wpAny_bind (wpAny_standAt (wpAny_bind ?_))
  show wpAny _ _ (do let _ ← comprehension (.ListComp elt [⟨t, it, ifs, 0⟩] scope pos) scope C.env _ (newList []) false (eval it C.env) (some (assign (.Name y py) C.env))) _ _ s
  refine wpAny_bind (compD_run (use := some (assign (.Name y py) C.env)) (Q := fun v => Ty v (Q .next)) hclos hcell hkind hnames hs hne hnd hi ha hc he k q fun D L F₁ st₁ s₁ F' st' s' p₁ l hL q' hm => ?_)
  obtain ⟨m, hn⟩ := hm
  show wpAny C.W.M C.A (assign (.Name y py) C.env (.ref D)) _ _ _
  refine (hay F' (.ref D) (.ref D) (.ref _)).then (Q := fun _ => Q .next) (.refl _) l.sim q' fun F₂ _ st₂ _ s₂ p₂ _ q₂ => ?_
  have hLo := l.off L (.head _)
  refine ⟨m, hn.at' fun o e => p₂.p.keep _ o e hLo.2.1 hLo.2.2.1, fun h' hs' => wpAny_pure (wpAny_pure ?_)⟩
  exact ⟨F₂, .next, st₂, p₁.trans ((l.step p₂).out (tk := s₂.toks) (by intro b m; rw [List.mem_singleton.mp m]; exact hL) fun b o hb e => (hs'.2 b (by simpa using hb)).trans e), .next, q₂⟩
end Mine

namespace Mine
open PySem PySem.W PyProof.Rows PySem.Calls

variable {C : Cx}

/-! ### a dict comprehension -/
def compM (n : Nat) (Ta : AT) (Tc : PB) (Tk Tv : PV) (ρ : Nat → Option V) (K : List (Int × V) → St → Prop) : List V → List (Int × V) → St → Prop
  | [], acc, σ => K acc σ
  | x :: xs, acc, σ => Ta x (Tc fun b st => if b then Tk (fun kv st₁ => Tv (fun y st' => ∃ i, kv = .int i ∧ (∀ i, i < n → st'.ρ i = ρ i) ∧ compM n Ta Tc Tk Tv ρ K xs (storeD acc i y) st'.σ) st₁) st else (∀ i, i < n → st.ρ i = ρ i) ∧ compM n Ta Tc Tk Tv ρ K xs acc st.σ) ⟨σ, ρ⟩

/-- the hidden dict stands for these pairs -/
def DictIs (C : Cx) (F : Fz) (h : Heap) (D : Addr) (acc : List (Int × V)) : Prop := ∃ (kvs : List (Int × Value)) (ep : Nat), h.DictAt (intKind C.W.prog C.W.w) D kvs ep ∧ acc.map (·.1) = kvs.map (·.1) ∧ RAll F (acc.map (·.2)) (kvs.map (·.2))
theorem DictIs.mono {F F' : Fz} {h h' : Heap} {D : Addr} {acc : List (Int × V)} (x : DictIs C F h D acc) (hF : F.Le F') (e : ∀ o, h.get? D = some o → h'.get? D = some o) : DictIs C F' h' D acc := by
  obtain ⟨kvs, ep, m, e1, r⟩ := x
  exact ⟨kvs, ep, m.at e, e1, r.mono hF⟩
theorem DictIs.there {F : Fz} {h : Heap} {D : Addr} {acc : List (Int × V)} (x : DictIs C F h D acc) : ∃ o, h.get? D = some o := by
  obtain ⟨kvs, ep, ⟨o, _, ho, _⟩, _⟩ := x
  exact ⟨o, ho⟩
theorem storeD_len (ps : List (Int × V)) (k : Int) (z : V) : (storeD ps k z).length ≤ ps.length + 1 := by
  unfold storeD; split <;> simp

theorem compM_loop {n : Nat} {D I : Addr} {F₀ F : Fz} {σ₀ σ : St} {ρ : Nat → Option V} {s₀ s : Shared} {kx vx t it : Expr} {ifs : List Expr} {scope : Scope} {pos : Pos} {Ta : AT} {Tc : PB} {Tk Tv : PV}
    {K : List (Int × V) → St → Prop} {xs : List V} {fp : List Addr} {P : Nat → Value → Prop} {Sx : Nat → Heap → Prop} {RR : Result → Shared → Prop}
    (ha : Asg C t Ta) (hc : Tst C ifs Tc) (hek : Ev C kx Tk) (hev : Ev C vx Tv) (hρ : ∀ i, ¬ i < n → ρ i = none) (hDI : D ≠ I)
    (l : LoopAt C [D, I] F₀ σ₀ s₀ F ⟨σ, ρ⟩ s) (g : Gives C F I xs s.heap fp P Sx) (hD : DictIs C F s.heap D []) (hsz : xs.length ≤ sizeLine) (q : compM n Ta Tc Tk Tv ρ K xs [] σ)
    (ht : ∀ v, letOwnedTupleGo t (.ref I) v = pure ())
    (fin : ∀ F' σ' s' h' tk acc, F.Le F' → LoopAt C [D, I] F₀ σ₀ s₀ F' ⟨σ', ρ⟩ s' → (∀ b o, b ∉ [I] → s'.heap.get? b = some o → h'.get? b = some o) → DictIs C F' h' D acc → K acc σ' → RR (.ok .next) { s' with heap := h', toks := tk }) :
    codeAny C.W.M C.A (.compLoop (.DictComp kx vx [⟨t, it, ifs, 0⟩] scope pos) 0 (.ref I) (.ref D) C.env) RR s := by
  refine codeAny_compLoop_testsD (fun m s' => ∃ i F' σ' acc, m = xs.length + 1 - i ∧ i ≤ xs.length ∧ acc.length ≤ i ∧ F.Le F' ∧ LoopAt C [D, I] F₀ σ₀ s₀ F' ⟨σ', ρ⟩ s' ∧ Sx i s'.heap ∧ DictIs C F' s'.heap D acc ∧ compM n Ta Tc Tk Tv ρ K (xs.drop i) acc σ') ?_
    (xs.length + 1) ⟨0, F, σ, [], rfl, Nat.zero_le _, Nat.le_refl _, .refl _, l, g.start, hD, by simpa using q⟩ ht
  rintro m s₁ ⟨i, F₁, σ₁, acc, rfl, hle, hacc, hF₁, l₁, hs₁, hD₁, q₁⟩
  by_cases hlt : i < xs.length
  · refine g.walks.item i s₁ _ _ hlt hs₁ fun v h₂ tk hP hs₂ hk => ?_
    have hk' : ∀ b o, b ∉ [I] → s₁.heap.get? b = some o → h₂.get? b = some o := fun b o hb e => hk b o hb e
    have l₂ := l₁.at (tk := tk) [I] (fun b m => .tail _ m) hk' (fun b m => by rw [List.mem_singleton.mp m]; exact g.there _ _ hs₂)
    have hD₂ : DictIs C F₁ h₂ D acc := hD₁.mono (.refl _) fun o e => hk' _ o (by simpa using hDI) e
    obtain ⟨x', hx', rx⟩ := g.item i v hP
    have hd : xs.drop i = x' :: xs.drop (i + 1) := by
      obtain ⟨hl, e⟩ := List.getElem?_eq_some_iff.mp hx'
      rw [List.drop_eq_getElem_cons hl, e]
    rw [hd] at q₁
    refine (ha F₁ x' v (rx.mono hF₁)).then (Q := fun _ => _) (.refl _) l₂.sim q₁ fun F₃ _ st₃ _ s₃ p₃ _ q₃ => ?_
    refine hc.then (F0.le _) p₃.sim q₃ fun F₄ b st₄ _ s₄ p₄ rb q₄ => ?_
    subst rb
    have sx : ∀ {F' st' s'}, Post C F₁ ⟨σ₁, ρ⟩ { s₁ with heap := h₂, toks := tk } F' st' s' → Sx (i + 1) s'.heap := fun pp =>
      g.frame hs₂ (fun o e => pp.p.keep _ o e (l₂.off I (.tail _ (.head _))).2.1 (l₂.off I (.tail _ (.head _))).2.2.1) (fun a o e => l₂.sim.g.fz a o (hF₁ a o e)) (fun a o e => pp.sim.g.fz a o (pp.ext a o (hF₁ a o e)))
    have dx : ∀ {F' st' s'}, Post C F₁ ⟨σ₁, ρ⟩ { s₁ with heap := h₂, toks := tk } F' st' s' → DictIs C F' s'.heap D acc := fun pp =>
      hD₂.mono pp.ext fun o e => pp.p.keep _ o e (l₂.off D (.head _)).2.1 (l₂.off D (.head _)).2.2.1
    have back : ∀ {ρ' : Nat → Option V}, (∀ i, i < n → ρ' i = ρ i) → ∀ i, i < C.pl.length → ρ i = ρ' i ∨ ρ i = none := fun h i _ => by
      by_cases hi : i < n
      · exact .inl (h i hi).symm
      · exact .inr (hρ i hi)
    cases b with
    | false =>
      obtain ⟨hr, q₄⟩ := q₄
      have pp := p₃.trans p₄
      obtain ⟨σ₄, ρ₄⟩ := st₄
      exact ⟨xs.length + 1 - (i + 1), by omega, i + 1, F₄, σ₄, acc, rfl, hlt, by omega, hF₁.trans pp.ext, (l₂.step pp).forget (back hr), sx pp, dx pp, q₄⟩
    | true =>
      refine hek.then (F0.le _) p₄.sim q₄ fun F₅ kv st₅ ku s₅ p₅ rk q₅ => ?_
      refine hev.then (F0.le _) p₅.sim q₅ fun F₆ y st₆ u s₆ p₆ ry q₆ => ?_
      obtain ⟨ki, rfl, hr, q₆⟩ := q₆
      cases rk with
      | int _ kt =>
      have pp := p₃.trans (p₄.trans (p₅.trans p₆))
      obtain ⟨σ₆, ρ₆⟩ := st₆
      obtain ⟨kvs, ep, m, e1, r1⟩ := dx pp
      have hkl : kvs.length = acc.length := by have := congrArg List.length e1; simpa using this.symm
      refine dictSet_at m (fun h₇ ep' _ m' hs₇ => ?_) (by omega)
      have l₆ := l₂.step pp
      have z := storeD_ok (k := ki) ry e1 r1
      have hD₇ : DictIs C F₆ h₇ D (storeD acc ki y) := ⟨_, ep', m', z.1, z.2⟩
      have l₇ := l₆.at (h' := h₇) (tk := s₆.toks + 1) [D] (fun b m => by rw [List.mem_singleton.mp m]; exact .head _) (fun b o hb e => (hs₇.2 b (by simpa using hb)).trans e) (fun b m => by rw [List.mem_singleton.mp m]; exact hD₇.there)
      refine ⟨xs.length + 1 - (i + 1), by omega, i + 1, F₆, σ₆, storeD acc ki y, rfl, hlt, by have := storeD_len acc ki y; omega, hF₁.trans pp.ext, l₇.forget (back hr), ?_, hD₇, q₆⟩
      exact g.frame (sx pp) (fun o e => (hs₇.2 _ (Ne.symm hDI)).trans e) (fun a o e => l₆.sim.g.fz a o (pp.ext a o (hF₁ a o e))) (fun a o e => l₇.sim.g.fz a o (pp.ext a o (hF₁ a o e)))
  · have e : i = xs.length := by omega
    subst e
    refine g.walks.done s₁ _ _ hs₁ fun h₂ tk hk => ?_
    rw [List.drop_length] at q₁
    exact fin F₁ σ₁ s₁ h₂ tk acc hF₁ l₁ (fun b o hb e => hk b o hb e) (hD₁.mono (.refl _) fun o e => hk _ o (by simpa using hDI) e) q₁

abbrev compMW (n : Nat) (T : PV) (Ta : AT) (Tc : PB) (Tk Tv : PV) (Q : V → S → Prop) : S → Prop :=
  T fun x st => ∃ xs, itemsOf x = some xs ∧ xs.length ≤ sizeLine ∧ compM n Ta Tc Tk Tv (cutρ n st.ρ) (fun acc σ => ∀ ep, newW (.dict acc ep) Q σ st.ρ) xs [] st.σ
/-- a hidden dict comes into the store -/
theorem LoopAt.dict {hid : List Addr} {D : Addr} {F₀ F : Fz} {st₀ : S} {σ : St} {ρ : Nat → Option V} {s₀ s : Shared} {acc : List (Int × V)} {kvs : List (Int × Value)} {ep : Nat} (l : LoopAt C hid F₀ st₀.σ s₀ F ⟨σ, ρ⟩ s) (hn : ∀ b ∈ hid, s₀.heap.get? b = none) (hD : D ∈ hid) {h' : Heap} {tk : Nat} (hm : h'.DictAt (intKind C.W.prog C.W.w) D kvs ep) (e1 : acc.map (·.1) = kvs.map (·.1)) (ra : RAll F (acc.map (·.2)) (kvs.map (·.2))) (hb : (D == sysModules) = false)
    (hk : ∀ b o, b ∉ hid → s.heap.get? b = some o → h'.get? b = some o) : Post C F₀ st₀ s₀ F ⟨fun b => if b = D then some (.dict acc ep) else σ b, ρ⟩ { s with heap := h', toks := tk } := by
  have p := l.out hn (tk := tk) hk
  obtain ⟨hF, _, hO, _⟩ := l.off D hD
  have g : SimG C.W F (fun b => if b = D then some (.dict acc ep) else σ b) h' := by
    refine ⟨p.sim.g.base, p.sim.g.fz, fun a x e => ?_⟩
    by_cases ha : a = D
    · subst ha
      rw [if_pos rfl] at e; cases e
      exact ⟨hF, kvs, hm, hb, e1, ra⟩
    · rw [if_neg ha] at e
      exact p.sim.g.st a x e
  refine ⟨{ p.p with simg := g, freshS := fun b h => ?_ }, ⟨g, p.sim.loc, fun q hq => ⟨(p.sim.own q hq).1, ?_⟩, p.sim.ok, p.sim.fn, p.sim.nodup⟩⟩
  · by_cases hb : b = D
    · subst hb; exact .inr ⟨hn _ hD, hO⟩
    · exact p.p.freshS b (by simpa [hb] using h)
  · show (if q.addr = D then _ else σ q.addr) = none
    rw [if_neg (show ¬ q.addr = D from fun e => hO (e ▸ List.mem_map_of_mem hq))]
    exact (p.sim.own q hq).2

theorem compM_run {kx vx t it : Expr} {ifs : List Expr} {scope : Scope} {pos pos' : Pos} {cl : List (Str × Addr)} {names : List Str} {T : (V → S → Prop) → S → Prop} {Ta : AT} {Tc : (Bool → S → Prop) → S → Prop} {Tk Tv : PV} {use : Option (Value → Sem Unit)}
    (hclos : closureFor scope C.env = pure cl) (hcell : ∀ x ∈ scope.names, x.2 ≠ .cell) (hkind : scope.kind = .function) (hnames : ∀ x ∈ scope.names, x.2 = .local → scope.names.lookup x.1 = some .local)
    (hs : ∀ x, foldedSetIterable it C.env x = pure x) (hne : names ≠ []) (hnd : names.Nodup)
    (hi : Ev C it T) (ha : ∀ L, Asg (C.comp scope cl L names) t Ta) (hc : ∀ L, Tst (C.comp scope cl L names) ifs Tc) (hek : ∀ L, Ev (C.comp scope cl L names) kx Tk) (hev : ∀ L, Ev (C.comp scope cl L names) vx Tv) (ht : ∀ I v, letOwnedTupleGo t (.ref I) v = pure ())
    {E : Value → Shared → Prop} {Q : V → S → Prop} {Z : Value → Shared → Prop} {st : S} {F : Fz} {s : Shared} (k : Sim C F st s.heap) (q : compMW C.pl.length T Ta Tc Tk Tv Q st)
    (fin : ∀ D L F₁ st₁ s₁ F' st' s', Post C F st s F₁ st₁ s₁ → LoopAt C [L] F₁ st₁.σ s₁ F' st' s' → s₁.heap.get? L = none → Q (.ref D) st' → (∃ m, s'.heap.Ns L m) → compPost C.W.M C.A E use Z (.ref D) L (.ok .next) s') :
    wpAny C.W.M C.A (comprehension (.DictComp kx vx [⟨t, it, ifs, 0⟩] scope pos) scope C.env pos' newDict false (eval it C.env) use) Z E s := by
  refine wpAny_comprehension_free rfl hs hclos hkind hnames (hi.then (F0.le _) k q fun F₁ x st₁ v s₁ p₁ r₁ q₁ => ?_)
  obtain ⟨xs, hx, hsz, q₁⟩ := q₁
  have hI : s₁.heap.get? s₁.heap.objs.size = none := get_size
  refine iter_ok (.begin p₁.sim) hx r₁ fun fp P Sx s₂ _ g l₂ => ?_
  refine wpAny_newObj_type ?_
  have l₃ := l₂.alloc (o := dictOf [] 0)
  have hDn := l₂.fresh (by intro b m; rw [List.mem_singleton.mp m]; exact hI)
  have hDI : s₂.heap.objs.size ≠ s₁.heap.objs.size := fun e => by obtain ⟨_, _, _, o, h⟩ := l₂.off _ (.head _); rw [← e, get_size] at h; cases h
  have hLn := l₃.fresh (by intro b m; rcases List.mem_cons.mp m with rfl | m; exact hDn; rw [List.mem_singleton.mp m]; exact hI)
  refine wpAny_newFunctionEnv hcell (by intro y hy; simp at hy) (fun h₄ hn₄ hs₄ => ?_) hkind
  dsimp only at hn₄ hs₄ ⊢
  have hDb : (s₂.heap.objs.size == sysModules) = false := l₂.sim.g.big
  have hDp : DictIs C F₁ h₄ s₂.heap.objs.size [] := ⟨[], 0, ⟨_, #[], (hs₄.2 _ (Nat.ne_of_lt (by show _ < (s₂.heap.push _).objs.size; rw [Heap.size_push]; exact Nat.lt_succ_self _))).trans (Heap.get?_push_of_some _ (Heap.get?_push_size _ rfl)), ⟨rfl, rfl, rfl⟩, rfl, fun _ he => by simp at he, Pairs.nil, List.nodup_nil⟩, rfl, .nil⟩
  have hS₄ : Sx 0 h₄ := g.walks.frame 0 _ _ g.start fun b hb o e => (hs₄.2 b (Nat.ne_of_lt (by show _ < (s₂.heap.push _).objs.size; rw [Heap.size_push]; exact Nat.lt_succ_of_lt (Heap.lt_size e)))).trans (Heap.get?_push_of_some _ (Heap.get?_push_of_some _ e))
  obtain ⟨l₄, hL⟩ := comp_enter (scope := scope) (cl := cl) (names := names) (tk := s₂.toks + ([] : List (Str × Value)).length) l₃ hne hnd hkind hn₄ hs₄
  have key : codeAny C.W.M C.A (.compLoop (.DictComp kx vx [⟨t, it, ifs, 0⟩] scope pos) 0 (.ref s₁.heap.objs.size) (.ref s₂.heap.objs.size) (compEnvC scope cl (s₂.heap.push (dictOf [] 0)).objs.size C.env))
      (compPost C.W.M C.A E use Z (.ref s₂.heap.objs.size) (s₂.heap.push (dictOf [] 0)).objs.size) { s₂ with heap := h₄, toks := s₂.toks + ([] : List (Str × Value)).length } := by
    refine compM_loop (C := C.comp scope cl (s₂.heap.push (dictOf [] 0)).objs.size names) (n := C.pl.length) (ha _) (hc _) (hek _) (hev _) (fun i hi => if_neg hi) hDI l₄ (g.comp hS₄) hDp hsz q₁ (ht _) fun F' σ' s' h' tk acc hF' l' hk' hD' q' => ?_
    have hLo := l'.sim.own (Pl.d (s₂.heap.push (dictOf [] 0)).objs.size (names.head hne)) (List.mem_append.mpr (.inr (List.mem_map.mpr ⟨_, List.head_mem hne, rfl⟩)))
    have l₅ := comp_leave (ρ := st₁.ρ) hne hL p₁.sim.fn l' (fun i hi => (if_pos hi).symm)
    have hσD := (l'.off _ (.head _)).2.1
    obtain ⟨kvs, ep, hm, e1, ra⟩ := hD'
    have p₅ := l₅.dict (h' := h') (tk := tk) (by
      intro b m
      rcases List.mem_cons.mp m with rfl | m
      · exact hLn
      · rcases List.mem_cons.mp m with rfl | m
        · exact hDn
        · rw [List.mem_singleton.mp m]; exact hI) (.tail _ (.head _)) hm e1 ra hDb (fun b o hb e => hk' b o (fun m => hb (.tail _ (.tail _ m))) e)
    obtain ⟨m', hn', _⟩ := l'.sim.loc C.pl.length (Pl.d _ (names.head hne)) (by
      show (C.pl ++ names.map (Pl.d _))[C.pl.length]? = _
      rw [List.getElem?_append_right (Nat.le_refl _), Nat.sub_self]
      cases names with
      | nil => exact absurd rfl hne
      | cons x r => rfl)
    have hLI : (s₂.heap.push (dictOf [] 0)).objs.size ≠ s₁.heap.objs.size := fun e => by
      obtain ⟨_, _, _, o, h⟩ := l₃.off s₁.heap.objs.size (.tail _ (.head _))
      have h' : (s₂.heap.push (dictOf [] 0)).get? s₁.heap.objs.size = some o := h
      rw [← e, get_size] at h'; cases h'
    have hLD : (s₂.heap.push (dictOf [] 0)).objs.size ≠ s₂.heap.objs.size := by rw [Heap.size_push]; exact Nat.succ_ne_self _
    have hσL : (if (s₂.heap.push (dictOf [] 0)).objs.size = s₂.heap.objs.size then some (AO.dict acc ep) else σ' (s₂.heap.push (dictOf [] 0)).objs.size) = none := by rw [if_neg hLD]; exact hLo.2
    have hNs := hn'.at' (h' := h') fun o e => hk' _ o (by simpa using hLI) e
    exact fin _ _ F₁ st₁ s₁ F' _ _ p₁ (p₅.hide hLo.1 hσL hL (let ⟨o, _, _, e, _⟩ := hNs; ⟨o, e⟩)) hLn (q' ep _ hσD) ⟨m', hNs⟩
  exact codeAny_compStart_dict key (g.walks.self 0 _ _ _ hS₄ key)

theorem ev_compM {kx vx t it : Expr} {ifs : List Expr} {scope : Scope} {pos : Pos} {cl : List (Str × Addr)} (names : List Str) {T : (V → S → Prop) → S → Prop} {Ta : AT} {Tc : (Bool → S → Prop) → S → Prop} {Tk Tv : PV}
    (hclos : closureFor scope C.env = pure cl) (hcell : ∀ x ∈ scope.names, x.2 ≠ .cell) (hkind : scope.kind = .function) (hnames : ∀ x ∈ scope.names, x.2 = .local → scope.names.lookup x.1 = some .local)
    (hs : ∀ x, foldedSetIterable it C.env x = pure x) (hne : names ≠ []) (hnd : names.Nodup) (n : Nat) (hn : n = C.pl.length)
    (hi : Ev C it T) (ha : ∀ L, Asg (C.comp scope cl L names) t Ta) (hc : ∀ L, Tst (C.comp scope cl L names) ifs Tc) (hek : ∀ L, Ev (C.comp scope cl L names) kx Tk) (hev : ∀ L, Ev (C.comp scope cl L names) vx Tv) (ht : ∀ I v, letOwnedTupleGo t (.ref I) v = pure () := by intro _ _; rfl) :
    Ev C (.DictComp kx vx [⟨t, it, ifs, 0⟩] scope pos) (compMW n T Ta Tc Tk Tv) := by
  subst hn
  intro E Q st F s _ k q
  refine compM_run (use := none) hclos hcell hkind hnames hs hne hnd hi ha hc hek hev ht k q fun D L F₁ st₁ s₁ F' st' s' p₁ l hL q' ⟨m, hn⟩ => ⟨m, hn, fun h' hs' => ?_⟩
  exact ⟨F', .ref D, st', p₁.trans (l.out (tk := s'.toks) (by intro b m; rw [List.mem_singleton.mp m]; exact hL) fun b o hb e => (hs'.2 b (by simpa using hb)).trans e), .ref _, q'⟩

theorem ex_assign_compM {kx vx t it : Expr} {y : Str} {py : Pos} {ifs : List Expr} {scope : Scope} {pos spos : Pos} {cl : List (Str × Addr)} (names : List Str) {T : (V → S → Prop) → S → Prop} {Ta Ty : AT} {Tc : (Bool → S → Prop) → S → Prop} {Tk Tv : PV}
    (hsw : swapsWith (.DictComp kx vx [⟨t, it, ifs, 0⟩] scope pos) (some (.Name y py)) spos.line C.env = pure true)
    (hclos : closureFor scope C.env = pure cl) (hcell : ∀ x ∈ scope.names, x.2 ≠ .cell) (hkind : scope.kind = .function) (hnames : ∀ x ∈ scope.names, x.2 = .local → scope.names.lookup x.1 = some .local)
    (hs : ∀ x, foldedSetIterable it C.env x = pure x) (hne : names ≠ []) (hnd : names.Nodup) (n : Nat) (hn : n = C.pl.length)
    (hi : Ev C it T) (ha : ∀ L, Asg (C.comp scope cl L names) t Ta) (hc : ∀ L, Tst (C.comp scope cl L names) ifs Tc) (hek : ∀ L, Ev (C.comp scope cl L names) kx Tk) (hev : ∀ L, Ev (C.comp scope cl L names) vx Tv) (hay : Asg C (.Name y py) Ty) (ht : ∀ I v, letOwnedTupleGo t (.ref I) v = pure () := by intro _ _; rfl) :
    Ex C (.Assign [.Name y py] (.DictComp kx vx [⟨t, it, ifs, 0⟩] scope pos) spos) (fun Q => compMW n T Ta Tc Tk Tv fun v => Ty v (Q .next)) := by
  subst hn
  intro E Q st F s _ k q
  rw [exec_Assign_Name_used _ _ _ _ hsw]
  refine wpAny_bind (wpAny_standAt (wpAny_bind ?_))
  show wpAny _ _ (do let _ ← comprehension (.DictComp kx vx [⟨t, it, ifs, 0⟩] scope pos) scope C.env _ newDict false (eval it C.env) (some (assign (.Name y py) C.env))) _ _ s
  refine wpAny_bind (compM_run (use := some (assign (.Name y py) C.env)) (Q := fun v => Ty v (Q .next)) hclos hcell hkind hnames hs hne hnd hi ha hc hek hev ht k q fun D L F₁ st₁ s₁ F' st' s' p₁ l hL q' hm => ?_)
  obtain ⟨m, hn⟩ := hm
  show wpAny C.W.M C.A (assign (.Name y py) C.env (.ref D)) _ _ _
  refine (hay F' (.ref D) (.ref D) (.ref _)).then (Q := fun _ => Q .next) (.refl _) l.sim q' fun F₂ _ st₂ _ s₂ p₂ _ q₂ => ?_
  have hLo := l.off L (.head _)
  refine ⟨m, hn.at' fun o e => p₂.p.keep _ o e hLo.2.1 hLo.2.2.1, fun h' hs' => wpAny_pure (wpAny_pure ?_)⟩
  exact ⟨F₂, .next, st₂, p₁.trans ((l.step p₂).out (tk := s₂.toks) (by intro b m; rw [List.mem_singleton.mp m]; exact hL) fun b o hb e => (hs'.2 b (by simpa using hb)).trans e), .next, q₂⟩
end Mine

namespace Mine
open PySem PySem.W PyProof.Rows PySem.Calls

variable {C : Cx}

/-! ### a list is frozen as it is stored -/
abbrev fzA (T : AT) : AT := fun x K st => ∃ a xs, x = .ref a ∧ st.σ a = some (.list xs) ∧ T (.list xs) K (st.del a)
theorem asg_freeze {t : Expr} {T : AT} (h : Asg C t T) : Asg C t (fzA T) := by
  rintro F₀ x v r E Q st F s hF k ⟨a, xs, hx, ha, q⟩
  subst hx
  cases r
  obtain ⟨F₂, p₂, r₂⟩ := PostG.freeze k.g ha
  have p := Post.ofG k p₂
  exact (h F₂ (.list xs) (.ref a) r₂).then (Q := fun _ => Q ()) (.refl _) p.sim q fun F₃ _ st₃ _ s₃ p₃ _ q₃ => ⟨F₃, (), st₃, p.trans p₃, trivial, q₃⟩

/-! ### or of any number -/
inductive OrAll (C : Cx) : List Expr → PB → Prop
  | nil : OrAll C [] (fun Q st => Q false st)
  | cons {e : Expr} {es : List Expr} {T Ts : PB} : EvT C e T → OrAll C es Ts → OrAll C (e :: es) (fun Q => T fun b => if b then Q true else Ts Q)
theorem evT_orN {es : List Expr} {pos : Pos} {T : PB} (h : OrAll C es T) : EvT C (.BoolOp .Or es pos) T := by
  intro E Q st F s hF k q
  refine wpAny_isTrue_BoolOp ?_
  suffices H : ∀ F st s, Sim C F st s.heap → T Q st → wpAny C.W.M C.A _ (fun v s' => ∃ F' x st', Post C F st s F' st' s' ∧ RB F' x v ∧ Q x st') E s from H F st s k q
  clear q k hF s F st
  induction h with
  | nil => exact fun F st s k q => wpAny_allTrue_Or_nil ⟨F, false, st, .refl k, rfl, q⟩
  | cons he _ ih =>
    intro F st s k q
    refine wpAny_allTrue_Or_cons (he.then (F0.le _) k q fun F₁ b st₁ a s₁ p₁ ra q₁ => ?_)
    subst ra
    cases b with
    | true => exact ⟨F₁, true, st₁, p₁, rfl, q₁⟩
    | false => exact wpAny_mono (ih F₁ st₁ s₁ p₁.sim q₁) (fun v s₂ ⟨F₂, x, st₂, p₂, r₂, q₂⟩ => ⟨F₂, x, st₂, p₁.trans p₂, r₂, q₂⟩) fun _ _ e => e

/-! ### short names of transformers -/
abbrev PF := (Fl → S → Prop) → S → Prop
abbrev PL := (List V → S → Prop) → S → Prop
abbrev exprW (T : PV) : PF := fun Q => T fun _ => Q .next
abbrev nilW : PF := fun Q => Q .next
abbrev brkW : PF := fun Q => Q .brk
abbrev contW : PF := fun Q => Q .cont
abbrev retS (T : PV) : PF := fun Q => T fun v => Q (.ret v)
abbrev noS : PF := fun _ _ => False
abbrev noV : PV := fun _ _ => False
abbrev asgS (T : PV) (Ta : AT) : PF := fun Q => T fun x => Ta x (Q .next)
abbrev putS (T₃ T₁ T₂ : PV) : PF := fun Q => T₃ fun z => T₁ fun x => T₂ fun y => putW x y z (Q .next)
abbrev augS (i : Nat) (T : PV) (B : V → V → PV) : PF := fun Q => locW i fun o => T fun y => B o y fun z st => Q .next (st.set i z)
abbrev ifS (T : PB) (T₁ T₂ : PF) : PF := fun Q => T fun z => if z then T₁ Q else T₂ Q
abbrev arg0 : PL := fun Q => Q []
abbrev argS (T : PV) (Ts : PL) : PL := fun Q => T fun x => Ts fun xs => Q (x :: xs)
abbrev cW (v : V) : PV := fun Q => Q v
abbrev biW (B : V → V → PV) (T₁ T₂ : PV) : PV := fun Q => T₁ fun x => T₂ fun y => B x y Q
abbrev mtW (T : PV) (Ts : PL) (B : V → List V → PV) : PV := fun Q => T fun x st => ∃ l, getL st x = some l ∧ Ts (fun xs => B x xs Q) st
abbrev cbW (Ts : PL) (B : List V → PV) : PV := fun Q => Ts fun xs => B xs Q
abbrev ckW (W : Wd) (j : Nat) (a : Addr) (ns : List Str) (Ts Tk : PL) : PV := fun Q => Ts fun xs => Tk fun ys st => ys.length = ns.length ∧ CallOK W j a xs (ns.zip ys) (fun x σ' => Q x ⟨σ', st.ρ⟩) st.σ
abbrev cmW (B : V → V → PB) (T₁ T₂ : PV) : PB := fun Q => T₁ fun x => T₂ fun y => B x y Q
abbrev cvW (B : V → V → PB) (T₁ T₂ : PV) : PV := fun Q => T₁ fun x => T₂ fun y => B x y fun b => Q (.bool b)
abbrev c2W (B B' : V → V → PB) (T₁ T₂ T₃ : PV) : PB := fun Q => T₁ fun x => T₂ fun y => B x y fun z => if z then T₃ fun u => B' y u Q else Q false
abbrev notB (T : PB) : PB := fun Q => T fun b => Q (!b)
abbrev andB (T₁ T₂ : PB) : PB := fun Q => T₁ fun b => if b then T₂ Q else Q false
abbrev orB (T₁ T₂ : PB) : PB := fun Q => T₁ fun b => if b then Q true else T₂ Q
abbrev valB (T : PV) : PB := fun Q => T fun x => truW x Q
abbrev iteW (T : PB) (T₁ T₂ : PV) : PV := fun Q => T fun z => if z then T₁ Q else T₂ Q
abbrev itW (T₁ T₂ : PV) : PV := fun Q => T₁ fun x => T₂ fun y st => ∃ k, y = .int k ∧ getW x (.int k) Q st
abbrev tpW (Ts : PL) : PV := fun Q => Ts fun xs st => xs.length ≤ sizeLine ∧ Q (.tuple xs) st
abbrev lsW (Ts : PL) : PV := fun Q => Ts fun xs st => xs.length ≤ sizeLine ∧ newWS (.list xs) Q st
abbrev PO := (Option Int → S → Prop) → S → Prop
abbrev oN : PO := fun Q => Q none
abbrev oS (T : PV) : PO := fun Q => T fun x st => ∃ i, x = .int i ∧ Q (some i) st
abbrev slW (T : PV) (T₁ T₂ : PO) : PV := fun Q => T fun x => T₁ fun i => T₂ fun j st => ∃ l, getL st x = some l ∧ l.length ≤ 1000000 ∧ newWS (.list (pickV l i j)) Q st
abbrev avW (T₁ T₂ : PV) : PV := fun Q => T₁ fun v => truW v fun b st => if b then T₂ Q st else Q v st
abbrev d0W : PV := fun Q => newWS (.dict [] 0) Q
abbrev or0 : PB := fun Q => Q false
abbrev tT : PB := fun Q => Q true
def b64N : List UInt8 := [65, 66, 67, 68, 69, 70, 71, 72, 73, 74, 75, 76, 77, 78, 79, 80, 81, 82, 83, 84, 85, 86, 87, 88, 89, 90, 97, 98, 99, 100, 101, 102, 103, 104, 105, 106, 107, 108, 109, 110, 111, 112, 113, 114, 115, 116, 117, 118, 119, 120, 121, 122, 48, 49, 50, 51, 52, 53, 54, 55, 56, 57, 43, 47]
def b64L : List Int := [65, 66, 67, 68, 69, 70, 71, 72, 73, 74, 75, 76, 77, 78, 79, 80, 81, 82, 83, 84, 85, 86, 87, 88, 89, 90, 97, 98, 99, 100, 101, 102, 103, 104, 105, 106, 107, 108, 109, 110, 111, 112, 113, 114, 115, 116, 117, 118, 119, 120, 121, 122, 48, 49, 50, 51, 52, 53, 54, 55, 56, 57, 43, 47]
def b64V : Value := .bytes b64N.toArray 301
theorem b64R {F : Fz} : R F (.bytes b64L) b64V := .bytes _ (by unfold BytesAre; decide +kernel)
end Mine

namespace Mine
open PySem PySem.W PyProof.Rows PySem.Calls
abbrev PW := PySem.Challenge.pw_oy0061_01
def defOf (i : Nat) : Stmt := PW.main.body.getD i (.Pass default)
def bodyOf : Stmt → List Stmt
  | .FunctionDef _ _ b _ _ _ _ _ _ _ => b
  | _ => []
def mkFd (pm cd df kd : Value) : Stmt → FuncData
  | .FunctionDef name args body _ _ _ scope _ _ _ => { name, qualname := name, params := args, body := .stmts body, scope, globals := mainGlobals, closure := [], defaults := df, kwdefaults := kd, pyModule := pm, code := cd, builtins := builtinsNs }
  | _ => default
def fd_heappush : FuncData := mkFd (.str (Str.ofString "cpy313.heapq") 194) (.ref 27) (.none) (.none) (defOf 2)
def fd_heappop : FuncData := mkFd (.str (Str.ofString "cpy313.heapq") 194) (.ref 34) (.none) (.none) (defOf 3)
def fd_heapify : FuncData := mkFd (.str (Str.ofString "cpy313.heapq") 194) (.ref 41) (.none) (.none) (defOf 4)
def fd__siftdown : FuncData := mkFd (.str (Str.ofString "cpy313.heapq") 194) (.ref 48) (.none) (.none) (defOf 5)
def fd__siftup : FuncData := mkFd (.str (Str.ofString "cpy313.heapq") 194) (.ref 55) (.none) (.none) (defOf 6)
def fd__bytes_from_decode_data : FuncData := mkFd (.str (Str.ofString "cpy313.base64") 247) (.ref 63) (.none) (.none) (defOf 9)
def fd__ascii_buffer : FuncData := mkFd (.str (Str.ofString "binascii") 257) (.ref 83) (.none) (.none) (defOf 12)
def fd__buffer : FuncData := mkFd (.str (Str.ofString "binascii") 257) (.ref 90) (.none) (.none) (defOf 13)
def fd__truth : FuncData := mkFd (.str (Str.ofString "binascii") 257) (.ref 97) (.none) (.none) (defOf 14)
def fd__b64_value : FuncData := mkFd (.str (Str.ofString "binascii") 257) (.ref 104) (.none) (.none) (defOf 16)
def fd_a2b_base64 : FuncData := mkFd (.str (Str.ofString "binascii") 257) (.ref 112) (.none) (.ref 106) (defOf 17)
def fd_b2a_base64 : FuncData := mkFd (.str (Str.ofString "binascii") 257) (.ref 120) (.none) (.ref 114) (defOf 18)
def fd_b64encode : FuncData := mkFd (.str (Str.ofString "cpy313.base64") 340) (.ref 128) (.ref 122) (.none) (defOf 20)
def fd_b64decode : FuncData := mkFd (.str (Str.ofString "cpy313.base64") 340) (.ref 136) (.ref 130) (.none) (defOf 21)
def fd__parse_varint : FuncData := mkFd (.str (Str.ofString "cpy313.dis") 360) (.ref 143) (.none) (.none) (defOf 23)
def fd__law_octets : FuncData := mkFd (.str (Str.ofString "law_oy0061_01") 371) (.ref 150) (.none) (.none) (defOf 25)
def fd__law_places : FuncData := mkFd (.str (Str.ofString "law_oy0061_01") 371) (.ref 155) (.none) (.none) (defOf 26)
def fd__law_sum : FuncData := mkFd (.str (Str.ofString "law_oy0061_01") 371) (.ref 162) (.none) (.none) (defOf 27)
def fd__law_card : FuncData := mkFd (.str (Str.ofString "law_oy0061_01") 371) (.ref 169) (.none) (.none) (defOf 28)
def fd__law_read : FuncData := mkFd (.str (Str.ofString "law_oy0061_01") 371) (.ref 176) (.none) (.none) (defOf 29)
def fd__law_peeled : FuncData := mkFd (.str (Str.ofString "law_oy0061_01") 371) (.ref 181) (.none) (.none) (defOf 30)
def fd__law_held : FuncData := mkFd (.str (Str.ofString "law_oy0061_01") 371) (.ref 186) (.none) (.none) (defOf 31)
def fd_law : FuncData := mkFd (.str (Str.ofString "law_oy0061_01") 371) (.ref 191) (.none) (.none) (defOf 32)
structure GW (W : Wd) : Prop where
  g_len : GlobIs W.h₀ (Str.ofString "len") (.builtin "len")
  g__siftdown : GlobIs W.h₀ (Str.ofString "_siftdown") (.ref 49)
  g__siftup : GlobIs W.h₀ (Str.ofString "_siftup") (.ref 56)
  g_range : GlobIs W.h₀ (Str.ofString "range") (.type "range")
  g_reversed : GlobIs W.h₀ (Str.ofString "reversed") (.type "reversed")
  g_bytes_types : GlobIs W.h₀ (Str.ofString "bytes_types") (.ref 57)
  g_isinstance : GlobIs W.h₀ (Str.ofString "isinstance") (.builtin "isinstance")
  g_str : GlobIs W.h₀ (Str.ofString "str") (.type "str")
  g_bytearray : GlobIs W.h₀ (Str.ofString "bytearray") (.type "bytearray")
  g_bytes : GlobIs W.h₀ (Str.ofString "bytes") (.type "bytes")
  g_type : GlobIs W.h₀ (Str.ofString "type") (.type "type")
  g_frozenset : GlobIs W.h₀ (Str.ofString "frozenset") (.type "frozenset")
  g_set : GlobIs W.h₀ (Str.ofString "set") (.type "set")
  g_dict : GlobIs W.h₀ (Str.ofString "dict") (.type "dict")
  g_tuple : GlobIs W.h₀ (Str.ofString "tuple") (.type "tuple")
  g_list : GlobIs W.h₀ (Str.ofString "list") (.type "list")
  g_complex : GlobIs W.h₀ (Str.ofString "complex") (.type "complex")
  g_float : GlobIs W.h₀ (Str.ofString "float") (.type "float")
  g_int : GlobIs W.h₀ (Str.ofString "int") (.type "int")
  g_bool : GlobIs W.h₀ (Str.ofString "bool") (.type "bool")
  g__b64_value : GlobIs W.h₀ (Str.ofString "_b64_value") (.ref 105)
  g__truth : GlobIs W.h₀ (Str.ofString "_truth") (.ref 98)
  g__ascii_buffer : GlobIs W.h₀ (Str.ofString "_ascii_buffer") (.ref 84)
  g__B64 : GlobIs W.h₀ (Str.ofString "_B64") (b64V)
  g__buffer : GlobIs W.h₀ (Str.ofString "_buffer") (.ref 91)
  g_b2a_base64 : GlobIs W.h₀ (Str.ofString "b2a_base64") (.ref 121)
  g_a2b_base64 : GlobIs W.h₀ (Str.ofString "a2b_base64") (.ref 113)
  g__bytes_from_decode_data : GlobIs W.h₀ (Str.ofString "_bytes_from_decode_data") (.ref 64)
  g_next : GlobIs W.h₀ (Str.ofString "next") (.builtin "next")
  g__law_octets : GlobIs W.h₀ (Str.ofString "_law_octets") (.ref 151)
  g_b64encode : GlobIs W.h₀ (Str.ofString "b64encode") (.ref 129)
  g__law_places : GlobIs W.h₀ (Str.ofString "_law_places") (.ref 156)
  g__parse_varint : GlobIs W.h₀ (Str.ofString "_parse_varint") (.ref 144)
  g_b64decode : GlobIs W.h₀ (Str.ofString "b64decode") (.ref 137)
  g_iter : GlobIs W.h₀ (Str.ofString "iter") (.builtin "iter")
  g_heappush : GlobIs W.h₀ (Str.ofString "heappush") (.ref 28)
  g_heappop : GlobIs W.h₀ (Str.ofString "heappop") (.ref 35)
  g_heapify : GlobIs W.h₀ (Str.ofString "heapify") (.ref 42)
  g__law_read : GlobIs W.h₀ (Str.ofString "_law_read") (.ref 177)
  g__law_sum : GlobIs W.h₀ (Str.ofString "_law_sum") (.ref 163)
  g__law_held : GlobIs W.h₀ (Str.ofString "_law_held") (.ref 187)
  g__law_peeled : GlobIs W.h₀ (Str.ofString "_law_peeled") (.ref 182)
  g__law_card : GlobIs W.h₀ (Str.ofString "_law_card") (.ref 170)
  g_max : GlobIs W.h₀ (Str.ofString "max") (.builtin "max")
  f_heappush : FnAt W 28 fd_heappush
  f_heappop : FnAt W 35 fd_heappop
  f_heapify : FnAt W 42 fd_heapify
  f__siftdown : FnAt W 49 fd__siftdown
  f__siftup : FnAt W 56 fd__siftup
  f__bytes_from_decode_data : FnAt W 64 fd__bytes_from_decode_data
  f__ascii_buffer : FnAt W 84 fd__ascii_buffer
  f__buffer : FnAt W 91 fd__buffer
  f__truth : FnAt W 98 fd__truth
  f__b64_value : FnAt W 105 fd__b64_value
  f_a2b_base64 : FnAt W 113 fd_a2b_base64
  f_b2a_base64 : FnAt W 121 fd_b2a_base64
  f_b64encode : FnAt W 129 fd_b64encode
  f_b64decode : FnAt W 137 fd_b64decode
  f__parse_varint : FnAt W 144 fd__parse_varint
  f__law_octets : FnAt W 151 fd__law_octets
  f__law_places : FnAt W 156 fd__law_places
  f__law_sum : FnAt W 163 fd__law_sum
  f__law_card : FnAt W 170 fd__law_card
  f__law_read : FnAt W 177 fd__law_read
  f__law_peeled : FnAt W 182 fd__law_peeled
  f__law_held : FnAt W 187 fd__law_held
  f_law : FnAt W 192 fd_law
  h_bt : ∃ n, W.h₀.get? 57 = some (tupOf [.type "bytes", .type "bytearray"] n)
  h_d122 : ∃ n, W.h₀.get? 122 = some (tupOf [.none] n)
  h_d130 : ∃ n, W.h₀.get? 130 = some (tupOf [.none, .bool false] n)
abbrev tS_heappush (W : Wd) (j : Nat) : PF := (seqW (exprW (mtW (locW 0) (argS (locW 1) arg0) appendW))
  (seqW (exprW (cbW (argS (locW 0) (argS (cW (.int 0)) (argS (biW subW (cbW (argS (locW 0) arg0) lenW) (cW (.int 1))) arg0))) (callW W j 49)))
  nilW))
theorem iS_heappush {W : Wd} (G : GW W) (A : Around) (L : Addr) (j : Nat) : Exs (fnCx W A fd_heappush L 28 ([(Str.ofString "heap"), (Str.ofString "item")] ++ []) j) (bodyOf (defOf 2)) (tS_heappush W j) :=
  (exs_cons (ex_expr (ev_meth PySem.F.slot_list_append (by rfl) (ev_local (i := 0) rfl rfl rfl) (.cons rfl (ev_local (i := 1) rfl rfl rfl) .nil) append_ok))
  (exs_cons (ex_expr (ev_callF ⟨G.g__siftdown, rfl, rfl, rfl, rfl⟩ G.f__siftdown (.cons rfl (ev_local (i := 0) rfl rfl rfl) (.cons rfl ev_int (.cons rfl (ev_bin (ev_callB ⟨G.g_len, rfl, rfl, rfl, rfl⟩ (.cons rfl (ev_local (i := 0) rfl rfl rfl) .nil) len_ok) ev_int sub_ok) .nil))) rfl rfl))
  exs_nil))
theorem cS_heappush {W : Wd} (G : GW W) {j : Nat} {xs : List V} {Q : V → St → Prop} {σ : St} (hlen : xs.length = 2) (q : tS_heappush W j (retW Q) ⟨σ, fun i => xs[i]?⟩) : CallOK W (j + 1) 28 xs [] Q σ :=
  call_intro (params := [(Str.ofString "heap"), (Str.ofString "item")]) (names := []) G.f_heappush rfl (fun A L => iS_heappush G A L j) (fun vs hv => match vs, hv with | [_, _], _ => rfl) (by decide +kernel) (by decide +kernel) (by decide +kernel) hlen q
abbrev tS_heappop (W : Wd) (j : Nat) : PF := (seqW (asgS (mtW (locW 0) arg0 popW) (setW 1))
  (seqW (ifS (valB (locW 0)) (seqW (asgS (itW (locW 0) (cW (.int 0))) (setW 2))
  (seqW (putS (locW 1) (locW 0) (cW (.int 0)))
  (seqW (exprW (cbW (argS (locW 0) (argS (cW (.int 0)) arg0)) (callW W j 56)))
  (seqW (retS (locW 2))
  nilW)))) nilW)
  (seqW (retS (locW 1))
  nilW)))
theorem iS_heappop {W : Wd} (G : GW W) (A : Around) (L : Addr) (j : Nat) : Exs (fnCx W A fd_heappop L 35 ([(Str.ofString "heap")] ++ [(Str.ofString "lastelt"), (Str.ofString "returnitem")]) j) (bodyOf (defOf 3)) (tS_heappop W j) :=
  (exs_cons (ex_assign (ev_meth PySem.F.slot_list_pop (by rfl) (ev_local (i := 0) rfl rfl rfl) .nil pop_ok) (asg_local (i := 1) rfl rfl))
  (exs_cons (ex_if (evT_val (ev_local (i := 0) rfl rfl rfl)) (exs_cons (ex_assign (ev_item (ev_local (i := 0) rfl rfl rfl) ev_int) (asg_local (i := 2) rfl rfl))
  (exs_cons (ex_put (ev_local (i := 1) rfl rfl rfl) (ev_local (i := 0) rfl rfl rfl) ev_int)
  (exs_cons (ex_expr (ev_callF ⟨G.g__siftup, rfl, rfl, rfl, rfl⟩ G.f__siftup (.cons rfl (ev_local (i := 0) rfl rfl rfl) (.cons rfl ev_int .nil)) rfl rfl))
  (exs_cons (ex_ret (ev_local (i := 2) rfl rfl rfl))
  exs_nil)))) exs_nil)
  (exs_cons (ex_ret (ev_local (i := 1) rfl rfl rfl))
  exs_nil)))
theorem cS_heappop {W : Wd} (G : GW W) {j : Nat} {xs : List V} {Q : V → St → Prop} {σ : St} (hlen : xs.length = 1) (q : tS_heappop W j (retW Q) ⟨σ, fun i => xs[i]?⟩) : CallOK W (j + 1) 35 xs [] Q σ :=
  call_intro (params := [(Str.ofString "heap")]) (names := [(Str.ofString "lastelt"), (Str.ofString "returnitem")]) G.f_heappop rfl (fun A L => iS_heappop G A L j) (fun vs hv => match vs, hv with | [_], _ => rfl) (by decide +kernel) (by decide +kernel) (by decide +kernel) hlen q
abbrev tS_heapify (W : Wd) (j : Nat) : PF := (seqW (asgS (cbW (argS (locW 0) arg0) lenW) (setW 1))
  (seqW (forSW (cbW (argS (cbW (argS (biW fdivW (locW 1) (cW (.int 2))) arg0) rangeW) arg0) revW) (setW 2) (seqW (exprW (cbW (argS (locW 0) (argS (locW 2) arg0)) (callW W j 56)))
  nilW))
  nilW))
theorem iS_heapify {W : Wd} (G : GW W) (A : Around) (L : Addr) (j : Nat) : Exs (fnCx W A fd_heapify L 42 ([(Str.ofString "x")] ++ [(Str.ofString "n"), (Str.ofString "i")]) j) (bodyOf (defOf 4)) (tS_heapify W j) :=
  (exs_cons (ex_assign (ev_callB ⟨G.g_len, rfl, rfl, rfl, rfl⟩ (.cons rfl (ev_local (i := 0) rfl rfl rfl) .nil) len_ok) (asg_local (i := 1) rfl rfl))
  (exs_cons (ex_forS (ev_callT ⟨G.g_reversed, rfl, rfl, rfl, rfl⟩ (.cons rfl (ev_callT ⟨G.g_range, rfl, rfl, rfl, rfl⟩ (.cons rfl (ev_bin (ev_local (i := 1) rfl rfl rfl) ev_int fdiv_ok) .nil) range_ok) .nil) rev_ok) (asg_local (i := 2) rfl rfl) (exs_cons (ex_expr (ev_callF ⟨G.g__siftup, rfl, rfl, rfl, rfl⟩ G.f__siftup (.cons rfl (ev_local (i := 0) rfl rfl rfl) (.cons rfl (ev_local (i := 2) rfl rfl rfl) .nil)) rfl rfl))
  exs_nil))
  exs_nil))
theorem cS_heapify {W : Wd} (G : GW W) {j : Nat} {xs : List V} {Q : V → St → Prop} {σ : St} (hlen : xs.length = 1) (q : tS_heapify W j (retW Q) ⟨σ, fun i => xs[i]?⟩) : CallOK W (j + 1) 42 xs [] Q σ :=
  call_intro (params := [(Str.ofString "x")]) (names := [(Str.ofString "n"), (Str.ofString "i")]) G.f_heapify rfl (fun A L => iS_heapify G A L j) (fun vs hv => match vs, hv with | [_], _ => rfl) (by decide +kernel) (by decide +kernel) (by decide +kernel) hlen q
abbrev tS__siftdown (W : Wd) (j : Nat) : PF := (seqW (asgS (itW (locW 0) (locW 2)) (setW 3))
  (seqW (whileW (cmW (icmpW fun i j => decide (j < i)) (locW 2) (locW 1)) (seqW (asgS (biW rshW (biW subW (locW 2) (cW (.int 1))) (cW (.int 1))) (setW 4))
  (seqW (asgS (itW (locW 0) (locW 4)) (setW 5))
  (seqW (ifS (cmW ltW (locW 3) (locW 5)) (seqW (putS (locW 5) (locW 0) (locW 2))
  (seqW (asgS (locW 4) (setW 2))
  (seqW contW
  nilW))) nilW)
  (seqW brkW
  nilW)))))
  (seqW (putS (locW 3) (locW 0) (locW 2))
  nilW)))
theorem iS__siftdown {W : Wd} (G : GW W) (A : Around) (L : Addr) (j : Nat) : Exs (fnCx W A fd__siftdown L 49 ([(Str.ofString "heap"), (Str.ofString "startpos"), (Str.ofString "pos")] ++ [(Str.ofString "newitem"), (Str.ofString "parentpos"), (Str.ofString "parent")]) j) (bodyOf (defOf 5)) (tS__siftdown W j) :=
  (exs_cons (ex_assign (ev_item (ev_local (i := 0) rfl rfl rfl) (ev_local (i := 2) rfl rfl rfl)) (asg_local (i := 3) rfl rfl))
  (exs_cons (ex_while (evT_cmp (ev_local (i := 2) rfl rfl rfl) (ev_local (i := 1) rfl rfl rfl) gt_ok rfl) (exs_cons (ex_assign (ev_bin (ev_bin (ev_local (i := 2) rfl rfl rfl) ev_int sub_ok) ev_int rsh_ok) (asg_local (i := 4) rfl rfl))
  (exs_cons (ex_assign (ev_item (ev_local (i := 0) rfl rfl rfl) (ev_local (i := 4) rfl rfl rfl)) (asg_local (i := 5) rfl rfl))
  (exs_cons (ex_if (evT_cmp (ev_local (i := 3) rfl rfl rfl) (ev_local (i := 5) rfl rfl rfl) lt_ok rfl) (exs_cons (ex_put (ev_local (i := 5) rfl rfl rfl) (ev_local (i := 0) rfl rfl rfl) (ev_local (i := 2) rfl rfl rfl))
  (exs_cons (ex_assign (ev_local (i := 4) rfl rfl rfl) (asg_local (i := 2) rfl rfl))
  (exs_cons ex_continue
  exs_nil))) exs_nil)
  (exs_cons ex_break
  exs_nil)))))
  (exs_cons (ex_put (ev_local (i := 3) rfl rfl rfl) (ev_local (i := 0) rfl rfl rfl) (ev_local (i := 2) rfl rfl rfl))
  exs_nil)))
theorem cS__siftdown {W : Wd} (G : GW W) {j : Nat} {xs : List V} {Q : V → St → Prop} {σ : St} (hlen : xs.length = 3) (q : tS__siftdown W j (retW Q) ⟨σ, fun i => xs[i]?⟩) : CallOK W (j + 1) 49 xs [] Q σ :=
  call_intro (params := [(Str.ofString "heap"), (Str.ofString "startpos"), (Str.ofString "pos")]) (names := [(Str.ofString "newitem"), (Str.ofString "parentpos"), (Str.ofString "parent")]) G.f__siftdown rfl (fun A L => iS__siftdown G A L j) (fun vs hv => match vs, hv with | [_, _, _], _ => rfl) (by decide +kernel) (by decide +kernel) (by decide +kernel) hlen q
abbrev tS__siftup (W : Wd) (j : Nat) : PF := (seqW (asgS (cbW (argS (locW 0) arg0) lenW) (setW 2))
  (seqW (asgS (locW 1) (setW 3))
  (seqW (asgS (itW (locW 0) (locW 1)) (setW 4))
  (seqW (asgS (biW addW (biW mulW (cW (.int 2)) (locW 1)) (cW (.int 1))) (setW 5))
  (seqW (whileW (cmW ltW (locW 5) (locW 2)) (seqW (asgS (biW addW (locW 5) (cW (.int 1))) (setW 6))
  (seqW (ifS (andB (cmW ltW (locW 6) (locW 2)) (notB (cmW ltW (itW (locW 0) (locW 5)) (itW (locW 0) (locW 6))))) (seqW (asgS (locW 6) (setW 5))
  nilW) nilW)
  (seqW (putS (itW (locW 0) (locW 5)) (locW 0) (locW 1))
  (seqW (asgS (locW 5) (setW 1))
  (seqW (asgS (biW addW (biW mulW (cW (.int 2)) (locW 1)) (cW (.int 1))) (setW 5))
  nilW))))))
  (seqW (putS (locW 4) (locW 0) (locW 1))
  (seqW (exprW (cbW (argS (locW 0) (argS (locW 3) (argS (locW 1) arg0))) (callW W j 49)))
  nilW)))))))
theorem iS__siftup {W : Wd} (G : GW W) (A : Around) (L : Addr) (j : Nat) : Exs (fnCx W A fd__siftup L 56 ([(Str.ofString "heap"), (Str.ofString "pos")] ++ [(Str.ofString "endpos"), (Str.ofString "startpos"), (Str.ofString "newitem"), (Str.ofString "childpos"), (Str.ofString "rightpos")]) j) (bodyOf (defOf 6)) (tS__siftup W j) :=
  (exs_cons (ex_assign (ev_callB ⟨G.g_len, rfl, rfl, rfl, rfl⟩ (.cons rfl (ev_local (i := 0) rfl rfl rfl) .nil) len_ok) (asg_local (i := 2) rfl rfl))
  (exs_cons (ex_assign (ev_local (i := 1) rfl rfl rfl) (asg_local (i := 3) rfl rfl))
  (exs_cons (ex_assign (ev_item (ev_local (i := 0) rfl rfl rfl) (ev_local (i := 1) rfl rfl rfl)) (asg_local (i := 4) rfl rfl))
  (exs_cons (ex_assign (ev_bin (ev_bin ev_int (ev_local (i := 1) rfl rfl rfl) mul_ok) ev_int add_ok) (asg_local (i := 5) rfl rfl))
  (exs_cons (ex_while (evT_cmp (ev_local (i := 5) rfl rfl rfl) (ev_local (i := 2) rfl rfl rfl) lt_ok rfl) (exs_cons (ex_assign (ev_bin (ev_local (i := 5) rfl rfl rfl) ev_int add_ok) (asg_local (i := 6) rfl rfl))
  (exs_cons (ex_if (evT_and (evT_cmp (ev_local (i := 6) rfl rfl rfl) (ev_local (i := 2) rfl rfl rfl) lt_ok rfl) (evT_not (evT_cmp (ev_item (ev_local (i := 0) rfl rfl rfl) (ev_local (i := 5) rfl rfl rfl)) (ev_item (ev_local (i := 0) rfl rfl rfl) (ev_local (i := 6) rfl rfl rfl)) lt_ok rfl))) (exs_cons (ex_assign (ev_local (i := 6) rfl rfl rfl) (asg_local (i := 5) rfl rfl))
  exs_nil) exs_nil)
  (exs_cons (ex_put (ev_item (ev_local (i := 0) rfl rfl rfl) (ev_local (i := 5) rfl rfl rfl)) (ev_local (i := 0) rfl rfl rfl) (ev_local (i := 1) rfl rfl rfl))
  (exs_cons (ex_assign (ev_local (i := 5) rfl rfl rfl) (asg_local (i := 1) rfl rfl))
  (exs_cons (ex_assign (ev_bin (ev_bin ev_int (ev_local (i := 1) rfl rfl rfl) mul_ok) ev_int add_ok) (asg_local (i := 5) rfl rfl))
  exs_nil))))))
  (exs_cons (ex_put (ev_local (i := 4) rfl rfl rfl) (ev_local (i := 0) rfl rfl rfl) (ev_local (i := 1) rfl rfl rfl))
  (exs_cons (ex_expr (ev_callF ⟨G.g__siftdown, rfl, rfl, rfl, rfl⟩ G.f__siftdown (.cons rfl (ev_local (i := 0) rfl rfl rfl) (.cons rfl (ev_local (i := 3) rfl rfl rfl) (.cons rfl (ev_local (i := 1) rfl rfl rfl) .nil))) rfl rfl))
  exs_nil)))))))
theorem cS__siftup {W : Wd} (G : GW W) {j : Nat} {xs : List V} {Q : V → St → Prop} {σ : St} (hlen : xs.length = 2) (q : tS__siftup W j (retW Q) ⟨σ, fun i => xs[i]?⟩) : CallOK W (j + 1) 56 xs [] Q σ :=
  call_intro (params := [(Str.ofString "heap"), (Str.ofString "pos")]) (names := [(Str.ofString "endpos"), (Str.ofString "startpos"), (Str.ofString "newitem"), (Str.ofString "childpos"), (Str.ofString "rightpos")]) G.f__siftup rfl (fun A L => iS__siftup G A L j) (fun vs hv => match vs, hv with | [_, _], _ => rfl) (by decide +kernel) (by decide +kernel) (by decide +kernel) hlen q
abbrev tS__bytes_from_decode_data (W : Wd) (j : Nat) : PF := (seqW (ifS (valB (cbW (argS (locW 0) (argS (cW (.raw (.type "str"))) arg0)) (isiW W))) (seqW noS
  nilW) nilW)
  (seqW (ifS (valB (cbW (argS (locW 0) (argS (cW (.raw (.ref 57))) arg0)) (isiW W))) (seqW (retS (locW 0))
  nilW) nilW)
  (seqW noS
  nilW)))
theorem iS__bytes_from_decode_data {W : Wd} (G : GW W) (A : Around) (L : Addr) (j : Nat) : Exs (fnCx W A fd__bytes_from_decode_data L 64 ([(Str.ofString "s")] ++ []) j) (bodyOf (defOf 9)) (tS__bytes_from_decode_data W j) :=
  (exs_cons (ex_if (evT_val (ev_callB ⟨G.g_isinstance, rfl, rfl, rfl, rfl⟩ (.cons rfl (ev_local (i := 0) rfl rfl rfl) (.cons rfl (ev_global (.raw _) G.g_str rfl rfl rfl rfl) .nil)) isi_ok)) (exs_cons imp_false
  exs_nil) exs_nil)
  (exs_cons (ex_if (evT_val (ev_callB ⟨G.g_isinstance, rfl, rfl, rfl, rfl⟩ (.cons rfl (ev_local (i := 0) rfl rfl rfl) (.cons rfl (ev_global (.raw _) G.g_bytes_types rfl rfl rfl rfl) .nil)) isi_ok)) (exs_cons (ex_ret (ev_local (i := 0) rfl rfl rfl))
  exs_nil) exs_nil)
  (exs_cons imp_false
  exs_nil)))
theorem cS__bytes_from_decode_data {W : Wd} (G : GW W) {j : Nat} {xs : List V} {Q : V → St → Prop} {σ : St} (hlen : xs.length = 1) (q : tS__bytes_from_decode_data W j (retW Q) ⟨σ, fun i => xs[i]?⟩) : CallOK W (j + 1) 64 xs [] Q σ :=
  call_intro (params := [(Str.ofString "s")]) (names := []) G.f__bytes_from_decode_data rfl (fun A L => iS__bytes_from_decode_data G A L j) (fun vs hv => match vs, hv with | [_], _ => rfl) (by decide +kernel) (by decide +kernel) (by decide +kernel) hlen q
abbrev tS__ascii_buffer (W : Wd) (j : Nat) : PF := (seqW (asgS (cbW (argS (locW 0) arg0) typeW) (setW 1))
  (seqW (ifS (cmW isW (locW 1) (cW (.raw (.type "str")))) (seqW noS
  (seqW noS
  nilW)) nilW)
  (seqW (ifS (cmW isW (locW 1) (cW (.raw (.type "bytes")))) (seqW (retS (locW 0))
  nilW) nilW)
  (seqW (ifS (cmW isW (locW 1) (cW (.raw (.type "bytearray")))) (seqW (retS (cbW (argS (locW 0) arg0) bytesW))
  nilW) nilW)
  (seqW noS
  nilW)))))
theorem iS__ascii_buffer {W : Wd} (G : GW W) (A : Around) (L : Addr) (j : Nat) : Exs (fnCx W A fd__ascii_buffer L 84 ([(Str.ofString "data")] ++ [(Str.ofString "t")]) j) (bodyOf (defOf 12)) (tS__ascii_buffer W j) :=
  (exs_cons (ex_assign (ev_callT ⟨G.g_type, rfl, rfl, rfl, rfl⟩ (.cons rfl (ev_local (i := 0) rfl rfl rfl) .nil) type_ok) (asg_local (i := 1) rfl rfl))
  (exs_cons (ex_if (evT_cmp (ev_local (i := 1) rfl rfl rfl) (ev_global (.raw _) G.g_str rfl rfl rfl rfl) is_ok rfl) (exs_cons imp_false
  (exs_cons imp_false
  exs_nil)) exs_nil)
  (exs_cons (ex_if (evT_cmp (ev_local (i := 1) rfl rfl rfl) (ev_global (.raw _) G.g_bytes rfl rfl rfl rfl) is_ok rfl) (exs_cons (ex_ret (ev_local (i := 0) rfl rfl rfl))
  exs_nil) exs_nil)
  (exs_cons (ex_if (evT_cmp (ev_local (i := 1) rfl rfl rfl) (ev_global (.raw _) G.g_bytearray rfl rfl rfl rfl) is_ok rfl) (exs_cons (ex_ret (ev_callT ⟨G.g_bytes, rfl, rfl, rfl, rfl⟩ (.cons rfl (ev_local (i := 0) rfl rfl rfl) .nil) bytes_ok))
  exs_nil) exs_nil)
  (exs_cons imp_false
  exs_nil)))))
theorem cS__ascii_buffer {W : Wd} (G : GW W) {j : Nat} {xs : List V} {Q : V → St → Prop} {σ : St} (hlen : xs.length = 1) (q : tS__ascii_buffer W j (retW Q) ⟨σ, fun i => xs[i]?⟩) : CallOK W (j + 1) 84 xs [] Q σ :=
  call_intro (params := [(Str.ofString "data")]) (names := [(Str.ofString "t")]) G.f__ascii_buffer rfl (fun A L => iS__ascii_buffer G A L j) (fun vs hv => match vs, hv with | [_], _ => rfl) (by decide +kernel) (by decide +kernel) (by decide +kernel) hlen q
abbrev tS__buffer (W : Wd) (j : Nat) : PF := (seqW (asgS (cbW (argS (locW 0) arg0) typeW) (setW 1))
  (seqW (ifS (cmW isW (locW 1) (cW (.raw (.type "bytes")))) (seqW (retS (locW 0))
  nilW) nilW)
  (seqW (ifS (cmW isW (locW 1) (cW (.raw (.type "bytearray")))) (seqW (retS (cbW (argS (locW 0) arg0) bytesW))
  nilW) nilW)
  (seqW noS
  nilW))))
theorem iS__buffer {W : Wd} (G : GW W) (A : Around) (L : Addr) (j : Nat) : Exs (fnCx W A fd__buffer L 91 ([(Str.ofString "data")] ++ [(Str.ofString "t")]) j) (bodyOf (defOf 13)) (tS__buffer W j) :=
  (exs_cons (ex_assign (ev_callT ⟨G.g_type, rfl, rfl, rfl, rfl⟩ (.cons rfl (ev_local (i := 0) rfl rfl rfl) .nil) type_ok) (asg_local (i := 1) rfl rfl))
  (exs_cons (ex_if (evT_cmp (ev_local (i := 1) rfl rfl rfl) (ev_global (.raw _) G.g_bytes rfl rfl rfl rfl) is_ok rfl) (exs_cons (ex_ret (ev_local (i := 0) rfl rfl rfl))
  exs_nil) exs_nil)
  (exs_cons (ex_if (evT_cmp (ev_local (i := 1) rfl rfl rfl) (ev_global (.raw _) G.g_bytearray rfl rfl rfl rfl) is_ok rfl) (exs_cons (ex_ret (ev_callT ⟨G.g_bytes, rfl, rfl, rfl, rfl⟩ (.cons rfl (ev_local (i := 0) rfl rfl rfl) .nil) bytes_ok))
  exs_nil) exs_nil)
  (exs_cons imp_false
  exs_nil))))
theorem cS__buffer {W : Wd} (G : GW W) {j : Nat} {xs : List V} {Q : V → St → Prop} {σ : St} (hlen : xs.length = 1) (q : tS__buffer W j (retW Q) ⟨σ, fun i => xs[i]?⟩) : CallOK W (j + 1) 91 xs [] Q σ :=
  call_intro (params := [(Str.ofString "data")]) (names := [(Str.ofString "t")]) G.f__buffer rfl (fun A L => iS__buffer G A L j) (fun vs hv => match vs, hv with | [_], _ => rfl) (by decide +kernel) (by decide +kernel) (by decide +kernel) hlen q
abbrev tS__truth (W : Wd) (j : Nat) : PF := (seqW (asgS (cbW (argS (locW 0) arg0) typeW) (setW 1))
  (seqW (ifS (orB (cmW isW (locW 0) (cW .none)) (orB (cmW isW (locW 1) (cW (.raw (.type "bool")))) (orB (cmW isW (locW 1) (cW (.raw (.type "int")))) (orB (cmW isW (locW 1) (cW (.raw (.type "float")))) (orB (cmW isW (locW 1) (cW (.raw (.type "complex")))) (orB (cmW isW (locW 1) (cW (.raw (.type "str")))) (orB (cmW isW (locW 1) (cW (.raw (.type "bytes")))) (orB (cmW isW (locW 1) (cW (.raw (.type "bytearray")))) (orB (cmW isW (locW 1) (cW (.raw (.type "list")))) (orB (cmW isW (locW 1) (cW (.raw (.type "tuple")))) (orB (cmW isW (locW 1) (cW (.raw (.type "dict")))) (orB (cmW isW (locW 1) (cW (.raw (.type "set")))) (orB (cmW isW (locW 1) (cW (.raw (.type "frozenset")))) (orB (cmW isW (locW 1) (cW (.raw (.type "range")))) or0)))))))))))))) (seqW (retS (iteW (valB (locW 0)) (cW (.bool true)) (cW (.bool false))))
  nilW) nilW)
  (seqW noS
  nilW)))
theorem iS__truth {W : Wd} (G : GW W) (A : Around) (L : Addr) (j : Nat) : Exs (fnCx W A fd__truth L 98 ([(Str.ofString "x")] ++ [(Str.ofString "t")]) j) (bodyOf (defOf 14)) (tS__truth W j) :=
  (exs_cons (ex_assign (ev_callT ⟨G.g_type, rfl, rfl, rfl, rfl⟩ (.cons rfl (ev_local (i := 0) rfl rfl rfl) .nil) type_ok) (asg_local (i := 1) rfl rfl))
  (exs_cons (ex_if (evT_orN (.cons (evT_cmp (ev_local (i := 0) rfl rfl rfl) ev_none is_ok rfl) (.cons (evT_cmp (ev_local (i := 1) rfl rfl rfl) (ev_global (.raw _) G.g_bool rfl rfl rfl rfl) is_ok rfl) (.cons (evT_cmp (ev_local (i := 1) rfl rfl rfl) (ev_global (.raw _) G.g_int rfl rfl rfl rfl) is_ok rfl) (.cons (evT_cmp (ev_local (i := 1) rfl rfl rfl) (ev_global (.raw _) G.g_float rfl rfl rfl rfl) is_ok rfl) (.cons (evT_cmp (ev_local (i := 1) rfl rfl rfl) (ev_global (.raw _) G.g_complex rfl rfl rfl rfl) is_ok rfl) (.cons (evT_cmp (ev_local (i := 1) rfl rfl rfl) (ev_global (.raw _) G.g_str rfl rfl rfl rfl) is_ok rfl) (.cons (evT_cmp (ev_local (i := 1) rfl rfl rfl) (ev_global (.raw _) G.g_bytes rfl rfl rfl rfl) is_ok rfl) (.cons (evT_cmp (ev_local (i := 1) rfl rfl rfl) (ev_global (.raw _) G.g_bytearray rfl rfl rfl rfl) is_ok rfl) (.cons (evT_cmp (ev_local (i := 1) rfl rfl rfl) (ev_global (.raw _) G.g_list rfl rfl rfl rfl) is_ok rfl) (.cons (evT_cmp (ev_local (i := 1) rfl rfl rfl) (ev_global (.raw _) G.g_tuple rfl rfl rfl rfl) is_ok rfl) (.cons (evT_cmp (ev_local (i := 1) rfl rfl rfl) (ev_global (.raw _) G.g_dict rfl rfl rfl rfl) is_ok rfl) (.cons (evT_cmp (ev_local (i := 1) rfl rfl rfl) (ev_global (.raw _) G.g_set rfl rfl rfl rfl) is_ok rfl) (.cons (evT_cmp (ev_local (i := 1) rfl rfl rfl) (ev_global (.raw _) G.g_frozenset rfl rfl rfl rfl) is_ok rfl) (.cons (evT_cmp (ev_local (i := 1) rfl rfl rfl) (ev_global (.raw _) G.g_range rfl rfl rfl rfl) is_ok rfl) .nil))))))))))))))) (exs_cons (ex_ret (ev_ite (evT_val (ev_local (i := 0) rfl rfl rfl)) ev_bool ev_bool))
  exs_nil) exs_nil)
  (exs_cons imp_false
  exs_nil)))
theorem cS__truth {W : Wd} (G : GW W) {j : Nat} {xs : List V} {Q : V → St → Prop} {σ : St} (hlen : xs.length = 1) (q : tS__truth W j (retW Q) ⟨σ, fun i => xs[i]?⟩) : CallOK W (j + 1) 98 xs [] Q σ :=
  call_intro (params := [(Str.ofString "x")]) (names := [(Str.ofString "t")]) G.f__truth rfl (fun A L => iS__truth G A L j) (fun vs hv => match vs, hv with | [_], _ => rfl) (by decide +kernel) (by decide +kernel) (by decide +kernel) hlen q
abbrev tS__b64_value (W : Wd) (j : Nat) : PF := (seqW (ifS (c2W (icmpW fun i j => decide (i ≤ j)) (icmpW fun i j => decide (i ≤ j)) (cW (.int 65)) (locW 0) (cW (.int 90))) (seqW (retS (biW subW (locW 0) (cW (.int 65))))
  nilW) nilW)
  (seqW (ifS (c2W (icmpW fun i j => decide (i ≤ j)) (icmpW fun i j => decide (i ≤ j)) (cW (.int 97)) (locW 0) (cW (.int 122))) (seqW (retS (biW subW (locW 0) (cW (.int 71))))
  nilW) nilW)
  (seqW (ifS (c2W (icmpW fun i j => decide (i ≤ j)) (icmpW fun i j => decide (i ≤ j)) (cW (.int 48)) (locW 0) (cW (.int 57))) (seqW (retS (biW addW (locW 0) (cW (.int 4))))
  nilW) nilW)
  (seqW (ifS (cmW eqW (locW 0) (cW (.int 43))) (seqW (retS (cW (.int 62)))
  nilW) nilW)
  (seqW (ifS (cmW eqW (locW 0) (cW (.int 47))) (seqW (retS (cW (.int 63)))
  nilW) nilW)
  (seqW (retS (cW (.int 64)))
  nilW))))))
theorem iS__b64_value {W : Wd} (G : GW W) (A : Around) (L : Addr) (j : Nat) : Exs (fnCx W A fd__b64_value L 105 ([(Str.ofString "c")] ++ []) j) (bodyOf (defOf 16)) (tS__b64_value W j) :=
  (exs_cons (ex_if (evT_cmp2 ev_int (ev_local (i := 0) rfl rfl rfl) ev_int le_ok le_ok rfl) (exs_cons (ex_ret (ev_bin (ev_local (i := 0) rfl rfl rfl) ev_int sub_ok))
  exs_nil) exs_nil)
  (exs_cons (ex_if (evT_cmp2 ev_int (ev_local (i := 0) rfl rfl rfl) ev_int le_ok le_ok rfl) (exs_cons (ex_ret (ev_bin (ev_local (i := 0) rfl rfl rfl) ev_int sub_ok))
  exs_nil) exs_nil)
  (exs_cons (ex_if (evT_cmp2 ev_int (ev_local (i := 0) rfl rfl rfl) ev_int le_ok le_ok rfl) (exs_cons (ex_ret (ev_bin (ev_local (i := 0) rfl rfl rfl) ev_int add_ok))
  exs_nil) exs_nil)
  (exs_cons (ex_if (evT_cmp (ev_local (i := 0) rfl rfl rfl) ev_int eq_ok rfl) (exs_cons (ex_ret ev_int)
  exs_nil) exs_nil)
  (exs_cons (ex_if (evT_cmp (ev_local (i := 0) rfl rfl rfl) ev_int eq_ok rfl) (exs_cons (ex_ret ev_int)
  exs_nil) exs_nil)
  (exs_cons (ex_ret ev_int)
  exs_nil))))))
theorem cS__b64_value {W : Wd} (G : GW W) {j : Nat} {xs : List V} {Q : V → St → Prop} {σ : St} (hlen : xs.length = 1) (q : tS__b64_value W j (retW Q) ⟨σ, fun i => xs[i]?⟩) : CallOK W (j + 1) 105 xs [] Q σ :=
  call_intro (params := [(Str.ofString "c")]) (names := []) G.f__b64_value rfl (fun A L => iS__b64_value G A L j) (fun vs hv => match vs, hv with | [_], _ => rfl) (by decide +kernel) (by decide +kernel) (by decide +kernel) hlen q
abbrev tS_a2b_base64 (W : Wd) (j : Nat) : PF := (seqW (asgS (cbW (argS (locW 0) arg0) (callW W j 84)) (setW 2))
  (seqW (asgS (cbW (argS (locW 1) arg0) (callW W j 98)) (setW 1))
  (seqW (asgS (lsW arg0) (setW 3))
  (seqW (asgS (cW (.int 0)) (setW 4))
  (seqW (asgS (cW (.int 0)) (setW 5))
  (seqW (asgS (cW (.int 0)) (setW 6))
  (seqW (asgS (cW (.int 0)) (setW 7))
  (seqW (forW (locW 2) (setW 8) (seqW (ifS (cmW eqW (locW 8) (cW (.int 61))) (seqW (asgS (biW addW (locW 6) (cW (.int 1))) (setW 6))
  (seqW (ifS (andB (cmW (icmpW fun i j => decide (j ≤ i)) (locW 4) (cW (.int 2))) (cmW (icmpW fun i j => decide (i ≤ j)) (biW addW (locW 4) (locW 6)) (cW (.int 4)))) (seqW (asgS (biW addW (locW 7) (cW (.int 1))) (setW 7))
  (seqW contW
  nilW)) nilW)
  (seqW (ifS (notB (valB (locW 1))) (seqW (asgS (biW addW (locW 7) (cW (.int 1))) (setW 7))
  (seqW contW
  nilW)) nilW)
  (seqW (ifS (cmW eqW (locW 4) (cW (.int 1))) (seqW brkW
  nilW) nilW)
  (seqW (ifS (andB (cmW eqW (locW 4) (cW (.int 0))) (cmW eqW (locW 7) (cW (.int 0)))) (seqW noS
  nilW) nilW)
  (seqW noS
  nilW)))))) nilW)
  (seqW (asgS (cbW (argS (locW 8) arg0) (callW W j 105)) (setW 8))
  (seqW (ifS (cmW (icmpW fun i j => decide (j ≤ i)) (locW 8) (cW (.int 64))) (seqW (ifS (valB (locW 1)) (seqW noS
  nilW) nilW)
  (seqW (asgS (biW addW (locW 7) (cW (.int 1))) (setW 7))
  (seqW contW
  nilW))) nilW)
  (seqW (ifS (andB (valB (locW 6)) (valB (locW 1))) (seqW (ifS (cmW eqW (biW addW (locW 4) (locW 6)) (cW (.int 4))) (seqW noS
  nilW) nilW)
  (seqW noS
  nilW)) nilW)
  (seqW (asgS (cW (.int 0)) (setW 6))
  (seqW (ifS (cmW eqW (locW 4) (cW (.int 0))) (seqW (asgS (cW (.int 1)) (setW 4))
  (seqW (asgS (locW 8) (setW 5))
  nilW)) (seqW (ifS (cmW eqW (locW 4) (cW (.int 1))) (seqW (asgS (cW (.int 2)) (setW 4))
  (seqW (exprW (mtW (locW 3) (argS (biW orW (biW lshW (locW 5) (cW (.int 2))) (biW rshW (locW 8) (cW (.int 4)))) arg0) appendW))
  (seqW (asgS (biW andW (locW 8) (cW (.int 15))) (setW 5))
  nilW))) (seqW (ifS (cmW eqW (locW 4) (cW (.int 2))) (seqW (asgS (cW (.int 3)) (setW 4))
  (seqW (exprW (mtW (locW 3) (argS (biW orW (biW lshW (locW 5) (cW (.int 4))) (biW rshW (locW 8) (cW (.int 2)))) arg0) appendW))
  (seqW (asgS (biW andW (locW 8) (cW (.int 3))) (setW 5))
  nilW))) (seqW (asgS (cW (.int 0)) (setW 4))
  (seqW (exprW (mtW (locW 3) (argS (biW orW (biW lshW (locW 5) (cW (.int 6))) (locW 8)) arg0) appendW))
  (seqW (asgS (cW (.int 0)) (setW 5))
  nilW))))
  nilW))
  nilW))
  (seqW (asgS (biW addW (locW 7) (cW (.int 1))) (setW 7))
  nilW))))))))
  (seqW (ifS (cmW eqW (locW 4) (cW (.int 1))) (seqW noS
  nilW) nilW)
  (seqW (ifS (andB (cmW neW (locW 4) (cW (.int 0))) (cmW ltW (biW addW (locW 4) (locW 6)) (cW (.int 4)))) (seqW noS
  nilW) nilW)
  (seqW (retS (cbW (argS (locW 3) arg0) bytesW))
  nilW)))))))))))
theorem iS_a2b_base64 {W : Wd} (G : GW W) (A : Around) (L : Addr) (j : Nat) : Exs (fnCx W A fd_a2b_base64 L 113 ([(Str.ofString "data"), (Str.ofString "strict_mode")] ++ [(Str.ofString "ascii_data"), (Str.ofString "out"), (Str.ofString "quad_pos"), (Str.ofString "leftchar"), (Str.ofString "pads"), (Str.ofString "i"), (Str.ofString "this_ch")]) j) (bodyOf (defOf 17)) (tS_a2b_base64 W j) :=
  (exs_cons (ex_assign (ev_callF ⟨G.g__ascii_buffer, rfl, rfl, rfl, rfl⟩ G.f__ascii_buffer (.cons rfl (ev_local (i := 0) rfl rfl rfl) .nil) rfl rfl) (asg_local (i := 2) rfl rfl))
  (exs_cons (ex_assign (ev_callF ⟨G.g__truth, rfl, rfl, rfl, rfl⟩ G.f__truth (.cons rfl (ev_local (i := 1) rfl rfl rfl) .nil) rfl rfl) (asg_local (i := 1) rfl rfl))
  (exs_cons (ex_assign (ev_list .nil) (asg_local (i := 3) rfl rfl))
  (exs_cons (ex_assign ev_int (asg_local (i := 4) rfl rfl))
  (exs_cons (ex_assign ev_int (asg_local (i := 5) rfl rfl))
  (exs_cons (ex_assign ev_int (asg_local (i := 6) rfl rfl))
  (exs_cons (ex_assign ev_int (asg_local (i := 7) rfl rfl))
  (exs_cons (ex_for (ev_local (i := 2) rfl rfl rfl) (asg_local (i := 8) rfl rfl) (exs_cons (ex_if (evT_cmp (ev_local (i := 8) rfl rfl rfl) ev_int eq_ok rfl) (exs_cons (ex_assign (ev_bin (ev_local (i := 6) rfl rfl rfl) ev_int add_ok) (asg_local (i := 6) rfl rfl))
  (exs_cons (ex_if (evT_and (evT_cmp (ev_local (i := 4) rfl rfl rfl) ev_int ge_ok rfl) (evT_cmp (ev_bin (ev_local (i := 4) rfl rfl rfl) (ev_local (i := 6) rfl rfl rfl) add_ok) ev_int le_ok rfl)) (exs_cons (ex_assign (ev_bin (ev_local (i := 7) rfl rfl rfl) ev_int add_ok) (asg_local (i := 7) rfl rfl))
  (exs_cons ex_continue
  exs_nil)) exs_nil)
  (exs_cons (ex_if (evT_not (evT_val (ev_local (i := 1) rfl rfl rfl))) (exs_cons (ex_assign (ev_bin (ev_local (i := 7) rfl rfl rfl) ev_int add_ok) (asg_local (i := 7) rfl rfl))
  (exs_cons ex_continue
  exs_nil)) exs_nil)
  (exs_cons (ex_if (evT_cmp (ev_local (i := 4) rfl rfl rfl) ev_int eq_ok rfl) (exs_cons ex_break
  exs_nil) exs_nil)
  (exs_cons (ex_if (evT_and (evT_cmp (ev_local (i := 4) rfl rfl rfl) ev_int eq_ok rfl) (evT_cmp (ev_local (i := 7) rfl rfl rfl) ev_int eq_ok rfl)) (exs_cons imp_false
  exs_nil) exs_nil)
  (exs_cons imp_false
  exs_nil)))))) exs_nil)
  (exs_cons (ex_assign (ev_callF ⟨G.g__b64_value, rfl, rfl, rfl, rfl⟩ G.f__b64_value (.cons rfl (ev_local (i := 8) rfl rfl rfl) .nil) rfl rfl) (asg_local (i := 8) rfl rfl))
  (exs_cons (ex_if (evT_cmp (ev_local (i := 8) rfl rfl rfl) ev_int ge_ok rfl) (exs_cons (ex_if (evT_val (ev_local (i := 1) rfl rfl rfl)) (exs_cons imp_false
  exs_nil) exs_nil)
  (exs_cons (ex_assign (ev_bin (ev_local (i := 7) rfl rfl rfl) ev_int add_ok) (asg_local (i := 7) rfl rfl))
  (exs_cons ex_continue
  exs_nil))) exs_nil)
  (exs_cons (ex_if (evT_and (evT_val (ev_local (i := 6) rfl rfl rfl)) (evT_val (ev_local (i := 1) rfl rfl rfl))) (exs_cons (ex_if (evT_cmp (ev_bin (ev_local (i := 4) rfl rfl rfl) (ev_local (i := 6) rfl rfl rfl) add_ok) ev_int eq_ok rfl) (exs_cons imp_false
  exs_nil) exs_nil)
  (exs_cons imp_false
  exs_nil)) exs_nil)
  (exs_cons (ex_assign ev_int (asg_local (i := 6) rfl rfl))
  (exs_cons (ex_if (evT_cmp (ev_local (i := 4) rfl rfl rfl) ev_int eq_ok rfl) (exs_cons (ex_assign ev_int (asg_local (i := 4) rfl rfl))
  (exs_cons (ex_assign (ev_local (i := 8) rfl rfl rfl) (asg_local (i := 5) rfl rfl))
  exs_nil)) (exs_cons (ex_if (evT_cmp (ev_local (i := 4) rfl rfl rfl) ev_int eq_ok rfl) (exs_cons (ex_assign ev_int (asg_local (i := 4) rfl rfl))
  (exs_cons (ex_expr (ev_meth PySem.F.slot_list_append (by rfl) (ev_local (i := 3) rfl rfl rfl) (.cons rfl (ev_bin (ev_bin (ev_local (i := 5) rfl rfl rfl) ev_int lsh_ok) (ev_bin (ev_local (i := 8) rfl rfl rfl) ev_int rsh_ok) or_ok) .nil) append_ok))
  (exs_cons (ex_assign (ev_bin (ev_local (i := 8) rfl rfl rfl) ev_int and_ok) (asg_local (i := 5) rfl rfl))
  exs_nil))) (exs_cons (ex_if (evT_cmp (ev_local (i := 4) rfl rfl rfl) ev_int eq_ok rfl) (exs_cons (ex_assign ev_int (asg_local (i := 4) rfl rfl))
  (exs_cons (ex_expr (ev_meth PySem.F.slot_list_append (by rfl) (ev_local (i := 3) rfl rfl rfl) (.cons rfl (ev_bin (ev_bin (ev_local (i := 5) rfl rfl rfl) ev_int lsh_ok) (ev_bin (ev_local (i := 8) rfl rfl rfl) ev_int rsh_ok) or_ok) .nil) append_ok))
  (exs_cons (ex_assign (ev_bin (ev_local (i := 8) rfl rfl rfl) ev_int and_ok) (asg_local (i := 5) rfl rfl))
  exs_nil))) (exs_cons (ex_assign ev_int (asg_local (i := 4) rfl rfl))
  (exs_cons (ex_expr (ev_meth PySem.F.slot_list_append (by rfl) (ev_local (i := 3) rfl rfl rfl) (.cons rfl (ev_bin (ev_bin (ev_local (i := 5) rfl rfl rfl) ev_int lsh_ok) (ev_local (i := 8) rfl rfl rfl) or_ok) .nil) append_ok))
  (exs_cons (ex_assign ev_int (asg_local (i := 5) rfl rfl))
  exs_nil))))
  exs_nil))
  exs_nil))
  (exs_cons (ex_assign (ev_bin (ev_local (i := 7) rfl rfl rfl) ev_int add_ok) (asg_local (i := 7) rfl rfl))
  exs_nil))))))))
  (exs_cons (ex_if (evT_cmp (ev_local (i := 4) rfl rfl rfl) ev_int eq_ok rfl) (exs_cons imp_false
  exs_nil) exs_nil)
  (exs_cons (ex_if (evT_and (evT_cmp (ev_local (i := 4) rfl rfl rfl) ev_int ne_ok rfl) (evT_cmp (ev_bin (ev_local (i := 4) rfl rfl rfl) (ev_local (i := 6) rfl rfl rfl) add_ok) ev_int lt_ok rfl)) (exs_cons imp_false
  exs_nil) exs_nil)
  (exs_cons (ex_ret (ev_callT ⟨G.g_bytes, rfl, rfl, rfl, rfl⟩ (.cons rfl (ev_local (i := 3) rfl rfl rfl) .nil) bytes_ok))
  exs_nil)))))))))))
abbrev tS_b2a_base64 (W : Wd) (j : Nat) : PF := (seqW (asgS (cbW (argS (locW 0) arg0) (callW W j 91)) (setW 2))
  (seqW (asgS (cbW (argS (locW 1) arg0) (callW W j 98)) (setW 1))
  (seqW (asgS (lsW arg0) (setW 3))
  (seqW (asgS (cW (.int 0)) (setW 4))
  (seqW (asgS (cW (.int 0)) (setW 5))
  (seqW (forW (locW 2) (setW 6) (seqW (asgS (biW andW (biW orW (biW lshW (locW 5) (cW (.int 8))) (locW 6)) (cW (.int 65535))) (setW 5))
  (seqW (asgS (biW addW (locW 4) (cW (.int 8))) (setW 4))
  (seqW (whileW (cmW (icmpW fun i j => decide (j ≤ i)) (locW 4) (cW (.int 6))) (seqW (exprW (mtW (locW 3) (argS (itW (cW (.bytes b64L)) (biW andW (biW rshW (locW 5) (biW subW (locW 4) (cW (.int 6)))) (cW (.int 63)))) arg0) appendW))
  (seqW (asgS (biW subW (locW 4) (cW (.int 6))) (setW 4))
  nilW)))
  nilW))))
  (seqW (ifS (cmW eqW (locW 4) (cW (.int 2))) (seqW (exprW (mtW (locW 3) (argS (itW (cW (.bytes b64L)) (biW lshW (biW andW (locW 5) (cW (.int 3))) (cW (.int 4)))) arg0) appendW))
  (seqW (exprW (mtW (locW 3) (argS (cW (.int 61)) arg0) appendW))
  (seqW (exprW (mtW (locW 3) (argS (cW (.int 61)) arg0) appendW))
  nilW))) (seqW (ifS (cmW eqW (locW 4) (cW (.int 4))) (seqW (exprW (mtW (locW 3) (argS (itW (cW (.bytes b64L)) (biW lshW (biW andW (locW 5) (cW (.int 15))) (cW (.int 2)))) arg0) appendW))
  (seqW (exprW (mtW (locW 3) (argS (cW (.int 61)) arg0) appendW))
  nilW)) nilW)
  nilW))
  (seqW (ifS (valB (locW 1)) (seqW (exprW (mtW (locW 3) (argS (cW (.int 10)) arg0) appendW))
  nilW) nilW)
  (seqW (retS (cbW (argS (locW 3) arg0) bytesW))
  nilW)))))))))
theorem iS_b2a_base64 {W : Wd} (G : GW W) (A : Around) (L : Addr) (j : Nat) : Exs (fnCx W A fd_b2a_base64 L 121 ([(Str.ofString "data"), (Str.ofString "newline")] ++ [(Str.ofString "bin_data"), (Str.ofString "out"), (Str.ofString "leftbits"), (Str.ofString "leftchar"), (Str.ofString "b")]) j) (bodyOf (defOf 18)) (tS_b2a_base64 W j) :=
  (exs_cons (ex_assign (ev_callF ⟨G.g__buffer, rfl, rfl, rfl, rfl⟩ G.f__buffer (.cons rfl (ev_local (i := 0) rfl rfl rfl) .nil) rfl rfl) (asg_local (i := 2) rfl rfl))
  (exs_cons (ex_assign (ev_callF ⟨G.g__truth, rfl, rfl, rfl, rfl⟩ G.f__truth (.cons rfl (ev_local (i := 1) rfl rfl rfl) .nil) rfl rfl) (asg_local (i := 1) rfl rfl))
  (exs_cons (ex_assign (ev_list .nil) (asg_local (i := 3) rfl rfl))
  (exs_cons (ex_assign ev_int (asg_local (i := 4) rfl rfl))
  (exs_cons (ex_assign ev_int (asg_local (i := 5) rfl rfl))
  (exs_cons (ex_for (ev_local (i := 2) rfl rfl rfl) (asg_local (i := 6) rfl rfl) (exs_cons (ex_assign (ev_bin (ev_bin (ev_bin (ev_local (i := 5) rfl rfl rfl) ev_int lsh_ok) (ev_local (i := 6) rfl rfl rfl) or_ok) ev_int and_ok) (asg_local (i := 5) rfl rfl))
  (exs_cons (ex_assign (ev_bin (ev_local (i := 4) rfl rfl rfl) ev_int add_ok) (asg_local (i := 4) rfl rfl))
  (exs_cons (ex_while (evT_cmp (ev_local (i := 4) rfl rfl rfl) ev_int ge_ok rfl) (exs_cons (ex_expr (ev_meth PySem.F.slot_list_append (by rfl) (ev_local (i := 3) rfl rfl rfl) (.cons rfl (ev_item (ev_global b64R G.g__B64 rfl rfl rfl rfl) (ev_bin (ev_bin (ev_local (i := 5) rfl rfl rfl) (ev_bin (ev_local (i := 4) rfl rfl rfl) ev_int sub_ok) rsh_ok) ev_int and_ok)) .nil) append_ok))
  (exs_cons (ex_assign (ev_bin (ev_local (i := 4) rfl rfl rfl) ev_int sub_ok) (asg_local (i := 4) rfl rfl))
  exs_nil)))
  exs_nil))))
  (exs_cons (ex_if (evT_cmp (ev_local (i := 4) rfl rfl rfl) ev_int eq_ok rfl) (exs_cons (ex_expr (ev_meth PySem.F.slot_list_append (by rfl) (ev_local (i := 3) rfl rfl rfl) (.cons rfl (ev_item (ev_global b64R G.g__B64 rfl rfl rfl rfl) (ev_bin (ev_bin (ev_local (i := 5) rfl rfl rfl) ev_int and_ok) ev_int lsh_ok)) .nil) append_ok))
  (exs_cons (ex_expr (ev_meth PySem.F.slot_list_append (by rfl) (ev_local (i := 3) rfl rfl rfl) (.cons rfl ev_int .nil) append_ok))
  (exs_cons (ex_expr (ev_meth PySem.F.slot_list_append (by rfl) (ev_local (i := 3) rfl rfl rfl) (.cons rfl ev_int .nil) append_ok))
  exs_nil))) (exs_cons (ex_if (evT_cmp (ev_local (i := 4) rfl rfl rfl) ev_int eq_ok rfl) (exs_cons (ex_expr (ev_meth PySem.F.slot_list_append (by rfl) (ev_local (i := 3) rfl rfl rfl) (.cons rfl (ev_item (ev_global b64R G.g__B64 rfl rfl rfl rfl) (ev_bin (ev_bin (ev_local (i := 5) rfl rfl rfl) ev_int and_ok) ev_int lsh_ok)) .nil) append_ok))
  (exs_cons (ex_expr (ev_meth PySem.F.slot_list_append (by rfl) (ev_local (i := 3) rfl rfl rfl) (.cons rfl ev_int .nil) append_ok))
  exs_nil)) exs_nil)
  exs_nil))
  (exs_cons (ex_if (evT_val (ev_local (i := 1) rfl rfl rfl)) (exs_cons (ex_expr (ev_meth PySem.F.slot_list_append (by rfl) (ev_local (i := 3) rfl rfl rfl) (.cons rfl ev_int .nil) append_ok))
  exs_nil) exs_nil)
  (exs_cons (ex_ret (ev_callT ⟨G.g_bytes, rfl, rfl, rfl, rfl⟩ (.cons rfl (ev_local (i := 3) rfl rfl rfl) .nil) bytes_ok))
  exs_nil)))))))))
abbrev tS_b64encode (W : Wd) (j : Nat) : PF := (seqW (asgS (ckW W j 121 [(Str.ofString "newline")] (argS (locW 0) arg0) (argS (cW (.bool false)) arg0)) (setW 2))
  (seqW (ifS (cmW isNotW (locW 1) (cW .none)) (seqW noS
  (seqW noS
  nilW)) nilW)
  (seqW (retS (locW 2))
  nilW)))
theorem iS_b64encode {W : Wd} (G : GW W) (A : Around) (L : Addr) (j : Nat) : Exs (fnCx W A fd_b64encode L 129 ([(Str.ofString "s"), (Str.ofString "altchars")] ++ [(Str.ofString "encoded")]) j) (bodyOf (defOf 20)) (tS_b64encode W j) :=
  (exs_cons (ex_assign (ev_callK ⟨G.g_b2a_base64, rfl, rfl, rfl, rfl⟩ G.f_b2a_base64 (.cons rfl (ev_local (i := 0) rfl rfl rfl) .nil) (.cons ev_bool .nil) rfl rfl) (asg_local (i := 2) rfl rfl))
  (exs_cons (ex_if (evT_cmp (ev_local (i := 1) rfl rfl rfl) ev_none isNot_ok rfl) (exs_cons imp_false
  (exs_cons imp_false
  exs_nil)) exs_nil)
  (exs_cons (ex_ret (ev_local (i := 2) rfl rfl rfl))
  exs_nil)))
abbrev tS_b64decode (W : Wd) (j : Nat) : PF := (seqW (asgS (cbW (argS (locW 0) arg0) (callW W j 64)) (setW 0))
  (seqW (ifS (cmW isNotW (locW 1) (cW .none)) (seqW (asgS (cbW (argS (locW 1) arg0) (callW W j 64)) (setW 1))
  (seqW noS
  (seqW noS
  nilW))) nilW)
  (seqW (retS (ckW W j 113 [(Str.ofString "strict_mode")] (argS (locW 0) arg0) (argS (locW 2) arg0)))
  nilW)))
theorem iS_b64decode {W : Wd} (G : GW W) (A : Around) (L : Addr) (j : Nat) : Exs (fnCx W A fd_b64decode L 137 ([(Str.ofString "s"), (Str.ofString "altchars"), (Str.ofString "validate")] ++ []) j) (bodyOf (defOf 21)) (tS_b64decode W j) :=
  (exs_cons (ex_assign (ev_callF ⟨G.g__bytes_from_decode_data, rfl, rfl, rfl, rfl⟩ G.f__bytes_from_decode_data (.cons rfl (ev_local (i := 0) rfl rfl rfl) .nil) rfl rfl) (asg_local (i := 0) rfl rfl))
  (exs_cons (ex_if (evT_cmp (ev_local (i := 1) rfl rfl rfl) ev_none isNot_ok rfl) (exs_cons (ex_assign (ev_callF ⟨G.g__bytes_from_decode_data, rfl, rfl, rfl, rfl⟩ G.f__bytes_from_decode_data (.cons rfl (ev_local (i := 1) rfl rfl rfl) .nil) rfl rfl) (asg_local (i := 1) rfl rfl))
  (exs_cons imp_false
  (exs_cons imp_false
  exs_nil))) exs_nil)
  (exs_cons (ex_ret (ev_callK ⟨G.g_a2b_base64, rfl, rfl, rfl, rfl⟩ G.f_a2b_base64 (.cons rfl (ev_local (i := 0) rfl rfl rfl) .nil) (.cons (ev_local (i := 2) rfl rfl rfl) .nil) rfl rfl))
  exs_nil)))
abbrev tS__parse_varint (W : Wd) (j : Nat) : PF := (seqW (asgS (cbW (argS (locW 0) arg0) nextW) (setW 1))
  (seqW (asgS (biW andW (locW 1) (cW (.int 63))) (setW 2))
  (seqW (whileW (valB (biW andW (locW 1) (cW (.int 64)))) (seqW (augS 2 (cW (.int 6)) lshW)
  (seqW (asgS (cbW (argS (locW 0) arg0) nextW) (setW 1))
  (seqW (augS 2 (biW andW (locW 1) (cW (.int 63))) orW)
  nilW))))
  (seqW (retS (locW 2))
  nilW))))
theorem iS__parse_varint {W : Wd} (G : GW W) (A : Around) (L : Addr) (j : Nat) : Exs (fnCx W A fd__parse_varint L 144 ([(Str.ofString "iterator")] ++ [(Str.ofString "b"), (Str.ofString "val")]) j) (bodyOf (defOf 23)) (tS__parse_varint W j) :=
  (exs_cons (ex_assign (ev_callB ⟨G.g_next, rfl, rfl, rfl, rfl⟩ (.cons rfl (ev_local (i := 0) rfl rfl rfl) .nil) next_ok) (asg_local (i := 1) rfl rfl))
  (exs_cons (ex_assign (ev_bin (ev_local (i := 1) rfl rfl rfl) ev_int and_ok) (asg_local (i := 2) rfl rfl))
  (exs_cons (ex_while (evT_val (ev_bin (ev_local (i := 1) rfl rfl rfl) ev_int and_ok)) (exs_cons (ex_aug (i := 2) rfl rfl ev_int ilsh_ok)
  (exs_cons (ex_assign (ev_callB ⟨G.g_next, rfl, rfl, rfl, rfl⟩ (.cons rfl (ev_local (i := 0) rfl rfl rfl) .nil) next_ok) (asg_local (i := 1) rfl rfl))
  (exs_cons (ex_aug (i := 2) rfl rfl (ev_bin (ev_local (i := 1) rfl rfl rfl) ev_int and_ok) ior_ok)
  exs_nil))))
  (exs_cons (ex_ret (ev_local (i := 2) rfl rfl rfl))
  exs_nil))))
theorem cS__parse_varint {W : Wd} (G : GW W) {j : Nat} {xs : List V} {Q : V → St → Prop} {σ : St} (hlen : xs.length = 1) (q : tS__parse_varint W j (retW Q) ⟨σ, fun i => xs[i]?⟩) : CallOK W (j + 1) 144 xs [] Q σ :=
  call_intro (params := [(Str.ofString "iterator")]) (names := [(Str.ofString "b"), (Str.ofString "val")]) G.f__parse_varint rfl (fun A L => iS__parse_varint G A L j) (fun vs hv => match vs, hv with | [_], _ => rfl) (by decide +kernel) (by decide +kernel) (by decide +kernel) hlen q
abbrev tS__law_octets (W : Wd) (j : Nat) : PF := (seqW (asgS (lsW (argS (biW modW (locW 0) (cW (.int 64))) arg0)) (setW 1))
  (seqW (whileW (cmW (icmpW fun i j => decide (j < i)) (locW 0) (cW (.int 63))) (seqW (asgS (biW fdivW (locW 0) (cW (.int 64))) (setW 0))
  (seqW (exprW (mtW (locW 1) (argS (cW (.int 0)) (argS (biW addW (biW modW (locW 0) (cW (.int 64))) (cW (.int 64))) arg0)) insertW))
  nilW)))
  (seqW (retS (locW 1))
  nilW)))
theorem iS__law_octets {W : Wd} (G : GW W) (A : Around) (L : Addr) (j : Nat) : Exs (fnCx W A fd__law_octets L 151 ([(Str.ofString "number")] ++ [(Str.ofString "octets")]) j) (bodyOf (defOf 25)) (tS__law_octets W j) :=
  (exs_cons (ex_assign (ev_list (.cons rfl (ev_bin (ev_local (i := 0) rfl rfl rfl) ev_int mod_ok) .nil)) (asg_local (i := 1) rfl rfl))
  (exs_cons (ex_while (evT_cmp (ev_local (i := 0) rfl rfl rfl) ev_int gt_ok rfl) (exs_cons (ex_assign (ev_bin (ev_local (i := 0) rfl rfl rfl) ev_int fdiv_ok) (asg_local (i := 0) rfl rfl))
  (exs_cons (ex_expr (ev_meth PySem.F.slot_list_insert (by rfl) (ev_local (i := 1) rfl rfl rfl) (.cons rfl ev_int (.cons rfl (ev_bin (ev_bin (ev_local (i := 0) rfl rfl rfl) ev_int mod_ok) ev_int add_ok) .nil)) insert_ok))
  exs_nil)))
  (exs_cons (ex_ret (ev_local (i := 1) rfl rfl rfl))
  exs_nil)))
theorem cS__law_octets {W : Wd} (G : GW W) {j : Nat} {xs : List V} {Q : V → St → Prop} {σ : St} (hlen : xs.length = 1) (q : tS__law_octets W j (retW Q) ⟨σ, fun i => xs[i]?⟩) : CallOK W (j + 1) 151 xs [] Q σ :=
  call_intro (params := [(Str.ofString "number")]) (names := [(Str.ofString "octets")]) G.f__law_octets rfl (fun A L => iS__law_octets G A L j) (fun vs hv => match vs, hv with | [_], _ => rfl) (by decide +kernel) (by decide +kernel) (by decide +kernel) hlen q
abbrev tS__law_places (W : Wd) (j : Nat) : PF := (seqW (retS (fzW (compW 1 (cbW (argS (cW (.int 6)) arg0) rangeW) (setW 1) (cmW eqW (biW modW (biW fdivW (locW 0) (biW powW (cW (.int 2)) (locW 1))) (cW (.int 2))) (cW (.int 1))) (locW 1))))
  nilW)
theorem iS__law_places {W : Wd} (G : GW W) (A : Around) (L : Addr) (j : Nat) : Exs (fnCxC W A fd__law_places L 156 [(Str.ofString "mask", true)] j) (bodyOf (defOf 26)) (tS__law_places W j) :=
  (exs_cons (ex_ret (ev_freeze (ev_comp [(Str.ofString "j")] rfl (by decide +kernel) rfl (by decide +kernel) (fun _ => rfl) (by decide +kernel) (by decide +kernel) 1 rfl (ev_callT ⟨G.g_range, rfl, rfl, rfl, rfl⟩ (.cons rfl ev_int .nil) range_ok) (fun _ => (asg_local (i := 1) rfl rfl)) (fun _ => (tst_one (evT_cmp (ev_bin (ev_bin (ev_cell (i := 0) rfl rfl rfl rfl) (ev_bin ev_int (ev_local (i := 1) rfl rfl rfl) pow_ok) fdiv_ok) ev_int mod_ok) ev_int eq_ok rfl))) (fun _ => (ev_local (i := 1) rfl rfl rfl)))))
  exs_nil)
theorem cS__law_places {W : Wd} (G : GW W) {j : Nat} {xs : List V} {Q : V → St → Prop} {σ : St} (hlen : xs.length = 1) (q : tS__law_places W j (retW Q) ⟨σ, fun i => xs[i]?⟩) : CallOK W (j + 1) 156 xs [] Q σ :=
  call_introC (params := [(Str.ofString "mask")]) (names := [(Str.ofString "mask", true)]) G.f__law_places rfl (fun A L => iS__law_places G A L j) (fun vs hv => match vs, hv with | [_], _ => rfl) rfl rfl (by decide +kernel) (by intro L p hp; simp only [List.mem_cons, List.not_mem_nil, or_false] at hp; rcases hp with rfl <;> intro h <;> first | rfl | cases h) (by decide +kernel) hlen q
abbrev tS__law_sum (W : Wd) (j : Nat) : PF := (seqW (asgS (cW (.int 0)) (setW 2))
  (seqW (forW (locW 1) (setW 3) (seqW (asgS (biW xorW (locW 2) (itW (locW 0) (locW 3))) (setW 2))
  nilW))
  (seqW (retS (locW 2))
  nilW)))
theorem iS__law_sum {W : Wd} (G : GW W) (A : Around) (L : Addr) (j : Nat) : Exs (fnCx W A fd__law_sum L 163 ([(Str.ofString "hidden"), (Str.ofString "places")] ++ [(Str.ofString "value"), (Str.ofString "j")]) j) (bodyOf (defOf 27)) (tS__law_sum W j) :=
  (exs_cons (ex_assign ev_int (asg_local (i := 2) rfl rfl))
  (exs_cons (ex_for (ev_local (i := 1) rfl rfl rfl) (asg_local (i := 3) rfl rfl) (exs_cons (ex_assign (ev_bin (ev_local (i := 2) rfl rfl rfl) (ev_item (ev_local (i := 0) rfl rfl rfl) (ev_local (i := 3) rfl rfl rfl)) xor_ok) (asg_local (i := 2) rfl rfl))
  exs_nil))
  (exs_cons (ex_ret (ev_local (i := 2) rfl rfl rfl))
  exs_nil)))
theorem cS__law_sum {W : Wd} (G : GW W) {j : Nat} {xs : List V} {Q : V → St → Prop} {σ : St} (hlen : xs.length = 2) (q : tS__law_sum W j (retW Q) ⟨σ, fun i => xs[i]?⟩) : CallOK W (j + 1) 163 xs [] Q σ :=
  call_intro (params := [(Str.ofString "hidden"), (Str.ofString "places")]) (names := [(Str.ofString "value"), (Str.ofString "j")]) G.f__law_sum rfl (fun A L => iS__law_sum G A L j) (fun vs hv => match vs, hv with | [_, _], _ => rfl) (by decide +kernel) (by decide +kernel) (by decide +kernel) hlen q
abbrev tS__law_card (W : Wd) (j : Nat) : PF := (seqW (asgS (lsW (argS (biW fdivW (locW 2) (cW (.int 65536))) (argS (biW modW (biW fdivW (locW 2) (cW (.int 256))) (cW (.int 256))) (argS (biW modW (locW 2) (cW (.int 256))) arg0)))) (setW 3))
  (seqW (retS (cbW (argS (cbW (argS (biW addW (cbW (argS (biW addW (biW mulW (cW (.int 64)) (locW 0)) (locW 1)) arg0) (callW W j 151)) (locW 3)) arg0) bytesW) arg0) (callW W j 129)))
  nilW))
theorem iS__law_card {W : Wd} (G : GW W) (A : Around) (L : Addr) (j : Nat) : Exs (fnCx W A fd__law_card L 170 ([(Str.ofString "place"), (Str.ofString "mask"), (Str.ofString "value")] ++ [(Str.ofString "octets")]) j) (bodyOf (defOf 28)) (tS__law_card W j) :=
  (exs_cons (ex_assign (ev_list (.cons rfl (ev_bin (ev_local (i := 2) rfl rfl rfl) ev_int fdiv_ok) (.cons rfl (ev_bin (ev_bin (ev_local (i := 2) rfl rfl rfl) ev_int fdiv_ok) ev_int mod_ok) (.cons rfl (ev_bin (ev_local (i := 2) rfl rfl rfl) ev_int mod_ok) .nil)))) (asg_local (i := 3) rfl rfl))
  (exs_cons (ex_ret (ev_callF ⟨G.g_b64encode, rfl, rfl, rfl, rfl⟩ G.f_b64encode (.cons rfl (ev_callT ⟨G.g_bytes, rfl, rfl, rfl, rfl⟩ (.cons rfl (ev_bin (ev_callF ⟨G.g__law_octets, rfl, rfl, rfl, rfl⟩ G.f__law_octets (.cons rfl (ev_bin (ev_bin ev_int (ev_local (i := 0) rfl rfl rfl) mul_ok) (ev_local (i := 1) rfl rfl rfl) add_ok) .nil) rfl rfl) (ev_local (i := 3) rfl rfl rfl) add_ok) .nil) bytes_ok) .nil) rfl rfl))
  exs_nil))
theorem cS__law_card {W : Wd} (G : GW W) {j : Nat} {xs : List V} {Q : V → St → Prop} {σ : St} (hlen : xs.length = 3) (q : tS__law_card W j (retW Q) ⟨σ, fun i => xs[i]?⟩) : CallOK W (j + 1) 170 xs [] Q σ :=
  call_intro (params := [(Str.ofString "place"), (Str.ofString "mask"), (Str.ofString "value")]) (names := [(Str.ofString "octets")]) G.f__law_card rfl (fun A L => iS__law_card G A L j) (fun vs hv => match vs, hv with | [_, _, _], _ => rfl) (by decide +kernel) (by decide +kernel) (by decide +kernel) hlen q
abbrev tS__law_read (W : Wd) (j : Nat) : PF := (seqW (asgS (cbW (argS (cbW (argS (locW 0) arg0) (callW W j 137)) arg0) iterW) (setW 1))
  (seqW (asgS (cbW (argS (locW 1) arg0) (callW W j 144)) (setW 2))
  (seqW (asgS (cW (.int 0)) (setW 3))
  (seqW (forSW (locW 1) (setW 4) (seqW (asgS (biW addW (biW mulW (cW (.int 256)) (locW 3)) (locW 4)) (setW 3))
  nilW))
  (seqW (retS (tpW (argS (biW fdivW (locW 2) (cW (.int 64))) (argS (cbW (argS (biW modW (locW 2) (cW (.int 64))) arg0) (callW W j 156)) (argS (locW 3) arg0)))))
  nilW)))))
theorem iS__law_read {W : Wd} (G : GW W) (A : Around) (L : Addr) (j : Nat) : Exs (fnCx W A fd__law_read L 177 ([(Str.ofString "text")] ++ [(Str.ofString "walker"), (Str.ofString "number"), (Str.ofString "value"), (Str.ofString "octet")]) j) (bodyOf (defOf 29)) (tS__law_read W j) :=
  (exs_cons (ex_assign (ev_callB ⟨G.g_iter, rfl, rfl, rfl, rfl⟩ (.cons rfl (ev_callF ⟨G.g_b64decode, rfl, rfl, rfl, rfl⟩ G.f_b64decode (.cons rfl (ev_local (i := 0) rfl rfl rfl) .nil) rfl rfl) .nil) iter_ok') (asg_local (i := 1) rfl rfl))
  (exs_cons (ex_assign (ev_callF ⟨G.g__parse_varint, rfl, rfl, rfl, rfl⟩ G.f__parse_varint (.cons rfl (ev_local (i := 1) rfl rfl rfl) .nil) rfl rfl) (asg_local (i := 2) rfl rfl))
  (exs_cons (ex_assign ev_int (asg_local (i := 3) rfl rfl))
  (exs_cons (ex_forS (ev_local (i := 1) rfl rfl rfl) (asg_local (i := 4) rfl rfl) (exs_cons (ex_assign (ev_bin (ev_bin ev_int (ev_local (i := 3) rfl rfl rfl) mul_ok) (ev_local (i := 4) rfl rfl rfl) add_ok) (asg_local (i := 3) rfl rfl))
  exs_nil))
  (exs_cons (ex_ret (ev_tuple (.cons rfl (ev_bin (ev_local (i := 2) rfl rfl rfl) ev_int fdiv_ok) (.cons rfl (ev_callF ⟨G.g__law_places, rfl, rfl, rfl, rfl⟩ G.f__law_places (.cons rfl (ev_bin (ev_local (i := 2) rfl rfl rfl) ev_int mod_ok) .nil) rfl rfl) (.cons rfl (ev_local (i := 3) rfl rfl rfl) .nil)))))
  exs_nil)))))
theorem cS__law_read {W : Wd} (G : GW W) {j : Nat} {xs : List V} {Q : V → St → Prop} {σ : St} (hlen : xs.length = 1) (q : tS__law_read W j (retW Q) ⟨σ, fun i => xs[i]?⟩) : CallOK W (j + 1) 177 xs [] Q σ :=
  call_intro (params := [(Str.ofString "text")]) (names := [(Str.ofString "walker"), (Str.ofString "number"), (Str.ofString "value"), (Str.ofString "octet")]) G.f__law_read rfl (fun A L => iS__law_read G A L j) (fun vs hv => match vs, hv with | [_], _ => rfl) (by decide +kernel) (by decide +kernel) (by decide +kernel) hlen q
abbrev tS__law_peeled (W : Wd) (j : Nat) : PF := (seqW (asgS d0W (setW 1))
  (seqW (forW (locW 0) (setW 2) (seqW (asgS (cbW (argS (locW 2) arg0) (callW W j 177)) (tupW [(setW 3), (setW 4), (setW 5)]))
  (seqW (putS (tpW (argS (locW 4) (argS (locW 5) arg0))) (locW 1) (locW 3))
  nilW)))
  (seqW (asgS (compDW 9 (locW 1) (setW 9) (cmW neW (itW (itW (locW 1) (locW 9)) (cW (.int 0))) (lsW arg0)) (tpW (argS (cbW (argS (itW (itW (locW 1) (locW 9)) (cW (.int 0))) arg0) lenW) (argS (locW 9) arg0)))) (setW 6))
  (seqW (exprW (cbW (argS (locW 6) arg0) (callW W j 42)))
  (seqW (asgS d0W (setW 7))
  (seqW (whileW (andB (cmW neW (locW 6) (lsW arg0)) (cmW eqW (itW (itW (locW 6) (cW (.int 0))) (cW (.int 0))) (cW (.int 1)))) (seqW (asgS (itW (locW 1) (itW (cbW (argS (locW 6) arg0) (callW W j 35)) (cW (.int 1)))) (tupW [(setW 8), (setW 5)]))
  (seqW (ifS (cmW neW (locW 8) (lsW arg0)) (seqW (putS (locW 5) (locW 7) (itW (locW 8) (cW (.int 0))))
  (seqW (forDW (locW 1) (setW 3) (seqW (ifS (cmW inW (itW (locW 8) (cW (.int 0))) (itW (itW (locW 1) (locW 3)) (cW (.int 0)))) (seqW (asgS (compW 9 (itW (itW (locW 1) (locW 3)) (cW (.int 0))) (setW 9) (cmW neW (locW 9) (itW (locW 8) (cW (.int 0)))) (locW 9)) (fzA (setW 4)))
  (seqW (putS (tpW (argS (locW 4) (argS (biW xorW (itW (itW (locW 1) (locW 3)) (cW (.int 1))) (locW 5)) arg0))) (locW 1) (locW 3))
  (seqW (ifS (cmW neW (locW 4) (lsW arg0)) (seqW (exprW (cbW (argS (locW 6) (argS (tpW (argS (cbW (argS (locW 4) arg0) lenW) (argS (locW 3) arg0))) arg0)) (callW W j 28)))
  nilW) nilW)
  nilW))) nilW)
  nilW))
  nilW)) nilW)
  nilW)))
  (seqW (retS (tpW (argS (locW 7) (argS (locW 1) arg0))))
  nilW)))))))
theorem iS__law_peeled {W : Wd} (G : GW W) (A : Around) (L : Addr) (j : Nat) : Exs (fnCxC W A fd__law_peeled L 182 [(Str.ofString "texts", false), (Str.ofString "left", true), (Str.ofString "text", false), (Str.ofString "place", false), (Str.ofString "places", false), (Str.ofString "value", false), (Str.ofString "heap", false), (Str.ofString "known", false), (Str.ofString "lone", true)] j) (bodyOf (defOf 30)) (tS__law_peeled W j) :=
  (exs_cons (ex_assign ev_dict0 (asg_cell (i := 1) rfl rfl rfl))
  (exs_cons (ex_for (ev_local (i := 0) rfl rfl rfl) (asg_local (i := 2) rfl rfl) (exs_cons (ex_assign (ev_callF ⟨G.g__law_read, rfl, rfl, rfl, rfl⟩ G.f__law_read (.cons rfl (ev_local (i := 2) rfl rfl rfl) .nil) rfl rfl) (asg_tuple (.cons rfl (asg_local (i := 3) rfl rfl) (.cons rfl (asg_local (i := 4) rfl rfl) (.cons rfl (asg_local (i := 5) rfl rfl) .nil)))))
  (exs_cons (ex_put (ev_tuple (.cons rfl (ev_local (i := 4) rfl rfl rfl) (.cons rfl (ev_local (i := 5) rfl rfl rfl) .nil))) (ev_cell (i := 1) rfl rfl rfl rfl) (ev_local (i := 3) rfl rfl rfl))
  exs_nil)))
  (exs_cons (ex_assign_compD [(Str.ofString "place")] rfl rfl (by decide +kernel) rfl (by decide +kernel) (fun _ => rfl) (by decide +kernel) (by decide +kernel) 9 rfl (ev_cell (i := 1) rfl rfl rfl rfl) (fun _ => (asg_local (i := 9) rfl rfl)) (fun _ => (tst_one (evT_cmp (ev_item (ev_item (ev_cell (i := 1) rfl rfl rfl rfl) (ev_local (i := 9) rfl rfl rfl)) ev_int) (ev_list .nil) ne_ok rfl))) (fun _ => (ev_tuple (.cons rfl (ev_callB ⟨G.g_len, rfl, rfl, rfl, rfl⟩ (.cons rfl (ev_item (ev_item (ev_cell (i := 1) rfl rfl rfl rfl) (ev_local (i := 9) rfl rfl rfl)) ev_int) .nil) len_ok) (.cons rfl (ev_local (i := 9) rfl rfl rfl) .nil)))) (asg_local (i := 6) rfl rfl))
  (exs_cons (ex_expr (ev_callF ⟨G.g_heapify, rfl, rfl, rfl, rfl⟩ G.f_heapify (.cons rfl (ev_local (i := 6) rfl rfl rfl) .nil) rfl rfl))
  (exs_cons (ex_assign ev_dict0 (asg_local (i := 7) rfl rfl))
  (exs_cons (ex_while (evT_and (evT_cmp (ev_local (i := 6) rfl rfl rfl) (ev_list .nil) ne_ok rfl) (evT_cmp (ev_item (ev_item (ev_local (i := 6) rfl rfl rfl) ev_int) ev_int) ev_int eq_ok rfl)) (exs_cons (ex_assign (ev_item (ev_cell (i := 1) rfl rfl rfl rfl) (ev_item (ev_callF ⟨G.g_heappop, rfl, rfl, rfl, rfl⟩ G.f_heappop (.cons rfl (ev_local (i := 6) rfl rfl rfl) .nil) rfl rfl) ev_int)) (asg_tuple (.cons rfl (asg_cell (i := 8) rfl rfl rfl) (.cons rfl (asg_local (i := 5) rfl rfl) .nil))))
  (exs_cons (ex_if (evT_cmp (ev_cell (i := 8) rfl rfl rfl rfl) (ev_list .nil) ne_ok rfl) (exs_cons (ex_put (ev_local (i := 5) rfl rfl rfl) (ev_local (i := 7) rfl rfl rfl) (ev_item (ev_cell (i := 8) rfl rfl rfl rfl) ev_int))
  (exs_cons (ex_forD (ev_cell (i := 1) rfl rfl rfl rfl) (asg_local (i := 3) rfl rfl) (exs_cons (ex_if (evT_cmp (ev_item (ev_cell (i := 8) rfl rfl rfl rfl) ev_int) (ev_item (ev_item (ev_cell (i := 1) rfl rfl rfl rfl) (ev_local (i := 3) rfl rfl rfl)) ev_int) in_ok rfl) (exs_cons (ex_assign_comp [(Str.ofString "j")] rfl rfl (by decide +kernel) rfl (by decide +kernel) (fun _ => rfl) (by decide +kernel) (by decide +kernel) 9 rfl (ev_item (ev_item (ev_cell (i := 1) rfl rfl rfl rfl) (ev_local (i := 3) rfl rfl rfl)) ev_int) (fun _ => (asg_local (i := 9) rfl rfl)) (fun _ => (tst_one (evT_cmp (ev_local (i := 9) rfl rfl rfl) (ev_item (ev_cell (i := 8) rfl rfl rfl rfl) ev_int) ne_ok rfl))) (fun _ => (ev_local (i := 9) rfl rfl rfl)) (asg_freeze (asg_local (i := 4) rfl rfl)))
  (exs_cons (ex_put (ev_tuple (.cons rfl (ev_local (i := 4) rfl rfl rfl) (.cons rfl (ev_bin (ev_item (ev_item (ev_cell (i := 1) rfl rfl rfl rfl) (ev_local (i := 3) rfl rfl rfl)) ev_int) (ev_local (i := 5) rfl rfl rfl) xor_ok) .nil))) (ev_cell (i := 1) rfl rfl rfl rfl) (ev_local (i := 3) rfl rfl rfl))
  (exs_cons (ex_if (evT_cmp (ev_local (i := 4) rfl rfl rfl) (ev_list .nil) ne_ok rfl) (exs_cons (ex_expr (ev_callF ⟨G.g_heappush, rfl, rfl, rfl, rfl⟩ G.f_heappush (.cons rfl (ev_local (i := 6) rfl rfl rfl) (.cons rfl (ev_tuple (.cons rfl (ev_callB ⟨G.g_len, rfl, rfl, rfl, rfl⟩ (.cons rfl (ev_local (i := 4) rfl rfl rfl) .nil) len_ok) (.cons rfl (ev_local (i := 3) rfl rfl rfl) .nil))) .nil)) rfl rfl))
  exs_nil) exs_nil)
  exs_nil))) exs_nil)
  exs_nil))
  exs_nil)) exs_nil)
  exs_nil)))
  (exs_cons (ex_ret (ev_tuple (.cons rfl (ev_local (i := 7) rfl rfl rfl) (.cons rfl (ev_cell (i := 1) rfl rfl rfl rfl) .nil))))
  exs_nil)))))))
theorem cS__law_peeled {W : Wd} (G : GW W) {j : Nat} {xs : List V} {Q : V → St → Prop} {σ : St} (hlen : xs.length = 1) (q : tS__law_peeled W j (retW Q) ⟨σ, fun i => xs[i]?⟩) : CallOK W (j + 1) 182 xs [] Q σ :=
  call_introC (params := [(Str.ofString "texts")]) (names := [(Str.ofString "texts", false), (Str.ofString "left", true), (Str.ofString "text", false), (Str.ofString "place", false), (Str.ofString "places", false), (Str.ofString "value", false), (Str.ofString "heap", false), (Str.ofString "known", false), (Str.ofString "lone", true)]) G.f__law_peeled rfl (fun A L => iS__law_peeled G A L j) (fun vs hv => match vs, hv with | [_], _ => rfl) rfl rfl (by decide +kernel) (by intro L p hp; simp only [List.mem_cons, List.not_mem_nil, or_false] at hp; rcases hp with rfl | rfl | rfl | rfl | rfl | rfl | rfl | rfl | rfl <;> intro h <;> first | rfl | cases h) (by decide +kernel) hlen q
abbrev tS__law_held (W : Wd) (j : Nat) : PF := (seqW (asgS (cW (.int 0)) (setW 1))
  (seqW (forW (cbW (argS (cW (.int 64)) arg0) rangeW) (setW 2) (seqW (ifS (cmW eqW (compW 3 (locW 0) (setW 3) (cmW inW (biW andW (locW 3) (locW 2)) (lsW (argS (cW (.int 1)) (argS (cW (.int 2)) (argS (cW (.int 4)) (argS (cW (.int 8)) (argS (cW (.int 16)) (argS (cW (.int 32)) arg0)))))))) (locW 3)) (lsW arg0)) (seqW (asgS (biW orW (locW 1) (locW 2)) (setW 1))
  nilW) nilW)
  nilW))
  (seqW (retS (locW 1))
  nilW)))
theorem iS__law_held {W : Wd} (G : GW W) (A : Around) (L : Addr) (j : Nat) : Exs (fnCxC W A fd__law_held L 187 [(Str.ofString "masks", false), (Str.ofString "held", false), (Str.ofString "choice", true)] j) (bodyOf (defOf 31)) (tS__law_held W j) :=
  (exs_cons (ex_assign ev_int (asg_local (i := 1) rfl rfl))
  (exs_cons (ex_for (ev_callT ⟨G.g_range, rfl, rfl, rfl, rfl⟩ (.cons rfl ev_int .nil) range_ok) (asg_cell (i := 2) rfl rfl rfl) (exs_cons (ex_if (evT_cmp (ev_comp [(Str.ofString "mask")] rfl (by decide +kernel) rfl (by decide +kernel) (fun _ => rfl) (by decide +kernel) (by decide +kernel) 3 rfl (ev_local (i := 0) rfl rfl rfl) (fun _ => (asg_local (i := 3) rfl rfl)) (fun _ => (tst_one (evT_cmp (ev_bin (ev_local (i := 3) rfl rfl rfl) (ev_cell (i := 2) rfl rfl rfl rfl) and_ok) (ev_list (.cons rfl ev_int (.cons rfl ev_int (.cons rfl ev_int (.cons rfl ev_int (.cons rfl ev_int (.cons rfl ev_int .nil))))))) in_ok rfl))) (fun _ => (ev_local (i := 3) rfl rfl rfl))) (ev_list .nil) eq_ok rfl) (exs_cons (ex_assign (ev_bin (ev_local (i := 1) rfl rfl rfl) (ev_cell (i := 2) rfl rfl rfl rfl) or_ok) (asg_local (i := 1) rfl rfl))
  exs_nil) exs_nil)
  exs_nil))
  (exs_cons (ex_ret (ev_local (i := 1) rfl rfl rfl))
  exs_nil)))
theorem cS__law_held {W : Wd} (G : GW W) {j : Nat} {xs : List V} {Q : V → St → Prop} {σ : St} (hlen : xs.length = 1) (q : tS__law_held W j (retW Q) ⟨σ, fun i => xs[i]?⟩) : CallOK W (j + 1) 187 xs [] Q σ :=
  call_introC (params := [(Str.ofString "masks")]) (names := [(Str.ofString "masks", false), (Str.ofString "held", false), (Str.ofString "choice", true)]) G.f__law_held rfl (fun A L => iS__law_held G A L j) (fun vs hv => match vs, hv with | [_], _ => rfl) rfl rfl (by decide +kernel) (by intro L p hp; simp only [List.mem_cons, List.not_mem_nil, or_false] at hp; rcases hp with rfl | rfl | rfl <;> intro h <;> first | rfl | cases h) (by decide +kernel) hlen q
abbrev tS_law (W : Wd) (j : Nat) : PF := (seqW (asgS (biW addW (slW (locW 0) oN (oS (cW (.int 6)))) (biW mulW (lsW (argS (cW (.int 0)) arg0)) (biW subW (cW (.int 6)) (cbW (argS (slW (locW 0) oN (oS (cW (.int 6)))) arg0) lenW)))) (fzA (setW 1)))
  (seqW (asgS (compW 10 (cbW (argS (cW (.int 6)) arg0) rangeW) (setW 10) tT (biW modW (biW addW (itW (locW 1) (locW 10)) (biW mulW (cW (.int 7340033)) (biW addW (locW 10) (cW (.int 1))))) (cW (.int 16777216)))) (fzA (setW 2)))
  (seqW (asgS (compW 10 (fzW (slW (locW 0) (oS (cW (.int 6))) (oS (cW (.int 13))))) (setW 10) tT (biW modW (locW 10) (cW (.int 64)))) (fzA (setW 3)))
  (seqW (asgS (biW addW (locW 3) (slW (lsW (argS (cW (.int 28)) (argS (cW (.int 13)) (argS (cW (.int 33)) (argS (cW (.int 34)) (argS (cW (.int 16)) (argS (cW (.int 2)) arg0))))))) oN (oS (cbW (argS (cW (.int 0)) (argS (biW subW (cW (.int 6)) (cbW (argS (locW 3) arg0) lenW)) arg0)) maxW)))) (fzA (setW 3)))
  (seqW (asgS (compW 10 (cbW (argS (cbW (argS (locW 3) arg0) lenW) arg0) rangeW) (setW 10) tT (cbW (argS (locW 10) (argS (itW (locW 3) (locW 10)) (argS (cbW (argS (locW 2) (argS (cbW (argS (itW (locW 3) (locW 10)) arg0) (callW W j 156)) arg0)) (callW W j 163)) arg0))) (callW W j 170))) (fzA (setW 4)))
  (seqW (asgS (cbW (argS (locW 4) arg0) (callW W j 182)) (tupW [(setW 5), (setW 6)]))
  (seqW (asgS (cbW (argS (locW 3) arg0) (callW W j 187)) (setW 7))
  (seqW (asgS (compW 10 (locW 3) (setW 10) tT (cbW (argS (biW andW (locW 10) (locW 7)) arg0) (callW W j 156))) (fzA (setW 8)))
  (seqW (asgS (compMW 10 (cbW (argS (cbW (argS (locW 3) arg0) lenW) arg0) rangeW) (setW 10) tT (locW 10) (tpW (argS (itW (locW 8) (locW 10)) (argS (cbW (argS (locW 2) (argS (itW (locW 8) (locW 10)) arg0)) (callW W j 163)) arg0)))) (setW 9))
  (seqW (retS (avW (cvW dictEqW (locW 6) (locW 9)) (cvW dictEqW (locW 5) (compMW 10 (cbW (argS (biW subW (cW (.int 63)) (locW 7)) arg0) (callW W j 156)) (setW 10) tT (locW 10) (itW (locW 2) (locW 10))))))
  nilW))))))))))
theorem iS_law {W : Wd} (G : GW W) (A : Around) (L : Addr) (j : Nat) : Exs (fnCxC W A fd_law L 192 [(Str.ofString "script", false), (Str.ofString "drawn", true), (Str.ofString "hidden", true), (Str.ofString "masks", true), (Str.ofString "texts", false), (Str.ofString "known", false), (Str.ofString "left", false), (Str.ofString "held", true), (Str.ofString "stuck", true), (Str.ofString "due", false)] j) (bodyOf (defOf 32)) (tS_law W j) :=
  (exs_cons (ex_assign (ev_bin (ev_slice (ev_local (i := 0) rfl rfl rfl) opt_none (opt_some ev_int)) (ev_bin (ev_list (.cons rfl ev_int .nil)) (ev_bin ev_int (ev_callB ⟨G.g_len, rfl, rfl, rfl, rfl⟩ (.cons rfl (ev_slice (ev_local (i := 0) rfl rfl rfl) opt_none (opt_some ev_int)) .nil) len_ok) sub_ok) mul_ok) add_ok) (asg_freeze (asg_cell (i := 1) rfl rfl rfl)))
  (exs_cons (ex_assign (ev_comp [(Str.ofString "j")] rfl (by decide +kernel) rfl (by decide +kernel) (fun _ => rfl) (by decide +kernel) (by decide +kernel) 10 rfl (ev_callT ⟨G.g_range, rfl, rfl, rfl, rfl⟩ (.cons rfl ev_int .nil) range_ok) (fun _ => (asg_local (i := 10) rfl rfl)) (fun _ => tst_nil) (fun _ => (ev_bin (ev_bin (ev_item (ev_cell (i := 1) rfl rfl rfl rfl) (ev_local (i := 10) rfl rfl rfl)) (ev_bin ev_int (ev_bin (ev_local (i := 10) rfl rfl rfl) ev_int add_ok) mul_ok) add_ok) ev_int mod_ok))) (asg_freeze (asg_cell (i := 2) rfl rfl rfl)))
  (exs_cons (ex_assign (ev_comp [(Str.ofString "x")] rfl (by decide +kernel) rfl (by decide +kernel) (fun _ => rfl) (by decide +kernel) (by decide +kernel) 10 rfl (ev_freeze (ev_slice (ev_local (i := 0) rfl rfl rfl) (opt_some ev_int) (opt_some ev_int))) (fun _ => (asg_local (i := 10) rfl rfl)) (fun _ => tst_nil) (fun _ => (ev_bin (ev_local (i := 10) rfl rfl rfl) ev_int mod_ok))) (asg_freeze (asg_cell (i := 3) rfl rfl rfl)))
  (exs_cons (ex_assign (ev_bin (ev_cell (i := 3) rfl rfl rfl rfl) (ev_slice (ev_list (.cons rfl ev_int (.cons rfl ev_int (.cons rfl ev_int (.cons rfl ev_int (.cons rfl ev_int (.cons rfl ev_int .nil))))))) opt_none (opt_some (ev_callB ⟨G.g_max, rfl, rfl, rfl, rfl⟩ (.cons rfl ev_int (.cons rfl (ev_bin ev_int (ev_callB ⟨G.g_len, rfl, rfl, rfl, rfl⟩ (.cons rfl (ev_cell (i := 3) rfl rfl rfl rfl) .nil) len_ok) sub_ok) .nil)) max_ok))) add_ok) (asg_freeze (asg_cell (i := 3) rfl rfl rfl)))
  (exs_cons (ex_assign_comp [(Str.ofString "k")] rfl rfl (by decide +kernel) rfl (by decide +kernel) (fun _ => rfl) (by decide +kernel) (by decide +kernel) 10 rfl (ev_callT ⟨G.g_range, rfl, rfl, rfl, rfl⟩ (.cons rfl (ev_callB ⟨G.g_len, rfl, rfl, rfl, rfl⟩ (.cons rfl (ev_cell (i := 3) rfl rfl rfl rfl) .nil) len_ok) .nil) range_ok) (fun _ => (asg_local (i := 10) rfl rfl)) (fun _ => tst_nil) (fun _ => (ev_callF ⟨G.g__law_card, rfl, rfl, rfl, rfl⟩ G.f__law_card (.cons rfl (ev_local (i := 10) rfl rfl rfl) (.cons rfl (ev_item (ev_cell (i := 3) rfl rfl rfl rfl) (ev_local (i := 10) rfl rfl rfl)) (.cons rfl (ev_callF ⟨G.g__law_sum, rfl, rfl, rfl, rfl⟩ G.f__law_sum (.cons rfl (ev_cell (i := 2) rfl rfl rfl rfl) (.cons rfl (ev_callF ⟨G.g__law_places, rfl, rfl, rfl, rfl⟩ G.f__law_places (.cons rfl (ev_item (ev_cell (i := 3) rfl rfl rfl rfl) (ev_local (i := 10) rfl rfl rfl)) .nil) rfl rfl) .nil)) rfl rfl) .nil))) rfl rfl)) (asg_freeze (asg_local (i := 4) rfl rfl)))
  (exs_cons (ex_assign (ev_callF ⟨G.g__law_peeled, rfl, rfl, rfl, rfl⟩ G.f__law_peeled (.cons rfl (ev_local (i := 4) rfl rfl rfl) .nil) rfl rfl) (asg_tuple (.cons rfl (asg_local (i := 5) rfl rfl) (.cons rfl (asg_local (i := 6) rfl rfl) .nil))))
  (exs_cons (ex_assign (ev_callF ⟨G.g__law_held, rfl, rfl, rfl, rfl⟩ G.f__law_held (.cons rfl (ev_cell (i := 3) rfl rfl rfl rfl) .nil) rfl rfl) (asg_cell (i := 7) rfl rfl rfl))
  (exs_cons (ex_assign (ev_comp [(Str.ofString "mask")] rfl (by decide +kernel) rfl (by decide +kernel) (fun _ => rfl) (by decide +kernel) (by decide +kernel) 10 rfl (ev_cell (i := 3) rfl rfl rfl rfl) (fun _ => (asg_local (i := 10) rfl rfl)) (fun _ => tst_nil) (fun _ => (ev_callF ⟨G.g__law_places, rfl, rfl, rfl, rfl⟩ G.f__law_places (.cons rfl (ev_bin (ev_local (i := 10) rfl rfl rfl) (ev_cell (i := 7) rfl rfl rfl rfl) and_ok) .nil) rfl rfl))) (asg_freeze (asg_cell (i := 8) rfl rfl rfl)))
  (exs_cons (ex_assign_compM [(Str.ofString "k")] rfl rfl (by decide +kernel) rfl (by decide +kernel) (fun _ => rfl) (by decide +kernel) (by decide +kernel) 10 rfl (ev_callT ⟨G.g_range, rfl, rfl, rfl, rfl⟩ (.cons rfl (ev_callB ⟨G.g_len, rfl, rfl, rfl, rfl⟩ (.cons rfl (ev_cell (i := 3) rfl rfl rfl rfl) .nil) len_ok) .nil) range_ok) (fun _ => (asg_local (i := 10) rfl rfl)) (fun _ => tst_nil) (fun _ => (ev_local (i := 10) rfl rfl rfl)) (fun _ => (ev_tuple (.cons rfl (ev_item (ev_cell (i := 8) rfl rfl rfl rfl) (ev_local (i := 10) rfl rfl rfl)) (.cons rfl (ev_callF ⟨G.g__law_sum, rfl, rfl, rfl, rfl⟩ G.f__law_sum (.cons rfl (ev_cell (i := 2) rfl rfl rfl rfl) (.cons rfl (ev_item (ev_cell (i := 8) rfl rfl rfl rfl) (ev_local (i := 10) rfl rfl rfl)) .nil)) rfl rfl) .nil)))) (asg_local (i := 9) rfl rfl))
  (exs_cons (ex_ret (ev_and (ev_cmp (ev_local (i := 6) rfl rfl rfl) (ev_local (i := 9) rfl rfl rfl) dictEq_ok rfl) (ev_cmp (ev_local (i := 5) rfl rfl rfl) (ev_compM [(Str.ofString "j")] rfl (by decide +kernel) rfl (by decide +kernel) (fun _ => rfl) (by decide +kernel) (by decide +kernel) 10 rfl (ev_callF ⟨G.g__law_places, rfl, rfl, rfl, rfl⟩ G.f__law_places (.cons rfl (ev_bin ev_int (ev_cell (i := 7) rfl rfl rfl rfl) sub_ok) .nil) rfl rfl) (fun _ => (asg_local (i := 10) rfl rfl)) (fun _ => tst_nil) (fun _ => (ev_local (i := 10) rfl rfl rfl)) (fun _ => (ev_item (ev_cell (i := 2) rfl rfl rfl rfl) (ev_local (i := 10) rfl rfl rfl)))) dictEq_ok rfl)))
  exs_nil))))))))))
theorem cS_law {W : Wd} (G : GW W) {j : Nat} {xs : List V} {Q : V → St → Prop} {σ : St} (hlen : xs.length = 1) (q : tS_law W j (retW Q) ⟨σ, fun i => xs[i]?⟩) : CallOK W (j + 1) 192 xs [] Q σ :=
  call_introC (params := [(Str.ofString "script")]) (names := [(Str.ofString "script", false), (Str.ofString "drawn", true), (Str.ofString "hidden", true), (Str.ofString "masks", true), (Str.ofString "texts", false), (Str.ofString "known", false), (Str.ofString "left", false), (Str.ofString "held", true), (Str.ofString "stuck", true), (Str.ofString "due", false)]) G.f_law rfl (fun A L => iS_law G A L j) (fun vs hv => match vs, hv with | [_], _ => rfl) rfl rfl (by decide +kernel) (by intro L p hp; simp only [List.mem_cons, List.not_mem_nil, or_false] at hp; rcases hp with rfl | rfl | rfl | rfl | rfl | rfl | rfl | rfl | rfl | rfl <;> intro h <;> first | rfl | cases h) (by decide +kernel) hlen q
end Mine

namespace Mine
theorem set2_perm {α : Type} {v : List α} {p c : Nat} {x y : α} (hp : v[p]? = some x) (hc : v[c]? = some y) : ((v.set p y).set c x).Perm v := by
  obtain ⟨h1, e1⟩ := List.getElem?_eq_some_iff.mp hp
  obtain ⟨h2, e2⟩ := List.getElem?_eq_some_iff.mp hc
  have := List.set_set_perm h1 h2
  rw [e1, e2] at this
  exact this

def par (i : Nat) : Nat := (i - 1) / 2
inductive Desc (s : Nat) : Nat → Prop
  | refl : Desc s s
  | step {p : Nat} : 0 < p → Desc s (par p) → Desc s p
theorem par_lt {p : Nat} (h : 0 < p) : par p < p := by unfold par; omega
theorem Desc.le {s p : Nat} (h : Desc s p) : s ≤ p := by
  induction h with
  | refl => exact Nat.le_refl _
  | @step p h _ ih => have := par_lt h; omega
theorem Desc.up {s p : Nat} (h : Desc s p) (hp : s < p) : Desc s (par p) := by
  cases h with
  | refl => omega
  | step _ h => exact h
theorem Desc.zero : ∀ p, Desc 0 p := fun p => by
  induction p using Nat.strongRecOn with
  | ind p ih =>
    by_cases h : p = 0
    · subst h; exact .refl
    · exact .step (by omega) (ih _ (par_lt (by omega)))

variable {α : Type} (le : α → α → Prop)
def Edge (v : List α) (i : Nat) : Prop := ∀ x y, v[par i]? = some x → v[i]? = some y → le x y
def HeapFrom (s : Nat) (v : List α) : Prop := ∀ i, 0 < i → s ≤ par i → Edge le v i
def Hole (s p : Nat) (v : List α) : Prop := (∀ i, 0 < i → s ≤ par i → i ≠ p → Edge le v i) ∧ (∀ i, 0 < i → par i = p → s < p → ∀ x y, v[par p]? = some x → v[i]? = some y → le x y)
def Hole1 (s p : Nat) (v : List α) : Prop := (∀ i, 0 < i → s ≤ par i → i ≠ p → par i ≠ p → Edge le v i) ∧ (∀ i, 0 < i → par i = p → s < p → ∀ x y, v[par p]? = some x → v[i]? = some y → le x y)

variable {le}
theorem set2_get {v : List α} {p c : Nat} {x y z : α} {i : Nat} (h : ((v.set p y).set c x)[i]? = some z) : (i = c ∧ z = x) ∨ (i ≠ c ∧ i = p ∧ z = y) ∨ (i ≠ c ∧ i ≠ p ∧ v[i]? = some z) := by
  rw [List.getElem?_set] at h
  split at h
  · rename_i e
    split at h
    · simp at h; exact .inl ⟨e.symm, h.symm⟩
    · cases h
  · rename_i hc
    rw [List.getElem?_set] at h
    split at h
    · rename_i e
      split at h
      · simp at h; exact .inr (.inl ⟨fun z => hc z.symm, e.symm, h.symm⟩)
      · cases h
    · rename_i hp; exact .inr (.inr ⟨fun z => hc z.symm, fun z => hp z.symm, h⟩)
theorem Hole.step (tr : ∀ a b c, le a b → le b c → le a c) {s p : Nat} {v : List α} {x y : α} (h : Hole le s p v) (hd : Desc s p) (hp : s < p) (hx : v[p]? = some x) (hy : v[par p]? = some y) (hl : le x y) : Hole le s (par p) ((v.set p y).set (par p) x) := by
  have hpp := par_lt (show 0 < p by omega)
  have hsp := (hd.up hp).le
  constructor
  · intro i hi hs hne a b ha hb
    rcases set2_get ha with ⟨e, rfl⟩ | ⟨_, e, rfl⟩ | ⟨n1, n2, ea⟩
    · -- parent is par p
      rcases set2_get hb with ⟨e', rfl⟩ | ⟨_, e', rfl⟩ | ⟨m1, m2, eb⟩
      · exact absurd e' hne
      · exact hl
      · exact tr _ _ _ hl (h.1 i hi hs m2 y b (by rw [e]; exact hy) eb)
    · -- parent is p
      rcases set2_get hb with ⟨e', rfl⟩ | ⟨_, e', rfl⟩ | ⟨m1, m2, eb⟩
      · exact absurd e' hne
      · have := par_lt hi; omega
      · exact h.2 i hi e hp _ b hy eb
    · rcases set2_get hb with ⟨e', rfl⟩ | ⟨_, e', rfl⟩ | ⟨m1, m2, eb⟩
      · exact absurd e' hne
      · exact absurd (by rw [e']) n1
      · exact h.1 i hi hs m2 a b ea eb
  · intro i hi he hsp' a b ha hb
    have hq : 0 < par p := by omega
    have hqq := par_lt hq
    rcases set2_get ha with ⟨e, rfl⟩ | ⟨_, e, rfl⟩ | ⟨n1, n2, ea⟩
    · omega
    · omega
    · have e1 : le a y := h.1 (par p) hq ((hd.up hp).up hsp').le (by omega) a y ea hy
      rcases set2_get hb with ⟨e', rfl⟩ | ⟨_, e', rfl⟩ | ⟨m1, m2, eb⟩
      · have := par_lt hi; omega
      · exact e1
      · exact tr _ _ _ e1 (h.1 i hi (by omega) m2 y b (by rw [he]; exact hy) eb)
theorem Hole.done0 {s : Nat} {v : List α} (h : Hole le s s v) : HeapFrom le s v := fun i hi hs => h.1 i hi hs (by have := par_lt hi; omega)
theorem Hole.done {s p : Nat} {v : List α} {x y : α} (h : Hole le s p v) (hx : v[p]? = some x) (hy : v[par p]? = some y) (hl : le y x) : HeapFrom le s v := fun i hi hs a b ha hb => by
  by_cases e : i = p
  · subst e
    rw [hx] at hb; rw [hy] at ha; cases ha; cases hb; exact hl
  · exact h.1 i hi hs e a b ha hb
theorem Hole1.init {s : Nat} {v : List α} (h : HeapFrom le (s + 1) v) : Hole1 le s s v := ⟨fun i hi hs _ hn => h i hi (by omega), fun _ _ _ hs => absurd hs (Nat.lt_irrefl _)⟩
theorem Hole1.step {s p c : Nat} {v : List α} {x y : α} (h : Hole1 le s p v) (hsp : s ≤ p) (hc : 0 < c) (hpc : par c = p) (hx : v[p]? = some x) (hy : v[c]? = some y) (hmin : ∀ i, 0 < i → par i = p → ∀ z, v[i]? = some z → le y z) : Hole1 le s c ((v.set p y).set c x) := by
  have hlt := par_lt hc
  constructor
  · intro i hi hs hne hpn a b ha hb
    rcases set2_get ha with ⟨e, rfl⟩ | ⟨_, e, rfl⟩ | ⟨n1, n2, ea⟩
    · exact absurd e hpn
    · rcases set2_get hb with ⟨e', rfl⟩ | ⟨_, e', rfl⟩ | ⟨m1, m2, eb⟩
      · exact absurd e' hne
      · have := par_lt hi; omega
      · exact hmin i hi e b eb
    · rcases set2_get hb with ⟨e', rfl⟩ | ⟨_, e', rfl⟩ | ⟨m1, m2, eb⟩
      · exact absurd e' hne
      · subst e'
        have := par_lt hi
        exact h.2 c hc hpc (by omega) a _ ea hy
      · exact h.1 i hi hs m2 n2 a b ea eb
  · intro i hi he hsc a b ha hb
    rw [hpc] at ha
    rcases set2_get ha with ⟨e, rfl⟩ | ⟨_, e, rfl⟩ | ⟨n1, n2, ea⟩
    · omega
    · have := par_lt hi
      rcases set2_get hb with ⟨e', rfl⟩ | ⟨_, e', rfl⟩ | ⟨m1, m2, eb⟩
      · omega
      · omega
      · exact h.1 i hi (by omega) m2 (by omega) _ b (by rw [he]; exact hy) eb
    · exact absurd rfl n2
theorem Hole1.leaf {s p : Nat} {v : List α} (h : Hole1 le s p v) (hl : v.length ≤ 2 * p + 1) : Hole le s p v := by
  refine ⟨fun i hi hs hne a b ha hb => ?_, h.2⟩
  by_cases e : par i = p
  · have : i < v.length := (List.getElem?_eq_some_iff.mp hb).1
    unfold par at e; omega
  · exact h.1 i hi hs hne e a b ha hb
theorem HeapFrom.min (rf : ∀ a, le a a) (tr : ∀ a b c, le a b → le b c → le a c) {v : List α} (h : HeapFrom le 0 v) {x : α} (hx : v[0]? = some x) : ∀ (i : Nat) (y : α), v[i]? = some y → le x y := fun i => by
  induction i using Nat.strongRecOn with
  | ind i ih =>
    intro y hy
    by_cases hi : i = 0
    · subst hi; rw [hx] at hy; cases hy; exact rf _
    · have hp := par_lt (show 0 < i by omega)
      have hl : par i < v.length := by have := (List.getElem?_eq_some_iff.mp hy).1; omega
      exact tr _ _ _ (ih _ hp _ (List.getElem?_eq_getElem hl)) (h i (by omega) (Nat.zero_le _) _ _ (List.getElem?_eq_getElem hl) hy)
theorem HeapFrom.big {s : Nat} {v : List α} (h : v.length ≤ 2 * s + 1) : HeapFrom le s v := fun i hi hs a b ha hb => by
  have : i < v.length := (List.getElem?_eq_some_iff.mp hb).1
  unfold par at hs; omega
/-- an item behind a heap -/
theorem Hole.push {v : List α} (h : HeapFrom le 0 v) (x : α) : Hole le 0 v.length (v ++ [x]) := by
  constructor
  · intro i hi _ hne a b ha hb
    have hl := (List.getElem?_eq_some_iff.mp hb).1
    simp at hl
    have hp := par_lt hi
    rw [List.getElem?_append_left (by omega)] at ha hb
    exact h i hi (Nat.zero_le _) a b ha hb
  · intro i hi he _ a b _ hb
    have hl := (List.getElem?_eq_some_iff.mp hb).1
    simp at hl
    have hp := par_lt hi
    omega
/-- the last item is laid at the head -/
theorem HeapFrom.pop {v : List α} {y z : α} (h : HeapFrom le 0 (v ++ [z])) : HeapFrom le 1 (v.set 0 y) := fun i hi hs a b ha hb => by
  have hl := (List.getElem?_eq_some_iff.mp hb).1
  simp at hl
  have hp := par_lt hi
  rw [List.getElem?_set_ne (by omega)] at ha hb
  exact h i hi (Nat.zero_le _) a b (by rw [List.getElem?_append_left (by omega)]; exact ha) (by rw [List.getElem?_append_left (by omega)]; exact hb)
end Mine

namespace Mine
open PySem PySem.W PyProof.Rows PySem.Calls

def tv (is : List Int) : V := .tuple (is.map .int)
def hv (hs : List (List Int)) : List V := hs.map tv
def upd (σ : St) (a : Addr) (x : AO) : St := fun b => if b = a then some x else σ b
theorem upd_at {σ : St} {a : Addr} {x : AO} : upd σ a x a = some x := if_pos rfl
theorem upd_upd {σ : St} {a : Addr} {x y : AO} : upd (upd σ a x) a y = upd σ a y := by
  funext b; unfold upd; by_cases h : b = a <;> simp [h]
theorem put_upd {σ : St} {ρ : Nat → Option V} {a : Addr} {x : AO} : (S.put ⟨σ, ρ⟩ a x).σ = upd σ a x := rfl
theorem upd_self {σ : St} {a : Addr} {x : AO} (h : σ a = some x) : upd σ a x = σ := by
  funext b; unfold upd; by_cases e : b = a
  · rw [if_pos e, e, h]
  · rw [if_neg e]
theorem intsOf_map : ∀ is : List Int, intsOf (is.map V.int) = some is
  | [] => rfl
  | i :: is => by simp [intsOf, intsOf_map is]
theorem hv_set {hs : List (List Int)} {k : Nat} {x : List Int} : (hv hs).set k (tv x) = hv (hs.set k x) := by unfold hv; rw [List.map_set]
theorem hv_len {hs : List (List Int)} : (hv hs).length = hs.length := List.length_map _
theorem hv_get {hs : List (List Int)} {k : Nat} {x : List Int} (h : hs[k]? = some x) : (hv hs)[k]? = some (tv x) := by unfold hv; rw [List.getElem?_map, h]; rfl
def leL (a b : List Int) : Prop := lexLt b a = false
theorem lex_refl : ∀ a, leL a a
  | [] => rfl
  | x :: xs => by have := lex_refl xs; unfold leL at *; simp [lexLt, this]
theorem lex_lt_le : ∀ {a b : List Int}, lexLt a b = true → leL a b
  | [], [], _ => rfl
  | [], _ :: _, _ => rfl
  | _ :: _, [], h => by simp [lexLt] at h
  | x :: xs, y :: ys, h => by
    unfold leL
    simp only [lexLt] at h ⊢
    by_cases e : x = y
    · subst e; simp at h ⊢; exact lex_lt_le h
    · simp [e, Ne.symm e] at h ⊢; omega
theorem lex_trans : ∀ (a b c : List Int), leL a b → leL b c → leL a c
  | _, _, [], _, _ => by
    rename_i a b h1 h2
    cases b with
    | nil => exact h1
    | cons y ys => simp [leL, lexLt] at h2
  | [], _, z :: zs, _, _ => rfl
  | x :: xs, [], z :: zs, h1, _ => by simp [leL, lexLt] at h1
  | x :: xs, y :: ys, z :: zs, h1, h2 => by
    unfold leL at *
    simp only [lexLt] at h1 h2 ⊢
    by_cases e1 : y = x
    · subst e1
      by_cases e2 : z = y
      · subst e2; simp at h1 h2 ⊢; exact lex_trans _ _ _ h1 h2
      · simp [e2] at h2 ⊢; exact h2
    · by_cases e2 : z = y
      · subst e2; simp [e1] at h1 ⊢; exact h1
      · simp [e1, e2] at h1 h2
        have : z ≠ x := by omega
        simp [this]; omega

theorem ifF {b : Bool} {P Q : S → Prop} {st : S} (h1 : b = true → P st) (h2 : b = false → Q st) : (if b = true then P else Q) st := by
  cases b with
  | true => exact h1 rfl
  | false => exact h2 rfl
theorem ifP {b : Bool} {P Q : Prop} (h1 : b = true → P) (h2 : b = false → Q) : if b = true then P else Q := by
  cases b with
  | true => exact h1 rfl
  | false => exact h2 rfl
theorem getW_list {st : S} {a : Addr} {xs : List V} {k : Nat} {z : V} {Q : V → S → Prop} (h : st.σ a = some (.list xs)) (hk : xs[k]? = some z) (hb : k < 1000000) (q : Q z st) : getW (.ref a) (.int (k : Nat)) Q st :=
  .inl ⟨xs, by simp [getL, h], by omega, by omega, z, by simpa using hk, q⟩
theorem putW_list {st : S} {a : Addr} {xs : List V} {k : Nat} {z : V} {K : S → Prop} (h : st.σ a = some (.list xs)) (hk : k < xs.length) (hb : k < 1000000) (q : K (st.put a (.list (xs.set k z)))) : putW (.ref a) (.int (k : Nat)) z K st :=
  ⟨a, k, rfl, rfl, .inl ⟨xs, h, by omega, by omega, by simpa using hk, by simpa using q⟩⟩
theorem ltW_tv {st : S} {x y : List Int} {Q : Bool → S → Prop} (hl : x.length = y.length) (q : Q (lexLt x y) st) : ltW (tv x) (tv y) Q st := ⟨x, y, intsOf_map _, intsOf_map _, hl, q⟩

variable {st : S} {Q : V → S → Prop} {i j : Int}
theorem subI (r : Int) (hr : i - j = r) (q : Q (.int r) st) : subW (.int i) (.int j) Q st := ⟨i, j, rfl, rfl, trivial, by subst hr; exact q⟩
theorem addI (r : Int) (hr : i + j = r) (q : Q (.int r) st) : addW (.int i) (.int j) Q st := by subst hr; exact q
theorem mulI (r : Int) (hi : -(2 ^ 62) < i ∧ i < 2 ^ 62) (hr : i * j = r) (q : Q (.int r) st) : mulW (.int i) (.int j) Q st := by subst hr; exact ⟨hi, q⟩
theorem fdivI (r : Int) (hj : 0 < j ∧ j < 1073741824) (hr : i / j = r) (q : Q (.int r) st) : fdivW (.int i) (.int j) Q st := ⟨i, j, rfl, rfl, hj, by subst hr; exact q⟩
theorem modI (r : Int) (hj : 0 < j) (hr : i % j = r) (q : Q (.int r) st) : modW (.int i) (.int j) Q st := ⟨i, j, rfl, rfl, hj, by subst hr; exact q⟩
theorem rshI (r : Int) (hj : 0 ≤ j) (hr : i / 2 ^ j.toNat = r) (q : Q (.int r) st) : rshW (.int i) (.int j) Q st := ⟨i, j, rfl, rfl, hj, by subst hr; exact q⟩
theorem lshI (r : Int) (hj : 0 ≤ j ∧ j ≤ 1000 ∧ i.natAbs < 2 ^ 64) (hr : i * 2 ^ j.toNat = r) (q : Q (.int r) st) : lshW (.int i) (.int j) Q st := ⟨i, j, rfl, rfl, hj, by subst hr; exact q⟩
theorem powI (r : Int) (hj : (i = 2 ∨ i = 3) ∧ 0 ≤ j ∧ j ≤ 1000) (hr : i ^ j.toNat = r) (q : Q (.int r) st) : powW (.int i) (.int j) Q st := ⟨i, j, rfl, rfl, hj, by subst hr; exact q⟩
theorem andI (r : Int) (hr : Builtin.bitAnd i j = r) (q : Q (.int r) st) : andW (.int i) (.int j) Q st := ⟨i, j, rfl, rfl, trivial, by subst hr; exact q⟩
theorem orI (r : Int) (hr : Builtin.bitOr i j = r) (q : Q (.int r) st) : orW (.int i) (.int j) Q st := ⟨i, j, rfl, rfl, trivial, by subst hr; exact q⟩
theorem xorI (r : Int) (hr : Builtin.bitXor i j = r) (q : Q (.int r) st) : xorW (.int i) (.int j) Q st := ⟨i, j, rfl, rfl, trivial, by subst hr; exact q⟩
abbrev HS (m : Nat) (hs : List (List Int)) : Prop := ∀ h ∈ hs, h.length = m
theorem HS.set {m : Nat} {hs : List (List Int)} {k : Nat} {x : List Int} (h : HS m hs) (hx : x.length = m) : HS m (hs.set k x) := fun y hy => by
  rcases List.mem_or_eq_of_mem_set hy with h' | rfl
  · exact h y h'
  · exact hx
theorem HS.get {m : Nat} {hs : List (List Int)} {k : Nat} {x : List Int} (h : HS m hs) (hx : hs[k]? = some x) : x.length = m := h x (List.mem_of_getElem? hx)

/-! ### _siftdown -/
abbrev sdT : PB := cmW (icmpW fun i j => decide (j < i)) (locW 2) (locW 1)
abbrev sdB : PF := seqW (asgS (biW rshW (biW subW (locW 2) (cW (.int 1))) (cW (.int 1))) (setW 4))
  (seqW (asgS (itW (locW 0) (locW 4)) (setW 5))
  (seqW (ifS (cmW ltW (locW 3) (locW 5)) (seqW (putS (locW 5) (locW 0) (locW 2))
  (seqW (asgS (locW 4) (setW 2))
  (seqW contW
  nilW))) nilW)
  (seqW brkW
  nilW)))
theorem par_int {p : Nat} (h : 0 < p) : ((p : Int) - 1) / 2 ^ (1 : Int).toNat = ((par p : Nat) : Int) := by
  unfold par
  have : (2 : Int) ^ (1 : Int).toNat = 2 := rfl
  rw [this]; omega
theorem sd_loop {a : Addr} {σ₀ : St} {s m : Nat} {x : List Int} {Q : Fl → S → Prop} (hx : x.length = m) : ∀ (n p : Nat) (hs : List (List Int)) (st : S), p < n → st.ρ 0 = some (.ref a) → st.ρ 1 = some (.int s) → st.ρ 2 = some (.int p) → st.ρ 3 = some (tv x) →
    st.σ = upd σ₀ a (.list (hv hs)) → HS m hs → hs.length ≤ 1000000 → p < hs.length → Desc s p → Hole leL s p (hs.set p x) →
    (∀ (st' : S) (p' : Nat) (hs' : List (List Int)), st'.ρ 0 = some (.ref a) → st'.ρ 2 = some (.int p') → st'.ρ 3 = some (tv x) → st'.σ = upd σ₀ a (.list (hv hs')) → p' < hs'.length → HeapFrom leL s (hs'.set p' x) → (hs'.set p' x).Perm (hs.set p x) → hs'.length = hs.length → Q .next st') →
    whileN sdT sdB Q n st := by
  intro n
  induction n with
  | zero => intros; omega
  | succ n ih =>
    intro p hs st hpn h0 h1 h2 h3 hσ hm hbig hp hd hh K
    refine ⟨_, h2, _, h1, _, _, rfl, rfl, ?_⟩
    refine ifP (fun hb => ?_) (fun hb => ?_)
    · have hsp : s < p := by simpa using hb
      have hpl := par_lt (show 0 < p by omega)
      obtain ⟨y, hy⟩ : ∃ y, hs[par p]? = some y := ⟨_, List.getElem?_eq_getElem (by omega)⟩
      have hvp : (hs.set p x)[p]? = some x := by rw [List.getElem?_set_self hp]
      have hvy : (hs.set p x)[par p]? = some y := by rw [List.getElem?_set_ne (by omega)]; exact hy
      refine ⟨_, h2, subI ((p : Int) - 1) rfl (rshI (par p) (by decide) (par_int (by omega)) ?_)⟩
      refine ⟨_, h0, _, rfl, _, rfl, getW_list (by show st.σ a = _; rw [hσ]; exact upd_at) (hv_get hy) (by omega) ?_⟩
      refine ⟨_, h3, _, rfl, ltW_tv (by rw [hx, hm.get hy]) ?_⟩
      refine ifF (fun hb => ?_) (fun hb => ?_)
      · refine ⟨_, rfl, _, h0, _, h2, putW_list (by show st.σ a = _; rw [hσ]; exact upd_at) (by rw [hv_len]; exact hp) (by omega) ?_⟩
        refine ⟨_, rfl, ?_⟩
        refine ih (par p) (hs.set p y) _ (by omega) h0 h1 rfl h3 ?_ (hm.set (hm.get hy)) (by simpa using hbig) (by simp; omega) (hd.up hsp) ?_ ?_
        · show upd st.σ a _ = _
          rw [hσ, upd_upd, hv_set]
        · have := hh.step lex_trans hd hsp hvp hvy (lex_lt_le hb)
          simpa using this
        · intro st' p' hs' e0 e2 e3 e4 e5 e6 e7 e8
          refine K st' p' hs' e0 e2 e3 e4 e5 e6 (e7.trans ?_) (by simpa using e8)
          have := set2_perm hvp hvy
          simpa using this
      · exact K _ p hs h0 h2 h3 hσ hp (hh.done hvp hvy hb) (.refl _) rfl
    · have hps : p = s := by have := hd.le; have : ¬ s < p := (by simpa using hb); omega
      subst hps
      exact K st p hs h0 h2 h3 hσ hp hh.done0 (.refl _) rfl
theorem c_siftdown {W : Wd} (G : GW W) {j : Nat} {a : Addr} {s p m : Nat} {hs : List (List Int)} {x : List Int} {σ : St} {Q : V → St → Prop} (ha : σ a = some (.list (hv hs))) (hm : HS m hs) (hbig : hs.length ≤ 1000000) (hx : hs[p]? = some x) (hd : Desc s p) (hh : Hole leL s p hs)
    (q : ∀ hs', hs'.Perm hs → HeapFrom leL s hs' → Q .none (upd σ a (.list (hv hs')))) : CallOK W (j + 1) 49 [.ref a, .int s, .int p] [] Q σ := by
  have hp := (List.getElem?_eq_some_iff.mp hx).1
  have hxs : hs.set p x = hs := by
    obtain ⟨h, e⟩ := List.getElem?_eq_some_iff.mp hx
    rw [← e]; exact List.set_getElem_self h
  refine cS__siftdown G rfl ?_
  refine ⟨_, rfl, _, rfl, _, rfl, getW_list ha (hv_get hx) (by omega) ?_⟩
  refine ⟨p + 1, ?_⟩
  refine sd_loop (a := a) (σ₀ := σ) (s := s) (m := m) (x := x) (hm.get hx) (p + 1) p hs _ (by omega) rfl rfl rfl rfl (upd_self ha).symm hm hbig hp hd (by rw [hxs]; exact hh) ?_
  intro st' p' hs' e0 e2 e3 e4 e5 e6 e7 e8
  refine ⟨_, e3, _, e0, _, e2, putW_list (by rw [e4]; exact upd_at) (by rw [hv_len]; exact e5) (by omega) ?_⟩
  refine ⟨_, fun _ _ h => h, ?_⟩
  show Q .none (upd st'.σ a _)
  rw [e4, upd_upd, hv_set]
  rw [hxs] at e7
  exact q _ e7 e6
end Mine

namespace Mine
open PySem PySem.W PyProof.Rows PySem.Calls

theorem ltI {st : S} {i j : Int} {Q : Bool → S → Prop} (q : Q (decide (i < j)) st) : ltW (.int i) (.int j) Q st := q
abbrev suT : PB := cmW ltW (locW 5) (locW 2)
abbrev suTail : PF := seqW (putS (itW (locW 0) (locW 5)) (locW 0) (locW 1))
  (seqW (asgS (locW 5) (setW 1))
  (seqW (asgS (biW addW (biW mulW (cW (.int 2)) (locW 1)) (cW (.int 1))) (setW 5))
  nilW))
abbrev suB : PF := seqW (asgS (biW addW (locW 5) (cW (.int 1))) (setW 6))
  (seqW (ifS (andB (cmW ltW (locW 6) (locW 2)) (notB (cmW ltW (itW (locW 0) (locW 5)) (itW (locW 0) (locW 6))))) (seqW (asgS (locW 6) (setW 5))
  nilW) nilW) suTail)
theorem su_loop {a : Addr} {σ₀ : St} {s m : Nat} {x : List Int} {Q : Fl → S → Prop} (hx : x.length = m) : ∀ (n p : Nat) (hs : List (List Int)) (st : S), hs.length ≤ n + p → st.ρ 0 = some (.ref a) → st.ρ 1 = some (.int p) → st.ρ 2 = some (.int hs.length) → st.ρ 3 = some (.int s) → st.ρ 4 = some (tv x) →
    st.ρ 5 = some (.int (2 * p + 1 : Nat)) → st.σ = upd σ₀ a (.list (hv hs)) → HS m hs → hs.length ≤ 1000000 → p < hs.length → Desc s p → Hole1 leL s p (hs.set p x) →
    (∀ (st' : S) (p' : Nat) (hs' : List (List Int)), st'.ρ 0 = some (.ref a) → st'.ρ 1 = some (.int p') → st'.ρ 3 = some (.int s) → st'.ρ 4 = some (tv x) → st'.σ = upd σ₀ a (.list (hv hs')) → p' < hs'.length → Desc s p' → Hole leL s p' (hs'.set p' x) → (hs'.set p' x).Perm (hs.set p x) → hs'.length = hs.length → HS m hs' → Q .next st') →
    whileN suT suB Q (n + 1) st := by
  intro n
  induction n with
  | zero => intros; omega
  | succ n ih =>
    intro p hs st hpn h0 h1 h2 h3 h4 h5 hσ hm hbig hp hd hh K
    refine ⟨_, h5, _, h2, ltI ?_⟩
    have hvp : (hs.set p x)[p]? = some x := by rw [List.getElem?_set_self hp]
    refine ifP (fun hb => ?_) (fun hb => ?_)
    · have hc : 2 * p + 1 < hs.length := by have := of_decide_eq_true hb; omega
      have tail : ∀ (st : S) (c : Nat) (y : List Int), st.ρ 0 = some (.ref a) → st.ρ 1 = some (.int p) → st.ρ 2 = some (.int hs.length) → st.ρ 3 = some (.int s) → st.ρ 4 = some (tv x) → st.ρ 5 = some (.int c) → st.σ = upd σ₀ a (.list (hv hs)) → hs[c]? = some y → 0 < c → par c = p →
          (∀ i, 0 < i → par i = p → ∀ z, (hs.set p x)[i]? = some z → leL y z) → suTail (fun f st₂ => match f with | .next => whileN suT suB Q (n + 1) st₂ | .cont => whileN suT suB Q (n + 1) st₂ | .brk => Q .next st₂ | .ret v => Q (.ret v) st₂) st := by
        intro st c y h0 h1 h2 h3 h4 h5 hσ hy hc0 hpc hmin
        have hcl := (List.getElem?_eq_some_iff.mp hy).1
        have hpl := par_lt hc0
        have hvc : (hs.set p x)[c]? = some y := by rw [List.getElem?_set_ne (by omega)]; exact hy
        refine ⟨_, h0, _, h5, _, rfl, getW_list (by rw [hσ]; exact upd_at) (hv_get hy) (by omega) ?_⟩
        refine ⟨_, h0, _, h1, putW_list (by rw [hσ]; exact upd_at) (by rw [hv_len]; exact hp) (by omega) ?_⟩
        refine ⟨_, h5, ?_⟩
        refine ⟨_, rfl, mulI (2 * c : Nat) (by decide) (by omega) (addI (2 * c + 1 : Nat) (by omega) ?_)⟩
        refine ih c (hs.set p y) _ (by simp; omega) h0 rfl (by rw [List.length_set]; exact h2) h3 h4 rfl ?_ (hm.set (hm.get hy)) (by simpa using hbig) (by simpa using hcl) (.step hc0 (by rw [hpc]; exact hd)) ?_ ?_
        · show upd st.σ a _ = _
          rw [hσ, upd_upd, hv_set]
        · have := hh.step hd.le hc0 hpc hvp hvc hmin
          simpa using this
        · intro st' p' hs' e0 e1 e3 e4 e5 e6 e7 e8 e9 e10 e11
          refine K st' p' hs' e0 e1 e3 e4 e5 e6 e7 e8 (e9.trans ?_) (by simpa using e10) e11
          have := set2_perm hvp hvc
          simpa using this
      obtain ⟨y, hy⟩ : ∃ y, hs[2 * p + 1]? = some y := ⟨_, List.getElem?_eq_getElem (by omega)⟩
      refine ⟨_, h5, addI (2 * p + 2 : Nat) (by omega) ?_⟩
      refine ⟨_, rfl, _, h2, ltI ?_⟩
      refine ifF (fun hb2 => ?_) (fun hb2 => ?_)
      · have hc2 : 2 * p + 2 < hs.length := by have := of_decide_eq_true hb2; omega
        obtain ⟨z, hz⟩ : ∃ z, hs[2 * p + 2]? = some z := ⟨_, List.getElem?_eq_getElem (by omega)⟩
        refine ⟨_, h0, _, h5, _, rfl, getW_list (by show st.σ a = _; rw [hσ]; exact upd_at) (hv_get hy) (by omega) ?_⟩
        refine ⟨_, h0, _, rfl, _, rfl, getW_list (by show st.σ a = _; rw [hσ]; exact upd_at) (hv_get hz) (by omega) ?_⟩
        refine ltW_tv (by rw [hm.get hy, hm.get hz]) ?_
        have two : ∀ i, 0 < i → par i = p → ∀ w, (hs.set p x)[i]? = some w → w = y ∨ w = z := fun i hi hpi w hw => by
          have hne : i ≠ p := by have := par_lt hi; omega
          rw [List.getElem?_set_ne (Ne.symm hne)] at hw
          have : i = 2 * p + 1 ∨ i = 2 * p + 2 := by unfold par at hpi; omega
          rcases this with e | e
          · rw [e, hy] at hw; cases hw; exact .inl rfl
          · rw [e, hz] at hw; cases hw; exact .inr rfl
        refine ifF (fun hb3 => ?_) (fun hb3 => ?_)
        · have hzy : leL z y := by unfold leL; simpa using hb3
          refine ⟨_, rfl, ?_⟩
          refine tail _ (2 * p + 2) z h0 h1 h2 h3 h4 rfl hσ hz (by omega) (by unfold par; omega) fun i hi hpi w hw => ?_
          rcases two i hi hpi w hw with rfl | rfl
          · exact hzy
          · exact lex_refl _
        · have hyz : leL y z := lex_lt_le (by simpa using hb3)
          refine tail _ (2 * p + 1) y h0 h1 h2 h3 h4 h5 hσ hy (by omega) (by unfold par; omega) fun i hi hpi w hw => ?_
          rcases two i hi hpi w hw with rfl | rfl
          · exact lex_refl _
          · exact hyz
      · have hc2 : ¬ 2 * p + 2 < hs.length := by have := of_decide_eq_false hb2; omega
        refine tail _ (2 * p + 1) y h0 h1 h2 h3 h4 h5 hσ hy (by omega) (by unfold par; omega) fun i hi hpi w hw => ?_
        have hne : i ≠ p := by have := par_lt hi; omega
        rw [List.getElem?_set_ne (Ne.symm hne)] at hw
        have hil := (List.getElem?_eq_some_iff.mp hw).1
        have : i = 2 * p + 1 := by unfold par at hpi; omega
        rw [this, hy] at hw; cases hw; exact lex_refl _
    · have hc : ¬ 2 * p + 1 < hs.length := by have := of_decide_eq_false hb; omega
      exact K st p hs h0 h1 h3 h4 hσ hp hd (hh.leaf (by simp; omega)) (.refl _) rfl hm
theorem set_self {α : Type} {hs : List α} {p : Nat} {x : α} (hx : hs[p]? = some x) : hs.set p x = hs := by
  obtain ⟨h, e⟩ := List.getElem?_eq_some_iff.mp hx
  rw [← e]; exact List.set_getElem_self h
theorem getL_ref {st : S} {a : Addr} {xs : List V} (h : st.σ a = some (.list xs)) : getL st (.ref a) = some xs := by simp [getL, h]
theorem c_siftup {W : Wd} (G : GW W) {j : Nat} {a : Addr} {s m : Nat} {hs : List (List Int)} {σ : St} {Q : V → St → Prop} (ha : σ a = some (.list (hv hs))) (hm : HS m hs) (hbig : hs.length ≤ 1000000) (hp : s < hs.length) (hh : HeapFrom leL (s + 1) hs)
    (q : ∀ hs', hs'.Perm hs → HeapFrom leL s hs' → Q .none (upd σ a (.list (hv hs')))) : CallOK W (j + 2) 56 [.ref a, .int s] [] Q σ := by
  obtain ⟨x, hx⟩ : ∃ x, hs[s]? = some x := ⟨_, List.getElem?_eq_getElem hp⟩
  refine cS__siftup G rfl ?_
  refine ⟨_, rfl, _, rfl, .inl ⟨_, getL_ref ha, by rw [hv_len]; exact hbig, ?_⟩⟩
  refine ⟨_, rfl, ?_⟩
  refine ⟨_, rfl, _, rfl, _, rfl, getW_list ha (hv_get hx) (by omega) ?_⟩
  refine ⟨_, rfl, mulI (2 * s : Nat) (by decide) (by omega) (addI (2 * s + 1 : Nat) (by omega) ?_)⟩
  refine ⟨hs.length + 1, ?_⟩
  refine su_loop (a := a) (σ₀ := σ) (s := s) (m := m) (x := x) (hm.get hx) hs.length s hs _ (by omega) rfl rfl (by rw [← hv_len]; rfl) rfl rfl rfl (upd_self ha).symm hm hbig hp .refl (by rw [set_self hx]; exact .init hh) ?_
  intro st' p' hs' e0 e1 e3 e4 e5 e6 e7 e8 e9 e10 e11
  refine ⟨_, e4, _, e0, _, e1, putW_list (by rw [e5]; exact upd_at) (by rw [hv_len]; exact e6) (by omega) ?_⟩
  refine ⟨_, e0, _, e3, _, e1, ?_⟩
  have e5' : (st'.put a (.list ((hv hs').set p' (tv x)))).σ = upd σ a (.list (hv (hs'.set p' x))) := by
    show upd st'.σ a _ = _
    rw [e5, upd_upd, hv_set]
  show CallOK W (j + 1) 49 [.ref a, .int s, .int p'] [] _ (st'.put a (.list ((hv hs').set p' (tv x)))).σ
  rw [e5']
  rw [set_self hx] at e9
  refine c_siftdown (j := j) (p := p') (x := x) G upd_at (e11.set (hm.get hx)) (by simp; omega) (by rw [List.getElem?_set_self e6]) e7 e8 fun hs'' hpm hhf => ?_
  refine ⟨_, fun _ _ h => h, ?_⟩
  show Q .none (upd (upd σ a _) a _)
  rw [upd_upd]
  exact q hs'' (hpm.trans e9) hhf
end Mine

namespace Mine
open PySem PySem.W PyProof.Rows PySem.Calls

theorem hv_append {hs gs : List (List Int)} : hv (hs ++ gs) = hv hs ++ hv gs := List.map_append
theorem c_heappush {W : Wd} (G : GW W) {j : Nat} {a : Addr} {m : Nat} {hs : List (List Int)} {x : List Int} {σ : St} {Q : V → St → Prop} (ha : σ a = some (.list (hv hs))) (hm : HS m hs) (hx : x.length = m) (hbig : hs.length < 1000000) (hh : HeapFrom leL 0 hs)
    (q : ∀ hs', hs'.Perm (hs ++ [x]) → HeapFrom leL 0 hs' → Q .none (upd σ a (.list (hv hs')))) : CallOK W (j + 2) 28 [.ref a, tv x] [] Q σ := by
  refine cS_heappush G rfl ?_
  refine ⟨_, rfl, _, getL_ref ha, _, rfl, _, _, _, rfl, rfl, ha, by rw [hv_len]; omega, ?_⟩
  have ea : (S.put ⟨σ, fun i => [V.ref a, tv x][i]?⟩ a (.list (hv hs ++ [tv x]))).σ a = some (.list (hv (hs ++ [x]))) := by
    show upd σ a _ a = _
    rw [upd_at, hv_append]; rfl
  refine ⟨_, rfl, _, rfl, _, rfl, .inl ⟨_, getL_ref ea, by rw [hv_len]; simp; omega, ?_⟩⟩
  refine subI (hs.length : Nat) (by rw [hv_len]; simp) ?_
  have hm' : HS m (hs ++ [x]) := fun y hy => by
    rcases List.mem_append.mp hy with h | h
    · exact hm y h
    · rw [List.mem_singleton.mp h]; exact hx
  refine c_siftdown (j := j) (s := 0) (p := hs.length) (x := x) G ea hm' (by simp; omega) (by simp) (.zero _) (.push hh x) fun hs' hp hf => ?_
  refine ⟨_, fun _ _ h => h, ?_⟩
  show Q .none (upd (upd σ a _) a _)
  rw [upd_upd]
  exact q hs' hp hf
theorem c_heappop {W : Wd} (G : GW W) {j : Nat} {a : Addr} {m : Nat} {hs : List (List Int)} {x : List Int} {σ : St} {Q : V → St → Prop} (ha : σ a = some (.list (hv hs))) (hm : HS m hs) (hbig : hs.length < 1000000) (hh : HeapFrom leL 0 hs) (hx : hs[0]? = some x)
    (q : ∀ hs', (x :: hs').Perm hs → HeapFrom leL 0 hs' → Q (tv x) (upd σ a (.list (hv hs')))) : CallOK W (j + 3) 35 [.ref a] [] Q σ := by
  have hne : hs ≠ [] := by intro e; subst e; cases hx
  obtain ⟨l, z, rfl⟩ : ∃ l z, hs = l ++ [z] := ⟨_, _, (List.dropLast_concat_getLast hne).symm⟩
  refine cS_heappop G rfl ?_
  refine ⟨_, rfl, _, getL_ref ha, a, tv z, hv l, rfl, rfl, by rw [← show hv (l ++ [z]) = hv l ++ [tv z] from hv_append]; exact ha, by rw [hv_len]; simp at hbig; omega, ?_⟩
  have ea : ∀ ρ, (S.put ⟨σ, ρ⟩ a (.list (hv l))).σ a = some (.list (hv l)) := fun _ => upd_at
  refine ⟨_, rfl, _, getL_ref (ea _), by rw [hv_len]; simp at hbig; unfold sizeLine; omega, ?_⟩
  refine ifF (fun hb => ?_) (fun hb => ?_)
  · cases l with
    | nil => cases hb
    | cons x' t =>
      simp at hx; subst hx
      refine ⟨_, rfl, _, rfl, getW_list (k := 0) (ea _) (hv_get (x := x') rfl) (by omega) ?_⟩
      refine ⟨_, rfl, _, rfl, putW_list (k := 0) (ea _) (by rw [hv_len]; simp) (by omega) ?_⟩
      refine ⟨_, rfl, ?_⟩
      have e2 : ∀ ρ, (S.put ⟨upd σ a (.list (hv (x' :: t))), ρ⟩ a (.list ((hv (x' :: t)).set 0 (tv z)))).σ = upd σ a (.list (hv (z :: t))) := fun ρ => by
        show upd (upd σ a _) a _ = _
        rw [upd_upd]; rfl
      show CallOK W (j + 2) 56 [.ref a, .int (0 : Nat)] [] _ (upd (upd σ a _) a _)
      rw [upd_upd]
      have hml : HS m (z :: t) := fun y hy => hm y (by
        rcases List.mem_cons.mp hy with h | h
        · simp [h]
        · simp [h])
      refine c_siftup (s := 0) (hs := z :: t) G upd_at hml (by simp at hbig ⊢; omega) (by simp) (HeapFrom.pop (v := x' :: t) (y := z) hh) fun hs' hp hf => ?_
      refine ⟨_, rfl, _, fun _ _ h => h, ?_⟩
      show Q (tv x') (upd (upd σ a _) a _)
      rw [upd_upd]
      refine q hs' ?_ hf
      exact (hp.cons x').trans (by simpa using (List.perm_append_singleton z t).symm)
  · cases l with
    | cons x' t => cases hb
    | nil =>
      simp at hx; subst hx
      refine ⟨_, rfl, _, fun _ _ h => h, ?_⟩
      exact q [] (.refl _) (fun i _ _ a b _ hb => by simp at hb)
abbrev hpB (W : Wd) (j : Nat) : PF := seqW (exprW (cbW (argS (locW 0) (argS (locW 2) arg0)) (callW W j 56))) nilW
theorem hp_loop {W : Wd} (G : GW W) {j : Nat} {a : Addr} {m N : Nat} {σ₀ : St} {Q : Fl → S → Prop} (hN : N ≤ 1000000) : ∀ (k : Nat) (hs : List (List Int)) (st : S), k ≤ N / 2 → hs.length = N → st.ρ 0 = some (.ref a) → st.σ = upd σ₀ a (.list (hv hs)) → HS m hs → HeapFrom leL k hs →
    (∀ (st' : S) (hs' : List (List Int)), st'.σ = upd σ₀ a (.list (hv hs')) → hs'.Perm hs → HeapFrom leL 0 hs' → Q .next st') → forL (setW 2) (hpB W (j + 2)) Q ((List.range k).map fun (i : Nat) => V.int ((k : Int) - 1 + (i : Int) * (-1))) st := by
  intro k
  induction k with
  | zero => intro hs st _ _ _ hσ _ hh K; exact K st hs hσ (.refl _) hh
  | succ k ih =>
    intro hs st hk hl h0 hσ hm hh K
    have e : (List.range (k + 1)).map (fun (i : Nat) => V.int (((k + 1 : Nat) : Int) - 1 + (i : Int) * (-1))) = V.int (k : Nat) :: (List.range k).map fun (i : Nat) => V.int ((k : Int) - 1 + (i : Int) * (-1)) := by
      rw [List.range_succ_eq_map, List.map_cons, List.map_map]
      congr 1
      · congr 1; omega
      · apply List.map_congr_left; intro i _; simp only [Function.comp]; congr 1; omega
    rw [e]
    refine ⟨_, h0, _, rfl, ?_⟩
    show CallOK W (j + 2) 56 [.ref a, .int k] [] _ st.σ
    rw [hσ]
    refine c_siftup (s := k) (hs := hs) G upd_at hm (by omega) (by omega) hh fun hs' hp hf => ?_
    refine ih hs' _ (by omega) (by rw [hp.length_eq]; exact hl) h0 ?_ (fun y hy => hm y (hp.mem_iff.mp hy)) hf fun st' hs'' e1 e2 e3 => K st' hs'' e1 (e2.trans hp) e3
    show upd (upd σ₀ a _) a _ = _
    rw [upd_upd]
theorem del_put {σ : St} {ρ : Nat → Option V} {b : Addr} {x : AO} (h : σ b = none) : ((S.put ⟨σ, ρ⟩ b x).del b).σ = σ := by
  funext c
  show (if c = b then none else if c = b then _ else σ c) = σ c
  by_cases e : c = b
  · rw [if_pos e, e, h]
  · rw [if_neg e, if_neg e]
theorem c_heapify {W : Wd} (G : GW W) {j : Nat} {a : Addr} {m : Nat} {hs : List (List Int)} {σ : St} {Q : V → St → Prop} (ha : σ a = some (.list (hv hs))) (hm : HS m hs) (hbig : hs.length ≤ 1000000)
    (q : ∀ hs', hs'.Perm hs → HeapFrom leL 0 hs' → Q .none (upd σ a (.list (hv hs')))) : CallOK W (j + 3) 42 [.ref a] [] Q σ := by
  refine cS_heapify G rfl ?_
  refine ⟨_, rfl, _, rfl, .inl ⟨_, getL_ref ha, by rw [hv_len]; exact hbig, ?_⟩⟩
  refine ⟨_, rfl, fdivI (hs.length / 2 : Nat) (by decide) (by rw [hv_len]; omega) ?_⟩
  refine .inl ⟨_, rfl, ?_⟩
  refine ⟨_, rfl, by omega, by omega, ?_⟩
  intro b hb
  refine ⟨b, _, (List.range (hs.length / 2)).map (fun (i : Nat) => V.int (((hs.length / 2 : Nat) : Int) - 1 + (i : Int) * (-1))), rfl, show upd σ b (.riter (((hs.length / 2 : Nat) : Int) - 1) ((hs.length / 2 : Nat) : Int) (-1)) b = _ from upd_at, ?_, ?_⟩
  · show (if (0 : Int) ≤ ((hs.length / 2 : Nat) : Int) then some ((List.range ((hs.length / 2 : Nat) : Int).toNat).map fun (i : Nat) => V.int (((hs.length / 2 : Nat) : Int) - 1 + (i : Int) * (-1))) else none) = _
    rw [if_pos (by omega)]
    rfl
  · refine hp_loop (j := j) (a := a) (m := m) (N := hs.length) (σ₀ := σ) G hbig (hs.length / 2) hs _ (Nat.le_refl _) rfl rfl ((del_put hb).trans (upd_self ha).symm) hm (.big (by omega)) ?_
    intro st' hs' e1 e2 e3
    exact ⟨_, fun _ _ h => h, by rw [e1]; exact q hs' e2 e3⟩
end Mine

namespace Mine
open PySem PySem.W PyProof.Rows PySem.Calls

theorem and_high : ∀ (k : Nat) (x y : Int), 0 ≤ y → y < 2 ^ k → Builtin.bitAnd (x * 2 ^ k) y = 0
  | 0, x, y, h0, h1 => by
    have : y = 0 := by simp at h1; omega
    subst this; exact bitAnd_zero _
  | k + 1, x, y, h0, h1 => by
    rw [kbt_halves]
    have e : x * 2 ^ (k + 1) = 2 * (x * 2 ^ k) := by rw [Int.pow_succ, ← Int.mul_assoc, Int.mul_comm]
    have e1 : x * 2 ^ (k + 1) / 2 = x * 2 ^ k := by rw [e]; omega
    have e2 : x * 2 ^ (k + 1) % 2 = 0 := by rw [e]; omega
    rw [e1, e2, and_high k x (y / 2) (by omega) (by rw [Int.pow_succ] at h1; omega)]
    simp
theorem or_low (k : Nat) {x y : Int} (h0 : 0 ≤ y) (h1 : y < 2 ^ k) : Builtin.bitOr (x * 2 ^ k) y = x * 2 ^ k + y := by
  rw [bitOr_and, and_high k x y h0 h1]; omega

theorem eqI {st : S} {i j : Int} {Q : Bool → S → Prop} (q : Q (i == j) st) : eqW (.int i) (.int j) Q st := ⟨_, _, rfl, rfl, by simpa [PyData.eqv] using q⟩
theorem neI {st : S} {i j : Int} {Q : Bool → S → Prop} (q : Q (!(i == j)) st) : neW (.int i) (.int j) Q st := ⟨_, _, rfl, rfl, by simpa [PyData.eqv] using q⟩
theorem Sub.refl (σ : St) : St.Sub σ σ := fun _ _ h => h
theorem tt_true {a : String} : (Value.type a == Value.type a) = true := by simp

theorem c_buffer {W : Wd} (G : GW W) {j : Nat} {b : List Int} {σ : St} {Q : V → St → Prop} (q : Q (.bytes b) σ) : CallOK W (j + 1) 91 [.bytes b] [] Q σ := by
  refine cS__buffer G rfl ?_
  refine ⟨_, rfl, .inl ⟨_, rfl, ?_⟩⟩
  refine ⟨_, rfl, _, .tt _ _, ?_⟩
  exact ⟨_, rfl, σ, Sub.refl _, q⟩
theorem c_ascii {W : Wd} (G : GW W) {j : Nat} {b : List Int} {σ : St} {Q : V → St → Prop} (q : Q (.bytes b) σ) : CallOK W (j + 1) 84 [.bytes b] [] Q σ := by
  refine cS__ascii_buffer G rfl ?_
  refine ⟨_, rfl, .inl ⟨_, rfl, ?_⟩⟩
  refine ⟨_, rfl, _, .tt _ _, ?_⟩
  show _
  refine ⟨_, rfl, _, .tt _ _, ?_⟩
  exact ⟨_, rfl, σ, Sub.refl _, q⟩
theorem c_truth {W : Wd} (G : GW W) {j : Nat} {b : Bool} {σ : St} {Q : V → St → Prop} (q : Q (.bool b) σ) : CallOK W (j + 1) 98 [.bool b] [] Q σ := by
  refine cS__truth G rfl ?_
  refine ⟨_, rfl, .inr ⟨_, rfl, ?_⟩⟩
  refine ⟨_, rfl, _, .bn _, ?_⟩
  refine ⟨_, rfl, _, .tt _ _, ?_⟩
  refine ⟨_, rfl, ?_⟩
  cases b with
  | true => exact ⟨σ, Sub.refl _, q⟩
  | false => exact ⟨σ, Sub.refl _, q⟩
theorem c_fromdec {W : Wd} (G : GW W) {j : Nat} {b : List Int} {σ : St} {Q : V → St → Prop} (q : Q (.bytes b) σ) : CallOK W (j + 1) 64 [.bytes b] [] Q σ := by
  refine cS__bytes_from_decode_data G rfl ?_
  refine ⟨_, rfl, .inl ⟨b, "str", false, rfl, by decide +kernel, ?_⟩⟩
  obtain ⟨n, hn⟩ := G.h_bt
  refine ⟨_, rfl, .inr ⟨b, 57, _, n, true, rfl, hn, by decide +kernel, ?_⟩⟩
  exact ⟨_, rfl, σ, Sub.refl _, q⟩

def cv (n : Int) : Int := b64L.getD n.toNat 0
theorem cv_all : ∀ n : Nat, n < 64 → b64L[n]? = some (cv n) ∧ cv n = (if (n : Int) < 26 then (n : Int) + 65 else if (n : Int) < 52 then (n : Int) + 71 else if (n : Int) < 62 then (n : Int) - 4 else if (n : Int) = 62 then 43 else 47) := by decide +kernel
theorem cv_get {i : Int} (h0 : 0 ≤ i) (h1 : i < 64) : b64L[i.toNat]? = some (cv i) := by
  have := (cv_all i.toNat (by omega)).1
  rwa [Int.toNat_of_nonneg h0] at this
theorem cv_eq {i : Int} (h0 : 0 ≤ i) (h1 : i < 64) : cv i = (if i < 26 then i + 65 else if i < 52 then i + 71 else if i < 62 then i - 4 else if i = 62 then 43 else 47) := by
  have := (cv_all i.toNat (by omega)).2
  rwa [Int.toNat_of_nonneg h0] at this
theorem cv_rng {i : Int} (h0 : 0 ≤ i) (h1 : i < 64) : 0 ≤ cv i ∧ cv i < 256 ∧ cv i ≠ 61 := by
  rw [cv_eq h0 h1]
  (repeat' split) <;> omega
theorem b64a {a : Int} (h : 0 ≤ a ∧ a < 256) : 0 ≤ a / 4 ∧ a / 4 < 64 := by omega
theorem b64b {a b : Int} (h : 0 ≤ b ∧ b < 256) : 0 ≤ a % 4 * 16 + b / 16 ∧ a % 4 * 16 + b / 16 < 64 := by omega
theorem b64b0 {a : Int} : 0 ≤ a % 4 * 16 ∧ a % 4 * 16 < 64 := by omega
theorem b64c {b c : Int} (h : 0 ≤ c ∧ c < 256) : 0 ≤ b % 16 * 4 + c / 64 ∧ b % 16 * 4 + c / 64 < 64 := by omega
theorem b64c0 {b : Int} : 0 ≤ b % 16 * 4 ∧ b % 16 * 4 < 64 := by omega
theorem b64d {c : Int} : 0 ≤ c % 64 ∧ c % 64 < 64 := by omega
theorem b64l {L a : Int} : 0 ≤ (L * 256 + a) % 65536 ∧ (L * 256 + a) % 65536 < 65536 := by omega
theorem b64e1 {L a : Int} (h : 0 ≤ a ∧ a < 256) : (L * 256 + a) % 65536 / 4 % 64 = a / 4 := by omega
theorem b64e2 {L a b : Int} (ha : L % 4 = a % 4) (h : 0 ≤ b ∧ b < 256) : (L * 256 + b) % 65536 / 16 % 64 = a % 4 * 16 + b / 16 := by omega
theorem b64e3 {L b c : Int} (hb : L % 16 = b % 16) (h : 0 ≤ c ∧ c < 256) : (L * 256 + c) % 65536 / 64 % 64 = b % 16 * 4 + c / 64 := by omega
theorem b64e4 {L c : Int} : (L * 256 + c) % 65536 % 64 = c % 64 := by omega
theorem b64m4 {L a : Int} : (L * 256 + a) % 65536 % 4 = a % 4 := by omega
theorem b64m16 {L a : Int} : (L * 256 + a) % 65536 % 16 = a % 16 := by omega
theorem b64r1 {a b : Int} (h : 0 ≤ b ∧ b < 256) : a / 4 * 4 + (a % 4 * 16 + b / 16) / 16 = a := by omega
theorem b64r10 {a : Int} : a / 4 * 4 + (a % 4 * 16) / 16 = a := by omega
theorem b64r2 {a b : Int} (h : 0 ≤ b ∧ b < 256) : (a % 4 * 16 + b / 16) % 16 = b / 16 := by omega
theorem b64r20 {a : Int} : (a % 4 * 16) % 16 = 0 := by omega
theorem b64r3 {b c : Int} (h : 0 ≤ c ∧ c < 256) : b / 16 * 16 + (b % 16 * 4 + c / 64) / 4 = b := by omega
theorem b64r30 {b : Int} : b / 16 * 16 + (b % 16 * 4) / 4 = b := by omega
theorem b64r4 {b c : Int} (h : 0 ≤ c ∧ c < 256) : (b % 16 * 4 + c / 64) % 4 = c / 64 := by omega
theorem b64r40 {b : Int} : (b % 16 * 4) % 4 = 0 := by omega
theorem b64r5 {c : Int} : c / 64 * 64 + c % 64 = c := by omega
theorem b64h {b : Int} (h : 0 ≤ b ∧ b < 256) : 0 ≤ b / 16 ∧ b / 16 < 64 := by omega
theorem b64k {b : Int} (h : 0 ≤ b ∧ b < 256) : 0 ≤ b / 64 ∧ b / 64 < 64 := by omega
theorem cv_oct {i : Int} (h : 0 ≤ i ∧ i < 64) : 0 ≤ cv i ∧ cv i < 256 := ⟨(cv_rng h.1 h.2).1, (cv_rng h.1 h.2).2.1⟩
theorem c2I {st : S} {c lo hi : Int} {Q : Bool → S → Prop} (b : Bool) (h : st.ρ 0 = some (.int c)) (hb : decide (lo ≤ c ∧ c ≤ hi) = b) (q : Q b st) : c2W (icmpW fun i j => decide (i ≤ j)) (icmpW fun i j => decide (i ≤ j)) (cW (.int lo)) (locW 0) (cW (.int hi)) Q st := by
  subst hb
  refine ⟨_, h, _, _, rfl, rfl, ifF (fun a => ⟨_, _, rfl, rfl, ?_⟩) (fun a => ?_)⟩
  · have a' := of_decide_eq_true a
    simpa [a'] using q
  · have a' := of_decide_eq_false a
    simpa [a'] using q
theorem c_b64_value {W : Wd} (G : GW W) {j : Nat} {v : Int} {σ : St} {Q : V → St → Prop} (h0 : 0 ≤ v) (h1 : v < 64) (q : Q (.int v) σ) : CallOK W (j + 1) 105 [.int (cv v)] [] Q σ := by
  refine cS__b64_value G rfl ?_
  have e := cv_eq h0 h1
  generalize cv v = c at e
  by_cases k1 : v < 26
  · rw [if_pos k1] at e
    exact c2I true rfl (decide_eq_true (by omega)) ⟨_, rfl, subI v (by omega) ⟨σ, Sub.refl _, q⟩⟩
  rw [if_neg k1] at e
  by_cases k2 : v < 52
  · rw [if_pos k2] at e
    exact c2I false rfl (decide_eq_false (by omega)) (c2I true rfl (decide_eq_true (by omega)) ⟨_, rfl, subI v (by omega) ⟨σ, Sub.refl _, q⟩⟩)
  rw [if_neg k2] at e
  by_cases k3 : v < 62
  · rw [if_pos k3] at e
    exact c2I false rfl (decide_eq_false (by omega)) (c2I false rfl (decide_eq_false (by omega)) (c2I true rfl (decide_eq_true (by omega)) ⟨_, rfl, addI v (by omega) ⟨σ, Sub.refl _, q⟩⟩))
  rw [if_neg k3] at e
  by_cases k4 : v = 62
  · rw [if_pos k4] at e
    subst e; subst k4
    exact c2I false rfl (by decide) (c2I false rfl (by decide) (c2I false rfl (by decide) ⟨_, rfl, eqI ⟨σ, Sub.refl _, q⟩⟩))
  · rw [if_neg k4] at e
    have k5 : v = 63 := by omega
    subst e; subst k5
    exact c2I false rfl (by decide) (c2I false rfl (by decide) (c2I false rfl (by decide) ⟨_, rfl, eqI ⟨_, rfl, eqI ⟨σ, Sub.refl _, q⟩⟩⟩))

/-! ### b2a_base64 -/
def encG : List Int → List Int
  | [] => []
  | [a] => [cv (a / 4), cv (a % 4 * 16), 61, 61]
  | [a, b] => [cv (a / 4), cv (a % 4 * 16 + b / 16), cv (b % 16 * 4), 61]
  | a :: b :: c :: r => cv (a / 4) :: cv (a % 4 * 16 + b / 16) :: cv (b % 16 * 4 + c / 64) :: cv (c % 64) :: encG r
abbrev Oct (bs : List Int) : Prop := ∀ b ∈ bs, 0 ≤ b ∧ b < 256
abbrev whT : PB := cmW (icmpW fun i j => decide (j ≤ i)) (locW 4) (cW (.int 6))
abbrev whB : PF := seqW (exprW (mtW (locW 3) (argS (itW (cW (.bytes b64L)) (biW andW (biW rshW (locW 5) (biW subW (locW 4) (cW (.int 6)))) (cW (.int 63)))) arg0) appendW))
  (seqW (asgS (biW subW (locW 4) (cW (.int 6))) (setW 4))
  nilW)
abbrev b2B : PF := seqW (asgS (biW andW (biW orW (biW lshW (locW 5) (cW (.int 8))) (locW 6)) (cW (.int 65535))) (setW 5))
  (seqW (asgS (biW addW (locW 4) (cW (.int 8))) (setW 4))
  (seqW (whileW whT whB)
  nilW))
theorem getW_b64 {st : S} {i : Int} {Q : V → S → Prop} (h0 : 0 ≤ i) (h1 : i < 64) (q : Q (.int (cv i)) st) : getW (.bytes b64L) (.int i) Q st := ⟨h0, by decide, _, cv_get h0 h1, q⟩
/-- one character goes out -/
theorem wh_step {st : S} {o : Addr} {σ₀ : St} {outs : List V} {k L c : Int} {n : Nat} {Q : Fl → S → Prop} (h3 : st.ρ 3 = some (.ref o)) (h4 : st.ρ 4 = some (.int k)) (h5 : st.ρ 5 = some (.int L)) (hσ : st.σ = upd σ₀ o (.list outs)) (hk : 6 ≤ k) (hl : outs.length ≤ 1000000) (hc : L / 2 ^ (k - 6).toNat % 64 = c)
    (next : ∀ st', (∀ i, i ≠ 4 → st'.ρ i = st.ρ i) → st'.ρ 4 = some (.int (k - 6)) → st'.σ = upd σ₀ o (.list (outs ++ [.int (cv c)])) → whileN whT whB Q n st') : whileN whT whB Q (n + 1) st := by
  have ho : st.σ o = some (.list outs) := by rw [hσ]; exact upd_at
  refine ⟨_, h4, _, _, rfl, rfl, ifP (fun _ => ?_) (fun a => absurd (of_decide_eq_false a) (by omega))⟩
  refine ⟨_, h3, _, getL_ref ho, ?_⟩
  refine ⟨_, h5, _, h4, subI (k - 6) rfl (rshI (L / 2 ^ (k - 6).toNat) (by omega) rfl (andI c (by rw [bitAnd_m6]; exact hc) ?_))⟩
  refine ⟨_, rfl, getW_b64 (by omega) (by omega) ?_⟩
  refine ⟨_, _, _, rfl, rfl, ho, hl, ?_⟩
  refine ⟨_, h4, subI (k - 6) rfl ?_⟩
  refine next _ (fun i hi => if_neg hi) rfl ?_
  show upd st.σ o _ = _
  rw [hσ, upd_upd]
theorem wh_done {st : S} {k : Int} {n : Nat} {Q : Fl → S → Prop} (h4 : st.ρ 4 = some (.int k)) (hk : k < 6) (q : Q .next st) : whileN whT whB Q (n + 1) st :=
  ⟨_, h4, _, _, rfl, rfl, ifP (fun a => absurd (of_decide_eq_true a) (by omega)) (fun _ => q)⟩
structure B2 (o : Addr) (σ₀ : St) (nl : V) (outs : List V) (k L : Int) (st : S) : Prop where
  r1 : st.ρ 1 = some nl
  r3 : st.ρ 3 = some (.ref o)
  r4 : st.ρ 4 = some (.int k)
  r5 : st.ρ 5 = some (.int L)
  hσ : st.σ = upd σ₀ o (.list outs)
/-- one octet goes in -/
theorem b2_in {st : S} {o : Addr} {σ₀ : St} {nl : V} {outs : List V} {k L b : Int} {xs : List V} {Q : Fl → S → Prop} (h : B2 o σ₀ nl outs k L st) (hL : 0 ≤ L ∧ L < 65536) (hb : 0 ≤ b ∧ b < 256)
    (next : ∀ st' Z, B2 o σ₀ nl outs (k + 8) ((L * 256 + b) % 65536) st' → (∀ st, Z .next st = forL (setW 6) b2B Q xs st) → ∃ n, whileN whT whB Z n st') : forL (setW 6) b2B Q (.int b :: xs) st := by
  refine ⟨_, h.r5, lshI (L * 256) (by omega) rfl ⟨_, rfl, orI (L * 256 + b) (or_low 8 (by omega) (by omega)) (andI ((L * 256 + b) % 65536) (bitAnd_m16 _) ?_)⟩⟩
  refine ⟨_, h.r4, addI (k + 8) rfl ?_⟩
  exact next _ _ ⟨h.r1, h.r3, rfl, rfl, h.hσ⟩ (fun _ => rfl)
theorem B2.out {st st' : S} {o : Addr} {σ₀ : St} {nl : V} {outs outs' : List V} {k L : Int} (h : B2 o σ₀ nl outs k L st) (h1 : ∀ i, i ≠ 4 → st'.ρ i = st.ρ i) (h2 : st'.ρ 4 = some (.int (k - 6))) (h3 : st'.σ = upd σ₀ o (.list outs')) : B2 o σ₀ nl outs' (k - 6) L st' :=
  ⟨(h1 1 (by decide)).trans h.r1, (h1 3 (by decide)).trans h.r3, h2, (h1 5 (by decide)).trans h.r5, h3⟩
theorem b2_in1 {st : S} {o : Addr} {σ₀ : St} {nl : V} {outs : List V} {k L b c : Int} {xs : List V} {Q : Fl → S → Prop} (h : B2 o σ₀ nl outs k L st) (hk : k = 0 ∨ k = 2) (hL : 0 ≤ L ∧ L < 65536) (hb : 0 ≤ b ∧ b < 256) (hl : outs.length ≤ 1000000) (hc : (L * 256 + b) % 65536 / 2 ^ (k + 2).toNat % 64 = c)
    (next : ∀ st', B2 o σ₀ nl (outs ++ [.int (cv c)]) (k + 2) ((L * 256 + b) % 65536) st' → forL (setW 6) b2B Q xs st') : forL (setW 6) b2B Q (.int b :: xs) st := by
  refine b2_in h hL hb fun st' Z h' hZ => ⟨2, ?_⟩
  refine wh_step (c := c) h'.r3 h'.r4 h'.r5 h'.hσ (by omega) hl (by rw [← hc, show k + 8 - 6 = k + 2 by omega]) fun st'' e1 e2 e3 => ?_
  have h'' := h'.out e1 e2 e3
  refine wh_done (k := k + 2) (by rw [h''.r4]; congr 2; omega) (by omega) ?_
  rw [hZ]
  exact next _ ⟨h''.r1, h''.r3, by rw [h''.r4]; congr 2; omega, h''.r5, h''.hσ⟩
theorem b2_in2 {st : S} {o : Addr} {σ₀ : St} {nl : V} {outs : List V} {L b c d : Int} {xs : List V} {Q : Fl → S → Prop} (h : B2 o σ₀ nl outs 4 L st) (hL : 0 ≤ L ∧ L < 65536) (hb : 0 ≤ b ∧ b < 256) (hl : outs.length + 1 ≤ 1000000) (hc : (L * 256 + b) % 65536 / 64 % 64 = c) (hd : (L * 256 + b) % 65536 % 64 = d)
    (next : ∀ st', B2 o σ₀ nl (outs ++ [.int (cv c)] ++ [.int (cv d)]) 0 ((L * 256 + b) % 65536) st' → forL (setW 6) b2B Q xs st') : forL (setW 6) b2B Q (.int b :: xs) st := by
  refine b2_in h hL hb fun st' Z h' hZ => ⟨3, ?_⟩
  refine wh_step h'.r3 h'.r4 h'.r5 h'.hσ (by omega) (by omega) hc fun st'' e1 e2 e3 => ?_
  have h'' := h'.out e1 e2 e3
  refine wh_step h''.r3 h''.r4 h''.r5 h''.hσ (by omega) (by simp; omega) (c := d) (by rw [← hd]; simp) fun st3 f1 f2 f3 => ?_
  have h3 := h''.out f1 f2 f3
  refine wh_done h3.r4 (by omega) ?_
  rw [hZ]
  exact next _ h3
def iv (xs : List Int) : List V := xs.map .int
theorem iv_append {xs ys : List Int} : iv (xs ++ ys) = iv xs ++ iv ys := List.map_append
/-- the loop over the octets -/
theorem b2_loop {o : Addr} {σ₀ : St} {nl : V} {Q : Fl → S → Prop} : ∀ (bs : List Int) (outs : List Int) (L : Int) (st : S), B2 o σ₀ nl (iv outs) 0 L st → 0 ≤ L ∧ L < 65536 → Oct bs → outs.length + 2 * bs.length ≤ 100000 →
    (∀ (st' : S) (k L' : Int) (outs' : List Int), B2 o σ₀ nl (iv outs') k L' st' → (0 ≤ L' ∧ L' < 65536) → (k = 0 ∧ outs ++ encG bs = outs' ∨ (k = 2 ∧ outs ++ encG bs = outs' ++ [cv (L' % 4 * 16), 61, 61]) ∨ (k = 4 ∧ outs ++ encG bs = outs' ++ [cv (L' % 16 * 4), 61])) → outs'.length ≤ 100000 → Q .next st') →
    forL (setW 6) b2B Q (iv bs) st
  | [], outs, L, st, h, hL, _, hl, K => K st 0 L outs h hL (.inl ⟨rfl, by simp [encG]⟩) (Nat.le_trans (Nat.le_add_right _ _) hl)
  | [a], outs, L, st, h, hL, ho, hl, K => by
    have ha := ho a (.head _)
    have l0 : (iv outs).length ≤ 1000000 := by unfold iv; rw [List.length_map]; exact Nat.le_trans (Nat.le_add_right _ _) (Nat.le_trans hl (by decide))
    refine b2_in1 (xs := []) (c := a / 4) h (.inl rfl) hL ha l0 (b64e1 ha) fun st' h' => ?_
    refine K st' 2 _ (outs ++ [cv (a / 4)]) (by rw [iv_append]; exact h') b64l (.inr (.inl ⟨rfl, ?_⟩)) (by rw [List.length_append]; exact Nat.le_trans (Nat.add_le_add_left (show 1 ≤ 2 by decide) _) hl)
    rw [b64m4, List.append_assoc]; rfl
  | [a, b], outs, L, st, h, hL, ho, hl, K => by
    have ha := ho a (.head _)
    have hb := ho b (.tail _ (.head _))
    have l0 : (iv outs).length ≤ 100000 := by unfold iv; rw [List.length_map]; exact Nat.le_trans (Nat.le_add_right _ _) hl
    refine b2_in1 (xs := [.int b]) (c := a / 4) h (.inl rfl) hL ha (Nat.le_trans l0 (by decide)) (b64e1 ha) fun st' h' => ?_
    refine b2_in1 (xs := []) (c := a % 4 * 16 + b / 16) h' (.inr rfl) b64l hb (by rw [List.length_append]; exact Nat.le_trans (Nat.add_le_add_right l0 _) (show 100000 + 1 ≤ 1000000 by decide)) (b64e2 b64m4 hb) fun st2 h2 => ?_
    refine K st2 4 _ (outs ++ [cv (a / 4)] ++ [cv (a % 4 * 16 + b / 16)]) (by rw [iv_append, iv_append]; exact h2) b64l (.inr (.inr ⟨rfl, ?_⟩)) (by rw [List.length_append, List.length_append, Nat.add_assoc]; exact Nat.le_trans (Nat.add_le_add_left (show 2 ≤ 4 by decide) _) hl)
    rw [b64m16, List.append_assoc, List.append_assoc]; rfl
  | a :: b :: c :: r, outs, L, st, h, hL, ho, hl, K => by
    have ha := ho a (.head _)
    have hb := ho b (.tail _ (.head _))
    have hc := ho c (.tail _ (.tail _ (.head _)))
    have l0 : (iv outs).length ≤ 100000 := by unfold iv; rw [List.length_map]; exact Nat.le_trans (Nat.le_add_right _ _) hl
    refine b2_in1 (xs := .int b :: .int c :: iv r) (c := a / 4) h (.inl rfl) hL ha (Nat.le_trans l0 (by decide)) (b64e1 ha) fun st' h' => ?_
    refine b2_in1 (xs := .int c :: iv r) (c := a % 4 * 16 + b / 16) h' (.inr rfl) b64l hb (by rw [List.length_append]; exact Nat.le_trans (Nat.add_le_add_right l0 _) (show 100000 + 1 ≤ 1000000 by decide)) (b64e2 b64m4 hb) fun st2 h2 => ?_
    refine b2_in2 (xs := iv r) (c := b % 16 * 4 + c / 64) (d := c % 64) h2 b64l hc (by rw [List.length_append, List.length_append]; exact Nat.le_trans (Nat.add_le_add_right (Nat.add_le_add_right (Nat.add_le_add_right l0 _) _) _) (show 100000 + 1 + 1 + 1 ≤ 1000000 by decide)) (b64e3 b64m16 hc) b64e4 fun st3 h3 => ?_
    have e : outs ++ [cv (a / 4)] ++ [cv (a % 4 * 16 + b / 16)] ++ [cv (b % 16 * 4 + c / 64)] ++ [cv (c % 64)] ++ encG r = outs ++ encG (a :: b :: c :: r) := by
      rw [List.append_assoc, List.append_assoc, List.append_assoc, List.append_assoc]; rfl
    refine b2_loop r (outs ++ [cv (a / 4)] ++ [cv (a % 4 * 16 + b / 16)] ++ [cv (b % 16 * 4 + c / 64)] ++ [cv (c % 64)]) _ st3 (by rw [iv_append, iv_append, iv_append, iv_append]; exact h3) b64l (fun y hy => ho y (.tail _ (.tail _ (.tail _ hy)))) (by simp only [List.length_append, List.length_cons, List.length_nil] at hl ⊢; omega) fun st' k L' outs' e1 e2 e3 e4 => ?_
    rw [e] at e3
    exact K st' k L' outs' e1 e2 e3 e4
end Mine

namespace Mine
open PySem PySem.W PyProof.Rows PySem.Calls

theorem encG_oct : ∀ {bs : List Int}, Oct bs → Oct (encG bs)
  | [], _ => by intro b hb; cases hb
  | [a], h => by
    have ha := h a (.head _)
    intro y hy
    simp only [encG, List.mem_cons, List.not_mem_nil, or_false] at hy
    rcases hy with rfl | rfl | rfl | rfl
    · exact cv_oct (b64a ha)
    · exact cv_oct b64b0
    · exact ⟨by decide, by decide⟩
    · exact ⟨by decide, by decide⟩
  | [a, b], h => by
    have ha := h a (.head _)
    have hb := h b (.tail _ (.head _))
    intro y hy
    simp only [encG, List.mem_cons, List.not_mem_nil, or_false] at hy
    rcases hy with rfl | rfl | rfl | rfl
    · exact cv_oct (b64a ha)
    · exact cv_oct (b64b hb)
    · exact cv_oct b64c0
    · exact ⟨by decide, by decide⟩
  | a :: b :: c :: r, h => by
    have ha := h a (.head _)
    have hb := h b (.tail _ (.head _))
    have hc := h c (.tail _ (.tail _ (.head _)))
    intro y hy
    simp only [encG, List.mem_cons] at hy
    rcases hy with rfl | rfl | rfl | rfl | hy
    · exact cv_oct (b64a ha)
    · exact cv_oct (b64b hb)
    · exact cv_oct (b64c hc)
    · exact cv_oct b64d
    · exact encG_oct (fun y hy => h y (.tail _ (.tail _ (.tail _ hy)))) y hy
theorem encG_len : ∀ {bs : List Int}, (encG bs).length ≤ 2 * bs.length + 4
  | [] => by simp [encG]
  | [a] => by simp [encG]
  | [a, b] => by simp [encG]
  | a :: b :: c :: r => by have := encG_len (bs := r); simp [encG]; omega
theorem intsOf_iv (xs : List Int) : intsOf (iv xs) = some xs := intsOf_map xs
theorem put_iv {st : S} {o : Addr} {σ₀ : St} {xs : List Int} {c : Int} (h : st.σ = upd σ₀ o (.list (iv xs))) : (st.put o (.list (iv xs ++ [.int c]))).σ = upd σ₀ o (.list (iv (xs ++ [c]))) := by
  show upd st.σ o _ = _
  rw [h, upd_upd, iv_append]; rfl
theorem at_iv {σ σ₀ : St} {o : Addr} {x : AO} (h : σ = upd σ₀ o x) : σ o = some x := by rw [h]; exact upd_at
theorem iv_len {xs : List Int} : (iv xs).length = xs.length := List.length_map _
theorem sub_upd {σ : St} {o : Addr} {x : AO} (h : σ o = none) : St.Sub σ (upd σ o x) := fun b y e => by
  unfold upd
  rw [if_neg (fun hb => by rw [hb, h] at e; cases e)]; exact e
theorem c_b2a {W : Wd} (G : GW W) {j : Nat} {bs : List Int} {σ : St} {Q : V → St → Prop} (ho : Oct bs) (hl : bs.length ≤ 10000) (q : Q (.bytes (encG bs)) σ) : CallOK W (j + 2) 121 [.bytes bs] [(Str.ofString "newline", .bool false)] Q σ := by
  refine call_introB (params := [Str.ofString "data", Str.ofString "newline"]) (names := [Str.ofString "bin_data", Str.ofString "out", Str.ofString "leftbits", Str.ofString "leftchar", Str.ofString "b"]) (ys := [.bytes bs, .bool false]) G.f_b2a_base64 rfl (fun A L => iS_b2a_base64 G A L (j + 1)) ?_ (by decide +kernel) (by decide +kernel) (by decide +kernel) rfl ?_
  · intro F s vs kvs g rs hk rk
    cases rs with
    | @cons _ v _ _ r rs =>
    cases rs
    match kvs, hk, rk with
    | [(n, u)], hk, .cons ru .nil =>
      simp only [List.map_cons, List.map_nil, List.cons.injEq, and_true] at hk
      subst hk
      exact ⟨[v, u], .of_eq rfl, .cons r (.cons ru .nil)⟩
  refine ⟨_, rfl, c_buffer (j := j) G ?_⟩
  refine ⟨_, rfl, c_truth (j := j) G ?_⟩
  refine ⟨by decide, ?_⟩
  intro o hoN
  refine ⟨_, rfl, _, rfl, ?_⟩
  refine b2_loop (o := o) (σ₀ := σ) (nl := .bool false) bs [] 0 _ ⟨rfl, rfl, rfl, rfl, rfl⟩ (by omega) ho (by simp; omega) ?_
  intro st' k L' outs' h hL hk hle
  have hon := encG_oct ho
  have fin : ∀ (st : S), st.ρ 1 = some (.bool false) → st.ρ 3 = some (.ref o) → st.σ = upd σ o (.list (iv (encG bs))) → (seqW (ifS (valB (locW 1)) (seqW (exprW (mtW (locW 3) (argS (cW (.int 10)) arg0) appendW)) nilW) nilW) (seqW (retS (cbW (argS (locW 3) arg0) bytesW)) nilW)) (retW Q) st := by
    intro st e1 e3 eσ
    refine ⟨_, e1, ?_⟩
    refine ⟨_, e3, _, _, _, rfl, getL_ref (at_iv eσ), intsOf_iv _, hon, by have := encG_len (bs := bs); omega, ?_⟩
    exact ⟨σ, by rw [eσ]; exact sub_upd hoN, q⟩
  refine ⟨_, h.r4, eqI ?_⟩
  rcases hk with ⟨rfl, he⟩ | ⟨rfl, he⟩ | ⟨rfl, he⟩
  · refine ⟨_, h.r4, eqI ?_⟩
    exact fin st' h.r1 h.r3 (by rw [h.hσ]; simp at he; rw [he])
  · refine ⟨_, h.r3, _, getL_ref (by rw [h.hσ]; exact upd_at), ?_⟩
    refine ⟨_, h.r5, andI (L' % 4) (bitAnd_m2 _) (lshI (L' % 4 * 16) (by omega) rfl ⟨_, rfl, getW_b64 (by omega) (by omega) ⟨_, _, _, rfl, rfl, at_iv h.hσ, by rw [iv_len]; omega, ?_⟩⟩)⟩
    have h1 := put_iv (c := cv (L' % 4 * 16)) h.hσ
    refine ⟨_, h.r3, _, getL_ref (at_iv h1), _, _, _, rfl, rfl, at_iv h1, by rw [iv_len]; simp; omega, ?_⟩
    have h2 := put_iv (c := 61) h1
    refine ⟨_, h.r3, _, getL_ref (at_iv h2), _, _, _, rfl, rfl, at_iv h2, by rw [iv_len]; simp; omega, ?_⟩
    have h3 := put_iv (c := 61) h2
    exact fin _ h.r1 h.r3 (by rw [h3]; simp at he; rw [he]; simp)
  · refine ⟨_, h.r4, eqI ?_⟩
    refine ⟨_, h.r3, _, getL_ref (by rw [h.hσ]; exact upd_at), ?_⟩
    refine ⟨_, h.r5, andI (L' % 16) (bitAnd_m4 _) (lshI (L' % 16 * 4) (by omega) rfl ⟨_, rfl, getW_b64 (by omega) (by omega) ⟨_, _, _, rfl, rfl, at_iv h.hσ, by rw [iv_len]; omega, ?_⟩⟩)⟩
    have h1 := put_iv (c := cv (L' % 16 * 4)) h.hσ
    refine ⟨_, h.r3, _, getL_ref (at_iv h1), _, _, _, rfl, rfl, at_iv h1, by rw [iv_len]; simp; omega, ?_⟩
    have h2 := put_iv (c := 61) h1
    exact fin _ h.r1 h.r3 (by rw [h2]; simp at he; rw [he]; simp)
theorem c_b64encode {W : Wd} (G : GW W) {j : Nat} {bs : List Int} {σ : St} {Q : V → St → Prop} (ho : Oct bs) (hl : bs.length ≤ 10000) (q : Q (.bytes (encG bs)) σ) : CallOK W (j + 3) 129 [.bytes bs] [] Q σ := by
  refine call_introB (params := [Str.ofString "s", Str.ofString "altchars"]) (names := [Str.ofString "encoded"]) (ys := [.bytes bs, .none]) G.f_b64encode rfl (fun A L => iS_b64encode G A L (j + 2)) ?_ (by decide +kernel) (by decide +kernel) (by decide +kernel) rfl ?_
  · intro F s vs kvs g rs hk rk
    cases rs with
    | @cons _ v _ _ r rs =>
    cases rs
    match kvs, hk with
    | [], _ =>
      obtain ⟨n, hn⟩ := G.h_d122
      exact ⟨[v, .none], .of_defaults (T := 122) rfl (g.up _ _ hn) rfl rfl rfl, .cons r (.cons .none .nil)⟩
  refine ⟨_, rfl, rfl, c_b2a (j := j) G ho hl ?_⟩
  refine ⟨_, rfl, _, .nn, ?_⟩
  exact ⟨_, rfl, σ, Sub.refl _, q⟩
end Mine

namespace Mine
open PySem PySem.W PyProof.Rows PySem.Calls

abbrev a2B (W : Wd) (j : Nat) : PF := (seqW (ifS (cmW eqW (locW 8) (cW (.int 61))) (seqW (asgS (biW addW (locW 6) (cW (.int 1))) (setW 6))
  (seqW (ifS (andB (cmW (icmpW fun i j => decide (j ≤ i)) (locW 4) (cW (.int 2))) (cmW (icmpW fun i j => decide (i ≤ j)) (biW addW (locW 4) (locW 6)) (cW (.int 4)))) (seqW (asgS (biW addW (locW 7) (cW (.int 1))) (setW 7))
  (seqW contW
  nilW)) nilW)
  (seqW (ifS (notB (valB (locW 1))) (seqW (asgS (biW addW (locW 7) (cW (.int 1))) (setW 7))
  (seqW contW
  nilW)) nilW)
  (seqW (ifS (cmW eqW (locW 4) (cW (.int 1))) (seqW brkW
  nilW) nilW)
  (seqW (ifS (andB (cmW eqW (locW 4) (cW (.int 0))) (cmW eqW (locW 7) (cW (.int 0)))) (seqW noS
  nilW) nilW)
  (seqW noS
  nilW)))))) nilW)
  (seqW (asgS (cbW (argS (locW 8) arg0) (callW W j 105)) (setW 8))
  (seqW (ifS (cmW (icmpW fun i j => decide (j ≤ i)) (locW 8) (cW (.int 64))) (seqW (ifS (valB (locW 1)) (seqW noS
  nilW) nilW)
  (seqW (asgS (biW addW (locW 7) (cW (.int 1))) (setW 7))
  (seqW contW
  nilW))) nilW)
  (seqW (ifS (andB (valB (locW 6)) (valB (locW 1))) (seqW (ifS (cmW eqW (biW addW (locW 4) (locW 6)) (cW (.int 4))) (seqW noS
  nilW) nilW)
  (seqW noS
  nilW)) nilW)
  (seqW (asgS (cW (.int 0)) (setW 6))
  (seqW (ifS (cmW eqW (locW 4) (cW (.int 0))) (seqW (asgS (cW (.int 1)) (setW 4))
  (seqW (asgS (locW 8) (setW 5))
  nilW)) (seqW (ifS (cmW eqW (locW 4) (cW (.int 1))) (seqW (asgS (cW (.int 2)) (setW 4))
  (seqW (exprW (mtW (locW 3) (argS (biW orW (biW lshW (locW 5) (cW (.int 2))) (biW rshW (locW 8) (cW (.int 4)))) arg0) appendW))
  (seqW (asgS (biW andW (locW 8) (cW (.int 15))) (setW 5))
  nilW))) (seqW (ifS (cmW eqW (locW 4) (cW (.int 2))) (seqW (asgS (cW (.int 3)) (setW 4))
  (seqW (exprW (mtW (locW 3) (argS (biW orW (biW lshW (locW 5) (cW (.int 4))) (biW rshW (locW 8) (cW (.int 2)))) arg0) appendW))
  (seqW (asgS (biW andW (locW 8) (cW (.int 3))) (setW 5))
  nilW))) (seqW (asgS (cW (.int 0)) (setW 4))
  (seqW (exprW (mtW (locW 3) (argS (biW orW (biW lshW (locW 5) (cW (.int 6))) (locW 8)) arg0) appendW))
  (seqW (asgS (cW (.int 0)) (setW 5))
  nilW))))
  nilW))
  nilW))
  (seqW (asgS (biW addW (locW 7) (cW (.int 1))) (setW 7))
  nilW)))))))
abbrev a2S : PF := (seqW (ifS (cmW eqW (locW 4) (cW (.int 0))) (seqW (asgS (cW (.int 1)) (setW 4))
  (seqW (asgS (locW 8) (setW 5))
  nilW)) (seqW (ifS (cmW eqW (locW 4) (cW (.int 1))) (seqW (asgS (cW (.int 2)) (setW 4))
  (seqW (exprW (mtW (locW 3) (argS (biW orW (biW lshW (locW 5) (cW (.int 2))) (biW rshW (locW 8) (cW (.int 4)))) arg0) appendW))
  (seqW (asgS (biW andW (locW 8) (cW (.int 15))) (setW 5))
  nilW))) (seqW (ifS (cmW eqW (locW 4) (cW (.int 2))) (seqW (asgS (cW (.int 3)) (setW 4))
  (seqW (exprW (mtW (locW 3) (argS (biW orW (biW lshW (locW 5) (cW (.int 4))) (biW rshW (locW 8) (cW (.int 2)))) arg0) appendW))
  (seqW (asgS (biW andW (locW 8) (cW (.int 3))) (setW 5))
  nilW))) (seqW (asgS (cW (.int 0)) (setW 4))
  (seqW (exprW (mtW (locW 3) (argS (biW orW (biW lshW (locW 5) (cW (.int 6))) (locW 8)) arg0) appendW))
  (seqW (asgS (cW (.int 0)) (setW 5))
  nilW))))
  nilW))
  nilW))
  (seqW (asgS (biW addW (locW 7) (cW (.int 1))) (setW 7))
  nilW))
structure A2 (o : Addr) (σ₀ : St) (outs : List Int) (q L p : Int) (st : S) : Prop where
  r1 : st.ρ 1 = some (.bool false)
  r3 : st.ρ 3 = some (.ref o)
  r4 : st.ρ 4 = some (.int q)
  r5 : st.ρ 5 = some (.int L)
  r6 : st.ρ 6 = some (.int p)
  r7 : ∃ i, st.ρ 7 = some (.int i)
  hσ : st.σ = upd σ₀ o (.list (iv outs))
theorem a2_pre {W : Wd} (G : GW W) {j : Nat} {st : S} {o : Addr} {σ₀ : St} {outs : List Int} {q L p v : Int} {xs : List V} {Q : Fl → S → Prop} (h : A2 o σ₀ outs q L p st) (h0 : 0 ≤ v) (h1 : v < 64)
    (next : ∀ st' Z, A2 o σ₀ outs q L 0 st' → st'.ρ 8 = some (.int v) → (∀ st, Z .next st = forL (setW 8) (a2B W (j + 1)) Q xs st) → a2S Z st') : forL (setW 8) (a2B W (j + 1)) Q (.int (cv v) :: xs) st := by
  have hr := cv_rng h0 h1
  obtain ⟨i7, r7⟩ := h.r7
  refine ⟨_, rfl, eqI ?_⟩
  rw [show (cv v == 61) = false by rw [beq_eq_false_iff_ne]; exact hr.2.2]
  refine ⟨_, rfl, c_b64_value (j := j) G h0 h1 ?_⟩
  refine ⟨_, rfl, _, _, rfl, rfl, ifF (fun a => absurd (of_decide_eq_true a) (by omega)) (fun _ => ?_)⟩
  refine ⟨_, h.r6, ?_⟩
  have fin : ∀ st' Z, A2 o σ₀ outs q L 0 st' → st'.ρ 8 = some (.int v) → (∀ st, Z .next st = forL (setW 8) (a2B W (j + 1)) Q xs st) → a2S Z st' := next
  refine ifF (fun _ => ⟨_, h.r1, ?_⟩) (fun _ => ?_)
  · exact fin _ _ ⟨h.r1, h.r3, h.r4, h.r5, rfl, ⟨_, r7⟩, h.hσ⟩ rfl (fun _ => rfl)
  · exact fin _ _ ⟨h.r1, h.r3, h.r4, h.r5, rfl, ⟨_, r7⟩, h.hσ⟩ rfl (fun _ => rfl)
theorem a2_0 {W : Wd} (G : GW W) {j : Nat} {st : S} {o : Addr} {σ₀ : St} {outs : List Int} {L p v : Int} {xs : List V} {Q : Fl → S → Prop} (h : A2 o σ₀ outs 0 L p st) (h0 : 0 ≤ v) (h1 : v < 64)
    (next : ∀ st', A2 o σ₀ outs 1 v 0 st' → forL (setW 8) (a2B W (j + 1)) Q xs st') : forL (setW 8) (a2B W (j + 1)) Q (.int (cv v) :: xs) st := by
  refine a2_pre G h h0 h1 fun st' Z h' h8 hZ => ?_
  obtain ⟨i7, r7⟩ := h'.r7
  refine ⟨_, h'.r4, eqI ?_⟩
  refine ⟨_, h8, ?_⟩
  refine ⟨_, r7, addI (i7 + 1) rfl ?_⟩
  show Z .next _
  rw [hZ]
  exact next _ ⟨h'.r1, h'.r3, rfl, rfl, h'.r6, ⟨_, rfl⟩, h'.hσ⟩
theorem a2_1 {W : Wd} (G : GW W) {j : Nat} {st : S} {o : Addr} {σ₀ : St} {outs : List Int} {L p v c d : Int} {xs : List V} {Q : Fl → S → Prop} (h : A2 o σ₀ outs 1 L p st) (hL : 0 ≤ L ∧ L < 64) (h0 : 0 ≤ v) (h1 : v < 64) (hl : outs.length ≤ 1000000) (hc : L * 4 + v / 16 = c) (hd : v % 16 = d)
    (next : ∀ st', A2 o σ₀ (outs ++ [c]) 2 d 0 st' → forL (setW 8) (a2B W (j + 1)) Q xs st') : forL (setW 8) (a2B W (j + 1)) Q (.int (cv v) :: xs) st := by
  refine a2_pre G h h0 h1 fun st' Z h' h8 hZ => ?_
  obtain ⟨i7, r7⟩ := h'.r7
  refine ⟨_, h'.r4, eqI ⟨_, h'.r4, eqI ?_⟩⟩
  refine ⟨_, h'.r3, _, getL_ref (at_iv h'.hσ), ?_⟩
  refine ⟨_, h'.r5, lshI (L * 4) (by omega) rfl ⟨_, h8, rshI (v / 16) (by omega) rfl (orI c (by rw [← hc]; exact or_low 2 (by omega) (by omega)) ⟨_, _, _, rfl, rfl, at_iv h'.hσ, by rw [iv_len]; omega, ?_⟩)⟩⟩
  refine ⟨_, h8, andI d (by rw [bitAnd_m4]; exact hd) ?_⟩
  refine ⟨_, r7, addI (i7 + 1) rfl ?_⟩
  show Z .next _
  rw [hZ]
  exact next _ ⟨h'.r1, h'.r3, rfl, rfl, h'.r6, ⟨_, rfl⟩, put_iv (c := c) h'.hσ⟩
theorem a2_2 {W : Wd} (G : GW W) {j : Nat} {st : S} {o : Addr} {σ₀ : St} {outs : List Int} {L p v c d : Int} {xs : List V} {Q : Fl → S → Prop} (h : A2 o σ₀ outs 2 L p st) (hL : 0 ≤ L ∧ L < 64) (h0 : 0 ≤ v) (h1 : v < 64) (hl : outs.length ≤ 1000000) (hc : L * 16 + v / 4 = c) (hd : v % 4 = d)
    (next : ∀ st', A2 o σ₀ (outs ++ [c]) 3 d 0 st' → forL (setW 8) (a2B W (j + 1)) Q xs st') : forL (setW 8) (a2B W (j + 1)) Q (.int (cv v) :: xs) st := by
  refine a2_pre G h h0 h1 fun st' Z h' h8 hZ => ?_
  obtain ⟨i7, r7⟩ := h'.r7
  refine ⟨_, h'.r4, eqI ⟨_, h'.r4, eqI ⟨_, h'.r4, eqI ?_⟩⟩⟩
  refine ⟨_, h'.r3, _, getL_ref (at_iv h'.hσ), ?_⟩
  refine ⟨_, h'.r5, lshI (L * 16) (by omega) rfl ⟨_, h8, rshI (v / 4) (by omega) rfl (orI c (by rw [← hc]; exact or_low 4 (by omega) (by omega)) ⟨_, _, _, rfl, rfl, at_iv h'.hσ, by rw [iv_len]; omega, ?_⟩)⟩⟩
  refine ⟨_, h8, andI d (by rw [bitAnd_m2]; exact hd) ?_⟩
  refine ⟨_, r7, addI (i7 + 1) rfl ?_⟩
  show Z .next _
  rw [hZ]
  exact next _ ⟨h'.r1, h'.r3, rfl, rfl, h'.r6, ⟨_, rfl⟩, put_iv (c := c) h'.hσ⟩
theorem a2_3 {W : Wd} (G : GW W) {j : Nat} {st : S} {o : Addr} {σ₀ : St} {outs : List Int} {L p v c : Int} {xs : List V} {Q : Fl → S → Prop} (h : A2 o σ₀ outs 3 L p st) (hL : 0 ≤ L ∧ L < 64) (h0 : 0 ≤ v) (h1 : v < 64) (hl : outs.length ≤ 1000000) (hc : L * 64 + v = c)
    (next : ∀ st', A2 o σ₀ (outs ++ [c]) 0 0 0 st' → forL (setW 8) (a2B W (j + 1)) Q xs st') : forL (setW 8) (a2B W (j + 1)) Q (.int (cv v) :: xs) st := by
  refine a2_pre G h h0 h1 fun st' Z h' h8 hZ => ?_
  obtain ⟨i7, r7⟩ := h'.r7
  refine ⟨_, h'.r4, eqI ⟨_, h'.r4, eqI ⟨_, h'.r4, eqI ?_⟩⟩⟩
  refine ⟨_, h'.r3, _, getL_ref (at_iv h'.hσ), ?_⟩
  refine ⟨_, h'.r5, lshI (L * 64) (by omega) rfl ⟨_, h8, orI c (by rw [← hc]; exact or_low 6 (by omega) (by omega)) ⟨_, _, _, rfl, rfl, at_iv h'.hσ, by rw [iv_len]; omega, ?_⟩⟩⟩
  refine ⟨_, r7, addI (i7 + 1) rfl ?_⟩
  show Z .next _
  rw [hZ]
  exact next _ ⟨h'.r1, h'.r3, rfl, rfl, h'.r6, ⟨_, rfl⟩, put_iv (c := c) h'.hσ⟩
theorem a2_pad {W : Wd} {j : Nat} {st : S} {o : Addr} {σ₀ : St} {outs : List Int} {q L p : Int} {xs : List V} {Q : Fl → S → Prop} (h : A2 o σ₀ outs q L p st) (hq : 2 ≤ q) (hp : q + (p + 1) ≤ 4)
    (next : ∀ st', A2 o σ₀ outs q L (p + 1) st' → forL (setW 8) (a2B W j) Q xs st') : forL (setW 8) (a2B W j) Q (.int 61 :: xs) st := by
  obtain ⟨i7, r7⟩ := h.r7
  refine ⟨_, rfl, eqI ?_⟩
  refine ⟨_, h.r6, addI (p + 1) rfl ?_⟩
  refine ⟨_, h.r4, _, _, rfl, rfl, ifF (fun _ => ?_) (fun a => absurd (of_decide_eq_false a) (by omega))⟩
  refine ⟨_, h.r4, _, rfl, addI (q + (p + 1)) rfl ⟨_, _, rfl, rfl, ifF (fun _ => ?_) (fun a => absurd (of_decide_eq_false a) (by omega))⟩⟩
  refine ⟨_, r7, addI (i7 + 1) rfl ?_⟩
  exact next _ ⟨h.r1, h.r3, h.r4, h.r5, rfl, ⟨_, rfl⟩, h.hσ⟩
theorem a2_loop {W : Wd} (G : GW W) {j : Nat} {o : Addr} {σ₀ : St} {Q : Fl → S → Prop} : ∀ (bs outs : List Int) (L : Int) (st : S), A2 o σ₀ outs 0 L 0 st → Oct bs → outs.length + bs.length ≤ 100000 →
    (∀ (st' : S) (q L p : Int), A2 o σ₀ (outs ++ bs) q L p st' → (q = 0 ∨ (q ≠ 1 ∧ q + p = 4)) → Q .next st') → forL (setW 8) (a2B W (j + 1)) Q (iv (encG bs)) st
  | [], outs, L, st, h, _, _, K => K st 0 L 0 (by rw [List.append_nil]; exact h) (.inl rfl)
  | [a], outs, L, st, h, ho, hl, K => by
    have ha := ho a (.head _)
    have l0 : outs.length ≤ 1000000 := Nat.le_trans (Nat.le_add_right _ _) (Nat.le_trans hl (by decide))
    refine a2_0 (xs := iv [cv (a % 4 * 16), 61, 61]) G h (b64a ha).1 (b64a ha).2 fun s1 h1 => ?_
    refine a2_1 (xs := iv [61, 61]) (c := a) (d := 0) G h1 (b64a ha) b64b0.1 b64b0.2 l0 b64r10 b64r20 fun s2 h2 => ?_
    refine a2_pad (xs := iv [61]) h2 (by decide) (by decide) fun s3 h3 => ?_
    refine a2_pad (xs := []) h3 (by decide) (by decide) fun s4 h4 => ?_
    exact K s4 _ _ _ h4 (.inr ⟨by decide, by decide⟩)
  | [a, b], outs, L, st, h, ho, hl, K => by
    have ha := ho a (.head _)
    have hb := ho b (.tail _ (.head _))
    have l0 : outs.length ≤ 100000 := Nat.le_trans (Nat.le_add_right _ _) hl
    have l1 : (outs ++ [a]).length ≤ 1000000 := by rw [List.length_append]; exact Nat.le_trans (Nat.add_le_add_right l0 _) (show 100000 + 1 ≤ 1000000 by decide)
    refine a2_0 (xs := iv [cv (a % 4 * 16 + b / 16), cv (b % 16 * 4), 61]) G h (b64a ha).1 (b64a ha).2 fun s1 h1 => ?_
    refine a2_1 (xs := iv [cv (b % 16 * 4), 61]) (c := a) (d := b / 16) G h1 (b64a ha) (b64b hb).1 (b64b hb).2 (Nat.le_trans l0 (by decide)) (b64r1 hb) (b64r2 hb) fun s2 h2 => ?_
    refine a2_2 (xs := iv [61]) (c := b) (d := 0) G h2 (b64h hb) b64c0.1 b64c0.2 l1 b64r30 b64r40 fun s3 h3 => ?_
    refine a2_pad (xs := []) h3 (by decide) (by decide) fun s4 h4 => ?_
    exact K s4 _ _ _ (by rw [List.append_assoc] at h4; exact h4) (.inr ⟨by decide, by decide⟩)
  | a :: b :: c :: r, outs, L, st, h, ho, hl, K => by
    have ha := ho a (.head _)
    have hb := ho b (.tail _ (.head _))
    have hc := ho c (.tail _ (.tail _ (.head _)))
    have l0 : outs.length ≤ 100000 := Nat.le_trans (Nat.le_add_right _ _) hl
    have l1 : (outs ++ [a]).length ≤ 1000000 := by rw [List.length_append]; exact Nat.le_trans (Nat.add_le_add_right l0 _) (show 100000 + 1 ≤ 1000000 by decide)
    have l2 : (outs ++ [a] ++ [b]).length ≤ 1000000 := by rw [List.length_append, List.length_append]; exact Nat.le_trans (Nat.add_le_add_right (Nat.add_le_add_right l0 _) _) (show 100000 + 1 + 1 ≤ 1000000 by decide)
    refine a2_0 (xs := iv (cv (a % 4 * 16 + b / 16) :: cv (b % 16 * 4 + c / 64) :: cv (c % 64) :: encG r)) G h (b64a ha).1 (b64a ha).2 fun s1 h1 => ?_
    refine a2_1 (xs := iv (cv (b % 16 * 4 + c / 64) :: cv (c % 64) :: encG r)) (c := a) (d := b / 16) G h1 (b64a ha) (b64b hb).1 (b64b hb).2 (Nat.le_trans l0 (by decide)) (b64r1 hb) (b64r2 hb) fun s2 h2 => ?_
    refine a2_2 (xs := iv (cv (c % 64) :: encG r)) (c := b) (d := c / 64) G h2 (b64h hb) (b64c hc).1 (b64c hc).2 l1 (b64r3 hc) (b64r4 hc) fun s3 h3 => ?_
    refine a2_3 (xs := iv (encG r)) (c := c) G h3 (b64k hc) b64d.1 b64d.2 l2 b64r5 fun s4 h4 => ?_
    have e : outs ++ [a] ++ [b] ++ [c] ++ r = outs ++ (a :: b :: c :: r) := by rw [List.append_assoc, List.append_assoc, List.append_assoc]; rfl
    refine a2_loop G r _ 0 s4 h4 (fun y hy => ho y (.tail _ (.tail _ (.tail _ hy)))) (by rw [← List.length_append, e, List.length_append]; exact hl) fun st' q L p e1 e2 => K st' q L p (by rw [e] at e1; exact e1) e2
theorem c_a2b {W : Wd} (G : GW W) {j : Nat} {bs : List Int} {σ : St} {Q : V → St → Prop} (ho : Oct bs) (hl : bs.length ≤ 10000) (q : Q (.bytes bs) σ) : CallOK W (j + 2) 113 [.bytes (encG bs)] [(Str.ofString "strict_mode", .bool false)] Q σ := by
  refine call_introB (params := [Str.ofString "data", Str.ofString "strict_mode"]) (names := [Str.ofString "ascii_data", Str.ofString "out", Str.ofString "quad_pos", Str.ofString "leftchar", Str.ofString "pads", Str.ofString "i", Str.ofString "this_ch"]) (ys := [.bytes (encG bs), .bool false]) G.f_a2b_base64 rfl (fun A L => iS_a2b_base64 G A L (j + 1)) ?_ (by decide +kernel) (by decide +kernel) (by decide +kernel) rfl ?_
  · intro F s vs kvs g rs hk rk
    cases rs with
    | @cons _ v _ _ r rs =>
    cases rs
    match kvs, hk, rk with
    | [(n, u)], hk, .cons ru .nil =>
      simp only [List.map_cons, List.map_nil, List.cons.injEq, and_true] at hk
      subst hk
      exact ⟨[v, u], .of_eq rfl, .cons r (.cons ru .nil)⟩
  refine ⟨_, rfl, c_ascii (j := j) G ?_⟩
  refine ⟨_, rfl, c_truth (j := j) G ?_⟩
  refine ⟨by decide, ?_⟩
  intro o hoN
  refine ⟨_, rfl, _, rfl, ?_⟩
  refine a2_loop (o := o) (σ₀ := σ) G bs [] 0 _ ⟨rfl, rfl, rfl, rfl, rfl, ⟨_, rfl⟩, rfl⟩ ho (by simp; omega) ?_
  intro st' qp L p h hq
  have fin : (seqW (retS (cbW (argS (locW 3) arg0) bytesW)) nilW) (retW Q) st' := by
    refine ⟨_, h.r3, _, _, _, rfl, getL_ref (at_iv h.hσ), intsOf_iv _, ho, by simp; omega, ?_⟩
    exact ⟨σ, by rw [h.hσ]; exact sub_upd hoN, q⟩
  refine ⟨_, h.r4, eqI ?_⟩
  rw [show (qp == 1) = false by rw [beq_eq_false_iff_ne]; omega]
  refine ⟨_, h.r4, neI ?_⟩
  refine ifF (fun hb => ⟨_, h.r4, _, h.r6, addI (qp + p) rfl (ltI ?_)⟩) (fun _ => fin)
  refine ifF (fun hc => absurd (of_decide_eq_true hc) ?_) (fun _ => fin)
  rcases hq with rfl | ⟨_, e⟩
  · simp at hb
  · omega
theorem c_b64decode {W : Wd} (G : GW W) {j : Nat} {bs : List Int} {σ : St} {Q : V → St → Prop} (ho : Oct bs) (hl : bs.length ≤ 10000) (q : Q (.bytes bs) σ) : CallOK W (j + 3) 137 [.bytes (encG bs)] [] Q σ := by
  refine call_introB (params := [Str.ofString "s", Str.ofString "altchars", Str.ofString "validate"]) (names := []) (ys := [.bytes (encG bs), .none, .bool false]) G.f_b64decode rfl (fun A L => iS_b64decode G A L (j + 2)) ?_ (by decide +kernel) (by decide +kernel) (by decide +kernel) rfl ?_
  · intro F s vs kvs g rs hk rk
    cases rs with
    | @cons _ v _ _ r rs =>
    cases rs
    match kvs, hk with
    | [], _ =>
      obtain ⟨n, hn⟩ := G.h_d130
      exact ⟨[v, .none, .bool false], .of_defaults (T := 130) rfl (g.up _ _ hn) rfl rfl rfl, .cons r (.cons .none (.cons (.bool _) .nil))⟩
  refine ⟨_, rfl, c_fromdec (j := j + 1) G ?_⟩
  refine ⟨_, rfl, _, .nn, ?_⟩
  refine ⟨_, rfl, _, rfl, rfl, c_a2b (j := j) G ho hl ?_⟩
  exact ⟨σ, Sub.refl _, q⟩
end Mine

namespace Mine
open PySem PySem.W PyProof.Rows PySem.Calls

theorem Sub.trans {a b c : St} (h1 : St.Sub a b) (h2 : St.Sub b c) : St.Sub a c := fun x y e => h2 x y (h1 x y e)
/-! ### comprehensions item by item -/
theorem comp_grow {n : Nat} {Tc : PB} {Te : PV} {ρ : Nat → Option V} {K : List V → St → Prop} {σ : St} (b : V → Bool) (f : V → V) : ∀ (xs acc : List V) (σ' : St), St.Sub σ σ' →
    (∀ x ∈ xs, ∀ σ', St.Sub σ σ' → ∀ Z : Bool → S → Prop, (∀ σ'', St.Sub σ σ'' → Z (b x) (S.set ⟨σ'', ρ⟩ n x)) → Tc Z (S.set ⟨σ', ρ⟩ n x)) →
    (∀ x ∈ xs, b x = true → ∀ σ', St.Sub σ σ' → ∀ Z : V → S → Prop, (∀ σ'', St.Sub σ σ'' → Z (f x) (S.set ⟨σ'', ρ⟩ n x)) → Te Z (S.set ⟨σ', ρ⟩ n x)) →
    (∀ σ', St.Sub σ σ' → K (acc ++ (xs.filter b).map f) σ') → compL n (setW n) Tc Te ρ K xs acc σ'
  | [], acc, σ', hs, _, _, q => by
    have := q σ' hs
    rw [List.filter_nil, List.map_nil, List.append_nil] at this
    exact this
  | x :: xs, acc, σ', hs, hc, he, q => by
    have off : ∀ (σ'' : St), ∀ i, i < n → (S.set ⟨σ'', ρ⟩ n x).ρ i = ρ i := fun σ'' i hi => if_neg (Nat.ne_of_lt hi)
    refine hc x (by simp) σ' hs _ fun σ₁ h₁ => ifP (fun hb => ?_) (fun hb => ?_)
    · refine he x (by simp) hb σ₁ h₁ _ fun σ₂ h₂ => ⟨off σ₂, ?_⟩
      refine comp_grow b f xs _ σ₂ h₂ (fun y hy => hc y (by simp [hy])) (fun y hy => he y (by simp [hy])) fun σ₃ h₃ => ?_
      have := q σ₃ h₃
      simpa [List.filter_cons, hb] using this
    · refine ⟨off σ₁, ?_⟩
      refine comp_grow b f xs _ σ₁ h₁ (fun y hy => hc y (by simp [hy])) (fun y hy => he y (by simp [hy])) fun σ₃ h₃ => ?_
      have := q σ₃ h₃
      simpa [List.filter_cons, hb] using this
theorem sub_put {σ σ' : St} {a : Addr} {x : AO} (h : St.Sub σ σ') (ha : σ' a = none) : St.Sub σ (upd σ' a x) := Sub.trans h (sub_upd ha)
theorem items_range {n : Nat} (h : n ≤ 1000000) : itemsOf (.range 0 n 1) = some ((List.range n).map fun (i : Nat) => V.int i) := by
  have e : Builtin.Range.rangeSize 0 n 1 = n := by rw [rangeSize_one]; split <;> omega
  simp only [itemsOf, e]
  have hs : Builtin.Range.small 0 n 1 = true := by
    simp [Builtin.Range.small, Builtin.Range.rangeFitsLong, e]; omega
  rw [if_pos hs]
  simp

/-! ### _law_places -/
def placesZ (m : Int) : List Int := ((List.range 6).filter fun (i : Nat) => m / 2 ^ i % 2 == 1).map fun (i : Nat) => (i : Int)
theorem c_places {W : Wd} (G : GW W) {j : Nat} {m : Int} {σ : St} {Q : V → St → Prop} (q : Q (.list (iv (placesZ m))) σ) : CallOK W (j + 1) 156 [.int m] [] Q σ := by
  refine cS__law_places G rfl ?_
  refine .inl ⟨_, rfl, ?_⟩
  refine ⟨_, items_range (n := 6) (by decide), by decide, ?_⟩
  refine comp_grow (σ := σ) (fun x => match x with | .int i => m / 2 ^ i.toNat % 2 == 1 | _ => false) id _ [] σ (Sub.refl _) ?_ ?_ ?_
  · intro x hx σ' hs Z hZ
    obtain ⟨i, hi, rfl⟩ := List.mem_map.mp hx
    have hi6 : i < 6 := by simpa using hi
    refine ⟨_, rfl, _, rfl, powI (2 ^ i) ⟨.inl rfl, by omega, by omega⟩ (by simp) (fdivI (m / 2 ^ i) ?_ rfl (modI (m / 2 ^ i % 2) (by decide) rfl (eqI ?_)))⟩
    · have : ∀ i : Nat, i < 6 → (0 : Int) < 2 ^ i ∧ (2 : Int) ^ i < 1073741824 := by decide
      exact this i hi6
    · simpa using hZ σ' hs
  · intro x hx hb σ' hs Z hZ
    exact ⟨_, rfl, hZ σ' hs⟩
  · intro σ' hs a ha
    refine ⟨_, _, rfl, if_pos rfl, ?_⟩
    refine ⟨σ, ?_, ?_⟩
    · intro b x e
      show (if b = a then none else if b = a then _ else σ' b) = _
      have hb : b ≠ a := fun h => by rw [h] at e; rw [hs a x e] at ha; cases ha
      rw [if_neg hb, if_neg hb]; exact hs b x e
    · have e : ([] ++ ((List.map (fun (i : Nat) => V.int i) (List.range 6)).filter (fun x => match x with | .int i => m / 2 ^ i.toNat % 2 == 1 | _ => false)).map id) = iv (placesZ m) := by
        simp only [List.nil_append, List.filter_map, iv, placesZ, List.map_map]
        congr 1
      have q' := q
      rw [← e] at q'
      exact q'

/-! ### _law_sum -/
def sumZ (hid : List Int) (ps : List Int) : Int := ps.foldl (fun v j => Builtin.bitXor v (hid.getD j.toNat 0)) 0
abbrev smB : PF := seqW (asgS (biW xorW (locW 2) (itW (locW 0) (locW 3))) (setW 2)) nilW
theorem sm_loop {hid : List Int} {Q : Fl → S → Prop} {σ : St} (hl : hid.length ≤ 1000) : ∀ (ps : List Int) (v : Int) (st : S), (∀ p ∈ ps, 0 ≤ p ∧ p < hid.length) → st.ρ 0 = some (.list (iv hid)) → st.ρ 2 = some (.int v) → st.σ = σ →
    (∀ st', st'.σ = σ → st'.ρ 2 = some (.int (ps.foldl (fun v j => Builtin.bitXor v (hid.getD j.toNat 0)) v)) → Q .next st') → forL (setW 3) smB Q (iv ps) st
  | [], v, st, _, _, h2, hσ, K => K st hσ h2
  | p :: ps, v, st, hp, h0, h2, hσ, K => by
    have hp0 := hp p (by simp)
    have hk : p.toNat < hid.length := by omega
    refine ⟨_, h2, _, h0, _, rfl, _, rfl, .inl ⟨_, rfl, hp0.1, by omega, .int (hid.getD p.toNat 0), ?_, xorI (Builtin.bitXor v (hid.getD p.toNat 0)) rfl ?_⟩⟩
    · simp [iv, hk, List.getD_eq_getElem?_getD]
    · exact sm_loop hl ps _ _ (fun y hy => hp y (by simp [hy])) h0 rfl hσ K
theorem c_sum {W : Wd} (G : GW W) {j : Nat} {hid ps : List Int} {σ : St} {Q : V → St → Prop} (hl : hid.length ≤ 1000) (hp : ∀ p ∈ ps, 0 ≤ p ∧ p < hid.length) (q : Q (.int (sumZ hid ps)) σ) : CallOK W (j + 1) 163 [.list (iv hid), .list (iv ps)] [] Q σ := by
  refine cS__law_sum G rfl ?_
  refine ⟨_, rfl, _, rfl, ?_⟩
  refine sm_loop (σ := σ) hl ps 0 _ hp rfl rfl rfl fun st' e1 e2 => ?_
  exact ⟨_, e2, σ, by rw [e1]; exact Sub.refl _, q⟩

/-! ### _law_octets -/
def octP : Nat → Nat → List Int → List Int
  | 0, _, acc => acc
  | f + 1, n, acc => if 63 < n then octP f (n / 64) ((((n / 64 % 64 : Nat) : Int) + 64) :: acc) else acc
def octs (n : Nat) : List Int := octP n n [((n % 64 : Nat) : Int)]
abbrev ocT : PB := cmW (icmpW fun i j => decide (j < i)) (locW 0) (cW (.int 63))
abbrev ocB : PF := seqW (asgS (biW fdivW (locW 0) (cW (.int 64))) (setW 0))
  (seqW (exprW (mtW (locW 1) (argS (cW (.int 0)) (argS (biW addW (biW modW (locW 0) (cW (.int 64))) (cW (.int 64))) arg0)) insertW))
  nilW)
theorem oc_loop {o : Addr} {σ₀ : St} {Q : Fl → S → Prop} : ∀ (f n : Nat) (acc : List Int) (st : S), n ≤ f → acc.length + f ≤ 1000000 → st.ρ 0 = some (.int n) → st.ρ 1 = some (.ref o) → st.σ = upd σ₀ o (.list (iv acc)) →
    (∀ st', st'.ρ 1 = some (.ref o) → st'.σ = upd σ₀ o (.list (iv (octP f n acc))) → Q .next st') → whileN ocT ocB Q (f + 1) st
  | 0, n, acc, st, hf, hl, h0, h1, hσ, K => by
    refine ⟨_, h0, _, _, rfl, rfl, ifP (fun a => absurd (of_decide_eq_true a) (by omega)) (fun _ => K st h1 hσ)⟩
  | f + 1, n, acc, st, hf, hl, h0, h1, hσ, K => by
    refine ⟨_, h0, _, _, rfl, rfl, ifP (fun a => ?_) (fun a => ?_)⟩
    · have hn : 63 < n := by have := of_decide_eq_true a; omega
      refine ⟨_, h0, fdivI ((n / 64 : Nat) : Int) (by decide) (by omega) ?_⟩
      refine ⟨_, h1, _, getL_ref (at_iv hσ), ?_⟩
      refine ⟨_, rfl, modI ((n / 64 % 64 : Nat) : Int) (by decide) (by omega) (addI (((n / 64 % 64 : Nat) : Int) + 64) rfl ?_)⟩
      refine ⟨_, _, _, rfl, rfl, at_iv hσ, by rw [iv_len]; omega, ?_⟩
      refine oc_loop f (n / 64) ((((n / 64 % 64 : Nat) : Int) + 64) :: acc) _ (by omega) (by simp; omega) rfl h1 ?_ fun st' e1 e2 => K st' e1 (by rw [e2, octP, if_pos hn])
      show upd st.σ o _ = _
      rw [hσ, upd_upd]; rfl
    · have hn : ¬ 63 < n := by have := of_decide_eq_false a; omega
      exact K st h1 (by rw [octP, if_neg hn]; exact hσ)
theorem c_octets {W : Wd} (G : GW W) {j n : Nat} {σ : St} {Q : V → St → Prop} (hn : n ≤ 900000) (q : ∀ o, σ o = none → Q (.ref o) (upd σ o (.list (iv (octs n))))) : CallOK W (j + 1) 151 [.int n] [] Q σ := by
  refine cS__law_octets G rfl ?_
  refine ⟨_, rfl, modI ((n % 64 : Nat) : Int) (by decide) (by omega) ⟨by show 1 ≤ sizeLine; decide, ?_⟩⟩
  intro o ho
  refine ⟨n + 1, ?_⟩
  refine oc_loop (o := o) (σ₀ := σ) n n [((n % 64 : Nat) : Int)] _ (Nat.le_refl _) (by simp; omega) rfl rfl rfl fun st' e1 e2 => ?_
  exact ⟨_, e1, _, Sub.refl _, by rw [e2]; exact q o ho⟩
end Mine

namespace Mine
open PySem PySem.W PyProof.Rows PySem.Calls

abbrev gO (a t : Int) : Int := a * 64 + t % 64
theorem octP_spec : ∀ (f n : Nat) (acc : List Int), n ≤ f → ∃ ps, octP f n acc = ps ++ acc ∧ (∀ p ∈ ps, 64 ≤ p ∧ p < 128) ∧ ps.foldl gO 0 = ((n / 64 : Nat) : Int) ∧ ps.length ≤ f
  | 0, n, acc, h => ⟨[], rfl, by simp, by have : n = 0 := by omega
                                          subst this; rfl, by simp⟩
  | f + 1, n, acc, h => by
    by_cases hn : 63 < n
    · obtain ⟨ps, e, hp, hf, hl⟩ := octP_spec f (n / 64) ((((n / 64 % 64 : Nat) : Int) + 64) :: acc) (by omega)
      refine ⟨ps ++ [((n / 64 % 64 : Nat) : Int) + 64], by rw [octP, if_pos hn, e]; simp, fun p hp' => ?_, ?_, by simp; omega⟩
      · rcases List.mem_append.mp hp' with h | h
        · exact hp p h
        · rw [List.mem_singleton.mp h]; omega
      · rw [List.foldl_append, hf]
        show ((n / 64 / 64 : Nat) : Int) * 64 + _ % 64 = _
        omega
    · exact ⟨[], by rw [octP, if_neg hn]; rfl, by simp, by show (0 : Int) = _; omega, by simp⟩
def GoodO : Int → List Int → Prop
  | b, [] => 0 ≤ b ∧ b < 64
  | b, t :: ts => (64 ≤ b ∧ b < 128) ∧ GoodO t ts
theorem good_of : ∀ (ps : List Int) (d : Int), (∀ p ∈ ps, 64 ≤ p ∧ p < 128) → 0 ≤ d ∧ d < 64 → ∃ b rem, ps ++ [d] = b :: rem ∧ GoodO b rem
  | [], d, _, hd => ⟨d, [], rfl, hd⟩
  | p :: ps, d, hp, hd => by
    obtain ⟨b, rem, e, hg⟩ := good_of ps d (fun y hy => hp y (by simp [hy])) hd
    exact ⟨p, b :: rem, by rw [List.cons_append, e], hp p (by simp), hg⟩
theorem octs_spec (n : Nat) : ∃ b rem, octs n = b :: rem ∧ GoodO b rem ∧ rem.foldl gO (b % 64) = n ∧ rem.length ≤ n ∧ Oct (octs n) := by
  obtain ⟨ps, e, hp, hf, hl⟩ := octP_spec n n [((n % 64 : Nat) : Int)] (Nat.le_refl _)
  obtain ⟨b, rem, e', hg⟩ := good_of ps ((n % 64 : Nat) : Int) hp (by omega)
  refine ⟨b, rem, by unfold octs; rw [e, e'], hg, ?_, ?_, ?_⟩
  · have h : (b :: rem).foldl gO 0 = n := by
      rw [← e', List.foldl_append, hf]
      show ((n / 64 : Nat) : Int) * 64 + _ % 64 = _
      omega
    simpa [gO] using h
  · have := congrArg List.length e'
    simp at this; omega
  · unfold octs
    rw [e]
    intro y hy
    rcases List.mem_append.mp hy with h | h
    · have := hp y h; omega
    · rw [List.mem_singleton.mp h]; omega
theorem gO_mono : ∀ (rem : List Int) (v : Int), 0 ≤ v → v ≤ rem.foldl gO v
  | [], _, _ => Int.le_refl _
  | t :: ts, v, h => by
    have h1 : 0 ≤ t % 64 := Int.emod_nonneg _ (by decide)
    have := gO_mono ts (gO v t) (by unfold gO; omega)
    rw [List.foldl_cons]
    have h2 : v ≤ gO v t := by unfold gO; omega
    omega
abbrev pvT : PB := valB (biW andW (locW 1) (cW (.int 64)))
abbrev pvB : PF := seqW (augS 2 (cW (.int 6)) lshW)
  (seqW (asgS (cbW (argS (locW 0) arg0) nextW) (setW 1))
  (seqW (augS 2 (biW andW (locW 1) (cW (.int 63))) orW)
  nilW))
theorem drop_get {α : Type} {bs : List α} {i : Nat} {t : α} {r : List α} (h : bs.drop i = t :: r) : bs[i]? = some t ∧ bs.drop (i + 1) = r := by
  have h1 : i < bs.length := by
    rcases Nat.lt_or_ge i bs.length with h' | h'
    · exact h'
    · rw [List.drop_eq_nil_of_le h'] at h; cases h
  rw [List.drop_eq_getElem_cons h1] at h
  injection h with a b
  exact ⟨by rw [List.getElem?_eq_getElem h1, a], b⟩
theorem pv_loop {w : Addr} {σ₀ : St} {bs tail : List Int} {Q : Fl → S → Prop} : ∀ (rem : List Int) (b v : Int) (i : Nat) (st : S), st.ρ 0 = some (.ref w) → st.ρ 1 = some (.int b) → st.ρ 2 = some (.int v) → st.σ = upd σ₀ w (.biter bs i) → bs.drop i = rem ++ tail → GoodO b rem → 0 ≤ v → rem.foldl gO v < 2 ^ 60 →
    (∀ st', st'.ρ 2 = some (.int (rem.foldl gO v)) → st'.σ = upd σ₀ w (.biter bs (i + rem.length)) → Q .next st') → whileN pvT pvB Q (rem.length + 1) st
  | [], b, v, i, st, h0, h1, h2, hσ, hd, hg, hv, hf, K => by
    have hg' : 0 ≤ b ∧ b < 64 := hg
    have e : Builtin.bitAnd b 64 = 0 := by
      have := kbt_bit b 6
      rw [show ((2 : Int) ^ 6) = 64 from rfl] at this
      rw [this]; omega
    exact ⟨_, h1, andI 0 e (K st h2 hσ)⟩
  | t :: ts, b, v, i, st, h0, h1, h2, hσ, hd, hg, hv, hf, K => by
    have hg' : (64 ≤ b ∧ b < 128) ∧ GoodO t ts := hg
    have e : Builtin.bitAnd b 64 = 64 := by
      have := kbt_bit b 6
      rw [show ((2 : Int) ^ 6) = 64 from rfl] at this
      rw [this]; omega
    have hm := gO_mono (t :: ts) v hv
    obtain ⟨ht, hd'⟩ := drop_get hd
    refine ⟨_, h1, andI 64 e ?_⟩
    refine ⟨_, h2, lshI (v * 64) (by omega) rfl ?_⟩
    refine ⟨_, h0, w, bs, i, t, rfl, at_iv hσ, ht, ?_⟩
    refine ⟨_, rfl, _, rfl, andI (t % 64) (bitAnd_m6 _) (orI (v * 64 + t % 64) (or_low 6 (by omega) (by omega)) ?_)⟩
    refine pv_loop (w := w) (σ₀ := σ₀) (bs := bs) (tail := tail) (Q := Q) ts t (v * 64 + t % 64) (i + 1) _ h0 rfl rfl ?_ hd' hg'.2 (by omega) hf fun st' e1 e2 => K st' e1 ?_
    · show upd st.σ w _ = _
      rw [hσ, upd_upd]
    · rw [e2, List.length_cons]; congr 2; omega
theorem c_parse {W : Wd} (G : GW W) {j n : Nat} {w : Addr} {bs tail : List Int} {σ : St} {Q : V → St → Prop} (hw : σ w = some (.biter bs 0)) (hb : bs = octs n ++ tail) (hn : n ≤ 1000000) (q : Q (.int n) (upd σ w (.biter bs (octs n).length))) : CallOK W (j + 1) 144 [.ref w] [] Q σ := by
  obtain ⟨b, rem, e, hg, hf, hl, _⟩ := octs_spec n
  refine cS__parse_varint G rfl ?_
  have hd0 : bs.drop 0 = b :: (rem ++ tail) := by rw [List.drop_zero, hb, e]; rfl
  obtain ⟨hb0, hd1⟩ := drop_get hd0
  refine ⟨_, rfl, w, bs, 0, b, rfl, hw, hb0, ?_⟩
  refine ⟨_, rfl, andI (b % 64) (bitAnd_m6 _) ?_⟩
  refine ⟨rem.length + 1, ?_⟩
  refine pv_loop (w := w) (σ₀ := σ) (bs := bs) (tail := tail) rem b (b % 64) 1 _ rfl rfl rfl rfl hd1 hg (by omega) (by omega) fun st' e1 e2 => ?_
  refine ⟨_, e1, _, Sub.refl _, ?_⟩
  rw [e2, hf, show 1 + rem.length = (octs n).length by rw [e]; simp; omega]
  exact q

/-! ### _law_card, _law_read -/
def cardZ (n : Nat) (v : Int) : List Int := octs n ++ [v / 65536, v / 256 % 256, v % 256]
theorem cardZ_oct {n : Nat} {v : Int} (hv : 0 ≤ v ∧ v < 16777216) : Oct (cardZ n v) := fun y hy => by
  obtain ⟨_, _, _, _, _, _, ho⟩ := octs_spec n
  rcases List.mem_append.mp hy with h | h
  · exact ho y h
  · simp only [List.mem_cons, List.not_mem_nil, or_false] at h
    rcases h with rfl | rfl | rfl <;> omega
theorem cardZ_len {n : Nat} {v : Int} : (cardZ n v).length ≤ n + 4 := by
  obtain ⟨b, rem, e, _, _, hl, _⟩ := octs_spec n
  unfold cardZ; rw [e]; simp; omega
theorem c_card {W : Wd} (G : GW W) {j k m : Nat} {v : Int} {σ : St} {Q : V → St → Prop} (hn : 64 * k + m ≤ 9000) (hv : 0 ≤ v ∧ v < 16777216) (q : Q (.bytes (encG (cardZ (64 * k + m) v))) σ) : CallOK W (j + 4) 170 [.int k, .int m, .int v] [] Q σ := by
  refine cS__law_card G rfl ?_
  refine ⟨_, rfl, fdivI (v / 65536) (by decide) rfl ⟨_, rfl, fdivI (v / 256) (by decide) rfl (modI (v / 256 % 256) (by decide) rfl ⟨_, rfl, modI (v % 256) (by decide) rfl ⟨by show 3 ≤ sizeLine; decide, ?_⟩⟩)⟩⟩
  intro o ho
  refine ⟨_, rfl, mulI ((64 * k : Nat) : Int) (by decide) (by omega) ⟨_, rfl, addI ((64 * k + m : Nat) : Int) (by omega) ?_⟩⟩
  refine c_octets (j := j + 2) G (by omega) fun o' ho' => ?_
  have hlen : (octs (64 * k + m)).length ≤ 9010 := by
    obtain ⟨b, rem, e, _, _, hl, _⟩ := octs_spec (64 * k + m)
    rw [e]; simp; omega
  have hne : o ≠ o' := fun h => by
    have : (upd σ o (.list [V.int (v / 65536), V.int (v / 256 % 256), V.int (v % 256)])) o' = none := ho'
    rw [h, upd_at] at this; cases this
  refine ⟨_, rfl, _, _, getL_ref upd_at, getL_ref (xs := iv [v / 65536, v / 256 % 256, v % 256]) ?_, ?_, ?_⟩
  · show (if o = o' then _ else (if o = o then _ else _)) = _
    rw [if_neg hne, if_pos rfl]; rfl
  · rw [iv_len, iv_len]; simp; unfold sizeLine; omega
  intro c hc
  rw [← iv_append]
  refine ⟨_, _, _, rfl, getL_ref upd_at, intsOf_iv _, cardZ_oct hv, by simp; omega, ?_⟩
  refine c_b64encode (j := j) (bs := cardZ (64 * k + m) v) G (cardZ_oct (n := 64 * k + m) hv) (by have := cardZ_len (n := 64 * k + m) (v := v); omega) ?_
  refine ⟨σ, ?_, q⟩
  exact sub_put (sub_put (sub_upd ho) ho') hc
abbrev rdB : PF := seqW (asgS (biW addW (biW mulW (cW (.int 256)) (locW 3)) (locW 4)) (setW 3)) nilW
theorem c_read {W : Wd} (G : GW W) {j n : Nat} {v : Int} {σ : St} {Q : V → St → Prop} (hn : n ≤ 9000) (hv : 0 ≤ v ∧ v < 16777216) (q : Q (.tuple [.int ((n / 64 : Nat) : Int), .list (iv (placesZ ((n % 64 : Nat) : Int))), .int v]) σ) : CallOK W (j + 4) 177 [.bytes (encG (cardZ n v))] [] Q σ := by
  refine cS__law_read G rfl ?_
  refine ⟨_, rfl, c_b64decode (j := j) G (cardZ_oct (n := n) hv) (by have := cardZ_len (n := n) (v := v); omega) ?_⟩
  refine ⟨_, rfl, ?_⟩
  intro w hw
  refine ⟨_, rfl, c_parse (j := j + 2) (n := n) (w := w) (bs := cardZ n v) (tail := [v / 65536, v / 256 % 256, v % 256]) G upd_at rfl (by omega) ?_⟩
  refine ⟨_, rfl, w, _, iv [v / 65536, v / 256 % 256, v % 256], rfl, upd_at, ?_, ?_⟩
  · show (if (octs n).length ≤ (cardZ n v).length then some (((cardZ n v).drop (octs n).length).map V.int) else none) = _
    rw [if_pos (by unfold cardZ; simp)]
    unfold cardZ
    rw [List.drop_left]; rfl
  refine ⟨_, rfl, mulI 0 (by decide) rfl ⟨_, rfl, addI (v / 65536) (by omega) ?_⟩⟩
  refine ⟨_, rfl, mulI (256 * (v / 65536)) (by decide) rfl ⟨_, rfl, addI (v / 256) (by omega) ?_⟩⟩
  refine ⟨_, rfl, mulI (256 * (v / 256)) (by decide) rfl ⟨_, rfl, addI v (by omega) ?_⟩⟩
  refine ⟨_, rfl, fdivI ((n / 64 : Nat) : Int) (by decide) (by omega) ⟨_, rfl, modI ((n % 64 : Nat) : Int) (by decide) (by omega) ?_⟩⟩
  refine c_places (j := j + 2) G ?_
  refine ⟨_, rfl, by show 3 ≤ sizeLine; decide, σ, ?_, q⟩
  intro b x e
  have hb : b ≠ w := fun h => by rw [h] at e; have : σ w = none := hw; rw [this] at e; cases e
  show (if b = w then none else if b = w then _ else if b = w then _ else σ b) = _
  rw [if_neg hb, if_neg hb, if_neg hb]; exact e
end Mine

namespace Mine
open PySem PySem.W PyProof.Rows PySem.Calls

def zs (ns : List Nat) : List Int := ns.map fun (n : Nat) => (n : Int)
theorem toPy_int {σ : St} {n : Nat} {i : Int} : toPy σ n (.int i) = some (.int i) := by cases n <;> rfl
theorem mapM_iv {σ : St} {n : Nat} : ∀ xs : List Int, (iv xs).mapM (toPy σ n) = some (xs.map PyData.int)
  | [] => rfl
  | x :: xs => by
    show ((V.int x) :: iv xs).mapM (toPy σ n) = _
    rw [List.mapM_cons, toPy_int, mapM_iv xs]; rfl
theorem toPy_list {σ : St} {n : Nat} {xs : List Int} : toPy σ (n + 1) (.list (iv xs)) = some (.list (xs.map PyData.int)) := by
  simp only [toPy, mapM_iv]; rfl
theorem toPy_ref {σ : St} {n : Nat} {a : Addr} {xs : List Int} (h : σ a = some (.list (iv xs))) : toPy σ (n + 1) (.ref a) = some (.list (xs.map PyData.int)) := by
  simp only [toPy, h, mapM_iv]; rfl
theorem any_eqv (xs : List Int) (d : Int) : (xs.map PyData.int).any (fun z => PyData.eqv z (.int d)) = xs.contains d := by
  induction xs with
  | nil => rfl
  | cons x xs ih =>
    rw [List.map_cons, List.any_cons, ih, List.contains_cons]
    congr 1
    simp only [PyData.eqv]
    rw [Bool.eq_iff_iff, beq_iff_eq, beq_iff_eq]; exact eq_comm
theorem and_nat (a b : Nat) : Builtin.bitAnd (a : Int) (b : Int) = ((a &&& b : Nat) : Int) := by
  rw [bitAnd_pp (by omega) (by omega), Int.toNat_natCast, Int.toNat_natCast]
theorem or_nat (a b : Nat) : Builtin.bitOr (a : Int) (b : Int) = ((a ||| b : Nat) : Int) := by
  unfold Builtin.bitOr
  rw [bitAnd_nn (by unfold Builtin.bitNot; omega) (by unfold Builtin.bitNot; omega)]
  have e : ∀ n : Nat, (Builtin.bitNot (Builtin.bitNot (n : Int))).toNat = n := fun n => by unfold Builtin.bitNot; omega
  rw [e, e]
  unfold Builtin.bitNot; omega

/-! ### _law_held -/
def ones : List Int := [1, 2, 4, 8, 16, 32]
def stops (ms : List Nat) (c : Nat) : Bool := ms.all fun m => !ones.contains (((m &&& c : Nat) : Nat) : Int)
def heldS (ms : List Nat) (cs : List Nat) (h : Nat) : Nat := cs.foldl (fun h c => if stops ms c then h ||| c else h) h
abbrev hdC : PV := compW 3 (locW 0) (setW 3) (cmW inW (biW andW (locW 3) (locW 2)) (lsW (argS (cW (.int 1)) (argS (cW (.int 2)) (argS (cW (.int 4)) (argS (cW (.int 8)) (argS (cW (.int 16)) (argS (cW (.int 32)) arg0)))))))) (locW 3)
abbrev hdB : PF := seqW (ifS (cmW eqW hdC (lsW arg0)) (seqW (asgS (biW orW (locW 1) (locW 2)) (setW 1)) nilW) nilW) nilW
theorem eqv_ints_nil (xs : List Int) : PyData.eqv (.list (xs.map PyData.int)) (.list []) = xs.isEmpty := by cases xs <;> rfl
theorem hd_turn {ms : List Nat} {c : Nat} {σ : St} {st : S} {Q : Bool → S → Prop} (hl : ms.length ≤ 1000) (h0 : st.ρ 0 = some (.list (iv (zs ms)))) (h2 : st.ρ 2 = some (.int c)) (hs : St.Sub σ st.σ)
    (q : ∀ st', st'.ρ = st.ρ → St.Sub σ st'.σ → Q (stops ms c) st') : cmW eqW hdC (lsW arg0) Q st := by
  refine ⟨_, h0, _, rfl, by unfold sizeLine; simp [iv, zs]; omega, ?_⟩
  refine comp_grow (σ := σ) (fun x => match x with | .int m => ones.contains (((m.toNat &&& c : Nat) : Nat) : Int) | _ => false) id _ [] st.σ hs ?_ ?_ ?_
  · intro x hx σ' hs' Z hZ
    simp only [iv, zs, List.map_map, List.mem_map] at hx
    obtain ⟨m, hm, rfl⟩ := hx
    refine ⟨_, rfl, _, h2, andI ((m &&& c : Nat) : Int) (and_nat m c) ⟨by show 6 ≤ sizeLine; decide, fun a ha => ?_⟩⟩
    refine ⟨_, _, toPy_int, toPy_ref (xs := ones) upd_at, ?_⟩
    rw [any_eqv]
    exact hZ _ (sub_put hs' ha)
  · intro x hx hb σ' hs' Z hZ
    exact ⟨_, rfl, hZ σ' hs'⟩
  · intro σ' hs' a ha
    refine ⟨by show 0 ≤ sizeLine; decide, fun b hb => ?_⟩
    have hba : a ≠ b := fun h => by
      have : (upd σ' a _) b = none := hb
      rw [← h, upd_at] at this; cases this
    have e : ([] ++ ((iv (zs ms)).filter (fun x => match x with | .int m => ones.contains (((m.toNat &&& c : Nat) : Nat) : Int) | _ => false)).map id) = iv (zs (ms.filter fun m => ones.contains (((m &&& c : Nat) : Nat) : Int))) := by
      simp only [List.nil_append, iv, zs, List.map_map, List.filter_map]
      congr 1
    have e' : (ms.filter fun m => ones.contains (((m &&& c : Nat) : Nat) : Int)).isEmpty = stops ms c := by
      rw [Bool.eq_iff_iff]
      simp [stops, List.filter_eq_nil_iff]
    refine ⟨_, _, toPy_ref (xs := zs (ms.filter fun m => ones.contains (((m &&& c : Nat) : Nat) : Int))) (n := 7) ?_, toPy_ref (xs := []) (n := 7) upd_at, ?_⟩
    · show (if a = b then _ else if a = a then _ else _) = _
      rw [if_neg hba, if_pos rfl, e]
    · show Q (PyData.eqv _ (.list [])) _
      rw [eqv_ints_nil]
      have e2 : (zs (ms.filter fun m => ones.contains (((m &&& c : Nat) : Nat) : Int))).isEmpty = stops ms c := by
        rw [← e']; unfold zs; simp
      rw [e2]
      exact q _ rfl (sub_put (sub_put hs' ha) hb)
theorem hd_loop {ms : List Nat} {σ : St} {Q : Fl → S → Prop} (hl : ms.length ≤ 1000) : ∀ (cs : List Nat) (h : Nat) (st : S), st.ρ 0 = some (.list (iv (zs ms))) → st.ρ 1 = some (.int h) → St.Sub σ st.σ →
    (∀ st', st'.ρ 1 = some (.int (heldS ms cs h : Nat)) → St.Sub σ st'.σ → Q .next st') → forL (setW 2) hdB Q (cs.map fun (c : Nat) => V.int c) st
  | [], h, st, h0, h1, hs, K => K st h1 hs
  | c :: cs, h, st, h0, h1, hs, K => by
    refine hd_turn (σ := σ) (ms := ms) (c := c) hl h0 rfl hs fun st' er es => ?_
    refine ifF (fun hb => ?_) (fun hb => ?_)
    · refine ⟨_, by rw [er]; exact h1, _, by rw [er]; rfl, orI ((h ||| c : Nat) : Int) (or_nat h c) ?_⟩
      refine hd_loop hl cs (h ||| c) _ (by show st'.ρ 0 = _; rw [er]; exact h0) rfl es fun st2 e1 e2 => K st2 ?_ e2
      rw [e1]; simp [heldS, hb]
    · refine hd_loop hl cs h _ (by rw [er]; exact h0) (by rw [er]; exact h1) es fun st2 e1 e2 => K st2 ?_ e2
      rw [e1]; simp [heldS, hb]
def heldN (ms : List Nat) : Nat := heldS ms (List.range 64) 0
theorem c_held {W : Wd} (G : GW W) {j : Nat} {ms : List Nat} {σ : St} {Q : V → St → Prop} (hl : ms.length ≤ 1000) (q : Q (.int (heldN ms : Nat)) σ) : CallOK W (j + 1) 187 [.list (iv (zs ms))] [] Q σ := by
  refine cS__law_held G rfl ?_
  refine .inl ⟨_, rfl, ?_⟩
  refine ⟨_, items_range (n := 64) (by decide), ?_⟩
  refine hd_loop (σ := σ) (ms := ms) hl (List.range 64) 0 _ rfl rfl (Sub.refl _) fun st' e1 e2 => ?_
  exact ⟨_, e1, σ, e2, q⟩
end Mine

namespace Mine
open PySem PySem.W PyProof.Rows PySem.Calls

def pls (m : Nat) (u : Nat → Bool) : List Nat := (List.range 6).filter fun j => m.testBit j && u j
def cut (u : Nat → Bool) (x : Nat) : Nat → Bool := fun j => u j && j != x
def plN (m : Nat) : List Nat := (List.range 6).filter fun j => m.testBit j
theorem pls_mem {m : Nat} {u : Nat → Bool} {j : Nat} : j ∈ pls m u ↔ j < 6 ∧ m.testBit j = true ∧ u j = true := by
  simp [pls, List.mem_filter]
theorem pls_nodup {m : Nat} {u : Nat → Bool} : (pls m u).Nodup := (List.nodup_range).filter _
theorem pls_cut {m x : Nat} {u : Nat → Bool} : pls m (cut u x) = (pls m u).filter fun j => j != x := by
  unfold pls cut
  rw [List.filter_filter]
  congr 1; funext j
  cases m.testBit j <;> cases u j <;> simp
theorem pls_cut_not {m x : Nat} {u : Nat → Bool} (h : x ∉ pls m u) : pls m (cut u x) = pls m u := by
  rw [pls_cut]
  refine List.filter_eq_self.mpr fun y hy => ?_
  simp; intro e; subst e; exact h hy
theorem pls_true {m : Nat} : pls m (fun _ => true) = plN m := by simp [pls, plN]
theorem placesZ_nat (m : Nat) : placesZ (m : Int) = zs (plN m) := by
  unfold placesZ zs plN
  congr 1
  apply List.filter_congr
  intro i _
  rw [Nat.testBit_eq_decide_div_mod_eq, Bool.eq_iff_iff]
  have e : (m : Int) / 2 ^ i % 2 = ((m / 2 ^ i % 2 : Nat) : Int) := by
    have : ((2 : Int) ^ i) = ((2 ^ i : Nat) : Int) := by simp
    rw [this]; omega
  rw [beq_iff_eq, decide_eq_true_iff, e]; omega
def sumX (h : Nat → Nat) (ps : List Nat) : Nat := ps.foldl (fun v j => v ^^^ h j) 0
theorem foldl_xor (h : Nat → Nat) : ∀ (ps : List Nat) (v : Nat), ps.foldl (fun v j => v ^^^ h j) v = v ^^^ sumX h ps
  | [], v => by simp [sumX]
  | p :: ps, v => by
    have e : sumX h (p :: ps) = h p ^^^ sumX h ps := by
      show ps.foldl (fun v j => v ^^^ h j) (0 ^^^ h p) = _
      rw [foldl_xor h ps, Nat.zero_xor]
    rw [e, List.foldl_cons, foldl_xor h ps, Nat.xor_assoc]
theorem sumX_cons {h : Nat → Nat} {p : Nat} {ps : List Nat} : sumX h (p :: ps) = h p ^^^ sumX h ps := by
  show ps.foldl (fun v j => v ^^^ h j) (0 ^^^ h p) = _
  rw [foldl_xor h ps, Nat.zero_xor]
theorem sumX_filter {h : Nat → Nat} {x : Nat} : ∀ {ps : List Nat}, ps.Nodup → x ∈ ps → sumX h (ps.filter fun j => j != x) = sumX h ps ^^^ h x
  | [], _, hx => by simp at hx
  | p :: ps, hn, hx => by
    rw [List.nodup_cons] at hn
    by_cases e : p = x
    · subst e
      have : (p :: ps).filter (fun j => j != p) = ps := by
        rw [List.filter_cons]
        simp only [bne_self_eq_false, Bool.false_eq_true, if_false]
        refine List.filter_eq_self.mpr fun y hy => ?_
        simp; intro e; subst e; exact hn.1 hy
      rw [this, sumX_cons, Nat.xor_comm (h p), Nat.xor_assoc, Nat.xor_self, Nat.xor_zero]
    · have hx' : x ∈ ps := by
        rcases List.mem_cons.mp hx with h | h
        · exact absurd h.symm e
        · exact h
      rw [List.filter_cons, if_pos (by simp [e]), sumX_cons, sumX_cons, sumX_filter hn.2 hx', Nat.xor_assoc]
theorem xor_nat (a b : Nat) : Builtin.bitXor (a : Int) (b : Int) = ((a ^^^ b : Nat) : Int) := by
  unfold Builtin.bitXor
  rw [or_nat, and_nat]
  have h : ∀ n a b : Nat, a < 2 ^ n → b < 2 ^ n → (a ||| b) = (a ^^^ b) + (a &&& b) := by
    intro n
    induction n with
    | zero => intro a b ha hb; simp at ha hb; subst ha; subst hb; rfl
    | succ n ih =>
      intro a b ha hb
      have := ih (a / 2) (b / 2) (by rw [Nat.pow_succ] at ha; omega) (by rw [Nat.pow_succ] at hb; omega)
      have e1 : (a ||| b) / 2 = (a / 2 ||| b / 2) := Nat.or_div_two
      have e2 : (a ^^^ b) / 2 = (a / 2 ^^^ b / 2) := Nat.xor_div_two
      have e3 : (a &&& b) / 2 = (a / 2 &&& b / 2) := Nat.and_div_two
      have f1 : (a ||| b) % 2 = 1 - (1 - a % 2) * (1 - b % 2) := by
        have h := Nat.or_mod_two_pow (a := a) (b := b) (n := 1)
        simp only [Nat.pow_one] at h
        rw [h]
        rcases Nat.mod_two_eq_zero_or_one a with x | x <;> rcases Nat.mod_two_eq_zero_or_one b with y | y <;> rw [x, y] <;> rfl
      have f2 : (a ^^^ b) % 2 = (a % 2 + b % 2) % 2 := by
        have h := Nat.xor_mod_two_pow (a := a) (b := b) (n := 1)
        simp only [Nat.pow_one] at h
        rw [h]
        rcases Nat.mod_two_eq_zero_or_one a with x | x <;> rcases Nat.mod_two_eq_zero_or_one b with y | y <;> rw [x, y] <;> rfl
      have f3 : (a &&& b) % 2 = (a % 2) * (b % 2) := by
        have h := Nat.and_mod_two_pow (a := a) (b := b) (n := 1)
        simp only [Nat.pow_one] at h
        rw [h]
        rcases Nat.mod_two_eq_zero_or_one a with x | x <;> rcases Nat.mod_two_eq_zero_or_one b with y | y <;> rw [x, y] <;> rfl
      rcases Nat.mod_two_eq_zero_or_one a with x | x <;> rcases Nat.mod_two_eq_zero_or_one b with y | y <;> rw [x, y] at f1 f2 f3 <;> omega
  have ha : a < 2 ^ (a + b) := Nat.lt_of_lt_of_le Nat.lt_two_pow_self (Nat.pow_le_pow_right (by decide) (by omega))
  have hb : b < 2 ^ (a + b) := Nat.lt_of_lt_of_le Nat.lt_two_pow_self (Nat.pow_le_pow_right (by decide) (by omega))
  rw [h (a + b) a b ha hb]; omega
theorem sumZ_nat (hid ps : List Nat) : sumZ (zs hid) (zs ps) = ((sumX (fun j => hid.getD j 0) ps : Nat) : Int) := by
  have key : ∀ (ps : List Nat) (v : Nat), (zs ps).foldl (fun v j => Builtin.bitXor v ((zs hid).getD j.toNat 0)) (v : Int) = ((ps.foldl (fun v j => v ^^^ hid.getD j 0) v : Nat) : Int) := by
    intro ps
    induction ps with
    | nil => intro v; rfl
    | cons p ps ih =>
      intro v
      have e : (zs hid).getD ((p : Nat) : Int).toNat 0 = ((hid.getD p 0 : Nat) : Int) := by
        rw [Int.toNat_natCast]
        simp only [zs, List.getD_eq_getElem?_getD, List.getElem?_map]
        cases hid[p]? <;> rfl
      show (zs ps).foldl _ (Builtin.bitXor (v : Int) ((zs hid).getD ((p : Nat) : Int).toNat 0)) = _
      rw [e, xor_nat, ih]; rfl
  exact key ps 0

/-! ### stopping sets -/
theorem ones_one : ∀ c : Nat, c < 64 → ones.contains (c : Int) = ((plN c).length == 1) := by decide +kernel
theorem plN_and {m c : Nat} : plN (m &&& c) = pls m c.testBit := by
  unfold plN pls; congr 1; funext j; exact Nat.testBit_and ..
theorem stops_iff {ms : List Nat} {c : Nat} (hm : ∀ m ∈ ms, m < 64) : stops ms c = true ↔ ∀ m ∈ ms, (pls m c.testBit).length ≠ 1 := by
  unfold stops
  rw [List.all_eq_true]
  refine forall_congr' fun m => forall_congr' fun h => ?_
  have hl : m &&& c < 64 := Nat.lt_of_le_of_lt Nat.and_le_left (hm m h)
  rw [ones_one _ hl, plN_and]
  simp
def SI (ms : List Nat) (u : Nat → Bool) : Prop := ∀ c, c < 64 → stops ms c = true → ∀ j, j < 6 → c.testBit j = true → u j = true
theorem SI.cut {ms : List Nat} {u : Nat → Bool} {m x : Nat} (h : SI ms u) (hms : ∀ m ∈ ms, m < 64) (hm : m ∈ ms) (hx : pls m u = [x]) : SI ms (cut u x) := by
  intro c hc hs j hj hb
  have hu := h c hc hs j hj hb
  have hne : j ≠ x := by
    intro e; subst e
    have hmem : j ∈ pls m u := by rw [hx]; simp
    have hjm := (pls_mem.mp hmem).2.1
    refine (stops_iff hms).mp hs m hm ?_
    have hsub : pls m c.testBit = [j] := by
      have : pls m c.testBit = (pls m u).filter fun i => c.testBit i := by
        unfold pls
        rw [List.filter_filter]
        apply List.filter_congr
        intro i hi
        have hi6 : i < 6 := by simpa using hi
        by_cases hci : c.testBit i = true
        · have := h c hc hs i hi6 hci
          simp [hci, this]
        · simp [hci]
      rw [this, hx]; simp [hb]
    rw [hsub]; rfl
  show (u j && j != x) = true
  simp [hu, hne]
def toN (u : Nat → Bool) : Nat := (u 0).toNat + 2 * (u 1).toNat + 4 * (u 2).toNat + 8 * (u 3).toNat + 16 * (u 4).toNat + 32 * (u 5).toNat
theorem toN_lt (u : Nat → Bool) : toN u < 64 := by
  unfold toN
  have := Bool.toNat_le (u 0); have := Bool.toNat_le (u 1); have := Bool.toNat_le (u 2); have := Bool.toNat_le (u 3); have := Bool.toNat_le (u 4); have := Bool.toNat_le (u 5)
  omega
theorem toN_all : ∀ b0 b1 b2 b3 b4 b5 : Bool, (b0.toNat + 2 * b1.toNat + 4 * b2.toNat + 8 * b3.toNat + 16 * b4.toNat + 32 * b5.toNat).testBit 0 = b0 ∧ (b0.toNat + 2 * b1.toNat + 4 * b2.toNat + 8 * b3.toNat + 16 * b4.toNat + 32 * b5.toNat).testBit 1 = b1 ∧ (b0.toNat + 2 * b1.toNat + 4 * b2.toNat + 8 * b3.toNat + 16 * b4.toNat + 32 * b5.toNat).testBit 2 = b2 ∧ (b0.toNat + 2 * b1.toNat + 4 * b2.toNat + 8 * b3.toNat + 16 * b4.toNat + 32 * b5.toNat).testBit 3 = b3 ∧ (b0.toNat + 2 * b1.toNat + 4 * b2.toNat + 8 * b3.toNat + 16 * b4.toNat + 32 * b5.toNat).testBit 4 = b4 ∧ (b0.toNat + 2 * b1.toNat + 4 * b2.toNat + 8 * b3.toNat + 16 * b4.toNat + 32 * b5.toNat).testBit 5 = b5 := by decide +kernel
theorem toN_bit {u : Nat → Bool} {j : Nat} (h : j < 6) : (toN u).testBit j = u j := by
  obtain ⟨h0, h1, h2, h3, h4, h5⟩ := toN_all (u 0) (u 1) (u 2) (u 3) (u 4) (u 5)
  match j, h with
  | 0, _ => exact h0
  | 1, _ => exact h1
  | 2, _ => exact h2
  | 3, _ => exact h3
  | 4, _ => exact h4
  | 5, _ => exact h5
theorem pls_congr {m : Nat} {u v : Nat → Bool} (h : ∀ j, j < 6 → u j = v j) : pls m u = pls m v := by
  unfold pls
  apply List.filter_congr
  intro j hj
  rw [h j (by simpa using hj)]
theorem heldS_bit {ms : List Nat} : ∀ (cs : List Nat) (h j : Nat), (heldS ms cs h).testBit j = (h.testBit j || cs.any fun c => stops ms c && c.testBit j)
  | [], h, j => by simp [heldS]
  | c :: cs, h, j => by
    show (heldS ms cs (if stops ms c then h ||| c else h)).testBit j = _
    rw [heldS_bit cs]
    cases hs : stops ms c with
    | true => simp [hs, Nat.testBit_or, Bool.or_assoc]
    | false => simp [hs]
theorem held_bit {ms : List Nat} {u : Nat → Bool} (hms : ∀ m ∈ ms, m < 64) (hsi : SI ms u) (hfin : ∀ m ∈ ms, (pls m u).length ≠ 1) {j : Nat} (hj : j < 6) : (heldN ms).testBit j = u j := by
  unfold heldN
  rw [heldS_bit, Nat.zero_testBit, Bool.false_or, Bool.eq_iff_iff, List.any_eq_true]
  constructor
  · rintro ⟨c, hc, hb⟩
    rw [Bool.and_eq_true] at hb
    exact hsi c (by simpa using hc) hb.1 j hj hb.2
  · intro hu
    refine ⟨toN u, by simpa using toN_lt u, ?_⟩
    rw [Bool.and_eq_true]
    refine ⟨(stops_iff hms).mpr fun m hm => ?_, by rw [toN_bit hj]; exact hu⟩
    rw [pls_congr (fun j hj => toN_bit hj)]
    exact hfin m hm
theorem heldS_lt {ms : List Nat} : ∀ (cs : List Nat) (h : Nat), h < 64 → (∀ c ∈ cs, c < 64) → heldS ms cs h < 64
  | [], h, hh, _ => hh
  | c :: cs, h, hh, hc => by
    show heldS ms cs (if stops ms c then h ||| c else h) < 64
    refine heldS_lt cs _ ?_ (fun y hy => hc y (by simp [hy]))
    split
    · exact Nat.or_lt_two_pow (n := 6) hh (hc c (by simp))
    · exact hh
theorem held_lt {ms : List Nat} : heldN ms < 64 := heldS_lt _ 0 (by decide) (fun c hc => by simpa using hc)
theorem sub63 : ∀ h j : Nat, h < 64 → j < 6 → (63 - h).testBit j = !h.testBit j := by
  have : ∀ h, h < 64 → ∀ j, j < 6 → (63 - h).testBit j = !h.testBit j := by decide +kernel
  exact fun h j hh hj => this h hh j hj
end Mine

namespace Mine
open PySem PySem.W PyProof.Rows PySem.Calls

def LD (n : Nat) (E : Nat → V) : List (Int × V) := (List.range n).map fun (k : Nat) => ((k : Int), E k)
theorem LD_succ {n : Nat} {E : Nat → V} : LD (n + 1) E = LD n E ++ [((n : Int), E n)] := by simp [LD, List.range_succ]
theorem LD_congr {n : Nat} {E E' : Nat → V} (h : ∀ k, k < n → E k = E' k) : LD n E = LD n E' := by
  unfold LD
  apply List.map_congr_left
  intro k hk
  rw [h k (by simpa using hk)]
theorem LD_keys {n : Nat} {E : Nat → V} : (LD n E).map (·.1) = zs (List.range n) := by simp [LD, zs]
theorem LD_len {n : Nat} {E : Nat → V} : (LD n E).length = n := by simp [LD]
theorem lookD_LD {E : Nat → V} {k : Nat} : ∀ {n : Nat}, k < n → lookD (LD n E) (k : Int) = some (E k)
  | 0, h => by omega
  | n + 1, h => by
    rw [LD_succ]
    unfold lookD
    rw [List.find?_append]
    by_cases e : k < n
    · have := lookD_LD (E := E) e
      unfold lookD at this
      cases hf : (LD n E).find? fun p => decide (p.1 = (k : Int)) with
      | none => rw [hf] at this; cases this
      | some p => rw [hf] at this; simpa using this
    · have hk : k = n := by omega
      subst hk
      have : (LD k E).find? (fun p => decide (p.1 = (k : Int))) = none := by
        rw [List.find?_eq_none]
        intro p hp
        simp only [LD, List.mem_map] at hp
        obtain ⟨i, hi, rfl⟩ := hp
        have : i < k := by simpa using hi
        simp; omega
      rw [this]; simp
theorem any_LD {E : Nat → V} {n : Nat} {k : Int} : (LD n E).any (fun p => decide (p.1 = k)) = decide (0 ≤ k ∧ k < n) := by
  rw [Bool.eq_iff_iff, List.any_eq_true, decide_eq_true_iff]
  constructor
  · rintro ⟨p, hp, he⟩
    simp only [LD, List.mem_map] at hp
    obtain ⟨i, hi, rfl⟩ := hp
    have : i < n := by simpa using hi
    have := of_decide_eq_true he
    omega
  · rintro ⟨h0, h1⟩
    exact ⟨((k.toNat : Nat), E k.toNat), List.mem_map.mpr ⟨k.toNat, by simp; omega, rfl⟩, by simp; omega⟩
theorem storeD_LD {E : Nat → V} {n k : Nat} {z : V} (h : k < n) : storeD (LD n E) (k : Int) z = LD n (fun i => if i = k then z else E i) := by
  unfold storeD
  rw [any_LD, if_pos (by simp; omega)]
  unfold LD
  rw [List.map_map]
  apply List.map_congr_left
  intro i hi
  simp only [Function.comp]
  by_cases e : i = k
  · rw [if_pos (by omega), if_pos e]
  · rw [if_neg (by omega), if_neg e]
theorem storeD_new {E : Nat → V} {n : Nat} {z : V} : storeD (LD n E) (n : Int) z = LD (n + 1) (fun i => if i = n then z else E i) := by
  unfold storeD
  rw [any_LD, if_neg (by simp), LD_succ, if_pos rfl]
  congr 1
  apply LD_congr
  intro k hk
  rw [if_neg (by omega)]
theorem compD_grow {n : Nat} {d : Addr} {ep : Nat} {ks : List Int} {ps : List (Int × V)} {Tc : PB} {Te : PV} {ρ : Nat → Option V} {K : List V → St → Prop} {σ : St} (hd : σ d = some (.dict ps ep)) (hk : ps.map (·.1) = ks) (b : Int → Bool) (f : Int → V) : ∀ (xs : List Int) (acc : List V) (σ' : St), St.Sub σ σ' →
    (∀ x ∈ xs, ∀ σ', St.Sub σ σ' → ∀ Z : Bool → S → Prop, (∀ σ'', St.Sub σ σ'' → Z (b x) (S.set ⟨σ'', ρ⟩ n (.int x))) → Tc Z (S.set ⟨σ', ρ⟩ n (.int x))) →
    (∀ x ∈ xs, b x = true → ∀ σ', St.Sub σ σ' → ∀ Z : V → S → Prop, (∀ σ'', St.Sub σ σ'' → Z (f x) (S.set ⟨σ'', ρ⟩ n (.int x))) → Te Z (S.set ⟨σ', ρ⟩ n (.int x))) →
    (∀ σ', St.Sub σ σ' → K (acc ++ (xs.filter b).map f) σ') → compDL n d ep ks (setW n) Tc Te ρ K xs acc σ'
  | [], acc, σ', hs, _, _, q => by
    have := q σ' hs
    rw [List.filter_nil, List.map_nil, List.append_nil] at this
    exact ⟨⟨ps, hs _ _ hd, hk⟩, this⟩
  | x :: xs, acc, σ', hs, hc, he, q => by
    have off : ∀ (σ'' : St), ∀ i, i < n → (S.set ⟨σ'', ρ⟩ n (.int x)).ρ i = ρ i := fun σ'' i hi => if_neg (Nat.ne_of_lt hi)
    refine ⟨⟨ps, hs _ _ hd, hk⟩, ?_⟩
    refine hc x (by simp) σ' hs _ fun σ₁ h₁ => ifP (fun hb => ?_) (fun hb => ?_)
    · refine he x (by simp) hb σ₁ h₁ _ fun σ₂ h₂ => ⟨off σ₂, ?_⟩
      refine compD_grow hd hk b f xs _ σ₂ h₂ (fun y hy => hc y (by simp [hy])) (fun y hy => he y (by simp [hy])) fun σ₃ h₃ => ?_
      have := q σ₃ h₃
      simpa [List.filter_cons, hb] using this
    · refine ⟨off σ₁, ?_⟩
      refine compD_grow hd hk b f xs _ σ₁ h₁ (fun y hy => hc y (by simp [hy])) (fun y hy => he y (by simp [hy])) fun σ₃ h₃ => ?_
      have := q σ₃ h₃
      simpa [List.filter_cons, hb] using this
theorem toPy_tv {σ : St} {n : Nat} {is : List Int} : toPy σ (n + 1) (tv is) = some (.tuple (is.map PyData.int)) := by
  have := mapM_iv (σ := σ) (n := n) is
  unfold iv at this
  simp only [tv, toPy, this]; rfl
theorem toPy_hv {σ : St} {n : Nat} {a : Addr} {hs : List (List Int)} (h : σ a = some (.list (hv hs))) : toPy σ (n + 2) (.ref a) = some (.list (hs.map fun is => .tuple (is.map PyData.int))) := by
  have e : ∀ hs : List (List Int), (hv hs).mapM (toPy σ (n + 1)) = some (hs.map fun is => PyData.tuple (is.map PyData.int)) := by
    intro hs
    induction hs with
    | nil => rfl
    | cons x xs ih =>
      show (tv x :: hv xs).mapM _ = _
      rw [List.mapM_cons, toPy_tv, ih]; rfl
  simp only [toPy, h, e]; rfl
theorem ne_nil_hv {st : S} {a : Addr} {hs : List (List Int)} {Q : Bool → S → Prop} (h : st.σ a = some (.list (hv hs))) (q : ∀ b x, st.σ b = none → Q (!hs.isEmpty) (st.put b x)) : lsW arg0 (fun y => neW (.ref a) y Q) st := by
  refine ⟨by show 0 ≤ sizeLine; decide, fun b hb => ?_⟩
  have hne : a ≠ b := fun e => by rw [← e, h] at hb; cases hb
  refine ⟨_, _, toPy_hv (n := 6) (hs := hs) ?_, toPy_ref (n := 7) (xs := []) upd_at, ?_⟩
  · show (if a = b then _ else st.σ a) = _
    rw [if_neg hne]; exact h
  · have e : (!PyData.eqv (.list (hs.map fun is => PyData.tuple (is.map PyData.int))) (.list ([].map PyData.int))) = !hs.isEmpty := by cases hs <;> rfl
    have q' := q b (.list []) hb
    rw [← e] at q'
    exact q'
theorem ne_nil_iv {st : S} {xs : List Int} {Q : Bool → S → Prop} (q : ∀ b x, st.σ b = none → Q (!xs.isEmpty) (st.put b x)) : lsW arg0 (fun y => neW (.list (iv xs)) y Q) st := by
  refine ⟨by show 0 ≤ sizeLine; decide, fun b hb => ?_⟩
  refine ⟨_, _, toPy_list (n := 7) (xs := xs), toPy_ref (n := 7) (xs := []) upd_at, ?_⟩
  have e : (!PyData.eqv (.list (xs.map PyData.int)) (.list ([].map PyData.int))) = !xs.isEmpty := by cases xs <;> rfl
  have q' := q b (.list []) hb
  rw [← e] at q'
  exact q'
theorem getW_dict {st : S} {d : Addr} {ps : List (Int × V)} {ep : Nat} {k : Int} {z : V} {Q : V → S → Prop} (h : st.σ d = some (.dict ps ep)) (hl : lookD ps k = some z) (q : Q z st) : getW (.ref d) (.int k) Q st := .inr ⟨d, ps, ep, z, rfl, h, hl, q⟩

/-! ### the cards are read -/
def ent (h : Nat → Nat) (ps : List Nat) : V := .tuple [.list (iv (zs ps)), .int ((sumX h ps : Nat) : Int)]
abbrev pe1 (W : Wd) (j : Nat) : PF := seqW (asgS (cbW (argS (locW 2) arg0) (callW W j 177)) (tupW [(setW 3), (setW 4), (setW 5)]))
  (seqW (putS (tpW (argS (locW 4) (argS (locW 5) arg0))) (locW 1) (locW 3))
  nilW)
def textV (h : Nat → Nat) (ms : List Nat) (k : Nat) : V := .bytes (encG (cardZ (64 * k + ms.getD k 0) ((sumX h (plN (ms.getD k 0)) : Nat) : Int)))
theorem getD_mem {ms : List Nat} {k : Nat} (h : k < ms.length) : ms.getD k 0 ∈ ms := by
  rw [List.getD_eq_getElem?_getD, List.getElem?_eq_getElem h]; simp
theorem pe1_loop {W : Wd} (G : GW W) {j : Nat} {h : Nat → Nat} {ms : List Nat} {d : Addr} {σ₀ : St} {Q : Fl → S → Prop} (hms : ∀ m ∈ ms, m < 64) (hlen : ms.length ≤ 7) (hh : ∀ m, sumX h (plN m) < 16777216) : ∀ (r i : Nat) (st : S) (ep : Nat), i + r = ms.length → st.ρ 1 = some (.ref d) → st.σ = upd σ₀ d (.dict (LD i fun k => ent h (plN (ms.getD k 0))) ep) →
    (∀ st' ep', st'.ρ 1 = some (.ref d) → st'.σ = upd σ₀ d (.dict (LD ms.length fun k => ent h (plN (ms.getD k 0))) ep') → Q .next st') → forL (setW 2) (pe1 W (j + 4)) Q ((List.range' i r).map (textV h ms)) st
  | 0, i, st, ep, hi, h1, hσ, K => K st ep h1 (by rw [hσ, show i = ms.length by omega])
  | r + 1, i, st, ep, hi, h1, hσ, K => by
    rw [List.range'_succ, List.map_cons]
    have hm := hms _ (getD_mem (ms := ms) (k := i) (by omega))
    refine ⟨_, rfl, ?_⟩
    refine c_read (j := j) G (n := 64 * i + ms.getD i 0) (by omega) ⟨by omega, by have := hh (ms.getD i 0); omega⟩ ?_
    refine ⟨_, rfl, rfl, ?_⟩
    refine ⟨_, rfl, _, rfl, by show 2 ≤ sizeLine; decide, _, h1, _, rfl, ?_⟩
    refine ⟨d, _, rfl, rfl, .inr ⟨_, ep, by show st.σ d = _; rw [hσ]; exact upd_at, by rw [LD_len]; omega, fun ep' _ => ?_⟩⟩
    refine pe1_loop G (σ₀ := σ₀) hms hlen hh r (i + 1) _ ep' (by omega) h1 ?_ K
    show upd st.σ d _ = _
    rw [hσ, upd_upd]
    rw [show (64 * i + ms.getD i 0) / 64 = i by omega, show (64 * i + ms.getD i 0) % 64 = ms.getD i 0 by omega, storeD_new, placesZ_nat]
    congr 2
    apply LD_congr
    intro k hk
    by_cases e : k = i
    · rw [if_pos e, e]; rfl
    · rw [if_neg e]
end Mine

namespace Mine
open PySem PySem.W PyProof.Rows PySem.Calls

/-! ### the heap and the cards -/
structure HI (n : Nat) (C : Nat → List Nat) (ex : Nat → Prop) (hs : List (List Int)) : Prop where
  two : HS 2 hs
  heap : HeapFrom leL 0 hs
  each : ∀ e ∈ hs, ∃ l k : Nat, e = [(l : Int), (k : Int)] ∧ k < n ∧ 1 ≤ l ∧ (C k).length ≤ l
  all : ∀ k, k < n → C k ≠ [] → ¬ ex k → [((C k).length : Int), (k : Int)] ∈ hs
theorem HI.perm {n : Nat} {C : Nat → List Nat} {ex : Nat → Prop} {hs hs' : List (List Int)} (h : HI n C ex hs) (hp : hs'.Perm hs) (hf : HeapFrom leL 0 hs') : HI n C ex hs' :=
  ⟨fun e he => h.two e (hp.mem_iff.mp he), hf, fun e he => h.each e (hp.mem_iff.mp he), fun k hk hc hx => hp.mem_iff.mpr (h.all k hk hc hx)⟩
def kd (h : Nat → Nat) (kl : List Nat) : List (Int × V) := kl.map fun (x : Nat) => ((x : Int), V.int ((h x : Nat) : Int))
theorem kd_new {h : Nat → Nat} {kl : List Nat} {x : Nat} (hx : x ∉ kl) : storeD (kd h kl) (x : Int) (.int ((h x : Nat) : Int)) = kd h (kl ++ [x]) := by
  unfold storeD
  rw [if_neg]
  · simp [kd]
  · rw [List.any_eq_true]
    rintro ⟨p, hp, he⟩
    simp only [kd, List.mem_map] at hp
    obtain ⟨y, hy, rfl⟩ := hp
    have := of_decide_eq_true he
    have : y = x := by have h2 : (y : Int) = (x : Int) := this; omega
    exact hx (this ▸ hy)
theorem contains_zs {ps : List Nat} {x : Nat} : (zs ps).contains (x : Int) = ps.contains x := by
  rw [Bool.eq_iff_iff, List.contains_iff_mem, List.contains_iff_mem]
  unfold zs
  rw [List.mem_map]
  constructor
  · rintro ⟨a, ha, e⟩
    have : a = x := by omega
    exact this ▸ ha
  · exact fun h => ⟨x, h, rfl⟩

/-- what the peeling has in hand -/
structure PI (h : Nat → Nat) (n : Nat) (σ : St) (d hp kn : Addr) (E : Nat → V) (kl : List Nat) (hs : List (List Int)) (ep ep' : Nat) (st : S) : Prop where
  r1 : st.ρ 1 = some (.ref d)
  r6 : st.ρ 6 = some (.ref hp)
  r7 : st.ρ 7 = some (.ref kn)
  sub : St.Sub σ st.σ
  sd : st.σ d = some (.dict (LD n E) ep)
  sh : st.σ hp = some (.list (hv hs))
  sk : st.σ kn = some (.dict (kd h kl) ep')
structure Off (σ : St) (d hp kn : Addr) : Prop where
  od : σ d = none
  oh : σ hp = none
  ok : σ kn = none
  dh : d ≠ hp
  dk : d ≠ kn
  hk : hp ≠ kn
theorem sub_off {σ σ' : St} {a : Addr} {x : AO} (h : St.Sub σ σ') (ha : σ a = none) : St.Sub σ (upd σ' a x) := fun b y e => by
  unfold upd
  rw [if_neg (fun hb => by rw [hb, ha] at e; cases e)]; exact h b y e
/-- a list that nothing holds is made -/
theorem PI.junk {h : Nat → Nat} {n : Nat} {σ : St} {d hp kn : Addr} {E : Nat → V} {kl : List Nat} {hs : List (List Int)} {ep ep' : Nat} {st : S} (p : PI h n σ d hp kn E kl hs ep ep' st) {b : Addr} {x : AO} (hb : st.σ b = none) : PI h n σ d hp kn E kl hs ep ep' (st.put b x) := by
  have ne : ∀ a y, st.σ a = some y → (st.put b x).σ a = some y := fun a y e => by
    show (if a = b then _ else st.σ a) = _
    rw [if_neg (fun z => by rw [z, hb] at e; cases e)]; exact e
  exact ⟨p.r1, p.r6, p.r7, sub_put p.sub hb, ne _ _ p.sd, ne _ _ p.sh, ne _ _ p.sk⟩

abbrev inB (W : Wd) (j : Nat) : PF := seqW (ifS (cmW inW (itW (locW 8) (cW (.int 0))) (itW (itW (locW 1) (locW 3)) (cW (.int 0)))) (seqW (asgS (compW 9 (itW (itW (locW 1) (locW 3)) (cW (.int 0))) (setW 9) (cmW neW (locW 9) (itW (locW 8) (cW (.int 0)))) (locW 9)) (fzA (setW 4)))
  (seqW (putS (tpW (argS (locW 4) (argS (biW xorW (itW (itW (locW 1) (locW 3)) (cW (.int 1))) (locW 5)) arg0))) (locW 1) (locW 3))
  (seqW (ifS (cmW neW (locW 4) (lsW arg0)) (seqW (exprW (cbW (argS (locW 6) (argS (tpW (argS (cbW (argS (locW 4) arg0) lenW) (argS (locW 3) arg0))) arg0)) (callW W j 28)))
  nilW) nilW)
  nilW))) nilW)
  nilW
def mixE (h : Nat → Nat) (ms : List Nat) (u : Nat → Bool) (x i : Nat) : Nat → V := fun k => ent h (if k < i then pls (ms.getD k 0) (cut u x) else pls (ms.getD k 0) u)
def mixC (ms : List Nat) (u : Nat → Bool) (x i : Nat) : Nat → List Nat := fun k => if k < i then pls (ms.getD k 0) (cut u x) else pls (ms.getD k 0) u
theorem mix_same {ms : List Nat} {u : Nat → Bool} {x i : Nat} (hx : x ∉ pls (ms.getD i 0) u) : mixC ms u x (i + 1) = mixC ms u x i := by
  funext k
  unfold mixC
  by_cases e : k = i
  · subst e; rw [if_pos (by omega), if_neg (by omega), pls_cut_not hx]
  · by_cases h : k < i
    · rw [if_pos (by omega), if_pos h]
    · rw [if_neg (by omega), if_neg h]
theorem mixE_C {h : Nat → Nat} {ms : List Nat} {u : Nat → Bool} {x i : Nat} : mixE h ms u x i = fun k => ent h (mixC ms u x i k) := rfl
theorem iv_filter {ps : List Nat} {x : Nat} : (iv (zs ps)).filter (fun y => match y with | .int m => !(m == (x : Int)) | _ => false) = iv (zs (ps.filter fun j => j != x)) := by
  induction ps with
  | nil => rfl
  | cons p ps ih =>
    show (V.int (p : Int) :: iv (zs ps)).filter _ = _
    rw [List.filter_cons, List.filter_cons, ih]
    by_cases e : p = x
    · subst e; simp
    · have e1 : (p != x) = true := by simp [e]
      have e2 : (!((p : Int) == (x : Int))) = true := by simp; omega
      simp only [e1, e2, if_true]; rfl
theorem pls_len {m : Nat} {u : Nat → Bool} : (pls m u).length ≤ 6 := Nat.le_trans (List.length_filter_le _ _) (by simp)
theorem zs_len {ps : List Nat} : (zs ps).length = ps.length := List.length_map _
theorem upd_ne {σ : St} {a b : Addr} {x : AO} (h : b ≠ a) : upd σ a x b = σ b := if_neg h
theorem mix_step {ms : List Nat} {u : Nat → Bool} {x i : Nat} : (∀ k, k ≠ i → mixC ms u x (i + 1) k = mixC ms u x i k) ∧ mixC ms u x (i + 1) i = (pls (ms.getD i 0) u).filter (fun j => j != x) ∧ mixC ms u x i i = pls (ms.getD i 0) u := by
  refine ⟨fun k hk => ?_, ?_, ?_⟩
  · unfold mixC
    by_cases h : k < i
    · rw [if_pos (by omega), if_pos h]
    · rw [if_neg (by omega), if_neg h]
  · unfold mixC; rw [if_pos (by omega), pls_cut]
  · unfold mixC; rw [if_neg (by omega)]
theorem HI.less {n i : Nat} {C C' : Nat → List Nat} {ex ex' : Nat → Prop} {hs : List (List Int)} (h : HI n C ex hs) (h1 : ∀ k, k ≠ i → C' k = C k) (h2 : (C' i).length ≤ (C i).length) (h3 : ∀ k, k ≠ i → ¬ ex' k → ¬ ex k) (h4 : C' i = []) : HI n C' ex' hs := by
  refine ⟨h.two, h.heap, fun e he => ?_, fun k hk hc hx => ?_⟩
  · obtain ⟨l, k, e1, e2, e3, e4⟩ := h.each e he
    refine ⟨l, k, e1, e2, e3, ?_⟩
    by_cases e : k = i
    · subst e; omega
    · rw [h1 k e]; exact e4
  · by_cases e : k = i
    · subst e; exact absurd h4 hc
    · rw [h1 k e] at hc ⊢; exact h.all k hk hc (h3 k e hx)
theorem HI.more {n i : Nat} {C C' : Nat → List Nat} {ex ex' : Nat → Prop} {hs hs' : List (List Int)} (h : HI n C ex hs) (hi : i < n) (h1 : ∀ k, k ≠ i → C' k = C k) (h2 : (C' i).length ≤ (C i).length) (h3 : ∀ k, k ≠ i → ¬ ex' k → ¬ ex k) (h4 : C' i ≠ []) (hp : hs'.Perm (hs ++ [[((C' i).length : Int), (i : Int)]])) (hf : HeapFrom leL 0 hs') : HI n C' ex' hs' := by
  refine ⟨fun e he => ?_, hf, fun e he => ?_, fun k hk hc hx => ?_⟩
  · rcases List.mem_append.mp (hp.mem_iff.mp he) with h' | h'
    · exact h.two e h'
    · rw [List.mem_singleton.mp h']; rfl
  · rcases List.mem_append.mp (hp.mem_iff.mp he) with h' | h'
    · obtain ⟨l, k, e1, e2, e3, e4⟩ := h.each e h'
      refine ⟨l, k, e1, e2, e3, ?_⟩
      by_cases e : k = i
      · subst e; omega
      · rw [h1 k e]; exact e4
    · refine ⟨(C' i).length, i, List.mem_singleton.mp h', hi, ?_, Nat.le_refl _⟩
      exact List.length_pos_iff.mpr h4
  · refine hp.mem_iff.mpr (List.mem_append.mpr ?_)
    by_cases e : k = i
    · subst e; exact .inr (by simp)
    · rw [h1 k e] at hc ⊢; exact .inl (h.all k hk hc (h3 k e hx))
theorem in_loop {W : Wd} (G : GW W) {j : Nat} {h : Nat → Nat} {ms : List Nat} {u : Nat → Bool} {x : Nat} {σ : St} {d hp kn : Addr} {kl : List Nat} {ep ep' : Nat} {Q : Fl → S → Prop} (hlen : ms.length ≤ 7) (off : Off σ d hp kn) : ∀ (r i : Nat) (hs : List (List Int)) (st : S), i + r = ms.length →
    PI h ms.length σ d hp kn (mixE h ms u x i) kl hs ep ep' st → st.ρ 8 = some (.list (iv (zs [x]))) → st.ρ 5 = some (.int ((h x : Nat) : Int)) → HI ms.length (mixC ms u x i) (fun k => x ∈ mixC ms u x i k) hs → hs.length ≤ 1000 + i →
    (∀ (st' : S) (hs' : List (List Int)), PI h ms.length σ d hp kn (mixE h ms u x ms.length) kl hs' ep ep' st' → HI ms.length (mixC ms u x ms.length) (fun k => x ∈ mixC ms u x ms.length k) hs' → hs'.length ≤ hs.length + r → Q .next st') →
    forDL d ep (zs (List.range ms.length)) (setW 3) (inB W (j + 2)) Q (zs (List.range' i r)) st
  | 0, i, hs, st, hi, p, h8, h5, hH, hl, K => by
    have e : i = ms.length := by omega
    subst e
    exact ⟨⟨_, p.sd, LD_keys⟩, K st hs p hH (by omega)⟩
  | r + 1, i, hs, st, hi, p, h8, h5, hH, hl, K => by
    have e : zs (List.range' i (r + 1)) = (i : Int) :: zs (List.range' (i + 1) r) := by rw [List.range'_succ]; rfl
    rw [e]
    refine ⟨⟨_, p.sd, LD_keys⟩, ?_⟩
    have hin : i < ms.length := by omega
    have hlook : lookD (LD ms.length (mixE h ms u x i)) (i : Int) = some (ent h (pls (ms.getD i 0) u)) := by
      rw [lookD_LD hin]; unfold mixE; rw [if_neg (by omega)]
    have hCi : mixC ms u x i i = pls (ms.getD i 0) u := by unfold mixC; rw [if_neg (by omega)]
    refine ⟨_, h8, _, rfl, .inl ⟨_, rfl, by decide, by decide, _, rfl, ?_⟩⟩
    refine ⟨_, p.r1, _, rfl, _, rfl, getW_dict p.sd hlook ⟨_, rfl, by decide, by decide, _, rfl, ?_⟩⟩
    refine ⟨_, _, toPy_int, toPy_list (n := 7) (xs := zs (pls (ms.getD i 0) u)), ?_⟩
    rw [any_eqv, contains_zs]
    refine ifF (fun hb => ?_) (fun hb => ?_)
    · have hx : x ∈ pls (ms.getD i 0) u := by simpa using hb
      refine ⟨_, p.r1, _, rfl, _, rfl, getW_dict p.sd hlook ⟨_, rfl, by decide, by decide, _, rfl, ?_⟩⟩
      refine ⟨_, rfl, by rw [iv_len]; unfold zs sizeLine; rw [List.length_map]; have := pls_len (m := ms.getD i 0) (u := u); omega, ?_⟩
      refine comp_grow (σ := st.σ) (fun y => match y with | .int m => !(m == (x : Int)) | _ => false) id _ [] _ (Sub.refl _) ?_ ?_ ?_
      · intro y hy σ' hs' Z hZ
        simp only [iv, zs, List.map_map, List.mem_map] at hy
        obtain ⟨m, hm, rfl⟩ := hy
        refine ⟨_, rfl, _, h8, _, rfl, .inl ⟨_, rfl, by decide, by decide, _, rfl, neI ?_⟩⟩
        exact hZ σ' hs'
      · intro y hy hb σ' hs' Z hZ
        exact ⟨_, rfl, hZ σ' hs'⟩
      · intro σ' hs' a ha
        rw [List.nil_append, List.map_id, iv_filter]
        refine ⟨a, _, rfl, if_pos rfl, ?_⟩
        obtain ⟨m1, m2, m3⟩ := mix_step (ms := ms) (u := u) (x := x) (i := i)
        have keep : ∀ b y, st.σ b = some y → ((S.del ⟨upd σ' a (.list (iv (zs ((pls (ms.getD i 0) u).filter fun j => j != x)))), (st.set 3 (.int i)).ρ⟩ a).set 4 (.list (iv (zs ((pls (ms.getD i 0) u).filter fun j => j != x))))).σ b = some y := fun b y e => by
          have hba : b ≠ a := fun z => by rw [z] at e; rw [hs' _ _ e] at ha; cases ha
          show (if b = a then none else upd σ' a _ b) = _
          rw [if_neg hba, upd_ne hba]; exact hs' _ _ e
        have p1 : PI h ms.length σ d hp kn (mixE h ms u x i) kl hs ep ep' ((S.del ⟨upd σ' a (.list (iv (zs ((pls (ms.getD i 0) u).filter fun j => j != x)))), (st.set 3 (.int i)).ρ⟩ a).set 4 (.list (iv (zs ((pls (ms.getD i 0) u).filter fun j => j != x))))) :=
          ⟨p.r1, p.r6, p.r7, fun b y e => keep b y (p.sub b y e), keep _ _ p.sd, keep _ _ p.sh, keep _ _ p.sk⟩
        clear keep
        generalize hst1 : (S.del ⟨upd σ' a (.list (iv (zs ((pls (ms.getD i 0) u).filter fun j => j != x)))), (st.set 3 (.int i)).ρ⟩ a).set 4 (.list (iv (zs ((pls (ms.getD i 0) u).filter fun j => j != x)))) = st1 at p1
        have q3 : st1.ρ 3 = some (.int i) := by rw [← hst1]; rfl
        have q4 : st1.ρ 4 = some (.list (iv (zs ((pls (ms.getD i 0) u).filter fun j => j != x)))) := by rw [← hst1]; rfl
        have q5 : st1.ρ 5 = some (.int ((h x : Nat) : Int)) := by rw [← hst1]; exact h5
        have q8 : st1.ρ 8 = some (.list (iv (zs [x]))) := by rw [← hst1]; exact h8
        show setW 4 _ _ _
        show (fun st => _) _
        have goal : ∀ Z : Fl → S → Prop, (∀ st, Z .next st = forDL d ep (zs (List.range ms.length)) (setW 3) (inB W (j + 2)) Q (zs (List.range' (i + 1) r)) st) → (seqW (putS (tpW (argS (locW 4) (argS (biW xorW (itW (itW (locW 1) (locW 3)) (cW (.int 1))) (locW 5)) arg0))) (locW 1) (locW 3)) (seqW (ifS (cmW neW (locW 4) (lsW arg0)) (seqW (exprW (cbW (argS (locW 6) (argS (tpW (argS (cbW (argS (locW 4) arg0) lenW) (argS (locW 3) arg0))) arg0)) (callW W (j + 2) 28))) nilW) nilW) nilW)) Z st1 := by
          intro Z hZ
          refine ⟨_, q4, _, p1.r1, _, q3, _, rfl, getW_dict p1.sd hlook ⟨_, rfl, by decide, by decide, _, rfl, _, q5, xorI ((sumX h ((pls (ms.getD i 0) u).filter fun j => j != x) : Nat) : Int) (by rw [xor_nat, sumX_filter pls_nodup hx]) ⟨by show 2 ≤ sizeLine; decide, _, p1.r1, _, q3, d, _, rfl, rfl, .inr ⟨_, ep, p1.sd, by rw [LD_len]; omega, fun ep2 he => ?_⟩⟩⟩⟩
          have hep : ep2 = ep := he (by rw [any_LD]; simp; omega)
          subst hep
          have eLD : storeD (LD ms.length (mixE h ms u x i)) (i : Int) (.tuple [.list (iv (zs ((pls (ms.getD i 0) u).filter fun j => j != x))), .int ((sumX h ((pls (ms.getD i 0) u).filter fun j => j != x) : Nat) : Int)]) = LD ms.length (mixE h ms u x (i + 1)) := by
            rw [storeD_LD hin]
            apply LD_congr
            intro k hk
            by_cases e : k = i
            · subst e
              rw [if_pos rfl, mixE_C]
              show _ = ent h (mixC ms u x (k + 1) k)
              rw [m2]; rfl
            · rw [if_neg e, mixE_C, mixE_C]
              show ent h (mixC ms u x i k) = ent h (mixC ms u x (i + 1) k)
              rw [m1 k e]
          rw [eLD]
          have p2 : PI h ms.length σ d hp kn (mixE h ms u x (i + 1)) kl hs ep2 ep' (st1.put d (.dict (LD ms.length (mixE h ms u x (i + 1))) ep2)) :=
            ⟨p1.r1, p1.r6, p1.r7, sub_off p1.sub off.od, upd_at, (upd_ne (Ne.symm off.dh)).trans p1.sh, (upd_ne (Ne.symm off.dk)).trans p1.sk⟩
          refine ⟨_, q4, ne_nil_iv fun b y hb => ?_⟩
          have p3 := p2.junk (x := y) hb
          have m4 : (mixC ms u x (i + 1) i).length ≤ (mixC ms u x i i).length := by rw [m2, m3]; exact List.length_filter_le _ _
          have m5 : ∀ k, k ≠ i → ¬ x ∈ mixC ms u x (i + 1) k → ¬ x ∈ mixC ms u x i k := fun k hk hn => by rw [m1 k hk] at hn; exact hn
          refine ifF (fun hb2 => ?_) (fun hb2 => ?_)
          · have hne : (pls (ms.getD i 0) u).filter (fun j => j != x) ≠ [] := fun e => by rw [e] at hb2; cases hb2
            have hle : ((pls (ms.getD i 0) u).filter fun j => j != x).length ≤ 6 := Nat.le_trans (List.length_filter_le _ _) pls_len
            refine ⟨_, p3.r6, _, q4, _, rfl, .inl ⟨_, rfl, by rw [iv_len, zs_len]; omega, _, q3, by show 2 ≤ sizeLine; decide, ?_⟩⟩
            rw [iv_len, zs_len]
            refine c_heappush (j := j) (x := [((((pls (ms.getD i 0) u).filter fun j => j != x).length : Nat) : Int), (i : Int)]) G p3.sh hH.two rfl (by omega) hH.heap fun hs2 hp2 hf2 => ?_
            show Z .next _
            rw [hZ]
            refine in_loop G (ms := ms) (u := u) (x := x) (σ := σ) (hp := hp) (kn := kn) (kl := kl) (ep' := ep') hlen off r (i + 1) hs2 _ (by omega) ?_ q8 q5 (hH.more hin m1 m4 m5 (by rw [m2]; exact hne) (by rw [m2]; exact hp2) hf2) (by rw [hp2.length_eq]; simp; omega) fun st' hs' a b c => K st' hs' a b (by rw [hp2.length_eq] at c; simp at c; omega)
            exact ⟨p3.r1, p3.r6, p3.r7, sub_off p3.sub off.oh, (upd_ne off.dh).trans p3.sd, upd_at, (upd_ne (Ne.symm off.hk)).trans p3.sk⟩
          · have hne : (pls (ms.getD i 0) u).filter (fun j => j != x) = [] := by
              cases e : (pls (ms.getD i 0) u).filter (fun j => j != x) with
              | nil => rfl
              | cons a l => rw [e] at hb2; cases hb2
            show Z .next _
            rw [hZ]
            exact in_loop G (ms := ms) (u := u) (x := x) (σ := σ) (hp := hp) (kn := kn) (kl := kl) (ep' := ep') hlen off r (i + 1) hs _ (by omega) p3 q8 q5 (hH.less m1 m4 m5 (by rw [m2]; exact hne)) (by omega) fun st' hs' a b c => K st' hs' a b (by omega)
        subst hst1
        exact goal _ (fun _ => rfl)
    · have hx : x ∉ pls (ms.getD i 0) u := by simpa using hb
      have hs1 := mix_same (ms := ms) (u := u) (x := x) (i := i) hx
      refine in_loop G (ms := ms) (u := u) (x := x) (σ := σ) (hp := hp) (kn := kn) (kl := kl) (ep' := ep') hlen off r (i + 1) hs _ (by omega) ?_ h8 h5 (by rw [hs1]; exact hH) (by omega) fun st' hs' a b c => K st' hs' a b (by omega)
      rw [mixE_C, hs1]
      exact ⟨p.r1, p.r6, p.r7, p.sub, p.sd, p.sh, p.sk⟩
end Mine

namespace Mine
open PySem PySem.W PyProof.Rows PySem.Calls

abbrev mnT : PB := andB (cmW neW (locW 6) (lsW arg0)) (cmW eqW (itW (itW (locW 6) (cW (.int 0))) (cW (.int 0))) (cW (.int 1)))
abbrev mnB (W : Wd) (j : Nat) : PF := seqW (asgS (itW (locW 1) (itW (cbW (argS (locW 6) arg0) (callW W j 35)) (cW (.int 1)))) (tupW [(setW 8), (setW 5)]))
  (seqW (ifS (cmW neW (locW 8) (lsW arg0)) (seqW (putS (locW 5) (locW 7) (itW (locW 8) (cW (.int 0))))
  (seqW (forDW (locW 1) (setW 3) (inB W j))
  nilW)) nilW)
  nilW)
def uCnt (u : Nat → Bool) : Nat := ((List.range 6).filter u).length
theorem uCnt_cut {u : Nat → Bool} {x : Nat} (hx : x < 6) (hu : u x = true) : uCnt (cut u x) + 1 ≤ uCnt u := by
  unfold uCnt
  have e : (List.range 6).filter (cut u x) = ((List.range 6).filter u).filter (fun j => j != x) := by
    rw [List.filter_filter]
    apply List.filter_congr
    intro j _
    unfold cut
    cases u j <;> simp
  rw [e]
  have hm : x ∈ (List.range 6).filter u := by simp [hx, hu]
  have := List.length_filter_lt_length_iff_exists (p := fun j => j != x) (l := (List.range 6).filter u) |>.mpr ⟨x, hm, by simp⟩
  omega
structure KI (kl : List Nat) (u : Nat → Bool) : Prop where
  nd : kl.Nodup
  mem : ∀ x, x ∈ kl ↔ x < 6 ∧ u x = false
  len : kl.length + uCnt u ≤ 6
theorem KI.cut {kl : List Nat} {u : Nat → Bool} {x : Nat} (h : KI kl u) (hx : x < 6) (hu : u x = true) : KI (kl ++ [x]) (cut u x) := by
  have hn : x ∉ kl := fun hm => by have := ((h.mem x).mp hm).2; rw [hu] at this; cases this
  refine ⟨List.nodup_append.mpr ⟨h.nd, by simp, fun a ha b hb e => by rw [List.mem_singleton.mp hb] at e; exact hn (e ▸ ha)⟩, fun y => ?_, by have := uCnt_cut hx hu; have := h.len; simp; omega⟩
  rw [List.mem_append, List.mem_singleton, h.mem]
  unfold Mine.cut
  by_cases e : y = x
  · subst e; simp [hx]
  · simp [e]
theorem HI.congr {n : Nat} {C C' : Nat → List Nat} {ex ex' : Nat → Prop} {hs : List (List Int)} (h : HI n C ex hs) (h1 : ∀ k, k < n → C k = C' k) (h2 : ∀ k, k < n → C' k ≠ [] → ¬ ex' k → ¬ ex k) : HI n C' ex' hs :=
  ⟨h.two, h.heap, fun e he => let ⟨l, k, e1, e2, e3, e4⟩ := h.each e he; ⟨l, k, e1, e2, e3, by rw [← h1 k e2]; exact e4⟩, fun k hk hc hx => by rw [← h1 k hk]; exact h.all k hk (by rw [h1 k hk]; exact hc) (h2 k hk hc hx)⟩
theorem mn_loop {W : Wd} (G : GW W) {j : Nat} {h : Nat → Nat} {ms : List Nat} {σ : St} {d hp kn : Addr} {Q : Fl → S → Prop} (hms : ∀ m ∈ ms, m < 64) (hlen : ms.length ≤ 7) (off : Off σ d hp kn) : ∀ (f : Nat) (u : Nat → Bool) (kl : List Nat) (hs : List (List Int)) (ep ep' : Nat) (st : S),
    PI h ms.length σ d hp kn (fun k => ent h (pls (ms.getD k 0) u)) kl hs ep ep' st → HI ms.length (fun k => pls (ms.getD k 0) u) (fun _ => False) hs → SI ms u → KI kl u → 8 * uCnt u + hs.length < f → 8 * uCnt u + hs.length ≤ 500 →
    (∀ (st' : S) (u : Nat → Bool) (kl : List Nat) (hs : List (List Int)) (ep ep' : Nat), PI h ms.length σ d hp kn (fun k => ent h (pls (ms.getD k 0) u)) kl hs ep ep' st' → SI ms u → KI kl u → (∀ k, k < ms.length → (pls (ms.getD k 0) u).length ≠ 1) → Q .next st') → whileN mnT (mnB W (j + 4)) Q f st := by
  intro f
  induction f with
  | zero => intros; omega
  | succ f ih =>
    intro u kl hs ep ep' st p hH hS hK hf hb K
    refine ⟨_, p.r6, ne_nil_hv p.sh fun b y hb' => ?_⟩
    have p1 := p.junk (x := y) hb'
    refine ifF (fun hne => ?_) (fun hne => ?_)
    · cases hs with
      | nil => cases hne
      | cons e0 hs0 =>
      obtain ⟨l, k, rfl, hk, hl1, hlk⟩ := hH.each e0 (by simp)
      refine ⟨_, p1.r6, _, rfl, getW_list (k := 0) p1.sh (hv_get (x := [(l : Int), (k : Int)]) rfl) (by decide) ⟨_, rfl, by decide, by decide, _, rfl, eqI ?_⟩⟩
      refine ifP (fun h1 => ?_) (fun h1 => ?_)
      · have hl : l = 1 := by have : (l : Int) = 1 := by simpa using h1
                              omega
        subst hl
        refine ⟨_, p1.r1, _, p1.r6, ?_⟩
        refine c_heappop (j := j + 1) G p1.sh hH.two (by omega) hH.heap (x := [(1 : Nat), (k : Int)]) rfl fun hs1 hp1 hf1 => ?_
        refine ⟨_, rfl, by decide, by decide, _, rfl, _, rfl, ?_⟩
        have p2 : PI h ms.length σ d hp kn (fun k => ent h (pls (ms.getD k 0) u)) kl hs1 ep ep' ⟨upd (st.put b y).σ hp (.list (hv hs1)), (st.put b y).ρ⟩ :=
          ⟨p1.r1, p1.r6, p1.r7, sub_off p1.sub off.oh, (upd_ne off.dh).trans p1.sd, upd_at, (upd_ne (Ne.symm off.hk)).trans p1.sk⟩
        have hl1 : hs1.length + 1 = hs0.length + 1 := by have := hp1.length_eq; simpa using this
        refine getW_dict p2.sd (lookD_LD hk) ⟨_, rfl, rfl, ?_⟩
        -- what is left of the heap
        have each1 : ∀ e ∈ hs1, e ∈ [((1 : Nat) : Int), (k : Int)] :: hs0 := fun e he => hp1.mem_iff.mp (by simp [he])
        have all1 : ∀ k', k' < ms.length → pls (ms.getD k' 0) u ≠ [] → k' ≠ k → [(((pls (ms.getD k' 0) u).length : Nat) : Int), (k' : Int)] ∈ hs1 := fun k' hk' hc hne' => by
          have := hp1.mem_iff.mpr (hH.all k' hk' hc (fun z => z))
          rcases List.mem_cons.mp this with e | e
          · injection e with _ e; injection e with e _; omega
          · exact e
        refine ⟨_, rfl, ne_nil_iv fun b2 y2 hb2 => ?_⟩
        refine ifF (fun hne2 => ?_) (fun hne2 => ?_)
        · -- one is left
          obtain ⟨x, hx⟩ : ∃ x, pls (ms.getD k 0) u = [x] := by
            have hlk' : (pls (ms.getD k 0) u).length ≤ 1 := hlk
            match hq : pls (ms.getD k 0) u with
            | [] => rw [hq] at hne2; cases hne2
            | [x] => exact ⟨x, rfl⟩
            | _ :: _ :: _ => rw [hq] at hlk'; simp at hlk'
          have hxm := pls_mem.mp (show x ∈ pls (ms.getD k 0) u by rw [hx]; simp)
          have hnk : x ∉ kl := fun hm => by have := ((hK.mem x).mp hm).2; rw [hxm.2.2] at this; cases this
          have hsx : sumX h [x] = h x := by simp [sumX]
          have goal : ∀ (st4 : S) (Z : Fl → S → Prop), PI h ms.length σ d hp kn (fun k => ent h (pls (ms.getD k 0) u)) kl hs1 ep ep' st4 → st4.ρ 8 = some (.list (iv (zs [x]))) → st4.ρ 5 = some (.int ((h x : Nat) : Int)) → (∀ st, Z .next st = whileN mnT (mnB W (j + 4)) Q f st) → (seqW (putS (locW 5) (locW 7) (itW (locW 8) (cW (.int 0)))) (seqW (forDW (locW 1) (setW 3) (inB W (j + 4))) nilW)) Z st4 := by
            intro st4 Z p3 q8 q5 hZ
            refine ⟨_, q5, _, p3.r7, _, q8, _, rfl, .inl ⟨_, rfl, by decide, by decide, _, rfl, kn, _, rfl, rfl, .inr ⟨_, ep', p3.sk, by have := hK.len; unfold kd; rw [List.length_map]; omega, fun ep2 _ => ?_⟩⟩⟩
            rw [kd_new hnk]
            have p4 : PI h ms.length σ d hp kn (mixE h ms u x 0) (kl ++ [x]) hs1 ep ep2 (st4.put kn (.dict (kd h (kl ++ [x])) ep2)) := by
              have e0 : mixE h ms u x 0 = fun k => ent h (pls (ms.getD k 0) u) := by
                funext k; unfold mixE; rw [if_neg (by omega)]
              rw [e0]
              exact ⟨p3.r1, p3.r6, p3.r7, sub_off p3.sub off.ok, (upd_ne off.dk).trans p3.sd, (upd_ne off.hk).trans p3.sh, upd_at⟩
            refine ⟨_, p4.r1, d, _, ep, rfl, p4.sd, ?_⟩
            rw [LD_keys]
            have er : zs (List.range ms.length) = zs (List.range' 0 ms.length) := by rw [List.range_eq_range']
            have c0 : mixC ms u x 0 = fun k => pls (ms.getD k 0) u := by
              funext k; unfold mixC; rw [if_neg (by omega)]
            have run := in_loop (j := j + 2) (h := h) (ms := ms) (u := u) (x := x) (σ := σ) (d := d) (hp := hp) (kn := kn) (kl := kl ++ [x]) (ep := ep) (ep' := ep2) (Q := fun f st => match f with | .next => nilW Z st | f => Z f st) G hlen off ms.length 0 hs1 (st4.put kn (.dict (kd h (kl ++ [x])) ep2)) (by omega) p4 q8 q5
              (by
                rw [c0]
                refine ⟨fun e he => hH.two e (each1 e he), hf1, fun e he => hH.each e (each1 e he), fun k' hk' hc hnx => all1 k' hk' hc fun e => ?_⟩
                subst e; exact hnx (by show x ∈ pls _ u; rw [hx]; simp)) (by simp at hb; omega)
              (fun st5 hs5 p5 H5 l5 => by
                show Z .next st5
                rw [hZ]
                have hcx : ∀ k', x ∉ pls (ms.getD k' 0) (cut u x) := fun k' hm => by
                  have := (pls_mem.mp hm).2.2
                  unfold cut at this; simp at this
                have cn : ∀ k', k' < ms.length → mixC ms u x ms.length k' = pls (ms.getD k' 0) (cut u x) := fun k' hk' => by unfold mixC; rw [if_pos hk']
                have hu := uCnt_cut hxm.1 hxm.2.2
                refine ih (cut u x) (kl ++ [x]) hs5 ep ep2 st5 ?_ (H5.congr cn fun k' hk' _ _ hm => by rw [cn k' hk'] at hm; exact hcx k' hm) (hS.cut hms (getD_mem hk) hx) (hK.cut hxm.1 hxm.2.2) (by simp at hf; omega) (by simp at hb; omega) K
                have e5 : LD ms.length (mixE h ms u x ms.length) = LD ms.length (fun k => ent h (pls (ms.getD k 0) (cut u x))) := LD_congr fun k' hk' => by rw [mixE_C]; show ent h (mixC ms u x ms.length k') = _; rw [cn k' hk']
                exact ⟨p5.r1, p5.r6, p5.r7, p5.sub, by rw [p5.sd, e5], p5.sh, p5.sk⟩)
            rw [er]
            rw [er] at run
            exact run
          refine goal _ _ (PI.junk (st := (((⟨upd (st.put b y).σ hp (.list (hv hs1)), (st.put b y).ρ⟩ : S).set 8 _).set 5 _)) ⟨p2.r1, p2.r6, p2.r7, p2.sub, p2.sd, p2.sh, p2.sk⟩ hb2) ?_ ?_ (fun _ => rfl)
          · show some _ = some _
            rw [hx]
          · show some _ = some _
            rw [hx, hsx]
        · have he : pls (ms.getD k 0) u = [] := by
            match hq : pls (ms.getD k 0) u with
            | [] => rfl
            | _ :: _ => rw [hq] at hne2; cases hne2
          refine ih u kl hs1 ep ep' _ ?_ ?_ hS hK (by simp at hf; omega) (by simp at hb; omega) K
          · exact PI.junk (st := (((⟨upd (st.put b y).σ hp (.list (hv hs1)), (st.put b y).ρ⟩ : S).set 8 _).set 5 _)) ⟨p2.r1, p2.r6, p2.r7, p2.sub, p2.sd, p2.sh, p2.sk⟩ hb2
          · refine ⟨fun e he => hH.two e (each1 e he), hf1, fun e he => hH.each e (each1 e he), fun k' hk' hc _ => all1 k' hk' hc fun e => ?_⟩
            subst e; exact hc he
      · -- the least has not one
        refine K _ u kl _ ep ep' p1 hS hK fun k' hk' h1' => ?_
        have hl1' : l ≠ 1 := fun e => by subst e; simp at h1
        have hmem := hH.all k' hk' (fun e => by rw [e] at h1'; cases h1') (fun z => z)
        rw [h1'] at hmem
        obtain ⟨i, hi⟩ := List.getElem?_of_mem hmem
        have := hH.heap.min lex_refl lex_trans (x := [(l : Int), (k : Int)]) rfl i _ hi
        unfold leL at this
        simp only [lexLt] at this
        have hne1 : ¬ ((1 : Nat) : Int) = (l : Int) := by omega
        rw [if_neg (by simpa using hne1)] at this
        have := of_decide_eq_false this
        omega
    · cases hs with
      | cons e0 hs0 => cases hne
      | nil =>
        refine K _ u kl _ ep ep' p1 hS hK fun k' hk' h1' => ?_
        have hmem := hH.all k' hk' (fun e => by rw [e] at h1'; cases h1') (fun z => z)
        cases hmem
end Mine

namespace Mine
open PySem PySem.W PyProof.Rows PySem.Calls

theorem heap0_eq {ms : List Nat} {n : Nat} {g : Nat → List Nat} : ((zs (List.range n)).filter (fun k => !(zs (g k.toNat)).isEmpty)).map (fun k => tv [((g k.toNat).length : Int), k]) = hv (((List.range n).filter fun k => !(g k).isEmpty).map fun (k : Nat) => [((g k).length : Int), (k : Int)]) := by
  unfold hv zs
  rw [List.filter_map, List.map_map, List.map_map]
  have e : List.filter ((fun k : Int => !(List.map (fun (n : Nat) => (n : Int)) (g k.toNat)).isEmpty) ∘ fun (n : Nat) => (n : Int)) (List.range n) = List.filter (fun k => !(g k).isEmpty) (List.range n) := by
    apply List.filter_congr
    intro k _
    simp
  rw [e]
  rfl
theorem c_peeled {W : Wd} (G : GW W) {j : Nat} {h : Nat → Nat} {ms : List Nat} {σ : St} {Q : V → St → Prop} (hms : ∀ m ∈ ms, m < 64) (hlen : ms.length ≤ 7) (hh : ∀ m, sumX h (plN m) < 16777216)
    (q : ∀ (u : Nat → Bool) (kl : List Nat) (d kn : Addr) (ep ep' : Nat), σ d = none → σ kn = none → d ≠ kn → SI ms u → KI kl u → (∀ k, k < ms.length → (pls (ms.getD k 0) u).length ≠ 1) →
      Q (.tuple [.ref kn, .ref d]) (upd (upd σ d (.dict (LD ms.length fun k => ent h (pls (ms.getD k 0) u)) ep)) kn (.dict (kd h kl) ep'))) :
    CallOK W (j + 5) 182 [.list ((List.range ms.length).map (textV h ms))] [] Q σ := by
  refine cS__law_peeled G rfl ?_
  intro d hd
  refine ⟨_, rfl, _, rfl, ?_⟩
  rw [List.range_eq_range']
  refine pe1_loop (j := j) (h := h) (ms := ms) (d := d) (σ₀ := σ) G hms hlen hh ms.length 0 _ 0 (by omega) rfl rfl fun st1 ep e1 e2 => ?_
  -- the heap
  have hd1 : st1.σ d = some (.dict (LD ms.length fun k => ent h (plN (ms.getD k 0))) ep) := by rw [e2]; exact upd_at
  refine ⟨_, e1, d, _, ep, rfl, hd1, by rw [LD_len]; unfold sizeLine; omega, ?_⟩
  rw [LD_keys]
  refine compD_grow (σ := st1.σ) hd1 LD_keys (fun k => !(zs (plN (ms.getD k.toNat 0))).isEmpty) (fun k => tv [((plN (ms.getD k.toNat 0)).length : Int), k]) _ [] st1.σ (Sub.refl _) ?_ ?_ ?_
  · intro k hk σ' hs' Z hZ
    simp only [zs, List.mem_map] at hk
    obtain ⟨k, hk, rfl⟩ := hk
    have hk' : k < ms.length := by simpa using hk
    refine ⟨_, e1, _, rfl, _, rfl, getW_dict (hs' _ _ hd1) (lookD_LD hk') ⟨_, rfl, by decide, by decide, _, rfl, ne_nil_iv fun b x hb => ?_⟩⟩
    exact hZ _ (sub_put hs' hb)
  · intro k hk hb σ' hs' Z hZ
    simp only [zs, List.mem_map] at hk
    obtain ⟨k, hk, rfl⟩ := hk
    have hk' : k < ms.length := by simpa using hk
    have hl6 : (plN (ms.getD k 0)).length ≤ 6 := Nat.le_trans (List.length_filter_le _ _) (by simp)
    refine ⟨_, e1, _, rfl, _, rfl, getW_dict (hs' _ _ hd1) (lookD_LD hk') ⟨_, rfl, by decide, by decide, _, rfl, _, rfl, .inl ⟨_, rfl, by rw [iv_len, zs_len]; omega, _, rfl, by show 2 ≤ sizeLine; decide, ?_⟩⟩⟩
    rw [iv_len, zs_len]
    exact hZ σ' hs'
  intro σ2 hs2 hp hhp
  rw [List.nil_append, heap0_eq (ms := ms) (g := fun k => plN (ms.getD k 0))]
  have hdp : d ≠ hp := fun e => by rw [← e, hs2 _ _ hd1] at hhp; cases hhp
  have hσhp : σ hp = none := by
    cases e : σ hp with
    | none => rfl
    | some y =>
      have : st1.σ hp = some y := by rw [e2]; rw [upd_ne (Ne.symm hdp)]; exact e
      rw [hs2 _ _ this] at hhp; cases hhp
  have sub0 : St.Sub σ st1.σ := by rw [e2]; exact sub_upd hd
  have hlen0 : (((List.range ms.length).filter fun k => !(plN (ms.getD k 0)).isEmpty).map fun (k : Nat) => [((plN (ms.getD k 0)).length : Int), (k : Int)]).length ≤ 7 := by
    rw [List.length_map]
    exact Nat.le_trans (List.length_filter_le _ _) (by simp; exact hlen)
  refine ⟨_, rfl, ?_⟩
  refine c_heapify (j := j + 1) (m := 2) G upd_at ?_ (by omega) fun hs3 hp3 hf3 => ?_
  · intro y hy
    rw [List.mem_map] at hy
    obtain ⟨k, _, rfl⟩ := hy
    rfl
  -- known
  intro kn hkn
  have hkn' : upd (upd σ2 hp (.list (hv (((List.range ms.length).filter fun k => !(plN (ms.getD k 0)).isEmpty).map fun (k : Nat) => [((plN (ms.getD k 0)).length : Int), (k : Int)])))) hp (.list (hv hs3)) kn = none := hkn
  rw [upd_upd] at hkn'
  have hkh : hp ≠ kn := fun e => by rw [← e, upd_at] at hkn'; cases hkn'
  rw [upd_ne (Ne.symm hkh)] at hkn'
  have hdk : d ≠ kn := fun e => by rw [← e, hs2 _ _ hd1] at hkn'; cases hkn'
  have hσkn : σ kn = none := by
    cases e : σ kn with
    | none => rfl
    | some y => rw [hs2 _ _ (sub0 _ _ e)] at hkn'; cases hkn'
  have off : Off σ d hp kn := ⟨hd, hσhp, hσkn, hdp, hdk, hkh⟩
  refine ⟨600, ?_⟩
  refine mn_loop (j := j) (h := h) (ms := ms) (σ := σ) (d := d) (hp := hp) (kn := kn) G hms hlen off 600 (fun _ => true) [] hs3 ep 0 _ ?_ ?_ (fun _ _ _ _ _ _ => rfl) ⟨.nil, by simp, by decide⟩ ?_ ?_ ?_
  · refine ⟨e1, rfl, rfl, ?_, ?_, ?_, upd_at⟩
    · show St.Sub σ (upd (upd (upd σ2 hp _) hp _) kn _)
      rw [upd_upd]
      exact sub_off (sub_off (Sub.trans sub0 hs2) hσhp) hσkn
    · show upd (upd (upd σ2 hp _) hp _) kn _ d = _
      rw [upd_upd, upd_ne hdk, upd_ne hdp, hs2 _ _ hd1]
      congr 2
      exact LD_congr fun k _ => by rw [pls_true]
    · show upd (upd (upd σ2 hp _) hp _) kn _ hp = _
      rw [upd_upd, upd_ne hkh, upd_at]
  · have hmem : ∀ e, e ∈ hs3 ↔ ∃ k, k < ms.length ∧ plN (ms.getD k 0) ≠ [] ∧ e = [((plN (ms.getD k 0)).length : Int), (k : Int)] := fun e => by
      rw [hp3.mem_iff, List.mem_map]
      constructor
      · rintro ⟨k, hk, rfl⟩
        rw [List.mem_filter] at hk
        exact ⟨k, by simpa using hk.1, by simpa using hk.2, rfl⟩
      · rintro ⟨k, h1, h2, rfl⟩
        exact ⟨k, by rw [List.mem_filter]; simpa using ⟨h1, h2⟩, rfl⟩
    refine ⟨fun e he => ?_, hf3, fun e he => ?_, fun k hk hc _ => ?_⟩
    · obtain ⟨k, _, _, rfl⟩ := (hmem e).mp he; rfl
    · obtain ⟨k, h1, h2, rfl⟩ := (hmem e).mp he
      exact ⟨_, k, rfl, h1, List.length_pos_iff.mpr h2, by rw [pls_true]; exact Nat.le_refl _⟩
    · rw [pls_true] at hc
      exact (hmem _).mpr ⟨k, hk, hc, by rw [pls_true]⟩
  · have : hs3.length ≤ 7 := by rw [hp3.length_eq]; exact hlen0
    have : uCnt (fun _ => true) = 6 := by decide
    omega
  · have : hs3.length ≤ 7 := by rw [hp3.length_eq]; exact hlen0
    have : uCnt (fun _ => true) = 6 := by decide
    omega
  · intro st' u kl hs ep2 ep' p hS hK hfin
    refine ⟨_, p.r7, _, p.r1, by show 2 ≤ sizeLine; decide, ?_⟩
    refine ⟨_, ?_, q u kl d kn ep2 ep' hd hσkn hdk hS hK hfin⟩
    intro b x e
    by_cases hb : b = kn
    · subst hb; rw [upd_at] at e; cases e; exact p.sk
    · rw [upd_ne hb] at e
      by_cases hb2 : b = d
      · subst hb2; rw [upd_at] at e; cases e; exact p.sd
      · rw [upd_ne hb2] at e; exact p.sub _ _ e
end Mine

namespace Mine
open PySem PySem.W PyProof.Rows PySem.Calls

theorem kms_hi_nat {k n : Nat} : kms_hi (some (k : Int)) n = min k n := by
  show (if (k : Int) < 0 then n - (-(k : Int)).toNat else min (k : Int).toNat n) = _
  rw [if_neg (by omega), Int.toNat_natCast]
theorem kms_lo_nat {k n : Nat} : kms_lo (some (k : Int)) n = min k n := by
  show (if (k : Int) < 0 then n - (-(k : Int)).toNat else min (k : Int).toNat n) = _
  rw [if_neg (by omega), Int.toNat_natCast]
theorem take_same {α : Type} {l : List α} {a b : Nat} (h : min a l.length = min b l.length) : l.take a = l.take b := by
  rw [← List.take_eq_take_iff.mpr (show min (min a l.length) l.length = min a l.length by omega), ← List.take_eq_take_iff.mpr (show min (min b l.length) l.length = min b l.length by omega), h]
theorem pick_to {ns : List Int} {k : Nat} : pickV (iv ns) none (some (k : Int)) = iv (ns.take k) := by
  unfold pickV
  rw [kms_hi_nat]
  show List.take (min k (iv ns).length - 0) (List.drop 0 (iv ns)) = _
  rw [Nat.sub_zero, List.drop_zero]
  unfold iv
  rw [List.map_take]
  exact take_same (by omega)
theorem pick_mid {ns : List Int} {k m : Nat} (h : k ≤ m) : pickV (iv ns) (some (k : Int)) (some (m : Int)) = iv ((ns.drop k).take (m - k)) := by
  unfold pickV
  rw [kms_hi_nat, kms_lo_nat]
  unfold iv
  rw [List.map_take, List.map_drop]
  by_cases e : k ≤ ns.length
  · rw [List.length_map, Nat.min_eq_left e]
    exact take_same (by simp; omega)
  · rw [List.drop_eq_nil_of_le (by simp; omega), List.drop_eq_nil_of_le (by simp; omega)]; simp
def drawnZ (ns : List Int) : List Int := ns.take 6 ++ List.replicate (6 - (ns.take 6).length) 0
theorem drawn_len {ns : List Int} : (drawnZ ns).length = 6 := by unfold drawnZ; simp; omega
def hidN (ns : List Int) : List Nat := (List.range 6).map fun (j : Nat) => (((drawnZ ns).getD j 0 + 7340033 * ((j : Int) + 1)) % 16777216).toNat
def mskA (ns : List Int) : List Nat := ((ns.drop 6).take 7).map fun x => (x % 64).toNat
def mskN (ns : List Int) : List Nat := mskA ns ++ [28, 13, 33, 34, 16, 2].take (6 - (mskA ns).length)
theorem msk_len {ns : List Int} : (mskN ns).length ≤ 7 := by unfold mskN mskA; simp; omega
theorem msk_lt {ns : List Int} : ∀ m ∈ mskN ns, m < 64 := fun m hm => by
  unfold mskN at hm
  rcases List.mem_append.mp hm with h | h
  · unfold mskA at h
    rw [List.mem_map] at h
    obtain ⟨x, _, rfl⟩ := h
    omega
  · have := List.mem_of_mem_take h
    simp at this
    rcases this with rfl | rfl | rfl | rfl | rfl | rfl <;> decide
theorem keep1 {σ : St} {a b : Addr} {x y : AO} (h : σ a = some x) (hb : σ b = none) : upd σ b y a = some x := sub_upd hb a x h
theorem sub_del {σ σ' : St} {a : Addr} {x : AO} {ρ : Nat → Option V} (h : St.Sub σ σ') (ha : σ' a = none) : St.Sub σ (S.del ⟨upd σ' a x, ρ⟩ a).σ := fun b y e => by
  have hb : b ≠ a := fun z => by rw [z] at e; rw [h _ _ e] at ha; cases ha
  show (if b = a then none else upd σ' a x b) = _
  rw [if_neg hb, upd_ne hb]; exact h b y e
variable {σ : St} {st : S}
theorem law_1 {ns : List Int} {K : Fl → S → Prop} (hn : ns.length ≤ 63) (h0 : st.ρ 0 = some (.list (iv ns))) (hs : St.Sub σ st.σ) (k : ∀ σ', St.Sub σ σ' → K .next (S.set ⟨σ', st.ρ⟩ 1 (.list (iv (drawnZ ns))))) :
    asgS (biW addW (slW (locW 0) oN (oS (cW (.int 6)))) (biW mulW (lsW (argS (cW (.int 0)) arg0)) (biW subW (cW (.int 6)) (cbW (argS (slW (locW 0) oN (oS (cW (.int 6)))) arg0) lenW)))) (fzA (setW 1)) K st := by
  have e6 : pickV (iv ns) none (some 6) = iv (ns.take 6) := pick_to (k := 6)
  have hl6 : (ns.take 6).length ≤ 6 := by simp; omega
  refine ⟨_, h0, _, rfl, _, rfl, by rw [iv_len]; omega, fun a1 h1 => ?_⟩
  rw [e6]
  refine ⟨by show 1 ≤ sizeLine; decide, fun a2 h2 => ?_⟩
  refine ⟨_, h0, _, rfl, _, rfl, by rw [iv_len]; omega, fun a3 h3 => ?_⟩
  rw [e6]
  refine ⟨_, rfl, .inl ⟨_, getL_ref upd_at, by rw [iv_len]; omega, subI ((6 - (ns.take 6).length : Nat) : Int) (by rw [iv_len]; omega) ?_⟩⟩
  refine ⟨.int 0, getL_ref (keep1 upd_at h3), by omega, by omega, fun a4 h4 => ?_⟩
  have k1 : upd (upd (upd (upd st.σ a1 (.list (iv (ns.take 6)))) a2 (.list [V.int 0])) a3 (.list (iv (ns.take 6)))) a4 (.list (List.replicate ((6 - (ns.take 6).length : Nat) : Int).toNat (V.int 0))) a1 = some (.list (iv (ns.take 6))) := keep1 (keep1 (keep1 upd_at h2) h3) h4
  refine ⟨_, _, getL_ref k1, getL_ref upd_at, by rw [iv_len, List.length_replicate]; unfold sizeLine; omega, fun a5 h5 => ?_⟩
  refine ⟨a5, _, rfl, upd_at, ?_⟩
  have e : iv (ns.take 6) ++ List.replicate ((6 - (ns.take 6).length : Nat) : Int).toNat (V.int 0) = iv (drawnZ ns) := by
    unfold drawnZ iv
    rw [Int.toNat_natCast, List.map_append, List.map_replicate]
  rw [e]
  exact k _ (sub_del (sub_put (sub_put (sub_put (sub_put hs h1) h2) h3) h4) h5)
theorem law_2 {ns : List Int} {K : Fl → S → Prop} (h1 : st.ρ 1 = some (.list (iv (drawnZ ns)))) (hs : St.Sub σ st.σ) (k : ∀ σ', St.Sub σ σ' → K .next (S.set ⟨σ', st.ρ⟩ 2 (.list (iv (zs (hidN ns)))))) :
    asgS (compW 10 (cbW (argS (cW (.int 6)) arg0) rangeW) (setW 10) tT (biW modW (biW addW (itW (locW 1) (locW 10)) (biW mulW (cW (.int 7340033)) (biW addW (locW 10) (cW (.int 1))))) (cW (.int 16777216)))) (fzA (setW 2)) K st := by
  refine .inl ⟨_, rfl, ?_⟩
  refine ⟨_, items_range (n := 6) (by decide), by decide, ?_⟩
  refine comp_grow (σ := σ) (fun _ => true) (fun x => match x with | .int j => .int (((drawnZ ns).getD j.toNat 0 + 7340033 * (j + 1)) % 16777216) | x => x) _ [] _ hs ?_ ?_ ?_
  · exact fun x hx σ' hs' Z hZ => hZ σ' hs'
  · intro x hx _ σ' hs' Z hZ
    rw [List.mem_map] at hx
    obtain ⟨i, hi, rfl⟩ := hx
    have hi6 : i < 6 := by simpa using hi
    have hl := drawn_len (ns := ns)
    refine ⟨_, h1, _, rfl, _, rfl, .inl ⟨_, rfl, by omega, by omega, .int ((drawnZ ns).getD i 0), ?_, _, rfl, addI ((i : Int) + 1) rfl (mulI (7340033 * ((i : Int) + 1)) (by decide) rfl (addI ((drawnZ ns).getD i 0 + 7340033 * ((i : Int) + 1)) rfl (modI (((drawnZ ns).getD i 0 + 7340033 * ((i : Int) + 1)) % 16777216) (by decide) rfl (hZ σ' hs'))))⟩⟩
    rw [Int.toNat_natCast]
    unfold iv
    rw [List.getElem?_map, List.getD_eq_getElem?_getD, List.getElem?_eq_getElem (by omega)]; rfl
  · intro σ' hs' a ha
    refine ⟨a, _, rfl, if_pos rfl, ?_⟩
    have e : [] ++ ((List.map (fun (i : Nat) => V.int i) (List.range 6)).filter (fun _ => true)).map (fun x => match x with | .int j => V.int (((drawnZ ns).getD j.toNat 0 + 7340033 * (j + 1)) % 16777216) | x => x) = iv (zs (hidN ns)) := by
      rw [List.nil_append, List.filter_eq_self.mpr (by simp)]
      unfold iv zs hidN
      rw [List.map_map, List.map_map, List.map_map]
      apply List.map_congr_left
      intro i _
      simp only [Function.comp_apply, Int.toNat_natCast]
      congr 1; omega
    rw [e]
    exact k _ (sub_del (ρ := st.ρ) hs' ha)
theorem law_3 {ns : List Int} {K : Fl → S → Prop} (hn : ns.length ≤ 63) (h0 : st.ρ 0 = some (.list (iv ns))) (hs : St.Sub σ st.σ) (k : ∀ σ', St.Sub σ σ' → K .next (S.set ⟨σ', st.ρ⟩ 3 (.list (iv (zs (mskA ns)))))) :
    asgS (compW 10 (fzW (slW (locW 0) (oS (cW (.int 6))) (oS (cW (.int 13))))) (setW 10) tT (biW modW (locW 10) (cW (.int 64)))) (fzA (setW 3)) K st := by
  have e6 : pickV (iv ns) (some 6) (some 13) = iv ((ns.drop 6).take 7) := pick_mid (k := 6) (m := 13) (by decide)
  refine ⟨_, h0, _, rfl, _, rfl, _, rfl, by rw [iv_len]; omega, fun a1 h1 => ?_⟩
  refine ⟨a1, _, rfl, upd_at, ?_⟩
  rw [e6]
  refine ⟨_, rfl, by rw [iv_len]; unfold sizeLine; simp; omega, ?_⟩
  refine comp_grow (σ := σ) (fun _ => true) (fun x => match x with | .int j => .int (j % 64) | x => x) _ [] _ (sub_del (ρ := st.ρ) hs h1) ?_ ?_ ?_
  · exact fun x hx σ' hs' Z hZ => hZ σ' hs'
  · intro x hx _ σ' hs' Z hZ
    unfold iv at hx
    rw [List.mem_map] at hx
    obtain ⟨i, hi, rfl⟩ := hx
    exact ⟨_, rfl, modI (i % 64) (by decide) rfl (hZ σ' hs')⟩
  · intro σ' hs' a ha
    refine ⟨a, _, rfl, if_pos rfl, ?_⟩
    have e : [] ++ ((iv ((ns.drop 6).take 7)).filter (fun _ => true)).map (fun x => match x with | .int j => V.int (j % 64) | x => x) = iv (zs (mskA ns)) := by
      rw [List.nil_append, List.filter_eq_self.mpr (by simp)]
      unfold iv zs mskA
      rw [List.map_map, List.map_map, List.map_map]
      apply List.map_congr_left
      intro i _
      simp only [Function.comp_apply]
      congr 1; omega
    rw [e]
    exact k _ (sub_del (ρ := st.ρ) hs' ha)
theorem law_4 {ns : List Int} {K : Fl → S → Prop} (h3 : st.ρ 3 = some (.list (iv (zs (mskA ns))))) (hs : St.Sub σ st.σ) (k : ∀ σ', St.Sub σ σ' → K .next (S.set ⟨σ', st.ρ⟩ 3 (.list (iv (zs (mskN ns)))))) :
    asgS (biW addW (locW 3) (slW (lsW (argS (cW (.int 28)) (argS (cW (.int 13)) (argS (cW (.int 33)) (argS (cW (.int 34)) (argS (cW (.int 16)) (argS (cW (.int 2)) arg0))))))) oN (oS (cbW (argS (cW (.int 0)) (argS (biW subW (cW (.int 6)) (cbW (argS (locW 3) arg0) lenW)) arg0)) maxW)))) (fzA (setW 3)) K st := by
  have hl : (mskA ns).length ≤ 7 := by unfold mskA; simp; omega
  refine ⟨_, h3, by show 6 ≤ sizeLine; decide, fun a1 h1 => ?_⟩
  refine ⟨_, h3, _, rfl, .inl ⟨_, rfl, by rw [iv_len, zs_len]; omega, subI (6 - ((mskA ns).length : Int)) (by rw [iv_len, zs_len]) ⟨_, _, rfl, _, rfl, ?_⟩⟩⟩
  have em : max (0 : Int) (6 - ((mskA ns).length : Int)) = ((6 - (mskA ns).length : Nat) : Int) := by omega
  rw [em]
  refine ⟨_, getL_ref (xs := iv [28, 13, 33, 34, 16, 2]) upd_at, by rw [iv_len]; decide, fun a2 h2 => ?_⟩
  rw [pick_to]
  refine ⟨_, _, rfl, getL_ref upd_at, by rw [iv_len, iv_len, zs_len]; unfold sizeLine; simp; omega, fun a3 h3' => ?_⟩
  refine ⟨a3, _, rfl, upd_at, ?_⟩
  have e : iv (zs (mskA ns)) ++ iv (List.take (6 - (mskA ns).length) [28, 13, 33, 34, 16, 2]) = iv (zs (mskN ns)) := by
    rw [← iv_append]
    unfold mskN zs
    rw [List.map_append, List.map_take]; rfl
  rw [e]
  exact k _ (sub_del (ρ := st.ρ) (sub_put (sub_put hs h1) h2) h3')
end Mine

namespace Mine
open PySem PySem.W PyProof.Rows PySem.Calls

variable {σ : St} {st : S}
def hF (ns : List Int) : Nat → Nat := fun j => (hidN ns).getD j 0
theorem hid_len {ns : List Int} : (hidN ns).length = 6 := by simp [hidN]
theorem hF_lt {ns : List Int} (j : Nat) : hF ns j < 16777216 := by
  unfold hF
  rw [List.getD_eq_getElem?_getD]
  cases e : (hidN ns)[j]? with
  | none => show 0 < _; decide
  | some v =>
    have := List.mem_of_getElem? e
    unfold hidN at this
    rw [List.mem_map] at this
    obtain ⟨i, _, rfl⟩ := this
    show Int.toNat _ < _
    omega
theorem sumX_lt {h : Nat → Nat} (hh : ∀ j, h j < 2 ^ 24) : ∀ (ps : List Nat) (v : Nat), v < 2 ^ 24 → ps.foldl (fun v j => v ^^^ h j) v < 2 ^ 24
  | [], v, hv => hv
  | p :: ps, v, hv => sumX_lt hh ps _ (Nat.xor_lt_two_pow hv (hh p))
theorem hF_sum {ns : List Int} (ps : List Nat) : sumX (hF ns) ps < 16777216 := sumX_lt (h := hF ns) (fun j => hF_lt j) ps 0 (by decide)
theorem pl_rng {ps : List Nat} (h : ∀ p ∈ ps, p < 6) : ∀ p ∈ zs ps, 0 ≤ p ∧ p < (zs (hidN ([] : List Int))).length := fun p hp => by
  unfold zs at hp
  rw [List.mem_map] at hp
  obtain ⟨q, hq, rfl⟩ := hp
  have := h q hq
  rw [zs_len, hid_len]; omega
theorem plN_lt {m : Nat} : ∀ p ∈ plN m, p < 6 := fun p hp => by unfold plN at hp; rw [List.mem_filter] at hp; simpa using hp.1
theorem c_sumN {W : Wd} (G : GW W) {j : Nat} {ns : List Int} {ps : List Nat} {Q : V → St → Prop} (hp : ∀ p ∈ ps, p < 6) (q : Q (.int ((sumX (hF ns) ps : Nat) : Int)) σ) : CallOK W (j + 1) 163 [.list (iv (zs (hidN ns))), .list (iv (zs ps))] [] Q σ := by
  refine c_sum G (by rw [zs_len, hid_len]; decide) (fun p hp' => ?_) (by rw [sumZ_nat]; exact q)
  have := pl_rng hp p hp'
  rw [zs_len, hid_len] at this ⊢
  exact this
theorem get_zs {ms : List Nat} {k : Nat} (hk : k < ms.length) : (iv (zs ms))[k]? = some (.int ((ms.getD k 0 : Nat) : Int)) := by
  unfold iv zs
  rw [List.getElem?_map, List.getElem?_map, List.getD_eq_getElem?_getD, List.getElem?_eq_getElem hk]; rfl
theorem getW_zs {ms : List Nat} {k : Nat} {Q : V → S → Prop} (hk : k < ms.length) (hb : k < 1000000) (q : Q (.int ((ms.getD k 0 : Nat) : Int)) st) : getW (.list (iv (zs ms))) (.int (k : Nat)) Q st := .inl ⟨_, rfl, by omega, by omega, _, by rw [Int.toNat_natCast]; exact get_zs hk, q⟩
theorem law_5 {W : Wd} (G : GW W) {j : Nat} {ns : List Int} {K : Fl → S → Prop} (h2 : st.ρ 2 = some (.list (iv (zs (hidN ns))))) (h3 : st.ρ 3 = some (.list (iv (zs (mskN ns))))) (hs : St.Sub σ st.σ)
    (k : ∀ σ', St.Sub σ σ' → K .next (S.set ⟨σ', st.ρ⟩ 4 (.list ((List.range (mskN ns).length).map (textV (hF ns) (mskN ns)))))) :
    asgS (compW 10 (cbW (argS (cbW (argS (locW 3) arg0) lenW) arg0) rangeW) (setW 10) tT (cbW (argS (locW 10) (argS (itW (locW 3) (locW 10)) (argS (cbW (argS (locW 2) (argS (cbW (argS (itW (locW 3) (locW 10)) arg0) (callW W (j + 5) 156)) arg0)) (callW W (j + 5) 163)) arg0))) (callW W (j + 5) 170))) (fzA (setW 4)) K st := by
  have hl := msk_len (ns := ns)
  refine ⟨_, h3, _, rfl, .inl ⟨_, rfl, by rw [iv_len, zs_len]; omega, .inl ⟨_, rfl, ?_⟩⟩⟩
  rw [iv_len, zs_len]
  refine ⟨_, items_range (by omega), by rw [List.length_map, List.length_range]; unfold sizeLine; omega, ?_⟩
  refine comp_grow (σ := σ) (fun _ => true) (fun x => match x with | .int k => textV (hF ns) (mskN ns) k.toNat | x => x) _ [] _ hs ?_ ?_ ?_
  · exact fun x hx σ' hs' Z hZ => hZ σ' hs'
  · intro x hx _ σ' hs' Z hZ
    rw [List.mem_map] at hx
    obtain ⟨i, hi, rfl⟩ := hx
    have hi' : i < (mskN ns).length := by simpa using hi
    have hm := msk_lt _ (getD_mem hi')
    refine ⟨_, rfl, _, h3, _, rfl, _, rfl, getW_zs hi' (by omega) ⟨_, h2, _, h3, _, rfl, _, rfl, getW_zs hi' (by omega) ?_⟩⟩
    refine c_places (j := j + 4) G ?_
    rw [placesZ_nat]
    refine c_sumN (j := j + 4) G plN_lt ?_
    refine c_card (j := j + 1) G (by omega) ⟨by omega, by have := hF_sum (ns := ns) (plN ((mskN ns).getD i 0)); omega⟩ ?_
    exact hZ σ' hs'
  · intro σ' hs' a ha
    refine ⟨a, _, rfl, if_pos rfl, ?_⟩
    have e : [] ++ ((List.map (fun (i : Nat) => V.int i) (List.range (mskN ns).length)).filter (fun _ => true)).map (fun x => match x with | .int k => textV (hF ns) (mskN ns) k.toNat | x => x) = (List.range (mskN ns).length).map (textV (hF ns) (mskN ns)) := by
      rw [List.nil_append, List.filter_eq_self.mpr (by simp), List.map_map]
      apply List.map_congr_left
      intro i _
      rfl
    rw [e]
    exact k _ (sub_del (ρ := st.ρ) hs' ha)
def stuckV (ms : List Nat) (hd : Nat) : List V := ms.map fun m => V.list (iv (zs (plN (m &&& hd))))
theorem law_8 {W : Wd} (G : GW W) {j hd : Nat} {ms : List Nat} {K : Fl → S → Prop} (hl : ms.length ≤ 7) (h3 : st.ρ 3 = some (.list (iv (zs ms)))) (h7 : st.ρ 7 = some (.int hd)) (hs : St.Sub σ st.σ)
    (k : ∀ σ', St.Sub σ σ' → K .next (S.set ⟨σ', st.ρ⟩ 8 (.list (stuckV ms hd)))) :
    asgS (compW 10 (locW 3) (setW 10) tT (cbW (argS (biW andW (locW 10) (locW 7)) arg0) (callW W (j + 5) 156))) (fzA (setW 8)) K st := by
  refine ⟨_, h3, _, rfl, by rw [iv_len, zs_len]; unfold sizeLine; omega, ?_⟩
  refine comp_grow (σ := σ) (fun _ => true) (fun x => match x with | .int m => .list (iv (zs (plN (m.toNat &&& hd)))) | x => x) _ [] _ hs ?_ ?_ ?_
  · exact fun x hx σ' hs' Z hZ => hZ σ' hs'
  · intro x hx _ σ' hs' Z hZ
    unfold iv zs at hx
    rw [List.map_map, List.mem_map] at hx
    obtain ⟨m, hm, rfl⟩ := hx
    refine ⟨_, rfl, _, h7, andI ((m &&& hd : Nat) : Int) (and_nat m hd) ?_⟩
    refine c_places (j := j + 4) G ?_
    rw [placesZ_nat]
    exact hZ σ' hs'
  · intro σ' hs' a ha
    refine ⟨a, _, rfl, if_pos rfl, ?_⟩
    have e : [] ++ ((iv (zs ms)).filter (fun _ => true)).map (fun x => match x with | .int m => V.list (iv (zs (plN (m.toNat &&& hd)))) | x => x) = stuckV ms hd := by
      rw [List.nil_append, List.filter_eq_self.mpr (by simp)]
      unfold iv zs stuckV
      rw [List.map_map, List.map_map]
      apply List.map_congr_left
      intro i _
      rfl
    rw [e]
    exact k _ (sub_del (ρ := st.ρ) hs' ha)
theorem compM_grow {n : Nat} {Tv : PV} {ρ : Nat → Option V} {K : List (Int × V) → St → Prop} (f : Int → V) : ∀ (xs : List Int) (acc : List (Int × V)) (σ' : St), St.Sub σ σ' →
    (∀ x ∈ xs, ∀ σ', St.Sub σ σ' → ∀ Z : V → S → Prop, (∀ σ'', St.Sub σ σ'' → Z (f x) (S.set ⟨σ'', ρ⟩ n (.int x))) → Tv Z (S.set ⟨σ', ρ⟩ n (.int x))) →
    (∀ σ', St.Sub σ σ' → K (xs.foldl (fun a x => storeD a x (f x)) acc) σ') → compM n (setW n) tT (locW n) Tv ρ K (iv xs) acc σ'
  | [], acc, σ', hs, _, q => q σ' hs
  | x :: xs, acc, σ', hs, he, q => by
    refine ⟨_, if_pos rfl, ?_⟩
    refine he x (by simp) σ' hs _ fun σ₂ h₂ => ⟨x, rfl, fun i hi => if_neg (Nat.ne_of_lt hi), ?_⟩
    exact compM_grow f xs _ σ₂ h₂ (fun y hy => he y (by simp [hy])) q
theorem fold_LD {f : Int → V} : ∀ n : Nat, (zs (List.range n)).foldl (fun a x => storeD a x (f x)) [] = LD n fun k => f k
  | 0 => rfl
  | n + 1 => by
    have e : zs (List.range (n + 1)) = zs (List.range n) ++ [(n : Int)] := by unfold zs; rw [List.range_succ, List.map_append]; rfl
    rw [e, List.foldl_append, fold_LD n]
    show storeD (LD n fun k => f k) (n : Int) (f n) = _
    rw [storeD_new]
    apply LD_congr
    intro k hk
    by_cases h : k = n
    · rw [if_pos h, h]
    · rw [if_neg h]
theorem fold_kd {h : Nat → Nat} {f : Int → V} (hf : ∀ x : Nat, f x = .int ((h x : Nat) : Int)) : ∀ (xs kl : List Nat), (kl ++ xs).Nodup → (zs xs).foldl (fun a x => storeD a x (f x)) (kd h kl) = kd h (kl ++ xs)
  | [], kl, _ => by simp [zs]
  | x :: xs, kl, hn => by
    have hx : x ∉ kl := fun hm => (List.nodup_append.mp hn).2.2 x hm x (by simp) rfl
    show (zs xs).foldl _ (storeD (kd h kl) (x : Int) (f x)) = _
    rw [hf, kd_new hx, fold_kd hf xs (kl ++ [x]) (by simpa using hn)]
    simp
theorem lookD_kd {h : Nat → Nat} {x : Nat} : ∀ {xs : List Nat}, x ∈ xs → lookD (kd h xs) (x : Int) = some (.int ((h x : Nat) : Int))
  | [], hx => by simp at hx
  | y :: ys, hx => by
    unfold lookD kd
    rw [List.map_cons, List.find?_cons]
    by_cases e : y = x
    · subst e; simp
    · have e2 : decide (((y : Int), V.int ((h y : Nat) : Int)).1 = (x : Int)) = false := decide_eq_false (by show ¬ (y : Int) = x; omega)
      rw [e2]
      have hx' : x ∈ ys := by
        rcases List.mem_cons.mp hx with z | z
        · exact absurd z.symm e
        · exact z
      have := lookD_kd (h := h) hx'
      unfold lookD kd at this
      exact this
theorem eqvAll_ints : ∀ xs : List Int, PyData.eqvAll (xs.map PyData.int) (xs.map PyData.int) = true
  | [] => rfl
  | x :: xs => by
    rw [List.map_cons]
    simp only [PyData.eqvAll, PyData.eqv, eqvAll_ints xs]
    simp
theorem toPy_ent {σ : St} {h : Nat → Nat} {ps : List Nat} : toPy σ 8 (ent h ps) = some (.tuple [.list ((zs ps).map PyData.int), .int ((sumX h ps : Nat) : Int)]) := by
  unfold ent
  have e := toPy_list (σ := σ) (n := 6) (xs := zs ps)
  simp only [toPy, List.mapM_cons, List.mapM_nil] at e ⊢
  rw [e]
  rfl
theorem eqv_ent {h : Nat → Nat} {ps : List Nat} : PyData.eqv (.tuple [.list ((zs ps).map PyData.int), .int ((sumX h ps : Nat) : Int)]) (.tuple [.list ((zs ps).map PyData.int), .int ((sumX h ps : Nat) : Int)]) = true := by
  simp only [PyData.eqv, PyData.eqvAll, eqvAll_ints]
  simp
end Mine

namespace Mine
open PySem PySem.W PyProof.Rows PySem.Calls

variable {σ : St} {st : S}
theorem stuck_get {ms : List Nat} {hd k : Nat} (hk : k < ms.length) : (stuckV ms hd)[k]? = some (.list (iv (zs (plN (ms.getD k 0 &&& hd))))) := by
  unfold stuckV
  rw [List.getElem?_map, List.getD_eq_getElem?_getD, List.getElem?_eq_getElem hk]; rfl
theorem iv_range {n : Nat} : (List.range n).map (fun (i : Nat) => V.int i) = iv (zs (List.range n)) := by
  unfold iv zs; rw [List.map_map]; rfl
theorem law_9 {W : Wd} (G : GW W) {j hd : Nat} {ns : List Int} {K : Fl → S → Prop} (h2 : st.ρ 2 = some (.list (iv (zs (hidN ns))))) (h3 : st.ρ 3 = some (.list (iv (zs (mskN ns))))) (h8 : st.ρ 8 = some (.list (stuckV (mskN ns) hd))) (hs : St.Sub σ st.σ)
    (k : ∀ σ' a ep, St.Sub σ σ' → σ' a = none → K .next (S.set ⟨upd σ' a (.dict (LD (mskN ns).length fun k => ent (hF ns) (plN ((mskN ns).getD k 0 &&& hd))) ep), st.ρ⟩ 9 (.ref a))) :
    asgS (compMW 10 (cbW (argS (cbW (argS (locW 3) arg0) lenW) arg0) rangeW) (setW 10) tT (locW 10) (tpW (argS (itW (locW 8) (locW 10)) (argS (cbW (argS (locW 2) (argS (itW (locW 8) (locW 10)) arg0)) (callW W (j + 5) 163)) arg0)))) (setW 9) K st := by
  have hl := msk_len (ns := ns)
  refine ⟨_, h3, _, rfl, .inl ⟨_, rfl, by rw [iv_len, zs_len]; omega, .inl ⟨_, rfl, ?_⟩⟩⟩
  rw [iv_len, zs_len]
  refine ⟨_, items_range (by omega), by rw [List.length_map, List.length_range]; unfold sizeLine; omega, ?_⟩
  rw [iv_range]
  refine compM_grow (σ := σ) (fun k => ent (hF ns) (plN ((mskN ns).getD k.toNat 0 &&& hd))) _ [] _ hs ?_ ?_
  · intro x hx σ' hs' Z hZ
    unfold zs at hx
    rw [List.mem_map] at hx
    obtain ⟨i, hi, rfl⟩ := hx
    have hi' : i < (mskN ns).length := by simpa using hi
    have g : ∀ {st : S} {Q : V → S → Prop}, Q (.list (iv (zs (plN ((mskN ns).getD i 0 &&& hd))))) st → getW (.list (stuckV (mskN ns) hd)) (.int (i : Nat)) Q st := fun q => .inl ⟨_, rfl, by omega, by omega, _, by rw [Int.toNat_natCast]; exact stuck_get hi', q⟩
    refine ⟨_, h8, _, rfl, _, rfl, g ⟨_, h2, _, h8, _, rfl, _, rfl, g ?_⟩⟩
    refine c_sumN (j := j + 4) G plN_lt ?_
    exact ⟨by show 2 ≤ sizeLine; decide, hZ σ' hs'⟩
  · intro σ' hs' ep a ha
    rw [fold_LD]
    exact k σ' a ep hs' ha
theorem law_10 {W : Wd} (G : GW W) {j hd : Nat} {ns : List Int} {K : Fl → S → Prop} {u : Nat → Bool} {kl : List Nat} {d kn a : Addr} {ep ep' ep2 : Nat} (h2 : st.ρ 2 = some (.list (iv (zs (hidN ns))))) (h5 : st.ρ 5 = some (.ref kn)) (h6 : st.ρ 6 = some (.ref d)) (h7 : st.ρ 7 = some (.int hd)) (h9 : st.ρ 9 = some (.ref a))
    (hhd : hd < 64) (hbit : ∀ j, j < 6 → hd.testBit j = u j) (hK : KI kl u)
    (sd : st.σ d = some (.dict (LD (mskN ns).length fun k => ent (hF ns) (pls ((mskN ns).getD k 0) u)) ep)) (sk : st.σ kn = some (.dict (kd (hF ns) kl) ep')) (sa : st.σ a = some (.dict (LD (mskN ns).length fun k => ent (hF ns) (plN ((mskN ns).getD k 0 &&& hd))) ep2)) (hs : St.Sub σ st.σ)
    (k : ∀ st', St.Sub σ st'.σ → K (.ret (.bool true)) st') :
    retS (avW (cvW dictEqW (locW 6) (locW 9)) (cvW dictEqW (locW 5) (compMW 10 (cbW (argS (biW subW (cW (.int 63)) (locW 7)) arg0) (callW W (j + 5) 156)) (setW 10) tT (locW 10) (itW (locW 2) (locW 10))))) K st := by
  have eE : ∀ k, plN ((mskN ns).getD k 0 &&& hd) = pls ((mskN ns).getD k 0) u := fun k => by
    rw [plN_and]; exact pls_congr hbit
  simp only [eE] at sa
  refine ⟨_, h6, _, h9, d, a, _, _, ep, ep2, rfl, rfl, sd, sa, rfl, fun p hp => ?_, ?_⟩
  · simp only [LD, List.mem_map] at hp
    obtain ⟨i, hi, rfl⟩ := hp
    exact ⟨_, _, _, lookD_LD (by simpa using hi), toPy_ent, toPy_ent, eqv_ent⟩
  refine ⟨_, h5, _, h7, subI ((63 - hd : Nat) : Int) (by omega) ?_⟩
  refine c_places (j := j + 4) G ?_
  rw [placesZ_nat]
  have hnd : (plN (63 - hd)).Nodup := (List.nodup_range).filter _
  have hmem : ∀ x, x ∈ plN (63 - hd) ↔ x < 6 ∧ u x = false := fun x => by
    unfold plN
    rw [List.mem_filter]
    constructor
    · rintro ⟨h1, h2⟩
      have h1 : x < 6 := by simpa using h1
      refine ⟨h1, ?_⟩
      rw [sub63 _ _ hhd h1, hbit x h1] at h2
      simpa using h2
    · rintro ⟨h1, h2⟩
      refine ⟨by simpa using h1, ?_⟩
      rw [sub63 _ _ hhd h1, hbit x h1, h2]; rfl
  have hperm : kl.Perm (plN (63 - hd)) := (List.perm_ext_iff_of_nodup hK.nd hnd).mpr fun x => by rw [hK.mem, hmem]
  have hl6 : (plN (63 - hd)).length ≤ 6 := Nat.le_trans (List.length_filter_le _ _) (by simp)
  refine ⟨_, rfl, by rw [iv_len, zs_len]; unfold sizeLine; omega, ?_⟩
  refine compM_grow (σ := st.σ) (fun x => .int ((hF ns x.toNat : Nat) : Int)) _ [] _ (Sub.refl _) ?_ ?_
  · intro x hx σ' hs' Z hZ
    unfold zs at hx
    rw [List.mem_map] at hx
    obtain ⟨i, hi, rfl⟩ := hx
    have hi' : i < (hidN ns).length := by rw [hid_len]; exact plN_lt i hi
    exact ⟨_, h2, _, rfl, _, rfl, getW_zs hi' (by rw [hid_len] at hi'; omega) (hZ σ' hs')⟩
  · intro σ' hs' ep3 b hb
    have ek := fold_kd (h := hF ns) (f := fun x => .int ((hF ns x.toNat : Nat) : Int)) (fun x => by rw [Int.toNat_natCast]) (plN (63 - hd)) [] (by simpa using hnd)
    have ek' : (zs (plN (63 - hd))).foldl (fun a x => storeD a x (.int ((hF ns x.toNat : Nat) : Int))) [] = kd (hF ns) (plN (63 - hd)) := by simpa [kd] using ek
    rw [ek']
    refine ⟨kn, b, _, _, ep', ep3, rfl, rfl, sub_upd hb _ _ (hs' _ _ sk), if_pos rfl, by unfold kd; rw [List.length_map, List.length_map]; exact hperm.length_eq, fun p hp => ?_, ?_⟩
    · simp only [kd, List.mem_map] at hp
      obtain ⟨x, hx, rfl⟩ := hp
      refine ⟨_, _, _, lookD_kd (hperm.mem_iff.mp hx), toPy_int, toPy_int, ?_⟩
      simp [PyData.eqv]
    · exact k _ (sub_put (Sub.trans hs hs') hb)
theorem seq_intro {T₁ T₂ : PF} {Q : Fl → S → Prop} (h : T₁ (fun f st => match f with | .next => T₂ Q st | f => Q f st) st) : seqW T₁ T₂ Q st := h
theorem c_law {W : Wd} (G : GW W) {j : Nat} {ns : List Int} {Q : V → St → Prop} (hn : ns.length ≤ 63) (q : Q (.bool true) σ) : CallOK W (j + 6) 192 [.list (iv ns)] [] Q σ := by
  refine cS_law G rfl ?_
  unfold tS_law
  refine seq_intro (law_1 (σ := σ) (ns := ns) hn rfl (Sub.refl _) fun σ1 s1 => ?_)
  dsimp only
  refine seq_intro (law_2 (σ := σ) (ns := ns) rfl s1 fun σ2 s2 => ?_)
  dsimp only
  refine seq_intro (law_3 (σ := σ) (ns := ns) hn rfl s2 fun σ3 s3 => ?_)
  dsimp only
  refine seq_intro (law_4 (σ := σ) (ns := ns) rfl s3 fun σ4 s4 => ?_)
  dsimp only
  refine seq_intro (law_5 (σ := σ) (j := j) (ns := ns) G rfl rfl s4 fun σ5 s5 => ?_)
  dsimp only
  refine seq_intro ⟨_, rfl, c_peeled (j := j) (h := hF ns) (ms := mskN ns) G msk_lt msk_len (fun m => hF_sum _) fun u kl d kn ep ep' hd hk hdk hS hK hfin => ?_⟩
  refine ⟨_, rfl, rfl, ?_⟩
  dsimp only [allW, setW]
  refine seq_intro ⟨_, rfl, c_held (j := j + 4) (ms := mskN ns) G (by have := msk_len (ns := ns); omega) ?_⟩
  dsimp only [setW]
  have s6 : St.Sub σ (upd (upd σ5 d (.dict (LD (mskN ns).length fun k => ent (hF ns) (pls ((mskN ns).getD k 0) u)) ep)) kn (.dict (kd (hF ns) kl) ep')) := sub_put (sub_put s5 hd) ((upd_ne (Ne.symm hdk)).trans hk)
  have b0 := upd_at (σ := upd σ5 d (.dict (LD (mskN ns).length fun k => ent (hF ns) (pls ((mskN ns).getD k 0) u)) ep)) (a := kn) (x := .dict (kd (hF ns) kl) ep')
  have b1 : upd (upd σ5 d (.dict (LD (mskN ns).length fun k => ent (hF ns) (pls ((mskN ns).getD k 0) u)) ep)) kn (.dict (kd (hF ns) kl) ep') d = some (.dict (LD (mskN ns).length fun k => ent (hF ns) (pls ((mskN ns).getD k 0) u)) ep) := (upd_ne hdk).trans upd_at
  obtain ⟨σ6, e6⟩ : ∃ σ6, σ6 = upd (upd σ5 d (.dict (LD (mskN ns).length fun k => ent (hF ns) (pls ((mskN ns).getD k 0) u)) ep)) kn (.dict (kd (hF ns) kl) ep') := ⟨_, rfl⟩
  rw [← e6] at s6 b0 b1
  refine seq_intro (law_8 (σ := σ6) (j := j) (hd := heldN (mskN ns)) (ms := mskN ns) G msk_len rfl rfl (by rw [e6]; exact Sub.refl _) fun σ8 s8 => ?_)
  dsimp only
  refine seq_intro (law_9 (σ := σ6) (j := j) (hd := heldN (mskN ns)) (ns := ns) G rfl rfl rfl s8 fun σ9 a ep2 s9 ha => ?_)
  dsimp only
  have hfin' : ∀ m ∈ mskN ns, (pls m u).length ≠ 1 := fun m hm => by
    obtain ⟨k, hk⟩ := List.getElem?_of_mem hm
    have hk' := (List.getElem?_eq_some_iff.mp hk).1
    have := hfin k hk'
    rwa [List.getD_eq_getElem?_getD, hk] at this
  refine seq_intro (law_10 (σ := σ) (j := j) (ns := ns) (hd := heldN (mskN ns)) (u := u) (kl := kl) (d := d) (kn := kn) (a := a) (ep := ep) (ep' := ep') (ep2 := ep2) G rfl rfl rfl rfl rfl held_lt (fun j hj => held_bit msk_lt hS hfin' hj) hK (sub_upd ha _ _ (s9 _ _ b1)) (sub_upd ha _ _ (s9 _ _ b0)) upd_at (Sub.trans s6 (sub_put s9 ha)) fun st' hs' => ?_)
  dsimp only
  exact ⟨σ, hs', q⟩
end Mine

namespace Mine
open PySem PySem.W PyProof.Rows PySem.Calls

/-! The head by one check of the kernel's: the boot is the library's, then the top, then the looks. -/
abbrev looksAll (p q : Program) (loose : List Str) (Xt : Shared → Bool) {α : Type} (Yf : Shared → α) (H₀ : Heap) (s : Shared) :=
  (staticsOk (importedModules p.main.body) H₀ s.heap && namesBound p s.heap && gensDone s && laidKept H₀ s.heap, openSeen q loose (importedModules p.main.body) Xt true s, Yf s)
theorem left_of {p q : Program} {loose : List Str} {Xt : Shared → Bool} {α : Type} {Yf : Shared → α} {Ya : World → α} {N : Nat} {H₀ : Params → Heap} {gs₀ : Array GenState} {d₀ : Drawn} {k₀ : Nat} {m₀ : Nat} {ann : Option Value}
    (open_ : ∀ w : World, (fencedOpening treeTable p w N).map (fun s => (s.heap, s.gens, s.drawn, s.toks)) = some (H₀ w.params, gs₀, d₀, k₀))
    (size : ∀ w : World, ((H₀ w.params).isNs mainGlobals && gs₀.size == 0, (H₀ w.params).objs.size, (H₀ w.params).nsMap mainGlobals "__annotations__") = (true, m₀, ann))
    (h : ∀ (w : World) (os : OsState), (topRun treeTable p w m₀ ann N ⟨H₀ w.params, gs₀, d₀, k₀, os⟩ (topStub p)).map (looksAll p q loose Xt Yf (H₀ w.params)) = some (true, openGood q loose, Ya w)) : LeftO p q loose Xt Yf Ya N true := fun w => by
  obtain ⟨⟨a, gs, d, k, os⟩, e, e'⟩ := Option.map_eq_some_iff.mp (open_ w)
  obtain ⟨rfl, rfl, rfl, rfl⟩ : a = H₀ w.params ∧ gs = gs₀ ∧ d = d₀ ∧ k = k₀ := by simpa using e'
  obtain ⟨z1, z2, z3⟩ : _ ∧ _ ∧ _ := by simpa only [Prod.mk.injEq] using size w
  obtain ⟨s₁, r, l⟩ := Option.map_eq_some_iff.mp (h w os)
  obtain ⟨l1, l23⟩ := Prod.mk.inj l
  have t : topFrom treeTable p w N ⟨H₀ w.params, gs, d, k, os⟩ = some s₁ := by
    unfold topFrom
    dsimp only
    rw [z1, z2, z3, r]
    show (match staticsOk (importedModules p.main.body) (H₀ w.params) s₁.heap && namesBound p s₁.heap && gensDone s₁ && laidKept (H₀ w.params) s₁.heap with | true => _ | false => _) = _
    rw [l1]
  unfold openEnds
  rw [e]
  show (topFrom treeTable p w N _).map _ = _
  rw [t]
  exact congrArg some l23

/-! What the top leaves, seen by a few looks: the defs' data, their codes' names, the tuples of defaults, the names. -/
def cdName (h : Heap) (c : Addr) : Option Str := match h.get? c with
  | some ⟨_, _, .fields vs, _⟩ => (match (vs[1]? : Option Value) with
    | some (.str q _) => some q
    | _ => none)
  | _ => none
def mainEs (h : Heap) : Option (Array DictEntry) := match h.get? mainGlobals with
  | some ⟨_, _, .dict es _, _⟩ => some es
  | _ => none
def FnSays (h : Heap) : List (Addr × FuncData) → Prop
  | [] => True
  | p :: r => (∃ o, h.get? p.1 = some o ∧ o.data = .func p.2) ∧ FnSays h r
def CdSays (h : Heap) : List (Addr × Str) → Prop
  | [] => True
  | p :: r => (∃ o vs t, h.get? p.1 = some o ∧ o.data = .fields vs ∧ vs[1]? = some (.str p.2 t)) ∧ CdSays h r
def TpSays (h : Heap) : List (Addr × List Value) → Prop
  | [] => True
  | p :: r => (∃ n, h.get? p.1 = some { cls := .type "tuple", data := .seq p.2.toArray n }) ∧ TpSays h r
def EsSays (es : Array DictEntry) : List (Str × Option Value) → Prop
  | [] => True
  | p :: r => nsFind es p.1 = p.2 ∧ EsSays es r
structure Seen where
  fns : List (Addr × FuncData)
  cds : List (Addr × Str)
  tps : List (Addr × List Value)
  gls : List (Str × Option Value)
def Seen.Says (S : Seen) (h : Heap) : Prop := FnSays h S.fns ∧ CdSays h S.cds ∧ TpSays h S.tps ∧ ∃ o es ep, h.get? mainGlobals = some o ∧ o.data = .dict es ep ∧ EsSays es S.gls
theorem fn_of {h : Heap} : ∀ l : List (Addr × FuncData), (l.map fun p => (h.get? p.1).map (·.data)) = l.map (fun p => some (.func p.2)) → FnSays h l
  | [], _ => trivial
  | _ :: _, e => ⟨Option.map_eq_some_iff.mp (List.cons.inj e).1, fn_of _ (List.cons.inj e).2⟩
theorem cdName_of {h : Heap} {c : Addr} {q : Str} (e : cdName h c = some q) : ∃ o vs t, h.get? c = some o ∧ o.data = .fields vs ∧ vs[1]? = some (.str q t) := by
  unfold cdName at e
  split at e
  · rename_i vs _ hg
    split at e
    · rename_i q t hv
      cases e
      exact ⟨_, _, t, hg, rfl, hv⟩
    · cases e
  · cases e
theorem cd_of {h : Heap} : ∀ l : List (Addr × Str), (l.map fun p => cdName h p.1) = l.map (fun p => some p.2) → CdSays h l
  | [], _ => trivial
  | _ :: _, e => ⟨cdName_of (List.cons.inj e).1, cd_of _ (List.cons.inj e).2⟩
theorem tp_of {h : Heap} : ∀ l : List (Addr × List Value), (l.map fun p => h.get? p.1) = l.map (fun p => some { cls := .type "tuple", data := .seq p.2.toArray 0 }) → TpSays h l
  | [], _ => trivial
  | _ :: _, e => ⟨⟨0, (List.cons.inj e).1⟩, tp_of _ (List.cons.inj e).2⟩
theorem es_of {es : Array DictEntry} : ∀ l : List (Str × Option Value), (l.map fun p => nsFind es p.1) = l.map (·.2) → EsSays es l
  | [], _ => trivial
  | _ :: _, e => ⟨(List.cons.inj e).1, es_of _ (List.cons.inj e).2⟩
theorem fn_keeps {h h' : Heap} (k : ∀ b o, h.get? b = some o → h'.get? b = some o) : ∀ l : List (Addr × FuncData), FnSays h l → FnSays h' l
  | [], _ => trivial
  | _ :: _, ⟨⟨o, a, b⟩, r⟩ => ⟨⟨o, k _ _ a, b⟩, fn_keeps k _ r⟩
theorem cd_keeps {h h' : Heap} (k : ∀ b o, h.get? b = some o → h'.get? b = some o) : ∀ l : List (Addr × Str), CdSays h l → CdSays h' l
  | [], _ => trivial
  | _ :: _, ⟨⟨o, vs, t, a, b⟩, r⟩ => ⟨⟨o, vs, t, k _ _ a, b⟩, cd_keeps k _ r⟩
theorem tp_keeps {h h' : Heap} (k : ∀ b o, h.get? b = some o → h'.get? b = some o) : ∀ l : List (Addr × List Value), TpSays h l → TpSays h' l
  | [], _ => trivial
  | _ :: _, ⟨⟨n, a⟩, r⟩ => ⟨⟨n, k _ _ a⟩, tp_keeps k _ r⟩
def Seen.hook (S : Seen) : Hook where
  α := List (Option Data) × List (Option Str) × List (Option Obj) × Option (List (Option Value))
  obs := fun s => (S.fns.map fun p => (s.heap.get? p.1).map (·.data), S.cds.map fun p => cdName s.heap p.1, S.tps.map fun p => s.heap.get? p.1, (mainEs s.heap).map fun es => S.gls.map fun p => nsFind es p.1)
  val := fun _ => (S.fns.map fun p => some (.func p.2), S.cds.map fun p => some p.2, S.tps.map fun p => some { cls := .type "tuple", data := .seq p.2.toArray 0 }, some (S.gls.map (·.2)))
  says := fun _ h => S.Says h
  of := fun _ s e => by
    obtain ⟨a, e⟩ := Prod.mk.inj e
    obtain ⟨b, e⟩ := Prod.mk.inj e
    obtain ⟨c, d⟩ := Prod.mk.inj e
    obtain ⟨es, h1, h2⟩ := Option.map_eq_some_iff.mp d
    unfold mainEs at h1
    split at h1
    · rename_i hg
      cases h1
      exact ⟨fn_of _ a, cd_of _ b, tp_of _ c, _, _, _, hg, rfl, es_of _ h2⟩
    · cases h1
  keeps := fun _ h h' ⟨a, b, c, o, es, ep, d, x, y⟩ k => ⟨fn_keeps k _ a, cd_keeps k _ b, tp_keeps k _ c, o, es, ep, k _ _ d, x, y⟩
theorem ns_look {h : Heap} {a : Addr} {m : Str → Option Value} {o : Obj} {es : Array DictEntry} {ep : Nat} (n : h.Ns a m) (e : h.get? a = some o) (hd : o.data = .dict es ep) (x : Str) : m x = nsFind es x := by
  obtain ⟨o', es', ep', e', d', _, f⟩ := n
  rw [e] at e'; cases e'
  rw [hd] at d'; cases d'
  exact (f x).symm
def drOf : Stmt → DefRec
  | .FunctionDef name args body _ _ _ scope _ _ pos => ⟨name, args, body, scope, pos⟩
  | _ => ⟨default, ⟨[], [], none, [], [], none, []⟩, [], ⟨.function, [], false, false, []⟩, ⟨0, 0, 0, 0⟩⟩
end Mine

namespace Mine
open PySem PySem.W PyProof.Rows PySem.Calls
def topSeen : Seen where
  fns := [(28, fd_heappush), (35, fd_heappop), (42, fd_heapify), (49, fd__siftdown), (56, fd__siftup), (64, fd__bytes_from_decode_data), (84, fd__ascii_buffer), (91, fd__buffer), (98, fd__truth), (105, fd__b64_value), (113, fd_a2b_base64), (121, fd_b2a_base64), (129, fd_b64encode), (137, fd_b64decode), (144, fd__parse_varint), (151, fd__law_octets), (156, fd__law_places), (163, fd__law_sum), (170, fd__law_card), (177, fd__law_read), (182, fd__law_peeled), (187, fd__law_held), (192, fd_law)]
  cds := [(27, fd_heappush.qualname), (34, fd_heappop.qualname), (41, fd_heapify.qualname), (48, fd__siftdown.qualname), (55, fd__siftup.qualname), (63, fd__bytes_from_decode_data.qualname), (83, fd__ascii_buffer.qualname), (90, fd__buffer.qualname), (97, fd__truth.qualname), (104, fd__b64_value.qualname), (112, fd_a2b_base64.qualname), (120, fd_b2a_base64.qualname), (128, fd_b64encode.qualname), (136, fd_b64decode.qualname), (143, fd__parse_varint.qualname), (150, fd__law_octets.qualname), (155, fd__law_places.qualname), (162, fd__law_sum.qualname), (169, fd__law_card.qualname), (176, fd__law_read.qualname), (181, fd__law_peeled.qualname), (186, fd__law_held.qualname), (191, fd_law.qualname)]
  tps := [(57, [.type "bytes", .type "bytearray"]), (122, [.none]), (130, [.none, .bool false])]
  gls := [(Str.ofString "len", none), (Str.ofString "_siftdown", some (.ref 49)), (Str.ofString "_siftup", some (.ref 56)), (Str.ofString "range", none), (Str.ofString "reversed", none), (Str.ofString "bytes_types", some (.ref 57)), (Str.ofString "isinstance", none), (Str.ofString "str", none), (Str.ofString "bytearray", none), (Str.ofString "bytes", none), (Str.ofString "type", none), (Str.ofString "frozenset", none), (Str.ofString "set", none), (Str.ofString "dict", none), (Str.ofString "tuple", none), (Str.ofString "list", none), (Str.ofString "complex", none), (Str.ofString "float", none), (Str.ofString "int", none), (Str.ofString "bool", none), (Str.ofString "_b64_value", some (.ref 105)), (Str.ofString "_truth", some (.ref 98)), (Str.ofString "_ascii_buffer", some (.ref 84)), (Str.ofString "_B64", some (b64V)), (Str.ofString "_buffer", some (.ref 91)), (Str.ofString "b2a_base64", some (.ref 121)), (Str.ofString "a2b_base64", some (.ref 113)), (Str.ofString "_bytes_from_decode_data", some (.ref 64)), (Str.ofString "next", none), (Str.ofString "_law_octets", some (.ref 151)), (Str.ofString "b64encode", some (.ref 129)), (Str.ofString "_law_places", some (.ref 156)), (Str.ofString "_parse_varint", some (.ref 144)), (Str.ofString "b64decode", some (.ref 137)), (Str.ofString "iter", none), (Str.ofString "heappush", some (.ref 28)), (Str.ofString "heappop", some (.ref 35)), (Str.ofString "heapify", some (.ref 42)), (Str.ofString "_law_read", some (.ref 177)), (Str.ofString "_law_sum", some (.ref 163)), (Str.ofString "_law_held", some (.ref 187)), (Str.ofString "_law_peeled", some (.ref 182)), (Str.ofString "_law_card", some (.ref 170)), (Str.ofString "max", none), (Str.ofString "law", some (.ref 192))]
def topView : Program := { PW with main := { PW.main with body := [defOf 32] } }
def topLoose : List Str := (["_wall", "heappush", "heappop", "heapify", "_siftdown", "_siftup", "bytes_types", "_bytes_from_decode_data", "Error", "_ascii_buffer", "_buffer", "_truth", "_B64", "_b64_value", "a2b_base64", "b2a_base64", "b64encode", "b64decode", "_parse_varint", "_law_octets", "_law_places", "_law_sum", "_law_card", "_law_read", "_law_peeled", "_law_held"] : List String).map Str.ofString
theorem top_opens : ∀ w : World, (fencedOpening treeTable PW w 4000).map (fun s => (s.heap, s.gens, s.drawn, s.toks)) = some (boot_heap w.params, Array.mk [], boot_drawn, boot_toks) :=
  boot_open (by kernel_rfl) (by kernel_rfl) (fun _ => by kernel_rfl)
theorem top_left : LeftO PW topView topLoose (fun s => xlAt topView [] s && recOk [] s) topSeen.hook.obs topSeen.hook.val 4000 := left_of (m₀ := 11) (ann := some (.ref 6)) top_opens (fun w => by kernel_rfl) fun w os => by
  rewrite [show looksAll PW topView topLoose (fun s => xlAt topView [] s && recOk [] s) topSeen.hook.obs = fun H₀ s => (staticsOk (importedModules PW.main.body) H₀ s.heap && namesBound PW s.heap && gensDone s && laidKept H₀ s.heap, openSeen topView topLoose (importedModules PW.main.body) (fun s => xlAt topView [] s && recOk [] s) true s, topSeen.hook.obs s) from rfl, Fast.te14082659384304107361, Fast.te14364793385576792824, Fast.te4187177175401517315, Fast.te5923862056798008813]
  kernel_rfl
abbrev RW := PySem.Challenge.rw_oy0061_01
theorem said_names : namesResolve RW.row.prog = true := by
  rewrite [Fast.te8377067652309620493]
  kernel_rfl
theorem said_roads : noRoadLSs { strict := !(importedModules RW.row.prog.main.body).all cThrough.contains, foot := none, bare := (["vars", "dir", "locals"] : List Str).filter (readsOut RW.row.prog RW.row.prog.main.body) } RW.row.prog.main.body = true := by
  rewrite [Fast.te8326940854005059898]
  kernel_rfl
theorem said_attrs : namesMeet RW.row.prog RW.row.prog.main.body (fun _ n => attrL n) = true := by
  rewrite [Fast.te17119622794617984870]
  kernel_rfl
theorem said_row : RW.row.wellSaid = true := by
  unfold OpenRow.wellSaid OpenRow.partSaid looksOpen
  repeat' (with_reducible refine look_both ?_ ?_)
  all_goals first | with_reducible exact said_names | with_reducible exact said_roads | with_reducible exact said_attrs | kernel_rfl
theorem said_law : RW.wellSaid = true := by
  unfold OpenLaw.wellSaid
  repeat' (with_reducible refine look_both ?_ ?_)
  all_goals first | with_reducible exact said_row | ((first | rewrite [Fast.te8326940854005059898] | rewrite [Fast.te17119622794617984870] | rewrite [Fast.te8179353310426384613] | rewrite [Fast.te9558739934217749035] | rewrite [Fast.te16286561074155671207] | skip); kernel_rfl)
theorem glob_in {h : Heap} {mg mb : Str → Option Value} {x : Str} {v : Value} (g : h.Ns mainGlobals mg) (b : h.Ns builtinsNs mb) (e : mg x = some v) : GlobIs h x v := ⟨mg, mb, g, b, .inl e⟩
theorem glob_bi {h : Heap} {mg mb : Str → Option Value} {x : Str} {v : Value} (g : h.Ns mainGlobals mg) (b : h.Ns builtinsNs mb) (e : mg x = none) (e' : mb x = some v) : GlobIs h x v := ⟨mg, mb, g, b, .inr ⟨e, e'⟩⟩
theorem fn_at {W : Wd} {a c : Addr} {fd : FuncData} (e : ∃ o, W.h₀.get? a = some o ∧ o.data = .func fd) (d : ∃ o vs t, W.h₀.get? c = some o ∧ o.data = .fields vs ∧ vs[1]? = some (.str fd.qualname t)) (hc : fd.code = .ref c) : FnAt W a fd :=
  ⟨e, let ⟨o, vs, t, x, y, z⟩ := d; ⟨c, o, vs, t, hc, x, y, z⟩⟩
theorem gw_of {prog : Program} {w : World} {h : Heap} {mg mb : Str → Option Value} (S : topSeen.Says h) (g : h.Ns mainGlobals mg) (b : h.Ns builtinsNs mb) (hb : ∀ x : Str, x ≠ "__name__" → mb x = bootBuiltins x) (lim : h.NoLimit) : GW ⟨prog, w, h, lim⟩ := by
  obtain ⟨F, C, T, o, es, ep, e, d, N⟩ := S
  have hm : ∀ x, mg x = nsFind es x := ns_look g e d
  exact ⟨glob_bi g b ((hm _).trans N.1) ((hb _ (by decide +kernel)).trans (by kernel_rfl)),
    glob_in g b ((hm _).trans N.2.1),
    glob_in g b ((hm _).trans N.2.2.1),
    glob_bi g b ((hm _).trans N.2.2.2.1) ((hb _ (by decide +kernel)).trans (by kernel_rfl)),
    glob_bi g b ((hm _).trans N.2.2.2.2.1) ((hb _ (by decide +kernel)).trans (by kernel_rfl)),
    glob_in g b ((hm _).trans N.2.2.2.2.2.1),
    glob_bi g b ((hm _).trans N.2.2.2.2.2.2.1) ((hb _ (by decide +kernel)).trans (by kernel_rfl)),
    glob_bi g b ((hm _).trans N.2.2.2.2.2.2.2.1) ((hb _ (by decide +kernel)).trans (by kernel_rfl)),
    glob_bi g b ((hm _).trans N.2.2.2.2.2.2.2.2.1) ((hb _ (by decide +kernel)).trans (by kernel_rfl)),
    glob_bi g b ((hm _).trans N.2.2.2.2.2.2.2.2.2.1) ((hb _ (by decide +kernel)).trans (by kernel_rfl)),
    glob_bi g b ((hm _).trans N.2.2.2.2.2.2.2.2.2.2.1) ((hb _ (by decide +kernel)).trans (by kernel_rfl)),
    glob_bi g b ((hm _).trans N.2.2.2.2.2.2.2.2.2.2.2.1) ((hb _ (by decide +kernel)).trans (by kernel_rfl)),
    glob_bi g b ((hm _).trans N.2.2.2.2.2.2.2.2.2.2.2.2.1) ((hb _ (by decide +kernel)).trans (by kernel_rfl)),
    glob_bi g b ((hm _).trans N.2.2.2.2.2.2.2.2.2.2.2.2.2.1) ((hb _ (by decide +kernel)).trans (by kernel_rfl)),
    glob_bi g b ((hm _).trans N.2.2.2.2.2.2.2.2.2.2.2.2.2.2.1) ((hb _ (by decide +kernel)).trans (by kernel_rfl)),
    glob_bi g b ((hm _).trans N.2.2.2.2.2.2.2.2.2.2.2.2.2.2.2.1) ((hb _ (by decide +kernel)).trans (by kernel_rfl)),
    glob_bi g b ((hm _).trans N.2.2.2.2.2.2.2.2.2.2.2.2.2.2.2.2.1) ((hb _ (by decide +kernel)).trans (by kernel_rfl)),
    glob_bi g b ((hm _).trans N.2.2.2.2.2.2.2.2.2.2.2.2.2.2.2.2.2.1) ((hb _ (by decide +kernel)).trans (by kernel_rfl)),
    glob_bi g b ((hm _).trans N.2.2.2.2.2.2.2.2.2.2.2.2.2.2.2.2.2.2.1) ((hb _ (by decide +kernel)).trans (by kernel_rfl)),
    glob_bi g b ((hm _).trans N.2.2.2.2.2.2.2.2.2.2.2.2.2.2.2.2.2.2.2.1) ((hb _ (by decide +kernel)).trans (by kernel_rfl)),
    glob_in g b ((hm _).trans N.2.2.2.2.2.2.2.2.2.2.2.2.2.2.2.2.2.2.2.2.1),
    glob_in g b ((hm _).trans N.2.2.2.2.2.2.2.2.2.2.2.2.2.2.2.2.2.2.2.2.2.1),
    glob_in g b ((hm _).trans N.2.2.2.2.2.2.2.2.2.2.2.2.2.2.2.2.2.2.2.2.2.2.1),
    glob_in g b ((hm _).trans N.2.2.2.2.2.2.2.2.2.2.2.2.2.2.2.2.2.2.2.2.2.2.2.1),
    glob_in g b ((hm _).trans N.2.2.2.2.2.2.2.2.2.2.2.2.2.2.2.2.2.2.2.2.2.2.2.2.1),
    glob_in g b ((hm _).trans N.2.2.2.2.2.2.2.2.2.2.2.2.2.2.2.2.2.2.2.2.2.2.2.2.2.1),
    glob_in g b ((hm _).trans N.2.2.2.2.2.2.2.2.2.2.2.2.2.2.2.2.2.2.2.2.2.2.2.2.2.2.1),
    glob_in g b ((hm _).trans N.2.2.2.2.2.2.2.2.2.2.2.2.2.2.2.2.2.2.2.2.2.2.2.2.2.2.2.1),
    glob_bi g b ((hm _).trans N.2.2.2.2.2.2.2.2.2.2.2.2.2.2.2.2.2.2.2.2.2.2.2.2.2.2.2.2.1) ((hb _ (by decide +kernel)).trans (by kernel_rfl)),
    glob_in g b ((hm _).trans N.2.2.2.2.2.2.2.2.2.2.2.2.2.2.2.2.2.2.2.2.2.2.2.2.2.2.2.2.2.1),
    glob_in g b ((hm _).trans N.2.2.2.2.2.2.2.2.2.2.2.2.2.2.2.2.2.2.2.2.2.2.2.2.2.2.2.2.2.2.1),
    glob_in g b ((hm _).trans N.2.2.2.2.2.2.2.2.2.2.2.2.2.2.2.2.2.2.2.2.2.2.2.2.2.2.2.2.2.2.2.1),
    glob_in g b ((hm _).trans N.2.2.2.2.2.2.2.2.2.2.2.2.2.2.2.2.2.2.2.2.2.2.2.2.2.2.2.2.2.2.2.2.1),
    glob_in g b ((hm _).trans N.2.2.2.2.2.2.2.2.2.2.2.2.2.2.2.2.2.2.2.2.2.2.2.2.2.2.2.2.2.2.2.2.2.1),
    glob_bi g b ((hm _).trans N.2.2.2.2.2.2.2.2.2.2.2.2.2.2.2.2.2.2.2.2.2.2.2.2.2.2.2.2.2.2.2.2.2.2.1) ((hb _ (by decide +kernel)).trans (by kernel_rfl)),
    glob_in g b ((hm _).trans N.2.2.2.2.2.2.2.2.2.2.2.2.2.2.2.2.2.2.2.2.2.2.2.2.2.2.2.2.2.2.2.2.2.2.2.1),
    glob_in g b ((hm _).trans N.2.2.2.2.2.2.2.2.2.2.2.2.2.2.2.2.2.2.2.2.2.2.2.2.2.2.2.2.2.2.2.2.2.2.2.2.1),
    glob_in g b ((hm _).trans N.2.2.2.2.2.2.2.2.2.2.2.2.2.2.2.2.2.2.2.2.2.2.2.2.2.2.2.2.2.2.2.2.2.2.2.2.2.1),
    glob_in g b ((hm _).trans N.2.2.2.2.2.2.2.2.2.2.2.2.2.2.2.2.2.2.2.2.2.2.2.2.2.2.2.2.2.2.2.2.2.2.2.2.2.2.1),
    glob_in g b ((hm _).trans N.2.2.2.2.2.2.2.2.2.2.2.2.2.2.2.2.2.2.2.2.2.2.2.2.2.2.2.2.2.2.2.2.2.2.2.2.2.2.2.1),
    glob_in g b ((hm _).trans N.2.2.2.2.2.2.2.2.2.2.2.2.2.2.2.2.2.2.2.2.2.2.2.2.2.2.2.2.2.2.2.2.2.2.2.2.2.2.2.2.1),
    glob_in g b ((hm _).trans N.2.2.2.2.2.2.2.2.2.2.2.2.2.2.2.2.2.2.2.2.2.2.2.2.2.2.2.2.2.2.2.2.2.2.2.2.2.2.2.2.2.1),
    glob_in g b ((hm _).trans N.2.2.2.2.2.2.2.2.2.2.2.2.2.2.2.2.2.2.2.2.2.2.2.2.2.2.2.2.2.2.2.2.2.2.2.2.2.2.2.2.2.2.1),
    glob_bi g b ((hm _).trans N.2.2.2.2.2.2.2.2.2.2.2.2.2.2.2.2.2.2.2.2.2.2.2.2.2.2.2.2.2.2.2.2.2.2.2.2.2.2.2.2.2.2.2.1) ((hb _ (by decide +kernel)).trans (by kernel_rfl)),
    fn_at F.1 C.1 (by kernel_rfl),
    fn_at F.2.1 C.2.1 (by kernel_rfl),
    fn_at F.2.2.1 C.2.2.1 (by kernel_rfl),
    fn_at F.2.2.2.1 C.2.2.2.1 (by kernel_rfl),
    fn_at F.2.2.2.2.1 C.2.2.2.2.1 (by kernel_rfl),
    fn_at F.2.2.2.2.2.1 C.2.2.2.2.2.1 (by kernel_rfl),
    fn_at F.2.2.2.2.2.2.1 C.2.2.2.2.2.2.1 (by kernel_rfl),
    fn_at F.2.2.2.2.2.2.2.1 C.2.2.2.2.2.2.2.1 (by kernel_rfl),
    fn_at F.2.2.2.2.2.2.2.2.1 C.2.2.2.2.2.2.2.2.1 (by kernel_rfl),
    fn_at F.2.2.2.2.2.2.2.2.2.1 C.2.2.2.2.2.2.2.2.2.1 (by kernel_rfl),
    fn_at F.2.2.2.2.2.2.2.2.2.2.1 C.2.2.2.2.2.2.2.2.2.2.1 (by kernel_rfl),
    fn_at F.2.2.2.2.2.2.2.2.2.2.2.1 C.2.2.2.2.2.2.2.2.2.2.2.1 (by kernel_rfl),
    fn_at F.2.2.2.2.2.2.2.2.2.2.2.2.1 C.2.2.2.2.2.2.2.2.2.2.2.2.1 (by kernel_rfl),
    fn_at F.2.2.2.2.2.2.2.2.2.2.2.2.2.1 C.2.2.2.2.2.2.2.2.2.2.2.2.2.1 (by kernel_rfl),
    fn_at F.2.2.2.2.2.2.2.2.2.2.2.2.2.2.1 C.2.2.2.2.2.2.2.2.2.2.2.2.2.2.1 (by kernel_rfl),
    fn_at F.2.2.2.2.2.2.2.2.2.2.2.2.2.2.2.1 C.2.2.2.2.2.2.2.2.2.2.2.2.2.2.2.1 (by kernel_rfl),
    fn_at F.2.2.2.2.2.2.2.2.2.2.2.2.2.2.2.2.1 C.2.2.2.2.2.2.2.2.2.2.2.2.2.2.2.2.1 (by kernel_rfl),
    fn_at F.2.2.2.2.2.2.2.2.2.2.2.2.2.2.2.2.2.1 C.2.2.2.2.2.2.2.2.2.2.2.2.2.2.2.2.2.1 (by kernel_rfl),
    fn_at F.2.2.2.2.2.2.2.2.2.2.2.2.2.2.2.2.2.2.1 C.2.2.2.2.2.2.2.2.2.2.2.2.2.2.2.2.2.2.1 (by kernel_rfl),
    fn_at F.2.2.2.2.2.2.2.2.2.2.2.2.2.2.2.2.2.2.2.1 C.2.2.2.2.2.2.2.2.2.2.2.2.2.2.2.2.2.2.2.1 (by kernel_rfl),
    fn_at F.2.2.2.2.2.2.2.2.2.2.2.2.2.2.2.2.2.2.2.2.1 C.2.2.2.2.2.2.2.2.2.2.2.2.2.2.2.2.2.2.2.2.1 (by kernel_rfl),
    fn_at F.2.2.2.2.2.2.2.2.2.2.2.2.2.2.2.2.2.2.2.2.2.1 C.2.2.2.2.2.2.2.2.2.2.2.2.2.2.2.2.2.2.2.2.2.1 (by kernel_rfl),
    fn_at F.2.2.2.2.2.2.2.2.2.2.2.2.2.2.2.2.2.2.2.2.2.2.1 C.2.2.2.2.2.2.2.2.2.2.2.2.2.2.2.2.2.2.2.2.2.2.1 (by kernel_rfl),
    T.1,
    T.2.1,
    T.2.2.1⟩
theorem law_at {h : Heap} {mg : Str → Option Value} (S : topSeen.Says h) (g : h.Ns mainGlobals mg) : mg (Str.ofString "law") = some (.ref 192) := by
  obtain ⟨_, _, _, o, es, ep, e, d, N⟩ := S
  exact (ns_look g e d _).trans N.2.2.2.2.2.2.2.2.2.2.2.2.2.2.2.2.2.2.2.2.2.2.2.2.2.2.2.2.2.2.2.2.2.2.2.2.2.2.2.2.2.2.2.2.1
end Mine

namespace Mine
open PySem PySem.W PyProof.Rows PySem.Calls
theorem rall_ints {F : Fz} : ∀ {vs : List Value} {ns : List Int}, IntsAre vs ns → RAll F (iv ns) vs
  | [], [], _ => .nil
  | _, _, .cons _ _ h => .cons (.int _ _) (rall_ints h)
theorem plain_of {P : Params} {h : Heap} {a : Addr} {xs : List PyData} {vs : List Value} (w : Well P h (.ref a) (ofPy (PyData.list xs))) (hL : h.IsList a vs.toArray) : h.get? a = some (listOf vs.toArray 0) := by
  obtain ⟨o, e, hc, n, hd⟩ := hL
  have w' : Well P h (.ref a) (.list (ofPys xs)) := w
  cases w' with
  | list e' _ =>
    rw [e'] at e; cases e
    cases hd
    exact e'
theorem law_ends {W : Wd} (G : GW W) {s : Shared} (hs : s.heap = W.h₀) {l : Addr} {vs : List Value} {ns : List Int} (hl : s.heap.get? l = some (listOf vs.toArray 0)) (hI : IntsAre vs ns) (hn : ns.length ≤ 63) {A : Around} (hA : OkA A 6) {E : Value → Shared → Prop} {Q : Value → Shared → Prop}
    (q : ∀ h tk, (∀ b o, s.heap.get? b = some o → h.get? b = some o) → Q (.bool true) { s with heap := h, toks := tk }) : wpAny W.M A (call (.ref 192) [.ref l]) Q E s := by
  have c := c_law (W := W) (σ := fun _ => none) (j := 0) (ns := ns) (Q := fun x _ => x = .bool true) G hn rfl
  refine wpAny_mono (c A E (fun a => s.heap.get? a) s [.ref l] [] hA ⟨fun a o e => by rw [hs]; exact e, fun _ _ e => e, fun _ _ e => nomatch e⟩ (.cons (.list hl (rall_ints hI)) .nil) rfl .nil) ?_ fun _ _ e => e
  rintro v s' ⟨F', x, σ', p, r, rfl⟩
  cases r
  obtain ⟨h, tk, rfl⟩ := p.same
  exact q h tk fun b o e => p.keep b o e rfl (by simp)
theorem law_walks : WalkO topView topLoose (XL topView []) topSeen.hook.says (PySem.Challenge.rw_oy0061_01.row.toRowW) (drOf (defOf 32)) [] (fun f vs => PySem.call f vs) := by
  intro w s₀ s₁ mg mb G Y fa o pm cd doc dV kV ho hd hcd hD hmg hg args vals as hpre hlay hrd hwl hlo
  have hT := G.T
  have hfa : fa = 192 := by
    have h3 : mg (Str.ofString "law") = some (.ref fa) := hmg
    rw [law_at Y hT.g] at h3; injection h3 with h3; injection h3 with h3; exact h3.symm
  subst hfa
  have GG : GW ⟨PySem.Challenge.rw_oy0061_01.row.prog, w, s₁.heap, hT.nolimit⟩ := gw_of Y hT.g hT.b hT.builtins hT.nolimit
  clear hmg ho hd hcd hD G Y
  wrow_args hpre hlay hrd hwl hlo
  rename_i ns _ _ _ _ _ _ _ l vs _ hL _ hW _ hI _ hc _
  refine law_ends (W := ⟨PySem.Challenge.rw_oy0061_01.row.prog, w, s₁.heap, hT.nolimit⟩) GG rfl (plain_of hW hL) hI (by omega) ⟨rfl, by decide, by decide⟩ fun h tk keep => GoodW.toG ⟨.inl ⟨_, .bool true, [], rfl, ?_, .bool true, ?_, fun _ => ⟨.nil, fun _ m => nomatch m⟩⟩, keep, rfl, hg⟩
  · intro cls; first | rfl | kernel_rfl
  · first | rfl | kernel_rfl
end Mine
open PySem PySem.W PyProof.Rows PySem.Calls
theorem PySem.Challenge.cw_oy0061_01_holds : PySem.Challenge.rw_oy0061_01.Holds := by
  refine holds_law Mine.said_law fun said => holds_open (q := Mine.topView) (loose := Mine.topLoose) (Xt := fun s => xlAt Mine.topView [] s && recOk [] s) (XP := XL Mine.topView []) (Yf := Mine.topSeen.hook.obs) (Ya := Mine.topSeen.hook.val) (YP := Mine.topSeen.hook.says) (d := Mine.drOf (Mine.defOf 32)) (kwd := []) (N := 4000) Mine.top_left Mine.topSeen.hook.of Mine.topSeen.hook.keeps (fun s e => xl_of s (Bool.and_eq_true_iff.mp e).1) XL.keeps (by kernel_rfl) (by kernel_rfl) (by kernel_rfl) (fun s e => recFacts_of (Bool.and_eq_true_iff.mp e).2) (by kernel_rfl) said (by decide +kernel) ⟨rfl, rfl, rfl, rfl, rfl, by decide +kernel⟩ ?_ Mine.law_walks
  w_witness2
