import PyProof.Rows.All
import Wide.All
import OpenK.AllK
import Wide.FinOn
import PySem.Challenge.RW_oy0061_03
set_option Elab.async false
set_option maxRecDepth 100000
set_option maxHeartbeats 8000000
namespace Mine
open PySem PySem.W PyProof.Rows PySem.Calls

/-! Abstract values: tuples and frozen lists by value, mutable objects by address. -/
inductive V where
  | none
  | bool (b : Bool)
  | int (i : Int)
  | bytes (b : List Int)
  | tuple (xs : List V)
  | list (xs : List V)
  | range (a b c : Int)
  | ref (a : Addr)
  | raw (v : Value)

inductive AO where
  | list (xs : List V)
  | biter (b : List Int) (i : Nat)
  | riter (x left step : Int)

abbrev Fz := Addr → Option Obj
abbrev tupOf (vs : List Value) (n : Nat) : Obj := { cls := .type "tuple", data := .seq vs.toArray n }
abbrev rngOf (a b c : Int) (t u v : Tok) : Obj := { cls := .type "range", data := .fields #[.int a t, .int b u, .int c v] }

def BytesAre (b : Array UInt8) (xs : List Int) : Prop := b.toList.map (fun c => (c.toNat : Int)) = xs

mutual
inductive R (F : Fz) : V → Value → Prop
  | none : R F .none .none
  | bool (b : Bool) : R F (.bool b) (.bool b)
  | int (i : Int) (t : Tok) : R F (.int i) (.int i t)
  | bytes {b : Array UInt8} {xs : List Int} (t : Tok) : BytesAre b xs → R F (.bytes xs) (.bytes b t)
  | tuple {a : Addr} {vs : List Value} {n : Nat} {xs : List V} : F a = some (tupOf vs n) → RAll F xs vs → R F (.tuple xs) (.ref a)
  | list {a : Addr} {vs : List Value} {n : Nat} {xs : List V} : F a = some (listOf vs.toArray n) → RAll F xs vs → R F (.list xs) (.ref a)
  | range {l : Addr} {a b c : Int} {t u v : Tok} : F l = some (rngOf a b c t u v) → R F (.range a b c) (.ref l)
  | ref (a : Addr) : R F (.ref a) (.ref a)
  | raw (v : Value) : R F (.raw v) v
inductive RAll (F : Fz) : List V → List Value → Prop
  | nil : RAll F [] []
  | cons {x : V} {v : Value} {xs : List V} {vs : List Value} : R F x v → RAll F xs vs → RAll F (x :: xs) (v :: vs)
end

def Fz.Le (F F' : Fz) : Prop := ∀ a o, F a = some o → F' a = some o
theorem Fz.Le.refl (F : Fz) : F.Le F := fun _ _ e => e
theorem Fz.Le.trans {F G H : Fz} (x : F.Le G) (y : G.Le H) : F.Le H := fun a o e => y a o (x a o e)

mutual
theorem R.mono {F F' : Fz} (h : F.Le F') : ∀ {x : V} {v : Value}, R F x v → R F' x v
  | _, _, .none => .none
  | _, _, .bool b => .bool b
  | _, _, .int i t => .int i t
  | _, _, .bytes t e => .bytes t e
  | _, _, .tuple e r => .tuple (h _ _ e) (RAll.mono h r)
  | _, _, .list e r => .list (h _ _ e) (RAll.mono h r)
  | _, _, .range e => .range (h _ _ e)
  | _, _, .ref a => .ref a
  | _, _, .raw v => .raw v
theorem RAll.mono {F F' : Fz} (h : F.Le F') : ∀ {xs : List V} {vs : List Value}, RAll F xs vs → RAll F' xs vs
  | _, _, .nil => .nil
  | _, _, .cons a r => .cons (R.mono h a) (RAll.mono h r)
end

theorem RAll.length {F : Fz} : ∀ {xs : List V} {vs : List Value}, RAll F xs vs → xs.length = vs.length := by
  intro xs
  induction xs with
  | nil => intro vs h; cases h; rfl
  | cons x xs ih => intro vs h; cases h with | cons _ r => rw [List.length_cons, List.length_cons, ih r]
theorem RAll.append {F : Fz} {ys : List V} {ws : List Value} : ∀ {xs : List V} {vs : List Value}, RAll F xs vs → RAll F ys ws → RAll F (xs ++ ys) (vs ++ ws) := by
  intro xs
  induction xs with
  | nil => intro vs h r'; cases h; exact r'
  | cons x xs ih => intro vs h r'; cases h with | cons a r => exact .cons a (ih r r')
theorem RAll.get {F : Fz} : ∀ {xs : List V} {vs : List Value}, RAll F xs vs → ∀ {k : Nat} {x : V}, xs[k]? = some x → ∃ v, vs[k]? = some v ∧ R F x v := by
  intro xs
  induction xs with
  | nil => intro vs h k x e; cases e
  | cons y xs ih =>
    intro vs h k x e
    cases h with
    | cons a r =>
      cases k with
      | zero => cases e; exact ⟨_, rfl, a⟩
      | succ k => exact ih r (k := k) e
theorem RAll.set {F : Fz} {x : V} {v : Value} (hx : R F x v) : ∀ {xs : List V} {vs : List Value}, RAll F xs vs → ∀ (k : Nat), RAll F (xs.set k x) (vs.set k v) := by
  intro xs
  induction xs with
  | nil => intro vs h k; cases h; exact .nil
  | cons y xs ih =>
    intro vs h k
    cases h with
    | cons a r =>
      cases k with
      | zero => exact .cons hx r
      | succ k => exact .cons a (ih r k)
theorem RAll.take {F : Fz} : ∀ {xs : List V} {vs : List Value}, RAll F xs vs → ∀ (k : Nat), RAll F (xs.take k) (vs.take k) := by
  intro xs
  induction xs with
  | nil => intro vs h k; cases h; rw [List.take_nil, List.take_nil]; exact .nil
  | cons y xs ih =>
    intro vs h k
    cases h with
    | cons a r =>
      cases k with
      | zero => exact .nil
      | succ k => exact .cons a (ih r k)
theorem RAll.drop {F : Fz} : ∀ {xs : List V} {vs : List Value}, RAll F xs vs → ∀ (k : Nat), RAll F (xs.drop k) (vs.drop k) := by
  intro xs
  induction xs with
  | nil => intro vs h k; cases h; rw [List.drop_nil, List.drop_nil]; exact .nil
  | cons y xs ih =>
    intro vs h k
    cases h with
    | cons a r =>
      cases k with
      | zero => exact .cons a r
      | succ k => exact ih r k

/-! The world: the program, its oracle, the heap that the top left. -/
structure Wd where
  prog : Program
  w : World
  h₀ : Heap
  lim : h₀.NoLimit

abbrev Wd.M (W : Wd) : Model := model W.prog W.w

/-! The store's objects. -/
def SO (W : Wd) (F : Fz) (h : Heap) (a : Addr) : AO → Prop
  | .list xs => ∃ vs n, h.get? a = some (listOf vs.toArray n) ∧ RAll F xs vs
  | .biter b i => ∃ ar t, BytesAre ar b ∧ KBw.IsBytesIter h a ar t i
  | .riter x left step => IsRangeIter h a x left step

theorem SO.there {W : Wd} {F : Fz} {h : Heap} {a : Addr} {x : AO} (k : SO W F h a x) : ∃ o, h.get? a = some o := by
  cases x with
  | list xs => obtain ⟨vs, n, e, _⟩ := k; exact ⟨_, e⟩
  | biter b i => obtain ⟨ar, t, _, o, e, _⟩ := k; exact ⟨o, e⟩
  | riter x l c => exact ⟨_, k⟩
theorem SO.mono {W : Wd} {F F' : Fz} {h h' : Heap} {a : Addr} {x : AO} (k : SO W F h a x) (hF : F.Le F') (hh : ∀ o, h.get? a = some o → h'.get? a = some o) : SO W F' h' a x := by
  cases x with
  | list xs => obtain ⟨vs, n, e, r⟩ := k; exact ⟨vs, n, hh _ e, r.mono hF⟩
  | biter b i => obtain ⟨ar, t, b, o, e, r⟩ := k; exact ⟨ar, t, b, o, hh _ e, r⟩
  | riter x l c => exact hh _ k

abbrev St := Addr → Option AO

structure SimG (W : Wd) (F : Fz) (σ : St) (h : Heap) : Prop where
  base : ∀ a o, W.h₀.get? a = some o → F a = some o
  fz : ∀ a o, F a = some o → h.get? a = some o
  st : ∀ a x, σ a = some x → F a = none ∧ SO W F h a x

structure PostG (own : List Addr) (W : Wd) (F : Fz) (σ : St) (s : Shared) (F' : Fz) (σ' : St) (s' : Shared) : Prop where
  ext : F.Le F'
  simg : SimG W F' σ' s'.heap
  keep : ∀ b o, s.heap.get? b = some o → σ b = none → b ∉ own → s'.heap.get? b = some o
  freshS : ∀ b, σ' b ≠ none → σ b ≠ none ∨ (s.heap.get? b = none ∧ b ∉ own)
  freshF : ∀ b, F' b ≠ none → F b ≠ none ∨ σ b ≠ none ∨ (s.heap.get? b = none ∧ b ∉ own)
  same : ∃ h tk, s' = { s with heap := h, toks := tk }

theorem PostG.refl {own : List Addr} {W : Wd} {F : Fz} {σ : St} {s : Shared} (g : SimG W F σ s.heap) : PostG own W F σ s F σ s :=
  ⟨.refl _, g, fun _ _ e _ _ => e, fun _ h => .inl h, fun _ h => .inl h, _, _, rfl⟩
theorem PostG.trans {own : List Addr} {W : Wd} {F F₁ F₂ : Fz} {σ σ₁ σ₂ : St} {s s₁ s₂ : Shared} (p : PostG own W F σ s F₁ σ₁ s₁) (q : PostG own W F₁ σ₁ s₁ F₂ σ₂ s₂) : PostG own W F σ s F₂ σ₂ s₂ := by
  have back : ∀ b, s₁.heap.get? b = none → b ∉ own → σ b ≠ none ∨ (s.heap.get? b = none ∧ b ∉ own) := fun b h ho => by
    cases e : s.heap.get? b with
    | none => exact .inr ⟨rfl, ho⟩
    | some o =>
      cases z : σ b with
      | some x => exact .inl (by simp)
      | none => rw [p.keep b o e z ho] at h; cases h
  refine ⟨p.ext.trans q.ext, q.simg, fun b o e hb ho => q.keep b o (p.keep b o e hb ho) ?_ ho, fun b h => ?_, fun b h => ?_, ?_⟩
  · cases h : σ₁ b with
    | none => rfl
    | some x =>
      rcases p.freshS b (by rw [h]; simp) with z | z
      · exact absurd hb z
      · rw [z.1] at e; cases e
  · rcases q.freshS b h with z | z
    · exact p.freshS b z
    · exact back b z.1 z.2
  · rcases q.freshF b h with z | z | z
    · exact p.freshF b z
    · exact .inr (p.freshS b z)
    · exact .inr (back b z.1 z.2)
  · obtain ⟨h, t, rfl⟩ := p.same
    obtain ⟨h', t', rfl⟩ := q.same
    exact ⟨h', t', rfl⟩
theorem PostG.weaken {own : List Addr} {W : Wd} {F F₁ : Fz} {σ σ₁ : St} {s s₁ : Shared} (p : PostG [] W F σ s F₁ σ₁ s₁) (ho : ∀ b ∈ own, ∃ o, s.heap.get? b = some o) : PostG own W F σ s F₁ σ₁ s₁ := by
  have z : ∀ b, s.heap.get? b = none → b ∉ own := fun b h m => by obtain ⟨o, e⟩ := ho b m; rw [e] at h; cases h
  refine { p with keep := fun b o e hb _ => p.keep b o e hb (by simp), freshS := fun b h => ?_, freshF := fun b h => ?_ }
  · exact (p.freshS b h).imp_right fun y => ⟨y.1, z b y.1⟩
  · exact (p.freshF b h).imp_right fun q => q.imp_right fun y => ⟨y.1, z b y.1⟩
/-- an address that was not there may be struck from the list -/
theorem PostG.strike {own : List Addr} {a : Addr} {W : Wd} {F F₁ : Fz} {σ σ₁ : St} {s s₁ : Shared} (p : PostG (a :: own) W F σ s F₁ σ₁ s₁) (ha : s.heap.get? a = none) : PostG own W F σ s F₁ σ₁ s₁ :=
  { p with
    keep := fun b o e hb ho => p.keep b o e hb (fun m => by
      rcases List.mem_cons.mp m with rfl | m
      · rw [ha] at e; cases e
      · exact ho m)
    freshS := fun b h => (p.freshS b h).imp_right fun y => ⟨y.1, fun m => y.2 (.tail _ m)⟩
    freshF := fun b h => (p.freshF b h).imp_right fun q => q.imp_right fun y => ⟨y.1, fun m => y.2 (.tail _ m)⟩ }
/-- a longer list of one's own, where no new address comes -/
theorem PostG.more {own own' : List Addr} {W : Wd} {F : Fz} {σ : St} {s s₁ : Shared} (p : PostG own W F σ s F σ s₁) (h : ∀ b ∈ own, b ∈ own') : PostG own' W F σ s F σ s₁ :=
  { p with
    keep := fun b o e hb ho => p.keep b o e hb fun m => ho (h b m)
    freshS := fun _ h => .inl h
    freshF := fun _ h => .inl h }

theorem SimG.heap {W : Wd} {F : Fz} {σ : St} {h h' : Heap} (g : SimG W F σ h) (ex : List Addr) (hk : ∀ b o, b ∉ ex → h.get? b = some o → h'.get? b = some o) (hx : ∀ b ∈ ex, F b = none ∧ σ b = none) : SimG W F σ h' := by
  refine ⟨g.base, fun a o e => hk a o (fun m => ?_) (g.fz a o e), fun a x e => ⟨(g.st a x e).1, (g.st a x e).2.mono (.refl _) fun o ho => hk a o (fun m => ?_) ho⟩⟩
  · rw [(hx a m).1] at e; cases e
  · rw [(hx a m).2] at e; cases e
/-- the heap alone has changed, and that off the store and off what is frozen -/
theorem PostG.heap {own : List Addr} {W : Wd} {F : Fz} {σ : St} {s : Shared} {h' : Heap} {tk : Nat} (g : SimG W F σ s.heap) (ex : List Addr) (hk : ∀ b o, b ∉ ex → s.heap.get? b = some o → h'.get? b = some o)
    (hx : ∀ b ∈ ex, F b = none ∧ σ b = none) (ho : ∀ b ∈ ex, b ∈ own ∨ s.heap.get? b = none) : PostG own W F σ s F σ { s with heap := h', toks := tk } := by
  refine ⟨.refl _, g.heap ex hk hx, fun b o e _ hn => hk b o (fun m => ?_) e, fun _ h => .inl h, fun _ h => .inl h, _, _, rfl⟩
  rcases ho b m with z | z
  · exact hn z
  · rw [z] at e; cases e

/-! Places of local names. -/
inductive Pl where
  | d (L : Addr) (x : Str)
  | c (a : Addr)
abbrev Pl.addr : Pl → Addr
  | .d L _ => L
  | .c a => a
def Pl.Ok (F : Fz) (h : Heap) : Pl → Option V → Prop
  | .d L x, o => ∃ m, h.Ns L m ∧ ∀ v, o = some v → ∃ u, m x = some u ∧ R F v u
  | .c a, o => ∃ u, h.IsCell a u ∧ ∀ v, o = some v → ∃ u', u = some u' ∧ R F v u'
theorem Pl.Ok.mono {F F' : Fz} {h h' : Heap} {p : Pl} {o : Option V} (k : p.Ok F h o) (hF : F.Le F') (hh : ∀ ob, h.get? p.addr = some ob → h'.get? p.addr = some ob) : p.Ok F' h' o := by
  cases p with
  | d L x => obtain ⟨m, n, r⟩ := k; exact ⟨m, n.at' hh, fun v e => let ⟨u, a, b⟩ := r v e; ⟨u, a, b.mono hF⟩⟩
  | c a => obtain ⟨u, ⟨ob, e, c⟩, r⟩ := k; exact ⟨u, ⟨ob, hh _ e, c⟩, fun v e => let ⟨u, a, b⟩ := r v e; ⟨u, a, b.mono hF⟩⟩
theorem Pl.Ok.there {F : Fz} {h : Heap} {p : Pl} {o : Option V} (k : p.Ok F h o) : ∃ ob, h.get? p.addr = some ob := by
  cases p with
  | d L x => obtain ⟨m, ⟨o, _, _, e, _⟩, r⟩ := k; exact ⟨o, e⟩
  | c a => obtain ⟨u, ⟨ob, e, c⟩, r⟩ := k; exact ⟨ob, e⟩

structure S where
  σ : St
  ρ : Nat → Option V
def S.put (st : S) (a : Addr) (x : AO) : S := { st with σ := fun b => if b = a then some x else st.σ b }
def S.del (st : S) (a : Addr) : S := { st with σ := fun b => if b = a then none else st.σ b }
def S.set (st : S) (i : Nat) (v : V) : S := { st with ρ := fun j => if j = i then some v else st.ρ j }

structure Cx where
  W : Wd
  A : Around
  env : Env
  pl : List Pl
  lev : Nat
abbrev Cx.own (C : Cx) : List Addr := C.pl.map Pl.addr

structure OkA (A : Around) (j : Nat) : Prop where
  handled : A.handled = none
  depth : A.depth + j < recursionLimit
  units : A.units + 8 * j + 100 < cLine

structure Sim (C : Cx) (F : Fz) (st : S) (h : Heap) : Prop where
  g : SimG C.W F st.σ h
  loc : ∀ (i : Nat) (p : Pl), C.pl[i]? = some p → p.Ok F h (st.ρ i)
  own : ∀ p ∈ C.pl, F p.addr = none ∧ st.σ p.addr = none
  ok : OkA C.A C.lev
  fn : C.env.scope.kind = .function
  nodup : C.pl.Nodup

structure Post (C : Cx) (F : Fz) (st : S) (s : Shared) (F' : Fz) (st' : S) (s' : Shared) : Prop where
  p : PostG C.own C.W F st.σ s F' st'.σ s'
  sim : Sim C F' st' s'.heap
theorem Post.refl {C : Cx} {F : Fz} {st : S} {s : Shared} (k : Sim C F st s.heap) : Post C F st s F st s := ⟨.refl k.g, k⟩
theorem Post.trans {C : Cx} {F F₁ F₂ : Fz} {σ σ₁ σ₂ : S} {s s₁ s₂ : Shared} (p : Post C F σ s F₁ σ₁ s₁) (q : Post C F₁ σ₁ s₁ F₂ σ₂ s₂) : Post C F σ s F₂ σ₂ s₂ := ⟨p.p.trans q.p, q.sim⟩
theorem Post.ext {C : Cx} {F F₁ : Fz} {σ σ₁ : S} {s s₁ : Shared} (p : Post C F σ s F₁ σ₁ s₁) : F.Le F₁ := p.p.ext

theorem Sim.there {C : Cx} {F : Fz} {st : S} {h : Heap} (k : Sim C F st h) : ∀ b ∈ C.own, ∃ o, h.get? b = some o := fun b m => by
  obtain ⟨q, hq, rfl⟩ := List.mem_map.mp m
  obtain ⟨i, e⟩ := List.getElem?_of_mem hq
  exact (k.loc i q e).there
/-- what leaves a frame's names alone (a call, an object made): locals stand -/
theorem Post.ofG {C : Cx} {F F₁ : Fz} {st : S} {σ₁ : St} {s s₁ : Shared} (k : Sim C F st s.heap) (p : PostG [] C.W F st.σ s F₁ σ₁ s₁) : Post C F st s F₁ ⟨σ₁, st.ρ⟩ s₁ := by
  refine ⟨p.weaken k.there, p.simg, fun i q e => ?_, fun q hq => ?_, k.ok, k.fn, k.nodup⟩
  · have hm := List.mem_of_getElem? e
    exact (k.loc i q e).mono p.ext fun ob h => p.keep _ _ h (k.own q hm).2 (by simp)
  · obtain ⟨ob, h⟩ := k.there q.addr (List.mem_map_of_mem hq)
    have o := k.own q hq
    constructor
    · cases z : F₁ q.addr with
      | none => rfl
      | some y =>
        rcases p.freshF _ (by rw [z]; simp) with y | y | y
        · exact absurd o.1 y
        · exact absurd o.2 y
        · rw [y.1] at h; cases h
    · show σ₁ q.addr = none
      cases z : σ₁ q.addr with
      | none => rfl
      | some y =>
        rcases p.freshS _ (by rw [z]; simp) with y | y
        · exact absurd o.2 y
        · rw [y.1] at h; cases h
/-- the heap alone has changed, off store, frozen part and names -/
theorem Sim.heap {C : Cx} {F : Fz} {st : S} {h h' : Heap} (k : Sim C F st h) (ex : List Addr) (hk : ∀ b o, b ∉ ex → h.get? b = some o → h'.get? b = some o) (hx : ∀ b ∈ ex, F b = none ∧ st.σ b = none) (ho : ∀ b ∈ ex, b ∉ C.own) : Sim C F st h' :=
  ⟨k.g.heap ex hk hx, fun i q e => (k.loc i q e).mono (.refl _) fun ob h => hk _ _ (fun m => ho _ m (List.mem_map_of_mem (List.mem_of_getElem? e))) h, k.own, k.ok, k.fn, k.nodup⟩
theorem Sim.grown {C : Cx} {F : Fz} {st : S} {s : Shared} (k : Sim C F st s.heap) {h' : Heap} {tk : Nat} (hk : ∀ b o, s.heap.get? b = some o → h'.get? b = some o) : Post C F st s F st { s with heap := h', toks := tk } :=
  ⟨.heap k.g [] (fun b o _ e => hk b o e) (fun _ m => nomatch m) (fun _ m => nomatch m), k.heap [] (fun b o _ e => hk b o e) (fun _ m => nomatch m) (fun _ m => nomatch m)⟩

/-- a tree does what a transformer says -/
def Imp {X α : Type} (C : Cx) (F₀ : Fz) (Rel : Fz → X → α → Prop) (t : Sem α) (T : (X → S → Prop) → S → Prop) : Prop :=
  ∀ (E : Value → Shared → Prop) (Q : X → S → Prop) (st : S) (F : Fz) (s : Shared), F₀.Le F → Sim C F st s.heap → T Q st →
    wpAny C.W.M C.A t (fun v s' => ∃ F' x st', Post C F st s F' st' s' ∧ Rel F' x v ∧ Q x st') E s

abbrev F0 : Fz := fun _ => none
theorem F0.le (F : Fz) : F0.Le F := fun _ _ e => nomatch e
abbrev RB : Fz → Bool → Bool → Prop := fun _ x v => x = v
abbrev RU : Fz → Unit → Unit → Prop := fun _ _ _ => True
inductive Fl where
  | next | brk | cont | ret (v : V)
inductive RF (F : Fz) : Fl → Flow → Prop
  | next : RF F .next .next
  | brk : RF F .brk .brk
  | cont : RF F .cont .cont
  | ret {x : V} {v : Value} : R F x v → RF F (.ret x) (.ret v)
abbrev Ev (C : Cx) (e : Expr) (T : (V → S → Prop) → S → Prop) : Prop := Imp C F0 R (eval e C.env) T
abbrev EvT (C : Cx) (e : Expr) (T : (Bool → S → Prop) → S → Prop) : Prop := Imp C F0 RB (isTrue e C.env (eval e C.env)) T
abbrev Ex (C : Cx) (e : Stmt) (T : (Fl → S → Prop) → S → Prop) : Prop := Imp C F0 RF (exec e C.env) T
abbrev Exs (C : Cx) (e : List Stmt) (T : (Fl → S → Prop) → S → Prop) : Prop := Imp C F0 RF (execs e C.env) T

/-- one step and then another, at the level of wp -/
theorem Imp.then {X α : Type} {C : Cx} {F₀ : Fz} {Rel : Fz → X → α → Prop} {t : Sem α} {T : (X → S → Prop) → S → Prop} (h : Imp C F₀ Rel t T)
    {E : Value → Shared → Prop} {Q : X → S → Prop} {st : S} {F : Fz} {s : Shared} (hF : F₀.Le F) (k : Sim C F st s.heap) (hT : T Q st) {Z : α → Shared → Prop}
    (next : ∀ F' x st' v s', Post C F st s F' st' s' → Rel F' x v → Q x st' → Z v s') : wpAny C.W.M C.A t Z E s :=
  wpAny_mono (h E Q st F s hF k hT) (fun _ _ ⟨F', x, st', p, r, q⟩ => next F' x st' _ _ p r q) fun _ _ e => e

end Mine

namespace Mine
open PySem PySem.W PyProof.Rows PySem.Calls

variable {C : Cx}

/-! ### ways to go on -/
/-- tokens alone have gone on -/
theorem Sim.toks {C : Cx} {F : Fz} {st : S} {s : Shared} (k : Sim C F st s.heap) (n : Nat) : Post C F st s F st { s with toks := n } :=
  ⟨{ (PostG.refl (own := C.own) k.g) with same := ⟨_, _, rfl⟩ }, k⟩

/-! ### names -/
abbrev locW (i : Nat) (Q : V → S → Prop) (st : S) : Prop := ∃ v, st.ρ i = some v ∧ Q v st

theorem ev_local {x : Str} {pos : Pos} {i : Nat} (hp : C.pl[i]? = some (.d C.env.locals x)) (hl : C.env.kindOf x = some .local) (hd : (x == ("__debug__" : Str)) = false) : Ev C (.Name x pos) (locW i) := by
  intro E Q st F s _ k ⟨v, hv, q⟩
  obtain ⟨m, n, r⟩ := k.loc i _ hp
  obtain ⟨u, hu, hr⟩ := r v hv
  exact wpAny_Name (wpAny_loadName_local k.fn hl n hu ⟨F, v, st, .refl k, hr, q⟩) hd
theorem ev_cell {x : Str} {pos : Pos} {i : Nat} {c : Addr} (hc : C.env.cells.lookup x = some c) (hp : C.pl[i]? = some (.c c)) (hl : C.env.kindOf x = some .cell) (hd : (x == ("__debug__" : Str)) = false) : Ev C (.Name x pos) (locW i) := by
  intro E Q st F s _ k ⟨v, hv, q⟩
  obtain ⟨u, n, r⟩ := k.loc i _ hp
  obtain ⟨u', rfl, hr⟩ := r v hv
  exact wpAny_Name (wpAny_loadName_cell k.fn hl hc n ⟨F, v, st, .refl k, hr, q⟩) hd
/-- a name of the text's top, or of the builtins -/
def GlobIs (h : Heap) (x : Str) (v : Value) : Prop := ∃ mg mb, h.Ns mainGlobals mg ∧ h.Ns builtinsNs mb ∧ (mg x = some v ∨ (mg x = none ∧ mb x = some v))
theorem SimG.up {W : Wd} {F : Fz} {σ : St} {h : Heap} (g : SimG W F σ h) : ∀ b o, W.h₀.get? b = some o → h.get? b = some o := fun b o e => g.fz b o (g.base b o e)
theorem wpAny_loadGlobal {M : Model} {A : Around} {E : Value → Shared → Prop} {s : Shared} {env : Env} {x : Str} {v : Value} {Q : Value → Shared → Prop} (hg : GlobIs s.heap x v) (eg : env.globals = mainGlobals) (eb : env.builtins = builtinsNs) (h : Q v s) : wpAny M A (loadGlobal env x) Q E s := by
  obtain ⟨mg, mb, n, nb, e⟩ := hg
  unfold loadGlobal
  refine wpAny_bind ?_
  rw [eg]
  refine wpAny_nsGet n ?_
  rcases e with e | ⟨e, e'⟩
  · rw [e]; exact wpAny_pure h
  · rw [e]
    refine wpAny_bind ?_
    rw [eb]
    refine wpAny_nsGet nb ?_
    rw [e']
    exact wpAny_pure h
theorem ev_global {x : Str} {pos : Pos} {v : Value} {y : V} (hy : R F0 y v) (hg : GlobIs C.W.h₀ x v) (eg : C.env.globals = mainGlobals) (eb : C.env.builtins = builtinsNs) (hl : C.env.kindOf x = some .globalImplicit) (hd : (x == ("__debug__" : Str)) = false) :
    Ev C (.Name x pos) (fun Q st => Q y st) := by
  intro E Q st F s _ k q
  refine Name_function_global k.fn hl (wpAny_loadGlobal (v := v) ?_ eg eb ⟨F, y, st, .refl k, hy.mono (F0.le F), q⟩) hd
  obtain ⟨mg, mb, a, b, e⟩ := hg
  exact ⟨mg, mb, a.keeps k.g.up, b.keeps k.g.up, e⟩

/-! ### constants -/
theorem ev_int {i : Int} {k : _} {pos : Pos} : Ev C (.Constant (.int i) k pos) (fun Q st => Q (.int i) st) := fun _ _ st F _ _ k h =>
  wpAny_mkInt ⟨F, .int i, st, k.toks _, .int _ _, h⟩
theorem ev_bool {i : Bool} {k : _} {pos : Pos} : Ev C (.Constant (.bool i) k pos) (fun Q st => Q (.bool i) st) := fun _ _ st F _ _ k h =>
  wpAny_pure ⟨F, .bool i, st, .refl k, .bool _, h⟩
theorem ev_none {k : _} {pos : Pos} : Ev C (.Constant .none k pos) (fun Q st => Q .none st) := fun _ _ st F _ _ k h =>
  wpAny_pure ⟨F, .none, st, .refl k, .none, h⟩
theorem ev_bytes {b : List UInt8} {xs : List Int} {k : _} {pos : Pos} (hb : b.map (fun c => (c.toNat : Int)) = xs) : Ev C (.Constant (.bytes b) k pos) (fun Q st => Q (.bytes xs) st) := fun _ _ st F _ _ k h =>
  wpAny_mkTextBytes ⟨F, .bytes xs, st, k.toks _, .bytes _ (by simpa [BytesAre] using hb), h⟩

/-! ### composite expressions -/
theorem ev_bin {l r : Expr} {op : Operator} {pos : Pos} {T₁ T₂ : (V → S → Prop) → S → Prop} {B : V → V → (V → S → Prop) → S → Prop} (h₁ : Ev C l T₁) (h₂ : Ev C r T₂)
    (h : ∀ F x y a b, R F x a → R F y b → Imp C F R (binaryOp op a b) (B x y)) : Ev C (.BinOp l op r pos) (fun Q => T₁ fun x => T₂ fun y => B x y Q) := by
  intro E Q st F s hF k q
  refine wpAny_BinOp (h₁.then hF k q fun F₁ x st₁ a s₁ p₁ ra q₁ => h₂.then (F0.le _) p₁.sim q₁ fun F₂ y st₂ b s₂ p₂ rb q₂ => ?_)
  exact (h F₂ x y a b (ra.mono p₂.ext) rb).then (.refl _) p₂.sim q₂ fun F₃ z st₃ v s₃ p₃ rz q₃ => ⟨F₃, z, st₃, p₁.trans (p₂.trans p₃), rz, q₃⟩
theorem ev_un {x : Expr} {op : UnaryOp} {pos : Pos} {T : (V → S → Prop) → S → Prop} {B : V → (V → S → Prop) → S → Prop} (h₁ : Ev C x T)
    (h : ∀ F x a, R F x a → Imp C F R (unaryOp op a) (B x)) : Ev C (.UnaryOp op x pos) (fun Q => T fun x => B x Q) := by
  intro E Q st F s hF k q
  refine wpAny_UnaryOp (h₁.then hF k q fun F₁ x st₁ a s₁ p₁ ra q₁ => ?_)
  exact (h F₁ x a ra).then (.refl _) p₁.sim q₁ fun F₃ z st₃ v s₃ p₃ rz q₃ => ⟨F₃, z, st₃, p₁.trans p₃, rz, q₃⟩
theorem ev_cmp {l r : Expr} {op : CmpOp} {pos : Pos} {T₁ T₂ : (V → S → Prop) → S → Prop} {B : V → V → (Bool → S → Prop) → S → Prop} (h₁ : Ev C l T₁) (h₂ : Ev C r T₂)
    (h : ∀ F x y a b, R F x a → R F y b → Imp C F (fun _ z v => v = Value.bool z) (compareOp op a b) (B x y)) (hm : behindInMarks op r = false) : Ev C (.Compare l [op] [r] pos) (fun Q => T₁ fun x => T₂ fun y => B x y fun b => Q (.bool b)) := by
  intro E Q st F s hF k q
  refine wpAny_Compare1 (h₁.then hF k q fun F₁ x st₁ a s₁ p₁ ra q₁ => h₂.then (F0.le _) p₁.sim q₁ fun F₂ y st₂ b s₂ p₂ rb q₂ => ?_) hm
  exact (h F₂ x y a b (ra.mono p₂.ext) rb).then (.refl _) p₂.sim q₂ fun F₃ z st₃ v s₃ p₃ rz q₃ => ⟨F₃, .bool z, st₃, p₁.trans (p₂.trans p₃), by rw [rz]; exact .bool _, q₃⟩
theorem evT_cmp {l r : Expr} {op : CmpOp} {pos : Pos} {T₁ T₂ : (V → S → Prop) → S → Prop} {B : V → V → (Bool → S → Prop) → S → Prop} (h₁ : Ev C l T₁) (h₂ : Ev C r T₂)
    (h : ∀ F x y a b, R F x a → R F y b → Imp C F (fun _ z v => v = Value.bool z) (compareOp op a b) (B x y)) (hm : behindInMarks op r = false) : EvT C (.Compare l [op] [r] pos) (fun Q => T₁ fun x => T₂ fun y => B x y Q) := by
  intro E Q st F s hF k q
  refine wpAny_isTrue_Compare1 (h₁.then hF k q fun F₁ x st₁ a s₁ p₁ ra q₁ => h₂.then (F0.le _) p₁.sim q₁ fun F₂ y st₂ b s₂ p₂ rb q₂ => ?_) hm
  exact (h F₂ x y a b (ra.mono p₂.ext) rb).then (.refl _) p₂.sim q₂ fun F₃ z st₃ v s₃ p₃ rz q₃ => by
    rw [rz]; exact wpAny_truthy_bool ⟨F₃, z, st₃, p₁.trans (p₂.trans p₃), rfl, q₃⟩
/-- two links in a chain: a op b op' c -/
theorem evT_cmp2 {l m r : Expr} {op op' : CmpOp} {pos : Pos} {T₁ T₂ T₃ : (V → S → Prop) → S → Prop} {B B' : V → V → (Bool → S → Prop) → S → Prop} (h₁ : Ev C l T₁) (h₂ : Ev C m T₂) (h₃ : Ev C r T₃)
    (h : ∀ F x y a b, R F x a → R F y b → Imp C F (fun _ z v => v = Value.bool z) (compareOp op a b) (B x y)) (h' : ∀ F x y a b, R F x a → R F y b → Imp C F (fun _ z v => v = Value.bool z) (compareOp op' a b) (B' x y)) (hm : behindInMarks op' r = false) :
    EvT C (.Compare l [op, op'] [m, r] pos) (fun Q => T₁ fun x => T₂ fun y => B x y fun z => if z then T₃ fun u => B' y u Q else Q false) := by
  intro E Q st F s hF k q
  show wpAny _ _ (isTrue (.Compare l [op, op'] [m, r] pos) C.env _) _ _ _
  unfold PySem.isTrue
  refine wpAny_bind (h₁.then hF k q fun F₁ x st₁ a s₁ p₁ ra q₁ => ?_)
  simp only [evalEach, markedEach, markedBehindIn, hm, testChain]
  refine wpAny_bind (wpAny_holding (h₂.then (F0.le _) p₁.sim q₁ fun F₂ y st₂ b s₂ p₂ rb q₂ => wpAny_bind (wpAny_standAt (wpAny_bind (wpAny_holding ?_)))))
  refine (h F₂ x y a b (ra.mono p₂.ext) rb).then (.refl _) p₂.sim q₂ fun F₃ z st₃ v s₃ p₃ rz q₃ => ?_
  rw [rz]
  refine wpAny_bind (wpAny_release (wpAny_bind (wpAny_holding (wpAny_truthy_bool ?_))))
  cases z with
  | false => exact wpAny_pure ⟨F₃, false, st₃, p₁.trans (p₂.trans p₃), rfl, q₃⟩
  | true =>
    refine wpAny_bind (wpAny_holding (h₃.then (F0.le _) p₃.sim q₃ fun F₄ u st₄ c s₄ p₄ rc q₄ => wpAny_bind (wpAny_standAt (wpAny_bind (wpAny_operate' ?_)))))
    refine (h' F₄ y u b c (rb.mono (p₃.ext.trans p₄.ext)) rc).then (.refl _) p₄.sim q₄ fun F₅ z st₅ v s₅ p₅ rz q₅ => ?_
    rw [rz]
    exact wpAny_holding (wpAny_truthy_bool ⟨F₅, z, st₅, p₁.trans (p₂.trans (p₃.trans (p₄.trans p₅))), rfl, q₅⟩)
theorem evT_not {x : Expr} {pos : Pos} {T : (Bool → S → Prop) → S → Prop} (h : EvT C x T) : EvT C (.UnaryOp .Not x pos) (fun Q => T fun b => Q (!b)) := by
  intro E Q st F s hF k q
  exact wpAny_isTrue_Not (h.then hF k q fun F₁ x st₁ a s₁ p₁ ra q₁ => ⟨F₁, !x, st₁, p₁, by rw [ra], q₁⟩)
theorem evT_and {x y : Expr} {pos : Pos} {T₁ T₂ : (Bool → S → Prop) → S → Prop} (h₁ : EvT C x T₁) (h₂ : EvT C y T₂) : EvT C (.BoolOp .And [x, y] pos) (fun Q => T₁ fun b => if b then T₂ Q else Q false) := by
  intro E Q st F s hF k q
  refine wpAny_isTrue_BoolOp (wpAny_allTrue_And_cons (h₁.then hF k q fun F₁ b st₁ a s₁ p₁ ra q₁ => ?_))
  subst ra
  cases b with
  | false => exact ⟨F₁, false, st₁, p₁, rfl, q₁⟩
  | true => exact wpAny_allTrue_And_cons (h₂.then (F0.le _) p₁.sim q₁ fun F₂ b st₂ a s₂ p₂ ra q₂ => by
      subst ra
      cases b with
      | false => exact ⟨F₂, false, st₂, p₁.trans p₂, rfl, q₂⟩
      | true => exact wpAny_allTrue_And_nil ⟨F₂, true, st₂, p₁.trans p₂, rfl, q₂⟩)
theorem evT_or {x y : Expr} {pos : Pos} {T₁ T₂ : (Bool → S → Prop) → S → Prop} (h₁ : EvT C x T₁) (h₂ : EvT C y T₂) : EvT C (.BoolOp .Or [x, y] pos) (fun Q => T₁ fun b => if b then Q true else T₂ Q) := by
  intro E Q st F s hF k q
  refine wpAny_isTrue_BoolOp (wpAny_allTrue_Or_cons (h₁.then hF k q fun F₁ b st₁ a s₁ p₁ ra q₁ => ?_))
  subst ra
  cases b with
  | true => exact ⟨F₁, true, st₁, p₁, rfl, q₁⟩
  | false => exact wpAny_allTrue_Or_cons (h₂.then (F0.le _) p₁.sim q₁ fun F₂ b st₂ a s₂ p₂ ra q₂ => by
      subst ra
      cases b with
      | true => exact ⟨F₂, true, st₂, p₁.trans p₂, rfl, q₂⟩
      | false => exact wpAny_allTrue_Or_nil ⟨F₂, false, st₂, p₁.trans p₂, rfl, q₂⟩)
theorem ev_ite {t b o : Expr} {pos : Pos} {T : (Bool → S → Prop) → S → Prop} {T₁ T₂ : (V → S → Prop) → S → Prop} (h : EvT C t T) (h₁ : Ev C b T₁) (h₂ : Ev C o T₂) : Ev C (.IfExp t b o pos) (fun Q => T fun z => if z then T₁ Q else T₂ Q) := by
  intro E Q st F s hF k q
  refine wpAny_IfExp (h.then hF k q fun F₁ z st₁ a s₁ p₁ ra q₁ => ?_)
  subst ra
  cases z with
  | true => exact h₁.then (F0.le _) p₁.sim q₁ fun F₂ y st₂ b s₂ p₂ rb q₂ => ⟨F₂, y, st₂, p₁.trans p₂, rb, q₂⟩
  | false => exact h₂.then (F0.le _) p₁.sim q₁ fun F₂ y st₂ b s₂ p₂ rb q₂ => ⟨F₂, y, st₂, p₁.trans p₂, rb, q₂⟩

/-! ### statements -/
theorem exs_nil : Exs C [] (fun Q st => Q .next st) := fun _ _ st F _ _ k q => wpAny_execs_nil ⟨F, .next, st, .refl k, .next, q⟩
abbrev seqW (T₁ T₂ : (Fl → S → Prop) → S → Prop) (Q : Fl → S → Prop) : S → Prop := T₁ fun f st => match f with | .next => T₂ Q st | f => Q f st
theorem exs_cons {st : Stmt} {r : List Stmt} {T₁ T₂ : (Fl → S → Prop) → S → Prop} (h₁ : Ex C st T₁) (h₂ : Exs C r T₂) : Exs C (st :: r) (seqW T₁ T₂) := by
  intro E Q st F s hF k q
  refine wpAny_execs_cons (h₁.then hF k q fun F₁ f st₁ a s₁ p₁ ra q₁ => ?_)
  cases ra with
  | next => exact h₂.then (F0.le _) p₁.sim q₁ fun F₂ y st₂ b s₂ p₂ rb q₂ => ⟨F₂, y, st₂, p₁.trans p₂, rb, q₂⟩
  | brk => exact ⟨F₁, _, st₁, p₁, .brk, q₁⟩
  | cont => exact ⟨F₁, _, st₁, p₁, .cont, q₁⟩
  | ret r => exact ⟨F₁, _, st₁, p₁, .ret r, q₁⟩
theorem ex_if {t : Expr} {b o : List Stmt} {pos : Pos} {T : (Bool → S → Prop) → S → Prop} {T₁ T₂ : (Fl → S → Prop) → S → Prop} (h : EvT C t T) (h₁ : Exs C b T₁) (h₂ : Exs C o T₂) : Ex C (.If t b o pos) (fun Q => T fun z => if z then T₁ Q else T₂ Q) := by
  intro E Q st F s hF k q
  refine wpAny_If (h.then hF k q fun F₁ z st₁ a s₁ p₁ ra q₁ => ?_)
  subst ra
  cases z with
  | true => exact h₁.then (F0.le _) p₁.sim q₁ fun F₂ y st₂ b s₂ p₂ rb q₂ => ⟨F₂, y, st₂, p₁.trans p₂, rb, q₂⟩
  | false => exact h₂.then (F0.le _) p₁.sim q₁ fun F₂ y st₂ b s₂ p₂ rb q₂ => ⟨F₂, y, st₂, p₁.trans p₂, rb, q₂⟩
theorem ex_ret {e : Expr} {pos : Pos} {T : (V → S → Prop) → S → Prop} (h : Ev C e T) : Ex C (.Return (some e) pos) (fun Q => T fun v => Q (.ret v)) := by
  intro E Q st F s hF k q
  exact wpAny_Return_some (h.then hF k q fun F₁ z st₁ a s₁ p₁ ra q₁ => ⟨F₁, .ret z, st₁, p₁, .ret ra, q₁⟩)
theorem ex_break {pos : Pos} : Ex C (.Break pos) (fun Q st => Q .brk st) := fun _ _ st F _ _ k q => wpAny_Break ⟨F, .brk, st, .refl k, .brk, q⟩
theorem ex_continue {pos : Pos} : Ex C (.Continue pos) (fun Q st => Q .cont st) := fun _ _ st F _ _ k q => wpAny_Continue ⟨F, .cont, st, .refl k, .cont, q⟩
theorem ex_expr {e : Expr} {pos : Pos} {T : (V → S → Prop) → S → Prop} (h : Ev C e T) (hi : interactive C.env = false := by rfl) (hs : swapsWith e none pos.line C.env = pure false := by rfl) : Ex C (.Expr e pos) (fun Q => T fun _ => Q .next) := by
  intro E Q st F s hF k q
  exact wpAny_Expr_any (h.then hF k q fun F₁ z st₁ a s₁ p₁ ra q₁ => ⟨F₁, .next, st₁, p₁, .next, q₁⟩) hi hs

end Mine

namespace Mine
open PySem PySem.W PyProof.Rows PySem.Calls

variable {C : Cx}

/-! ### names stored -/
theorem Ns.uniq {h : Heap} {L : Addr} {m m' : Str → Option Value} (a : h.Ns L m) (b : h.Ns L m') : m = m' := by
  obtain ⟨o, es, ep, e, d, _, f⟩ := a
  obtain ⟨o', es', ep', e', d', _, f'⟩ := b
  rw [e] at e'; cases e'
  rw [d] at d'; cases d'
  funext x
  rw [← f x, ← f' x]
theorem Ns.notCell {h : Heap} {L : Addr} {m : Str → Option Value} {u : Option Value} (a : h.Ns L m) (b : h.IsCell L u) : False := by
  obtain ⟨o, es, ep, e, d, _, f⟩ := a
  obtain ⟨o', e', d'⟩ := b
  rw [e] at e'; cases e'
  rw [d] at d'; cases d'
theorem nodup_at {α : Type} {l : List α} (h : l.Nodup) {i j : Nat} {x : α} (hi : l[i]? = some x) (hj : l[j]? = some x) : i = j := by
  obtain ⟨li, ei⟩ := List.getElem?_eq_some_iff.mp hi
  obtain ⟨lj, ej⟩ := List.getElem?_eq_some_iff.mp hj
  rcases Nat.lt_trichotomy i j with z | z | z
  · exact absurd (ei.trans ej.symm) (List.pairwise_iff_getElem.mp h i j li lj z)
  · exact z
  · exact absurd (ej.trans ei.symm) (List.pairwise_iff_getElem.mp h j i lj li z)

theorem Sim.storeD {F : Fz} {st : S} {s : Shared} (k : Sim C F st s.heap) {i : Nat} {L : Addr} {x : Str} {v : V} {a : Value} (hp : C.pl[i]? = some (.d L x)) (r : R F v a) {m : Str → Option Value} {h' : Heap} {tk : Nat}
    (hn : s.heap.Ns L m) (hn' : h'.Ns L (fun y => if y = x then some a else m y)) (hs : Heap.SameBut L s.heap h') : Post C F st s F (st.set i v) { s with heap := h', toks := tk } := by
  have hm := List.mem_of_getElem? hp
  have o := k.own _ hm
  have hk : ∀ b ob, b ∉ [L] → s.heap.get? b = some ob → h'.get? b = some ob := fun b ob hb e => (hs.2 b (by simpa using hb)).trans e
  have hx : ∀ b ∈ [L], F b = none ∧ st.σ b = none := fun b hb => by rw [List.mem_singleton.mp hb]; exact o
  refine ⟨.heap k.g [L] hk hx fun b hb => .inl (by rw [List.mem_singleton.mp hb]; exact List.mem_map_of_mem hm), k.g.heap [L] hk hx, fun j q e => ?_, k.own, k.ok, k.fn, k.nodup⟩
  show q.Ok F h' (if j = i then some v else st.ρ j)
  by_cases hj : j = i
  · subst hj
    rw [hp] at e; cases e
    rw [if_pos rfl]
    exact ⟨_, hn', fun w e => ⟨a, if_pos rfl, by cases e; exact r⟩⟩
  · rw [if_neg hj]
    have z := k.loc j q e
    cases q with
    | c b =>
      obtain ⟨u, hc, hr⟩ := z
      have hb : b ≠ L := fun e => Ns.notCell hn (e ▸ hc)
      exact ⟨u, hc.sameBut hs hb, hr⟩
    | d L' y =>
      by_cases hL : L' = L
      · subst hL
        obtain ⟨m', hn₂, hr⟩ := z
        have := Ns.uniq hn hn₂
        subst this
        have hy : y ≠ x := fun e' => hj (nodup_at k.nodup e (e' ▸ hp))
        exact ⟨_, hn', fun w e => let ⟨u, hu, hr⟩ := hr w e; ⟨u, by rw [if_neg hy]; exact hu, hr⟩⟩
      · exact z.mono (.refl _) fun ob e => (hs.2 _ hL).trans e
theorem Sim.storeC {F : Fz} {st : S} {s : Shared} (k : Sim C F st s.heap) {i : Nat} {c : Addr} {v : V} {a : Value} (hp : C.pl[i]? = some (.c c)) (r : R F v a) {u₀ : Option Value} {h' : Heap} {tk : Nat}
    (hn : s.heap.IsCell c u₀) (hn' : h'.IsCell c (some a)) (hs : Heap.SameBut c s.heap h') : Post C F st s F (st.set i v) { s with heap := h', toks := tk } := by
  have hm := List.mem_of_getElem? hp
  have o := k.own _ hm
  have hk : ∀ b ob, b ∉ [c] → s.heap.get? b = some ob → h'.get? b = some ob := fun b ob hb e => (hs.2 b (by simpa using hb)).trans e
  have hx : ∀ b ∈ [c], F b = none ∧ st.σ b = none := fun b hb => by rw [List.mem_singleton.mp hb]; exact o
  refine ⟨.heap k.g [c] hk hx fun b hb => .inl (by rw [List.mem_singleton.mp hb]; exact List.mem_map_of_mem hm), k.g.heap [c] hk hx, fun j q e => ?_, k.own, k.ok, k.fn, k.nodup⟩
  show q.Ok F h' (if j = i then some v else st.ρ j)
  by_cases hj : j = i
  · subst hj
    rw [hp] at e; cases e
    rw [if_pos rfl]
    exact ⟨_, hn', fun w e => ⟨a, rfl, by cases e; exact r⟩⟩
  · rw [if_neg hj]
    have z := k.loc j q e
    have hq : q.addr ≠ c := by
      cases q with
      | c b => exact fun e' => hj (nodup_at k.nodup e (by rw [show Pl.c b = Pl.c c from congrArg Pl.c e']; exact hp))
      | d L' y => intro e'; obtain ⟨m, hm, _⟩ := z; exact Ns.notCell hm ((show L' = c from e') ▸ hn)
    exact z.mono (.refl _) fun ob e => (hs.2 _ hq).trans e

/-- a target takes a value -/
abbrev AT := V → (S → Prop) → S → Prop
def Asg (C : Cx) (t : Expr) (T : AT) : Prop := ∀ F x v, R F x v → Imp C F RU (assign t C.env v) (fun Q => T x (Q ()))
abbrev setW (i : Nat) : AT := fun x K st => K (st.set i x)
theorem asg_local {x : Str} {pos : Pos} {i : Nat} (hp : C.pl[i]? = some (.d C.env.locals x)) (hl : C.env.kindOf x = some .local) : Asg C (.Name x pos) (setW i) := by
  intro F₀ y v r E Q st F s hF k q
  obtain ⟨m, n, _⟩ := k.loc i _ hp
  exact wpAny_assign_Name (wpAny_storeName_local hl n (fun h' hn hs => ⟨F, (), _, k.storeD hp (r.mono hF) n hn hs, trivial, q⟩) (by rw [k.fn]; rfl))
theorem asg_cell {x : Str} {pos : Pos} {i : Nat} {c : Addr} (hc : C.env.cells.lookup x = some c) (hp : C.pl[i]? = some (.c c)) (hl : C.env.kindOf x = some .cell) : Asg C (.Name x pos) (setW i) := by
  intro F₀ y v r E Q st F s hF k q
  obtain ⟨u, n, _⟩ := k.loc i _ hp
  exact wpAny_assign_Name (wpAny_storeName_cell k.fn hl hc n (fun h' hn hs => ⟨F, (), _, k.storeC (tk := s.toks) hp (r.mono hF) n hn hs, trivial, q⟩))

/-- names in a row -/
inductive AsgAll (C : Cx) : List Expr → List AT → Prop
  | nil : AsgAll C [] []
  | cons {e : Expr} {es : List Expr} {T : AT} {Ts : List AT} : isStarred e = false → Asg C e T → AsgAll C es Ts → AsgAll C (e :: es) (T :: Ts)
abbrev allW : List AT → List V → (S → Prop) → S → Prop
  | [], [], K, st => K st
  | T :: Ts, x :: xs, K, st => T x (allW Ts xs K) st
  | _, _, _, _ => False
theorem assignEach_cons {e : Expr} {es : List Expr} {env : Env} (h : isStarred e = false) : assignEach (e :: es) env = (false, assign e env) :: assignEach es env := by
  cases e <;> first | rfl | exact absurd (show true = false from h) Bool.noConfusion
theorem AsgAll.len {es : List Expr} {Ts : List AT} (h : AsgAll C es Ts) : (assignEach es C.env).length = Ts.length ∧ (assignEach es C.env).findIdx? (·.1) = none := by
  induction h with
  | nil => exact ⟨rfl, rfl⟩
  | cons hs _ _ ih => rw [assignEach_cons hs]; simp [ih.1, ih.2, List.findIdx?_cons]
theorem AsgAll.run {es : List Expr} {Ts : List AT} (h : AsgAll C es Ts) : ∀ {F : Fz} {xs : List V} {vs : List Value}, RAll F xs vs → Imp C F RU (assignInOrder ((assignEach es C.env).map (·.2)) vs) (fun Q => allW Ts xs (Q ())) := by
  induction h with
  | nil =>
    intro F₀ xs vs r E Q st F s hF k q
    cases r with
    | nil => exact wpAny_assignInOrder_none ⟨F, (), st, .refl k, trivial, q⟩
    | cons _ _ => exact q.elim
  | @cons e es T Ts hs ha _ ih =>
    intro F₀ xs vs r E Q st F s hF k q
    cases r with
    | nil => exact q.elim
    | @cons x v xs vs r rs =>
      rw [assignEach_cons hs]
      refine wpAny_assignInOrder_more ((ha F₀ x v r).then (Q := fun _ => allW Ts xs (Q ())) hF k q fun F₁ _ st₁ _ s₁ p₁ _ q₁ => ?_)
      exact (ih rs).then (hF.trans p₁.ext) p₁.sim q₁ fun F₂ _ st₂ _ s₂ p₂ _ q₂ => ⟨F₂, (), st₂, p₁.trans p₂, trivial, q₂⟩
abbrev tupW (Ts : List AT) : AT := fun x K st => ∃ xs, x = .tuple xs ∧ xs.length = Ts.length ∧ allW Ts xs K st
theorem IsTuple.of {h : Heap} {a : Addr} {vs : List Value} {n : Nat} (e : h.get? a = some (tupOf vs n)) : h.IsTuple a vs.toArray := ⟨_, e, rfl, n, rfl⟩
theorem asg_tuple {es : List Expr} {n : _} {pos : Pos} {Ts : List AT} (h : AsgAll C es Ts) : Asg C (.Tuple es n pos) (tupW Ts) := by
  rintro F₀ y v r E Q st F s hF k ⟨xs, rfl, hlen, q⟩
  cases r with
  | @tuple a vs n _ e rs =>
    have hl := h.len
    refine wpAny_assign_Tuple k.ok.handled (IsTuple.of (k.g.fz _ _ (hF _ _ e))) (by rw [hl.1, ← hlen, rs.length]; simp) hl.2 fun h' he => ?_
    have p₁ : Post C F st s F st { s with heap := h' } := k.grown (tk := s.toks) fun b o eb => he b o (Nat.ne_of_lt (Heap.lt_size eb)) eb
    exact (h.run rs).then (hF.trans p₁.ext) p₁.sim q fun F₂ _ st₂ _ s₂ p₂ _ q₂ => ⟨F₂, (), st₂, p₁.trans p₂, trivial, q₂⟩

/-! ### assignments -/
theorem ex_assign {t v : Expr} {pos : Pos} {T : (V → S → Prop) → S → Prop} {Ta : AT} (h : Ev C v T) (ha : Asg C t Ta) (hst : isStarred t = false := by rfl) (hs : swapsWithSole [t] v pos.line C.env = pure false := by rfl) (hw : swappedStores [t] v C.env = pure none := by rfl) :
    Ex C (.Assign [t] v pos) (fun Q => T fun x => Ta x (Q .next)) := by
  intro E Q st F s hF k q
  refine wpAny_Assign_stores (h.then hF k q fun F₁ x st₁ a s₁ p₁ ra q₁ => ?_) hs hw
  rw [assignEach_cons hst]
  exact (ha F₁ x a ra).then (Q := fun _ => Q .next) (.refl _) p₁.sim q₁ fun F₂ _ st₂ _ s₂ p₂ _ q₂ => ⟨F₂, .next, st₂, p₁.trans p₂, .next, q₂⟩

/-! ### while -/
def whileN (T : (Bool → S → Prop) → S → Prop) (B : (Fl → S → Prop) → S → Prop) (Q : Fl → S → Prop) : Nat → S → Prop
  | 0, _ => False
  | n + 1, st => T (fun b st₁ => if b then B (fun f st₂ => match f with | .next => whileN T B Q n st₂ | .cont => whileN T B Q n st₂ | .brk => Q .next st₂ | .ret v => Q (.ret v) st₂) st₁ else Q .next st₁) st
abbrev whileW (T : (Bool → S → Prop) → S → Prop) (B : (Fl → S → Prop) → S → Prop) (Q : Fl → S → Prop) (st : S) : Prop := ∃ n, whileN T B Q n st
theorem ex_while {t : Expr} {b : List Stmt} {pos : Pos} {T : (Bool → S → Prop) → S → Prop} {B : (Fl → S → Prop) → S → Prop} (ht : EvT C t T) (hb : Exs C b B) : Ex C (.While t b [] pos) (whileW T B) := by
  rintro E Q st F s hF k ⟨n, q⟩
  refine wpAny_While (codeAny_whileLoop (fun n s' => ∃ F' st', Post C F st s F' st' s' ∧ whileN T B Q n st') ?_ n ⟨F, st, .refl k, q⟩)
  rintro n s₁ ⟨F₁, st₁, p₁, q₁⟩
  cases n with
  | zero => exact q₁.elim
  | succ n =>
    refine ht.then (F0.le _) p₁.sim q₁ fun F₂ z st₂ a s₂ p₂ ra q₂ => ?_
    subst ra
    cases z with
    | false => exact wpAny_execs_nil ⟨F₂, .next, st₂, p₁.trans p₂, .next, q₂⟩
    | true =>
      refine hb.then (F0.le _) p₂.sim q₂ fun F₃ f st₃ a s₃ p₃ rf q₃ => ?_
      have p := p₁.trans (p₂.trans p₃)
      cases rf with
      | next => exact ⟨n, Nat.lt_succ_self _, F₃, st₃, p, q₃⟩
      | cont => exact ⟨n, Nat.lt_succ_self _, F₃, st₃, p, q₃⟩
      | brk => exact ⟨F₃, .next, st₃, p, .next, q₃⟩
      | ret r => exact ⟨F₃, _, st₃, p, .ret r, q₃⟩

/-! ### what may be gone through -/
def itemsOf : V → Option (List V)
  | .tuple xs => some xs
  | .list xs => some xs
  | .bytes xs => some (xs.map .int)
  | .range a b c => if Builtin.Range.small a b c = true then some ((List.range (Builtin.Range.rangeSize a b c).toNat).map fun (i : Nat) => V.int (a + (i : Int) * c)) else none
  | _ => none

/-- an iterator that is at hand, and what it will still give -/
structure Gives (C : Cx) (F : Fz) (I : Addr) (xs : List V) (h : Heap) (fp : List Addr) (P : Nat → Value → Prop) (Sx : Nat → Heap → Prop) : Prop where
  walks : Walks C.W.prog C.W.w C.A I fp [I] xs.length P Sx
  item : ∀ i v, P i v → ∃ x, xs[i]? = some x ∧ R F x v
  start : Sx 0 h
  foot : ∀ b ∈ fp, b = I ∨ ∃ o, F b = some o
  there : ∀ i h, Sx i h → ∃ o, h.get? I = some o
  quiet : ∀ t s (Q : Unit → Shared → Prop) (E : Value → Shared → Prop) i v, Sx i s.heap → Q () s → wpAny C.W.M C.A (letOwnedTupleGo t (.ref I) v) Q E s

theorem lot_quiet {M : Model} {A : Around} {I : Addr} {o : Obj} {n : String} {vs : Array Value} {t : Expr} {v : Value} {s : Shared} {Q : Unit → Shared → Prop} {E : Value → Shared → Prop} (ho : s.heap.get? I = some o) (hc : o.cls = .type n) (hd : o.data = .fields vs)
    (hn : (["enumerate", "zip", "dict_itemiterator", "dict_reverseitemiterator", "odict_iterator", "itertools.zip_longest", "itertools.pairwise"].contains n) = false) (h : Q () s) : wpAny M A (letOwnedTupleGo t (.ref I) v) Q E s := by
  unfold letOwnedTupleGo
  split
  · cases v <;> first
      | exact wpAny_pure h
      | (refine wpAny_bind (wpAny_load ho ?_); rw [hc, hd]; simp only [hn, Bool.false_and]; exact wpAny_pure h)
  · cases v <;> first
      | exact wpAny_pure h
      | (refine wpAny_bind (wpAny_load ho ?_); rw [hc, hd]; simp only [hn, Bool.false_and]; exact wpAny_pure h)
  · exact wpAny_pure h
end Mine

namespace Mine
open PySem PySem.W PyProof.Rows PySem.Calls

variable {C : Cx}

/-- a loop is under way: hidden objects of its own (its iterator, a list that grows) -/
structure LoopAt (C : Cx) (hid : List Addr) (F₀ : Fz) (σ₀ : St) (s₀ : Shared) (F : Fz) (st : S) (s : Shared) : Prop where
  p : PostG (hid ++ C.own) C.W F₀ σ₀ s₀ F st.σ s
  sim : Sim C F st s.heap
  off : ∀ b ∈ hid, F b = none ∧ st.σ b = none ∧ b ∉ C.own ∧ ∃ o, s.heap.get? b = some o

theorem LoopAt.step {hid : List Addr} {F₀ : Fz} {σ₀ : St} {s₀ : Shared} {F F' : Fz} {st st' : S} {s s' : Shared} (l : LoopAt C hid F₀ σ₀ s₀ F st s) (q : Post C F st s F' st' s') : LoopAt C hid F₀ σ₀ s₀ F' st' s' := by
  have z : ∀ b, s.heap.get? b = none ∧ b ∉ C.own → s.heap.get? b = none ∧ b ∉ hid ++ C.own := fun b h => ⟨h.1, fun m => by
    rcases List.mem_append.mp m with m | m
    · obtain ⟨o, e⟩ := (l.off b m).2.2.2; rw [e] at h; cases h.1
    · exact h.2 m⟩
  refine ⟨l.p.trans { q.p with keep := fun b o e hb ho => q.p.keep b o e hb fun m => ho (List.mem_append.mpr (.inr m)), freshS := fun b h => (q.p.freshS b h).imp_right (z b), freshF := fun b h => (q.p.freshF b h).imp_right fun y => y.imp_right (z b) }, q.sim, fun b hb => ?_⟩
  obtain ⟨h1, h2, h3, o, h4⟩ := l.off b hb
  refine ⟨?_, ?_, h3, o, q.p.keep b o h4 h2 h3⟩
  · cases e : F' b with
    | none => rfl
    | some y =>
      rcases q.p.freshF b (by rw [e]; simp) with y | y | y
      · exact absurd h1 y
      · exact absurd h2 y
      · rw [y.1] at h4; cases h4
  · cases e : st'.σ b with
    | none => rfl
    | some y =>
      rcases q.p.freshS b (by rw [e]; simp) with y | y
      · exact absurd h2 y
      · rw [y.1] at h4; cases h4
/-- the heap changes at a hidden object alone -/
theorem LoopAt.at {hid : List Addr} {F₀ : Fz} {σ₀ : St} {s₀ : Shared} {F : Fz} {st : S} {s : Shared} (l : LoopAt C hid F₀ σ₀ s₀ F st s) {h' : Heap} {tk : Nat} (ex : List Addr) (hx : ∀ b ∈ ex, b ∈ hid)
    (hk : ∀ b o, b ∉ ex → s.heap.get? b = some o → h'.get? b = some o) (ht : ∀ b ∈ ex, ∃ o, h'.get? b = some o) : LoopAt C hid F₀ σ₀ s₀ F st { s with heap := h', toks := tk } := by
  have h1 : ∀ b ∈ ex, F b = none ∧ st.σ b = none := fun b hb => let z := l.off b (hx b hb); ⟨z.1, z.2.1⟩
  refine ⟨l.p.trans (.heap l.sim.g ex hk h1 fun b hb => .inl (List.mem_append.mpr (.inl (hx b hb)))), l.sim.heap ex hk h1 fun b hb => (l.off b (hx b hb)).2.2.1, fun b hb => ?_⟩
  obtain ⟨a, b', c, o, e⟩ := l.off b hb
  refine ⟨a, b', c, ?_⟩
  by_cases m : b ∈ ex
  · exact ht b m
  · exact ⟨o, hk b o m e⟩
theorem strikeAll {own : List Addr} {W : Wd} {F F₁ : Fz} {σ σ₁ : St} {s s₁ : Shared} : ∀ {hid : List Addr}, PostG (hid ++ own) W F σ s F₁ σ₁ s₁ → (∀ b ∈ hid, s.heap.get? b = none) → PostG own W F σ s F₁ σ₁ s₁
  | [], p, _ => p
  | a :: _, p, h => strikeAll (PostG.strike p (h a (.head _))) fun b hb => h b (.tail _ hb)
/-- the loop is through -/
theorem LoopAt.out {hid : List Addr} {F₀ : Fz} {st₀ : S} {s₀ : Shared} {F : Fz} {st : S} {s : Shared} (l : LoopAt C hid F₀ st₀.σ s₀ F st s) (hn : ∀ b ∈ hid, s₀.heap.get? b = none) {h' : Heap} {tk : Nat}
    (hk : ∀ b o, b ∉ hid → s.heap.get? b = some o → h'.get? b = some o) : Post C F₀ st₀ s₀ F st { s with heap := h', toks := tk } := by
  have h1 : ∀ b ∈ hid, F b = none ∧ st.σ b = none := fun b hb => let z := l.off b hb; ⟨z.1, z.2.1⟩
  exact ⟨strikeAll (l.p.trans (.heap l.sim.g hid hk h1 fun b hb => .inl (List.mem_append.mpr (.inl hb)))) hn, l.sim.heap hid hk h1 fun b hb => (l.off b hb).2.2.1⟩
theorem get_size {h : Heap} : h.get? h.objs.size = none := by
  cases e : h.get? h.objs.size with
  | none => rfl
  | some o => exact absurd (Heap.lt_size e) (Nat.lt_irrefl _)
/-- a new hidden object -/
theorem LoopAt.alloc {hid : List Addr} {F₀ : Fz} {σ₀ : St} {s₀ : Shared} {F : Fz} {st : S} {s : Shared} (l : LoopAt C hid F₀ σ₀ s₀ F st s) {o : Obj} (ho : o.isFreed = false := by rfl) :
    LoopAt C (s.heap.objs.size :: hid) F₀ σ₀ s₀ F st { s with heap := s.heap.push o } := by
  have hs : s.heap.get? s.heap.objs.size = none := get_size
  have hF : F s.heap.objs.size = none := by
    cases e : F s.heap.objs.size with
    | none => rfl
    | some y => rw [l.sim.g.fz _ _ e] at hs; cases hs
  have hσ : st.σ s.heap.objs.size = none := by
    cases e : st.σ s.heap.objs.size with
    | none => rfl
    | some y => obtain ⟨o, h⟩ := (l.sim.g.st _ _ e).2.there; rw [h] at hs; cases hs
  have ho' : s.heap.objs.size ∉ C.own := fun m => by obtain ⟨o, h⟩ := l.sim.there _ m; rw [h] at hs; cases hs
  have hk : ∀ b ob, b ∉ ([] : List Addr) → s.heap.get? b = some ob → (s.heap.push o).get? b = some ob := fun b ob _ e => Heap.get?_push_of_some _ e
  have hh : s.heap.objs.size ∉ hid := fun m => by obtain ⟨o, h⟩ := (l.off _ m).2.2.2; rw [h] at hs; cases hs
  refine ⟨?_, l.sim.heap [] hk (fun _ m => nomatch m) (fun _ m => nomatch m), fun b hb => ?_⟩
  · have q : PostG (hid ++ C.own) C.W F st.σ s F st.σ { s with heap := s.heap.push o } := .heap (tk := s.toks) l.sim.g [] hk (fun _ m => nomatch m) (fun _ m => nomatch m)
    have z := l.p.trans q
    have s₀n : s₀.heap.get? s.heap.objs.size = none ∨ σ₀ s.heap.objs.size ≠ none := by
      cases e : s₀.heap.get? s.heap.objs.size with
      | none => exact .inl rfl
      | some ob =>
        cases e' : σ₀ s.heap.objs.size with
        | some y => exact .inr (by simp)
        | none => rw [l.p.keep _ _ e e' (fun m => (List.mem_append.mp m).elim hh ho')] at hs; cases hs
    refine { z with keep := fun b ob e hb hn => z.keep b ob e hb fun m => hn (.tail _ m), freshS := fun b h => ?_, freshF := fun b h => ?_ }
    · refine (z.freshS b h).imp_right fun y => ⟨y.1, fun m => ?_⟩
      rcases List.mem_cons.mp m with rfl | m
      · exact h hσ
      · exact y.2 m
    · refine (z.freshF b h).imp_right fun y => y.imp_right fun y => ⟨y.1, fun m => ?_⟩
      rcases List.mem_cons.mp m with rfl | m
      · exact h hF
      · exact y.2 m
  · rcases List.mem_cons.mp hb with rfl | hb
    · exact ⟨hF, hσ, ho', _, Heap.get?_push_size _ ho⟩
    · obtain ⟨a, b', c, ob, e⟩ := l.off b hb
      exact ⟨a, b', c, ob, Heap.get?_push_of_some _ e⟩
theorem LoopAt.begin {F : Fz} {st : S} {s : Shared} (k : Sim C F st s.heap) : LoopAt C [] F st.σ s F st s := ⟨.refl k.g, k, fun _ m => nomatch m⟩

/-! ### iterators -/
theorem Gives.frame {F : Fz} {I : Addr} {xs : List V} {h h₁ h₂ : Heap} {fp : List Addr} {P : Nat → Value → Prop} {Sx : Nat → Heap → Prop} (g : Gives C F I xs h fp P Sx) {i : Nat} (hs : Sx i h₁) (hI : ∀ o, h₁.get? I = some o → h₂.get? I = some o)
    (hF : ∀ a o, F a = some o → h₁.get? a = some o) (hF' : ∀ a o, F a = some o → h₂.get? a = some o) : Sx i h₂ := by
  refine g.walks.frame i h₁ h₂ hs fun b hb o e => ?_
  rcases g.foot b hb with rfl | ⟨o', e'⟩
  · exact hI o e
  · rw [hF b o' e'] at e; cases e; exact hF' b _ e'

theorem iter_ok {hid : List Addr} {F₀ F : Fz} {σ₀ : St} {st : S} {s₀ s : Shared} {x : V} {v : Value} {xs : List V} (l : LoopAt C hid F₀ σ₀ s₀ F st s) (hx : itemsOf x = some xs) (r : R F x v) {Q : Value → Shared → Prop} {E : Value → Shared → Prop}
    (h : ∀ fp P Sx s₁, s₁.toks = s.toks → Gives C F s.heap.objs.size xs s₁.heap fp P Sx → LoopAt C (s.heap.objs.size :: hid) F₀ σ₀ s₀ F st s₁ → Q (.ref s.heap.objs.size) s₁) : wpAny C.W.M C.A (pyIter v) Q E s := by
  have hh := l.sim.ok.handled
  cases r with
  | none => cases hx
  | bool => cases hx
  | int => cases hx
  | ref => cases hx
  | raw => cases hx
  | @bytes b ks t hb =>
    cases hx
    refine KBw.pyIter_bytes ?_
    have hl : (ks.map V.int).length = b.size := by rw [← hb]; simp
    refine h [s.heap.objs.size] _ _ _ rfl ⟨hl ▸ KBw.walks hh s.heap.objs.size b t, ?_, ⟨_, Heap.get?_push_size _ rfl, rfl, rfl⟩, fun b hb => .inl (List.mem_singleton.mp hb), fun _ _ ⟨o, ho, _⟩ => ⟨o, ho⟩, ?_⟩ l.alloc
    · rintro i v ⟨c, u, e, rfl⟩
      refine ⟨.int c.toNat, ?_, .int _ _⟩
      rw [← hb]; simp [e]
    · rintro t s Q E i v ⟨o, ho, hc, hd⟩ q
      exact lot_quiet ho hc hd (by decide) q
  | @tuple a vs n xs' e rs =>
    cases hx
    have it := IsTuple.of (l.sim.g.fz _ _ e)
    refine wpAny_pyIter_tuple it ?_
    have hl : xs.length = vs.toArray.size := by rw [rs.length]; simp
    have hne : a ≠ s.heap.objs.size := Nat.ne_of_lt (Heap.lt_size (l.sim.g.fz _ _ e))
    refine h [s.heap.objs.size, a] _ _ _ rfl ⟨hl ▸ Walks.tuple hh s.heap.objs.size a hne vs.toArray, ?_, ⟨⟨_, Heap.get?_push_size _ rfl, rfl, rfl⟩, it.push _⟩, ?_, fun _ _ ⟨⟨o, ho, _⟩, _⟩ => ⟨o, ho⟩, ?_⟩ l.alloc
    · intro i v e
      have e' : vs[i]? = some v := by simpa using e
      have : i < xs.length := by rw [rs.length]; exact (List.getElem?_eq_some_iff.mp e').1
      obtain ⟨u, hu, r⟩ := rs.get (k := i) (x := xs[i]) (by simp)
      rw [e'] at hu; cases hu
      exact ⟨xs[i], by simp, r⟩
    · intro b hb
      rcases List.mem_cons.mp hb with rfl | hb
      · exact .inl rfl
      · rw [List.mem_singleton.mp hb]; exact .inr ⟨_, e⟩
    · rintro t s Q E i v ⟨⟨o, ho, hc, hd⟩, _⟩ q
      exact lot_quiet ho hc hd (by decide) q
  | @list a vs n xs' e rs =>
    cases hx
    have it : s.heap.IsList a vs.toArray := ⟨_, l.sim.g.fz _ _ e, rfl, n, rfl⟩
    refine wpAny_pyIter_list it ?_
    have hl : xs.length = vs.toArray.size := by rw [rs.length]; simp
    have hne : a ≠ s.heap.objs.size := Nat.ne_of_lt (Heap.lt_size (l.sim.g.fz _ _ e))
    refine h [s.heap.objs.size, a] _ _ _ rfl ⟨hl ▸ Walks.list hh s.heap.objs.size a hne vs.toArray, ?_, ⟨⟨_, Heap.get?_push_size _ rfl, rfl, rfl⟩, ⟨_, Heap.get?_push_of_some _ (l.sim.g.fz _ _ e), rfl, n, rfl⟩⟩, ?_, fun _ _ ⟨⟨o, ho, _⟩, _⟩ => ⟨o, ho⟩, ?_⟩ l.alloc
    · intro i v e
      have e' : vs[i]? = some v := by simpa using e
      have : i < xs.length := by rw [rs.length]; exact (List.getElem?_eq_some_iff.mp e').1
      obtain ⟨u, hu, r⟩ := rs.get (k := i) (x := xs[i]) (by simp)
      rw [e'] at hu; cases hu
      exact ⟨xs[i], by simp, r⟩
    · intro b hb
      rcases List.mem_cons.mp hb with rfl | hb
      · exact .inl rfl
      · rw [List.mem_singleton.mp hb]; exact .inr ⟨_, e⟩
    · rintro t s Q E i v ⟨⟨o, ho, hc, hd⟩, _⟩ q
      exact lot_quiet ho hc hd (by decide) q
  | @range a i j c t u v e =>
    simp only [itemsOf] at hx
    split at hx
    · rename_i hsm
      cases hx
      have hr : IsRange s.heap a i j c t u v := l.sim.g.fz _ _ e
      refine wpAny_pyIter_range hr hsm ?_
      have hnn : 0 ≤ Builtin.Range.rangeSize i j c := by
        unfold Builtin.Range.rangeSize
        (repeat' split)
        · have := Int.ediv_nonneg (a := j - i - 1) (b := c) (by omega) (by omega); omega
        · omega
        · have := Int.ediv_nonneg (a := i - j - 1) (b := -c) (by omega) (by omega); omega
        · omega
      have hw := (Walks.range (prog := C.W.prog) (w := C.W.w) hh s.heap.objs.size i c (Builtin.Range.rangeSize i j c).toNat).bound
      refine h [s.heap.objs.size] _ _ _ rfl ⟨(by rw [List.length_map, List.length_range]; exact hw), ?_, ?_, fun b hb => .inl (List.mem_singleton.mp hb), fun _ _ ho => ⟨_, ho⟩, ?_⟩ l.alloc
      · rintro k v ⟨hk, t, rfl⟩
        exact ⟨_, by rw [List.getElem?_map, List.getElem?_range hk]; rfl, .int _ _⟩
      · show IsRangeIter _ _ _ _ _
        rw [Int.toNat_of_nonneg hnn]
        simpa using Heap.get?_push_size _ rfl
      · rintro t s Q E i v ho q
        exact lot_quiet ho rfl rfl (by decide) q
    · cases hx

/-! ### for -/
def forL (Ta : AT) (B : (Fl → S → Prop) → S → Prop) (Q : Fl → S → Prop) : List V → S → Prop
  | [], st => Q .next st
  | x :: xs, st => Ta x (fun st₁ => B (fun f st₂ => match f with | .next => forL Ta B Q xs st₂ | .cont => forL Ta B Q xs st₂ | .brk => Q .next st₂ | .ret v => Q (.ret v) st₂) st₁) st
abbrev forW (T : (V → S → Prop) → S → Prop) (Ta : AT) (B : (Fl → S → Prop) → S → Prop) (Q : Fl → S → Prop) : S → Prop := T fun x st => ∃ xs, itemsOf x = some xs ∧ forL Ta B Q xs st

theorem ex_for {t it : Expr} {b : List Stmt} {pos : Pos} {T : (V → S → Prop) → S → Prop} {Ta : AT} {B : (Fl → S → Prop) → S → Prop} (hi : Ev C it T) (ha : Asg C t Ta) (hb : Exs C b B) (hs : ∀ x, foldedSetIterable it C.env x = pure x := by intro _; rfl) :
    Ex C (.For t it b [] pos) (forW T Ta B) := by
  intro E Q st F s hF k q
  refine wpAny_For (hi.then hF k q fun F₁ x st₁ v s₁ p₁ r₁ q₁ => ?_) hs
  obtain ⟨xs, hx, q₁⟩ := q₁
  refine iter_ok (.begin p₁.sim) hx r₁ fun fp P Sx s₂ _ g l => ?_
  have hI : s₁.heap.get? s₁.heap.objs.size = none := get_size
  refine codeAny_forLoop_any (fun n s' => ∃ i F' st', n = xs.length + 1 - i ∧ i ≤ xs.length ∧ F₁.Le F' ∧ LoopAt C [s₁.heap.objs.size] F₁ st₁.σ s₁ F' st' s' ∧ Sx i s'.heap ∧ forL Ta B Q (xs.drop i) st') ?_ (xs.length + 1) ⟨0, F₁, st₁, rfl, Nat.zero_le _, .refl _, l, g.start, by simpa using q₁⟩
  rintro n s₃ ⟨i, F₃, st₃, rfl, hle, hF₃, l₃, hs₃, q₃⟩
  by_cases hlt : i < xs.length
  · refine g.walks.item i s₃ _ _ hlt hs₃ fun v h₄ tk hP hs₄ hk => ?_
    have hk' : ∀ b o, b ∉ [s₁.heap.objs.size] → s₃.heap.get? b = some o → h₄.get? b = some o := fun b o hb e => hk b o hb e
    have l₄ := l₃.at (tk := tk) [s₁.heap.objs.size] (fun _ m => m) hk' (fun b m => by rw [List.mem_singleton.mp m]; exact g.there _ _ hs₄)
    refine g.quiet t _ _ _ _ v hs₄ ?_
    obtain ⟨x', hx', rx⟩ := g.item i v hP
    have hd : xs.drop i = x' :: xs.drop (i + 1) := by
      obtain ⟨hl, e⟩ := List.getElem?_eq_some_iff.mp hx'
      rw [List.drop_eq_getElem_cons hl, e]
    rw [hd] at q₃
    refine (ha F₃ x' v (rx.mono hF₃)).then (Q := fun _ => _) (.refl _) l₄.sim q₃ fun F₅ _ st₅ _ s₅ p₅ _ q₅ => ?_
    refine hb.then (F0.le _) p₅.sim q₅ fun F₆ f st₆ a s₆ p₆ rf q₆ => ?_
    have l₆ := l₄.step (p₅.trans p₆)
    have fin : Post C F st s F₆ st₆ s₆ := by
      obtain ⟨h, tk, rfl⟩ := p₆.p.same
      have := l₆.out (h' := h) (tk := tk) (by intro b m; rw [List.mem_singleton.mp m]; exact hI) (fun b o _ e => e)
      exact p₁.trans this
    have hsx : Sx (i + 1) s₆.heap := by
      have pp := p₅.trans p₆
      exact g.frame hs₄ (fun o e => pp.p.keep _ o e (l₄.off _ (.head _)).2.1 (l₄.off _ (.head _)).2.2.1) (fun a o e => l₄.sim.g.fz a o (hF₃ a o e)) (fun a o e => p₆.sim.g.fz a o (pp.ext a o (hF₃ a o e)))
    have on : forL Ta B Q (xs.drop (i + 1)) st₆ → ∃ m, m < xs.length + 1 - i ∧ ∃ i F' st', m = xs.length + 1 - i ∧ i ≤ xs.length ∧ F₁.Le F' ∧ LoopAt C [s₁.heap.objs.size] F₁ st₁.σ s₁ F' st' s₆ ∧ Sx i s₆.heap ∧ forL Ta B Q (xs.drop i) st' :=
      fun z => ⟨xs.length + 1 - (i + 1), by omega, i + 1, F₆, st₆, rfl, hlt, hF₃.trans ((p₅.trans p₆).ext), l₆, hsx, z⟩
    cases rf with
    | next => exact on q₆
    | cont => exact on q₆
    | brk => exact ⟨F₆, .next, st₆, fin, .next, q₆⟩
    | ret r => exact ⟨F₆, _, st₆, fin, .ret r, q₆⟩
  · have e : i = xs.length := by omega
    subst e
    refine g.walks.done s₃ _ _ hs₃ fun h₄ tk hk => ?_
    rw [List.drop_length] at q₃
    refine wpAny_execs_nil ⟨F₃, .next, st₃, p₁.trans (l₃.out (by intro b m; rw [List.mem_singleton.mp m]; exact hI) fun b o hb e => hk b o hb e), .next, q₃⟩
end Mine

namespace Mine
open PySem PySem.W PyProof.Rows PySem.Calls

variable {C : Cx}

theorem PostG.congr {own own' : List Addr} {W : Wd} {F F₁ : Fz} {σ σ₁ : St} {s s₁ : Shared} (p : PostG own W F σ s F₁ σ₁ s₁) (h : ∀ b, b ∈ own' ↔ b ∈ own) : PostG own' W F σ s F₁ σ₁ s₁ :=
  { p with
    keep := fun b o e hb ho => p.keep b o e hb fun m => ho ((h b).mpr m)
    freshS := fun b k => (p.freshS b k).imp_right fun y => ⟨y.1, fun m => y.2 ((h b).mp m)⟩
    freshF := fun b k => (p.freshF b k).imp_right fun q => q.imp_right fun y => ⟨y.1, fun m => y.2 ((h b).mp m)⟩ }
theorem Pl.Ok.forget {F : Fz} {h : Heap} {p : Pl} {o : Option V} (k : p.Ok F h o) : p.Ok F h none := by
  cases p with
  | d L x => obtain ⟨m, n, _⟩ := k; exact ⟨m, n, fun _ e => nomatch e⟩
  | c a => obtain ⟨u, n, _⟩ := k; exact ⟨u, n, fun _ e => nomatch e⟩
theorem Sim.forget {F : Fz} {σ : St} {ρ ρ' : Nat → Option V} {h : Heap} (k : Sim C F ⟨σ, ρ'⟩ h) (e : ∀ i, i < C.pl.length → ρ i = ρ' i ∨ ρ i = none) : Sim C F ⟨σ, ρ⟩ h := by
  refine ⟨k.g, fun i p hp => ?_, k.own, k.ok, k.fn, k.nodup⟩
  rcases e i (List.getElem?_eq_some_iff.mp hp).1 with z | z
  · show p.Ok F h (ρ i); rw [z]; exact k.loc i p hp
  · show p.Ok F h (ρ i); rw [z]; exact (k.loc i p hp).forget
theorem LoopAt.forget {hid : List Addr} {F₀ F : Fz} {σ₀ σ : St} {ρ ρ' : Nat → Option V} {s₀ s : Shared} (l : LoopAt C hid F₀ σ₀ s₀ F ⟨σ, ρ'⟩ s) (e : ∀ i, i < C.pl.length → ρ i = ρ' i ∨ ρ i = none) : LoopAt C hid F₀ σ₀ s₀ F ⟨σ, ρ⟩ s :=
  ⟨l.p, l.sim.forget e, l.off⟩

/-! ### a comprehension's own block -/
def Cx.comp (C : Cx) (scope : Scope) (cl : List (Str × Addr)) (L : Addr) (names : List Str) : Cx := { C with env := compEnvC scope cl L C.env, pl := C.pl ++ names.map (Pl.d L) }
abbrev cutρ (n : Nat) (ρ : Nat → Option V) : Nat → Option V := fun i => if i < n then ρ i else none

theorem comp_own {scope : Scope} {cl : List (Str × Addr)} {L : Addr} {names : List Str} (hne : names ≠ []) (b : Addr) : b ∈ (C.comp scope cl L names).own ↔ b = L ∨ b ∈ C.own := by
  simp only [Cx.comp, Cx.own, List.map_append, List.mem_append, List.map_map]
  constructor
  · rintro (h | h)
    · exact .inr h
    · obtain ⟨x, _, rfl⟩ := List.mem_map.mp h; exact .inl rfl
  · rintro (h | h)
    · obtain ⟨x, r, e⟩ := List.exists_cons_of_ne_nil hne
      exact .inr (List.mem_map.mpr ⟨x, by rw [e]; exact .head _, h.symm⟩)
    · exact .inl h

theorem comp_enter {hid : List Addr} {F₀ F : Fz} {σ₀ : St} {st : S} {s₀ s : Shared} {scope : Scope} {cl : List (Str × Addr)} {names : List Str} {h' : Heap} {tk : Nat} {o : Obj} (l : LoopAt C hid F₀ σ₀ s₀ F st s) (hne : names ≠ []) (hnd : names.Nodup) (hk : scope.kind = .function)
    (hn : h'.Ns s.heap.objs.size fun _ => none) (hs : Heap.SameBut s.heap.objs.size (s.heap.push o) h') (ho : o.isFreed = false := by rfl) :
    LoopAt (C.comp scope cl s.heap.objs.size names) hid F₀ σ₀ s₀ F ⟨st.σ, cutρ C.pl.length st.ρ⟩ { s with heap := h', toks := tk } ∧ s.heap.objs.size ∉ C.own := by
  have l₁ := l.alloc (o := o) ho
  have l₂ := l₁.at (h' := h') (tk := tk) [s.heap.objs.size] (fun b m => by rw [List.mem_singleton.mp m]; exact .head _) (fun b ob hb e => (hs.2 b (by simpa using hb)).trans e) (fun b m => by
    rw [List.mem_singleton.mp m]; obtain ⟨ob, _, _, e, _⟩ := hn; exact ⟨ob, e⟩)
  have hL := l₂.off s.heap.objs.size (.head _)
  refine ⟨⟨l₂.p.congr fun b => ?_, ⟨l₂.sim.g, fun i p hp => ?_, fun p hp => ?_, l.sim.ok, hk, ?_⟩, fun b hb => ?_⟩, hL.2.2.1⟩
  · simp only [List.mem_append, comp_own hne, List.mem_cons]
    constructor
    · rintro (h | h | h) <;> simp [h]
    · rintro ((h | h) | h) <;> simp [h]
  · have hp' : (C.pl ++ names.map (Pl.d s.heap.objs.size))[i]? = some p := hp
    show p.Ok F h' (if i < C.pl.length then st.ρ i else none)
    by_cases hi : i < C.pl.length
    · rw [if_pos hi]
      rw [List.getElem?_append_left hi] at hp'
      exact l₂.sim.loc i p hp'
    · rw [if_neg hi]
      rw [List.getElem?_append_right (Nat.le_of_not_lt hi), List.getElem?_map] at hp'
      obtain ⟨x, _, rfl⟩ := Option.map_eq_some_iff.mp hp'
      exact ⟨_, hn, fun _ e => nomatch e⟩
  · have hp' : p ∈ C.pl ++ names.map (Pl.d s.heap.objs.size) := hp
    rcases List.mem_append.mp hp' with m | m
    · exact l₂.sim.own p m
    · obtain ⟨x, _, rfl⟩ := List.mem_map.mp m
      exact ⟨hL.1, hL.2.1⟩
  · show (C.pl ++ names.map (Pl.d s.heap.objs.size)).Nodup
    refine List.nodup_append.mpr ⟨l.sim.nodup, ?_, fun p hp q hq e => ?_⟩
    · exact List.pairwise_map.mpr (hnd.imp fun h e => h (by injection e))
    · obtain ⟨x, _, rfl⟩ := List.mem_map.mp hq
      exact hL.2.2.1 (List.mem_map.mpr ⟨p, hp, by rw [e]⟩)
  · obtain ⟨a, b', c, e⟩ := l₂.off b (.tail _ hb)
    refine ⟨a, b', fun m => ?_, e⟩
    rcases (comp_own hne b).mp m with rfl | m
    · obtain ⟨_, _, _, ob, e⟩ := l.off _ hb
      rw [get_size] at e; cases e
    · exact c m
theorem comp_leave {hid : List Addr} {F₀ F : Fz} {σ₀ σ : St} {ρ ρ' : Nat → Option V} {s₀ s : Shared} {scope : Scope} {cl : List (Str × Addr)} {L : Addr} {names : List Str} (hne : names ≠ []) (hL : L ∉ C.own) (hk : C.env.scope.kind = .function) (l : LoopAt (C.comp scope cl L names) hid F₀ σ₀ s₀ F ⟨σ, ρ'⟩ s)
    (e : ∀ i, i < C.pl.length → ρ i = ρ' i) : LoopAt C (L :: hid) F₀ σ₀ s₀ F ⟨σ, ρ⟩ s := by
  have hlen : ∀ (i : Nat) (p : Pl), C.pl[i]? = some p → (C.comp scope cl L names).pl[i]? = some p := fun i p hp => by
    show (C.pl ++ names.map (Pl.d L))[i]? = some p
    rw [List.getElem?_append_left (List.getElem?_eq_some_iff.mp hp).1, hp]
  obtain ⟨x, r, ex⟩ := List.exists_cons_of_ne_nil hne
  have hm : Pl.d L x ∈ (C.comp scope cl L names).pl := List.mem_append.mpr (.inr (List.mem_map.mpr ⟨x, by rw [ex]; exact .head _, rfl⟩))
  have oL := l.sim.own _ hm
  refine ⟨l.p.congr fun b => ?_, ⟨l.sim.g, fun i p hp => ?_, fun p hp => l.sim.own p (List.mem_append.mpr (.inl hp)), l.sim.ok, hk, (List.nodup_append.mp l.sim.nodup).1⟩, fun b hb => ?_⟩
  · simp only [List.mem_append, comp_own hne, List.mem_cons]
    constructor
    · rintro ((h | h) | h) <;> simp [h]
    · rintro (h | h | h) <;> simp [h]
  · show p.Ok F s.heap (ρ i)
    rw [e i (List.getElem?_eq_some_iff.mp hp).1]
    exact l.sim.loc i p (hlen i p hp)
  · rcases List.mem_cons.mp hb with rfl | hb
    · exact ⟨oL.1, oL.2, hL, l.sim.there _ ((comp_own hne _).mpr (.inl rfl))⟩
    · obtain ⟨a, b', c, o⟩ := l.off b hb
      exact ⟨a, b', fun m => c ((comp_own hne b).mpr (.inr m)), o⟩

/-! tests of a comprehension -/
def Tst (C : Cx) (ifs : List Expr) (T : (Bool → S → Prop) → S → Prop) : Prop :=
  Imp C F0 RB (forIn ifs true fun c r => if r = true then do let ok ← PySem.isTrue c C.env (eval c C.env); pure (ForInStep.yield ok) else pure (ForInStep.yield r)) T
theorem tst_nil : Tst C [] (fun Q st => Q true st) := fun _ _ st F _ _ k q => wpAny_tests_nil ⟨F, true, st, .refl k, rfl, q⟩
theorem tst_one {c : Expr} {T : (Bool → S → Prop) → S → Prop} (h : EvT C c T) : Tst C [c] T := fun E Q st F s hF k q => wpAny_tests_one (h E Q st F s hF k q)

theorem compLoop_any {prog : Program} {w : World} {A : Around} {R : Result → Shared → Prop} {s : Shared} {elt target iter : Expr} {ifs : List Expr} {scope : Scope} {pos : Pos} {it acc : Value} {env : Env} (I : Nat → Shared → Prop)
    (turn : ∀ n s, I n s → wpAny (model prog w) A (pyNext it) (fun r s₁ => match r with
      | none => R (.ok .next) s₁
      | some v => wpAny (model prog w) A (letOwnedTupleGo target it v) (fun _ s₁ => wpAny (model prog w) A (assign target env v) (fun _ s₂ =>
          wpAny (model prog w) A (forIn ifs true fun c r => if r = true then do let ok ← PySem.isTrue c env (eval c env); pure (ForInStep.yield ok) else pure (ForInStep.yield r)) (fun ok s₃ =>
            if ok = true then wpAny (model prog w) A (eval elt env) (fun x s₄ =>
              wpAny (model prog w) A (call (.builtin "list.append") [acc, x]) (fun _ s₅ => ∃ m, m < n ∧ I m s₅) (notedBy (model prog w) A env fun e s' => R (.error e) s') s₄) (notedBy (model prog w) A env fun e s' => R (.error e) s') s₃
            else ∃ m, m < n ∧ I m s₃) (notedBy (model prog w) A env fun e s' => R (.error e) s') s₂) (notedBy (model prog w) A env fun e s' => R (.error e) s') s₁) (notedBy (model prog w) A env fun e s' => R (.error e) s') s₁) (notedBy (model prog w) A env fun e s' => R (.error e) s') s)
    (n : Nat) (h : I n s) :
    codeAny (model prog w) A (.compLoop (.ListComp elt [⟨target, iter, ifs, 0⟩] scope pos) 0 it acc env) R s := by
  refine codeAny_loop rfl I (fun n s hI => ?_) n h
  show wpAny _ A ((compTurn (.ListComp elt [⟨target, iter, ifs, 0⟩] scope pos) 0 it acc env).onRaise (fun x => do noteFrame x env; theTreesLotGoes x)) _ _ s
  refine wpAny_noted ?_
  rw [compTurn_list]
  refine wpAny_bind (wpAny_standAt (wpAny_bind (wpAny_mono (turn n s hI) (fun r s₁ h₁ => ?_) fun _ _ h' => h')))
  cases r with
  | none => exact wpAny_pure h₁
  | some v =>
    refine wpAny_bind (wpAny_mono h₁ (fun _ s₁ h₁ => ?_) fun _ _ h' => h')
    refine wpAny_bind (wpAny_mono h₁ (fun _ s₂ h₂ => wpAny_bind (wpAny_mono h₂ (fun ok s₃ h₃ => ?_) fun _ _ h' => h')) fun _ _ h' => h')
    cases ok with
    | false => exact wpAny_pure ⟨rfl, h₃⟩
    | true =>
      exact wpAny_bind (wpAny_bind (wpAny_mono h₃ (fun x s₄ h₄ => wpAny_bind (wpAny_mono h₄ (fun _ s₅ h₅ => wpAny_pure (wpAny_pure ⟨rfl, h₅⟩)) fun _ _ h' => h')) fun _ _ h' => h'))

def compL (n : Nat) (Ta : AT) (Tc : (Bool → S → Prop) → S → Prop) (Te : (V → S → Prop) → S → Prop) (ρ : Nat → Option V) (K : List V → St → Prop) : List V → List V → St → Prop
  | [], acc, σ => K acc σ
  | x :: xs, acc, σ => Ta x (Tc fun b st => if b then Te (fun y st' => (∀ i, i < n → st'.ρ i = ρ i) ∧ compL n Ta Tc Te ρ K xs (acc ++ [y]) st'.σ) st else (∀ i, i < n → st.ρ i = ρ i) ∧ compL n Ta Tc Te ρ K xs acc st.σ) ⟨σ, ρ⟩

theorem Gives.comp {F : Fz} {I : Addr} {xs : List V} {h : Heap} {fp : List Addr} {P : Nat → Value → Prop} {Sx : Nat → Heap → Prop} {scope : Scope} {cl : List (Str × Addr)} {L : Addr} {names : List Str} (g : Gives C F I xs h fp P Sx) {h' : Heap} (hs : Sx 0 h') : Gives (C.comp scope cl L names) F I xs h' fp P Sx :=
  ⟨g.walks, g.item, hs, g.foot, g.there, g.quiet⟩

theorem comp_loop {n : Nat} {D I : Addr} {F₀ F : Fz} {σ₀ σ : St} {ρ : Nat → Option V} {s₀ s : Shared} {elt t it : Expr} {ifs : List Expr} {scope : Scope} {pos : Pos} {Ta : AT} {Tc : (Bool → S → Prop) → S → Prop} {Te : (V → S → Prop) → S → Prop}
    {K : List V → St → Prop} {xs : List V} {fp : List Addr} {P : Nat → Value → Prop} {Sx : Nat → Heap → Prop} {RR : Result → Shared → Prop}
    (ha : Asg C t Ta) (hc : Tst C ifs Tc) (he : Ev C elt Te) (hρ : ∀ i, ¬ i < n → ρ i = none) (hDI : D ≠ I)
    (l : LoopAt C [D, I] F₀ σ₀ s₀ F ⟨σ, ρ⟩ s) (g : Gives C F I xs s.heap fp P Sx) (hD : s.heap.PlainList D #[]) (hsz : xs.length ≤ sizeLine) (q : compL n Ta Tc Te ρ K xs [] σ)
    (fin : ∀ F' σ' s' h' tk acc vs, F.Le F' → LoopAt C [D, I] F₀ σ₀ s₀ F' ⟨σ', ρ⟩ s' → (∀ b o, b ∉ [I] → s'.heap.get? b = some o → h'.get? b = some o) → h'.PlainList D (List.toArray vs) → RAll F' acc vs → K acc σ' → RR (.ok .next) { s' with heap := h', toks := tk }) :
    codeAny C.W.M C.A (.compLoop (.ListComp elt [⟨t, it, ifs, 0⟩] scope pos) 0 (.ref I) (.ref D) C.env) RR s := by
  refine compLoop_any (fun m s' => ∃ i F' σ' acc vs, m = xs.length + 1 - i ∧ i ≤ xs.length ∧ acc.length ≤ i ∧ F.Le F' ∧ LoopAt C [D, I] F₀ σ₀ s₀ F' ⟨σ', ρ⟩ s' ∧ Sx i s'.heap ∧ s'.heap.PlainList D (List.toArray vs) ∧ RAll F' acc vs ∧ compL n Ta Tc Te ρ K (xs.drop i) acc σ') ?_
    (xs.length + 1) ⟨0, F, σ, [], [], rfl, Nat.zero_le _, Nat.le_refl _, .refl _, l, g.start, hD, .nil, by simpa using q⟩
  rintro m s₁ ⟨i, F₁, σ₁, acc, vs, rfl, hle, hacc, hF₁, l₁, hs₁, hD₁, ra, q₁⟩
  by_cases hlt : i < xs.length
  · refine g.walks.item i s₁ _ _ hlt hs₁ fun v h₂ tk hP hs₂ hk => ?_
    have hk' : ∀ b o, b ∉ [I] → s₁.heap.get? b = some o → h₂.get? b = some o := fun b o hb e => hk b o hb e
    have l₂ := l₁.at (tk := tk) [I] (fun b m => .tail _ m) hk' (fun b m => by rw [List.mem_singleton.mp m]; exact g.there _ _ hs₂)
    have hD₂ : h₂.PlainList D vs.toArray := hD₁.at fun o e => hk' _ o (by simpa using hDI) e
    refine g.quiet t _ _ _ _ v hs₂ ?_
    obtain ⟨x', hx', rx⟩ := g.item i v hP
    have hd : xs.drop i = x' :: xs.drop (i + 1) := by
      obtain ⟨hl, e⟩ := List.getElem?_eq_some_iff.mp hx'
      rw [List.drop_eq_getElem_cons hl, e]
    rw [hd] at q₁
    refine (ha F₁ x' v (rx.mono hF₁)).then (Q := fun _ => _) (.refl _) l₂.sim q₁ fun F₃ _ st₃ _ s₃ p₃ _ q₃ => ?_
    refine hc.then (F0.le _) p₃.sim q₃ fun F₄ b st₄ _ s₄ p₄ rb q₄ => ?_
    subst rb
    have sx : ∀ {F' st' s'}, Post C F₁ ⟨σ₁, ρ⟩ { s₁ with heap := h₂, toks := tk } F' st' s' → Sx (i + 1) s'.heap := fun pp =>
      g.frame hs₂ (fun o e => pp.p.keep _ o e (l₂.off I (.tail _ (.head _))).2.1 (l₂.off I (.tail _ (.head _))).2.2.1) (fun a o e => l₂.sim.g.fz a o (hF₁ a o e)) (fun a o e => pp.sim.g.fz a o (pp.ext a o (hF₁ a o e)))
    have dx : ∀ {F' st' s'}, Post C F₁ ⟨σ₁, ρ⟩ { s₁ with heap := h₂, toks := tk } F' st' s' → s'.heap.PlainList D vs.toArray := fun pp =>
      hD₂.at fun o e => pp.p.keep _ o e (l₂.off D (.head _)).2.1 (l₂.off D (.head _)).2.2.1
    have back : ∀ {ρ' : Nat → Option V}, (∀ i, i < n → ρ' i = ρ i) → ∀ i, i < C.pl.length → ρ i = ρ' i ∨ ρ i = none := fun h i _ => by
      by_cases hi : i < n
      · exact .inl (h i hi).symm
      · exact .inr (hρ i hi)
    cases b with
    | false =>
      obtain ⟨hr, q₄⟩ := q₄
      have pp := p₃.trans p₄
      obtain ⟨σ₄, ρ₄⟩ := st₄
      exact ⟨xs.length + 1 - (i + 1), by omega, i + 1, F₄, σ₄, acc, vs, rfl, hlt, by omega, hF₁.trans pp.ext, (l₂.step pp).forget (back hr), sx pp, dx pp, ra.mono pp.ext, q₄⟩
    | true =>
      refine he.then (F0.le _) p₄.sim q₄ fun F₅ y st₅ u s₅ p₅ ry q₅ => ?_
      have pp := p₃.trans (p₄.trans p₅)
      obtain ⟨hr, q₅⟩ := q₅
      obtain ⟨σ₅, ρ₅⟩ := st₅
      refine wpAny_list_append_plain (dx pp) (fun h₆ hD₆ hs₆ => ?_) (by have := (ra.length); simp; omega)
      have l₅ := l₂.step pp
      have l₆ := l₅.at (h' := h₆) (tk := s₅.toks) [D] (fun b m => by rw [List.mem_singleton.mp m]; exact .head _) (fun b o hb e => (hs₆.2 b (by simpa using hb)).trans e) (fun b m => by rw [List.mem_singleton.mp m]; exact let ⟨n, e⟩ := hD₆; ⟨_, e⟩)
      refine ⟨xs.length + 1 - (i + 1), by omega, i + 1, F₅, σ₅, acc ++ [y], vs ++ [u], rfl, hlt, by simp; omega, hF₁.trans pp.ext, l₆.forget (back hr), ?_, ?_, (ra.mono pp.ext).append (.cons ry .nil), q₅⟩
      · exact g.frame (sx pp) (fun o e => (hs₆.2 _ (Ne.symm hDI)).trans e) (fun a o e => l₅.sim.g.fz a o (pp.ext a o (hF₁ a o e))) (fun a o e => l₆.sim.g.fz a o (pp.ext a o (hF₁ a o e)))
      · simpa using hD₆
  · have e : i = xs.length := by omega
    subst e
    refine g.walks.done s₁ _ _ hs₁ fun h₂ tk hk => ?_
    rw [List.drop_length] at q₁
    exact fin F₁ σ₁ s₁ h₂ tk acc vs hF₁ l₁ (fun b o hb e => hk b o hb e) (hD₁.at fun o e => hk _ o (by simpa using hDI) e) ra q₁

theorem LoopAt.fresh {hid : List Addr} {F₀ F : Fz} {st : S} {s₀ s : Shared} (l : LoopAt C hid F₀ st.σ s₀ F st s) (hn : ∀ b ∈ hid, s₀.heap.get? b = none) : s₀.heap.get? s.heap.objs.size = none := by
  cases e : s₀.heap.get? s.heap.objs.size with
  | none => rfl
  | some o =>
    cases e' : st.σ s.heap.objs.size with
    | none =>
      have := l.p.keep _ o e e' (fun m => by
        rcases List.mem_append.mp m with m | m
        · rw [hn _ m] at e; cases e
        · obtain ⟨o, h⟩ := l.sim.there _ m; rw [get_size] at h; cases h)
      rw [get_size] at this; cases this
    | some y => obtain ⟨o, h⟩ := (l.sim.g.st _ _ e').2.there; rw [get_size] at h; cases h
/-! the whole of a list comprehension -/
abbrev newW (x : AO) (Q : V → S → Prop) (σ : St) (ρ : Nat → Option V) : Prop := ∀ a, σ a = none → Q (.ref a) ⟨fun b => if b = a then some x else σ b, ρ⟩
abbrev compW (n : Nat) (T : (V → S → Prop) → S → Prop) (Ta : AT) (Tc : (Bool → S → Prop) → S → Prop) (Te : (V → S → Prop) → S → Prop) (Q : V → S → Prop) : S → Prop :=
  T fun x st => ∃ xs, itemsOf x = some xs ∧ xs.length ≤ sizeLine ∧ compL n Ta Tc Te (cutρ n st.ρ) (fun acc σ => newW (.list acc) Q σ st.ρ) xs [] st.σ

/-- a hidden list comes into the store -/
theorem LoopAt.list {hid : List Addr} {D : Addr} {F₀ F : Fz} {st₀ : S} {σ : St} {ρ : Nat → Option V} {s₀ s : Shared} {acc : List V} {vs : List Value} (l : LoopAt C hid F₀ st₀.σ s₀ F ⟨σ, ρ⟩ s) (hn : ∀ b ∈ hid, s₀.heap.get? b = none) (hD : D ∈ hid) {h' : Heap} {tk : Nat} (hp : h'.PlainList D vs.toArray) (ra : RAll F acc vs)
    (hk : ∀ b o, b ∉ hid → s.heap.get? b = some o → h'.get? b = some o) : Post C F₀ st₀ s₀ F ⟨fun b => if b = D then some (.list acc) else σ b, ρ⟩ { s with heap := h', toks := tk } := by
  have p := l.out hn (tk := tk) hk
  obtain ⟨hF, _, hO, _⟩ := l.off D hD
  have g : SimG C.W F (fun b => if b = D then some (.list acc) else σ b) h' := by
    refine ⟨p.sim.g.base, p.sim.g.fz, fun a x e => ?_⟩
    by_cases ha : a = D
    · subst ha
      rw [if_pos rfl] at e; cases e
      obtain ⟨n, e⟩ := hp
      exact ⟨hF, vs, n, e, ra⟩
    · rw [if_neg ha] at e
      exact p.sim.g.st a x e
  refine ⟨{ p.p with simg := g, freshS := fun b h => ?_ }, ⟨g, p.sim.loc, fun q hq => ⟨(p.sim.own q hq).1, ?_⟩, p.sim.ok, p.sim.fn, p.sim.nodup⟩⟩
  · by_cases hb : b = D
    · subst hb; exact .inr ⟨hn _ hD, hO⟩
    · exact p.p.freshS b (by simpa [hb] using h)
  · show (if q.addr = D then _ else σ q.addr) = none
    rw [if_neg (show ¬ q.addr = D from fun e => hO (e ▸ List.mem_map_of_mem hq))]
    exact (p.sim.own q hq).2

theorem Post.hide {F F' : Fz} {st st' : S} {s s' : Shared} {L : Addr} (p : Post C F st s F' st' s') (h1 : F' L = none) (h2 : st'.σ L = none) (h3 : L ∉ C.own) (h4 : ∃ o, s'.heap.get? L = some o) : LoopAt C [L] F st.σ s F' st' s' := by
  refine ⟨{ p.p with keep := fun b o e hb ho => p.p.keep b o e hb fun m => ho (.tail _ m), freshS := fun b h => ?_, freshF := fun b h => ?_ }, p.sim, fun b m => by rw [List.mem_singleton.mp m]; exact ⟨h1, h2, h3, h4⟩⟩
  · refine (p.p.freshS b h).imp_right fun y => ⟨y.1, fun m => ?_⟩
    rcases List.mem_cons.mp m with rfl | m
    · exact h h2
    · exact y.2 m
  · refine (p.p.freshF b h).imp_right fun z => z.imp_right fun y => ⟨y.1, fun m => ?_⟩
    rcases List.mem_cons.mp m with rfl | m
    · exact h h1
    · exact y.2 m

theorem comp_run {elt t it : Expr} {ifs : List Expr} {scope : Scope} {pos pos' : Pos} {cl : List (Str × Addr)} {names : List Str} {T : (V → S → Prop) → S → Prop} {Ta : AT} {Tc : (Bool → S → Prop) → S → Prop} {Te : (V → S → Prop) → S → Prop} {use : Option (Value → Sem Unit)}
    (hclos : closureFor scope C.env = pure cl) (hcell : ∀ x ∈ scope.names, x.2 ≠ .cell) (hkind : scope.kind = .function) (hnames : ∀ x ∈ scope.names, x.2 = .local → scope.names.lookup x.1 = some .local)
    (hs : ∀ x, foldedSetIterable it C.env x = pure x) (hne : names ≠ []) (hnd : names.Nodup)
    (hi : Ev C it T) (ha : ∀ L, Asg (C.comp scope cl L names) t Ta) (hc : ∀ L, Tst (C.comp scope cl L names) ifs Tc) (he : ∀ L, Ev (C.comp scope cl L names) elt Te)
    {E : Value → Shared → Prop} {Q : V → S → Prop} {Z : Value → Shared → Prop} {st : S} {F : Fz} {s : Shared} (k : Sim C F st s.heap) (q : compW C.pl.length T Ta Tc Te Q st)
    (fin : ∀ D L F₁ st₁ s₁ F' st' s', Post C F st s F₁ st₁ s₁ → LoopAt C [L] F₁ st₁.σ s₁ F' st' s' → s₁.heap.get? L = none → Q (.ref D) st' → (∃ m, s'.heap.Ns L m) → compPost C.W.M C.A E use Z (.ref D) L (.ok .next) s') :
    wpAny C.W.M C.A (comprehension (.ListComp elt [⟨t, it, ifs, 0⟩] scope pos) scope C.env pos' (newList []) false (eval it C.env) use) Z E s := by
  refine wpAny_comprehension_free rfl hs hclos hkind hnames (hi.then (F0.le _) k q fun F₁ x st₁ v s₁ p₁ r₁ q₁ => ?_)
  obtain ⟨xs, hx, hsz, q₁⟩ := q₁
  have hI : s₁.heap.get? s₁.heap.objs.size = none := get_size
  refine iter_ok (.begin p₁.sim) hx r₁ fun fp P Sx s₂ _ g l₂ => ?_
  refine wpAny_newList ?_ (by size_fits)
  have l₃ := l₂.alloc (o := listOf #[] 0)
  have hDn := l₂.fresh (by intro b m; rw [List.mem_singleton.mp m]; exact hI)
  have hDI : s₂.heap.objs.size ≠ s₁.heap.objs.size := fun e => by obtain ⟨_, _, _, o, h⟩ := l₂.off _ (.head _); rw [← e, get_size] at h; cases h
  have hLn := l₃.fresh (by intro b m; rcases List.mem_cons.mp m with rfl | m; exact hDn; rw [List.mem_singleton.mp m]; exact hI)
  refine wpAny_newFunctionEnv hcell (by intro y hy; simp at hy) (fun h₄ hn₄ hs₄ => ?_) hkind
  dsimp only at hn₄ hs₄ ⊢
  have hDp : h₄.PlainList s₂.heap.objs.size #[] := ⟨0, (hs₄.2 _ (Nat.ne_of_lt (by show _ < (s₂.heap.push _).objs.size; rw [Heap.size_push]; exact Nat.lt_succ_self _))).trans (Heap.get?_push_of_some _ (Heap.get?_push_size _ rfl))⟩
  have hS₄ : Sx 0 h₄ := g.walks.frame 0 _ _ g.start fun b hb o e => (hs₄.2 b (Nat.ne_of_lt (by show _ < (s₂.heap.push _).objs.size; rw [Heap.size_push]; exact Nat.lt_succ_of_lt (Heap.lt_size e)))).trans (Heap.get?_push_of_some _ (Heap.get?_push_of_some _ e))
  obtain ⟨l₄, hL⟩ := comp_enter (scope := scope) (cl := cl) (names := names) (tk := s₂.toks + ([] : List (Str × Value)).length) l₃ hne hnd hkind hn₄ hs₄
  have key : codeAny C.W.M C.A (.compLoop (.ListComp elt [⟨t, it, ifs, 0⟩] scope pos) 0 (.ref s₁.heap.objs.size) (.ref s₂.heap.objs.size) (compEnvC scope cl (s₂.heap.push (listOf #[] 0)).objs.size C.env))
      (compPost C.W.M C.A E use Z (.ref s₂.heap.objs.size) (s₂.heap.push (listOf #[] 0)).objs.size) { s₂ with heap := h₄, toks := s₂.toks + ([] : List (Str × Value)).length } := by
    refine comp_loop (C := C.comp scope cl (s₂.heap.push (listOf #[] 0)).objs.size names) (n := C.pl.length) (ha _) (hc _) (he _) (fun i hi => if_neg hi) hDI l₄ (g.comp hS₄) hDp hsz q₁ fun F' σ' s' h' tk acc vs hF' l' hk' hD' ra q' => ?_
    have hLo := l'.sim.own (Pl.d (s₂.heap.push (listOf #[] 0)).objs.size (names.head hne)) (List.mem_append.mpr (.inr (List.mem_map.mpr ⟨_, List.head_mem hne, rfl⟩)))
    have l₅ := comp_leave (ρ := st₁.ρ) hne hL p₁.sim.fn l' (fun i hi => (if_pos hi).symm)
    have hσD := (l'.off _ (.head _)).2.1
    have p₅ := l₅.list (h' := h') (tk := tk) (by
      intro b m
      rcases List.mem_cons.mp m with rfl | m
      · exact hLn
      · rcases List.mem_cons.mp m with rfl | m
        · exact hDn
        · rw [List.mem_singleton.mp m]; exact hI) (.tail _ (.head _)) hD' ra (fun b o hb e => hk' b o (fun m => hb (.tail _ (.tail _ m))) e)
    obtain ⟨m', hn', _⟩ := l'.sim.loc C.pl.length (Pl.d _ (names.head hne)) (by
      show (C.pl ++ names.map (Pl.d _))[C.pl.length]? = _
      rw [List.getElem?_append_right (Nat.le_refl _), Nat.sub_self]
      cases names with
      | nil => exact absurd rfl hne
      | cons x r => rfl)
    have hLI : (s₂.heap.push (listOf #[] 0)).objs.size ≠ s₁.heap.objs.size := fun e => by
      obtain ⟨_, _, _, o, h⟩ := l₃.off s₁.heap.objs.size (.tail _ (.head _))
      have h' : (s₂.heap.push (listOf #[] 0)).get? s₁.heap.objs.size = some o := h
      rw [← e, get_size] at h'; cases h'
    have hLD : (s₂.heap.push (listOf #[] 0)).objs.size ≠ s₂.heap.objs.size := by rw [Heap.size_push]; exact Nat.succ_ne_self _
    have hσL : (if (s₂.heap.push (listOf #[] 0)).objs.size = s₂.heap.objs.size then some (AO.list acc) else σ' (s₂.heap.push (listOf #[] 0)).objs.size) = none := by rw [if_neg hLD]; exact hLo.2
    have hNs := hn'.at' (h' := h') fun o e => hk' _ o (by simpa using hLI) e
    exact fin _ _ F₁ st₁ s₁ F' _ _ p₁ (p₅.hide hLo.1 hσL hL (let ⟨o, _, _, e, _⟩ := hNs; ⟨o, e⟩)) hLn (q' _ hσD) ⟨m', hNs⟩
  exact codeAny_compStart_list key (g.walks.self 0 _ _ _ hS₄ key)

theorem ev_comp {elt t it : Expr} {ifs : List Expr} {scope : Scope} {pos : Pos} {cl : List (Str × Addr)} (names : List Str) {T : (V → S → Prop) → S → Prop} {Ta : AT} {Tc : (Bool → S → Prop) → S → Prop} {Te : (V → S → Prop) → S → Prop}
    (hclos : closureFor scope C.env = pure cl) (hcell : ∀ x ∈ scope.names, x.2 ≠ .cell) (hkind : scope.kind = .function) (hnames : ∀ x ∈ scope.names, x.2 = .local → scope.names.lookup x.1 = some .local)
    (hs : ∀ x, foldedSetIterable it C.env x = pure x) (hne : names ≠ []) (hnd : names.Nodup) (n : Nat) (hn : n = C.pl.length)
    (hi : Ev C it T) (ha : ∀ L, Asg (C.comp scope cl L names) t Ta) (hc : ∀ L, Tst (C.comp scope cl L names) ifs Tc) (he : ∀ L, Ev (C.comp scope cl L names) elt Te) :
    Ev C (.ListComp elt [⟨t, it, ifs, 0⟩] scope pos) (compW n T Ta Tc Te) := by
  subst hn
  intro E Q st F s _ k q
  refine comp_run (use := none) hclos hcell hkind hnames hs hne hnd hi ha hc he k q fun D L F₁ st₁ s₁ F' st' s' p₁ l hL q' ⟨m, hn⟩ => ⟨m, hn, fun h' hs' => ?_⟩
  exact ⟨F', .ref D, st', p₁.trans (l.out (tk := s'.toks) (by intro b m; rw [List.mem_singleton.mp m]; exact hL) fun b o hb e => (hs'.2 b (by simpa using hb)).trans e), .ref _, q'⟩

theorem ex_assign_comp {elt t it : Expr} {y : Str} {py : Pos} {ifs : List Expr} {scope : Scope} {pos spos : Pos} {cl : List (Str × Addr)} (names : List Str) {T : (V → S → Prop) → S → Prop} {Ta Ty : AT} {Tc : (Bool → S → Prop) → S → Prop} {Te : (V → S → Prop) → S → Prop}
    (hsw : swapsWith (.ListComp elt [⟨t, it, ifs, 0⟩] scope pos) (some (.Name y py)) spos.line C.env = pure true)
    (hclos : closureFor scope C.env = pure cl) (hcell : ∀ x ∈ scope.names, x.2 ≠ .cell) (hkind : scope.kind = .function) (hnames : ∀ x ∈ scope.names, x.2 = .local → scope.names.lookup x.1 = some .local)
    (hs : ∀ x, foldedSetIterable it C.env x = pure x) (hne : names ≠ []) (hnd : names.Nodup) (n : Nat) (hn : n = C.pl.length)
    (hi : Ev C it T) (ha : ∀ L, Asg (C.comp scope cl L names) t Ta) (hc : ∀ L, Tst (C.comp scope cl L names) ifs Tc) (he : ∀ L, Ev (C.comp scope cl L names) elt Te) (hay : Asg C (.Name y py) Ty) :
    Ex C (.Assign [.Name y py] (.ListComp elt [⟨t, it, ifs, 0⟩] scope pos) spos) (fun Q => compW n T Ta Tc Te fun v => Ty v (Q .next)) := by
  subst hn
  intro E Q st F s _ k q
  rw [exec_Assign_Name_used _ _ _ _ hsw]
  refine wpAny_bind (wpAny_standAt (wpAny_bind ?_))
  show wpAny _ _ (do let _ ← comprehension (.ListComp elt [⟨t, it, ifs, 0⟩] scope pos) scope C.env _ (newList []) false (eval it C.env) (some (assign (.Name y py) C.env))) _ _ s
  refine wpAny_bind (comp_run (use := some (assign (.Name y py) C.env)) (Q := fun v => Ty v (Q .next)) hclos hcell hkind hnames hs hne hnd hi ha hc he k q fun D L F₁ st₁ s₁ F' st' s' p₁ l hL q' hm => ?_)
  obtain ⟨m, hn⟩ := hm
  show wpAny C.W.M C.A (assign (.Name y py) C.env (.ref D)) _ _ _
  refine (hay F' (.ref D) (.ref D) (.ref _)).then (Q := fun _ => Q .next) (.refl _) l.sim q' fun F₂ _ st₂ _ s₂ p₂ _ q₂ => ?_
  have hLo := l.off L (.head _)
  refine ⟨m, hn.at' fun o e => p₂.p.keep _ o e hLo.2.1 hLo.2.2.1, fun h' hs' => wpAny_pure (wpAny_pure ?_)⟩
  exact ⟨F₂, .next, st₂, p₁.trans ((l.step p₂).out (tk := s₂.toks) (by intro b m; rw [List.mem_singleton.mp m]; exact hL) fun b o hb e => (hs'.2 b (by simpa using hb)).trans e), .next, q₂⟩
end Mine

namespace Mine
open PySem PySem.W PyProof.Rows PySem.Calls

variable {C : Cx}

/-! ### new objects -/
theorem SimG.free {W : Wd} {F : Fz} {σ : St} {h : Heap} (g : SimG W F σ h) {a : Addr} (ha : h.get? a = none) : F a = none ∧ σ a = none := by
  constructor
  · cases e : F a with
    | none => rfl
    | some y => rw [g.fz _ _ e] at ha; cases ha
  · cases e : σ a with
    | none => rfl
    | some y => obtain ⟨o, h⟩ := (g.st _ _ e).2.there; rw [h] at ha; cases ha
/-- a new object of the store -/
theorem PostG.new {W : Wd} {F : Fz} {σ : St} {s : Shared} (g : SimG W F σ s.heap) {x : AO} {h' : Heap} {tk : Nat} {a : Addr} (ha : s.heap.get? a = none) (hk : ∀ b o, s.heap.get? b = some o → h'.get? b = some o) (hx : SO W F h' a x) :
    PostG [] W F σ s F (fun b => if b = a then some x else σ b) { s with heap := h', toks := tk } := by
  have z := g.free ha
  refine ⟨.refl _, ⟨g.base, fun b o e => hk b o (g.fz b o e), fun b y e => ?_⟩, fun b o e _ _ => hk b o e, fun b h => ?_, fun b h => .inl h, _, _, rfl⟩
  · by_cases hb : b = a
    · subst hb
      rw [if_pos rfl] at e; cases e
      exact ⟨z.1, hx⟩
    · rw [if_neg hb] at e
      exact ⟨(g.st b y e).1, (g.st b y e).2.mono (.refl _) fun o h => hk b o h⟩
  · by_cases hb : b = a
    · subst hb; exact .inr ⟨ha, by simp⟩
    · rw [if_neg hb] at h; exact .inl h
/-- a new frozen object -/
theorem PostG.frozen {W : Wd} {F : Fz} {σ : St} {s : Shared} (g : SimG W F σ s.heap) {o : Obj} {h' : Heap} {tk : Nat} {a : Addr} (ha : s.heap.get? a = none) (hk : ∀ b o, s.heap.get? b = some o → h'.get? b = some o) (ho : h'.get? a = some o) :
    PostG [] W F σ s (fun b => if b = a then some o else F b) σ { s with heap := h', toks := tk } := by
  have z := g.free ha
  have le : F.Le (fun b => if b = a then some o else F b) := fun b o' e => by
    have hb : b ≠ a := fun h => by rw [h, z.1] at e; cases e
    show (if b = a then _ else F b) = _
    rw [if_neg hb]; exact e
  refine ⟨le, ⟨fun b o' e => le _ _ (g.base b o' e), fun b o' e => ?_, fun b y e => ?_⟩, fun b o e _ _ => hk b o e, fun b h => .inl h, fun b h => ?_, _, _, rfl⟩
  · by_cases hb : b = a
    · subst hb
      rw [if_pos rfl] at e; cases e
      exact ho
    · rw [if_neg hb] at e
      exact hk b o' (g.fz b o' e)
  · have hb : b ≠ a := fun h => by rw [h, z.2] at e; cases e
    exact ⟨by show (if b = a then _ else F b) = none; rw [if_neg hb]; exact (g.st b y e).1, (g.st b y e).2.mono le fun o h => hk b o h⟩
  · by_cases hb : b = a
    · subst hb; exact .inr (.inr ⟨ha, by simp⟩)
    · rw [if_neg hb] at h; exact .inl h
/-- an object of the store changes -/
theorem PostG.change {W : Wd} {F : Fz} {σ : St} {s : Shared} (g : SimG W F σ s.heap) {x y : AO} {h' : Heap} {tk : Nat} {a : Addr} (ha : σ a = some x) (hk : ∀ b o, b ≠ a → s.heap.get? b = some o → h'.get? b = some o) (hy : SO W F h' a y) :
    PostG [] W F σ s F (fun b => if b = a then some y else σ b) { s with heap := h', toks := tk } := by
  have z := (g.st a x ha).1
  refine ⟨.refl _, ⟨g.base, fun b o e => hk b o (fun h => by rw [h, z] at e; cases e) (g.fz b o e), fun b u e => ?_⟩, fun b o e hb _ => hk b o (fun h => by rw [h, ha] at hb; cases hb) e, fun b h => ?_, fun b h => .inl h, _, _, rfl⟩
  · by_cases hb : b = a
    · subst hb
      rw [if_pos rfl] at e; cases e
      exact ⟨z, hy⟩
    · rw [if_neg hb] at e
      exact ⟨(g.st b u e).1, (g.st b u e).2.mono (.refl _) fun o h => hk b o hb h⟩
  · by_cases hb : b = a
    · subst hb; exact .inl (by rw [ha]; simp)
    · rw [if_neg hb] at h; exact .inl h
/-- an object of the store is frozen: a list -/
theorem PostG.freeze {W : Wd} {F : Fz} {σ : St} {s : Shared} (g : SimG W F σ s.heap) {xs : List V} {a : Addr} (ha : σ a = some (.list xs)) :
    ∃ F', PostG [] W F σ s F' (fun b => if b = a then none else σ b) s ∧ R F' (.list xs) (.ref a) := by
  obtain ⟨z, vs, n, ho, r⟩ := g.st a _ ha
  have le : F.Le (fun b => if b = a then some (listOf vs.toArray n) else F b) := fun b o' e => by
    have hb : b ≠ a := fun h => by rw [h, z] at e; cases e
    show (if b = a then _ else F b) = _
    rw [if_neg hb]; exact e
  refine ⟨_, ⟨le, ⟨fun b o' e => le _ _ (g.base b o' e), fun b o' e => ?_, fun b y e => ?_⟩, fun b o e _ _ => e, fun b h => ?_, fun b h => ?_, _, _, rfl⟩, .list (if_pos rfl) (r.mono le)⟩
  · by_cases hb : b = a
    · subst hb
      rw [if_pos rfl] at e; cases e
      exact ho
    · rw [if_neg hb] at e
      exact g.fz b o' e
  · by_cases hb : b = a
    · rw [if_pos hb] at e; cases e
    · rw [if_neg hb] at e
      exact ⟨by show (if b = a then _ else F b) = none; rw [if_neg hb]; exact (g.st b y e).1, (g.st b y e).2.mono le fun o h => h⟩
  · by_cases hb : b = a
    · rw [if_pos hb] at h; exact absurd rfl h
    · rw [if_neg hb] at h; exact .inl h
  · by_cases hb : b = a
    · subst hb; exact .inr (.inl (by rw [ha]; simp))
    · rw [if_neg hb] at h; exact .inl h

abbrev newWS (x : AO) (Q : V → S → Prop) (st : S) : Prop := ∀ a, st.σ a = none → Q (.ref a) (st.put a x)

/-- a list that is made -/
theorem made_list {F : Fz} {st : S} {s : Shared} {Q : V → S → Prop} {xs : List V} {vs : List Value} {n : Nat} (k : Sim C F st s.heap) (r : RAll F xs vs) (q : newWS (.list xs) Q st) :
    ∃ F' x st', Post C F st s F' st' { s with heap := s.heap.push (listOf vs.toArray n) } ∧ R F' x (.ref s.heap.objs.size) ∧ Q x st' :=
  ⟨F, .ref _, st.put s.heap.objs.size (.list xs), Post.ofG k (PostG.new (tk := s.toks) k.g get_size (fun _ _ e => Heap.get?_push_of_some _ e) ⟨vs, n, Heap.get?_push_size _ rfl, r⟩), .ref _, q _ (k.g.free get_size).2⟩
/-- a tuple that is made -/
theorem made_tuple {F : Fz} {st : S} {s : Shared} {Q : V → S → Prop} {xs : List V} {vs : List Value} {n : Nat} (k : Sim C F st s.heap) (r : RAll F xs vs) (q : Q (.tuple xs) st) :
    ∃ F' x st', Post C F st s F' st' { s with heap := s.heap.push (tupOf vs n) } ∧ R F' x (.ref s.heap.objs.size) ∧ Q x st' :=
  have p := PostG.frozen (o := tupOf vs n) (tk := s.toks) k.g get_size (fun _ _ e => Heap.get?_push_of_some _ e) (Heap.get?_push_size _ rfl)
  ⟨_, .tuple xs, st, Post.ofG k p, .tuple (if_pos rfl) (r.mono p.ext), q⟩

/-- an expression whose list is frozen at once -/
abbrev fzW (T : (V → S → Prop) → S → Prop) (Q : V → S → Prop) : S → Prop := T fun x st => ∃ a xs, x = .ref a ∧ st.σ a = some (.list xs) ∧ Q (.list xs) (st.del a)
theorem ev_freeze {e : Expr} {T : (V → S → Prop) → S → Prop} (h : Ev C e T) : Ev C e (fzW T) := by
  intro E Q st F s hF k q
  refine h.then hF k q fun F₁ x st₁ v s₁ p₁ r₁ ⟨a, xs, hx, ha, q₁⟩ => ?_
  subst hx
  obtain ⟨F₂, p₂, r₂⟩ := PostG.freeze p₁.sim.g ha
  cases r₁
  exact ⟨F₂, .list xs, st₁.del a, p₁.trans (Post.ofG p₁.sim p₂), r₂, q₁⟩

/-! ### displays -/
inductive EvAll (C : Cx) : List Expr → ((List V → S → Prop) → S → Prop) → Prop
  | nil : EvAll C [] (fun Q st => Q [] st)
  | cons {e : Expr} {es : List Expr} {T : (V → S → Prop) → S → Prop} {Ts : (List V → S → Prop) → S → Prop} : isStarred e = false → Ev C e T → EvAll C es Ts → EvAll C (e :: es) (fun Q => T fun x => Ts fun xs => Q (x :: xs))
theorem starEach_cons {e : Expr} {es : List Expr} {env : Env} (h : isStarred e = false) : starEach (e :: es) env = (false, eval e env) :: starEach es env := by
  cases e <;> first | rfl | exact absurd (show true = false from h) Bool.noConfusion
theorem EvAll.run {es : List Expr} {Ts : (List V → S → Prop) → S → Prop} (h : EvAll C es Ts) (pos : Pos) : Imp C F0 RAll (spliced (backTo pos (starEach es C.env))) Ts := by
  induction h with
  | nil => exact fun E Q st F s _ k q => wpAny_pure ⟨F, [], st, .refl k, .nil, q⟩
  | @cons e es T Ts hs he _ ih =>
    intro E Q st F s hF k q
    rw [starEach_cons hs]
    show wpAny _ _ (do let v ← eval e C.env; let here ← (pure [v] : Sem (List Value)); return here ++ (← holding here (spliced (backTo pos (starEach es C.env))))) _ _ _
    refine wpAny_bind (he.then hF k q fun F₁ x st₁ v s₁ p₁ r₁ q₁ => ?_)
    refine wpAny_bind (wpAny_pure (wpAny_bind (wpAny_holding ?_)))
    exact ih.then (F0.le _) p₁.sim q₁ fun F₂ xs st₂ vs s₂ p₂ r₂ q₂ => wpAny_pure ⟨F₂, x :: xs, st₂, p₁.trans p₂, .cons (r₁.mono p₂.ext) r₂, q₂⟩
theorem EvAll.len {es : List Expr} {Ts : (List V → S → Prop) → S → Prop} (h : EvAll C es Ts) : ∀ {Q : List V → S → Prop} {st : S}, True := fun {_ _} => trivial
theorem ev_list {es : List Expr} {pos : Pos} {Ts : (List V → S → Prop) → S → Prop} (h : EvAll C es Ts) : Ev C (.List es pos) (fun Q => Ts fun xs st => xs.length ≤ sizeLine ∧ newWS (.list xs) Q st) := by
  intro E Q st F s hF k q
  refine List_ ((h.run pos).then hF k q fun F₁ xs st₁ vs s₁ p₁ r₁ ⟨hsz, q₁⟩ => ?_)
  refine wpAny_newList ?_ (by rw [← r₁.length]; exact hsz)
  obtain ⟨F₂, x, st₂, p₂, r₂, q₂⟩ := made_list (n := 0) p₁.sim r₁ q₁
  exact ⟨F₂, x, st₂, p₁.trans p₂, r₂, q₂⟩
theorem ev_tuple {es : List Expr} {n : _} {pos : Pos} {Ts : (List V → S → Prop) → S → Prop} (h : EvAll C es Ts) : Ev C (.Tuple es n pos) (fun Q => Ts fun xs st => xs.length ≤ sizeLine ∧ Q (.tuple xs) st) := by
  intro E Q st F s hF k q
  refine Tuple_ ((h.run pos).then hF k q fun F₁ xs st₁ vs s₁ p₁ r₁ ⟨hsz, q₁⟩ => ?_)
  refine wpAny_newTuple ?_ (by rw [← r₁.length]; exact hsz)
  obtain ⟨F₂, x, st₂, p₂, r₂, q₂⟩ := made_tuple (n := 0) p₁.sim r₁ q₁
  exact ⟨F₂, x, st₂, p₁.trans p₂, r₂, q₂⟩

/-! ### lists at hand -/
def getL (st : S) : V → Option (List V)
  | .list xs => some xs
  | .ref a => match st.σ a with
    | some (.list xs) => some xs
    | _ => none
  | _ => none
theorem getL_ok {F : Fz} {st : S} {h : Heap} {x : V} {v : Value} {xs : List V} (k : Sim C F st h) (r : R F x v) (e : getL st x = some xs) : ∃ a vs n, v = .ref a ∧ h.get? a = some (listOf vs.toArray n) ∧ RAll F xs vs := by
  cases r with
  | @list a vs n ys ho rs => cases e; exact ⟨a, vs, n, rfl, k.g.fz _ _ ho, rs⟩
  | ref a =>
    simp only [getL] at e
    split at e
    · rename_i ys hs
      cases e
      obtain ⟨_, vs, n, ho, rs⟩ := k.g.st a _ hs
      exact ⟨a, vs, n, rfl, ho, rs⟩
    · cases e
  | _ => cases e

end Mine

namespace Mine
open PySem PySem.W PyProof.Rows PySem.Calls

variable {C : Cx}
abbrev PV := (V → S → Prop) → S → Prop
abbrev PB := (Bool → S → Prop) → S → Prop
abbrev RC : Fz → Bool → Value → Prop := fun _ z v => v = Value.bool z

/-- an int comes out, tokens alone go on -/
theorem int_out {F : Fz} {st : S} {s : Shared} {Q : V → S → Prop} {i : Int} {t n : Nat} (k : Sim C F st s.heap) (q : Q (.int i) st) : ∃ F' x st', Post C F st s F' st' { s with toks := n } ∧ R F' x (.int i t) ∧ Q x st' :=
  ⟨F, .int i, st, k.toks n, .int _ _, q⟩

/-! ### arithmetic -/
def addW (x y : V) (Q : V → S → Prop) (st : S) : Prop := match x, y with
  | .int i, .int j => Q (.int (i + j)) st
  | .bytes a, .bytes b => a.length + b.length ≤ 16777216 ∧ Q (.bytes (a ++ b)) st
  | x, y => ∃ xs ys, getL st x = some xs ∧ getL st y = some ys ∧ xs.length + ys.length ≤ sizeLine ∧ newWS (.list (xs ++ ys)) Q st
theorem add_lists_ok {F : Fz} {x y : V} {a b : Value} (rx : R F x a) (ry : R F y b) : Imp C F R (binaryOp .Add a b) (fun Q st => ∃ xs ys, getL st x = some xs ∧ getL st y = some ys ∧ xs.length + ys.length ≤ sizeLine ∧ newWS (.list (xs ++ ys)) Q st) := by
  rintro E Q st F' s hF k ⟨xs, ys, hx, hy, hsz, q⟩
  obtain ⟨l, vs, n, rfl, ho, rs⟩ := getL_ok k (rx.mono hF) hx
  obtain ⟨l', ws, m, rfl, ho', rs'⟩ := getL_ok k (ry.mono hF) hy
  have e : vs.toArray ++ ws.toArray = (vs ++ ws).toArray := by simp
  exact P.add_list ho ho' (by rw [e]; exact made_list (n := 0) k (rs.append rs') q) (by simp [← rs.length, ← rs'.length]; exact hsz)
theorem add_ok (F : Fz) (x y : V) (a b : Value) (rx : R F x a) (ry : R F y b) : Imp C F R (binaryOp .Add a b) (addW x y) := by
  have dflt := add_lists_ok (C := C) rx ry
  cases rx with
  | int i t =>
    cases ry with
    | int j u => exact fun E Q st F' s hF k q => add_int (int_out k q)
    | _ => exact dflt
  | bytes t hb =>
    rename_i b xs
    cases ry with
    | bytes u hc =>
      rename_i c ys
      rintro E Q st F' s hF k ⟨hsz, q⟩
      refine PySem.W.KBy.add_bytes (by rw [← hb, ← hc] at hsz; simpa using hsz) fun t' n => ⟨F', .bytes (xs ++ ys), st, k.toks n, .bytes _ ?_, q⟩
      unfold BytesAre at *
      simp [hb, hc]
    | _ => exact dflt
  | _ => exact dflt
abbrev intsW (P : Int → Int → Prop) (f : Int → Int → Int) (x y : V) (Q : V → S → Prop) (st : S) : Prop := ∃ i j, x = .int i ∧ y = .int j ∧ P i j ∧ Q (.int (f i j)) st
theorem ints_ok {op : Operator} {P : Int → Int → Prop} {f : Int → Int → Int}
    (h : ∀ (i j : Int) (t u : Tok) (A : Around) (E : Value → Shared → Prop) (Q : Value → Shared → Prop) (s : Shared), P i j → (∀ t' n, Q (.int (f i j) t') { s with toks := n }) → wpAny C.W.M A (binaryOp op (.int i t) (.int j u)) Q E s) (F : Fz) (x y : V) (a b : Value) (rx : R F x a) (ry : R F y b) :
    Imp C F R (binaryOp op a b) (intsW P f x y) := by
  rintro E Q st F' s hF k ⟨i, j, hx, hy, hp, q⟩
  subst hx; subst hy
  cases rx; cases ry
  exact h i j _ _ _ _ _ _ hp fun t' n => int_out k q
abbrev subW := intsW (fun _ _ => True) (· - ·)
theorem sub_ok (F : Fz) (x y : V) (a b : Value) (rx : R F x a) (ry : R F y b) : Imp C F R (binaryOp .Sub a b) (subW x y) := by
  refine ints_ok (C := C) ?_ F x y a b rx ry
  exact fun _ _ _ _ _ _ _ _ _ q => sub_int (q _ _)
abbrev andW := intsW (fun _ _ => True) Builtin.bitAnd
theorem and_ok (F : Fz) (x y : V) (a b : Value) (rx : R F x a) (ry : R F y b) : Imp C F R (binaryOp .BitAnd a b) (andW x y) := by
  refine ints_ok (C := C) ?_ F x y a b rx ry
  exact fun _ _ _ _ _ _ _ _ _ q => and_int (q _ _)
abbrev orW := intsW (fun _ _ => True) Builtin.bitOr
theorem or_ok (F : Fz) (x y : V) (a b : Value) (rx : R F x a) (ry : R F y b) : Imp C F R (binaryOp .BitOr a b) (orW x y) := by
  refine ints_ok (C := C) ?_ F x y a b rx ry
  exact fun _ _ _ _ _ _ _ _ _ q => or_int (q _ _)
abbrev fdivW := intsW (fun _ j => 0 < j ∧ j < 1073741824) (· / ·)
theorem fdiv_ok (F : Fz) (x y : V) (a b : Value) (rx : R F x a) (ry : R F y b) : Imp C F R (binaryOp .FloorDiv a b) (fdivW x y) := by
  refine ints_ok (C := C) ?_ F x y a b rx ry
  intro i j t u A E Q s hp q
  obtain ⟨h0, h1⟩ := hp
  refine floordiv_int (by omega) ?_ (.inl (PyProof.noPylong_small (by omega)))
  rw [Int.fdiv_eq_ediv_of_nonneg _ (Int.le_of_lt h0)]
  exact q _ _
abbrev modW := intsW (fun _ j => 0 < j) (· % ·)
theorem mod_ok (F : Fz) (x y : V) (a b : Value) (rx : R F x a) (ry : R F y b) : Imp C F R (binaryOp .Mod a b) (modW x y) := by
  refine ints_ok (C := C) ?_ F x y a b rx ry
  intro i j t u A E Q s hp q
  refine PyProof.Rows.mod_int (by omega) ?_
  rw [Int.fmod_eq_emod_of_nonneg _ (Int.le_of_lt hp)]
  exact q _ _
abbrev rshW := intsW (fun _ j => 0 ≤ j) (fun i j => i / 2 ^ j.toNat)
theorem rsh_ok (F : Fz) (x y : V) (a b : Value) (rx : R F x a) (ry : R F y b) : Imp C F R (binaryOp .RShift a b) (rshW x y) := by
  refine ints_ok (C := C) ?_ F x y a b rx ry
  intro i j t u A E Q s hp q
  refine rshift_int hp ?_
  rw [Int.fdiv_eq_ediv_of_nonneg _ (Int.pow_nonneg (by decide))]
  exact q _ _
abbrev lshW := intsW (fun i j => 0 ≤ j ∧ j ≤ 1000 ∧ i.natAbs < 2 ^ 64) (fun i j => i * 2 ^ j.toNat)
theorem lsh_ok (F : Fz) (x y : V) (a b : Value) (rx : R F x a) (ry : R F y b) : Imp C F R (binaryOp .LShift a b) (lshW x y) := by
  refine ints_ok (C := C) ?_ F x y a b rx ry
  exact fun i j t u A E Q s hp q =>
  lshift_int_small hp.1 (by omega) hp.2.2 (q _ _)
abbrev powW := intsW (fun i j => (i = 2 ∨ i = 3) ∧ 0 ≤ j ∧ j ≤ 1000) (fun i j => i ^ j.toNat)
theorem pow_ok (F : Fz) (x y : V) (a b : Value) (rx : R F x a) (ry : R F y b) : Imp C F R (binaryOp .Pow a b) (powW x y) := by
  refine ints_ok (C := C) ?_ F x y a b rx ry
  intro i j t u A E Q s hp q
  obtain ⟨hi, h0, h1⟩ := hp
  refine pow_int h0 ?_ (q _ _)
  have : Builtin.Int.intBits i = 2 := by rcases hi with rfl | rfl <;> decide +kernel
  rw [this]; omega
def mulW (x y : V) (Q : V → S → Prop) (st : S) : Prop := match x, y with
  | .int i, .int j => (-(2 ^ 62) < i ∧ i < 2 ^ 62) ∧ Q (.int (i * j)) st
  | x, .int j => ∃ z, getL st x = some [z] ∧ j ≤ 1000000 ∧ -1000000 ≤ j ∧ newWS (.list (List.replicate j.toNat z)) Q st
  | _, _ => False
theorem foldl_rep (u : Value) : ∀ (n : Nat) (acc : Array Value), List.foldl (fun x1 x2 => x1 ++ x2) acc (List.replicate n #[u]) = acc ++ (List.replicate n u).toArray
  | 0, acc => by simp
  | n + 1, acc => by
    rw [List.replicate_succ, List.foldl_cons, foldl_rep u n]
    apply Array.ext'
    simp [List.replicate_succ]
theorem RAll.replicate {F : Fz} {x : V} {v : Value} (r : R F x v) : ∀ n, RAll F (List.replicate n x) (List.replicate n v)
  | 0 => .nil
  | n + 1 => .cons r (RAll.replicate r n)
theorem mul_list_ok {F : Fz} {x : V} {j : Int} {u : Tok} {a : Value} (rx : R F x a) : Imp C F R (binaryOp .Mult a (.int j u)) (fun Q st => ∃ z, getL st x = some [z] ∧ j ≤ 1000000 ∧ -1000000 ≤ j ∧ newWS (.list (List.replicate j.toNat z)) Q st) := by
  rintro E Q st F' s hF k ⟨z, hx, h1, h2, q⟩
  obtain ⟨l, vs, n, rfl, ho, rs⟩ := getL_ok k (rx.mono hF) hx
  cases rs with
  | @cons z v zs ws r rs =>
  cases rs
  refine wpAny_binaryOp_repeat_ref (T := "list") (U := "int") (by decide) ⟨_, ho, rfl⟩ (fun s' => typeIs_int s' j u) noFill_list_mul PySem.F.fills_int_mul PySem.F.slot_int_rmul repeat_list PySem.F.slot_int_index.lookup
    (call_meets PySem.F.slot_int_rmul (typeIs_int s j u) PySem.F.entry_int_rmul (PySem.F.args_int_rmul_2 _ _) (int___rmul___int_list j u l [v].toArray n)
      ⟨ho, rfl, ⟨_, ho, rfl⟩, call_meets PySem.F.slot_list_mul ⟨_, ho, rfl⟩ PySem.F.entry_list_mul (PySem.F.args_list_mul_2 _ _)
        (AutoListH.list___mul___list_int_3 l [v].toArray n j u (by simp [Builtin.List.listFitsIndex]; omega) (by simp; omega) (by simp [Builtin.List.listTooLong, sizeLine]; omega))
        ⟨ho, ?_⟩⟩)
  have e : List.foldl (fun x1 x2 => x1 ++ x2) #[] (List.replicate (if [v].toArray.isEmpty = true then 0 else j.toNat) [v].toArray) = (List.replicate j.toNat v).toArray := by
    have := foldl_rep v j.toNat #[]
    simpa using this
  show ∃ F' x st', _
  rw [e]
  exact made_list (n := 0) k (RAll.replicate r j.toNat) q
end Mine

namespace Mine
open PySem PySem.W PyProof.Rows PySem.Calls

variable {C : Cx}

theorem mul_ok (F : Fz) (x y : V) (a b : Value) (rx : R F x a) (ry : R F y b) : Imp C F R (binaryOp .Mult a b) (mulW x y) := by
  cases ry with
  | int j u =>
    have dflt := mul_list_ok (C := C) (j := j) (u := u) rx
    cases rx with
    | int i t =>
      rintro E Q st F' s hF k ⟨⟨h1, h2⟩, q⟩
      exact mul_int (int_out k q) (IntMulOk.of_left (intBits_le_64 (by omega) (by omega)))
    | _ => exact dflt
  | _ => intro E Q st F' s hF k q; cases rx <;> exact q.elim
theorem neg_ok (F : Fz) (x : V) (a : Value) (rx : R F x a) : Imp C F R (unaryOp .USub a) (fun Q st => ∃ i, x = .int i ∧ Q (.int (-i)) st) := by
  rintro E Q st F' s hF k ⟨i, hx, q⟩
  subst hx
  cases rx
  exact neg_int (int_out k q)

/-! ### truth -/
def truW (x : V) (Q : Bool → S → Prop) (st : S) : Prop := match x with
  | .bool b => Q b st
  | .int i => Q (i != 0) st
  | x => ∃ xs, getL st x = some xs ∧ xs.length ≤ sizeLine ∧ Q (!xs.isEmpty) st
theorem tru_ok (F : Fz) (x : V) (a : Value) (rx : R F x a) : Imp C F RB (truthy a) (truW x) := by
  have dflt : Imp C F RB (truthy a) (fun Q st => ∃ xs, getL st x = some xs ∧ xs.length ≤ sizeLine ∧ Q (!xs.isEmpty) st) := by
    rintro E Q st F' s hF k ⟨xs, hx, hsz, q⟩
    obtain ⟨l, vs, n, rfl, ho, rs⟩ := getL_ok k (rx.mono hF) hx
    have hl := rs.length
    refine wpAny_truthy_list (PySem.IsL.isList (n := n) ho) (by simp [← hl]; unfold sizeLine at hsz; omega) ⟨F', _, st, k.toks _, ?_, q⟩
    cases xs <;> cases vs <;> simp_all
  cases rx with
  | bool b => exact fun E Q st F' s hF k q => wpAny_truthy_bool ⟨F', b, st, .refl k, rfl, q⟩
  | int i t => exact fun E Q st F' s hF k q => truthy_int ⟨F', _, st, .refl k, rfl, q⟩
  | _ => exact dflt
theorem evT_val {e : Expr} {T : PV} (h : Ev C e T) (he : ∀ w : Sem Value, PySem.isTrue e C.env w = (do let v ← w; standAt e.pos; holding [v] (truthy v)) := by intro _; rfl) : EvT C e (fun Q => T fun x => truW x Q) := by
  intro E Q st F s hF k q
  refine wpAny_isTrue_value (h.then hF k q fun F₁ x st₁ a s₁ p₁ ra q₁ => ?_) (he _)
  exact (tru_ok F₁ x a ra).then (.refl _) p₁.sim q₁ fun F₂ z st₂ v s₂ p₂ rz q₂ => ⟨F₂, z, st₂, p₁.trans p₂, rz, q₂⟩

/-! ### data for == and in -/
def toPy (σ : St) : Nat → V → Option PyData
  | _, .none => some .none
  | _, .int i => some (.int i)
  | n + 1, .tuple xs => (xs.mapM (toPy σ n)).map .tuple
  | n + 1, .list xs => (xs.mapM (toPy σ n)).map .list
  | n + 1, .ref a => match σ a with
    | some (.list xs) => (xs.mapM (toPy σ n)).map .list
    | _ => none
  | _, _ => none
theorem mapM_cons' {α β : Type} {f : α → Option β} {x : α} {xs : List α} {ds : List β} (h : (x :: xs).mapM f = some ds) : ∃ d r, ds = d :: r ∧ f x = some d ∧ xs.mapM f = some r := by
  rw [List.mapM_cons] at h
  cases e : f x with
  | none => rw [e] at h; cases h
  | some d =>
    rw [e] at h
    cases e' : xs.mapM f with
    | none => simp [e'] at h
    | some r => simp [e'] at h; exact ⟨d, r, h.symm, rfl, rfl⟩
theorem toPy_all {F : Fz} {h : Heap} {f : V → Option PyData} {n : Nat} (hf : ∀ {x v d}, R F x v → f x = some d → (∃ as, Reads h v d as) ∧ d.canLay0 = true ∧ d.depth ≤ n) :
    ∀ {xs : List V} {vs : List Value} {ds : List PyData}, RAll F xs vs → xs.mapM f = some ds → (∃ as, ReadsAll h vs ds as) ∧ PyData.canLayAll0 ds = true ∧ PyData.depthAll ds ≤ n := by
  intro xs
  induction xs with
  | nil => intro vs ds h e; cases h; cases e; exact ⟨⟨_, .nil⟩, rfl, Nat.zero_le _⟩
  | cons x xs ih =>
    intro vs ds h e
    cases h with
    | cons r rs =>
      obtain ⟨d, r', rfl, e1, e2⟩ := mapM_cons' e
      obtain ⟨⟨as, a⟩, b, c⟩ := hf r e1
      obtain ⟨⟨bs, a'⟩, b', c'⟩ := ih rs e2
      exact ⟨⟨_, .cons a a'⟩, by simp [PyData.canLayAll0, b, b'], by simp [PyData.depthAll]; omega⟩
theorem toPy_ok {F : Fz} {st : S} {h : Heap} (k : Sim C F st h) : ∀ {n : Nat} {x : V} {v : Value} {d : PyData}, R F x v → toPy st.σ n x = some d → (∃ as, Reads h v d as) ∧ d.canLay0 = true ∧ d.depth ≤ n
  | n, _, _, _, .none, e => by cases n <;> (cases e; exact ⟨⟨_, .none⟩, rfl, Nat.zero_le _⟩)
  | n, _, _, _, .int i t, e => by cases n <;> (cases e; exact ⟨⟨_, .int _ _⟩, rfl, Nat.zero_le _⟩)
  | n, _, _, _, .bool _, e => by cases n <;> cases e
  | n, _, _, _, .bytes _ _, e => by cases n <;> cases e
  | n, _, _, _, .range _, e => by cases n <;> cases e
  | n, _, _, _, .raw _, e => by cases n <;> cases e
  | 0, _, _, _, .tuple _ _, e => by cases e
  | 0, _, _, _, .list _ _, e => by cases e
  | 0, _, _, _, .ref _, e => by cases e
  | n + 1, _, _, d, .tuple (xs := xs) ho rs, e => by
    simp only [toPy] at e
    obtain ⟨ds, e1, rfl⟩ := Option.map_eq_some_iff.mp e
    obtain ⟨⟨as, a⟩, b, c⟩ := toPy_all (fun {x v d} r e => toPy_ok k (n := n) r e) rs e1
    exact ⟨⟨_, .tuple (k.g.fz _ _ ho) rfl rfl (by simpa using a)⟩, b, Nat.succ_le_succ c⟩
  | n + 1, _, _, d, .list (xs := xs) ho rs, e => by
    simp only [toPy] at e
    obtain ⟨ds, e1, rfl⟩ := Option.map_eq_some_iff.mp e
    obtain ⟨⟨as, a⟩, b, c⟩ := toPy_all (fun {x v d} r e => toPy_ok k (n := n) r e) rs e1
    exact ⟨⟨_, .list (k.g.fz _ _ ho) rfl rfl (by simpa using a)⟩, b, Nat.succ_le_succ c⟩
  | n + 1, _, _, d, .ref a, e => by
    simp only [toPy] at e
    split at e
    · rename_i xs hs
      obtain ⟨ds, e1, rfl⟩ := Option.map_eq_some_iff.mp e
      obtain ⟨_, vs, m, ho, rs⟩ := k.g.st a _ hs
      obtain ⟨⟨as, a⟩, b, c⟩ := toPy_all (fun {x v d} r e => toPy_ok k (n := n) r e) rs e1
      exact ⟨⟨_, .list ho rfl rfl (by simpa using a)⟩, b, Nat.succ_le_succ c⟩
    · cases e
abbrev dataW (f : PyData → PyData → Bool) (x y : V) (Q : Bool → S → Prop) (st : S) : Prop := ∃ d e, toPy st.σ 8 x = some d ∧ toPy st.σ 8 y = some e ∧ Q (f d e) st
abbrev eqW := dataW PyData.eqv
abbrev neW := dataW fun d e => !PyData.eqv d e
theorem shaped_of {d : PyData} (h1 : d.canLay0 = true) (h2 : d.depth ≤ 8) : SeqAt.shaped d = true := by
  unfold SeqAt.shaped; rw [h1, Bool.true_and]; exact decide_eq_true (Nat.le_trans h2 (by decide))
theorem eq_ok (F : Fz) (x y : V) (a b : Value) (rx : R F x a) (ry : R F y b) : Imp C F RC (compareOp .Eq a b) (eqW x y) := by
  rintro E Q st F' s hF k ⟨d, e, hd, he, q⟩
  obtain ⟨⟨as, ra⟩, la, da⟩ := toPy_ok k (rx.mono hF) hd
  obtain ⟨⟨bs, rb⟩, lb, db⟩ := toPy_ok k (ry.mono hF) he
  exact eq_dataH ra rb (shaped_of la da) (shaped_of lb db) (by have := k.ok.units; omega) ⟨F', _, st, .refl k, rfl, q⟩
theorem ne_ok (F : Fz) (x y : V) (a b : Value) (rx : R F x a) (ry : R F y b) : Imp C F RC (compareOp .NotEq a b) (neW x y) := by
  rintro E Q st F' s hF k ⟨d, e, hd, he, q⟩
  obtain ⟨⟨as, ra⟩, la, da⟩ := toPy_ok k (rx.mono hF) hd
  obtain ⟨⟨bs, rb⟩, lb, db⟩ := toPy_ok k (ry.mono hF) he
  exact ne_dataH ra rb (shaped_of la da) (shaped_of lb db) (by have := k.ok.units; omega) ⟨F', _, st, .refl k, rfl, q⟩
abbrev notInW (x y : V) (Q : Bool → S → Prop) (st : S) : Prop := ∃ d es, toPy st.σ 8 x = some d ∧ toPy st.σ 8 y = some (.list es) ∧ Q (!es.any fun z => PyData.eqv z d) st
theorem notIn_ok (F : Fz) (x y : V) (a b : Value) (rx : R F x a) (ry : R F y b) : Imp C F RC (compareOp .NotIn a b) (notInW x y) := by
  rintro E Q st F' s hF k ⟨d, e, hd, he, q⟩
  obtain ⟨⟨as, ra⟩, la, da⟩ := toPy_ok k (rx.mono hF) hd
  obtain ⟨⟨bs, rb⟩, lb, db⟩ := toPy_ok k (ry.mono hF) he
  refine SeqAt.notIn_list_reads rb ra lb la ?_ ⟨F', _, st, .refl k, rfl, q⟩
  have := k.ok.units
  have := Nat.min_le_right (PyData.depthAll e) d.depth
  omega

/-! ### order -/
theorem icmp_ok {op : CmpOp} {f : Int → Int → Bool}
    (h : ∀ (i j : Int) (t u : Tok) (A : Around) (E : Value → Shared → Prop) (Q : Value → Shared → Prop) (s : Shared), Q (.bool (f i j)) s → wpAny C.W.M A (compareOp op (.int i t) (.int j u)) Q E s) (F : Fz) (x y : V) (a b : Value) (rx : R F x a) (ry : R F y b) :
    Imp C F RC (compareOp op a b) (fun Q st => ∃ i j, x = .int i ∧ y = .int j ∧ Q (f i j) st) := by
  rintro E Q st F' s hF k ⟨i, j, hx, hy, q⟩
  subst hx; subst hy
  cases rx; cases ry
  exact h i j _ _ _ _ _ _ ⟨F', _, st, .refl k, rfl, q⟩
abbrev icmpW (f : Int → Int → Bool) (x y : V) (Q : Bool → S → Prop) (st : S) : Prop := ∃ i j, x = .int i ∧ y = .int j ∧ Q (f i j) st
theorem le_ok (F : Fz) (x y : V) (a b : Value) (rx : R F x a) (ry : R F y b) : Imp C F RC (compareOp .LtE a b) (icmpW (fun i j => decide (i ≤ j)) x y) := icmp_ok (fun _ _ _ _ _ _ _ _ q => PyProof.Rows.le_int q) F x y a b rx ry
theorem gt_ok (F : Fz) (x y : V) (a b : Value) (rx : R F x a) (ry : R F y b) : Imp C F RC (compareOp .Gt a b) (icmpW (fun i j => decide (j < i)) x y) := icmp_ok (fun _ _ _ _ _ _ _ _ q => PyProof.Rows.gt_int q) F x y a b rx ry
theorem ge_ok (F : Fz) (x y : V) (a b : Value) (rx : R F x a) (ry : R F y b) : Imp C F RC (compareOp .GtE a b) (icmpW (fun i j => decide (j ≤ i)) x y) := icmp_ok (fun _ _ _ _ _ _ _ _ q => PyProof.Rows.ge_int q) F x y a b rx ry
/-! tuples of ints, the lesser first -/
def lexLt : List Int → List Int → Bool
  | [], [] => false
  | [], _ :: _ => true
  | _ :: _, [] => false
  | x :: xs, y :: ys => if x == y then lexLt xs ys else decide (x < y)
inductive IntsV : List V → List Int → Prop
  | nil : IntsV [] []
  | cons {i : Int} {xs : List V} {is : List Int} : IntsV xs is → IntsV (.int i :: xs) (i :: is)
def intsOf : List V → Option (List Int)
  | [] => some []
  | .int i :: r => (intsOf r).map (i :: ·)
  | _ :: _ => none
theorem intsOf_all {F : Fz} : ∀ {xs : List V} {vs : List Value} {is : List Int}, RAll F xs vs → intsOf xs = some is → IntsAre vs is := by
  intro xs
  induction xs with
  | nil => intro vs is h e; cases h; cases e; exact .nil
  | cons x xs ih =>
    intro vs is h e
    cases h with
    | cons r rs =>
      cases x with
      | int i =>
        cases r
        simp only [intsOf] at e
        obtain ⟨js, e1, rfl⟩ := Option.map_eq_some_iff.mp e
        exact .cons _ _ (ih rs e1)
      | _ => simp [intsOf] at e
theorem tuple_lt_tree {prog : Program} {w : World} {A : Around} {E : Value → Shared → Prop} {s : Shared} {is js : List Int} {a b : Addr} {vs ws : List Value} {n m : Nat} {P : Fin → Shared → Prop} (ha : s.heap.get? a = some (tupOf vs n)) (hb : s.heap.get? b = some (tupOf ws m)) (hi : IntsAre vs is) (hj : IntsAre ws js) (hl : is.length = js.length)
    (h : P (.done (.ret (.bool (lexLt is js)))) s) : wpAny (model prog w) A (Builtin.«tuple.__lt__» ⟨[.ref a, .ref b], []⟩) P E s := by
  show wpAny _ _ (isInstance (.ref b) (.type "tuple") >>= _) _ _ s
  refine wpAny_bind (wpAny_isInstance (T := "tuple") ⟨_, hb, rfl⟩ isSubtype_tuple_tuple ?_)
  simp only [Bool.not_true, Bool.false_eq_true, if_false]
  refine wpAny_bind (wpAny_tupleItemsOf ha rfl ?_)
  refine wpAny_bind (wpAny_tupleItemsOf hb rfl ?_)
  refine wpAny_bind ?_
  refine wpAny_forIn_list _
    (fun rest r s' => r.1 = none ∧ s' = s ∧ ∃ x' y' xs' ys', rest = List.zip xs' ys' ∧ IntsAre xs' x' ∧ IntsAre ys' y' ∧ lexLt x' y' = lexLt is js ∧ x'.length = y'.length)
    _ ?_ ?_ _ _ ⟨rfl, rfl, is, js, vs, ws, by simp, hi, hj, rfl, hl⟩
  · rintro ⟨u, v⟩ rest r s' ⟨hr, rfl, x', y', xs', ys', hz, hx', hy', hdec, hlen⟩
    cases hx' with
    | nil => simp at hz
    | @cons k1 t1 xs'' x'' hx'' =>
      cases hy' with
      | nil => simp at hz
      | @cons k2 t2 ys'' y'' hy'' =>
        simp only [List.zip_cons_cons, List.cons.injEq, Prod.mk.injEq] at hz
        obtain ⟨⟨rfl, rfl⟩, rfl⟩ := hz
        refine wpAny_bind (wpAny_eqBool_int ?_)
        simp only [lexLt] at hdec
        by_cases hk : k1 = k2
        · subst hk
          simp only [beq_self_eq_true, Bool.not_true, Bool.false_eq_true, if_false, if_true] at hdec ⊢
          exact wpAny_pure ⟨rfl, rfl, x'', y'', xs'', ys'', rfl, hx'', hy'', hdec, by simpa using hlen⟩
        · have hk' : (k1 == k2) = false := by simpa using hk
          rw [hk'] at hdec
          simp only [hk', Bool.not_false, if_true, Bool.false_eq_true, if_false] at hdec ⊢
          refine wpAny_bind (wpAny_rule (wpAny_bind (show wpAny _ _ (compareOp .Lt (.int k1 t1) (.int k2 t2)) _ _ _ from PyProof.Rows.lt_int ?_)))
          rw [← hdec] at h
          exact wpAny_bind (wpAny_pure (wpAny_pure (wpAny_pure h)))
  · rintro ⟨r1, r2⟩ s' ⟨hr, rfl, x', y', xs', ys', hz, hx', hy', hdec, hlen⟩
    simp only at hr
    subst hr
    refine wpAny_pure ?_
    have e : x' = [] ∧ y' = [] := by
      cases hx' with
      | nil =>
        cases hy' with
        | nil => exact ⟨rfl, rfl⟩
        | cons _ _ _ => simp at hlen
      | cons _ _ _ =>
        cases hy' with
        | nil => simp at hlen
        | cons _ _ _ => simp at hz
    obtain ⟨rfl, rfl⟩ := e
    show P (.done (.ret (.bool (decide (vs.toArray.size < ws.toArray.size))))) s'
    rw [← hdec] at h
    have e1 := hi.length
    have e2 := hj.length
    rw [decide_eq_false (by simp; omega)]
    exact h
def ltW (x y : V) (Q : Bool → S → Prop) (st : S) : Prop := match x, y with
  | .int i, .int j => Q (decide (i < j)) st
  | .tuple xs, .tuple ys => ∃ is js, intsOf xs = some is ∧ intsOf ys = some js ∧ is.length = js.length ∧ Q (lexLt is js) st
  | _, _ => False
theorem lt_ok (F : Fz) (x y : V) (a b : Value) (rx : R F x a) (ry : R F y b) : Imp C F RC (compareOp .Lt a b) (ltW x y) := by
  cases rx with
  | int i t =>
    cases ry with
    | int j u => exact fun E Q st F' s hF k q => PyProof.Rows.lt_int ⟨F', _, st, .refl k, rfl, q⟩
    | _ => exact fun E Q st F' s hF k q => q.elim
  | tuple ha rs =>
    cases ry with
    | tuple hb rs' =>
      rintro E Q st F' s hF k ⟨is, js, hi, hj, hl, q⟩
      have ha' := k.g.fz _ _ (hF _ _ ha)
      have hb' := k.g.fz _ _ (hF _ _ hb)
      refine wpAny_richCompare_same_or (op := .Lt) (T := "tuple") ⟨_, ha', rfl⟩ ⟨_, hb', rfl⟩ PySem.F.slot_tuple_lt (wpAny_call_entry PySem.F.slot_tuple_lt ⟨_, ha', rfl⟩ PySem.F.entry_tuple_lt ?_ (PySem.F.args_tuple_lt_2 _ _)) (.inr (by have := k.ok.units; omega))
      exact tuple_lt_tree ha' hb' (intsOf_all rs hi) (intsOf_all rs' hj) hl ⟨_, rfl, (fun z => nomatch z), F', _, st, .refl k, rfl, q⟩
    | _ => exact fun E Q st F' s hF k q => q.elim
  | _ => exact fun E Q st F' s hF k q => q.elim
/-! ### is -/
inductive IsV : V → V → Bool → Prop
  | nn : IsV .none .none true
  | bn (b : Bool) : IsV (.bool b) .none false
  | yn (b : List Int) : IsV (.bytes b) .none false
  | tt (a b : String) : IsV (.raw (.type a)) (.raw (.type b)) (Value.type a == Value.type b)
abbrev isW (x y : V) (Q : Bool → S → Prop) (st : S) : Prop := ∃ b, IsV x y b ∧ Q b st
abbrev isNotW (x y : V) (Q : Bool → S → Prop) (st : S) : Prop := ∃ b, IsV x y b ∧ Q (!b) st
theorem isV_ok {F : Fz} {x y : V} {a b : Value} {z : Bool} (rx : R F x a) (ry : R F y b) (h : IsV x y z) : plainIs a b = true ∧ (a == b) = z := by
  cases h with
  | nn => cases rx; cases ry; exact ⟨rfl, rfl⟩
  | bn b => cases rx; cases ry; exact ⟨rfl, rfl⟩
  | yn b => cases rx; cases ry; exact ⟨rfl, rfl⟩
  | tt a b => cases rx; cases ry; exact ⟨rfl, rfl⟩
theorem is_ok (F : Fz) (x y : V) (a b : Value) (rx : R F x a) (ry : R F y b) : Imp C F RC (compareOp .Is a b) (isW x y) := by
  rintro E Q st F' s hF k ⟨z, hz, q⟩
  obtain ⟨h1, h2⟩ := isV_ok rx ry hz
  exact wpAny_is_plain h1 ⟨F', z, st, .refl k, by rw [h2], q⟩
theorem isNot_ok (F : Fz) (x y : V) (a b : Value) (rx : R F x a) (ry : R F y b) : Imp C F RC (compareOp .IsNot a b) (isNotW x y) := by
  rintro E Q st F' s hF k ⟨z, hz, q⟩
  obtain ⟨h1, h2⟩ := isV_ok rx ry hz
  exact wpAny_isNot_plain h1 ⟨F', !z, st, .refl k, by rw [h2], q⟩
end Mine

namespace Mine
open PySem PySem.W PyProof.Rows PySem.Calls

variable {C : Cx}

/-! ### items read -/
def getW (x i : V) (Q : V → S → Prop) (st : S) : Prop := match x, i with
  | .tuple xs, .int k => 0 ≤ k ∧ k < 1000000 ∧ ∃ z, xs[k.toNat]? = some z ∧ Q z st
  | .bytes b, .int k => 0 ≤ k ∧ b.length ≤ 1000000 ∧ ∃ z, b[k.toNat]? = some z ∧ Q (.int z) st
  | x, .int k => (∃ xs, getL st x = some xs ∧ 0 ≤ k ∧ k < 1000000 ∧ ∃ z, xs[k.toNat]? = some z ∧ Q z st) ∨ False
  | _, _ => False
theorem seqIndex_nat {k : Int} {n : Nat} (h0 : 0 ≤ k) (h1 : k.toNat < n) : seqIndex? k n = some k.toNat := by
  unfold seqIndex?
  have : ¬ k < 0 := by omega
  simp [this]
  omega
/-- reading at an int: the type has a built-in __getitem__, and the reading goes so -/
theorem get_ok {x : V} {k : Int} {a : Value} {t : Tok} {F : Fz} (rx : R F x a) {E : Value → Shared → Prop} {Q : V → S → Prop} {st : S} {F' : Fz} {s : Shared} (hF : F.Le F') (sim : Sim C F' st s.heap) (q : getW x (.int k) Q st) :
    ∃ T id, s.TypeIs a T ∧ typeLookup (.type T) "__getitem__" = pure (some (.builtin id)) ∧
      wpAny C.W.M C.A (getItem a (.int k t)) (fun v s' => ∃ F'' z st', Post C F' st s F'' st' s' ∧ R F'' z v ∧ Q z st') E s := by
  have dflt : (∃ xs, getL st x = some xs ∧ 0 ≤ k ∧ k < 1000000 ∧ ∃ z, xs[k.toNat]? = some z ∧ Q z st) ∨ False → ∃ T id, s.TypeIs a T ∧ typeLookup (.type T) "__getitem__" = pure (some (.builtin id)) ∧
      wpAny C.W.M C.A (getItem a (.int k t)) (fun v s' => ∃ F'' z st', Post C F' st s F'' st' s' ∧ R F'' z v ∧ Q z st') E s := by
    rintro (⟨xs, hx, h0, h1, z, hz, q⟩ | z)
    · obtain ⟨l, vs, n, rfl, ho, rs⟩ := getL_ok sim (rx.mono hF) hx
      obtain ⟨v, hv, r⟩ := rs.get hz
      have hl := PySem.IsL.isList (n := n) ho
      exact ⟨"list", _, hl.typeIs, PySem.F.slot_list_getitem.lookup, wpAny_getItem_list hl h0 (by omega) (by simpa using hv) ⟨F', z, st, .refl sim, r, q⟩⟩
    · exact z.elim
  cases rx with
  | tuple e rs =>
    obtain ⟨h0, h1, z, hz, q⟩ := q
    have ho := sim.g.fz _ _ (hF _ _ e)
    obtain ⟨v, hv, r⟩ := (rs.mono hF).get hz
    have hlt := (List.getElem?_eq_some_iff.mp hv).1
    exact ⟨"tuple", _, ⟨_, ho, rfl⟩, PySem.F.slot_tuple_getitem.lookup, PyProof.Rows.getItem_tuple (j := k.toNat) ⟨_, ho, rfl, _, rfl⟩ (by omega) (by omega) (seqIndex_nat h0 (by simpa using hlt)) (by simpa using hv) ⟨F', z, st, .refl sim, r, q⟩⟩
  | bytes u hb =>
    rename_i b bs
    obtain ⟨h0, h1, z, hz, q⟩ := q
    have hlen : bs.length = b.toList.length := by rw [← hb]; simp
    have hlt := (List.getElem?_eq_some_iff.mp hz).1
    refine ⟨"bytes", _, rfl, FB.slot_bytes_getitem.lookup, ?_⟩
    have := getItem_bytes (prog := C.W.prog) (w := C.W.w) (A := C.A) (E := E) (s := s) (t := u) (u := t) (l := b.toList) (i := k) (Q := fun v s' => ∃ F'' z st', Post C F' st s F'' st' s' ∧ R F'' z v ∧ Q z st') (by omega) h0 (by omega) ?_
    · simpa using this
    · refine ⟨F', .int z, st, sim.toks _, ?_, q⟩
      have e : z = ((b.toList.getD k.toNat 0).toNat : Int) := by
        rw [← hb] at hz
        simp only [List.getElem?_map] at hz
        obtain ⟨c, hc, rfl⟩ := Option.map_eq_some_iff.mp hz
        rw [List.getD_eq_getElem?_getD, hc]; rfl
      rw [e]; exact .int _ _
  | _ => exact dflt q
theorem ev_item {o i : Expr} {pos : Pos} {T₁ T₂ : PV} (h₁ : Ev C o T₁) (h₂ : Ev C i T₂) (hs : ∀ a b, subscripted i false a b = operate [a, b] (getItem a b) := by intro _ _; rfl) : Ev C (.Subscript o i pos) (fun Q => T₁ fun x => T₂ fun y st => ∃ k, y = .int k ∧ getW x (.int k) Q st) := by
  intro E Q st F s hF k q
  refine Subscript_ (h₁.then hF k q fun F₁ x st₁ a s₁ p₁ ra q₁ => h₂.then (F0.le _) p₁.sim q₁ fun F₂ y st₂ b s₂ p₂ rb q₂ => ?_)
  obtain ⟨n, rfl, q₂⟩ := q₂
  cases rb with
  | int _ t =>
    obtain ⟨Ty, id, hT, hl, hg⟩ := get_ok (E := E) (t := t) ra p₂.ext p₂.sim q₂
    exact tail_any hT hl (wpAny_mono hg (fun v s₃ ⟨F₃, z, st₃, p₃, rz, q₃⟩ => ⟨F₃, z, st₃, p₁.trans (p₂.trans p₃), rz, q₃⟩) fun _ _ e => e) (hs _ _)
end Mine

namespace Mine
open PySem PySem.W PyProof.Rows PySem.Calls

variable {C : Cx}

/-! ### items stored -/
def putW (x i v : V) (K : S → Prop) (st : S) : Prop := ∃ a k, x = .ref a ∧ i = .int k ∧
  ((∃ xs, st.σ a = some (.list xs) ∧ 0 ≤ k ∧ k < 1000000 ∧ k.toNat < xs.length ∧ K (st.put a (.list (xs.set k.toNat v)))) ∨
   False)
theorem put_ok {F : Fz} {x i v : V} {a b c : Value} (rx : R F x a) (ri : R F i b) (rv : R F v c) : Imp C F RU (setItem a b c) (fun Q => putW x i v (Q ())) := by
  rintro E Q st F' s hF k ⟨d, n, rfl, rfl, ⟨xs, hs, h0, h1, h2, q⟩ | z⟩
  · cases rx with
    | ref =>
      cases ri with
      | int _ t =>
        obtain ⟨_, vs, m, ho, rs⟩ := k.g.st d _ hs
        have hl := rs.length
        refine ki_setAt ho h0 (by omega) (by simp; omega) ⟨F', (), _, Post.ofG k (PostG.change (y := .list (xs.set n.toNat v)) (tk := s.toks) k.g hs (fun b o hb e => (Heap.get?_update_other _ _ (Ne.symm hb)).trans e) ⟨vs.set n.toNat c, m, ?_, RAll.set (rv.mono hF) rs _⟩), trivial, q⟩
        have := PySem.IsL.update (h := s.heap) ho (·.setIfInBounds n.toNat c)
        simpa using this
  · exact z.elim
theorem ex_put {o i v : Expr} {pos' pos : Pos} {T₁ T₂ T₃ : PV} (h₃ : Ev C v T₃) (h₁ : Ev C o T₁) (h₂ : Ev C i T₂) (hs : swapsWith v (some (.Subscript o i pos')) pos.line C.env = pure false := by rfl) :
    Ex C (.Assign [.Subscript o i pos'] v pos) (fun Q => T₃ fun z => T₁ fun x => T₂ fun y => putW x y z (Q .next)) := by
  intro E Q st F s hF k q
  refine wpAny_Assign_Subscript (h₃.then hF k q fun F₁ z st₁ c s₁ p₁ rc q₁ => h₁.then (F0.le _) p₁.sim q₁ fun F₂ x st₂ a s₂ p₂ ra q₂ => h₂.then (F0.le _) p₂.sim q₂ fun F₃ y st₃ b s₃ p₃ rb q₃ => ?_) hs
  exact (put_ok (ra.mono p₃.ext) rb (rc.mono (p₂.ext.trans p₃.ext))).then (Q := fun _ => Q .next) (.refl _) p₃.sim q₃ fun F₄ _ st₄ _ s₄ p₄ _ q₄ => ⟨F₄, .next, st₄, p₁.trans (p₂.trans (p₃.trans p₄)), .next, q₄⟩

/-! ### a name changed in place -/
theorem ex_aug {x : Str} {i : Nat} {op : Operator} {v : Expr} {pos' pos : Pos} {T : PV} {B : V → V → PV} (hp : C.pl[i]? = some (.d C.env.locals x)) (hl : C.env.kindOf x = some .local) (h₁ : Ev C v T)
    (h : ∀ F x y a b, R F x a → R F y b → Imp C F R (inplaceOp op a b) (B x y)) : Ex C (.AugAssign (.Name x pos') op v pos) (fun Q => locW i fun o => T fun y => B o y fun z st => Q .next (st.set i z)) := by
  rintro E Q st F s hF k ⟨o, ho, q⟩
  obtain ⟨m, n, r⟩ := k.loc i _ hp
  obtain ⟨u, hu, hr⟩ := r o ho
  refine wpAny_AugAssign_Name (wpAny_loadName_local k.fn hl n hu (h₁.then hF k q fun F₁ y st₁ b s₁ p₁ rb q₁ => ?_))
  refine (h F₁ o y u b (hr.mono p₁.ext) rb).then (.refl _) p₁.sim q₁ fun F₂ z st₂ c s₂ p₂ rc q₂ => ?_
  obtain ⟨m', n', _⟩ := p₂.sim.loc i _ hp
  exact wpAny_storeName_local hl n' (fun h' hn hs => ⟨F₂, .next, _, p₁.trans (p₂.trans (p₂.sim.storeD hp rc n' hn hs)), .next, q₂⟩) (by rw [k.fn]; rfl)
theorem iints_ok {op : Operator} {P : Int → Int → Prop} {f : Int → Int → Int}
    (h : ∀ (i j : Int) (t u : Tok) (A : Around) (E : Value → Shared → Prop) (Q : Value → Shared → Prop) (s : Shared), P i j → (∀ t' n, Q (.int (f i j) t') { s with toks := n }) → wpAny C.W.M A (inplaceOp op (.int i t) (.int j u)) Q E s) (F : Fz) (x y : V) (a b : Value) (rx : R F x a) (ry : R F y b) :
    Imp C F R (inplaceOp op a b) (intsW P f x y) := by
  rintro E Q st F' s hF k ⟨i, j, hx, hy, hp, q⟩
  subst hx; subst hy
  cases rx; cases ry
  exact h i j _ _ _ _ _ _ hp fun t' n => int_out k q
theorem iadd_ok (F : Fz) (x y : V) (a b : Value) (rx : R F x a) (ry : R F y b) : Imp C F R (inplaceOp .Add a b) (intsW (fun _ _ => True) (· + ·) x y) := iints_ok (fun _ _ _ _ _ _ _ _ _ q => iadd_int (q _ _)) F x y a b rx ry
theorem ior_ok (F : Fz) (x y : V) (a b : Value) (rx : R F x a) (ry : R F y b) : Imp C F R (inplaceOp .BitOr a b) (orW x y) := iints_ok (fun _ _ _ _ _ _ _ _ _ q => ior_int (q _ _)) F x y a b rx ry
theorem ilsh_ok (F : Fz) (x y : V) (a b : Value) (rx : R F x a) (ry : R F y b) : Imp C F R (inplaceOp .LShift a b) (lshW x y) :=
  iints_ok (fun i j t u A E Q s hp q => ilshift_int_small hp.1 (by omega) hp.2.2 (q _ _)) F x y a b rx ry

/-! ### calls of what is built in -/
theorem plain_args {es : List Expr} {Ts : (List V → S → Prop) → S → Prop} (h : EvAll C es Ts) (pos : Pos) : (backTo pos (starEach es C.env)).any (·.1) = false := by
  induction h with
  | nil => rfl
  | cons hs _ _ ih => rw [starEach_cons hs]; simpa [backTo] using ih
theorem evalArgs_run {f : Value} {es : List Expr} {Ts : (List V → S → Prop) → S → Prop} (h : EvAll C es Ts) (pos : Pos) {E : Value → Shared → Prop} {Q : List V → S → Prop} {st : S} {F : Fz} {s : Shared} (k : Sim C F st s.heap) (q : Ts Q st) {Z : Args → Shared → Prop}
    (next : ∀ F' xs st' vs s', Post C F st s F' st' s' → RAll F' xs vs → Q xs st' → Z ⟨vs, []⟩ s') : wpAny C.W.M C.A (evalArgs f true (backTo pos (starEach es C.env)) []) Z E s := by
  have run := (h.run pos).then (E := E) (F0.le _) k q (Z := fun vs s' => Z ⟨vs, []⟩ s') next
  cases h with
  | nil => exact PySem.evalArgs_none (next F [] st [] s (.refl k) .nil q)
  | cons hs _ _ => rw [starEach_cons hs] at run ⊢; exact evalArgs_plain run
theorem name_wp {F : Fz} {st : S} {x : Str} {pos : Pos} {v : Value} {Q : Value → Shared → Prop} {E : Value → Shared → Prop} {s : Shared} (k : Sim C F st s.heap) (hg : GlobIs C.W.h₀ x v) (eg : C.env.globals = mainGlobals) (eb : C.env.builtins = builtinsNs) (hl : C.env.kindOf x = some .globalImplicit) (hd : (x == ("__debug__" : Str)) = false) (q : Q v s) :
    wpAny C.W.M C.A (eval (.Name x pos) C.env) Q E s := by
  refine Name_function_global k.fn hl (wpAny_loadGlobal (v := v) ?_ eg eb q) hd
  obtain ⟨mg, mb, a, b, e⟩ := hg
  exact ⟨mg, mb, a.keeps k.g.up, b.keeps k.g.up, e⟩
structure Glo (C : Cx) (x : Str) (v : Value) : Prop where
  is : GlobIs C.W.h₀ x v
  eg : C.env.globals = mainGlobals
  eb : C.env.builtins = builtinsNs
  hl : C.env.kindOf x = some .globalImplicit
  hd : (x == ("__debug__" : Str)) = false
theorem ev_callB {x : Str} {p pos : Pos} {id : String} {es : List Expr} {Ts : (List V → S → Prop) → S → Prop} {B : List V → PV} (g : Glo C x (.builtin id))
    (ha : EvAll C es Ts) (h : ∀ F xs vs, RAll F xs vs → Imp C F R (call (.builtin id) vs) (B xs)) : Ev C (.Call (.Name x p) es [] pos) (fun Q => Ts fun xs => B xs Q) := by
  intro E Q st F s hF k q
  refine wpAny_Call_NameR (name_wp k g.is g.eg g.eb g.hl g.hd ?_)
  refine Calls.callWith_builtin (plain_args ha pos) (evalArgs_run ha pos k q fun F₁ xs st₁ vs s₁ p₁ rs q₁ => ?_)
  exact (h F₁ xs vs rs).then (.refl _) p₁.sim q₁ fun F₂ z st₂ v s₂ p₂ rz q₂ => ⟨F₂, z, st₂, p₁.trans p₂, rz, q₂⟩
theorem ev_callT {x : Str} {p pos : Pos} {T : String} {es : List Expr} {Ts : (List V → S → Prop) → S → Prop} {B : List V → PV} (g : Glo C x (.type T))
    (ha : EvAll C es Ts) (h : ∀ F xs vs, RAll F xs vs → Imp C F R (call (.type T) vs) (B xs)) : Ev C (.Call (.Name x p) es [] pos) (fun Q => Ts fun xs => B xs Q) := by
  intro E Q st F s hF k q
  refine wpAny_Call_NameR (name_wp k g.is g.eg g.eb g.hl g.hd ?_)
  refine PySem.callWith_type (plain_args ha pos) (evalArgs_run ha pos k q fun F₁ xs st₁ vs s₁ p₁ rs q₁ => ?_)
  exact (h F₁ xs vs rs).then (.refl _) p₁.sim q₁ fun F₂ z st₂ v s₂ p₂ rz q₂ => ⟨F₂, z, st₂, p₁.trans p₂, rz, q₂⟩

/-! methods of lists -/
theorem ev_meth {o : Expr} {name : Str} {apos pos : Pos} {id : String} {es : List Expr} {T : PV} {Ts : (List V → S → Prop) → S → Prop} {B : V → List V → PV} (slot : Slot "list" name id) (hty : typeOf (.builtin id) = pure (.type "method_descriptor"))
    (ho : Ev C o T) (ha : EvAll C es Ts) (h : ∀ F x xs a vs, R F x a → RAll F xs vs → Imp C F R (call (.builtin id) (a :: vs)) (B x xs))
    (hbase : attributeBase o name C.env (eval o C.env) = eval o C.env := by rfl)
    (hfew : ((backTo pos (starEach es C.env)).all (fun x => !x.1) && (backToKw pos (keywordEach [] C.env)).all (fun x => x.1.isSome) && decide (es.length + ([] : List Keyword).length + (if ([] : List Keyword).isEmpty then 0 else 1) < 30)) = true := by rfl)
    (hline : (apos.endLine == pos.line) = true := by rfl) :
    Ev C (.Call (.Attribute o name apos) es [] pos) (fun Q => T fun x st => ∃ l, getL st x = some l ∧ Ts (fun xs => B x xs Q) st) := by
  intro E Q st F s hF k q
  refine wpAny_Call_method hbase hfew hline PySem.F.plainAttrs_list slot hty (ho.then hF k q fun F₁ x st₁ a s₁ p₁ ra q₁ => ?_)
  obtain ⟨l, hl, q₁⟩ := q₁
  obtain ⟨D, vs, n, rfl, hD, rs⟩ := getL_ok p₁.sim ra hl
  refine ⟨⟨_, hD, rfl⟩, fun b e => by cases e; exact ⟨_, hD, rfl⟩, ?_⟩
  refine Calls.callWith_builtin (plain_args ha pos) (evalArgs_run ha pos p₁.sim q₁ fun F₂ xs st₂ vs s₂ p₂ rs q₂ => ?_)
  exact (h F₂ x xs (.ref D) vs (ra.mono p₂.ext) rs).then (.refl _) p₂.sim q₂ fun F₃ z st₃ v s₃ p₃ rz q₃ => ⟨F₃, z, st₃, p₁.trans (p₂.trans p₃), rz, q₃⟩
abbrev appendW (x : V) (xs : List V) (Q : V → S → Prop) (st : S) : Prop := ∃ a y l, x = .ref a ∧ xs = [y] ∧ st.σ a = some (.list l) ∧ l.length ≤ 1000000 ∧ Q .none (st.put a (.list (l ++ [y])))
theorem append_ok (F : Fz) (x : V) (xs : List V) (a : Value) (vs : List Value) (rx : R F x a) (rs : RAll F xs vs) : Imp C F R (call (.builtin "list.append") (a :: vs)) (appendW x xs) := by
  rintro E Q st F' s hF k ⟨D, y, l, hx, hxs, hs, hsz, q⟩
  subst hx; subst hxs
  cases rs with
  | @cons _ v _ _ ry rs =>
    cases rs
    cases rx
    obtain ⟨_, ws, n, ho, rw⟩ := k.g.st D _ hs
    have hl := rw.length
    refine append_at ho (fun h' hs' ho' => ?_) (by simp; unfold sizeLine; omega)
    exact ⟨F', .none, _, Post.ofG k (PostG.change (y := .list (l ++ [y])) (tk := s.toks) k.g hs (fun b o hb e => (hs'.2 b hb).trans e) ⟨ws ++ [v], n + 1, by simpa using ho', rw.append (.cons (ry.mono hF) .nil)⟩), .none, q⟩
abbrev popW (x : V) (xs : List V) (Q : V → S → Prop) (st : S) : Prop := ∃ a y l, x = .ref a ∧ xs = [] ∧ st.σ a = some (.list (l ++ [y])) ∧ l.length ≤ 1000000 ∧ Q y (st.put a (.list l))
theorem RAll.snoc {F : Fz} {y : V} : ∀ {xs : List V} {vs : List Value}, RAll F (xs ++ [y]) vs → ∃ ws v, vs = ws ++ [v] ∧ RAll F xs ws ∧ R F y v := by
  intro xs
  induction xs with
  | nil => intro vs h; cases h with | cons r rs => cases rs; exact ⟨[], _, rfl, .nil, r⟩
  | cons x xs ih =>
    intro vs h
    cases h with
    | cons r rs =>
      obtain ⟨ws, v, rfl, a, b⟩ := ih rs
      exact ⟨_ :: ws, v, rfl, .cons r a, b⟩
theorem pop_ok (F : Fz) (x : V) (xs : List V) (a : Value) (vs : List Value) (rx : R F x a) (rs : RAll F xs vs) : Imp C F R (call (.builtin "list.pop") (a :: vs)) (popW x xs) := by
  rintro E Q st F' s hF k ⟨D, y, l, hx, hxs, hs, hsz, q⟩
  subst hx; subst hxs
  cases rs
  cases rx
  obtain ⟨_, us, n, ho, ru⟩ := k.g.st D _ hs
  obtain ⟨ws, v, rfl, rw, ry⟩ := ru.snoc
  have hl := rw.length
  have e1 : (ws ++ [v]).toArray[(ws ++ [v]).toArray.size - 1]? = some v := by simp
  refine call_meets PySem.F.slot_list_pop ⟨_, ho, rfl⟩ PySem.F.entry_list_pop (PySem.F.args_list_pop_1 _) (MeetsSeq.list_pop_last D _ n v e1 (by simp; unfold sizeLine; omega)) ⟨ho, ?_⟩
  refine ⟨F', y, _, Post.ofG k (PostG.change (y := .list l) (tk := s.toks) k.g hs (fun b o hb e => (Heap.get?_update_other _ _ (Ne.symm hb)).trans e) ⟨ws, n + 1, ?_, rw⟩), ry, q⟩
  have := PySem.IsL.update (h := s.heap) ho (fun xs => xs.eraseIdxIfInBounds ((ws ++ [v]).toArray.size - 1))
  rw [show (ws ++ [v]).toArray.size - 1 = ws.length by simp, kl_erase ws [] v] at this
  simpa using this
abbrev lenW (xs : List V) (Q : V → S → Prop) (st : S) : Prop := ∃ x, xs = [x] ∧ ((∃ l, getL st x = some l ∧ l.length ≤ 1000000 ∧ Q (.int l.length) st) ∨ (∃ l, x = .bytes l ∧ l.length ≤ 1000000 ∧ Q (.int l.length) st) ∨ (∃ l, x = .tuple l ∧ l.length ≤ 1000000 ∧ Q (.int l.length) st))
theorem len_ok (F : Fz) (xs : List V) (vs : List Value) (rs : RAll F xs vs) : Imp C F R (call (.builtin "len") vs) (lenW xs) := by
  rintro E Q st F' s hF k ⟨x, hx, q⟩
  subst hx
  cases rs with
  | @cons _ v _ _ r rs =>
    cases rs
    rcases q with ⟨l, hl, hsz, q⟩ | ⟨l, hl, hsz, q⟩ | ⟨l, hl, hsz, q⟩
    · obtain ⟨D, ws, n, rfl, ho, rw⟩ := getL_ok k (r.mono hF) hl
      have e := rw.length
      refine PyProof.Rows.len_list (PySem.IsL.isList (n := n) ho) (by simp; omega) ?_
      rw [show (ws.toArray.size : Int) = (l.length : Int) by simp [e]]
      exact int_out k q
    · subst hl
      cases r with
      | @bytes b _ t hb =>
        have e : b.size = l.length := by rw [← hb]; simp
        refine len_bytes (by omega) ?_
        rw [e]
        exact int_out k q
    · subst hl
      cases r with
      | @tuple a ws n _ e rw =>
        have e' := rw.length
        have ho := k.g.fz _ _ (hF _ _ e)
        refine P.len_tuple (n := n) ho (by simp; omega) ?_
        rw [show (ws.toArray.size : Int) = (l.length : Int) by simp [e']]
        exact int_out k q
end Mine

namespace Mine
open PySem PySem.W PyProof.Rows PySem.Calls

variable {C : Cx}

/-! ### calls of the text's own functions -/
structure FnAt (W : Wd) (a : Addr) (fd : FuncData) : Prop where
  at_ : ∃ o, W.h₀.get? a = some o ∧ o.data = .func fd
  code : W.h₀.CodeRec fd.code fd.qualname

def CallOK (W : Wd) (j : Nat) (a : Addr) (xs : List V) (kw : List (Str × V)) (Q : V → St → Prop) (σ : St) : Prop :=
  ∀ (A : Around) (E : Value → Shared → Prop) (F : Fz) (s : Shared) (vs : List Value) (kvs : List (Str × Value)), OkA A j → SimG W F σ s.heap → RAll F xs vs → kw.map (·.1) = kvs.map (·.1) → RAll F (kw.map (·.2)) (kvs.map (·.2)) →
    wpAny W.M A (call (.ref a) vs kvs) (fun v s' => ∃ F' x σ', PostG [] W F σ s F' σ' s' ∧ R F' x v ∧ Q x σ') E s

abbrev callW (W : Wd) (j : Nat) (a : Addr) (xs : List V) (Q : V → S → Prop) (st : S) : Prop := CallOK W j a xs [] (fun x σ' => Q x ⟨σ', st.ρ⟩) st.σ
theorem ev_callF {x : Str} {p pos : Pos} {a : Addr} {fd : FuncData} {es : List Expr} {Ts : (List V → S → Prop) → S → Prop} (g : Glo C x (.ref a)) (f : FnAt C.W a fd) (ha : EvAll C es Ts) {W : Wd} (hW : C.W = W) {j : Nat} (hj : C.lev = j) :
    Ev C (.Call (.Name x p) es [] pos) (fun Q => Ts fun xs => callW W j a xs Q) := by
  subst hW; subst hj
  intro E Q st F s hF k q
  obtain ⟨o, ho, hd⟩ := f.at_
  refine wpAny_Call_NameR (name_wp k g.is g.eg g.eb g.hl g.hd ?_)
  refine Calls.callWith_function (o := o) (fd := fd) (evalArgs_run ha pos k q fun F₁ xs st₁ vs s₁ p₁ rs q₁ => ⟨⟨p₁.sim.g.up _ _ ho, hd⟩, ?_⟩)
  exact wpAny_mono (q₁ C.A E F₁ s₁ vs [] p₁.sim.ok p₁.sim.g rs rfl .nil) (fun v s₂ ⟨F₂, z, σ₂, p₂, rz, q₂⟩ => ⟨F₂, z, ⟨σ₂, st₁.ρ⟩, p₁.trans (Post.ofG p₁.sim p₂), rz, q₂⟩) fun _ _ e => e

def St.Sub (σ' σ : St) : Prop := ∀ b x, σ' b = some x → σ b = some x
theorem PostG.sub {own : List Addr} {W : Wd} {F F' : Fz} {σ σ' σ'' : St} {s s' : Shared} (p : PostG own W F σ s F' σ' s') (h : St.Sub σ'' σ') : PostG own W F σ s F' σ'' s' :=
  { p with
    simg := ⟨p.simg.base, p.simg.fz, fun a x e => p.simg.st a x (h a x e)⟩
    freshS := fun b hb => p.freshS b (by
      cases e : σ'' b with
      | none => exact absurd e hb
      | some x => rw [h b x e]; simp) }
/-- what a body must give: the returned value, in a store that may forget -/
abbrev retW (Q : V → St → Prop) : Fl → S → Prop
  | .ret x, st => ∃ σ', St.Sub σ' st.σ ∧ Q x σ'
  | .next, st => ∃ σ', St.Sub σ' st.σ ∧ Q .none σ'
  | _, _ => False
def fnCx (W : Wd) (A : Around) (fd : FuncData) (L a : Addr) (names : List Str) (lev : Nat) : Cx := { W := W, A := A.deeper (callEnv fd L a), env := callEnv fd L a, pl := names.map (Pl.d L), lev := lev }

theorem lookup_zip : ∀ {ns : List Str} {vs : List Value} {i : Nat} {x : Str} {v : Value}, ns.Nodup → ns[i]? = some x → vs[i]? = some v → (ns.zip vs).reverse.lookup x = some v
  | [], _, _, _, _, _, h, _ => by simp at h
  | _ :: _, [], _, _, _, _, _, h => by simp at h
  | n :: ns, u :: vs, 0, x, v, hn, h1, h2 => by
    simp at h1 h2
    subst h1; subst h2
    rw [List.zip_cons_cons, List.reverse_cons, List.lookup_append]
    have : (ns.zip vs).reverse.lookup n = none := by
      rw [List.lookup_eq_none_iff]
      rintro ⟨a, b⟩ hp
      have hm := (List.of_mem_zip (List.mem_reverse.mp hp)).1
      have : n ≠ a := fun e => (List.nodup_cons.mp hn).1 (e ▸ hm)
      simpa using this
    rw [this]; simp
  | n :: ns, u :: vs, i + 1, x, v, hn, h1, h2 => by
    rw [List.zip_cons_cons, List.reverse_cons, List.lookup_append, lookup_zip (List.nodup_cons.mp hn).2 (by simpa using h1) (by simpa using h2)]
    simp

theorem okA_deeper {A : Around} {env : Env} {j : Nat} (h : OkA A (j + 1)) : OkA (A.deeper env) j :=
  ⟨h.handled, by have := h.depth; show A.depth + 1 + j < recursionLimit; omega, by have := h.units; show A.units + 3 + 8 * j + 100 < cLine; omega⟩

theorem get_fresh_none {h : Heap} {F : Fz} {σ : St} {W : Wd} (g : SimG W F σ h) : F h.objs.size = none ∧ σ h.objs.size = none := g.free get_size

theorem call_intro {W : Wd} {a : Addr} {fd : FuncData} {body : List Stmt} {params names : List Str} {lev : Nat} {T : (Fl → S → Prop) → S → Prop} {xs : List V} {Q : V → St → Prop} {σ : St} (f : FnAt W a fd)
    (hb : fd.body = .stmts body) (hT : ∀ A L, Exs (fnCx W A fd L a (params ++ names) lev) body T)
    (hbind : ∀ vs : List Value, vs.length = params.length → bindArgs fd ⟨vs, []⟩ = pure (params.zip vs))
    (hcell : ∀ x ∈ fd.scope.names, x.2 ≠ .cell) (hloc : ∀ x ∈ params, fd.scope.names.lookup x = some .local) (hnd : (params ++ names).Nodup) (hlen : xs.length = params.length)
    (q : T (retW Q) ⟨σ, fun i => xs[i]?⟩)
    (hco : fd.scope.isCoroutine = false := by rfl) (hgen : fd.scope.isGenerator = false := by rfl) (hk : fd.scope.kind = .function := by rfl) : CallOK W (lev + 1) a xs [] Q σ := by
  intro A E F s vs kvs hA g rs hkn _
  obtain ⟨o, ho, hd⟩ := f.at_
  cases kvs with
  | cons _ _ => simp at hkn
  | nil =>
  have hvl : vs.length = params.length := by rw [← rs.length, hlen]
  have hbd := hbind vs hvl
  refine wpAny_call (codeAny_call_def (fd := fd) (body := body) (binds := params.zip vs) (by have := hA.depth; omega) (g.up _ _ ho) hd (W.lim.keeps g.up) (f.code.keeps g.up) hb (fun M A E Q q => by rw [hbd]; exact wpAny_pure q) hcell (fun x hx => hloc x.1 (List.of_mem_zip hx).1) (fun h₀ hn hk₀ => ?_) hco hgen hk)
  obtain ⟨hF, hσ⟩ := get_fresh_none g
  have hs : s.heap.get? s.heap.objs.size = none := get_size
  have hpl : ∀ p ∈ (params ++ names).map (Pl.d s.heap.objs.size), p.addr = s.heap.objs.size := fun p hp => by obtain ⟨x, _, rfl⟩ := List.mem_map.mp hp; rfl
  have g₁ : SimG W F σ h₀ := g.heap [] (fun b o _ e => hk₀ b o e) (fun _ m => nomatch m)
  have sim : Sim (fnCx W A fd s.heap.objs.size a (params ++ names) lev) F ⟨σ, fun i => xs[i]?⟩ h₀ := by
    refine ⟨g₁, fun i p hp => ?_, fun p hp => ?_, okA_deeper hA, hk, ?_⟩
    · have hp' : ((params ++ names).map (Pl.d s.heap.objs.size))[i]? = some p := hp
      rw [List.getElem?_map] at hp'
      obtain ⟨x, hx, rfl⟩ := Option.map_eq_some_iff.mp hp'
      refine ⟨_, hn, fun v hv => ?_⟩
      have hv' : xs[i]? = some v := hv
      have hi : i < params.length := by rw [← hlen]; exact (List.getElem?_eq_some_iff.mp hv').1
      rw [List.getElem?_append_left hi] at hx
      obtain ⟨u, hu, r⟩ := rs.get hv'
      exact ⟨u, lookup_zip (List.nodup_append.mp hnd).1 hx hu, r⟩
    · rw [hpl p hp]; exact ⟨hF, hσ⟩
    · exact List.pairwise_map.mpr (hnd.imp fun h e => h (by injection e))
  refine (hT A s.heap.objs.size).then (F0.le _) sim q fun F₁ fl st₁ w s₁ p₁ rf q₁ => ?_
  have fin : PostG [] W F σ s F₁ st₁.σ s₁ := by
    have z : PostG ((params ++ names).map (fun _ => s.heap.objs.size)) W F σ s F σ { s with heap := h₀, toks := s.toks + (params.zip vs).length } := .heap g [] (fun b o _ e => hk₀ b o e) (fun _ m => nomatch m) (fun _ m => nomatch m)
    have p₁' : PostG ((params ++ names).map (fun _ => s.heap.objs.size)) W F σ { s with heap := h₀, toks := s.toks + (params.zip vs).length } F₁ st₁.σ s₁ := by
      have := p₁.p
      refine this.congr fun b => ?_
      show b ∈ (params ++ names).map _ ↔ b ∈ ((params ++ names).map (Pl.d s.heap.objs.size)).map Pl.addr
      rw [List.map_map]; exact Iff.rfl
    have t := z.trans p₁'
    have u : PostG ((params ++ names).map (fun _ => s.heap.objs.size) ++ []) W F σ s F₁ st₁.σ s₁ := by rw [List.append_nil]; exact t
    exact strikeAll u fun b hb => by obtain ⟨_, _, rfl⟩ := List.mem_map.mp hb; exact hs
  cases rf with
  | next => obtain ⟨σ', hsub, q₁⟩ := q₁; exact ⟨F₁, .none, σ', fin.sub hsub, .none, q₁⟩
  | brk => exact q₁.elim
  | cont => exact q₁.elim
  | ret r => obtain ⟨σ', hsub, q₁⟩ := q₁; exact ⟨F₁, _, σ', fin.sub hsub, r, q₁⟩
end Mine

namespace Mine
open PySem PySem.W PyProof.Rows PySem.Calls

variable {C : Cx}

/-! ### iterators that lie in the store -/
def itemsIt : AO → Option (List V)
  | .riter x l c => if 0 ≤ l then some ((List.range l.toNat).map fun (i : Nat) => V.int (x + (i : Int) * c)) else none
  | .biter b i => if i ≤ b.length then some ((b.drop i).map V.int) else none
  | _ => none
theorem LoopAt.held {F : Fz} {st : S} {s : Shared} {a : Addr} {x : AO} (k : Sim C F st s.heap) (ha : st.σ a = some x) : LoopAt C [a] F st.σ s F (st.del a) s := by
  have z := k.g.st a x ha
  have hsub : ∀ b y, (st.del a).σ b = some y → st.σ b = some y := fun b y e => by
    have e' : (if b = a then none else st.σ b) = some y := e
    by_cases hb : b = a
    · rw [if_pos hb] at e'; cases e'
    · rw [if_neg hb] at e'; exact e'
  have g : SimG C.W F (st.del a).σ s.heap := ⟨k.g.base, k.g.fz, fun b y e => k.g.st b y (hsub b y e)⟩
  have hda : (st.del a).σ a = none := by show (if a = a then none else st.σ a) = none; rw [if_pos rfl]
  refine ⟨⟨.refl _, g, fun _ _ e _ _ => e, fun b h => ?_, fun _ h => .inl h, _, _, rfl⟩, ⟨g, k.loc, fun p hp => ⟨(k.own p hp).1, ?_⟩, k.ok, k.fn, k.nodup⟩, fun b hb => ?_⟩
  · cases e : (st.del a).σ b with
    | none => exact absurd e h
    | some y => exact .inl (by rw [hsub b y e]; simp)
  · cases e : (st.del a).σ p.addr with
    | none => rfl
    | some y => have := hsub _ _ e; rw [(k.own p hp).2] at this; cases this
  · rw [List.mem_singleton.mp hb]
    refine ⟨z.1, hda, fun m => ?_, z.2.there⟩
    obtain ⟨p, hp, rfl⟩ := List.mem_map.mp m
    rw [(k.own p hp).2] at ha; cases ha
/-- the loop's hidden object was the store's: it is forgotten -/
theorem LoopAt.outS {F₀ : Fz} {st₀ : S} {s₀ : Shared} {F : Fz} {st : S} {s : Shared} {a : Addr} {x : AO} (l : LoopAt C [a] F₀ st₀.σ s₀ F st s) (ha : st₀.σ a = some x) {h' : Heap} {tk : Nat} (hk : ∀ b o, b ∉ [a] → s.heap.get? b = some o → h'.get? b = some o) :
    Post C F₀ st₀ s₀ F st { s with heap := h', toks := tk } := by
  have h1 : ∀ b ∈ [a], F b = none ∧ st.σ b = none := fun b hb => let z := l.off b hb; ⟨z.1, z.2.1⟩
  have p := l.p.trans (.heap (tk := tk) l.sim.g [a] hk h1 fun b hb => .inl (List.mem_append.mpr (.inl hb)))
  refine ⟨{ p with keep := fun b o e hb ho => p.keep b o e hb fun m => ?_, freshS := fun b h => (p.freshS b h).imp_right fun y => ⟨y.1, fun m => y.2 (List.mem_append.mpr (.inr m))⟩, freshF := fun b h => (p.freshF b h).imp_right fun z => z.imp_right fun y => ⟨y.1, fun m => y.2 (List.mem_append.mpr (.inr m))⟩ }, l.sim.heap [a] hk h1 fun b hb => (l.off b hb).2.2.1⟩
  rcases List.mem_append.mp m with m | m
  · rw [List.mem_singleton.mp m, ha] at hb; cases hb
  · exact ho m
theorem held_gives {F : Fz} {h : Heap} {a : Addr} {x : AO} {xs : List V} (hh : C.A.handled = none) (hx : itemsIt x = some xs) (so : SO C.W F h a x) : ∃ P Sx, Gives C F a xs h [a] P Sx := by
  cases x with
  | list _ => cases hx
  | riter x l c =>
    simp only [itemsIt] at hx
    split at hx
    · rename_i hl
      cases hx
      refine ⟨_, _, (by rw [List.length_map, List.length_range]; exact (Walks.range (prog := C.W.prog) (w := C.W.w) hh a x c l.toNat).bound), ?_, ?_, fun b hb => .inl (List.mem_singleton.mp hb), fun _ _ ho => ⟨_, ho⟩, ?_⟩
      · rintro k v ⟨hk, t, rfl⟩
        exact ⟨_, by rw [List.getElem?_map, List.getElem?_range hk]; rfl, .int _ _⟩
      · show IsRangeIter _ _ _ _ _
        rw [Int.toNat_of_nonneg hl]
        have so' : IsRangeIter h a x l c := so
        simpa using so'
      · rintro t s Q E i v ho q
        exact lot_quiet ho rfl rfl (by decide) q
    · cases hx
  | biter b i =>
    simp only [itemsIt] at hx
    split at hx
    · rename_i hl
      cases hx
      obtain ⟨ar, t, hb, it⟩ := so
      have hsz : ar.size = b.length := by rw [← hb]; simp
      have hw := kun_shift (KBw.walks (prog := C.W.prog) (w := C.W.w) hh a ar t) (k := i) (by omega)
      refine ⟨fun k v => ∃ c u, ar[i + k]? = some c ∧ v = .int (c.toNat : Int) u, fun k h => KBw.IsBytesIter h a ar t (i + k), (by rw [List.length_map, List.length_drop, ← hsz]; exact hw), ?_, it, fun b hb => .inl (List.mem_singleton.mp hb), fun _ _ z => let ⟨o, ho, _⟩ := z; ⟨o, ho⟩, ?_⟩
      · rintro k v ⟨c, u, e, rfl⟩
        refine ⟨.int c.toNat, ?_, .int _ _⟩
        rw [← hb]
        simp [e]
      · rintro t s Q E i v ⟨o, ho, hc, hd⟩ q
        exact lot_quiet ho hc hd (by decide) q
    · cases hx

/-- the turns of a for, whatever the hidden iterator is -/
theorem for_turns {t : Expr} {b : List Stmt} {Ta : AT} {B : (Fl → S → Prop) → S → Prop} (ha : Asg C t Ta) (hb : Exs C b B) {I : Addr} {xs : List V} {F₁ : Fz} {st₁ : S} {σ₁ : St} {s₁ s₂ : Shared} {fp : List Addr} {P : Nat → Value → Prop} {Sx : Nat → Heap → Prop} {h₀ : Heap} {Q : Fl → S → Prop} {R : Result → Shared → Prop}
    (g : Gives C F₁ I xs h₀ fp P Sx) (hs : Sx 0 s₂.heap) (l : LoopAt C [I] F₁ σ₁ s₁ F₁ st₁ s₂) (q : forL Ta B Q xs st₁)
    (out : ∀ F st s h' tk f fl, LoopAt C [I] F₁ σ₁ s₁ F st s → (∀ b o, b ∉ [I] → s.heap.get? b = some o → h'.get? b = some o) → Q f st → RF F f fl → R (.ok fl) { s with heap := h', toks := tk }) :
    codeAny C.W.M C.A (.forLoop t (.ref I) b [] C.env) R s₂ := by
  refine codeAny_forLoop_any (fun n s' => ∃ i F' st', n = xs.length + 1 - i ∧ i ≤ xs.length ∧ F₁.Le F' ∧ LoopAt C [I] F₁ σ₁ s₁ F' st' s' ∧ Sx i s'.heap ∧ forL Ta B Q (xs.drop i) st') ?_ (xs.length + 1) ⟨0, F₁, st₁, rfl, Nat.zero_le _, .refl _, l, hs, by simpa using q⟩
  rintro n s₃ ⟨i, F₃, st₃, rfl, hle, hF₃, l₃, hs₃, q₃⟩
  by_cases hlt : i < xs.length
  · refine g.walks.item i s₃ _ _ hlt hs₃ fun v h₄ tk hP hs₄ hk => ?_
    have hk' : ∀ b o, b ∉ [I] → s₃.heap.get? b = some o → h₄.get? b = some o := fun b o hb e => hk b o hb e
    have l₄ := l₃.at (tk := tk) [I] (fun _ m => m) hk' (fun b m => by rw [List.mem_singleton.mp m]; exact g.there _ _ hs₄)
    refine g.quiet t _ _ _ _ v hs₄ ?_
    obtain ⟨x', hx', rx⟩ := g.item i v hP
    have hd : xs.drop i = x' :: xs.drop (i + 1) := by
      obtain ⟨hl, e⟩ := List.getElem?_eq_some_iff.mp hx'
      rw [List.drop_eq_getElem_cons hl, e]
    rw [hd] at q₃
    refine (ha F₃ x' v (rx.mono hF₃)).then (Q := fun _ => _) (.refl _) l₄.sim q₃ fun F₅ _ st₅ _ s₅ p₅ _ q₅ => ?_
    refine hb.then (F0.le _) p₅.sim q₅ fun F₆ f st₆ a s₆ p₆ rf q₆ => ?_
    have pp := p₅.trans p₆
    have l₆ := l₄.step pp
    have fin : ∀ fl fl', Q fl st₆ → RF F₆ fl fl' → R (.ok fl') s₆ := fun fl fl' hq hr => by
      exact out F₆ st₆ s₆ s₆.heap s₆.toks fl fl' l₆ (fun b o _ e => e) hq hr
    have hsx : Sx (i + 1) s₆.heap := g.frame hs₄ (fun o e => pp.p.keep _ o e (l₄.off _ (.head _)).2.1 (l₄.off _ (.head _)).2.2.1) (fun a o e => l₄.sim.g.fz a o (hF₃ a o e)) (fun a o e => p₆.sim.g.fz a o (pp.ext a o (hF₃ a o e)))
    have on : forL Ta B Q (xs.drop (i + 1)) st₆ → ∃ m, m < xs.length + 1 - i ∧ ∃ i F' st', m = xs.length + 1 - i ∧ i ≤ xs.length ∧ F₁.Le F' ∧ LoopAt C [I] F₁ σ₁ s₁ F' st' s₆ ∧ Sx i s₆.heap ∧ forL Ta B Q (xs.drop i) st' :=
      fun z => ⟨xs.length + 1 - (i + 1), by omega, i + 1, F₆, st₆, rfl, hlt, hF₃.trans pp.ext, l₆, hsx, z⟩
    cases rf with
    | next => exact on q₆
    | cont => exact on q₆
    | brk => exact fin .next .next q₆ .next
    | ret r => exact fin _ _ q₆ (.ret r)
  · have e : i = xs.length := by omega
    subst e
    refine g.walks.done s₃ _ _ hs₃ fun h₄ tk hk => ?_
    rw [List.drop_length] at q₃
    exact wpAny_execs_nil (out F₃ st₃ s₃ h₄ tk .next .next l₃ (fun b o hb e => hk b o hb e) q₃ .next)

abbrev forSW (T : PV) (Ta : AT) (B : (Fl → S → Prop) → S → Prop) (Q : Fl → S → Prop) : S → Prop := T fun x st => ∃ a it xs, x = .ref a ∧ st.σ a = some it ∧ itemsIt it = some xs ∧ forL Ta B Q xs (st.del a)
theorem ex_forS {t it : Expr} {b : List Stmt} {pos : Pos} {T : PV} {Ta : AT} {B : (Fl → S → Prop) → S → Prop} (hi : Ev C it T) (ha : Asg C t Ta) (hb : Exs C b B) (hs : ∀ x, foldedSetIterable it C.env x = pure x := by intro _; rfl) :
    Ex C (.For t it b [] pos) (forSW T Ta B) := by
  intro E Q st F s hF k q
  refine wpAny_For (hi.then hF k q fun F₁ x st₁ v s₁ p₁ r₁ ⟨a, ao, xs, hx, hσ, hit, q₁⟩ => ?_) hs
  subst hx
  cases r₁
  obtain ⟨P, Sx, g⟩ := held_gives p₁.sim.ok.handled hit (p₁.sim.g.st a ao hσ).2
  refine g.walks.self 0 _ _ _ g.start ?_
  refine for_turns ha hb g g.start (.held p₁.sim hσ) q₁ fun F' st' s' h' tk f fl l hk q' rf => ?_
  exact ⟨F', f, st', p₁.trans (l.outS hσ hk), rf, q'⟩
end Mine

namespace Mine
open PySem PySem.W PyProof.Rows PySem.Calls

variable {C : Cx}

/-! ### range, reversed -/
abbrev rangeW (xs : List V) (Q : V → S → Prop) (st : S) : Prop := (∃ n, xs = [.int n] ∧ Q (.range 0 n 1) st) ∨ (∃ a b, xs = [.int a, .int b] ∧ Q (.range a b 1) st)
theorem made_fz {F : Fz} {st : S} {s : Shared} (k : Sim C F st s.heap) (o : Obj) (n : Nat) (ho : o.isFreed = false := by rfl) : ∃ F', Post C F st s F' st { s with heap := s.heap.push o, toks := n } ∧ F' s.heap.objs.size = some o :=
  ⟨_, Post.ofG k (PostG.frozen (o := o) (tk := n) k.g get_size (fun _ _ e => Heap.get?_push_of_some _ e) (Heap.get?_push_size _ ho)), if_pos rfl⟩
theorem range_ok (F : Fz) (xs : List V) (vs : List Value) (rs : RAll F xs vs) : Imp C F R (call (.type "range") vs) (rangeW xs) := by
  rintro E Q st F' s hF k (⟨n, hx, q⟩ | ⟨a, b, hx, q⟩)
  · subst hx
    cases rs with
    | cons r rs =>
      cases rs
      cases r with
      | int _ t =>
        refine call_range_1 ?_
        obtain ⟨F₁, p, e⟩ := made_fz k (rngOf 0 n 1 s.toks t (s.toks + 1)) (s.toks + 1 + 1)
        exact ⟨F₁, .range 0 n 1, st, p, .range e, q⟩
  · subst hx
    cases rs with
    | cons r rs =>
      cases rs with
      | cons r' rs =>
        cases rs
        cases r with
        | int _ t =>
          cases r' with
          | int _ u =>
            refine call_range_2 ?_
            obtain ⟨F₁, p, e⟩ := made_fz k (rngOf a b 1 t u s.toks) (s.toks + 1)
            exact ⟨F₁, .range a b 1, st, p, .range e, q⟩

theorem call_range_reversed {prog : Program} {w : World} {A : Around} {E : Value → Shared → Prop} {s : Shared} {l : Addr} {n : Int} {t u v : Tok} {Q : Value → Shared → Prop} (hr : IsRange s.heap l 0 n 1 t u v) (h0 : 0 ≤ n) (h1 : n ≤ 1000000)
    (h : Q (.ref s.heap.objs.size) { s with heap := s.heap.push { cls := .type "range_iterator", data := .fields #[rawInt (n - 1), rawInt n, rawInt (-1)] } }) : wpAny (model prog w) A (call (.builtin "range.__reversed__") [.ref l]) Q E s := by
  refine wpAny_call_entry PySem.F.slot_range_reversed ⟨_, hr, rfl⟩ PySem.F.entry_range_reversed ?_ (PySem.F.args_range_reversed_1 _)
  unfold Builtin.«range.__reversed__»
  refine wpAny_bind (wpAny_of_eq (a := Value.ref l) rfl ?_)
  unfold Builtin.Range.rangeFields
  refine wpAny_bind (wpAny_bind (wpAny_field hr rfl (x := .int 0 t) rfl (wpAny_bind (wpAny_pure (wpAny_bind (wpAny_field hr rfl (x := .int n u) rfl (wpAny_bind (wpAny_pure (wpAny_bind (wpAny_field hr rfl (x := .int 1 v) rfl (wpAny_bind (wpAny_pure (wpAny_pure ?_)))))))))))))
  have e : Builtin.Range.rangeSize 0 n 1 = n := by rw [rangeSize_one]; split <;> omega
  dsimp only
  rw [e]
  have hs : (Builtin.Range.rangeFitsLong 0 && Builtin.Range.rangeFitsLong n && Builtin.Range.rangeFitsLong 1 && Builtin.Range.rangeFitsLong (-1) && Builtin.Range.rangeFitsLong (0 - 1) && Builtin.Range.rangeFitsLong n) = true := by
    simp [Builtin.Range.rangeFitsLong]; omega
  rw [hs]
  simp only [Bool.not_true, Bool.false_eq_true, if_false, if_true]
  have e2 : (0 : Int) + (n - 1) * 1 = n - 1 := by omega
  rw [e2]
  exact wpAny_bind (wpAny_newObj_type (wpAny_pure ⟨_, rfl, h⟩))

theorem sub_ri_reversed : isSubtype (.type "range_iterator") (.type "reversed") = pure false := by rw [isSubtype_type]; kernel_rfl
theorem code_reversed_range {prog : Program} {w : World} {A : Around} {E : Value → Shared → Prop} {s : Shared} {l : Addr} {n : Int} {t u v : Tok} {Q₁ : Value → Shared → Prop} (hr : IsRange s.heap l 0 n 1 t u v) (h0 : 0 ≤ n) (h1 : n ≤ 1000000)
    (h : Q₁ (.ref s.heap.objs.size) { s with heap := s.heap.push { cls := .type "range_iterator", data := .fields #[rawInt (n - 1), rawInt n, rawInt (-1)] } }) :
    codeAny (model prog w) A (.call (.builtin "reversed.__new__") ⟨[.type "reversed", .ref l], []⟩) (wants Q₁ E) s := by
  have hT : s.TypeIs (.ref l) "range" := ⟨_, hr, rfl⟩
  refine codeAny_of_tree ?_
  show wpAny _ A.in1 (do checkBuiltinCall "reversed.__new__" ⟨[.type "reversed", .ref l], []⟩; again (.builtin "reversed.__new__" ⟨[.type "reversed", .ref l], []⟩)) _ _ s
  refine wpAny_bind (wpAny_of_eq (PySem.F.newCall_reversed_1 _) (wpAny_pure ⟨plainId_quiet PySem.F.plain_reversed_new _, codeAny_builtin PySem.F.entry_reversed_new ?_⟩))
  rw [Around.under_plainId PySem.F.plain_reversed_new _]
  unfold Builtin.«reversed.__new__»
  refine wpAny_bind (wpAny_of_eq (newClass_reversed _) ?_)
  dsimp only
  refine wpAny_bind (wpAny_of_eq (a := ()) (by first | rfl | kernel_rfl) ?_)
  refine wpAny_bind (wpAny_of_eq (a := ()) (by first | rfl | kernel_rfl) ?_)
  try dsimp only
  refine wpAny_bind (wpAny_specialOf hT PySem.F.slot_range_reversed.lookup ?_)
  dsimp only
  refine wpAny_bind (wpAny_of_eq (PySem.F.slot_range_reversed.bind _) ?_)
  dsimp only
  rw [if_neg (show ¬ ((Value.builtin "range.__reversed__" == Value.none) = true) from Bool.false_ne_true)]
  refine wpAny_bind (wpAny_rule ?_)
  refine wpAny_bind (m := runValue (.call (.builtin "range.__reversed__") ⟨[.ref l], []⟩)) (show wpAny _ _ (call (.builtin "range.__reversed__") [.ref l]) _ _ _ from call_range_reversed hr h0 h1 ?_)
  first
  | exact wpAny_pure h
  | exact wpAny_bind (wpAny_pure (wpAny_pure h))
theorem call_reversed_range {prog : Program} {w : World} {A : Around} {E : Value → Shared → Prop} {s : Shared} {l : Addr} {n : Int} {t u v : Tok} {Q : Value → Shared → Prop} (hr : IsRange s.heap l 0 n 1 t u v) (h0 : 0 ≤ n) (h1 : n ≤ 1000000)
    (h : Q (.ref s.heap.objs.size) { s with heap := s.heap.push { cls := .type "range_iterator", data := .fields #[rawInt (n - 1), rawInt n, rawInt (-1)] } }) : wpAny (model prog w) A (call (.type "reversed") [.ref l]) Q E s := by
  refine callType_other (U := "range_iterator") (Q₁ := fun obj s₁ => obj = .ref s.heap.objs.size ∧ s₁ = { s with heap := s.heap.push { cls := .type "range_iterator", data := .fields #[rawInt (n - 1), rawInt n, rawInt (-1)] } }) (by decide +kernel) PySem.F.create_reversed ⟨_, _, PySem.F.mro_reversed⟩ PySem.F.made_reversed sub_ri_reversed (PySem.F.typeCall_reversed_1 _) (code_reversed_range hr h0 h1 ⟨rfl, rfl⟩) ?_
  rintro obj s₁ ⟨rfl, rfl⟩
  exact ⟨⟨_, Heap.get?_push_size _ rfl, rfl⟩, h⟩
abbrev revW (xs : List V) (Q : V → S → Prop) (st : S) : Prop := ∃ n, xs = [.range 0 n 1] ∧ 0 ≤ n ∧ n ≤ 1000000 ∧ newWS (.riter (n - 1) n (-1)) Q st
theorem rev_ok (F : Fz) (xs : List V) (vs : List Value) (rs : RAll F xs vs) : Imp C F R (call (.type "reversed") vs) (revW xs) := by
  rintro E Q st F' s hF k ⟨n, hx, h0, h1, q⟩
  subst hx
  cases rs with
  | cons r rs =>
    cases rs
    cases r with
    | @range l _ _ _ t u v e =>
      have hr : IsRange s.heap l 0 n 1 t u v := k.g.fz _ _ (hF _ _ e)
      refine call_reversed_range hr h0 h1 ⟨F', .ref _, st.put s.heap.objs.size _, Post.ofG k (PostG.new (x := .riter (n - 1) n (-1)) (tk := s.toks) k.g get_size (fun _ _ e => Heap.get?_push_of_some _ e) ?_), .ref _, q _ (k.g.free get_size).2⟩
      exact Heap.get?_push_size _ rfl

/-! ### bytes, iter, next -/
theorem byteArr_are : ∀ {ns : List Int}, (∀ n ∈ ns, 0 ≤ n ∧ n < 256) → BytesAre (byteArr ns) ns := by
  intro ns h
  unfold BytesAre byteArr
  simp only [List.map_map]
  have : ∀ n ∈ ns, ((fun c : UInt8 => (c.toNat : Int)) ∘ fun n : Int => n.toNat.toUInt8) n = n := fun n hn => by
    obtain ⟨h0, h1⟩ := h n hn
    simp only [Function.comp]
    have : n.toNat.toUInt8.toNat = n.toNat := by
      show (UInt8.ofNat n.toNat).toNat = n.toNat
      rw [UInt8.toNat_ofNat']
      omega
    rw [this]; omega
  conv => rhs; rw [← List.map_id ns]
  exact List.map_congr_left fun n hn => this n hn
abbrev bytesW (xs : List V) (Q : V → S → Prop) (st : S) : Prop := ∃ x l ns, xs = [x] ∧ getL st x = some l ∧ intsOf l = some ns ∧ (∀ n ∈ ns, 0 ≤ n ∧ n < 256) ∧ ns.length ≤ 1000000 ∧ Q (.bytes ns) st
theorem bytes_ok (F : Fz) (xs : List V) (vs : List Value) (rs : RAll F xs vs) : Imp C F R (call (.type "bytes") vs) (bytesW xs) := by
  rintro E Q st F' s hF k ⟨x, l, ns, hx, hl, hn, hr, hsz, q⟩
  subst hx
  cases rs with
  | cons r rs =>
    cases rs
    obtain ⟨D, ws, n, rfl, ho, rw⟩ := getL_ok k (r.mono hF) hl
    have hi := intsOf_all rw hn
    refine call_bytes_ints (PySem.IsL.isList (n := n) ho) hi hr (by have := hi.length; unfold sizeLine; omega) k.ok.handled fun h' t m hk => ?_
    exact ⟨F', .bytes ns, st, k.grown hk, .bytes _ (byteArr_are hr), q⟩
abbrev iterW (xs : List V) (Q : V → S → Prop) (st : S) : Prop := ∃ b, xs = [.bytes b] ∧ newWS (.biter b 0) Q st
theorem iter_ok' (F : Fz) (xs : List V) (vs : List Value) (rs : RAll F xs vs) : Imp C F R (call (.builtin "iter") vs) (iterW xs) := by
  rintro E Q st F' s hF k ⟨b, hx, q⟩
  subst hx
  cases rs with
  | cons r rs =>
    cases rs
    cases r with
    | @bytes ar _ t hb =>
      refine call_function_entry (by decide +kernel) (by decide +kernel) kdk_entry_iter (kdk_args_iter _) ?_
      unfold Builtin.«iter»
      refine wpAny_bind (m := someArgs "iter" 1 2 _) (wpAny_of_eq (a := [Value.bytes ar t]) (by first | rfl | kernel_rfl!) ?_)
      show wpAny _ _ (pyIter (.bytes ar t) >>= _) _ _ _
      refine wpAny_bind (KBw.pyIter_bytes (wpAny_pure ⟨_, rfl, F', .ref _, st.put s.heap.objs.size _, Post.ofG k (PostG.new (x := .biter b 0) (tk := s.toks) k.g get_size (fun _ _ e => Heap.get?_push_of_some _ e) ?_), .ref _, q _ (k.g.free get_size).2⟩))
      exact ⟨ar, t, hb, _, Heap.get?_push_size _ rfl, rfl, rfl⟩
theorem biter_special {prog : Program} {w : World} {A : Around} {E : Value → Shared → Prop} {s : Shared} {b : Array UInt8} {t : Tok} {it : Addr} {i : Nat} {c : UInt8} {Q : Option Value → Shared → Prop} (hit : KBw.IsBytesIter s.heap it b t i) (hx : b[i]? = some c)
    (hQ : ∀ h', KBw.IsBytesIter h' it b t (i + 1) → Heap.SameBut it s.heap h' → Q (some (.int (c.toNat : Int) s.toks)) { s with heap := h', toks := s.toks + 1 }) : wpAny (model prog w) A (callSpecial? (.ref it) (Str.ofString "__next__")) Q E s := by
  obtain ⟨o, ho, hc, hd⟩ := id hit
  refine wpAny_callSpecial?_slot (name := PySem.Str.ofString "__next__") (KBw.iter_typeIs hit) KBw.slot_next
    (wpAny_call_entry KBw.slot_next (KBw.iter_typeIs hit) KBw.entry_next ?_ (KBw.args_next _))
  show wpAny _ _ (field (.ref it) 0 >>= _) _ _ s
  refine wpAny_bind (wpAny_field ho hd (x := .bytes b t) rfl ?_)
  show wpAny _ _ (if (Value.bytes b t == Value.none) = true then _ else _) _ _ s
  rw [if_neg (show ¬ ((Value.bytes b t == Value.none) = true) from Bool.false_ne_true)]
  show wpAny _ _ (field (.ref it) 1 >>= _) _ _ s
  refine wpAny_bind (wpAny_field ho hd (x := .int i 0) rfl ?_)
  refine wpAny_bind (wpAny_of_eq (a := b) rfl ?_)
  simp only [Int.toNat_natCast, hx]
  refine wpAny_bind (wpAny_setField ho hd (by simp) (wpAny_bind (wpAny_mkInt (wpAny_pure ⟨_, rfl, hQ _ ?_ (Heap.SameBut.update ..)⟩))))
  exact ⟨_, Heap.get?_update_self _ ho (Obj.isFreed_of_fields (Obj.data_mapFields hd _)), (Obj.cls_mapFields ..).trans hc, by
    rw [Obj.data_mapFields hd]; simp [rawInt]⟩
abbrev nextW (xs : List V) (Q : V → S → Prop) (st : S) : Prop := ∃ a b i z, xs = [.ref a] ∧ st.σ a = some (.biter b i) ∧ b[i]? = some z ∧ Q (.int z) (st.put a (.biter b (i + 1)))
theorem next_ok (F : Fz) (xs : List V) (vs : List Value) (rs : RAll F xs vs) : Imp C F R (call (.builtin "next") vs) (nextW xs) := by
  rintro E Q st F' s hF k ⟨a, b, i, z, hx, hs, hz, q⟩
  subst hx
  cases rs with
  | cons r rs =>
    cases rs
    cases r
    obtain ⟨_, ar, t, hb, hit⟩ := k.g.st a _ hs
    refine call_function_entry (by decide +kernel) (by decide +kernel) kdk_entry_next (kdk_args_next _) ?_
    unfold Builtin.«next»
    refine wpAny_bind (m := someArgs "next" 1 2 _) (wpAny_of_eq (a := [Value.ref a]) (by first | rfl | kernel_rfl!) ?_)
    dsimp only
    refine wpAny_bind (wpAny_specialOf (name := Str.ofString "__next__") (KBw.iter_typeIs hit) KBw.slot_next.lookup ?_)
    refine wpAny_ite_split (fun hab => absurd hab (by decide)) (fun _ => ?_)
    have hc : ∃ c : UInt8, ar[i]? = some c ∧ z = (c.toNat : Int) := by
      rw [← hb] at hz
      simp only [List.getElem?_map] at hz
      obtain ⟨c, hc, rfl⟩ := Option.map_eq_some_iff.mp hz
      exact ⟨c, by simpa using hc, rfl⟩
    obtain ⟨c, hc, rfl⟩ := hc
    refine wpAny_bind (biter_special hit hc fun h' hit' hs' => ?_)
    exact wpAny_pure ⟨_, rfl, F', .int _, _, Post.ofG k (PostG.change (y := .biter b (i + 1)) (tk := s.toks + 1) k.g hs (fun b o hb e => (hs'.2 b hb).trans e) ⟨ar, t, hb, hit'⟩), .int _ _, q⟩

/-! ### list.insert(0, x) -/
abbrev insertW (x : V) (xs : List V) (Q : V → S → Prop) (st : S) : Prop := ∃ a y l, x = .ref a ∧ xs = [.int 0, y] ∧ st.σ a = some (.list l) ∧ l.length ≤ 1000000 ∧ Q .none (st.put a (.list (y :: l)))
theorem insert_ok (F : Fz) (x : V) (xs : List V) (a : Value) (vs : List Value) (rx : R F x a) (rs : RAll F xs vs) : Imp C F R (call (.builtin "list.insert") (a :: vs)) (insertW x xs) := by
  rintro E Q st F' s hF k ⟨D, y, l, hx, hxs, hs, hsz, q⟩
  subst hx; subst hxs
  cases rs with
  | cons r0 rs =>
    cases rs with
    | @cons _ v _ _ ry rs =>
      cases rs
      cases rx
      cases r0 with
      | int _ u =>
        obtain ⟨_, ws, n, ho, rw⟩ := k.g.st D _ hs
        have hl := rw.length
        refine call_meets PySem.F.slot_list_insert ⟨_, ho, rfl⟩ PySem.F.entry_list_insert (PySem.F.args_list_insert_3 _ _ _) (AutoSeq1.list_insert_list_int_val_1 D ws.toArray n 0 u v (by decide) (by simp; unfold sizeLine; omega)) ⟨ho, ?_⟩
        refine ⟨F', .none, _, Post.ofG k (PostG.change (y := .list (y :: l)) (tk := s.toks) k.g hs (fun b o hb e => (Heap.get?_update_other _ _ (Ne.symm hb)).trans e) ⟨v :: ws, n + 1, ?_, .cons (ry.mono hF) rw⟩), .none, q⟩
        have := PySem.IsL.update (h := s.heap) ho (fun xs => have k := if (0 : Int) < 0 then ((0 : Int) + (xs.size : Int)).toNat else min (0 : Int).toNat xs.size; (xs.extract 0 k).push v ++ xs.extract k)
        simpa using this

/-! ### max of two, an empty dict, and in values, what is never run -/
abbrev minW (xs : List V) (Q : V → S → Prop) (st : S) : Prop := ∃ a b, xs = [.int a, .int b] ∧ Q (.int (min a b)) st
theorem min_ok (F : Fz) (xs : List V) (vs : List Value) (rs : RAll F xs vs) : Imp C F R (call (.builtin "min") vs) (minW xs) := by
  rintro E Q st F' s hF k ⟨a, b, hx, q⟩
  subst hx
  cases rs with
  | cons r rs =>
    cases rs with
    | cons r' rs =>
      cases rs
      cases r with
      | int _ t =>
        cases r' with
        | int _ u =>
          refine min_two_ints k.ok.handled fun h' tk hk => ⟨F', .int (min a b), st, k.grown hk, ?_, q⟩
          by_cases h : b < a
          · rw [if_pos h, Int.min_eq_right (by omega)]; exact .int _ _
          · rw [if_neg h, Int.min_eq_left (by omega)]; exact .int _ _
theorem SimG.big {W : Wd} {F : Fz} {σ : St} {h : Heap} (g : SimG W F σ h) : (h.objs.size == sysModules) = false := by
  obtain ⟨mc, ⟨o, _, _, e, _⟩, _⟩ := W.lim
  have h2 : 2 < h.objs.size := Heap.lt_size (g.up _ _ e)
  show (h.objs.size == 1) = false
  rw [beq_eq_false_iff_ne]
  omega
theorem imp_false {X α : Type} {Rel : Fz → X → α → Prop} {t : Sem α} {F₀ : Fz} : Imp C F₀ Rel t (fun _ _ => False) := fun _ _ _ _ _ _ _ q => q.elim
end Mine

namespace Mine
open PySem PySem.W PyProof.Rows PySem.Calls

variable {C : Cx}

/-! ### slices of lists -/
def pickV (l : List V) (lo hi : Option Int) : List V := (l.drop (kms_lo lo l.length)).take (kms_hi hi l.length - kms_lo lo l.length)
def OptEv (C : Cx) (e : Option Expr) (T : (Option Int → S → Prop) → S → Prop) : Prop := Imp C F0 (fun _ x v => IsPart v x) (evalPart e C.env) T
theorem opt_none : OptEv C none (fun Q st => Q none st) := fun _ _ st F _ _ k q => wpAny_evalPart_none ⟨F, none, st, .refl k, .none, q⟩
theorem opt_some {e : Expr} {T : PV} (h : Ev C e T) : OptEv C (some e) (fun Q => T fun x st => ∃ i, x = .int i ∧ Q (some i) st) := by
  intro E Q st F s hF k q
  refine wpAny_evalPart_some (h.then hF k q fun F₁ x st₁ v s₁ p₁ r₁ ⟨i, hx, q₁⟩ => ?_)
  subst hx
  cases r₁
  exact ⟨F₁, some i, st₁, p₁, .int _ _, q₁⟩
theorem ev_slice {o : Expr} {lo hi : Option Expr} {p pos : Pos} {T : PV} {T₁ T₂ : (Option Int → S → Prop) → S → Prop} (ho : Ev C o T) (h₁ : OptEv C lo T₁) (h₂ : OptEv C hi T₂) :
    Ev C (.Subscript o (.Slice lo hi none p) pos) (fun Q => T fun x => T₁ fun i => T₂ fun j st => ∃ l, getL st x = some l ∧ l.length ≤ 1000000 ∧ newWS (.list (pickV l i j)) Q st) := by
  intro E Q st F s hF k q
  refine Subscript_ (ho.then hF k q fun F₁ x st₁ a s₁ p₁ ra q₁ => wpAny_Slice (h₁.then (F0.le _) p₁.sim q₁ fun F₂ i st₂ vl s₂ p₂ rl q₂ => h₂.then (F0.le _) p₂.sim q₂ fun F₃ j st₃ vu s₃ p₃ ru q₃ => wpAny_evalPart_none ?_))
  obtain ⟨l, hl, hsz, q₃⟩ := q₃
  obtain ⟨D, vs, n, rfl, hD, rs⟩ := getL_ok p₃.sim (ra.mono (p₂.ext.trans p₃.ext)) hl
  have hlen := rs.length
  have hD' : (s₃.heap.push { cls := .type "slice", data := .fields #[vl, vu, .none] }).get? D = some (listOf vs.toArray n) := Heap.get?_push_of_some _ hD
  have p₄ : Post C F₃ st₃ s₃ F₃ st₃ { s₃ with heap := s₃.heap.push { cls := .type "slice", data := .fields #[vl, vu, .none] } } := p₃.sim.grown (tk := s₃.toks) fun b o e => Heap.get?_push_of_some _ e
  have hL : ({ s₃ with heap := s₃.heap.push { cls := .type "slice", data := .fields #[vl, vu, .none] } } : Shared).heap.IsList D vs.toArray := PySem.IsL.isList (n := n) hD'
  refine tail_any hL.typeIs PySem.F.slot_list_getitem.lookup (wpAny_getItem_list_slice hL ⟨_, Heap.get?_push_size _ rfl, rfl, rfl⟩ rl ru .none (by simp) ?_ (by simp; unfold sizeLine; omega)) rfl
  rw [kms_pick_eq]
  have rp : RAll F₃ (pickV l i j) (kms_pick vs.toArray.toList i j) := by
    unfold pickV kms_pick
    simp only [List.toList_toArray, ← hlen]
    exact (rs.drop _).take _
  obtain ⟨F₅, z, st₅, p₅, rz, q₅⟩ := made_list (n := 0) p₄.sim rp q₃
  exact ⟨F₅, z, st₅, p₁.trans (p₂.trans (p₃.trans (p₄.trans p₅))), rz, q₅⟩

/-! ### isinstance and type of bytes -/
abbrev isiW (W : Wd) (xs : List V) (Q : V → S → Prop) (st : S) : Prop :=
  (∃ b T z, xs = [.bytes b, .raw (.type T)] ∧ kitOne [] (.type "bytes") (.type T) = some z ∧ Q (.bool z) st) ∨
  (∃ b tp its n z, xs = [.bytes b, .raw (.ref tp)] ∧ W.h₀.get? tp = some (tupOf its n) ∧ kitAny [] (.type "bytes") its = some z ∧ Q (.bool z) st)
theorem isi_ok (F : Fz) (xs : List V) (vs : List Value) (rs : RAll F xs vs) : Imp C F R (call (.builtin "isinstance") vs) (isiW C.W xs) := by
  rintro E Q st F' s hF k (⟨b, T, z, hx, hz, q⟩ | ⟨b, tp, its, n, z, hx, ht, hz, q⟩)
  · subst hx
    cases rs with
    | cons r rs =>
      cases rs with
      | cons r' rs =>
        cases rs
        cases r with
        | @bytes ar _ u hb =>
          cases r' with
          | raw =>
            exact kia_one (K := []) kitx_bytes (fun _ _ e => by cases e) trivial hz (fun e => nomatch e) fun tk => ⟨F', .bool z, st, k.toks tk, .bool _, q⟩
  · subst hx
    cases rs with
    | cons r rs =>
      cases rs with
      | cons r' rs =>
        cases rs
        cases r with
        | @bytes ar _ u hb =>
          cases r' with
          | raw =>
            exact kia_tup (K := []) kitx_bytes (fun _ _ e => by cases e) trivial (k.g.up _ _ ht) hz (fun e => nomatch e) fun tk => ⟨F', .bool z, st, k.toks tk, .bool _, q⟩
abbrev typeW (xs : List V) (Q : V → S → Prop) (st : S) : Prop := (∃ b, xs = [.bytes b] ∧ Q (.raw (.type "bytes")) st) ∨ (∃ b, xs = [.bool b] ∧ Q (.raw (.type "bool")) st)
theorem type_ok (F : Fz) (xs : List V) (vs : List Value) (rs : RAll F xs vs) : Imp C F R (call (.type "type") vs) (typeW xs) := by
  rintro E Q st F' s hF k (⟨b, hx, q⟩ | ⟨b, hx, q⟩)
  · subst hx
    cases rs with
    | cons r rs =>
      cases rs
      cases r
      exact call_type_of (Tx := "bytes") rfl (by decide +kernel) ⟨F', _, st, .refl k, .raw _, q⟩
  · subst hx
    cases rs with
    | cons r rs =>
      cases rs
      cases r
      exact call_type_of (Tx := "bool") rfl (by decide +kernel) ⟨F', _, st, .refl k, .raw _, q⟩

/-! ### a call by keyword -/
inductive KwAll (C : Cx) : List Keyword → List Str → ((List V → S → Prop) → S → Prop) → Prop
  | nil : KwAll C [] [] (fun Q st => Q [] st)
  | cons {n : Str} {e : Expr} {p : Pos} {ks : List Keyword} {ns : List Str} {T : PV} {Ts : (List V → S → Prop) → S → Prop} : Ev C e T → KwAll C ks ns Ts → KwAll C (⟨some n, e, p⟩ :: ks) (n :: ns) (fun Q => T fun x => Ts fun xs => Q (x :: xs))
theorem KwAll.run {ks : List Keyword} {ns : List Str} {Ts : (List V → S → Prop) → S → Prop} (h : KwAll C ks ns Ts) (pos : Pos) : Imp C F0 RAll (evalAll ((backToKw pos (keywordEach ks C.env)).map (·.2))) Ts ∧ (backToKw pos (keywordEach ks C.env)).all (·.1.isSome) = true ∧ (backToKw pos (keywordEach ks C.env)).filterMap (·.1) = ns := by
  induction h with
  | nil => exact ⟨fun E Q st F s _ k q => wpAny_evalAll_nil ⟨F, [], st, .refl k, .nil, q⟩, rfl, rfl⟩
  | @cons n e p ks ns T Ts he _ ih =>
    obtain ⟨i1, i2, i3⟩ := ih
    refine ⟨fun E Q st F s hF k q => ?_, by simpa [keywordEach, backToKw] using i2, by simpa [keywordEach, backToKw] using i3⟩
    show wpAny _ _ (evalAll ((do let v ← eval e C.env; standAt pos; pure v) :: ((backToKw pos (keywordEach ks C.env)).map (·.2)))) _ _ _
    refine wpAny_evalAll_cons (wpAny_bind (he.then hF k q fun F₁ x st₁ v s₁ p₁ r₁ q₁ => wpAny_bind (wpAny_standAt (wpAny_pure ?_))))
    exact i1.then (F0.le _) p₁.sim q₁ fun F₂ xs st₂ vs s₂ p₂ r₂ q₂ => ⟨F₂, x :: xs, st₂, p₁.trans p₂, .cons (r₁.mono p₂.ext) r₂, q₂⟩
theorem ev_callK {x : Str} {p pos : Pos} {a : Addr} {fd : FuncData} {e : Expr} {es : List Expr} {ks : List Keyword} {ns : List Str} {Ts Tk : (List V → S → Prop) → S → Prop} (g : Glo C x (.ref a)) (f : FnAt C.W a fd) (ha : EvAll C (e :: es) Ts) (hk : KwAll C ks ns Tk) {W : Wd} (hW : C.W = W) {j : Nat} (hj : C.lev = j) :
    Ev C (.Call (.Name x p) (e :: es) ks pos) (fun Q => Ts fun xs => Tk fun ys st => ys.length = ns.length ∧ CallOK W j a xs (ns.zip ys) (fun x σ' => Q x ⟨σ', st.ρ⟩) st.σ) := by
  subst hW; subst hj
  intro E Q st F s hF k q
  obtain ⟨o, ho, hd⟩ := f.at_
  obtain ⟨i1, i2, i3⟩ := hk.run pos
  refine wpAny_Call_Name_kw (name_wp k g.is g.eg g.eb g.hl g.hd ?_)
  have hst : isStarred e = false := by cases ha with | cons h _ _ => exact h
  have run := (ha.run pos).then (E := E) (F0.le _) k q (Z := fun vs s₁ => wpAny C.W.M C.A (evalAll ((backToKw pos (keywordEach ks C.env)).map (·.2))) (fun ks' s₂ => (s₂.heap.get? a = some o ∧ o.data = .func fd) ∧ wpAny C.W.M C.A (call (.ref a) ([] ++ vs) (((backToKw pos (keywordEach ks C.env)).filterMap (·.1)).zip ks')) (fun v s' => ∃ F' x st', Post C F st s F' st' s' ∧ R F' x v ∧ Q x st') E s₂) E s₁)
    fun F₁ xs st₁ vs s₁ p₁ rs q₁ => i1.then (F0.le _) p₁.sim q₁ fun F₂ ys st₂ ws s₂ p₂ rw q₂ => by
      refine ⟨⟨p₂.sim.g.up _ _ ho, hd⟩, ?_⟩
      have hlen := rw.length
      refine wpAny_mono (q₂.2 C.A E F₂ s₂ vs _ p₂.sim.ok p₂.sim.g (rs.mono p₂.ext) ?_ ?_) (fun v s₃ ⟨F₃, z, σ₃, p₃, rz, q₃⟩ => ⟨F₃, z, ⟨σ₃, st₂.ρ⟩, p₁.trans (p₂.trans (Post.ofG p₂.sim p₃)), rz, q₃⟩) fun _ _ e => e
      · rw [i3, List.map_fst_zip (by omega), List.map_fst_zip (by omega)]
      · rw [i3, List.map_snd_zip (by omega), List.map_snd_zip (by omega)]; exact rw
  refine callWith_function_kw (o := o) (fd := fd) ?_
  rw [starEach_cons hst] at run ⊢
  exact evalArgs_kw i2 run

/-- entering a def whose parameters are bound in whatever way -/
theorem call_introB {W : Wd} {a : Addr} {fd : FuncData} {body : List Stmt} {params names : List Str} {lev : Nat} {T : (Fl → S → Prop) → S → Prop} {xs ys : List V} {kw : List (Str × V)} {Q : V → St → Prop} {σ : St} (f : FnAt W a fd)
    (hb : fd.body = .stmts body) (hT : ∀ A L, Exs (fnCx W A fd L a (params ++ names) lev) body T)
    (hbind : ∀ (F : Fz) (s : Shared) (vs : List Value) (kvs : List (Str × Value)), SimG W F σ s.heap → RAll F xs vs → kw.map (·.1) = kvs.map (·.1) → RAll F (kw.map (·.2)) (kvs.map (·.2)) → ∃ ws, BindsTo s fd ⟨vs, kvs⟩ (params.zip ws) ∧ RAll F ys ws)
    (hcell : ∀ x ∈ fd.scope.names, x.2 ≠ .cell) (hloc : ∀ x ∈ params, fd.scope.names.lookup x = some .local) (hnd : (params ++ names).Nodup) (hlen : ys.length = params.length)
    (q : T (retW Q) ⟨σ, fun i => ys[i]?⟩)
    (hco : fd.scope.isCoroutine = false := by rfl) (hgen : fd.scope.isGenerator = false := by rfl) (hk : fd.scope.kind = .function := by rfl) : CallOK W (lev + 1) a xs kw Q σ := by
  intro A E F s vs kvs hA g rs hkn rk
  obtain ⟨o, ho, hd⟩ := f.at_
  obtain ⟨ws, hbd, rw⟩ := hbind F s vs kvs g rs hkn rk
  refine wpAny_call (codeAny_call_def (fd := fd) (body := body) (binds := params.zip ws) (by have := hA.depth; omega) (g.up _ _ ho) hd (W.lim.keeps g.up) (f.code.keeps g.up) hb hbd hcell (fun x hx => hloc x.1 (List.of_mem_zip hx).1) (fun h₀ hn hk₀ => ?_) hco hgen hk)
  obtain ⟨hF, hσ⟩ := get_fresh_none g
  have hs : s.heap.get? s.heap.objs.size = none := get_size
  have hpl : ∀ p ∈ (params ++ names).map (Pl.d s.heap.objs.size), p.addr = s.heap.objs.size := fun p hp => by obtain ⟨x, _, rfl⟩ := List.mem_map.mp hp; rfl
  have g₁ : SimG W F σ h₀ := g.heap [] (fun b o _ e => hk₀ b o e) (fun _ m => nomatch m)
  have sim : Sim (fnCx W A fd s.heap.objs.size a (params ++ names) lev) F ⟨σ, fun i => ys[i]?⟩ h₀ := by
    refine ⟨g₁, fun i p hp => ?_, fun p hp => ?_, okA_deeper hA, hk, ?_⟩
    · have hp' : ((params ++ names).map (Pl.d s.heap.objs.size))[i]? = some p := hp
      rw [List.getElem?_map] at hp'
      obtain ⟨x, hx, rfl⟩ := Option.map_eq_some_iff.mp hp'
      refine ⟨_, hn, fun v hv => ?_⟩
      have hv' : ys[i]? = some v := hv
      have hi : i < params.length := by rw [← hlen]; exact (List.getElem?_eq_some_iff.mp hv').1
      rw [List.getElem?_append_left hi] at hx
      obtain ⟨u, hu, r⟩ := rw.get hv'
      exact ⟨u, lookup_zip (List.nodup_append.mp hnd).1 hx hu, r⟩
    · rw [hpl p hp]; exact ⟨hF, hσ⟩
    · exact List.pairwise_map.mpr (hnd.imp fun h e => h (by injection e))
  refine (hT A s.heap.objs.size).then (F0.le _) sim q fun F₁ fl st₁ w s₁ p₁ rf q₁ => ?_
  have fin : PostG [] W F σ s F₁ st₁.σ s₁ := by
    have z : PostG ((params ++ names).map (fun _ => s.heap.objs.size)) W F σ s F σ { s with heap := h₀, toks := s.toks + (params.zip ws).length } := .heap g [] (fun b o _ e => hk₀ b o e) (fun _ m => nomatch m) (fun _ m => nomatch m)
    have p₁' : PostG ((params ++ names).map (fun _ => s.heap.objs.size)) W F σ { s with heap := h₀, toks := s.toks + (params.zip ws).length } F₁ st₁.σ s₁ := by
      have := p₁.p
      refine this.congr fun b => ?_
      show b ∈ (params ++ names).map _ ↔ b ∈ ((params ++ names).map (Pl.d s.heap.objs.size)).map Pl.addr
      rw [List.map_map]; exact Iff.rfl
    have t := z.trans p₁'
    have u : PostG ((params ++ names).map (fun _ => s.heap.objs.size) ++ []) W F σ s F₁ st₁.σ s₁ := by rw [List.append_nil]; exact t
    exact strikeAll u fun b hb => by obtain ⟨_, _, rfl⟩ := List.mem_map.mp hb; exact hs
  cases rf with
  | next => obtain ⟨σ', hsub, q₁⟩ := q₁; exact ⟨F₁, .none, σ', fin.sub hsub, .none, q₁⟩
  | brk => exact q₁.elim
  | cont => exact q₁.elim
  | ret r => obtain ⟨σ', hsub, q₁⟩ := q₁; exact ⟨F₁, _, σ', fin.sub hsub, r, q₁⟩
end Mine

namespace Mine
open PySem PySem.W PyProof.Rows PySem.Calls

variable {C : Cx}

/-! ### defs some of whose names lie in cells -/
def cellsAt (fd : FuncData) (L : Addr) : List (Str × Addr) := cellsFrom (L + 1) fd.scope.names []
def envC (fd : FuncData) (L a : Addr) : Env := newEnv fd.scope L fd.globals (cellsAt fd L) (fd.qualname ++ ".<locals>.") (some a) fd.code none fd.builtins
def plOf (fd : FuncData) (L : Addr) (p : Str × Bool) : Pl := if p.2 then .c (((cellsAt fd L).lookup p.1).getD 0) else .d L p.1
def fnCxC (W : Wd) (A : Around) (fd : FuncData) (L a : Addr) (names : List (Str × Bool)) (lev : Nat) : Cx := { W := W, A := A.deeper (envC fd L a), env := envC fd L a, pl := names.map (plOf fd L), lev := lev }

theorem bindL_off (kd : Str → Option NameKind) : ∀ {ns : List Str} {ws : List Value} {m : Str → Option Value} {x : Str}, x ∉ ns → bindL kd (ns.zip ws) m x = m x
  | [], _, _, _, _ => rfl
  | _ :: _, [], _, _, _ => rfl
  | n :: ns, w :: ws, m, x, h => by
    rw [List.zip_cons_cons, bindL, bindL_off kd (fun q => h (.tail _ q))]
    split
    · exact if_neg (show ¬ x = n from fun e => h (by rw [e]; exact .head _))
    · rfl
theorem bindL_at {kd : Str → Option NameKind} : ∀ {ns : List Str} {ws : List Value} {m : Str → Option Value} {i : Nat} {x : Str} {v : Value}, ns.Nodup → ns[i]? = some x → ws[i]? = some v → kd x = some .local → bindL kd (ns.zip ws) m x = some v
  | [], _, _, _, _, _, _, h, _, _ => by simp at h
  | _ :: _, [], _, _, _, _, _, _, h, _ => by simp at h
  | n :: ns, w :: ws, m, 0, x, v, hn, h1, h2, hk => by
    simp at h1 h2
    subst h1; subst h2
    rw [List.zip_cons_cons, bindL, if_pos hk, bindL_off kd (List.nodup_cons.mp hn).1, if_pos rfl]
  | n :: ns, w :: ws, m, i + 1, x, v, hn, h1, h2, hk => by
    rw [List.zip_cons_cons, bindL]
    exact bindL_at (List.nodup_cons.mp hn).2 (by simpa using h1) (by simpa using h2) hk
theorem bindC_off (kd : Str → Option NameKind) : ∀ {ns : List Str} {ws : List Value} {m : Str → Option Value} {x : Str}, x ∉ ns → bindC kd (ns.zip ws) m x = m x
  | [], _, _, _, _ => rfl
  | _ :: _, [], _, _, _ => rfl
  | n :: ns, w :: ws, m, x, h => by
    rw [List.zip_cons_cons, bindC, bindC_off kd (fun q => h (.tail _ q))]
    split
    · rfl
    · exact if_neg (show ¬ x = n from fun e => h (by rw [e]; exact .head _))
theorem bindC_at {kd : Str → Option NameKind} : ∀ {ns : List Str} {ws : List Value} {m : Str → Option Value} {i : Nat} {x : Str} {v : Value}, ns.Nodup → ns[i]? = some x → ws[i]? = some v → kd x ≠ some .local → bindC kd (ns.zip ws) m x = some v
  | [], _, _, _, _, _, _, h, _, _ => by simp at h
  | _ :: _, [], _, _, _, _, _, _, h, _ => by simp at h
  | n :: ns, w :: ws, m, 0, x, v, hn, h1, h2, hk => by
    simp at h1 h2
    subst h1; subst h2
    rw [List.zip_cons_cons, bindC, if_neg hk, bindC_off kd (List.nodup_cons.mp hn).1, if_pos rfl]
  | n :: ns, w :: ws, m, i + 1, x, v, hn, h1, h2, hk => by
    rw [List.zip_cons_cons, bindC]
    exact bindC_at (List.nodup_cons.mp hn).2 (by simpa using h1) (by simpa using h2) hk

/-- a call from such surroundings as P says -/
def CallP (P : Around → Prop) (W : Wd) (j : Nat) (a : Addr) (xs : List V) (kw : List (Str × V)) (Q : V → St → Prop) (σ : St) : Prop :=
  ∀ (A : Around) (E : Value → Shared → Prop) (F : Fz) (s : Shared) (vs : List Value) (kvs : List (Str × Value)), P A → OkA A j → SimG W F σ s.heap → RAll F xs vs → kw.map (·.1) = kvs.map (·.1) → RAll F (kw.map (·.2)) (kvs.map (·.2)) →
    wpAny W.M A (call (.ref a) vs kvs) (fun v s' => ∃ F' x σ', PostG [] W F σ s F' σ' s' ∧ R F' x v ∧ Q x σ') E s
theorem call_introP (P : Around → Prop) {W : Wd} {a : Addr} {fd : FuncData} {body : List Stmt} {params : List Str} {names : List (Str × Bool)} {lev : Nat} {T : Addr → (Fl → S → Prop) → S → Prop} {xs : List V} {Q : V → St → Prop} {σ : St} (f : FnAt W a fd)
    (hb : fd.body = .stmts body) (hT : ∀ A L, P A → Exs (fnCxC W A fd L a names lev) body (T L))
    (hbind : ∀ vs : List Value, vs.length = params.length → bindArgs fd ⟨vs, []⟩ = pure (params.zip vs)) (hcl : fd.closure = [])
    (hpar : (names.map (·.1)).take params.length = params)
    (hkd : ∀ p ∈ names, fd.scope.names.lookup p.1 = some (if p.2 then .cell else .local)) (hin : ∀ L, ∀ p ∈ names, p.2 = true → ((cellsAt fd L).lookup p.1).isSome = true)
    (hnd : (names.map (·.1)).Nodup) (hlen : xs.length = params.length)
    (q : ∀ L, T L (retW Q) ⟨σ, fun i => xs[i]?⟩)
    (hco : fd.scope.isCoroutine = false := by rfl) (hgen : fd.scope.isGenerator = false := by rfl) (hk : fd.scope.kind = .function := by rfl) : CallP P W (lev + 1) a xs [] Q σ := by
  intro A E F s vs kvs hPA hA g rs hkn _
  obtain ⟨o, ho, hd⟩ := f.at_
  cases kvs with
  | cons _ _ => simp at hkn
  | nil =>
  have hvl : vs.length = params.length := by rw [← rs.length, hlen]
  have hbd := hbind vs hvl
  have hpnd : params.Nodup := by rw [← hpar]; exact hnd.sublist (List.take_sublist _ _)
  have hpm : ∀ x ∈ params, ∃ p ∈ names, p.1 = x := fun x hx => by
    rw [← hpar] at hx
    obtain ⟨p, hp, e⟩ := List.mem_map.mp (List.mem_of_mem_take hx)
    exact ⟨p, hp, e⟩
  refine wpAny_call (codeAny_call_function (by have := hA.depth; omega) (g.up _ _ ho) hd hco hgen hb (f.code.keeps g.up) ?_)
  rw [hbd]
  refine wpAny_pure ?_
  rw [hcl]
  refine wpAny_newFunctionEnv_cells hk (fun x hx => ?_) (fun env henv s₁ ic => ?_)
  · obtain ⟨p, hp, e⟩ := hpm x.1 (List.of_mem_zip hx).1
    have := hkd p hp
    rw [e] at this
    cases h : p.2 with
    | false => rw [h] at this; exact .inl this
    | true => rw [h] at this; exact .inr ⟨this, by rw [← e]; exact hin _ p hp h⟩
  have henv' : env = envC fd s.heap.objs.size a := henv
  clear henv
  subst henv'
  have L0 : (envC fd s.heap.objs.size a).locals = s.heap.objs.size := rfl
  have C0 : (envC fd s.heap.objs.size a).cells = cellsAt fd s.heap.objs.size := rfl
  rw [L0, C0] at ic
  obtain ⟨h₁, tk, rfl⟩ := ic.toInCall.same
  have keep := ic.toInCall.keep
  have hns := ic.toInCall.ns
  refine ⟨(W.lim.keeps g.up).keeps keep, codeAny_func ?_⟩
  have hs : s.heap.get? s.heap.objs.size = none := get_size
  have big : ∀ c, s.heap.objs.size ≤ c → s.heap.get? c = none := fun c hc => by
    cases e : s.heap.get? c with
    | none => rfl
    | some o => exact absurd (Heap.lt_size e) (Nat.not_lt.mpr hc)
  have hpl : ∀ p ∈ names, s.heap.get? (plOf fd s.heap.objs.size p).addr = none := fun p hp => by
    unfold plOf
    cases h : p.2 with
    | false => exact hs
    | true =>
      obtain ⟨c, hc⟩ := Option.isSome_iff_exists.mp (hin s.heap.objs.size p hp h)
      simp only [if_true, hc, Option.getD_some]
      exact big c (Nat.le_of_lt (ic.above p.1 c (mem_of_lookup hc)))
  have g₁ : SimG W F σ h₁ := g.heap [] (fun b o _ e => keep b o e) (fun _ m => nomatch m)
  have sim : Sim (fnCxC W A fd s.heap.objs.size a names lev) F ⟨σ, fun i => xs[i]?⟩ h₁ := by
    refine ⟨g₁, fun i p hp => ?_, fun p hp => ?_, okA_deeper hA, hk, ?_⟩
    · have hp' : (names.map (plOf fd s.heap.objs.size))[i]? = some p := hp
      rw [List.getElem?_map] at hp'
      obtain ⟨x, hx, rfl⟩ := Option.map_eq_some_iff.mp hp'
      have hxm := List.mem_of_getElem? hx
      have kd := hkd x hxm
      have at_ : ∀ v, xs[i]? = some v → ∃ u, vs[i]? = some u ∧ R F v u ∧ params[i]? = some x.1 := fun v hv => by
        obtain ⟨u, hu, r⟩ := rs.get hv
        refine ⟨u, hu, r, ?_⟩
        have hi : i < params.length := by rw [← hlen]; exact (List.getElem?_eq_some_iff.mp hv).1
        rw [← hpar, List.getElem?_take, if_pos hi, List.getElem?_map, hx]; rfl
      unfold plOf
      cases h : x.2 with
      | false =>
        rw [h] at kd
        refine ⟨_, hns, fun v hv => ?_⟩
        obtain ⟨u, hu, r, hpi⟩ := at_ v hv
        exact ⟨u, bindL_at hpnd hpi hu kd, r⟩
      | true =>
        rw [h] at kd
        obtain ⟨c, hc⟩ := Option.isSome_iff_exists.mp (hin s.heap.objs.size x hxm h)
        simp only [if_true, hc, Option.getD_some]
        refine ⟨_, ic.cell x.1 c hc, fun v hv => ?_⟩
        obtain ⟨u, hu, r, hpi⟩ := at_ v hv
        refine ⟨u, bindC_at hpnd hpi hu ?_, r⟩
        show fd.scope.names.lookup x.1 ≠ some .local
        rw [kd]; simp
    · obtain ⟨x, hx, rfl⟩ := List.mem_map.mp hp
      exact g.free (hpl x hx)
    · show (names.map (plOf fd s.heap.objs.size)).Nodup
      refine List.pairwise_map.mpr (List.Pairwise.imp_of_mem ?_ (List.pairwise_map.mp hnd))
      intro x y hx hy hne e
      unfold plOf at e
      cases h1 : x.2 with
      | false =>
        cases h2 : y.2 with
        | false => rw [h1, h2] at e; simp at e; exact hne e
        | true => rw [h1, h2] at e; simp at e
      | true =>
        cases h2 : y.2 with
        | false => rw [h1, h2] at e; simp at e
        | true =>
          obtain ⟨c, hc⟩ := Option.isSome_iff_exists.mp (hin s.heap.objs.size x hx h1)
          obtain ⟨d, hd'⟩ := Option.isSome_iff_exists.mp (hin s.heap.objs.size y hy h2)
          rw [h1, h2, hc, hd'] at e
          simp at e
          subst e
          exact hne (name_of_addr ic.apart (mem_of_lookup hc) (mem_of_lookup hd'))
  refine (hT A s.heap.objs.size hPA).then (F0.le _) sim (q _) fun F₁ fl st₁ w s₂ p₁ rf q₁ => ?_
  have fin : PostG [] W F σ s F₁ st₁.σ s₂ := by
    have z : PostG ((names.map (plOf fd s.heap.objs.size)).map Pl.addr) W F σ s F σ { s with heap := h₁, toks := tk } := .heap g [] (fun b o _ e => keep b o e) (fun _ m => nomatch m) (fun _ m => nomatch m)
    have t := z.trans p₁.p
    have u : PostG ((names.map (plOf fd s.heap.objs.size)).map Pl.addr ++ []) W F σ s F₁ st₁.σ s₂ := by rw [List.append_nil]; exact t
    exact strikeAll u fun b hb => by
      obtain ⟨p, hp, rfl⟩ := List.mem_map.mp hb
      obtain ⟨x, hx, rfl⟩ := List.mem_map.mp hp
      exact hpl x hx
  cases rf with
  | next => obtain ⟨σ', hsub, q₁⟩ := q₁; exact ⟨F₁, .none, σ', fin.sub hsub, .none, q₁⟩
  | brk => exact q₁.elim
  | cont => exact q₁.elim
  | ret r => obtain ⟨σ', hsub, q₁⟩ := q₁; exact ⟨F₁, _, σ', fin.sub hsub, r, q₁⟩
theorem call_introC {W : Wd} {a : Addr} {fd : FuncData} {body : List Stmt} {params : List Str} {names : List (Str × Bool)} {lev : Nat} {T : (Fl → S → Prop) → S → Prop} {xs : List V} {Q : V → St → Prop} {σ : St} (f : FnAt W a fd)
    (hb : fd.body = .stmts body) (hT : ∀ A L, Exs (fnCxC W A fd L a names lev) body T)
    (hbind : ∀ vs : List Value, vs.length = params.length → bindArgs fd ⟨vs, []⟩ = pure (params.zip vs)) (hcl : fd.closure = [])
    (hpar : (names.map (·.1)).take params.length = params)
    (hkd : ∀ p ∈ names, fd.scope.names.lookup p.1 = some (if p.2 then .cell else .local)) (hin : ∀ L, ∀ p ∈ names, p.2 = true → ((cellsAt fd L).lookup p.1).isSome = true)
    (hnd : (names.map (·.1)).Nodup) (hlen : xs.length = params.length)
    (q : T (retW Q) ⟨σ, fun i => xs[i]?⟩)
    (hco : fd.scope.isCoroutine = false := by rfl) (hgen : fd.scope.isGenerator = false := by rfl) (hk : fd.scope.kind = .function := by rfl) : CallOK W (lev + 1) a xs [] Q σ := fun A E F s vs kvs hA =>
  call_introP (fun _ => True) f hb (fun A L _ => hT A L) hbind hcl hpar hkd hin hnd hlen (fun _ => q) hco hgen hk A E F s vs kvs trivial hA
end Mine

namespace Mine
open PySem PySem.W PyProof.Rows PySem.Calls

variable {C : Cx}

/-! ### a list is frozen as it is stored -/
abbrev fzA (T : AT) : AT := fun x K st => ∃ a xs, x = .ref a ∧ st.σ a = some (.list xs) ∧ T (.list xs) K (st.del a)
theorem asg_freeze {t : Expr} {T : AT} (h : Asg C t T) : Asg C t (fzA T) := by
  rintro F₀ x v r E Q st F s hF k ⟨a, xs, hx, ha, q⟩
  subst hx
  cases r
  obtain ⟨F₂, p₂, r₂⟩ := PostG.freeze k.g ha
  have p := Post.ofG k p₂
  exact (h F₂ (.list xs) (.ref a) r₂).then (Q := fun _ => Q ()) (.refl _) p.sim q fun F₃ _ st₃ _ s₃ p₃ _ q₃ => ⟨F₃, (), st₃, p.trans p₃, trivial, q₃⟩

/-! ### or of any number -/
inductive OrAll (C : Cx) : List Expr → PB → Prop
  | nil : OrAll C [] (fun Q st => Q false st)
  | cons {e : Expr} {es : List Expr} {T Ts : PB} : EvT C e T → OrAll C es Ts → OrAll C (e :: es) (fun Q => T fun b => if b then Q true else Ts Q)
theorem evT_orN {es : List Expr} {pos : Pos} {T : PB} (h : OrAll C es T) : EvT C (.BoolOp .Or es pos) T := by
  intro E Q st F s hF k q
  refine wpAny_isTrue_BoolOp ?_
  suffices H : ∀ F st s, Sim C F st s.heap → T Q st → wpAny C.W.M C.A _ (fun v s' => ∃ F' x st', Post C F st s F' st' s' ∧ RB F' x v ∧ Q x st') E s from H F st s k q
  clear q k hF s F st
  induction h with
  | nil => exact fun F st s k q => wpAny_allTrue_Or_nil ⟨F, false, st, .refl k, rfl, q⟩
  | cons he _ ih =>
    intro F st s k q
    refine wpAny_allTrue_Or_cons (he.then (F0.le _) k q fun F₁ b st₁ a s₁ p₁ ra q₁ => ?_)
    subst ra
    cases b with
    | true => exact ⟨F₁, true, st₁, p₁, rfl, q₁⟩
    | false => exact wpAny_mono (ih F₁ st₁ s₁ p₁.sim q₁) (fun v s₂ ⟨F₂, x, st₂, p₂, r₂, q₂⟩ => ⟨F₂, x, st₂, p₁.trans p₂, r₂, q₂⟩) fun _ _ e => e

/-! ### short names of transformers -/
abbrev PF := (Fl → S → Prop) → S → Prop
abbrev PL := (List V → S → Prop) → S → Prop
abbrev exprW (T : PV) : PF := fun Q => T fun _ => Q .next
abbrev nilW : PF := fun Q => Q .next
abbrev brkW : PF := fun Q => Q .brk
abbrev contW : PF := fun Q => Q .cont
abbrev retS (T : PV) : PF := fun Q => T fun v => Q (.ret v)
abbrev noS : PF := fun _ _ => False
abbrev noV : PV := fun _ _ => False
abbrev asgS (T : PV) (Ta : AT) : PF := fun Q => T fun x => Ta x (Q .next)
abbrev putS (T₃ T₁ T₂ : PV) : PF := fun Q => T₃ fun z => T₁ fun x => T₂ fun y => putW x y z (Q .next)
abbrev augS (i : Nat) (T : PV) (B : V → V → PV) : PF := fun Q => locW i fun o => T fun y => B o y fun z st => Q .next (st.set i z)
abbrev ifS (T : PB) (T₁ T₂ : PF) : PF := fun Q => T fun z => if z then T₁ Q else T₂ Q
abbrev arg0 : PL := fun Q => Q []
abbrev argS (T : PV) (Ts : PL) : PL := fun Q => T fun x => Ts fun xs => Q (x :: xs)
abbrev cW (v : V) : PV := fun Q => Q v
abbrev biW (B : V → V → PV) (T₁ T₂ : PV) : PV := fun Q => T₁ fun x => T₂ fun y => B x y Q
abbrev mtW (T : PV) (Ts : PL) (B : V → List V → PV) : PV := fun Q => T fun x st => ∃ l, getL st x = some l ∧ Ts (fun xs => B x xs Q) st
abbrev cbW (Ts : PL) (B : List V → PV) : PV := fun Q => Ts fun xs => B xs Q
abbrev ckW (W : Wd) (j : Nat) (a : Addr) (ns : List Str) (Ts Tk : PL) : PV := fun Q => Ts fun xs => Tk fun ys st => ys.length = ns.length ∧ CallOK W j a xs (ns.zip ys) (fun x σ' => Q x ⟨σ', st.ρ⟩) st.σ
abbrev cmW (B : V → V → PB) (T₁ T₂ : PV) : PB := fun Q => T₁ fun x => T₂ fun y => B x y Q
abbrev cvW (B : V → V → PB) (T₁ T₂ : PV) : PV := fun Q => T₁ fun x => T₂ fun y => B x y fun b => Q (.bool b)
abbrev c2W (B B' : V → V → PB) (T₁ T₂ T₃ : PV) : PB := fun Q => T₁ fun x => T₂ fun y => B x y fun z => if z then T₃ fun u => B' y u Q else Q false
abbrev notB (T : PB) : PB := fun Q => T fun b => Q (!b)
abbrev andB (T₁ T₂ : PB) : PB := fun Q => T₁ fun b => if b then T₂ Q else Q false
abbrev orB (T₁ T₂ : PB) : PB := fun Q => T₁ fun b => if b then Q true else T₂ Q
abbrev valB (T : PV) : PB := fun Q => T fun x => truW x Q
abbrev iteW (T : PB) (T₁ T₂ : PV) : PV := fun Q => T fun z => if z then T₁ Q else T₂ Q
abbrev itW (T₁ T₂ : PV) : PV := fun Q => T₁ fun x => T₂ fun y st => ∃ k, y = .int k ∧ getW x (.int k) Q st
abbrev tpW (Ts : PL) : PV := fun Q => Ts fun xs st => xs.length ≤ sizeLine ∧ Q (.tuple xs) st
abbrev lsW (Ts : PL) : PV := fun Q => Ts fun xs st => xs.length ≤ sizeLine ∧ newWS (.list xs) Q st
abbrev PO := (Option Int → S → Prop) → S → Prop
abbrev oN : PO := fun Q => Q none
abbrev oS (T : PV) : PO := fun Q => T fun x st => ∃ i, x = .int i ∧ Q (some i) st
abbrev slW (T : PV) (T₁ T₂ : PO) : PV := fun Q => T fun x => T₁ fun i => T₂ fun j st => ∃ l, getL st x = some l ∧ l.length ≤ 1000000 ∧ newWS (.list (pickV l i j)) Q st
abbrev or0 : PB := fun Q => Q false
abbrev tT : PB := fun Q => Q true
def b64N : List UInt8 := [65, 66, 67, 68, 69, 70, 71, 72, 73, 74, 75, 76, 77, 78, 79, 80, 81, 82, 83, 84, 85, 86, 87, 88, 89, 90, 97, 98, 99, 100, 101, 102, 103, 104, 105, 106, 107, 108, 109, 110, 111, 112, 113, 114, 115, 116, 117, 118, 119, 120, 121, 122, 48, 49, 50, 51, 52, 53, 54, 55, 56, 57, 43, 47]
def b64L : List Int := [65, 66, 67, 68, 69, 70, 71, 72, 73, 74, 75, 76, 77, 78, 79, 80, 81, 82, 83, 84, 85, 86, 87, 88, 89, 90, 97, 98, 99, 100, 101, 102, 103, 104, 105, 106, 107, 108, 109, 110, 111, 112, 113, 114, 115, 116, 117, 118, 119, 120, 121, 122, 48, 49, 50, 51, 52, 53, 54, 55, 56, 57, 43, 47]
def b64V : Value := .bytes b64N.toArray 301
theorem b64R {F : Fz} : R F (.bytes b64L) b64V := .bytes _ (by unfold BytesAre; decide +kernel)
end Mine

namespace Mine
open PySem PySem.W PyProof.Rows PySem.Calls

variable {C : Cx}

/-! ### stores that change places: a, b = x, y -/
inductive NamesAt (C : Cx) : List Str → List Nat → Prop
  | nil : NamesAt C [] []
  | cons {x : Str} {xs : List Str} {i : Nat} {is : List Nat} : C.pl[i]? = some (.d C.env.locals x) → C.env.kindOf x = some .local → NamesAt C xs is → NamesAt C (x :: xs) (i :: is)
def setAll : List Nat → List V → S → S
  | i :: is, x :: xs, st => setAll is xs (st.set i x)
  | _, _, st => st
theorem NamesAt.run {ns : List Str} {is : List Nat} (h : NamesAt C ns is) : ∀ {F : Fz} {xs : List V} {vs : List Value}, RAll F xs vs → xs.length = is.length → Imp C F RU (assignInOrder (ns.map fun n => bindName C.env n) vs) (fun Q st => Q () (setAll is xs st)) := by
  induction h with
  | nil =>
    intro F₀ xs vs r hl E Q st F s hF k q
    cases r with
    | nil => exact wpAny_assignInOrder_none ⟨F, (), st, .refl k, trivial, q⟩
    | cons _ _ => cases hl
  | @cons x ns i is hp hk _ ih =>
    intro F₀ xs vs r hl E Q st F s hF k q
    cases r with
    | nil => cases hl
    | @cons y v xs vs r rs =>
      obtain ⟨m, n, _⟩ := k.loc i _ hp
      refine wpAny_assignInOrder_more (wpAny_bindName (wpAny_storeName_local hk n (fun h' hn hs => ?_) (by rw [k.fn]; rfl)))
      have p₁ := k.storeD (tk := s.toks + 1) hp (r.mono hF) n hn hs
      exact (ih (rs.mono hF) (Nat.succ.inj hl)).then (Q := Q) (.refl _) p₁.sim q fun F₂ _ st₂ _ s₂ p₂ _ q₂ => ⟨F₂, (), st₂, p₁.trans p₂, trivial, q₂⟩
abbrev swW (is : List Nat) : AT := fun x K st => ∃ xs, x = .tuple xs ∧ xs.length = is.length ∧ K (setAll is.reverse xs.reverse st)
theorem RAll.rev {F : Fz} : ∀ {xs : List V} {vs : List Value}, RAll F xs vs → RAll F xs.reverse vs.reverse := by
  intro xs
  induction xs with
  | nil => intro vs h; cases h; exact .nil
  | cons x xs ih => intro vs h; cases h with | cons a r => rw [List.reverse_cons, List.reverse_cons]; exact (ih r).append (.cons a .nil)
theorem ex_assign_sw {t v : Expr} {pos : Pos} {T : PV} {ns : List Str} {is : List Nat} (hw : swappedStores [t] v C.env = pure (some ns)) (hn : NamesAt C ns.reverse is.reverse) (h : Ev C v T) (hs : swapsWithSole [t] v pos.line C.env = pure false := by rfl) :
    Ex C (.Assign [t] v pos) (fun Q => T fun x => swW is x (Q .next)) := by
  intro E Q st F s hF k q
  show wpAny _ _ (do standAt pos; if ← swapsWithSole [t] v pos.line C.env then _ else do let v' ← eval v C.env; assignStores C.env v' (← swappedStores [t] v C.env) ((assignEach [t] C.env).map (·.2))) _ _ _
  refine wpAny_bind (wpAny_standAt ?_)
  rw [hs]
  refine wpAny_bind (wpAny_pure ?_)
  rw [if_neg (by decide)]
  refine wpAny_bind (h.then hF k q fun F₁ x st₁ a s₁ p₁ ra q₁ => ?_)
  rw [hw]
  refine wpAny_bind (wpAny_pure ?_)
  obtain ⟨xs, hx, hl, q₁⟩ := q₁
  subst hx
  cases ra with
  | @tuple a vs n _ e rs =>
    have hlen : ns.length = vs.toArray.size := by
      have h1 : ∀ {ns : List Str} {is : List Nat}, NamesAt C ns is → ns.length = is.length := fun h => by
        induction h with
        | nil => rfl
        | cons _ _ _ ih => simp [ih]
      have := h1 hn
      rw [List.length_reverse, List.length_reverse] at this
      rw [this, ← hl, rs.length]; simp
    show wpAny _ _ (do rule "assign.swapped-stores"; let items ← unpackItems (.ref a) ns.length none; assignInOrder (ns.reverse.map fun n => bindName C.env n) items.reverse; pure Flow.next) _ _ _
    refine wpAny_bind (wpAny_rule (wpAny_bind ?_))
    rw [hlen]
    refine wpAny_unpackItems_tuple p₁.sim.ok.handled (IsTuple.of (p₁.sim.g.fz _ _ e)) fun h' he => ?_
    have p₂ : Post C F₁ st₁ s₁ F₁ st₁ { s₁ with heap := h' } := p₁.sim.grown (tk := s₁.toks) fun b o eb => he b o (Nat.ne_of_lt (Heap.lt_size eb)) eb
    refine wpAny_bind ((hn.run (xs := xs.reverse) (vs := vs.reverse) rs.rev (by simp [hl])).then (Q := fun _ => Q .next) (.refl _) p₂.sim q₁ fun F₃ _ st₃ _ s₃ p₃ _ q₃ => ?_)
    exact wpAny_pure ⟨F₃, .next, st₃, p₁.trans (p₂.trans p₃), .next, q₃⟩

end Mine

namespace Mine
open PySem PySem.W PyProof.Rows PySem.Calls

/-! ### the sort's tree, run by an order of places (five at most) -/
def kasRun {α : Type} (c : Nat → Nat → Bool) : KasT α → α
  | .ret a => a
  | .ask i j k => kasRun c (k (c i j))
def runOk {α : Type} (c : Nat → Nat → Bool) (n : Nat) : KasT α → Bool
  | .ret _ => true
  | .ask i j k => decide (i < n) && (decide (j < n) && runOk c n (k (c i j)))
def vecs (n : Nat) : Nat → List (List Nat)
  | 0 => [[]]
  | k + 1 => (vecs n k).flatMap fun r => (List.range n).map fun x => x :: r
abbrev rc (r : List Nat) (i j : Nat) : Bool := decide (r.getD i 0 < r.getD j 0)
def okRun (n : Nat) (r : List Nat) : Bool := runOk (rc r) n (kas_sort n) && ((kasRun (rc r) (kas_sort n)).toList.isPerm (List.range n) && decide ((kasRun (rc r) (kas_sort n)).toList.map (fun i => r.getD i 0) = List.range n))
def nodupB : List Nat → Bool
  | [] => true
  | x :: xs => !xs.contains x && nodupB xs
theorem runs_ok : ((List.range 6).all fun n => (vecs n n).all fun r => !nodupB r || okRun n r) = true := by decide +kernel
theorem run_wp {α : Type} {c : Nat → Nat → Bool} {n : Nat} {ask : Nat → Nat → (Bool → Shared → Prop) → Shared → Prop} {s : Shared} (h : ∀ i j C, i < n → j < n → C (c i j) s → ask i j C s) {Q : α → Shared → Prop} : ∀ t : KasT α, runOk c n t = true → Q (kasRun c t) s → t.kasWp ask Q s
  | .ret _, _, q => q
  | .ask i j k, g, q => by
    obtain ⟨a, b⟩ := Bool.and_eq_true_iff.mp g
    obtain ⟨b, d⟩ := Bool.and_eq_true_iff.mp b
    exact h i j _ (of_decide_eq_true a) (of_decide_eq_true b) (run_wp h (k (c i j)) d q)
theorem mem_vecs {n : Nat} : ∀ r : List Nat, (∀ x ∈ r, x < n) → r ∈ vecs n r.length
  | [], _ => .head _
  | x :: r, h => List.mem_flatMap.mpr ⟨r, mem_vecs r fun y m => h y (.tail _ m), List.mem_map.mpr ⟨x, List.mem_range.mpr (h x (.head _)), rfl⟩⟩
theorem nodupB_of : ∀ {r : List Nat}, r.Nodup → nodupB r = true
  | [], _ => rfl
  | x :: xs, h => by
    have h1 := (List.nodup_cons.mp h).1
    rw [nodupB, nodupB_of (List.nodup_cons.mp h).2, Bool.and_true, Bool.not_eq_true', ← Bool.not_eq_true, List.contains_iff_mem]; exact h1
theorem okRun_of {n : Nat} {r : List Nat} (hn : n < 6) (hl : r.length = n) (hx : ∀ x ∈ r, x < n) (hd : r.Nodup) : okRun n r = true := by
  have m := mem_vecs r hx
  rw [hl] at m
  have h := List.all_eq_true.mp (List.all_eq_true.mp runs_ok n (List.mem_range.mpr hn)) r m
  rw [nodupB_of hd] at h
  exact h
end Mine

namespace Mine
open PySem PySem.W PyProof.Rows PySem.Calls
/-! ### tuples of ints in order -/
def tv (is : List Int) : V := .tuple (is.map .int)
def leL (a b : List Int) : Prop := lexLt b a = false
theorem lex_refl : ∀ a, leL a a
  | [] => rfl
  | x :: xs => by have := lex_refl xs; unfold leL at *; simp [lexLt, this]
theorem lex_lt_le : ∀ {a b : List Int}, lexLt a b = true → leL a b
  | [], [], _ => rfl
  | [], _ :: _, _ => rfl
  | _ :: _, [], h => by simp [lexLt] at h
  | x :: xs, y :: ys, h => by
    unfold leL
    simp only [lexLt] at h ⊢
    by_cases e : x = y
    · subst e; simp at h ⊢; exact lex_lt_le h
    · simp [e, Ne.symm e] at h ⊢; omega
theorem lex_trans : ∀ (a b c : List Int), leL a b → leL b c → leL a c
  | _, _, [], _, _ => by
    rename_i a b h1 h2
    cases b with
    | nil => exact h1
    | cons y ys => simp [leL, lexLt] at h2
  | [], _, z :: zs, _, _ => rfl
  | x :: xs, [], z :: zs, h1, _ => by simp [leL, lexLt] at h1
  | x :: xs, y :: ys, z :: zs, h1, h2 => by
    unfold leL at *
    simp only [lexLt] at h1 h2 ⊢
    by_cases e1 : y = x
    · subst e1
      by_cases e2 : z = y
      · subst e2; simp at h1 h2 ⊢; exact lex_trans _ _ _ h1 h2
      · simp [e2] at h2 ⊢; exact h2
    · by_cases e2 : z = y
      · subst e2; simp [e1] at h1 ⊢; exact h1
      · simp [e1, e2] at h1 h2
        have : z ≠ x := by omega
        simp [this]; omega
theorem lex_anti : ∀ (a b : List Int), leL a b → leL b a → a = b
  | [], [], _, _ => rfl
  | [], _ :: _, _, h => by simp [leL, lexLt] at h
  | _ :: _, [], h, _ => by simp [leL, lexLt] at h
  | x :: xs, y :: ys, h1, h2 => by
    unfold leL at h1 h2
    simp only [lexLt] at h1 h2
    by_cases e : x = y
    · subst e; simp at h1 h2; rw [lex_anti xs ys h1 h2]
    · simp [e, Ne.symm e] at h1 h2; omega
theorem lex_lt_trans {a b c : List Int} (h1 : lexLt a b = true) (h2 : leL b c) : lexLt a c = true := by
  cases e : lexLt a c with
  | true => rfl
  | false =>
    have : lexLt a b = false := lex_trans b c a h2 e
    rw [h1] at this; cases this
/-! ### the order of places -/
theorem countP_lt {p q : Nat → Bool} {a : Nat} : ∀ l : List Nat, (∀ x ∈ l, p x = true → q x = true) → a ∈ l → q a = true → p a = false → l.countP p < l.countP q
  | x :: l, h, m, ha, hb => by
    rw [List.countP_cons, List.countP_cons]
    rcases List.mem_cons.mp m with rfl | m
    · rw [if_neg (by rw [hb]; exact Bool.false_ne_true), if_pos ha]
      exact Nat.lt_succ_of_le (List.countP_mono_left fun y m => h y (.tail _ m))
    · refine Nat.add_lt_add_of_lt_of_le (countP_lt l (fun y m => h y (.tail _ m)) m ha hb) ?_
      by_cases hx : p x = true
      · rw [if_pos hx, if_pos (h x (.head _) hx)]; exact Nat.le_refl 1
      · rw [if_neg hx]; exact Nat.zero_le _
def rank (ts : List (List Int)) (i : Nat) : Nat := (List.range ts.length).countP fun j => lexLt (ts.getD j []) (ts.getD i [])
section
variable {ts : List (List Int)} {i j : Nat}
theorem rank_lt (hi : i < ts.length) (h : lexLt (ts.getD i []) (ts.getD j []) = true) : rank ts i < rank ts j :=
  countP_lt (a := i) _ (fun _ _ hx => lex_lt_trans hx (lex_lt_le h)) (List.mem_range.mpr hi) h (lex_refl _)
theorem rank_eq (hi : i < ts.length) : decide (rank ts i < rank ts j) = lexLt (ts.getD i []) (ts.getD j []) := by
  cases e : lexLt (ts.getD i []) (ts.getD j []) with
  | true => exact decide_eq_true (rank_lt hi e)
  | false => exact decide_eq_false (Nat.not_lt.mpr (List.countP_mono_left fun _ _ hx => lex_lt_trans hx e))
theorem rank_top (hi : i < ts.length) : rank ts i < ts.length := by
  have := countP_lt (p := fun j => lexLt (ts.getD j []) (ts.getD i [])) (q := fun _ => true) (a := i) (List.range ts.length) (fun _ _ _ => rfl) (List.mem_range.mpr hi) rfl (lex_refl _)
  rwa [List.countP_true, List.length_range] at this
end
abbrev ranks5 (ts : List (List Int)) : List Nat := (List.range ts.length).map (rank ts)
theorem ranks_get {ts : List (List Int)} {i : Nat} (hi : i < ts.length) : (ranks5 ts).getD i 0 = rank ts i := by
  rw [List.getD_eq_getElem?_getD, List.getElem?_map, List.getElem?_range hi]; rfl
theorem sort5 {ts : List (List Int)} (h5 : ts.length < 6) (hd : ts.Nodup) : runOk (rc (ranks5 ts)) ts.length (kas_sort ts.length) = true ∧ (kasRun (rc (ranks5 ts)) (kas_sort ts.length)).toList.Perm (List.range ts.length) ∧
    ∀ i j, i ≤ j → j < ts.length → leL (ts.getD ((kasRun (rc (ranks5 ts)) (kas_sort ts.length)).toList.getD i 0) []) (ts.getD ((kasRun (rc (ranks5 ts)) (kas_sort ts.length)).toList.getD j 0) []) := by
  have hok : okRun ts.length (ranks5 ts) = true := okRun_of h5 (by rw [List.length_map, List.length_range]) (fun x m => by obtain ⟨i, hi, rfl⟩ := List.mem_map.mp m; exact rank_top (List.mem_range.mp hi)) (List.pairwise_map.mpr (List.Pairwise.imp_of_mem (fun {a b} ha hb hne e => by
    have ha' := List.mem_range.mp ha
    have hb' := List.mem_range.mp hb
    have h1 := rank_eq (ts := ts) (i := a) (j := b) ha'
    have h2 := rank_eq (ts := ts) (i := b) (j := a) hb'
    rw [e, decide_eq_false (Nat.lt_irrefl _)] at h1
    rw [e, decide_eq_false (Nat.lt_irrefl _)] at h2
    have h3 := lex_anti _ _ h2.symm h1.symm
    rw [List.getD_eq_getElem?_getD, List.getD_eq_getElem?_getD, List.getElem?_eq_getElem ha', List.getElem?_eq_getElem hb'] at h3
    exact hne ((List.getElem_inj hd).mp h3)) List.nodup_range))
  obtain ⟨a, b⟩ := Bool.and_eq_true_iff.mp hok
  obtain ⟨b, c⟩ := Bool.and_eq_true_iff.mp b
  have hp := List.isPerm_iff.mp b
  have hc := of_decide_eq_true c
  refine ⟨a, hp, fun i j hij hj => ?_⟩
  generalize (kasRun (rc (ranks5 ts)) (kas_sort ts.length)).toList = p at hp hc
  have hlen : p.length = ts.length := by rw [hp.length_eq, List.length_range]
  have at_ : ∀ k, k < ts.length → p.getD k 0 < ts.length ∧ rank ts (p.getD k 0) = k := fun k hk => by
    have hk' : k < p.length := by rw [hlen]; exact hk
    have e := congrArg (fun l => l[k]?) hc
    simp only [List.getElem?_map, List.getElem?_range hk, List.getElem?_eq_getElem hk', Option.map_some, Option.some.injEq] at e
    have hin : p[k] < ts.length := List.mem_range.mp (hp.mem_iff.mp (List.getElem_mem hk'))
    rw [List.getD_eq_getElem?_getD, List.getElem?_eq_getElem hk']
    exact ⟨hin, by rw [ranks_get hin] at e; exact e⟩
  obtain ⟨i1, i2⟩ := at_ i (Nat.lt_of_le_of_lt hij hj)
  obtain ⟨j1, j2⟩ := at_ j hj
  have := rank_eq (ts := ts) (i := p.getD j 0) (j := p.getD i 0) j1
  rw [i2, j2, decide_eq_false (Nat.not_lt.mpr hij)] at this
  exact this.symm
end Mine

namespace Mine
open PySem PySem.W PyProof.Rows PySem.Calls
section
variable {prog : Program} {w : World} {A : Around} {E : Value → Shared → Prop} {s : Shared}
/-- tuples of ints at hand -/
def TupsAre (h : Heap) : List Value → List (List Int) → Prop
  | [], [] => True
  | v :: vs, t :: ts => (∃ a n ws, v = .ref a ∧ h.get? a = some (tupOf ws n) ∧ IntsAre ws t) ∧ TupsAre h vs ts
  | _, _ => False
theorem TupsAre.mono {h h' : Heap} (k : ∀ b o, h.get? b = some o → h'.get? b = some o) : ∀ {vs : List Value} {ts : List (List Int)}, TupsAre h vs ts → TupsAre h' vs ts
  | [], [], _ => trivial
  | _ :: _, _ :: _, ⟨⟨a, n, ws, e, g, i⟩, r⟩ => ⟨⟨a, n, ws, e, k _ _ g, i⟩, TupsAre.mono k r⟩
theorem TupsAre.len {h : Heap} : ∀ {vs : List Value} {ts : List (List Int)}, TupsAre h vs ts → vs.length = ts.length
  | [], [], _ => rfl
  | _ :: _, _ :: _, ⟨_, r⟩ => by simp [TupsAre.len r]
theorem TupsAre.at {h : Heap} : ∀ {vs : List Value} {ts : List (List Int)}, TupsAre h vs ts → ∀ i, i < vs.length → ∃ a n ws, vs.getD i Value.none = .ref a ∧ h.get? a = some (tupOf ws n) ∧ IntsAre ws (ts.getD i [])
  | [], [], _, i, hi => by simp at hi
  | _ :: _, _ :: _, ⟨⟨a, n, ws, e, g, x⟩, r⟩, i, hi => by
    cases i with
    | zero => exact ⟨a, n, ws, by simpa using e, g, by simpa using x⟩
    | succ i =>
      obtain ⟨a, n, ws, e, g, x⟩ := TupsAre.at r i (by simpa using hi)
      exact ⟨a, n, ws, by simpa using e, g, by simpa using x⟩
theorem tups_firsts {h : Heap} : ∀ {vs : List Value} {ts : List (List Int)}, TupsAre h vs ts → (∀ t ∈ ts, t ≠ []) → ∃ fs, KatTups h vs fs ∧ fs.length = vs.length ∧ ∀ v ∈ fs, ∃ i t, v = Value.int i t
  | [], [], _, _ => ⟨[], trivial, rfl, fun _ m => nomatch m⟩
  | v :: vs, t :: ts, ⟨⟨a, n, ws, e, g, x⟩, r⟩, hne => by
    obtain ⟨fs, f1, f2, f3⟩ := tups_firsts r fun t ht => hne t (.tail _ ht)
    cases x with
    | nil => exact absurd rfl (hne [] (.head _))
    | cons i u x => 
      rename_i ws' ns'
      exact ⟨Value.int i u :: fs, ⟨⟨a, _, (Value.int i u :: ws').toArray, n, e, g, rfl, rfl, by simp⟩, f1⟩, by simp [f2], fun v hv => by
        rcases List.mem_cons.mp hv with rfl | hv
        · exact ⟨i, u, rfl⟩
        · exact f3 v hv⟩
theorem lex_walk {b : Bool} {C : Bool → Shared → Prop} : ∀ {xs ys : List Value} {is js : List Int} (k : Nat), IntsAre xs is → IntsAre ys js → is.length = js.length → (k = 0 → b = true) → (k ≠ 0 ∨ True) → C (lexLt is js) s →
    (∀ (i j : Int) (t u : Tok) (Q : Bool → Shared → Prop), Q (decide (i < j)) s → wpAny (model prog w) A (oneLt' false (.int i t) (.int j u)) Q (fun _ _ => False) s) → KatLex prog w A b false C (xs.zip ys) k s
  | _, _, _, _, k, .nil, .nil, _, _, _, q, _ => kat_nil q
  | _, _, _, _, k, .nil, .cons _ _ _, hl, _, _, _, _ => by simp at hl
  | _, _, _, _, k, .cons _ _ _, .nil, hl, _, _, _, _ => by simp at hl
  | _, _, _, _, k, .cons i t hx, .cons j u hy, hl, hb, _, q, one => by
    refine kat_cons (wpAny_eqBool_int ?_)
    by_cases e : i = j
    · subst e
      simp only [lexLt, beq_self_eq_true, if_true] at q ⊢
      exact kat_yes (lex_walk (k + 1) hx hy (by simpa using hl) (fun h => absurd h (by omega)) (.inl (by omega)) q one)
    · have e' : (i == j) = false := by simpa using e
      simp only [lexLt, e', Bool.false_eq_true, if_false] at q ⊢
      refine kat_no ?_
      cases hk : (b && k == 0) with
      | true => exact oneLt_int q
      | false => exact one i j t u _ q
end
end Mine

namespace Mine
open PySem PySem.W PyProof.Rows PySem.Calls
section
variable {prog : Program} {w : World} {A : Around} {E : Value → Shared → Prop} {s : Shared}
theorem TupsAre.tups {h h' : Heap} (k : ∀ b ws n, h.get? b = some (tupOf ws n) → h'.get? b = some (tupOf ws n)) : ∀ {vs : List Value} {ts : List (List Int)}, TupsAre h vs ts → TupsAre h' vs ts
  | [], [], _ => trivial
  | _ :: _, _ :: _, ⟨⟨a, n, ws, e, g, i⟩, r⟩ => ⟨⟨a, n, ws, e, k _ _ _ g, i⟩, TupsAre.tups k r⟩
theorem one_int (i j : Int) (t u : Tok) (Q : Bool → Shared → Prop) (q : Q (decide (i < j)) s) : wpAny (model prog w) A (oneLt' false (.int i t) (.int j u)) Q (fun _ _ => False) s :=
  kat_one _ _ (PyProof.Rows.lt_int q)
def pick (p : List Nat) (vs : List Value) : List Value := p.map fun i => vs.getD i Value.none
theorem pick_small {vs : List Value} (hv : vs.length < 2) : (pick (List.range vs.length) vs).toArray = (vs.toArray.zip vs.toArray).map (·.2) := by
  apply Array.toList_inj.mp
  cases vs with
  | nil => simp [pick]
  | cons v vs =>
    cases vs with
    | nil => simp [pick]
    | cons _ _ => exact absurd hv (by simp)
theorem sort_tups {a : Addr} {vs : List Value} {ts : List (List Int)} {m n : Nat} {P : PySem.Fin → Shared → Prop} (ho : s.heap.get? a = some (seqObj "list" vs.toArray n)) (ht : TupsAre s.heap vs ts) (hm : ∀ t ∈ ts, t.length = m) (hm0 : 0 < m) (h5 : vs.length < 6) (hd : ts.Nodup)
    (h : ∀ p : List Nat, p.Perm (List.range vs.length) → (∀ i j, i ≤ j → j < vs.length → leL (ts.getD (p.getD i 0) []) (ts.getD (p.getD j 0) [])) → P (.done (.ret .none)) { s with heap := sortedHeap s.heap a vs (pick p vs).toArray }) :
    wpAny (model prog w) A (Builtin.«list.sort» ⟨[.ref a], []⟩) P E s := by
  rw [list_sort_plain]
  have ha : a < s.heap.objs.size := Heap.lt_size ho
  refine wpAny_bind (listItems_at ho rfl ?_)
  refine wpAny_bind (listUpdate_at ho rfl ?_)
  obtain ⟨e1, ho1⟩ : ∃ e1, (s.heap.update a (Obj.mapSeq fun _ => #[])).get? a = some (seqObj "list" #[] e1) := ⟨_, get?_update_seq ho (fun _ => #[])⟩
  refine wpAny_bind (seqEpoch_at ho1 rfl ?_)
  refine wpAny_bind (wpAny_newTuple ?_ (by show vs.length ≤ _; rw [sizeLine_eq]; omega))
  refine wpAny_bind (wpAny_newList ?_ (Nat.zero_le _))
  refine wpAny_holding ?_
  have ho6 : (((s.heap.update a (Obj.mapSeq fun _ => #[])).push (seqObj "tuple" vs.toArray 0)).push (seqObj "list" #[] 0)).get? a = some (seqObj "list" #[] e1) := by
    rw [Heap.get?_push_ne _ _ _ (by rw [size_push', Heap.size_update]; exact Nat.ne_of_lt (Nat.lt_succ_of_lt ha)), Heap.get?_push_ne _ _ _ (by rw [Heap.size_update]; exact Nat.ne_of_lt ha)]
    exact ho1
  show wpAny (model prog w) A _ P E { s with heap := ((s.heap.update a (Obj.mapSeq fun _ => #[])).push (seqObj "tuple" vs.toArray 0)).push (seqObj "list" #[] 0) }
  dsimp only
  by_cases h2 : vs.toArray.size < 2
  · rw [if_pos h2, if_pos h2]
    refine wpAny_bind (wpAny_pure ?_)
    rw [StateT.run_pure]
    refine wpAny_bind (wpAny_pure ?_)
    dsimp only
    refine wpAny_bind (seqEpoch_at ho6 rfl ?_)
    refine wpAny_bind (listUpdate_at ho6 rfl ?_ (hsz2 := by rw [Array.size_map]; show (pairsOf vs).size ≤ _; rw [pairsOf_size, sizeLine_eq]; omega))
    simp only [bne_self_eq_false, Bool.false_eq_true, if_false]
    have hv : vs.length < 2 := by simpa using h2
    have q := h (List.range vs.length) (.refl _) (fun i j hij hj => by rw [show i = j by omega]; exact lex_refl _)
    have e := pick_small hv
    rw [e] at q
    exact wpAny_pure q
  · rw [if_neg h2, if_neg h2]
    have hv : 2 ≤ vs.length := by simpa using h2
    have hlen := ht.len
    have ht' : TupsAre (((s.heap.update a (Obj.mapSeq fun _ => #[])).push (seqObj "tuple" vs.toArray 0)).push (seqObj "list" #[] 0)) vs ts := ht.tups fun b ws k e => by
      have hb : b ≠ a := fun h => by rw [h, ho] at e; injection e with e; have := congrArg Obj.cls e; simp at this
      exact Heap.get?_push_of_some _ (Heap.get?_push_of_some _ ((Heap.get?_update_other _ _ (Ne.symm hb)).trans e))
    obtain ⟨fs, f1, f2, f3⟩ := tups_firsts ht' fun t mt e => by have := hm t mt; rw [e] at this; simp at this; omega
    refine wpAny_bind (kat_kind (T := .type "int") f1 (by omega) (fun v hv => by obtain ⟨i, t, rfl⟩ := f3 v hv; exact Looks.of_pure rfl) (by decide) ?_)
    rw [show (Value.type "int" != Value.type "tuple") = true by decide]
    obtain ⟨hrun, s1, s2⟩ := sort5 (ts := ts) (by omega) hd
    rw [← hlen] at hrun s1 s2
    refine wpAny_bind (wpAny_mono (kat_run (Q := fun st' s' => s' = { s with heap := ((s.heap.update a (Obj.mapSeq fun _ => #[])).push (seqObj "tuple" vs.toArray 0)).push (seqObj "list" #[] 0) } ∧ arrOf st' = (kasRun (rc (ranks5 ts)) (kas_sort vs.length)).map (kas_item (vs.toArray.zip vs.toArray)) ∧ failedOf st' = none)
      (G := fun p s' => s' = { s with heap := ((s.heap.update a (Obj.mapSeq fun _ => #[])).push (seqObj "tuple" vs.toArray 0)).push (seqObj "list" #[] 0) } ∧ p = kasRun (rc (ranks5 ts)) (kas_sort vs.length)) (ks := vs) rfl hv (by omega) (fun p st' s' _ a2 a3 a4 => ⟨a4.1, by rw [a2, a4.2], a3⟩)
      (run_wp (c := rc (ranks5 ts)) (fun i j C hi hj hC => ?_) _ hrun ⟨rfl, rfl⟩)) ?_ fun _ _ e => e)
    · obtain ⟨x, kx, xs, ex, gx, ix⟩ := ht'.at i hi
      obtain ⟨y, ky, ys, ey, gy, iy⟩ := ht'.at j hj
      show wpAny _ _ (keyLt' (tuples' true) (vs.getD i Value.none) (vs.getD j Value.none)) _ _ _
      rw [ex, ey]
      have hti : (ts.getD i []).length = m := by
        have h : i < ts.length := by omega
        rw [List.getD_eq_getElem?_getD, List.getElem?_eq_getElem h]; exact hm _ (List.getElem_mem h)
      have htj : (ts.getD j []).length = m := by
        have h : j < ts.length := by omega
        rw [List.getD_eq_getElem?_getD, List.getElem?_eq_getElem h]; exact hm _ (List.getElem_mem h)
      refine kat_lt gx rfl gy rfl ?_
      have h1 := ix.length
      have h2 := iy.length
      rw [show decide (xs.toArray.size < ys.toArray.size) = false from by simp; omega]
      exact lex_walk 0 ix iy (by omega) (fun _ => rfl) (.inr trivial) (by rw [← rank_eq (by omega), ← ranks_get (by omega), ← ranks_get (by omega)]; exact hC) one_int
    · rintro ⟨⟨⟩, st'⟩ s' ⟨rfl, har, hf⟩
      dsimp only
      refine wpAny_bind (seqEpoch_at ho6 rfl ?_)
      have hsz : (arrOf st').size = vs.length := by rw [har, Array.size_map, ← Array.length_toList, s1.length_eq, List.length_range]
      refine wpAny_bind (listUpdate_at ho6 rfl ?_ (hsz2 := by rw [Array.size_map, hsz, sizeLine_eq]; omega))
      rw [hf]
      simp only [bne_self_eq_false, Bool.false_eq_true, if_false]
      have e : (arrOf st').map (·.2) = (pick (kasRun (rc (ranks5 ts)) (kas_sort vs.length)).toList vs).toArray := kat_snds (ks := vs) (vs := vs) rfl har
      have q := h (kasRun (rc (ranks5 ts)) (kas_sort vs.length)).toList s1 s2
      rw [← e] at q
      exact wpAny_pure q
end
end Mine

namespace Mine
open PySem PySem.W PyProof.Rows PySem.Calls
section
variable {prog : Program} {w : World} {A : Around} {E : Value → Shared → Prop} {s : Shared}
theorem sorted_tups {l : Addr} {vs : List Value} {ts : List (List Int)} {m : Nat} {Q : Value → Shared → Prop} (hl : s.heap.IsList l vs.toArray) (ht : TupsAre s.heap vs ts) (hm : ∀ t ∈ ts, t.length = m) (hm0 : 0 < m) (h5 : vs.length < 6) (hd : ts.Nodup)
    (h : ∀ p : List Nat, p.Perm (List.range vs.length) → (∀ i j, i ≤ j → j < vs.length → leL (ts.getD (p.getD i 0) []) (ts.getD (p.getD j 0) [])) → Q (.ref (s.heap.objs.size + 1)) { s with heap := sortedAll s.heap vs (pick p vs).toArray }) :
    wpAny (model prog w) A (call (.builtin "sorted") [.ref l]) Q E s := by
  refine Calls.call_function_entry kind_sorted plain_sorted entry_sorted (args_sorted1 _) ?_
  unfold Builtin.«sorted»
  refine wpAny_bind (m := checkCount "sorted" 1 1 _) (wpAny_pure ?_)
  refine wpAny_bind (collect_list hl ?_)
  refine wpAny_bind (wpAny_newList ?_)
  have hsz : ((s.heap.push (seqObj "list" #[] 0)).update s.heap.objs.size (Obj.mapSeq (· ++ vs.toArray))).objs.size = s.heap.objs.size + 1 := by
    rw [Heap.size_update, size_push']
  have hoL : (((s.heap.push (seqObj "list" #[] 0)).update s.heap.objs.size (Obj.mapSeq (· ++ vs.toArray))).push (seqObj "list" vs.toArray 0)).get? (s.heap.objs.size + 1) = some (seqObj "list" vs.toArray 0) := by
    rw [← hsz]; exact Heap.get?_push_size _ rfl
  show wpAny _ _ _ _ _ { s with heap := ((s.heap.push (seqObj "list" #[] 0)).update s.heap.objs.size (Obj.mapSeq (· ++ vs.toArray))).push (seqObj "list" vs.toArray 0) }
  rw [hsz]
  refine wpAny_bind (wpAny_holding (wpAny_call_entry slot_list_sort ⟨_, hoL, rfl⟩ entry_list_sort (sort_tups hoL (ht.mono fun b o e => ?_) hm hm0 h5 hd fun p a1 a2 => ⟨_, rfl, ?_⟩) (args_list_sort _)))
  · have hlt : b < s.heap.objs.size := Heap.lt_size e
    exact Heap.get?_push_of_some _ ((Heap.get?_update_other _ _ (Nat.ne_of_gt hlt)).trans (Heap.get?_push_of_some _ e))
  · exact wpAny_pure ⟨_, rfl, h p a1 a2⟩
end
variable {C : Cx}
theorem intsOf_map : ∀ is : List Int, intsOf (is.map V.int) = some is
  | [] => rfl
  | i :: is => by simp [intsOf, intsOf_map is]
theorem tups_of {F : Fz} {h : Heap} (hF : ∀ a o, F a = some o → h.get? a = some o) : ∀ {ts : List (List Int)} {vs : List Value}, RAll F (ts.map tv) vs → TupsAre h vs ts := by
  intro ts
  induction ts with
  | nil => intro vs r; cases r; trivial
  | cons t ts ih =>
    intro vs r
    cases r with
    | cons a r =>
      cases a with
      | tuple e rs => exact ⟨⟨_, _, _, rfl, hF _ _ e, intsOf_all rs (intsOf_map t)⟩, ih r⟩
theorem pick_all {F : Fz} {ts : List (List Int)} {vs : List Value} (r : RAll F (ts.map tv) vs) : ∀ p : List Nat, (∀ i ∈ p, i < ts.length) → RAll F ((p.map fun i => ts.getD i []).map tv) (pick p vs)
  | [], _ => .nil
  | i :: p, h => by
    have hi := h i (.head _)
    obtain ⟨v, hv, rv⟩ := r.get (k := i) (x := tv ts[i]) (by rw [List.getElem?_map, List.getElem?_eq_getElem hi]; rfl)
    have e1 : ts.getD i [] = ts[i] := by rw [List.getD_eq_getElem?_getD, List.getElem?_eq_getElem hi]; rfl
    have e2 : vs.getD i Value.none = v := by rw [List.getD_eq_getElem?_getD, hv]; rfl
    show RAll F (tv (ts.getD i []) :: _) (vs.getD i Value.none :: _)
    rw [e1, e2]
    exact .cons rv (pick_all r p fun j hj => h j (.tail _ hj))
theorem range_getD {α : Type} (d : α) (ts : List α) : (List.range ts.length).map (fun i => ts.getD i d) = ts := by
  apply List.ext_getElem?
  intro i
  rw [List.getElem?_map]
  by_cases h : i < ts.length
  · rw [List.getElem?_range h, List.getElem?_eq_getElem h]; simp [h]
  · rw [List.getElem?_eq_none (by simpa using h), List.getElem?_eq_none (by omega)]; rfl
abbrev sortW (xs : List V) (Q : V → S → Prop) (st : S) : Prop := ∃ x ts m, xs = [x] ∧ getL st x = some (ts.map tv) ∧ (∀ t ∈ ts, t.length = m) ∧ 0 < m ∧ ts.length < 6 ∧ ts.Nodup ∧ ∀ us : List (List Int), us.Perm ts → us.Pairwise leL → newWS (.list (us.map tv)) Q st
theorem sorted_ok (F : Fz) (xs : List V) (vs : List Value) (rs : RAll F xs vs) : Imp C F R (call (.builtin "sorted") vs) (sortW xs) := by
  rintro E Q st F' s hF k ⟨x, ts, m, hx, hl, hm, hm0, h5, hd, q⟩
  subst hx
  cases rs with
  | @cons _ v _ _ r rs =>
    cases rs
    obtain ⟨D, ws, n, rfl, ho, rw⟩ := getL_ok k (r.mono hF) hl
    have hlen : ws.length = ts.length := by have := rw.length; simpa using this.symm
    refine sorted_tups (PySem.IsL.isList (n := n) ho) (tups_of k.g.fz rw) hm hm0 (by omega) hd fun p hp hs => ?_
    have hpi : ∀ i ∈ p, i < ts.length := fun i hi => by have := hp.mem_iff.mp hi; simp at this; omega
    have hpl : p.length = ts.length := by rw [hp.length_eq]; simp [hlen]
    obtain ⟨e, he⟩ := sortedAll_at s.heap ws (pick p ws).toArray
    have hnone : s.heap.get? (s.heap.objs.size + 1) = none := Heap.get?_none_of_le (Nat.le_succ _)
    refine ⟨F', .ref _, st.put (s.heap.objs.size + 1) (.list ((p.map fun i => ts.getD i []).map tv)), Post.ofG k (PostG.new (tk := s.toks) k.g hnone (fun _ _ => sortedAll_old) ⟨pick p ws, e, he, pick_all rw p hpi⟩), .ref _, ?_⟩
    refine q _ ?_ ?_ _ (k.g.free hnone).2
    · have := hp.map fun i => ts.getD i []
      rw [hlen, range_getD] at this
      exact this
    · refine List.pairwise_iff_getElem.mpr fun i j hi hj hij => ?_
      have hi' : i < p.length := by simpa using hi
      have hj' : j < p.length := by simpa using hj
      have := hs i j (Nat.le_of_lt hij) (by omega)
      simp only [List.getElem_map]
      rw [show p.getD i 0 = p[i] by rw [List.getD_eq_getElem?_getD, List.getElem?_eq_getElem hi']; rfl, show p.getD j 0 = p[j] by rw [List.getD_eq_getElem?_getD, List.getElem?_eq_getElem hj']; rfl] at this
      exact this
end Mine

namespace Mine
open PySem PySem.W PyProof.Rows PySem.Calls

/-! ### next at the end: StopIteration -/
theorem next_stop {prog : Program} {w : World} {A : Around} {E : Value → Shared → Prop} {s : Shared} {b : Array UInt8} {t : Tok} {it : Addr} {i : Nat} {Q : Value → Shared → Prop} (hh : A.handled = none) (hit : KBw.IsBytesIter s.heap it b t i) (hx : b[i]? = none)
    (h : ∀ h₁ h' e, Heap.SameBut it s.heap h₁ → Heap.MadeExc h₁ h' e "StopIteration" [] → E (.ref e) { s with heap := h' }) : wpAny (model prog w) A (call (.builtin "next") [.ref it]) Q E s := by
  obtain ⟨o, ho, hc, hd⟩ := id hit
  refine call_function_entry (by decide +kernel) (by decide +kernel) kdk_entry_next (kdk_args_next _) ?_
  unfold Builtin.«next»
  refine wpAny_bind (m := someArgs "next" 1 2 _) (wpAny_of_eq (a := [Value.ref it]) (by first | rfl | kernel_rfl!) ?_)
  dsimp only
  refine wpAny_bind (wpAny_specialOf (name := Str.ofString "__next__") (KBw.iter_typeIs hit) KBw.slot_next.lookup ?_)
  refine wpAny_ite_split (fun hab => absurd hab (by decide)) (fun _ => ?_)
  refine wpAny_bind (wpAny_callSpecial?_slot (name := PySem.Str.ofString "__next__") (KBw.iter_typeIs hit) KBw.slot_next
    (wpAny_call_entry KBw.slot_next (KBw.iter_typeIs hit) KBw.entry_next ?_ (KBw.args_next _)))
  show wpAny _ _ (field (.ref it) 0 >>= _) _ _ s
  refine wpAny_bind (wpAny_field ho hd (x := .bytes b t) rfl ?_)
  show wpAny _ _ (if (Value.bytes b t == Value.none) = true then _ else _) _ _ s
  rw [if_neg (show ¬ ((Value.bytes b t == Value.none) = true) from Bool.false_ne_true)]
  show wpAny _ _ (field (.ref it) 1 >>= _) _ _ s
  refine wpAny_bind (wpAny_field ho hd (x := .int i 0) rfl ?_)
  refine wpAny_bind (wpAny_of_eq (a := b) rfl ?_)
  simp only [Int.toNat_natCast, hx]
  refine wpAny_bind (wpAny_rule (wpAny_bind (wpAny_setField ho hd (by simp) ?_)))
  show wpAny _ _ (newExc (.type "StopIteration") [] >>= _) _ _ _
  refine wpAny_bind ?_
  simp only [newExc, newTuple]
  refine wpAny_bind (wpAny_newObj_type ?_ (by size_fits))
  refine wpAny_bind (m := firstArgMember _ _) (wpAny_of_eq (a := Value.none) (by first | rfl | (simp only [firstArgMember]; rfl)) ?_)
  refine wpAny_newObj_type ?_ (by size_fits)
  simp only [raiseNew]
  refine wpAny_bind (wpAny_handled ?_)
  rw [show A.in1.handled = none from hh]
  refine wpAny_bind (wpAny_pure (wpAny_throw ?_))
  refine h _ _ _ (Heap.SameBut.update s.heap it _) ⟨fun b o hb => Heap.get?_push_of_some _ (Heap.get?_push_of_some _ hb), Heap.get?_none_of_le (by simp), _, Heap.get?_push_size _ rfl, Heap.get?_none_of_le (Nat.le_refl _), Heap.get?_push_of_some _ (Heap.get?_push_size _ rfl)⟩
end Mine

namespace Mine
open PySem PySem.W PyProof.Rows PySem.Calls

/-! ### entering a def, whatever comes of it -/
theorem call_enter {W : Wd} {a : Addr} {fd : FuncData} {body : List Stmt} {params names : List Str} {lev : Nat} {xs : List V} {σ : St} (f : FnAt W a fd)
    (hb : fd.body = .stmts body)
    (hbind : ∀ vs : List Value, vs.length = params.length → bindArgs fd ⟨vs, []⟩ = pure (params.zip vs))
    (hcell : ∀ x ∈ fd.scope.names, x.2 ≠ .cell) (hloc : ∀ x ∈ params, fd.scope.names.lookup x = some .local) (hnd : (params ++ names).Nodup) (hlen : xs.length = params.length)
    (hco : fd.scope.isCoroutine = false) (hgen : fd.scope.isGenerator = false) (hk : fd.scope.kind = .function)
    {A : Around} {E : Value → Shared → Prop} {Z : Value → Shared → Prop} {F : Fz} {s : Shared} {vs : List Value} (hA : OkA A (lev + 1)) (g : SimG W F σ s.heap) (rs : RAll F xs vs)
    (h : ∀ h₀ tk, Sim (fnCx W A fd s.heap.objs.size a (params ++ names) lev) F ⟨σ, fun i => xs[i]?⟩ h₀ → (∃ m, h₀.Ns s.heap.objs.size m) → (∀ b o, s.heap.get? b = some o → h₀.get? b = some o) →
      wpAny W.M (A.deeper (callEnv fd s.heap.objs.size a)) (execs body (callEnv fd s.heap.objs.size a)) (fun f s' => Z (match f with | .ret v => v | _ => .none) s')
        (fun e s' => wpAny W.M (A.deeper (callEnv fd s.heap.objs.size a)) (leaving (callEnv fd s.heap.objs.size a) e) (fun _ s'' => E e s'') (fun e' s'' => E e' s'') s') { s with heap := h₀, toks := tk }) :
    wpAny W.M A (call (.ref a) vs) Z E s := by
  obtain ⟨o, ho, hd⟩ := f.at_
  have hvl : vs.length = params.length := by rw [← rs.length, hlen]
  have hbd := hbind vs hvl
  refine wpAny_call (codeAny_call_def (fd := fd) (body := body) (binds := params.zip vs) (by have := hA.depth; omega) (g.up _ _ ho) hd (W.lim.keeps g.up) (f.code.keeps g.up) hb (fun M A E Q q => by rw [hbd]; exact wpAny_pure q) hcell (fun x hx => hloc x.1 (List.of_mem_zip hx).1) (fun h₀ hn hk₀ => ?_) hco hgen hk)
  obtain ⟨hF, hσ⟩ := get_fresh_none g
  have hpl : ∀ p ∈ (params ++ names).map (Pl.d s.heap.objs.size), p.addr = s.heap.objs.size := fun p hp => by obtain ⟨x, _, rfl⟩ := List.mem_map.mp hp; rfl
  have g₁ : SimG W F σ h₀ := g.heap [] (fun b o _ e => hk₀ b o e) (fun _ m => nomatch m)
  have sim : Sim (fnCx W A fd s.heap.objs.size a (params ++ names) lev) F ⟨σ, fun i => xs[i]?⟩ h₀ := by
    refine ⟨g₁, fun i p hp => ?_, fun p hp => ?_, okA_deeper hA, hk, ?_⟩
    · have hp' : ((params ++ names).map (Pl.d s.heap.objs.size))[i]? = some p := hp
      rw [List.getElem?_map] at hp'
      obtain ⟨x, hx, rfl⟩ := Option.map_eq_some_iff.mp hp'
      refine ⟨_, hn, fun v hv => ?_⟩
      have hv' : xs[i]? = some v := hv
      have hi : i < params.length := by rw [← hlen]; exact (List.getElem?_eq_some_iff.mp hv').1
      rw [List.getElem?_append_left hi] at hx
      obtain ⟨u, hu, r⟩ := rs.get hv'
      exact ⟨u, lookup_zip (List.nodup_append.mp hnd).1 hx hu, r⟩
    · rw [hpl p hp]; exact ⟨hF, hσ⟩
    · exact List.pairwise_map.mpr (hnd.imp fun h e => h (by injection e))
  exact h h₀ _ sim ⟨_, hn⟩ hk₀

theorem Same.slots {a : Addr} {h h' : Heap} (k : Heap.SameBut a h h') (hf : ∃ o vs, h.get? a = some o ∧ o.data = .fields vs) : h.UpToSlots h' := fun b o e hn => by
  have hb : b ≠ a := fun q => by
    obtain ⟨o', vs, e', d⟩ := hf
    rw [q, e'] at e; cases e
    exact hn vs d
  exact ⟨o.slots, (k.2 b hb).trans e⟩

/-- a def whose first statement is «y = next(x)», x at its end: it raises -/
theorem call_stop {W : Wd} {a : Addr} {fd : FuncData} {y x nx : Str} {py px pn pc pa : Pos} {rest : List Stmt} {names : List Str} {lev : Nat} {σ : St} (f : FnAt W a fd)
    (hb : fd.body = .stmts (.Assign [.Name y py] (.Call (.Name nx pn) [.Name x px] [] pc) pa :: rest))
    (hbind : ∀ vs : List Value, vs.length = [x].length → bindArgs fd ⟨vs, []⟩ = pure ([x].zip vs))
    (hcell : ∀ x ∈ fd.scope.names, x.2 ≠ .cell) (hloc : ∀ z ∈ [x], fd.scope.names.lookup z = some .local) (hnd : ([x] ++ names).Nodup)
    (hco : fd.scope.isCoroutine = false) (hgen : fd.scope.isGenerator = false) (hk : fd.scope.kind = .function)
    (hkx : ∀ L, (callEnv fd L a).kindOf x = some .local) (hdx : (x == ("__debug__" : Str)) = false) (hnx : ∀ A L, Glo (fnCx W A fd L a ([x] ++ names) lev) nx (.builtin "next"))
    (hs1 : ∀ L, swapsWithSole [.Name y py] (.Call (.Name nx pn) [.Name x px] [] pc) pa.line (callEnv fd L a) = pure false) (hs2 : ∀ L, swappedStores [.Name y py] (.Call (.Name nx pn) [.Name x px] [] pc) (callEnv fd L a) = pure none)
    {A : Around} {E : Value → Shared → Prop} {Z : Value → Shared → Prop} {F : Fz} {s : Shared} {w : Addr} {bs : List Int} {base : Heap} {outer : List Env} (hA : OkA A (lev + 1)) (g : SimG W F σ s.heap) (hw : σ w = some (.biter bs bs.length))
    (hfr : A.frames = some outer) (hst : base.StaysIn s.heap) (hff : s.heap.FunFrames base outer) (hbw : base.get? w = none)
    (h : ∀ h' e t tk, Heap.FlyingW base outer e (.type "StopIteration") (.ref t) h' → s.heap.UpToSlots h' → E (.ref e) { s with heap := h', toks := tk }) :
    wpAny W.M A (call (.ref a) [.ref w]) Z E s := by
  refine call_enter (xs := [.ref w]) (names := names) f hb hbind hcell hloc hnd rfl hco hgen hk hA g (.cons (.ref w) .nil) fun h₀ tk sim ⟨m, hn⟩ hk₀ => ?_
  have gn := hnx A s.heap.objs.size
  obtain ⟨m', hn', hv'⟩ := sim.loc 0 (.d s.heap.objs.size x) rfl
  obtain ⟨u, hu, ru⟩ := hv' (.ref w) rfl
  cases ru
  obtain ⟨_, ar, t, hbb, hit⟩ := sim.g.st w _ hw
  have hend : ar[bs.length]? = none := by rw [← hbb]; simp
  refine wpAny_execs_cons (wpAny_Assign_stores (wpAny_Call_NameR (name_wp sim gn.is gn.eg gn.eb gn.hl gn.hd ?_)) (hs1 _) (hs2 _))
  refine Calls.callWith_builtin rfl ?_
  show wpAny _ _ (evalArgs _ true [(false, eval (.Name x px) (callEnv fd s.heap.objs.size a))] []) _ _ _
  refine evalArgs_plain ?_
  show wpAny _ _ (do let v ← eval (.Name x px) (callEnv fd s.heap.objs.size a); let here ← (pure [v] : Sem (List Value)); return here ++ (← holding here (spliced []))) _ _ _
  refine wpAny_bind (wpAny_Name (wpAny_loadName_local hk (hkx _) hn' hu ?_) hdx)
  refine wpAny_bind (wpAny_pure (wpAny_bind (wpAny_holding (wpAny_pure (wpAny_pure ?_)))))
  refine next_stop hA.handled hit hend fun h₁ h₂ e hs₁ hm => ?_
  obtain ⟨ow, how, _, dw⟩ := id hit
  have st₁ : base.StaysIn h₁ := fun b o q => by
    have hb : b ≠ w := fun z => by rw [z, hbw] at q; cases q
    exact (hs₁.2 b hb).trans (hk₀ b o (hst b o q))
  have hnew : base.get? s.heap.objs.size = none := by
    cases q : base.get? s.heap.objs.size with
    | none => rfl
    | some o => have := hst _ _ q; rw [get_size] at this; cases this
  have hLw : s.heap.objs.size ≠ w := fun z => by
    obtain ⟨o, _, _, e1, d1, _⟩ := hn
    rw [z, how] at e1; cases e1
    rw [dw] at d1; cases d1
  have hn₁ : h₁.Ns s.heap.objs.size m := hn.at' fun o q => (hs₁.2 _ hLw).trans q
  have hff₁ : h₁.FunFrames base outer := hff.of_keeps fun b o q hd => by
    have hb : b ≠ w := fun z => by
      rw [z] at q
      have := hk₀ _ _ q
      rw [how] at this; cases this
      exact hd _ dw
    exact ⟨o, (hs₁.2 b hb).trans (hk₀ b o q), rfl⟩
  refine wpAny_leaves_madeW (h := h₁) (env := callEnv fd s.heap.objs.size a) (Around.frames_deeper hfr) rfl st₁ (Heap.FunFrames.cons (by show fd.scope.kind ≠ _; rw [hk]; decide) rfl hn₁ hnew hff₁) ⟨hm.keeps, hm.new, hm.there⟩ fun h₃ t' hfl _ _ hup => ?_
  refine h h₃ e t' _ hfl ?_
  exact ((Heap.UpToSlots.of_keeps hk₀).trans (Same.slots hs₁ ⟨ow, _, how, dw⟩)).trans ((Heap.UpToSlots.of_keeps hm.keeps).trans hup)
end Mine

namespace Mine
open PySem PySem.W PyProof.Rows PySem.Calls

/-! ### try .. except StopIteration around a loop that ends by it -/
def StopAt (W : Wd) (j : Nat) (a : Addr) : Prop := ∀ (A : Around) (E Z : Value → Shared → Prop) (F : Fz) (σ : St) (s : Shared) (w : Addr) (bs : List Int) (base : Heap) (outer : List Env), OkA A j → SimG W F σ s.heap → σ w = some (.biter bs bs.length) →
  A.frames = some outer → base.StaysIn s.heap → s.heap.FunFrames base outer → base.get? w = none →
  (∀ h' e t tk, Heap.FlyingW base outer e (.type "StopIteration") (.ref t) h' → s.heap.UpToSlots h' → E (.ref e) { s with heap := h', toks := tk }) → wpAny W.M A (call (.ref a) [.ref w]) Z E s
def stopN (B : (Fl → S → Prop) → S → Prop) (K : S → Prop) : Nat → S → Prop
  | 0, st => K st
  | n + 1, st => B (fun f st' => match f with | .next => stopN B K n st' | _ => False) st
def OutOk (h : Heap) (P : Addr → Prop) (l : List Env) : Prop := ∀ env ∈ l, env.scope.kind ≠ .module ∧ ∃ L o, env.frame = some L ∧ h.get? L = some o ∧ (∀ vs, o.data ≠ .fields vs) ∧ P L
theorem OutOk.frames {h base : Heap} {P : Addr → Prop} : ∀ {l : List Env}, OutOk h P l → (∀ env ∈ l, ∀ L, env.frame = some L → base.get? L = none) → h.FunFrames base l
  | [], _, _ => trivial
  | env :: r, k, n => by
    obtain ⟨a, L, o, f, g, d, _⟩ := k env (.head _)
    exact ⟨a, ⟨L, o, f, n env (.head _) L f, g, d⟩, OutOk.frames (fun e m => k e (.tail _ m)) fun e m => n e (.tail _ m)⟩

theorem setFlight_held {M : Model} {A : Around} {E : Value → Shared → Prop} {s : Shared} {base : Heap} {l : List Env} {e L : Addr} {cls a0 : Value} {Q : Unit → Shared → Prop} (hh : Heap.HeldW base l e cls a0 L s.heap)
    (hQ : ∀ h', Heap.HeldW base l e cls a0 L h' → s.heap.UpToSlots h' → Q () { s with heap := h' }) : wpAny M A (setFlight (.ref e) (some L)) Q E s := by
  obtain ⟨hkb, hen, hl, oe, vs, T, oT, ts, he, hcls, hd, h1, hnT, hTe, hT, hdT, h3⟩ := hh
  have hsz3 : 3 < ts.size := (Array.getElem?_eq_some_iff.mp h3).1
  have other : ∀ b, b ≠ T → (s.heap.update T (Obj.mapFields (·.setIfInBounds 3 (rawInt L)))).get? b = s.heap.get? b := fun b hb => Heap.get?_update_other _ _ (Ne.symm hb)
  have noRecord : ∀ b o, s.heap.get? b = some o → (∀ vs, o.data ≠ .fields vs) → b ≠ T := fun b o hb hnf q => by
    rw [q, hT] at hb; injection hb with hb; subst hb; exact hnf ts hdT
  unfold setFlight
  refine wpAny_bind (wpAny_field he hd h1 ?_)
  rw [if_pos (show (Value.ref T != Value.none) = true from by simp)]
  refine wpAny_setField hT hdT hsz3 (hQ _ ⟨fun b o hbo => (other b fun q => by rw [q, hnT] at hbo; cases hbo).trans (hkb b o hbo), hen,
    hl.of_keeps fun b o hb hnf => ⟨o, (other b (noRecord b o hb hnf)).trans hb, rfl⟩, ?_⟩ fun b o hb hn => ⟨o.slots, (other b (noRecord b o hb hn)).trans hb⟩)
  exact ⟨oe, vs, T, _, _, (other e (Ne.symm hTe)).trans he, hcls, hd, h1, hnT, hTe, Heap.get?_update_self _ hT (Obj.isFreed_of_fields (Obj.data_mapFields hdT _)), Obj.data_mapFields hdT _, by simp [hsz3]⟩
theorem cameBack_held {M : Model} {A : Around} {E : Value → Shared → Prop} {s : Shared} {env : Env} {base : Heap} {l : List Env} {e L : Addr} {cls a0 : Value} (hf : env.frame = some L) (hh : Heap.HeldW base l e cls a0 L s.heap)
    (hQ : ∀ h', Heap.HeldW base l e cls a0 L h' → s.heap.UpToSlots h' → E (.ref e) { s with heap := h' }) : cameBackBy M A env E (.ref e) s := by
  obtain ⟨oe, vs, T, oT, ts, he, hcls, hd, h1, _⟩ := hh.2.2.2
  unfold cameBackBy
  refine wpAny_bind (wpAny_field he hd h1 ?_)
  rw [if_neg (by simp)]
  rw [hf]
  exact setFlight_held hh hQ

variable {C : Cx}
theorem try_stop {L ar : Addr} {outer : List Env} {t : Expr} {y fx x sx r : Str} {py px pf pc pa p1 ps pr p2 p3 p4 : Pos} {rest : List Stmt} {B : (Fl → S → Prop) → S → Prop} {af : Addr} {fd : FuncData} {ix ir : Nat}
    (hfr : C.A.frames = some (C.env :: outer)) (hL : C.env.frame = some L) (hLl : C.env.locals = L)
    (ht : EvT C t (valB (cW (.bool true)))) (hb : Exs C (.Assign [.Name y py] (.Call (.Name fx pf) [.Name x px] [] pc) pa :: rest) B)
    (gf : Glo C fx (.ref af)) (ff : FnAt C.W af fd) (hstop : StopAt C.W C.lev af) (gs : Glo C sx (.type "StopIteration"))
    (hpx : C.pl[ix]? = some (.d L x)) (hkx : C.env.kindOf x = some .local) (hdx : (x == ("__debug__" : Str)) = false)
    (hpr : C.pl[ir]? = some (.d L r)) (hkr : C.env.kindOf r = some .local) (hdr : (r == ("__debug__" : Str)) = false)
    (hs1 : swapsWithSole [.Name y py] (.Call (.Name fx pf) [.Name x px] [] pc) pa.line C.env = pure false) (hs2 : swappedStores [.Name y py] (.Call (.Name fx pf) [.Name x px] [] pc) C.env = pure none)
    {F : Fz} {st : S} {s : Shared} (k : Sim C F st s.heap) (hout : OutOk s.heap (fun b => st.σ b = none ∧ b ∉ C.own ∧ C.W.h₀.get? b = none) outer) {K : S → Prop} {n : Nat} (q : stopN B (fun st => (∃ w bs, st.ρ ix = some (.ref w) ∧ st.σ w = some (.biter bs bs.length)) ∧ K st) n st)
    {E : Value → Shared → Prop} {Z : Flow → Shared → Prop}
    (fin : ∀ F₁ st₁ s₁ h' tk v u w bs, Post C F st s F₁ st₁ s₁ → K st₁ → st₁.ρ ir = some v → R F₁ v u → st₁.ρ ix = some (.ref w) → st₁.σ w = some (.biter bs bs.length) →
      (∀ b o, b ∉ w :: (C.env :: outer).filterMap (·.frame) → s₁.heap.get? b = some o → h'.get? b = some o) → s₁.heap.UpToSlots h' → Z (.ret u) { s₁ with heap := h', toks := tk })
    (hir : ∀ st, K st → ∃ v, st.ρ ir = some v) :
    wpAny C.W.M C.A (exec (.Try [.While t (.Assign [.Name y py] (.Call (.Name fx pf) [.Name x px] [] pc) pa :: rest) [] p1] [.ExceptHandler (some (.Name sx ps)) none [.Return (some (.Name r pr)) p2] p3] [] [] p4) C.env) Z E s := by
  refine wpAny_Try_except (wpAny_execs_cons (wpAny_While (codeAny_whileLoop (fun n s' => ∃ F' st', Post C F st s F' st' s' ∧ stopN B (fun st => (∃ w bs, st.ρ ix = some (.ref w) ∧ st.σ w = some (.biter bs bs.length)) ∧ K st) n st') ?_ n ⟨F, st, .refl k, q⟩)))
  rintro n s₁ ⟨F₁, st₁, p₁, q₁⟩
  refine ht.then (Q := fun b st' => b = true ∧ stopN B (fun st => (∃ w bs, st.ρ ix = some (.ref w) ∧ st.σ w = some (.biter bs bs.length)) ∧ K st) n st') (F0.le _) p₁.sim ⟨rfl, q₁⟩ fun F₂ z st₂ a s₂ p₂ ra q₂ => ?_
  subst ra
  obtain ⟨rfl, q₂⟩ := q₂
  simp only [if_true]
  cases n with
  | succ n =>
    refine hb.then (F0.le _) p₂.sim q₂ fun F₃ f st₃ a s₃ p₃ rf q₃ => ?_
    cases rf with
    | next => exact ⟨n, Nat.lt_succ_self _, F₃, st₃, p₁.trans (p₂.trans p₃), q₃⟩
    | cont => exact q₃.elim
    | brk => exact q₃.elim
    | ret r => exact q₃.elim
  | zero =>
    obtain ⟨⟨w, bs, hxw, hw⟩, hK⟩ := q₂
    have P := p₁.trans p₂
    have k₂ := p₂.sim
    obtain ⟨o, ho, hd⟩ := ff.at_
    obtain ⟨m, hn, hv⟩ := k₂.loc ix _ hpx
    obtain ⟨u, hu, ru⟩ := hv _ hxw
    cases ru
    obtain ⟨v, hrv⟩ := hir _ hK
    obtain ⟨m', hn', hv'⟩ := k₂.loc ir _ hpr
    obtain ⟨u', hu', ru'⟩ := hv' _ hrv
    have hout₂ : OutOk s₂.heap (fun _ => True) (C.env :: outer) := fun env he => by
      rcases List.mem_cons.mp he with rfl | he
      · obtain ⟨o, es, ep, e1, d1, _⟩ := id hn
        exact ⟨by rw [k₂.fn]; decide, L, o, hL, e1, (fun vs q => by rw [d1] at q; cases q), trivial⟩
      · obtain ⟨a, L', o, f, g, d, hσ, ho, _⟩ := hout env he
        exact ⟨a, L', o, f, P.p.keep _ _ g hσ ho, d, trivial⟩
    have hin : ∀ env ∈ (C.env :: outer), ∀ L', env.frame = some L' → (hideAll s₂.heap (w :: (C.env :: outer).filterMap (·.frame))).get? L' = none := fun env he L' f =>
      hideAll_none _ (List.mem_cons_of_mem _ (List.mem_filterMap.mpr ⟨env, he, f⟩))
    refine wpAny_execs_cons (wpAny_Assign_stores (wpAny_Call_NameR (name_wp k₂ gf.is gf.eg gf.eb gf.hl gf.hd ?_)) hs1 hs2)
    refine Calls.callWith_function (o := o) (fd := fd) ?_
    show wpAny _ _ (evalArgs _ true [(false, eval (.Name x px) C.env)] []) _ _ _
    refine evalArgs_plain ?_
    show wpAny _ _ (do let v ← eval (.Name x px) C.env; let here ← (pure [v] : Sem (List Value)); return here ++ (← holding here (spliced []))) _ _ _
    refine wpAny_bind (wpAny_Name (wpAny_loadName_local k₂.fn hkx (by rw [hLl]; exact hn) hu ?_) hdx)
    refine wpAny_bind (wpAny_pure (wpAny_bind (wpAny_holding (wpAny_pure (wpAny_pure ⟨⟨k₂.g.up _ _ ho, hd⟩, ?_⟩)))))
    refine hstop C.A _ _ F₂ st₂.σ s₂ w bs (hideAll s₂.heap (w :: (C.env :: outer).filterMap (·.frame))) (C.env :: outer) k₂.ok k₂.g hw hfr (fun b o e => of_hideAll _ e) (hout₂.frames hin) (hideAll_none _ (.head _)) fun h₃ e t' tk hfl up₃ => ?_
    -- the loop's own note, and on
    refine wpAny_looks_onW (s := { s₂ with heap := h₃, toks := tk }) hfr hL hfl fun h₄ hh₄ up₄ => ?_
    refine cameBack_held (s := { s₂ with heap := h₄, toks := tk }) hL hh₄ fun h₅ hh₅ up₅ => ?_
    refine wpAny_noteFrame_againW (s := { s₂ with heap := h₅, toks := tk }) hL hh₅.2.2.2 ?_
    refine wpAny_landsW (s := { s₂ with heap := h₅, toks := tk }) hh₅ fun h₆ hf₆ up₆ => ?_
    have up := ((up₃.trans up₄).trans up₅).trans up₆
    obtain ⟨ob, hob, hobc⟩ := hf₆.there
    have keep₆ : ∀ b o, b ∉ w :: (C.env :: outer).filterMap (·.frame) → s₂.heap.get? b = some o → h₆.get? b = some o := fun b o hb e => hf₆.1 b o (hideAll_get _ e hb)
    have hoL : F₂ L = none ∧ st₂.σ L = none := k₂.own _ (List.mem_of_getElem? hpx)
    have base₆ : ∀ b o, C.W.h₀.get? b = some o → h₆.get? b = some o := fun b o e => by
      have eF := k₂.g.base b o e
      refine keep₆ b o (fun m => ?_) (k₂.g.up b o e)
      rcases List.mem_cons.mp m with rfl | m
      · rw [(k₂.g.st _ _ hw).1] at eF; cases eF
      · obtain ⟨env, he, f⟩ := List.mem_filterMap.mp m
        rcases List.mem_cons.mp he with rfl | he
        · have : b = L := Option.some.inj (f.symm.trans hL)
          rw [this, hoL.1] at eF; cases eF
        · obtain ⟨_, L', _, f', _, _, _, _, h0⟩ := hout env he
          have : b = L' := Option.some.inj (f.symm.trans f')
          rw [this, h0] at e; cases e
    refine wpAny_handleBy_builtin (X := "StopIteration") (T := "StopIteration") (b := true) owsi_raise.isExc (by rw [isSubtype_type]; kernel_rfl) owsi_facts.sub ?_
    obtain ⟨mg, mb, ga, gb, ge⟩ := gs.is
    refine Name_function_global k₂.fn gs.hl (wpAny_loadGlobal (v := .type "StopIteration") ⟨mg, mb, ga.keeps base₆, gb.keeps base₆, ge⟩ gs.eg gs.eb ⟨rfl, ⟨ob, hob, hobc⟩, ?_⟩) gs.hd
    simp only [if_true]
    refine lands_againW (s := { s₂ with heap := h₆, toks := tk }) hf₆ fun h₇ hf₇ up₇ => ?_
    have upp := up.trans up₇
    have keep₇ : ∀ b o, b ∉ w :: (C.env :: outer).filterMap (·.frame) → s₂.heap.get? b = some o → h₇.get? b = some o := fun b o hb e => hf₇.1 b o (hideAll_get _ e hb)
    have hn₇ : h₇.Ns L m' := upp.ns hn'
    refine wpAny_execs_cons (wpAny_Return_some (wpAny_Name (wpAny_loadName_local k₂.fn hkr (by rw [hLl]; exact hn₇) hu' ?_) hdr))
    exact fin F₂ st₂ s₂ h₇ tk v u' w bs P hK hrv ru' hxw hw keep₇ upp
end Mine

namespace Mine
open PySem PySem.W PyProof.Rows PySem.Calls

/-! ### calls that may touch the slots of the frames around -/
def OutAt (F : Fz) (σ : St) (h : Heap) (env : Env) : Prop := env.scope.kind ≠ .module ∧ ∃ L m, env.frame = some L ∧ h.Ns L m ∧ F L = none ∧ σ L = none
def CallR (W : Wd) (j : Nat) (a : Addr) (outer : List Env) (xs : List V) (Q : V → St → Prop) (σ : St) : Prop :=
  ∀ (A : Around) (E : Value → Shared → Prop) (F : Fz) (s : Shared) (vs : List Value), OkA A j → SimG W F σ s.heap → RAll F xs vs → A.frames = some outer → (∀ env ∈ outer, OutAt F σ s.heap env) →
    wpAny W.M A (call (.ref a) vs []) (fun v s' => ∃ F' x σ', PostG (outer.filterMap (·.frame)) W F σ s F' σ' s' ∧ (∀ env ∈ outer, ∀ L m, env.frame = some L → s.heap.Ns L m → s'.heap.Ns L m) ∧ R F' x v ∧ Q x σ') E s

theorem PostG.raised {W : Wd} {F F₁ : Fz} {σ σ₁ σ' : St} {s s₁ : Shared} {w L₀ : Addr} {Ls : List Addr} {h' : Heap} {tk : Nat} (p : PostG [] W F σ s F₁ σ₁ s₁) (hL₀ : s.heap.get? L₀ = none) (h0 : F₁ L₀ = none ∧ σ₁ L₀ = none) (hw : σ₁ w ≠ none) (hs : St.Sub σ' σ₁) (hw' : σ' w = none)
    (hLs : ∀ b ∈ Ls, (∃ o, s.heap.get? b = some o) ∧ F b = none ∧ σ b = none) (keep : ∀ b o, b ∉ w :: L₀ :: Ls → s₁.heap.get? b = some o → h'.get? b = some o) : PostG Ls W F σ s F₁ σ' { s₁ with heap := h', toks := tk } := by
  have hF : ∀ b ∈ Ls, F₁ b = none := fun b hb => by
    obtain ⟨⟨o, ho⟩, f, g⟩ := hLs b hb
    cases e : F₁ b with
    | none => rfl
    | some x =>
      rcases p.freshF b (by rw [e]; simp) with z | z | z
      · exact absurd f z
      · exact absurd g z
      · rw [ho] at z; cases z.1
  have hS : ∀ b ∈ Ls, σ₁ b = none := fun b hb => by
    obtain ⟨⟨o, ho⟩, f, g⟩ := hLs b hb
    cases e : σ₁ b with
    | none => rfl
    | some x =>
      rcases p.freshS b (by rw [e]; simp) with z | z
      · exact absurd g z
      · rw [ho] at z; cases z.1
  have hFw : F₁ w = none := by
    cases e : σ₁ w with
    | none => exact absurd e hw
    | some x => exact (p.simg.st _ _ e).1
  have nF : ∀ b, F₁ b ≠ none → b ∉ w :: L₀ :: Ls := fun b hb m => by
    rcases List.mem_cons.mp m with rfl | m
    · exact hb hFw
    rcases List.mem_cons.mp m with rfl | m
    · exact hb h0.1
    · exact hb (hF b m)
  have nS : ∀ b, σ' b ≠ none → b ∉ w :: L₀ :: Ls := fun b hb m => by
    rcases List.mem_cons.mp m with rfl | m
    · exact hb hw'
    have h1 : σ₁ b ≠ none := by
      cases e : σ' b with
      | none => exact absurd e hb
      | some x => rw [hs b x e]; simp
    rcases List.mem_cons.mp m with rfl | m
    · exact h1 h0.2
    · exact h1 (hS b m)
  have fresh : ∀ b, s.heap.get? b = none ∧ b ∉ ([] : List Addr) → s.heap.get? b = none ∧ b ∉ Ls := fun b h => ⟨h.1, fun m => by
    obtain ⟨⟨o, ho⟩, _⟩ := hLs b m
    rw [ho] at h; cases h.1⟩
  obtain ⟨h, tk', e⟩ := p.same
  refine ⟨p.ext, ⟨p.simg.base, fun a o e => keep a o (nF a (by rw [e]; simp)) (p.simg.fz a o e), fun a x e => ?_⟩, fun b o e hσ hn => ?_, fun b hb => ?_, fun b hb => (p.freshF b hb).imp_right fun z => z.imp_right (fresh b), h', tk, by rw [e]⟩
  · obtain ⟨z1, z2⟩ := p.simg.st a x (hs a x e)
    exact ⟨z1, z2.mono (.refl _) fun o ho => keep a o (nS a (by rw [e]; simp)) ho⟩
  · refine keep b o (fun m => ?_) (p.keep b o e hσ (by simp))
    rcases List.mem_cons.mp m with rfl | m
    · rcases p.freshS b hw with z | z
      · exact z hσ
      · rw [e] at z; cases z.1
    rcases List.mem_cons.mp m with rfl | m
    · rw [e] at hL₀; cases hL₀
    · exact hn m
  · have h1 : σ₁ b ≠ none := by
      cases e : σ' b with
      | none => exact absurd e hb
      | some x => rw [hs b x e]; simp
    exact (p.freshS b h1).imp_right (fresh b)

theorem Post.ofR {C : Cx} {F F₁ : Fz} {st : S} {σ₁ : St} {s s₁ : Shared} {Ls : List Addr} (k : Sim C F st s.heap) (hL : ∀ b ∈ Ls, ∃ x, Pl.d b x ∈ C.pl) (p : PostG Ls C.W F st.σ s F₁ σ₁ s₁) (hn : ∀ L ∈ Ls, ∀ m, s.heap.Ns L m → s₁.heap.Ns L m) : Post C F st s F₁ ⟨σ₁, st.ρ⟩ s₁ := by
  have hown : ∀ b ∈ Ls, b ∈ C.own := fun b hb => by obtain ⟨x, hx⟩ := hL b hb; exact List.mem_map.mpr ⟨_, hx, rfl⟩
  have fresh : ∀ b, s.heap.get? b = none ∧ b ∉ Ls → s.heap.get? b = none ∧ b ∉ C.own := fun b h => ⟨h.1, fun m => by
    obtain ⟨o, ho⟩ := k.there b m
    rw [ho] at h; cases h.1⟩
  refine ⟨⟨p.ext, p.simg, fun b o e hσ hb => p.keep b o e hσ fun m => hb (hown b m), fun b hb => (p.freshS b hb).imp_right (fresh b), fun b hb => (p.freshF b hb).imp_right fun z => z.imp_right (fresh b), p.same⟩, p.simg, fun i q e => ?_, fun q hq => ?_, k.ok, k.fn, k.nodup⟩
  · have hm := List.mem_of_getElem? e
    by_cases hq : q.addr ∈ Ls
    · obtain ⟨x, hx⟩ := hL _ hq
      obtain ⟨i', e'⟩ := List.getElem?_of_mem hx
      obtain ⟨m₀, hm₀, _⟩ := k.loc i' _ e'
      cases q with
      | d L y =>
        obtain ⟨m, h1, h2⟩ := k.loc i _ e
        exact ⟨m, hn L hq m h1, fun v hv => let ⟨u, a, b⟩ := h2 v hv; ⟨u, a, b.mono p.ext⟩⟩
      | c a =>
        obtain ⟨u, hc, _⟩ := k.loc i _ e
        obtain ⟨ob, e1, d1⟩ := hc
        obtain ⟨o, es, ep, e2, d2, _⟩ := hm₀
        exfalso
        have e1' : s.heap.get? a = some ob := e1
        have e2' : s.heap.get? a = some o := e2
        rw [e1'] at e2'; cases e2'
        rw [d1] at d2; cases d2
    · exact (k.loc i q e).mono p.ext fun ob h => p.keep _ _ h (k.own q hm).2 hq
  · obtain ⟨ob, h⟩ := k.there q.addr (List.mem_map_of_mem hq)
    have o := k.own q hq
    constructor
    · cases z : F₁ q.addr with
      | none => rfl
      | some y =>
        rcases p.freshF _ (by rw [z]; simp) with y | y | y
        · exact absurd o.1 y
        · exact absurd o.2 y
        · rw [h] at y; cases y.1
    · show σ₁ q.addr = none
      cases z : σ₁ q.addr with
      | none => rfl
      | some y =>
        rcases p.freshS _ (by rw [z]; simp) with y | y
        · exact absurd o.2 y
        · rw [h] at y; cases y.1

variable {C : Cx}
abbrev callRW (W : Wd) (j : Nat) (a : Addr) (outer : List Env) (xs : List V) (Q : V → S → Prop) (st : S) : Prop := CallR W j a outer xs (fun x σ' => Q x ⟨σ', st.ρ⟩) st.σ
theorem ev_callR {x : Str} {p pos : Pos} {a : Addr} {fd : FuncData} {es : List Expr} {Ts : (List V → S → Prop) → S → Prop} {outer : List Env} (hfr : C.A.frames = some outer) (hout : ∀ env ∈ outer, env.scope.kind ≠ .module ∧ ∃ L z, env.frame = some L ∧ Pl.d L z ∈ C.pl) (g : Glo C x (.ref a)) (f : FnAt C.W a fd) (ha : EvAll C es Ts) {W : Wd} (hW : C.W = W) {j : Nat} (hj : C.lev = j) :
    Ev C (.Call (.Name x p) es [] pos) (fun Q => Ts fun xs => callRW W j a outer xs Q) := by
  subst hW; subst hj
  intro E Q st F s hF k q
  obtain ⟨o, ho, hd⟩ := f.at_
  refine wpAny_Call_NameR (name_wp k g.is g.eg g.eb g.hl g.hd ?_)
  refine Calls.callWith_function (o := o) (fd := fd) (evalArgs_run ha pos k q fun F₁ xs st₁ vs s₁ p₁ rs q₁ => ⟨⟨p₁.sim.g.up _ _ ho, hd⟩, ?_⟩)
  have hplace : ∀ L z, Pl.d L z ∈ C.pl → ∃ m, s₁.heap.Ns L m ∧ F₁ L = none ∧ st₁.σ L = none := fun L z hz => by
    obtain ⟨i, e⟩ := List.getElem?_of_mem hz
    obtain ⟨m, hm, _⟩ := p₁.sim.loc i _ e
    exact ⟨m, hm, p₁.sim.own _ hz⟩
  refine wpAny_mono (q₁ C.A E F₁ s₁ vs p₁.sim.ok p₁.sim.g rs hfr fun env he => ?_) (fun v s₂ ⟨F₂, z, σ₂, p₂, hn, rz, q₂⟩ => ⟨F₂, z, ⟨σ₂, st₁.ρ⟩, p₁.trans (Post.ofR p₁.sim ?_ p₂ ?_), rz, q₂⟩) fun _ _ e => e
  · obtain ⟨h1, L, z, h2, h3⟩ := hout env he
    obtain ⟨m, h4, h5⟩ := hplace L z h3
    exact ⟨h1, L, m, h2, h4, h5⟩
  · intro b hb
    obtain ⟨env, he, hfe⟩ := List.mem_filterMap.mp hb
    obtain ⟨_, L, z, h2, h3⟩ := hout env he
    have : b = L := Option.some.inj (hfe.symm.trans h2)
    exact ⟨z, this ▸ h3⟩
  · intro b hb m
    obtain ⟨env, he, hfe⟩ := List.mem_filterMap.mp hb
    exact hn env he b m hfe
end Mine

namespace Mine
open PySem PySem.W PyProof.Rows PySem.Calls

abbrev nxW (K : S → Prop) : Fl → S → Prop
  | .next, st => K st
  | _, _ => False
abbrev stopW (B : PF) (ix ir : Nat) (Q : V → St → Prop) (st : S) : Prop :=
  ∃ n, stopN B (fun st => (∃ w bs, st.ρ ix = some (.ref w) ∧ st.σ w = some (.biter bs bs.length)) ∧ ∃ v, st.ρ ir = some v ∧ ∃ σ', St.Sub σ' st.σ ∧ (∀ w, st.ρ ix = some (.ref w) → σ' w = none) ∧ Q v σ') n st
/-- a def: two statements, then «try: while True: y = f(x) .. except StopIteration: return r» -/
theorem call_try {W : Wd} {a : Addr} {fd : FuncData} {params names : List Str} {lev : Nat} {xs : List V} {Q : V → St → Prop} {σ : St} {outer : List Env} {s1 s2 : Stmt} {T1 T2 : PF}
    {t : Expr} {y fx x sx r : Str} {py px pf pc pa p1 ps pr p2 p3 p4 : Pos} {rest : List Stmt} {B : PF} {af : Addr} {fdf : FuncData} {ix ir : Nat} (f : FnAt W a fd)
    (hb : fd.body = .stmts [s1, s2, .Try [.While t (.Assign [.Name y py] (.Call (.Name fx pf) [.Name x px] [] pc) pa :: rest) [] p1] [.ExceptHandler (some (.Name sx ps)) none [.Return (some (.Name r pr)) p2] p3] [] [] p4])
    (hbind : ∀ vs : List Value, vs.length = params.length → bindArgs fd ⟨vs, []⟩ = pure (params.zip vs))
    (hcell : ∀ x ∈ fd.scope.names, x.2 ≠ .cell) (hloc : ∀ x ∈ params, fd.scope.names.lookup x = some .local) (hnd : (params ++ names).Nodup) (hlen : xs.length = params.length)
    (h1 : ∀ A L, Ex (fnCx W A fd L a (params ++ names) lev) s1 T1) (h2 : ∀ A L, Ex (fnCx W A fd L a (params ++ names) lev) s2 T2)
    (ht : ∀ A L, EvT (fnCx W A fd L a (params ++ names) lev) t (valB (cW (.bool true)))) (hbd : ∀ A L, Exs (fnCx W A fd L a (params ++ names) lev) (.Assign [.Name y py] (.Call (.Name fx pf) [.Name x px] [] pc) pa :: rest) B)
    (gf : ∀ A L, Glo (fnCx W A fd L a (params ++ names) lev) fx (.ref af)) (ff : FnAt W af fdf) (hstop : StopAt W lev af) (gs : ∀ A L, Glo (fnCx W A fd L a (params ++ names) lev) sx (.type "StopIteration"))
    (hpx : ∀ A L, (fnCx W A fd L a (params ++ names) lev).pl[ix]? = some (.d L x)) (hkx : ∀ L, (callEnv fd L a).kindOf x = some .local) (hdx : (x == ("__debug__" : Str)) = false)
    (hpr : ∀ A L, (fnCx W A fd L a (params ++ names) lev).pl[ir]? = some (.d L r)) (hkr : ∀ L, (callEnv fd L a).kindOf r = some .local) (hdr : (r == ("__debug__" : Str)) = false)
    (hs1 : ∀ L, swapsWithSole [.Name y py] (.Call (.Name fx pf) [.Name x px] [] pc) pa.line (callEnv fd L a) = pure false) (hs2 : ∀ L, swappedStores [.Name y py] (.Call (.Name fx pf) [.Name x px] [] pc) (callEnv fd L a) = pure none)
    (q : T1 (nxW (T2 (nxW (stopW B ix ir Q)))) ⟨σ, fun i => xs[i]?⟩)
    (hco : fd.scope.isCoroutine = false := by rfl) (hgen : fd.scope.isGenerator = false := by rfl) (hk : fd.scope.kind = .function := by rfl) : CallR W (lev + 1) a outer xs Q σ := by
  intro A E F s vs hA g rs hfr hout
  refine call_enter (xs := xs) (names := names) f hb hbind hcell hloc hnd hlen hco hgen hk hA g rs fun h₀ tk sim ⟨m, hn⟩ hk₀ => ?_
  have hs : s.heap.get? s.heap.objs.size = none := get_size
  obtain ⟨hF, hσ⟩ := get_fresh_none g
  have hfr' : (A.deeper (callEnv fd s.heap.objs.size a)).frames = some (callEnv fd s.heap.objs.size a :: outer) := Around.frames_deeper hfr
  refine wpAny_execs_cons ((h1 A _).then (F0.le _) sim q fun F₁ f1 st₁ w1 s₁ q₁ rf1 t₁ => ?_)
  cases rf1 with
  | brk => exact t₁.elim
  | cont => exact t₁.elim
  | ret r => exact t₁.elim
  | next =>
  refine wpAny_execs_cons ((h2 A _).then (F0.le _) q₁.sim t₁ fun F₂ f2 st₂ w2 s₂ q₂ rf2 t₂ => ?_)
  cases rf2 with
  | brk => exact t₂.elim
  | cont => exact t₂.elim
  | ret r => exact t₂.elim
  | next =>
  obtain ⟨n, t₂⟩ := t₂
  have z : PostG ((params ++ names).map (fun _ => s.heap.objs.size)) W F σ s F σ { s with heap := h₀, toks := tk } := .heap g [] (fun b o _ e => hk₀ b o e) (fun _ m => nomatch m) (fun _ m => nomatch m)
  have total : ∀ {F₃ : Fz} {st₃ : S} {s₃ : Shared}, Post (fnCx W A fd s.heap.objs.size a (params ++ names) lev) F ⟨σ, fun i => xs[i]?⟩ { s with heap := h₀, toks := tk } F₃ st₃ s₃ → PostG [] W F σ s F₃ st₃.σ s₃ := fun {F₃ st₃ s₃} p => by
    have p' : PostG ((params ++ names).map (fun _ => s.heap.objs.size)) W F σ { s with heap := h₀, toks := tk } F₃ st₃.σ s₃ := p.p.congr fun b => by
      show b ∈ (params ++ names).map _ ↔ b ∈ ((params ++ names).map (Pl.d s.heap.objs.size)).map Pl.addr
      rw [List.map_map]; exact Iff.rfl
    have u : PostG ((params ++ names).map (fun _ => s.heap.objs.size) ++ []) W F σ s F₃ st₃.σ s₃ := by rw [List.append_nil]; exact z.trans p'
    exact strikeAll u fun b hb => by obtain ⟨_, _, rfl⟩ := List.mem_map.mp hb; exact hs
  have P := q₁.trans q₂
  have T := total P
  have offS : ∀ b, (∃ o, s.heap.get? b = some o) → σ b = none → st₂.σ b = none := fun b ⟨o, ho⟩ h => by
    cases e : st₂.σ b with
    | none => rfl
    | some x =>
      rcases T.freshS b (by rw [e]; simp) with z | z
      · exact absurd h z
      · rw [ho] at z; cases z.1
  have hLs : ∀ b ∈ outer.filterMap (·.frame), (∃ o, s.heap.get? b = some o) ∧ F b = none ∧ σ b = none := fun b hb => by
    obtain ⟨env, he, hfe⟩ := List.mem_filterMap.mp hb
    obtain ⟨_, L, m, h2, ⟨o, es, ep, e1, _⟩, h4, h5⟩ := hout env he
    have : b = L := Option.some.inj (hfe.symm.trans h2)
    rw [this]
    exact ⟨⟨o, e1⟩, h4, h5⟩
  have hown : ∀ b, b ∈ (fnCx W A fd s.heap.objs.size a (params ++ names) lev).own → b = s.heap.objs.size := fun b hb => by
    have hb' : b ∈ ((params ++ names).map (Pl.d s.heap.objs.size)).map Pl.addr := hb
    rw [List.map_map] at hb'
    obtain ⟨x, _, rfl⟩ := List.mem_map.mp hb'; rfl
  refine wpAny_execs_cons (try_stop (C := fnCx W A fd s.heap.objs.size a (params ++ names) lev) (ar := a) (ix := ix) (ir := ir) hfr' rfl rfl (ht A _) (hbd A _) (gf A _) ff hstop (gs A _) (hpx A _) (hkx _) hdx (hpr A _) (hkr _) hdr (hs1 _) (hs2 _) q₂.sim (fun env he => ?_) t₂ (fun F₃ st₃ s₃ h' tk' v u w bs p₃ hK hrv ru hxw hw keep up => ?_) fun st ⟨v, h, _⟩ => ⟨v, h⟩)
  · obtain ⟨k1, L, m, k2, hm, k4, k5⟩ := hout env he
    obtain ⟨o, es, ep, e1, d1, _⟩ := id hm
    refine ⟨k1, L, o, k2, T.keep _ _ e1 k5 (by simp), (fun vs q => by rw [d1] at q; cases q), offS _ ⟨o, e1⟩ k5, fun hb => ?_, ?_⟩
    · rw [hown _ hb] at e1
      have e1' : s.heap.get? s.heap.objs.size = some o := e1
      rw [hs] at e1'; cases e1'
    · show W.h₀.get? L = none
      cases e : W.h₀.get? L with
      | none => rfl
      | some x => have := g.base _ _ e; rw [k4] at this; cases this
  · obtain ⟨v', hv', σ', hsub, hno, hQ⟩ := hK
    have ev : v' = v := Option.some.inj (hv'.symm.trans hrv)
    subst ev
    have T₃ := total (P.trans p₃)
    have hpl0 : F₃ s.heap.objs.size = none ∧ st₃.σ s.heap.objs.size = none := p₃.sim.own _ (List.mem_of_getElem? (hpx A _))
    have keep : ∀ b o, b ∉ w :: s.heap.objs.size :: outer.filterMap (·.frame) → s₃.heap.get? b = some o → h'.get? b = some o := keep
    show ∃ F' x σ'', PostG (outer.filterMap (·.frame)) W F σ s F' σ'' { s₃ with heap := h', toks := tk' } ∧ (∀ env ∈ outer, ∀ L m, env.frame = some L → s.heap.Ns L m → h'.Ns L m) ∧ R F' x u ∧ Q x σ''
    refine ⟨F₃, v', σ', T₃.raised hs hpl0 (by rw [hw]; simp) hsub (hno w hxw) hLs keep, fun env he L m hfe hm => ?_, ru, hQ⟩
    obtain ⟨_, L', _, k2, _, _, k5⟩ := hout env he
    have : L = L' := Option.some.inj (hfe.symm.trans k2)
    subst this
    exact up.ns (hm.at' fun o e => T₃.keep _ _ e k5 (by simp))
end Mine

namespace Mine
open PySem PySem.W PyProof.Rows PySem.Calls
end Mine

namespace Mine
open PySem PySem.W PyProof.Rows PySem.Calls

/-! ### a comprehension's own block, some of its names in cells -/
theorem cellsFrom_app : ∀ (names : List (Str × NameKind)) (n : Nat) (acc : List (Str × Addr)), cellsFrom n names acc = cellsFrom n names [] ++ acc
  | [], _, _ => rfl
  | (name, kind) :: r, n, acc => by
    unfold cellsFrom
    split
    · rw [cellsFrom_app r _ ((name, n) :: acc), cellsFrom_app r _ [(name, n)], List.append_assoc]; rfl
    · exact cellsFrom_app r n acc
theorem newEnv_comp {M : Model} {A : Around} {E : Value → Shared → Prop} {s : Shared} {scope : Scope} {globals : Addr} {closure : List (Str × Addr)} {qual : Str} {func : Option Addr} {code : Value} {outer : Env} {builtins : Addr} {Q : Env → Shared → Prop}
    (hQ : Q (newEnv scope s.heap.objs.size globals (cellsFrom (s.heap.objs.size + 1) scope.names [] ++ closure) qual func code (some outer) builtins) { s with heap := pushCells (s.heap.push { cls := .type "dict", data := .dict #[] }) scope.names }) :
    wpAny M A (newFunctionEnv scope globals closure [] qual func code (some outer) builtins) Q E s := by
  simp only [newFunctionEnv, Option.isSome_some, if_true]
  refine wpAny_bind (wpAny_alloc ?_)
  refine wpAny_bind (wpAny_layCells _ (fun name kind cells => by cases hkc : kind == NameKind.cell <;> simp [hkc]) _ _ _ _ ?_)
  rw [show ({ s with heap := s.heap.push { cls := .type "dict", data := .dict #[] } } : Shared).heap.objs.size = s.heap.objs.size + 1 from Heap.size_push .., cellsFrom_app]
  rw [List.forIn_nil]
  exact wpAny_bind (wpAny_pure (wpAny_pure hQ))
end Mine

namespace Mine
open PySem PySem.W PyProof.Rows PySem.Calls

variable {C : Cx}
abbrev dictO : Obj := { cls := .type "dict", data := .dict #[] }
abbrev cellO : Obj := { cls := .type "cell", data := .cell none }
/-- a comprehension's own block with one name, in a cell -/
def Cx.comp1 (C : Cx) (scope : Scope) (cl : List (Str × Addr)) (L : Addr) (x : Str) : Cx := { C with env := compEnvC scope ((x, L + 1) :: cl) L C.env, pl := C.pl ++ [.c (L + 1), .d L x] }
theorem comp1_own {scope : Scope} {cl : List (Str × Addr)} {L : Addr} {x : Str} (b : Addr) : b ∈ (C.comp1 scope cl L x).own ↔ b = L + 1 ∨ b = L ∨ b ∈ C.own := by
  simp only [Cx.comp1, Cx.own, List.map_append, List.mem_append, List.map_cons, List.map_nil, List.mem_cons, List.not_mem_nil, or_false]
  constructor
  · rintro (h | h | h) <;> simp [h]
  · rintro (h | h | h) <;> simp [h]
theorem comp_enter1 {hid : List Addr} {F₀ F : Fz} {σ₀ : St} {st : S} {s₀ s : Shared} {scope : Scope} {cl : List (Str × Addr)} {x : Str} {tk : Nat} (l : LoopAt C hid F₀ σ₀ s₀ F st s) (hk : scope.kind = .function) :
    LoopAt (C.comp1 scope cl s.heap.objs.size x) hid F₀ σ₀ s₀ F ⟨st.σ, cutρ C.pl.length st.ρ⟩ { s with heap := (s.heap.push dictO).push cellO, toks := tk } ∧ s.heap.objs.size ∉ C.own ∧ s.heap.objs.size + 1 ∉ C.own := by
  have l₁ := (l.alloc (o := dictO)).alloc (o := cellO)
  have es : (s.heap.push dictO).objs.size = s.heap.objs.size + 1 := Heap.size_push ..
  have l₂ := l₁.at (h' := (s.heap.push dictO).push cellO) (tk := tk) [] (fun b m => nomatch m) (fun b ob _ e => e) (fun b m => nomatch m)
  have hC := l₂.off (s.heap.push dictO).objs.size (.head _)
  have hL := l₂.off s.heap.objs.size (.tail _ (.head _))
  rw [es] at hC
  have hn : ((s.heap.push dictO).push cellO).Ns s.heap.objs.size fun _ => none := (Heap.Ns.new s.heap (.type "dict")).keeps fun b o e => Heap.get?_push_of_some _ e
  have hc : ((s.heap.push dictO).push cellO).IsCell (s.heap.objs.size + 1) none := ⟨cellO, by rw [← es]; exact Heap.get?_push_size _ rfl, rfl⟩
  refine ⟨⟨l₂.p.congr fun b => ?_, ⟨l₂.sim.g, fun i p hp => ?_, fun p hp => ?_, l.sim.ok, hk, ?_⟩, fun b hb => ?_⟩, hL.2.2.1, hC.2.2.1⟩
  · simp only [List.mem_append, comp1_own, List.mem_cons, es]
    constructor
    · rintro (h | h | h | h) <;> simp [h]
    · rintro ((h | h | h) | h) <;> simp [h]
  · have hp' : (C.pl ++ [.c (s.heap.objs.size + 1), .d s.heap.objs.size x])[i]? = some p := hp
    show p.Ok F _ (if i < C.pl.length then st.ρ i else none)
    by_cases hi : i < C.pl.length
    · rw [if_pos hi]
      rw [List.getElem?_append_left hi] at hp'
      exact l₂.sim.loc i p hp'
    · rw [if_neg hi]
      rw [List.getElem?_append_right (Nat.le_of_not_lt hi)] at hp'
      have hm := List.mem_of_getElem? hp'
      simp only [List.mem_cons, List.not_mem_nil, or_false] at hm
      rcases hm with rfl | rfl
      · exact ⟨_, hc, fun _ e => nomatch e⟩
      · exact ⟨_, hn, fun _ e => nomatch e⟩
  · have hp' : p ∈ C.pl ++ [.c (s.heap.objs.size + 1), .d s.heap.objs.size x] := hp
    rcases List.mem_append.mp hp' with m | m
    · exact l₂.sim.own p m
    · simp only [List.mem_cons, List.not_mem_nil, or_false] at m
      rcases m with rfl | rfl
      · exact ⟨hC.1, hC.2.1⟩
      · exact ⟨hL.1, hL.2.1⟩
  · show (C.pl ++ [Pl.c (s.heap.objs.size + 1), Pl.d s.heap.objs.size x]).Nodup
    refine List.nodup_append.mpr ⟨l.sim.nodup, by simp, fun p hp q hq e => ?_⟩
    simp only [List.mem_cons, List.not_mem_nil, or_false] at hq
    rcases hq with rfl | rfl
    · exact hC.2.2.1 (List.mem_map.mpr ⟨p, hp, by rw [e]⟩)
    · exact hL.2.2.1 (List.mem_map.mpr ⟨p, hp, by rw [e]⟩)
  · obtain ⟨a, b', c, e⟩ := l₂.off b (.tail _ (.tail _ hb))
    refine ⟨a, b', fun m => ?_, e⟩
    rcases (comp1_own b).mp m with rfl | rfl | m
    · obtain ⟨_, _, _, ob, e⟩ := l.off _ hb
      exact absurd (Heap.lt_size e) (Nat.not_lt.mpr (Nat.le_succ _))
    · obtain ⟨_, _, _, ob, e⟩ := l.off _ hb
      rw [get_size] at e; cases e
    · exact c m
theorem comp_leave1 {hid : List Addr} {F₀ F : Fz} {σ₀ σ : St} {ρ ρ' : Nat → Option V} {s₀ s : Shared} {scope : Scope} {cl : List (Str × Addr)} {L : Addr} {x : Str} (hL : L ∉ C.own) (hL1 : L + 1 ∉ C.own) (hk : C.env.scope.kind = .function) (l : LoopAt (C.comp1 scope cl L x) hid F₀ σ₀ s₀ F ⟨σ, ρ'⟩ s)
    (e : ∀ i, i < C.pl.length → ρ i = ρ' i) : LoopAt C ((L + 1) :: L :: hid) F₀ σ₀ s₀ F ⟨σ, ρ⟩ s := by
  have hlen : ∀ (i : Nat) (p : Pl), C.pl[i]? = some p → (C.comp1 scope cl L x).pl[i]? = some p := fun i p hp => by
    show (C.pl ++ [.c (L + 1), .d L x])[i]? = some p
    rw [List.getElem?_append_left (List.getElem?_eq_some_iff.mp hp).1, hp]
  have hm : Pl.d L x ∈ (C.comp1 scope cl L x).pl := List.mem_append.mpr (.inr (by simp))
  have hm1 : Pl.c (L + 1) ∈ (C.comp1 scope cl L x).pl := List.mem_append.mpr (.inr (by simp))
  have oL := l.sim.own _ hm
  have oC := l.sim.own _ hm1
  refine ⟨l.p.congr fun b => ?_, ⟨l.sim.g, fun i p hp => ?_, fun p hp => l.sim.own p (List.mem_append.mpr (.inl hp)), l.sim.ok, hk, (List.nodup_append.mp l.sim.nodup).1⟩, fun b hb => ?_⟩
  · simp only [List.mem_append, comp1_own, List.mem_cons]
    constructor
    · rintro ((h | h | h) | h) <;> simp [h]
    · rintro (h | h | h | h) <;> simp [h]
  · show p.Ok F s.heap (ρ i)
    rw [e i (List.getElem?_eq_some_iff.mp hp).1]
    exact l.sim.loc i p (hlen i p hp)
  · rcases List.mem_cons.mp hb with rfl | hb
    · exact ⟨oC.1, oC.2, hL1, l.sim.there _ ((comp1_own _).mpr (.inl rfl))⟩
    rcases List.mem_cons.mp hb with rfl | hb
    · exact ⟨oL.1, oL.2, hL, l.sim.there _ ((comp1_own _).mpr (.inr (.inl rfl)))⟩
    · obtain ⟨a, b', c, o⟩ := l.off b hb
      exact ⟨a, b', fun m => c ((comp1_own b).mpr (.inr (.inr m))), o⟩
end Mine

namespace Mine
open PySem PySem.W PyProof.Rows PySem.Calls

variable {C : Cx}
theorem Gives.comp1 {F : Fz} {I : Addr} {xs : List V} {h : Heap} {fp : List Addr} {P : Nat → Value → Prop} {Sx : Nat → Heap → Prop} {scope : Scope} {cl : List (Str × Addr)} {L : Addr} {x : Str} (g : Gives C F I xs h fp P Sx) {h' : Heap} (hs : Sx 0 h') : Gives (C.comp1 scope cl L x) F I xs h' fp P Sx :=
  ⟨g.walks, g.item, hs, g.foot, g.there, g.quiet⟩
theorem comp_run1 {elt t it : Expr} {ifs : List Expr} {scope : Scope} {pos pos' : Pos} {cl : List (Str × Addr)} {x : Str} {T : (V → S → Prop) → S → Prop} {Ta : AT} {Tc : (Bool → S → Prop) → S → Prop} {Te : (V → S → Prop) → S → Prop} {use : Option (Value → Sem Unit)}
    (hclos : closureFor scope C.env = pure cl) (hpc : ∀ h, pushCells h scope.names = h.push cellO) (hcf : ∀ n, cellsFrom n scope.names [] = [(x, n)]) (hkind : scope.kind = .function) (hnames : ∀ x ∈ scope.names, x.2 = .local → scope.names.lookup x.1 = some .local)
    (hs : ∀ x, foldedSetIterable it C.env x = pure x)
    (hi : Ev C it T) (ha : ∀ L, Asg (C.comp1 scope cl L x) t Ta) (hc : ∀ L, Tst (C.comp1 scope cl L x) ifs Tc) (he : ∀ L, Ev (C.comp1 scope cl L x) elt Te)
    {E : Value → Shared → Prop} {Q : V → S → Prop} {Z : Value → Shared → Prop} {st : S} {F : Fz} {s : Shared} (k : Sim C F st s.heap) (q : compW C.pl.length T Ta Tc Te Q st)
    (fin : ∀ D L F₁ st₁ s₁ F' st' s', Post C F st s F₁ st₁ s₁ → LoopAt C [L] F₁ st₁.σ s₁ F' st' s' → s₁.heap.get? L = none → Q (.ref D) st' → (∃ m, s'.heap.Ns L m) → compPost C.W.M C.A E use Z (.ref D) L (.ok .next) s') :
    wpAny C.W.M C.A (comprehension (.ListComp elt [⟨t, it, ifs, 0⟩] scope pos) scope C.env pos' (newList []) false (eval it C.env) use) Z E s := by
  refine wpAny_comprehension_free rfl hs hclos hkind hnames (hi.then (F0.le _) k q fun F₁ y st₁ v s₁ p₁ r₁ q₁ => ?_)
  obtain ⟨xs, hx, hsz, q₁⟩ := q₁
  have hI : s₁.heap.get? s₁.heap.objs.size = none := get_size
  refine iter_ok (.begin p₁.sim) hx r₁ fun fp P Sx s₂ _ g l₂ => ?_
  refine wpAny_newList ?_ (by size_fits)
  have l₃ := l₂.alloc (o := listOf #[] 0)
  have hDn := l₂.fresh (by intro b m; rw [List.mem_singleton.mp m]; exact hI)
  have hDI : s₂.heap.objs.size ≠ s₁.heap.objs.size := fun e => by obtain ⟨_, _, _, o, h⟩ := l₂.off _ (.head _); rw [← e, get_size] at h; cases h
  have hid2 : ∀ b ∈ [s₂.heap.objs.size, s₁.heap.objs.size], s₁.heap.get? b = none := by
    intro b m; rcases List.mem_cons.mp m with rfl | m; exact hDn; rw [List.mem_singleton.mp m]; exact hI
  have hLn := l₃.fresh hid2
  have hL1n := (l₃.alloc (o := dictO)).fresh (by intro b m; rcases List.mem_cons.mp m with rfl | m; exact hLn; exact hid2 b m)
  rw [Heap.size_push] at hL1n
  refine newEnv_comp ?_
  rw [hpc, hcf]
  dsimp only
  have hDp : ((((s₂.heap.push (listOf #[] 0)).push dictO).push cellO)).PlainList s₂.heap.objs.size #[] := ⟨0, Heap.get?_push_of_some _ (Heap.get?_push_of_some _ (Heap.get?_push_size _ rfl))⟩
  have hS₄ : Sx 0 (((s₂.heap.push (listOf #[] 0)).push dictO).push cellO) := g.walks.frame 0 _ _ g.start fun b hb o e => Heap.get?_push_of_some _ (Heap.get?_push_of_some _ (Heap.get?_push_of_some _ e))
  obtain ⟨l₄, hL, hL1⟩ := comp_enter1 (scope := scope) (cl := cl) (x := x) (tk := s₂.toks) l₃ hkind
  have key : codeAny C.W.M C.A (.compLoop (.ListComp elt [⟨t, it, ifs, 0⟩] scope pos) 0 (.ref s₁.heap.objs.size) (.ref s₂.heap.objs.size) (C.comp1 scope cl (s₂.heap.push (listOf #[] 0)).objs.size x).env)
      (compPost C.W.M C.A E use Z (.ref s₂.heap.objs.size) (s₂.heap.push (listOf #[] 0)).objs.size) { s₂ with heap := ((s₂.heap.push (listOf #[] 0)).push dictO).push cellO, toks := s₂.toks } := by
    refine comp_loop (C := C.comp1 scope cl (s₂.heap.push (listOf #[] 0)).objs.size x) (n := C.pl.length) (ha _) (hc _) (he _) (fun i hi => if_neg hi) hDI l₄ (g.comp1 hS₄) hDp hsz q₁ fun F' σ' s' h' tk acc vs hF' l' hk' hD' ra q' => ?_
    have hLo := l'.sim.own (Pl.d (s₂.heap.push (listOf #[] 0)).objs.size x) (List.mem_append.mpr (.inr (by simp)))
    have l₅ := comp_leave1 (ρ := st₁.ρ) hL hL1 p₁.sim.fn l' (fun i hi => (if_pos hi).symm)
    have hσD := (l'.off _ (.head _)).2.1
    have p₅ := l₅.list (h' := h') (tk := tk) (by
      intro b m
      rcases List.mem_cons.mp m with rfl | m
      · exact hL1n
      rcases List.mem_cons.mp m with rfl | m
      · exact hLn
      · exact hid2 b m) (.tail _ (.tail _ (.head _))) hD' ra (fun b o hb e => hk' b o (fun m => hb (.tail _ (.tail _ (.tail _ m)))) e)
    obtain ⟨m', hn', _⟩ := l'.sim.loc (C.pl.length + 1) (Pl.d (s₂.heap.push (listOf #[] 0)).objs.size x) (by
      show (C.pl ++ [_, _])[C.pl.length + 1]? = _
      rw [List.getElem?_append_right (Nat.le_succ _), show C.pl.length.succ - C.pl.length = 1 by omega]; rfl)
    have hLI : (s₂.heap.push (listOf #[] 0)).objs.size ≠ s₁.heap.objs.size := fun e => by
      obtain ⟨_, _, _, o, h⟩ := l₃.off s₁.heap.objs.size (.tail _ (.head _))
      have h' : (s₂.heap.push (listOf #[] 0)).get? s₁.heap.objs.size = some o := h
      rw [← e, get_size] at h'; cases h'
    have hLD : (s₂.heap.push (listOf #[] 0)).objs.size ≠ s₂.heap.objs.size := by rw [Heap.size_push]; exact Nat.succ_ne_self _
    have hσL : (if (s₂.heap.push (listOf #[] 0)).objs.size = s₂.heap.objs.size then some (AO.list acc) else σ' (s₂.heap.push (listOf #[] 0)).objs.size) = none := by rw [if_neg hLD]; exact hLo.2
    have hNs := hn'.at' (h' := h') fun o e => hk' _ o (by simpa using hLI) e
    exact fin _ _ F₁ st₁ s₁ F' _ _ p₁ (p₅.hide hLo.1 hσL hL (let ⟨o, _, _, e, _⟩ := hNs; ⟨o, e⟩)) hLn (q' _ hσD) ⟨m', hNs⟩
  exact codeAny_compStart_list key (g.walks.self 0 _ _ _ hS₄ key)
/-- a comprehension whose one name lies in a cell (a comprehension within it sees it) -/
theorem ev_comp1 {elt t it : Expr} {ifs : List Expr} {scope : Scope} {pos : Pos} {cl : List (Str × Addr)} (x : Str) {T : (V → S → Prop) → S → Prop} {Ta : AT} {Tc : (Bool → S → Prop) → S → Prop} {Te : (V → S → Prop) → S → Prop}
    (hclos : closureFor scope C.env = pure cl) (hpc : ∀ h, pushCells h scope.names = h.push cellO) (hcf : ∀ n, cellsFrom n scope.names [] = [(x, n)]) (hkind : scope.kind = .function) (hnames : ∀ x ∈ scope.names, x.2 = .local → scope.names.lookup x.1 = some .local)
    (hs : ∀ x, foldedSetIterable it C.env x = pure x) (n : Nat) (hn : n = C.pl.length)
    (hi : Ev C it T) (ha : ∀ L, Asg (C.comp1 scope cl L x) t Ta) (hc : ∀ L, Tst (C.comp1 scope cl L x) ifs Tc) (he : ∀ L, Ev (C.comp1 scope cl L x) elt Te) :
    Ev C (.ListComp elt [⟨t, it, ifs, 0⟩] scope pos) (compW n T Ta Tc Te) := by
  subst hn
  intro E Q st F s _ k q
  refine comp_run1 (use := none) hclos hpc hcf hkind hnames hs hi ha hc he k q fun D L F₁ st₁ s₁ F' st' s' p₁ l hL q' ⟨m, hn⟩ => ⟨m, hn, fun h' hs' => ?_⟩
  exact ⟨F', .ref D, st', p₁.trans (l.out (tk := s'.toks) (by intro b m; rw [List.mem_singleton.mp m]; exact hL) fun b o hb e => (hs'.2 b (by simpa using hb)).trans e), .ref _, q'⟩
theorem ex_assign_comp1 {elt t it : Expr} {y : Str} {py : Pos} {ifs : List Expr} {scope : Scope} {pos spos : Pos} {cl : List (Str × Addr)} (x : Str) {T : (V → S → Prop) → S → Prop} {Ta Ty : AT} {Tc : (Bool → S → Prop) → S → Prop} {Te : (V → S → Prop) → S → Prop}
    (hsw : swapsWith (.ListComp elt [⟨t, it, ifs, 0⟩] scope pos) (some (.Name y py)) spos.line C.env = pure true)
    (hclos : closureFor scope C.env = pure cl) (hpc : ∀ h, pushCells h scope.names = h.push cellO) (hcf : ∀ n, cellsFrom n scope.names [] = [(x, n)]) (hkind : scope.kind = .function) (hnames : ∀ x ∈ scope.names, x.2 = .local → scope.names.lookup x.1 = some .local)
    (hs : ∀ x, foldedSetIterable it C.env x = pure x) (n : Nat) (hn : n = C.pl.length)
    (hi : Ev C it T) (ha : ∀ L, Asg (C.comp1 scope cl L x) t Ta) (hc : ∀ L, Tst (C.comp1 scope cl L x) ifs Tc) (he : ∀ L, Ev (C.comp1 scope cl L x) elt Te) (hay : Asg C (.Name y py) Ty) :
    Ex C (.Assign [.Name y py] (.ListComp elt [⟨t, it, ifs, 0⟩] scope pos) spos) (fun Q => compW n T Ta Tc Te fun v => Ty v (Q .next)) := by
  subst hn
  intro E Q st F s _ k q
  rw [exec_Assign_Name_used _ _ _ _ hsw]
  refine wpAny_bind (wpAny_standAt (wpAny_bind ?_))
  show wpAny _ _ (do let _ ← comprehension (.ListComp elt [⟨t, it, ifs, 0⟩] scope pos) scope C.env _ (newList []) false (eval it C.env) (some (assign (.Name y py) C.env))) _ _ s
  refine wpAny_bind (comp_run1 (use := some (assign (.Name y py) C.env)) (Q := fun v => Ty v (Q .next)) hclos hpc hcf hkind hnames hs hi ha hc he k q fun D L F₁ st₁ s₁ F' st' s' p₁ l hL q' hm => ?_)
  obtain ⟨m, hn⟩ := hm
  show wpAny C.W.M C.A (assign (.Name y py) C.env (.ref D)) _ _ _
  refine (hay F' (.ref D) (.ref D) (.ref _)).then (Q := fun _ => Q .next) (.refl _) l.sim q' fun F₂ _ st₂ _ s₂ p₂ _ q₂ => ?_
  have hLo := l.off L (.head _)
  refine ⟨m, hn.at' fun o e => p₂.p.keep _ o e hLo.2.1 hLo.2.2.1, fun h' hs' => wpAny_pure (wpAny_pure ?_)⟩
  exact ⟨F₂, .next, st₂, p₁.trans ((l.step p₂).out (tk := s₂.toks) (by intro b m; rw [List.mem_singleton.mp m]; exact hL) fun b o hb e => (hs'.2 b (by simpa using hb)).trans e), .next, q₂⟩
end Mine

namespace Mine
open PySem PySem.W PyProof.Rows PySem.Calls

variable {C : Cx}
theorem toks_of : ∀ {vs : List Value} {ns : List Int}, IntsAre vs ns → ∃ ps : List (Int × Tok), vs = ps.map (fun p => Value.int p.1 p.2) ∧ ns = ps.map (·.1)
  | [], [], _ => ⟨[], rfl, rfl⟩
  | _, _, .cons n t h => by
    obtain ⟨ps, e1, e2⟩ := toks_of h
    exact ⟨(n, t) :: ps, by rw [e1]; rfl, by rw [e2]; rfl⟩
abbrev sumLW (xs : List V) (Q : V → S → Prop) (st : S) : Prop := ∃ x l ns, xs = [x] ∧ getL st x = some l ∧ intsOf l = some ns ∧ ns.length ≤ 1000 ∧ (∀ n ∈ ns, 0 ≤ n ∧ n ≤ 1000000) ∧ Q (.int ns.sum) st
theorem preSum_take (ps : List (Int × Tok)) : ∀ j, j ≤ ps.length → preSum (numAt ps.toArray) j = ((ps.take j).map (·.1)).sum
  | 0, _ => rfl
  | j + 1, h => by
    rw [preSum, preSum_take ps j (by omega), List.take_add_one, List.map_append, List.sum_append]
    congr 1
    simp [numAt, List.getElem?_eq_getElem (show j < ps.length by omega)]
theorem sum_le : ∀ (ns : List Int), (∀ n ∈ ns, 0 ≤ n ∧ n ≤ 1000000) → 0 ≤ ns.sum ∧ ns.sum ≤ 1000000 * ns.length
  | [], _ => by simp
  | n :: ns, h => by
    have := sum_le ns fun m hm => h m (.tail _ hm)
    have := h n (.head _)
    rw [List.sum_cons, List.length_cons]; omega
theorem sumL_ok (F : Fz) (xs : List V) (vs : List Value) (rs : RAll F xs vs) : Imp C F R (call (.builtin "sum") vs) (sumLW xs) := by
  rintro E Q st F' s hF k ⟨x, l, ns, hx, hl, hi, hn, hb, q⟩
  subst hx
  cases rs with
  | cons r rs =>
    cases rs
    obtain ⟨D, ws, n, rfl, ho, rw⟩ := getL_ok k (r.mono hF) hl
    obtain ⟨ps, e1, e2⟩ := toks_of (intsOf_all rw hi)
    subst e1
    have hlen : ps.length = ns.length := by rw [e2, List.length_map]
    have hlist : s.heap.IsList D (intItems ps.toArray) := by
      have h := PySem.IsL.isList (n := n) ho
      simpa [intItems] using h
    refine sum_intList k.ok.handled hlist (fun j hj => ?_) fun h' tk t' hk => ⟨F', .int ns.sum, st, k.grown hk, ?_, q⟩
    · have hj' : j < ps.length := by simpa using hj
      have mem : ps[j].1 ∈ ns := by rw [e2]; exact List.mem_map.mpr ⟨_, List.getElem_mem hj', rfl⟩
      have e : numAt ps.toArray j = ps[j].1 := by simp [numAt, List.getElem?_eq_getElem hj']
      have b := hb _ mem
      rw [preSum_take ps (j + 1) (by omega), e]
      have s1 := sum_le ((ps.take (j + 1)).map (·.1)) fun m hm => by
        obtain ⟨p, hp, rfl⟩ := List.mem_map.mp hm
        exact hb _ (by rw [e2]; exact List.mem_map.mpr ⟨p, List.mem_of_mem_take hp, rfl⟩)
      have l1 : ((ps.take (j + 1)).map (·.1)).length ≤ 1000 := by rw [List.length_map, List.length_take]; omega
      unfold InLong
      exact ⟨⟨by omega, by omega⟩, by omega, by omega⟩
    · have e : preSum (numAt ps.toArray) ps.toArray.size = ns.sum := by
        rw [List.size_toArray, preSum_take ps _ (Nat.le_refl _), List.take_length, ← e2]
      rw [e]; exact .int _ _
end Mine

namespace Mine
open PySem PySem.W PyProof.Rows PySem.Calls

variable {C : Cx}
abbrev minLW (xs : List V) (Q : V → S → Prop) (st : S) : Prop := ∃ x l ns, xs = [x] ∧ getL st x = some l ∧ intsOf l = some ns ∧ ns ≠ [] ∧ ∀ m, m ∈ ns → (∀ n ∈ ns, m ≤ n) → Q (.int m) st
theorem minL_ok (F : Fz) (xs : List V) (vs : List Value) (rs : RAll F xs vs) : Imp C F R (call (.builtin "min") vs) (minLW xs) := by
  rintro E Q st F' s hF k ⟨x, l, ns, hx, hl, hi, hne, q⟩
  subst hx
  cases rs with
  | cons r rs =>
    cases rs
    obtain ⟨D, ws, n, rfl, ho, rw⟩ := getL_ok k (r.mono hF) hl
    obtain ⟨ps, e1, e2⟩ := toks_of (intsOf_all rw hi)
    subst e1
    have hlist : s.heap.IsList D (intItems ps.toArray) := by
      have h := PySem.IsL.isList (n := n) ho
      simpa [intItems] using h
    have hpos : 0 < ps.length := by
      cases ps with
      | nil => exact absurd e2 hne
      | cons _ _ => simp
    refine min_intList k.ok.handled hlist (by simpa using hpos) fun v h' tk hv hk => ?_
    obtain ⟨b1, b2⟩ := argBest_lt (numAt ps.toArray) (ps.toArray.size - 1)
    obtain ⟨t, rfl⟩ := intItems_at hv
    have hsz : ps.toArray.size = ps.length := List.size_toArray
    have at_ : ∀ j (h : j < ps.length), numAt ps.toArray j = ps[j].1 := fun j h => by simp [numAt, List.getElem?_eq_getElem h]
    generalize hg : argBest (fun i j => decide (numAt ps.toArray i < numAt ps.toArray j)) (ps.toArray.size - 1) = g at b1 b2 hv
    have hgl : g < ps.length := by omega
    refine ⟨F', _, st, k.grown hk, .int _ t, q _ ?_ fun m hm => ?_⟩
    · rw [at_ g hgl, e2]; exact List.mem_map.mpr ⟨_, List.getElem_mem hgl, rfl⟩
    · rw [e2] at hm
      obtain ⟨p, hp, rfl⟩ := List.mem_map.mp hm
      obtain ⟨j, hj⟩ := List.getElem?_of_mem hp
      obtain ⟨hj', e⟩ := List.getElem?_eq_some_iff.mp hj
      have := b2 j (by omega)
      rw [at_ j hj', e] at this
      exact this
end Mine

namespace Mine
open PySem PySem.W PyProof.Rows PySem.Calls

variable {C : Cx}
/-! ### (), [] -/
theorem ev_tup0 {n : _} {pos : Pos} : Ev C (.Tuple [] n pos) (cW (.tuple [])) := fun E Q st F s hF k q => ev_tuple .nil E Q st F s hF k ⟨by decide, q⟩
abbrev l0W : PV := fun Q => newWS (.list []) Q
theorem ev_lis0 {pos : Pos} : Ev C (.List [] pos) l0W := fun E Q st F s hF k q => ev_list .nil E Q st F s hF k ⟨by decide, q⟩
end Mine

namespace Mine
open PySem PySem.W PyProof.Rows PySem.Calls

/-! ### calls of a def that makes such calls itself: one frame around, its values kept -/
def KeepsNs (L : Addr) (onames : List Str) (h h' : Heap) : Prop := ∀ m, h.Ns L m → ∃ m', h'.Ns L m' ∧ ∀ x ∈ onames, ∀ u, m x = some u → m' x = some u
def CallRN (W : Wd) (j : Nat) (a : Addr) (L0 : Addr) (e0 : Env) (onames : List Str) (xs : List V) (Q : V → St → Prop) (σ : St) : Prop :=
  ∀ (A : Around) (E : Value → Shared → Prop) (F : Fz) (s : Shared) (vs : List Value), OkA A j → SimG W F σ s.heap → RAll F xs vs → A.frames = some [e0] → e0.scope.kind ≠ .module → e0.frame = some L0 → (∃ m, s.heap.Ns L0 m) → F L0 = none → σ L0 = none →
    wpAny W.M A (call (.ref a) vs []) (fun v s' => ∃ F' x σ', PostG [L0] W F σ s F' σ' s' ∧ KeepsNs L0 onames s.heap s'.heap ∧ R F' x v ∧ Q x σ') E s
theorem Post.ofRN {C : Cx} {F F₁ : Fz} {st : S} {σ₁ : St} {s s₁ : Shared} {L0 : Addr} {onames : List Str} (k : Sim C F st s.heap) (hL : ∃ x, Pl.d L0 x ∈ C.pl) (ho : ∀ x, Pl.d L0 x ∈ C.pl → x ∈ onames) (p : PostG [L0] C.W F st.σ s F₁ σ₁ s₁) (hn : KeepsNs L0 onames s.heap s₁.heap) : Post C F st s F₁ ⟨σ₁, st.ρ⟩ s₁ := by
  have hown : ∀ b ∈ [L0], b ∈ C.own := fun b hb => by rw [List.mem_singleton.mp hb]; obtain ⟨x, hx⟩ := hL; exact List.mem_map.mpr ⟨_, hx, rfl⟩
  have fresh : ∀ b, s.heap.get? b = none ∧ b ∉ [L0] → s.heap.get? b = none ∧ b ∉ C.own := fun b h => ⟨h.1, fun m => by
    obtain ⟨o, ho⟩ := k.there b m
    rw [ho] at h; cases h.1⟩
  refine ⟨⟨p.ext, p.simg, fun b o e hσ hb => p.keep b o e hσ fun m => hb (hown b m), fun b hb => (p.freshS b hb).imp_right (fresh b), fun b hb => (p.freshF b hb).imp_right fun z => z.imp_right (fresh b), p.same⟩, p.simg, fun i q e => ?_, fun q hq => ?_, k.ok, k.fn, k.nodup⟩
  · have hm := List.mem_of_getElem? e
    by_cases hq : q.addr = L0
    · obtain ⟨x, hx⟩ := hL
      obtain ⟨i', e'⟩ := List.getElem?_of_mem hx
      obtain ⟨m₀, hm₀, _⟩ := k.loc i' _ e'
      cases q with
      | d L y =>
        obtain ⟨m, h1, h2⟩ := k.loc i _ e
        have hq' : L = L0 := hq
        subst hq'
        obtain ⟨m', h3, h4⟩ := hn m h1
        exact ⟨m', h3, fun v hv => let ⟨u, a, b⟩ := h2 v hv; ⟨u, h4 y (ho y hm) u a, b.mono p.ext⟩⟩
      | c a =>
        obtain ⟨u, hc, _⟩ := k.loc i _ e
        exact (Ns.notCell hm₀ ((show a = L0 from hq) ▸ hc)).elim
    · exact (k.loc i q e).mono p.ext fun ob h => p.keep _ _ h (k.own q hm).2 (by simpa using hq)
  · obtain ⟨ob, h⟩ := k.there q.addr (List.mem_map_of_mem hq)
    have o := k.own q hq
    constructor
    · cases z : F₁ q.addr with
      | none => rfl
      | some y =>
        rcases p.freshF _ (by rw [z]; simp) with y | y | y
        · exact absurd o.1 y
        · exact absurd o.2 y
        · rw [h] at y; cases y.1
    · show σ₁ q.addr = none
      cases z : σ₁ q.addr with
      | none => rfl
      | some y =>
        rcases p.freshS _ (by rw [z]; simp) with y | y
        · exact absurd o.2 y
        · rw [h] at y; cases y.1

section
variable {C : Cx}
abbrev callNW (W : Wd) (j : Nat) (a : Addr) (L0 : Addr) (e0 : Env) (onames : List Str) (xs : List V) (Q : V → S → Prop) (st : S) : Prop := CallRN W j a L0 e0 onames xs (fun x σ' => Q x ⟨σ', st.ρ⟩) st.σ
theorem ev_callN {x : Str} {p pos : Pos} {a : Addr} {fd : FuncData} {es : List Expr} {Ts : (List V → S → Prop) → S → Prop} {L0 : Addr} {e0 : Env} {onames : List Str} (hfr : C.A.frames = some [e0]) (hk0 : e0.scope.kind ≠ .module) (hf0 : e0.frame = some L0) (hL : ∃ z, Pl.d L0 z ∈ C.pl) (hno : ∀ z, Pl.d L0 z ∈ C.pl → z ∈ onames)
    (g : Glo C x (.ref a)) (f : FnAt C.W a fd) (ha : EvAll C es Ts) {W : Wd} (hW : C.W = W) {j : Nat} (hj : C.lev = j) :
    Ev C (.Call (.Name x p) es [] pos) (fun Q => Ts fun xs => callNW W j a L0 e0 onames xs Q) := by
  subst hW; subst hj
  intro E Q st F s hF k q
  obtain ⟨o, ho, hd⟩ := f.at_
  refine wpAny_Call_NameR (name_wp k g.is g.eg g.eb g.hl g.hd ?_)
  refine Calls.callWith_function (o := o) (fd := fd) (evalArgs_run ha pos k q fun F₁ xs st₁ vs s₁ p₁ rs q₁ => ⟨⟨p₁.sim.g.up _ _ ho, hd⟩, ?_⟩)
  obtain ⟨z, hz⟩ := id hL
  obtain ⟨i, e⟩ := List.getElem?_of_mem hz
  obtain ⟨m, hm, _⟩ := p₁.sim.loc i _ e
  have ow := p₁.sim.own _ hz
  exact wpAny_mono (q₁ C.A E F₁ s₁ vs p₁.sim.ok p₁.sim.g rs hfr hk0 hf0 ⟨m, hm⟩ ow.1 ow.2) (fun v s₂ ⟨F₂, z, σ₂, p₂, hn, rz, q₂⟩ => ⟨F₂, z, ⟨σ₂, st₁.ρ⟩, p₁.trans (Post.ofRN p₁.sim hL hno p₂ hn), rz, q₂⟩) fun _ _ e => e
end

def fnCxN (W : Wd) (A : Around) (fd : FuncData) (L a : Addr) (names : List (Str × Bool)) (lev : Nat) (L0 : Addr) (onames : List Str) : Cx := { W := W, A := A.deeper (envC fd L a), env := envC fd L a, pl := names.map (plOf fd L) ++ onames.map (Pl.d L0), lev := lev }
/-- at the end: what is given back, and the frame around as it was -/
abbrev retN (n m : Nat) (ρ₀ : Nat → Option V) (Q : V → St → Prop) (f : Fl) (st : S) : Prop := (∀ i, n ≤ i → i < n + m → st.ρ i = ρ₀ i) ∧ retW Q f st
theorem call_introN {W : Wd} {a : Addr} {fd : FuncData} {body : List Stmt} {params : List Str} {names : List (Str × Bool)} {onames : List Str} {lev : Nat} {L0 : Addr} {e0 : Env} {T : Addr → (Fl → S → Prop) → S → Prop} {xs : List V} {Q : V → St → Prop} {σ : St} (f : FnAt W a fd)
    (hb : fd.body = .stmts body) (hT : ∀ A L, A.frames = some [e0] → e0.scope.kind ≠ .module → e0.frame = some L0 → Exs (fnCxN W A fd L a names lev L0 onames) body (T L))
    (hbind : ∀ vs : List Value, vs.length = params.length → bindArgs fd ⟨vs, []⟩ = pure (params.zip vs)) (hcl : fd.closure = [])
    (hpar : (names.map (·.1)).take params.length = params)
    (hkd : ∀ p ∈ names, fd.scope.names.lookup p.1 = some (if p.2 then .cell else .local)) (hin : ∀ L, ∀ p ∈ names, p.2 = true → ((cellsAt fd L).lookup p.1).isSome = true)
    (hnd : (names.map (·.1)).Nodup) (hond : onames.Nodup) (hone : onames ≠ []) (hlen : xs.length = params.length)
    (q : ∀ L ρ, (∀ i, i < names.length → ρ i = xs[i]?) → T L (retN names.length onames.length ρ Q) ⟨σ, ρ⟩)
    (hco : fd.scope.isCoroutine = false := by rfl) (hgen : fd.scope.isGenerator = false := by rfl) (hk : fd.scope.kind = .function := by rfl) : CallRN W (lev + 1) a L0 e0 onames xs Q σ := by
  intro A E F s vs hA g rs hfr hk0 hf0 ⟨m0, hm0⟩ hF0 hσ0
  obtain ⟨o, ho, hd⟩ := f.at_
  have hvl : vs.length = params.length := by rw [← rs.length, hlen]
  have hbd := hbind vs hvl
  have hpnd : params.Nodup := by rw [← hpar]; exact hnd.sublist (List.take_sublist _ _)
  have hpm : ∀ x ∈ params, ∃ p ∈ names, p.1 = x := fun x hx => by
    rw [← hpar] at hx
    obtain ⟨p, hp, e⟩ := List.mem_map.mp (List.mem_of_mem_take hx)
    exact ⟨p, hp, e⟩
  refine wpAny_call (codeAny_call_function (by have := hA.depth; omega) (g.up _ _ ho) hd hco hgen hb (f.code.keeps g.up) ?_)
  rw [hbd]
  refine wpAny_pure ?_
  rw [hcl]
  refine wpAny_newFunctionEnv_cells hk (fun x hx => ?_) (fun env henv s₁ ic => ?_)
  · obtain ⟨p, hp, e⟩ := hpm x.1 (List.of_mem_zip hx).1
    have := hkd p hp
    rw [e] at this
    cases h : p.2 with
    | false => rw [h] at this; exact .inl this
    | true => rw [h] at this; exact .inr ⟨this, by rw [← e]; exact hin _ p hp h⟩
  have henv' : env = envC fd s.heap.objs.size a := henv
  clear henv
  subst henv'
  have L0' : (envC fd s.heap.objs.size a).locals = s.heap.objs.size := rfl
  have C0 : (envC fd s.heap.objs.size a).cells = cellsAt fd s.heap.objs.size := rfl
  rw [L0', C0] at ic
  obtain ⟨h₁, tk, rfl⟩ := ic.toInCall.same
  have keep := ic.toInCall.keep
  have hns := ic.toInCall.ns
  refine ⟨(W.lim.keeps g.up).keeps keep, codeAny_func ?_⟩
  have hs : s.heap.get? s.heap.objs.size = none := get_size
  have big : ∀ c, s.heap.objs.size ≤ c → s.heap.get? c = none := fun c hc => by
    cases e : s.heap.get? c with
    | none => rfl
    | some o => exact absurd (Heap.lt_size e) (Nat.not_lt.mpr hc)
  have hpl : ∀ p ∈ names, s.heap.get? (plOf fd s.heap.objs.size p).addr = none := fun p hp => by
    unfold plOf
    cases h : p.2 with
    | false => exact hs
    | true =>
      obtain ⟨c, hc⟩ := Option.isSome_iff_exists.mp (hin s.heap.objs.size p hp h)
      simp only [if_true, hc, Option.getD_some]
      exact big c (Nat.le_of_lt (ic.above p.1 c (mem_of_lookup hc)))
  have hL0 : ∃ o, s.heap.get? L0 = some o := by obtain ⟨o, _, _, e, _⟩ := id hm0; exact ⟨o, e⟩
  have g₁ : SimG W F σ h₁ := g.heap [] (fun b o _ e => keep b o e) (fun _ m => nomatch m)
  -- the state: the def's own names, and the frame around, as it is
  let ρ : Nat → Option V := fun i => if i < names.length then xs[i]? else match onames[i - names.length]? with | none => none | some y => (m0 y).map V.raw
  have hρ1 : ∀ i, i < names.length → ρ i = xs[i]? := fun i hi => if_pos hi
  have hρ2 : ∀ i y, onames[i]? = some y → ρ (names.length + i) = (m0 y).map V.raw := fun i y e => by
    show (if names.length + i < names.length then _ else _) = _
    rw [if_neg (by omega), show names.length + i - names.length = i by omega, e]
  have sim : Sim (fnCxN W A fd s.heap.objs.size a names lev L0 onames) F ⟨σ, ρ⟩ h₁ := by
    refine ⟨g₁, fun i p hp => ?_, fun p hp => ?_, okA_deeper hA, hk, ?_⟩
    · have hp' : (names.map (plOf fd s.heap.objs.size) ++ onames.map (Pl.d L0))[i]? = some p := hp
      by_cases hi : i < names.length
      · rw [List.getElem?_append_left (by rw [List.length_map]; exact hi), List.getElem?_map] at hp'
        obtain ⟨x, hx, rfl⟩ := Option.map_eq_some_iff.mp hp'
        have hxm := List.mem_of_getElem? hx
        have kd := hkd x hxm
        have at_ : ∀ v, xs[i]? = some v → ∃ u, vs[i]? = some u ∧ R F v u ∧ params[i]? = some x.1 := fun v hv => by
          obtain ⟨u, hu, r⟩ := rs.get hv
          refine ⟨u, hu, r, ?_⟩
          have hi : i < params.length := by rw [← hlen]; exact (List.getElem?_eq_some_iff.mp hv).1
          rw [← hpar, List.getElem?_take, if_pos hi, List.getElem?_map, hx]; rfl
        show (plOf fd s.heap.objs.size x).Ok F h₁ (ρ i)
        rw [hρ1 i hi]
        unfold plOf
        cases h : x.2 with
        | false =>
          rw [h] at kd
          refine ⟨_, hns, fun v hv => ?_⟩
          obtain ⟨u, hu, r, hpi⟩ := at_ v hv
          exact ⟨u, bindL_at hpnd hpi hu kd, r⟩
        | true =>
          rw [h] at kd
          obtain ⟨c, hc⟩ := Option.isSome_iff_exists.mp (hin s.heap.objs.size x hxm h)
          simp only [if_true, hc, Option.getD_some]
          refine ⟨_, ic.cell x.1 c hc, fun v hv => ?_⟩
          obtain ⟨u, hu, r, hpi⟩ := at_ v hv
          refine ⟨u, bindC_at hpnd hpi hu ?_, r⟩
          show fd.scope.names.lookup x.1 ≠ some .local
          rw [kd]; simp
      · rw [List.getElem?_append_right (by rw [List.length_map]; omega), List.length_map, List.getElem?_map] at hp'
        obtain ⟨y, hy, rfl⟩ := Option.map_eq_some_iff.mp hp'
        have e := hρ2 _ _ hy
        rw [show names.length + (i - names.length) = i by omega] at e
        show (Pl.d L0 y).Ok F h₁ (ρ i)
        rw [e]
        refine ⟨m0, hm0.keeps keep, fun v hv => ?_⟩
        obtain ⟨u, hu, rfl⟩ := Option.map_eq_some_iff.mp hv
        exact ⟨u, hu, .raw _⟩
    · have hp' : p ∈ names.map (plOf fd s.heap.objs.size) ++ onames.map (Pl.d L0) := hp
      rcases List.mem_append.mp hp' with hp' | hp'
      · obtain ⟨x, hx, rfl⟩ := List.mem_map.mp hp'
        exact g.free (hpl x hx)
      · obtain ⟨x, hx, rfl⟩ := List.mem_map.mp hp'
        exact ⟨hF0, hσ0⟩
    · show (names.map (plOf fd s.heap.objs.size) ++ onames.map (Pl.d L0)).Nodup
      refine List.nodup_append.mpr ⟨?_, List.pairwise_map.mpr (hond.imp fun h e => h (by injection e)), fun p hp q hq e => ?_⟩
      · refine List.pairwise_map.mpr (List.Pairwise.imp_of_mem ?_ (List.pairwise_map.mp hnd))
        intro x y hx hy hne e
        unfold plOf at e
        cases h1 : x.2 with
        | false =>
          cases h2 : y.2 with
          | false => rw [h1, h2] at e; simp at e; exact hne e
          | true => rw [h1, h2] at e; simp at e
        | true =>
          cases h2 : y.2 with
          | false => rw [h1, h2] at e; simp at e
          | true =>
            obtain ⟨c, hc⟩ := Option.isSome_iff_exists.mp (hin s.heap.objs.size x hx h1)
            obtain ⟨d, hd'⟩ := Option.isSome_iff_exists.mp (hin s.heap.objs.size y hy h2)
            rw [h1, h2, hc, hd'] at e
            simp at e
            subst e
            exact hne (name_of_addr ic.apart (mem_of_lookup hc) (mem_of_lookup hd'))
      · obtain ⟨x, hx, rfl⟩ := List.mem_map.mp hp
        obtain ⟨y, hy, rfl⟩ := List.mem_map.mp hq
        obtain ⟨o, ho⟩ := hL0
        have := hpl x hx
        rw [e] at this
        have this' : s.heap.get? L0 = none := this
        rw [ho] at this'; cases this'
  refine (hT A s.heap.objs.size hfr hk0 hf0).then (F0.le _) sim (q _ ρ hρ1) fun F₁ fl st₁ w s₂ p₁ rf q₁ => ?_
  obtain ⟨hkeep, q₁⟩ := q₁
  have fin : PostG [L0] W F σ s F₁ st₁.σ s₂ := by
    have z : PostG ((names.map (plOf fd s.heap.objs.size) ++ onames.map (Pl.d L0)).map Pl.addr) W F σ s F σ { s with heap := h₁, toks := tk } := .heap g [] (fun b o _ e => keep b o e) (fun _ m => nomatch m) (fun _ m => nomatch m)
    have t := z.trans p₁.p
    have u : PostG ((names.map (plOf fd s.heap.objs.size)).map Pl.addr ++ [L0]) W F σ s F₁ st₁.σ s₂ := t.congr fun b => by
      rw [List.map_append, List.mem_append, List.mem_append, List.map_map, List.mem_singleton]
      refine or_congr_right ⟨fun h => ?_, fun h => ?_⟩
      · cases onames with
        | nil => exact absurd rfl hone
        | cons y r => rw [h]; exact .head _
      · rw [List.map_map] at h
        obtain ⟨_, _, rfl⟩ := List.mem_map.mp h; rfl
    exact strikeAll u fun b hb => by
      obtain ⟨p, hp, rfl⟩ := List.mem_map.mp hb
      obtain ⟨x, hx, rfl⟩ := List.mem_map.mp hp
      exact hpl x hx
  have kn : KeepsNs L0 onames s.heap s₂.heap := fun m hm => by
    have := Ns.uniq hm hm0
    subst this
    have at_ : ∀ i y, onames[i]? = some y → ∃ m', s₂.heap.Ns L0 m' ∧ ∀ u, m y = some u → m' y = some u := fun i y e => by
      have hi := (List.getElem?_eq_some_iff.mp e).1
      have hpl' : (fnCxN W A fd s.heap.objs.size a names lev L0 onames).pl[names.length + i]? = some (.d L0 y) := by
        show (names.map (plOf fd s.heap.objs.size) ++ onames.map (Pl.d L0))[names.length + i]? = _
        rw [List.getElem?_append_right (by rw [List.length_map]; omega), List.length_map, show names.length + i - names.length = i by omega, List.getElem?_map, e]; rfl
      obtain ⟨m', h1, h2⟩ := p₁.sim.loc _ _ hpl'
      refine ⟨m', h1, fun u hu => ?_⟩
      obtain ⟨u', hu', r⟩ := h2 (.raw u) (by rw [hkeep _ (by omega) (by omega), hρ2 i y e, hu]; rfl)
      cases r
      exact hu'
    cases hon : onames with
    | nil => exact absurd hon hone
    | cons y₀ r =>
      obtain ⟨m', h1, _⟩ := at_ 0 y₀ (by rw [hon]; rfl)
      refine ⟨m', h1, fun x hx u hu => ?_⟩
      rw [← hon] at hx
      obtain ⟨i, e⟩ := List.getElem?_of_mem hx
      obtain ⟨m'', h3, h4⟩ := at_ i x e
      rw [Ns.uniq h1 h3]
      exact h4 u hu
  cases rf with
  | next => obtain ⟨σ', hsub, q₁⟩ := q₁; exact ⟨F₁, .none, σ', fin.sub hsub, kn, .none, q₁⟩
  | brk => exact q₁.elim
  | cont => exact q₁.elim
  | ret r => obtain ⟨σ', hsub, q₁⟩ := q₁; exact ⟨F₁, _, σ', fin.sub hsub, kn, r, q₁⟩
end Mine

namespace Mine
open PySem PySem.W PyProof.Rows PySem.Calls

variable {C : Cx}
/-! ### a name's list is frozen where it stands -/
theorem Sim.reval {F : Fz} {st : S} {h : Heap} (k : Sim C F st h) {i : Nat} {v w : V} (hi : st.ρ i = some v) (hvw : ∀ u, R F v u → R F w u) : Sim C F (st.set i w) h := by
  refine ⟨k.g, fun j p e => ?_, k.own, k.ok, k.fn, k.nodup⟩
  have z := k.loc j p e
  show p.Ok F h (if j = i then some w else st.ρ j)
  by_cases hj : j = i
  · subst hj
    rw [if_pos rfl]
    rw [hi] at z
    cases p with
    | d L x => obtain ⟨m, a, b⟩ := z; exact ⟨m, a, fun y e => by cases e; obtain ⟨u, c, d⟩ := b v rfl; exact ⟨u, c, hvw u d⟩⟩
    | c L => obtain ⟨m, a, b⟩ := z; exact ⟨m, a, fun y e => by cases e; obtain ⟨u, c, d⟩ := b v rfl; exact ⟨u, c, hvw u d⟩⟩
  · rw [if_neg hj]; exact z
theorem Imp.ghost {X α : Type} {F₀ : Fz} {Rel : Fz → X → α → Prop} {t : Sem α} {T : (X → S → Prop) → S → Prop} {T' : (X → S → Prop) → S → Prop} (h : Imp C F₀ Rel t T)
    (g : ∀ Q st F s, Sim C F st s.heap → T' Q st → ∃ F' st', Post C F st s F' st' s ∧ T Q st') : Imp C F₀ Rel t T' := by
  intro E Q st F s hF k q
  obtain ⟨F', st', p, q'⟩ := g Q st F s k q
  exact h.then (hF.trans p.ext) p.sim q' fun F₂ x st₂ v s₂ p₂ r q₂ => ⟨F₂, x, st₂, p.trans p₂, r, q₂⟩
abbrev fzV (i : Nat) (T : PF) : PF := fun Q st => ∃ a xs, st.ρ i = some (.ref a) ∧ st.σ a = some (.list xs) ∧ T Q ((st.del a).set i (.list xs))
theorem exs_fz {ss : List Stmt} {T : PF} {i : Nat} (h : Exs C ss T) : Exs C ss (fzV i T) := h.ghost fun Q st F s k ⟨a, xs, hi, ha, q⟩ => by
  obtain ⟨F', p, r⟩ := PostG.freeze k.g ha
  have z := Post.ofG k p
  exact ⟨F', (st.del a).set i (.list xs), ⟨z.p, z.sim.reval (w := .list xs) hi fun u hu => by cases hu; exact r⟩, q⟩
/-- lists in the store, frozen one after the other -/
theorem freezeAll {W : Wd} {s : Shared} : ∀ (ps : List (Addr × List V)) {F : Fz} {σ : St}, SimG W F σ s.heap → (∀ p ∈ ps, σ p.1 = some (.list p.2)) → (ps.map (·.1)).Nodup →
    ∃ F' σ', PostG [] W F σ s F' σ' s ∧ (∀ b, b ∉ ps.map (·.1) → σ' b = σ b) ∧ St.Sub σ' σ ∧ RAll F' (ps.map fun p => V.list p.2) (ps.map fun p => Value.ref p.1)
  | [], F, σ, g, _, _ => ⟨F, σ, .refl g, fun _ _ => rfl, fun _ _ e => e, .nil⟩
  | p :: ps, F, σ, g, h, hn => by
    obtain ⟨F₁, q, r⟩ := PostG.freeze g (h p (.head _))
    rw [List.map_cons] at hn
    have hp := (List.nodup_cons.mp hn).1
    obtain ⟨F₂, σ₂, q₂, h₁, h₂, h₃⟩ := freezeAll ps q.simg (fun x m => by
      show (if x.1 = p.1 then none else σ x.1) = _
      have hx : x.1 ≠ p.1 := fun e => hp (by rw [← e]; exact List.mem_map_of_mem m)
      rw [if_neg hx]; exact h x (.tail _ m)) (List.nodup_cons.mp hn).2
    refine ⟨F₂, σ₂, q.trans q₂, fun b hb => ?_, fun b x e => ?_, .cons (r.mono q₂.ext) h₃⟩
    · rw [h₁ b (fun m => hb (.tail _ m))]
      have hx : b ≠ p.1 := fun e => hb (by rw [e]; exact .head _)
      exact if_neg hx
    · have hx : (if b = p.1 then none else σ b) = some x := h₂ b x e
      by_cases z : b = p.1
      · rw [if_pos z] at hx; cases hx
      · rw [if_neg z] at hx; exact hx
theorem refs_of {F : Fz} : ∀ {as : List Addr} {vs : List Value}, RAll F (as.map V.ref) vs → vs = as.map Value.ref
  | [], _, h => by cases h; rfl
  | a :: as, _, h => by
    cases h with
    | cons r rs => cases r; rw [refs_of rs]; rfl
/-- a name's list of lists -/
abbrev fz2V (i : Nat) (T : PF) : PF := fun Q st => ∃ (a : Addr) (ps : List (Addr × List V)), st.ρ i = some (.ref a) ∧ st.σ a = some (.list (ps.map fun p => V.ref p.1)) ∧ (∀ p ∈ ps, st.σ p.1 = some (.list p.2)) ∧ (ps.map (·.1)).Nodup ∧ a ∉ ps.map (·.1) ∧
  ∀ σ', St.Sub σ' st.σ → (∀ b, b ≠ a → b ∉ ps.map (·.1) → σ' b = st.σ b) → T Q (S.set ⟨σ', st.ρ⟩ i (.list (ps.map fun p => V.list p.2)))
theorem exs_fz2 {ss : List Stmt} {T : PF} {i : Nat} (h : Exs C ss T) : Exs C ss (fz2V i T) := h.ghost fun Q st F s k ⟨a, ps, hi, ha, hp, hn, hna, q⟩ => by
  obtain ⟨F₁, σ₁, q₁, h₁, h₂, h₃⟩ := freezeAll ps k.g hp hn
  obtain ⟨F₂, q₂, r⟩ := PostG.freeze q₁.simg ((h₁ a hna).trans ha)
  have z := Post.ofG k (q₁.trans q₂)
  refine ⟨F₂, S.set ⟨fun b => if b = a then none else σ₁ b, st.ρ⟩ i (.list (ps.map fun p => V.list p.2)), ⟨z.p, z.sim.reval (w := .list (ps.map fun p => V.list p.2)) hi fun u hu => ?_⟩, q _ (fun b x e => ?_) fun b hb hb' => (if_neg hb).trans (h₁ b hb')⟩
  · cases hu
    cases r with
    | list e rs =>
      have ev := refs_of (as := ps.map (·.1)) (by rw [List.map_map]; exact rs)
      subst ev
      rw [List.map_map] at e
      exact .list e (h₃.mono q₂.ext)
  · have e' : (if b = a then none else σ₁ b) = some x := e
    by_cases z : b = a
    · rw [if_pos z] at e'; cases e'
    · rw [if_neg z] at e'; exact h₂ b x e'

/-! ### != of bools -/
abbrev neBW (x y : V) (Q : Bool → S → Prop) (st : S) : Prop := ∃ a b, x = .bool a ∧ y = .bool b ∧ Q (a != b) st
theorem neB_ok (F : Fz) (x y : V) (a b : Value) (rx : R F x a) (ry : R F y b) : Imp C F RC (compareOp .NotEq a b) (neBW x y) := by
  rintro E Q st F' s hF k ⟨c, d, hx, hy, q⟩
  subst hx; subst hy
  cases rx; cases ry
  exact ne_dataH (.bool c) (.bool d) rfl rfl (by have := k.ok.units; omega) ⟨F', _, st, .refl k, by cases c <;> cases d <;> rfl, q⟩

theorem d_names {fd : FuncData} {L L' : Addr} {names : List (Str × Bool)} {onames : List Str} (h : ∀ p ∈ names, p.2 = false → p.1 ∈ onames) : ∀ z, Pl.d L' z ∈ names.map (plOf fd L) → z ∈ onames := fun z m => by
  obtain ⟨p, hp, e⟩ := List.mem_map.mp m
  unfold plOf at e
  cases hb : p.2 with
  | false => rw [hb] at e; injection e with _ e; rw [← e]; exact h p hp hb
  | true => rw [hb] at e; cases e
/-! ### lists of one's length, kw -/
theorem len0 {l : List Value} (h : l.length = 0) : l = [] := List.length_eq_zero_iff.mp h
theorem lenS {P : List Value → Prop} {n : Nat} (h : ∀ a l, l.length = n → P (a :: l)) (vs : List Value) (hv : vs.length = n + 1) : P vs := by
  cases vs with
  | nil => cases hv
  | cons a l => exact h a l (Nat.succ.inj hv)
theorem len1 {P : List Value → Prop} (h : ∀ a, P [a]) : ∀ vs : List Value, vs.length = 1 → P vs := lenS fun a _ hl => len0 hl ▸ h a
theorem len2 {P : List Value → Prop} (h : ∀ a b, P [a, b]) : ∀ vs : List Value, vs.length = 2 → P vs := lenS fun a => lenS fun b _ hl => len0 hl ▸ h a b
theorem len3 {P : List Value → Prop} (h : ∀ a b c, P [a, b, c]) : ∀ vs : List Value, vs.length = 3 → P vs := lenS fun a => lenS fun b => lenS fun c _ hl => len0 hl ▸ h a b c
theorem len4 {P : List Value → Prop} (h : ∀ a b c d, P [a, b, c, d]) : ∀ vs : List Value, vs.length = 4 → P vs := lenS fun a => lenS fun b => lenS fun c => lenS fun d _ hl => len0 hl ▸ h a b c d
theorem one_kw {F : Fz} {k : Str} {x : V} {kvs : List (Str × Value)} (hk : [k] = kvs.map (·.1)) (rk : RAll F [x] (kvs.map (·.2))) : ∃ u, kvs = [(k, u)] ∧ R F x u := by
  cases kvs with
  | nil => cases hk
  | cons kv kvs =>
    cases kvs with
    | cons _ _ => cases hk
    | nil => cases kv; cases hk; cases rk with | cons r _ => exact ⟨_, rfl, r⟩
theorem no_kw {kvs : List (Str × Value)} (hk : [] = kvs.map (·.1)) : kvs = [] := List.map_eq_nil_iff.mp hk.symm
end Mine

namespace Mine
open PySem PySem.W PyProof.Rows PySem.Calls
abbrev PW := PySem.Challenge.pw_oy0061_03
def defOf (i : Nat) : Stmt := PW.main.body.getD i (.Pass default)
def bodyOf : Stmt → List Stmt
  | .FunctionDef _ _ b _ _ _ _ _ _ _ => b
  | _ => []
def mkFd (pm cd df kd : Value) : Stmt → FuncData
  | .FunctionDef name args body _ _ _ scope _ _ _ => { name, qualname := name, params := args, body := .stmts body, scope, globals := mainGlobals, closure := [], defaults := df, kwdefaults := kd, pyModule := pm, code := cd, builtins := builtinsNs }
  | _ => default
def fd_heappush : FuncData := mkFd (.str (Str.ofString "cpy313.heapq") 194) (.ref 27) (.none) (.none) (defOf 2)
def fd_heappop : FuncData := mkFd (.str (Str.ofString "cpy313.heapq") 194) (.ref 34) (.none) (.none) (defOf 3)
def fd_heapify : FuncData := mkFd (.str (Str.ofString "cpy313.heapq") 194) (.ref 41) (.none) (.none) (defOf 4)
def fd__siftdown : FuncData := mkFd (.str (Str.ofString "cpy313.heapq") 194) (.ref 48) (.none) (.none) (defOf 5)
def fd__siftup : FuncData := mkFd (.str (Str.ofString "cpy313.heapq") 194) (.ref 55) (.none) (.none) (defOf 6)
def fd__bytes_from_decode_data : FuncData := mkFd (.str (Str.ofString "cpy313.base64") 247) (.ref 63) (.none) (.none) (defOf 9)
def fd__ascii_buffer : FuncData := mkFd (.str (Str.ofString "binascii") 257) (.ref 83) (.none) (.none) (defOf 12)
def fd__buffer : FuncData := mkFd (.str (Str.ofString "binascii") 257) (.ref 90) (.none) (.none) (defOf 13)
def fd__truth : FuncData := mkFd (.str (Str.ofString "binascii") 257) (.ref 97) (.none) (.none) (defOf 14)
def fd__b64_value : FuncData := mkFd (.str (Str.ofString "binascii") 257) (.ref 104) (.none) (.none) (defOf 16)
def fd_a2b_base64 : FuncData := mkFd (.str (Str.ofString "binascii") 257) (.ref 112) (.none) (.ref 106) (defOf 17)
def fd_b2a_base64 : FuncData := mkFd (.str (Str.ofString "binascii") 257) (.ref 120) (.none) (.ref 114) (defOf 18)
def fd_b64encode : FuncData := mkFd (.str (Str.ofString "cpy313.base64") 340) (.ref 128) (.ref 122) (.none) (defOf 20)
def fd_b64decode : FuncData := mkFd (.str (Str.ofString "cpy313.base64") 340) (.ref 136) (.ref 130) (.none) (defOf 21)
def fd__parse_varint : FuncData := mkFd (.str (Str.ofString "cpy313.dis") 360) (.ref 143) (.none) (.none) (defOf 23)
def fd__law_drawn : FuncData := mkFd (.str (Str.ofString "law_oy0061_03") 371) (.ref 148) (.none) (.none) (defOf 25)
def fd__law_octets : FuncData := mkFd (.str (Str.ofString "law_oy0061_03") 371) (.ref 155) (.none) (.none) (defOf 26)
def fd__law_entry : FuncData := mkFd (.str (Str.ofString "law_oy0061_03") 371) (.ref 162) (.none) (.none) (defOf 27)
def fd__law_label : FuncData := mkFd (.str (Str.ofString "law_oy0061_03") 371) (.ref 169) (.none) (.none) (defOf 28)
def fd__law_search : FuncData := mkFd (.str (Str.ofString "law_oy0061_03") 371) (.ref 174) (.none) (.none) (defOf 29)
def fd__law_labels : FuncData := mkFd (.str (Str.ofString "law_oy0061_03") 371) (.ref 179) (.none) (.none) (defOf 30)
def fd__law_told : FuncData := mkFd (.str (Str.ofString "law_oy0061_03") 371) (.ref 184) (.none) (.none) (defOf 31)
def fd__law_lengths : FuncData := mkFd (.str (Str.ofString "law_oy0061_03") 371) (.ref 189) (.none) (.none) (defOf 32)
def fd__law_due : FuncData := mkFd (.str (Str.ofString "law_oy0061_03") 371) (.ref 194) (.none) (.none) (defOf 33)
def fd_law : FuncData := mkFd (.str (Str.ofString "law_oy0061_03") 371) (.ref 199) (.none) (.none) (defOf 34)
structure GW (W : Wd) : Prop where
  g_len : GlobIs W.h₀ (Str.ofString "len") (.builtin "len")
  g__siftdown : GlobIs W.h₀ (Str.ofString "_siftdown") (.ref 49)
  g__siftup : GlobIs W.h₀ (Str.ofString "_siftup") (.ref 56)
  g_range : GlobIs W.h₀ (Str.ofString "range") (.type "range")
  g_reversed : GlobIs W.h₀ (Str.ofString "reversed") (.type "reversed")
  g_bytes_types : GlobIs W.h₀ (Str.ofString "bytes_types") (.ref 57)
  g_isinstance : GlobIs W.h₀ (Str.ofString "isinstance") (.builtin "isinstance")
  g_str : GlobIs W.h₀ (Str.ofString "str") (.type "str")
  g_bytearray : GlobIs W.h₀ (Str.ofString "bytearray") (.type "bytearray")
  g_bytes : GlobIs W.h₀ (Str.ofString "bytes") (.type "bytes")
  g_type : GlobIs W.h₀ (Str.ofString "type") (.type "type")
  g_frozenset : GlobIs W.h₀ (Str.ofString "frozenset") (.type "frozenset")
  g_set : GlobIs W.h₀ (Str.ofString "set") (.type "set")
  g_dict : GlobIs W.h₀ (Str.ofString "dict") (.type "dict")
  g_tuple : GlobIs W.h₀ (Str.ofString "tuple") (.type "tuple")
  g_list : GlobIs W.h₀ (Str.ofString "list") (.type "list")
  g_complex : GlobIs W.h₀ (Str.ofString "complex") (.type "complex")
  g_float : GlobIs W.h₀ (Str.ofString "float") (.type "float")
  g_int : GlobIs W.h₀ (Str.ofString "int") (.type "int")
  g_bool : GlobIs W.h₀ (Str.ofString "bool") (.type "bool")
  g__b64_value : GlobIs W.h₀ (Str.ofString "_b64_value") (.ref 105)
  g__truth : GlobIs W.h₀ (Str.ofString "_truth") (.ref 98)
  g__ascii_buffer : GlobIs W.h₀ (Str.ofString "_ascii_buffer") (.ref 84)
  g__B64 : GlobIs W.h₀ (Str.ofString "_B64") (b64V)
  g__buffer : GlobIs W.h₀ (Str.ofString "_buffer") (.ref 91)
  g_b2a_base64 : GlobIs W.h₀ (Str.ofString "b2a_base64") (.ref 121)
  g_a2b_base64 : GlobIs W.h₀ (Str.ofString "a2b_base64") (.ref 113)
  g__bytes_from_decode_data : GlobIs W.h₀ (Str.ofString "_bytes_from_decode_data") (.ref 64)
  g_next : GlobIs W.h₀ (Str.ofString "next") (.builtin "next")
  g_b64encode : GlobIs W.h₀ (Str.ofString "b64encode") (.ref 129)
  g__law_octets : GlobIs W.h₀ (Str.ofString "_law_octets") (.ref 156)
  g_b64decode : GlobIs W.h₀ (Str.ofString "b64decode") (.ref 137)
  g_iter : GlobIs W.h₀ (Str.ofString "iter") (.builtin "iter")
  g__parse_varint : GlobIs W.h₀ (Str.ofString "_parse_varint") (.ref 144)
  g_StopIteration : GlobIs W.h₀ (Str.ofString "StopIteration") (.type "StopIteration")
  g_heappush : GlobIs W.h₀ (Str.ofString "heappush") (.ref 28)
  g_heappop : GlobIs W.h₀ (Str.ofString "heappop") (.ref 35)
  g_heapify : GlobIs W.h₀ (Str.ofString "heapify") (.ref 42)
  g__law_label : GlobIs W.h₀ (Str.ofString "_law_label") (.ref 170)
  g__law_entry : GlobIs W.h₀ (Str.ofString "_law_entry") (.ref 163)
  g__law_search : GlobIs W.h₀ (Str.ofString "_law_search") (.ref 175)
  g_min : GlobIs W.h₀ (Str.ofString "min") (.builtin "min")
  g_sum : GlobIs W.h₀ (Str.ofString "sum") (.builtin "sum")
  g_sorted : GlobIs W.h₀ (Str.ofString "sorted") (.builtin "sorted")
  g__law_due : GlobIs W.h₀ (Str.ofString "_law_due") (.ref 195)
  g__law_told : GlobIs W.h₀ (Str.ofString "_law_told") (.ref 185)
  g__law_labels : GlobIs W.h₀ (Str.ofString "_law_labels") (.ref 180)
  g__law_lengths : GlobIs W.h₀ (Str.ofString "_law_lengths") (.ref 190)
  g__law_drawn : GlobIs W.h₀ (Str.ofString "_law_drawn") (.ref 149)
  f_heappush : FnAt W 28 fd_heappush
  f_heappop : FnAt W 35 fd_heappop
  f_heapify : FnAt W 42 fd_heapify
  f__siftdown : FnAt W 49 fd__siftdown
  f__siftup : FnAt W 56 fd__siftup
  f__bytes_from_decode_data : FnAt W 64 fd__bytes_from_decode_data
  f__ascii_buffer : FnAt W 84 fd__ascii_buffer
  f__buffer : FnAt W 91 fd__buffer
  f__truth : FnAt W 98 fd__truth
  f__b64_value : FnAt W 105 fd__b64_value
  f_a2b_base64 : FnAt W 113 fd_a2b_base64
  f_b2a_base64 : FnAt W 121 fd_b2a_base64
  f_b64encode : FnAt W 129 fd_b64encode
  f_b64decode : FnAt W 137 fd_b64decode
  f__parse_varint : FnAt W 144 fd__parse_varint
  f__law_drawn : FnAt W 149 fd__law_drawn
  f__law_octets : FnAt W 156 fd__law_octets
  f__law_entry : FnAt W 163 fd__law_entry
  f__law_label : FnAt W 170 fd__law_label
  f__law_search : FnAt W 175 fd__law_search
  f__law_labels : FnAt W 180 fd__law_labels
  f__law_told : FnAt W 185 fd__law_told
  f__law_lengths : FnAt W 190 fd__law_lengths
  f__law_due : FnAt W 195 fd__law_due
  f_law : FnAt W 200 fd_law
  h_bt : ∃ n, W.h₀.get? 57 = some (tupOf [.type "bytes", .type "bytearray"] n)
  h_d122 : ∃ n, W.h₀.get? 122 = some (tupOf [.none] n)
  h_d130 : ∃ n, W.h₀.get? 130 = some (tupOf [.none, .bool false] n)
abbrev tS_heappush (W : Wd) (j : Nat) : PF := (seqW (exprW (mtW (locW 0) (argS (locW 1) arg0) appendW))
  (seqW (exprW (cbW (argS (locW 0) (argS (cW (.int 0)) (argS (biW subW (cbW (argS (locW 0) arg0) lenW) (cW (.int 1))) arg0))) (callW W j 49)))
  nilW))
theorem iS_heappush {W : Wd} (G : GW W) (A : Around) (L : Addr) (j : Nat) : Exs (fnCx W A fd_heappush L 28 ([(Str.ofString "heap"), (Str.ofString "item")] ++ []) j) (bodyOf (defOf 2)) (tS_heappush W j) :=
  (exs_cons (ex_expr (ev_meth PySem.F.slot_list_append (by rfl) (ev_local (i := 0) rfl rfl rfl) (.cons rfl (ev_local (i := 1) rfl rfl rfl) .nil) append_ok))
  (exs_cons (ex_expr (ev_callF ⟨G.g__siftdown, rfl, rfl, rfl, rfl⟩ G.f__siftdown (.cons rfl (ev_local (i := 0) rfl rfl rfl) (.cons rfl ev_int (.cons rfl (ev_bin (ev_callB ⟨G.g_len, rfl, rfl, rfl, rfl⟩ (.cons rfl (ev_local (i := 0) rfl rfl rfl) .nil) len_ok) ev_int sub_ok) .nil))) rfl rfl))
  exs_nil))
theorem cS_heappush {W : Wd} (G : GW W) {j : Nat} {xs : List V} {Q : V → St → Prop} {σ : St} (hlen : xs.length = 2) (q : tS_heappush W j (retW Q) ⟨σ, fun i => xs[i]?⟩) : CallOK W (j + 1) 28 xs [] Q σ :=
  call_intro (params := [(Str.ofString "heap"), (Str.ofString "item")]) (names := []) G.f_heappush rfl (fun A L => iS_heappush G A L j) (len2 fun _ _ => rfl) (by decide +kernel) (by decide +kernel) (by decide +kernel) hlen q
abbrev tS_heappop (W : Wd) (j : Nat) : PF := (seqW (asgS (mtW (locW 0) arg0 popW) (setW 1))
  (seqW (ifS (valB (locW 0)) (seqW (asgS (itW (locW 0) (cW (.int 0))) (setW 2))
  (seqW (putS (locW 1) (locW 0) (cW (.int 0)))
  (seqW (exprW (cbW (argS (locW 0) (argS (cW (.int 0)) arg0)) (callW W j 56)))
  (seqW (retS (locW 2))
  nilW)))) nilW)
  (seqW (retS (locW 1))
  nilW)))
theorem iS_heappop {W : Wd} (G : GW W) (A : Around) (L : Addr) (j : Nat) : Exs (fnCx W A fd_heappop L 35 ([(Str.ofString "heap")] ++ [(Str.ofString "lastelt"), (Str.ofString "returnitem")]) j) (bodyOf (defOf 3)) (tS_heappop W j) :=
  (exs_cons (ex_assign (ev_meth PySem.F.slot_list_pop (by rfl) (ev_local (i := 0) rfl rfl rfl) .nil pop_ok) (asg_local (i := 1) rfl rfl))
  (exs_cons (ex_if (evT_val (ev_local (i := 0) rfl rfl rfl)) (exs_cons (ex_assign (ev_item (ev_local (i := 0) rfl rfl rfl) ev_int) (asg_local (i := 2) rfl rfl))
  (exs_cons (ex_put (ev_local (i := 1) rfl rfl rfl) (ev_local (i := 0) rfl rfl rfl) ev_int)
  (exs_cons (ex_expr (ev_callF ⟨G.g__siftup, rfl, rfl, rfl, rfl⟩ G.f__siftup (.cons rfl (ev_local (i := 0) rfl rfl rfl) (.cons rfl ev_int .nil)) rfl rfl))
  (exs_cons (ex_ret (ev_local (i := 2) rfl rfl rfl))
  exs_nil)))) exs_nil)
  (exs_cons (ex_ret (ev_local (i := 1) rfl rfl rfl))
  exs_nil)))
theorem cS_heappop {W : Wd} (G : GW W) {j : Nat} {xs : List V} {Q : V → St → Prop} {σ : St} (hlen : xs.length = 1) (q : tS_heappop W j (retW Q) ⟨σ, fun i => xs[i]?⟩) : CallOK W (j + 1) 35 xs [] Q σ :=
  call_intro (params := [(Str.ofString "heap")]) (names := [(Str.ofString "lastelt"), (Str.ofString "returnitem")]) G.f_heappop rfl (fun A L => iS_heappop G A L j) (len1 fun _ => rfl) (by decide +kernel) (by decide +kernel) (by decide +kernel) hlen q
abbrev tS_heapify (W : Wd) (j : Nat) : PF := (seqW (asgS (cbW (argS (locW 0) arg0) lenW) (setW 1))
  (seqW (forSW (cbW (argS (cbW (argS (biW fdivW (locW 1) (cW (.int 2))) arg0) rangeW) arg0) revW) (setW 2) (seqW (exprW (cbW (argS (locW 0) (argS (locW 2) arg0)) (callW W j 56)))
  nilW))
  nilW))
theorem iS_heapify {W : Wd} (G : GW W) (A : Around) (L : Addr) (j : Nat) : Exs (fnCx W A fd_heapify L 42 ([(Str.ofString "x")] ++ [(Str.ofString "n"), (Str.ofString "i")]) j) (bodyOf (defOf 4)) (tS_heapify W j) :=
  (exs_cons (ex_assign (ev_callB ⟨G.g_len, rfl, rfl, rfl, rfl⟩ (.cons rfl (ev_local (i := 0) rfl rfl rfl) .nil) len_ok) (asg_local (i := 1) rfl rfl))
  (exs_cons (ex_forS (ev_callT ⟨G.g_reversed, rfl, rfl, rfl, rfl⟩ (.cons rfl (ev_callT ⟨G.g_range, rfl, rfl, rfl, rfl⟩ (.cons rfl (ev_bin (ev_local (i := 1) rfl rfl rfl) ev_int fdiv_ok) .nil) range_ok) .nil) rev_ok) (asg_local (i := 2) rfl rfl) (exs_cons (ex_expr (ev_callF ⟨G.g__siftup, rfl, rfl, rfl, rfl⟩ G.f__siftup (.cons rfl (ev_local (i := 0) rfl rfl rfl) (.cons rfl (ev_local (i := 2) rfl rfl rfl) .nil)) rfl rfl))
  exs_nil))
  exs_nil))
theorem cS_heapify {W : Wd} (G : GW W) {j : Nat} {xs : List V} {Q : V → St → Prop} {σ : St} (hlen : xs.length = 1) (q : tS_heapify W j (retW Q) ⟨σ, fun i => xs[i]?⟩) : CallOK W (j + 1) 42 xs [] Q σ :=
  call_intro (params := [(Str.ofString "x")]) (names := [(Str.ofString "n"), (Str.ofString "i")]) G.f_heapify rfl (fun A L => iS_heapify G A L j) (len1 fun _ => rfl) (by decide +kernel) (by decide +kernel) (by decide +kernel) hlen q
abbrev tS__siftdown (W : Wd) (j : Nat) : PF := (seqW (asgS (itW (locW 0) (locW 2)) (setW 3))
  (seqW (whileW (cmW (icmpW fun i j => decide (j < i)) (locW 2) (locW 1)) (seqW (asgS (biW rshW (biW subW (locW 2) (cW (.int 1))) (cW (.int 1))) (setW 4))
  (seqW (asgS (itW (locW 0) (locW 4)) (setW 5))
  (seqW (ifS (cmW ltW (locW 3) (locW 5)) (seqW (putS (locW 5) (locW 0) (locW 2))
  (seqW (asgS (locW 4) (setW 2))
  (seqW contW
  nilW))) nilW)
  (seqW brkW
  nilW)))))
  (seqW (putS (locW 3) (locW 0) (locW 2))
  nilW)))
theorem iS__siftdown {W : Wd} (G : GW W) (A : Around) (L : Addr) (j : Nat) : Exs (fnCx W A fd__siftdown L 49 ([(Str.ofString "heap"), (Str.ofString "startpos"), (Str.ofString "pos")] ++ [(Str.ofString "newitem"), (Str.ofString "parentpos"), (Str.ofString "parent")]) j) (bodyOf (defOf 5)) (tS__siftdown W j) :=
  (exs_cons (ex_assign (ev_item (ev_local (i := 0) rfl rfl rfl) (ev_local (i := 2) rfl rfl rfl)) (asg_local (i := 3) rfl rfl))
  (exs_cons (ex_while (evT_cmp (ev_local (i := 2) rfl rfl rfl) (ev_local (i := 1) rfl rfl rfl) gt_ok rfl) (exs_cons (ex_assign (ev_bin (ev_bin (ev_local (i := 2) rfl rfl rfl) ev_int sub_ok) ev_int rsh_ok) (asg_local (i := 4) rfl rfl))
  (exs_cons (ex_assign (ev_item (ev_local (i := 0) rfl rfl rfl) (ev_local (i := 4) rfl rfl rfl)) (asg_local (i := 5) rfl rfl))
  (exs_cons (ex_if (evT_cmp (ev_local (i := 3) rfl rfl rfl) (ev_local (i := 5) rfl rfl rfl) lt_ok rfl) (exs_cons (ex_put (ev_local (i := 5) rfl rfl rfl) (ev_local (i := 0) rfl rfl rfl) (ev_local (i := 2) rfl rfl rfl))
  (exs_cons (ex_assign (ev_local (i := 4) rfl rfl rfl) (asg_local (i := 2) rfl rfl))
  (exs_cons ex_continue
  exs_nil))) exs_nil)
  (exs_cons ex_break
  exs_nil)))))
  (exs_cons (ex_put (ev_local (i := 3) rfl rfl rfl) (ev_local (i := 0) rfl rfl rfl) (ev_local (i := 2) rfl rfl rfl))
  exs_nil)))
theorem cS__siftdown {W : Wd} (G : GW W) {j : Nat} {xs : List V} {Q : V → St → Prop} {σ : St} (hlen : xs.length = 3) (q : tS__siftdown W j (retW Q) ⟨σ, fun i => xs[i]?⟩) : CallOK W (j + 1) 49 xs [] Q σ :=
  call_intro (params := [(Str.ofString "heap"), (Str.ofString "startpos"), (Str.ofString "pos")]) (names := [(Str.ofString "newitem"), (Str.ofString "parentpos"), (Str.ofString "parent")]) G.f__siftdown rfl (fun A L => iS__siftdown G A L j) (len3 fun _ _ _ => rfl) (by decide +kernel) (by decide +kernel) (by decide +kernel) hlen q
abbrev tS__siftup (W : Wd) (j : Nat) : PF := (seqW (asgS (cbW (argS (locW 0) arg0) lenW) (setW 2))
  (seqW (asgS (locW 1) (setW 3))
  (seqW (asgS (itW (locW 0) (locW 1)) (setW 4))
  (seqW (asgS (biW addW (biW mulW (cW (.int 2)) (locW 1)) (cW (.int 1))) (setW 5))
  (seqW (whileW (cmW ltW (locW 5) (locW 2)) (seqW (asgS (biW addW (locW 5) (cW (.int 1))) (setW 6))
  (seqW (ifS (andB (cmW ltW (locW 6) (locW 2)) (notB (cmW ltW (itW (locW 0) (locW 5)) (itW (locW 0) (locW 6))))) (seqW (asgS (locW 6) (setW 5))
  nilW) nilW)
  (seqW (putS (itW (locW 0) (locW 5)) (locW 0) (locW 1))
  (seqW (asgS (locW 5) (setW 1))
  (seqW (asgS (biW addW (biW mulW (cW (.int 2)) (locW 1)) (cW (.int 1))) (setW 5))
  nilW))))))
  (seqW (putS (locW 4) (locW 0) (locW 1))
  (seqW (exprW (cbW (argS (locW 0) (argS (locW 3) (argS (locW 1) arg0))) (callW W j 49)))
  nilW)))))))
theorem iS__siftup {W : Wd} (G : GW W) (A : Around) (L : Addr) (j : Nat) : Exs (fnCx W A fd__siftup L 56 ([(Str.ofString "heap"), (Str.ofString "pos")] ++ [(Str.ofString "endpos"), (Str.ofString "startpos"), (Str.ofString "newitem"), (Str.ofString "childpos"), (Str.ofString "rightpos")]) j) (bodyOf (defOf 6)) (tS__siftup W j) :=
  (exs_cons (ex_assign (ev_callB ⟨G.g_len, rfl, rfl, rfl, rfl⟩ (.cons rfl (ev_local (i := 0) rfl rfl rfl) .nil) len_ok) (asg_local (i := 2) rfl rfl))
  (exs_cons (ex_assign (ev_local (i := 1) rfl rfl rfl) (asg_local (i := 3) rfl rfl))
  (exs_cons (ex_assign (ev_item (ev_local (i := 0) rfl rfl rfl) (ev_local (i := 1) rfl rfl rfl)) (asg_local (i := 4) rfl rfl))
  (exs_cons (ex_assign (ev_bin (ev_bin ev_int (ev_local (i := 1) rfl rfl rfl) mul_ok) ev_int add_ok) (asg_local (i := 5) rfl rfl))
  (exs_cons (ex_while (evT_cmp (ev_local (i := 5) rfl rfl rfl) (ev_local (i := 2) rfl rfl rfl) lt_ok rfl) (exs_cons (ex_assign (ev_bin (ev_local (i := 5) rfl rfl rfl) ev_int add_ok) (asg_local (i := 6) rfl rfl))
  (exs_cons (ex_if (evT_and (evT_cmp (ev_local (i := 6) rfl rfl rfl) (ev_local (i := 2) rfl rfl rfl) lt_ok rfl) (evT_not (evT_cmp (ev_item (ev_local (i := 0) rfl rfl rfl) (ev_local (i := 5) rfl rfl rfl)) (ev_item (ev_local (i := 0) rfl rfl rfl) (ev_local (i := 6) rfl rfl rfl)) lt_ok rfl))) (exs_cons (ex_assign (ev_local (i := 6) rfl rfl rfl) (asg_local (i := 5) rfl rfl))
  exs_nil) exs_nil)
  (exs_cons (ex_put (ev_item (ev_local (i := 0) rfl rfl rfl) (ev_local (i := 5) rfl rfl rfl)) (ev_local (i := 0) rfl rfl rfl) (ev_local (i := 1) rfl rfl rfl))
  (exs_cons (ex_assign (ev_local (i := 5) rfl rfl rfl) (asg_local (i := 1) rfl rfl))
  (exs_cons (ex_assign (ev_bin (ev_bin ev_int (ev_local (i := 1) rfl rfl rfl) mul_ok) ev_int add_ok) (asg_local (i := 5) rfl rfl))
  exs_nil))))))
  (exs_cons (ex_put (ev_local (i := 4) rfl rfl rfl) (ev_local (i := 0) rfl rfl rfl) (ev_local (i := 1) rfl rfl rfl))
  (exs_cons (ex_expr (ev_callF ⟨G.g__siftdown, rfl, rfl, rfl, rfl⟩ G.f__siftdown (.cons rfl (ev_local (i := 0) rfl rfl rfl) (.cons rfl (ev_local (i := 3) rfl rfl rfl) (.cons rfl (ev_local (i := 1) rfl rfl rfl) .nil))) rfl rfl))
  exs_nil)))))))
theorem cS__siftup {W : Wd} (G : GW W) {j : Nat} {xs : List V} {Q : V → St → Prop} {σ : St} (hlen : xs.length = 2) (q : tS__siftup W j (retW Q) ⟨σ, fun i => xs[i]?⟩) : CallOK W (j + 1) 56 xs [] Q σ :=
  call_intro (params := [(Str.ofString "heap"), (Str.ofString "pos")]) (names := [(Str.ofString "endpos"), (Str.ofString "startpos"), (Str.ofString "newitem"), (Str.ofString "childpos"), (Str.ofString "rightpos")]) G.f__siftup rfl (fun A L => iS__siftup G A L j) (len2 fun _ _ => rfl) (by decide +kernel) (by decide +kernel) (by decide +kernel) hlen q
abbrev tS__bytes_from_decode_data (W : Wd) (j : Nat) : PF := (seqW (ifS (valB (cbW (argS (locW 0) (argS (cW (.raw (.type "str"))) arg0)) (isiW W))) (seqW noS
  nilW) nilW)
  (seqW (ifS (valB (cbW (argS (locW 0) (argS (cW (.raw (.ref 57))) arg0)) (isiW W))) (seqW (retS (locW 0))
  nilW) nilW)
  (seqW noS
  nilW)))
theorem iS__bytes_from_decode_data {W : Wd} (G : GW W) (A : Around) (L : Addr) (j : Nat) : Exs (fnCx W A fd__bytes_from_decode_data L 64 ([(Str.ofString "s")] ++ []) j) (bodyOf (defOf 9)) (tS__bytes_from_decode_data W j) :=
  (exs_cons (ex_if (evT_val (ev_callB ⟨G.g_isinstance, rfl, rfl, rfl, rfl⟩ (.cons rfl (ev_local (i := 0) rfl rfl rfl) (.cons rfl (ev_global (.raw _) G.g_str rfl rfl rfl rfl) .nil)) isi_ok)) (exs_cons imp_false
  exs_nil) exs_nil)
  (exs_cons (ex_if (evT_val (ev_callB ⟨G.g_isinstance, rfl, rfl, rfl, rfl⟩ (.cons rfl (ev_local (i := 0) rfl rfl rfl) (.cons rfl (ev_global (.raw _) G.g_bytes_types rfl rfl rfl rfl) .nil)) isi_ok)) (exs_cons (ex_ret (ev_local (i := 0) rfl rfl rfl))
  exs_nil) exs_nil)
  (exs_cons imp_false
  exs_nil)))
theorem cS__bytes_from_decode_data {W : Wd} (G : GW W) {j : Nat} {xs : List V} {Q : V → St → Prop} {σ : St} (hlen : xs.length = 1) (q : tS__bytes_from_decode_data W j (retW Q) ⟨σ, fun i => xs[i]?⟩) : CallOK W (j + 1) 64 xs [] Q σ :=
  call_intro (params := [(Str.ofString "s")]) (names := []) G.f__bytes_from_decode_data rfl (fun A L => iS__bytes_from_decode_data G A L j) (len1 fun _ => rfl) (by decide +kernel) (by decide +kernel) (by decide +kernel) hlen q
abbrev tS__ascii_buffer (W : Wd) (j : Nat) : PF := (seqW (asgS (cbW (argS (locW 0) arg0) typeW) (setW 1))
  (seqW (ifS (cmW isW (locW 1) (cW (.raw (.type "str")))) (seqW noS
  (seqW noS
  nilW)) nilW)
  (seqW (ifS (cmW isW (locW 1) (cW (.raw (.type "bytes")))) (seqW (retS (locW 0))
  nilW) nilW)
  (seqW (ifS (cmW isW (locW 1) (cW (.raw (.type "bytearray")))) (seqW (retS (cbW (argS (locW 0) arg0) bytesW))
  nilW) nilW)
  (seqW noS
  nilW)))))
theorem iS__ascii_buffer {W : Wd} (G : GW W) (A : Around) (L : Addr) (j : Nat) : Exs (fnCx W A fd__ascii_buffer L 84 ([(Str.ofString "data")] ++ [(Str.ofString "t")]) j) (bodyOf (defOf 12)) (tS__ascii_buffer W j) :=
  (exs_cons (ex_assign (ev_callT ⟨G.g_type, rfl, rfl, rfl, rfl⟩ (.cons rfl (ev_local (i := 0) rfl rfl rfl) .nil) type_ok) (asg_local (i := 1) rfl rfl))
  (exs_cons (ex_if (evT_cmp (ev_local (i := 1) rfl rfl rfl) (ev_global (.raw _) G.g_str rfl rfl rfl rfl) is_ok rfl) (exs_cons imp_false
  (exs_cons imp_false
  exs_nil)) exs_nil)
  (exs_cons (ex_if (evT_cmp (ev_local (i := 1) rfl rfl rfl) (ev_global (.raw _) G.g_bytes rfl rfl rfl rfl) is_ok rfl) (exs_cons (ex_ret (ev_local (i := 0) rfl rfl rfl))
  exs_nil) exs_nil)
  (exs_cons (ex_if (evT_cmp (ev_local (i := 1) rfl rfl rfl) (ev_global (.raw _) G.g_bytearray rfl rfl rfl rfl) is_ok rfl) (exs_cons (ex_ret (ev_callT ⟨G.g_bytes, rfl, rfl, rfl, rfl⟩ (.cons rfl (ev_local (i := 0) rfl rfl rfl) .nil) bytes_ok))
  exs_nil) exs_nil)
  (exs_cons imp_false
  exs_nil)))))
theorem cS__ascii_buffer {W : Wd} (G : GW W) {j : Nat} {xs : List V} {Q : V → St → Prop} {σ : St} (hlen : xs.length = 1) (q : tS__ascii_buffer W j (retW Q) ⟨σ, fun i => xs[i]?⟩) : CallOK W (j + 1) 84 xs [] Q σ :=
  call_intro (params := [(Str.ofString "data")]) (names := [(Str.ofString "t")]) G.f__ascii_buffer rfl (fun A L => iS__ascii_buffer G A L j) (len1 fun _ => rfl) (by decide +kernel) (by decide +kernel) (by decide +kernel) hlen q
abbrev tS__buffer (W : Wd) (j : Nat) : PF := (seqW (asgS (cbW (argS (locW 0) arg0) typeW) (setW 1))
  (seqW (ifS (cmW isW (locW 1) (cW (.raw (.type "bytes")))) (seqW (retS (locW 0))
  nilW) nilW)
  (seqW (ifS (cmW isW (locW 1) (cW (.raw (.type "bytearray")))) (seqW (retS (cbW (argS (locW 0) arg0) bytesW))
  nilW) nilW)
  (seqW noS
  nilW))))
theorem iS__buffer {W : Wd} (G : GW W) (A : Around) (L : Addr) (j : Nat) : Exs (fnCx W A fd__buffer L 91 ([(Str.ofString "data")] ++ [(Str.ofString "t")]) j) (bodyOf (defOf 13)) (tS__buffer W j) :=
  (exs_cons (ex_assign (ev_callT ⟨G.g_type, rfl, rfl, rfl, rfl⟩ (.cons rfl (ev_local (i := 0) rfl rfl rfl) .nil) type_ok) (asg_local (i := 1) rfl rfl))
  (exs_cons (ex_if (evT_cmp (ev_local (i := 1) rfl rfl rfl) (ev_global (.raw _) G.g_bytes rfl rfl rfl rfl) is_ok rfl) (exs_cons (ex_ret (ev_local (i := 0) rfl rfl rfl))
  exs_nil) exs_nil)
  (exs_cons (ex_if (evT_cmp (ev_local (i := 1) rfl rfl rfl) (ev_global (.raw _) G.g_bytearray rfl rfl rfl rfl) is_ok rfl) (exs_cons (ex_ret (ev_callT ⟨G.g_bytes, rfl, rfl, rfl, rfl⟩ (.cons rfl (ev_local (i := 0) rfl rfl rfl) .nil) bytes_ok))
  exs_nil) exs_nil)
  (exs_cons imp_false
  exs_nil))))
theorem cS__buffer {W : Wd} (G : GW W) {j : Nat} {xs : List V} {Q : V → St → Prop} {σ : St} (hlen : xs.length = 1) (q : tS__buffer W j (retW Q) ⟨σ, fun i => xs[i]?⟩) : CallOK W (j + 1) 91 xs [] Q σ :=
  call_intro (params := [(Str.ofString "data")]) (names := [(Str.ofString "t")]) G.f__buffer rfl (fun A L => iS__buffer G A L j) (len1 fun _ => rfl) (by decide +kernel) (by decide +kernel) (by decide +kernel) hlen q
abbrev tS__truth (W : Wd) (j : Nat) : PF := (seqW (asgS (cbW (argS (locW 0) arg0) typeW) (setW 1))
  (seqW (ifS (orB (cmW isW (locW 0) (cW .none)) (orB (cmW isW (locW 1) (cW (.raw (.type "bool")))) (orB (cmW isW (locW 1) (cW (.raw (.type "int")))) (orB (cmW isW (locW 1) (cW (.raw (.type "float")))) (orB (cmW isW (locW 1) (cW (.raw (.type "complex")))) (orB (cmW isW (locW 1) (cW (.raw (.type "str")))) (orB (cmW isW (locW 1) (cW (.raw (.type "bytes")))) (orB (cmW isW (locW 1) (cW (.raw (.type "bytearray")))) (orB (cmW isW (locW 1) (cW (.raw (.type "list")))) (orB (cmW isW (locW 1) (cW (.raw (.type "tuple")))) (orB (cmW isW (locW 1) (cW (.raw (.type "dict")))) (orB (cmW isW (locW 1) (cW (.raw (.type "set")))) (orB (cmW isW (locW 1) (cW (.raw (.type "frozenset")))) (orB (cmW isW (locW 1) (cW (.raw (.type "range")))) or0)))))))))))))) (seqW (retS (iteW (valB (locW 0)) (cW (.bool true)) (cW (.bool false))))
  nilW) nilW)
  (seqW noS
  nilW)))
theorem iS__truth {W : Wd} (G : GW W) (A : Around) (L : Addr) (j : Nat) : Exs (fnCx W A fd__truth L 98 ([(Str.ofString "x")] ++ [(Str.ofString "t")]) j) (bodyOf (defOf 14)) (tS__truth W j) :=
  (exs_cons (ex_assign (ev_callT ⟨G.g_type, rfl, rfl, rfl, rfl⟩ (.cons rfl (ev_local (i := 0) rfl rfl rfl) .nil) type_ok) (asg_local (i := 1) rfl rfl))
  (exs_cons (ex_if (evT_orN (.cons (evT_cmp (ev_local (i := 0) rfl rfl rfl) ev_none is_ok rfl) (.cons (evT_cmp (ev_local (i := 1) rfl rfl rfl) (ev_global (.raw _) G.g_bool rfl rfl rfl rfl) is_ok rfl) (.cons (evT_cmp (ev_local (i := 1) rfl rfl rfl) (ev_global (.raw _) G.g_int rfl rfl rfl rfl) is_ok rfl) (.cons (evT_cmp (ev_local (i := 1) rfl rfl rfl) (ev_global (.raw _) G.g_float rfl rfl rfl rfl) is_ok rfl) (.cons (evT_cmp (ev_local (i := 1) rfl rfl rfl) (ev_global (.raw _) G.g_complex rfl rfl rfl rfl) is_ok rfl) (.cons (evT_cmp (ev_local (i := 1) rfl rfl rfl) (ev_global (.raw _) G.g_str rfl rfl rfl rfl) is_ok rfl) (.cons (evT_cmp (ev_local (i := 1) rfl rfl rfl) (ev_global (.raw _) G.g_bytes rfl rfl rfl rfl) is_ok rfl) (.cons (evT_cmp (ev_local (i := 1) rfl rfl rfl) (ev_global (.raw _) G.g_bytearray rfl rfl rfl rfl) is_ok rfl) (.cons (evT_cmp (ev_local (i := 1) rfl rfl rfl) (ev_global (.raw _) G.g_list rfl rfl rfl rfl) is_ok rfl) (.cons (evT_cmp (ev_local (i := 1) rfl rfl rfl) (ev_global (.raw _) G.g_tuple rfl rfl rfl rfl) is_ok rfl) (.cons (evT_cmp (ev_local (i := 1) rfl rfl rfl) (ev_global (.raw _) G.g_dict rfl rfl rfl rfl) is_ok rfl) (.cons (evT_cmp (ev_local (i := 1) rfl rfl rfl) (ev_global (.raw _) G.g_set rfl rfl rfl rfl) is_ok rfl) (.cons (evT_cmp (ev_local (i := 1) rfl rfl rfl) (ev_global (.raw _) G.g_frozenset rfl rfl rfl rfl) is_ok rfl) (.cons (evT_cmp (ev_local (i := 1) rfl rfl rfl) (ev_global (.raw _) G.g_range rfl rfl rfl rfl) is_ok rfl) .nil))))))))))))))) (exs_cons (ex_ret (ev_ite (evT_val (ev_local (i := 0) rfl rfl rfl)) ev_bool ev_bool))
  exs_nil) exs_nil)
  (exs_cons imp_false
  exs_nil)))
theorem cS__truth {W : Wd} (G : GW W) {j : Nat} {xs : List V} {Q : V → St → Prop} {σ : St} (hlen : xs.length = 1) (q : tS__truth W j (retW Q) ⟨σ, fun i => xs[i]?⟩) : CallOK W (j + 1) 98 xs [] Q σ :=
  call_intro (params := [(Str.ofString "x")]) (names := [(Str.ofString "t")]) G.f__truth rfl (fun A L => iS__truth G A L j) (len1 fun _ => rfl) (by decide +kernel) (by decide +kernel) (by decide +kernel) hlen q
abbrev tS__b64_value (W : Wd) (j : Nat) : PF := (seqW (ifS (c2W (icmpW fun i j => decide (i ≤ j)) (icmpW fun i j => decide (i ≤ j)) (cW (.int 65)) (locW 0) (cW (.int 90))) (seqW (retS (biW subW (locW 0) (cW (.int 65))))
  nilW) nilW)
  (seqW (ifS (c2W (icmpW fun i j => decide (i ≤ j)) (icmpW fun i j => decide (i ≤ j)) (cW (.int 97)) (locW 0) (cW (.int 122))) (seqW (retS (biW subW (locW 0) (cW (.int 71))))
  nilW) nilW)
  (seqW (ifS (c2W (icmpW fun i j => decide (i ≤ j)) (icmpW fun i j => decide (i ≤ j)) (cW (.int 48)) (locW 0) (cW (.int 57))) (seqW (retS (biW addW (locW 0) (cW (.int 4))))
  nilW) nilW)
  (seqW (ifS (cmW eqW (locW 0) (cW (.int 43))) (seqW (retS (cW (.int 62)))
  nilW) nilW)
  (seqW (ifS (cmW eqW (locW 0) (cW (.int 47))) (seqW (retS (cW (.int 63)))
  nilW) nilW)
  (seqW (retS (cW (.int 64)))
  nilW))))))
theorem iS__b64_value {W : Wd} (G : GW W) (A : Around) (L : Addr) (j : Nat) : Exs (fnCx W A fd__b64_value L 105 ([(Str.ofString "c")] ++ []) j) (bodyOf (defOf 16)) (tS__b64_value W j) :=
  (exs_cons (ex_if (evT_cmp2 ev_int (ev_local (i := 0) rfl rfl rfl) ev_int le_ok le_ok rfl) (exs_cons (ex_ret (ev_bin (ev_local (i := 0) rfl rfl rfl) ev_int sub_ok))
  exs_nil) exs_nil)
  (exs_cons (ex_if (evT_cmp2 ev_int (ev_local (i := 0) rfl rfl rfl) ev_int le_ok le_ok rfl) (exs_cons (ex_ret (ev_bin (ev_local (i := 0) rfl rfl rfl) ev_int sub_ok))
  exs_nil) exs_nil)
  (exs_cons (ex_if (evT_cmp2 ev_int (ev_local (i := 0) rfl rfl rfl) ev_int le_ok le_ok rfl) (exs_cons (ex_ret (ev_bin (ev_local (i := 0) rfl rfl rfl) ev_int add_ok))
  exs_nil) exs_nil)
  (exs_cons (ex_if (evT_cmp (ev_local (i := 0) rfl rfl rfl) ev_int eq_ok rfl) (exs_cons (ex_ret ev_int)
  exs_nil) exs_nil)
  (exs_cons (ex_if (evT_cmp (ev_local (i := 0) rfl rfl rfl) ev_int eq_ok rfl) (exs_cons (ex_ret ev_int)
  exs_nil) exs_nil)
  (exs_cons (ex_ret ev_int)
  exs_nil))))))
theorem cS__b64_value {W : Wd} (G : GW W) {j : Nat} {xs : List V} {Q : V → St → Prop} {σ : St} (hlen : xs.length = 1) (q : tS__b64_value W j (retW Q) ⟨σ, fun i => xs[i]?⟩) : CallOK W (j + 1) 105 xs [] Q σ :=
  call_intro (params := [(Str.ofString "c")]) (names := []) G.f__b64_value rfl (fun A L => iS__b64_value G A L j) (len1 fun _ => rfl) (by decide +kernel) (by decide +kernel) (by decide +kernel) hlen q
abbrev tS_a2b_base64 (W : Wd) (j : Nat) : PF := (seqW (asgS (cbW (argS (locW 0) arg0) (callW W j 84)) (setW 2))
  (seqW (asgS (cbW (argS (locW 1) arg0) (callW W j 98)) (setW 1))
  (seqW (asgS (lsW arg0) (setW 3))
  (seqW (asgS (cW (.int 0)) (setW 4))
  (seqW (asgS (cW (.int 0)) (setW 5))
  (seqW (asgS (cW (.int 0)) (setW 6))
  (seqW (asgS (cW (.int 0)) (setW 7))
  (seqW (forW (locW 2) (setW 8) (seqW (ifS (cmW eqW (locW 8) (cW (.int 61))) (seqW (asgS (biW addW (locW 6) (cW (.int 1))) (setW 6))
  (seqW (ifS (andB (cmW (icmpW fun i j => decide (j ≤ i)) (locW 4) (cW (.int 2))) (cmW (icmpW fun i j => decide (i ≤ j)) (biW addW (locW 4) (locW 6)) (cW (.int 4)))) (seqW (asgS (biW addW (locW 7) (cW (.int 1))) (setW 7))
  (seqW contW
  nilW)) nilW)
  (seqW (ifS (notB (valB (locW 1))) (seqW (asgS (biW addW (locW 7) (cW (.int 1))) (setW 7))
  (seqW contW
  nilW)) nilW)
  (seqW (ifS (cmW eqW (locW 4) (cW (.int 1))) (seqW brkW
  nilW) nilW)
  (seqW (ifS (andB (cmW eqW (locW 4) (cW (.int 0))) (cmW eqW (locW 7) (cW (.int 0)))) (seqW noS
  nilW) nilW)
  (seqW noS
  nilW)))))) nilW)
  (seqW (asgS (cbW (argS (locW 8) arg0) (callW W j 105)) (setW 8))
  (seqW (ifS (cmW (icmpW fun i j => decide (j ≤ i)) (locW 8) (cW (.int 64))) (seqW (ifS (valB (locW 1)) (seqW noS
  nilW) nilW)
  (seqW (asgS (biW addW (locW 7) (cW (.int 1))) (setW 7))
  (seqW contW
  nilW))) nilW)
  (seqW (ifS (andB (valB (locW 6)) (valB (locW 1))) (seqW (ifS (cmW eqW (biW addW (locW 4) (locW 6)) (cW (.int 4))) (seqW noS
  nilW) nilW)
  (seqW noS
  nilW)) nilW)
  (seqW (asgS (cW (.int 0)) (setW 6))
  (seqW (ifS (cmW eqW (locW 4) (cW (.int 0))) (seqW (asgS (cW (.int 1)) (setW 4))
  (seqW (asgS (locW 8) (setW 5))
  nilW)) (seqW (ifS (cmW eqW (locW 4) (cW (.int 1))) (seqW (asgS (cW (.int 2)) (setW 4))
  (seqW (exprW (mtW (locW 3) (argS (biW orW (biW lshW (locW 5) (cW (.int 2))) (biW rshW (locW 8) (cW (.int 4)))) arg0) appendW))
  (seqW (asgS (biW andW (locW 8) (cW (.int 15))) (setW 5))
  nilW))) (seqW (ifS (cmW eqW (locW 4) (cW (.int 2))) (seqW (asgS (cW (.int 3)) (setW 4))
  (seqW (exprW (mtW (locW 3) (argS (biW orW (biW lshW (locW 5) (cW (.int 4))) (biW rshW (locW 8) (cW (.int 2)))) arg0) appendW))
  (seqW (asgS (biW andW (locW 8) (cW (.int 3))) (setW 5))
  nilW))) (seqW (asgS (cW (.int 0)) (setW 4))
  (seqW (exprW (mtW (locW 3) (argS (biW orW (biW lshW (locW 5) (cW (.int 6))) (locW 8)) arg0) appendW))
  (seqW (asgS (cW (.int 0)) (setW 5))
  nilW))))
  nilW))
  nilW))
  (seqW (asgS (biW addW (locW 7) (cW (.int 1))) (setW 7))
  nilW))))))))
  (seqW (ifS (cmW eqW (locW 4) (cW (.int 1))) (seqW noS
  nilW) nilW)
  (seqW (ifS (andB (cmW neW (locW 4) (cW (.int 0))) (cmW ltW (biW addW (locW 4) (locW 6)) (cW (.int 4)))) (seqW noS
  nilW) nilW)
  (seqW (retS (cbW (argS (locW 3) arg0) bytesW))
  nilW)))))))))))
theorem iS_a2b_base64 {W : Wd} (G : GW W) (A : Around) (L : Addr) (j : Nat) : Exs (fnCx W A fd_a2b_base64 L 113 ([(Str.ofString "data"), (Str.ofString "strict_mode")] ++ [(Str.ofString "ascii_data"), (Str.ofString "out"), (Str.ofString "quad_pos"), (Str.ofString "leftchar"), (Str.ofString "pads"), (Str.ofString "i"), (Str.ofString "this_ch")]) j) (bodyOf (defOf 17)) (tS_a2b_base64 W j) :=
  (exs_cons (ex_assign (ev_callF ⟨G.g__ascii_buffer, rfl, rfl, rfl, rfl⟩ G.f__ascii_buffer (.cons rfl (ev_local (i := 0) rfl rfl rfl) .nil) rfl rfl) (asg_local (i := 2) rfl rfl))
  (exs_cons (ex_assign (ev_callF ⟨G.g__truth, rfl, rfl, rfl, rfl⟩ G.f__truth (.cons rfl (ev_local (i := 1) rfl rfl rfl) .nil) rfl rfl) (asg_local (i := 1) rfl rfl))
  (exs_cons (ex_assign (ev_list .nil) (asg_local (i := 3) rfl rfl))
  (exs_cons (ex_assign ev_int (asg_local (i := 4) rfl rfl))
  (exs_cons (ex_assign ev_int (asg_local (i := 5) rfl rfl))
  (exs_cons (ex_assign ev_int (asg_local (i := 6) rfl rfl))
  (exs_cons (ex_assign ev_int (asg_local (i := 7) rfl rfl))
  (exs_cons (ex_for (ev_local (i := 2) rfl rfl rfl) (asg_local (i := 8) rfl rfl) (exs_cons (ex_if (evT_cmp (ev_local (i := 8) rfl rfl rfl) ev_int eq_ok rfl) (exs_cons (ex_assign (ev_bin (ev_local (i := 6) rfl rfl rfl) ev_int add_ok) (asg_local (i := 6) rfl rfl))
  (exs_cons (ex_if (evT_and (evT_cmp (ev_local (i := 4) rfl rfl rfl) ev_int ge_ok rfl) (evT_cmp (ev_bin (ev_local (i := 4) rfl rfl rfl) (ev_local (i := 6) rfl rfl rfl) add_ok) ev_int le_ok rfl)) (exs_cons (ex_assign (ev_bin (ev_local (i := 7) rfl rfl rfl) ev_int add_ok) (asg_local (i := 7) rfl rfl))
  (exs_cons ex_continue
  exs_nil)) exs_nil)
  (exs_cons (ex_if (evT_not (evT_val (ev_local (i := 1) rfl rfl rfl))) (exs_cons (ex_assign (ev_bin (ev_local (i := 7) rfl rfl rfl) ev_int add_ok) (asg_local (i := 7) rfl rfl))
  (exs_cons ex_continue
  exs_nil)) exs_nil)
  (exs_cons (ex_if (evT_cmp (ev_local (i := 4) rfl rfl rfl) ev_int eq_ok rfl) (exs_cons ex_break
  exs_nil) exs_nil)
  (exs_cons (ex_if (evT_and (evT_cmp (ev_local (i := 4) rfl rfl rfl) ev_int eq_ok rfl) (evT_cmp (ev_local (i := 7) rfl rfl rfl) ev_int eq_ok rfl)) (exs_cons imp_false
  exs_nil) exs_nil)
  (exs_cons imp_false
  exs_nil)))))) exs_nil)
  (exs_cons (ex_assign (ev_callF ⟨G.g__b64_value, rfl, rfl, rfl, rfl⟩ G.f__b64_value (.cons rfl (ev_local (i := 8) rfl rfl rfl) .nil) rfl rfl) (asg_local (i := 8) rfl rfl))
  (exs_cons (ex_if (evT_cmp (ev_local (i := 8) rfl rfl rfl) ev_int ge_ok rfl) (exs_cons (ex_if (evT_val (ev_local (i := 1) rfl rfl rfl)) (exs_cons imp_false
  exs_nil) exs_nil)
  (exs_cons (ex_assign (ev_bin (ev_local (i := 7) rfl rfl rfl) ev_int add_ok) (asg_local (i := 7) rfl rfl))
  (exs_cons ex_continue
  exs_nil))) exs_nil)
  (exs_cons (ex_if (evT_and (evT_val (ev_local (i := 6) rfl rfl rfl)) (evT_val (ev_local (i := 1) rfl rfl rfl))) (exs_cons (ex_if (evT_cmp (ev_bin (ev_local (i := 4) rfl rfl rfl) (ev_local (i := 6) rfl rfl rfl) add_ok) ev_int eq_ok rfl) (exs_cons imp_false
  exs_nil) exs_nil)
  (exs_cons imp_false
  exs_nil)) exs_nil)
  (exs_cons (ex_assign ev_int (asg_local (i := 6) rfl rfl))
  (exs_cons (ex_if (evT_cmp (ev_local (i := 4) rfl rfl rfl) ev_int eq_ok rfl) (exs_cons (ex_assign ev_int (asg_local (i := 4) rfl rfl))
  (exs_cons (ex_assign (ev_local (i := 8) rfl rfl rfl) (asg_local (i := 5) rfl rfl))
  exs_nil)) (exs_cons (ex_if (evT_cmp (ev_local (i := 4) rfl rfl rfl) ev_int eq_ok rfl) (exs_cons (ex_assign ev_int (asg_local (i := 4) rfl rfl))
  (exs_cons (ex_expr (ev_meth PySem.F.slot_list_append (by rfl) (ev_local (i := 3) rfl rfl rfl) (.cons rfl (ev_bin (ev_bin (ev_local (i := 5) rfl rfl rfl) ev_int lsh_ok) (ev_bin (ev_local (i := 8) rfl rfl rfl) ev_int rsh_ok) or_ok) .nil) append_ok))
  (exs_cons (ex_assign (ev_bin (ev_local (i := 8) rfl rfl rfl) ev_int and_ok) (asg_local (i := 5) rfl rfl))
  exs_nil))) (exs_cons (ex_if (evT_cmp (ev_local (i := 4) rfl rfl rfl) ev_int eq_ok rfl) (exs_cons (ex_assign ev_int (asg_local (i := 4) rfl rfl))
  (exs_cons (ex_expr (ev_meth PySem.F.slot_list_append (by rfl) (ev_local (i := 3) rfl rfl rfl) (.cons rfl (ev_bin (ev_bin (ev_local (i := 5) rfl rfl rfl) ev_int lsh_ok) (ev_bin (ev_local (i := 8) rfl rfl rfl) ev_int rsh_ok) or_ok) .nil) append_ok))
  (exs_cons (ex_assign (ev_bin (ev_local (i := 8) rfl rfl rfl) ev_int and_ok) (asg_local (i := 5) rfl rfl))
  exs_nil))) (exs_cons (ex_assign ev_int (asg_local (i := 4) rfl rfl))
  (exs_cons (ex_expr (ev_meth PySem.F.slot_list_append (by rfl) (ev_local (i := 3) rfl rfl rfl) (.cons rfl (ev_bin (ev_bin (ev_local (i := 5) rfl rfl rfl) ev_int lsh_ok) (ev_local (i := 8) rfl rfl rfl) or_ok) .nil) append_ok))
  (exs_cons (ex_assign ev_int (asg_local (i := 5) rfl rfl))
  exs_nil))))
  exs_nil))
  exs_nil))
  (exs_cons (ex_assign (ev_bin (ev_local (i := 7) rfl rfl rfl) ev_int add_ok) (asg_local (i := 7) rfl rfl))
  exs_nil))))))))
  (exs_cons (ex_if (evT_cmp (ev_local (i := 4) rfl rfl rfl) ev_int eq_ok rfl) (exs_cons imp_false
  exs_nil) exs_nil)
  (exs_cons (ex_if (evT_and (evT_cmp (ev_local (i := 4) rfl rfl rfl) ev_int ne_ok rfl) (evT_cmp (ev_bin (ev_local (i := 4) rfl rfl rfl) (ev_local (i := 6) rfl rfl rfl) add_ok) ev_int lt_ok rfl)) (exs_cons imp_false
  exs_nil) exs_nil)
  (exs_cons (ex_ret (ev_callT ⟨G.g_bytes, rfl, rfl, rfl, rfl⟩ (.cons rfl (ev_local (i := 3) rfl rfl rfl) .nil) bytes_ok))
  exs_nil)))))))))))
abbrev tS_b2a_base64 (W : Wd) (j : Nat) : PF := (seqW (asgS (cbW (argS (locW 0) arg0) (callW W j 91)) (setW 2))
  (seqW (asgS (cbW (argS (locW 1) arg0) (callW W j 98)) (setW 1))
  (seqW (asgS (lsW arg0) (setW 3))
  (seqW (asgS (cW (.int 0)) (setW 4))
  (seqW (asgS (cW (.int 0)) (setW 5))
  (seqW (forW (locW 2) (setW 6) (seqW (asgS (biW andW (biW orW (biW lshW (locW 5) (cW (.int 8))) (locW 6)) (cW (.int 65535))) (setW 5))
  (seqW (asgS (biW addW (locW 4) (cW (.int 8))) (setW 4))
  (seqW (whileW (cmW (icmpW fun i j => decide (j ≤ i)) (locW 4) (cW (.int 6))) (seqW (exprW (mtW (locW 3) (argS (itW (cW (.bytes b64L)) (biW andW (biW rshW (locW 5) (biW subW (locW 4) (cW (.int 6)))) (cW (.int 63)))) arg0) appendW))
  (seqW (asgS (biW subW (locW 4) (cW (.int 6))) (setW 4))
  nilW)))
  nilW))))
  (seqW (ifS (cmW eqW (locW 4) (cW (.int 2))) (seqW (exprW (mtW (locW 3) (argS (itW (cW (.bytes b64L)) (biW lshW (biW andW (locW 5) (cW (.int 3))) (cW (.int 4)))) arg0) appendW))
  (seqW (exprW (mtW (locW 3) (argS (cW (.int 61)) arg0) appendW))
  (seqW (exprW (mtW (locW 3) (argS (cW (.int 61)) arg0) appendW))
  nilW))) (seqW (ifS (cmW eqW (locW 4) (cW (.int 4))) (seqW (exprW (mtW (locW 3) (argS (itW (cW (.bytes b64L)) (biW lshW (biW andW (locW 5) (cW (.int 15))) (cW (.int 2)))) arg0) appendW))
  (seqW (exprW (mtW (locW 3) (argS (cW (.int 61)) arg0) appendW))
  nilW)) nilW)
  nilW))
  (seqW (ifS (valB (locW 1)) (seqW (exprW (mtW (locW 3) (argS (cW (.int 10)) arg0) appendW))
  nilW) nilW)
  (seqW (retS (cbW (argS (locW 3) arg0) bytesW))
  nilW)))))))))
theorem iS_b2a_base64 {W : Wd} (G : GW W) (A : Around) (L : Addr) (j : Nat) : Exs (fnCx W A fd_b2a_base64 L 121 ([(Str.ofString "data"), (Str.ofString "newline")] ++ [(Str.ofString "bin_data"), (Str.ofString "out"), (Str.ofString "leftbits"), (Str.ofString "leftchar"), (Str.ofString "b")]) j) (bodyOf (defOf 18)) (tS_b2a_base64 W j) :=
  (exs_cons (ex_assign (ev_callF ⟨G.g__buffer, rfl, rfl, rfl, rfl⟩ G.f__buffer (.cons rfl (ev_local (i := 0) rfl rfl rfl) .nil) rfl rfl) (asg_local (i := 2) rfl rfl))
  (exs_cons (ex_assign (ev_callF ⟨G.g__truth, rfl, rfl, rfl, rfl⟩ G.f__truth (.cons rfl (ev_local (i := 1) rfl rfl rfl) .nil) rfl rfl) (asg_local (i := 1) rfl rfl))
  (exs_cons (ex_assign (ev_list .nil) (asg_local (i := 3) rfl rfl))
  (exs_cons (ex_assign ev_int (asg_local (i := 4) rfl rfl))
  (exs_cons (ex_assign ev_int (asg_local (i := 5) rfl rfl))
  (exs_cons (ex_for (ev_local (i := 2) rfl rfl rfl) (asg_local (i := 6) rfl rfl) (exs_cons (ex_assign (ev_bin (ev_bin (ev_bin (ev_local (i := 5) rfl rfl rfl) ev_int lsh_ok) (ev_local (i := 6) rfl rfl rfl) or_ok) ev_int and_ok) (asg_local (i := 5) rfl rfl))
  (exs_cons (ex_assign (ev_bin (ev_local (i := 4) rfl rfl rfl) ev_int add_ok) (asg_local (i := 4) rfl rfl))
  (exs_cons (ex_while (evT_cmp (ev_local (i := 4) rfl rfl rfl) ev_int ge_ok rfl) (exs_cons (ex_expr (ev_meth PySem.F.slot_list_append (by rfl) (ev_local (i := 3) rfl rfl rfl) (.cons rfl (ev_item (ev_global b64R G.g__B64 rfl rfl rfl rfl) (ev_bin (ev_bin (ev_local (i := 5) rfl rfl rfl) (ev_bin (ev_local (i := 4) rfl rfl rfl) ev_int sub_ok) rsh_ok) ev_int and_ok)) .nil) append_ok))
  (exs_cons (ex_assign (ev_bin (ev_local (i := 4) rfl rfl rfl) ev_int sub_ok) (asg_local (i := 4) rfl rfl))
  exs_nil)))
  exs_nil))))
  (exs_cons (ex_if (evT_cmp (ev_local (i := 4) rfl rfl rfl) ev_int eq_ok rfl) (exs_cons (ex_expr (ev_meth PySem.F.slot_list_append (by rfl) (ev_local (i := 3) rfl rfl rfl) (.cons rfl (ev_item (ev_global b64R G.g__B64 rfl rfl rfl rfl) (ev_bin (ev_bin (ev_local (i := 5) rfl rfl rfl) ev_int and_ok) ev_int lsh_ok)) .nil) append_ok))
  (exs_cons (ex_expr (ev_meth PySem.F.slot_list_append (by rfl) (ev_local (i := 3) rfl rfl rfl) (.cons rfl ev_int .nil) append_ok))
  (exs_cons (ex_expr (ev_meth PySem.F.slot_list_append (by rfl) (ev_local (i := 3) rfl rfl rfl) (.cons rfl ev_int .nil) append_ok))
  exs_nil))) (exs_cons (ex_if (evT_cmp (ev_local (i := 4) rfl rfl rfl) ev_int eq_ok rfl) (exs_cons (ex_expr (ev_meth PySem.F.slot_list_append (by rfl) (ev_local (i := 3) rfl rfl rfl) (.cons rfl (ev_item (ev_global b64R G.g__B64 rfl rfl rfl rfl) (ev_bin (ev_bin (ev_local (i := 5) rfl rfl rfl) ev_int and_ok) ev_int lsh_ok)) .nil) append_ok))
  (exs_cons (ex_expr (ev_meth PySem.F.slot_list_append (by rfl) (ev_local (i := 3) rfl rfl rfl) (.cons rfl ev_int .nil) append_ok))
  exs_nil)) exs_nil)
  exs_nil))
  (exs_cons (ex_if (evT_val (ev_local (i := 1) rfl rfl rfl)) (exs_cons (ex_expr (ev_meth PySem.F.slot_list_append (by rfl) (ev_local (i := 3) rfl rfl rfl) (.cons rfl ev_int .nil) append_ok))
  exs_nil) exs_nil)
  (exs_cons (ex_ret (ev_callT ⟨G.g_bytes, rfl, rfl, rfl, rfl⟩ (.cons rfl (ev_local (i := 3) rfl rfl rfl) .nil) bytes_ok))
  exs_nil)))))))))
abbrev tS_b64encode (W : Wd) (j : Nat) : PF := (seqW (asgS (ckW W j 121 [(Str.ofString "newline")] (argS (locW 0) arg0) (argS (cW (.bool false)) arg0)) (setW 2))
  (seqW (ifS (cmW isNotW (locW 1) (cW .none)) (seqW noS
  (seqW noS
  nilW)) nilW)
  (seqW (retS (locW 2))
  nilW)))
theorem iS_b64encode {W : Wd} (G : GW W) (A : Around) (L : Addr) (j : Nat) : Exs (fnCx W A fd_b64encode L 129 ([(Str.ofString "s"), (Str.ofString "altchars")] ++ [(Str.ofString "encoded")]) j) (bodyOf (defOf 20)) (tS_b64encode W j) :=
  (exs_cons (ex_assign (ev_callK ⟨G.g_b2a_base64, rfl, rfl, rfl, rfl⟩ G.f_b2a_base64 (.cons rfl (ev_local (i := 0) rfl rfl rfl) .nil) (.cons ev_bool .nil) rfl rfl) (asg_local (i := 2) rfl rfl))
  (exs_cons (ex_if (evT_cmp (ev_local (i := 1) rfl rfl rfl) ev_none isNot_ok rfl) (exs_cons imp_false
  (exs_cons imp_false
  exs_nil)) exs_nil)
  (exs_cons (ex_ret (ev_local (i := 2) rfl rfl rfl))
  exs_nil)))
abbrev tS_b64decode (W : Wd) (j : Nat) : PF := (seqW (asgS (cbW (argS (locW 0) arg0) (callW W j 64)) (setW 0))
  (seqW (ifS (cmW isNotW (locW 1) (cW .none)) (seqW (asgS (cbW (argS (locW 1) arg0) (callW W j 64)) (setW 1))
  (seqW noS
  (seqW noS
  nilW))) nilW)
  (seqW (retS (ckW W j 113 [(Str.ofString "strict_mode")] (argS (locW 0) arg0) (argS (locW 2) arg0)))
  nilW)))
theorem iS_b64decode {W : Wd} (G : GW W) (A : Around) (L : Addr) (j : Nat) : Exs (fnCx W A fd_b64decode L 137 ([(Str.ofString "s"), (Str.ofString "altchars"), (Str.ofString "validate")] ++ []) j) (bodyOf (defOf 21)) (tS_b64decode W j) :=
  (exs_cons (ex_assign (ev_callF ⟨G.g__bytes_from_decode_data, rfl, rfl, rfl, rfl⟩ G.f__bytes_from_decode_data (.cons rfl (ev_local (i := 0) rfl rfl rfl) .nil) rfl rfl) (asg_local (i := 0) rfl rfl))
  (exs_cons (ex_if (evT_cmp (ev_local (i := 1) rfl rfl rfl) ev_none isNot_ok rfl) (exs_cons (ex_assign (ev_callF ⟨G.g__bytes_from_decode_data, rfl, rfl, rfl, rfl⟩ G.f__bytes_from_decode_data (.cons rfl (ev_local (i := 1) rfl rfl rfl) .nil) rfl rfl) (asg_local (i := 1) rfl rfl))
  (exs_cons imp_false
  (exs_cons imp_false
  exs_nil))) exs_nil)
  (exs_cons (ex_ret (ev_callK ⟨G.g_a2b_base64, rfl, rfl, rfl, rfl⟩ G.f_a2b_base64 (.cons rfl (ev_local (i := 0) rfl rfl rfl) .nil) (.cons (ev_local (i := 2) rfl rfl rfl) .nil) rfl rfl))
  exs_nil)))
theorem stop__parse_varint {W : Wd} (G : GW W) {j : Nat} : StopAt W (j + 1) 144 := fun A E Z F σ s w bs base outer hA g hw hfr hst hff hbw h =>
  call_stop (y := (Str.ofString "b")) (x := (Str.ofString "iterator")) (nx := (Str.ofString "next")) (names := [(Str.ofString "b"), (Str.ofString "val")]) (lev := j) (base := base) (outer := outer) (w := w) (bs := bs) G.f__parse_varint rfl (len1 fun _ => rfl) (by decide +kernel) (by decide +kernel) (by decide +kernel) rfl rfl rfl (fun _ => rfl) rfl (fun A L => ⟨G.g_next, rfl, rfl, rfl, rfl⟩) (fun _ => rfl) (fun _ => rfl) hA g hw hfr hst hff hbw h
abbrev tS__parse_varint (W : Wd) (j : Nat) : PF := (seqW (asgS (cbW (argS (locW 0) arg0) nextW) (setW 1))
  (seqW (asgS (biW andW (locW 1) (cW (.int 63))) (setW 2))
  (seqW (whileW (valB (biW andW (locW 1) (cW (.int 64)))) (seqW (augS 2 (cW (.int 6)) lshW)
  (seqW (asgS (cbW (argS (locW 0) arg0) nextW) (setW 1))
  (seqW (augS 2 (biW andW (locW 1) (cW (.int 63))) orW)
  nilW))))
  (seqW (retS (locW 2))
  nilW))))
theorem iS__parse_varint {W : Wd} (G : GW W) (A : Around) (L : Addr) (j : Nat) : Exs (fnCx W A fd__parse_varint L 144 ([(Str.ofString "iterator")] ++ [(Str.ofString "b"), (Str.ofString "val")]) j) (bodyOf (defOf 23)) (tS__parse_varint W j) :=
  (exs_cons (ex_assign (ev_callB ⟨G.g_next, rfl, rfl, rfl, rfl⟩ (.cons rfl (ev_local (i := 0) rfl rfl rfl) .nil) next_ok) (asg_local (i := 1) rfl rfl))
  (exs_cons (ex_assign (ev_bin (ev_local (i := 1) rfl rfl rfl) ev_int and_ok) (asg_local (i := 2) rfl rfl))
  (exs_cons (ex_while (evT_val (ev_bin (ev_local (i := 1) rfl rfl rfl) ev_int and_ok)) (exs_cons (ex_aug (i := 2) rfl rfl ev_int ilsh_ok)
  (exs_cons (ex_assign (ev_callB ⟨G.g_next, rfl, rfl, rfl, rfl⟩ (.cons rfl (ev_local (i := 0) rfl rfl rfl) .nil) next_ok) (asg_local (i := 1) rfl rfl))
  (exs_cons (ex_aug (i := 2) rfl rfl (ev_bin (ev_local (i := 1) rfl rfl rfl) ev_int and_ok) ior_ok)
  exs_nil))))
  (exs_cons (ex_ret (ev_local (i := 2) rfl rfl rfl))
  exs_nil))))
theorem cS__parse_varint {W : Wd} (G : GW W) {j : Nat} {xs : List V} {Q : V → St → Prop} {σ : St} (hlen : xs.length = 1) (q : tS__parse_varint W j (retW Q) ⟨σ, fun i => xs[i]?⟩) : CallOK W (j + 1) 144 xs [] Q σ :=
  call_intro (params := [(Str.ofString "iterator")]) (names := [(Str.ofString "b"), (Str.ofString "val")]) G.f__parse_varint rfl (fun A L => iS__parse_varint G A L j) (len1 fun _ => rfl) (by decide +kernel) (by decide +kernel) (by decide +kernel) hlen q
end Mine

namespace Mine
theorem set2_perm {α : Type} {v : List α} {p c : Nat} {x y : α} (hp : v[p]? = some x) (hc : v[c]? = some y) : ((v.set p y).set c x).Perm v := by
  obtain ⟨h1, e1⟩ := List.getElem?_eq_some_iff.mp hp
  obtain ⟨h2, e2⟩ := List.getElem?_eq_some_iff.mp hc
  have := List.set_set_perm h1 h2
  rw [e1, e2] at this
  exact this

def par (i : Nat) : Nat := (i - 1) / 2
inductive Desc (s : Nat) : Nat → Prop
  | refl : Desc s s
  | step {p : Nat} : 0 < p → Desc s (par p) → Desc s p
theorem par_lt {p : Nat} (h : 0 < p) : par p < p := by unfold par; omega
theorem Desc.le {s p : Nat} (h : Desc s p) : s ≤ p := by
  induction h with
  | refl => exact Nat.le_refl _
  | @step p h _ ih => have := par_lt h; omega
theorem Desc.up {s p : Nat} (h : Desc s p) (hp : s < p) : Desc s (par p) := by
  cases h with
  | refl => omega
  | step _ h => exact h
theorem Desc.zero : ∀ p, Desc 0 p := fun p => by
  induction p using Nat.strongRecOn with
  | ind p ih =>
    by_cases h : p = 0
    · subst h; exact .refl
    · exact .step (by omega) (ih _ (par_lt (by omega)))

variable {α : Type} (le : α → α → Prop)
def Edge (v : List α) (i : Nat) : Prop := ∀ x y, v[par i]? = some x → v[i]? = some y → le x y
def HeapFrom (s : Nat) (v : List α) : Prop := ∀ i, 0 < i → s ≤ par i → Edge le v i
def Hole (s p : Nat) (v : List α) : Prop := (∀ i, 0 < i → s ≤ par i → i ≠ p → Edge le v i) ∧ (∀ i, 0 < i → par i = p → s < p → ∀ x y, v[par p]? = some x → v[i]? = some y → le x y)
def Hole1 (s p : Nat) (v : List α) : Prop := (∀ i, 0 < i → s ≤ par i → i ≠ p → par i ≠ p → Edge le v i) ∧ (∀ i, 0 < i → par i = p → s < p → ∀ x y, v[par p]? = some x → v[i]? = some y → le x y)

variable {le}
theorem set2_get {v : List α} {p c : Nat} {x y z : α} {i : Nat} (h : ((v.set p y).set c x)[i]? = some z) : (i = c ∧ z = x) ∨ (i ≠ c ∧ i = p ∧ z = y) ∨ (i ≠ c ∧ i ≠ p ∧ v[i]? = some z) := by
  rw [List.getElem?_set] at h
  split at h
  · rename_i e
    split at h
    · simp at h; exact .inl ⟨e.symm, h.symm⟩
    · cases h
  · rename_i hc
    rw [List.getElem?_set] at h
    split at h
    · rename_i e
      split at h
      · simp at h; exact .inr (.inl ⟨fun z => hc z.symm, e.symm, h.symm⟩)
      · cases h
    · rename_i hp; exact .inr (.inr ⟨fun z => hc z.symm, fun z => hp z.symm, h⟩)
theorem Hole.step (tr : ∀ a b c, le a b → le b c → le a c) {s p : Nat} {v : List α} {x y : α} (h : Hole le s p v) (hd : Desc s p) (hp : s < p) (hx : v[p]? = some x) (hy : v[par p]? = some y) (hl : le x y) : Hole le s (par p) ((v.set p y).set (par p) x) := by
  have hpp := par_lt (show 0 < p by omega)
  have hsp := (hd.up hp).le
  constructor
  · intro i hi hs hne a b ha hb
    rcases set2_get ha with ⟨e, rfl⟩ | ⟨_, e, rfl⟩ | ⟨n1, n2, ea⟩
    · -- parent is par p
      rcases set2_get hb with ⟨e', rfl⟩ | ⟨_, e', rfl⟩ | ⟨m1, m2, eb⟩
      · exact absurd e' hne
      · exact hl
      · exact tr _ _ _ hl (h.1 i hi hs m2 y b (by rw [e]; exact hy) eb)
    · -- parent is p
      rcases set2_get hb with ⟨e', rfl⟩ | ⟨_, e', rfl⟩ | ⟨m1, m2, eb⟩
      · exact absurd e' hne
      · have := par_lt hi; omega
      · exact h.2 i hi e hp _ b hy eb
    · rcases set2_get hb with ⟨e', rfl⟩ | ⟨_, e', rfl⟩ | ⟨m1, m2, eb⟩
      · exact absurd e' hne
      · exact absurd (by rw [e']) n1
      · exact h.1 i hi hs m2 a b ea eb
  · intro i hi he hsp' a b ha hb
    have hq : 0 < par p := by omega
    have hqq := par_lt hq
    rcases set2_get ha with ⟨e, rfl⟩ | ⟨_, e, rfl⟩ | ⟨n1, n2, ea⟩
    · omega
    · omega
    · have e1 : le a y := h.1 (par p) hq ((hd.up hp).up hsp').le (by omega) a y ea hy
      rcases set2_get hb with ⟨e', rfl⟩ | ⟨_, e', rfl⟩ | ⟨m1, m2, eb⟩
      · have := par_lt hi; omega
      · exact e1
      · exact tr _ _ _ e1 (h.1 i hi (by omega) m2 y b (by rw [he]; exact hy) eb)
theorem Hole.done0 {s : Nat} {v : List α} (h : Hole le s s v) : HeapFrom le s v := fun i hi hs => h.1 i hi hs (by have := par_lt hi; omega)
theorem Hole.done {s p : Nat} {v : List α} {x y : α} (h : Hole le s p v) (hx : v[p]? = some x) (hy : v[par p]? = some y) (hl : le y x) : HeapFrom le s v := fun i hi hs a b ha hb => by
  by_cases e : i = p
  · subst e
    rw [hx] at hb; rw [hy] at ha; cases ha; cases hb; exact hl
  · exact h.1 i hi hs e a b ha hb
theorem Hole1.init {s : Nat} {v : List α} (h : HeapFrom le (s + 1) v) : Hole1 le s s v := ⟨fun i hi hs _ hn => h i hi (by omega), fun _ _ _ hs => absurd hs (Nat.lt_irrefl _)⟩
theorem Hole1.step {s p c : Nat} {v : List α} {x y : α} (h : Hole1 le s p v) (hsp : s ≤ p) (hc : 0 < c) (hpc : par c = p) (hx : v[p]? = some x) (hy : v[c]? = some y) (hmin : ∀ i, 0 < i → par i = p → ∀ z, v[i]? = some z → le y z) : Hole1 le s c ((v.set p y).set c x) := by
  have hlt := par_lt hc
  constructor
  · intro i hi hs hne hpn a b ha hb
    rcases set2_get ha with ⟨e, rfl⟩ | ⟨_, e, rfl⟩ | ⟨n1, n2, ea⟩
    · exact absurd e hpn
    · rcases set2_get hb with ⟨e', rfl⟩ | ⟨_, e', rfl⟩ | ⟨m1, m2, eb⟩
      · exact absurd e' hne
      · have := par_lt hi; omega
      · exact hmin i hi e b eb
    · rcases set2_get hb with ⟨e', rfl⟩ | ⟨_, e', rfl⟩ | ⟨m1, m2, eb⟩
      · exact absurd e' hne
      · subst e'
        have := par_lt hi
        exact h.2 c hc hpc (by omega) a _ ea hy
      · exact h.1 i hi hs m2 n2 a b ea eb
  · intro i hi he hsc a b ha hb
    rw [hpc] at ha
    rcases set2_get ha with ⟨e, rfl⟩ | ⟨_, e, rfl⟩ | ⟨n1, n2, ea⟩
    · omega
    · have := par_lt hi
      rcases set2_get hb with ⟨e', rfl⟩ | ⟨_, e', rfl⟩ | ⟨m1, m2, eb⟩
      · omega
      · omega
      · exact h.1 i hi (by omega) m2 (by omega) _ b (by rw [he]; exact hy) eb
    · exact absurd rfl n2
theorem Hole1.leaf {s p : Nat} {v : List α} (h : Hole1 le s p v) (hl : v.length ≤ 2 * p + 1) : Hole le s p v := by
  refine ⟨fun i hi hs hne a b ha hb => ?_, h.2⟩
  by_cases e : par i = p
  · have : i < v.length := (List.getElem?_eq_some_iff.mp hb).1
    unfold par at e; omega
  · exact h.1 i hi hs hne e a b ha hb
theorem HeapFrom.min (rf : ∀ a, le a a) (tr : ∀ a b c, le a b → le b c → le a c) {v : List α} (h : HeapFrom le 0 v) {x : α} (hx : v[0]? = some x) : ∀ (i : Nat) (y : α), v[i]? = some y → le x y := fun i => by
  induction i using Nat.strongRecOn with
  | ind i ih =>
    intro y hy
    by_cases hi : i = 0
    · subst hi; rw [hx] at hy; cases hy; exact rf _
    · have hp := par_lt (show 0 < i by omega)
      have hl : par i < v.length := by have := (List.getElem?_eq_some_iff.mp hy).1; omega
      exact tr _ _ _ (ih _ hp _ (List.getElem?_eq_getElem hl)) (h i (by omega) (Nat.zero_le _) _ _ (List.getElem?_eq_getElem hl) hy)
theorem HeapFrom.big {s : Nat} {v : List α} (h : v.length ≤ 2 * s + 1) : HeapFrom le s v := fun i hi hs a b ha hb => by
  have : i < v.length := (List.getElem?_eq_some_iff.mp hb).1
  unfold par at hs; omega
/-- an item behind a heap -/
theorem Hole.push {v : List α} (h : HeapFrom le 0 v) (x : α) : Hole le 0 v.length (v ++ [x]) := by
  constructor
  · intro i hi _ hne a b ha hb
    have hl := (List.getElem?_eq_some_iff.mp hb).1
    simp at hl
    have hp := par_lt hi
    rw [List.getElem?_append_left (by omega)] at ha hb
    exact h i hi (Nat.zero_le _) a b ha hb
  · intro i hi he _ a b _ hb
    have hl := (List.getElem?_eq_some_iff.mp hb).1
    simp at hl
    have hp := par_lt hi
    omega
/-- the last item is laid at the head -/
theorem HeapFrom.pop {v : List α} {y z : α} (h : HeapFrom le 0 (v ++ [z])) : HeapFrom le 1 (v.set 0 y) := fun i hi hs a b ha hb => by
  have hl := (List.getElem?_eq_some_iff.mp hb).1
  simp at hl
  have hp := par_lt hi
  rw [List.getElem?_set_ne (by omega)] at ha hb
  exact h i hi (Nat.zero_le _) a b (by rw [List.getElem?_append_left (by omega)]; exact ha) (by rw [List.getElem?_append_left (by omega)]; exact hb)
end Mine

namespace Mine
open PySem PySem.W PyProof.Rows PySem.Calls

def hv (hs : List (List Int)) : List V := hs.map tv
def upd (σ : St) (a : Addr) (x : AO) : St := fun b => if b = a then some x else σ b
theorem upd_at {σ : St} {a : Addr} {x : AO} : upd σ a x a = some x := if_pos rfl
theorem upd_upd {σ : St} {a : Addr} {x y : AO} : upd (upd σ a x) a y = upd σ a y := by
  funext b; unfold upd; by_cases h : b = a <;> simp [h]
theorem upd_self {σ : St} {a : Addr} {x : AO} (h : σ a = some x) : upd σ a x = σ := by
  funext b; unfold upd; by_cases e : b = a
  · rw [if_pos e, e, h]
  · rw [if_neg e]
theorem hv_set {hs : List (List Int)} {k : Nat} {x : List Int} : (hv hs).set k (tv x) = hv (hs.set k x) := by unfold hv; rw [List.map_set]
theorem hv_len {hs : List (List Int)} : (hv hs).length = hs.length := List.length_map _
theorem hv_get {hs : List (List Int)} {k : Nat} {x : List Int} (h : hs[k]? = some x) : (hv hs)[k]? = some (tv x) := by unfold hv; rw [List.getElem?_map, h]; rfl

theorem ifF {b : Bool} {P Q : S → Prop} {st : S} (h1 : b = true → P st) (h2 : b = false → Q st) : (if b = true then P else Q) st := by
  cases b with
  | true => exact h1 rfl
  | false => exact h2 rfl
theorem ifP {b : Bool} {P Q : Prop} (h1 : b = true → P) (h2 : b = false → Q) : if b = true then P else Q := by
  cases b with
  | true => exact h1 rfl
  | false => exact h2 rfl
theorem getW_list {st : S} {a : Addr} {xs : List V} {k : Nat} {z : V} {Q : V → S → Prop} (h : st.σ a = some (.list xs)) (hk : xs[k]? = some z) (hb : k < 1000000) (q : Q z st) : getW (.ref a) (.int (k : Nat)) Q st :=
  .inl ⟨xs, by simp [getL, h], by omega, by omega, z, by simpa using hk, q⟩
theorem putW_list {st : S} {a : Addr} {xs : List V} {k : Nat} {z : V} {K : S → Prop} (h : st.σ a = some (.list xs)) (hk : k < xs.length) (hb : k < 1000000) (q : K (st.put a (.list (xs.set k z)))) : putW (.ref a) (.int (k : Nat)) z K st :=
  ⟨a, k, rfl, rfl, .inl ⟨xs, h, by omega, by omega, by simpa using hk, by simpa using q⟩⟩
theorem ltW_tv {st : S} {x y : List Int} {Q : Bool → S → Prop} (hl : x.length = y.length) (q : Q (lexLt x y) st) : ltW (tv x) (tv y) Q st := ⟨x, y, intsOf_map _, intsOf_map _, hl, q⟩

variable {st : S} {Q : V → S → Prop} {i j : Int}
theorem subI (r : Int) (hr : i - j = r) (q : Q (.int r) st) : subW (.int i) (.int j) Q st := ⟨i, j, rfl, rfl, trivial, by subst hr; exact q⟩
theorem addI (r : Int) (hr : i + j = r) (q : Q (.int r) st) : addW (.int i) (.int j) Q st := by subst hr; exact q
theorem mulI (r : Int) (hi : -(2 ^ 62) < i ∧ i < 2 ^ 62) (hr : i * j = r) (q : Q (.int r) st) : mulW (.int i) (.int j) Q st := by subst hr; exact ⟨hi, q⟩
theorem fdivI (r : Int) (hj : 0 < j ∧ j < 1073741824) (hr : i / j = r) (q : Q (.int r) st) : fdivW (.int i) (.int j) Q st := ⟨i, j, rfl, rfl, hj, by subst hr; exact q⟩
theorem modI (r : Int) (hj : 0 < j) (hr : i % j = r) (q : Q (.int r) st) : modW (.int i) (.int j) Q st := ⟨i, j, rfl, rfl, hj, by subst hr; exact q⟩
theorem rshI (r : Int) (hj : 0 ≤ j) (hr : i / 2 ^ j.toNat = r) (q : Q (.int r) st) : rshW (.int i) (.int j) Q st := ⟨i, j, rfl, rfl, hj, by subst hr; exact q⟩
theorem lshI (r : Int) (hj : 0 ≤ j ∧ j ≤ 1000 ∧ i.natAbs < 2 ^ 64) (hr : i * 2 ^ j.toNat = r) (q : Q (.int r) st) : lshW (.int i) (.int j) Q st := ⟨i, j, rfl, rfl, hj, by subst hr; exact q⟩
theorem powI (r : Int) (hj : (i = 2 ∨ i = 3) ∧ 0 ≤ j ∧ j ≤ 1000) (hr : i ^ j.toNat = r) (q : Q (.int r) st) : powW (.int i) (.int j) Q st := ⟨i, j, rfl, rfl, hj, by subst hr; exact q⟩
theorem andI (r : Int) (hr : Builtin.bitAnd i j = r) (q : Q (.int r) st) : andW (.int i) (.int j) Q st := ⟨i, j, rfl, rfl, trivial, by subst hr; exact q⟩
theorem orI (r : Int) (hr : Builtin.bitOr i j = r) (q : Q (.int r) st) : orW (.int i) (.int j) Q st := ⟨i, j, rfl, rfl, trivial, by subst hr; exact q⟩
abbrev HS (m : Nat) (hs : List (List Int)) : Prop := ∀ h ∈ hs, h.length = m
theorem HS.set {m : Nat} {hs : List (List Int)} {k : Nat} {x : List Int} (h : HS m hs) (hx : x.length = m) : HS m (hs.set k x) := fun y hy => by
  rcases List.mem_or_eq_of_mem_set hy with h' | rfl
  · exact h y h'
  · exact hx
theorem HS.get {m : Nat} {hs : List (List Int)} {k : Nat} {x : List Int} (h : HS m hs) (hx : hs[k]? = some x) : x.length = m := h x (List.mem_of_getElem? hx)

/-! ### _siftdown -/
abbrev sdT : PB := cmW (icmpW fun i j => decide (j < i)) (locW 2) (locW 1)
abbrev sdB : PF := seqW (asgS (biW rshW (biW subW (locW 2) (cW (.int 1))) (cW (.int 1))) (setW 4))
  (seqW (asgS (itW (locW 0) (locW 4)) (setW 5))
  (seqW (ifS (cmW ltW (locW 3) (locW 5)) (seqW (putS (locW 5) (locW 0) (locW 2))
  (seqW (asgS (locW 4) (setW 2))
  (seqW contW
  nilW))) nilW)
  (seqW brkW
  nilW)))
theorem par_int {p : Nat} (h : 0 < p) : ((p : Int) - 1) / 2 ^ (1 : Int).toNat = ((par p : Nat) : Int) := by
  unfold par
  have : (2 : Int) ^ (1 : Int).toNat = 2 := rfl
  rw [this]; omega
theorem sd_loop {a : Addr} {σ₀ : St} {s m : Nat} {x : List Int} {Q : Fl → S → Prop} (hx : x.length = m) : ∀ (n p : Nat) (hs : List (List Int)) (st : S), p < n → st.ρ 0 = some (.ref a) → st.ρ 1 = some (.int s) → st.ρ 2 = some (.int p) → st.ρ 3 = some (tv x) →
    st.σ = upd σ₀ a (.list (hv hs)) → HS m hs → hs.length ≤ 1000000 → p < hs.length → Desc s p → Hole leL s p (hs.set p x) →
    (∀ (st' : S) (p' : Nat) (hs' : List (List Int)), st'.ρ 0 = some (.ref a) → st'.ρ 2 = some (.int p') → st'.ρ 3 = some (tv x) → st'.σ = upd σ₀ a (.list (hv hs')) → p' < hs'.length → HeapFrom leL s (hs'.set p' x) → (hs'.set p' x).Perm (hs.set p x) → hs'.length = hs.length → Q .next st') →
    whileN sdT sdB Q n st := by
  intro n
  induction n with
  | zero => intros; omega
  | succ n ih =>
    intro p hs st hpn h0 h1 h2 h3 hσ hm hbig hp hd hh K
    refine ⟨_, h2, _, h1, _, _, rfl, rfl, ?_⟩
    refine ifP (fun hb => ?_) (fun hb => ?_)
    · have hsp : s < p := by simpa using hb
      have hpl := par_lt (show 0 < p by omega)
      obtain ⟨y, hy⟩ : ∃ y, hs[par p]? = some y := ⟨_, List.getElem?_eq_getElem (by omega)⟩
      have hvp : (hs.set p x)[p]? = some x := by rw [List.getElem?_set_self hp]
      have hvy : (hs.set p x)[par p]? = some y := by rw [List.getElem?_set_ne (by omega)]; exact hy
      refine ⟨_, h2, subI ((p : Int) - 1) rfl (rshI (par p) (by decide) (par_int (by omega)) ?_)⟩
      refine ⟨_, h0, _, rfl, _, rfl, getW_list (by show st.σ a = _; rw [hσ]; exact upd_at) (hv_get hy) (by omega) ?_⟩
      refine ⟨_, h3, _, rfl, ltW_tv (by rw [hx, hm.get hy]) ?_⟩
      refine ifF (fun hb => ?_) (fun hb => ?_)
      · refine ⟨_, rfl, _, h0, _, h2, putW_list (by show st.σ a = _; rw [hσ]; exact upd_at) (by rw [hv_len]; exact hp) (by omega) ?_⟩
        refine ⟨_, rfl, ?_⟩
        refine ih (par p) (hs.set p y) _ (by omega) h0 h1 rfl h3 ?_ (hm.set (hm.get hy)) (by simpa using hbig) (by simp; omega) (hd.up hsp) ?_ ?_
        · show upd st.σ a _ = _
          rw [hσ, upd_upd, hv_set]
        · have := hh.step lex_trans hd hsp hvp hvy (lex_lt_le hb)
          simpa using this
        · intro st' p' hs' e0 e2 e3 e4 e5 e6 e7 e8
          refine K st' p' hs' e0 e2 e3 e4 e5 e6 (e7.trans ?_) (by simpa using e8)
          have := set2_perm hvp hvy
          simpa using this
      · exact K _ p hs h0 h2 h3 hσ hp (hh.done hvp hvy hb) (.refl _) rfl
    · have hps : p = s := by have := hd.le; have : ¬ s < p := (by simpa using hb); omega
      subst hps
      exact K st p hs h0 h2 h3 hσ hp hh.done0 (.refl _) rfl
theorem c_siftdown {W : Wd} (G : GW W) {j : Nat} {a : Addr} {s p m : Nat} {hs : List (List Int)} {x : List Int} {σ : St} {Q : V → St → Prop} (ha : σ a = some (.list (hv hs))) (hm : HS m hs) (hbig : hs.length ≤ 1000000) (hx : hs[p]? = some x) (hd : Desc s p) (hh : Hole leL s p hs)
    (q : ∀ hs', hs'.Perm hs → HeapFrom leL s hs' → Q .none (upd σ a (.list (hv hs')))) : CallOK W (j + 1) 49 [.ref a, .int s, .int p] [] Q σ := by
  have hp := (List.getElem?_eq_some_iff.mp hx).1
  have hxs : hs.set p x = hs := by
    obtain ⟨h, e⟩ := List.getElem?_eq_some_iff.mp hx
    rw [← e]; exact List.set_getElem_self h
  refine cS__siftdown G rfl ?_
  refine ⟨_, rfl, _, rfl, _, rfl, getW_list ha (hv_get hx) (by omega) ?_⟩
  refine ⟨p + 1, ?_⟩
  refine sd_loop (a := a) (σ₀ := σ) (s := s) (m := m) (x := x) (hm.get hx) (p + 1) p hs _ (by omega) rfl rfl rfl rfl (upd_self ha).symm hm hbig hp hd (by rw [hxs]; exact hh) ?_
  intro st' p' hs' e0 e2 e3 e4 e5 e6 e7 e8
  refine ⟨_, e3, _, e0, _, e2, putW_list (by rw [e4]; exact upd_at) (by rw [hv_len]; exact e5) (by omega) ?_⟩
  refine ⟨_, fun _ _ h => h, ?_⟩
  show Q .none (upd st'.σ a _)
  rw [e4, upd_upd, hv_set]
  rw [hxs] at e7
  exact q _ e7 e6
end Mine

namespace Mine
open PySem PySem.W PyProof.Rows PySem.Calls

theorem ltI {st : S} {i j : Int} {Q : Bool → S → Prop} (q : Q (decide (i < j)) st) : ltW (.int i) (.int j) Q st := q
abbrev suT : PB := cmW ltW (locW 5) (locW 2)
abbrev suTail : PF := seqW (putS (itW (locW 0) (locW 5)) (locW 0) (locW 1))
  (seqW (asgS (locW 5) (setW 1))
  (seqW (asgS (biW addW (biW mulW (cW (.int 2)) (locW 1)) (cW (.int 1))) (setW 5))
  nilW))
abbrev suB : PF := seqW (asgS (biW addW (locW 5) (cW (.int 1))) (setW 6))
  (seqW (ifS (andB (cmW ltW (locW 6) (locW 2)) (notB (cmW ltW (itW (locW 0) (locW 5)) (itW (locW 0) (locW 6))))) (seqW (asgS (locW 6) (setW 5))
  nilW) nilW) suTail)
theorem su_loop {a : Addr} {σ₀ : St} {s m : Nat} {x : List Int} {Q : Fl → S → Prop} (hx : x.length = m) : ∀ (n p : Nat) (hs : List (List Int)) (st : S), hs.length ≤ n + p → st.ρ 0 = some (.ref a) → st.ρ 1 = some (.int p) → st.ρ 2 = some (.int hs.length) → st.ρ 3 = some (.int s) → st.ρ 4 = some (tv x) →
    st.ρ 5 = some (.int (2 * p + 1 : Nat)) → st.σ = upd σ₀ a (.list (hv hs)) → HS m hs → hs.length ≤ 1000000 → p < hs.length → Desc s p → Hole1 leL s p (hs.set p x) →
    (∀ (st' : S) (p' : Nat) (hs' : List (List Int)), st'.ρ 0 = some (.ref a) → st'.ρ 1 = some (.int p') → st'.ρ 3 = some (.int s) → st'.ρ 4 = some (tv x) → st'.σ = upd σ₀ a (.list (hv hs')) → p' < hs'.length → Desc s p' → Hole leL s p' (hs'.set p' x) → (hs'.set p' x).Perm (hs.set p x) → hs'.length = hs.length → HS m hs' → Q .next st') →
    whileN suT suB Q (n + 1) st := by
  intro n
  induction n with
  | zero => intros; omega
  | succ n ih =>
    intro p hs st hpn h0 h1 h2 h3 h4 h5 hσ hm hbig hp hd hh K
    refine ⟨_, h5, _, h2, ltI ?_⟩
    have hvp : (hs.set p x)[p]? = some x := by rw [List.getElem?_set_self hp]
    refine ifP (fun hb => ?_) (fun hb => ?_)
    · have hc : 2 * p + 1 < hs.length := by have := of_decide_eq_true hb; omega
      have tail : ∀ (st : S) (c : Nat) (y : List Int), st.ρ 0 = some (.ref a) → st.ρ 1 = some (.int p) → st.ρ 2 = some (.int hs.length) → st.ρ 3 = some (.int s) → st.ρ 4 = some (tv x) → st.ρ 5 = some (.int c) → st.σ = upd σ₀ a (.list (hv hs)) → hs[c]? = some y → 0 < c → par c = p →
          (∀ i, 0 < i → par i = p → ∀ z, (hs.set p x)[i]? = some z → leL y z) → suTail (fun f st₂ => match f with | .next => whileN suT suB Q (n + 1) st₂ | .cont => whileN suT suB Q (n + 1) st₂ | .brk => Q .next st₂ | .ret v => Q (.ret v) st₂) st := by
        intro st c y h0 h1 h2 h3 h4 h5 hσ hy hc0 hpc hmin
        have hcl := (List.getElem?_eq_some_iff.mp hy).1
        have hpl := par_lt hc0
        have hvc : (hs.set p x)[c]? = some y := by rw [List.getElem?_set_ne (by omega)]; exact hy
        refine ⟨_, h0, _, h5, _, rfl, getW_list (by rw [hσ]; exact upd_at) (hv_get hy) (by omega) ?_⟩
        refine ⟨_, h0, _, h1, putW_list (by rw [hσ]; exact upd_at) (by rw [hv_len]; exact hp) (by omega) ?_⟩
        refine ⟨_, h5, ?_⟩
        refine ⟨_, rfl, mulI (2 * c : Nat) (by decide) (by omega) (addI (2 * c + 1 : Nat) (by omega) ?_)⟩
        refine ih c (hs.set p y) _ (by simp; omega) h0 rfl (by rw [List.length_set]; exact h2) h3 h4 rfl ?_ (hm.set (hm.get hy)) (by simpa using hbig) (by simpa using hcl) (.step hc0 (by rw [hpc]; exact hd)) ?_ ?_
        · show upd st.σ a _ = _
          rw [hσ, upd_upd, hv_set]
        · have := hh.step hd.le hc0 hpc hvp hvc hmin
          simpa using this
        · intro st' p' hs' e0 e1 e3 e4 e5 e6 e7 e8 e9 e10 e11
          refine K st' p' hs' e0 e1 e3 e4 e5 e6 e7 e8 (e9.trans ?_) (by simpa using e10) e11
          have := set2_perm hvp hvc
          simpa using this
      obtain ⟨y, hy⟩ : ∃ y, hs[2 * p + 1]? = some y := ⟨_, List.getElem?_eq_getElem (by omega)⟩
      refine ⟨_, h5, addI (2 * p + 2 : Nat) (by omega) ?_⟩
      refine ⟨_, rfl, _, h2, ltI ?_⟩
      refine ifF (fun hb2 => ?_) (fun hb2 => ?_)
      · have hc2 : 2 * p + 2 < hs.length := by have := of_decide_eq_true hb2; omega
        obtain ⟨z, hz⟩ : ∃ z, hs[2 * p + 2]? = some z := ⟨_, List.getElem?_eq_getElem (by omega)⟩
        refine ⟨_, h0, _, h5, _, rfl, getW_list (by show st.σ a = _; rw [hσ]; exact upd_at) (hv_get hy) (by omega) ?_⟩
        refine ⟨_, h0, _, rfl, _, rfl, getW_list (by show st.σ a = _; rw [hσ]; exact upd_at) (hv_get hz) (by omega) ?_⟩
        refine ltW_tv (by rw [hm.get hy, hm.get hz]) ?_
        have two : ∀ i, 0 < i → par i = p → ∀ w, (hs.set p x)[i]? = some w → w = y ∨ w = z := fun i hi hpi w hw => by
          have hne : i ≠ p := by have := par_lt hi; omega
          rw [List.getElem?_set_ne (Ne.symm hne)] at hw
          have : i = 2 * p + 1 ∨ i = 2 * p + 2 := by unfold par at hpi; omega
          rcases this with e | e
          · rw [e, hy] at hw; cases hw; exact .inl rfl
          · rw [e, hz] at hw; cases hw; exact .inr rfl
        refine ifF (fun hb3 => ?_) (fun hb3 => ?_)
        · have hzy : leL z y := by unfold leL; simpa using hb3
          refine ⟨_, rfl, ?_⟩
          refine tail _ (2 * p + 2) z h0 h1 h2 h3 h4 rfl hσ hz (by omega) (by unfold par; omega) fun i hi hpi w hw => ?_
          rcases two i hi hpi w hw with rfl | rfl
          · exact hzy
          · exact lex_refl _
        · have hyz : leL y z := lex_lt_le (by simpa using hb3)
          refine tail _ (2 * p + 1) y h0 h1 h2 h3 h4 h5 hσ hy (by omega) (by unfold par; omega) fun i hi hpi w hw => ?_
          rcases two i hi hpi w hw with rfl | rfl
          · exact lex_refl _
          · exact hyz
      · have hc2 : ¬ 2 * p + 2 < hs.length := by have := of_decide_eq_false hb2; omega
        refine tail _ (2 * p + 1) y h0 h1 h2 h3 h4 h5 hσ hy (by omega) (by unfold par; omega) fun i hi hpi w hw => ?_
        have hne : i ≠ p := by have := par_lt hi; omega
        rw [List.getElem?_set_ne (Ne.symm hne)] at hw
        have hil := (List.getElem?_eq_some_iff.mp hw).1
        have : i = 2 * p + 1 := by unfold par at hpi; omega
        rw [this, hy] at hw; cases hw; exact lex_refl _
    · have hc : ¬ 2 * p + 1 < hs.length := by have := of_decide_eq_false hb; omega
      exact K st p hs h0 h1 h3 h4 hσ hp hd (hh.leaf (by simp; omega)) (.refl _) rfl hm
theorem set_self {α : Type} {hs : List α} {p : Nat} {x : α} (hx : hs[p]? = some x) : hs.set p x = hs := by
  obtain ⟨h, e⟩ := List.getElem?_eq_some_iff.mp hx
  rw [← e]; exact List.set_getElem_self h
theorem getL_ref {st : S} {a : Addr} {xs : List V} (h : st.σ a = some (.list xs)) : getL st (.ref a) = some xs := by simp [getL, h]
theorem c_siftup {W : Wd} (G : GW W) {j : Nat} {a : Addr} {s m : Nat} {hs : List (List Int)} {σ : St} {Q : V → St → Prop} (ha : σ a = some (.list (hv hs))) (hm : HS m hs) (hbig : hs.length ≤ 1000000) (hp : s < hs.length) (hh : HeapFrom leL (s + 1) hs)
    (q : ∀ hs', hs'.Perm hs → HeapFrom leL s hs' → Q .none (upd σ a (.list (hv hs')))) : CallOK W (j + 2) 56 [.ref a, .int s] [] Q σ := by
  obtain ⟨x, hx⟩ : ∃ x, hs[s]? = some x := ⟨_, List.getElem?_eq_getElem hp⟩
  refine cS__siftup G rfl ?_
  refine ⟨_, rfl, _, rfl, .inl ⟨_, getL_ref ha, by rw [hv_len]; exact hbig, ?_⟩⟩
  refine ⟨_, rfl, ?_⟩
  refine ⟨_, rfl, _, rfl, _, rfl, getW_list ha (hv_get hx) (by omega) ?_⟩
  refine ⟨_, rfl, mulI (2 * s : Nat) (by decide) (by omega) (addI (2 * s + 1 : Nat) (by omega) ?_)⟩
  refine ⟨hs.length + 1, ?_⟩
  refine su_loop (a := a) (σ₀ := σ) (s := s) (m := m) (x := x) (hm.get hx) hs.length s hs _ (by omega) rfl rfl (by rw [← hv_len]; rfl) rfl rfl rfl (upd_self ha).symm hm hbig hp .refl (by rw [set_self hx]; exact .init hh) ?_
  intro st' p' hs' e0 e1 e3 e4 e5 e6 e7 e8 e9 e10 e11
  refine ⟨_, e4, _, e0, _, e1, putW_list (by rw [e5]; exact upd_at) (by rw [hv_len]; exact e6) (by omega) ?_⟩
  refine ⟨_, e0, _, e3, _, e1, ?_⟩
  have e5' : (st'.put a (.list ((hv hs').set p' (tv x)))).σ = upd σ a (.list (hv (hs'.set p' x))) := by
    show upd st'.σ a _ = _
    rw [e5, upd_upd, hv_set]
  show CallOK W (j + 1) 49 [.ref a, .int s, .int p'] [] _ (st'.put a (.list ((hv hs').set p' (tv x)))).σ
  rw [e5']
  rw [set_self hx] at e9
  refine c_siftdown (j := j) (p := p') (x := x) G upd_at (e11.set (hm.get hx)) (by simp; omega) (by rw [List.getElem?_set_self e6]) e7 e8 fun hs'' hpm hhf => ?_
  refine ⟨_, fun _ _ h => h, ?_⟩
  show Q .none (upd (upd σ a _) a _)
  rw [upd_upd]
  exact q hs'' (hpm.trans e9) hhf
end Mine

namespace Mine
open PySem PySem.W PyProof.Rows PySem.Calls

theorem hv_append {hs gs : List (List Int)} : hv (hs ++ gs) = hv hs ++ hv gs := List.map_append
theorem c_heappush {W : Wd} (G : GW W) {j : Nat} {a : Addr} {m : Nat} {hs : List (List Int)} {x : List Int} {σ : St} {Q : V → St → Prop} (ha : σ a = some (.list (hv hs))) (hm : HS m hs) (hx : x.length = m) (hbig : hs.length < 1000000) (hh : HeapFrom leL 0 hs)
    (q : ∀ hs', hs'.Perm (hs ++ [x]) → HeapFrom leL 0 hs' → Q .none (upd σ a (.list (hv hs')))) : CallOK W (j + 2) 28 [.ref a, tv x] [] Q σ := by
  refine cS_heappush G rfl ?_
  refine ⟨_, rfl, _, getL_ref ha, _, rfl, _, _, _, rfl, rfl, ha, by rw [hv_len]; omega, ?_⟩
  have ea : (S.put ⟨σ, fun i => [V.ref a, tv x][i]?⟩ a (.list (hv hs ++ [tv x]))).σ a = some (.list (hv (hs ++ [x]))) := by
    show upd σ a _ a = _
    rw [upd_at, hv_append]; rfl
  refine ⟨_, rfl, _, rfl, _, rfl, .inl ⟨_, getL_ref ea, by rw [hv_len]; simp; omega, ?_⟩⟩
  refine subI (hs.length : Nat) (by rw [hv_len]; simp) ?_
  have hm' : HS m (hs ++ [x]) := fun y hy => by
    rcases List.mem_append.mp hy with h | h
    · exact hm y h
    · rw [List.mem_singleton.mp h]; exact hx
  refine c_siftdown (j := j) (s := 0) (p := hs.length) (x := x) G ea hm' (by simp; omega) (by simp) (.zero _) (.push hh x) fun hs' hp hf => ?_
  refine ⟨_, fun _ _ h => h, ?_⟩
  show Q .none (upd (upd σ a _) a _)
  rw [upd_upd]
  exact q hs' hp hf
theorem c_heappop {W : Wd} (G : GW W) {j : Nat} {a : Addr} {m : Nat} {hs : List (List Int)} {x : List Int} {σ : St} {Q : V → St → Prop} (ha : σ a = some (.list (hv hs))) (hm : HS m hs) (hbig : hs.length < 1000000) (hh : HeapFrom leL 0 hs) (hx : hs[0]? = some x)
    (q : ∀ hs', (x :: hs').Perm hs → HeapFrom leL 0 hs' → Q (tv x) (upd σ a (.list (hv hs')))) : CallOK W (j + 3) 35 [.ref a] [] Q σ := by
  have hne : hs ≠ [] := by intro e; subst e; cases hx
  obtain ⟨l, z, rfl⟩ : ∃ l z, hs = l ++ [z] := ⟨_, _, (List.dropLast_concat_getLast hne).symm⟩
  refine cS_heappop G rfl ?_
  refine ⟨_, rfl, _, getL_ref ha, a, tv z, hv l, rfl, rfl, by rw [← show hv (l ++ [z]) = hv l ++ [tv z] from hv_append]; exact ha, by rw [hv_len]; simp at hbig; omega, ?_⟩
  have ea : ∀ ρ, (S.put ⟨σ, ρ⟩ a (.list (hv l))).σ a = some (.list (hv l)) := fun _ => upd_at
  refine ⟨_, rfl, _, getL_ref (ea _), by rw [hv_len]; simp at hbig; unfold sizeLine; omega, ?_⟩
  refine ifF (fun hb => ?_) (fun hb => ?_)
  · cases l with
    | nil => cases hb
    | cons x' t =>
      simp at hx; subst hx
      refine ⟨_, rfl, _, rfl, getW_list (k := 0) (ea _) (hv_get (x := x') rfl) (by omega) ?_⟩
      refine ⟨_, rfl, _, rfl, putW_list (k := 0) (ea _) (by rw [hv_len]; simp) (by omega) ?_⟩
      refine ⟨_, rfl, ?_⟩
      have e2 : ∀ ρ, (S.put ⟨upd σ a (.list (hv (x' :: t))), ρ⟩ a (.list ((hv (x' :: t)).set 0 (tv z)))).σ = upd σ a (.list (hv (z :: t))) := fun ρ => by
        show upd (upd σ a _) a _ = _
        rw [upd_upd]; rfl
      show CallOK W (j + 2) 56 [.ref a, .int (0 : Nat)] [] _ (upd (upd σ a _) a _)
      rw [upd_upd]
      have hml : HS m (z :: t) := fun y hy => hm y (by
        rcases List.mem_cons.mp hy with h | h
        · simp [h]
        · simp [h])
      refine c_siftup (s := 0) (hs := z :: t) G upd_at hml (by simp at hbig ⊢; omega) (by simp) (HeapFrom.pop (v := x' :: t) (y := z) hh) fun hs' hp hf => ?_
      refine ⟨_, rfl, _, fun _ _ h => h, ?_⟩
      show Q (tv x') (upd (upd σ a _) a _)
      rw [upd_upd]
      refine q hs' ?_ hf
      exact (hp.cons x').trans (by simpa using (List.perm_append_singleton z t).symm)
  · cases l with
    | cons x' t => cases hb
    | nil =>
      simp at hx; subst hx
      refine ⟨_, rfl, _, fun _ _ h => h, ?_⟩
      exact q [] (.refl _) (fun i _ _ a b _ hb => by simp at hb)
abbrev hpB (W : Wd) (j : Nat) : PF := seqW (exprW (cbW (argS (locW 0) (argS (locW 2) arg0)) (callW W j 56))) nilW
theorem hp_loop {W : Wd} (G : GW W) {j : Nat} {a : Addr} {m N : Nat} {σ₀ : St} {Q : Fl → S → Prop} (hN : N ≤ 1000000) : ∀ (k : Nat) (hs : List (List Int)) (st : S), k ≤ N / 2 → hs.length = N → st.ρ 0 = some (.ref a) → st.σ = upd σ₀ a (.list (hv hs)) → HS m hs → HeapFrom leL k hs →
    (∀ (st' : S) (hs' : List (List Int)), st'.σ = upd σ₀ a (.list (hv hs')) → hs'.Perm hs → HeapFrom leL 0 hs' → Q .next st') → forL (setW 2) (hpB W (j + 2)) Q ((List.range k).map fun (i : Nat) => V.int ((k : Int) - 1 + (i : Int) * (-1))) st := by
  intro k
  induction k with
  | zero => intro hs st _ _ _ hσ _ hh K; exact K st hs hσ (.refl _) hh
  | succ k ih =>
    intro hs st hk hl h0 hσ hm hh K
    have e : (List.range (k + 1)).map (fun (i : Nat) => V.int (((k + 1 : Nat) : Int) - 1 + (i : Int) * (-1))) = V.int (k : Nat) :: (List.range k).map fun (i : Nat) => V.int ((k : Int) - 1 + (i : Int) * (-1)) := by
      rw [List.range_succ_eq_map, List.map_cons, List.map_map]
      congr 1
      · congr 1; omega
      · apply List.map_congr_left; intro i _; simp only [Function.comp]; congr 1; omega
    rw [e]
    refine ⟨_, h0, _, rfl, ?_⟩
    show CallOK W (j + 2) 56 [.ref a, .int k] [] _ st.σ
    rw [hσ]
    refine c_siftup (s := k) (hs := hs) G upd_at hm (by omega) (by omega) hh fun hs' hp hf => ?_
    refine ih hs' _ (by omega) (by rw [hp.length_eq]; exact hl) h0 ?_ (fun y hy => hm y (hp.mem_iff.mp hy)) hf fun st' hs'' e1 e2 e3 => K st' hs'' e1 (e2.trans hp) e3
    show upd (upd σ₀ a _) a _ = _
    rw [upd_upd]
theorem del_put {σ : St} {ρ : Nat → Option V} {b : Addr} {x : AO} (h : σ b = none) : ((S.put ⟨σ, ρ⟩ b x).del b).σ = σ := by
  funext c
  show (if c = b then none else if c = b then _ else σ c) = σ c
  by_cases e : c = b
  · rw [if_pos e, e, h]
  · rw [if_neg e, if_neg e]
theorem c_heapify {W : Wd} (G : GW W) {j : Nat} {a : Addr} {m : Nat} {hs : List (List Int)} {σ : St} {Q : V → St → Prop} (ha : σ a = some (.list (hv hs))) (hm : HS m hs) (hbig : hs.length ≤ 1000000)
    (q : ∀ hs', hs'.Perm hs → HeapFrom leL 0 hs' → Q .none (upd σ a (.list (hv hs')))) : CallOK W (j + 3) 42 [.ref a] [] Q σ := by
  refine cS_heapify G rfl ?_
  refine ⟨_, rfl, _, rfl, .inl ⟨_, getL_ref ha, by rw [hv_len]; exact hbig, ?_⟩⟩
  refine ⟨_, rfl, fdivI (hs.length / 2 : Nat) (by decide) (by rw [hv_len]; omega) ?_⟩
  refine .inl ⟨_, rfl, ?_⟩
  refine ⟨_, rfl, by omega, by omega, ?_⟩
  intro b hb
  refine ⟨b, _, (List.range (hs.length / 2)).map (fun (i : Nat) => V.int (((hs.length / 2 : Nat) : Int) - 1 + (i : Int) * (-1))), rfl, show upd σ b (.riter (((hs.length / 2 : Nat) : Int) - 1) ((hs.length / 2 : Nat) : Int) (-1)) b = _ from upd_at, ?_, ?_⟩
  · show (if (0 : Int) ≤ ((hs.length / 2 : Nat) : Int) then some ((List.range ((hs.length / 2 : Nat) : Int).toNat).map fun (i : Nat) => V.int (((hs.length / 2 : Nat) : Int) - 1 + (i : Int) * (-1))) else none) = _
    rw [if_pos (by omega)]
    rfl
  · refine hp_loop (j := j) (a := a) (m := m) (N := hs.length) (σ₀ := σ) G hbig (hs.length / 2) hs _ (Nat.le_refl _) rfl rfl ((del_put hb).trans (upd_self ha).symm) hm (.big (by omega)) ?_
    intro st' hs' e1 e2 e3
    exact ⟨_, fun _ _ h => h, by rw [e1]; exact q hs' e2 e3⟩
end Mine

namespace Mine
open PySem PySem.W PyProof.Rows PySem.Calls

theorem and_high : ∀ (k : Nat) (x y : Int), 0 ≤ y → y < 2 ^ k → Builtin.bitAnd (x * 2 ^ k) y = 0
  | 0, x, y, h0, h1 => by
    have : y = 0 := by simp at h1; omega
    subst this; exact bitAnd_zero _
  | k + 1, x, y, h0, h1 => by
    rw [kbt_halves]
    have e : x * 2 ^ (k + 1) = 2 * (x * 2 ^ k) := by rw [Int.pow_succ, ← Int.mul_assoc, Int.mul_comm]
    have e1 : x * 2 ^ (k + 1) / 2 = x * 2 ^ k := by rw [e]; omega
    have e2 : x * 2 ^ (k + 1) % 2 = 0 := by rw [e]; omega
    rw [e1, e2, and_high k x (y / 2) (by omega) (by rw [Int.pow_succ] at h1; omega)]
    simp
theorem or_low (k : Nat) {x y : Int} (h0 : 0 ≤ y) (h1 : y < 2 ^ k) : Builtin.bitOr (x * 2 ^ k) y = x * 2 ^ k + y := by
  rw [bitOr_and, and_high k x y h0 h1]; omega

theorem eqI {st : S} {i j : Int} {Q : Bool → S → Prop} (q : Q (i == j) st) : eqW (.int i) (.int j) Q st := ⟨_, _, rfl, rfl, by simpa [PyData.eqv] using q⟩
theorem neI {st : S} {i j : Int} {Q : Bool → S → Prop} (q : Q (!(i == j)) st) : neW (.int i) (.int j) Q st := ⟨_, _, rfl, rfl, by simpa [PyData.eqv] using q⟩
theorem Sub.refl (σ : St) : St.Sub σ σ := fun _ _ h => h
theorem c_buffer {W : Wd} (G : GW W) {j : Nat} {b : List Int} {σ : St} {Q : V → St → Prop} (q : Q (.bytes b) σ) : CallOK W (j + 1) 91 [.bytes b] [] Q σ := by
  refine cS__buffer G rfl ?_
  refine ⟨_, rfl, .inl ⟨_, rfl, ?_⟩⟩
  refine ⟨_, rfl, _, .tt _ _, ?_⟩
  exact ⟨_, rfl, σ, Sub.refl _, q⟩
theorem c_ascii {W : Wd} (G : GW W) {j : Nat} {b : List Int} {σ : St} {Q : V → St → Prop} (q : Q (.bytes b) σ) : CallOK W (j + 1) 84 [.bytes b] [] Q σ := by
  refine cS__ascii_buffer G rfl ?_
  refine ⟨_, rfl, .inl ⟨_, rfl, ?_⟩⟩
  refine ⟨_, rfl, _, .tt _ _, ?_⟩
  show _
  refine ⟨_, rfl, _, .tt _ _, ?_⟩
  exact ⟨_, rfl, σ, Sub.refl _, q⟩
theorem c_truth {W : Wd} (G : GW W) {j : Nat} {b : Bool} {σ : St} {Q : V → St → Prop} (q : Q (.bool b) σ) : CallOK W (j + 1) 98 [.bool b] [] Q σ := by
  refine cS__truth G rfl ?_
  refine ⟨_, rfl, .inr ⟨_, rfl, ?_⟩⟩
  refine ⟨_, rfl, _, .bn _, ?_⟩
  refine ⟨_, rfl, _, .tt _ _, ?_⟩
  refine ⟨_, rfl, ?_⟩
  cases b with
  | true => exact ⟨σ, Sub.refl _, q⟩
  | false => exact ⟨σ, Sub.refl _, q⟩
theorem c_fromdec {W : Wd} (G : GW W) {j : Nat} {b : List Int} {σ : St} {Q : V → St → Prop} (q : Q (.bytes b) σ) : CallOK W (j + 1) 64 [.bytes b] [] Q σ := by
  refine cS__bytes_from_decode_data G rfl ?_
  refine ⟨_, rfl, .inl ⟨b, "str", false, rfl, by decide +kernel, ?_⟩⟩
  obtain ⟨n, hn⟩ := G.h_bt
  refine ⟨_, rfl, .inr ⟨b, 57, _, n, true, rfl, hn, by decide +kernel, ?_⟩⟩
  exact ⟨_, rfl, σ, Sub.refl _, q⟩

def cv (n : Int) : Int := b64L.getD n.toNat 0
theorem cv_all : ∀ n : Nat, n < 64 → b64L[n]? = some (cv n) ∧ cv n = (if (n : Int) < 26 then (n : Int) + 65 else if (n : Int) < 52 then (n : Int) + 71 else if (n : Int) < 62 then (n : Int) - 4 else if (n : Int) = 62 then 43 else 47) := by decide +kernel
theorem cv_get {i : Int} (h0 : 0 ≤ i) (h1 : i < 64) : b64L[i.toNat]? = some (cv i) := by
  have := (cv_all i.toNat (by omega)).1
  rwa [Int.toNat_of_nonneg h0] at this
theorem cv_eq {i : Int} (h0 : 0 ≤ i) (h1 : i < 64) : cv i = (if i < 26 then i + 65 else if i < 52 then i + 71 else if i < 62 then i - 4 else if i = 62 then 43 else 47) := by
  have := (cv_all i.toNat (by omega)).2
  rwa [Int.toNat_of_nonneg h0] at this
theorem cv_rng {i : Int} (h0 : 0 ≤ i) (h1 : i < 64) : 0 ≤ cv i ∧ cv i < 256 ∧ cv i ≠ 61 := by
  rw [cv_eq h0 h1]
  (repeat' split) <;> omega
theorem b64a {a : Int} (h : 0 ≤ a ∧ a < 256) : 0 ≤ a / 4 ∧ a / 4 < 64 := by omega
theorem b64b {a b : Int} (h : 0 ≤ b ∧ b < 256) : 0 ≤ a % 4 * 16 + b / 16 ∧ a % 4 * 16 + b / 16 < 64 := by omega
theorem b64b0 {a : Int} : 0 ≤ a % 4 * 16 ∧ a % 4 * 16 < 64 := by omega
theorem b64c {b c : Int} (h : 0 ≤ c ∧ c < 256) : 0 ≤ b % 16 * 4 + c / 64 ∧ b % 16 * 4 + c / 64 < 64 := by omega
theorem b64c0 {b : Int} : 0 ≤ b % 16 * 4 ∧ b % 16 * 4 < 64 := by omega
theorem b64d {c : Int} : 0 ≤ c % 64 ∧ c % 64 < 64 := by omega
theorem b64l {L a : Int} : 0 ≤ (L * 256 + a) % 65536 ∧ (L * 256 + a) % 65536 < 65536 := by omega
theorem b64e1 {L a : Int} (h : 0 ≤ a ∧ a < 256) : (L * 256 + a) % 65536 / 4 % 64 = a / 4 := by omega
theorem b64e2 {L a b : Int} (ha : L % 4 = a % 4) (h : 0 ≤ b ∧ b < 256) : (L * 256 + b) % 65536 / 16 % 64 = a % 4 * 16 + b / 16 := by omega
theorem b64e3 {L b c : Int} (hb : L % 16 = b % 16) (h : 0 ≤ c ∧ c < 256) : (L * 256 + c) % 65536 / 64 % 64 = b % 16 * 4 + c / 64 := by omega
theorem b64e4 {L c : Int} : (L * 256 + c) % 65536 % 64 = c % 64 := by omega
theorem b64m4 {L a : Int} : (L * 256 + a) % 65536 % 4 = a % 4 := by omega
theorem b64m16 {L a : Int} : (L * 256 + a) % 65536 % 16 = a % 16 := by omega
theorem b64r1 {a b : Int} (h : 0 ≤ b ∧ b < 256) : a / 4 * 4 + (a % 4 * 16 + b / 16) / 16 = a := by omega
theorem b64r10 {a : Int} : a / 4 * 4 + (a % 4 * 16) / 16 = a := by omega
theorem b64r2 {a b : Int} (h : 0 ≤ b ∧ b < 256) : (a % 4 * 16 + b / 16) % 16 = b / 16 := by omega
theorem b64r20 {a : Int} : (a % 4 * 16) % 16 = 0 := by omega
theorem b64r3 {b c : Int} (h : 0 ≤ c ∧ c < 256) : b / 16 * 16 + (b % 16 * 4 + c / 64) / 4 = b := by omega
theorem b64r30 {b : Int} : b / 16 * 16 + (b % 16 * 4) / 4 = b := by omega
theorem b64r4 {b c : Int} (h : 0 ≤ c ∧ c < 256) : (b % 16 * 4 + c / 64) % 4 = c / 64 := by omega
theorem b64r40 {b : Int} : (b % 16 * 4) % 4 = 0 := by omega
theorem b64r5 {c : Int} : c / 64 * 64 + c % 64 = c := by omega
theorem b64h {b : Int} (h : 0 ≤ b ∧ b < 256) : 0 ≤ b / 16 ∧ b / 16 < 64 := by omega
theorem b64k {b : Int} (h : 0 ≤ b ∧ b < 256) : 0 ≤ b / 64 ∧ b / 64 < 64 := by omega
theorem cv_oct {i : Int} (h : 0 ≤ i ∧ i < 64) : 0 ≤ cv i ∧ cv i < 256 := ⟨(cv_rng h.1 h.2).1, (cv_rng h.1 h.2).2.1⟩
theorem c2I {st : S} {c lo hi : Int} {Q : Bool → S → Prop} (b : Bool) (h : st.ρ 0 = some (.int c)) (hb : decide (lo ≤ c ∧ c ≤ hi) = b) (q : Q b st) : c2W (icmpW fun i j => decide (i ≤ j)) (icmpW fun i j => decide (i ≤ j)) (cW (.int lo)) (locW 0) (cW (.int hi)) Q st := by
  subst hb
  refine ⟨_, h, _, _, rfl, rfl, ifF (fun a => ⟨_, _, rfl, rfl, ?_⟩) (fun a => ?_)⟩
  · have a' := of_decide_eq_true a
    simpa [a'] using q
  · have a' := of_decide_eq_false a
    simpa [a'] using q
theorem c_b64_value {W : Wd} (G : GW W) {j : Nat} {v : Int} {σ : St} {Q : V → St → Prop} (h0 : 0 ≤ v) (h1 : v < 64) (q : Q (.int v) σ) : CallOK W (j + 1) 105 [.int (cv v)] [] Q σ := by
  refine cS__b64_value G rfl ?_
  have e := cv_eq h0 h1
  generalize cv v = c at e
  by_cases k1 : v < 26
  · rw [if_pos k1] at e
    exact c2I true rfl (decide_eq_true (by omega)) ⟨_, rfl, subI v (by omega) ⟨σ, Sub.refl _, q⟩⟩
  rw [if_neg k1] at e
  by_cases k2 : v < 52
  · rw [if_pos k2] at e
    exact c2I false rfl (decide_eq_false (by omega)) (c2I true rfl (decide_eq_true (by omega)) ⟨_, rfl, subI v (by omega) ⟨σ, Sub.refl _, q⟩⟩)
  rw [if_neg k2] at e
  by_cases k3 : v < 62
  · rw [if_pos k3] at e
    exact c2I false rfl (decide_eq_false (by omega)) (c2I false rfl (decide_eq_false (by omega)) (c2I true rfl (decide_eq_true (by omega)) ⟨_, rfl, addI v (by omega) ⟨σ, Sub.refl _, q⟩⟩))
  rw [if_neg k3] at e
  by_cases k4 : v = 62
  · rw [if_pos k4] at e
    subst e; subst k4
    exact c2I false rfl (by decide) (c2I false rfl (by decide) (c2I false rfl (by decide) ⟨_, rfl, eqI ⟨σ, Sub.refl _, q⟩⟩))
  · rw [if_neg k4] at e
    have k5 : v = 63 := by omega
    subst e; subst k5
    exact c2I false rfl (by decide) (c2I false rfl (by decide) (c2I false rfl (by decide) ⟨_, rfl, eqI ⟨_, rfl, eqI ⟨σ, Sub.refl _, q⟩⟩⟩))

/-! ### b2a_base64 -/
def encG : List Int → List Int
  | [] => []
  | [a] => [cv (a / 4), cv (a % 4 * 16), 61, 61]
  | [a, b] => [cv (a / 4), cv (a % 4 * 16 + b / 16), cv (b % 16 * 4), 61]
  | a :: b :: c :: r => cv (a / 4) :: cv (a % 4 * 16 + b / 16) :: cv (b % 16 * 4 + c / 64) :: cv (c % 64) :: encG r
abbrev Oct (bs : List Int) : Prop := ∀ b ∈ bs, 0 ≤ b ∧ b < 256
abbrev whT : PB := cmW (icmpW fun i j => decide (j ≤ i)) (locW 4) (cW (.int 6))
abbrev whB : PF := seqW (exprW (mtW (locW 3) (argS (itW (cW (.bytes b64L)) (biW andW (biW rshW (locW 5) (biW subW (locW 4) (cW (.int 6)))) (cW (.int 63)))) arg0) appendW))
  (seqW (asgS (biW subW (locW 4) (cW (.int 6))) (setW 4))
  nilW)
abbrev b2B : PF := seqW (asgS (biW andW (biW orW (biW lshW (locW 5) (cW (.int 8))) (locW 6)) (cW (.int 65535))) (setW 5))
  (seqW (asgS (biW addW (locW 4) (cW (.int 8))) (setW 4))
  (seqW (whileW whT whB)
  nilW))
theorem getW_b64 {st : S} {i : Int} {Q : V → S → Prop} (h0 : 0 ≤ i) (h1 : i < 64) (q : Q (.int (cv i)) st) : getW (.bytes b64L) (.int i) Q st := ⟨h0, by decide, _, cv_get h0 h1, q⟩
/-- one character goes out -/
theorem wh_step {st : S} {o : Addr} {σ₀ : St} {outs : List V} {k L c : Int} {n : Nat} {Q : Fl → S → Prop} (h3 : st.ρ 3 = some (.ref o)) (h4 : st.ρ 4 = some (.int k)) (h5 : st.ρ 5 = some (.int L)) (hσ : st.σ = upd σ₀ o (.list outs)) (hk : 6 ≤ k) (hl : outs.length ≤ 1000000) (hc : L / 2 ^ (k - 6).toNat % 64 = c)
    (next : ∀ st', (∀ i, i ≠ 4 → st'.ρ i = st.ρ i) → st'.ρ 4 = some (.int (k - 6)) → st'.σ = upd σ₀ o (.list (outs ++ [.int (cv c)])) → whileN whT whB Q n st') : whileN whT whB Q (n + 1) st := by
  have ho : st.σ o = some (.list outs) := by rw [hσ]; exact upd_at
  refine ⟨_, h4, _, _, rfl, rfl, ifP (fun _ => ?_) (fun a => absurd (of_decide_eq_false a) (by omega))⟩
  refine ⟨_, h3, _, getL_ref ho, ?_⟩
  refine ⟨_, h5, _, h4, subI (k - 6) rfl (rshI (L / 2 ^ (k - 6).toNat) (by omega) rfl (andI c (by rw [bitAnd_m6]; exact hc) ?_))⟩
  refine ⟨_, rfl, getW_b64 (by omega) (by omega) ?_⟩
  refine ⟨_, _, _, rfl, rfl, ho, hl, ?_⟩
  refine ⟨_, h4, subI (k - 6) rfl ?_⟩
  refine next _ (fun i hi => if_neg hi) rfl ?_
  show upd st.σ o _ = _
  rw [hσ, upd_upd]
theorem wh_done {st : S} {k : Int} {n : Nat} {Q : Fl → S → Prop} (h4 : st.ρ 4 = some (.int k)) (hk : k < 6) (q : Q .next st) : whileN whT whB Q (n + 1) st :=
  ⟨_, h4, _, _, rfl, rfl, ifP (fun a => absurd (of_decide_eq_true a) (by omega)) (fun _ => q)⟩
structure B2 (o : Addr) (σ₀ : St) (nl : V) (outs : List V) (k L : Int) (st : S) : Prop where
  r1 : st.ρ 1 = some nl
  r3 : st.ρ 3 = some (.ref o)
  r4 : st.ρ 4 = some (.int k)
  r5 : st.ρ 5 = some (.int L)
  hσ : st.σ = upd σ₀ o (.list outs)
/-- one octet goes in -/
theorem b2_in {st : S} {o : Addr} {σ₀ : St} {nl : V} {outs : List V} {k L b : Int} {xs : List V} {Q : Fl → S → Prop} (h : B2 o σ₀ nl outs k L st) (hL : 0 ≤ L ∧ L < 65536) (hb : 0 ≤ b ∧ b < 256)
    (next : ∀ st' Z, B2 o σ₀ nl outs (k + 8) ((L * 256 + b) % 65536) st' → (∀ st, Z .next st = forL (setW 6) b2B Q xs st) → ∃ n, whileN whT whB Z n st') : forL (setW 6) b2B Q (.int b :: xs) st := by
  refine ⟨_, h.r5, lshI (L * 256) (by omega) rfl ⟨_, rfl, orI (L * 256 + b) (or_low 8 (by omega) (by omega)) (andI ((L * 256 + b) % 65536) (bitAnd_m16 _) ?_)⟩⟩
  refine ⟨_, h.r4, addI (k + 8) rfl ?_⟩
  exact next _ _ ⟨h.r1, h.r3, rfl, rfl, h.hσ⟩ (fun _ => rfl)
theorem B2.out {st st' : S} {o : Addr} {σ₀ : St} {nl : V} {outs outs' : List V} {k L : Int} (h : B2 o σ₀ nl outs k L st) (h1 : ∀ i, i ≠ 4 → st'.ρ i = st.ρ i) (h2 : st'.ρ 4 = some (.int (k - 6))) (h3 : st'.σ = upd σ₀ o (.list outs')) : B2 o σ₀ nl outs' (k - 6) L st' :=
  ⟨(h1 1 (by decide)).trans h.r1, (h1 3 (by decide)).trans h.r3, h2, (h1 5 (by decide)).trans h.r5, h3⟩
theorem b2_in1 {st : S} {o : Addr} {σ₀ : St} {nl : V} {outs : List V} {k L b c : Int} {xs : List V} {Q : Fl → S → Prop} (h : B2 o σ₀ nl outs k L st) (hk : k = 0 ∨ k = 2) (hL : 0 ≤ L ∧ L < 65536) (hb : 0 ≤ b ∧ b < 256) (hl : outs.length ≤ 1000000) (hc : (L * 256 + b) % 65536 / 2 ^ (k + 2).toNat % 64 = c)
    (next : ∀ st', B2 o σ₀ nl (outs ++ [.int (cv c)]) (k + 2) ((L * 256 + b) % 65536) st' → forL (setW 6) b2B Q xs st') : forL (setW 6) b2B Q (.int b :: xs) st := by
  refine b2_in h hL hb fun st' Z h' hZ => ⟨2, ?_⟩
  refine wh_step (c := c) h'.r3 h'.r4 h'.r5 h'.hσ (by omega) hl (by rw [← hc, show k + 8 - 6 = k + 2 by omega]) fun st'' e1 e2 e3 => ?_
  have h'' := h'.out e1 e2 e3
  refine wh_done (k := k + 2) (by rw [h''.r4]; congr 2; omega) (by omega) ?_
  rw [hZ]
  exact next _ ⟨h''.r1, h''.r3, by rw [h''.r4]; congr 2; omega, h''.r5, h''.hσ⟩
theorem b2_in2 {st : S} {o : Addr} {σ₀ : St} {nl : V} {outs : List V} {L b c d : Int} {xs : List V} {Q : Fl → S → Prop} (h : B2 o σ₀ nl outs 4 L st) (hL : 0 ≤ L ∧ L < 65536) (hb : 0 ≤ b ∧ b < 256) (hl : outs.length + 1 ≤ 1000000) (hc : (L * 256 + b) % 65536 / 64 % 64 = c) (hd : (L * 256 + b) % 65536 % 64 = d)
    (next : ∀ st', B2 o σ₀ nl (outs ++ [.int (cv c)] ++ [.int (cv d)]) 0 ((L * 256 + b) % 65536) st' → forL (setW 6) b2B Q xs st') : forL (setW 6) b2B Q (.int b :: xs) st := by
  refine b2_in h hL hb fun st' Z h' hZ => ⟨3, ?_⟩
  refine wh_step h'.r3 h'.r4 h'.r5 h'.hσ (by omega) (by omega) hc fun st'' e1 e2 e3 => ?_
  have h'' := h'.out e1 e2 e3
  refine wh_step h''.r3 h''.r4 h''.r5 h''.hσ (by omega) (by simp; omega) (c := d) (by rw [← hd]; simp) fun st3 f1 f2 f3 => ?_
  have h3 := h''.out f1 f2 f3
  refine wh_done h3.r4 (by omega) ?_
  rw [hZ]
  exact next _ h3
def iv (xs : List Int) : List V := xs.map .int
theorem iv_append {xs ys : List Int} : iv (xs ++ ys) = iv xs ++ iv ys := List.map_append
/-- the loop over the octets -/
theorem b2_loop {o : Addr} {σ₀ : St} {nl : V} {Q : Fl → S → Prop} : ∀ (bs : List Int) (outs : List Int) (L : Int) (st : S), B2 o σ₀ nl (iv outs) 0 L st → 0 ≤ L ∧ L < 65536 → Oct bs → outs.length + 2 * bs.length ≤ 100000 →
    (∀ (st' : S) (k L' : Int) (outs' : List Int), B2 o σ₀ nl (iv outs') k L' st' → (0 ≤ L' ∧ L' < 65536) → (k = 0 ∧ outs ++ encG bs = outs' ∨ (k = 2 ∧ outs ++ encG bs = outs' ++ [cv (L' % 4 * 16), 61, 61]) ∨ (k = 4 ∧ outs ++ encG bs = outs' ++ [cv (L' % 16 * 4), 61])) → outs'.length ≤ 100000 → Q .next st') →
    forL (setW 6) b2B Q (iv bs) st
  | [], outs, L, st, h, hL, _, hl, K => K st 0 L outs h hL (.inl ⟨rfl, by simp [encG]⟩) (Nat.le_trans (Nat.le_add_right _ _) hl)
  | [a], outs, L, st, h, hL, ho, hl, K => by
    have ha := ho a (.head _)
    have l0 : (iv outs).length ≤ 1000000 := by unfold iv; rw [List.length_map]; exact Nat.le_trans (Nat.le_add_right _ _) (Nat.le_trans hl (by decide))
    refine b2_in1 (xs := []) (c := a / 4) h (.inl rfl) hL ha l0 (b64e1 ha) fun st' h' => ?_
    refine K st' 2 _ (outs ++ [cv (a / 4)]) (by rw [iv_append]; exact h') b64l (.inr (.inl ⟨rfl, ?_⟩)) (by rw [List.length_append]; exact Nat.le_trans (Nat.add_le_add_left (show 1 ≤ 2 by decide) _) hl)
    rw [b64m4, List.append_assoc]; rfl
  | [a, b], outs, L, st, h, hL, ho, hl, K => by
    have ha := ho a (.head _)
    have hb := ho b (.tail _ (.head _))
    have l0 : (iv outs).length ≤ 100000 := by unfold iv; rw [List.length_map]; exact Nat.le_trans (Nat.le_add_right _ _) hl
    refine b2_in1 (xs := [.int b]) (c := a / 4) h (.inl rfl) hL ha (Nat.le_trans l0 (by decide)) (b64e1 ha) fun st' h' => ?_
    refine b2_in1 (xs := []) (c := a % 4 * 16 + b / 16) h' (.inr rfl) b64l hb (by rw [List.length_append]; exact Nat.le_trans (Nat.add_le_add_right l0 _) (show 100000 + 1 ≤ 1000000 by decide)) (b64e2 b64m4 hb) fun st2 h2 => ?_
    refine K st2 4 _ (outs ++ [cv (a / 4)] ++ [cv (a % 4 * 16 + b / 16)]) (by rw [iv_append, iv_append]; exact h2) b64l (.inr (.inr ⟨rfl, ?_⟩)) (by rw [List.length_append, List.length_append, Nat.add_assoc]; exact Nat.le_trans (Nat.add_le_add_left (show 2 ≤ 4 by decide) _) hl)
    rw [b64m16, List.append_assoc, List.append_assoc]; rfl
  | a :: b :: c :: r, outs, L, st, h, hL, ho, hl, K => by
    have ha := ho a (.head _)
    have hb := ho b (.tail _ (.head _))
    have hc := ho c (.tail _ (.tail _ (.head _)))
    have l0 : (iv outs).length ≤ 100000 := by unfold iv; rw [List.length_map]; exact Nat.le_trans (Nat.le_add_right _ _) hl
    refine b2_in1 (xs := .int b :: .int c :: iv r) (c := a / 4) h (.inl rfl) hL ha (Nat.le_trans l0 (by decide)) (b64e1 ha) fun st' h' => ?_
    refine b2_in1 (xs := .int c :: iv r) (c := a % 4 * 16 + b / 16) h' (.inr rfl) b64l hb (by rw [List.length_append]; exact Nat.le_trans (Nat.add_le_add_right l0 _) (show 100000 + 1 ≤ 1000000 by decide)) (b64e2 b64m4 hb) fun st2 h2 => ?_
    refine b2_in2 (xs := iv r) (c := b % 16 * 4 + c / 64) (d := c % 64) h2 b64l hc (by rw [List.length_append, List.length_append]; exact Nat.le_trans (Nat.add_le_add_right (Nat.add_le_add_right (Nat.add_le_add_right l0 _) _) _) (show 100000 + 1 + 1 + 1 ≤ 1000000 by decide)) (b64e3 b64m16 hc) b64e4 fun st3 h3 => ?_
    have e : outs ++ [cv (a / 4)] ++ [cv (a % 4 * 16 + b / 16)] ++ [cv (b % 16 * 4 + c / 64)] ++ [cv (c % 64)] ++ encG r = outs ++ encG (a :: b :: c :: r) := by
      rw [List.append_assoc, List.append_assoc, List.append_assoc, List.append_assoc]; rfl
    refine b2_loop r (outs ++ [cv (a / 4)] ++ [cv (a % 4 * 16 + b / 16)] ++ [cv (b % 16 * 4 + c / 64)] ++ [cv (c % 64)]) _ st3 (by rw [iv_append, iv_append, iv_append, iv_append]; exact h3) b64l (fun y hy => ho y (.tail _ (.tail _ (.tail _ hy)))) (by simp only [List.length_append, List.length_cons, List.length_nil] at hl ⊢; omega) fun st' k L' outs' e1 e2 e3 e4 => ?_
    rw [e] at e3
    exact K st' k L' outs' e1 e2 e3 e4
end Mine

namespace Mine
open PySem PySem.W PyProof.Rows PySem.Calls

theorem encG_oct : ∀ {bs : List Int}, Oct bs → Oct (encG bs)
  | [], _ => by intro b hb; cases hb
  | [a], h => by
    have ha := h a (.head _)
    intro y hy
    simp only [encG, List.mem_cons, List.not_mem_nil, or_false] at hy
    rcases hy with rfl | rfl | rfl | rfl
    · exact cv_oct (b64a ha)
    · exact cv_oct b64b0
    · exact ⟨by decide, by decide⟩
    · exact ⟨by decide, by decide⟩
  | [a, b], h => by
    have ha := h a (.head _)
    have hb := h b (.tail _ (.head _))
    intro y hy
    simp only [encG, List.mem_cons, List.not_mem_nil, or_false] at hy
    rcases hy with rfl | rfl | rfl | rfl
    · exact cv_oct (b64a ha)
    · exact cv_oct (b64b hb)
    · exact cv_oct b64c0
    · exact ⟨by decide, by decide⟩
  | a :: b :: c :: r, h => by
    have ha := h a (.head _)
    have hb := h b (.tail _ (.head _))
    have hc := h c (.tail _ (.tail _ (.head _)))
    intro y hy
    simp only [encG, List.mem_cons] at hy
    rcases hy with rfl | rfl | rfl | rfl | hy
    · exact cv_oct (b64a ha)
    · exact cv_oct (b64b hb)
    · exact cv_oct (b64c hc)
    · exact cv_oct b64d
    · exact encG_oct (fun y hy => h y (.tail _ (.tail _ (.tail _ hy)))) y hy
theorem encG_len : ∀ {bs : List Int}, (encG bs).length ≤ 2 * bs.length + 4
  | [] => by simp [encG]
  | [a] => by simp [encG]
  | [a, b] => by simp [encG]
  | a :: b :: c :: r => by have := encG_len (bs := r); simp [encG]; omega
theorem intsOf_iv (xs : List Int) : intsOf (iv xs) = some xs := intsOf_map xs
theorem put_iv {st : S} {o : Addr} {σ₀ : St} {xs : List Int} {c : Int} (h : st.σ = upd σ₀ o (.list (iv xs))) : (st.put o (.list (iv xs ++ [.int c]))).σ = upd σ₀ o (.list (iv (xs ++ [c]))) := by
  show upd st.σ o _ = _
  rw [h, upd_upd, iv_append]; rfl
theorem at_iv {σ σ₀ : St} {o : Addr} {x : AO} (h : σ = upd σ₀ o x) : σ o = some x := by rw [h]; exact upd_at
theorem iv_len {xs : List Int} : (iv xs).length = xs.length := List.length_map _
theorem sub_upd {σ : St} {o : Addr} {x : AO} (h : σ o = none) : St.Sub σ (upd σ o x) := fun b y e => by
  unfold upd
  rw [if_neg (fun hb => by rw [hb, h] at e; cases e)]; exact e
theorem c_b2a {W : Wd} (G : GW W) {j : Nat} {bs : List Int} {σ : St} {Q : V → St → Prop} (ho : Oct bs) (hl : bs.length ≤ 10000) (q : Q (.bytes (encG bs)) σ) : CallOK W (j + 2) 121 [.bytes bs] [(Str.ofString "newline", .bool false)] Q σ := by
  refine call_introB (params := [Str.ofString "data", Str.ofString "newline"]) (names := [Str.ofString "bin_data", Str.ofString "out", Str.ofString "leftbits", Str.ofString "leftchar", Str.ofString "b"]) (ys := [.bytes bs, .bool false]) G.f_b2a_base64 rfl (fun A L => iS_b2a_base64 G A L (j + 1)) ?_ (by decide +kernel) (by decide +kernel) (by decide +kernel) rfl ?_
  · intro F s vs kvs g rs hk rk
    cases rs with
    | @cons _ v _ _ r rs =>
    cases rs
    obtain ⟨u, rfl, ru⟩ := one_kw hk rk
    exact ⟨[v, u], .of_eq rfl, .cons r (.cons ru .nil)⟩
  refine ⟨_, rfl, c_buffer (j := j) G ?_⟩
  refine ⟨_, rfl, c_truth (j := j) G ?_⟩
  refine ⟨by decide, ?_⟩
  intro o hoN
  refine ⟨_, rfl, _, rfl, ?_⟩
  refine b2_loop (o := o) (σ₀ := σ) (nl := .bool false) bs [] 0 _ ⟨rfl, rfl, rfl, rfl, rfl⟩ (by omega) ho (by simp; omega) ?_
  intro st' k L' outs' h hL hk hle
  have hon := encG_oct ho
  have fin : ∀ (st : S), st.ρ 1 = some (.bool false) → st.ρ 3 = some (.ref o) → st.σ = upd σ o (.list (iv (encG bs))) → (seqW (ifS (valB (locW 1)) (seqW (exprW (mtW (locW 3) (argS (cW (.int 10)) arg0) appendW)) nilW) nilW) (seqW (retS (cbW (argS (locW 3) arg0) bytesW)) nilW)) (retW Q) st := by
    intro st e1 e3 eσ
    refine ⟨_, e1, ?_⟩
    refine ⟨_, e3, _, _, _, rfl, getL_ref (at_iv eσ), intsOf_iv _, hon, by have := encG_len (bs := bs); omega, ?_⟩
    exact ⟨σ, by rw [eσ]; exact sub_upd hoN, q⟩
  refine ⟨_, h.r4, eqI ?_⟩
  rcases hk with ⟨rfl, he⟩ | ⟨rfl, he⟩ | ⟨rfl, he⟩
  · refine ⟨_, h.r4, eqI ?_⟩
    exact fin st' h.r1 h.r3 (by rw [h.hσ]; simp at he; rw [he])
  · refine ⟨_, h.r3, _, getL_ref (by rw [h.hσ]; exact upd_at), ?_⟩
    refine ⟨_, h.r5, andI (L' % 4) (bitAnd_m2 _) (lshI (L' % 4 * 16) (by omega) rfl ⟨_, rfl, getW_b64 (by omega) (by omega) ⟨_, _, _, rfl, rfl, at_iv h.hσ, by rw [iv_len]; omega, ?_⟩⟩)⟩
    have h1 := put_iv (c := cv (L' % 4 * 16)) h.hσ
    refine ⟨_, h.r3, _, getL_ref (at_iv h1), _, _, _, rfl, rfl, at_iv h1, by rw [iv_len]; simp; omega, ?_⟩
    have h2 := put_iv (c := 61) h1
    refine ⟨_, h.r3, _, getL_ref (at_iv h2), _, _, _, rfl, rfl, at_iv h2, by rw [iv_len]; simp; omega, ?_⟩
    have h3 := put_iv (c := 61) h2
    exact fin _ h.r1 h.r3 (by rw [h3]; simp at he; rw [he]; simp)
  · refine ⟨_, h.r4, eqI ?_⟩
    refine ⟨_, h.r3, _, getL_ref (by rw [h.hσ]; exact upd_at), ?_⟩
    refine ⟨_, h.r5, andI (L' % 16) (bitAnd_m4 _) (lshI (L' % 16 * 4) (by omega) rfl ⟨_, rfl, getW_b64 (by omega) (by omega) ⟨_, _, _, rfl, rfl, at_iv h.hσ, by rw [iv_len]; omega, ?_⟩⟩)⟩
    have h1 := put_iv (c := cv (L' % 16 * 4)) h.hσ
    refine ⟨_, h.r3, _, getL_ref (at_iv h1), _, _, _, rfl, rfl, at_iv h1, by rw [iv_len]; simp; omega, ?_⟩
    have h2 := put_iv (c := 61) h1
    exact fin _ h.r1 h.r3 (by rw [h2]; simp at he; rw [he]; simp)
theorem c_b64encode {W : Wd} (G : GW W) {j : Nat} {bs : List Int} {σ : St} {Q : V → St → Prop} (ho : Oct bs) (hl : bs.length ≤ 10000) (q : Q (.bytes (encG bs)) σ) : CallOK W (j + 3) 129 [.bytes bs] [] Q σ := by
  refine call_introB (params := [Str.ofString "s", Str.ofString "altchars"]) (names := [Str.ofString "encoded"]) (ys := [.bytes bs, .none]) G.f_b64encode rfl (fun A L => iS_b64encode G A L (j + 2)) ?_ (by decide +kernel) (by decide +kernel) (by decide +kernel) rfl ?_
  · intro F s vs kvs g rs hk rk
    cases rs with
    | @cons _ v _ _ r rs =>
    cases rs
    obtain rfl := no_kw hk
    obtain ⟨n, hn⟩ := G.h_d122
    exact ⟨[v, .none], .of_defaults (T := 122) rfl (g.up _ _ hn) rfl rfl rfl, .cons r (.cons .none .nil)⟩
  refine ⟨_, rfl, rfl, c_b2a (j := j) G ho hl ?_⟩
  refine ⟨_, rfl, _, .nn, ?_⟩
  exact ⟨_, rfl, σ, Sub.refl _, q⟩
end Mine

namespace Mine
open PySem PySem.W PyProof.Rows PySem.Calls

abbrev a2B (W : Wd) (j : Nat) : PF := (seqW (ifS (cmW eqW (locW 8) (cW (.int 61))) (seqW (asgS (biW addW (locW 6) (cW (.int 1))) (setW 6))
  (seqW (ifS (andB (cmW (icmpW fun i j => decide (j ≤ i)) (locW 4) (cW (.int 2))) (cmW (icmpW fun i j => decide (i ≤ j)) (biW addW (locW 4) (locW 6)) (cW (.int 4)))) (seqW (asgS (biW addW (locW 7) (cW (.int 1))) (setW 7))
  (seqW contW
  nilW)) nilW)
  (seqW (ifS (notB (valB (locW 1))) (seqW (asgS (biW addW (locW 7) (cW (.int 1))) (setW 7))
  (seqW contW
  nilW)) nilW)
  (seqW (ifS (cmW eqW (locW 4) (cW (.int 1))) (seqW brkW
  nilW) nilW)
  (seqW (ifS (andB (cmW eqW (locW 4) (cW (.int 0))) (cmW eqW (locW 7) (cW (.int 0)))) (seqW noS
  nilW) nilW)
  (seqW noS
  nilW)))))) nilW)
  (seqW (asgS (cbW (argS (locW 8) arg0) (callW W j 105)) (setW 8))
  (seqW (ifS (cmW (icmpW fun i j => decide (j ≤ i)) (locW 8) (cW (.int 64))) (seqW (ifS (valB (locW 1)) (seqW noS
  nilW) nilW)
  (seqW (asgS (biW addW (locW 7) (cW (.int 1))) (setW 7))
  (seqW contW
  nilW))) nilW)
  (seqW (ifS (andB (valB (locW 6)) (valB (locW 1))) (seqW (ifS (cmW eqW (biW addW (locW 4) (locW 6)) (cW (.int 4))) (seqW noS
  nilW) nilW)
  (seqW noS
  nilW)) nilW)
  (seqW (asgS (cW (.int 0)) (setW 6))
  (seqW (ifS (cmW eqW (locW 4) (cW (.int 0))) (seqW (asgS (cW (.int 1)) (setW 4))
  (seqW (asgS (locW 8) (setW 5))
  nilW)) (seqW (ifS (cmW eqW (locW 4) (cW (.int 1))) (seqW (asgS (cW (.int 2)) (setW 4))
  (seqW (exprW (mtW (locW 3) (argS (biW orW (biW lshW (locW 5) (cW (.int 2))) (biW rshW (locW 8) (cW (.int 4)))) arg0) appendW))
  (seqW (asgS (biW andW (locW 8) (cW (.int 15))) (setW 5))
  nilW))) (seqW (ifS (cmW eqW (locW 4) (cW (.int 2))) (seqW (asgS (cW (.int 3)) (setW 4))
  (seqW (exprW (mtW (locW 3) (argS (biW orW (biW lshW (locW 5) (cW (.int 4))) (biW rshW (locW 8) (cW (.int 2)))) arg0) appendW))
  (seqW (asgS (biW andW (locW 8) (cW (.int 3))) (setW 5))
  nilW))) (seqW (asgS (cW (.int 0)) (setW 4))
  (seqW (exprW (mtW (locW 3) (argS (biW orW (biW lshW (locW 5) (cW (.int 6))) (locW 8)) arg0) appendW))
  (seqW (asgS (cW (.int 0)) (setW 5))
  nilW))))
  nilW))
  nilW))
  (seqW (asgS (biW addW (locW 7) (cW (.int 1))) (setW 7))
  nilW)))))))
abbrev a2S : PF := (seqW (ifS (cmW eqW (locW 4) (cW (.int 0))) (seqW (asgS (cW (.int 1)) (setW 4))
  (seqW (asgS (locW 8) (setW 5))
  nilW)) (seqW (ifS (cmW eqW (locW 4) (cW (.int 1))) (seqW (asgS (cW (.int 2)) (setW 4))
  (seqW (exprW (mtW (locW 3) (argS (biW orW (biW lshW (locW 5) (cW (.int 2))) (biW rshW (locW 8) (cW (.int 4)))) arg0) appendW))
  (seqW (asgS (biW andW (locW 8) (cW (.int 15))) (setW 5))
  nilW))) (seqW (ifS (cmW eqW (locW 4) (cW (.int 2))) (seqW (asgS (cW (.int 3)) (setW 4))
  (seqW (exprW (mtW (locW 3) (argS (biW orW (biW lshW (locW 5) (cW (.int 4))) (biW rshW (locW 8) (cW (.int 2)))) arg0) appendW))
  (seqW (asgS (biW andW (locW 8) (cW (.int 3))) (setW 5))
  nilW))) (seqW (asgS (cW (.int 0)) (setW 4))
  (seqW (exprW (mtW (locW 3) (argS (biW orW (biW lshW (locW 5) (cW (.int 6))) (locW 8)) arg0) appendW))
  (seqW (asgS (cW (.int 0)) (setW 5))
  nilW))))
  nilW))
  nilW))
  (seqW (asgS (biW addW (locW 7) (cW (.int 1))) (setW 7))
  nilW))
structure A2 (o : Addr) (σ₀ : St) (outs : List Int) (q L p : Int) (st : S) : Prop where
  r1 : st.ρ 1 = some (.bool false)
  r3 : st.ρ 3 = some (.ref o)
  r4 : st.ρ 4 = some (.int q)
  r5 : st.ρ 5 = some (.int L)
  r6 : st.ρ 6 = some (.int p)
  r7 : ∃ i, st.ρ 7 = some (.int i)
  hσ : st.σ = upd σ₀ o (.list (iv outs))
theorem a2_pre {W : Wd} (G : GW W) {j : Nat} {st : S} {o : Addr} {σ₀ : St} {outs : List Int} {q L p v : Int} {xs : List V} {Q : Fl → S → Prop} (h : A2 o σ₀ outs q L p st) (h0 : 0 ≤ v) (h1 : v < 64)
    (next : ∀ st' Z, A2 o σ₀ outs q L 0 st' → st'.ρ 8 = some (.int v) → (∀ st, Z .next st = forL (setW 8) (a2B W (j + 1)) Q xs st) → a2S Z st') : forL (setW 8) (a2B W (j + 1)) Q (.int (cv v) :: xs) st := by
  have hr := cv_rng h0 h1
  obtain ⟨i7, r7⟩ := h.r7
  refine ⟨_, rfl, eqI ?_⟩
  rw [show (cv v == 61) = false by rw [beq_eq_false_iff_ne]; exact hr.2.2]
  refine ⟨_, rfl, c_b64_value (j := j) G h0 h1 ?_⟩
  refine ⟨_, rfl, _, _, rfl, rfl, ifF (fun a => absurd (of_decide_eq_true a) (by omega)) (fun _ => ?_)⟩
  refine ⟨_, h.r6, ?_⟩
  have fin : ∀ st' Z, A2 o σ₀ outs q L 0 st' → st'.ρ 8 = some (.int v) → (∀ st, Z .next st = forL (setW 8) (a2B W (j + 1)) Q xs st) → a2S Z st' := next
  refine ifF (fun _ => ⟨_, h.r1, ?_⟩) (fun _ => ?_)
  · exact fin _ _ ⟨h.r1, h.r3, h.r4, h.r5, rfl, ⟨_, r7⟩, h.hσ⟩ rfl (fun _ => rfl)
  · exact fin _ _ ⟨h.r1, h.r3, h.r4, h.r5, rfl, ⟨_, r7⟩, h.hσ⟩ rfl (fun _ => rfl)
theorem a2_0 {W : Wd} (G : GW W) {j : Nat} {st : S} {o : Addr} {σ₀ : St} {outs : List Int} {L p v : Int} {xs : List V} {Q : Fl → S → Prop} (h : A2 o σ₀ outs 0 L p st) (h0 : 0 ≤ v) (h1 : v < 64)
    (next : ∀ st', A2 o σ₀ outs 1 v 0 st' → forL (setW 8) (a2B W (j + 1)) Q xs st') : forL (setW 8) (a2B W (j + 1)) Q (.int (cv v) :: xs) st := by
  refine a2_pre G h h0 h1 fun st' Z h' h8 hZ => ?_
  obtain ⟨i7, r7⟩ := h'.r7
  refine ⟨_, h'.r4, eqI ?_⟩
  refine ⟨_, h8, ?_⟩
  refine ⟨_, r7, addI (i7 + 1) rfl ?_⟩
  show Z .next _
  rw [hZ]
  exact next _ ⟨h'.r1, h'.r3, rfl, rfl, h'.r6, ⟨_, rfl⟩, h'.hσ⟩
theorem a2_1 {W : Wd} (G : GW W) {j : Nat} {st : S} {o : Addr} {σ₀ : St} {outs : List Int} {L p v c d : Int} {xs : List V} {Q : Fl → S → Prop} (h : A2 o σ₀ outs 1 L p st) (hL : 0 ≤ L ∧ L < 64) (h0 : 0 ≤ v) (h1 : v < 64) (hl : outs.length ≤ 1000000) (hc : L * 4 + v / 16 = c) (hd : v % 16 = d)
    (next : ∀ st', A2 o σ₀ (outs ++ [c]) 2 d 0 st' → forL (setW 8) (a2B W (j + 1)) Q xs st') : forL (setW 8) (a2B W (j + 1)) Q (.int (cv v) :: xs) st := by
  refine a2_pre G h h0 h1 fun st' Z h' h8 hZ => ?_
  obtain ⟨i7, r7⟩ := h'.r7
  refine ⟨_, h'.r4, eqI ⟨_, h'.r4, eqI ?_⟩⟩
  refine ⟨_, h'.r3, _, getL_ref (at_iv h'.hσ), ?_⟩
  refine ⟨_, h'.r5, lshI (L * 4) (by omega) rfl ⟨_, h8, rshI (v / 16) (by omega) rfl (orI c (by rw [← hc]; exact or_low 2 (by omega) (by omega)) ⟨_, _, _, rfl, rfl, at_iv h'.hσ, by rw [iv_len]; omega, ?_⟩)⟩⟩
  refine ⟨_, h8, andI d (by rw [bitAnd_m4]; exact hd) ?_⟩
  refine ⟨_, r7, addI (i7 + 1) rfl ?_⟩
  show Z .next _
  rw [hZ]
  exact next _ ⟨h'.r1, h'.r3, rfl, rfl, h'.r6, ⟨_, rfl⟩, put_iv (c := c) h'.hσ⟩
theorem a2_2 {W : Wd} (G : GW W) {j : Nat} {st : S} {o : Addr} {σ₀ : St} {outs : List Int} {L p v c d : Int} {xs : List V} {Q : Fl → S → Prop} (h : A2 o σ₀ outs 2 L p st) (hL : 0 ≤ L ∧ L < 64) (h0 : 0 ≤ v) (h1 : v < 64) (hl : outs.length ≤ 1000000) (hc : L * 16 + v / 4 = c) (hd : v % 4 = d)
    (next : ∀ st', A2 o σ₀ (outs ++ [c]) 3 d 0 st' → forL (setW 8) (a2B W (j + 1)) Q xs st') : forL (setW 8) (a2B W (j + 1)) Q (.int (cv v) :: xs) st := by
  refine a2_pre G h h0 h1 fun st' Z h' h8 hZ => ?_
  obtain ⟨i7, r7⟩ := h'.r7
  refine ⟨_, h'.r4, eqI ⟨_, h'.r4, eqI ⟨_, h'.r4, eqI ?_⟩⟩⟩
  refine ⟨_, h'.r3, _, getL_ref (at_iv h'.hσ), ?_⟩
  refine ⟨_, h'.r5, lshI (L * 16) (by omega) rfl ⟨_, h8, rshI (v / 4) (by omega) rfl (orI c (by rw [← hc]; exact or_low 4 (by omega) (by omega)) ⟨_, _, _, rfl, rfl, at_iv h'.hσ, by rw [iv_len]; omega, ?_⟩)⟩⟩
  refine ⟨_, h8, andI d (by rw [bitAnd_m2]; exact hd) ?_⟩
  refine ⟨_, r7, addI (i7 + 1) rfl ?_⟩
  show Z .next _
  rw [hZ]
  exact next _ ⟨h'.r1, h'.r3, rfl, rfl, h'.r6, ⟨_, rfl⟩, put_iv (c := c) h'.hσ⟩
theorem a2_3 {W : Wd} (G : GW W) {j : Nat} {st : S} {o : Addr} {σ₀ : St} {outs : List Int} {L p v c : Int} {xs : List V} {Q : Fl → S → Prop} (h : A2 o σ₀ outs 3 L p st) (hL : 0 ≤ L ∧ L < 64) (h0 : 0 ≤ v) (h1 : v < 64) (hl : outs.length ≤ 1000000) (hc : L * 64 + v = c)
    (next : ∀ st', A2 o σ₀ (outs ++ [c]) 0 0 0 st' → forL (setW 8) (a2B W (j + 1)) Q xs st') : forL (setW 8) (a2B W (j + 1)) Q (.int (cv v) :: xs) st := by
  refine a2_pre G h h0 h1 fun st' Z h' h8 hZ => ?_
  obtain ⟨i7, r7⟩ := h'.r7
  refine ⟨_, h'.r4, eqI ⟨_, h'.r4, eqI ⟨_, h'.r4, eqI ?_⟩⟩⟩
  refine ⟨_, h'.r3, _, getL_ref (at_iv h'.hσ), ?_⟩
  refine ⟨_, h'.r5, lshI (L * 64) (by omega) rfl ⟨_, h8, orI c (by rw [← hc]; exact or_low 6 (by omega) (by omega)) ⟨_, _, _, rfl, rfl, at_iv h'.hσ, by rw [iv_len]; omega, ?_⟩⟩⟩
  refine ⟨_, r7, addI (i7 + 1) rfl ?_⟩
  show Z .next _
  rw [hZ]
  exact next _ ⟨h'.r1, h'.r3, rfl, rfl, h'.r6, ⟨_, rfl⟩, put_iv (c := c) h'.hσ⟩
theorem a2_pad {W : Wd} {j : Nat} {st : S} {o : Addr} {σ₀ : St} {outs : List Int} {q L p : Int} {xs : List V} {Q : Fl → S → Prop} (h : A2 o σ₀ outs q L p st) (hq : 2 ≤ q) (hp : q + (p + 1) ≤ 4)
    (next : ∀ st', A2 o σ₀ outs q L (p + 1) st' → forL (setW 8) (a2B W j) Q xs st') : forL (setW 8) (a2B W j) Q (.int 61 :: xs) st := by
  obtain ⟨i7, r7⟩ := h.r7
  refine ⟨_, rfl, eqI ?_⟩
  refine ⟨_, h.r6, addI (p + 1) rfl ?_⟩
  refine ⟨_, h.r4, _, _, rfl, rfl, ifF (fun _ => ?_) (fun a => absurd (of_decide_eq_false a) (by omega))⟩
  refine ⟨_, h.r4, _, rfl, addI (q + (p + 1)) rfl ⟨_, _, rfl, rfl, ifF (fun _ => ?_) (fun a => absurd (of_decide_eq_false a) (by omega))⟩⟩
  refine ⟨_, r7, addI (i7 + 1) rfl ?_⟩
  exact next _ ⟨h.r1, h.r3, h.r4, h.r5, rfl, ⟨_, rfl⟩, h.hσ⟩
theorem a2_loop {W : Wd} (G : GW W) {j : Nat} {o : Addr} {σ₀ : St} {Q : Fl → S → Prop} : ∀ (bs outs : List Int) (L : Int) (st : S), A2 o σ₀ outs 0 L 0 st → Oct bs → outs.length + bs.length ≤ 100000 →
    (∀ (st' : S) (q L p : Int), A2 o σ₀ (outs ++ bs) q L p st' → (q = 0 ∨ (q ≠ 1 ∧ q + p = 4)) → Q .next st') → forL (setW 8) (a2B W (j + 1)) Q (iv (encG bs)) st
  | [], outs, L, st, h, _, _, K => K st 0 L 0 (by rw [List.append_nil]; exact h) (.inl rfl)
  | [a], outs, L, st, h, ho, hl, K => by
    have ha := ho a (.head _)
    have l0 : outs.length ≤ 1000000 := Nat.le_trans (Nat.le_add_right _ _) (Nat.le_trans hl (by decide))
    refine a2_0 (xs := iv [cv (a % 4 * 16), 61, 61]) G h (b64a ha).1 (b64a ha).2 fun s1 h1 => ?_
    refine a2_1 (xs := iv [61, 61]) (c := a) (d := 0) G h1 (b64a ha) b64b0.1 b64b0.2 l0 b64r10 b64r20 fun s2 h2 => ?_
    refine a2_pad (xs := iv [61]) h2 (by decide) (by decide) fun s3 h3 => ?_
    refine a2_pad (xs := []) h3 (by decide) (by decide) fun s4 h4 => ?_
    exact K s4 _ _ _ h4 (.inr ⟨by decide, by decide⟩)
  | [a, b], outs, L, st, h, ho, hl, K => by
    have ha := ho a (.head _)
    have hb := ho b (.tail _ (.head _))
    have l0 : outs.length ≤ 100000 := Nat.le_trans (Nat.le_add_right _ _) hl
    have l1 : (outs ++ [a]).length ≤ 1000000 := by rw [List.length_append]; exact Nat.le_trans (Nat.add_le_add_right l0 _) (show 100000 + 1 ≤ 1000000 by decide)
    refine a2_0 (xs := iv [cv (a % 4 * 16 + b / 16), cv (b % 16 * 4), 61]) G h (b64a ha).1 (b64a ha).2 fun s1 h1 => ?_
    refine a2_1 (xs := iv [cv (b % 16 * 4), 61]) (c := a) (d := b / 16) G h1 (b64a ha) (b64b hb).1 (b64b hb).2 (Nat.le_trans l0 (by decide)) (b64r1 hb) (b64r2 hb) fun s2 h2 => ?_
    refine a2_2 (xs := iv [61]) (c := b) (d := 0) G h2 (b64h hb) b64c0.1 b64c0.2 l1 b64r30 b64r40 fun s3 h3 => ?_
    refine a2_pad (xs := []) h3 (by decide) (by decide) fun s4 h4 => ?_
    exact K s4 _ _ _ (by rw [List.append_assoc] at h4; exact h4) (.inr ⟨by decide, by decide⟩)
  | a :: b :: c :: r, outs, L, st, h, ho, hl, K => by
    have ha := ho a (.head _)
    have hb := ho b (.tail _ (.head _))
    have hc := ho c (.tail _ (.tail _ (.head _)))
    have l0 : outs.length ≤ 100000 := Nat.le_trans (Nat.le_add_right _ _) hl
    have l1 : (outs ++ [a]).length ≤ 1000000 := by rw [List.length_append]; exact Nat.le_trans (Nat.add_le_add_right l0 _) (show 100000 + 1 ≤ 1000000 by decide)
    have l2 : (outs ++ [a] ++ [b]).length ≤ 1000000 := by rw [List.length_append, List.length_append]; exact Nat.le_trans (Nat.add_le_add_right (Nat.add_le_add_right l0 _) _) (show 100000 + 1 + 1 ≤ 1000000 by decide)
    refine a2_0 (xs := iv (cv (a % 4 * 16 + b / 16) :: cv (b % 16 * 4 + c / 64) :: cv (c % 64) :: encG r)) G h (b64a ha).1 (b64a ha).2 fun s1 h1 => ?_
    refine a2_1 (xs := iv (cv (b % 16 * 4 + c / 64) :: cv (c % 64) :: encG r)) (c := a) (d := b / 16) G h1 (b64a ha) (b64b hb).1 (b64b hb).2 (Nat.le_trans l0 (by decide)) (b64r1 hb) (b64r2 hb) fun s2 h2 => ?_
    refine a2_2 (xs := iv (cv (c % 64) :: encG r)) (c := b) (d := c / 64) G h2 (b64h hb) (b64c hc).1 (b64c hc).2 l1 (b64r3 hc) (b64r4 hc) fun s3 h3 => ?_
    refine a2_3 (xs := iv (encG r)) (c := c) G h3 (b64k hc) b64d.1 b64d.2 l2 b64r5 fun s4 h4 => ?_
    have e : outs ++ [a] ++ [b] ++ [c] ++ r = outs ++ (a :: b :: c :: r) := by rw [List.append_assoc, List.append_assoc, List.append_assoc]; rfl
    refine a2_loop G r _ 0 s4 h4 (fun y hy => ho y (.tail _ (.tail _ (.tail _ hy)))) (by rw [← List.length_append, e, List.length_append]; exact hl) fun st' q L p e1 e2 => K st' q L p (by rw [e] at e1; exact e1) e2
theorem c_a2b {W : Wd} (G : GW W) {j : Nat} {bs : List Int} {σ : St} {Q : V → St → Prop} (ho : Oct bs) (hl : bs.length ≤ 10000) (q : Q (.bytes bs) σ) : CallOK W (j + 2) 113 [.bytes (encG bs)] [(Str.ofString "strict_mode", .bool false)] Q σ := by
  refine call_introB (params := [Str.ofString "data", Str.ofString "strict_mode"]) (names := [Str.ofString "ascii_data", Str.ofString "out", Str.ofString "quad_pos", Str.ofString "leftchar", Str.ofString "pads", Str.ofString "i", Str.ofString "this_ch"]) (ys := [.bytes (encG bs), .bool false]) G.f_a2b_base64 rfl (fun A L => iS_a2b_base64 G A L (j + 1)) ?_ (by decide +kernel) (by decide +kernel) (by decide +kernel) rfl ?_
  · intro F s vs kvs g rs hk rk
    cases rs with
    | @cons _ v _ _ r rs =>
    cases rs
    obtain ⟨u, rfl, ru⟩ := one_kw hk rk
    exact ⟨[v, u], .of_eq rfl, .cons r (.cons ru .nil)⟩
  refine ⟨_, rfl, c_ascii (j := j) G ?_⟩
  refine ⟨_, rfl, c_truth (j := j) G ?_⟩
  refine ⟨by decide, ?_⟩
  intro o hoN
  refine ⟨_, rfl, _, rfl, ?_⟩
  refine a2_loop (o := o) (σ₀ := σ) G bs [] 0 _ ⟨rfl, rfl, rfl, rfl, rfl, ⟨_, rfl⟩, rfl⟩ ho (by simp; omega) ?_
  intro st' qp L p h hq
  have fin : (seqW (retS (cbW (argS (locW 3) arg0) bytesW)) nilW) (retW Q) st' := by
    refine ⟨_, h.r3, _, _, _, rfl, getL_ref (at_iv h.hσ), intsOf_iv _, ho, by simp; omega, ?_⟩
    exact ⟨σ, by rw [h.hσ]; exact sub_upd hoN, q⟩
  refine ⟨_, h.r4, eqI ?_⟩
  rw [show (qp == 1) = false by rw [beq_eq_false_iff_ne]; omega]
  refine ⟨_, h.r4, neI ?_⟩
  refine ifF (fun hb => ⟨_, h.r4, _, h.r6, addI (qp + p) rfl (ltI ?_)⟩) (fun _ => fin)
  refine ifF (fun hc => absurd (of_decide_eq_true hc) ?_) (fun _ => fin)
  rcases hq with rfl | ⟨_, e⟩
  · simp at hb
  · omega
theorem c_b64decode {W : Wd} (G : GW W) {j : Nat} {bs : List Int} {σ : St} {Q : V → St → Prop} (ho : Oct bs) (hl : bs.length ≤ 10000) (q : Q (.bytes bs) σ) : CallOK W (j + 3) 137 [.bytes (encG bs)] [] Q σ := by
  refine call_introB (params := [Str.ofString "s", Str.ofString "altchars", Str.ofString "validate"]) (names := []) (ys := [.bytes (encG bs), .none, .bool false]) G.f_b64decode rfl (fun A L => iS_b64decode G A L (j + 2)) ?_ (by decide +kernel) (by decide +kernel) (by decide +kernel) rfl ?_
  · intro F s vs kvs g rs hk rk
    cases rs with
    | @cons _ v _ _ r rs =>
    cases rs
    obtain rfl := no_kw hk
    obtain ⟨n, hn⟩ := G.h_d130
    exact ⟨[v, .none, .bool false], .of_defaults (T := 130) rfl (g.up _ _ hn) rfl rfl rfl, .cons r (.cons .none (.cons (.bool _) .nil))⟩
  refine ⟨_, rfl, c_fromdec (j := j + 1) G ?_⟩
  refine ⟨_, rfl, _, .nn, ?_⟩
  refine ⟨_, rfl, _, rfl, rfl, c_a2b (j := j) G ho hl ?_⟩
  exact ⟨σ, Sub.refl _, q⟩
end Mine

namespace Mine
open PySem PySem.W PyProof.Rows PySem.Calls
abbrev tS__law_drawn (W : Wd) (j : Nat) : PF := (seqW (asgS (slW (biW addW (slW (locW 0) oN (oS (cW (.int 7)))) (lsW (argS (cW (.int 0)) (argS (cW (.int 1755)) (argS (cW (.int 1611)) (argS (cW (.int 2517)) (argS (cW (.int 2273)) (argS (cW (.int 1260)) (argS (cW (.int 3272)) arg0))))))))) oN (oS (cW (.int 7)))) (fzA (setW 1)))
  (seqW (asgS (compW 3 (cbW (argS (cW (.int 5)) arg0) rangeW) (setW 3) tT (biW modW (biW fdivW (biW addW (itW (locW 1) (cW (.int 0))) (cW (.int 57))) (biW powW (cW (.int 3)) (locW 3))) (cW (.int 3)))) (setW 2))
  (seqW (retS (tpW (argS (locW 2) (argS (compW 3 (fzW (slW (locW 1) (oS (cW (.int 1))) oN)) (setW 3) tT (tpW (argS (biW modW (locW 3) (cW (.int 5))) (argS (biW modW (biW fdivW (locW 3) (cW (.int 5))) (cW (.int 5))) (argS (biW modW (biW fdivW (locW 3) (cW (.int 25))) (cW (.int 5000))) arg0))))) arg0))))
  nilW)))
theorem iS__law_drawn {W : Wd} (G : GW W) (A : Around) (L : Addr) (j : Nat) : Exs (fnCxC W A fd__law_drawn L 149 [(Str.ofString "script", false), (Str.ofString "numbers", true), (Str.ofString "ranks", false)] j) (bodyOf (defOf 25)) (tS__law_drawn W j) :=
  (exs_cons (ex_assign (ev_slice (ev_bin (ev_slice (ev_local (i := 0) rfl rfl rfl) opt_none (opt_some ev_int)) (ev_list (.cons rfl ev_int (.cons rfl ev_int (.cons rfl ev_int (.cons rfl ev_int (.cons rfl ev_int (.cons rfl ev_int (.cons rfl ev_int .nil)))))))) add_ok) opt_none (opt_some ev_int)) (asg_freeze (asg_cell (i := 1) rfl rfl rfl)))
  (exs_cons (ex_assign_comp [(Str.ofString "place")] rfl rfl (by decide +kernel) rfl (by decide +kernel) (fun _ => rfl) (by decide +kernel) (by decide +kernel) 3 rfl (ev_callT ⟨G.g_range, rfl, rfl, rfl, rfl⟩ (.cons rfl ev_int .nil) range_ok) (fun _ => (asg_local (i := 3) rfl rfl)) (fun _ => tst_nil) (fun _ => (ev_bin (ev_bin (ev_bin (ev_item (ev_cell (i := 1) rfl rfl rfl rfl) ev_int) ev_int add_ok) (ev_bin ev_int (ev_local (i := 3) rfl rfl rfl) pow_ok) fdiv_ok) ev_int mod_ok)) (asg_local (i := 2) rfl rfl))
  (exs_cons (ex_ret (ev_tuple (.cons rfl (ev_local (i := 2) rfl rfl rfl) (.cons rfl (ev_comp [(Str.ofString "x")] rfl (by decide +kernel) rfl (by decide +kernel) (fun _ => rfl) (by decide +kernel) (by decide +kernel) 3 rfl (ev_freeze (ev_slice (ev_cell (i := 1) rfl rfl rfl rfl) (opt_some ev_int) opt_none)) (fun _ => (asg_local (i := 3) rfl rfl)) (fun _ => tst_nil) (fun _ => (ev_tuple (.cons rfl (ev_bin (ev_local (i := 3) rfl rfl rfl) ev_int mod_ok) (.cons rfl (ev_bin (ev_bin (ev_local (i := 3) rfl rfl rfl) ev_int fdiv_ok) ev_int mod_ok) (.cons rfl (ev_bin (ev_bin (ev_local (i := 3) rfl rfl rfl) ev_int fdiv_ok) ev_int mod_ok) .nil)))))) .nil))))
  exs_nil)))
theorem cS__law_drawn {W : Wd} (G : GW W) {j : Nat} {xs : List V} {Q : V → St → Prop} {σ : St} (hlen : xs.length = 1) (q : tS__law_drawn W j (retW Q) ⟨σ, fun i => xs[i]?⟩) : CallOK W (j + 1) 149 xs [] Q σ :=
  call_introC (params := [(Str.ofString "script")]) (names := [(Str.ofString "script", false), (Str.ofString "numbers", true), (Str.ofString "ranks", false)]) G.f__law_drawn rfl (fun A L => iS__law_drawn G A L j) (len1 fun _ => rfl) rfl rfl (by decide +kernel) (by intro L p hp; simp only [List.mem_cons, List.not_mem_nil, or_false] at hp; rcases hp with rfl | rfl | rfl <;> intro h <;> first | rfl | cases h) (by decide +kernel) hlen q
abbrev tS__law_octets (W : Wd) (j : Nat) : PF := (seqW (asgS (lsW (argS (biW modW (locW 0) (cW (.int 64))) arg0)) (setW 1))
  (seqW (whileW (cmW (icmpW fun i j => decide (j < i)) (locW 0) (cW (.int 63))) (seqW (asgS (biW fdivW (locW 0) (cW (.int 64))) (setW 0))
  (seqW (exprW (mtW (locW 1) (argS (cW (.int 0)) (argS (biW addW (biW modW (locW 0) (cW (.int 64))) (cW (.int 64))) arg0)) insertW))
  nilW)))
  (seqW (retS (locW 1))
  nilW)))
theorem iS__law_octets {W : Wd} (G : GW W) (A : Around) (L : Addr) (j : Nat) : Exs (fnCx W A fd__law_octets L 156 ([(Str.ofString "number")] ++ [(Str.ofString "octets")]) j) (bodyOf (defOf 26)) (tS__law_octets W j) :=
  (exs_cons (ex_assign (ev_list (.cons rfl (ev_bin (ev_local (i := 0) rfl rfl rfl) ev_int mod_ok) .nil)) (asg_local (i := 1) rfl rfl))
  (exs_cons (ex_while (evT_cmp (ev_local (i := 0) rfl rfl rfl) ev_int gt_ok rfl) (exs_cons (ex_assign (ev_bin (ev_local (i := 0) rfl rfl rfl) ev_int fdiv_ok) (asg_local (i := 0) rfl rfl))
  (exs_cons (ex_expr (ev_meth PySem.F.slot_list_insert (by rfl) (ev_local (i := 1) rfl rfl rfl) (.cons rfl ev_int (.cons rfl (ev_bin (ev_bin (ev_local (i := 0) rfl rfl rfl) ev_int mod_ok) ev_int add_ok) .nil)) insert_ok))
  exs_nil)))
  (exs_cons (ex_ret (ev_local (i := 1) rfl rfl rfl))
  exs_nil)))
theorem cS__law_octets {W : Wd} (G : GW W) {j : Nat} {xs : List V} {Q : V → St → Prop} {σ : St} (hlen : xs.length = 1) (q : tS__law_octets W j (retW Q) ⟨σ, fun i => xs[i]?⟩) : CallOK W (j + 1) 156 xs [] Q σ :=
  call_intro (params := [(Str.ofString "number")]) (names := [(Str.ofString "octets")]) G.f__law_octets rfl (fun A L => iS__law_octets G A L j) (len1 fun _ => rfl) (by decide +kernel) (by decide +kernel) (by decide +kernel) hlen q
abbrev tS__law_entry (W : Wd) (j : Nat) : PF := (seqW (asgS (biW addW (cbW (argS (locW 0) arg0) (callW W j 156)) (cbW (argS (locW 1) arg0) (callW W j 156))) (setW 2))
  (seqW (retS (cbW (argS (cbW (argS (biW addW (biW mulW (lsW (argS (cW (.int 64)) arg0)) (biW modW (fun Q => (cbW (argS (locW 2) arg0) lenW) fun x st => ∃ i, x = .int i ∧ Q (.int (-i)) st) (cW (.int 3)))) (locW 2)) arg0) bytesW) arg0) (callW W j 129)))
  nilW))
theorem iS__law_entry {W : Wd} (G : GW W) (A : Around) (L : Addr) (j : Nat) : Exs (fnCx W A fd__law_entry L 163 ([(Str.ofString "hub"), (Str.ofString "far")] ++ [(Str.ofString "octets")]) j) (bodyOf (defOf 27)) (tS__law_entry W j) :=
  (exs_cons (ex_assign (ev_bin (ev_callF ⟨G.g__law_octets, rfl, rfl, rfl, rfl⟩ G.f__law_octets (.cons rfl (ev_local (i := 0) rfl rfl rfl) .nil) rfl rfl) (ev_callF ⟨G.g__law_octets, rfl, rfl, rfl, rfl⟩ G.f__law_octets (.cons rfl (ev_local (i := 1) rfl rfl rfl) .nil) rfl rfl) add_ok) (asg_local (i := 2) rfl rfl))
  (exs_cons (ex_ret (ev_callF ⟨G.g_b64encode, rfl, rfl, rfl, rfl⟩ G.f_b64encode (.cons rfl (ev_callT ⟨G.g_bytes, rfl, rfl, rfl, rfl⟩ (.cons rfl (ev_bin (ev_bin (ev_list (.cons rfl ev_int .nil)) (ev_bin (ev_un (ev_callB ⟨G.g_len, rfl, rfl, rfl, rfl⟩ (.cons rfl (ev_local (i := 2) rfl rfl rfl) .nil) len_ok) neg_ok) ev_int mod_ok) mul_ok) (ev_local (i := 2) rfl rfl rfl) add_ok) .nil) bytes_ok) .nil) rfl rfl))
  exs_nil))
theorem cS__law_entry {W : Wd} (G : GW W) {j : Nat} {xs : List V} {Q : V → St → Prop} {σ : St} (hlen : xs.length = 2) (q : tS__law_entry W j (retW Q) ⟨σ, fun i => xs[i]?⟩) : CallOK W (j + 1) 163 xs [] Q σ :=
  call_intro (params := [(Str.ofString "hub"), (Str.ofString "far")]) (names := [(Str.ofString "octets")]) G.f__law_entry rfl (fun A L => iS__law_entry G A L j) (len2 fun _ _ => rfl) (by decide +kernel) (by decide +kernel) (by decide +kernel) hlen q
abbrev t1__law_label (W : Wd) (j : Nat) : PF := (asgS (cbW (argS (cbW (argS (locW 0) arg0) (callW W j 137)) arg0) iterW) (setW 1))
abbrev t2__law_label (W : Wd) (j : Nat) : PF := (asgS l0W (setW 2))
abbrev tB__law_label (W : Wd) (j : Nat) : PF := (seqW (asgS (cbW (argS (locW 1) arg0) (callW W j 144)) (setW 3))
  (seqW (exprW (mtW (locW 2) (argS (tpW (argS (locW 3) (argS (cbW (argS (locW 1) arg0) (callW W j 144)) arg0))) arg0) appendW))
  nilW))
theorem cR__law_label {W : Wd} (G : GW W) {j : Nat} {xs : List V} {Q : V → St → Prop} {σ : St} {outer : List Env} (hlen : xs.length = 1) (hstop : StopAt W j 144) (q : t1__law_label W j (nxW (t2__law_label W j (nxW (stopW (tB__law_label W j) 1 2 Q)))) ⟨σ, fun i => xs[i]?⟩) : CallR W (j + 1) 170 outer xs Q σ :=
  call_try (params := [(Str.ofString "text")]) (names := [(Str.ofString "walker"), (Str.ofString "pairs"), (Str.ofString "hub")]) (lev := j) (ix := 1) (ir := 2) (y := (Str.ofString "hub")) (fx := (Str.ofString "_parse_varint")) (x := (Str.ofString "walker")) (r := (Str.ofString "pairs")) (sx := (Str.ofString "StopIteration")) G.f__law_label rfl (len1 fun _ => rfl) (by decide +kernel) (by decide +kernel) (by decide +kernel) hlen (fun A L => (ex_assign (ev_callB ⟨G.g_iter, rfl, rfl, rfl, rfl⟩ (.cons rfl (ev_callF ⟨G.g_b64decode, rfl, rfl, rfl, rfl⟩ G.f_b64decode (.cons rfl (ev_local (i := 0) rfl rfl rfl) .nil) rfl rfl) .nil) iter_ok') (asg_local (i := 1) rfl rfl))) (fun A L => (ex_assign ev_lis0 (asg_local (i := 2) rfl rfl))) (fun A L => (evT_val ev_bool))
  (fun A L => (exs_cons (ex_assign (ev_callF ⟨G.g__parse_varint, rfl, rfl, rfl, rfl⟩ G.f__parse_varint (.cons rfl (ev_local (i := 1) rfl rfl rfl) .nil) rfl rfl) (asg_local (i := 3) rfl rfl))
  (exs_cons (ex_expr (ev_meth PySem.F.slot_list_append (by rfl) (ev_local (i := 2) rfl rfl rfl) (.cons rfl (ev_tuple (.cons rfl (ev_local (i := 3) rfl rfl rfl) (.cons rfl (ev_callF ⟨G.g__parse_varint, rfl, rfl, rfl, rfl⟩ G.f__parse_varint (.cons rfl (ev_local (i := 1) rfl rfl rfl) .nil) rfl rfl) .nil))) .nil) append_ok))
  exs_nil))) (fun A L => ⟨G.g__parse_varint, rfl, rfl, rfl, rfl⟩) G.f__parse_varint hstop (fun A L => ⟨G.g_StopIteration, rfl, rfl, rfl, rfl⟩) (fun _ _ => rfl) (fun _ => rfl) rfl (fun _ _ => rfl) (fun _ => rfl) rfl (fun _ => rfl) (fun _ => rfl) q
abbrev tS__law_search (W : Wd) (j : Nat) : PF := (seqW (asgS (compW 10 (locW 1) (setW 10) tT (tpW (argS (cW (.int 0)) (argS (locW 10) (argS (locW 10) arg0))))) (setW 3))
  (seqW (exprW (cbW (argS (locW 3) arg0) (callW W j 42)))
  (seqW (asgS (lsW (argS (cW (.tuple [])) (argS (cW (.tuple [])) (argS (cW (.tuple [])) (argS (cW (.tuple [])) (argS (cW (.tuple [])) arg0)))))) (setW 4))
  (seqW (whileW (cmW neW (locW 3) l0W) (seqW (asgS (cbW (argS (locW 3) arg0) (callW W j 35)) (tupW [(setW 5), (setW 6), (setW 7)]))
  (seqW (ifS (andB (cmW eqW (itW (locW 4) (locW 7)) (cW (.tuple []))) (orB (cmW eqW (itW (locW 2) (locW 7)) (cW (.tuple []))) (cmW ltW (locW 5) (itW (itW (locW 2) (locW 7)) (cW (.int 0)))))) (seqW (putS (tpW (argS (locW 5) (argS (locW 6) arg0))) (locW 4) (locW 7))
  (seqW (forW (itW (locW 0) (locW 7)) (tupW [(setW 8), (setW 9)]) (seqW (ifS (cmW eqW (itW (locW 4) (locW 8)) (cW (.tuple []))) (seqW (exprW (cbW (argS (locW 3) (argS (tpW (argS (biW addW (locW 5) (locW 9)) (argS (locW 6) (argS (locW 8) arg0)))) arg0)) (callW W j 28)))
  nilW) nilW)
  nilW))
  nilW)) nilW)
  nilW)))
  (seqW (retS (locW 4))
  nilW)))))
theorem iS__law_search {W : Wd} (G : GW W) (A : Around) (L : Addr) (j : Nat) : Exs (fnCx W A fd__law_search L 175 ([(Str.ofString "steps"), (Str.ofString "hubs"), (Str.ofString "bound")] ++ [(Str.ofString "heap"), (Str.ofString "near"), (Str.ofString "far"), (Str.ofString "hub"), (Str.ofString "place"), (Str.ofString "other"), (Str.ofString "size")]) j) (bodyOf (defOf 29)) (tS__law_search W j) :=
  by
  refine exs_cons ?_ ?_
  · exact (ex_assign_comp [(Str.ofString "hub")] rfl rfl (by decide +kernel) rfl (by decide +kernel) (fun _ => rfl) (by decide +kernel) (by decide +kernel) 10 rfl (ev_local (i := 1) rfl rfl rfl) (fun _ => (asg_local (i := 10) rfl rfl)) (fun _ => tst_nil) (fun _ => (ev_tuple (.cons rfl ev_int (.cons rfl (ev_local (i := 10) rfl rfl rfl) (.cons rfl (ev_local (i := 10) rfl rfl rfl) .nil))))) (asg_local (i := 3) rfl rfl))
  refine exs_cons ?_ ?_
  · exact (ex_expr (ev_callF ⟨G.g_heapify, rfl, rfl, rfl, rfl⟩ G.f_heapify (.cons rfl (ev_local (i := 3) rfl rfl rfl) .nil) rfl rfl))
  refine exs_cons ?_ ?_
  · exact (ex_assign (ev_list (.cons rfl ev_tup0 (.cons rfl ev_tup0 (.cons rfl ev_tup0 (.cons rfl ev_tup0 (.cons rfl ev_tup0 .nil)))))) (asg_local (i := 4) rfl rfl))
  refine exs_cons ?_ ?_
  · exact (ex_while (evT_cmp (ev_local (i := 3) rfl rfl rfl) ev_lis0 ne_ok rfl) (exs_cons (ex_assign (ev_callF ⟨G.g_heappop, rfl, rfl, rfl, rfl⟩ G.f_heappop (.cons rfl (ev_local (i := 3) rfl rfl rfl) .nil) rfl rfl) (asg_tuple (.cons rfl (asg_local (i := 5) rfl rfl) (.cons rfl (asg_local (i := 6) rfl rfl) (.cons rfl (asg_local (i := 7) rfl rfl) .nil)))))
  (exs_cons (ex_if (evT_and (evT_cmp (ev_item (ev_local (i := 4) rfl rfl rfl) (ev_local (i := 7) rfl rfl rfl)) ev_tup0 eq_ok rfl) (evT_or (evT_cmp (ev_item (ev_local (i := 2) rfl rfl rfl) (ev_local (i := 7) rfl rfl rfl)) ev_tup0 eq_ok rfl) (evT_cmp (ev_local (i := 5) rfl rfl rfl) (ev_item (ev_item (ev_local (i := 2) rfl rfl rfl) (ev_local (i := 7) rfl rfl rfl)) ev_int) lt_ok rfl))) (exs_cons (ex_put (ev_tuple (.cons rfl (ev_local (i := 5) rfl rfl rfl) (.cons rfl (ev_local (i := 6) rfl rfl rfl) .nil))) (ev_local (i := 4) rfl rfl rfl) (ev_local (i := 7) rfl rfl rfl))
  (exs_cons (ex_for (ev_item (ev_local (i := 0) rfl rfl rfl) (ev_local (i := 7) rfl rfl rfl)) (asg_tuple (.cons rfl (asg_local (i := 8) rfl rfl) (.cons rfl (asg_local (i := 9) rfl rfl) .nil))) (exs_cons (ex_if (evT_cmp (ev_item (ev_local (i := 4) rfl rfl rfl) (ev_local (i := 8) rfl rfl rfl)) ev_tup0 eq_ok rfl) (exs_cons (ex_expr (ev_callF ⟨G.g_heappush, rfl, rfl, rfl, rfl⟩ G.f_heappush (.cons rfl (ev_local (i := 3) rfl rfl rfl) (.cons rfl (ev_tuple (.cons rfl (ev_bin (ev_local (i := 5) rfl rfl rfl) (ev_local (i := 9) rfl rfl rfl) add_ok) (.cons rfl (ev_local (i := 6) rfl rfl rfl) (.cons rfl (ev_local (i := 8) rfl rfl rfl) .nil)))) .nil)) rfl rfl))
  exs_nil) exs_nil)
  exs_nil))
  exs_nil)) exs_nil)
  exs_nil)))
  refine exs_cons ?_ ?_
  · exact (ex_ret (ev_local (i := 4) rfl rfl rfl))
  exact exs_nil
theorem cS__law_search {W : Wd} (G : GW W) {j : Nat} {xs : List V} {Q : V → St → Prop} {σ : St} (hlen : xs.length = 3) (q : tS__law_search W j (retW Q) ⟨σ, fun i => xs[i]?⟩) : CallOK W (j + 1) 175 xs [] Q σ :=
  call_intro (params := [(Str.ofString "steps"), (Str.ofString "hubs"), (Str.ofString "bound")]) (names := [(Str.ofString "heap"), (Str.ofString "near"), (Str.ofString "far"), (Str.ofString "hub"), (Str.ofString "place"), (Str.ofString "other"), (Str.ofString "size")]) G.f__law_search rfl (fun A L => iS__law_search G A L j) (len3 fun _ _ _ => rfl) (by decide +kernel) (by decide +kernel) (by decide +kernel) hlen q
theorem out__law_labels {L L0 : Addr} {e0 : Env} {pl : List Pl} (hk0 : e0.scope.kind ≠ .module) (hf0 : e0.frame = some L0) (h : Pl.d L (Str.ofString "one") ∈ pl) (h0 : Pl.d L0 (Str.ofString "script") ∈ pl) : ∀ env ∈ [envC fd__law_labels L 180, e0], env.scope.kind ≠ .module ∧ ∃ L' z, env.frame = some L' ∧ Pl.d L' z ∈ pl := fun env he => by
  rcases List.mem_cons.mp he with rfl | he
  · exact ⟨by show fd__law_labels.scope.kind ≠ _; decide +kernel, L, _, rfl, h⟩
  · rw [List.mem_singleton.mp he]; exact ⟨hk0, L0, _, hf0, h0⟩
abbrev tS__law_labels (W : Wd) (j : Nat) (L : Addr) (e0 : Env) : PF := (seqW (asgS (compW 20 (cbW (argS (cW (.int 5)) arg0) rangeW) (setW 20) tT (compW 22 (locW 1) (tupW [(setW 22), (setW 23), (setW 24)]) (cmW eqW (locW 22) (locW 20)) (tpW (argS (locW 23) (argS (locW 24) arg0))))) (setW 2))
  (seqW (forW (locW 1) (tupW [(setW 3), (setW 4), (setW 5)]) (seqW (exprW (mtW (itW (locW 2) (locW 4)) (argS (tpW (argS (locW 3) (argS (locW 5) arg0))) arg0) appendW))
  nilW))
  (fz2V 2 (seqW (asgS (lsW (argS (cW (.tuple [])) (argS (cW (.tuple [])) (argS (cW (.tuple [])) (argS (cW (.tuple [])) (argS (cW (.tuple [])) arg0)))))) (setW 6))
  (seqW (asgS (biW addW (compW 20 (cbW (argS (cW (.int 2)) arg0) rangeW) (setW 20) tT (cbW (argS (locW 2) (argS (fzW (compW 22 (cbW (argS (cW (.int 5)) arg0) rangeW) (setW 22) (cmW (icmpW fun i j => decide (j < i)) (itW (locW 0) (locW 22)) (locW 20)) (locW 22))) (argS (locW 6) arg0))) (callW W j 175))) (lsW (argS (locW 6) arg0))) (setW 7))
  (seqW (asgS (tpW (argS (lsW (argS (cW (.bytes [])) (argS (cW (.bytes [])) (argS (cW (.bytes [])) (argS (cW (.bytes [])) (argS (cW (.bytes [])) arg0)))))) (argS (lsW (argS (cW (.bytes [])) (argS (cW (.bytes [])) (argS (cW (.bytes [])) (argS (cW (.bytes [])) (argS (cW (.bytes [])) arg0)))))) arg0))) (swW [8, 9]))
  (seqW (forW (cbW (argS (cW (.int 5)) arg0) rangeW) (setW 10) (seqW (asgS (cbW (argS (locW 2) (argS (fzW (lsW (argS (locW 10) arg0))) (argS (itW (locW 7) (itW (locW 0) (locW 10))) arg0))) (callW W j 175)) (setW 11))
  (seqW (forW (cbW (argS (cW (.int 5)) arg0) rangeW) (setW 12) (seqW (ifS (cmW neW (itW (locW 11) (locW 12)) (cW (.tuple []))) (seqW (putS (biW addW (itW (locW 9) (locW 12)) (cbW (argS (locW 10) (argS (itW (itW (locW 11) (locW 12)) (cW (.int 0))) arg0)) (callW W j 163))) (locW 9) (locW 12))
  nilW) nilW)
  nilW))
  nilW)))
  (seqW (forW (cbW (argS (cW (.int 5)) arg0) rangeW) (setW 12) (seqW (forW (fzW (compW 20 (cbW (argS (cW (.int 2)) arg0) rangeW) (setW 20) (cmW neW (itW (itW (locW 7) (locW 20)) (locW 12)) (cW (.tuple []))) (itW (itW (locW 7) (locW 20)) (locW 12)))) (tupW [(setW 13), (setW 10)]) (seqW (putS (biW addW (itW (locW 8) (locW 12)) (cbW (argS (locW 10) (argS (locW 13) arg0)) (callW W j 163))) (locW 8) (locW 12))
  nilW))
  nilW))
  (fzV 8 (fzV 9 (seqW (retS (tpW (argS (compW 20 (locW 8) (setW 20) tT (fzW (cbW (argS (locW 20) arg0) (callRW W j 170 [envC fd__law_labels L 180, e0])))) (argS (compW 20 (locW 9) (setW 20) tT (fzW (cbW (argS (locW 20) arg0) (callRW W j 170 [envC fd__law_labels L 180, e0])))) arg0))))
  nilW)))))))))))
theorem iS__law_labels {W : Wd} (G : GW W) (A : Around) (L : Addr) (j : Nat) {L0 : Addr} {e0 : Env} (hfr : A.frames = some [e0]) (hk0 : e0.scope.kind ≠ .module) (hf0 : e0.frame = some L0) : Exs (fnCxN W A fd__law_labels L 180 [(Str.ofString "ranks", true), (Str.ofString "ways", true), (Str.ofString "steps", true), (Str.ofString "one", false), (Str.ofString "other", false), (Str.ofString "size", false), (Str.ofString "free", true), (Str.ofString "near", true), (Str.ofString "guides", false), (Str.ofString "entries", false), (Str.ofString "hub", false), (Str.ofString "reached", false), (Str.ofString "place", true), (Str.ofString "far", false)] j L0 [(Str.ofString "script"), (Str.ofString "ways"), (Str.ofString "table"), (Str.ofString "one"), (Str.ofString "other"), (Str.ofString "told")]) (bodyOf (defOf 30)) (tS__law_labels W j L e0) :=
  by
  refine exs_cons ?_ ?_
  · exact (ex_assign (ev_comp1 (Str.ofString "place") rfl (fun _ => rfl) (fun _ => rfl) rfl (by decide +kernel) (fun _ => rfl) 20 rfl (ev_callT ⟨G.g_range, rfl, rfl, rfl, rfl⟩ (.cons rfl ev_int .nil) range_ok) (fun _ => (asg_cell (i := 20) rfl rfl rfl)) (fun _ => tst_nil) (fun _ => (ev_comp [(Str.ofString "one"), (Str.ofString "other"), (Str.ofString "size")] rfl (by decide +kernel) rfl (by decide +kernel) (fun _ => rfl) (by decide +kernel) (by decide +kernel) 22 rfl (ev_cell (i := 1) rfl rfl rfl rfl) (fun _ => (asg_tuple (.cons rfl (asg_local (i := 22) rfl rfl) (.cons rfl (asg_local (i := 23) rfl rfl) (.cons rfl (asg_local (i := 24) rfl rfl) .nil))))) (fun _ => (tst_one (evT_cmp (ev_local (i := 22) rfl rfl rfl) (ev_cell (i := 20) rfl rfl rfl rfl) eq_ok rfl))) (fun _ => (ev_tuple (.cons rfl (ev_local (i := 23) rfl rfl rfl) (.cons rfl (ev_local (i := 24) rfl rfl rfl) .nil))))))) (asg_cell (i := 2) rfl rfl rfl))
  refine exs_cons ?_ ?_
  · exact (ex_for (ev_cell (i := 1) rfl rfl rfl rfl) (asg_tuple (.cons rfl (asg_local (i := 3) rfl rfl) (.cons rfl (asg_local (i := 4) rfl rfl) (.cons rfl (asg_local (i := 5) rfl rfl) .nil)))) (exs_cons (ex_expr (ev_meth PySem.F.slot_list_append (by rfl) (ev_item (ev_cell (i := 2) rfl rfl rfl rfl) (ev_local (i := 4) rfl rfl rfl)) (.cons rfl (ev_tuple (.cons rfl (ev_local (i := 3) rfl rfl rfl) (.cons rfl (ev_local (i := 5) rfl rfl rfl) .nil))) .nil) append_ok))
  exs_nil))
  refine exs_fz2 (i := 2) ?_
  refine exs_cons ?_ ?_
  · exact (ex_assign (ev_list (.cons rfl ev_tup0 (.cons rfl ev_tup0 (.cons rfl ev_tup0 (.cons rfl ev_tup0 (.cons rfl ev_tup0 .nil)))))) (asg_cell (i := 6) rfl rfl rfl))
  refine exs_cons ?_ ?_
  · exact (ex_assign (ev_bin (ev_comp1 (Str.ofString "k") rfl (fun _ => rfl) (fun _ => rfl) rfl (by decide +kernel) (fun _ => rfl) 20 rfl (ev_callT ⟨G.g_range, rfl, rfl, rfl, rfl⟩ (.cons rfl ev_int .nil) range_ok) (fun _ => (asg_cell (i := 20) rfl rfl rfl)) (fun _ => tst_nil) (fun _ => (ev_callF ⟨G.g__law_search, rfl, rfl, rfl, rfl⟩ G.f__law_search (.cons rfl (ev_cell (i := 2) rfl rfl rfl rfl) (.cons rfl (ev_freeze (ev_comp [(Str.ofString "hub")] rfl (by decide +kernel) rfl (by decide +kernel) (fun _ => rfl) (by decide +kernel) (by decide +kernel) 22 rfl (ev_callT ⟨G.g_range, rfl, rfl, rfl, rfl⟩ (.cons rfl ev_int .nil) range_ok) (fun _ => (asg_local (i := 22) rfl rfl)) (fun _ => (tst_one (evT_cmp (ev_item (ev_cell (i := 0) rfl rfl rfl rfl) (ev_local (i := 22) rfl rfl rfl)) (ev_cell (i := 20) rfl rfl rfl rfl) gt_ok rfl))) (fun _ => (ev_local (i := 22) rfl rfl rfl)))) (.cons rfl (ev_cell (i := 6) rfl rfl rfl rfl) .nil))) rfl rfl))) (ev_list (.cons rfl (ev_cell (i := 6) rfl rfl rfl rfl) .nil)) add_ok) (asg_cell (i := 7) rfl rfl rfl))
  refine exs_cons ?_ ?_
  · refine ex_assign_sw (ns := [(Str.ofString "guides"), (Str.ofString "entries")]) (is := [8, 9]) ?_ ?_ ?_ ?_
    · kernel_rfl
    · exact (.cons rfl rfl (.cons rfl rfl .nil))
    · exact (ev_tuple (.cons rfl (ev_list (.cons rfl (ev_bytes (xs := []) rfl) (.cons rfl (ev_bytes (xs := []) rfl) (.cons rfl (ev_bytes (xs := []) rfl) (.cons rfl (ev_bytes (xs := []) rfl) (.cons rfl (ev_bytes (xs := []) rfl) .nil)))))) (.cons rfl (ev_list (.cons rfl (ev_bytes (xs := []) rfl) (.cons rfl (ev_bytes (xs := []) rfl) (.cons rfl (ev_bytes (xs := []) rfl) (.cons rfl (ev_bytes (xs := []) rfl) (.cons rfl (ev_bytes (xs := []) rfl) .nil)))))) .nil)))
    · rfl
  refine exs_cons ?_ ?_
  · exact (ex_for (ev_callT ⟨G.g_range, rfl, rfl, rfl, rfl⟩ (.cons rfl ev_int .nil) range_ok) (asg_local (i := 10) rfl rfl) (exs_cons (ex_assign (ev_callF ⟨G.g__law_search, rfl, rfl, rfl, rfl⟩ G.f__law_search (.cons rfl (ev_cell (i := 2) rfl rfl rfl rfl) (.cons rfl (ev_freeze (ev_list (.cons rfl (ev_local (i := 10) rfl rfl rfl) .nil))) (.cons rfl (ev_item (ev_cell (i := 7) rfl rfl rfl rfl) (ev_item (ev_cell (i := 0) rfl rfl rfl rfl) (ev_local (i := 10) rfl rfl rfl))) .nil))) rfl rfl) (asg_local (i := 11) rfl rfl))
  (exs_cons (ex_for (ev_callT ⟨G.g_range, rfl, rfl, rfl, rfl⟩ (.cons rfl ev_int .nil) range_ok) (asg_cell (i := 12) rfl rfl rfl) (exs_cons (ex_if (evT_cmp (ev_item (ev_local (i := 11) rfl rfl rfl) (ev_cell (i := 12) rfl rfl rfl rfl)) ev_tup0 ne_ok rfl) (exs_cons (ex_put (ev_bin (ev_item (ev_local (i := 9) rfl rfl rfl) (ev_cell (i := 12) rfl rfl rfl rfl)) (ev_callF ⟨G.g__law_entry, rfl, rfl, rfl, rfl⟩ G.f__law_entry (.cons rfl (ev_local (i := 10) rfl rfl rfl) (.cons rfl (ev_item (ev_item (ev_local (i := 11) rfl rfl rfl) (ev_cell (i := 12) rfl rfl rfl rfl)) ev_int) .nil)) rfl rfl) add_ok) (ev_local (i := 9) rfl rfl rfl) (ev_cell (i := 12) rfl rfl rfl rfl))
  exs_nil) exs_nil)
  exs_nil))
  exs_nil)))
  refine exs_cons ?_ ?_
  · exact (ex_for (ev_callT ⟨G.g_range, rfl, rfl, rfl, rfl⟩ (.cons rfl ev_int .nil) range_ok) (asg_cell (i := 12) rfl rfl rfl) (exs_cons (ex_for (ev_freeze (ev_comp [(Str.ofString "k")] rfl (by decide +kernel) rfl (by decide +kernel) (fun _ => rfl) (by decide +kernel) (by decide +kernel) 20 rfl (ev_callT ⟨G.g_range, rfl, rfl, rfl, rfl⟩ (.cons rfl ev_int .nil) range_ok) (fun _ => (asg_local (i := 20) rfl rfl)) (fun _ => (tst_one (evT_cmp (ev_item (ev_item (ev_cell (i := 7) rfl rfl rfl rfl) (ev_local (i := 20) rfl rfl rfl)) (ev_cell (i := 12) rfl rfl rfl rfl)) ev_tup0 ne_ok rfl))) (fun _ => (ev_item (ev_item (ev_cell (i := 7) rfl rfl rfl rfl) (ev_local (i := 20) rfl rfl rfl)) (ev_cell (i := 12) rfl rfl rfl rfl))))) (asg_tuple (.cons rfl (asg_local (i := 13) rfl rfl) (.cons rfl (asg_local (i := 10) rfl rfl) .nil))) (exs_cons (ex_put (ev_bin (ev_item (ev_local (i := 8) rfl rfl rfl) (ev_cell (i := 12) rfl rfl rfl rfl)) (ev_callF ⟨G.g__law_entry, rfl, rfl, rfl, rfl⟩ G.f__law_entry (.cons rfl (ev_local (i := 10) rfl rfl rfl) (.cons rfl (ev_local (i := 13) rfl rfl rfl) .nil)) rfl rfl) add_ok) (ev_local (i := 8) rfl rfl rfl) (ev_cell (i := 12) rfl rfl rfl rfl))
  exs_nil))
  exs_nil))
  refine exs_fz (i := 8) ?_
  refine exs_fz (i := 9) ?_
  refine exs_cons ?_ ?_
  · exact (ex_ret (ev_tuple (.cons rfl (ev_comp [(Str.ofString "text")] rfl (by decide +kernel) rfl (by decide +kernel) (fun _ => rfl) (by decide +kernel) (by decide +kernel) 20 rfl (ev_local (i := 8) rfl rfl rfl) (fun _ => (asg_local (i := 20) rfl rfl)) (fun _ => tst_nil) (fun _ => (ev_freeze (ev_callR (Around.frames_deeper hfr) (out__law_labels hk0 hf0 (by simp only [Cx.comp]; exact List.mem_append.mpr (.inl (List.mem_append.mpr (.inl (List.mem_map.mpr ⟨((Str.ofString "one"), false), (.tail _ (.tail _ (.tail _ (.head _)))), rfl⟩))))) (by simp only [Cx.comp]; exact List.mem_append.mpr (.inl (List.mem_append.mpr (.inr (.head _)))))) ⟨G.g__law_label, rfl, rfl, rfl, rfl⟩ G.f__law_label (.cons rfl (ev_local (i := 20) rfl rfl rfl) .nil) rfl rfl)))) (.cons rfl (ev_comp [(Str.ofString "text")] rfl (by decide +kernel) rfl (by decide +kernel) (fun _ => rfl) (by decide +kernel) (by decide +kernel) 20 rfl (ev_local (i := 9) rfl rfl rfl) (fun _ => (asg_local (i := 20) rfl rfl)) (fun _ => tst_nil) (fun _ => (ev_freeze (ev_callR (Around.frames_deeper hfr) (out__law_labels hk0 hf0 (by simp only [Cx.comp]; exact List.mem_append.mpr (.inl (List.mem_append.mpr (.inl (List.mem_map.mpr ⟨((Str.ofString "one"), false), (.tail _ (.tail _ (.tail _ (.head _)))), rfl⟩))))) (by simp only [Cx.comp]; exact List.mem_append.mpr (.inl (List.mem_append.mpr (.inr (.head _)))))) ⟨G.g__law_label, rfl, rfl, rfl, rfl⟩ G.f__law_label (.cons rfl (ev_local (i := 20) rfl rfl rfl) .nil) rfl rfl)))) .nil))))
  exact exs_nil
theorem cS__law_labels {W : Wd} (G : GW W) {j : Nat} {L0 : Addr} {e0 : Env} {xs : List V} {Q : V → St → Prop} {σ : St} (hlen : xs.length = 2) (q : ∀ L ρ, (∀ i, i < 14 → ρ i = xs[i]?) → tS__law_labels W j L e0 (retN 14 6 ρ Q) ⟨σ, ρ⟩) : CallRN W (j + 1) 180 L0 e0 [(Str.ofString "script"), (Str.ofString "ways"), (Str.ofString "table"), (Str.ofString "one"), (Str.ofString "other"), (Str.ofString "told")] xs Q σ :=
  call_introN (params := [(Str.ofString "ranks"), (Str.ofString "ways")]) (names := [(Str.ofString "ranks", true), (Str.ofString "ways", true), (Str.ofString "steps", true), (Str.ofString "one", false), (Str.ofString "other", false), (Str.ofString "size", false), (Str.ofString "free", true), (Str.ofString "near", true), (Str.ofString "guides", false), (Str.ofString "entries", false), (Str.ofString "hub", false), (Str.ofString "reached", false), (Str.ofString "place", true), (Str.ofString "far", false)]) G.f__law_labels rfl (fun A L hfr hk0 hf0 => iS__law_labels G A L j hfr hk0 hf0) (len2 fun _ _ => rfl) rfl rfl (by decide +kernel) (by intro L p hp; simp only [List.mem_cons, List.not_mem_nil, or_false] at hp; rcases hp with rfl | rfl | rfl | rfl | rfl | rfl | rfl | rfl | rfl | rfl | rfl | rfl | rfl | rfl <;> intro h <;> first | rfl | cases h) (by decide +kernel) (by decide +kernel) (by decide +kernel) hlen q
abbrev tS__law_told (W : Wd) (j : Nat) : PF := (seqW (asgS (tpW (argS (cW (.int 0)) (argS (locW 2) (argS (cW (.int 0)) arg0)))) (tupW [(setW 4), (setW 5), (setW 6)]))
  (seqW (whileW (cmW notInW (locW 5) (compW 7 (itW (locW 1) (locW 3)) (tupW [(setW 7), (setW 8)]) tT (locW 7))) (seqW (ifS (cmW (icmpW fun i j => decide (j ≤ i)) (locW 6) (cbW (argS (itW (locW 0) (locW 3)) arg0) lenW)) (seqW (retS l0W)
  nilW) nilW)
  (seqW (asgS (tpW (argS (locW 3) (argS (locW 2) arg0))) (swW [2, 3]))
  (seqW (asgS (itW (itW (locW 0) (locW 2)) (locW 6)) (tupW [(setW 5), (setW 4)]))
  (seqW (augS 6 (cW (.int 1)) (intsW (fun _ _ => True) (· + ·)))
  nilW)))))
  (seqW (retS (compW 7 (itW (locW 1) (locW 3)) (tupW [(setW 7), (setW 8)]) (cmW eqW (locW 7) (locW 5)) (biW addW (locW 4) (locW 8))))
  nilW)))
theorem iS__law_told {W : Wd} (G : GW W) (A : Around) (L : Addr) (j : Nat) : Exs (fnCxC W A fd__law_told L 185 [(Str.ofString "guides", false), (Str.ofString "entries", false), (Str.ofString "one", false), (Str.ofString "other", false), (Str.ofString "far", true), (Str.ofString "hub", true), (Str.ofString "turn", false)] j) (bodyOf (defOf 31)) (tS__law_told W j) :=
  (exs_cons (ex_assign (ev_tuple (.cons rfl ev_int (.cons rfl (ev_local (i := 2) rfl rfl rfl) (.cons rfl ev_int .nil)))) (asg_tuple (.cons rfl (asg_cell (i := 4) rfl rfl rfl) (.cons rfl (asg_cell (i := 5) rfl rfl rfl) (.cons rfl (asg_local (i := 6) rfl rfl) .nil)))))
  (exs_cons (ex_while (evT_cmp (ev_cell (i := 5) rfl rfl rfl rfl) (ev_comp [(Str.ofString "name"), (Str.ofString "size")] rfl (by decide +kernel) rfl (by decide +kernel) (fun _ => rfl) (by decide +kernel) (by decide +kernel) 7 rfl (ev_item (ev_local (i := 1) rfl rfl rfl) (ev_local (i := 3) rfl rfl rfl)) (fun _ => (asg_tuple (.cons rfl (asg_local (i := 7) rfl rfl) (.cons rfl (asg_local (i := 8) rfl rfl) .nil)))) (fun _ => tst_nil) (fun _ => (ev_local (i := 7) rfl rfl rfl))) notIn_ok rfl) (exs_cons (ex_if (evT_cmp (ev_local (i := 6) rfl rfl rfl) (ev_callB ⟨G.g_len, rfl, rfl, rfl, rfl⟩ (.cons rfl (ev_item (ev_local (i := 0) rfl rfl rfl) (ev_local (i := 3) rfl rfl rfl)) .nil) len_ok) ge_ok rfl) (exs_cons (ex_ret ev_lis0)
  exs_nil) exs_nil)
  (exs_cons (by
    refine ex_assign_sw (ns := [(Str.ofString "one"), (Str.ofString "other")]) (is := [2, 3]) ?_ ?_ ?_ ?_
    · kernel_rfl
    · exact (.cons rfl rfl (.cons rfl rfl .nil))
    · exact (ev_tuple (.cons rfl (ev_local (i := 3) rfl rfl rfl) (.cons rfl (ev_local (i := 2) rfl rfl rfl) .nil)))
    · rfl)
  (exs_cons (ex_assign (ev_item (ev_item (ev_local (i := 0) rfl rfl rfl) (ev_local (i := 2) rfl rfl rfl)) (ev_local (i := 6) rfl rfl rfl)) (asg_tuple (.cons rfl (asg_cell (i := 5) rfl rfl rfl) (.cons rfl (asg_cell (i := 4) rfl rfl rfl) .nil))))
  (exs_cons (ex_aug (i := 6) rfl rfl ev_int iadd_ok)
  exs_nil)))))
  (exs_cons (ex_ret (ev_comp [(Str.ofString "name"), (Str.ofString "size")] rfl (by decide +kernel) rfl (by decide +kernel) (fun _ => rfl) (by decide +kernel) (by decide +kernel) 7 rfl (ev_item (ev_local (i := 1) rfl rfl rfl) (ev_local (i := 3) rfl rfl rfl)) (fun _ => (asg_tuple (.cons rfl (asg_local (i := 7) rfl rfl) (.cons rfl (asg_local (i := 8) rfl rfl) .nil)))) (fun _ => (tst_one (evT_cmp (ev_local (i := 7) rfl rfl rfl) (ev_cell (i := 5) rfl rfl rfl rfl) eq_ok rfl))) (fun _ => (ev_bin (ev_cell (i := 4) rfl rfl rfl rfl) (ev_local (i := 8) rfl rfl rfl) add_ok))))
  exs_nil)))
theorem cS__law_told {W : Wd} (G : GW W) {j : Nat} {xs : List V} {Q : V → St → Prop} {σ : St} (hlen : xs.length = 4) (q : tS__law_told W j (retW Q) ⟨σ, fun i => xs[i]?⟩) : CallOK W (j + 1) 185 xs [] Q σ :=
  call_introC (params := [(Str.ofString "guides"), (Str.ofString "entries"), (Str.ofString "one"), (Str.ofString "other")]) (names := [(Str.ofString "guides", false), (Str.ofString "entries", false), (Str.ofString "one", false), (Str.ofString "other", false), (Str.ofString "far", true), (Str.ofString "hub", true), (Str.ofString "turn", false)]) G.f__law_told rfl (fun A L => iS__law_told G A L j) (len4 fun _ _ _ _ => rfl) rfl rfl (by decide +kernel) (by intro L p hp; simp only [List.mem_cons, List.not_mem_nil, or_false] at hp; rcases hp with rfl | rfl | rfl | rfl | rfl | rfl | rfl <;> intro h <;> first | rfl | cases h) (by decide +kernel) hlen q
abbrev tS__law_lengths (W : Wd) (j : Nat) : PF := (seqW (asgS (biW addW (cW (.int 1)) (cbW (argS (compW 7 (locW 0) (tupW [(setW 7), (setW 8), (setW 9)]) tT (locW 9)) arg0) sumLW)) (setW 1))
  (seqW (asgS (compW 7 (cbW (argS (cW (.int 5)) arg0) rangeW) (setW 7) tT (compW 9 (cbW (argS (cW (.int 5)) arg0) rangeW) (setW 9) tT (iteW (cmW eqW (locW 7) (locW 9)) (cW (.int 0)) (locW 1)))) (setW 2))
  (seqW (forW (locW 0) (tupW [(setW 3), (setW 4), (setW 5)]) (seqW (putS (cbW (argS (itW (itW (locW 2) (locW 3)) (locW 4)) (argS (locW 5) arg0)) minW) (itW (locW 2) (locW 3)) (locW 4))
  (seqW (putS (cbW (argS (itW (itW (locW 2) (locW 4)) (locW 3)) (argS (locW 5) arg0)) minW) (itW (locW 2) (locW 4)) (locW 3))
  nilW)))
  (seqW (forW (cbW (argS (cW (.int 5)) arg0) rangeW) (setW 6) (seqW (forW (cbW (argS (cW (.int 5)) arg0) rangeW) (setW 3) (seqW (forW (cbW (argS (cW (.int 5)) arg0) rangeW) (setW 4) (seqW (putS (cbW (argS (itW (itW (locW 2) (locW 3)) (locW 4)) (argS (biW addW (itW (itW (locW 2) (locW 3)) (locW 6)) (itW (itW (locW 2) (locW 6)) (locW 4))) arg0)) minW) (itW (locW 2) (locW 3)) (locW 4))
  nilW))
  nilW))
  nilW))
  (seqW (retS (tpW (argS (locW 2) (argS (locW 1) arg0))))
  nilW)))))
theorem iS__law_lengths {W : Wd} (G : GW W) (A : Around) (L : Addr) (j : Nat) : Exs (fnCxC W A fd__law_lengths L 190 [(Str.ofString "ways", false), (Str.ofString "none", true), (Str.ofString "table", false), (Str.ofString "one", false), (Str.ofString "other", false), (Str.ofString "size", false), (Str.ofString "middle", false)] j) (bodyOf (defOf 32)) (tS__law_lengths W j) :=
  (exs_cons (ex_assign (ev_bin ev_int (ev_callB ⟨G.g_sum, rfl, rfl, rfl, rfl⟩ (.cons rfl (ev_comp [(Str.ofString "one"), (Str.ofString "other"), (Str.ofString "size")] rfl (by decide +kernel) rfl (by decide +kernel) (fun _ => rfl) (by decide +kernel) (by decide +kernel) 7 rfl (ev_local (i := 0) rfl rfl rfl) (fun _ => (asg_tuple (.cons rfl (asg_local (i := 7) rfl rfl) (.cons rfl (asg_local (i := 8) rfl rfl) (.cons rfl (asg_local (i := 9) rfl rfl) .nil))))) (fun _ => tst_nil) (fun _ => (ev_local (i := 9) rfl rfl rfl))) .nil) sumL_ok) add_ok) (asg_cell (i := 1) rfl rfl rfl))
  (exs_cons (ex_assign_comp1 (Str.ofString "one") rfl rfl (fun _ => rfl) (fun _ => rfl) rfl (by decide +kernel) (fun _ => rfl) 7 rfl (ev_callT ⟨G.g_range, rfl, rfl, rfl, rfl⟩ (.cons rfl ev_int .nil) range_ok) (fun _ => (asg_cell (i := 7) rfl rfl rfl)) (fun _ => tst_nil) (fun _ => (ev_comp [(Str.ofString "other")] rfl (by decide +kernel) rfl (by decide +kernel) (fun _ => rfl) (by decide +kernel) (by decide +kernel) 9 rfl (ev_callT ⟨G.g_range, rfl, rfl, rfl, rfl⟩ (.cons rfl ev_int .nil) range_ok) (fun _ => (asg_local (i := 9) rfl rfl)) (fun _ => tst_nil) (fun _ => (ev_ite (evT_cmp (ev_cell (i := 7) rfl rfl rfl rfl) (ev_local (i := 9) rfl rfl rfl) eq_ok rfl) ev_int (ev_cell (i := 1) rfl rfl rfl rfl))))) (asg_local (i := 2) rfl rfl))
  (exs_cons (ex_for (ev_local (i := 0) rfl rfl rfl) (asg_tuple (.cons rfl (asg_local (i := 3) rfl rfl) (.cons rfl (asg_local (i := 4) rfl rfl) (.cons rfl (asg_local (i := 5) rfl rfl) .nil)))) (exs_cons (ex_put (ev_callB ⟨G.g_min, rfl, rfl, rfl, rfl⟩ (.cons rfl (ev_item (ev_item (ev_local (i := 2) rfl rfl rfl) (ev_local (i := 3) rfl rfl rfl)) (ev_local (i := 4) rfl rfl rfl)) (.cons rfl (ev_local (i := 5) rfl rfl rfl) .nil)) min_ok) (ev_item (ev_local (i := 2) rfl rfl rfl) (ev_local (i := 3) rfl rfl rfl)) (ev_local (i := 4) rfl rfl rfl))
  (exs_cons (ex_put (ev_callB ⟨G.g_min, rfl, rfl, rfl, rfl⟩ (.cons rfl (ev_item (ev_item (ev_local (i := 2) rfl rfl rfl) (ev_local (i := 4) rfl rfl rfl)) (ev_local (i := 3) rfl rfl rfl)) (.cons rfl (ev_local (i := 5) rfl rfl rfl) .nil)) min_ok) (ev_item (ev_local (i := 2) rfl rfl rfl) (ev_local (i := 4) rfl rfl rfl)) (ev_local (i := 3) rfl rfl rfl))
  exs_nil)))
  (exs_cons (ex_for (ev_callT ⟨G.g_range, rfl, rfl, rfl, rfl⟩ (.cons rfl ev_int .nil) range_ok) (asg_local (i := 6) rfl rfl) (exs_cons (ex_for (ev_callT ⟨G.g_range, rfl, rfl, rfl, rfl⟩ (.cons rfl ev_int .nil) range_ok) (asg_local (i := 3) rfl rfl) (exs_cons (ex_for (ev_callT ⟨G.g_range, rfl, rfl, rfl, rfl⟩ (.cons rfl ev_int .nil) range_ok) (asg_local (i := 4) rfl rfl) (exs_cons (ex_put (ev_callB ⟨G.g_min, rfl, rfl, rfl, rfl⟩ (.cons rfl (ev_item (ev_item (ev_local (i := 2) rfl rfl rfl) (ev_local (i := 3) rfl rfl rfl)) (ev_local (i := 4) rfl rfl rfl)) (.cons rfl (ev_bin (ev_item (ev_item (ev_local (i := 2) rfl rfl rfl) (ev_local (i := 3) rfl rfl rfl)) (ev_local (i := 6) rfl rfl rfl)) (ev_item (ev_item (ev_local (i := 2) rfl rfl rfl) (ev_local (i := 6) rfl rfl rfl)) (ev_local (i := 4) rfl rfl rfl)) add_ok) .nil)) min_ok) (ev_item (ev_local (i := 2) rfl rfl rfl) (ev_local (i := 3) rfl rfl rfl)) (ev_local (i := 4) rfl rfl rfl))
  exs_nil))
  exs_nil))
  exs_nil))
  (exs_cons (ex_ret (ev_tuple (.cons rfl (ev_local (i := 2) rfl rfl rfl) (.cons rfl (ev_cell (i := 1) rfl rfl rfl rfl) .nil))))
  exs_nil)))))
theorem cS__law_lengths {W : Wd} (G : GW W) {j : Nat} {xs : List V} {Q : V → St → Prop} {σ : St} (hlen : xs.length = 1) (q : tS__law_lengths W j (retW Q) ⟨σ, fun i => xs[i]?⟩) : CallOK W (j + 1) 190 xs [] Q σ :=
  call_introC (params := [(Str.ofString "ways")]) (names := [(Str.ofString "ways", false), (Str.ofString "none", true), (Str.ofString "table", false), (Str.ofString "one", false), (Str.ofString "other", false), (Str.ofString "size", false), (Str.ofString "middle", false)]) G.f__law_lengths rfl (fun A L => iS__law_lengths G A L j) (len1 fun _ => rfl) rfl rfl (by decide +kernel) (by intro L p hp; simp only [List.mem_cons, List.not_mem_nil, or_false] at hp; rcases hp with rfl | rfl | rfl | rfl | rfl | rfl | rfl <;> intro h <;> first | rfl | cases h) (by decide +kernel) hlen q
abbrev tS__law_due (W : Wd) (j : Nat) : PF := (seqW (asgS (tpW (argS l0W (argS l0W arg0))) (swW [3, 4]))
  (seqW (forW (cbW (argS (cW (.int 1)) (argS (cW (.int 3)) arg0)) rangeW) (setW 5) (seqW (asgS (compW 8 (cbW (argS (cW (.int 5)) arg0) rangeW) (setW 8) (andB (cmW (icmpW fun i j => decide (j ≤ i)) (itW (locW 0) (locW 8)) (locW 5)) (cmW ltW (itW (locW 1) (locW 8)) (locW 2))) (tpW (argS (itW (locW 1) (locW 8)) (argS (locW 8) arg0)))) (setW 6))
  (seqW (asgS (biW addW (locW 3) (compW 8 (fzW (slW (cbW (argS (locW 6) arg0) sortW) oN (oS (cW (.int 1))))) (tupW [(setW 8), (setW 9)]) tT (tpW (argS (locW 9) (argS (locW 8) arg0))))) (setW 3))
  nilW)))
  (seqW (forW (cbW (argS (cW (.int 5)) arg0) rangeW) (setW 7) (seqW (ifS (cmW ltW (itW (locW 1) (locW 7)) (cbW (argS (biW addW (lsW (argS (locW 2) arg0)) (compW 8 (cbW (argS (cW (.int 5)) arg0) rangeW) (setW 8) (cmW (icmpW fun i j => decide (j < i)) (itW (locW 0) (locW 8)) (itW (locW 0) (locW 7))) (itW (locW 1) (locW 8)))) arg0) minLW)) (seqW (exprW (mtW (locW 4) (argS (tpW (argS (locW 7) (argS (itW (locW 1) (locW 7)) arg0))) arg0) appendW))
  nilW) nilW)
  nilW))
  (seqW (retS (tpW (argS (locW 3) (argS (locW 4) arg0))))
  nilW))))
theorem iS__law_due {W : Wd} (G : GW W) (A : Around) (L : Addr) (j : Nat) : Exs (fnCxC W A fd__law_due L 195 [(Str.ofString "ranks", true), (Str.ofString "row", true), (Str.ofString "none", true), (Str.ofString "guides", false), (Str.ofString "entries", false), (Str.ofString "k", true), (Str.ofString "near", false), (Str.ofString "hub", true)] j) (bodyOf (defOf 33)) (tS__law_due W j) :=
  (exs_cons (by
    refine ex_assign_sw (ns := [(Str.ofString "guides"), (Str.ofString "entries")]) (is := [3, 4]) ?_ ?_ ?_ ?_
    · kernel_rfl
    · exact (.cons rfl rfl (.cons rfl rfl .nil))
    · exact (ev_tuple (.cons rfl ev_lis0 (.cons rfl ev_lis0 .nil)))
    · rfl)
  (exs_cons (ex_for (ev_callT ⟨G.g_range, rfl, rfl, rfl, rfl⟩ (.cons rfl ev_int (.cons rfl ev_int .nil)) range_ok) (asg_cell (i := 5) rfl rfl rfl) (exs_cons (ex_assign_comp [(Str.ofString "hub")] rfl rfl (by decide +kernel) rfl (by decide +kernel) (fun _ => rfl) (by decide +kernel) (by decide +kernel) 8 rfl (ev_callT ⟨G.g_range, rfl, rfl, rfl, rfl⟩ (.cons rfl ev_int .nil) range_ok) (fun _ => (asg_local (i := 8) rfl rfl)) (fun _ => (tst_one (evT_and (evT_cmp (ev_item (ev_cell (i := 0) rfl rfl rfl rfl) (ev_local (i := 8) rfl rfl rfl)) (ev_cell (i := 5) rfl rfl rfl rfl) ge_ok rfl) (evT_cmp (ev_item (ev_cell (i := 1) rfl rfl rfl rfl) (ev_local (i := 8) rfl rfl rfl)) (ev_cell (i := 2) rfl rfl rfl rfl) lt_ok rfl)))) (fun _ => (ev_tuple (.cons rfl (ev_item (ev_cell (i := 1) rfl rfl rfl rfl) (ev_local (i := 8) rfl rfl rfl)) (.cons rfl (ev_local (i := 8) rfl rfl rfl) .nil)))) (asg_local (i := 6) rfl rfl))
  (exs_cons (ex_assign (ev_bin (ev_local (i := 3) rfl rfl rfl) (ev_comp [(Str.ofString "far"), (Str.ofString "hub")] rfl (by decide +kernel) rfl (by decide +kernel) (fun _ => rfl) (by decide +kernel) (by decide +kernel) 8 rfl (ev_freeze (ev_slice (ev_callB ⟨G.g_sorted, rfl, rfl, rfl, rfl⟩ (.cons rfl (ev_local (i := 6) rfl rfl rfl) .nil) sorted_ok) opt_none (opt_some ev_int))) (fun _ => (asg_tuple (.cons rfl (asg_local (i := 8) rfl rfl) (.cons rfl (asg_local (i := 9) rfl rfl) .nil)))) (fun _ => tst_nil) (fun _ => (ev_tuple (.cons rfl (ev_local (i := 9) rfl rfl rfl) (.cons rfl (ev_local (i := 8) rfl rfl rfl) .nil))))) add_ok) (asg_local (i := 3) rfl rfl))
  exs_nil)))
  (exs_cons (ex_for (ev_callT ⟨G.g_range, rfl, rfl, rfl, rfl⟩ (.cons rfl ev_int .nil) range_ok) (asg_cell (i := 7) rfl rfl rfl) (exs_cons (ex_if (evT_cmp (ev_item (ev_cell (i := 1) rfl rfl rfl rfl) (ev_cell (i := 7) rfl rfl rfl rfl)) (ev_callB ⟨G.g_min, rfl, rfl, rfl, rfl⟩ (.cons rfl (ev_bin (ev_list (.cons rfl (ev_cell (i := 2) rfl rfl rfl rfl) .nil)) (ev_comp [(Str.ofString "other")] rfl (by decide +kernel) rfl (by decide +kernel) (fun _ => rfl) (by decide +kernel) (by decide +kernel) 8 rfl (ev_callT ⟨G.g_range, rfl, rfl, rfl, rfl⟩ (.cons rfl ev_int .nil) range_ok) (fun _ => (asg_local (i := 8) rfl rfl)) (fun _ => (tst_one (evT_cmp (ev_item (ev_cell (i := 0) rfl rfl rfl rfl) (ev_local (i := 8) rfl rfl rfl)) (ev_item (ev_cell (i := 0) rfl rfl rfl rfl) (ev_cell (i := 7) rfl rfl rfl rfl)) gt_ok rfl))) (fun _ => (ev_item (ev_cell (i := 1) rfl rfl rfl rfl) (ev_local (i := 8) rfl rfl rfl)))) add_ok) .nil) minL_ok) lt_ok rfl) (exs_cons (ex_expr (ev_meth PySem.F.slot_list_append (by rfl) (ev_local (i := 4) rfl rfl rfl) (.cons rfl (ev_tuple (.cons rfl (ev_cell (i := 7) rfl rfl rfl rfl) (.cons rfl (ev_item (ev_cell (i := 1) rfl rfl rfl rfl) (ev_cell (i := 7) rfl rfl rfl rfl)) .nil))) .nil) append_ok))
  exs_nil) exs_nil)
  exs_nil))
  (exs_cons (ex_ret (ev_tuple (.cons rfl (ev_local (i := 3) rfl rfl rfl) (.cons rfl (ev_local (i := 4) rfl rfl rfl) .nil))))
  exs_nil))))
theorem cS__law_due {W : Wd} (G : GW W) {j : Nat} {xs : List V} {Q : V → St → Prop} {σ : St} (hlen : xs.length = 3) (q : tS__law_due W j (retW Q) ⟨σ, fun i => xs[i]?⟩) : CallOK W (j + 1) 195 xs [] Q σ :=
  call_introC (params := [(Str.ofString "ranks"), (Str.ofString "row"), (Str.ofString "none")]) (names := [(Str.ofString "ranks", true), (Str.ofString "row", true), (Str.ofString "none", true), (Str.ofString "guides", false), (Str.ofString "entries", false), (Str.ofString "k", true), (Str.ofString "near", false), (Str.ofString "hub", true)]) G.f__law_due rfl (fun A L => iS__law_due G A L j) (len3 fun _ _ _ => rfl) rfl rfl (by decide +kernel) (by intro L p hp; simp only [List.mem_cons, List.not_mem_nil, or_false] at hp; rcases hp with rfl | rfl | rfl | rfl | rfl | rfl | rfl | rfl <;> intro h <;> first | rfl | cases h) (by decide +kernel) hlen q
abbrev tS_law (W : Wd) (j : Nat) (L : Addr) : PF := (seqW (asgS (cbW (argS (locW 0) arg0) (callW W j 149)) (tupW [(setW 1), (setW 2)]))
  (fzV 1 (fzV 2 (seqW (asgS (cbW (argS (locW 2) arg0) (callW W j 190)) (tupW [(setW 3), (setW 4)]))
  (fz2V 3 (seqW (asgS (cbW (argS (locW 1) (argS (locW 2) arg0)) (callNW W j 180 L (envC fd_law L 200) [(Str.ofString "script"), (Str.ofString "ways"), (Str.ofString "table"), (Str.ofString "one"), (Str.ofString "other"), (Str.ofString "told")])) (tupW [(setW 5), (setW 6)]))
  (fzV 5 (fzV 6 (seqW (forW (cbW (argS (cW (.int 5)) arg0) rangeW) (setW 7) (seqW (forW (cbW (argS (cW (.int 5)) arg0) rangeW) (setW 8) (seqW (asgS (tpW (argS (cbW (argS (locW 5) (argS (locW 6) (argS (locW 7) (argS (locW 8) arg0)))) (callW W j 185)) (argS (itW (itW (locW 3) (locW 7)) (locW 8)) arg0))) (tupW [(setW 9), (setW 10)]))
  (fzV 9 (seqW (ifS (orB (cmW neBW (cvW eqW (locW 9) l0W) (cvW eqW (locW 10) (locW 4))) (cmW neW (compW 11 (locW 9) (setW 11) (orB (cmW ltW (locW 11) (locW 10)) (cmW (icmpW fun i j => decide (j < i)) (locW 11) (biW mulW (cW (.int 5)) (locW 10)))) (locW 11)) l0W)) (seqW (retS (cW (.bool false)))
  nilW) nilW)
  nilW))))
  nilW))
  (seqW (retS (cvW eqW (compW 11 (cbW (argS (cW (.int 5)) arg0) rangeW) (setW 11) tT (tpW (argS (itW (locW 5) (locW 11)) (argS (itW (locW 6) (locW 11)) arg0)))) (compW 11 (locW 3) (setW 11) tT (cbW (argS (locW 1) (argS (locW 11) (argS (locW 4) arg0))) (callW W j 195)))))
  nilW))))))))))
theorem iS_law {W : Wd} (G : GW W) (A : Around) (L : Addr) (j : Nat) (hfr : A.frames = some []) : Exs (fnCxC W A fd_law L 200 [(Str.ofString "script", false), (Str.ofString "ranks", true), (Str.ofString "ways", false), (Str.ofString "table", false), (Str.ofString "none", true), (Str.ofString "guides", true), (Str.ofString "entries", true), (Str.ofString "one", false), (Str.ofString "other", false), (Str.ofString "told", false), (Str.ofString "far", true)] j) (bodyOf (defOf 34)) (tS_law W j L) :=
  (exs_cons (ex_assign (ev_callF ⟨G.g__law_drawn, rfl, rfl, rfl, rfl⟩ G.f__law_drawn (.cons rfl (ev_local (i := 0) rfl rfl rfl) .nil) rfl rfl) (asg_tuple (.cons rfl (asg_cell (i := 1) rfl rfl rfl) (.cons rfl (asg_local (i := 2) rfl rfl) .nil))))
  (exs_fz (i := 1) (exs_fz (i := 2) (exs_cons (ex_assign (ev_callF ⟨G.g__law_lengths, rfl, rfl, rfl, rfl⟩ G.f__law_lengths (.cons rfl (ev_local (i := 2) rfl rfl rfl) .nil) rfl rfl) (asg_tuple (.cons rfl (asg_local (i := 3) rfl rfl) (.cons rfl (asg_cell (i := 4) rfl rfl rfl) .nil))))
  (exs_fz2 (i := 3) (exs_cons (ex_assign (ev_callN (Around.frames_deeper hfr) (by show fd_law.scope.kind ≠ _; decide +kernel) rfl ⟨_, List.mem_map.mpr ⟨((Str.ofString "script"), false), .head _, rfl⟩⟩ (d_names (by decide +kernel)) ⟨G.g__law_labels, rfl, rfl, rfl, rfl⟩ G.f__law_labels (.cons rfl (ev_cell (i := 1) rfl rfl rfl rfl) (.cons rfl (ev_local (i := 2) rfl rfl rfl) .nil)) rfl rfl) (asg_tuple (.cons rfl (asg_cell (i := 5) rfl rfl rfl) (.cons rfl (asg_cell (i := 6) rfl rfl rfl) .nil))))
  (exs_fz (i := 5) (exs_fz (i := 6) (exs_cons (ex_for (ev_callT ⟨G.g_range, rfl, rfl, rfl, rfl⟩ (.cons rfl ev_int .nil) range_ok) (asg_local (i := 7) rfl rfl) (exs_cons (ex_for (ev_callT ⟨G.g_range, rfl, rfl, rfl, rfl⟩ (.cons rfl ev_int .nil) range_ok) (asg_local (i := 8) rfl rfl) (exs_cons (ex_assign (ev_tuple (.cons rfl (ev_callF ⟨G.g__law_told, rfl, rfl, rfl, rfl⟩ G.f__law_told (.cons rfl (ev_cell (i := 5) rfl rfl rfl rfl) (.cons rfl (ev_cell (i := 6) rfl rfl rfl rfl) (.cons rfl (ev_local (i := 7) rfl rfl rfl) (.cons rfl (ev_local (i := 8) rfl rfl rfl) .nil)))) rfl rfl) (.cons rfl (ev_item (ev_item (ev_local (i := 3) rfl rfl rfl) (ev_local (i := 7) rfl rfl rfl)) (ev_local (i := 8) rfl rfl rfl)) .nil))) (asg_tuple (.cons rfl (asg_local (i := 9) rfl rfl) (.cons rfl (asg_cell (i := 10) rfl rfl rfl) .nil))))
  (exs_fz (i := 9) (exs_cons (ex_if (evT_or (evT_cmp (ev_cmp (ev_local (i := 9) rfl rfl rfl) ev_lis0 eq_ok rfl) (ev_cmp (ev_cell (i := 10) rfl rfl rfl rfl) (ev_cell (i := 4) rfl rfl rfl rfl) eq_ok rfl) neB_ok rfl) (evT_cmp (ev_comp [(Str.ofString "size")] rfl (by decide +kernel) rfl (by decide +kernel) (fun _ => rfl) (by decide +kernel) (by decide +kernel) 11 rfl (ev_local (i := 9) rfl rfl rfl) (fun _ => (asg_local (i := 11) rfl rfl)) (fun _ => (tst_one (evT_or (evT_cmp (ev_local (i := 11) rfl rfl rfl) (ev_cell (i := 10) rfl rfl rfl rfl) lt_ok rfl) (evT_cmp (ev_local (i := 11) rfl rfl rfl) (ev_bin ev_int (ev_cell (i := 10) rfl rfl rfl rfl) mul_ok) gt_ok rfl)))) (fun _ => (ev_local (i := 11) rfl rfl rfl))) ev_lis0 ne_ok rfl)) (exs_cons (ex_ret ev_bool)
  exs_nil) exs_nil)
  exs_nil))))
  exs_nil))
  (exs_cons (ex_ret (ev_cmp (ev_comp [(Str.ofString "k")] rfl (by decide +kernel) rfl (by decide +kernel) (fun _ => rfl) (by decide +kernel) (by decide +kernel) 11 rfl (ev_callT ⟨G.g_range, rfl, rfl, rfl, rfl⟩ (.cons rfl ev_int .nil) range_ok) (fun _ => (asg_local (i := 11) rfl rfl)) (fun _ => tst_nil) (fun _ => (ev_tuple (.cons rfl (ev_item (ev_cell (i := 5) rfl rfl rfl rfl) (ev_local (i := 11) rfl rfl rfl)) (.cons rfl (ev_item (ev_cell (i := 6) rfl rfl rfl rfl) (ev_local (i := 11) rfl rfl rfl)) .nil))))) (ev_comp [(Str.ofString "row")] rfl (by decide +kernel) rfl (by decide +kernel) (fun _ => rfl) (by decide +kernel) (by decide +kernel) 11 rfl (ev_local (i := 3) rfl rfl rfl) (fun _ => (asg_local (i := 11) rfl rfl)) (fun _ => tst_nil) (fun _ => (ev_callF ⟨G.g__law_due, rfl, rfl, rfl, rfl⟩ G.f__law_due (.cons rfl (ev_cell (i := 1) rfl rfl rfl rfl) (.cons rfl (ev_local (i := 11) rfl rfl rfl) (.cons rfl (ev_cell (i := 4) rfl rfl rfl rfl) .nil))) rfl rfl))) eq_ok rfl))
  exs_nil))))))))))
theorem cS_law {W : Wd} (G : GW W) {j : Nat} {xs : List V} {Q : V → St → Prop} {σ : St} (hlen : xs.length = 1) (q : ∀ L, tS_law W j L (retW Q) ⟨σ, fun i => xs[i]?⟩) : CallP (fun A => A.frames = some []) W (j + 1) 200 xs [] Q σ :=
  call_introP (fun A => A.frames = some []) (params := [(Str.ofString "script")]) (names := [(Str.ofString "script", false), (Str.ofString "ranks", true), (Str.ofString "ways", false), (Str.ofString "table", false), (Str.ofString "none", true), (Str.ofString "guides", true), (Str.ofString "entries", true), (Str.ofString "one", false), (Str.ofString "other", false), (Str.ofString "told", false), (Str.ofString "far", true)]) G.f_law rfl (fun A L hfr => iS_law G A L j hfr) (len1 fun _ => rfl) rfl rfl (by decide +kernel) (by intro L p hp; simp only [List.mem_cons, List.not_mem_nil, or_false] at hp; rcases hp with rfl | rfl | rfl | rfl | rfl | rfl | rfl | rfl | rfl | rfl | rfl <;> intro h <;> first | rfl | cases h) (by decide +kernel) hlen q
end Mine

namespace Mine
open PySem PySem.W PyProof.Rows PySem.Calls

theorem Sub.trans {a b c : St} (h1 : St.Sub a b) (h2 : St.Sub b c) : St.Sub a c := fun x y e => h2 x y (h1 x y e)
/-! ### comprehensions item by item -/
theorem sub_put {σ σ' : St} {a : Addr} {x : AO} (h : St.Sub σ σ') (ha : σ' a = none) : St.Sub σ (upd σ' a x) := Sub.trans h (sub_upd ha)
theorem items_range {n : Nat} (h : n ≤ 1000000) : itemsOf (.range 0 n 1) = some ((List.range n).map fun (i : Nat) => V.int i) := by
  have e : Builtin.Range.rangeSize 0 n 1 = n := by rw [rangeSize_one]; split <;> omega
  simp only [itemsOf, e]
  have hs : Builtin.Range.small 0 n 1 = true := by
    simp [Builtin.Range.small, Builtin.Range.rangeFitsLong, e]; omega
  rw [if_pos hs]
  simp

/-! ### _law_octets -/
def octP : Nat → Nat → List Int → List Int
  | 0, _, acc => acc
  | f + 1, n, acc => if 63 < n then octP f (n / 64) ((((n / 64 % 64 : Nat) : Int) + 64) :: acc) else acc
def octs (n : Nat) : List Int := octP n n [((n % 64 : Nat) : Int)]
abbrev ocT : PB := cmW (icmpW fun i j => decide (j < i)) (locW 0) (cW (.int 63))
abbrev ocB : PF := seqW (asgS (biW fdivW (locW 0) (cW (.int 64))) (setW 0))
  (seqW (exprW (mtW (locW 1) (argS (cW (.int 0)) (argS (biW addW (biW modW (locW 0) (cW (.int 64))) (cW (.int 64))) arg0)) insertW))
  nilW)
theorem oc_loop {o : Addr} {σ₀ : St} {Q : Fl → S → Prop} : ∀ (f n : Nat) (acc : List Int) (st : S), n ≤ f → acc.length + f ≤ 1000000 → st.ρ 0 = some (.int n) → st.ρ 1 = some (.ref o) → st.σ = upd σ₀ o (.list (iv acc)) →
    (∀ st', st'.ρ 1 = some (.ref o) → st'.σ = upd σ₀ o (.list (iv (octP f n acc))) → Q .next st') → whileN ocT ocB Q (f + 1) st
  | 0, n, acc, st, hf, hl, h0, h1, hσ, K => by
    refine ⟨_, h0, _, _, rfl, rfl, ifP (fun a => absurd (of_decide_eq_true a) (by omega)) (fun _ => K st h1 hσ)⟩
  | f + 1, n, acc, st, hf, hl, h0, h1, hσ, K => by
    refine ⟨_, h0, _, _, rfl, rfl, ifP (fun a => ?_) (fun a => ?_)⟩
    · have hn : 63 < n := by have := of_decide_eq_true a; omega
      refine ⟨_, h0, fdivI ((n / 64 : Nat) : Int) (by decide) (by omega) ?_⟩
      refine ⟨_, h1, _, getL_ref (at_iv hσ), ?_⟩
      refine ⟨_, rfl, modI ((n / 64 % 64 : Nat) : Int) (by decide) (by omega) (addI (((n / 64 % 64 : Nat) : Int) + 64) rfl ?_)⟩
      refine ⟨_, _, _, rfl, rfl, at_iv hσ, by rw [iv_len]; omega, ?_⟩
      refine oc_loop f (n / 64) ((((n / 64 % 64 : Nat) : Int) + 64) :: acc) _ (by omega) (by simp; omega) rfl h1 ?_ fun st' e1 e2 => K st' e1 (by rw [e2, octP, if_pos hn])
      show upd st.σ o _ = _
      rw [hσ, upd_upd]; rfl
    · have hn : ¬ 63 < n := by have := of_decide_eq_false a; omega
      exact K st h1 (by rw [octP, if_neg hn]; exact hσ)
theorem c_octets {W : Wd} (G : GW W) {j n : Nat} {σ : St} {Q : V → St → Prop} (hn : n ≤ 900000) (q : ∀ o, σ o = none → Q (.ref o) (upd σ o (.list (iv (octs n))))) : CallOK W (j + 1) 156 [.int n] [] Q σ := by
  refine cS__law_octets G rfl ?_
  refine ⟨_, rfl, modI ((n % 64 : Nat) : Int) (by decide) (by omega) ⟨by show 1 ≤ sizeLine; decide, ?_⟩⟩
  intro o ho
  refine ⟨n + 1, ?_⟩
  refine oc_loop (o := o) (σ₀ := σ) n n [((n % 64 : Nat) : Int)] _ (Nat.le_refl _) (by simp; omega) rfl rfl rfl fun st' e1 e2 => ?_
  exact ⟨_, e1, _, Sub.refl _, by rw [e2]; exact q o ho⟩
end Mine

namespace Mine
open PySem PySem.W PyProof.Rows PySem.Calls

abbrev gO (a t : Int) : Int := a * 64 + t % 64
theorem octP_spec : ∀ (f n : Nat) (acc : List Int), n ≤ f → ∃ ps, octP f n acc = ps ++ acc ∧ (∀ p ∈ ps, 64 ≤ p ∧ p < 128) ∧ ps.foldl gO 0 = ((n / 64 : Nat) : Int) ∧ ps.length ≤ f
  | 0, n, acc, h => ⟨[], rfl, by simp, by have : n = 0 := by omega
                                          subst this; rfl, by simp⟩
  | f + 1, n, acc, h => by
    by_cases hn : 63 < n
    · obtain ⟨ps, e, hp, hf, hl⟩ := octP_spec f (n / 64) ((((n / 64 % 64 : Nat) : Int) + 64) :: acc) (by omega)
      refine ⟨ps ++ [((n / 64 % 64 : Nat) : Int) + 64], by rw [octP, if_pos hn, e]; simp, fun p hp' => ?_, ?_, by simp; omega⟩
      · rcases List.mem_append.mp hp' with h | h
        · exact hp p h
        · rw [List.mem_singleton.mp h]; omega
      · rw [List.foldl_append, hf]
        show ((n / 64 / 64 : Nat) : Int) * 64 + _ % 64 = _
        omega
    · exact ⟨[], by rw [octP, if_neg hn]; rfl, by simp, by show (0 : Int) = _; omega, by simp⟩
def GoodO : Int → List Int → Prop
  | b, [] => 0 ≤ b ∧ b < 64
  | b, t :: ts => (64 ≤ b ∧ b < 128) ∧ GoodO t ts
theorem good_of : ∀ (ps : List Int) (d : Int), (∀ p ∈ ps, 64 ≤ p ∧ p < 128) → 0 ≤ d ∧ d < 64 → ∃ b rem, ps ++ [d] = b :: rem ∧ GoodO b rem
  | [], d, _, hd => ⟨d, [], rfl, hd⟩
  | p :: ps, d, hp, hd => by
    obtain ⟨b, rem, e, hg⟩ := good_of ps d (fun y hy => hp y (by simp [hy])) hd
    exact ⟨p, b :: rem, by rw [List.cons_append, e], hp p (by simp), hg⟩
theorem octs_spec (n : Nat) : ∃ b rem, octs n = b :: rem ∧ GoodO b rem ∧ rem.foldl gO (b % 64) = n ∧ rem.length ≤ n ∧ Oct (octs n) := by
  obtain ⟨ps, e, hp, hf, hl⟩ := octP_spec n n [((n % 64 : Nat) : Int)] (Nat.le_refl _)
  obtain ⟨b, rem, e', hg⟩ := good_of ps ((n % 64 : Nat) : Int) hp (by omega)
  refine ⟨b, rem, by unfold octs; rw [e, e'], hg, ?_, ?_, ?_⟩
  · have h : (b :: rem).foldl gO 0 = n := by
      rw [← e', List.foldl_append, hf]
      show ((n / 64 : Nat) : Int) * 64 + _ % 64 = _
      omega
    simpa [gO] using h
  · have := congrArg List.length e'
    simp at this; omega
  · unfold octs
    rw [e]
    intro y hy
    rcases List.mem_append.mp hy with h | h
    · have := hp y h; omega
    · rw [List.mem_singleton.mp h]; omega
theorem gO_mono : ∀ (rem : List Int) (v : Int), 0 ≤ v → v ≤ rem.foldl gO v
  | [], _, _ => Int.le_refl _
  | t :: ts, v, h => by
    have h1 : 0 ≤ t % 64 := Int.emod_nonneg _ (by decide)
    have := gO_mono ts (gO v t) (by unfold gO; omega)
    rw [List.foldl_cons]
    have h2 : v ≤ gO v t := by unfold gO; omega
    omega
abbrev pvT : PB := valB (biW andW (locW 1) (cW (.int 64)))
abbrev pvB : PF := seqW (augS 2 (cW (.int 6)) lshW)
  (seqW (asgS (cbW (argS (locW 0) arg0) nextW) (setW 1))
  (seqW (augS 2 (biW andW (locW 1) (cW (.int 63))) orW)
  nilW))
theorem drop_get {α : Type} {bs : List α} {i : Nat} {t : α} {r : List α} (h : bs.drop i = t :: r) : bs[i]? = some t ∧ bs.drop (i + 1) = r := by
  have h1 : i < bs.length := by
    rcases Nat.lt_or_ge i bs.length with h' | h'
    · exact h'
    · rw [List.drop_eq_nil_of_le h'] at h; cases h
  rw [List.drop_eq_getElem_cons h1] at h
  injection h with a b
  exact ⟨by rw [List.getElem?_eq_getElem h1, a], b⟩
theorem pv_loop {w : Addr} {σ₀ : St} {bs tail : List Int} {Q : Fl → S → Prop} : ∀ (rem : List Int) (b v : Int) (i : Nat) (st : S), st.ρ 0 = some (.ref w) → st.ρ 1 = some (.int b) → st.ρ 2 = some (.int v) → st.σ = upd σ₀ w (.biter bs i) → bs.drop i = rem ++ tail → GoodO b rem → 0 ≤ v → rem.foldl gO v < 2 ^ 60 →
    (∀ st', st'.ρ 2 = some (.int (rem.foldl gO v)) → st'.σ = upd σ₀ w (.biter bs (i + rem.length)) → Q .next st') → whileN pvT pvB Q (rem.length + 1) st
  | [], b, v, i, st, h0, h1, h2, hσ, hd, hg, hv, hf, K => by
    have hg' : 0 ≤ b ∧ b < 64 := hg
    have e : Builtin.bitAnd b 64 = 0 := by
      have := kbt_bit b 6
      rw [show ((2 : Int) ^ 6) = 64 from rfl] at this
      rw [this]; omega
    exact ⟨_, h1, andI 0 e (K st h2 hσ)⟩
  | t :: ts, b, v, i, st, h0, h1, h2, hσ, hd, hg, hv, hf, K => by
    have hg' : (64 ≤ b ∧ b < 128) ∧ GoodO t ts := hg
    have e : Builtin.bitAnd b 64 = 64 := by
      have := kbt_bit b 6
      rw [show ((2 : Int) ^ 6) = 64 from rfl] at this
      rw [this]; omega
    have hm := gO_mono (t :: ts) v hv
    obtain ⟨ht, hd'⟩ := drop_get hd
    refine ⟨_, h1, andI 64 e ?_⟩
    refine ⟨_, h2, lshI (v * 64) (by omega) rfl ?_⟩
    refine ⟨_, h0, w, bs, i, t, rfl, at_iv hσ, ht, ?_⟩
    refine ⟨_, rfl, _, rfl, andI (t % 64) (bitAnd_m6 _) (orI (v * 64 + t % 64) (or_low 6 (by omega) (by omega)) ?_)⟩
    refine pv_loop (w := w) (σ₀ := σ₀) (bs := bs) (tail := tail) (Q := Q) ts t (v * 64 + t % 64) (i + 1) _ h0 rfl rfl ?_ hd' hg'.2 (by omega) hf fun st' e1 e2 => K st' e1 ?_
    · show upd st.σ w _ = _
      rw [hσ, upd_upd]
    · rw [e2, List.length_cons]; congr 2; omega
end Mine

namespace Mine
/-! ### ways between places, and the shortest of them -/
abbrev Tri3 := Nat × Nat × Nat
def Ed (es : List Tri3) (x y s : Nat) : Prop := (x, y, s) ∈ es ∨ (y, x, s) ∈ es
theorem Ed.symm {es : List Tri3} {x y s : Nat} (h : Ed es x y s) : Ed es y x s := Or.symm h
inductive Way (es : List Tri3) (x : Nat) : Nat → Nat → Prop
  | nil : Way es x x 0
  | snoc {y z n s : Nat} : Way es x y n → Ed es y z s → Way es x z (n + s)
theorem Way.trans {es : List Tri3} {x y z n m : Nat} (h : Way es x y n) (k : Way es y z m) : Way es x z (n + m) := by
  induction k with
  | nil => exact h
  | snoc _ e ih => rw [← Nat.add_assoc]; exact ih.snoc e
theorem Way.symm {es : List Tri3} {x y n : Nat} (h : Way es x y n) : Way es y x n := by
  induction h with
  | nil => exact .nil
  | @snoc y z n s _ e ih =>
    have := (Way.snoc .nil e.symm).trans ih
    rwa [Nat.zero_add, Nat.add_comm] at this
/-- the whole of the ways' sizes -/
def tot (es : List Tri3) : Nat := (es.map fun e => e.2.2).sum

/-! a potential that turns by no more than the sizes turns by no more than their sum -/
def absd (a b : Nat) : Nat := (a - b) + (b - a)
def tv1 (f : Nat → Nat) (es : List Tri3) : Nat := (es.map fun e => absd (f e.1) (f e.2.1)).sum
theorem absd_comm (a b : Nat) : absd a b = absd b a := Nat.add_comm _ _
theorem absd_le {a b : Nat} (h : a ≤ b) : absd a b = b - a := by unfold absd; rw [Nat.sub_eq_zero_of_le h, Nat.zero_add]
theorem lip {φ : Nat → Nat} (h : ∀ t, φ t ≤ φ (t + 1) ∧ φ (t + 1) ≤ φ t + 1) : ∀ t u, absd (φ t) (φ u) ≤ absd t u := by
  have key : ∀ k t, φ t ≤ φ (t + k) ∧ φ (t + k) ≤ φ t + k := fun k t => by
    induction k with
    | zero => exact ⟨Nat.le_refl _, Nat.le_refl _⟩
    | succ k ih => have z := h (t + k); exact ⟨Nat.le_trans ih.1 z.1, Nat.le_trans z.2 (Nat.add_le_add_right ih.2 1)⟩
  have up : ∀ t u, t ≤ u → absd (φ t) (φ u) ≤ absd t u := fun t u hl => by
    obtain ⟨k, rfl⟩ := Nat.exists_eq_add_of_le hl
    have z := key k t
    rw [absd_le z.1, absd_le hl, Nat.add_sub_cancel_left]
    exact Nat.sub_le_of_le_add (by rw [Nat.add_comm k]; exact z.2)
  intro t u
  rcases Nat.le_total t u with h | h
  · exact up t u h
  · rw [absd_comm, absd_comm t]; exact up u t h
theorem collapse1 {a b : Nat} (h : a ≤ b) : ∃ φ : Nat → Nat, φ a = φ b ∧ (∀ t, t ≤ φ t + absd a b ∧ φ t ≤ t) ∧ ∀ t u, absd (φ t) (φ u) ≤ absd t u := by
  refine ⟨fun t => if t ≤ a then t else a + (t - b), ?_, fun t => ?_, lip fun t => ?_⟩ <;> (try rw [absd_le h]) <;> (try dsimp only) <;> repeat' split
  all_goals omega
theorem collapse (a b : Nat) : ∃ φ : Nat → Nat, φ a = φ b ∧ (∀ t, t ≤ φ t + absd a b ∧ φ t ≤ t) ∧ ∀ t u, absd (φ t) (φ u) ≤ absd t u := by
  rcases Nat.le_total a b with h | h
  · exact collapse1 h
  · obtain ⟨φ, h1, h2, h3⟩ := collapse1 h
    rw [absd_comm b] at h2
    exact ⟨φ, h1.symm, h2, h3⟩
theorem way_tv {es₀ : List Tri3} : ∀ (es : List Tri3) (f : Nat → Nat), (∀ e ∈ es₀, e ∈ es ∨ f e.1 = f e.2.1) → ∀ {x y n}, Way es₀ x y n → f y ≤ f x + tv1 f es
  | [], f, h, x, y, n, w => by
    have key : f y = f x := by
      induction w with
      | nil => rfl
      | @snoc y z n s _ e ih =>
        rw [← ih]
        rcases e with e | e
        · exact ((h _ e).resolve_left (fun m => nomatch m)).symm
        · exact (h _ e).resolve_left (fun m => nomatch m)
    rw [key]; exact Nat.le_add_right _ _
  | e :: es, f, h, x, y, n, w => by
    obtain ⟨φ, h1, h2, h3⟩ := collapse (f e.1) (f e.2.1)
    have := way_tv es (fun z => φ (f z)) (fun d m => by
      rcases h d m with m | m
      · rcases List.mem_cons.mp m with rfl | m
        · exact .inr h1
        · exact .inl m
      · exact .inr (by rw [m])) w
    have h4 : tv1 (fun z => φ (f z)) es ≤ tv1 f es := by
      unfold tv1
      clear this w h h1 h2
      induction es with
      | nil => exact Nat.le_refl _
      | cons d es ih => rw [List.map_cons, List.map_cons, List.sum_cons, List.sum_cons]; exact Nat.add_le_add (h3 _ _) ih
    have h5 : tv1 f (e :: es) = absd (f e.1) (f e.2.1) + tv1 f es := by unfold tv1; rw [List.map_cons, List.sum_cons]
    have := h2 (f x); have := h2 (f y)
    omega

/-- d tells the shortest ways, N stands for none -/
structure Dist (es : List Tri3) (d : Nat → Nat → Nat) : Prop where
  zero : ∀ x, x < 5 → d x x = 0
  edge : ∀ x a b s, x < 5 → Ed es a b s → d x b ≤ d x a + s
  top : ∀ x y, x < 5 → y < 5 → d x y ≤ 1 + tot es
  way : ∀ x y, x < 5 → y < 5 → d x y < 1 + tot es → Way es x y (d x y)
  ends : ∀ a b s, Ed es a b s → b < 5
namespace Dist
variable {es : List Tri3} {d : Nat → Nat → Nat}
theorem le (D : Dist es d) {x y n : Nat} (hx : x < 5) (w : Way es x y n) : d x y ≤ n := by
  induction w with
  | nil => exact Nat.le_of_eq (D.zero x hx)
  | snoc _ e ih => have := D.edge _ _ _ _ hx e; omega
theorem fin (D : Dist es d) {x y n : Nat} (hx : x < 5) (w : Way es x y n) : d x y < 1 + tot es := by
  have h := way_tv es (d x) (fun e m => .inl m) w
  rw [D.zero x hx] at h
  have h2 : tv1 (d x) es ≤ tot es := by
    have : ∀ e ∈ es, absd (d x e.1) (d x e.2.1) ≤ e.2.2 := fun e m => by
      have := D.edge x e.1 e.2.1 e.2.2 hx (.inl m)
      have := D.edge x e.2.1 e.1 e.2.2 hx (.inr m)
      unfold absd; omega
    unfold tv1 tot
    clear h w D
    induction es with
    | nil => exact Nat.le_refl _
    | cons e es ih => rw [List.map_cons, List.map_cons, List.sum_cons, List.sum_cons]; exact Nat.add_le_add (this e (.head _)) (ih fun e m => this e (.tail _ m))
  omega
theorem symm (D : Dist es d) {x y : Nat} (hx : x < 5) (hy : y < 5) : d x y = d y x := by
  have key : ∀ {x y : Nat}, x < 5 → y < 5 → d y x ≤ d x y := fun {x y} hx hy => by
    by_cases h : d x y < 1 + tot es
    · exact D.le hy (D.way x y hx hy h).symm
    · have := D.top y x hy hx; omega
  exact Nat.le_antisymm (key hy hx) (key hx hy)
theorem tri (D : Dist es d) {x y z : Nat} (hx : x < 5) (hy : y < 5) (hz : z < 5) : d x z ≤ d x y + d y z := by
  have t := D.top x z hx hz
  by_cases h1 : d x y < 1 + tot es
  · by_cases h2 : d y z < 1 + tot es
    · exact D.le hx ((D.way x y hx hy h1).trans (D.way y z hy hz h2))
    · omega
  · omega
theorem join (D : Dist es d) {x y z : Nat} (hx : x < 5) (hy : y < 5) (hz : z < 5) (h1 : d x y < 1 + tot es) (h2 : d y z < 1 + tot es) : d x z < 1 + tot es :=
  D.fin hx ((D.way x y hx hy h1).trans (D.way y z hy hz h2))
end Dist

/-! ### the lengths, as the law reckons them -/
def st2 (m : Nat → Nat → Nat) (a b v : Nat) : Nat → Nat → Nat := fun i j => if i = a ∧ j = b then v else m i j
def edg (m : Nat → Nat → Nat) (e : Tri3) : Nat → Nat → Nat := st2 (st2 m e.1 e.2.1 (min (m e.1 e.2.1) e.2.2)) e.2.1 e.1 (min (st2 m e.1 e.2.1 (min (m e.1 e.2.1) e.2.2) e.2.1 e.1) e.2.2)
def ph (t : Nat → Nat → Nat) (k : Nat) : Nat → Nat → Nat := fun i j => min (t i j) (t i k + t k j)
def pp (t : Nat → Nat → Nat) (k a b : Nat) : Nat → Nat → Nat := fun i j => if i < a ∨ (i = a ∧ j < b) then ph t k i j else t i j
theorem pp_step {t : Nat → Nat → Nat} {k a b : Nat} (h : t k k = 0) : st2 (pp t k a b) a b (min (pp t k a b a b) (pp t k a b a k + pp t k a b k b)) = pp t k a (b + 1) := by
  funext i j
  have h1 : ∀ i, pp t k a b i k = t i k := fun i => by unfold pp ph; split <;> omega
  have h2 : ∀ j, pp t k a b k j = t k j := fun j => by unfold pp ph; split <;> omega
  have h3 : pp t k a b a b = t a b := by unfold pp; rw [if_neg (by omega)]
  rw [h1, h2, h3]
  unfold st2
  split
  · next h => obtain ⟨rfl, rfl⟩ := h; unfold pp ph; rw [if_pos (by omega)]
  · unfold pp; split <;> split <;> first | rfl | (exfalso; omega)
theorem pp_row {t : Nat → Nat → Nat} {k a i j : Nat} (hj : j < 5) : pp t k a 5 i j = pp t k (a + 1) 0 i j := by
  unfold pp; split <;> split <;> first | rfl | (exfalso; omega)
def fw0 (N : Nat) : Nat → Nat → Nat := fun i j => if i = j then 0 else N
structure Fw (es es' : List Tri3) (N : Nat) (n : Nat) (m : Nat → Nat → Nat) : Prop where
  zero : ∀ x, m x x = 0
  top : ∀ x y, m x y ≤ N
  way : ∀ x y, m x y < N → Way es x y (m x y)
  edge : ∀ a b s, Ed es' a b s → m a b ≤ s
  tri : ∀ k, k < n → ∀ i j, m i j ≤ m i k + m k j
theorem fw_init (es : List Tri3) (N : Nat) : Fw es [] N 0 (fw0 N) where
  zero := fun x => if_pos rfl
  top := fun x y => by unfold fw0; split <;> omega
  way := fun x y h => by
    unfold fw0 at h ⊢
    split at h
    · next e => subst e; rw [if_pos rfl]; exact .nil
    · exact absurd h (Nat.lt_irrefl _)
  edge := fun _ _ _ h => by rcases h with h | h <;> cases h
  tri := fun _ h => absurd h (Nat.not_lt_zero _)
theorem fw_put {es es' : List Tri3} {N a b s : Nat} {m : Nat → Nat → Nat} (h : Fw es es' N 0 m) (e : Ed es a b s) : Fw es es' N 0 (st2 m a b (min (m a b) s)) where
  zero := fun x => by unfold st2; have := h.zero x; split <;> first | omega | (next z => obtain ⟨rfl, rfl⟩ := z; omega)
  top := fun x y => by unfold st2; have := h.top x y; split <;> first | omega | (next z => obtain ⟨rfl, rfl⟩ := z; omega)
  way := fun x y hl => by
    unfold st2 at hl ⊢
    by_cases z : x = a ∧ y = b
    · rw [if_pos z] at hl ⊢
      obtain ⟨rfl, rfl⟩ := z
      by_cases q : m x y ≤ s
      · rw [Nat.min_eq_left q] at hl ⊢; exact h.way x y hl
      · rw [Nat.min_eq_right (by omega)]
        have := Way.snoc .nil e
        rwa [Nat.zero_add] at this
    · rw [if_neg z] at hl ⊢; exact h.way x y hl
  edge := fun c d t hd => by have := h.edge c d t hd; unfold st2; split <;> first | exact this | (next z => obtain ⟨rfl, rfl⟩ := z; omega)
  tri := fun _ h => absurd h (Nat.not_lt_zero _)
theorem fw_edg {es es' : List Tri3} {N : Nat} {e : Tri3} {m : Nat → Nat → Nat} (h : Fw es es' N 0 m) (he : e ∈ es) : Fw es (es' ++ [e]) N 0 (edg m e) := by
  obtain ⟨a, b, s⟩ := e
  have k := fw_put (fw_put h (.inl he : Ed es a b s)) (.inr he : Ed es b a s)
  refine { k with edge := fun c d t hd => ?_ }
  have hn : Ed es' c d t ∨ (c = a ∧ d = b ∧ t = s) ∨ (c = b ∧ d = a ∧ t = s) := by
    rcases hd with hd | hd <;> rcases List.mem_append.mp hd with hd | hd
    · exact .inl (.inl hd)
    · simp at hd; exact .inr (.inl hd)
    · exact .inl (.inr hd)
    · simp at hd; exact .inr (.inr ⟨hd.2.1, hd.1, hd.2.2⟩)
  rcases hn with hd | ⟨rfl, rfl, rfl⟩ | ⟨rfl, rfl, rfl⟩
  · exact k.edge c d t hd
  · unfold edg st2; dsimp only; split <;> first | omega | (rw [if_pos ⟨rfl, rfl⟩]; omega)
  · unfold edg st2; dsimp only; rw [if_pos ⟨rfl, rfl⟩]; omega
theorem fw_ph {es es' : List Tri3} {N n : Nat} {m : Nat → Nat → Nat} (h : Fw es es' N n m) : Fw es es' N (n + 1) (ph m n) where
  zero := fun x => by unfold ph; have := h.zero x; omega
  top := fun x y => by unfold ph; have := h.top x y; omega
  way := fun x y hl => by
    unfold ph at hl ⊢
    by_cases q : m x y ≤ m x n + m n y
    · rw [Nat.min_eq_left q] at hl ⊢; exact h.way x y hl
    · rw [Nat.min_eq_right (by omega)] at hl ⊢
      exact (h.way x n (by omega)).trans (h.way n y (by omega))
  edge := fun c d t hd => by have := h.edge c d t hd; unfold ph; omega
  tri := fun k hk i j => by
    have z := h.zero n
    unfold ph
    by_cases e : k = n
    · subst e; omega
    · have hk' : k < n := by omega
      have := h.tri k hk' i j; have := h.tri k hk' i n; have := h.tri k hk' n j
      omega
def fwE (N : Nat) (es : List Tri3) : Nat → Nat → Nat := es.foldl edg (fw0 N)
def fwP (t : Nat → Nat → Nat) : Nat → Nat → Nat → Nat
  | 0 => t
  | n + 1 => ph (fwP t n) n
abbrev dst (es : List Tri3) : Nat → Nat → Nat := fwP (fwE (1 + tot es) es) 5
theorem fw_edges {es : List Tri3} {N : Nat} : ∀ (rest done : List Tri3) (m : Nat → Nat → Nat), (∀ e ∈ rest, e ∈ es) → Fw es done N 0 m → Fw es (done ++ rest) N 0 (rest.foldl edg m)
  | [], done, m, _, h => by rw [List.append_nil]; exact h
  | e :: rest, done, m, hr, h => by
    have := fw_edges rest (done ++ [e]) (edg m e) (fun x m => hr x (.tail _ m)) (fw_edg h (hr e (.head _)))
    rw [List.append_assoc] at this
    exact this
theorem fw_phs {es es' : List Tri3} {N : Nat} {m : Nat → Nat → Nat} (h : Fw es es' N 0 m) : ∀ n, Fw es es' N n (fwP m n)
  | 0 => h
  | n + 1 => fw_ph (fw_phs h n)
theorem fw_zero {es : List Tri3} {n k : Nat} : fwP (fwE (1 + tot es) es) n k k = 0 := (fw_phs (fw_edges es [] _ (fun _ m => m) (fw_init es _)) n).zero k
theorem dist_of {es : List Tri3} (he : ∀ e ∈ es, e.1 < 5 ∧ e.2.1 < 5) : Dist es (dst es) := by
  have h := fw_phs (fw_edges es [] _ (fun _ m => m) (fw_init es (1 + tot es))) 5
  rw [List.nil_append] at h
  refine ⟨fun x _ => h.zero x, fun x a b s hx e => ?_, fun x y _ _ => h.top x y, fun x y _ _ => h.way x y, fun a b s e => ?_⟩
  · have ha : a < 5 := by rcases e with e | e; exact (he _ e).1; exact (he _ e).2
    have := h.edge a b s e
    have := h.tri a ha x b
    exact Nat.le_trans this (Nat.add_le_add_left (h.edge a b s e) _)
  · rcases e with e | e
    · exact (he _ e).2
    · exact (he _ e).1
end Mine

namespace Mine
/-! ### what a search tells -/
abbrev Near := Nat → Option (Nat × Nat)
def le2 (a b : Nat × Nat) : Prop := a.1 < b.1 ∨ (a.1 = b.1 ∧ a.2 ≤ b.2)
theorem le2.trans {a b c : Nat × Nat} (h : le2 a b) (k : le2 b c) : le2 a c := by unfold le2 at *; omega
theorem le2.rfl {a : Nat × Nat} : le2 a a := by unfold le2; omega
theorem le2.add {a b c d s : Nat} (h : le2 (a, b) (c, d)) : le2 (a + s, b) (c + s, d) := by unfold le2 at *; dsimp only at *; omega
theorem le2.fst {a b : Nat × Nat} (h : le2 a b) : a.1 ≤ b.1 := by unfold le2 at h; omega
/-- within the bound -/
def Bd (bnd : Near) (y f : Nat) : Prop := ∀ p, bnd y = some p → f < p.1
/-- the bound turns by no more than the sizes -/
def Lip (es : List Tri3) (bnd : Near) : Prop := ∀ a b s p, Ed es a b s → bnd a = some p → ∃ q, bnd b = some q ∧ q.1 ≤ p.1 + s
structure Found (es : List Tri3) (hubs : List Nat) (bnd near : Near) : Prop where
  snd : ∀ y f h, near y = some (f, h) → h ∈ hubs ∧ Way es h y f ∧ Bd bnd y f
  cpl : ∀ h y n, h ∈ hubs → Way es h y n → Bd bnd y n → ∃ p, near y = some p ∧ le2 p (n, h)
theorem Bd.le {bnd : Near} {y f g : Nat} (h : Bd bnd y f) (k : g ≤ f) : Bd bnd y g := fun p e => Nat.lt_of_le_of_lt k (h p e)
theorem Bd.back {es : List Tri3} {bnd : Near} (L : Lip es bnd) {x y n s : Nat} (e : Ed es x y s) (h : Bd bnd y (n + s)) : Bd bnd x n := fun p hp => by
  obtain ⟨q, hq, hl⟩ := L x y s p e hp
  have := h q hq
  omega
theorem Bd.free {y f : Nat} : Bd (fun _ => none) y f := fun _ e => nomatch e
theorem lip_free {es : List Tri3} : Lip es (fun _ => none) := fun _ _ _ _ _ e => nomatch e
theorem Found.lip {es : List Tri3} {hubs : List Nat} {near : Near} (F : Found es hubs (fun _ => none) near) : Lip es near := fun a b s p e hp => by
  obtain ⟨f, h⟩ := p
  obtain ⟨hm, w, _⟩ := F.snd a f h hp
  obtain ⟨q, hq, hl⟩ := F.cpl h b _ hm (w.snoc e) .free
  exact ⟨q, hq, hl.fst⟩

/-! the search under way -/
def el (f h y : Nat) : List Int := [(f : Int), (h : Int), (y : Int)]
def Done (bnd near : Near) (y f h : Nat) : Prop := (∃ p, near y = some p ∧ le2 p (f, h)) ∨ ¬ Bd bnd y f
def setN (near : Near) (y : Nat) (p : Nat × Nat) : Near := fun z => if z = y then some p else near z
def ElLe (p : Nat × Nat) (e : List Int) : Prop := ∃ f h y : Nat, e = el f h y ∧ le2 p (f, h)
structure Sr (es : List Tri3) (hubs : List Nat) (bnd near : Near) (hs : List (List Int)) (pend : Nat → Nat → Nat → Nat → Prop) : Prop where
  heap : ∀ e ∈ hs, ∃ f h y : Nat, e = el f h y ∧ y < 5 ∧ h ∈ hubs ∧ Way es h y f
  snd : ∀ y f h, near y = some (f, h) → h ∈ hubs ∧ Way es h y f ∧ Bd bnd y f
  mono : ∀ x p, near x = some p → ∀ e ∈ hs, ElLe p e
  src : ∀ h ∈ hubs, el 0 h h ∈ hs ∨ Done bnd near h 0 h
  clo : ∀ x f h, near x = some (f, h) → ∀ y s, Ed es x y s → el (f + s) h y ∈ hs ∨ Done bnd near y (f + s) h ∨ pend y s f h
theorem Sr.perm {es : List Tri3} {hubs : List Nat} {bnd near : Near} {hs hs' : List (List Int)} {pend} (S : Sr es hubs bnd near hs pend) (p : hs'.Perm hs) : Sr es hubs bnd near hs' pend :=
  ⟨fun e m => S.heap e (p.mem_iff.mp m), S.snd, fun x q hx e m => S.mono x q hx e (p.mem_iff.mp m), fun h m => (S.src h m).imp_left p.mem_iff.mpr, fun x f h hx y s e => (S.clo x f h hx y s e).imp_left p.mem_iff.mpr⟩
abbrev noP : Nat → Nat → Nat → Nat → Prop := fun _ _ _ _ => False
theorem el_inj {f h y f' h' y' : Nat} (e : el f h y = el f' h' y') : f = f' ∧ h = h' ∧ y = y' := by
  unfold el at e
  injection e with a e; injection e with b e; injection e with c _
  exact ⟨by omega, by omega, by omega⟩
/-- at the end -/
theorem Sr.found {es : List Tri3} {hubs : List Nat} {bnd near : Near} (S : Sr es hubs bnd near [] noP) (L : Lip es bnd) : Found es hubs bnd near := by
  refine ⟨S.snd, fun h y n hh w => ?_⟩
  induction w with
  | nil =>
    intro hb
    rcases S.src h hh with m | m | m
    · cases m
    · exact m
    · exact absurd hb m
  | @snoc y z n s w e ih =>
    intro hb
    obtain ⟨p, hp, hl⟩ := ih (hb.back L e)
    obtain ⟨f, g⟩ := p
    have hl' : le2 (f + s, g) (n + s, h) := hl.add
    rcases S.clo y f g hp z s e with m | m | m
    · cases m
    · rcases m with ⟨q, hq, hl2⟩ | m
      · exact ⟨q, hq, hl2.trans hl'⟩
      · exact absurd (hb.le hl'.fst) m
    · exact m.elim
/-- the least is taken off, and is of no use -/
theorem Sr.skip {es : List Tri3} {hubs : List Nat} {bnd near : Near} {hs : List (List Int)} {f h y : Nat} (S : Sr es hubs bnd near (el f h y :: hs) noP) (k : near y ≠ none ∨ ¬ Bd bnd y f) : Sr es hubs bnd near hs noP := by
  have done : Done bnd near y f h := by
    rcases k with k | k
    · cases e : near y with
      | none => exact absurd e k
      | some p =>
        obtain ⟨f', h', y', e', hl⟩ := S.mono y p e _ (.head _)
        obtain ⟨rfl, rfl, rfl⟩ := el_inj e'
        exact .inl ⟨p, e, hl⟩
    · exact .inr k
  have off : ∀ {f' h' y'}, el f' h' y' ∈ el f h y :: hs → el f' h' y' ∈ hs ∨ Done bnd near y' f' h' := fun {f' h' y'} m => by
    rcases List.mem_cons.mp m with e | m
    · obtain ⟨rfl, rfl, rfl⟩ := el_inj e; exact .inr done
    · exact .inl m
  refine ⟨fun e m => S.heap e (.tail _ m), S.snd, fun x p hx e m => S.mono x p hx e (.tail _ m), fun g hg => ?_, fun x a g hx z s e => ?_⟩
  · rcases S.src g hg with m | m
    · exact off m
    · exact .inr m
  · rcases S.clo x a g hx z s e with m | m | m
    · exact (off m).imp_right .inl
    · exact .inr (.inl m)
    · exact m.elim
theorem Done.set {bnd near : Near} {y z f h : Nat} {p : Nat × Nat} (hn : near y = none) (d : Done bnd near z f h) : Done bnd (setN near y p) z f h := d.imp_left fun ⟨q, hq, hl⟩ => ⟨q, (by
  unfold setN; rw [if_neg (fun e => by rw [e, hn] at hq; cases hq)]; exact hq), hl⟩
abbrev pnd (rest : List (Nat × Nat)) (f h : Nat) : Nat → Nat → Nat → Nat → Prop := fun z s f' h' => f' = f ∧ h' = h ∧ (z, s) ∈ rest
/-- the least is taken off and settles its place -/
theorem Sr.take {es : List Tri3} {hubs : List Nat} {bnd near : Near} {hs : List (List Int)} {f h y : Nat} {adj : List (Nat × Nat)} (S : Sr es hubs bnd near (el f h y :: hs) noP) (hn : near y = none) (hb : Bd bnd y f)
    (hmin : ∀ e ∈ hs, ElLe (f, h) e) (hadj : ∀ z s, Ed es y z s → (z, s) ∈ adj) : Sr es hubs bnd (setN near y (f, h)) hs (pnd adj f h) := by
  have done : Done bnd (setN near y (f, h)) y f h := .inl ⟨(f, h), if_pos rfl, le2.rfl⟩
  have hw : h ∈ hubs ∧ Way es h y f := by
    obtain ⟨f', h', y', e, _, a, b⟩ := S.heap _ (.head _)
    obtain ⟨rfl, rfl, rfl⟩ := el_inj e
    exact ⟨a, b⟩
  have off : ∀ {f' h' y'}, el f' h' y' ∈ el f h y :: hs → el f' h' y' ∈ hs ∨ Done bnd (setN near y (f, h)) y' f' h' := fun {f' h' y'} m => by
    rcases List.mem_cons.mp m with e | m
    · obtain ⟨rfl, rfl, rfl⟩ := el_inj e; exact .inr done
    · exact .inl m
  have set : ∀ {z f' h'}, Done bnd near z f' h' → Done bnd (setN near y (f, h)) z f' h' := fun {z f' h'} d => d.imp_left fun ⟨q, hq, hl⟩ => ⟨q, (if_neg (fun e => by rw [e, hn] at hq; cases hq)).trans hq, hl⟩
  have at_ : ∀ {z p}, setN near y (f, h) z = some p → (z = y ∧ p = (f, h)) ∨ near z = some p := fun {z p} e => by
    unfold setN at e
    split at e
    · next q => exact .inl ⟨q, (Option.some.inj e).symm⟩
    · exact .inr e
  refine ⟨fun e m => S.heap e (.tail _ m), fun z a g hz => ?_, fun z p hz e m => ?_, fun g hg => ?_, fun x a g hx z s e => ?_⟩
  · rcases at_ hz with ⟨rfl, q⟩ | hz
    · cases q; exact ⟨hw.1, hw.2, hb⟩
    · exact S.snd z a g hz
  · rcases at_ hz with ⟨rfl, rfl⟩ | hz
    · exact hmin e m
    · exact S.mono z p hz e (.tail _ m)
  · rcases S.src g hg with m | m
    · exact off m
    · exact .inr (set m)
  · rcases at_ hx with ⟨rfl, q⟩ | hx
    · cases q; exact .inr (.inr ⟨rfl, rfl, hadj z s e⟩)
    · rcases S.clo x a g hx z s e with m | m | m
      · exact (off m).imp_right .inl
      · exact .inr (.inl (set m))
      · exact m.elim
/-- a neighbour is put on the heap -/
theorem Sr.push {es : List Tri3} {hubs : List Nat} {bnd near : Near} {hs : List (List Int)} {f h y z s : Nat} {rest : List (Nat × Nat)} (S : Sr es hubs bnd near hs (pnd ((z, s) :: rest) f h)) (hy : near y = some (f, h)) (he : Ed es y z s) (hz : z < 5)
    (hle : ∀ x p, near x = some p → le2 p (f, h)) : Sr es hubs bnd near (el (f + s) h z :: hs) (pnd rest f h) := by
  obtain ⟨a, w, _⟩ := S.snd y f h hy
  refine ⟨fun e m => ?_, S.snd, fun x p hx e m => ?_, fun g hg => (S.src g hg).imp_left (.tail _), fun x a g hx u t e => ?_⟩
  · rcases List.mem_cons.mp m with rfl | m
    · exact ⟨_, _, _, rfl, hz, a, w.snoc he⟩
    · exact S.heap e m
  · rcases List.mem_cons.mp m with rfl | m
    · have := hle x p hx
      exact ⟨_, _, _, rfl, by unfold le2 at *; dsimp only at *; omega⟩
    · exact S.mono x p hx e m
  · rcases S.clo x a g hx u t e with m | m | ⟨rfl, rfl, m⟩
    · exact .inl (.tail _ m)
    · exact .inr (.inl m)
    · rcases List.mem_cons.mp m with q | m
      · cases q; exact .inl (.head _)
      · exact .inr (.inr ⟨rfl, rfl, m⟩)
/-- a neighbour is settled -/
theorem Sr.pass {es : List Tri3} {hubs : List Nat} {bnd near : Near} {hs : List (List Int)} {f h z s : Nat} {rest : List (Nat × Nat)} (S : Sr es hubs bnd near hs (pnd ((z, s) :: rest) f h)) (hz : near z ≠ none)
    (hle : ∀ x p, near x = some p → le2 p (f, h)) : Sr es hubs bnd near hs (pnd rest f h) := by
  refine ⟨S.heap, S.snd, S.mono, S.src, fun x a g hx u t e => ?_⟩
  rcases S.clo x a g hx u t e with m | m | ⟨rfl, rfl, m⟩
  · exact .inl m
  · exact .inr (.inl m)
  · rcases List.mem_cons.mp m with q | m
    · cases q
      cases hz' : near z with
      | none => exact absurd hz' hz
      | some p => exact .inr (.inl (.inl ⟨p, hz', (hle z p hz').trans (by unfold le2; dsimp only; omega)⟩))
    · exact .inr (.inr ⟨rfl, rfl, m⟩)
/-- what is still to come -/
def mu (adj : Nat → List (Nat × Nat)) (near : Near) : Nat := ((List.range 5).map fun y => if (near y).isNone = true then (adj y).length else 0).sum
theorem sum_one {g g' : Nat → Nat} {y c : Nat} (hy : g' y + c = g y) (ho : ∀ z, z ≠ y → g' z = g z) : ∀ l : List Nat, l.Nodup → y ∈ l → (l.map g').sum + c = (l.map g).sum
  | z :: l, hn, hm => by
    rw [List.map_cons, List.map_cons, List.sum_cons, List.sum_cons]
    by_cases e : z = y
    · subst e
      rw [List.map_congr_left fun x m => ho x (fun q => (List.nodup_cons.mp hn).1 (q ▸ m)), Nat.add_right_comm, hy]
    · have ih := sum_one hy ho l (List.nodup_cons.mp hn).2 ((List.mem_cons.mp hm).resolve_left (Ne.symm e))
      rw [ho z e, Nat.add_assoc, ih]
theorem mu_set {adj : Nat → List (Nat × Nat)} {near : Near} {y : Nat} {p : Nat × Nat} (hy : y < 5) (hn : near y = none) : mu adj (setN near y p) + (adj y).length = mu adj near := by
  refine sum_one ?_ (fun z hz => ?_) _ List.nodup_range (List.mem_range.mpr hy)
  · rw [show setN near y p y = some p from if_pos rfl, hn]; exact Nat.zero_add _
  · rw [show setN near y p z = near z from if_neg hz]
end Mine

namespace Mine
/-! ### labels and what the lengths say of them -/
def hubsOf (ranks : Nat → Nat) (k : Nat) : List Nat := (List.range 5).filter fun h => decide (k < ranks h)
theorem mem_hubs {ranks : Nat → Nat} {k h : Nat} : h ∈ hubsOf ranks k ↔ h < 5 ∧ k < ranks h := by unfold hubsOf; rw [List.mem_filter, List.mem_range, decide_eq_true_iff]
section
variable {es : List Tri3} {d : Nat → Nat → Nat}
theorem near_some (D : Dist es d) {hubs : List Nat} {nr : Near} (F : Found es hubs (fun _ => none) nr) (h5 : ∀ h ∈ hubs, h < 5) {y f h : Nat} (hy : y < 5) (e : nr y = some (f, h)) :
    h ∈ hubs ∧ f = d h y ∧ d h y < 1 + tot es ∧ ∀ h' ∈ hubs, d h' y < 1 + tot es → le2 (f, h) (d h' y, h') := by
  obtain ⟨m, w, _⟩ := F.snd y f h e
  have le : ∀ h' ∈ hubs, d h' y < 1 + tot es → le2 (f, h) (d h' y, h') := fun h' m' hl => by
    obtain ⟨p, hp, hl'⟩ := F.cpl h' y _ m' (D.way h' y (h5 h' m') hy hl) .free
    rw [e] at hp; cases hp; exact hl'
  have fin := D.fin (h5 h m) w
  exact ⟨m, Nat.le_antisymm (le h m fin).fst (D.le (h5 h m) w), fin, le⟩
theorem near_none (D : Dist es d) {hubs : List Nat} {nr : Near} (F : Found es hubs (fun _ => none) nr) (h5 : ∀ h ∈ hubs, h < 5) {y : Nat} (hy : y < 5) (e : nr y = none) : ∀ h ∈ hubs, ¬ d h y < 1 + tot es := fun h m hl => by
  obtain ⟨p, hp, _⟩ := F.cpl h y _ m (D.way h y (h5 h m) hy hl) .free
  rw [e] at hp; cases hp
theorem rc_some (D : Dist es d) {h : Nat} {bnd rc : Near} (F : Found es [h] bnd rc) (h5 : h < 5) {y : Nat} (hy : y < 5) {q : Nat × Nat} (e : rc y = some q) : q.1 = d h y ∧ d h y < 1 + tot es ∧ Bd bnd y (d h y) := by
  obtain ⟨m, w, b⟩ := F.snd y q.1 q.2 e
  rw [List.mem_singleton.mp m] at w
  have fin := D.fin h5 w
  have b' := b.le (D.le h5 w)
  obtain ⟨p, hp, hl⟩ := F.cpl h y _ (List.mem_singleton.mpr rfl) (D.way h y h5 hy fin) b'
  rw [e] at hp; cases hp
  exact ⟨Nat.le_antisymm hl.fst (D.le h5 w), fin, b'⟩
theorem rc_none (D : Dist es d) {h : Nat} {bnd rc : Near} (F : Found es [h] bnd rc) (h5 : h < 5) {y : Nat} (hy : y < 5) (e : rc y = none) (hl : d h y < 1 + tot es) : ¬ Bd bnd y (d h y) := fun b => by
  obtain ⟨p, hp, _⟩ := F.cpl h y _ (List.mem_singleton.mpr rfl) (D.way h y h5 hy hl) b
  rw [e] at hp; cases hp
end
/-- h stands in the label of y -/
def enB (d : Nat → Nat → Nat) (ranks : Nat → Nat) (N y h : Nat) : Bool := decide (d y h < N) && (List.range 5).all fun o => !decide (ranks h < ranks o) || decide (d y h < d y o)
theorem enB_iff {d : Nat → Nat → Nat} {ranks : Nat → Nat} {N y h : Nat} : enB d ranks N y h = true ↔ d y h < N ∧ ∀ o, o < 5 → ranks h < ranks o → d y h < d y o := by
  unfold enB
  rw [Bool.and_eq_true, decide_eq_true_iff, List.all_eq_true]
  refine and_congr_right fun _ => ⟨fun k o ho hr => ?_, fun k o ho => ?_⟩
  · have := k o (List.mem_range.mpr ho)
    rw [decide_eq_true hr] at this
    exact of_decide_eq_true this
  · by_cases hr : ranks h < ranks o
    · rw [decide_eq_true (k o (List.mem_range.mp ho) hr)]; exact Bool.or_true _
    · rw [decide_eq_false hr]; rfl
def enL (d : Nat → Nat → Nat) (ranks : Nat → Nat) (N y : Nat) : List (Nat × Nat) := (List.range 5).filterMap fun h => if enB d ranks N y h = true then some (h, d y h) else none
def glL (nr : Nat → Near) (y : Nat) : List (Nat × Nat) := (List.range 2).filterMap fun k => (nr k y).map fun q => (q.2, q.1)
/-- what the searches have told -/
structure Lab (es : List Tri3) (d : Nat → Nat → Nat) (ranks : Nat → Nat) (nr : Nat → Near) : Prop where
  dist : Dist es d
  rank : ∀ p, p < 5 → ranks p < 3
  near : ∀ k, k < 2 → Found es (hubsOf ranks k) (fun _ => none) (nr k)
  two : nr 2 = fun _ => none
namespace Lab
variable {es : List Tri3} {d : Nat → Nat → Nat} {ranks : Nat → Nat} {nr : Nat → Near}
theorem nears (B : Lab es d ranks nr) {k : Nat} (hk : k < 3) : Found es (hubsOf ranks k) (fun _ => none) (nr k) := by
  by_cases h : k < 2
  · exact B.near k h
  · have : k = 2 := by omega
    subst this
    rw [B.two]
    refine ⟨(fun _ _ _ e => nomatch e), fun h y n m _ _ => ?_⟩
    have := mem_hubs.mp m
    have := B.rank h this.1
    omega
theorem hub5 {k : Nat} : ∀ h ∈ hubsOf ranks k, h < 5 := fun _ m => (mem_hubs.mp m).1
theorem en_iff (B : Lab es d ranks nr) {h y : Nat} (h5 : h < 5) (hy : y < 5) : enB d ranks (1 + tot es) y h = true ↔ d h y < 1 + tot es ∧ Bd (nr (ranks h)) y (d h y) := by
  have F := B.nears (B.rank h h5)
  have D := B.dist
  rw [enB_iff, D.symm hy h5]
  refine and_congr_right fun hl => ⟨fun k p hp => ?_, fun k o ho hr => ?_⟩
  · obtain ⟨f, w⟩ := p
    obtain ⟨m, rfl, _, _⟩ := near_some D F hub5 hy hp
    have mw := mem_hubs.mp m
    have := k w mw.1 mw.2
    rwa [D.symm hy mw.1] at this
  · rw [D.symm hy ho]
    by_cases hN : d o y < 1 + tot es
    · cases e : nr (ranks h) y with
      | none => exact absurd hN (near_none D F hub5 hy e o (mem_hubs.mpr ⟨ho, hr⟩))
      | some p =>
        have h1 := k p e
        have h2 := ((near_some D F hub5 hy e).2.2.2 o (mem_hubs.mpr ⟨ho, hr⟩) hN).fst
        exact Nat.lt_of_lt_of_le h1 h2
    · exact Nat.lt_of_lt_of_le hl (Nat.le_of_not_lt hN)
theorem en_rc (B : Lab es d ranks nr) {h y : Nat} (h5 : h < 5) (hy : y < 5) {rc : Near} (F : Found es [h] (nr (ranks h)) rc) : ((rc y).map fun q => (h, q.1)) = if enB d ranks (1 + tot es) y h = true then some (h, d y h) else none := by
  cases e : rc y with
  | none =>
    rw [if_neg fun k => ?_]; rfl
    obtain ⟨hl, hb⟩ := (B.en_iff h5 hy).mp k
    exact rc_none B.dist F h5 hy e hl hb
  | some q =>
    obtain ⟨h1, h2, h3⟩ := rc_some B.dist F h5 hy e
    rw [if_pos ((B.en_iff h5 hy).mpr ⟨h2, h3⟩), B.dist.symm hy h5, ← h1]; rfl
end Lab

/-! ### the walk from guide to guide -/
def tell (gl en : Nat → List (Nat × Nat)) : Nat → Nat → Nat → Nat → Nat → Nat → List Nat
  | 0, _, _, _, _, _ => []
  | n + 1, far, hub, turn, one, other =>
    if ((en other).map (·.1)).contains hub = true then ((en other).filter fun p => p.1 == hub).map fun p => far + p.2
    else match (gl other)[turn]? with
      | none => []
      | some p => tell gl en n p.2 p.1 (turn + 1) other one
theorem one_name {P : Nat → Bool} {g : Nat → Nat} {h : Nat} (hp : P h = true) : ∀ l : List Nat, l.Nodup → h ∈ l → (l.filterMap fun x => if P x = true then some (x, g x) else none).filter (fun p => p.1 == h) = [(h, g h)]
  | x :: l, hn, m => by
    have off : ∀ l : List Nat, h ∉ l → (l.filterMap fun x => if P x = true then some (x, g x) else none).filter (fun p => p.1 == h) = [] := fun l hm => List.filter_eq_nil_iff.mpr fun p hp' => by
      obtain ⟨z, hz, e⟩ := List.mem_filterMap.mp hp'
      split at e
      · cases e; exact fun q => hm (beq_iff_eq.mp q ▸ hz)
      · cases e
    by_cases e : x = h
    · subst e
      rw [List.filterMap_cons, if_pos hp]
      dsimp only
      rw [List.filter_cons, if_pos (beq_self_eq_true _), off l (List.nodup_cons.mp hn).1]
    · have ih := one_name (g := g) hp l (List.nodup_cons.mp hn).2 ((List.mem_cons.mp m).resolve_left (Ne.symm e))
      rw [List.filterMap_cons]
      split
      · exact ih
      · next b hb =>
        split at hb
        · cases hb
          rw [List.filter_cons, if_neg (fun q => e (beq_iff_eq.mp q))]; exact ih
        · cases hb
theorem mem_en {d : Nat → Nat → Nat} {ranks : Nat → Nat} {N y h : Nat} : ((enL d ranks N y).map (·.1)).contains h = true ↔ h < 5 ∧ enB d ranks N y h = true := by
  rw [List.contains_iff_mem, List.mem_map]
  constructor
  · rintro ⟨p, m, rfl⟩
    obtain ⟨z, hz, e⟩ := List.mem_filterMap.mp m
    split at e
    · next q => cases e; exact ⟨List.mem_range.mp hz, q⟩
    · cases e
  · rintro ⟨h5, hb⟩
    exact ⟨(h, d y h), List.mem_filterMap.mpr ⟨h, List.mem_range.mpr h5, if_pos hb⟩, rfl⟩
namespace Lab
variable {es : List Tri3} {d : Nat → Nat → Nat} {ranks : Nat → Nat} {nr : Nat → Near}
theorem gl_at (B : Lab es d ranks nr) {y t : Nat} {p : Nat × Nat} (hy : y < 5) (e : (glL nr y)[t]? = some p) : p.1 < 5 ∧ t < ranks p.1 ∧ p.2 = d p.1 y ∧ d p.1 y < 1 + tot es ∧ t < 2 ∧ ∀ h, h < 5 → t < ranks h → d h y < 1 + tot es → p.2 ≤ d h y := by
  have key : ∀ k, k < 2 → ∀ q, nr k y = some q → t ≤ k → k = t ∨ nr t y = none → (q.2, q.1) = p → t = k → p.1 < 5 ∧ t < ranks p.1 ∧ p.2 = d p.1 y ∧ d p.1 y < 1 + tot es ∧ t < 2 ∧ ∀ h, h < 5 → t < ranks h → d h y < 1 + tot es → p.2 ≤ d h y := by
    rintro k hk ⟨f, w⟩ hq _ _ rfl rfl
    obtain ⟨m, h1, h2, h3⟩ := near_some B.dist (B.near t hk) hub5 hy hq
    have mw := mem_hubs.mp m
    exact ⟨mw.1, mw.2, h1, h2, hk, fun h h5 hr hl => (h3 h (mem_hubs.mpr ⟨h5, hr⟩) hl).fst⟩
  have sub : nr 0 y = none → nr 1 y = none := fun e0 => by
    cases e1 : nr 1 y with
    | none => rfl
    | some q =>
      obtain ⟨m, _, h2, _⟩ := near_some B.dist (B.near 1 (by decide)) hub5 hy (show nr 1 y = some (q.1, q.2) from e1)
      have mw := mem_hubs.mp m
      exact absurd h2 (near_none B.dist (B.near 0 (by decide)) hub5 hy e0 _ (mem_hubs.mpr ⟨mw.1, by omega⟩))
  unfold glL at e
  rw [show List.range 2 = [0, 1] from rfl, List.filterMap_cons, List.filterMap_cons, List.filterMap_nil] at e
  cases e0 : nr 0 y with
  | none => rw [e0, sub e0] at e; cases e
  | some q =>
    rw [e0] at e
    cases e1 : nr 1 y with
    | none =>
      rw [e1] at e
      match t, e with
      | 0, e => exact key 0 (by decide) q e0 (Nat.le_refl _) (.inl rfl) (Option.some.inj e) rfl
    | some q' =>
      rw [e1] at e
      match t, e with
      | 0, e => exact key 0 (by decide) q e0 (Nat.le_refl _) (.inl rfl) (Option.some.inj e) rfl
      | 1, e => exact key 1 (by decide) q' e1 (Nat.le_refl _) (.inl rfl) (Option.some.inj e) rfl
theorem gl_there (B : Lab es d ranks nr) {y t h : Nat} (hy : y < 5) (ht : t < 2) (h5 : h < 5) (hr : t < ranks h) (hl : d h y < 1 + tot es) : ∃ p, (glL nr y)[t]? = some p := by
  have have_ : ∀ k, k ≤ t → ∃ q, nr k y = some q := fun k hk => by
    cases e : nr k y with
    | some q => exact ⟨q, rfl⟩
    | none => exact absurd hl (near_none B.dist (B.near k (by omega)) hub5 hy e h (mem_hubs.mpr ⟨h5, by omega⟩))
  obtain ⟨q, hq⟩ := have_ 0 (Nat.zero_le _)
  unfold glL
  rw [show List.range 2 = [0, 1] from rfl, List.filterMap_cons, List.filterMap_cons, List.filterMap_nil, hq]
  match t, ht, have_ with
  | 0, _, _ => exact ⟨_, rfl⟩
  | 1, _, have_ => obtain ⟨q', hq'⟩ := have_ 1 (Nat.le_refl _); rw [hq']; exact ⟨_, rfl⟩
abbrev enN (es : List Tri3) (d : Nat → Nat → Nat) (ranks : Nat → Nat) : Nat → List (Nat × Nat) := enL d ranks (1 + tot es)
theorem tell_none (B : Lab es d ranks nr) : ∀ (n far hub turn one other : Nat), one < 5 → other < 5 → hub < 5 → d hub one < 1 + tot es → d one other = 1 + tot es → tell (glL nr) (enN es d ranks) n far hub turn one other = []
  | 0, _, _, _, _, _, _, _, _, _, _ => rfl
  | n + 1, far, hub, turn, one, other, h1, h2, h3, h4, h5 => by
    have D := B.dist
    rw [tell, if_neg fun m => ?_]
    · cases e : (glL nr other)[turn]? with
      | none => rfl
      | some p =>
        obtain ⟨p5, _, _, hl, _⟩ := B.gl_at h2 e
        exact B.tell_none n _ _ _ _ _ h2 h1 p5 hl (by rw [D.symm h2 h1]; exact h5)
    · have he := (mem_en.mp m).2
      have := D.join h1 h3 h2 (by rw [D.symm h1 h3]; exact h4) ((B.en_iff h3 h2).mp he).1
      omega
theorem tell_some (B : Lab es d ranks nr) {Δ : Nat} (hΔ : Δ < 1 + tot es) : ∀ (n far hub turn one other : Nat), one < 5 → other < 5 → hub < 5 → d one other = Δ → far = d hub one → far < 1 + tot es → turn ≤ ranks hub → turn + n = 3 → far ≤ turn * Δ →
    ∃ x, tell (glL nr) (enN es d ranks) n far hub turn one other = [x] ∧ Δ ≤ x ∧ x ≤ 5 * Δ
  | 0, far, hub, turn, one, other, h1, h2, h3, h4, h5, h6, h7, h8, h9 => by have := B.rank hub h3; omega
  | n + 1, far, hub, turn, one, other, h1, h2, h3, h4, h5, h6, h7, h8, h9 => by
    have D := B.dist
    have ht := D.tri (x := hub) (y := one) (z := other) h3 h1 h2
    rw [← h5, h4] at ht
    rw [tell]
    by_cases m : ((enN es d ranks other).map (·.1)).contains hub = true
    · rw [if_pos m]
      have he := (mem_en.mp m).2
      refine ⟨far + d other hub, ?_, ?_, ?_⟩
      · show List.map _ (List.filter _ (enL d ranks (1 + tot es) other)) = _
        unfold enL
        rw [one_name he _ List.nodup_range (List.mem_range.mpr h3)]; rfl
      · have := D.tri (x := one) (y := hub) (z := other) h1 h3 h2
        rw [h4, D.symm h1 h3, ← h5, D.symm h3 h2] at this; exact this
      · rw [D.symm h2 h3]
        have : turn * Δ ≤ 2 * Δ := Nat.mul_le_mul_right _ (by omega)
        omega
    · rw [if_neg m]
      have hf : d hub other < 1 + tot es := D.join h3 h1 h2 (by rw [← h5]; exact h6) (by rw [h4]; exact hΔ)
      have hnb : ¬ Bd (nr (ranks hub)) other (d hub other) := fun b => m (mem_en.mpr ⟨h3, (B.en_iff h3 h2).mpr ⟨hf, b⟩⟩)
      have hr2 := B.rank hub h3
      obtain ⟨q, hq, hql⟩ : ∃ q, nr (ranks hub) other = some q ∧ q.1 ≤ d hub other := by
        cases e : nr (ranks hub) other with
        | none => exact absurd (fun p hp => by rw [e] at hp; cases hp) hnb
        | some q => exact ⟨q, rfl, Nat.le_of_not_lt fun l => hnb fun p hp => by rw [e] at hp; cases hp; exact l⟩
      obtain ⟨mq, q1, q2, _⟩ := near_some D (B.nears hr2) hub5 h2 (show nr (ranks hub) other = some (q.1, q.2) from hq)
      have mw := mem_hubs.mp mq
      have hw := B.rank _ mw.1
      obtain ⟨p, hp⟩ := B.gl_there (t := turn) h2 (by omega) mw.1 (by omega) q2
      obtain ⟨p1, p2, p3, p4, p5, p6⟩ := B.gl_at h2 hp
      have hpl := p6 q.2 mw.1 (by omega) q2
      rw [hp]
      have hm : (turn + 1) * Δ = turn * Δ + Δ := Nat.succ_mul _ _
      exact B.tell_some hΔ n p.2 p.1 (turn + 1) other one h2 h1 p1 (by rw [D.symm h2 h1]; exact h4) p3 (by rw [p3]; exact p4) p2 (by omega) (by omega)
end Lab
end Mine

namespace Mine
open PySem PySem.W PyProof.Rows PySem.Calls

theorem upd_ne {σ : St} {a b : Addr} {x : AO} (h : b ≠ a) : upd σ a x b = σ b := if_neg h
theorem keep1 {σ : St} {a b : Addr} {x y : AO} (h : σ a = some x) (hb : σ b = none) : upd σ b y a = some x := sub_upd hb a x h
theorem ne_of {σ : St} {a b : Addr} {x : AO} (e : σ a = some x) (hb : σ b = none) : a ≠ b := fun z => by rw [z, hb] at e; cases e
theorem sub_none {σ σ' : St} {a : Addr} (h : St.Sub σ σ') (ha : σ' a = none) : σ a = none := by
  cases e : σ a with
  | none => rfl
  | some x => rw [h a x e] at ha; cases ha
/-- a store within another, but for an object that the first has not -/
theorem sub_off {σ σ' : St} {a : Addr} {x : AO} (h : St.Sub σ σ') (ha : σ a = none) : St.Sub σ (upd σ' a x) := fun b y e => (upd_ne (ne_of e ha)).trans (h b y e)
theorem sub_both {σ σ' : St} {a : Addr} {x : AO} (h : St.Sub σ σ') : St.Sub (upd σ a x) (upd σ' a x) := fun b y e => by
  unfold upd at *
  by_cases z : b = a
  · rw [if_pos z] at e ⊢; exact e
  · rw [if_neg z] at e ⊢; exact h b y e
theorem sub_at {σ σ' : St} {a : Addr} {x : AO} (h : St.Sub σ σ') (ha : σ' a = some x) : St.Sub (upd σ a x) σ' := fun b y e => by
  by_cases z : b = a
  · subst z; rw [upd_at] at e; cases e; exact ha
  · rw [upd_ne z] at e; exact h b y e
theorem sub_del {σ σ' : St} {a : Addr} {x : AO} {ρ : Nat → Option V} (h : St.Sub σ σ') (ha : σ' a = none) : St.Sub σ (S.del ⟨upd σ' a x, ρ⟩ a).σ := fun b y e => by
  have hb : b ≠ a := ne_of (h b y e) ha
  show (if b = a then none else upd σ' a x b) = _
  rw [if_neg hb, upd_ne hb]; exact h b y e
/-! ### slices -/
theorem kms_hi_nat {k n : Nat} : kms_hi (some (k : Int)) n = min k n := by
  show (if (k : Int) < 0 then n - (-(k : Int)).toNat else min (k : Int).toNat n) = _
  rw [if_neg (by omega), Int.toNat_natCast]
theorem kms_lo_nat {k n : Nat} : kms_lo (some (k : Int)) n = min k n := kms_hi_nat
theorem pick_to {l : List V} {k : Nat} : pickV l none (some (k : Int)) = l.take k := by
  unfold pickV
  rw [kms_hi_nat]
  show List.take (min k l.length - 0) (List.drop 0 l) = _
  rw [Nat.sub_zero, List.drop_zero]
  rcases Nat.le_total k l.length with h | h
  · rw [Nat.min_eq_left h]
  · rw [Nat.min_eq_right h, List.take_length, List.take_of_length_le h]
theorem pick_from {l : List V} {k : Nat} (h : k ≤ l.length) : pickV l (some (k : Int)) none = l.drop k := by
  unfold pickV
  rw [kms_lo_nat, Nat.min_eq_left h]
  show List.take (l.length - k) (l.drop k) = _
  rw [List.take_of_length_le (Nat.le_of_eq (List.length_drop ..))]
/-! ### five of a kind -/
/-! ### numbers -/
def zs (ns : List Nat) : List Int := ns.map fun (n : Nat) => (n : Int)
def five (g : Nat → V) : List V := (List.range 5).map g
theorem five_get {g : Nat → V} {p : Nat} (h : p < 5) : (five g)[p]? = some (g p) := by
  unfold five; rw [List.getElem?_map, List.getElem?_range h]; rfl
theorem five_set {g : Nat → V} {p : Nat} {v : V} : (five g).set p v = five fun q => if q = p then v else g q := by
  unfold five
  refine List.ext_getElem (by simp) fun i h1 h2 => ?_
  simp only [List.getElem_set, List.getElem_map, List.getElem_range, eq_comm]
theorem five_congr {g g' : Nat → V} (h : ∀ p, p < 5 → g p = g' p) : five g = five g' := List.map_congr_left fun p m => h p (List.mem_range.mp m)
abbrev nums (f : Nat → Nat) : List V := five fun p => .int (f p : Nat)
section
variable {st : S} {Q : V → S → Prop} {k : Nat} {z : V}
theorem get_tup {xs : List V} (h : xs[k]? = some z) (hk : k < 1000000) (q : Q z st) : getW (.tuple xs) (.int (k : Nat)) Q st := ⟨by omega, by omega, z, h, q⟩
theorem get_fz {xs : List V} (h : xs[k]? = some z) (hk : k < 1000000) (q : Q z st) : getW (.list xs) (.int (k : Nat)) Q st := .inl ⟨xs, rfl, by omega, by omega, z, h, q⟩
theorem get_fv {g : Nat → V} (h : k < 5) (q : Q (g k) st) : getW (.list (five g)) (.int (k : Nat)) Q st := get_fz (five_get h) (by omega) q
theorem get_rf {g : Nat → V} {a : Addr} (hσ : st.σ a = some (.list (five g))) (h : k < 5) (q : Q (g k) st) : getW (.ref a) (.int (k : Nat)) Q st := getW_list hσ (five_get h) (by omega) q
theorem put_rf {g : Nat → V} {a : Addr} {v : V} {K : S → Prop} (hσ : st.σ a = some (.list (five g))) (h : k < 5) (q : K (st.put a (.list (five fun q => if q = k then v else g q)))) : putW (.ref a) (.int (k : Nat)) v K st :=
  putW_list hσ h (by omega) (by rw [five_set]; exact q)
end
/-! ### loops -/
theorem for_inv {Ta : AT} {B : PF} {Q : Fl → S → Prop} (I : List V → S → Prop) (step : ∀ x r st, I (x :: r) st → ∀ Z : Fl → S → Prop, (∀ st', I r st' → Z .next st') → Ta x (B Z) st) (fin : ∀ st, I [] st → Q .next st) : ∀ (xs : List V) (st : S), I xs st → forL Ta B Q xs st
  | [], st, h => fin st h
  | x :: xs, st, h => step x xs st h _ fun st' h' => for_inv I step fin xs st' h'
theorem for_range {Ta : AT} {B : PF} {Q : Fl → S → Prop} {n : Nat} {st : S} (I : Nat → S → Prop) (step : ∀ i st, i < n → I i st → ∀ Z : Fl → S → Prop, (∀ st', I (i + 1) st' → Z .next st') → Ta (.int (i : Nat)) (B Z) st) (fin : ∀ st, I n st → Q .next st) (h : I 0 st) :
    forL Ta B Q ((List.range n).map fun (i : Nat) => V.int i) st := by
  have key : ∀ k i st, i + k = n → I i st → forL Ta B Q ((List.range' i k).map fun (i : Nat) => V.int i) st := fun k => by
    induction k with
    | zero => intro i st e h; exact fin st (by rw [show n = i from e.symm]; exact h)
    | succ k ih => intro i st e h; exact step i st (by omega) h _ fun st' h' => ih (i + 1) st' (by omega) h'
  rw [List.range_eq_range']
  exact key n 0 st (Nat.zero_add n) h
abbrev Off (n : Nat) (ρ : Nat → Option V) (st : S) : Prop := ∀ i, i < n → st.ρ i = ρ i
/-- a comprehension, item by item -/
theorem comp_of {α : Type} {n : Nat} {Ta : AT} {Tc : PB} {Te : PV} {ρ : Nat → Option V} {K : List V → St → Prop} {σ : St} (e : α → V) (c : α → Bool) (g : α → V) : ∀ (xs : List α) (acc : List V) (σ' : St), St.Sub σ σ' →
    (∀ x ∈ xs, ∀ σ', St.Sub σ σ' → ∀ (Z : V → S → Prop) (Z' : S → Prop), (c x = true → ∀ st', Off n ρ st' → St.Sub σ st'.σ → Z (g x) st') → (c x = false → ∀ st', Off n ρ st' → St.Sub σ st'.σ → Z' st') → Ta (e x) (Tc fun b st => if b then Te Z st else Z' st) ⟨σ', ρ⟩) →
    (∀ σ', St.Sub σ σ' → K (acc ++ (xs.filter c).map g) σ') → compL n Ta Tc Te ρ K (xs.map e) acc σ'
  | [], acc, σ', hs, _, q => by
    have := q σ' hs
    rw [List.filter_nil, List.map_nil, List.append_nil] at this
    exact this
  | x :: xs, acc, σ', hs, h, q => h x (.head _) σ' hs _ _
    (fun hb st' ho hs' => ⟨ho, comp_of e c g xs _ st'.σ hs' (fun y hy => h y (.tail _ hy)) fun σ₃ h₃ => by
      have := q σ₃ h₃
      rw [List.filter_cons, if_pos hb, List.map_cons] at this
      rw [List.append_assoc]; exact this⟩)
    (fun hb st' ho hs' => ⟨ho, comp_of e c g xs _ st'.σ hs' (fun y hy => h y (.tail _ hy)) fun σ₃ h₃ => by
      have := q σ₃ h₃
      rw [List.filter_cons, if_neg (by rw [hb]; exact Bool.false_ne_true)] at this
      exact this⟩)
theorem comp_map {α : Type} {n : Nat} {Ta : AT} {Te : PV} {ρ : Nat → Option V} {K : List V → St → Prop} {σ : St} (e g : α → V) {xs : List α} {σ' : St} (hs : St.Sub σ σ')
    (h : ∀ x ∈ xs, ∀ σ', St.Sub σ σ' → ∀ Z : V → S → Prop, (∀ st', Off n ρ st' → St.Sub σ st'.σ → Z (g x) st') → Ta (e x) (Te Z) ⟨σ', ρ⟩) (q : ∀ σ', St.Sub σ σ' → K (xs.map g) σ') : compL n Ta tT Te ρ K (xs.map e) [] σ' :=
  comp_of e (fun _ => true) g xs [] σ' hs (fun x hx σ' hs Z Z' hZ _ => h x hx σ' hs Z (hZ rfl)) fun σ' hs => by
    rw [List.nil_append, List.filter_eq_self.mpr (fun _ _ => rfl)]; exact q σ' hs
theorem off_set {n i : Nat} {ρ : Nat → Option V} {σ : St} {v : V} (h : n ≤ i) : Off n ρ (S.set ⟨σ, ρ⟩ i v) := fun k hk => if_neg (Nat.ne_of_lt (Nat.lt_of_lt_of_le hk h))
theorem Off.set {n i : Nat} {ρ : Nat → Option V} {st : S} {v : V} (o : Off n ρ st) (h : n ≤ i) : Off n ρ (st.set i v) := fun k hk => (if_neg (Nat.ne_of_lt (Nat.lt_of_lt_of_le hk h))).trans (o k hk)
theorem comp_range {n m : Nat} {e : Nat → V} {Te : PV} {ρ : Nat → Option V} {K : List V → St → Prop} {σ' : St} (I : Nat → List V → St → Prop) (step : ∀ i acc σ', i < m → I i acc σ' → ∀ Z : V → S → Prop, (∀ v σ'', I (i + 1) (acc ++ [v]) σ'' → Z v (S.set ⟨σ'', ρ⟩ n (e i))) → Te Z (S.set ⟨σ', ρ⟩ n (e i)))
    (fin : ∀ acc σ', I m acc σ' → K acc σ') (h : I 0 [] σ') : compL n (setW n) tT Te ρ K ((List.range m).map e) [] σ' := by
  have key : ∀ k i acc σ', i + k = m → I i acc σ' → compL n (setW n) tT Te ρ K ((List.range' i k).map e) acc σ' := fun k => by
    induction k with
    | zero => intro i acc σ' e h; exact fin acc σ' (by rw [show m = i from e.symm]; exact h)
    | succ k ih => intro i acc σ' e h; exact step i acc σ' (by omega) h _ fun v σ'' h' => ⟨off_set (Nat.le_refl _), ih (i + 1) _ σ'' (by omega) h'⟩
  rw [List.range_eq_range']
  exact key m 0 [] σ' (Nat.zero_add m) h
theorem hv_map {α : Type} (e : α → List Int) (xs : List α) : hv (xs.map e) = xs.map fun x => tv (e x) := List.map_map
theorem iv_map {α : Type} (e : α → Int) (xs : List α) : iv (xs.map e) = xs.map fun x => V.int (e x) := List.map_map
/-! ### == -/
theorem toPy_int {σ : St} {n : Nat} {i : Int} : toPy σ n (.int i) = some (.int i) := by cases n <;> rfl
theorem mapM_all {f : V → Option PyData} {g : V → PyData} : ∀ xs : List V, (∀ x ∈ xs, f x = some (g x)) → xs.mapM f = some (xs.map g)
  | [], _ => rfl
  | x :: xs, h => by rw [List.mapM_cons, h x (.head _), mapM_all xs fun y m => h y (.tail _ m)]; rfl
def pyI : V → PyData
  | .int i => .int i
  | _ => .none
theorem toPy_iv {σ : St} {n : Nat} (xs : List Int) : (iv xs).mapM (toPy σ n) = some (xs.map PyData.int) := by
  rw [mapM_all (g := pyI) _ fun x m => by obtain ⟨i, _, rfl⟩ := List.mem_map.mp m; exact toPy_int]
  unfold iv; rw [List.map_map]; rfl
theorem toPy_tv {σ : St} {n : Nat} (xs : List Int) : toPy σ (n + 1) (tv xs) = some (.tuple (xs.map PyData.int)) := by
  unfold tv; simp only [toPy]; rw [show xs.map V.int = iv xs from rfl, toPy_iv]; rfl
def pyT : V → PyData
  | .tuple xs => .tuple (xs.map pyI)
  | _ => .none
theorem pyT_tv (l : List Int) : pyT (tv l) = .tuple (l.map PyData.int) := by
  show PyData.tuple ((l.map V.int).map pyI) = _
  rw [List.map_map]; rfl
theorem toPy_hv {σ : St} {n : Nat} (hs : List (List Int)) : (hv hs).mapM (toPy σ (n + 1)) = some (hs.map fun l => PyData.tuple (l.map PyData.int)) := by
  rw [mapM_all (g := pyT) _ fun x m => by obtain ⟨l, _, rfl⟩ := List.mem_map.mp m; rw [toPy_tv, pyT_tv]]
  unfold hv; rw [List.map_map]; exact congrArg some (List.map_congr_left fun l _ => pyT_tv l)
theorem toPy_list {σ : St} {n : Nat} {xs : List V} {ds : List PyData} (h : xs.mapM (toPy σ n) = some ds) : toPy σ (n + 1) (.list xs) = some (.list ds) := by simp only [toPy, h]; rfl
theorem toPy_ref {σ : St} {n : Nat} {a : Addr} {xs : List V} {ds : List PyData} (e : σ a = some (.list xs)) (h : xs.mapM (toPy σ n) = some ds) : toPy σ (n + 1) (.ref a) = some (.list ds) := by simp only [toPy, e, h]; rfl
theorem any_eqv (xs : List Int) (d : Int) : (xs.map PyData.int).any (fun z => PyData.eqv z (.int d)) = xs.contains d := by
  induction xs with
  | nil => rfl
  | cons x xs ih =>
    rw [List.map_cons, List.any_cons, ih, List.contains_cons]
    congr 1
    simp only [PyData.eqv]
    rw [Bool.eq_iff_iff, beq_iff_eq, beq_iff_eq]; exact eq_comm
end Mine

namespace Mine
open PySem PySem.W PyProof.Rows PySem.Calls

/-! ### _law_drawn -/
def numZ (ns : List Int) : List Int := (ns.take 7 ++ [0, 1755, 1611, 2517, 2273, 1260, 3272]).take 7
theorem num_len {ns : List Int} : (numZ ns).length = 7 := by unfold numZ; rw [List.length_take, List.length_append]; exact Nat.min_eq_left (Nat.le_add_left 7 _)
def rkN (ns : List Int) (p : Nat) : Nat := (((numZ ns).getD 0 0 + 57) / 3 ^ p % 3).toNat
def waN (ns : List Int) : List Tri3 := ((numZ ns).drop 1).map fun x => ((x % 5).toNat, (x / 5 % 5).toNat, (x / 25 % 5000).toNat)
theorem rk_lt {ns : List Int} {p : Nat} : rkN ns p < 3 := by unfold rkN; omega
theorem wa_len {ns : List Int} : (waN ns).length = 6 := by unfold waN; rw [List.length_map, List.length_drop, num_len]
structure GoodT (t : Tri3) : Prop where
  a : t.1 < 5
  b : t.2.1 < 5
  n : t.2.2 < 5000
theorem wa_good {ns : List Int} : ∀ t ∈ waN ns, GoodT t := fun t ht => by
  unfold waN at ht
  obtain ⟨x, hx, rfl⟩ := List.mem_map.mp ht
  exact ⟨by show (x % 5).toNat < 5; omega, by show (x / 5 % 5).toNat < 5; omega, by show (x / 25 % 5000).toNat < 5000; omega⟩
def tz (t : Tri3) : List Int := [(t.1 : Int), (t.2.1 : Int), (t.2.2 : Int)]
abbrev wayV (ts : List Tri3) : List V := hv (ts.map tz)
theorem three_pow : ∀ i : Nat, i < 5 → (3 : Int) ^ i < 1073741824 := by decide
theorem c_drawn {W : Wd} (G : GW W) {j : Nat} {ns : List Int} {σ : St} {Q : V → St → Prop} (hn : ns.length ≤ 63) (q : ∀ a b, a ≠ b → σ a = none → σ b = none → Q (.tuple [.ref a, .ref b]) (upd (upd σ a (.list (nums (rkN ns)))) b (.list (wayV (waN ns))))) : CallOK W (j + 1) 149 [.list (iv ns)] [] Q σ := by
  refine cS__law_drawn G rfl ?_
  have e7 : ∀ xs : List Int, pickV (iv xs) none (some 7) = iv (xs.take 7) := fun xs => (pick_to (k := 7)).trans List.map_take.symm
  refine ⟨_, rfl, _, rfl, _, rfl, by rw [iv_len]; omega, fun a1 h1 => ?_⟩
  rw [e7]
  refine ⟨by show 7 ≤ sizeLine; decide, fun a2 h2 => ?_⟩
  have hl : (ns.take 7).length ≤ 7 := by rw [List.length_take]; omega
  refine ⟨_, _, getL_ref (keep1 upd_at h2), getL_ref (xs := iv [0, 1755, 1611, 2517, 2273, 1260, 3272]) upd_at, by rw [iv_len, iv_len]; unfold sizeLine; simp only [List.length_cons, List.length_nil]; omega, fun a3 h3 => ?_⟩
  rw [← iv_append]
  refine ⟨_, rfl, _, getL_ref upd_at, by rw [iv_len, List.length_append]; simp; omega, fun a4 h4 => ?_⟩
  rw [e7, show List.take 7 (List.take 7 ns ++ [0, 1755, 1611, 2517, 2273, 1260, 3272]) = numZ ns from by unfold numZ; exact Eq.refl _]
  refine ⟨a4, _, rfl, upd_at, ?_⟩
  have s4 := sub_del (ρ := fun i => [V.list (iv ns)][i]?) (x := .list (iv (numZ ns))) (sub_put (sub_put (sub_put (Sub.refl σ) h1) h2) h3) h4
  have hz : (iv (numZ ns))[0]? = some (.int ((numZ ns).getD 0 0)) := by
    have h0 : 0 < (numZ ns).length := by rw [num_len]; decide
    unfold iv; rw [List.getElem?_map, List.getD_eq_getElem?_getD, List.getElem?_eq_getElem h0]; rfl
  refine .inl ⟨_, rfl, ?_⟩
  refine ⟨_, items_range (n := 5) (by decide), by decide, ?_⟩
  refine comp_map (σ := σ) _ (fun i => .int (rkN ns i : Nat)) s4 ?_ ?_
  · intro i hi σ' hs' Z hZ
    have hi5 := List.mem_range.mp hi
    have hp : (0 : Int) < 3 ^ i ∧ (3 : Int) ^ i < 1073741824 := ⟨Int.pow_pos (by decide), three_pow i hi5⟩
    refine ⟨_, rfl, _, rfl, get_fz (k := 0) hz (by decide) (addI ((numZ ns).getD 0 0 + 57) rfl ⟨_, rfl, powI (3 ^ i) ⟨.inr rfl, by omega, by omega⟩ (by rw [Int.toNat_natCast]) (fdivI (((numZ ns).getD 0 0 + 57) / 3 ^ i) hp rfl (modI (rkN ns i : Nat) (by decide) ?_ ?_))⟩)⟩
    · unfold rkN; omega
    · exact hZ _ (off_set (Nat.le_refl _)) hs'
  · intro σ' hs' a ha
    have ha' := sub_none hs' ha
    have s5 := sub_both (a := a) (x := .list (nums (rkN ns))) hs'
    refine ⟨_, rfl, _, rfl, _, rfl, _, rfl, by rw [iv_len, num_len]; decide, fun a5 h5 => ?_⟩
    rw [show pickV (iv (numZ ns)) (some 1) none = iv ((numZ ns).drop 1) from (pick_from (k := 1) (by rw [iv_len, num_len]; decide)).trans List.map_drop.symm]
    refine ⟨a5, _, rfl, upd_at, ?_⟩
    refine ⟨_, rfl, by rw [iv_len, List.length_drop, num_len]; decide, ?_⟩
    have s6 := sub_del (ρ := fun i => [V.list (iv ns)][i]?) (x := .list (iv ((numZ ns).drop 1))) s5 h5
    refine comp_map (σ := upd σ a (.list (nums (rkN ns)))) V.int (fun x => tv [x % 5, x / 5 % 5, x / 25 % 5000]) s6 ?_ ?_
    · intro i hi σ' hs' Z hZ
      exact ⟨_, rfl, modI (i % 5) (by decide) rfl ⟨_, rfl, fdivI (i / 5) (by decide) rfl (modI (i / 5 % 5) (by decide) rfl ⟨_, rfl, fdivI (i / 25) (by decide) rfl (modI (i / 25 % 5000) (by decide) rfl ⟨by show 3 ≤ sizeLine; decide, hZ _ (off_set (Nat.le_refl _)) hs'⟩)⟩)⟩⟩
    · intro σ'' hs'' b hb
      have e2 : ((numZ ns).drop 1).map (fun x => tv [x % 5, x / 5 % 5, x / 25 % 5000]) = wayV (waN ns) := by
        unfold waN
        rw [wayV, hv_map, List.map_map]
        refine List.map_congr_left fun x _ => ?_
        simp only [Function.comp_apply, tz]
        rw [show ((x % 5).toNat : Int) = x % 5 by omega, show ((x / 5 % 5).toNat : Int) = x / 5 % 5 by omega, show ((x / 25 % 5000).toNat : Int) = x / 25 % 5000 by omega]
      rw [e2]
      have hb2 := sub_none hs'' hb
      have hne : a ≠ b := ne_of upd_at hb2
      exact ⟨by show 2 ≤ sizeLine; decide, _, sub_both hs'', q a b hne ha' ((upd_ne (Ne.symm hne)).symm.trans hb2)⟩

/-! ### _parse_varint at any place; pads -/
structure Num (ys : List Int) (n : Nat) : Prop where
  is : ∃ b rem, ys = b :: rem ∧ GoodO b rem ∧ rem.foldl gO (b % 64) = n
  oct : Oct ys
theorem octs_num (n : Nat) : Num (octs n) n := by
  obtain ⟨b, rem, e, hg, hf, _, ho⟩ := octs_spec n
  exact ⟨⟨b, rem, e, hg, hf⟩, ho⟩
theorem Num.pad {ys : List Int} {n : Nat} (h : Num ys n) : Num (64 :: ys) n := by
  obtain ⟨⟨b, rem, rfl, hg, hf⟩, ho⟩ := h
  refine ⟨⟨64, b :: rem, rfl, ⟨by decide, hg⟩, ?_⟩, fun y hy => ?_⟩
  · rw [List.foldl_cons]
    have : gO (64 % 64) b = b % 64 := by unfold gO; omega
    rw [this]; exact hf
  · rcases List.mem_cons.mp hy with rfl | hy
    · decide
    · exact ho y hy
theorem Num.pads {ys : List Int} {n : Nat} (h : Num ys n) : ∀ k, Num (List.replicate k 64 ++ ys) n
  | 0 => h
  | k + 1 => (h.pads k).pad
theorem c_parseN {W : Wd} (G : GW W) {j n i : Nat} {w : Addr} {ys bs tail : List Int} {σ : St} {Q : V → St → Prop} (h : Num ys n) (hw : σ w = some (.biter bs i)) (hb : bs.drop i = ys ++ tail) (hn : n ≤ 1000000) (q : Q (.int n) (upd σ w (.biter bs (i + ys.length)))) : CallOK W (j + 1) 144 [.ref w] [] Q σ := by
  obtain ⟨⟨b, rem, rfl, hg, hf⟩, ho⟩ := h
  refine cS__parse_varint G rfl ?_
  obtain ⟨hb0, hd1⟩ := drop_get (r := rem ++ tail) hb
  refine ⟨_, rfl, w, bs, i, b, rfl, hw, hb0, ?_⟩
  refine ⟨_, rfl, andI (b % 64) (bitAnd_m6 _) ?_⟩
  refine ⟨rem.length + 1, ?_⟩
  refine pv_loop (w := w) (σ₀ := σ) (bs := bs) (tail := tail) rem b (b % 64) (i + 1) _ rfl rfl rfl rfl hd1 hg (by omega) (by omega) fun st' e1 e2 => ?_
  refine ⟨_, e1, _, Sub.refl _, ?_⟩
  rw [e2, hf, show i + 1 + rem.length = i + (b :: rem).length by simp; omega]
  exact q
/-! ### _law_entry -/
abbrev Pr := Nat × Nat
def pz (p : Pr) : List Int := [(p.1 : Int), (p.2 : Int)]
abbrev prV (row : List Pr) : List V := hv (row.map pz)
def rawO (p : Pr) : List Int := octs p.1 ++ octs p.2
def padN (n : Nat) : Nat := (3 - n % 3) % 3
def entO (p : Pr) : List Int := List.replicate (padN (rawO p).length) 64 ++ rawO p
abbrev GoodP (p : Pr) : Prop := p.1 < 5 ∧ p.2 < 100000
theorem ent3 (p : Pr) : (entO p).length % 3 = 0 := by
  unfold entO padN
  rw [List.length_append, List.length_replicate]; omega
theorem ent_oct (p : Pr) : Oct (entO p) := fun y hy => by
  unfold entO rawO at hy
  rcases List.mem_append.mp hy with h | h
  · rw [List.eq_of_mem_replicate h]; decide
  · rcases List.mem_append.mp h with h | h
    · exact (octs_num _).oct y h
    · exact (octs_num _).oct y h
theorem octP_one {f n : Nat} {acc : List Int} (h : n < 64) : octP f n acc = acc := by
  cases f with
  | zero => rfl
  | succ f => rw [octP, if_neg (by omega)]
theorem octP_two {f n : Nat} {acc : List Int} (h : n < 4096) : (octP f n acc).length ≤ acc.length + 1 := by
  cases f with
  | zero => exact Nat.le_succ _
  | succ f =>
    rw [octP]
    split
    · rw [octP_one (by omega)]; exact Nat.le_refl _
    · exact Nat.le_succ _
theorem octs_three {n : Nat} (h : n < 262144) : (octs n).length ≤ 3 := by
  unfold octs
  cases n with
  | zero => show 1 ≤ 3; decide
  | succ n =>
    rw [octP]
    split
    · exact octP_two (by omega)
    · exact Nat.le_add_left 1 2
theorem raw_len {p : Pr} (h : GoodP p) : (rawO p).length ≤ 6 := by
  have h1 := octs_three (n := p.1) (Nat.lt_trans h.1 (by decide))
  have h2 := octs_three (n := p.2) (Nat.lt_trans h.2 (by decide))
  unfold rawO; rw [List.length_append]; exact Nat.add_le_add h1 h2
theorem ent_len {p : Pr} (h : GoodP p) : (entO p).length ≤ 8 := by
  have := raw_len h
  unfold entO padN; rw [List.length_append, List.length_replicate]; omega
theorem enc_append : ∀ (x y : List Int), x.length % 3 = 0 → encG (x ++ y) = encG x ++ encG y
  | [], _, _ => rfl
  | [_], _, h => by cases h
  | [_, _], _, h => by cases h
  | a :: b :: c :: r, y, h => by
    have := enc_append r y (by simp only [List.length_cons] at h; omega)
    show encG (a :: b :: c :: (r ++ y)) = _
    simp only [encG, this, List.cons_append]
theorem c_entry {W : Wd} (G : GW W) {j : Nat} {p : Pr} (hp : GoodP p) {σ : St} {Q : V → St → Prop} (q : Q (.bytes (encG (entO p))) σ) : CallOK W (j + 4) 163 [.int (p.1 : Nat), .int (p.2 : Nat)] [] Q σ := by
  refine cS__law_entry G rfl ?_
  have hraw := raw_len hp
  have hpad : padN (rawO p).length ≤ 2 := by unfold padN; omega
  have hlen := ent_len hp
  refine ⟨_, rfl, c_octets (j := j + 2) G (by have := hp.1; omega) fun o1 h1 => ⟨_, rfl, c_octets (j := j + 2) G (by have := hp.2; omega) fun o2 h2 => ?_⟩⟩
  have hr1 : (octs p.1).length + (octs p.2).length ≤ 6 := by have := hraw; unfold rawO at this; rwa [List.length_append] at this
  refine ⟨_, _, getL_ref (keep1 upd_at h2), getL_ref upd_at, by rw [iv_len, iv_len]; unfold sizeLine; omega, fun a ha => ?_⟩
  rw [← iv_append]
  refine ⟨by show 1 ≤ sizeLine; decide, fun a2 h2' => ?_⟩
  have ka := keep1 (y := .list [V.int 64]) (upd_at (σ := upd (upd σ o1 (.list (iv (octs p.1)))) o2 (.list (iv (octs p.2)))) (a := a) (x := .list (iv (octs p.1 ++ octs p.2)))) h2'
  refine ⟨_, rfl, _, rfl, .inl ⟨_, getL_ref ka, by rw [iv_len, List.length_append]; omega, ?_⟩⟩
  refine ⟨_, rfl, modI ((padN (rawO p).length : Nat) : Int) (by decide) (by rw [iv_len]; unfold padN rawO; omega) ?_⟩
  refine ⟨.int 64, getL_ref upd_at, by omega, by omega, fun a3 h3 => ?_⟩
  refine ⟨_, rfl, _, _, getL_ref upd_at, getL_ref (keep1 ka h3), by rw [iv_len, List.length_replicate, List.length_append]; unfold sizeLine; omega, fun a4 h4 => ?_⟩
  have e2 : List.replicate ((padN (rawO p).length : Nat) : Int).toNat (V.int 64) ++ iv (octs p.1 ++ octs p.2) = iv (entO p) := by
    unfold entO
    rw [Int.toNat_natCast, iv_append]; unfold rawO; rw [iv_append, iv_append]; unfold iv; rw [List.map_replicate]
  rw [e2]
  refine ⟨_, _, _, rfl, getL_ref upd_at, intsOf_iv _, ent_oct p, by omega, ?_⟩
  refine c_b64encode (j := j) G (ent_oct p) (by omega) ?_
  exact ⟨σ, sub_put (sub_put (sub_put (sub_put (sub_put (sub_put (Sub.refl σ) h1) h2) ha) h2') h3) h4, q⟩
end Mine

namespace Mine
open PySem PySem.W PyProof.Rows PySem.Calls

theorem upd_swap {σ : St} {a b : Addr} {x y : AO} (h : a ≠ b) : upd (upd σ a x) b y = upd (upd σ b y) a x := by
  funext c
  unfold upd
  by_cases h1 : c = b
  · subst h1; rw [if_pos rfl, if_neg (Ne.symm h), if_pos rfl]
  · rw [if_neg h1, if_neg h1]
theorem drop_tail {α : Type} {bs ys tail : List α} {i : Nat} (h : bs.drop i = ys ++ tail) : bs.drop (i + ys.length) = tail := by
  rw [← List.drop_drop, h, List.drop_left]
theorem drop_le {α : Type} {bs ys tail : List α} {i : Nat} (hi : i ≤ bs.length) (h : bs.drop i = ys ++ tail) : i + ys.length ≤ bs.length := by
  have := congrArg List.length h
  rw [List.length_drop, List.length_append] at this; omega
/-! ### _law_label -/
abbrev rowO (row : List Pr) : List Int := row.flatMap entO
theorem row_oct (row : List Pr) : Oct (rowO row) := fun y hy => by
  obtain ⟨t, _, h⟩ := List.mem_flatMap.mp hy
  exact ent_oct t y h
theorem row_len : ∀ {row : List Pr}, (∀ t ∈ row, GoodP t) → (rowO row).length ≤ 8 * row.length
  | [], _ => Nat.le_refl _
  | t :: row, h => by
    have := row_len (row := row) fun t m => h t (.tail _ m)
    have := ent_len (h t (.head _))
    show (entO t ++ rowO row).length ≤ _
    rw [List.length_append, List.length_cons]; omega
theorem row3 : ∀ row : List Pr, (rowO row).length % 3 = 0
  | [] => rfl
  | t :: r => by
    show (entO t ++ rowO r).length % 3 = 0
    rw [List.length_append, Nat.add_mod, ent3, row3 r]
theorem row_app {row : List Pr} {t : Pr} : encG (rowO row) ++ encG (entO t) = encG (rowO (row ++ [t])) := by
  rw [← enc_append _ _ (row3 row)]
  unfold rowO; rw [List.flatMap_append, List.flatMap_cons, List.flatMap_nil, List.append_nil]
theorem label_loop {W : Wd} (G : GW W) {j : Nat} {w d : Addr} {bs : List Int} {σ : St} {K : S → Prop} (hwd : w ≠ d) : ∀ (row : List Pr) (done : List Pr) (i : Nat) (st : S), (∀ t ∈ row, GoodP t) → done.length + row.length ≤ 1000 → st.ρ 1 = some (.ref w) → st.ρ 2 = some (.ref d) → st.σ = upd (upd σ w (.biter bs i)) d (.list (prV done)) → bs.drop i = rowO row → i ≤ bs.length →
    (∀ st', st'.ρ 1 = some (.ref w) → st'.ρ 2 = some (.ref d) → st'.σ = upd (upd σ w (.biter bs bs.length)) d (.list (prV (done ++ row))) → K st') → stopN (tB__law_label W (j + 1)) K row.length st
  | [], done, i, st, _, _, h1, h2, hσ, hd, hi, k => by
    have hi' : i = bs.length := Nat.le_antisymm hi (List.drop_eq_nil_iff.mp hd)
    subst hi'
    exact k st h1 h2 (by rw [List.append_nil]; exact hσ)
  | t :: row, done, i, st, hg, hl, h1, h2, hσ, hd, hi, k => by
    have ht := hg t (.head _)
    have w1 : ∀ {i : Nat} {x : AO}, upd (upd σ w (.biter bs i)) d x w = some (.biter bs i) := fun {i x} => (upd_ne hwd).trans upd_at
    have mv : ∀ {i i' : Nat} {x : AO}, upd (upd (upd σ w (.biter bs i)) d x) w (.biter bs i') = upd (upd σ w (.biter bs i')) d x := fun {i i' x} => by
      rw [upd_swap (Ne.symm hwd), upd_upd]
    have hd' : bs.drop i = (List.replicate (padN (rawO t).length) 64 ++ octs t.1) ++ (octs t.2 ++ rowO row) := by
      rw [hd, rowO, List.flatMap_cons]
      unfold entO rawO; simp only [List.append_assoc]; rfl
    have hd2 := drop_tail hd'
    have hd3 := drop_tail hd2
    have l1 := drop_le hi hd'
    have l2 := drop_le l1 hd2
    refine ⟨_, h1, c_parseN (j := j) (n := t.1) G ((octs_num _).pads _) (by rw [hσ]; exact w1) hd' (by have := ht.1; omega) ?_⟩
    rw [hσ, mv]
    refine ⟨_, h2, _, getL_ref upd_at, ?_⟩
    refine ⟨_, rfl, _, h1, c_parseN (j := j) (n := t.2) G (octs_num _) w1 hd2 (by have := ht.2; omega) ?_⟩
    dsimp only
    rw [show ∀ x (ρ : Nat → Option V), (S.set ⟨upd (upd σ w (.biter bs x)) d (.list (prV done)), ρ⟩ 3 (.int ((t.1 : Nat) : Int))).σ = upd (upd σ w (.biter bs x)) d (.list (prV done)) from fun _ _ => rfl, mv]
    refine ⟨by show 2 ≤ sizeLine; decide, _, _, _, rfl, rfl, upd_at, by rw [hv_len, List.length_map]; simp only [List.length_cons] at hl; omega, ?_⟩
    refine label_loop G hwd row (done ++ [t]) _ _ (fun t m => hg t (.tail _ m)) (by rw [List.length_append, List.length_cons, List.length_nil]; simp only [List.length_cons] at hl; omega) h1 h2 ?_ hd3 l2 fun st' e1 e2 e3 => k st' e1 e2 (by rw [e3, List.append_assoc]; rfl)
    show upd (upd (upd σ w _) d _) d _ = _
    rw [upd_upd]
    congr 2
    unfold prV hv
    rw [List.map_append, List.map_append]; rfl
theorem c_label {W : Wd} (G : GW W) {j : Nat} {outer : List Env} {row : List Pr} {σ : St} {Q : V → St → Prop} (hg : ∀ t ∈ row, GoodP t) (hl : row.length ≤ 100) (q : ∀ d, σ d = none → Q (.ref d) (upd σ d (.list (prV row)))) : CallR W (j + 4) 170 outer [.bytes (encG (rowO row))] Q σ := by
  refine cR__law_label G (j := j + 3) rfl (stop__parse_varint G (j := j + 2)) ?_
  have hlen := row_len hg
  refine ⟨_, rfl, c_b64decode (j := j) G (row_oct row) (by omega) ?_⟩
  refine ⟨_, rfl, ?_⟩
  intro w hw d hd
  have hw0 : σ w = none := hw
  have hd0 : upd σ w (.biter (rowO row) 0) d = none := hd
  have hdw : w ≠ d := ne_of upd_at hd0
  have hσd : σ d = none := (upd_ne (Ne.symm hdw)).symm.trans hd0
  refine ⟨row.length, ?_⟩
  refine label_loop (w := w) (d := d) (bs := rowO row) (σ := σ) (j := j + 2) G hdw row [] 0 _ hg (by simp; omega) rfl rfl rfl (by simp) (Nat.zero_le _) fun st' e1 e2 e3 => ?_
  refine ⟨⟨w, _, e1, by rw [e3]; exact (upd_ne hdw).trans upd_at⟩, _, e2, upd σ d (.list (prV row)), ?_, fun w' hw' => ?_, q d hσd⟩
  · rw [e3]; exact sub_both (sub_upd hw0)
  · have hw2 : w' = w := by
      rw [e1] at hw'; injection hw' with h; injection h with h; exact h.symm
    subst hw2
    exact (upd_ne hdw).trans hw0
end Mine

namespace Mine
open PySem PySem.W PyProof.Rows PySem.Calls

/-! ### _law_search: the state -/
def ndV : Option Pr → V
  | none => .tuple []
  | some q => tv (pz q)
abbrev nearV (nr : Near) : List V := five fun p => ndV (nr p)
abbrev stepV (adj : Nat → List Pr) : V := .list (five fun p => .list (prV (adj p)))
theorem nd_eq {st : S} {o : Option Pr} {Q : Bool → S → Prop} (q : Q o.isNone st) : eqW (ndV o) (.tuple []) Q st := by
  cases o with
  | none => exact ⟨.tuple [], .tuple [], rfl, rfl, q⟩
  | some p => exact ⟨.tuple ((pz p).map PyData.int), .tuple [], toPy_tv _, rfl, q⟩
theorem nd_ne {st : S} {o : Option Pr} {Q : Bool → S → Prop} (q : Q (!o.isNone) st) : neW (ndV o) (.tuple []) Q st := by
  cases o with
  | none => exact ⟨.tuple [], .tuple [], rfl, rfl, q⟩
  | some p => exact ⟨.tuple ((pz p).map PyData.int), .tuple [], toPy_tv _, rfl, q⟩
theorem put_off {st : S} {b : Addr} {x y : AO} {a : Addr} (e : st.σ a = some y) (hb : st.σ b = none) : (st.put b x).σ a = some y := (if_neg (ne_of e hb)).trans e
theorem put_ne {st : S} {a b : Addr} {x : AO} (h : a ≠ b) : (st.put b x).σ a = st.σ a := if_neg h
theorem put_at {st : S} {a : Addr} {x : AO} : (st.put a x).σ a = some x := if_pos rfl
structure SW (σ : St) (adj : Nat → List Pr) (bn hp ne : Addr) (near : Near) (hs : List (List Int)) (st : S) : Prop where
  r0 : st.ρ 0 = some (stepV adj)
  r2 : st.ρ 2 = some (.ref bn)
  r3 : st.ρ 3 = some (.ref hp)
  r4 : st.ρ 4 = some (.ref ne)
  sub : St.Sub σ st.σ
  off : σ hp = none ∧ σ ne = none
  ap : hp ≠ ne
  sh : st.σ hp = some (.list (hv hs))
  sn : st.σ ne = some (.list (nearV near))
variable {σ : St} {adj : Nat → List Pr} {bn hp ne : Addr} {near bnd : Near} {hs : List (List Int)} {st : S} {es : List Tri3} {hubs : List Nat}
theorem SW.set (h : SW σ adj bn hp ne near hs st) {i : Nat} {v : V} (hi : 5 ≤ i) : SW σ adj bn hp ne near hs (st.set i v) :=
  have off : ∀ k, k < 5 → (st.set i v).ρ k = st.ρ k := fun k hk => if_neg (by omega)
  ⟨(off 0 (by decide)).trans h.r0, (off 2 (by decide)).trans h.r2, (off 3 (by decide)).trans h.r3, (off 4 (by decide)).trans h.r4, h.sub, h.off, h.ap, h.sh, h.sn⟩
theorem SW.junk (h : SW σ adj bn hp ne near hs st) {b : Addr} {x : AO} (hb : st.σ b = none) : SW σ adj bn hp ne near hs (st.put b x) :=
  ⟨h.r0, h.r2, h.r3, h.r4, sub_put h.sub hb, h.off, h.ap, put_off h.sh hb, put_off h.sn hb⟩
theorem SW.putH (h : SW σ adj bn hp ne near hs st) (hs' : List (List Int)) : SW σ adj bn hp ne near hs' (st.put hp (.list (hv hs'))) :=
  ⟨h.r0, h.r2, h.r3, h.r4, sub_off h.sub h.off.1, h.off, h.ap, put_at, (put_ne h.ap.symm).trans h.sn⟩
theorem SW.putN (h : SW σ adj bn hp ne near hs st) (y : Nat) (p : Pr) : SW σ adj bn hp ne (setN near y p) hs (st.put ne (.list (five fun q => if q = y then tv (pz p) else ndV (near q)))) :=
  ⟨h.r0, h.r2, h.r3, h.r4, sub_off h.sub h.off.2, h.off, h.ap, (put_ne h.ap).trans h.sh, put_at.trans (congrArg (fun l => some (AO.list l)) (five_congr fun q _ => by unfold setN; split <;> rfl))⟩
theorem Sr.three {pend} (S : Sr es hubs bnd near hs pend) : HS 3 hs := fun e m => by obtain ⟨f, h, y, rfl, _⟩ := S.heap e m; rfl
theorem le_of_lex {f h y f' h' y' : Nat} (l : leL (el f h y) (el f' h' y')) : le2 (f, h) (f', h') := by
  unfold leL el at l
  simp only [lexLt, beq_iff_eq] at l
  unfold le2; dsimp only
  split at l
  · split at l
    · omega
    · have := of_decide_eq_false l; omega
  · have := of_decide_eq_false l; omega

abbrev seF (W : Wd) (j : Nat) : PF := (seqW (ifS (cmW eqW (itW (locW 4) (locW 8)) (cW (.tuple []))) (seqW (exprW (cbW (argS (locW 3) (argS (tpW (argS (biW addW (locW 5) (locW 9)) (argS (locW 6) (argS (locW 8) arg0)))) arg0)) (callW W j 28)))
  nilW) nilW)
  nilW)
abbrev seB (W : Wd) (j : Nat) : PF := (seqW (asgS (cbW (argS (locW 3) arg0) (callW W j 35)) (tupW [(setW 5), (setW 6), (setW 7)]))
  (seqW (ifS (andB (cmW eqW (itW (locW 4) (locW 7)) (cW (.tuple []))) (orB (cmW eqW (itW (locW 2) (locW 7)) (cW (.tuple []))) (cmW ltW (locW 5) (itW (itW (locW 2) (locW 7)) (cW (.int 0)))))) (seqW (putS (tpW (argS (locW 5) (argS (locW 6) arg0))) (locW 4) (locW 7))
  (seqW (forW (itW (locW 0) (locW 7)) (tupW [(setW 8), (setW 9)]) (seF W j))
  nilW)) nilW)
  nilW))
/-- what the search goes by -/
structure Sc0 (es : List Tri3) (adj : Nat → List Pr) (bnd : Near) (bn : Addr) (σ : St) : Prop where
  cov : ∀ x, x < 5 → ∀ y s, Ed es x y s → (y, s) ∈ adj x
  ed : ∀ x, x < 5 → ∀ p ∈ adj x, Ed es x p.1 p.2 ∧ p.1 < 5
  len : ∀ x, (adj x).length ≤ 100
  bat : σ bn = some (.list (nearV bnd))
  lip : Lip es bnd
/-- the neighbours of a place that is settled -/
theorem s_edges {W : Wd} (G : GW W) {j f h y : Nat} {Q : Fl → S → Prop} {near : Near} (Z : Sc0 es adj bnd bn σ) (hy : y < 5) (hny : near y = some (f, h)) (hle : ∀ x p, near x = some p → le2 p (f, h)) {c : Nat} (hc : c ≤ 1000)
    (K : ∀ st hs, SW σ adj bn hp ne near hs st → Sr es hubs bnd near hs noP → HeapFrom leL 0 hs → hs.length ≤ c → Q .next st) : ∀ (rest : List Pr) (st : S) (hs : List (List Int)), (∀ p ∈ rest, p ∈ adj y) → SW σ adj bn hp ne near hs st → st.ρ 5 = some (.int (f : Nat)) → st.ρ 6 = some (.int (h : Nat)) →
    Sr es hubs bnd near hs (pnd rest f h) → HeapFrom leL 0 hs → hs.length + rest.length ≤ c → forL (tupW [(setW 8), (setW 9)]) (seF W (j + 3)) Q (prV rest) st
  | [], st, hs, _, w, _, _, S, hf, hl => K st hs w ⟨S.heap, S.snd, S.mono, S.src, fun x a g hx z s e => (S.clo x a g hx z s e).imp_right fun k => k.imp_right fun m => nomatch m.2.2⟩ hf hl
  | (z, s) :: rest, st, hs, hr, w, h5, h6, S, hf, hl => by
    obtain ⟨he, hz⟩ := Z.ed y hy _ (hr _ (.head _))
    simp only [List.length_cons] at hl
    refine ⟨_, rfl, rfl, ?_⟩
    have w1 := (w.set (i := 8) (v := .int (z : Nat)) (by decide)).set (i := 9) (v := .int (s : Nat)) (by decide)
    refine ⟨_, w1.r4, _, rfl, _, rfl, get_rf w1.sn hz (nd_eq (ifF (fun hb => ?_) fun hb => ?_))⟩
    · refine ⟨_, w1.r3, _, h5, _, rfl, addI ((f + s : Nat) : Int) (by omega) ⟨_, h6, _, rfl, by show 3 ≤ sizeLine; decide, ?_⟩⟩
      refine c_heappush (j := j + 1) (m := 3) (x := el (f + s) h z) G w1.sh S.three rfl (by omega) hf fun hs' hpm hf' => ?_
      have S' := (S.push hny he hz hle).perm (hpm.trans (List.perm_append_singleton _ _))
      exact s_edges G Z hy hny hle hc K rest _ hs' (fun p m => hr p (.tail _ m)) (w1.putH hs') h5 h6 S' hf' (by rw [hpm.length_eq, List.length_append, List.length_cons, List.length_nil]; omega)
    · have hn : near z ≠ none := fun e => by rw [e] at hb; cases hb
      exact s_edges G Z hy hny hle hc K rest _ hs (fun p m => hr p (.tail _ m)) w1 h5 h6 (S.pass hn hle) hf (by omega)
theorem s_while {W : Wd} (G : GW W) {j : Nat} {Q : Fl → S → Prop} (Z : Sc0 es adj bnd bn σ) (K : ∀ st near, SW σ adj bn hp ne near [] st → Found es hubs bnd near → Q .next st) : ∀ (n : Nat) (near : Near) (hs : List (List Int)) (st : S), hs.length + mu adj near < n → n ≤ 1000 → SW σ adj bn hp ne near hs st → Sr es hubs bnd near hs noP → HeapFrom leL 0 hs →
    whileN (cmW neW (locW 3) l0W) (seB W (j + 3)) Q n st
  | 0, near, hs, st, hn, _, _, _, _ => absurd hn (Nat.not_lt_zero _)
  | n + 1, near, hs, st, hn, hN, w, S, hf => by
    refine ⟨_, w.r3, fun a ha => ⟨_, _, toPy_ref (w.junk (x := .list []) ha).sh (toPy_hv (n := 6) hs), toPy_ref (n := 7) put_at rfl, ?_⟩⟩
    have w0 := w.junk (x := .list []) ha
    match hs, hn, w0, S, hf with
    | [], _, w0, S, _ => exact K _ near w0 (S.found Z.lip)
    | x :: r, hn, w0, S, hf =>
      refine ⟨_, w0.r3, c_heappop (j := j) (m := 3) (x := x) G w0.sh S.three (by simp only [List.length_cons] at hn ⊢; omega) hf rfl fun hs' hpm hf' => ?_⟩
      have hlen := hpm.length_eq
      simp only [List.length_cons] at hn hlen
      obtain ⟨f, h, y, rfl, hy, hh, hw⟩ := S.heap x (.head _)
      have S1 := S.perm hpm
      have hmin : ∀ e ∈ hs', ElLe (f, h) e := fun e m => by
        obtain ⟨f', h', y', rfl, _⟩ := S1.heap e (.tail _ m)
        obtain ⟨i, hi⟩ := List.getElem?_of_mem (hpm.mem_iff.mp (.tail _ m))
        exact ⟨f', h', y', rfl, le_of_lex (HeapFrom.min lex_refl lex_trans hf rfl i _ hi)⟩
      refine ⟨_, rfl, rfl, ?_⟩
      have w1 := (((w0.putH hs').set (i := 5) (v := .int (f : Nat)) (by decide)).set (i := 6) (v := .int (h : Nat)) (by decide)).set (i := 7) (v := .int (y : Nat)) (by decide)
      have skip : near y ≠ none ∨ ¬ Bd bnd y f → whileN (cmW neW (locW 3) l0W) (seB W (j + 3)) Q n _ := fun k => s_while G Z K n near hs' _ (by omega) (by omega) w1 (S1.skip k) hf'
      have take : ∀ st : Mine.S, SW σ adj bn hp ne near hs' st → st.ρ 5 = some (.int (f : Nat)) → st.ρ 6 = some (.int (h : Nat)) → st.ρ 7 = some (.int (y : Nat)) → near y = none → Bd bnd y f → ∀ Z' : Fl → Mine.S → Prop, (∀ st', whileN (cmW neW (locW 3) l0W) (seB W (j + 3)) Q n st' → Z' .next st') →
          (seqW (putS (tpW (argS (locW 5) (argS (locW 6) arg0))) (locW 4) (locW 7)) (seqW (forW (itW (locW 0) (locW 7)) (tupW [(setW 8), (setW 9)]) (seF W (j + 3))) nilW)) Z' st := fun st w1 e5 e6 e7 hn0 hb Z' hZ' => by
        refine ⟨_, e5, _, e6, by show 2 ≤ sizeLine; decide, _, w1.r4, _, e7, put_rf w1.sn hy ?_⟩
        have w2 := w1.putN y (f, h)
        have hm := mu_set (adj := adj) (p := (f, h)) hy hn0
        refine ⟨_, w2.r0, _, e7, _, rfl, get_fv hy ⟨_, rfl, ?_⟩⟩
        have S2 := S1.take hn0 hb hmin (Z.cov y hy)
        refine s_edges G (j := j) (f := f) (h := h) (y := y) (c := hs'.length + (adj y).length) Z hy (if_pos rfl) (fun x p hx => ?_) (by omega) (fun st' hs'' w' S' hf'' hl' => ?_) (adj y) _ hs' (fun p m => m) w2 e5 e6 S2 hf' (Nat.le_refl _)
        · unfold setN at hx
          split at hx
          · cases hx; exact le2.rfl
          · obtain ⟨f', h', y', e, hl⟩ := S1.mono x p hx _ (.head _)
            obtain ⟨rfl, rfl, rfl⟩ := el_inj e
            exact hl
        · exact hZ' _ (s_while G Z K n _ hs'' st' (by omega) (by omega) w' S' hf'')
      refine ⟨_, w1.r4, _, rfl, _, rfl, get_rf w1.sn hy (nd_eq (ifF (fun hb => ?_) fun hb => ?_))⟩
      · have hn0 : near y = none := by cases e : near y with | none => rfl | some p => rw [e] at hb; cases hb
        refine ⟨_, w1.r2, _, rfl, _, rfl, get_rf (w1.sub _ _ Z.bat) hy (nd_eq (ifF (fun hb2 => ?_) fun hb2 => ?_))⟩
        · exact take _ w1 rfl rfl rfl hn0 (fun p e => by rw [e] at hb2; cases hb2) _ fun _ k => k
        · cases e : bnd y with
          | none => rw [e] at hb2; cases hb2
          | some q =>
            refine ⟨_, rfl, _, w1.r2, _, rfl, _, rfl, get_rf (w1.sub _ _ Z.bat) hy ⟨_, rfl, ?_⟩⟩
            rw [e]
            refine get_tup (k := 0) (z := .int (q.1 : Nat)) rfl (by decide) (ifF (b := decide ((f : Int) < (q.1 : Nat))) (fun hb3 => ?_) fun hb3 => ?_)
            · exact take _ w1 rfl rfl rfl hn0 (fun p e' => by rw [e] at e'; cases e'; have := of_decide_eq_true hb3; omega) _ fun _ k => k
            · exact skip (.inr fun k => by have := k q e; have := of_decide_eq_false hb3; omega)
      · exact skip (.inl fun e => by rw [e] at hb; cases hb)
theorem c_search {W : Wd} (G : GW W) {j : Nat} {Q : V → St → Prop} (Z : Sc0 es adj bnd bn σ) (h5 : ∀ h ∈ hubs, h < 5) (hl : hubs.length ≤ 5) (q : ∀ a near, σ a = none → Found es hubs bnd near → Q (.ref a) (upd σ a (.list (nearV near)))) : CallOK W (j + 4) 175 [stepV adj, .list (iv (zs hubs)), .ref bn] [] Q σ := by
  refine cS__law_search G rfl ?_
  unfold tS__law_search
  refine ⟨_, rfl, _, rfl, by rw [iv_len, zs, List.length_map]; unfold sizeLine; omega, ?_⟩
  rw [zs, iv_map]
  refine comp_map (σ := σ) _ (fun h => tv (el 0 h h)) (Sub.refl _) (fun i hi σ' hs' Z hZ => ⟨_, rfl, _, rfl, by show 3 ≤ sizeLine; decide, hZ _ (off_set (Nat.le_refl _)) hs'⟩) fun σ1 s1 hp0 hhp => ?_
  rw [← hv_map]
  have hh0 := sub_none s1 hhp
  refine ⟨_, rfl, c_heapify (j := j) (m := 3) (σ := upd σ1 hp0 (.list (hv (hubs.map fun h => el 0 h h)))) (hs := hubs.map fun h => el 0 h h) (a := hp0) G upd_at (fun h m => by obtain ⟨q, _, rfl⟩ := List.mem_map.mp m; rfl) (by rw [List.length_map]; omega) fun hs hpm hf => ?_⟩
  rw [upd_upd]
  have s2 : St.Sub σ (upd σ1 hp0 (.list (hv hs))) := sub_put s1 hhp
  have k1 : upd σ1 hp0 (.list (hv hs)) hp0 = some (.list (hv hs)) := upd_at
  generalize upd σ1 hp0 (.list (hv hs)) = σ2 at s2 k1
  refine ⟨by show 5 ≤ sizeLine; decide, fun nr hnr => ?_⟩
  have hnr' : σ2 nr = none := hnr
  have mem : ∀ e, e ∈ hs ↔ ∃ h, h ∈ hubs ∧ el 0 h h = e := fun e => by rw [hpm.mem_iff, List.mem_map]
  have w : ∀ ρ : Nat → Option V, ρ 0 = some (stepV adj) → ρ 2 = some (.ref bn) → ρ 3 = some (.ref hp0) → ρ 4 = some (.ref nr) → SW σ adj bn hp0 nr (fun _ => none) hs ⟨upd σ2 nr (.list (nearV fun _ => none)), ρ⟩ := fun ρ h0 h2 h3 h4 =>
    ⟨h0, h2, h3, h4, sub_put s2 hnr', ⟨hh0, sub_none s2 hnr'⟩, ne_of k1 hnr', keep1 k1 hnr', upd_at⟩
  have S0 : Sr es hubs bnd (fun _ => none) hs noP := by
    refine ⟨fun e m => ?_, (fun _ _ _ e => nomatch e), (fun _ _ e => nomatch e), fun h m => .inl ((mem _).mpr ⟨h, m, rfl⟩), (fun _ _ _ e => nomatch e)⟩
    obtain ⟨h, m', rfl⟩ := (mem e).mp m
    exact ⟨0, h, h, rfl, h5 h m', m', .nil⟩
  have hlen := hpm.length_eq
  rw [List.length_map] at hlen
  have hmu : mu adj (fun _ => none) ≤ 500 := by
    show (adj 0).length + ((adj 1).length + ((adj 2).length + ((adj 3).length + ((adj 4).length + 0)))) ≤ 500
    have := Z.len 0; have := Z.len 1; have := Z.len 2; have := Z.len 3; have := Z.len 4
    omega
  refine ⟨1000, s_while G (j := j) Z (fun st' near w' F => ?_) 1000 _ hs _ (by omega) (Nat.le_refl _) (w _ rfl rfl rfl rfl) S0 hf⟩
  exact ⟨_, w'.r4, _, sub_at w'.sub w'.sn, q nr near w'.off.2 F⟩
end Mine

namespace Mine
open PySem PySem.W PyProof.Rows PySem.Calls

/-! ### _law_lengths: the table -/
structure TR (σ : St) (t : Addr) (r : Nat → Addr) (rows : Nat → List V) (τ : St) : Prop where
  sub : St.Sub σ τ
  ot : σ t = none
  off : ∀ p, p < 5 → σ (r p) = none
  inj : ∀ p q, p < 5 → q < 5 → r p = r q → p = q
  nt : ∀ p, p < 5 → r p ≠ t
  tb : τ t = some (.list (five fun p => .ref (r p)))
  row : ∀ p, p < 5 → τ (r p) = some (.list (rows p))
abbrev TB (σ : St) (t : Addr) (r : Nat → Addr) (m : Nat → Nat → Nat) (τ : St) : Prop := TR σ t r (fun p => nums (m p)) τ
variable {σ : St} {t : Addr} {r : Nat → Addr} {m : Nat → Nat → Nat} {st : S} {rows : Nat → List V}
theorem TR.congr {rows' : Nat → List V} {τ : St} (h : TR σ t r rows τ) (e : ∀ p, p < 5 → rows p = rows' p) : TR σ t r rows' τ :=
  { h with row := fun p hp => by rw [← e p hp]; exact h.row p hp }
theorem TB.congr {m' : Nat → Nat → Nat} {τ : St} (h : TB σ t r m τ) (e : ∀ i j, i < 5 → j < 5 → m i j = m' i j) : TB σ t r m' τ :=
  TR.congr h fun p hp => five_congr fun q hq => by rw [e p q hp hq]
theorem TR.put (h : TR σ t r rows st.σ) {i : Nat} {l : List V} (hi : i < 5) : TR σ t r (fun p => if p = i then l else rows p) (st.put (r i) (.list l)).σ := by
  refine ⟨sub_off h.sub (h.off i hi), h.ot, h.off, h.inj, h.nt, (put_ne (h.nt i hi).symm).trans h.tb, fun p hp => ?_⟩
  by_cases e : p = i
  · rw [e, if_pos rfl]; exact put_at
  · rw [if_neg e]; exact (put_ne fun z => e (h.inj p i hp hi z)).trans (h.row p hp)
theorem TB.put (h : TB σ t r m st.σ) {i j v : Nat} (hi : i < 5) : TB σ t r (st2 m i j v) (st.put (r i) (.list (five fun q => if q = j then .int (v : Nat) else .int (m i q : Nat)))).σ := by
  refine (TR.put h hi).congr fun p hp => ?_
  by_cases e : p = i
  · rw [e, if_pos rfl]
    refine five_congr fun q _ => ?_
    unfold st2
    by_cases z : q = j
    · rw [if_pos z, if_pos ⟨rfl, z⟩]
    · rw [if_neg z, if_neg fun k => z k.2]
  · rw [if_neg e]
    exact five_congr fun q _ => by unfold st2; rw [if_neg fun k => e k.1]
/-- five new lists -/
theorem comp_five {n : Nat} {Te : PV} {ρ ρ' : Nat → Option V} {Q : V → S → Prop} {σ' : St} (hs : St.Sub σ σ') (rows : Nat → List V) (h : ∀ i, i < 5 → ∀ τ, St.Sub σ τ → ∀ Z : V → S → Prop, (∀ τ' a, St.Sub τ τ' → τ' a = none → Z (.ref a) (S.set ⟨upd τ' a (.list (rows i)), ρ⟩ n (.int (i : Nat)))) → Te Z (S.set ⟨τ, ρ⟩ n (.int (i : Nat))))
    (q : ∀ t r τ, TR σ t r rows τ → Q (.ref t) ⟨τ, ρ'⟩) : compL n (setW n) tT Te ρ (fun acc σ => newW (.list acc) Q σ ρ') ((List.range 5).map fun (i : Nat) => V.int i) [] σ' := by
  refine comp_range (fun k acc τ => ∃ r : Nat → Addr, acc = (List.range k).map (fun p => V.ref (r p)) ∧ St.Sub σ τ ∧ (∀ p, p < k → σ (r p) = none ∧ τ (r p) = some (.list (rows p))) ∧ ∀ p q, p < k → q < k → r p = r q → p = q) (fun i acc τ hi ⟨r, ha, hs, hr, hinj⟩ Z hZ => ?_) (fun acc τ ⟨r, ha, hs, hr, hinj⟩ => ?_) ⟨fun _ => 0, rfl, hs, fun p hp => absurd hp (Nat.not_lt_zero _), fun p _ hp => absurd hp (Nat.not_lt_zero _)⟩
  · refine h i hi τ hs Z fun τ' a hs' ha' => ?_
    have hsa : St.Sub σ τ' := Sub.trans hs hs'
    refine hZ (.ref a) _ ⟨fun p => if p = i then a else r p, ?_, sub_put hsa ha', fun p hp => ?_, fun p q hp hq => ?_⟩
    · rw [ha, List.range_succ, List.map_append]
      congr 1
      · exact List.map_congr_left fun p hp => congrArg V.ref (if_neg (Nat.ne_of_lt (List.mem_range.mp hp))).symm
      · show [V.ref a] = [V.ref (if i = i then a else r i)]
        rw [if_pos rfl]
    · dsimp only
      by_cases e : p = i
      · rw [if_pos e, e]; exact ⟨sub_none hsa ha', upd_at⟩
      · rw [if_neg e]
        have hp' := hr p (by omega)
        exact ⟨hp'.1, keep1 (hs' _ _ hp'.2) ha'⟩
    · have fr : ∀ p, p < i → r p ≠ a := fun p hp => ne_of (hs' _ _ (hr p hp).2) ha'
      dsimp only
      by_cases e : p = i <;> by_cases e' : q = i
      · intro _; rw [e, e']
      · rw [if_pos e, if_neg e']; exact fun z => absurd z.symm (fr q (by omega))
      · rw [if_neg e, if_pos e']; exact fun z => absurd z (fr p (by omega))
      · rw [if_neg e, if_neg e']; exact hinj p q (by omega) (by omega)
  · intro t ht
    subst ha
    exact q t r _ ⟨sub_put hs ht, sub_none hs ht, fun p hp => (hr p hp).1, hinj, fun p hp => ne_of (hr p hp).2 ht, upd_at, fun p hp => keep1 (hr p hp).2 ht⟩
/-- and the table frozen -/
theorem TR.fz (h : TR σ t r rows st.σ) {i : Nat} {T : PF} {Q : Fl → S → Prop} (hi : st.ρ i = some (.ref t)) (q : ∀ σ', St.Sub σ σ' → T Q (S.set ⟨σ', st.ρ⟩ i (.list (five fun p => .list (rows p))))) : fz2V i T Q st := by
  have e1 : ((List.range 5).map fun p => (r p, rows p)).map (·.1) = (List.range 5).map r := List.map_map
  refine ⟨t, (List.range 5).map fun p => (r p, rows p), hi, ?_, fun p m => ?_, ?_, ?_, fun σ' h1 h2 => ?_⟩
  · rw [List.map_map]; exact h.tb
  · obtain ⟨k, hk, rfl⟩ := List.mem_map.mp m
    exact h.row k (List.mem_range.mp hk)
  · rw [e1]
    exact List.pairwise_map.mpr (List.Pairwise.imp_of_mem (fun ha hb hne e => hne (h.inj _ _ (List.mem_range.mp ha) (List.mem_range.mp hb) e)) List.nodup_range)
  · rw [e1]
    intro m
    obtain ⟨k, hk, e⟩ := List.mem_map.mp m
    exact h.nt k (List.mem_range.mp hk) e
  · have := q σ' fun b x e => ?_
    · rw [List.map_map]; exact this
    · rw [h2 b (ne_of e h.ot) fun m => ?_]
      · exact h.sub b x e
      · rw [e1] at m
        obtain ⟨k, hk, rfl⟩ := List.mem_map.mp m
        rw [h.off k (List.mem_range.mp hk)] at e; cases e
structure LW (σ : St) (N : Nat) (t : Addr) (r : Nat → Addr) (m : Nat → Nat → Nat) (st : S) : Prop where
  tab : TB σ t r m st.σ
  r1 : st.ρ 1 = some (.int (N : Nat))
  r2 : st.ρ 2 = some (.ref t)
variable {N : Nat}
theorem LW.set (h : LW σ N t r m st) {i : Nat} {v : V} (hi : 3 ≤ i) : LW σ N t r m (st.set i v) := ⟨h.tab, (if_neg (by omega)).trans h.r1, (if_neg (by omega)).trans h.r2⟩
theorem l_get (h : LW σ N t r m st) {x y i j : Nat} (hx : st.ρ x = some (.int (i : Nat))) (hy : st.ρ y = some (.int (j : Nat))) (hi : i < 5) (hj : j < 5) {Q : V → S → Prop} (q : Q (.int (m i j : Nat)) st) : itW (itW (locW 2) (locW x)) (locW y) Q st :=
  ⟨_, h.r2, _, hx, _, rfl, get_rf h.tab.tb hi ⟨_, hy, _, rfl, get_rf (h.tab.row i hi) hj q⟩⟩
theorem l_put (h : LW σ N t r m st) {x y i j v : Nat} (hx : st.ρ x = some (.int (i : Nat))) (hy : st.ρ y = some (.int (j : Nat))) (hi : i < 5) (hj : j < 5) {K : S → Prop} (k : ∀ st', LW σ N t r (st2 m i j v) st' → st'.ρ = st.ρ → K st') : itW (locW 2) (locW x) (fun o => locW y fun i => putW o i (.int (v : Nat)) K) st :=
  ⟨_, h.r2, _, hx, _, rfl, get_rf h.tab.tb hi ⟨_, hy, put_rf (h.tab.row i hi) hj (k _ ⟨h.tab.put hi, h.r1, h.r2⟩ rfl)⟩⟩
theorem min_cast {a b : Nat} : min (a : Int) (b : Int) = ((min a b : Nat) : Int) := by omega
theorem sum_zs : ∀ ns : List Nat, (zs ns).sum = ((ns.sum : Nat) : Int)
  | [] => rfl
  | n :: ns => by
    show (n : Int) + (zs ns).sum = _
    rw [sum_zs ns, List.sum_cons, Int.natCast_add]
/-- one length of the table -/
theorem l_min (h : LW σ N t r m st) {x y i j v : Nat} {T : PV} (hx : st.ρ x = some (.int (i : Nat))) (hy : st.ρ y = some (.int (j : Nat))) (hi : i < 5) (hj : j < 5) (hT : ∀ Q : V → S → Prop, Q (.int (v : Nat)) st → T Q st) {Q : Fl → S → Prop} (k : ∀ st', LW σ N t r (st2 m i j (min (m i j) v)) st' → st'.ρ = st.ρ → Q .next st') :
    putS (cbW (argS (itW (itW (locW 2) (locW x)) (locW y)) (argS T arg0)) minW) (itW (locW 2) (locW x)) (locW y) Q st :=
  l_get h hx hy hi hj (hT _ ⟨_, _, rfl, by rw [min_cast]; exact l_put h hx hy hi hj k⟩)
theorem all_way {e : Tri3} {i j k : Nat} {K : S → Prop} (h : K (((st.set i (.int (e.1 : Nat))).set j (.int (e.2.1 : Nat))).set k (.int (e.2.2 : Nat)))) : allW [setW i, setW j, setW k] ((tz e).map V.int) K st := h
theorem c_lengths {W : Wd} (G : GW W) {j : Nat} {es : List Tri3} {Q : V → St → Prop} (hg : ∀ e ∈ es, GoodT e) (hl : es.length ≤ 100) (q : ∀ t r τ, TB σ t r (dst es) τ → Q (.tuple [.ref t, .int (1 + tot es : Nat)]) τ) : CallOK W (j + 1) 190 [.list (wayV es)] [] Q σ := by
  refine cS__law_lengths G rfl ?_
  unfold tS__law_lengths
  refine ⟨_, rfl, _, rfl, by rw [hv_len, List.length_map]; unfold sizeLine; omega, ?_⟩
  rw [wayV, hv_map]
  refine comp_map (σ := σ) _ (fun e => .int (e.2.2 : Nat)) (Sub.refl _) (fun e he σ' hs' Z hZ => ⟨_, rfl, rfl, _, rfl, hZ _ (((off_set (by decide)).set (by decide)).set (by decide)) hs'⟩) fun σ1 s1 a1 h1 => ?_
  rw [show (es.map fun e => V.int (e.2.2 : Nat)) = iv (zs (es.map (·.2.2))) from by unfold zs; rw [iv_map, List.map_map]; rfl]
  refine ⟨_, _, _, rfl, getL_ref upd_at, intsOf_iv _, by unfold zs; rw [List.length_map, List.length_map]; omega, fun n hn => ?_, addI ((1 + tot es : Nat) : Int) (by rw [sum_zs]; unfold tot; omega) ?_⟩
  · obtain ⟨k, hk, rfl⟩ := List.mem_map.mp hn
    obtain ⟨e, he, rfl⟩ := List.mem_map.mp hk
    have := (hg e he).n
    omega
  have s2 := sub_put (x := .list (iv (zs (es.map (·.2.2))))) s1 h1
  refine .inl ⟨_, rfl, ?_⟩
  refine ⟨_, items_range (n := 5) (by decide), by decide, ?_⟩
  refine comp_five s2 (fun i => nums (fw0 (1 + tot es) i)) (fun i hi τ hs Z hZ => ?_) fun t r τ hT => ?_
  · -- a row
    refine .inl ⟨_, rfl, ?_⟩
    refine ⟨_, items_range (n := 5) (by decide), by decide, ?_⟩
    refine comp_map (σ := τ) _ (fun o => .int (fw0 (1 + tot es) i o : Nat)) (Sub.refl _) ?_ fun σ' hs' a ha' => hZ σ' a hs' ha'
    intro o ho σ' hs' Z1 hZ1
    refine ⟨_, rfl, _, rfl, eqI (ifF (fun hb => ?_) fun hb => ?_)⟩
    · have he : i = o := by have := beq_iff_eq.mp hb; omega
      rw [show fw0 (1 + tot es) i o = 0 from if_pos he] at hZ1
      exact hZ1 _ (off_set (Nat.le_refl _)) hs'
    · have he : i ≠ o := fun z => by rw [z, beq_self_eq_true] at hb; cases hb
      rw [show fw0 (1 + tot es) i o = 1 + tot es from if_neg he] at hZ1
      exact ⟨_, rfl, hZ1 _ (off_set (Nat.le_refl _)) hs'⟩
  · have w0 : ∀ ρ : Nat → Option V, ρ 1 = some (.int (1 + tot es : Nat)) → ρ 2 = some (.ref t) → LW σ (1 + tot es) t r (fw0 (1 + tot es)) ⟨τ, ρ⟩ := fun ρ h1 h2 => ⟨hT, h1, h2⟩
    refine ⟨_, rfl, _, rfl, ?_⟩
    refine for_inv (fun rem st => ∃ done rest, rem = wayV rest ∧ es = done ++ rest ∧ LW σ (1 + tot es) t r (done.foldl edg (fw0 (1 + tot es))) st) ?_ ?_ _ _ ⟨[], es, (hv_map _ _).symm, rfl, w0 _ rfl rfl⟩
    · rintro x rm st ⟨done, rest, hrm, hes, w⟩ Z hZ
      cases rest with
      | nil => cases hrm
      | cons e rest =>
        cases hrm
        have he := hg e (by rw [hes]; exact List.mem_append.mpr (.inr (.head _)))
        refine ⟨_, rfl, rfl, ?_⟩
        have w1 := ((w.set (i := 3) (v := .int (e.1 : Nat)) (by decide)).set (i := 4) (v := .int (e.2.1 : Nat)) (by decide)).set (i := 5) (v := .int (e.2.2 : Nat)) (by decide)
        refine all_way (l_min w1 (T := locW 5) (x := 3) (y := 4) (i := e.1) (j := e.2.1) (v := e.2.2) rfl rfl he.a he.b (fun Q q => ⟨_, rfl, q⟩) fun st1 w2 e2 => ?_)
        refine l_min w2 (T := locW 5) (x := 4) (y := 3) (i := e.2.1) (j := e.1) (v := e.2.2) (by rw [e2]; rfl) (by rw [e2]; rfl) he.b he.a (fun Q q => ⟨_, by rw [e2]; rfl, q⟩) fun st2 w3 _ => ?_
        exact hZ st2 ⟨done ++ [e], rest, rfl, by rw [hes, List.append_assoc]; rfl, by rw [List.foldl_append]; exact w3⟩
    · rintro st ⟨done, rest, hrm, hes, w⟩
      cases rest with
      | cons e rest => cases hrm
      | nil =>
        rw [List.append_nil] at hes
        subst hes
        refine .inl ⟨_, rfl, ?_⟩
        refine ⟨_, items_range (n := 5) (by decide), ?_⟩
        have five_ := items_range (n := 5) (by decide)
        refine for_range (fun k st => LW σ (1 + tot es) t r (fwP (fwE (1 + tot es) es) k) st) (fun k st hk w Z hZ => ?_) (fun st w => ?_) w
        · refine .inl ⟨_, rfl, ?_⟩
          refine ⟨_, five_, ?_⟩
          refine for_range (fun i st => LW σ (1 + tot es) t r (pp (fwP (fwE (1 + tot es) es) k) k i 0) st ∧ st.ρ 6 = some (.int (k : Nat))) (fun i st hi ⟨w, h6⟩ Z1 hZ1 => ?_) (fun st ⟨w, _⟩ => ?_) ⟨⟨(w.set (i := 6) (by decide)).tab.congr fun i j _ _ => ?_, w.r1, w.r2⟩, rfl⟩
          · refine .inl ⟨_, rfl, ?_⟩
            refine ⟨_, five_, ?_⟩
            refine for_range (fun j st => LW σ (1 + tot es) t r (pp (fwP (fwE (1 + tot es) es) k) k i j) st ∧ st.ρ 6 = some (.int (k : Nat)) ∧ st.ρ 3 = some (.int (i : Nat))) (fun j st hj ⟨w, h6, h3⟩ Z2 hZ2 => ?_) (fun st ⟨w, h6, _⟩ => ?_) ⟨w.set (by decide), h6, rfl⟩
            · have w1 := w.set (i := 4) (v := .int (j : Nat)) (by decide)
              refine l_min w1 (x := 3) (y := 4) (i := i) (j := j) (v := pp (fwP (fwE (1 + tot es) es) k) k i j i k + pp (fwP (fwE (1 + tot es) es) k) k i j k j) h3 rfl hi hj (fun Q q => l_get w1 (x := 3) (y := 6) h3 h6 hi hk (l_get w1 (x := 6) (y := 4) h6 rfl hk hj (addI _ (Int.natCast_add _ _).symm q))) fun st' w2 e2 => ?_
              rw [pp_step fw_zero] at w2
              exact hZ2 st' ⟨w2, by rw [e2]; exact h6, by rw [e2]; exact h3⟩
            · exact hZ1 st ⟨⟨w.tab.congr fun a b _ hb => pp_row hb, w.r1, w.r2⟩, h6⟩
          · exact hZ st ⟨w.tab.congr fun i j hi _ => by unfold pp; rw [if_pos (.inl hi)]; rfl, w.r1, w.r2⟩
          · unfold pp; rw [if_neg (by omega)]
        · exact ⟨_, w.r2, _, w.r1, by show 2 ≤ sizeLine; decide, st.σ, Sub.refl _, q t r st.σ w.tab⟩
end Mine

namespace Mine
open PySem PySem.W PyProof.Rows PySem.Calls

/-! ### _law_told -/
theorem contains_zs (ns : List Nat) (p : Nat) : (zs ns).contains (p : Int) = ns.contains p := by
  rw [Bool.eq_iff_iff, List.contains_iff_mem, List.contains_iff_mem, zs, List.mem_map]
  exact ⟨fun ⟨x, m, e⟩ => by rw [← Int.ofNat.inj e]; exact m, fun m => ⟨p, m, rfl⟩⟩
abbrev labV (l : Nat → List Pr) : V := .list (five fun p => .list (prV (l p)))
theorem all_pr {st : S} {p : Pr} {i j : Nat} {K : S → Prop} (h : K ((st.set i (.int (p.1 : Nat))).set j (.int (p.2 : Nat)))) : allW [setW i, setW j] ((pz p).map V.int) K st := h
abbrev toB : PF := (seqW (ifS (cmW (icmpW fun i j => decide (j ≤ i)) (locW 6) (cbW (argS (itW (locW 0) (locW 3)) arg0) lenW)) (seqW (retS l0W)
  nilW) nilW)
  (seqW (asgS (tpW (argS (locW 3) (argS (locW 2) arg0))) (swW [2, 3]))
  (seqW (asgS (itW (itW (locW 0) (locW 2)) (locW 6)) (tupW [(setW 5), (setW 4)]))
  (seqW (augS 6 (cW (.int 1)) (intsW (fun _ _ => True) (· + ·)))
  nilW))))
abbrev toT : PB := cmW notInW (locW 5) (compW 7 (itW (locW 1) (locW 3)) (tupW [(setW 7), (setW 8)]) tT (locW 7))
structure TW (σ : St) (gl en : Nat → List Pr) (far hub turn one other : Nat) (st : S) : Prop where
  r0 : st.ρ 0 = some (labV gl)
  r1 : st.ρ 1 = some (labV en)
  r2 : st.ρ 2 = some (.int (one : Nat))
  r3 : st.ρ 3 = some (.int (other : Nat))
  r4 : st.ρ 4 = some (.int (far : Nat))
  r5 : st.ρ 5 = some (.int (hub : Nat))
  r6 : st.ρ 6 = some (.int (turn : Nat))
  sub : St.Sub σ st.σ
variable {σ : St} {gl en : Nat → List Pr}
theorem t_loop {R : List Nat} {Q : Fl → S → Prop} (hg : ∀ p, (gl p).length ≤ 2) (he : ∀ p, (en p).length ≤ 5) (K1 : ∀ st far hub turn one other, TW σ gl en far hub turn one other st → other < 5 → ((en other).filter fun p => p.1 == hub).map (fun p => far + p.2) = R → Q .next st)
    (K2 : ∀ st a, R = [] → σ a = none → St.Sub σ st.σ → st.σ a = some (.list []) → Q (.ret (.ref a)) st) : ∀ (n far hub turn one other : Nat) (st : S), turn ≤ 2 → turn + n = 3 → one < 5 → other < 5 → TW σ gl en far hub turn one other st → tell gl en n far hub turn one other = R → whileN toT toB Q n st
  | 0, _, _, turn, _, _, _, h2, h3, _, _, _, _ => absurd h2 (by omega)
  | n + 1, far, hub, turn, one, other, st, h2, h3, ho, ht, w, hR => by
    refine ⟨_, w.r5, _, w.r1, _, w.r3, _, rfl, get_fv ht ⟨_, rfl, by rw [hv_len, List.length_map]; have := he other; unfold sizeLine; omega, ?_⟩⟩
    rw [prV, hv_map]
    refine comp_map (σ := σ) _ (fun p => .int (p.1 : Nat)) w.sub (fun p _ σ' hs' Z hZ => ⟨_, rfl, rfl, all_pr ⟨_, rfl, hZ _ ((off_set (by decide)).set (by decide)) hs'⟩⟩) fun σ1 s1 a1 h1 => ?_
    rw [show ((en other).map fun p => V.int (p.1 : Nat)) = iv (zs ((en other).map (·.1))) from by unfold zs; rw [iv_map, List.map_map]; rfl]
    refine ⟨_, _, toPy_int, toPy_ref upd_at (toPy_iv (n := 7) _), ?_⟩
    rw [any_eqv, contains_zs]
    have w1 : TW σ gl en far hub turn one other ⟨upd σ1 a1 (.list (iv (zs ((en other).map (·.1))))), st.ρ⟩ := { w with sub := sub_put s1 h1 }
    rw [tell] at hR
    refine ifP (fun hb => ?_) (fun hb => ?_)
    · have hb' : ((en other).map (·.1)).contains hub = false := by simpa using hb
      rw [if_neg (by rw [hb']; exact Bool.false_ne_true)] at hR
      refine ⟨_, w1.r6, _, w1.r0, _, w1.r3, _, rfl, get_fv ht ⟨_, rfl, .inl ⟨_, rfl, by rw [hv_len, List.length_map]; have := hg other; omega, _, _, rfl, rfl, ifF (fun hc => ?_) fun hc => ?_⟩⟩⟩
      · have hc' := of_decide_eq_true hc
        rw [hv_len, List.length_map] at hc'
        rw [List.getElem?_eq_none (by omega)] at hR
        intro a ha
        exact K2 _ a hR.symm (sub_none w1.sub ha) (sub_put w1.sub ha) upd_at
      · have hc' := of_decide_eq_false hc
        rw [hv_len, List.length_map] at hc'
        have hlt : turn < (gl other).length := by omega
        have hg2 := hg other
        rw [List.getElem?_eq_getElem hlt] at hR
        refine ⟨_, w1.r3, _, w1.r2, by show 2 ≤ sizeLine; decide, _, rfl, rfl, ?_⟩
        have gt : (prV (gl other))[turn]? = some (tv (pz (gl other)[turn])) := by rw [prV, hv_map, List.getElem?_map, List.getElem?_eq_getElem hlt]; rfl
        refine ⟨_, w1.r0, _, rfl, _, rfl, get_fv (k := other) ht ⟨_, w1.r6, _, rfl, get_fz gt (by omega) ⟨_, rfl, rfl, all_pr ?_⟩⟩⟩
        refine ⟨_, w1.r6, _, _, rfl, rfl, trivial, ?_⟩
        exact t_loop hg he K1 K2 n _ _ (turn + 1) other one _ (by omega) (by omega) ht ho ⟨w1.r0, w1.r1, rfl, rfl, rfl, rfl, rfl, w1.sub⟩ hR
    · have hb' : ((en other).map (·.1)).contains hub = true := by simpa using hb
      rw [if_pos hb'] at hR
      exact K1 _ far hub turn one other w1 ht hR
theorem c_told {W : Wd} (G : GW W) {j one other : Nat} {Q : V → St → Prop} (h1 : one < 5) (h2 : other < 5) (hg : ∀ p, (gl p).length ≤ 2) (he : ∀ p, (en p).length ≤ 5) (q : ∀ a, σ a = none → Q (.ref a) (upd σ a (.list (iv (zs (tell gl en 3 0 one 0 one other)))))) : CallOK W (j + 1) 185 [labV gl, labV en, .int (one : Nat), .int (other : Nat)] [] Q σ := by
  refine cS__law_told G rfl ?_
  unfold tS__law_told
  refine ⟨_, rfl, by show 3 ≤ sizeLine; decide, _, rfl, rfl, 3, ?_⟩
  refine t_loop (σ := σ) (gl := gl) (en := en) (R := tell gl en 3 0 one 0 one other) hg he (fun st far hub turn one other w ho hR => ?_) (fun st a hR ha hs hσ => ?_) 3 0 one 0 one other _ (by decide) rfl h1 h2 ⟨rfl, rfl, rfl, rfl, rfl, rfl, rfl, Sub.refl σ⟩ rfl
  · refine ⟨_, w.r1, _, w.r3, _, rfl, get_fv ho ⟨_, rfl, by rw [hv_len, List.length_map]; have := he other; unfold sizeLine; omega, ?_⟩⟩
    rw [prV, hv_map]
    refine comp_of (σ := σ) _ (fun p : Pr => p.1 == hub) (fun p => .int ((far + p.2 : Nat) : Int)) _ [] _ w.sub (fun p _ σ' hs' Z Z' hZ hZ' => ⟨_, rfl, rfl, all_pr ⟨_, rfl, _, w.r5, eqI ?_⟩⟩) fun σ1 s1 a1 h1 => ?_
    · rw [show ((p.1 : Int) == (hub : Int)) = (p.1 == hub) from by rw [Bool.eq_iff_iff, beq_iff_eq, beq_iff_eq]; omega]
      refine ifP (fun hb => ⟨_, w.r4, _, rfl, addI _ (Int.natCast_add _ _).symm (hZ hb _ ((off_set (by decide)).set (by decide)) hs')⟩) fun hb => hZ' hb _ ((off_set (by decide)).set (by decide)) hs'
    · rw [List.nil_append, show (((en other).filter fun p => p.1 == hub).map fun p => V.int ((far + p.2 : Nat) : Int)) = iv (zs (((en other).filter fun p => p.1 == hub).map fun p => far + p.2)) from by unfold zs; rw [iv_map, List.map_map]; rfl, hR]
      exact ⟨_, sub_both s1, q a1 (sub_none s1 h1)⟩
  · refine ⟨upd σ a (.list []), sub_at hs hσ, ?_⟩
    have := q a ha
    rw [hR] at this; exact this
end Mine

namespace Mine
open PySem PySem.W PyProof.Rows PySem.Calls

/-! ### _law_due -/
theorem le_of_pz {p q : Pr} (l : leL (pz p) (pz q)) : le2 p q := by
  unfold leL pz at l
  simp only [lexLt, beq_iff_eq] at l
  unfold le2
  split at l
  · split at l
    · omega
    · have := of_decide_eq_false l; omega
  · have := of_decide_eq_false l; omega
def cand (d : Nat → Nat → Nat) (ranks : Nat → Nat) (N y k : Nat) : List Nat := (List.range 5).filter fun h => decide (k + 1 ≤ ranks h) && decide (d y h < N)
theorem mem_cand {d : Nat → Nat → Nat} {ranks : Nat → Nat} {N y k h : Nat} : h ∈ cand d ranks N y k ↔ h < 5 ∧ k < ranks h ∧ d y h < N := by
  unfold cand; rw [List.mem_filter, List.mem_range, Bool.and_eq_true, decide_eq_true_iff, decide_eq_true_iff]; exact Iff.rfl
theorem Lab.nearest {es : List Tri3} {d : Nat → Nat → Nat} {ranks : Nat → Nat} {nr : Nat → Near} (B : Lab es d ranks nr) {k y : Nat} (hk : k < 2) (hy : y < 5) {us : List (List Int)} (pm : us.Perm ((cand d ranks (1 + tot es) y k).map fun h => pz (d y h, h))) (pw : us.Pairwise leL) :
    us.take 1 = (nr k y).toList.map pz := by
  have mem : ∀ u, u ∈ us → ∃ h, h ∈ hubsOf ranks k ∧ d h y < 1 + tot es ∧ u = pz (d h y, h) := fun u m => by
    obtain ⟨h, mh, rfl⟩ := List.mem_map.mp (pm.mem_iff.mp m)
    obtain ⟨h5, hr, hl⟩ := mem_cand.mp mh
    rw [B.dist.symm hy h5] at hl ⊢
    exact ⟨h, mem_hubs.mpr ⟨h5, hr⟩, hl, rfl⟩
  cases e : nr k y with
  | none =>
    cases us with
    | nil => rfl
    | cons u r =>
      obtain ⟨h, m, hl, _⟩ := mem u (.head _)
      exact absurd hl (near_none B.dist (B.near k hk) Lab.hub5 hy e h m)
  | some q =>
    obtain ⟨m, h1, h2, h3⟩ := near_some B.dist (B.near k hk) Lab.hub5 hy (show nr k y = some (q.1, q.2) from e)
    have mw := mem_hubs.mp m
    have hin : pz q ∈ us := by
      refine pm.mem_iff.mpr (List.mem_map.mpr ⟨q.2, mem_cand.mpr ⟨mw.1, mw.2, by rw [B.dist.symm hy mw.1]; exact h2⟩, ?_⟩)
      rw [B.dist.symm hy mw.1, ← h1]
    cases us with
    | nil => cases hin
    | cons u r =>
      obtain ⟨h, mh, hl, rfl⟩ := mem u (.head _)
      have l1 : le2 (d h y, h) q := by
        rcases List.mem_cons.mp hin with e | m
        · exact le_of_pz (by rw [e]; exact lex_refl _)
        · exact le_of_pz (List.rel_of_pairwise_cons pw m)
      have l2 := h3 h mh hl
      have : (d h y, h) = q := by
        obtain ⟨a, b⟩ := q
        unfold le2 at l1 l2; dsimp only at l1 l2
        have ha : d h y = a := by omega
        have hb : h = b := by omega
        rw [ha, hb]
      rw [this]; rfl
structure DW (σ : St) (ranks row : Nat → Nat) (N : Nat) (g e : Addr) (gs es : List Pr) (st : S) : Prop where
  r0 : st.ρ 0 = some (.list (nums ranks))
  r1 : st.ρ 1 = some (.list (nums row))
  r2 : st.ρ 2 = some (.int (N : Nat))
  r3 : st.ρ 3 = some (.ref g)
  r4 : st.ρ 4 = some (.ref e)
  sub : St.Sub σ st.σ
  off : σ g = none ∧ σ e = none
  ap : g ≠ e
  sg : st.σ g = some (.list (prV gs))
  se : st.σ e = some (.list (prV es))
variable {σ : St} {ranks row : Nat → Nat} {N : Nat} {g e : Addr} {gs es : List Pr} {st : S}
theorem DW.set (h : DW σ ranks row N g e gs es st) {i : Nat} {v : V} (hi : 5 ≤ i) : DW σ ranks row N g e gs es (st.set i v) :=
  have off : ∀ k, k < 5 → (st.set i v).ρ k = st.ρ k := fun k hk => if_neg (by omega)
  { h with r0 := (off 0 (by decide)).trans h.r0, r1 := (off 1 (by decide)).trans h.r1, r2 := (off 2 (by decide)).trans h.r2, r3 := (off 3 (by decide)).trans h.r3, r4 := (off 4 (by decide)).trans h.r4 }
/-- whatever comes to the store besides -/
theorem DW.more (h : DW σ ranks row N g e gs es st) {τ : St} (hs : St.Sub st.σ τ) : DW σ ranks row N g e gs es ⟨τ, st.ρ⟩ :=
  { h with sub := Sub.trans h.sub hs, sg := hs _ _ h.sg, se := hs _ _ h.se }
theorem items13 : itemsOf (.range 1 3 1) = some ((List.range 2).map fun (i : Nat) => V.int ((i + 1 : Nat) : Int)) := by rfl
theorem geN {a b : Nat} {Q : Bool → S → Prop} (q : Q (decide (b ≤ a)) st) : icmpW (fun i j => decide (j ≤ i)) (.int (a : Nat)) (.int (b : Nat)) Q st :=
  ⟨_, _, rfl, rfl, by show Q (decide ((b : Int) ≤ (a : Int))) st; rw [show decide ((b : Int) ≤ (a : Int)) = decide (b ≤ a) from decide_eq_decide.mpr Int.ofNat_le]; exact q⟩
theorem gtN {a b : Nat} {Q : Bool → S → Prop} (q : Q (decide (b < a)) st) : icmpW (fun i j => decide (j < i)) (.int (a : Nat)) (.int (b : Nat)) Q st :=
  ⟨_, _, rfl, rfl, by show Q (decide ((b : Int) < (a : Int))) st; rw [show decide ((b : Int) < (a : Int)) = decide (b < a) from decide_eq_decide.mpr Int.ofNat_lt]; exact q⟩
theorem ltN {a b : Nat} {Q : Bool → S → Prop} (q : Q (decide (a < b)) st) : ltW (.int (a : Nat)) (.int (b : Nat)) Q st :=
  ltI (by rw [show decide ((a : Int) < (b : Int)) = decide (a < b) from decide_eq_decide.mpr Int.ofNat_lt]; exact q)
theorem opt_len {α : Type} {o : Option α} : o.toList.length ≤ 1 := by cases o; exact Nat.zero_le 1; exact Nat.le_refl 1
theorem pz_inj {a b h k : Nat} (e : pz (a, h) = pz (b, k)) : h = k := by
  unfold pz at e
  injection e with _ e; injection e with e _; exact Int.ofNat.inj e
theorem d_one {d : Nat → Nat → Nat} {y k : Nat} {nr : Nat → Near} (hN : ∀ us : List (List Int), us.Perm ((cand d ranks N y k).map fun h => pz (d y h, h)) → us.Pairwise leL → us.take 1 = (nr k y).toList.map pz) (w : DW σ ranks (d y) N g e gs es st) (hgl : gs.length ≤ 5) {Q : Fl → S → Prop}
    (K : ∀ st' g', DW σ ranks (d y) N g' e (gs ++ (nr k y).toList.map fun q => (q.2, q.1)) es st' → Q .next st') :
    seqW (asgS (compW 8 (cbW (argS (cW (.int 5)) arg0) rangeW) (setW 8) (andB (cmW (icmpW fun i j => decide (j ≤ i)) (itW (locW 0) (locW 8)) (locW 5)) (cmW ltW (itW (locW 1) (locW 8)) (locW 2))) (tpW (argS (itW (locW 1) (locW 8)) (argS (locW 8) arg0)))) (setW 6))
  (seqW (asgS (biW addW (locW 3) (compW 8 (fzW (slW (cbW (argS (locW 6) arg0) sortW) oN (oS (cW (.int 1))))) (tupW [(setW 8), (setW 9)]) tT (tpW (argS (locW 9) (argS (locW 8) arg0))))) (setW 3))
  nilW) Q (st.set 5 (.int ((k + 1 : Nat) : Int))) := by
  have w5 := w.set (i := 5) (v := .int ((k + 1 : Nat) : Int)) (by decide)
  refine .inl ⟨_, rfl, ?_⟩
  refine ⟨_, items_range (n := 5) (by decide), by decide, ?_⟩
  refine comp_of (σ := st.σ) _ (fun h => decide (k + 1 ≤ ranks h) && decide (d y h < N)) (fun h => tv (pz (d y h, h))) _ [] _ (Sub.refl _) (fun h hh σ' hs' Z Z' hZ hZ' => ?_) fun σ1 s1 a1 h1 => ?_
  · have h5 := List.mem_range.mp hh
    refine ⟨_, w5.r0, _, rfl, _, rfl, get_fv h5 ⟨_, rfl, geN ?_⟩⟩
    by_cases c1 : k + 1 ≤ ranks h
    · rw [decide_eq_true c1] at hZ hZ' ⊢
      rw [Bool.true_and] at hZ hZ'
      refine ifF (fun _ => ⟨_, w5.r1, _, rfl, _, rfl, get_fv h5 ⟨_, w5.r2, ltN ?_⟩⟩) fun q => nomatch q
      refine ifP (fun hb => ?_) fun hb => hZ' hb _ (off_set (Nat.le_refl _)) hs'
      exact ⟨_, w5.r1, _, rfl, _, rfl, get_fv h5 ⟨_, rfl, by show 2 ≤ sizeLine; decide, hZ hb _ (off_set (Nat.le_refl _)) hs'⟩⟩
    · rw [decide_eq_false c1] at hZ' ⊢
      refine ifF (fun q => nomatch q) fun _ => ifP (fun q => nomatch q) fun _ => hZ' rfl _ (off_set (Nat.le_refl _)) hs'
  · rw [List.nil_append, show ((List.range 5).filter fun h => decide (k + 1 ≤ ranks h) && decide (d y h < N)) = cand d ranks N y k from rfl, ← hv_map]
    have hcl : (cand d ranks N y k).length ≤ 5 := List.length_filter_le _ _
    have s2 := sub_put (x := .list (hv ((cand d ranks N y k).map fun h => pz (d y h, h)))) s1 h1
    refine ⟨_, w5.r3, ?_⟩
    refine ⟨_, rfl, _, (cand d ranks N y k).map fun h => pz (d y h, h), 2, rfl, getL_ref upd_at, fun t m => by obtain ⟨h, _, rfl⟩ := List.mem_map.mp m; rfl, by decide, by rw [List.length_map]; omega, List.pairwise_map.mpr ((List.nodup_range.filter _).imp fun hne e => hne (pz_inj e)), fun us pm pw b hb => ?_⟩
    refine ⟨_, rfl, _, getL_ref put_at, by rw [List.length_map, pm.length_eq, List.length_map]; omega, fun c hc => ?_⟩
    rw [show pickV (us.map tv) none (some 1) = (nr k y).toList.map fun q => tv (pz q) from (pick_to (k := 1)).trans (by rw [← List.map_take, hN us pm pw, List.map_map]; rfl)]
    refine ⟨c, _, rfl, put_at, ?_⟩
    refine ⟨_, rfl, by rw [List.length_map]; exact Nat.le_trans opt_len (by decide), ?_⟩
    have s3 := sub_del (x := .list ((nr k y).toList.map fun q => tv (pz q))) (ρ := st.ρ) (sub_put (x := .list (us.map tv)) s2 hb) hc
    refine comp_map (σ := st.σ) _ (fun q : Pr => V.tuple [.int (q.2 : Nat), .int (q.1 : Nat)]) s3 (fun q _ σ' hs' Z hZ => ⟨_, rfl, rfl, all_pr ⟨_, rfl, _, rfl, by show 2 ≤ sizeLine; decide, hZ _ ((off_set (by decide)).set (by decide)) hs'⟩⟩) fun σ2 s4 a2 h2 => ?_
    rw [show ((nr k y).toList.map fun q : Pr => V.tuple [.int (q.2 : Nat), .int (q.1 : Nat)]) = prV ((nr k y).toList.map fun q => (q.2, q.1)) from by rw [prV, hv_map, List.map_map]; rfl]
    have s5 := sub_put (x := .list (prV ((nr k y).toList.map fun q => (q.2, q.1)))) s4 h2
    refine ⟨_, _, getL_ref (s5 _ _ w.sg), getL_ref upd_at, ?_, fun a3 h3 => ?_⟩
    · rw [hv_len, hv_len, List.length_map, List.length_map, List.length_map]
      have := opt_len (o := nr k y)
      unfold sizeLine; omega
    · rw [show prV gs ++ prV ((nr k y).toList.map fun q => (q.2, q.1)) = prV (gs ++ (nr k y).toList.map fun q => (q.2, q.1)) from by unfold prV hv; rw [List.map_append, List.map_append]]
      have hs : St.Sub σ _ := Sub.trans w.sub s5
      exact K _ a3 ⟨w.r0, w.r1, w.r2, rfl, w.r4, sub_put hs h3, ⟨sub_none hs h3, w.off.2⟩, (ne_of (s5 _ _ w.se) h3).symm, upd_at, keep1 (s5 _ _ w.se) h3⟩
/-- the least above -/
theorem en_min {d : Nat → Nat → Nat} {y h : Nat} {m : Int} (hm : m ∈ zs (N :: ((List.range 5).filter fun o => decide (ranks h < ranks o)).map (d y))) (hle : ∀ n ∈ zs (N :: ((List.range 5).filter fun o => decide (ranks h < ranks o)).map (d y)), m ≤ n) :
    ∃ k : Nat, m = k ∧ decide (d y h < k) = enB d ranks N y h := by
  obtain ⟨k, mk, rfl⟩ := List.mem_map.mp hm
  refine ⟨k, rfl, ?_⟩
  have le : ∀ n ∈ N :: ((List.range 5).filter fun o => decide (ranks h < ranks o)).map (d y), k ≤ n := fun n hn => Int.ofNat_le.mp (hle _ (List.mem_map_of_mem hn))
  have sub : ∀ o, o < 5 → ranks h < ranks o → d y o ∈ N :: ((List.range 5).filter fun o => decide (ranks h < ranks o)).map (d y) := fun o h5 hr => .tail _ (List.mem_map_of_mem (List.mem_filter.mpr ⟨List.mem_range.mpr h5, decide_eq_true hr⟩))
  rw [Bool.eq_iff_iff, decide_eq_true_iff, enB_iff]
  refine ⟨fun hl => ⟨Nat.lt_of_lt_of_le hl (le N (.head _)), fun o h5 hr => Nat.lt_of_lt_of_le hl (le _ (sub o h5 hr))⟩, fun ⟨h1, h2⟩ => ?_⟩
  rcases List.mem_cons.mp mk with rfl | mk
  · exact h1
  · obtain ⟨o, mo, rfl⟩ := List.mem_map.mp mk
    obtain ⟨m1, m2⟩ := List.mem_filter.mp mo
    exact h2 o (List.mem_range.mp m1) (of_decide_eq_true m2)
theorem enL_snoc {d : Nat → Nat → Nat} {y i : Nat} : ((List.range (i + 1)).filterMap fun h => if enB d ranks N y h = true then some (h, d y h) else none) = ((List.range i).filterMap fun h => if enB d ranks N y h = true then some (h, d y h) else none) ++ (if enB d ranks N y i = true then [(i, d y i)] else []) := by
  rw [List.range_succ, List.filterMap_append]
  congr 1
  by_cases h : enB d ranks N y i = true
  · rw [List.filterMap_cons, if_pos h, if_pos h]; rfl
  · rw [List.filterMap_cons, if_neg h, if_neg h]; rfl
theorem c_due {W : Wd} (G : GW W) {j : Nat} {d : Nat → Nat → Nat} {y : Nat} {nr : Nat → Near} {Q : V → St → Prop} (hN : ∀ k, k < 2 → ∀ us : List (List Int), us.Perm ((cand d ranks N y k).map fun h => pz (d y h, h)) → us.Pairwise leL → us.take 1 = (nr k y).toList.map pz)
    (q : ∀ g e, g ≠ e → σ g = none → σ e = none → Q (.tuple [.ref g, .ref e]) (upd (upd σ g (.list (prV (glL nr y)))) e (.list (prV (enL d ranks N y))))) : CallOK W (j + 1) 195 [.list (nums ranks), .list (nums (d y)), .int (N : Nat)] [] Q σ := by
  refine cS__law_due G rfl ?_
  unfold tS__law_due
  intro g0 hg0 e0 he0
  have hg0' : σ g0 = none := hg0
  have he0' : upd σ g0 (.list []) e0 = none := he0
  refine ⟨by show 2 ≤ sizeLine; decide, _, rfl, rfl, ?_⟩
  have ne0 : g0 ≠ e0 := ne_of upd_at he0'
  have w0 : ∀ ρ : Nat → Option V, ρ 0 = some (.list (nums ranks)) → ρ 1 = some (.list (nums (d y))) → ρ 2 = some (.int (N : Nat)) → ρ 3 = some (.ref g0) → ρ 4 = some (.ref e0) → DW σ ranks (d y) N g0 e0 [] [] ⟨upd (upd σ g0 (.list [])) e0 (.list []), ρ⟩ := fun ρ h0 h1 h2 h3 h4 =>
    ⟨h0, h1, h2, h3, h4, sub_put (sub_put (Sub.refl σ) hg0') he0', ⟨hg0', (upd_ne ne0.symm).symm.trans he0'⟩, ne0, keep1 upd_at he0', upd_at⟩
  refine .inr ⟨_, _, rfl, ?_⟩
  refine ⟨_, items13, ?_⟩
  refine d_one (k := 0) (hN 0 (by decide)) (w0 _ rfl rfl rfl rfl rfl) (Nat.zero_le _) fun st1 g1 w1 => ?_
  refine d_one (k := 1) (hN 1 (by decide)) w1 (by rw [List.nil_append, List.length_map]; exact Nat.le_trans opt_len (by decide)) fun st g w => ?_
  have eg : ([] ++ (nr 0 y).toList.map fun q => (q.2, q.1)) ++ ((nr 1 y).toList.map fun q => (q.2, q.1)) = glL nr y := by
    unfold glL
    rw [show List.range 2 = [0, 1] from rfl, List.filterMap_cons, List.filterMap_cons, List.filterMap_nil]
    cases nr 0 y <;> cases nr 1 y <;> rfl
  rw [eg] at w
  refine .inl ⟨_, rfl, ?_⟩
  refine ⟨_, items_range (n := 5) (by decide), ?_⟩
  refine for_range (fun i st => DW σ ranks (d y) N g e0 (glL nr y) ((List.range i).filterMap fun h => if enB d ranks N y h = true then some (h, d y h) else none) st) (fun i st hi w Z hZ => ?_) (fun st w => ?_) w
  · have w7 := w.set (i := 7) (v := .int (i : Nat)) (by decide)
    refine ⟨_, w7.r1, _, rfl, _, rfl, get_fv hi ⟨_, w7.r2, by show 1 ≤ sizeLine; decide, fun a ha => .inl ⟨_, rfl, ?_⟩⟩⟩
    refine ⟨_, items_range (n := 5) (by decide), by decide, ?_⟩
    have k7 := w7.more (sub_upd (x := .list [.int (N : Nat)]) ha)
    have ka : upd (st.set 7 (.int (i : Nat))).σ a (.list [.int (N : Nat)]) a = some (.list [.int (N : Nat)]) := upd_at
    refine comp_of (σ := upd (st.set 7 (.int (i : Nat))).σ a (.list [.int (N : Nat)])) _ (fun o => decide (ranks i < ranks o)) (fun o => .int (d y o : Nat)) _ [] _ (Sub.refl _) (fun o ho σ' hs' Z1 Z1' hZ1 hZ1' => ?_) fun σ1 s1 a1 h1 => ?_
    · have h5 := List.mem_range.mp ho
      refine ⟨_, k7.r0, _, rfl, _, rfl, get_fv h5 ⟨_, k7.r0, _, rfl, _, rfl, get_fv hi (gtN (ifP (fun hb => ?_) fun hb => hZ1' hb _ (off_set (Nat.le_refl _)) hs'))⟩⟩
      exact ⟨_, k7.r1, _, rfl, _, rfl, get_fv h5 (hZ1 hb _ (off_set (Nat.le_refl _)) hs')⟩
    · rw [List.nil_append]
      have hfl : (((List.range 5).filter fun o => decide (ranks i < ranks o)).map fun o => V.int (d y o : Nat)).length ≤ 5 := by rw [List.length_map]; exact List.length_filter_le _ _
      have s2 := sub_put (x := .list (((List.range 5).filter fun o => decide (ranks i < ranks o)).map fun o => V.int (d y o : Nat))) s1 h1
      refine ⟨_, _, getL_ref (s2 _ _ ka), getL_ref upd_at, by show 1 + _ ≤ sizeLine; unfold sizeLine; omega, fun a2 h2 => ?_⟩
      have s3 := sub_put (x := .list ([V.int (N : Nat)] ++ ((List.range 5).filter fun o => decide (ranks i < ranks o)).map fun o => V.int (d y o : Nat))) s2 h2
      have e3 : [V.int (N : Nat)] ++ (((List.range 5).filter fun o => decide (ranks i < ranks o)).map fun o => V.int (d y o : Nat)) = iv (zs (N :: ((List.range 5).filter fun o => decide (ranks i < ranks o)).map (d y))) := by
        rw [zs, iv_map, List.map_cons, List.map_map]; rfl
      refine ⟨_, _, zs (N :: ((List.range 5).filter fun o => decide (ranks i < ranks o)).map (d y)), rfl, getL_ref put_at, by rw [e3]; exact intsOf_iv _, List.cons_ne_nil _ _, fun m hm hle => ?_⟩
      obtain ⟨k, rfl, hk⟩ := en_min hm hle
      have w9 := w7.more (Sub.trans (sub_upd (x := .list [.int (N : Nat)]) ha) s3)
      refine ltN ?_
      rw [hk]
      rw [enL_snoc] at hZ
      refine ifF (fun hb => ?_) (fun hb => ?_)
      · rw [if_pos hb] at hZ
        refine ⟨_, w9.r4, _, getL_ref w9.se, _, rfl, _, w9.r1, _, rfl, _, rfl, get_fv hi ⟨by show 2 ≤ sizeLine; decide, _, _, _, rfl, rfl, w9.se, ?_, ?_⟩⟩
        · rw [hv_len, List.length_map]
          exact Nat.le_trans (List.length_filterMap_le _ _) (by rw [List.length_range]; omega)
        · refine hZ _ { w9 with sub := sub_off w9.sub w9.off.2, sg := (put_ne w9.ap).trans w9.sg, se := put_at.trans ?_ }
          unfold prV hv; rw [List.map_append, List.map_append]; rfl
      · rw [if_neg (by rw [hb]; exact Bool.false_ne_true), List.append_nil] at hZ
        exact hZ _ w9
  · refine ⟨_, w.r3, _, w.r4, by show 2 ≤ sizeLine; decide, _, ?_, q g e0 w.ap w.off.1 w.off.2⟩
    exact sub_at (sub_at w.sub w.sg) w.se
end Mine

namespace Mine
open PySem PySem.W PyProof.Rows PySem.Calls

/-! ### _law_labels: the latter part -/
def adj1 (es : List Tri3) (p : Nat) : List Pr := (es.filter fun e => e.1 == p).map fun e => (e.2.1, e.2.2)
def adj2 (es : List Tri3) (p : Nat) : List Pr := (es.filter fun e => e.2.1 == p).map fun e => (e.1, e.2.2)
abbrev adjF (es : List Tri3) (p : Nat) : List Pr := adj1 es p ++ adj2 es p
theorem adj_cov {es : List Tri3} {p y s : Nat} (h : Ed es p y s) : (y, s) ∈ adjF es p := by
  rcases h with h | h
  · exact List.mem_append.mpr (.inl (List.mem_map.mpr ⟨_, List.mem_filter.mpr ⟨h, beq_self_eq_true p⟩, rfl⟩))
  · exact List.mem_append.mpr (.inr (List.mem_map.mpr ⟨_, List.mem_filter.mpr ⟨h, beq_self_eq_true p⟩, rfl⟩))
theorem adj_ed {es : List Tri3} {p : Nat} {q : Pr} (h : q ∈ adjF es p) : Ed es p q.1 q.2 := by
  rcases List.mem_append.mp h with h | h
  · obtain ⟨e, m, rfl⟩ := List.mem_map.mp h
    obtain ⟨m, b⟩ := List.mem_filter.mp m
    rw [← beq_iff_eq.mp b]; exact .inl m
  · obtain ⟨e, m, rfl⟩ := List.mem_map.mp h
    obtain ⟨m, b⟩ := List.mem_filter.mp m
    rw [← beq_iff_eq.mp b]; exact .inr m
theorem adj_len {es : List Tri3} (h : es.length ≤ 50) (p : Nat) : (adjF es p).length ≤ 100 := by
  unfold adjF adj1 adj2
  rw [List.length_append, List.length_map, List.length_map]
  exact Nat.add_le_add (Nat.le_trans (List.length_filter_le _ _) h) (Nat.le_trans (List.length_filter_le _ _) h)
abbrev textV (l : Nat → List Pr) : List V := five fun p => .bytes (encG (rowO (l p)))
def setR (l : Nat → List Pr) (p : Nat) (r : List Pr) : Nat → List Pr := fun q => if q = p then r else l q
def upto (i : Nat) (f f' : Nat → List Pr) : Nat → List Pr := fun y => if y < i then f y else f' y
theorem setR_at {l : Nat → List Pr} {p : Nat} {r : List Pr} : setR l p r p = r := if_pos rfl
theorem setR_self {l : Nat → List Pr} {p : Nat} : setR l p (l p) = l := funext fun q => by unfold setR; split <;> first | (next e => rw [e]) | rfl
theorem setR_setR {l : Nat → List Pr} {p : Nat} {r r' : List Pr} : setR (setR l p r) p r' = setR l p r' := funext fun q => by unfold setR; split <;> rfl
theorem upto_at {i : Nat} {f f' : Nat → List Pr} : upto i f f' i = f' i := if_neg (Nat.lt_irrefl i)
theorem upto_zero {f f' : Nat → List Pr} : upto 0 f f' = f' := funext fun y => if_neg (Nat.not_lt_zero y)
theorem upto_set {i : Nat} {f f' : Nat → List Pr} : setR (upto i f f') i (f i) = upto (i + 1) f f' := funext fun y => by
  unfold setR upto
  by_cases e : y = i
  · rw [if_pos e, e, if_pos (Nat.lt_succ_self i)]
  · rw [if_neg e]
    by_cases h : y < i
    · rw [if_pos h, if_pos (Nat.lt_succ_of_lt h)]
    · rw [if_neg h, if_neg (by omega)]
abbrev grow (l : Nat → List Pr) (p : Nat) (x : Pr) : Nat → List Pr := setR l p (l p ++ [x])
theorem textV_end {f f' : Nat → List Pr} : textV (upto 5 f f') = textV f := five_congr fun p hp => by unfold upto; rw [if_pos hp]
structure LB (σ1 : St) (ρ₀ : Nat → Option V) (es : List Tri3) (ranks : Nat → Nat) (nn g e : Addr) (gl en : Nat → List Pr) (st : S) : Prop where
  r0 : st.ρ 0 = some (.list (nums ranks))
  r2 : st.ρ 2 = some (stepV (adjF es))
  r7 : st.ρ 7 = some (.ref nn)
  r8 : st.ρ 8 = some (.ref g)
  r9 : st.ρ 9 = some (.ref e)
  keep : ∀ i, 14 ≤ i → i < 14 + 6 → st.ρ i = ρ₀ i
  sub : St.Sub σ1 st.σ
  off : σ1 g = none ∧ σ1 e = none
  ap : g ≠ e
  sg : st.σ g = some (.list (textV gl))
  se : st.σ e = some (.list (textV en))
variable {σ σ1 : St} {ρ₀ : Nat → Option V} {es : List Tri3} {ranks : Nat → Nat} {nn g e : Addr} {gl en : Nat → List Pr} {st : S} {nr : Nat → Near} {b : Nat → Addr}
theorem LB.set (h : LB σ1 ρ₀ es ranks nn g e gl en st) {i : Nat} {v : V} (hi : 10 ≤ i) (hi' : i < 14) : LB σ1 ρ₀ es ranks nn g e gl en (st.set i v) :=
  have off : ∀ k, k < 10 → (st.set i v).ρ k = st.ρ k := fun k hk => if_neg (Nat.ne_of_lt (Nat.lt_of_lt_of_le hk hi))
  { h with r0 := (off 0 (by decide)).trans h.r0, r2 := (off 2 (by decide)).trans h.r2, r7 := (off 7 (by decide)).trans h.r7, r8 := (off 8 (by decide)).trans h.r8, r9 := (off 9 (by decide)).trans h.r9, keep := fun k hk hk' => (if_neg (Nat.ne_of_gt (Nat.lt_of_lt_of_le hi' hk))).trans (h.keep k hk hk') }
theorem LB.more (h : LB σ1 ρ₀ es ranks nn g e gl en st) {τ : St} (hs : St.Sub st.σ τ) : LB σ1 ρ₀ es ranks nn g e gl en ⟨τ, st.ρ⟩ :=
  { h with sub := Sub.trans h.sub hs, sg := hs _ _ h.sg, se := hs _ _ h.se }
theorem LB.putG (h : LB σ1 ρ₀ es ranks nn g e gl en st) (l : Nat → List Pr) : LB σ1 ρ₀ es ranks nn g e l en (st.put g (.list (textV l))) :=
  { h with sub := sub_off h.sub h.off.1, sg := put_at, se := (put_ne h.ap.symm).trans h.se }
theorem LB.putE (h : LB σ1 ρ₀ es ranks nn g e gl en st) (l : Nat → List Pr) : LB σ1 ρ₀ es ranks nn g e gl l (st.put e (.list (textV l))) :=
  { h with sub := sub_off h.sub h.off.2, sg := (put_ne h.ap).trans h.sg, se := put_at }
/-- a label grows by an entry -/
theorem l_text {W : Wd} (G : GW W) {j v p : Nat} {a : Addr} {l : Nat → List Pr} {x : Pr} {X : PV} {Q : Fl → S → Prop} (hv : st.ρ v = some (.ref a)) (ha : st.σ a = some (.list (textV l))) (hp : p < 5) (h10 : st.ρ 10 = some (.int (x.1 : Nat))) (h12 : st.ρ 12 = some (.int (p : Nat))) (hX : ∀ Q : V → S → Prop, Q (.int (x.2 : Nat)) st → X Q st)
    (hx : GoodP x) (hg : ∀ t ∈ l p, GoodP t) (hl : (l p).length ≤ 10) (K : Q .next (st.put a (.list (textV (grow l p x))))) :
    putS (biW addW (itW (locW v) (locW 12)) (cbW (argS (locW 10) (argS X arg0)) (callW W (j + 4) 163))) (locW v) (locW 12) Q st := by
  refine ⟨_, hv, _, h12, _, rfl, get_rf ha hp ⟨_, h10, hX _ (c_entry (j := j) G hx ⟨?_, ?_⟩)⟩⟩
  · have h1 := encG_len (bs := rowO (l p))
    have h2 := encG_len (bs := entO x)
    have h3 := row_len hg
    have h4 := ent_len hx
    omega
  · refine ⟨_, hv, _, h12, put_rf ha hp ?_⟩
    rw [row_app]
    rw [show textV (grow l p x) = five (fun q => if q = p then .bytes (encG (rowO (l p ++ [x]))) else .bytes (encG (rowO (l q)))) from five_congr fun q _ => by unfold grow setR; split <;> rfl] at K
    exact K
end Mine

namespace Mine
open PySem PySem.W PyProof.Rows PySem.Calls

variable {σ σ1 : St} {ρ₀ : Nat → Option V} {es : List Tri3} {ranks : Nat → Nat} {nn g e : Addr} {gl en : Nat → List Pr} {st : S} {nr : Nat → Near} {b : Nat → Addr} {d : Nat → Nat → Nat}
def enU (d : Nat → Nat → Nat) (ranks : Nat → Nat) (N h y : Nat) : List Pr := (List.range h).filterMap fun w => if enB d ranks N y w = true then some (w, d y w) else none
theorem enU_mem {N h y : Nat} {t : Pr} (m : t ∈ enU d ranks N h y) : t.1 < h ∧ t.2 < N := by
  obtain ⟨w, mw, e⟩ := List.mem_filterMap.mp m
  split at e
  · next k => cases e; exact ⟨List.mem_range.mp mw, (enB_iff.mp k).1⟩
  · cases e
theorem enU_len {N h y : Nat} : (enU d ranks N h y).length ≤ h := Nat.le_trans (List.length_filterMap_le _ _) (Nat.le_of_eq List.length_range)
/-- what the searches have left in the store -/
structure NB (σ1 : St) (nn : Addr) (b : Nat → Addr) (nr : Nat → Near) : Prop where
  nn : σ1 nn = some (.list ((List.range 3).map fun k => .ref (b k)))
  at_ : ∀ k, k < 3 → σ1 (b k) = some (.list (nearV (nr k)))
theorem l_near {T U : PV} {k : Nat} (NN : NB σ1 nn b nr) (hs : St.Sub σ1 st.σ) (hk : k < 3) (h7 : st.ρ 7 = some (.ref nn)) (hT : ∀ Q : V → S → Prop, Q (.int (k : Nat)) st → T Q st) {Q : V → S → Prop} (q : Q (.ref (b k)) st) : itW (locW 7) T Q st :=
  ⟨_, h7, hT _ ⟨_, rfl, getW_list (hs _ _ NN.nn) (by rw [List.getElem?_map, List.getElem?_range hk]; rfl) (by omega) q⟩⟩
abbrev plB (W : Wd) (j : Nat) : PF := (seqW (ifS (cmW neW (itW (locW 11) (locW 12)) (cW (.tuple []))) (seqW (putS (biW addW (itW (locW 9) (locW 12)) (cbW (argS (locW 10) (argS (itW (itW (locW 11) (locW 12)) (cW (.int 0))) arg0)) (callW W j 163))) (locW 9) (locW 12))
  nilW) nilW)
  nilW)
/-- a hub's entries -/
theorem l_places {W : Wd} (G : GW W) {j h : Nat} {rc : Near} {ra : Addr} {Q : Fl → S → Prop} (B : Lab es d ranks nr) (hN : tot es < 99000) (h5 : h < 5) (F : Found es [h] (nr (ranks h)) rc) (h10 : st.ρ 10 = some (.int (h : Nat))) (h11 : st.ρ 11 = some (.ref ra)) (hra : st.σ ra = some (.list (nearV rc))) (hne : ra ≠ e)
    (w : LB σ1 ρ₀ es ranks nn g e gl (enU d ranks (1 + tot es) h) st) (K : ∀ st', LB σ1 ρ₀ es ranks nn g e gl (enU d ranks (1 + tot es) (h + 1)) st' → Q .next st') : forL (setW 12) (plB W (j + 4)) Q ((List.range 5).map fun (i : Nat) => V.int i) st := by
  refine for_range (fun i st => LB σ1 ρ₀ es ranks nn g e gl (upto i (enU d ranks (1 + tot es) (h + 1)) (enU d ranks (1 + tot es) h)) st ∧ st.ρ 10 = some (.int (h : Nat)) ∧ st.ρ 11 = some (.ref ra) ∧ st.σ ra = some (.list (nearV rc))) (fun i st hi ⟨w, h10, h11, hra⟩ Z hZ => ?_) (fun st ⟨w, _⟩ => K st { w with se := w.se.trans (congrArg (fun l => some (AO.list l)) textV_end) }) ⟨by rw [upto_zero]; exact w, h10, h11, hra⟩
  have w1 := w.set (i := 12) (v := .int (i : Nat)) (by decide) (by decide)
  have er := B.en_rc h5 hi F
  have en' : enU d ranks (1 + tot es) (h + 1) i = enU d ranks (1 + tot es) h i ++ (if enB d ranks (1 + tot es) i h = true then [(h, d i h)] else []) := enL_snoc
  refine ⟨_, h11, _, rfl, _, rfl, get_rf hra hi (nd_ne (ifF (fun hb => ?_) fun hb => ?_))⟩
  · cases hq : rc i with
    | none => rw [hq] at hb; cases hb
    | some q =>
      have eb : enB d ranks (1 + tot es) i h = true := by
        cases z : enB d ranks (1 + tot es) i h with
        | true => rfl
        | false => rw [hq, z] at er; cases er
      have e1 : q.1 = d i h := by rw [hq, eb] at er; injection er with er; injection er
      refine l_text G (j := j) (v := 9) (a := e) (x := (h, q.1)) w1.r9 w1.se hi h10 rfl (fun Q k => ⟨_, h11, _, rfl, _, rfl, get_rf hra hi ⟨_, rfl, by rw [hq]; exact get_tup (k := 0) rfl (by decide) k⟩⟩) ?_ ?_ ?_ ?_
      · exact ⟨h5, by show q.1 < _; rw [e1]; have := (enB_iff.mp eb).1; omega⟩
      · rw [upto_at]; exact fun t m => ⟨Nat.lt_trans (enU_mem m).1 h5, by have := (enU_mem m).2; omega⟩
      · rw [upto_at]; exact Nat.le_trans enU_len (by omega)
      · rw [grow, upto_at, e1, show enU d ranks (1 + tot es) h i ++ [(h, d i h)] = enU d ranks (1 + tot es) (h + 1) i from by rw [en', if_pos eb], upto_set]
        exact hZ _ ⟨w1.putE _, h10, h11, (put_ne hne).trans hra⟩
  · have hq : rc i = none := by cases z : rc i with | none => rfl | some q => rw [z] at hb; cases hb
    have eb : ¬ enB d ranks (1 + tot es) i h = true := fun z => by rw [hq, if_pos z] at er; cases er
    rw [if_neg eb, List.append_nil] at en'
    have ef : upto i (enU d ranks (1 + tot es) (h + 1)) (enU d ranks (1 + tot es) h) = upto (i + 1) (enU d ranks (1 + tot es) (h + 1)) (enU d ranks (1 + tot es) h) := by
      have z := setR_self (l := upto i (enU d ranks (1 + tot es) (h + 1)) (enU d ranks (1 + tot es) h)) (p := i)
      rw [upto_at] at z
      rw [← upto_set, en', z]
    rw [ef] at w1
    exact hZ _ ⟨w1, h10, h11, hra⟩
theorem l_hubs {W : Wd} (G : GW W) {j : Nat} {Q : Fl → S → Prop} (B : Lab es d ranks nr) (hg : ∀ e ∈ es, GoodT e) (hl : es.length ≤ 50) (hN : tot es < 99000) (NN : NB σ1 nn b nr)
    (w : LB σ1 ρ₀ es ranks nn g e gl (fun _ => []) st) (K : ∀ st', LB σ1 ρ₀ es ranks nn g e gl (enL d ranks (1 + tot es)) st' → Q .next st') :
    forL (setW 10) (seqW (asgS (cbW (argS (locW 2) (argS (fzW (lsW (argS (locW 10) arg0))) (argS (itW (locW 7) (itW (locW 0) (locW 10))) arg0))) (callW W (j + 4) 175)) (setW 11))
  (seqW (forW (cbW (argS (cW (.int 5)) arg0) rangeW) (setW 12) (plB W (j + 4)))
  nilW)) Q ((List.range 5).map fun (i : Nat) => V.int i) st := by
  refine for_range (fun h st => LB σ1 ρ₀ es ranks nn g e gl (enU d ranks (1 + tot es) h) st) (fun h st h5 w Z hZ => ?_) (fun st w => K st w) w
  have w1 := w.set (i := 10) (v := .int (h : Nat)) (by decide) (by decide)
  have hr := B.rank h h5
  refine ⟨_, w1.r2, _, rfl, by show 1 ≤ sizeLine; decide, fun a ha => ⟨a, _, rfl, put_at, ?_⟩⟩
  have s2 := sub_del (x := .list [.int (h : Nat)]) (ρ := fun _ => none) (Sub.refl (st.set 10 (.int (h : Nat))).σ) ha
  have w2 := w1.more s2
  refine l_near (T := itW (locW 0) (locW 10)) (U := noV) (k := ranks h) NN w2.sub hr w2.r7 (fun Q q => ⟨_, w2.r0, _, rfl, _, rfl, get_fv h5 q⟩) ?_
  refine c_search (es := es) (hubs := [h]) (bnd := nr (ranks h)) (bn := b (ranks h)) (adj := adjF es) (j := j) G ⟨fun x _ y s => adj_cov, fun x _ p m => ⟨adj_ed m, B.dist.ends _ _ _ (adj_ed m)⟩, adj_len hl, w2.sub _ _ (NN.at_ _ hr), (B.nears hr).lip⟩ (fun x m => by rw [List.mem_singleton.mp m]; exact h5) (by show 1 ≤ 5; decide) fun ra rc hra F => ?_
  have w3 := w2.more (sub_upd (x := .list (nearV rc)) hra)
  refine .inl ⟨_, rfl, ?_⟩
  refine ⟨_, items_range (n := 5) (by decide), ?_⟩
  exact l_places G (j := j) B hN h5 F rfl rfl upd_at (ne_of w2.se hra).symm (w3.set (i := 11) (v := .ref ra) (by decide) (by decide)) hZ
abbrev qsN (nr : Nat → Near) (p : Nat) : List Pr := (List.range 2).filterMap fun k => nr k p
theorem near_list {p : Nat} : ∀ l : List Nat, (l.filter fun k => !(nr k p).isNone).map (fun k => ndV (nr k p)) = (l.filterMap fun k => nr k p).map fun q => tv (pz q)
  | [] => rfl
  | k :: l => by
    rw [List.filter_cons, List.filterMap_cons]
    cases h : nr k p with
    | none => exact near_list l
    | some q => show ndV (nr k p) :: _ = _; rw [h, near_list l]; rfl
theorem gl_qs {p : Nat} : glL nr p = (qsN nr p).map fun q => (q.2, q.1) := by
  unfold glL qsN
  rw [show List.range 2 = [0, 1] from rfl, List.filterMap_cons, List.filterMap_cons, List.filterMap_nil, List.filterMap_cons, List.filterMap_cons, List.filterMap_nil]
  cases nr 0 p <;> cases nr 1 p <;> rfl
theorem l_guides {W : Wd} (G : GW W) {j : Nat} {Q : Fl → S → Prop} (B : Lab es d ranks nr) (hN : tot es < 99000) (NN : NB σ1 nn b nr)
    (w : LB σ1 ρ₀ es ranks nn g e (fun _ => []) en st) (K : ∀ st', LB σ1 ρ₀ es ranks nn g e (glL nr) en st' → Q .next st') :
    forL (setW 12) (seqW (forW (fzW (compW 20 (cbW (argS (cW (.int 2)) arg0) rangeW) (setW 20) (cmW neW (itW (itW (locW 7) (locW 20)) (locW 12)) (cW (.tuple []))) (itW (itW (locW 7) (locW 20)) (locW 12)))) (tupW [(setW 13), (setW 10)]) (seqW (putS (biW addW (itW (locW 8) (locW 12)) (cbW (argS (locW 10) (argS (locW 13) arg0)) (callW W (j + 4) 163))) (locW 8) (locW 12))
  nilW))
  nilW) Q ((List.range 5).map fun (i : Nat) => V.int i) st := by
  refine for_range (fun i st => LB σ1 ρ₀ es ranks nn g e (upto i (glL nr) fun _ => []) en st) (fun i st hi w Z hZ => ?_) (fun st w => K st { w with sg := w.sg.trans (congrArg (fun l => some (AO.list l)) textV_end) }) (by rw [upto_zero]; exact w)
  · have w1 := w.set (i := 12) (v := .int (i : Nat)) (by decide) (by decide)
    refine .inl ⟨_, rfl, ?_⟩
    refine ⟨_, items_range (n := 2) (by decide), by decide, ?_⟩
    refine comp_of (σ := st.σ) _ (fun k => !(nr k i).isNone) (fun k => ndV (nr k i)) _ [] _ (Sub.refl _) (fun k hk σ' hs' Z1 Z1' hZ1 hZ1' => ?_) fun σ' hs' a ha => ⟨a, _, rfl, upd_at, _, rfl, ?_⟩
    · have hk2 := List.mem_range.mp hk
      have nat : ∀ Q : V → S → Prop, Q (ndV (nr k i)) (S.set ⟨σ', cutρ 20 (st.set 12 (.int (i : Nat))).ρ⟩ 20 (.int (k : Nat))) → itW (itW (locW 7) (locW 20)) (locW 12) Q (S.set ⟨σ', cutρ 20 (st.set 12 (.int (i : Nat))).ρ⟩ 20 (.int (k : Nat))) := fun Q q => by
        refine l_near (st := S.set ⟨σ', cutρ 20 (st.set 12 (.int (i : Nat))).ρ⟩ 20 (.int (k : Nat))) (T := locW 20) (U := noV) (k := k) NN (Sub.trans w.sub hs') (by omega) w1.r7 (fun Q q => ⟨_, rfl, q⟩) ?_
        exact ⟨_, rfl, _, rfl, get_rf (hs' _ _ (w.sub _ _ (NN.at_ k (by omega)))) hi q⟩
      exact nat _ (nd_ne (ifP (fun hb => nat _ (hZ1 hb _ (off_set (Nat.le_refl _)) hs')) fun hb => hZ1' hb _ (off_set (Nat.le_refl _)) hs'))
    · rw [List.nil_append, near_list]
      have w2 := w1.more (sub_del (x := .list ((qsN nr i).map fun q => tv (pz q))) (ρ := fun _ => none) hs' ha)
      refine for_inv (fun rem st => ∃ done rest, rem = rest.map (fun q => tv (pz q)) ∧ qsN nr i = done ++ rest ∧ LB σ1 ρ₀ es ranks nn g e (setR (upto i (glL nr) fun _ => []) i (done.map fun q => (q.2, q.1))) en st ∧ st.ρ 12 = some (.int (i : Nat))) ?_ ?_ _ _ ⟨[], qsN nr i, rfl, rfl, by rw [show ([] : List Pr).map (fun q => (q.2, q.1)) = upto i (glL nr) (fun _ => []) i from (upto_at (f := glL nr) (f' := fun _ => []) (i := i)).symm, setR_self]; exact w2, rfl⟩
      · rintro x rm st ⟨done, rest, hrm, hq, w, h12⟩ Z1 hZ1
        cases rest with
        | nil => cases hrm
        | cons q rest =>
          cases hrm
          have good : ∀ q ∈ qsN nr i, GoodP (q.2, q.1) := fun q m => by
            obtain ⟨k, mk, ek⟩ := List.mem_filterMap.mp m
            obtain ⟨m', h1, h2, _⟩ := near_some B.dist (B.near k (List.mem_range.mp mk)) Lab.hub5 hi (show nr k i = some (q.1, q.2) from ek)
            exact ⟨(mem_hubs.mp m').1, by show q.1 < _; rw [h1]; omega⟩
          have hlen : (qsN nr i).length ≤ 2 := List.length_filterMap_le _ _
          rw [hq, List.length_append, List.length_cons] at hlen
          have w3 := (w.set (i := 13) (v := .int (q.1 : Nat)) (by decide) (by decide)).set (i := 10) (v := .int (q.2 : Nat)) (by decide) (by decide)
          refine ⟨_, rfl, rfl, all_pr (l_text G (j := j) (X := locW 13) (v := 8) (a := g) (x := (q.2, q.1)) w3.r8 w3.sg hi rfl h12 (fun Q k => ⟨_, rfl, k⟩) (good q (by rw [hq]; exact List.mem_append.mpr (.inr (.head _)))) ?_ ?_ ?_)⟩
          · rw [setR_at]
            intro t m
            obtain ⟨q', m', rfl⟩ := List.mem_map.mp m
            exact good q' (by rw [hq]; exact List.mem_append.mpr (.inl m'))
          · rw [setR_at, List.length_map]; omega
          · rw [grow, setR_at, setR_setR, show (done.map fun q => (q.2, q.1)) ++ [(q.2, q.1)] = (done ++ [q]).map fun q => (q.2, q.1) from by rw [List.map_append]; rfl]
            exact hZ1 _ ⟨done ++ [q], rest, rfl, by rw [hq, List.append_assoc]; rfl, w3.putG _, h12⟩
      · rintro st ⟨done, rest, hrm, hq, w, h12⟩
        cases rest with
        | cons q rest => cases hrm
        | nil =>
          rw [List.append_nil] at hq
          rw [← hq, ← gl_qs, upto_set] at w
          exact hZ st w
end Mine

namespace Mine
open PySem PySem.W PyProof.Rows PySem.Calls

variable {σ σ1 : St} {ρ₀ : Nat → Option V} {es : List Tri3} {ranks : Nat → Nat} {nn g e : Addr} {gl en : Nat → List Pr} {st : S} {nr : Nat → Near} {b : Nat → Addr} {d : Nat → Nat → Nat}
/-- what a label comes to -/
theorem l_labels {W : Wd} (G : GW W) {j : Nat} {outer : List Env} {l : Nat → List Pr} {ρ : Nat → Option V} {K : List V → St → Prop} {σ' : St} (hs : St.Sub σ σ') (hg : ∀ p, p < 5 → (∀ t ∈ l p, GoodP t) ∧ (l p).length ≤ 100) (q : ∀ σ', St.Sub σ σ' → K (five fun p => .list (prV (l p))) σ') :
    compL 20 (setW 20) tT (fzW (cbW (argS (locW 20) arg0) (callRW W (j + 4) 170 outer))) ρ K (textV l) [] σ' :=
  comp_map (σ := σ) (fun p => V.bytes (encG (rowO (l p)))) (fun p => .list (prV (l p))) (xs := List.range 5) hs (fun p hp σ' hs' Z hZ => ⟨_, rfl, c_label G (hg p (List.mem_range.mp hp)).1 (hg p (List.mem_range.mp hp)).2 fun d hd => ⟨d, _, rfl, upd_at, hZ _ (off_set (Nat.le_refl _)) (sub_del (ρ := ρ) hs' hd)⟩⟩) q
theorem sub_two {σ1 τ : St} {g e : Addr} {τ' : St} (hs : St.Sub σ1 τ) (hg : σ1 g = none) (he : σ1 e = none) (h : ∀ b, b ≠ g → b ≠ e → τ' b = τ b) : St.Sub σ1 τ' := fun b x k => (h b (ne_of k hg) (ne_of k he)).trans (hs b x k)
theorem l_end {W : Wd} (G : GW W) {j : Nat} {L : Addr} {e0 : Env} {Q : V → St → Prop} (B : Lab es d ranks nr) (hN : tot es < 99000) (w : LB σ1 ρ₀ es ranks nn g e (glL nr) (enL d ranks (1 + tot es)) st) (hs : St.Sub σ σ1)
    (q : ∀ a b, a ≠ b → σ a = none → σ b = none → Q (.tuple [.ref a, .ref b]) (upd (upd σ a (.list (five fun p => .list (prV (glL nr p))))) b (.list (five fun p => .list (prV (enL d ranks (1 + tot es) p)))))) :
    (fzV 8 (fzV 9 (seqW (retS (tpW (argS (compW 20 (locW 8) (setW 20) tT (fzW (cbW (argS (locW 20) arg0) (callRW W (j + 4) 170 [envC fd__law_labels L 180, e0])))) (argS (compW 20 (locW 9) (setW 20) tT (fzW (cbW (argS (locW 20) arg0) (callRW W (j + 4) 170 [envC fd__law_labels L 180, e0])))) arg0))))
  nilW))) (retN 14 6 ρ₀ Q) st := by
  refine ⟨g, _, w.r8, w.sg, e, _, w.r9, (if_neg w.ap.symm).trans w.se, ?_⟩
  have s1 : St.Sub σ (S.del (S.set (S.del st g) 8 (.list (textV (glL nr)))) e).σ := Sub.trans hs (sub_two w.sub w.off.1 w.off.2 fun b h1 h2 => (if_neg h2).trans (if_neg h1))
  refine ⟨_, rfl, _, rfl, by show 5 ≤ sizeLine; decide, ?_⟩
  refine l_labels (σ := σ) G s1 (fun p hp => ⟨fun t m => ?_, ?_⟩) fun σ2 s2 a ha => ?_
  · rw [gl_qs] at m
    obtain ⟨q', m', rfl⟩ := List.mem_map.mp m
    obtain ⟨k, mk, ek⟩ := List.mem_filterMap.mp m'
    obtain ⟨m'', h1, h2, _⟩ := near_some B.dist (B.near k (List.mem_range.mp mk)) Lab.hub5 hp (show nr k p = some (q'.1, q'.2) from ek)
    exact ⟨(mem_hubs.mp m'').1, by show q'.1 < _; rw [h1]; omega⟩
  · exact Nat.le_trans (List.length_filterMap_le _ _) (by decide)
  · refine ⟨_, rfl, _, rfl, by show 5 ≤ sizeLine; decide, ?_⟩
    refine l_labels (σ := upd σ a (.list (five fun p => .list (prV (glL nr p))))) G (sub_both s2) (fun p hp => ⟨fun t (m : t ∈ enU d ranks (1 + tot es) 5 p) => ⟨(enU_mem m).1, by have := (enU_mem m).2; omega⟩, Nat.le_trans (enU_len (h := 5)) (by decide)⟩) fun σ3 s3 b hb => ?_
    have hb2 := sub_none s3 hb
    have hne : a ≠ b := ne_of upd_at hb2
    exact ⟨by show 2 ≤ sizeLine; decide, fun i h1 h2 => (if_neg (by omega)).trans ((if_neg (by omega)).trans (w.keep i h1 h2)), _, sub_both s3, q a b hne (sub_none s2 ha) ((upd_ne (Ne.symm hne)).symm.trans hb2)⟩
theorem prV_snoc {l : List Pr} {x : Pr} : prV l ++ [tv (pz x)] = prV (l ++ [x]) := by unfold prV hv; rw [List.map_append, List.map_append]; rfl
theorem adj2_snoc {done : List Tri3} {e : Tri3} {p : Nat} : adj2 (done ++ [e]) p = adj2 done p ++ (if p = e.2.1 then [(e.1, e.2.2)] else []) := by
  unfold adj2
  rw [List.filter_append, List.map_append, List.filter_cons]
  by_cases h : p = e.2.1
  · rw [if_pos h, if_pos (beq_iff_eq.mpr h.symm)]; rfl
  · rw [if_neg h, if_neg fun k => h (beq_iff_eq.mp k).symm]; rfl
theorem c_labels {W : Wd} (G : GW W) {j : Nat} {L0 : Addr} {e0 : Env} {Q : V → St → Prop} (hg : ∀ e ∈ es, GoodT e) (hl : es.length ≤ 50) (hN : tot es < 99000) (hr : ∀ p, ranks p < 3)
    (q : ∀ nr a b, Lab es (dst es) ranks nr → a ≠ b → σ a = none → σ b = none → Q (.tuple [.ref a, .ref b]) (upd (upd σ a (.list (five fun p => .list (prV (glL nr p))))) b (.list (five fun p => .list (prV (enL (dst es) ranks (1 + tot es) p)))))) :
    CallRN W (j + 5) 180 L0 e0 [(Str.ofString "script"), (Str.ofString "ways"), (Str.ofString "table"), (Str.ofString "one"), (Str.ofString "other"), (Str.ofString "told")] [.list (nums ranks), .list (wayV es)] Q σ := by
  refine cS__law_labels G (j := j + 4) rfl fun L ρ hρ => ?_
  have h0 : ρ 0 = some (.list (nums ranks)) := hρ 0 (by decide)
  have h1 : ρ 1 = some (.list (wayV es)) := hρ 1 (by decide)
  have hwl : (wayV es).length ≤ 50 := by rw [hv_len, List.length_map]; exact hl
  unfold tS__law_labels
  refine .inl ⟨_, rfl, ?_⟩
  refine ⟨_, items_range (n := 5) (by decide), by decide, ?_⟩
  refine comp_five (Sub.refl σ) (fun p => prV (adj1 es p)) (fun i hi τ hs Z hZ => ?_) fun t r τ hT => ?_
  · refine ⟨_, h1, _, rfl, by unfold sizeLine; omega, ?_⟩
    rw [wayV, hv_map]
    refine comp_of (σ := τ) _ (fun e : Tri3 => e.1 == i) (fun e => tv (pz (e.2.1, e.2.2))) _ [] _ (Sub.refl _) (fun e he σ' hs' Z1 Z1' hZ1 hZ1' => ⟨_, rfl, rfl, all_way ⟨_, rfl, _, rfl, eqI ?_⟩⟩) fun σ' hs' a ha => ?_
    · rw [show ((e.1 : Int) == (i : Int)) = (e.1 == i) from by rw [Bool.eq_iff_iff, beq_iff_eq, beq_iff_eq]; omega]
      exact ifP (fun hb => ⟨_, rfl, _, rfl, by show 2 ≤ sizeLine; decide, hZ1 hb _ (((off_set (by decide)).set (by decide)).set (by decide)) hs'⟩) fun hb => hZ1' hb _ (((off_set (by decide)).set (by decide)).set (by decide)) hs'
    · rw [List.nil_append, show ((es.filter fun e => e.1 == i).map fun e => tv (pz (e.2.1, e.2.2))) = prV (adj1 es i) from by unfold adj1; rw [prV, hv_map, List.map_map]; rfl]
      exact hZ σ' a hs' ha
  -- the other way round
  refine ⟨_, h1, _, rfl, ?_⟩
  refine for_inv (fun rem st => ∃ done rest, rem = wayV rest ∧ es = done ++ rest ∧ TR σ t r (fun p => prV (adj1 es p ++ adj2 done p)) st.σ ∧ st.ρ 2 = some (.ref t) ∧ st.ρ 0 = some (.list (nums ranks)) ∧ ∀ i, 14 ≤ i → st.ρ i = ρ i) ?_ ?_ _ _ ⟨[], es, rfl, rfl, hT.congr fun p _ => by rw [show adj2 [] p = [] from rfl, List.append_nil], rfl, h0, fun i hi => if_neg (by omega)⟩
  · rintro x rm st ⟨done, rest, hrm, hes, hT, r2, r0, rk⟩ Z hZ
    cases rest with
    | nil => cases hrm
    | cons e rest =>
      cases hrm
      have he := hg e (by rw [hes]; exact List.mem_append.mpr (.inr (.head _)))
      have hd : done.length ≤ 50 := by rw [hes, List.length_append] at hl; omega
      have hll : (prV (adj1 es e.2.1 ++ adj2 done e.2.1)).length ≤ 100 := by
        unfold adj1 adj2
        rw [hv_len, List.length_map, List.length_append, List.length_map, List.length_map]
        exact Nat.add_le_add (Nat.le_trans (List.length_filter_le _ _) hl) (Nat.le_trans (List.length_filter_le _ _) hd)
      refine ⟨_, rfl, rfl, all_way ⟨_, r2, _, rfl, _, rfl, get_rf hT.tb he.b ⟨_, getL_ref (hT.row _ he.b), _, rfl, _, rfl, by show 2 ≤ sizeLine; decide, _, _, _, rfl, rfl, hT.row _ he.b, by omega, ?_⟩⟩⟩
      refine hZ _ ⟨done ++ [e], rest, rfl, by rw [hes, List.append_assoc]; rfl, (TR.put hT he.b).congr fun p _ => ?_, r2, r0, fun i hi => (if_neg (by omega)).trans ((if_neg (by omega)).trans ((if_neg (by omega)).trans (rk i hi)))⟩
      rw [adj2_snoc]
      by_cases h : p = e.2.1
      · rw [if_pos h, if_pos h, h, ← List.append_assoc]; exact prV_snoc (x := (e.1, e.2.2))
      · rw [if_neg h, if_neg h, List.append_nil]
  · rintro st ⟨done, rest, hrm, hes, hT, r2, r0, rk⟩
    cases rest with
    | cons e rest => cases hrm
    | nil =>
      rw [List.append_nil] at hes
      subst hes
      refine TR.fz hT r2 fun σ0 s0 => ?_
      refine ⟨by show 5 ≤ sizeLine; decide, fun fr hfr => ?_⟩
      have s1 : St.Sub σ (upd σ0 fr (.list (nearV fun _ => none))) := sub_put s0 hfr
      have kf : upd σ0 fr (.list (nearV fun _ => none)) fr = some (.list (nearV fun _ => none)) := upd_at
      refine .inl ⟨_, rfl, ?_⟩
      refine ⟨_, items_range (n := 2) (by decide), by decide, ?_⟩
      refine comp_range (fun k acc τ => ∃ (b : Nat → Addr) (nr : Nat → Near), acc = (List.range k).map (fun p => V.ref (b p)) ∧ St.Sub (upd σ0 fr (.list (nearV fun _ => none))) τ ∧ ∀ p, p < k → Found es (hubsOf ranks p) (fun _ => none) (nr p) ∧ τ (b p) = some (.list (nearV (nr p)))) (fun i acc τ hi ⟨b, nr, ha, hs, hn⟩ Z hZ => ?_) (fun acc τ ⟨b, nr, ha, hs, hn⟩ a1 h1' => ?_) ⟨fun _ => 0, fun _ _ => none, rfl, Sub.refl _, fun p hp => absurd hp (Nat.not_lt_zero _)⟩
      · refine ⟨_, rfl, .inl ⟨_, rfl, ?_⟩⟩
        refine ⟨_, items_range (n := 5) (by decide), by decide, ?_⟩
        refine comp_of (σ := τ) _ (fun h => decide (i < ranks h)) (fun h => .int (h : Nat)) _ [] _ (Sub.refl _) (fun h hh σ' hs' Z1 Z1' hZ1 hZ1' => ⟨_, r0, _, rfl, _, rfl, get_fv (List.mem_range.mp hh) ⟨_, rfl, gtN (ifP (fun hb => ⟨_, rfl, hZ1 hb _ (off_set (Nat.le_refl _)) hs'⟩) fun hb => hZ1' hb _ (off_set (Nat.le_refl _)) hs')⟩⟩) fun σ2 s2 a ha2 => ⟨a, _, rfl, upd_at, _, rfl, ?_⟩
        rw [List.nil_append, show (((List.range 5).filter fun h => decide (i < ranks h)).map fun h => V.int (h : Nat)) = iv (zs (hubsOf ranks i)) from by unfold zs; rw [iv_map]; rfl]
        have s3 := sub_del (x := .list (iv (zs (hubsOf ranks i)))) (ρ := fun _ => none) s2 ha2
        refine c_search (es := es) (hubs := hubsOf ranks i) (bnd := fun _ => none) (bn := fr) (adj := adjF es) (j := j) G ⟨fun x _ y s => adj_cov, fun x _ p m => ⟨adj_ed m, (dist_of fun e m => ⟨(hg e m).a, (hg e m).b⟩ : Dist es (dst es)).ends _ _ _ (adj_ed m)⟩, adj_len hl, s3 _ _ (hs _ _ kf), lip_free⟩ Lab.hub5 (List.length_filter_le _ _) fun ra rc hra F => ?_
        have s4 := sub_put (x := .list (nearV rc)) s3 hra
        refine hZ (.ref ra) _ ⟨fun p => if p = i then ra else b p, fun p => if p = i then rc else nr p, ?_, Sub.trans hs s4, fun p hp => ?_⟩
        · rw [ha, List.range_succ, List.map_append]
          congr 1
          · exact List.map_congr_left fun p hp => congrArg V.ref (if_neg (Nat.ne_of_lt (List.mem_range.mp hp))).symm
          · show [V.ref ra] = [V.ref (if i = i then ra else b i)]
            rw [if_pos rfl]
        · dsimp only
          by_cases e : p = i
          · rw [if_pos e, if_pos e, e]; exact ⟨F, upd_at⟩
          · rw [if_neg e, if_neg e]
            have hp' := hn p (by omega)
            exact ⟨hp'.1, s4 _ _ hp'.2⟩
      · have s2 := sub_put (x := .list acc) hs h1'
        subst ha
        refine ⟨_, rfl, by show 1 ≤ sizeLine; decide, fun a2 h2 => ?_⟩
        have s3 := sub_put (x := .list [V.ref fr]) s2 h2
        refine ⟨_, _, getL_ref (keep1 upd_at h2), getL_ref upd_at, by show 3 ≤ sizeLine; decide, fun a3 h3 => ?_⟩
        have B : Lab es (dst es) ranks (fun k => if k = 2 then fun _ => none else nr k) := ⟨dist_of fun e m => ⟨(hg e m).a, (hg e m).b⟩, fun p _ => hr p, fun k hk => by rw [if_neg (by omega)]; exact (hn k hk).1, if_pos rfl⟩
        have hst : St.Sub τ (upd (upd τ a1 (.list ((List.range 2).map fun p => V.ref (b p)))) a2 (.list [V.ref fr])) := sub_put (sub_upd h1') h2
        have NN : NB (upd (upd (upd τ a1 (.list ((List.range 2).map fun p => V.ref (b p)))) a2 (.list [V.ref fr])) a3 (.list ((List.range 2).map (fun p => V.ref (b p)) ++ [V.ref fr]))) a3 (fun k => if k = 2 then fr else b k) (fun k => if k = 2 then fun _ => none else nr k) := by
          refine ⟨upd_at, fun k hk => ?_⟩
          by_cases e : k = 2
          · rw [if_pos e, if_pos e]; exact keep1 (s3 _ _ kf) h3
          · rw [if_neg e, if_neg e]; exact keep1 (hst _ _ (hn k (by omega)).2) h3
        have s5 := Sub.trans s1 (sub_put (x := .list ((List.range 2).map (fun p => V.ref (b p)) ++ [V.ref fr])) s3 h3)
        generalize hσ : upd (upd (upd τ a1 (.list ((List.range 2).map fun p => V.ref (b p)))) a2 (.list [V.ref fr])) a3 (.list ((List.range 2).map (fun p => V.ref (b p)) ++ [V.ref fr])) = σ5 at NN s5
        refine ⟨by show 5 ≤ sizeLine; decide, fun gg hgg => ⟨by show 5 ≤ sizeLine; decide, fun ee hee => ⟨by show 2 ≤ sizeLine; decide, _, rfl, rfl, ?_⟩⟩⟩
        have hgg' : σ5 gg = none := by rw [← hσ]; exact hgg
        have hee' : upd σ5 gg (.list (textV fun _ => [])) ee = none := by rw [← hσ]; exact hee
        have hap : gg ≠ ee := ne_of upd_at hee'
        have w : ∀ ρ' : Nat → Option V, ρ' 0 = some (.list (nums ranks)) → ρ' 2 = some (stepV (adjF es)) → ρ' 7 = some (.ref a3) → ρ' 8 = some (.ref gg) → ρ' 9 = some (.ref ee) → (∀ i, 14 ≤ i → ρ' i = ρ i) → LB σ5 ρ es ranks a3 gg ee (fun _ => []) (fun _ => []) ⟨upd (upd σ5 gg (.list (textV fun _ => []))) ee (.list (textV fun _ => [])), ρ'⟩ := fun ρ' k0 k2 k7 k8 k9 kk =>
          ⟨k0, k2, k7, k8, k9, fun i hi _ => kk i hi, sub_put (sub_upd hgg') hee', ⟨hgg', (upd_ne hap.symm).symm.trans hee'⟩, hap, keep1 upd_at hee', upd_at⟩
        subst hσ
        refine .inl ⟨_, rfl, ?_⟩
        refine ⟨_, items_range (n := 5) (by decide), ?_⟩
        refine l_hubs G (j := j) B hg hl hN NN (w _ r0 rfl rfl rfl rfl fun i hi => ?_) fun st1 w1 => ?_
        · exact (if_neg (by omega)).trans ((if_neg (by omega)).trans ((if_neg (by omega)).trans ((if_neg (by omega)).trans ((if_neg (by omega)).trans (rk i hi)))))
        · refine .inl ⟨_, rfl, ?_⟩
          refine ⟨_, items_range (n := 5) (by decide), ?_⟩
          refine l_guides G (j := j) B hN NN w1 fun st2 w2 => ?_
          exact l_end G (j := j) B hN w2 s5 (q _ · · B)
end Mine

namespace Mine
open PySem PySem.W PyProof.Rows PySem.Calls

/-! ### law -/
variable {σ : St} {es : List Tri3} {ranks : Nat → Nat} {st : S} {nr : Nat → Near}
def pdP (l : List Pr) : PyData := .list ((l.map pz).map fun l => PyData.tuple (l.map PyData.int))
def pdK (l m : Nat → List Pr) (p : Nat) : PyData := .tuple [pdP (l p), pdP (m p)]
theorem lay_ints : ∀ xs : List Int, PyData.canLayAll0 (xs.map PyData.int) = true
  | [] => rfl
  | x :: xs => by simp only [List.map_cons, PyData.canLayAll0, PyData.canLay0, lay_ints xs, Bool.and_self]
theorem lay_hv : ∀ hs : List (List Int), PyData.canLayAll0 (hs.map fun l => PyData.tuple (l.map PyData.int)) = true
  | [] => rfl
  | x :: xs => by simp only [List.map_cons, PyData.canLayAll0, PyData.canLay0, lay_ints, lay_hv xs, Bool.and_self]
theorem lay_pd (l m : Nat → List Pr) : ∀ ps : List Nat, PyData.canLayAll0 (ps.map (pdK l m)) = true
  | [] => rfl
  | p :: ps => by simp only [List.map_cons, PyData.canLayAll0, PyData.canLay0, pdK, pdP, lay_hv, lay_pd l m ps, Bool.and_self]
theorem eqv_pd (l m : Nat → List Pr) : PyData.eqv (.list ((List.range 5).map (pdK l m))) (.list ((List.range 5).map (pdK l m))) = true := PySem.SeqAt.eqv_refl _ (by simp only [PyData.canLay0, lay_pd])
theorem mapM_map {α : Type} {f : V → Option PyData} {e : α → V} {g : α → PyData} : ∀ xs : List α, (∀ x ∈ xs, f (e x) = some (g x)) → (xs.map e).mapM f = some (xs.map g)
  | [], _ => rfl
  | x :: xs, h => by rw [List.map_cons, List.mapM_cons, h x (.head _), mapM_map xs fun y m => h y (.tail _ m)]; rfl
theorem mapM_two {f : V → Option PyData} {x y : V} {d e : PyData} (h1 : f x = some d) (h2 : f y = some e) : [x, y].mapM f = some [d, e] := by
  rw [List.mapM_cons, h1, List.mapM_cons, h2]; rfl
theorem toPy_tup {σ : St} {n : Nat} {xs : List V} {ds : List PyData} (h : xs.mapM (toPy σ n) = some ds) : toPy σ (n + 1) (.tuple xs) = some (.tuple ds) := by simp only [toPy, h]; rfl
theorem eqv_nil (xs : List Int) : PyData.eqv (.list (xs.map PyData.int)) (.list []) = xs.isEmpty := by cases xs <;> rfl
theorem tot_le : ∀ {es : List Tri3}, (∀ e ∈ es, GoodT e) → tot es ≤ 5000 * es.length
  | [], _ => Nat.le_refl _
  | e :: es, h => by
    have := tot_le (es := es) fun x m => h x (.tail _ m)
    have := (h e (.head _)).n
    unfold tot at *
    rw [List.map_cons, List.sum_cons, List.length_cons]; omega
abbrev dueV (es : List Tri3) (ranks : Nat → Nat) : Nat → List Pr := enL (dst es) ranks (1 + tot es)
structure LX (σ : St) (es : List Tri3) (ranks : Nat → Nat) (nr : Nat → Near) (st : S) : Prop where
  r1 : st.ρ 1 = some (.list (nums ranks))
  r3 : st.ρ 3 = some (.list (five fun p => .list (nums (dst es p))))
  r4 : st.ρ 4 = some (.int (1 + tot es : Nat))
  r5 : st.ρ 5 = some (labV (glL nr))
  r6 : st.ρ 6 = some (labV (dueV es ranks))
  sub : St.Sub σ st.σ
theorem LX.set (h : LX σ es ranks nr st) {i : Nat} {v : V} (hi : 7 ≤ i) : LX σ es ranks nr (st.set i v) :=
  have off : ∀ k, k < 7 → (st.set i v).ρ k = st.ρ k := fun k hk => if_neg (Nat.ne_of_lt (Nat.lt_of_lt_of_le hk hi))
  ⟨(off 1 (by decide)).trans h.r1, (off 3 (by decide)).trans h.r3, (off 4 (by decide)).trans h.r4, (off 5 (by decide)).trans h.r5, (off 6 (by decide)).trans h.r6, h.sub⟩
theorem LX.more (h : LX σ es ranks nr st) {τ : St} (hs : St.Sub st.σ τ) : LX σ es ranks nr ⟨τ, st.ρ⟩ := ⟨h.r1, h.r3, h.r4, h.r5, h.r6, Sub.trans h.sub hs⟩
theorem comp_list {n : Nat} {Ta : AT} {Tc : PB} {Te : PV} {ρ : Nat → Option V} {K : List V → St → Prop} {xs ys acc : List V} {τ : St} (e : xs = ys) (h : compL n Ta Tc Te ρ K ys acc τ) : compL n Ta Tc Te ρ K xs acc τ := by rw [e]; exact h
abbrev lwB (W : Wd) (j : Nat) : PF := (seqW (asgS (tpW (argS (cbW (argS (locW 5) (argS (locW 6) (argS (locW 7) (argS (locW 8) arg0)))) (callW W j 185)) (argS (itW (itW (locW 3) (locW 7)) (locW 8)) arg0))) (tupW [(setW 9), (setW 10)]))
  (fzV 9 (seqW (ifS (orB (cmW neBW (cvW eqW (locW 9) l0W) (cvW eqW (locW 10) (locW 4))) (cmW neW (compW 11 (locW 9) (setW 11) (orB (cmW ltW (locW 11) (locW 10)) (cmW (icmpW fun i j => decide (j < i)) (locW 11) (biW mulW (cW (.int 5)) (locW 10)))) (locW 11)) l0W)) (seqW (retS (cW (.bool false)))
  nilW) nilW)
  nilW)))
theorem lw_pair {W : Wd} (G : GW W) {j one other : Nat} {Q : Fl → S → Prop} (B : Lab es (dst es) ranks nr) (h1 : one < 5) (h2 : other < 5) (w : LX σ es ranks nr st) (h7 : st.ρ 7 = some (.int (one : Nat))) (h8 : st.ρ 8 = some (.int (other : Nat)))
    (K : ∀ st', LX σ es ranks nr st' → st'.ρ 7 = some (.int (one : Nat)) → Q .next st') : lwB W (j + 1) Q st := by
  have D := B.dist
  refine ⟨_, w.r5, _, w.r6, _, h7, _, h8, c_told (j := j) G h1 h2 (fun p => ?_) (fun p => ?_) fun a ha => ⟨_, w.r3, _, h7, _, rfl, get_fv h1 ⟨_, h8, _, rfl, get_fv h2 ⟨by show 2 ≤ sizeLine; decide, _, rfl, rfl, a, _, rfl, upd_at, ?_⟩⟩⟩⟩
  · exact List.length_filterMap_le _ _
  · exact List.length_filterMap_le _ _
  have s1 := sub_del (x := .list (iv (zs (tell (glL nr) (dueV es ranks) 3 0 one 0 one other)))) (ρ := fun _ => none) (Sub.refl st.σ) ha
  generalize hts : tell (glL nr) (dueV es ranks) 3 0 one 0 one other = ts at s1
  have hd0 : dst es one one = 0 := D.zero one h1
  have key : (ts.isEmpty = (dst es one other == 1 + tot es)) ∧ ts.length ≤ 1 ∧ ∀ x ∈ ts, dst es one other ≤ x ∧ x ≤ 5 * dst es one other := by
    rw [← hts]
    by_cases hl : dst es one other < 1 + tot es
    · obtain ⟨x, e, k1, k2⟩ := B.tell_some hl 3 0 one 0 one other h1 h2 h1 rfl hd0.symm (by omega) (Nat.zero_le _) rfl (Nat.zero_le _)
      rw [e]
      refine ⟨?_, Nat.le_refl 1, fun y m => by rw [List.mem_singleton.mp m]; exact ⟨k1, k2⟩⟩
      cases z : dst es one other == 1 + tot es with
      | false => rfl
      | true => have := beq_iff_eq.mp z; omega
    · have ht : dst es one other = 1 + tot es := Nat.le_antisymm (D.top one other h1 h2) (Nat.le_of_not_lt hl)
      rw [B.tell_none 3 0 one 0 one other h1 h2 h1 (by rw [hd0]; omega) ht]
      exact ⟨by rw [ht, beq_self_eq_true]; rfl, Nat.zero_le 1, fun x m => nomatch m⟩
  have w1 : ∀ τ, St.Sub st.σ τ → LX σ es ranks nr (S.set (S.set (S.set ⟨τ, st.ρ⟩ 9 (.ref a)) 10 (.int (dst es one other : Nat))) 9 (.list (iv (zs ts)))) := fun τ hτ => (((w.more hτ).set (by decide)).set (by decide)).set (by decide)
  refine ⟨_, rfl, fun a2 h2' => ⟨_, _, toPy_list (n := 7) (toPy_iv (zs ts)), toPy_ref (n := 7) (xs := []) (ds := []) put_at rfl, ?_⟩⟩
  rw [eqv_nil]
  have s2 := sub_put (x := .list []) s1 h2'
  refine ⟨_, rfl, _, w.r4, eqI ⟨_, _, rfl, rfl, ?_⟩⟩
  have e1 : ((zs ts).isEmpty != ((dst es one other : Int) == ((1 + tot es : Nat) : Int))) = false := by
    have e2 : (zs ts).isEmpty = ts.isEmpty := by cases ts <;> rfl
    have e3 : ((dst es one other : Int) == ((1 + tot es : Nat) : Int)) = (dst es one other == 1 + tot es) := by rw [Bool.eq_iff_iff, beq_iff_eq, beq_iff_eq]; omega
    rw [e2, e3, key.1, bne_self_eq_false]
  rw [e1]
  refine ifF (fun z => nomatch z) fun _ => ?_
  refine ⟨_, rfl, _, rfl, by rw [iv_len, zs, List.length_map]; exact Nat.le_trans key.2.1 (by decide), ?_⟩
  refine comp_list (ys := ts.map fun x => V.int (x : Nat)) (by rw [zs, iv_map]) ?_
  refine comp_of (σ := st.σ) _ (fun _ : Nat => false) (fun x => .int (x : Nat)) _ [] _ s2 (fun x hx σ' hs' Z Z' _ hZ' => ⟨_, rfl, _, rfl, ltN ?_⟩) fun σ2 s3 a3 h3 => ?_
  · obtain ⟨k1, k2⟩ := key.2.2 x hx
    rw [decide_eq_false (Nat.not_lt.mpr k1)]
    refine ifF (fun z => nomatch z) fun _ => ⟨_, rfl, _, rfl, mulI ((5 * dst es one other : Nat) : Int) (by decide) (by omega) (gtN ?_)⟩
    rw [decide_eq_false (Nat.not_lt.mpr k2)]
    exact ifP (fun z => nomatch z) fun _ => hZ' rfl _ (off_set (Nat.le_refl _)) hs'
  · rw [List.filter_eq_nil_iff.mpr (fun _ _ => Bool.false_ne_true)]
    have s4 := sub_put (x := .list []) s3 h3
    intro a4 h4
    refine ⟨_, _, toPy_ref (n := 7) (xs := []) (ds := []) (keep1 upd_at h4) rfl, toPy_ref (n := 7) (xs := []) (ds := []) put_at rfl, ?_⟩
    refine ifF (fun z => nomatch z) fun _ => ?_
    exact K _ ((((w.more (sub_put (x := .list []) s4 h4)).set (by decide)).set (by decide)).set (by decide)) h7
theorem law_end {W : Wd} (G : GW W) {j : Nat} {Q : V → St → Prop} (B : Lab es (dst es) ranks nr) (w : LX σ es ranks nr st) (q : Q (.bool true) σ) :
    (seqW (retS (cvW eqW (compW 11 (cbW (argS (cW (.int 5)) arg0) rangeW) (setW 11) tT (tpW (argS (itW (locW 5) (locW 11)) (argS (itW (locW 6) (locW 11)) arg0)))) (compW 11 (locW 3) (setW 11) tT (cbW (argS (locW 1) (argS (locW 11) (argS (locW 4) arg0))) (callW W (j + 1) 195)))))
  nilW) (retW Q) st := by
  refine .inl ⟨_, rfl, ?_⟩
  refine ⟨_, items_range (n := 5) (by decide), by decide, ?_⟩
  refine comp_map (σ := st.σ) _ (fun p => .tuple [.list (prV (glL nr p)), .list (prV (dueV es ranks p))]) (Sub.refl _) (fun p hp σ' hs' Z hZ => ?_) fun σ1 s1 a h1 => ?_
  · have h5 := List.mem_range.mp hp
    exact ⟨_, w.r5, _, rfl, _, rfl, get_fv h5 ⟨_, w.r6, _, rfl, _, rfl, get_fv h5 ⟨by show 2 ≤ sizeLine; decide, hZ _ (off_set (Nat.le_refl _)) hs'⟩⟩⟩
  · have w1 := w.more (sub_put (x := .list ((List.range 5).map fun p => V.tuple [.list (prV (glL nr p)), .list (prV (dueV es ranks p))])) s1 h1)
    have ka : upd σ1 a (.list ((List.range 5).map fun p => V.tuple [.list (prV (glL nr p)), .list (prV (dueV es ranks p))])) a = some (.list ((List.range 5).map fun p => V.tuple [.list (prV (glL nr p)), .list (prV (dueV es ranks p))])) := upd_at
    generalize hτ : upd σ1 a (.list ((List.range 5).map fun p => V.tuple [.list (prV (glL nr p)), .list (prV (dueV es ranks p))])) = τ0 at w1 ka
    have hd : toPy τ0 8 (.ref a) = some (.list ((List.range 5).map (pdK (glL nr) (dueV es ranks)))) :=
      toPy_ref (n := 7) ka (mapM_map _ fun p _ => toPy_tup (n := 6) (mapM_two (toPy_list (n := 5) (toPy_hv (n := 4) _)) (toPy_list (n := 5) (toPy_hv (n := 4) _))))
    refine ⟨_, w1.r3, _, rfl, by show 5 ≤ sizeLine; decide, ?_⟩
    refine comp_range (m := 5) (e := fun p => V.list (nums (dst es p))) (fun k acc τ => ∃ gs hs : Nat → Addr, acc = (List.range k).map (fun p => V.tuple [.ref (gs p), .ref (hs p)]) ∧ St.Sub τ0 τ ∧ ∀ p, p < k → τ (gs p) = some (.list (prV (glL nr p))) ∧ τ (hs p) = some (.list (prV (dueV es ranks p)))) (fun i acc τ hi ⟨gs, hs, ha, hs0, hn⟩ Z hZ => ?_) (fun acc τ ⟨gs, hs, ha, hs0, hn⟩ a2 h2 => ?_) ⟨fun _ => 0, fun _ => 0, rfl, by rw [← hτ]; exact Sub.refl _, fun p hp => absurd hp (Nat.not_lt_zero _)⟩
    · refine ⟨_, w1.r1, _, rfl, _, w1.r4, c_due (j := j) G (fun k hk us pm pw => B.nearest hk hi pm pw) fun g e hge hg he => ?_⟩
      have he' : upd τ g (.list (prV (glL nr i))) e = none := (upd_ne hge.symm).trans he
      have s2 := sub_put (x := .list (prV (dueV es ranks i))) (sub_upd (x := .list (prV (glL nr i))) hg) he'
      refine hZ _ _ ⟨fun p => if p = i then g else gs p, fun p => if p = i then e else hs p, ?_, Sub.trans hs0 s2, fun p hp => ?_⟩
      · rw [ha, List.range_succ, List.map_append]
        congr 1
        · exact List.map_congr_left fun p hp => by dsimp only; rw [if_neg (Nat.ne_of_lt (List.mem_range.mp hp)), if_neg (Nat.ne_of_lt (List.mem_range.mp hp))]
        · show _ = [V.tuple [.ref (if i = i then g else gs i), .ref (if i = i then e else hs i)]]
          rw [if_pos rfl, if_pos rfl]
      · dsimp only
        by_cases z : p = i
        · rw [if_pos z, if_pos z, z]; exact ⟨keep1 upd_at he', upd_at⟩
        · rw [if_neg z, if_neg z]
          have hp' := hn p (by omega)
          exact ⟨s2 _ _ hp'.1, s2 _ _ hp'.2⟩
    · subst ha
      have s2 := sub_upd (x := .list ((List.range 5).map fun p => V.tuple [.ref (gs p), .ref (hs p)])) h2
      have hd2 : toPy (upd τ a2 (.list ((List.range 5).map fun p => V.tuple [.ref (gs p), .ref (hs p)]))) 8 (.ref a) = some (.list ((List.range 5).map (pdK (glL nr) (dueV es ranks)))) :=
        toPy_ref (n := 7) (s2 _ _ (hs0 _ _ ka)) (mapM_map _ fun p _ => toPy_tup (n := 6) (mapM_two (toPy_list (n := 5) (toPy_hv (n := 4) _)) (toPy_list (n := 5) (toPy_hv (n := 4) _))))
      have he2 : toPy (upd τ a2 (.list ((List.range 5).map fun p => V.tuple [.ref (gs p), .ref (hs p)]))) 8 (.ref a2) = some (.list ((List.range 5).map (pdK (glL nr) (dueV es ranks)))) := by
        refine toPy_ref (n := 7) upd_at ?_
        exact mapM_map _ fun p hp => toPy_tup (n := 6) (mapM_two (toPy_ref (n := 5) (s2 _ _ (hn p (List.mem_range.mp hp)).1) (toPy_hv (n := 4) _)) (toPy_ref (n := 5) (s2 _ _ (hn p (List.mem_range.mp hp)).2) (toPy_hv (n := 4) _)))
      refine ⟨_, _, hd2, he2, ?_⟩
      rw [eqv_pd]
      exact ⟨σ, Sub.trans w1.sub (Sub.trans hs0 s2), q⟩
theorem c_law {W : Wd} (G : GW W) {j : Nat} {ns : List Int} {Q : V → St → Prop} (hn : ns.length ≤ 63) (q : Q (.bool true) σ) : CallP (fun A => A.frames = some []) W (j + 6) 200 [.list (iv ns)] [] Q σ := by
  refine cS_law G (j := j + 5) rfl fun L => ?_
  unfold tS_law
  have hg := wa_good (ns := ns)
  have hl : (waN ns).length ≤ 50 := by rw [wa_len]; decide
  have ht := tot_le hg
  rw [wa_len] at ht
  have hr : ∀ p, rkN ns p < 3 := fun p => rk_lt
  refine ⟨_, rfl, c_drawn (j := j + 4) G hn fun a b hab ha hb => ⟨_, rfl, rfl, ?_⟩⟩
  refine ⟨a, _, rfl, (upd_ne hab).trans upd_at, b, _, rfl, (if_neg hab.symm).trans upd_at, ?_⟩
  generalize waN ns = es at *
  generalize rkN ns = ranks at *
  have s1 : ∀ τ : St, (∀ c, c ≠ a → c ≠ b → τ c = σ c) → St.Sub σ τ := fun τ h => sub_two (Sub.refl σ) ha hb h
  refine ⟨_, rfl, c_lengths (j := j + 4) G hg (Nat.le_trans hl (by decide)) fun t r τ hT => ⟨_, rfl, rfl, ?_⟩⟩
  refine TR.fz hT rfl fun τ1 s2 => ?_
  have s3 := Sub.trans (s1 _ fun c h1 h2 => ((if_neg h2).trans (if_neg h1)).trans ((upd_ne h2).trans (upd_ne h1))) s2
  refine ⟨_, rfl, _, rfl, c_labels (j := j) G hg hl (by omega) hr fun nr g e B hge h1 h2 => ⟨_, rfl, rfl, ?_⟩⟩
  refine ⟨g, _, rfl, (upd_ne hge).trans upd_at, e, _, rfl, (if_neg hge.symm).trans upd_at, ?_⟩
  have s4 : ∀ τ : St, (∀ c, c ≠ g → c ≠ e → τ c = τ1 c) → St.Sub σ τ := fun τ h => Sub.trans s3 (sub_two (Sub.refl τ1) h1 h2 h)
  refine .inl ⟨_, rfl, ?_⟩
  refine ⟨_, items_range (n := 5) (by decide), ?_⟩
  refine for_range (fun _ st => LX σ es ranks nr st) (fun i st hi w Z hZ => ?_) (fun st w => law_end G (j := j + 4) B w q) ⟨rfl, rfl, rfl, rfl, rfl, s4 _ fun c k1 k2 => (if_neg k2).trans ((if_neg k1).trans ((upd_ne k2).trans (upd_ne k1)))⟩
  refine .inl ⟨_, rfl, ?_⟩
  refine ⟨_, items_range (n := 5) (by decide), ?_⟩
  refine for_range (fun _ st => LX σ es ranks nr st ∧ st.ρ 7 = some (.int (i : Nat))) (fun o st ho ⟨w, h7⟩ Z1 hZ1 => ?_) (fun st ⟨w, _⟩ => hZ st w) ⟨w.set (by decide), rfl⟩
  exact lw_pair G (j := j + 4) B hi ho (w.set (i := 8) (v := .int (o : Nat)) (by decide)) h7 rfl fun st' w' h7' => hZ1 st' ⟨w', h7'⟩
end Mine

namespace Mine
open PySem PySem.W PyProof.Rows PySem.Calls

/-! The head by one check of the kernel's: the boot is the library's, then the top, then the looks. -/
abbrev looksAll (p q : Program) (loose : List Str) (Xt : Shared → Bool) {α : Type} (Yf : Shared → α) (H₀ : Heap) (s : Shared) :=
  (staticsOk (importedModules p.main.body) H₀ s.heap && namesBound p s.heap && gensDone s && laidKept H₀ s.heap, openSeen q loose (importedModules p.main.body) Xt true s, Yf s)
theorem left_of {p q : Program} {loose : List Str} {Xt : Shared → Bool} {α : Type} {Yf : Shared → α} {Ya : World → α} {N : Nat} {H₀ : Params → Heap} {gs₀ : Array GenState} {d₀ : Drawn} {k₀ : Nat} {m₀ : Nat} {ann : Option Value}
    (open_ : ∀ w : World, (fencedOpening treeTable p w N).map (fun s => (s.heap, s.gens, s.drawn, s.toks)) = some (H₀ w.params, gs₀, d₀, k₀))
    (size : ∀ w : World, ((H₀ w.params).isNs mainGlobals && gs₀.size == 0, (H₀ w.params).objs.size, (H₀ w.params).nsMap mainGlobals "__annotations__") = (true, m₀, ann))
    (h : ∀ (w : World) (os : OsState), (topRun treeTable p w m₀ ann N ⟨H₀ w.params, gs₀, d₀, k₀, os⟩ (topStub p)).map (looksAll p q loose Xt Yf (H₀ w.params)) = some (true, openGood q loose, Ya w)) : LeftO p q loose Xt Yf Ya N true := fun w => by
  obtain ⟨⟨a, gs, d, k, os⟩, e, e'⟩ := Option.map_eq_some_iff.mp (open_ w)
  obtain ⟨rfl, rfl, rfl, rfl⟩ : a = H₀ w.params ∧ gs = gs₀ ∧ d = d₀ ∧ k = k₀ := by simpa using e'
  obtain ⟨z1, z2, z3⟩ : _ ∧ _ ∧ _ := by simpa only [Prod.mk.injEq] using size w
  obtain ⟨s₁, r, l⟩ := Option.map_eq_some_iff.mp (h w os)
  obtain ⟨l1, l23⟩ := Prod.mk.inj l
  have t : topFrom treeTable p w N ⟨H₀ w.params, gs, d, k, os⟩ = some s₁ := by
    unfold topFrom
    dsimp only
    rw [z1, z2, z3, r]
    show (match staticsOk (importedModules p.main.body) (H₀ w.params) s₁.heap && namesBound p s₁.heap && gensDone s₁ && laidKept (H₀ w.params) s₁.heap with | true => _ | false => _) = _
    rw [l1]
  unfold openEnds
  rw [e]
  show (topFrom treeTable p w N _).map _ = _
  rw [t]
  exact congrArg some l23

/-! What the top leaves, seen by a few looks: the defs' data, their codes' names, the tuples of defaults, the names. -/
def cdName (h : Heap) (c : Addr) : Option Str := match h.get? c with
  | some ⟨_, _, .fields vs, _⟩ => (match (vs[1]? : Option Value) with
    | some (.str q _) => some q
    | _ => none)
  | _ => none
def mainEs (h : Heap) : Option (Array DictEntry) := match h.get? mainGlobals with
  | some ⟨_, _, .dict es _, _⟩ => some es
  | _ => none
def FnSays (h : Heap) : List (Addr × FuncData) → Prop
  | [] => True
  | p :: r => (∃ o, h.get? p.1 = some o ∧ o.data = .func p.2) ∧ FnSays h r
def CdSays (h : Heap) : List (Addr × Str) → Prop
  | [] => True
  | p :: r => (∃ o vs t, h.get? p.1 = some o ∧ o.data = .fields vs ∧ vs[1]? = some (.str p.2 t)) ∧ CdSays h r
def TpSays (h : Heap) : List (Addr × List Value) → Prop
  | [] => True
  | p :: r => (∃ n, h.get? p.1 = some { cls := .type "tuple", data := .seq p.2.toArray n }) ∧ TpSays h r
def EsSays (es : Array DictEntry) : List (Str × Option Value) → Prop
  | [] => True
  | p :: r => nsFind es p.1 = p.2 ∧ EsSays es r
structure Seen where
  fns : List (Addr × FuncData)
  cds : List (Addr × Str)
  tps : List (Addr × List Value)
  gls : List (Str × Option Value)
def Seen.Says (S : Seen) (h : Heap) : Prop := FnSays h S.fns ∧ CdSays h S.cds ∧ TpSays h S.tps ∧ ∃ o es ep, h.get? mainGlobals = some o ∧ o.data = .dict es ep ∧ EsSays es S.gls
theorem fn_of {h : Heap} : ∀ l : List (Addr × FuncData), (l.map fun p => (h.get? p.1).map (·.data)) = l.map (fun p => some (.func p.2)) → FnSays h l
  | [], _ => trivial
  | _ :: _, e => ⟨Option.map_eq_some_iff.mp (List.cons.inj e).1, fn_of _ (List.cons.inj e).2⟩
theorem cdName_of {h : Heap} {c : Addr} {q : Str} (e : cdName h c = some q) : ∃ o vs t, h.get? c = some o ∧ o.data = .fields vs ∧ vs[1]? = some (.str q t) := by
  unfold cdName at e
  split at e
  · rename_i vs _ hg
    split at e
    · rename_i q t hv
      cases e
      exact ⟨_, _, t, hg, rfl, hv⟩
    · cases e
  · cases e
theorem cd_of {h : Heap} : ∀ l : List (Addr × Str), (l.map fun p => cdName h p.1) = l.map (fun p => some p.2) → CdSays h l
  | [], _ => trivial
  | _ :: _, e => ⟨cdName_of (List.cons.inj e).1, cd_of _ (List.cons.inj e).2⟩
theorem tp_of {h : Heap} : ∀ l : List (Addr × List Value), (l.map fun p => h.get? p.1) = l.map (fun p => some { cls := .type "tuple", data := .seq p.2.toArray 0 }) → TpSays h l
  | [], _ => trivial
  | _ :: _, e => ⟨⟨0, (List.cons.inj e).1⟩, tp_of _ (List.cons.inj e).2⟩
theorem es_of {es : Array DictEntry} : ∀ l : List (Str × Option Value), (l.map fun p => nsFind es p.1) = l.map (·.2) → EsSays es l
  | [], _ => trivial
  | _ :: _, e => ⟨(List.cons.inj e).1, es_of _ (List.cons.inj e).2⟩
theorem fn_keeps {h h' : Heap} (k : ∀ b o, h.get? b = some o → h'.get? b = some o) : ∀ l : List (Addr × FuncData), FnSays h l → FnSays h' l
  | [], _ => trivial
  | _ :: _, ⟨⟨o, a, b⟩, r⟩ => ⟨⟨o, k _ _ a, b⟩, fn_keeps k _ r⟩
theorem cd_keeps {h h' : Heap} (k : ∀ b o, h.get? b = some o → h'.get? b = some o) : ∀ l : List (Addr × Str), CdSays h l → CdSays h' l
  | [], _ => trivial
  | _ :: _, ⟨⟨o, vs, t, a, b⟩, r⟩ => ⟨⟨o, vs, t, k _ _ a, b⟩, cd_keeps k _ r⟩
theorem tp_keeps {h h' : Heap} (k : ∀ b o, h.get? b = some o → h'.get? b = some o) : ∀ l : List (Addr × List Value), TpSays h l → TpSays h' l
  | [], _ => trivial
  | _ :: _, ⟨⟨n, a⟩, r⟩ => ⟨⟨n, k _ _ a⟩, tp_keeps k _ r⟩
def Seen.hook (S : Seen) : Hook where
  α := List (Option Data) × List (Option Str) × List (Option Obj) × Option (List (Option Value))
  obs := fun s => (S.fns.map fun p => (s.heap.get? p.1).map (·.data), S.cds.map fun p => cdName s.heap p.1, S.tps.map fun p => s.heap.get? p.1, (mainEs s.heap).map fun es => S.gls.map fun p => nsFind es p.1)
  val := fun _ => (S.fns.map fun p => some (.func p.2), S.cds.map fun p => some p.2, S.tps.map fun p => some { cls := .type "tuple", data := .seq p.2.toArray 0 }, some (S.gls.map (·.2)))
  says := fun _ h => S.Says h
  of := fun _ s e => by
    obtain ⟨a, e⟩ := Prod.mk.inj e
    obtain ⟨b, e⟩ := Prod.mk.inj e
    obtain ⟨c, d⟩ := Prod.mk.inj e
    obtain ⟨es, h1, h2⟩ := Option.map_eq_some_iff.mp d
    unfold mainEs at h1
    split at h1
    · rename_i hg
      cases h1
      exact ⟨fn_of _ a, cd_of _ b, tp_of _ c, _, _, _, hg, rfl, es_of _ h2⟩
    · cases h1
  keeps := fun _ h h' ⟨a, b, c, o, es, ep, d, x, y⟩ k => ⟨fn_keeps k _ a, cd_keeps k _ b, tp_keeps k _ c, o, es, ep, k _ _ d, x, y⟩
theorem ns_look {h : Heap} {a : Addr} {m : Str → Option Value} {o : Obj} {es : Array DictEntry} {ep : Nat} (n : h.Ns a m) (e : h.get? a = some o) (hd : o.data = .dict es ep) (x : Str) : m x = nsFind es x := by
  obtain ⟨o', es', ep', e', d', _, f⟩ := n
  rw [e] at e'; cases e'
  rw [hd] at d'; cases d'
  exact (f x).symm
def drOf : Stmt → DefRec
  | .FunctionDef name args body _ _ _ scope _ _ pos => ⟨name, args, body, scope, pos⟩
  | _ => ⟨default, ⟨[], [], none, [], [], none, []⟩, [], ⟨.function, [], false, false, []⟩, ⟨0, 0, 0, 0⟩⟩
end Mine

namespace Mine
open PySem PySem.W PyProof.Rows PySem.Calls
def topSeen : Seen where
  fns := [(28, fd_heappush), (35, fd_heappop), (42, fd_heapify), (49, fd__siftdown), (56, fd__siftup), (64, fd__bytes_from_decode_data), (84, fd__ascii_buffer), (91, fd__buffer), (98, fd__truth), (105, fd__b64_value), (113, fd_a2b_base64), (121, fd_b2a_base64), (129, fd_b64encode), (137, fd_b64decode), (144, fd__parse_varint), (149, fd__law_drawn), (156, fd__law_octets), (163, fd__law_entry), (170, fd__law_label), (175, fd__law_search), (180, fd__law_labels), (185, fd__law_told), (190, fd__law_lengths), (195, fd__law_due), (200, fd_law)]
  cds := [(27, fd_heappush.qualname), (34, fd_heappop.qualname), (41, fd_heapify.qualname), (48, fd__siftdown.qualname), (55, fd__siftup.qualname), (63, fd__bytes_from_decode_data.qualname), (83, fd__ascii_buffer.qualname), (90, fd__buffer.qualname), (97, fd__truth.qualname), (104, fd__b64_value.qualname), (112, fd_a2b_base64.qualname), (120, fd_b2a_base64.qualname), (128, fd_b64encode.qualname), (136, fd_b64decode.qualname), (143, fd__parse_varint.qualname), (148, fd__law_drawn.qualname), (155, fd__law_octets.qualname), (162, fd__law_entry.qualname), (169, fd__law_label.qualname), (174, fd__law_search.qualname), (179, fd__law_labels.qualname), (184, fd__law_told.qualname), (189, fd__law_lengths.qualname), (194, fd__law_due.qualname), (199, fd_law.qualname)]
  tps := [(57, [.type "bytes", .type "bytearray"]), (122, [.none]), (130, [.none, .bool false])]
  gls := [(Str.ofString "len", none), (Str.ofString "_siftdown", some (.ref 49)), (Str.ofString "_siftup", some (.ref 56)), (Str.ofString "range", none), (Str.ofString "reversed", none), (Str.ofString "bytes_types", some (.ref 57)), (Str.ofString "isinstance", none), (Str.ofString "str", none), (Str.ofString "bytearray", none), (Str.ofString "bytes", none), (Str.ofString "type", none), (Str.ofString "frozenset", none), (Str.ofString "set", none), (Str.ofString "dict", none), (Str.ofString "tuple", none), (Str.ofString "list", none), (Str.ofString "complex", none), (Str.ofString "float", none), (Str.ofString "int", none), (Str.ofString "bool", none), (Str.ofString "_b64_value", some (.ref 105)), (Str.ofString "_truth", some (.ref 98)), (Str.ofString "_ascii_buffer", some (.ref 84)), (Str.ofString "_B64", some (b64V)), (Str.ofString "_buffer", some (.ref 91)), (Str.ofString "b2a_base64", some (.ref 121)), (Str.ofString "a2b_base64", some (.ref 113)), (Str.ofString "_bytes_from_decode_data", some (.ref 64)), (Str.ofString "next", none), (Str.ofString "b64encode", some (.ref 129)), (Str.ofString "_law_octets", some (.ref 156)), (Str.ofString "b64decode", some (.ref 137)), (Str.ofString "iter", none), (Str.ofString "_parse_varint", some (.ref 144)), (Str.ofString "StopIteration", none), (Str.ofString "heappush", some (.ref 28)), (Str.ofString "heappop", some (.ref 35)), (Str.ofString "heapify", some (.ref 42)), (Str.ofString "_law_label", some (.ref 170)), (Str.ofString "_law_entry", some (.ref 163)), (Str.ofString "_law_search", some (.ref 175)), (Str.ofString "min", none), (Str.ofString "sum", none), (Str.ofString "sorted", none), (Str.ofString "_law_due", some (.ref 195)), (Str.ofString "_law_told", some (.ref 185)), (Str.ofString "_law_labels", some (.ref 180)), (Str.ofString "_law_lengths", some (.ref 190)), (Str.ofString "_law_drawn", some (.ref 149)), (Str.ofString "law", some (.ref 200))]
def topView : Program := { PW with main := { PW.main with body := [defOf 34] } }
def topLoose : List Str := (["_wall", "heappush", "heappop", "heapify", "_siftdown", "_siftup", "bytes_types", "_bytes_from_decode_data", "Error", "_ascii_buffer", "_buffer", "_truth", "_B64", "_b64_value", "a2b_base64", "b2a_base64", "b64encode", "b64decode", "_parse_varint", "_law_drawn", "_law_octets", "_law_entry", "_law_label", "_law_search", "_law_labels", "_law_told", "_law_lengths", "_law_due"] : List String).map Str.ofString
theorem top_opens : ∀ w : World, (fencedOpening treeTable PW w 4000).map (fun s => (s.heap, s.gens, s.drawn, s.toks)) = some (boot_heap w.params, Array.mk [], boot_drawn, boot_toks) :=
  boot_open (by kernel_rfl) (by kernel_rfl) (fun _ => by kernel_rfl)
theorem top_left : LeftO PW topView topLoose (fun s => xlAt topView [] s && recOk [] s) topSeen.hook.obs topSeen.hook.val 4000 := left_of (m₀ := 11) (ann := some (.ref 6)) top_opens (fun w => by kernel_rfl) fun w os => by
  rewrite [show looksAll PW topView topLoose (fun s => xlAt topView [] s && recOk [] s) topSeen.hook.obs = fun H₀ s => (staticsOk (importedModules PW.main.body) H₀ s.heap && namesBound PW s.heap && gensDone s && laidKept H₀ s.heap, openSeen topView topLoose (importedModules PW.main.body) (fun s => xlAt topView [] s && recOk [] s) true s, topSeen.hook.obs s) from rfl, Fast.te14082659384304107361, Fast.te14364793385576792824, Fast.te4187177175401517315, Fast.te5923862056798008813]
  kernel_rfl
abbrev RW := PySem.Challenge.rw_oy0061_03
theorem said_names : namesResolve RW.row.prog = true := by
  rewrite [Fast.te8377067652309620493]
  kernel_rfl
theorem said_roads : noRoadLSs { strict := !(importedModules RW.row.prog.main.body).all cThrough.contains, foot := none, bare := (["vars", "dir", "locals"] : List Str).filter (readsOut RW.row.prog RW.row.prog.main.body) } RW.row.prog.main.body = true := by
  rewrite [Fast.te8326940854005059898]
  kernel_rfl
theorem said_attrs : namesMeet RW.row.prog RW.row.prog.main.body (fun _ n => attrL n) = true := by
  rewrite [Fast.te17119622794617984870]
  kernel_rfl
theorem said_row : RW.row.wellSaid = true := by
  unfold OpenRow.wellSaid OpenRow.partSaid looksOpen
  repeat' (with_reducible refine look_both ?_ ?_)
  all_goals first | with_reducible exact said_names | with_reducible exact said_roads | with_reducible exact said_attrs | kernel_rfl
theorem said_law : RW.wellSaid = true := by
  unfold OpenLaw.wellSaid
  repeat' (with_reducible refine look_both ?_ ?_)
  all_goals first | with_reducible exact said_row | ((first | rewrite [Fast.te8326940854005059898] | rewrite [Fast.te17119622794617984870] | rewrite [Fast.te8179353310426384613] | rewrite [Fast.te9558739934217749035] | rewrite [Fast.te16286561074155671207] | skip); kernel_rfl)
theorem glob_in {h : Heap} {mg mb : Str → Option Value} {x : Str} {v : Value} (g : h.Ns mainGlobals mg) (b : h.Ns builtinsNs mb) (e : mg x = some v) : GlobIs h x v := ⟨mg, mb, g, b, .inl e⟩
theorem glob_bi {h : Heap} {mg mb : Str → Option Value} {x : Str} {v : Value} (g : h.Ns mainGlobals mg) (b : h.Ns builtinsNs mb) (e : mg x = none) (e' : mb x = some v) : GlobIs h x v := ⟨mg, mb, g, b, .inr ⟨e, e'⟩⟩
theorem fn_at {W : Wd} {a c : Addr} {fd : FuncData} (e : ∃ o, W.h₀.get? a = some o ∧ o.data = .func fd) (d : ∃ o vs t, W.h₀.get? c = some o ∧ o.data = .fields vs ∧ vs[1]? = some (.str fd.qualname t)) (hc : fd.code = .ref c) : FnAt W a fd :=
  ⟨e, let ⟨o, vs, t, x, y, z⟩ := d; ⟨c, o, vs, t, hc, x, y, z⟩⟩
theorem gw_of {prog : Program} {w : World} {h : Heap} {mg mb : Str → Option Value} (S : topSeen.Says h) (g : h.Ns mainGlobals mg) (b : h.Ns builtinsNs mb) (hb : ∀ x : Str, x ≠ "__name__" → mb x = bootBuiltins x) (lim : h.NoLimit) : GW ⟨prog, w, h, lim⟩ := by
  obtain ⟨F, C, T, o, es, ep, e, d, N⟩ := S
  have hm : ∀ x, mg x = nsFind es x := ns_look g e d
  exact ⟨glob_bi g b ((hm _).trans N.1) ((hb _ (by decide +kernel)).trans (by kernel_rfl)),
    glob_in g b ((hm _).trans N.2.1),
    glob_in g b ((hm _).trans N.2.2.1),
    glob_bi g b ((hm _).trans N.2.2.2.1) ((hb _ (by decide +kernel)).trans (by kernel_rfl)),
    glob_bi g b ((hm _).trans N.2.2.2.2.1) ((hb _ (by decide +kernel)).trans (by kernel_rfl)),
    glob_in g b ((hm _).trans N.2.2.2.2.2.1),
    glob_bi g b ((hm _).trans N.2.2.2.2.2.2.1) ((hb _ (by decide +kernel)).trans (by kernel_rfl)),
    glob_bi g b ((hm _).trans N.2.2.2.2.2.2.2.1) ((hb _ (by decide +kernel)).trans (by kernel_rfl)),
    glob_bi g b ((hm _).trans N.2.2.2.2.2.2.2.2.1) ((hb _ (by decide +kernel)).trans (by kernel_rfl)),
    glob_bi g b ((hm _).trans N.2.2.2.2.2.2.2.2.2.1) ((hb _ (by decide +kernel)).trans (by kernel_rfl)),
    glob_bi g b ((hm _).trans N.2.2.2.2.2.2.2.2.2.2.1) ((hb _ (by decide +kernel)).trans (by kernel_rfl)),
    glob_bi g b ((hm _).trans N.2.2.2.2.2.2.2.2.2.2.2.1) ((hb _ (by decide +kernel)).trans (by kernel_rfl)),
    glob_bi g b ((hm _).trans N.2.2.2.2.2.2.2.2.2.2.2.2.1) ((hb _ (by decide +kernel)).trans (by kernel_rfl)),
    glob_bi g b ((hm _).trans N.2.2.2.2.2.2.2.2.2.2.2.2.2.1) ((hb _ (by decide +kernel)).trans (by kernel_rfl)),
    glob_bi g b ((hm _).trans N.2.2.2.2.2.2.2.2.2.2.2.2.2.2.1) ((hb _ (by decide +kernel)).trans (by kernel_rfl)),
    glob_bi g b ((hm _).trans N.2.2.2.2.2.2.2.2.2.2.2.2.2.2.2.1) ((hb _ (by decide +kernel)).trans (by kernel_rfl)),
    glob_bi g b ((hm _).trans N.2.2.2.2.2.2.2.2.2.2.2.2.2.2.2.2.1) ((hb _ (by decide +kernel)).trans (by kernel_rfl)),
    glob_bi g b ((hm _).trans N.2.2.2.2.2.2.2.2.2.2.2.2.2.2.2.2.2.1) ((hb _ (by decide +kernel)).trans (by kernel_rfl)),
    glob_bi g b ((hm _).trans N.2.2.2.2.2.2.2.2.2.2.2.2.2.2.2.2.2.2.1) ((hb _ (by decide +kernel)).trans (by kernel_rfl)),
    glob_bi g b ((hm _).trans N.2.2.2.2.2.2.2.2.2.2.2.2.2.2.2.2.2.2.2.1) ((hb _ (by decide +kernel)).trans (by kernel_rfl)),
    glob_in g b ((hm _).trans N.2.2.2.2.2.2.2.2.2.2.2.2.2.2.2.2.2.2.2.2.1),
    glob_in g b ((hm _).trans N.2.2.2.2.2.2.2.2.2.2.2.2.2.2.2.2.2.2.2.2.2.1),
    glob_in g b ((hm _).trans N.2.2.2.2.2.2.2.2.2.2.2.2.2.2.2.2.2.2.2.2.2.2.1),
    glob_in g b ((hm _).trans N.2.2.2.2.2.2.2.2.2.2.2.2.2.2.2.2.2.2.2.2.2.2.2.1),
    glob_in g b ((hm _).trans N.2.2.2.2.2.2.2.2.2.2.2.2.2.2.2.2.2.2.2.2.2.2.2.2.1),
    glob_in g b ((hm _).trans N.2.2.2.2.2.2.2.2.2.2.2.2.2.2.2.2.2.2.2.2.2.2.2.2.2.1),
    glob_in g b ((hm _).trans N.2.2.2.2.2.2.2.2.2.2.2.2.2.2.2.2.2.2.2.2.2.2.2.2.2.2.1),
    glob_in g b ((hm _).trans N.2.2.2.2.2.2.2.2.2.2.2.2.2.2.2.2.2.2.2.2.2.2.2.2.2.2.2.1),
    glob_bi g b ((hm _).trans N.2.2.2.2.2.2.2.2.2.2.2.2.2.2.2.2.2.2.2.2.2.2.2.2.2.2.2.2.1) ((hb _ (by decide +kernel)).trans (by kernel_rfl)),
    glob_in g b ((hm _).trans N.2.2.2.2.2.2.2.2.2.2.2.2.2.2.2.2.2.2.2.2.2.2.2.2.2.2.2.2.2.1),
    glob_in g b ((hm _).trans N.2.2.2.2.2.2.2.2.2.2.2.2.2.2.2.2.2.2.2.2.2.2.2.2.2.2.2.2.2.2.1),
    glob_in g b ((hm _).trans N.2.2.2.2.2.2.2.2.2.2.2.2.2.2.2.2.2.2.2.2.2.2.2.2.2.2.2.2.2.2.2.1),
    glob_bi g b ((hm _).trans N.2.2.2.2.2.2.2.2.2.2.2.2.2.2.2.2.2.2.2.2.2.2.2.2.2.2.2.2.2.2.2.2.1) ((hb _ (by decide +kernel)).trans (by kernel_rfl)),
    glob_in g b ((hm _).trans N.2.2.2.2.2.2.2.2.2.2.2.2.2.2.2.2.2.2.2.2.2.2.2.2.2.2.2.2.2.2.2.2.2.1),
    glob_bi g b ((hm _).trans N.2.2.2.2.2.2.2.2.2.2.2.2.2.2.2.2.2.2.2.2.2.2.2.2.2.2.2.2.2.2.2.2.2.2.1) ((hb _ (by decide +kernel)).trans (by kernel_rfl)),
    glob_in g b ((hm _).trans N.2.2.2.2.2.2.2.2.2.2.2.2.2.2.2.2.2.2.2.2.2.2.2.2.2.2.2.2.2.2.2.2.2.2.2.1),
    glob_in g b ((hm _).trans N.2.2.2.2.2.2.2.2.2.2.2.2.2.2.2.2.2.2.2.2.2.2.2.2.2.2.2.2.2.2.2.2.2.2.2.2.1),
    glob_in g b ((hm _).trans N.2.2.2.2.2.2.2.2.2.2.2.2.2.2.2.2.2.2.2.2.2.2.2.2.2.2.2.2.2.2.2.2.2.2.2.2.2.1),
    glob_in g b ((hm _).trans N.2.2.2.2.2.2.2.2.2.2.2.2.2.2.2.2.2.2.2.2.2.2.2.2.2.2.2.2.2.2.2.2.2.2.2.2.2.2.1),
    glob_in g b ((hm _).trans N.2.2.2.2.2.2.2.2.2.2.2.2.2.2.2.2.2.2.2.2.2.2.2.2.2.2.2.2.2.2.2.2.2.2.2.2.2.2.2.1),
    glob_in g b ((hm _).trans N.2.2.2.2.2.2.2.2.2.2.2.2.2.2.2.2.2.2.2.2.2.2.2.2.2.2.2.2.2.2.2.2.2.2.2.2.2.2.2.2.1),
    glob_bi g b ((hm _).trans N.2.2.2.2.2.2.2.2.2.2.2.2.2.2.2.2.2.2.2.2.2.2.2.2.2.2.2.2.2.2.2.2.2.2.2.2.2.2.2.2.2.1) ((hb _ (by decide +kernel)).trans (by kernel_rfl)),
    glob_bi g b ((hm _).trans N.2.2.2.2.2.2.2.2.2.2.2.2.2.2.2.2.2.2.2.2.2.2.2.2.2.2.2.2.2.2.2.2.2.2.2.2.2.2.2.2.2.2.1) ((hb _ (by decide +kernel)).trans (by kernel_rfl)),
    glob_bi g b ((hm _).trans N.2.2.2.2.2.2.2.2.2.2.2.2.2.2.2.2.2.2.2.2.2.2.2.2.2.2.2.2.2.2.2.2.2.2.2.2.2.2.2.2.2.2.2.1) ((hb _ (by decide +kernel)).trans (by kernel_rfl)),
    glob_in g b ((hm _).trans N.2.2.2.2.2.2.2.2.2.2.2.2.2.2.2.2.2.2.2.2.2.2.2.2.2.2.2.2.2.2.2.2.2.2.2.2.2.2.2.2.2.2.2.2.1),
    glob_in g b ((hm _).trans N.2.2.2.2.2.2.2.2.2.2.2.2.2.2.2.2.2.2.2.2.2.2.2.2.2.2.2.2.2.2.2.2.2.2.2.2.2.2.2.2.2.2.2.2.2.1),
    glob_in g b ((hm _).trans N.2.2.2.2.2.2.2.2.2.2.2.2.2.2.2.2.2.2.2.2.2.2.2.2.2.2.2.2.2.2.2.2.2.2.2.2.2.2.2.2.2.2.2.2.2.2.1),
    glob_in g b ((hm _).trans N.2.2.2.2.2.2.2.2.2.2.2.2.2.2.2.2.2.2.2.2.2.2.2.2.2.2.2.2.2.2.2.2.2.2.2.2.2.2.2.2.2.2.2.2.2.2.2.1),
    glob_in g b ((hm _).trans N.2.2.2.2.2.2.2.2.2.2.2.2.2.2.2.2.2.2.2.2.2.2.2.2.2.2.2.2.2.2.2.2.2.2.2.2.2.2.2.2.2.2.2.2.2.2.2.2.1),
    fn_at F.1 C.1 (by kernel_rfl),
    fn_at F.2.1 C.2.1 (by kernel_rfl),
    fn_at F.2.2.1 C.2.2.1 (by kernel_rfl),
    fn_at F.2.2.2.1 C.2.2.2.1 (by kernel_rfl),
    fn_at F.2.2.2.2.1 C.2.2.2.2.1 (by kernel_rfl),
    fn_at F.2.2.2.2.2.1 C.2.2.2.2.2.1 (by kernel_rfl),
    fn_at F.2.2.2.2.2.2.1 C.2.2.2.2.2.2.1 (by kernel_rfl),
    fn_at F.2.2.2.2.2.2.2.1 C.2.2.2.2.2.2.2.1 (by kernel_rfl),
    fn_at F.2.2.2.2.2.2.2.2.1 C.2.2.2.2.2.2.2.2.1 (by kernel_rfl),
    fn_at F.2.2.2.2.2.2.2.2.2.1 C.2.2.2.2.2.2.2.2.2.1 (by kernel_rfl),
    fn_at F.2.2.2.2.2.2.2.2.2.2.1 C.2.2.2.2.2.2.2.2.2.2.1 (by kernel_rfl),
    fn_at F.2.2.2.2.2.2.2.2.2.2.2.1 C.2.2.2.2.2.2.2.2.2.2.2.1 (by kernel_rfl),
    fn_at F.2.2.2.2.2.2.2.2.2.2.2.2.1 C.2.2.2.2.2.2.2.2.2.2.2.2.1 (by kernel_rfl),
    fn_at F.2.2.2.2.2.2.2.2.2.2.2.2.2.1 C.2.2.2.2.2.2.2.2.2.2.2.2.2.1 (by kernel_rfl),
    fn_at F.2.2.2.2.2.2.2.2.2.2.2.2.2.2.1 C.2.2.2.2.2.2.2.2.2.2.2.2.2.2.1 (by kernel_rfl),
    fn_at F.2.2.2.2.2.2.2.2.2.2.2.2.2.2.2.1 C.2.2.2.2.2.2.2.2.2.2.2.2.2.2.2.1 (by kernel_rfl),
    fn_at F.2.2.2.2.2.2.2.2.2.2.2.2.2.2.2.2.1 C.2.2.2.2.2.2.2.2.2.2.2.2.2.2.2.2.1 (by kernel_rfl),
    fn_at F.2.2.2.2.2.2.2.2.2.2.2.2.2.2.2.2.2.1 C.2.2.2.2.2.2.2.2.2.2.2.2.2.2.2.2.2.1 (by kernel_rfl),
    fn_at F.2.2.2.2.2.2.2.2.2.2.2.2.2.2.2.2.2.2.1 C.2.2.2.2.2.2.2.2.2.2.2.2.2.2.2.2.2.2.1 (by kernel_rfl),
    fn_at F.2.2.2.2.2.2.2.2.2.2.2.2.2.2.2.2.2.2.2.1 C.2.2.2.2.2.2.2.2.2.2.2.2.2.2.2.2.2.2.2.1 (by kernel_rfl),
    fn_at F.2.2.2.2.2.2.2.2.2.2.2.2.2.2.2.2.2.2.2.2.1 C.2.2.2.2.2.2.2.2.2.2.2.2.2.2.2.2.2.2.2.2.1 (by kernel_rfl),
    fn_at F.2.2.2.2.2.2.2.2.2.2.2.2.2.2.2.2.2.2.2.2.2.1 C.2.2.2.2.2.2.2.2.2.2.2.2.2.2.2.2.2.2.2.2.2.1 (by kernel_rfl),
    fn_at F.2.2.2.2.2.2.2.2.2.2.2.2.2.2.2.2.2.2.2.2.2.2.1 C.2.2.2.2.2.2.2.2.2.2.2.2.2.2.2.2.2.2.2.2.2.2.1 (by kernel_rfl),
    fn_at F.2.2.2.2.2.2.2.2.2.2.2.2.2.2.2.2.2.2.2.2.2.2.2.1 C.2.2.2.2.2.2.2.2.2.2.2.2.2.2.2.2.2.2.2.2.2.2.2.1 (by kernel_rfl),
    fn_at F.2.2.2.2.2.2.2.2.2.2.2.2.2.2.2.2.2.2.2.2.2.2.2.2.1 C.2.2.2.2.2.2.2.2.2.2.2.2.2.2.2.2.2.2.2.2.2.2.2.2.1 (by kernel_rfl),
    T.1,
    T.2.1,
    T.2.2.1⟩
theorem law_at {h : Heap} {mg : Str → Option Value} (S : topSeen.Says h) (g : h.Ns mainGlobals mg) : mg (Str.ofString "law") = some (.ref 200) := by
  obtain ⟨_, _, _, o, es, ep, e, d, N⟩ := S
  exact (ns_look g e d _).trans N.2.2.2.2.2.2.2.2.2.2.2.2.2.2.2.2.2.2.2.2.2.2.2.2.2.2.2.2.2.2.2.2.2.2.2.2.2.2.2.2.2.2.2.2.2.2.2.2.2.1
end Mine

namespace Mine
open PySem PySem.W PyProof.Rows PySem.Calls
theorem rall_ints {F : Fz} : ∀ {vs : List Value} {ns : List Int}, IntsAre vs ns → RAll F (iv ns) vs
  | [], [], _ => .nil
  | _, _, .cons _ _ h => .cons (.int _ _) (rall_ints h)
theorem plain_of {P : Params} {h : Heap} {a : Addr} {xs : List PyData} {vs : List Value} (w : Well P h (.ref a) (ofPy (PyData.list xs))) (hL : h.IsList a vs.toArray) : h.get? a = some (listOf vs.toArray 0) := by
  obtain ⟨o, e, hc, n, hd⟩ := hL
  have w' : Well P h (.ref a) (.list (ofPys xs)) := w
  cases w' with
  | list e' _ =>
    rw [e'] at e; cases e
    cases hd
    exact e'
theorem law_ends {W : Wd} (G : GW W) {s : Shared} (hs : s.heap = W.h₀) {l : Addr} {vs : List Value} {ns : List Int} (hl : s.heap.get? l = some (listOf vs.toArray 0)) (hI : IntsAre vs ns) (hn : ns.length ≤ 63) {A : Around} (hF : A.frames = some []) (hA : OkA A 6) {E : Value → Shared → Prop} {Q : Value → Shared → Prop}
    (q : ∀ h tk, (∀ b o, s.heap.get? b = some o → h.get? b = some o) → Q (.bool true) { s with heap := h, toks := tk }) : wpAny W.M A (call (.ref 200) [.ref l]) Q E s := by
  have c := c_law (W := W) (σ := fun _ => none) (j := 0) (ns := ns) (Q := fun x _ => x = .bool true) G hn rfl
  refine wpAny_mono (c A E (fun a => s.heap.get? a) s [.ref l] [] hF hA ⟨fun a o e => by rw [hs]; exact e, fun _ _ e => e, fun _ _ e => nomatch e⟩ (.cons (.list hl (rall_ints hI)) .nil) rfl .nil) ?_ fun _ _ e => e
  rintro v s' ⟨F', x, σ', p, r, rfl⟩
  cases r
  obtain ⟨h, tk, rfl⟩ := p.same
  exact q h tk fun b o e => p.keep b o e rfl (by simp)
theorem law_walks : WalkO topView topLoose (XL topView []) topSeen.hook.says (PySem.Challenge.rw_oy0061_03.row.toRowW) (drOf (defOf 34)) [] (fun f vs => PySem.call f vs) := by
  intro w s₀ s₁ mg mb G Y fa o pm cd doc dV kV ho hd hcd hD hmg hg args vals as hpre hlay hrd hwl hlo
  have hT := G.T
  have hfa : fa = 200 := by
    have h3 : mg (Str.ofString "law") = some (.ref fa) := hmg
    rw [law_at Y hT.g] at h3; injection h3 with h3; injection h3 with h3; exact h3.symm
  subst hfa
  have GG : GW ⟨PySem.Challenge.rw_oy0061_03.row.prog, w, s₁.heap, hT.nolimit⟩ := gw_of Y hT.g hT.b hT.builtins hT.nolimit
  clear hmg ho hd hcd hD G Y
  wrow_args hpre hlay hrd hwl hlo
  rename_i ns _ _ _ _ _ _ _ l vs _ hL _ hW _ hI _ hc _
  refine law_ends (W := ⟨PySem.Challenge.rw_oy0061_03.row.prog, w, s₁.heap, hT.nolimit⟩) GG rfl (plain_of hW hL) hI (by omega) rfl ⟨rfl, by decide, by decide⟩ fun h tk keep => GoodW.toG ⟨.inl ⟨_, .bool true, [], rfl, ?_, .bool true, ?_, fun _ => ⟨.nil, fun _ m => nomatch m⟩⟩, keep, rfl, hg⟩
  · intro cls; first | rfl | kernel_rfl
  · first | rfl | kernel_rfl
end Mine
open PySem PySem.W PyProof.Rows PySem.Calls
theorem PySem.Challenge.cw_oy0061_03_holds : PySem.Challenge.rw_oy0061_03.Holds := by
  refine holds_law Mine.said_law fun said => holds_open (q := Mine.topView) (loose := Mine.topLoose) (Xt := fun s => xlAt Mine.topView [] s && recOk [] s) (XP := XL Mine.topView []) (Yf := Mine.topSeen.hook.obs) (Ya := Mine.topSeen.hook.val) (YP := Mine.topSeen.hook.says) (d := Mine.drOf (Mine.defOf 34)) (kwd := []) (N := 4000) Mine.top_left Mine.topSeen.hook.of Mine.topSeen.hook.keeps (fun s e => xl_of s (Bool.and_eq_true_iff.mp e).1) XL.keeps (by kernel_rfl) (by kernel_rfl) (by kernel_rfl) (fun s e => recFacts_of (Bool.and_eq_true_iff.mp e).2) (by kernel_rfl) said (by decide +kernel) ⟨rfl, rfl, rfl, rfl, rfl, by decide +kernel⟩ ?_ Mine.law_walks
  w_witness2
