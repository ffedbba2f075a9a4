import PyProof.Rows.All
import Wide.All
import OpenK.AllK
import Wide.FinOn
import Lean
import PySem.Challenge.RW_pu0039_02
set_option Elab.async false
set_option maxRecDepth 100000
set_option maxHeartbeats 8000000
set_option linter.all false
namespace Mine
open PySem PySem.W PyProof.Rows PySem.Calls

abbrev FH := Addr → Option Obj
def FLe (F F' : FH) : Prop := ∀ a o, F a = some o → F' a = some o
def FIn (F : FH) (h : Heap) : Prop := ∀ a o, F a = some o → h.get? a = some o
theorem FLe.refl (F : FH) : FLe F F := fun _ _ e => e
theorem FLe.trans {F G H : FH} (x : FLe F G) (y : FLe G H) : FLe F H := fun a o e => y a o (x a o e)

class Rep (α : Type) where
  rel : FH → Value → α → Prop
  mono : ∀ {F F' : FH} {v : Value} {a : α}, FLe F F' → rel F v a → rel F' v a

structure Flt where
  bits : UInt64
structure Txt where
  cs : List Nat
def Txt.str (x : Txt) : Str := ⟨x.cs.toArray⟩

instance : Rep Int := ⟨fun _ v i => ∃ t, v = .int i t, fun _ h => h⟩
instance : Rep Bool := ⟨fun _ v b => v = .bool b, fun _ h => h⟩
instance : Rep Flt := ⟨fun _ v x => ∃ t, v = .float x.bits t, fun _ h => h⟩
instance : Rep Txt := ⟨fun _ v x => ∃ t, v = .str x.str t, fun _ h => h⟩
instance : Rep Unit := ⟨fun _ v _ => v = .none, fun _ h => h⟩

def All2 {α : Type} (R : Value → α → Prop) : List Value → List α → Prop
  | [], [] => True
  | v :: vs, a :: as => R v a ∧ All2 R vs as
  | _, _ => False
theorem All2.imp {α : Type} {R R' : Value → α → Prop} (h : ∀ v a, R v a → R' v a) : ∀ {vs : List Value} {as : List α}, All2 R vs as → All2 R' vs as
  | [], [], _ => trivial
  | _ :: _, _ :: _, x => ⟨h _ _ x.1, All2.imp h x.2⟩
  | [], _ :: _, x => x.elim
  | _ :: _, [], x => x.elim
theorem All2.length {α : Type} {R : Value → α → Prop} : ∀ {vs : List Value} {as : List α}, All2 R vs as → vs.length = as.length
  | [], [], _ => rfl
  | _ :: _, _ :: _, x => by rw [List.length_cons, List.length_cons, All2.length x.2]
  | [], _ :: _, x => x.elim
  | _ :: _, [], x => x.elim
theorem All2.append {α : Type} {R : Value → α → Prop} : ∀ {vs ws : List Value} {as bs : List α}, All2 R vs as → All2 R ws bs → All2 R (vs ++ ws) (as ++ bs)
  | [], _, [], _, _, y => y
  | _ :: _, _, _ :: _, _, x, y => ⟨x.1, All2.append x.2 y⟩
  | [], _, _ :: _, _, x, _ => x.elim
  | _ :: _, _, [], _, x, _ => x.elim
theorem All2.get {α : Type} {R : Value → α → Prop} : ∀ {vs : List Value} {as : List α} {i : Nat} {a : α}, All2 R vs as → as[i]? = some a → ∃ v, vs[i]? = some v ∧ R v a
  | [], [], _, _, _, e => by cases e
  | v :: _, _ :: _, 0, _, x, e => by cases e; exact ⟨v, rfl, x.1⟩
  | _ :: _, _ :: _, i + 1, _, x, e => by
    obtain ⟨v, h1, h2⟩ := All2.get (i := i) x.2 (by simpa using e)
    exact ⟨v, by simpa using h1, h2⟩
  | [], _ :: _, _, _, x, _ => x.elim
  | _ :: _, [], _, _, x, _ => x.elim
theorem All2.take {α : Type} {R : Value → α → Prop} : ∀ (k : Nat) {vs : List Value} {as : List α}, All2 R vs as → All2 R (vs.take k) (as.take k)
  | 0, _, _, _ => trivial
  | _ + 1, [], [], _ => trivial
  | k + 1, _ :: _, _ :: _, x => ⟨x.1, All2.take k x.2⟩
  | _ + 1, [], _ :: _, x => x.elim
  | _ + 1, _ :: _, [], x => x.elim
theorem All2.drop {α : Type} {R : Value → α → Prop} : ∀ (k : Nat) {vs : List Value} {as : List α}, All2 R vs as → All2 R (vs.drop k) (as.drop k)
  | 0, _, _, x => x
  | _ + 1, [], [], _ => trivial
  | k + 1, _ :: _, _ :: _, x => All2.drop k x.2
  | _ + 1, [], _ :: _, x => x.elim
  | _ + 1, _ :: _, [], x => x.elim
theorem All2.set {α : Type} {R : Value → α → Prop} {v : Value} {a : α} (h : R v a) : ∀ (k : Nat) {vs : List Value} {as : List α}, All2 R vs as → All2 R (vs.set k v) (as.set k a)
  | _, [], [], _ => trivial
  | 0, _ :: _, _ :: _, x => ⟨h, x.2⟩
  | k + 1, _ :: _, _ :: _, x => ⟨x.1, All2.set h k x.2⟩
  | _, [], _ :: _, x => x.elim
  | _, _ :: _, [], x => x.elim

abbrev listObj (vs : List Value) (n : Nat) : Obj := { cls := .type "list", data := .seq vs.toArray n }
abbrev tupObj (vs : List Value) (n : Nat) : Obj := { cls := .type "tuple", data := .seq vs.toArray n }

instance {α : Type} [Rep α] : Rep (List α) :=
  ⟨fun F v xs => ∃ a vs n, v = .ref a ∧ F a = some (listObj vs n) ∧ All2 (Rep.rel F) vs xs,
   fun h ⟨a, vs, n, e, k, r⟩ => ⟨a, vs, n, e, h _ _ k, r.imp fun _ _ => Rep.mono h⟩⟩
structure TL (α : Type) where
  items : List α
instance {α : Type} [Rep α] : Rep (TL α) :=
  ⟨fun F v xs => ∃ a vs n, v = .ref a ∧ F a = some (tupObj vs n) ∧ All2 (Rep.rel F) vs xs.items,
   fun h ⟨a, vs, n, e, k, r⟩ => ⟨a, vs, n, e, h _ _ k, r.imp fun _ _ => Rep.mono h⟩⟩
/-- the contents of a tuple -/
class RepT (τ : Type) where
  relT : FH → List Value → τ → Prop
  monoT : ∀ {F F' : FH} {vs : List Value} {a : τ}, FLe F F' → relT F vs a → relT F' vs a
instance : RepT Unit := ⟨fun _ vs _ => vs = [], fun _ h => h⟩
instance {α τ : Type} [Rep α] [RepT τ] : RepT (α × τ) :=
  ⟨fun F vs p => ∃ v ws, vs = v :: ws ∧ Rep.rel F v p.1 ∧ RepT.relT F ws p.2,
   fun h ⟨v, ws, e, r, q⟩ => ⟨v, ws, e, Rep.mono h r, RepT.monoT h q⟩⟩
structure Tup (τ : Type) where
  it : τ
instance {τ : Type} [RepT τ] : Rep (Tup τ) :=
  ⟨fun F v t => ∃ a vs n, v = .ref a ∧ F a = some (tupObj vs n) ∧ RepT.relT F vs t.it,
   fun h ⟨a, vs, n, e, k, r⟩ => ⟨a, vs, n, e, h _ _ k, RepT.monoT h r⟩⟩

/-- what an expression may do: all that was there is there still; the frozen part grows by new things alone -/
structure Ext (s : Shared) (F : FH) (s' : Shared) (F' : FH) : Prop where
  keeps : Keeps s s'
  le : FLe F F'
  inn : FIn F' s'.heap
  new : ∀ a o, F' a = some o → F a = some o ∨ s.heap.get? a = none
theorem keeps_keep {s s' : Shared} (k : Keeps s s') : ∀ b o, s.heap.get? b = some o → s'.heap.get? b = some o := by
  obtain ⟨h', tk, rfl, hk⟩ := k; exact hk
theorem keeps_refl (s : Shared) : Keeps s s := ⟨s.heap, s.toks, rfl, fun _ _ e => e⟩
theorem keeps_trans {s s' s'' : Shared} (k : Keeps s s') (l : Keeps s' s'') : Keeps s s'' := by
  obtain ⟨h', tk, rfl, hk⟩ := k
  obtain ⟨h'', tk', rfl, hk'⟩ := l
  exact ⟨h'', tk', rfl, fun b o e => hk' b o (hk b o e)⟩
theorem keeps_toks {s : Shared} (t : Nat) : Keeps s { s with toks := t } := ⟨s.heap, t, rfl, fun _ _ e => e⟩
theorem Ext.refl {s : Shared} {F : FH} (h : FIn F s.heap) : Ext s F s F := ⟨keeps_refl s, FLe.refl F, h, fun _ _ e => .inl e⟩
theorem Ext.tok {s : Shared} {F : FH} (h : FIn F s.heap) (t : Nat) : Ext s F { s with toks := t } F := ⟨keeps_toks t, FLe.refl F, h, fun _ _ e => .inl e⟩
theorem Ext.trans {s s' s'' : Shared} {F F' F'' : FH} (x : Ext s F s' F') (y : Ext s' F' s'' F'') : Ext s F s'' F'' :=
  ⟨keeps_trans x.keeps y.keeps, x.le.trans y.le, y.inn, fun a o e => (y.new a o e).elim (x.new a o) fun n => .inr (by
    cases q : s.heap.get? a with
    | none => rfl
    | some o' => rw [keeps_keep x.keeps a o' q] at n; cases n)⟩
theorem Ext.of_keeps {s s' : Shared} {F : FH} (h : FIn F s.heap) (k : Keeps s s') : Ext s F s' F := ⟨k, FLe.refl F, fun a o e => keeps_keep k a o (h a o e), fun _ _ e => .inl e⟩
def FH.put (F : FH) (a : Addr) (o : Obj) : FH := fun b => if b = a then some o else F b
theorem FH.put_self (F : FH) (a : Addr) (o : Obj) : F.put a o a = some o := if_pos rfl
theorem FH.put_le {F : FH} {a : Addr} {o : Obj} {h : Heap} (hF : FIn F h) (e : h.get? a = some o) : FLe F (F.put a o) := fun b o' e' => by
  unfold FH.put
  split
  · rename_i hb; subst hb; have := hF _ _ e'; rw [e] at this; exact this
  · exact e'
/-- a new thing is frozen -/
theorem Ext.freeze {s s' : Shared} {F F' : FH} {a : Addr} {o : Obj} (x : Ext s F s' F') (e : s'.heap.get? a = some o) (n : s.heap.get? a = none) : Ext s F s' (F'.put a o) :=
  ⟨x.keeps, x.le.trans (FH.put_le x.inn e), fun b o' e' => by
    unfold FH.put at e'
    split at e'
    · rename_i hb; subst hb; cases e'; exact e
    · exact x.inn b o' e', fun b o' e' => by
    unfold FH.put at e'
    split at e'
    · rename_i hb; subst hb; exact .inr n
    · exact x.new b o' e'⟩
theorem get_size_none (h : Heap) : h.get? h.objs.size = none := by
  cases e : h.get? h.objs.size with
  | none => rfl
  | some o => exact absurd (Heap.lt_size e) (Nat.lt_irrefl _)
theorem Ext.push {s : Shared} {F : FH} (h : FIn F s.heap) (o : Obj) (t : Nat) : Ext s F { s with heap := s.heap.push o, toks := t } F :=
  Ext.of_keeps h ⟨_, _, rfl, fun _ _ e => Heap.get?_push_of_some o e⟩
theorem Ext.alloc {s : Shared} {F : FH} (h : FIn F s.heap) {o : Obj} (hf : o.isFreed = false) (t : Nat) : Ext s F { s with heap := s.heap.push o, toks := t } (F.put s.heap.objs.size o) :=
  (Ext.push h o t).freeze (Heap.get?_push_size _ hf) (get_size_none _)

def Pst {α : Type} [Rep α] (s : Shared) (F : FH) (a : α) : Value → Shared → Prop := fun v s' => ∃ F', Ext s F s' F' ∧ Rep.rel F' v a
def NoE : Value → Shared → Prop := fun _ _ => False
theorem Pst.trans {α : Type} [Rep α] {s s' s'' : Shared} {F F' : FH} {a : α} {v : Value} (x : Ext s F s' F') (y : Pst s' F' a v s'') : Pst s F a v s'' :=
  let ⟨F'', y, r⟩ := y; ⟨F'', x.trans y, r⟩
theorem pst_tok {α : Type} [Rep α] {s : Shared} {F : FH} {a : α} {v : Value} (h : FIn F s.heap) (t : Nat) (r : Rep.rel F v a) : Pst s F a v { s with toks := t } := ⟨F, Ext.tok h t, r⟩
theorem pst_same {α : Type} [Rep α] {s : Shared} {F : FH} {a : α} {v : Value} (h : FIn F s.heap) (r : Rep.rel F v a) : Pst s F a v s := ⟨F, Ext.refl h, r⟩

/-- a new list of the call's -/
theorem pst_list {α : Type} [Rep α] {s : Shared} {F : FH} {vs : List Value} {xs : List α} (h : FIn F s.heap) (r : All2 (Rep.rel F) vs xs) (t : Nat) :
    Pst s F xs (.ref s.heap.objs.size) { s with heap := s.heap.push (listObj vs 0), toks := t } :=
  have x := Ext.alloc h (o := listObj vs 0) rfl t
  ⟨_, x, _, vs, 0, rfl, FH.put_self .., r.imp fun _ _ => Rep.mono x.le⟩
theorem pst_tup {τ : Type} [RepT τ] {s : Shared} {F : FH} {vs : List Value} {x : Tup τ} (h : FIn F s.heap) (r : RepT.relT F vs x.it) (t : Nat) :
    Pst s F x (.ref s.heap.objs.size) { s with heap := s.heap.push (tupObj vs 0), toks := t } :=
  have y := Ext.alloc h (o := tupObj vs 0) rfl t
  ⟨_, y, _, vs, 0, rfl, FH.put_self .., RepT.monoT y.le r⟩
end Mine
namespace Mine
open PySem PySem.W PyProof.Rows PySem.Calls

def bind2 {α β γ : Type} (o : Option α) (p : Option β) (f : α → β → Option γ) : Option γ := o.bind fun a => p.bind fun b => f a b
structure Cx where
  prog : Program
  w : World
  K : Frag
  mg : Str → Option Value
  mb : Str → Option Value
structure Bs (c : Cx) (h : Heap) : Prop where
  frag : c.K.In h
  g : h.Ns mainGlobals c.mg
  b : h.Ns builtinsNs c.mb
  bi : ∀ x : Str, x ≠ "__name__" → c.mb x = bootBuiltins x
  lim : h.NoLimit
theorem Bs.keeps {c : Cx} {h h' : Heap} (x : Bs c h) (k : ∀ b o, h.get? b = some o → h'.get? b = some o) : Bs c h' :=
  ⟨fun a o e => k a o (x.frag a o e), x.g.keeps k, x.b.keeps k, x.bi, x.lim.keeps k⟩
structure OkA (n : Nat) (A : Around) : Prop where
  hd : A.handled = none
  dp : A.depth + n < recursionLimit
  un : A.units + 8 * n + 8 < cLine
theorem OkA.le {n m : Nat} {A : Around} (x : OkA n A) (h : m ≤ n) : OkA m A := ⟨x.hd, by have := x.dp; omega, by have := x.un; omega⟩

def isLoc : Option NameKind → Bool
  | some .local => true
  | some .cell => true
  | some .free => true
  | _ => false
structure Rd (env : Env) (ρ : Str → Option Value) (h : Heap) : Prop where
  kind : env.scope.kind = .function
  glob : env.globals = mainGlobals
  bui : env.builtins = builtinsNs
  loc : ∃ m, h.Ns env.locals m ∧ ∀ x v, env.kindOf x = some .local → ρ x = some v → m x = some v
  cel : ∀ x, (env.kindOf x = some .cell ∨ env.kindOf x = some .free) → ∃ cc, env.cells.lookup x = some cc ∧ h.IsCell cc (ρ x)
theorem Rd.keeps {env : Env} {ρ : Str → Option Value} {h h' : Heap} (x : Rd env ρ h) (k : ∀ b o, h.get? b = some o → h'.get? b = some o) : Rd env ρ h' :=
  ⟨x.kind, x.glob, x.bui, let ⟨m, a, b⟩ := x.loc; ⟨m, a.keeps k, b⟩, fun y hy => let ⟨cc, a, b⟩ := x.cel y hy; ⟨cc, a, b.keeps k⟩⟩

abbrev Slots := Nat → Option (Addr × Obj)
structure Ent where
  holds : FH → Slots → Option Value → Prop
  slot : Option Nat
  mono : ∀ {F F' : FH} {μ : Slots} {v : Option Value}, FLe F F' → holds F μ v → holds F' μ v
  off : ∀ {F : FH} {μ μ' : Slots} {v : Option Value}, (∀ k, slot = some k → μ' k = μ k) → holds F μ v → holds F μ' v
def val {α : Type} [Rep α] (o : Option α) : Ent :=
  ⟨fun F _ ov => ∀ a, o = some a → ∃ v, ov = some v ∧ Rep.rel F v a, none, fun h x a e => let ⟨v, e', r⟩ := x a e; ⟨v, e', Rep.mono h r⟩, fun _ x => x⟩
def own {α : Type} [Rep α] (i : Nat) (o : Option (List α)) : Ent :=
  ⟨fun F μ ov => ∀ xs, o = some xs → ∃ a vs n, ov = some (.ref a) ∧ μ i = some (a, listObj vs n) ∧ All2 (Rep.rel F) vs xs, some i,
   fun h x a e => let ⟨v, vs, n, e', m, r⟩ := x a e; ⟨v, vs, n, e', m, r.imp fun _ _ => Rep.mono h⟩,
   fun h x a e => let ⟨v, vs, n, e', m, r⟩ := x a e; ⟨v, vs, n, e', (h i rfl).trans m, r⟩⟩
abbrev Sh := List (Str × Ent)
def MIn (μ : Slots) (h : Heap) : Prop := ∀ i a o, μ i = some (a, o) → h.get? a = some o

structure Rs (c : Cx) (env : Env) (Γ : Sh) (F : FH) (s : Shared) : Prop where
  bs : Bs c s.heap
  inn : FIn F s.heap
  kin : ∀ p ∈ Γ, isLoc (env.kindOf p.1) = true
  vars : ∃ ρ μ, Rd env ρ s.heap ∧ MIn μ s.heap ∧ ∀ p ∈ Γ, p.2.holds F μ (ρ p.1)
theorem Rs.ext {c : Cx} {env : Env} {Γ : Sh} {F F' : FH} {s s' : Shared} (x : Rs c env Γ F s) (y : Ext s F s' F') : Rs c env Γ F' s' :=
  have k := keeps_keep y.keeps
  ⟨x.bs.keeps k, y.inn, x.kin, let ⟨ρ, μ, a, b, d⟩ := x.vars; ⟨ρ, μ, a.keeps k, fun i a o e => k _ _ (b i a o e), fun p hp => p.2.mono y.le (d p hp)⟩⟩

structure Ev (c : Cx) (n : Nat) (env : Env) (Γ : Sh) {α : Type} [Rep α] (e : Expr) (o : Option α) : Prop where
  run : ∀ a, o = some a → ∀ A s F, OkA n A → Rs c env Γ F s → wpAny (model c.prog c.w) A (eval e env) (Pst s F a) NoE s
instance {c : Cx} {n : Nat} {env : Env} {Γ : Sh} {α : Type} [Rep α] {e : Expr} {o : Option α} : CoeFun (Ev c n env Γ e o) (fun _ => ∀ a, o = some a → ∀ A s F, OkA n A → Rs c env Γ F s → wpAny (model c.prog c.w) A (eval e env) (Pst s F a) NoE s) := ⟨Ev.run⟩
structure Tst (c : Cx) (n : Nat) (env : Env) (Γ : Sh) (e : Expr) (o : Option Bool) : Prop where
  run : ∀ b, o = some b → ∀ A s F, OkA n A → Rs c env Γ F s → wpAny (model c.prog c.w) A (isTrue e env (eval e env)) (fun r s' => r = b ∧ ∃ F', Ext s F s' F') NoE s

instance {c : Cx} {n : Nat} {env : Env} {Γ : Sh} {e : Expr} {o : Option Bool} : CoeFun (Tst c n env Γ e o) (fun _ => ∀ b, o = some b → ∀ A s F, OkA n A → Rs c env Γ F s → wpAny (model c.prog c.w) A (isTrue e env (eval e env)) (fun r s' => r = b ∧ ∃ F', Ext s F s' F') NoE s) := ⟨Tst.run⟩
section
variable {c : Cx} {n : Nat} {env : Env} {Γ : Sh} {α β γ : Type} [Rep α] [Rep β] [Rep γ]

/-- the step from one expression to what is done with its value -/
theorem Ev.use {e : Expr} {o : Option α} (h : Ev c n env Γ e o) {a : α} (ha : o = some a) {A : Around} {s : Shared} {F : FH} (hA : OkA n A) (R : Rs c env Γ F s) {Q : Value → Shared → Prop}
    (k : ∀ v s' F', Ext s F s' F' → Rs c env Γ F' s' → Rep.rel F' v a → Q v s') : wpAny (model c.prog c.w) A (eval e env) Q NoE s :=
  wpAny_mono (h a ha A s F hA R) (fun v s' ⟨F', x, r⟩ => k v s' F' x (R.ext x) r) fun _ _ x => x

theorem bind_some {δ ε : Type} {o : Option δ} {f : δ → Option ε} {e : ε} (h : o.bind f = some e) : ∃ d, o = some d ∧ f d = some e := by
  cases o with
  | none => cases h
  | some d => exact ⟨d, rfl, h⟩

theorem loadLoc {x : Str} {ρ : Str → Option Value} {A : Around} {s : Shared} {Q : Value → Shared → Prop} {E : Value → Shared → Prop} {v : Value} {M : Model} (R : Rd env ρ s.heap) (hk : isLoc (env.kindOf x) = true) (hv : ρ x = some v) (hQ : Q v s)
    (hn : (x == ("__classdict__" : Str)) = false) : wpAny M A (loadName env x) Q E s := by
  unfold isLoc at hk
  split at hk
  · rename_i e
    obtain ⟨m, hm, h⟩ := R.loc
    exact wpAny_loadName_local R.kind e hm (h x v e hv) hQ
  · rename_i e
    obtain ⟨cc, h1, h2⟩ := R.cel x (.inl e)
    exact wpAny_loadName_cell R.kind e h1 (hv ▸ h2) hQ
  · rename_i e
    obtain ⟨cc, h1, h2⟩ := R.cel x (.inr e)
    exact wpAny_loadName_free R.kind e h1 (hv ▸ h2) hQ hn
  · cases hk

def plainName (x : Str) : Bool := !(x == ("__classdict__" : Str)) && !(x == ("__debug__" : Str))
theorem ev_name {x : Str} {pos : Pos} {o : Option α} (i : Nat) (hi : Γ[i]? = some (x, val o)) (hx : plainName x = true) : Ev c n env Γ (.Name x pos) o := by
  refine ⟨?_⟩
  intro a ha A s F hA R
  obtain ⟨ρ, μ, rd, _, hv⟩ := R.vars
  have hm := List.mem_of_getElem? hi
  obtain ⟨v, e, r⟩ := hv _ hm a ha
  unfold plainName at hx
  simp only [Bool.and_eq_true, Bool.not_eq_true'] at hx
  exact wpAny_Name (loadLoc rd (R.kin _ hm) e (pst_same R.inn r) hx.1) hx.2

theorem ev_int {i : Int} {k : Nat} {pos : Pos} : Ev c n env Γ (.Constant (.int i) k pos) (some i) := by
  refine ⟨?_⟩
  intro a ha A s F hA R; cases ha
  exact fun _ _ _ => pst_tok R.inn _ ⟨_, rfl⟩
theorem ev_bool {b : Bool} {k : Nat} {pos : Pos} : Ev c n env Γ (.Constant (.bool b) k pos) (some b) := by
  refine ⟨?_⟩
  intro a ha A s F hA R; cases ha
  exact fun _ _ _ => pst_same R.inn rfl
theorem ev_float {x : UInt64} {k : Nat} {pos : Pos} : Ev c n env Γ (.Constant (.float x) k pos) (some (⟨x⟩ : Flt)) := by
  refine ⟨?_⟩
  intro a ha A s F hA R; cases ha
  exact fun _ _ _ => pst_tok R.inn _ ⟨_, rfl⟩
theorem ev_str {x : Str} {k : Nat} {pos : Pos} (t : Txt) (h : x = t.str) : Ev c n env Γ (.Constant (.str x) k pos) (some t) := by
  refine ⟨?_⟩
  intro a ha A s F hA R; cases ha; subst h
  exact fun _ _ _ => pst_tok R.inn _ ⟨_, rfl⟩

structure BinS (c : Cx) (n : Nat) (op : Operator) (a : α) (b : β) (g : γ) : Prop where
  run : ∀ A s F va vb, OkA n A → Bs c s.heap → FIn F s.heap → Rep.rel F va a → Rep.rel F vb b → wpAny (model c.prog c.w) A (binaryOp op va vb) (Pst s F g) NoE s
instance {c : Cx} {n : Nat} {op : Operator} {a : α} {b : β} {g : γ} : CoeFun (BinS c n op a b g) (fun _ => ∀ A s F va vb, OkA n A → Bs c s.heap → FIn F s.heap → Rep.rel F va a → Rep.rel F vb b → wpAny (model c.prog c.w) A (binaryOp op va vb) (Pst s F g) NoE s) := ⟨BinS.run⟩
structure CmpS (c : Cx) (n : Nat) (op : CmpOp) (a : α) (b : β) (r : Bool) : Prop where
  run : ∀ A s F va vb, OkA n A → Bs c s.heap → FIn F s.heap → Rep.rel F va a → Rep.rel F vb b → wpAny (model c.prog c.w) A (compareOp op va vb) (Pst s F r) NoE s
instance {c : Cx} {n : Nat} {op : CmpOp} {a : α} {b : β} {r : Bool} : CoeFun (CmpS c n op a b r) (fun _ => ∀ A s F va vb, OkA n A → Bs c s.heap → FIn F s.heap → Rep.rel F va a → Rep.rel F vb b → wpAny (model c.prog c.w) A (compareOp op va vb) (Pst s F r) NoE s) := ⟨CmpS.run⟩
structure UnS (c : Cx) (n : Nat) (op : UnaryOp) (a : α) (g : γ) : Prop where
  run : ∀ A s F va, OkA n A → Bs c s.heap → FIn F s.heap → Rep.rel F va a → wpAny (model c.prog c.w) A (unaryOp op va) (Pst s F g) NoE s

instance {c : Cx} {n : Nat} {op : UnaryOp} {a : α} {g : γ} : CoeFun (UnS c n op a g) (fun _ => ∀ A s F va, OkA n A → Bs c s.heap → FIn F s.heap → Rep.rel F va a → wpAny (model c.prog c.w) A (unaryOp op va) (Pst s F g) NoE s) := ⟨UnS.run⟩
theorem ev_bin {op : Operator} {l r : Expr} {pos : Pos} {ol : Option α} {or : Option β} {f : α → β → Option γ} (hl : Ev c n env Γ l ol) (hr : Ev c n env Γ r or) (hf : ∀ a b g, f a b = some g → BinS c n op a b g) :
    Ev c n env Γ (.BinOp l op r pos) (bind2 ol or f) := by
  refine ⟨?_⟩
  intro g hg A s F hA R
  obtain ⟨a, ha, hg⟩ := bind_some hg
  obtain ⟨b, hb, hg⟩ := bind_some hg
  refine wpAny_BinOp (hl.use ha hA R fun v s₁ F₁ x₁ R₁ r₁ => hr.use hb hA R₁ fun u s₂ F₂ x₂ R₂ r₂ => ?_)
  exact wpAny_mono (hf a b g hg A s₂ F₂ v u hA R₂.bs R₂.inn (Rep.mono x₂.le r₁) r₂) (fun _ _ p => Pst.trans (x₁.trans x₂) p) fun _ _ x => x
theorem ev_cmp {op : CmpOp} {l r : Expr} {pos : Pos} {ol : Option α} {or : Option β} {f : α → β → Option Bool} (hl : Ev c n env Γ l ol) (hr : Ev c n env Γ r or) (hf : ∀ a b g, f a b = some g → CmpS c n op a b g)
    (hm : behindInMarks op r = false := by rfl) : Ev c n env Γ (.Compare l [op] [r] pos) (bind2 ol or f) := by
  refine ⟨?_⟩
  intro g hg A s F hA R
  obtain ⟨a, ha, hg⟩ := bind_some hg
  obtain ⟨b, hb, hg⟩ := bind_some hg
  refine wpAny_Compare1 (hl.use ha hA R fun v s₁ F₁ x₁ R₁ r₁ => hr.use hb hA R₁ fun u s₂ F₂ x₂ R₂ r₂ => ?_) hm
  exact wpAny_mono (hf a b g hg A s₂ F₂ v u hA R₂.bs R₂.inn (Rep.mono x₂.le r₁) r₂) (fun _ _ p => Pst.trans (x₁.trans x₂) p) fun _ _ x => x
theorem tst_cmp {op : CmpOp} {l r : Expr} {pos : Pos} {ol : Option α} {or : Option β} {f : α → β → Option Bool} (hl : Ev c n env Γ l ol) (hr : Ev c n env Γ r or) (hf : ∀ a b g, f a b = some g → CmpS c n op a b g)
    (hm : behindInMarks op r = false := by rfl) : Tst c n env Γ (.Compare l [op] [r] pos) (bind2 ol or f) := by
  refine ⟨?_⟩
  intro g hg A s F hA R
  obtain ⟨a, ha, hg⟩ := bind_some hg
  obtain ⟨b, hb, hg⟩ := bind_some hg
  refine wpAny_isTrue_Compare1 (hl.use ha hA R fun v s₁ F₁ x₁ R₁ r₁ => hr.use hb hA R₁ fun u s₂ F₂ x₂ R₂ r₂ => ?_) hm
  refine wpAny_mono (hf a b g hg A s₂ F₂ v u hA R₂.bs R₂.inn (Rep.mono x₂.le r₁) r₂) (fun w s₃ p => ?_) fun _ _ x => x
  obtain ⟨F₃, x₃, rfl⟩ := p
  exact wpAny_truthy_bool ⟨rfl, F₃, (x₁.trans x₂).trans x₃⟩
theorem ev_un {op : UnaryOp} {e : Expr} {pos : Pos} {o : Option α} {f : α → Option γ} (he : Ev c n env Γ e o) (hf : ∀ a g, f a = some g → UnS c n op a g) : Ev c n env Γ (.UnaryOp op e pos) (o.bind f) := by
  refine ⟨?_⟩
  intro g hg A s F hA R
  obtain ⟨a, ha, hg⟩ := bind_some hg
  show wpAny _ _ (eval e env >>= fun v => standAt pos >>= fun _ => holding [v] (unaryOp op v)) _ _ _
  refine wpAny_bind (he.use ha hA R fun v s₁ F₁ x₁ R₁ r₁ => wpAny_bind (wpAny_standAt (wpAny_holding ?_)))
  exact wpAny_mono (hf a g hg A s₁ F₁ v hA R₁.bs R₁.inn r₁) (fun _ _ p => Pst.trans x₁ p) fun _ _ x => x

/-- any test that is not a comparison, a not, an and, an or, a conditional: its value's truth -/
def plainTest : Expr → Bool
  | .UnaryOp .Not .. | .BoolOp .. | .IfExp .. | .Compare .. => false
  | _ => true
theorem isTrue_plainTest {e : Expr} {env : Env} {whole : Sem Value} (h : plainTest e = true) : isTrue e env whole = (do let v ← whole; standAt e.pos; holding [v] (truthy v)) := by
  cases e <;> first | rfl | (cases h; done) | (rename_i op _ _; cases op <;> first | rfl | (cases h; done))
theorem tst_val {e : Expr} {o : Option Bool} (he : Ev c n env Γ e o) (hp : plainTest e = true := by rfl) : Tst c n env Γ e o := by
  refine ⟨?_⟩
  intro b hb A s F hA R
  rw [isTrue_plainTest hp]
  refine wpAny_bind (he.use hb hA R fun v s₁ F₁ x₁ R₁ r₁ => wpAny_bind (wpAny_standAt (wpAny_holding ?_)))
  cases r₁
  exact wpAny_truthy_bool ⟨rfl, F₁, x₁⟩
theorem tst_not {e : Expr} {pos : Pos} {o : Option Bool} (he : Tst c n env Γ e o) : Tst c n env Γ (.UnaryOp .Not e pos) (o.map (!·)) := by
  refine ⟨?_⟩
  intro b hb A s F hA R
  obtain ⟨b', hb', rfl⟩ := Option.map_eq_some_iff.mp hb
  show wpAny _ _ (isTrue e env (eval e env) >>= fun x => pure (!x)) _ _ _
  exact wpAny_bind (wpAny_mono (he b' hb' A s F hA R) (fun r s' h => wpAny_pure ⟨by rw [h.1], h.2⟩) fun _ _ x => x)
def andF (a : Option Bool) (b : Unit → Option Bool) : Option Bool := a.bind fun x => if x then b () else some false
theorem tst_and2 {e1 e2 : Expr} {pos : Pos} {o1 o2 : Option Bool} (h1 : Tst c n env Γ e1 o1) (h2 : Tst c n env Γ e2 o2) : Tst c n env Γ (.BoolOp .And [e1, e2] pos) (andF o1 fun _ => o2) := by
  refine ⟨?_⟩
  intro b hb A s F hA R
  obtain ⟨b1, hb1, hb⟩ := bind_some hb
  show wpAny _ _ (allTrue .And [e1, e2] env) _ _ _
  show wpAny _ _ (isTrue e1 env (eval e1 env) >>= fun x => match BoolOp.And, x with | .And, false => pure false | .Or, true => pure true | _, _ => allTrue .And [e2] env) _ _ _
  refine wpAny_bind (wpAny_mono (h1 b1 hb1 A s F hA R) (fun r s₁ h => ?_) fun _ _ x => x)
  obtain ⟨rfl, F₁, x₁⟩ := h
  cases r with
  | false => cases hb; exact wpAny_pure ⟨rfl, F₁, x₁⟩
  | true =>
    show wpAny _ _ (isTrue e2 env (eval e2 env) >>= fun x => match BoolOp.And, x with | .And, false => pure false | .Or, true => pure true | _, _ => allTrue .And [] env) _ _ _
    refine wpAny_bind (wpAny_mono (h2 b hb A s₁ F₁ hA (R.ext x₁)) (fun r s₂ h => ?_) fun _ _ x => x)
    obtain ⟨rfl, F₂, x₂⟩ := h
    cases r <;> exact wpAny_pure ⟨rfl, F₂, x₁.trans x₂⟩
end
end Mine
namespace Mine
open PySem PySem.W PyProof.Rows PySem.Calls

/-- an activation: its block, the state and the frozen part at its entry -/
structure Ac where
  env : Env
  s0 : Shared
  F0 : FH
  prot : FH
/-- the same activation, other things kept -/
def Ac.pr (X : Ac) (F : FH) (P : FH) : Ac := { X with F0 := F, prot := P }
structure StE (c : Cx) (X : Ac) (F : FH) (s : Shared) : Prop where
  bs0 : Bs c X.s0.heap
  ext : Ext X.s0 X.F0 s F
  prt : FIn X.prot s.heap
  prn : ∀ a o, F a = some o → X.F0 a = some o ∨ X.prot a = none
theorem StE.step {c : Cx} {X : Ac} {F F' : FH} {s s' : Shared} (x : StE c X F s) (y : Ext s F s' F') : StE c X F' s' :=
  ⟨x.bs0, x.ext.trans y, fun a o e => keeps_keep y.keeps a o (x.prt a o e), fun a o e => (y.new a o e).elim (x.prn a o) fun q => .inr (by
    cases z : X.prot a with
    | none => rfl
    | some o' => rw [x.prt a o' z] at q; cases q)⟩
structure Sep (X : Ac) (μ : Slots) (F : FH) (h : Heap) : Prop where
  locN : X.s0.heap.get? X.env.locals = none
  locF : F X.env.locals = none
  locP : X.prot X.env.locals = none
  celH : ∀ x cc, X.env.cells.lookup x = some cc → ∃ o, h.get? cc = some o
  celN : ∀ x cc, X.env.cells.lookup x = some cc → X.s0.heap.get? cc = none
  celF : ∀ x cc, X.env.cells.lookup x = some cc → F cc = none
  celP : ∀ x cc, X.env.cells.lookup x = some cc → X.prot cc = none
  celL : ∀ x cc, X.env.cells.lookup x = some cc → cc ≠ X.env.locals
  celA : X.env.cells.Pairwise fun x y => x.2 ≠ y.2
  muN : ∀ i a o, μ i = some (a, o) → X.s0.heap.get? a = none
  muF : ∀ i a o, μ i = some (a, o) → F a = none
  muP : ∀ i a o, μ i = some (a, o) → X.prot a = none
  muL : ∀ i a o, μ i = some (a, o) → a ≠ X.env.locals
  muC : ∀ i a o, μ i = some (a, o) → ∀ x cc, X.env.cells.lookup x = some cc → a ≠ cc
  muA : ∀ i j a o b p, i ≠ j → μ i = some (a, o) → μ j = some (b, p) → a ≠ b
def isSt : Option NameKind → Bool
  | some .local => true
  | some .cell => true
  | _ => false
theorem isSt_loc {k : Option NameKind} (h : isSt k = true) : isLoc k = true := by
  unfold isSt at h; split at h <;> first | rfl | cases h
structure Stv (c : Cx) (X : Ac) (Γ : Sh) (F : FH) (s : Shared) (ρ : Str → Option Value) (μ : Slots) : Prop where
  ste : StE c X F s
  kin : ∀ p ∈ Γ, isSt (X.env.kindOf p.1) = true
  nod : (Γ.map (·.1)).Nodup
  rd : Rd X.env ρ s.heap
  mu : MIn μ s.heap
  sep : Sep X μ F s.heap
  ent : ∀ p ∈ Γ, p.2.holds F μ (ρ p.1)
def Stt (c : Cx) (X : Ac) (Γ : Sh) (F : FH) (s : Shared) : Prop := ∃ ρ μ, Stv c X Γ F s ρ μ

section
variable {c : Cx} {X : Ac} {Γ : Sh} {F : FH} {s : Shared} {ρ : Str → Option Value} {μ : Slots}
theorem Stv.bs (x : Stv c X Γ F s ρ μ) : Bs c s.heap := x.ste.bs0.keeps (keeps_keep x.ste.ext.keeps)
theorem Stv.rs (x : Stv c X Γ F s ρ μ) : Rs c X.env Γ F s := ⟨x.bs, x.ste.ext.inn, fun p hp => isSt_loc (x.kin p hp), ρ, μ, x.rd, x.mu, x.ent⟩
theorem not_some_of {α : Type} {o : Option α} (h : ∀ x, o ≠ some x) : o = none := by
  cases o with
  | none => rfl
  | some x => exact absurd rfl (h x)
theorem Sep.ext {s' : Shared} {F' : FH} (x : Sep X μ F s.heap) (hl : ∃ o, s.heap.get? X.env.locals = some o) (m : MIn μ s.heap) (y : Ext s F s' F') : Sep X μ F' s'.heap := by
  have old : ∀ a, (∃ o, s.heap.get? a = some o) → F a = none → F' a = none := fun a ⟨o, e⟩ h => not_some_of fun o' q => by
    rcases y.new a o' q with q | q
    · rw [h] at q; cases q
    · rw [e] at q; cases q
  exact ⟨x.locN, old _ hl x.locF, x.locP, fun n cc h => let ⟨o, e⟩ := x.celH n cc h; ⟨o, keeps_keep y.keeps _ _ e⟩, x.celN, fun n cc h => old cc (x.celH n cc h) (x.celF n cc h), x.celP, x.celL, x.celA, x.muN,
    fun i a o h => old a ⟨o, m i a o h⟩ (x.muF i a o h), x.muP, x.muL, x.muC, x.muA⟩
theorem Rd.locH {env : Env} {h : Heap} (x : Rd env ρ h) : ∃ o, h.get? env.locals = some o := let ⟨_, ⟨o, _, _, e, _⟩, _⟩ := x.loc; ⟨o, e⟩
theorem Stv.ext {s' : Shared} {F' : FH} (x : Stv c X Γ F s ρ μ) (y : Ext s F s' F') : Stv c X Γ F' s' ρ μ :=
  have k := keeps_keep y.keeps
  ⟨x.ste.step y, x.kin, x.nod, x.rd.keeps k, fun i a o e => k _ _ (x.mu i a o e), x.sep.ext x.rd.locH x.mu y, fun p hp => p.2.mono y.le (x.ent p hp)⟩
theorem Stt.rs (x : Stt c X Γ F s) : Rs c X.env Γ F s := let ⟨_, _, y⟩ := x; y.rs
theorem Stt.ext {s' : Shared} {F' : FH} (x : Stt c X Γ F s) (y : Ext s F s' F') : Stt c X Γ F' s' := let ⟨ρ, μ, z⟩ := x; ⟨ρ, μ, z.ext y⟩
theorem Stt.ste (x : Stt c X Γ F s) : StE c X F s := let ⟨_, _, y⟩ := x; y.ste

/-- one of the activation's own things turns -/
theorem StE.turn {h' : Heap} {t : Nat} {a : Addr} (x : StE c X F s) (hs : Heap.SameBut a s.heap h') (hN : X.s0.heap.get? a = none) (hF : F a = none) (hP : X.prot a = none) : StE c X F { s with heap := h', toks := t } := by
  obtain ⟨bs0, ⟨⟨h₁, t₁, rfl, hk⟩, le, inn, new⟩, prt, prn⟩ := x
  refine ⟨bs0, ⟨⟨h', t, rfl, fun b o e => ?_⟩, le, fun b o e => ?_, new⟩, fun b o e => ?_, prn⟩
  · rw [hs.2 b (by rintro rfl; rw [hN] at e; cases e)]; exact hk b o e
  · show h'.get? b = some o
    rw [hs.2 b (by rintro rfl; rw [hF] at e; cases e)]; exact inn b o e
  · show h'.get? b = some o
    rw [hs.2 b (by rintro rfl; rw [hP] at e; cases e)]; exact prt b o e
theorem set_mem {Γ : Sh} {i : Nat} {x : Str} {e0 e : Ent} (hi : Γ[i]? = some (x, e0)) (hn : (Γ.map (·.1)).Nodup) {p : Str × Ent} (hp : p ∈ Γ.set i (x, e)) : p = (x, e) ∨ (p ∈ Γ ∧ p.1 ≠ x) := by
  induction Γ generalizing i with
  | nil => cases hi
  | cons q Γ ih =>
    rw [List.map_cons, List.nodup_cons] at hn
    cases i with
    | zero =>
      cases hi
      rcases List.mem_cons.mp hp with h | h
      · exact .inl h
      · exact .inr ⟨.tail _ h, fun e => hn.1 (List.mem_map.mpr ⟨p, h, e⟩)⟩
    | succ i =>
      rcases List.mem_cons.mp hp with h | h
      · refine .inr ⟨by rw [h]; exact .head _, fun e => hn.1 ?_⟩
        rw [h] at e
        rw [e]
        exact List.mem_map.mpr ⟨(x, e0), List.mem_of_getElem? (show Γ[i]? = some (x, e0) by simpa using hi), rfl⟩
      · rcases ih (by simpa using hi) hn.2 h with h | h
        · exact .inl h
        · exact .inr ⟨.tail _ h.1, h.2⟩
theorem map_set_names {Γ : Sh} {i : Nat} {x : Str} {e0 e : Ent} (hi : Γ[i]? = some (x, e0)) : (Γ.set i (x, e)).map (·.1) = Γ.map (·.1) := by
  rw [List.map_set]
  have : (Γ.map (·.1))[i]? = some x := by rw [List.getElem?_map, hi]; rfl
  exact X.set_same this

def putV (ρ : Str → Option Value) (x : Str) (v : Value) : Str → Option Value := fun y => if y = x then some v else ρ y

theorem store_gen {M : Model} {A : Around} {E : Value → Shared → Prop} {Q : Unit → Shared → Prop} {i : Nat} {x : Str} {e0 e : Ent} {v : Value} (hi : Γ[i]? = some (x, e0)) (R : Stv c X Γ F s ρ μ) (he : e.holds F μ (some v))
    (k : ∀ s', Stv c X (Γ.set i (x, e)) F s' (putV ρ x v) μ → Q () s') : wpAny M A (storeName X.env x v) Q E s := by
  have hm := List.mem_of_getElem? hi
  have hk := R.kin _ hm
  have kin' : ∀ p ∈ Γ.set i (x, e), isSt (X.env.kindOf p.1) = true := fun p hp => by
    rcases set_mem hi R.nod hp with h | h
    · rw [h]; exact hk
    · exact R.kin p h.1
  have ent' : ∀ p ∈ Γ.set i (x, e), p.2.holds F μ (putV ρ x v p.1) := fun p hp => by
    rcases set_mem hi R.nod hp with h | h
    · rw [h]; show e.holds F μ (if x = x then some v else ρ x); rw [if_pos rfl]; exact he
    · show p.2.holds F μ (if p.1 = x then some v else ρ p.1); rw [if_neg h.2]; exact R.ent p h.1
  have nod' : ((Γ.set i (x, e)).map (·.1)).Nodup := by rw [map_set_names hi]; exact R.nod
  have fine : ∀ h' t a, Heap.SameBut a s.heap h' → (∃ o, h'.get? a = some o) → X.s0.heap.get? a = none → F a = none → X.prot a = none → (∀ i b o, μ i = some (b, o) → b ≠ a) → Rd X.env (putV ρ x v) h' → Q () { s with heap := h', toks := t } := fun h' t a hs hA hN hF hP hmu rd' => by
    refine k _ ⟨R.ste.turn hs hN hF hP, kin', nod', rd', fun i b o e => ?_, ?_, ent'⟩
    · show h'.get? b = some o
      rw [hs.2 b (hmu i b o e)]; exact R.mu i b o e
    · have S := R.sep
      refine ⟨S.locN, S.locF, S.locP, fun n cc h => ?_, S.celN, S.celF, S.celP, S.celL, S.celA, S.muN, S.muF, S.muP, S.muL, S.muC, S.muA⟩
      obtain ⟨o, ho⟩ := S.celH n cc h
      by_cases hc : cc = a
      · rw [hc]; exact hA
      · exact ⟨o, by show h'.get? cc = some o; rw [hs.2 cc hc]; exact ho⟩
  obtain ⟨m, hns, hmr⟩ := R.rd.loc
  unfold isSt at hk
  split at hk
  · rename_i hkind
    refine wpAny_storeName_local hkind hns (fun h' hn hs => ?_) (by rw [R.rd.kind]; rfl)
    refine fine h' _ X.env.locals hs (let ⟨o, _, _, e, _⟩ := hn; ⟨o, e⟩) R.sep.locN R.sep.locF R.sep.locP (fun i b o h => R.sep.muL i b o h) ⟨R.rd.kind, R.rd.glob, R.rd.bui, ⟨_, hn, fun y w hy hw => ?_⟩, fun y hy => ?_⟩
    · show (if y = x then some v else m y) = some w
      have hw' : (if y = x then some v else ρ y) = some w := hw
      by_cases hyx : y = x
      · rw [if_pos hyx] at hw' ⊢; exact hw'
      · rw [if_neg hyx] at hw' ⊢; exact hmr y w hy hw'
    · obtain ⟨cc, h1, h2⟩ := R.rd.cel y hy
      have hyx : y ≠ x := by rintro rfl; rw [hkind] at hy; rcases hy with h | h <;> cases h
      refine ⟨cc, h1, ?_⟩
      show h'.IsCell cc (if y = x then some v else ρ y)
      rw [if_neg hyx]
      exact h2.sameBut hs (R.sep.celL y cc h1)
  · rename_i hkind
    obtain ⟨cc, h1, h2⟩ := R.rd.cel x (.inl hkind)
    have hmem := mem_of_lookup h1
    refine wpAny_storeName_cell R.rd.kind hkind h1 h2 fun h' hc hs => ?_
    refine fine h' _ cc hs (let ⟨o, e, _⟩ := hc; ⟨o, e⟩) (R.sep.celN x cc h1) (R.sep.celF x cc h1) (R.sep.celP x cc h1) (fun i b o h => R.sep.muC i b o h x cc h1) ⟨R.rd.kind, R.rd.glob, R.rd.bui, ⟨m, hns.sameBut hs (R.sep.celL x cc h1).symm, fun y w hy hw => ?_⟩, fun y hy => ?_⟩
    · have hyx : y ≠ x := by rintro rfl; rw [hkind] at hy; cases hy
      have hw' : (if y = x then some v else ρ y) = some w := hw
      rw [if_neg hyx] at hw'; exact hmr y w hy hw'
    · by_cases hyx : y = x
      · subst hyx
        refine ⟨cc, h1, ?_⟩
        show h'.IsCell cc (if y = y then some v else ρ y)
        rw [if_pos rfl]; exact hc
      · obtain ⟨c2, h3, h4⟩ := R.rd.cel y hy
        refine ⟨c2, h3, ?_⟩
        show h'.IsCell c2 (if y = x then some v else ρ y)
        rw [if_neg hyx]
        exact h4.sameBut hs fun e => hyx (name_of_addr R.sep.celA (mem_of_lookup h3) (e ▸ hmem))
  · cases hk

theorem store_val {M : Model} {A : Around} {E : Value → Shared → Prop} {Q : Unit → Shared → Prop} {α : Type} [Rep α] {i : Nat} {x : Str} {e0 : Ent} {v : Value} {a : α} (hi : Γ[i]? = some (x, e0)) (R : Stt c X Γ F s) (r : Rep.rel F v a)
    (k : ∀ s', Stt c X (Γ.set i (x, val (some a))) F s' → Q () s') : wpAny M A (storeName X.env x v) Q E s := by
  obtain ⟨ρ, μ, R⟩ := R
  exact store_gen hi R (e := val (some a)) (fun b hb => by cases hb; exact ⟨v, rfl, r⟩) fun s' R' => k s' ⟨_, _, R'⟩

/-- a new list of the call's is laid into a slot -/
def putS (μ : Slots) (j : Nat) (p : Addr × Obj) : Slots := fun k => if k = j then some p else μ k
def slotFree : List (Option Nat) → Nat → Nat → Bool
  | [], _, _ => true
  | _ :: r, 0, j => r.all (· != some j)
  | o :: r, i + 1, j => o != some j && slotFree r i j
theorem slotFree_spec : ∀ {Γ : Sh} {i j : Nat}, slotFree (Γ.map fun p => p.2.slot) i j = true → ∀ k p, Γ[k]? = some p → k ≠ i → p.2.slot ≠ some j
  | [], _, _, _, _, _, e, _ => by cases e
  | q :: Γ, 0, j, h, k, p, e, hk => by
    cases k with
    | zero => exact absurd rfl hk
    | succ k =>
      have e' : Γ[k]? = some p := by simpa using e
      have := List.all_eq_true.mp h _ (List.mem_map_of_mem (f := fun p : Str × Ent => p.2.slot) (List.mem_of_getElem? e'))
      simpa using this
  | q :: Γ, i + 1, j, h, k, p, e, hk => by
    have h' : (q.2.slot != some j && slotFree (Γ.map fun p => p.2.slot) i j) = true := h
    rw [Bool.and_eq_true] at h'
    cases k with
    | zero => cases e; simpa using h'.1
    | succ k => exact slotFree_spec h'.2 k p (by simpa using e) (fun z => hk (by rw [z]))
end
end Mine
namespace Mine
open PySem PySem.W PyProof.Rows PySem.Calls

def GlobV (c : Cx) (x : Str) (v : Value) : Prop := nsIn c.K mainGlobals x = some (some v) ∨ (nsIn c.K mainGlobals x = some none ∧ bootBuiltins x = some v ∧ x ≠ "__name__")
def Kp (c : Cx) (f : Value) : Prop := ∀ (M : Model) (h : Heap), c.K.In h → ∃ k, (k = Keeper.frame ∨ k = Keeper.machine ∨ k = Keeper.boundFrame) ∧ Looks M h (keeperOf f) k
theorem kp_K {c : Cx} {f : Value} (h : keepIn c.K f = true) : Kp c f := fun _ h' X => keeps_K h h' X
theorem kp_builtin {c : Cx} {id : String} : Kp c (.builtin id) := fun _ _ _ => ⟨.machine, .inr (.inl rfl), .now⟩
theorem kp_type {c : Cx} {id : String} : Kp c (.type id) := fun _ _ _ => ⟨.machine, .inr (.inl rfl), .now⟩

section
variable {c : Cx} {n : Nat} {env : Env} {Γ : Sh} {α β γ τ : Type} [Rep α] [Rep β] [Rep γ] [RepT τ]

def plainE : Expr → Bool
  | .Starred .. => false
  | _ => true
theorem starEach_cons {e : Expr} {es : List Expr} {env : Env} (h : plainE e = true) : starEach (e :: es) env = (false, eval e env) :: starEach es env := by
  cases e <;> first | rfl | cases h
theorem starEach_one {e : Expr} {env : Env} (h : plainE e = true) : starEach [e] env = [(false, eval e env)] := starEach_cons h
/-- arguments, items of a display -/
def EvL (c : Cx) (n : Nat) (env : Env) (Γ : Sh) {τ : Type} [RepT τ] (es : List Expr) (o : Option τ) : Prop :=
  (∀ pos, (backTo pos (starEach es env)).any (·.1) = false) ∧
  ∀ x, o = some x → ∀ A s F pos, OkA n A → Rs c env Γ F s → wpAny (model c.prog c.w) A (spliced (backTo pos (starEach es env))) (fun vs s' => ∃ F', Ext s F s' F' ∧ RepT.relT F' vs x) NoE s
theorem evL_nil : EvL c n env Γ [] (some ()) := ⟨fun _ => rfl, fun _ _ _ _ F _ _ R => args_nil ⟨F, Ext.refl R.inn, rfl⟩⟩
theorem evL_cons {e : Expr} {es : List Expr} {o : Option α} {os : Option τ} (h : Ev c n env Γ e o) (hs : EvL c n env Γ es os) (he : starEach (e :: es) env = (false, eval e env) :: starEach es env := by exact starEach_cons rfl) :
    EvL c n env Γ (e :: es) (bind2 o os fun a t => some (a, t)) := by
  refine ⟨fun pos => by rw [he]; show (false || (backTo pos (starEach es env)).any (·.1)) = false; rw [hs.1 pos]; rfl, fun x hx A s F pos hA R => ?_⟩
  obtain ⟨a, ha, hx⟩ := bind_some hx
  obtain ⟨t, ht, hx⟩ := bind_some hx
  cases hx
  refine args_cons (h.use ha hA R fun v s₁ F₁ x₁ R₁ r₁ => wpAny_mono (hs.2 t ht A s₁ F₁ pos hA R₁) (fun vs s₂ p => ?_) fun _ _ x => x) he
  obtain ⟨F₂, x₂, r₂⟩ := p
  exact ⟨F₂, x₁.trans x₂, v, vs, rfl, Rep.mono x₂.le r₁, r₂⟩
structure EvH (c : Cx) (n : Nat) (env : Env) (Γ : Sh) {α : Type} [Rep α] (es : List Expr) (o : Option (List α)) : Prop where
  run : ∀ x, o = some x → ∀ A s F pos, OkA n A → Rs c env Γ F s → wpAny (model c.prog c.w) A (spliced (backTo pos (starEach es env))) (fun vs s' => vs.length = es.length ∧ ∃ F', Ext s F s' F' ∧ All2 (Rep.rel F') vs x) NoE s
instance {c : Cx} {n : Nat} {env : Env} {Γ : Sh} {α : Type} [Rep α] {es : List Expr} {o : Option (List α)} : CoeFun (EvH c n env Γ es o) (fun _ => ∀ x, o = some x → ∀ A s F pos, OkA n A → Rs c env Γ F s → wpAny (model c.prog c.w) A (spliced (backTo pos (starEach es env))) (fun vs s' => vs.length = es.length ∧ ∃ F', Ext s F s' F' ∧ All2 (Rep.rel F') vs x) NoE s) := ⟨EvH.run⟩
theorem evH_nil : EvH (α := α) c n env Γ [] (some []) := ⟨fun x hx _ _ F _ _ R => by cases hx; exact args_nil ⟨rfl, F, Ext.refl R.inn, trivial⟩⟩
theorem evH_cons {e : Expr} {es : List Expr} {o : Option α} {os : Option (List α)} (h : Ev c n env Γ e o) (hs : EvH c n env Γ es os) (he : starEach (e :: es) env = (false, eval e env) :: starEach es env := by exact starEach_cons rfl) :
    EvH c n env Γ (e :: es) (bind2 o os fun a t => some (a :: t)) := by
  refine ⟨?_⟩
  intro x hx A s F pos hA R
  obtain ⟨a, ha, hx⟩ := bind_some hx
  obtain ⟨t, ht, hx⟩ := bind_some hx
  cases hx
  refine args_cons (h.use ha hA R fun v s₁ F₁ x₁ R₁ r₁ => wpAny_mono (hs t ht A s₁ F₁ pos hA R₁) (fun vs s₂ p => ?_) fun _ _ x => x) he
  obtain ⟨hl, F₂, x₂, r₂⟩ := p
  exact ⟨by rw [List.length_cons, List.length_cons, hl], F₂, x₁.trans x₂, Rep.mono x₂.le r₁, r₂⟩

/-- a new list that nothing else holds -/
structure EvF (c : Cx) (n : Nat) (env : Env) (Γ : Sh) {α : Type} [Rep α] (e : Expr) (o : Option (List α)) : Prop where
  run : ∀ xs, o = some xs → ∀ A s F, OkA n A → Rs c env Γ F s → wpAny (model c.prog c.w) A (eval e env)
    (fun v s' => ∃ F' a vs m, Ext s F s' F' ∧ v = .ref a ∧ s'.heap.get? a = some (listObj vs m) ∧ s.heap.get? a = none ∧ F' a = none ∧ All2 (Rep.rel F') vs xs) NoE s
instance {c : Cx} {n : Nat} {env : Env} {Γ : Sh} {α : Type} [Rep α] {e : Expr} {o : Option (List α)} : CoeFun (EvF c n env Γ e o) (fun _ => ∀ xs, o = some xs → ∀ A s F, OkA n A → Rs c env Γ F s → wpAny (model c.prog c.w) A (eval e env)
    (fun v s' => ∃ F' a vs m, Ext s F s' F' ∧ v = .ref a ∧ s'.heap.get? a = some (listObj vs m) ∧ s.heap.get? a = none ∧ F' a = none ∧ All2 (Rep.rel F') vs xs) NoE s) := ⟨EvF.run⟩
theorem EvF.ev {e : Expr} {o : Option (List α)} (h : EvF c n env Γ e o) : Ev c n env Γ e o := ⟨fun a ha A s F hA R =>
  wpAny_mono (h a ha A s F hA R) (fun _ _ ⟨F', ad, vs, m, x, e, g, f, _, r⟩ => ⟨F'.put ad _, x.freeze g f, ad, vs, m, e, FH.put_self .., r.imp fun _ _ => Rep.mono (FH.put_le x.inn g)⟩) fun _ _ x => x⟩
theorem F_size_none {F : FH} {h : Heap} (x : FIn F h) : F h.objs.size = none := not_some_of fun o q => by
  have := x _ _ q
  rw [get_size_none] at this; cases this

theorem newList_wp {M : Model} {A : Around} {E : Value → Shared → Prop} {s : Shared} {vs : List Value} {Q : Value → Shared → Prop} (h : Q (.ref s.heap.objs.size) { s with heap := s.heap.push (listObj vs 0) }) (hz : vs.length ≤ sizeLine) : wpAny M A (newList vs) Q E s :=
  wpAny_newObj_type h (by show vs.toArray.size ≤ sizeLine; simpa using hz)
theorem newTuple_wp {M : Model} {A : Around} {E : Value → Shared → Prop} {s : Shared} {vs : List Value} {Q : Value → Shared → Prop} (h : Q (.ref s.heap.objs.size) { s with heap := s.heap.push (tupObj vs 0) }) (hz : vs.length ≤ sizeLine) : wpAny M A (newTuple vs) Q E s :=
  wpAny_newObj_type h (by show vs.toArray.size ≤ sizeLine; simpa using hz)
/-- what a new list is, as the end of an expression -/
def PstF {α : Type} [Rep α] (s : Shared) (F : FH) (xs : List α) : Value → Shared → Prop := fun v s' => ∃ F' a vs m, Ext s F s' F' ∧ v = .ref a ∧ s'.heap.get? a = some (listObj vs m) ∧ s.heap.get? a = none ∧ F' a = none ∧ All2 (Rep.rel F') vs xs
theorem PstF.trans {s s' s'' : Shared} {F F' : FH} {a : List α} {v : Value} (x : Ext s F s' F') (y : PstF s' F' a v s'') : PstF s F a v s'' := by
  obtain ⟨F'', ad, vs, m, y, e, g, f, z, r⟩ := y
  refine ⟨F'', ad, vs, m, x.trans y, e, g, ?_, z, r⟩
  exact not_some_of fun o q => by rw [keeps_keep x.keeps _ _ q] at f; cases f
theorem pstF_push {s : Shared} {F : FH} {vs : List Value} {xs : List α} (h : FIn F s.heap) (r : All2 (Rep.rel F) vs xs) (t : Nat) : PstF s F xs (.ref s.heap.objs.size) { s with heap := s.heap.push (listObj vs 0), toks := t } :=
  ⟨F, _, vs, 0, Ext.push h _ t, rfl, Heap.get?_push_size _ rfl, get_size_none _, F_size_none h, r⟩
theorem PstF.pst {s s' : Shared} {F : FH} {xs : List α} {v : Value} (x : PstF s F xs v s') : Pst s F xs v s' :=
  let ⟨F', ad, vs, m, x, e, g, f, _, r⟩ := x; ⟨F'.put ad _, x.freeze g f, ad, vs, m, e, FH.put_self .., r.imp fun _ _ => Rep.mono (FH.put_le x.inn g)⟩

theorem ev_list {es : List Expr} {pos : Pos} {o : Option (List α)} (h : EvH c n env Γ es o) (hz : es.length ≤ 100 := by decide) : EvF c n env Γ (.List es pos) o := by
  refine ⟨?_⟩
  intro xs hx A s F hA R
  show wpAny _ _ (standAt pos >>= fun _ => spliced (backTo pos (starEach es env)) >>= fun vs => newList vs) _ _ _
  refine wpAny_bind (wpAny_standAt (wpAny_bind (wpAny_mono (h xs hx A s F pos hA R) (fun vs s₁ p => ?_) fun _ _ x => x)))
  obtain ⟨hl, F₁, x₁, r₁⟩ := p
  refine newList_wp ?_ (by rw [hl]; exact Nat.le_trans hz (by decide))
  exact PstF.trans x₁ (pstF_push x₁.inn r₁ _)
theorem ev_tuple {es : List Expr} {k : Nat} {pos : Pos} {o : Option τ} (h : EvL c n env Γ es o) (hl : ∀ F vs (x : τ), RepT.relT F vs x → vs.length ≤ sizeLine) : Ev c n env Γ (.Tuple es k pos) (o.map Tup.mk) := by
  refine ⟨?_⟩
  intro x hx A s F hA R
  obtain ⟨t, ht, rfl⟩ := Option.map_eq_some_iff.mp hx
  show wpAny _ _ (standAt pos >>= fun _ => spliced (backTo pos (starEach es env)) >>= fun vs => newTuple vs) _ _ _
  refine wpAny_bind (wpAny_standAt (wpAny_bind (wpAny_mono (h.2 t ht A s F pos hA R) (fun vs s₁ p => ?_) fun _ _ x => x)))
  obtain ⟨F₁, x₁, r₁⟩ := p
  refine newTuple_wp ?_ (hl _ _ _ r₁)
  exact Pst.trans x₁ (pst_tup (x := Tup.mk t) x₁.inn r₁ _)

/-- a call of a value, its arguments at hand -/
structure CallS (c : Cx) (n : Nat) (f : Value) {τ : Type} [RepT τ] (x : τ) (r : γ) : Prop where
  run : ∀ A s F vs, OkA n A → Bs c s.heap → FIn F s.heap → RepT.relT F vs x → wpAny (model c.prog c.w) A (call f vs) (Pst s F r) NoE s
instance {c : Cx} {n : Nat} {f : Value} {τ : Type} [RepT τ] {x : τ} {r : γ} : CoeFun (CallS c n f x r) (fun _ => ∀ A s F vs, OkA n A → Bs c s.heap → FIn F s.heap → RepT.relT F vs x → wpAny (model c.prog c.w) A (call f vs) (Pst s F r) NoE s) := ⟨CallS.run⟩
structure CallFS (c : Cx) (n : Nat) (f : Value) {τ : Type} [RepT τ] (x : τ) (r : List α) : Prop where
  run : ∀ A s F vs, OkA n A → Bs c s.heap → FIn F s.heap → RepT.relT F vs x → wpAny (model c.prog c.w) A (call f vs) (PstF s F r) NoE s
instance {c : Cx} {n : Nat} {f : Value} {τ : Type} [RepT τ] {x : τ} {r : List α} : CoeFun (CallFS c n f x r) (fun _ => ∀ A s F vs, OkA n A → Bs c s.heap → FIn F s.heap → RepT.relT F vs x → wpAny (model c.prog c.w) A (call f vs) (PstF s F r) NoE s) := ⟨CallFS.run⟩
theorem load_glob {x : Str} {v : Value} {A : Around} {s : Shared} {Q : Value → Shared → Prop} {E : Value → Shared → Prop} {pos : Pos} {F : FH} {M : Model} (R : Rs c env Γ F s) (hk : env.kindOf x = some .globalImplicit) (hg : GlobV c x v) (h : Q v s)
    (hd : (x == ("__debug__" : Str)) = false) : wpAny M A (eval (.Name x pos) env) Q E s := by
  obtain ⟨ρ, μ, rd, _⟩ := R.vars
  refine Name_function_global rd.kind hk ?_ hd
  rcases hg with hg | ⟨hg, hb, hn⟩
  · exact loadGlobal_global (by rw [rd.glob]; exact R.bs.g) (mg_of R.bs.frag R.bs.g hg) h
  · exact loadGlobal_builtin (by rw [rd.glob]; exact R.bs.g) (mg_none_of R.bs.frag R.bs.g hg) (by rw [rd.bui]; exact R.bs.b) ((R.bs.bi x hn).trans hb) h

theorem evalArgs_empty {M : Model} {A : Around} {E : Value → Shared → Prop} {s : Shared} {f : Value} {Q : Args → Shared → Prop} (h : wpAny M A (spliced []) (fun vs s' => Q ⟨vs, []⟩ s') E s) : wpAny M A (evalArgs f true [] []) Q E s := by
  unfold evalArgs
  show wpAny M A (spliced [] >>= _) Q E s
  refine wpAny_bind (wpAny_mono h (fun vs s' h' => ?_) fun _ _ x => x)
  refine wpAny_bind (wpAny_pure ?_)
  refine wpAny_holding ?_
  exact wpAny_bind (wpAny_pure (wpAny_bind (wpAny_pure (wpAny_pure h'))))
theorem callWith_gen {f : Value} {es : List Expr} {o : Option τ} {x : τ} {A : Around} {s : Shared} {F : FH} {pos : Pos} {first : List Value} {Q : Value → Shared → Prop} (hk : Kp c f) (h : EvL c n env Γ es o) (hx : o = some x) (hA : OkA n A) (R : Rs c env Γ F s)
    (k : ∀ vs s' F', Ext s F s' F' → Rs c env Γ F' s' → RepT.relT F' vs x → wpAny (model c.prog c.w) A (call f (first ++ vs)) Q NoE s') : wpAny (model c.prog c.w) A (callWith pos f first (backTo pos (starEach es env)) []) Q NoE s := by
  refine callWith_of (P := c.K.In) (by rw [h.1 pos]; rfl) (fun h' => hk _ h') ?_
  have fin : wpAny (model c.prog c.w) A (spliced (backTo pos (starEach es env))) (fun vs s₁ => c.K.In s₁.heap ∧ wpAny (model c.prog c.w) A (call f (first ++ vs) []) Q NoE s₁) NoE s :=
    wpAny_mono (h.2 x hx A s F pos hA R) (fun vs s₁ ⟨F₁, x₁, r₁⟩ => ⟨(R.ext x₁).bs.frag, k vs s₁ F₁ x₁ (R.ext x₁) r₁⟩) fun _ _ x => x
  have hp := h.1 pos
  generalize backTo pos (starEach es env) = l at fin hp
  cases l with
  | nil => exact evalArgs_empty fin
  | cons p l =>
    obtain ⟨b, t⟩ := p
    rw [List.any_cons, Bool.or_eq_false_iff] at hp
    have : b = false := hp.1
    subst this
    exact evalArgs_plain fin

theorem ev_call {f : Str} {v : Value} {es : List Expr} {fp pos : Pos} {o : Option τ} {g : τ → Option γ} (hk : env.kindOf f = some .globalImplicit) (hg : GlobV c f v) (hp : Kp c v) (h : EvL c n env Γ es o) (hf : ∀ x r, g x = some r → CallS c n v x r)
    (hd : (f == ("__debug__" : Str)) = false := by decide) : Ev c n env Γ (.Call (.Name f fp) es [] pos) (o.bind g) := by
  refine ⟨?_⟩
  intro r hr A s F hA R
  obtain ⟨x, hx, hr⟩ := bind_some hr
  refine Call_ (load_glob R hk hg (callWith_gen hp h hx hA R fun vs s₁ F₁ x₁ R₁ r₁ => ?_) hd)
  exact wpAny_mono (hf x r hr A s₁ F₁ vs hA R₁.bs R₁.inn r₁) (fun _ _ p => Pst.trans x₁ p) fun _ _ x => x
theorem ev_callF {f : Str} {v : Value} {es : List Expr} {fp pos : Pos} {o : Option τ} {g : τ → Option (List α)} (hk : env.kindOf f = some .globalImplicit) (hg : GlobV c f v) (hp : Kp c v) (h : EvL c n env Γ es o) (hf : ∀ x r, g x = some r → CallFS c n v x r)
    (hd : (f == ("__debug__" : Str)) = false := by decide) : EvF c n env Γ (.Call (.Name f fp) es [] pos) (o.bind g) := by
  refine ⟨?_⟩
  intro r hr A s F hA R
  obtain ⟨x, hx, hr⟩ := bind_some hr
  refine Call_ (load_glob R hk hg (callWith_gen hp h hx hA R fun vs s₁ F₁ x₁ R₁ r₁ => ?_) hd)
  exact wpAny_mono (hf x r hr A s₁ F₁ vs hA R₁.bs R₁.inn r₁) (fun _ _ p => PstF.trans x₁ p) fun _ _ x => x
end
end Mine
namespace Mine
open PySem PySem.W PyProof.Rows PySem.Calls

inductive Fl (σ ρ : Type) where
  | next (x : σ)
  | brk (x : σ)
  | cont (x : σ)
  | ret (r : ρ)
def OutP (c : Cx) (X : Ac) {σ ρ : Type} [Rep ρ] (sh : σ → Sh) : Fl σ ρ → Flow → Shared → Prop
  | .next x, .next, s' => ∃ F', Stt c X (sh x) F' s'
  | .brk x, .brk, s' => ∃ F', Stt c X (sh x) F' s'
  | .cont x, .cont, s' => ∃ F', Stt c X (sh x) F' s'
  | .ret r, .ret v, s' => ∃ F', StE c X F' s' ∧ Rep.rel F' v r
  | _, _, _ => False
structure Ex (c : Cx) (n : Nat) (X : Ac) {σ ρ : Type} [Rep ρ] (sh : σ → Sh) (st : Stmt) (f : σ → Option (Fl σ ρ)) : Prop where
  run : ∀ x out, f x = some out → ∀ A s F, OkA n A → Stt c X (sh x) F s → wpAny (model c.prog c.w) A (exec st X.env) (OutP c X sh out) NoE s
instance {c : Cx} {n : Nat} {X : Ac} {σ ρ : Type} [Rep ρ] {sh : σ → Sh} {st : Stmt} {f : σ → Option (Fl σ ρ)} : CoeFun (Ex c n X sh st f) (fun _ => ∀ x out, f x = some out → ∀ A s F, OkA n A → Stt c X (sh x) F s → wpAny (model c.prog c.w) A (exec st X.env) (OutP c X sh out) NoE s) := ⟨Ex.run⟩
structure Exs (c : Cx) (n : Nat) (X : Ac) {σ ρ : Type} [Rep ρ] (sh : σ → Sh) (st : List Stmt) (f : σ → Option (Fl σ ρ)) : Prop where
  run : ∀ x out, f x = some out → ∀ A s F, OkA n A → Stt c X (sh x) F s → wpAny (model c.prog c.w) A (execs st X.env) (OutP c X sh out) NoE s
instance {c : Cx} {n : Nat} {X : Ac} {σ ρ : Type} [Rep ρ] {sh : σ → Sh} {st : List Stmt} {f : σ → Option (Fl σ ρ)} : CoeFun (Exs c n X sh st f) (fun _ => ∀ x out, f x = some out → ∀ A s F, OkA n A → Stt c X (sh x) F s → wpAny (model c.prog c.w) A (execs st X.env) (OutP c X sh out) NoE s) := ⟨Exs.run⟩
def thenF {σ ρ : Type} (g : σ → Option (Fl σ ρ)) : Fl σ ρ → Option (Fl σ ρ)
  | .next y => g y
  | o => some o

section
variable {c : Cx} {n : Nat} {X : Ac} {σ ρ : Type} [Rep ρ] {sh : σ → Sh} {α β : Type} [Rep α] [Rep β]
theorem exs_nil : Exs (ρ := ρ) c n X sh [] (fun x => some (.next x)) := ⟨fun x out h A s F _ R => by
  cases h; exact wpAny_execs_nil ⟨F, R⟩⟩
theorem exs_cons {st : Stmt} {rest : List Stmt} {f g : σ → Option (Fl σ ρ)} (hf : Ex c n X sh st f) (hg : Exs c n X sh rest g) : Exs c n X sh (st :: rest) (fun x => (f x).bind (thenF g)) := by
  refine ⟨?_⟩
  intro x out h A s F hA R
  obtain ⟨o, ho, h⟩ := bind_some h
  refine wpAny_execs_cons (wpAny_mono (hf x o ho A s F hA R) (fun fl s' p => ?_) fun _ _ x => x)
  cases o with
  | next y =>
    cases fl with
    | next => obtain ⟨F', R'⟩ := p; exact hg y out h A s' F' hA R'
    | _ => exact p.elim
  | brk y => cases h; cases fl <;> first | exact p | exact p.elim
  | cont y => cases h; cases fl <;> first | exact p | exact p.elim
  | ret y => cases h; cases fl <;> first | exact p | exact p.elim
theorem exs_one {st : Stmt} {f : σ → Option (Fl σ ρ)} (hf : Ex c n X sh st f) : Exs c n X sh [st] f := by
  refine ⟨?_⟩
  intro x out h A s F hA R
  refine wpAny_execs_cons (wpAny_mono (hf x out h A s F hA R) (fun fl s' p => ?_) fun _ _ x => x)
  cases out <;> cases fl <;> first | exact p | exact wpAny_execs_nil p | exact p.elim

theorem ex_assign {y : Str} {py pos : Pos} {e : Expr} {d : σ → Option α} {up : σ → α → σ} (i : Nat) (h : ∀ x, Ev c n X.env (sh x) e (d x)) (hi : ∀ x, ∃ e0, (sh x)[i]? = some (y, e0) := by intro _; exact ⟨_, rfl⟩)
    (hu : ∀ x a, sh (up x a) = (sh x).set i (y, val (some a)) := by intros; rfl) (hs : swapsWith e (some (.Name y py)) pos.line X.env = pure false := by rfl) :
    Ex (ρ := ρ) c n X sh (.Assign [.Name y py] e pos) (fun x => (d x).bind fun a => some (.next (up x a))) := by
  refine ⟨?_⟩
  intro x out ho A s F hA R
  obtain ⟨a, ha, ho⟩ := bind_some ho
  cases ho
  obtain ⟨e0, hi⟩ := hi x
  refine wpAny_Assign_Name ((h x).use ha hA R.rs fun v s₁ F₁ x₁ _ r₁ => store_val hi (R.ext x₁) r₁ fun s₂ R₂ => ?_) hs
  exact ⟨F₁, by rw [hu]; exact R₂⟩
theorem ex_assign3 {y1 y2 y3 : Str} {p1 p2 p3 pos : Pos} {e : Expr} {d : σ → Option α} {up : σ → α → σ} (i1 i2 i3 : Nat) (h : ∀ x, Ev c n X.env (sh x) e (d x)) (h1 : ∀ x, ∃ e0, (sh x)[i1]? = some (y1, e0)) (h2 : ∀ x a, ∃ e0, ((sh x).set i1 (y1, val (some (a : α))))[i2]? = some (y2, e0))
    (h3 : ∀ x a, ∃ e0, (((sh x).set i1 (y1, val (some a))).set i2 (y2, val (some (a : α))))[i3]? = some (y3, e0))
    (hu : ∀ x a, sh (up x a) = (((sh x).set i1 (y1, val (some a))).set i2 (y2, val (some a))).set i3 (y3, val (some a)))
    (hw : swappedStores [.Name y1 p1, .Name y2 p2, .Name y3 p3] e X.env = pure none) :
    Ex (ρ := ρ) c n X sh (.Assign [.Name y1 p1, .Name y2 p2, .Name y3 p3] e pos) (fun x => (d x).bind fun a => some (.next (up x a))) := by
  refine ⟨?_⟩
  intro x out ho A s F hA R
  obtain ⟨a, ha, ho⟩ := bind_some ho
  cases ho
  obtain ⟨e1, h1⟩ := h1 x
  obtain ⟨e2, h2⟩ := h2 x a
  obtain ⟨e3, h3⟩ := h3 x a
  refine wpAny_Assign_three ((h x).use ha hA R.rs fun v s₁ F₁ x₁ _ r₁ => wpAny_assign_Name (store_val h1 (R.ext x₁) r₁ fun s₂ R₂ => wpAny_assign_Name (store_val h2 R₂ r₁ fun s₃ R₃ => wpAny_assign_Name (store_val h3 R₃ r₁ fun s₄ R₄ => ?_)))) rfl hw
  exact ⟨F₁, by rw [hu]; exact R₄⟩
theorem ex_return {e : Expr} {pos : Pos} {d : σ → Option ρ} (h : ∀ x, Ev c n X.env (sh x) e (d x)) : Ex c n X sh (.Return (some e) pos) (fun x => (d x).bind fun a => some (.ret a)) := by
  refine ⟨?_⟩
  intro x out ho A s F hA R
  obtain ⟨a, ha, ho⟩ := bind_some ho
  cases ho
  exact wpAny_Return_some ((h x).use ha hA R.rs fun v s₁ F₁ x₁ _ r₁ => ⟨F₁, R.ste.step x₁, r₁⟩)
theorem ex_if {test : Expr} {body orelse : List Stmt} {pos : Pos} {t : σ → Option Bool} {f g : σ → Option (Fl σ ρ)} (ht : ∀ x, Tst c n X.env (sh x) test (t x)) (hf : Exs c n X sh body f) (hg : Exs c n X sh orelse g) :
    Ex c n X sh (.If test body orelse pos) (fun x => (t x).bind fun b => if b then f x else g x) := by
  refine ⟨?_⟩
  intro x out ho A s F hA R
  obtain ⟨b, hb, ho⟩ := bind_some ho
  refine wpAny_If (wpAny_mono (ht x b hb A s F hA R.rs) (fun r s₁ p => ?_) fun _ _ x => x)
  obtain ⟨rfl, F₁, x₁⟩ := p
  cases r with
  | true => exact hf x out ho A s₁ F₁ hA (R.ext x₁)
  | false => exact hg x out ho A s₁ F₁ hA (R.ext x₁)
theorem ex_break {pos : Pos} : Ex (ρ := ρ) c n X sh (.Break pos) (fun x => some (.brk x)) := ⟨fun x out h A s F _ R => by
  cases h; exact wpAny_Break ⟨F, R⟩
⟩
/-- the parameters' entries -/
class RepA (τ : Type) extends RepT τ where
  ents : List Str → τ → Sh
  arity : Nat
  len : ∀ {F : FH} {vs : List Value} {x : τ}, RepT.relT F vs x → vs.length = arity
  spec : ∀ {F : FH} {vs : List Value} {x : τ} {ns : List Str} {μ : Slots}, RepT.relT F vs x → ∀ p ∈ ents ns x, ∃ k : Nat, ∃ v, ns[k]? = some p.1 ∧ vs[k]? = some v ∧ p.2.holds F μ (some v)
instance : RepA Unit where
  ents := fun _ _ => []
  arity := 0
  len := fun h => by cases h; rfl
  spec := fun _ p hp => nomatch hp
instance {α τ : Type} [Rep α] [RepA τ] : RepA (α × τ) where
  ents := fun ns x => match ns with | [] => [] | y :: ns => (y, val (some x.1)) :: RepA.ents ns x.2
  arity := RepA.arity τ + 1
  len := fun ⟨v, ws, e, _, q⟩ => by rw [e, List.length_cons, RepA.len q]
  spec := by
    rintro F vs x ns μ ⟨v, ws, e, r, q⟩ p hp
    subst e
    cases ns with
    | nil => cases hp
    | cons y ns =>
      rcases List.mem_cons.mp hp with h | h
      · subst h; exact ⟨0, v, rfl, rfl, fun a ha => by cases ha; exact ⟨v, rfl, r⟩⟩
      · obtain ⟨k, u, h1, h2, h3⟩ := RepA.spec (μ := μ) q p h
        exact ⟨k + 1, u, by simpa using h1, by simpa using h2, h3⟩

def unset (e : Ent) : Prop := ∀ F μ v, e.holds F μ v
theorem unset_val : unset (val (none : Option α)) := fun _ _ _ _ ha => nomatch ha
theorem unset_own {i : Nat} : unset (own (α := α) i none) := fun _ _ _ _ ha => nomatch ha

def startR (kindOf : Str → Option NameKind) (binds : List (Str × Value)) : Str → Option Value := fun y => if kindOf y = some .local then bindL kindOf binds (fun _ => none) y else bindC kindOf binds (fun _ => none) y
theorem bindL_not {kindOf : Str → Option NameKind} {y : Str} : ∀ {binds : List (Str × Value)} {m : Str → Option Value}, y ∉ binds.map (·.1) → bindL kindOf binds m y = m y
  | [], _, _ => rfl
  | (n, v) :: r, m, h => by
    rw [List.map_cons, List.mem_cons, not_or] at h
    unfold bindL
    rw [bindL_not h.2]
    split
    · show (if y = n then some v else m y) = m y; rw [if_neg h.1]
    · rfl
theorem bindC_not {kindOf : Str → Option NameKind} {y : Str} : ∀ {binds : List (Str × Value)} {m : Str → Option Value}, y ∉ binds.map (·.1) → bindC kindOf binds m y = m y
  | [], _, _ => rfl
  | (n, v) :: r, m, h => by
    rw [List.map_cons, List.mem_cons, not_or] at h
    unfold bindC
    rw [bindC_not h.2]
    split
    · rfl
    · show (if y = n then some v else m y) = m y; rw [if_neg h.1]
theorem bindL_at {kindOf : Str → Option NameKind} {y : Str} {v : Value} (hk : kindOf y = some .local) : ∀ {ns : List Str} {vs : List Value} {k : Nat} {m : Str → Option Value}, ns.Nodup → ns[k]? = some y → vs[k]? = some v → bindL kindOf (ns.zip vs) m y = some v
  | [], _, _, _, _, e, _ => by cases e
  | _ :: _, [], _, _, _, _, e => by cases e
  | n :: ns, u :: vs, 0, m, hn, e1, e2 => by
    cases e1; cases e2
    show bindL kindOf (ns.zip vs) (if kindOf y = some .local then fun z => if z = y then some v else m z else m) y = some v
    rw [bindL_not (fun h => (List.nodup_cons.mp hn).1 (by obtain ⟨p, hp, rfl⟩ := List.mem_map.mp h; exact (List.of_mem_zip hp).1)), if_pos hk]
    show (if y = y then some v else m y) = some v
    rw [if_pos rfl]
  | n :: ns, u :: vs, k + 1, m, hn, e1, e2 => by
    show bindL kindOf (ns.zip vs) _ y = some v
    exact bindL_at (k := k) hk (List.nodup_cons.mp hn).2 (by simpa using e1) (by simpa using e2)
theorem bindC_at {kindOf : Str → Option NameKind} {y : Str} {v : Value} (hk : kindOf y ≠ some .local) : ∀ {ns : List Str} {vs : List Value} {k : Nat} {m : Str → Option Value}, ns.Nodup → ns[k]? = some y → vs[k]? = some v → bindC kindOf (ns.zip vs) m y = some v
  | [], _, _, _, _, e, _ => by cases e
  | _ :: _, [], _, _, _, _, e => by cases e
  | n :: ns, u :: vs, 0, m, hn, e1, e2 => by
    cases e1; cases e2
    show bindC kindOf (ns.zip vs) (if kindOf y = some .local then m else fun z => if z = y then some v else m z) y = some v
    rw [bindC_not (fun h => (List.nodup_cons.mp hn).1 (by obtain ⟨p, hp, rfl⟩ := List.mem_map.mp h; exact (List.of_mem_zip hp).1)), if_neg hk]
    show (if y = y then some v else m y) = some v
    rw [if_pos rfl]
  | n :: ns, u :: vs, k + 1, m, hn, e1, e2 => by
    show bindC kindOf (ns.zip vs) _ y = some v
    exact bindC_at (k := k) hk (List.nodup_cons.mp hn).2 (by simpa using e1) (by simpa using e2)
theorem startR_at {kindOf : Str → Option NameKind} {y : Str} {v : Value} {ns : List Str} {vs : List Value} {k : Nat} (hn : ns.Nodup) (e1 : ns[k]? = some y) (e2 : vs[k]? = some v) : startR kindOf (ns.zip vs) y = some v := by
  unfold startR
  split
  · rename_i h; exact bindL_at h hn e1 e2
  · rename_i h; exact bindC_at h hn e1 e2

def retOf {σ ρ : Type} (o : Option (Fl σ ρ)) : Option ρ := o.bind fun | .ret r => some r | _ => none

/-- the state as a call begins -/
theorem start_stt {fd : FuncData} {a : Addr} {s s₁ : Shared} {F : FH} {τ : Type} [RepA τ] {x : τ} {vs : List Value} {ns : List Str} {Γ : Sh} (hb : Bs c s.heap) (hF : FIn F s.heap) (hr : RepT.relT F vs x) (hn : ns.Nodup)
    (hk : fd.scope.kind = .function) (hg : fd.globals = mainGlobals) (hbu : fd.builtins = builtinsNs)
    (I : InCallC s (callEnvC fd s.heap.objs.size a).locals (bindL (callEnvC fd s.heap.objs.size a).kindOf (ns.zip vs) fun _ => none) (callEnvC fd s.heap.objs.size a).cells (bindC (callEnvC fd s.heap.objs.size a).kindOf (ns.zip vs) fun _ => none) s₁)
    (hkin : ∀ p ∈ Γ, isSt (fd.scope.names.lookup p.1) = true) (hnod : (Γ.map (·.1)).Nodup) (hcel : ∀ y k, fd.scope.names.lookup y = some k → k ≠ .free)
    (hΓ : ∀ p ∈ Γ, p ∈ RepA.ents ns x ∨ unset p.2) :
    Stt c ⟨callEnvC fd s.heap.objs.size a, s, F, fun _ => none⟩ Γ F s₁ := by
  obtain ⟨h', tk, e, hkeep⟩ := I.done
  have size : s.heap.get? s.heap.objs.size = none := get_size_none _
  have high : ∀ b, s.heap.objs.size ≤ b → s.heap.get? b = none ∧ F b = none := fun b hb' => by
    have h1 : s.heap.get? b = none := not_some_of fun o q => absurd (Heap.lt_size q) (Nat.not_lt.mpr hb')
    exact ⟨h1, not_some_of fun o q => by rw [hF b o q] at h1; cases h1⟩
  have ca : ∀ y cc, (callEnvC fd s.heap.objs.size a).cells.lookup y = some cc → s.heap.objs.size < cc := fun y cc h => I.above y cc (mem_of_lookup h)
  have x0 : Ext s F s₁ F := Ext.of_keeps hF ⟨h', tk, e, hkeep⟩
  refine ⟨startR (fun y => fd.scope.names.lookup y) (ns.zip vs), fun _ => none, ⟨⟨hb, x0, fun _ _ q => (nomatch q), fun _ _ q => .inl q⟩, hkin, hnod, ⟨hk, hg, hbu, ⟨_, I.toInCall.ns, fun y w hy hw => ?_⟩, fun y hy => ?_⟩, fun _ _ _ q => (nomatch q), ?_, fun p hp => ?_⟩⟩
  · have hy' : fd.scope.names.lookup y = some .local := hy
    have hw' : (if fd.scope.names.lookup y = some .local then bindL (fun y => fd.scope.names.lookup y) (ns.zip vs) (fun _ => none) y else bindC (fun y => fd.scope.names.lookup y) (ns.zip vs) (fun _ => none) y) = some w := hw
    rw [if_pos hy'] at hw'; exact hw'
  · have hy' : fd.scope.names.lookup y = some .cell := by
      rcases hy with h | h
      · exact h
      · exact absurd rfl (hcel y _ h)
    obtain ⟨cc, hcc⟩ := Option.isSome_iff_exists.mp (cellsFrom_some (x := y) fd.scope.names (s.heap.objs.size + 1) [] (.inl hy'))
    refine ⟨cc, hcc, ?_⟩
    have z := I.cell y cc hcc
    show s₁.heap.IsCell cc (if fd.scope.names.lookup y = some .local then _ else _)
    rw [if_neg (by rw [hy']; intro q; cases q)]
    exact z
  · refine ⟨size, (high _ (Nat.le_refl _)).2, rfl, fun y cc h => ?_, fun y cc h => (high cc (Nat.le_of_lt (ca y cc h))).1, fun y cc h => (high cc (Nat.le_of_lt (ca y cc h))).2, fun _ _ _ => rfl, fun y cc h => Nat.ne_of_gt (ca y cc h), I.apart, fun _ _ _ q => (nomatch q), fun _ _ _ q => (nomatch q), fun _ _ _ q => (nomatch q), fun _ _ _ q => (nomatch q), fun _ _ _ q => (nomatch q), fun _ _ _ _ _ _ _ q => (nomatch q)⟩
    obtain ⟨o, ho, _⟩ := I.cell y cc h
    exact ⟨o, ho⟩
  · rcases hΓ p hp with h | h
    · obtain ⟨k, v, h1, h2, h3⟩ := RepA.spec (μ := fun _ => none) hr p h
      rw [startR_at hn h1 h2]; exact h3
    · exact h _ _ _
theorem OkA.deeper {A : Around} (x : OkA (n + 1) A) (env : Env) : OkA n (A.deeper env) :=
  ⟨x.hd, by have := x.dp; show A.depth + 1 + n < _; omega, by have := x.un; show A.units + 3 + 8 * n + 8 < _; omega⟩
theorem fn_code {fa : Addr} {fd : FuncData} {body : List Stmt} {oc : Value} {od : Option Addr} {osl : Array (Option Value)} {τ : Type} [RepA τ] {ns : List Str} {f : σ → Option (Fl σ ρ)} {init : τ → σ}
    (hK : c.K.lookup fa = some ⟨oc, od, .func fd, osl⟩) (hcd : codeIn c.K fd.code fd.qualname = true) (hbody : fd.body = .stmts body) (hclo : fd.closure = []) (hg : fd.globals = mainGlobals) (hbu : fd.builtins = builtinsNs)
    (hco : fd.scope.isCoroutine = false) (hgen : fd.scope.isGenerator = false) (hk : fd.scope.kind = .function)
    (hbind : ∀ vs, vs.length = RepA.arity τ → bindArgs fd ⟨vs, []⟩ = pure (ns.zip vs)) (hn : ns.Nodup) (hpar : (ns.all fun y => isSt (fd.scope.names.lookup y)) = true)
    (hfree : (fd.scope.names.all fun p => p.2 != .free) = true)
    (hkin : ∀ x, ((sh (init x)).all fun p => isSt (fd.scope.names.lookup p.1)) = true) (hnod : ∀ x, ((sh (init x)).map (·.1)).Nodup)
    (hΓ : ∀ x, ∀ p ∈ sh (init x), p ∈ RepA.ents ns x ∨ unset p.2)
    (hEx : ∀ L s F P, Exs c n ⟨callEnvC fd L fa, s, F, P⟩ sh body f)
    {x : τ} {out : Fl σ ρ} (ho : f (init x) = some out) {A : Around} {s : Shared} {F : FH} {vs : List Value} (hA : OkA (n + 1) A) (hb : Bs c s.heap) (hF : FIn F s.heap) (hr : RepT.relT F vs x) {R : Result → Shared → Prop}
    (hR : ∀ fl s' L, OutP c ⟨callEnvC fd L fa, s, F, fun _ => none⟩ sh out fl s' → R (.ok (.ret (match fl with | .ret v => v | _ => .none))) s') :
    codeAny (model c.prog c.w) A (.call (.ref fa) ⟨vs, []⟩) R s := by
  have hl := RepA.len hr
  refine codeAny_call_cells (fd := fd) (by have := hA.dp; omega) (hb.frag _ _ hK) rfl hb.lim (codeRec_of hb.frag hcd) hbody (hbind vs hl) hclo (fun y hy => ?_) (fun s₁ I => ?_) hco hgen hk
  · have hm := (List.of_mem_zip (show (y.1, y.2) ∈ ns.zip vs from hy)).1
    have := List.all_eq_true.mp hpar _ hm
    unfold isSt at this
    split at this
    · rename_i e; exact .inl e
    · rename_i e; exact .inr ⟨e, cellsFrom_some _ _ _ (.inl e)⟩
    · cases this
  · have S := start_stt (Γ := sh (init x)) hb hF hr hn hk hg hbu I (fun p hp => List.all_eq_true.mp (hkin x) p hp) (hnod x) (fun y k e q => by
        have := List.all_eq_true.mp hfree _ (mem_of_lookup e)
        rw [q] at this; cases this) (hΓ x)
    exact wpAny_mono (hEx _ s F _ (init x) out ho _ s₁ F (hA.deeper _) S) (fun fl s' p => hR fl s' _ p) fun _ _ x => x.elim
theorem fn_ok {fa : Addr} {fd : FuncData} {body : List Stmt} {oc : Value} {od : Option Addr} {osl : Array (Option Value)} {τ : Type} [RepA τ] (ns : List Str) {f : σ → Option (Fl σ ρ)} (init : τ → σ)
    (hK : c.K.lookup fa = some ⟨oc, od, .func fd, osl⟩) (hcd : codeIn c.K fd.code fd.qualname = true) (hbody : fd.body = .stmts body) (hclo : fd.closure = []) (hg : fd.globals = mainGlobals) (hbu : fd.builtins = builtinsNs)
    (hco : fd.scope.isCoroutine = false) (hgen : fd.scope.isGenerator = false) (hk : fd.scope.kind = .function)
    (hbind : ∀ vs, vs.length = RepA.arity τ → bindArgs fd ⟨vs, []⟩ = pure (ns.zip vs)) (hn : ns.Nodup) (hpar : (ns.all fun y => isSt (fd.scope.names.lookup y)) = true)
    (hfree : (fd.scope.names.all fun p => p.2 != .free) = true)
    (hkin : ∀ x, ((sh (init x)).all fun p => isSt (fd.scope.names.lookup p.1)) = true) (hnod : ∀ x, ((sh (init x)).map (·.1)).Nodup)
    (hΓ : ∀ x, ∀ p ∈ sh (init x), p ∈ RepA.ents ns x ∨ unset p.2)
    (hEx : ∀ L s F P, Exs c n ⟨callEnvC fd L fa, s, F, P⟩ sh body f) : ∀ (x : τ) (r : ρ), retOf (f (init x)) = some r → CallS c (n + 1) (.ref fa) x r := by
  intro x r hr
  refine ⟨?_⟩
  intro A s F vs hA hb hF hv
  unfold retOf at hr
  obtain ⟨out, ho, hr⟩ := bind_some hr
  cases out with
  | ret r' =>
    cases hr
    refine wpAny_call (fn_code hK hcd hbody hclo hg hbu hco hgen hk hbind hn hpar hfree hkin hnod hΓ hEx ho hA hb hF hv fun fl s' L p => ?_)
    cases fl with
    | ret v => obtain ⟨F', se, r⟩ := p; exact ⟨F', se.ext, r⟩
    | _ => exact p.elim
  | _ => cases hr
end
end Mine
namespace Mine
open PySem PySem.W PyProof.Rows PySem.Calls

/-! ints -/
def addI (a b : Int) : Option Int := some (a + b)
def subI (a b : Int) : Option Int := some (a - b)
def bigI (a : Int) : Bool := Nat.ble 1809251394333065553493296640760748560207343510400633813116524750123642650624 a.natAbs
theorem bigI_eq (a : Int) : bigI a = Nat.ble (2 ^ 250) a.natAbs := rfl
def mulI (a b : Int) : Option Int := if bigI a || bigI b then none else some (a * b)
def modI (a b : Int) : Option Int := if b == 0 then none else some (a.fmod b)
def divI (a b : Int) : Option Int := if b == 0 || bigI b then none else some (a.fdiv b)
def negI (a : Int) : Option Int := some (-a)
def eqI (a b : Int) : Option Bool := some (a == b)
def neI (a b : Int) : Option Bool := some (a != b)
def ltI (a b : Int) : Option Bool := some (decide (a < b))
def leI (a b : Int) : Option Bool := some (decide (a ≤ b))
def gtI (a b : Int) : Option Bool := some (decide (a > b))
def geI (a b : Int) : Option Bool := some (decide (a ≥ b))
theorem bigI_bits {a : Int} (h : bigI a = false) : Builtin.Int.intBits a ≤ 250 := by
  rw [bigI_eq] at h
  have hn : a.natAbs < 2 ^ 250 := by
    apply Nat.lt_of_not_le
    intro q
    rw [Nat.ble_eq_true_of_le q] at h; cases h
  unfold Builtin.Int.intBits
  split
  · exact Nat.zero_le _
  · have : a.natAbs.log2 < 250 := by
      rcases Nat.eq_zero_or_pos a.natAbs with h0 | hp
      · rw [h0]; decide
      · exact (Nat.log2_lt (Nat.ne_of_gt hp)).mpr hn
    omega
theorem bigI_log {a : Int} (h : bigI a = false) : a.natAbs.log2 < 9000 := by
  rw [bigI_eq] at h
  have hn : a.natAbs < 2 ^ 250 := by
    apply Nat.lt_of_not_le
    intro q
    rw [Nat.ble_eq_true_of_le q] at h; cases h
  rcases Nat.eq_zero_or_pos a.natAbs with h0 | hp
  · rw [h0]; decide
  · exact Nat.lt_trans ((Nat.log2_lt (Nat.ne_of_gt hp)).mpr hn) (by decide)

section
variable {c : Cx} {n : Nat}
theorem s_addI {a b g : Int} (h : addI a b = some g) : BinS c n .Add a b g := by
  refine ⟨?_⟩
  rintro A s F va vb hA hB hF ⟨t, rfl⟩ ⟨u, rfl⟩; cases h
  exact P.add_int (pst_tok hF _ ⟨_, rfl⟩)
theorem s_subI {a b g : Int} (h : subI a b = some g) : BinS c n .Sub a b g := by
  refine ⟨?_⟩
  rintro A s F va vb hA hB hF ⟨t, rfl⟩ ⟨u, rfl⟩; cases h
  exact P.sub_int (pst_tok hF _ ⟨_, rfl⟩)
theorem s_mulI {a b g : Int} (h : mulI a b = some g) : BinS c n .Mult a b g := by
  refine ⟨?_⟩
  rintro A s F va vb hA hB hF ⟨t, rfl⟩ ⟨u, rfl⟩
  unfold mulI at h
  split at h
  · cases h
  · rename_i q
    cases h
    rw [Bool.or_eq_true, not_or, Bool.not_eq_true, Bool.not_eq_true] at q
    exact P.mul_int (pst_tok hF _ ⟨_, rfl⟩) (IntMulOk.of_bits (Nat.le_trans (bigI_bits q.1) (by decide)) (Nat.le_trans (bigI_bits q.2) (by decide)))
theorem s_modI {a b g : Int} (h : modI a b = some g) : BinS c n .Mod a b g := by
  refine ⟨?_⟩
  rintro A s F va vb hA hB hF ⟨t, rfl⟩ ⟨u, rfl⟩
  unfold modI at h
  split at h
  · cases h
  · rename_i q
    cases h
    exact mod_int' (by simpa using q) (pst_tok hF _ ⟨_, rfl⟩)
theorem s_divI {a b g : Int} (h : divI a b = some g) : BinS c n .FloorDiv a b g := by
  refine ⟨?_⟩
  rintro A s F va vb hA hB hF ⟨t, rfl⟩ ⟨u, rfl⟩
  unfold divI at h
  split at h
  · cases h
  · rename_i q
    cases h
    rw [Bool.or_eq_true, not_or, Bool.not_eq_true, Bool.not_eq_true] at q
    exact floordiv_int (by simpa using q.1) (pst_tok hF _ ⟨_, rfl⟩) (.inl (PyProof.noPylong_of_log2 (bigI_log q.2)))
theorem s_negI {a g : Int} (h : negI a = some g) : UnS c n .USub a g := by
  refine ⟨?_⟩
  rintro A s F va hA hB hF ⟨t, rfl⟩; cases h
  exact P.neg_int (pst_tok hF _ ⟨_, rfl⟩)
theorem s_eqI {a b : Int} {g : Bool} (h : eqI a b = some g) : CmpS c n .Eq a b g := by
  refine ⟨?_⟩
  rintro A s F va vb hA hB hF ⟨t, rfl⟩ ⟨u, rfl⟩; cases h
  exact P.eq_int (pst_same hF rfl)
theorem s_neI {a b : Int} {g : Bool} (h : neI a b = some g) : CmpS c n .NotEq a b g := by
  refine ⟨?_⟩
  rintro A s F va vb hA hB hF ⟨t, rfl⟩ ⟨u, rfl⟩; cases h
  exact P.ne_int (pst_same hF rfl)
theorem s_ltI {a b : Int} {g : Bool} (h : ltI a b = some g) : CmpS c n .Lt a b g := by
  refine ⟨?_⟩
  rintro A s F va vb hA hB hF ⟨t, rfl⟩ ⟨u, rfl⟩; cases h
  exact P.lt_int (pst_same hF rfl)
theorem s_leI {a b : Int} {g : Bool} (h : leI a b = some g) : CmpS c n .LtE a b g := by
  refine ⟨?_⟩
  rintro A s F va vb hA hB hF ⟨t, rfl⟩ ⟨u, rfl⟩; cases h
  exact P.le_int (pst_same hF rfl)
theorem s_gtI {a b : Int} {g : Bool} (h : gtI a b = some g) : CmpS c n .Gt a b g := by
  refine ⟨?_⟩
  rintro A s F va vb hA hB hF ⟨t, rfl⟩ ⟨u, rfl⟩; cases h
  exact P.gt_int (pst_same hF rfl)
theorem s_geI {a b : Int} {g : Bool} (h : geI a b = some g) : CmpS c n .GtE a b g := by
  refine ⟨?_⟩
  rintro A s F va vb hA hB hF ⟨t, rfl⟩ ⟨u, rfl⟩; cases h
  exact P.ge_int (pst_same hF rfl)

/-! floats -/
end
def addX (a b : Flt) : Option Flt := some ⟨Float64.add a.bits b.bits⟩
def subX (a b : Flt) : Option Flt := some ⟨Float64.sub a.bits b.bits⟩
def mulX (a b : Flt) : Option Flt := some ⟨Float64.mul a.bits b.bits⟩
def divX (a b : Flt) : Option Flt := if Float64.isZero b.bits then none else some ⟨Float64.div a.bits b.bits⟩
def modX (a b : Flt) : Option Flt := if Float64.isZero b.bits then none else some ⟨(Float64.divmod a.bits b.bits).2⟩
def eqX (a b : Flt) : Option Bool := some (Float64.cmp a.bits b.bits == some .eq)
def gtX (a b : Flt) : Option Bool := some (Float64.cmp a.bits b.bits == some .gt)
def divIX (a : Int) (b : Flt) : Option Flt := if Float64.isInf (Float64.ofInt a) || Float64.isZero b.bits then none else some ⟨Float64.div (Float64.ofInt a) b.bits⟩
def subXI (a : Flt) (b : Int) : Option Flt := if Float64.isInf (Float64.ofInt b) then none else some ⟨Float64.sub a.bits (Float64.ofInt b)⟩
def intX (x : Flt) : Option Int := match Float64.decode x.bits with | .fin sg m e => some (Float64.truncOf sg m e) | _ => none
section
variable {c : Cx} {n : Nat}
theorem s_addX {a b g : Flt} (h : addX a b = some g) : BinS c n .Add a b g := by
  refine ⟨?_⟩
  rintro A s F va vb hA hB hF ⟨t, rfl⟩ ⟨u, rfl⟩; cases h
  exact add_float (pst_tok hF _ ⟨_, rfl⟩)
theorem s_subX {a b g : Flt} (h : subX a b = some g) : BinS c n .Sub a b g := by
  refine ⟨?_⟩
  rintro A s F va vb hA hB hF ⟨t, rfl⟩ ⟨u, rfl⟩; cases h
  exact sub_float (pst_tok hF _ ⟨_, rfl⟩)
theorem s_mulX {a b g : Flt} (h : mulX a b = some g) : BinS c n .Mult a b g := by
  refine ⟨?_⟩
  rintro A s F va vb hA hB hF ⟨t, rfl⟩ ⟨u, rfl⟩; cases h
  exact mul_float (pst_tok hF _ ⟨_, rfl⟩)
theorem s_divX {a b g : Flt} (h : divX a b = some g) : BinS c n .Div a b g := by
  refine ⟨?_⟩
  rintro A s F va vb hA hB hF ⟨t, rfl⟩ ⟨u, rfl⟩
  unfold divX at h
  split at h
  · cases h
  · rename_i q; cases h
    exact AutoFloatOps.truediv_1 q (pst_tok hF _ ⟨_, rfl⟩)
theorem s_modX {a b g : Flt} (h : modX a b = some g) : BinS c n .Mod a b g := by
  refine ⟨?_⟩
  rintro A s F va vb hA hB hF ⟨t, rfl⟩ ⟨u, rfl⟩
  unfold modX at h
  split at h
  · cases h
  · rename_i q; cases h
    exact AutoFloatOps.mod_1 q (pst_tok hF _ ⟨_, rfl⟩)
theorem s_eqX {a b : Flt} {g : Bool} (h : eqX a b = some g) : CmpS c n .Eq a b g := by
  refine ⟨?_⟩
  rintro A s F va vb hA hB hF ⟨t, rfl⟩ ⟨u, rfl⟩; cases h
  exact AutoFloatOps.eq_0 (pst_same hF rfl)
theorem s_gtX {a b : Flt} {g : Bool} (h : gtX a b = some g) : CmpS c n .Gt a b g := by
  refine ⟨?_⟩
  rintro A s F va vb hA hB hF ⟨t, rfl⟩ ⟨u, rfl⟩; cases h
  exact AutoFloatOps.gt_0 (pst_same hF rfl)
theorem s_divIX {a : Int} {b g : Flt} (h : divIX a b = some g) : BinS c n .Div a b g := by
  refine ⟨?_⟩
  rintro A s F va vb hA hB hF ⟨t, rfl⟩ ⟨u, rfl⟩
  unfold divIX at h
  split at h
  · cases h
  · rename_i q; cases h
    rw [Bool.or_eq_true, not_or] at q
    exact AutoFloatOps.truediv_if_2 q.1 q.2 (pst_tok hF _ ⟨_, rfl⟩)
theorem s_subXI {a : Flt} {b : Int} {g : Flt} (h : subXI a b = some g) : BinS c n .Sub a b g := by
  refine ⟨?_⟩
  rintro A s F va vb hA hB hF ⟨t, rfl⟩ ⟨u, rfl⟩
  unfold subXI at h
  split at h
  · cases h
  · rename_i q; cases h
    exact AutoFloatOps.sub_fi_1 q (pst_tok hF _ ⟨_, rfl⟩)
theorem s_intX {x : Flt × Unit} {g : Int} (h : intX x.1 = some g) : CallS c n (.type "int") x g := by
  refine ⟨?_⟩
  rintro A s F vs hA hB hF ⟨v, ws, rfl, ⟨t, rfl⟩, rfl⟩
  unfold intX at h
  split at h
  · rename_i sg m e q; cases h
    exact call_int_float q (pst_tok hF _ ⟨_, rfl⟩)
  · cases h
end
end Mine
namespace Mine
open PySem PySem.W PyProof.Rows PySem.Calls
def maxX (a b c : Flt) : Flt := 
  let m := if Float64.cmp b.bits a.bits == some .gt then b else a
  if Float64.cmp c.bits m.bits == some .gt then c else m
def minX (a b c : Flt) : Flt := 
  let m := if Float64.cmp b.bits a.bits == some .lt then b else a
  if Float64.cmp c.bits m.bits == some .lt then c else m
theorem cmpOf_floats_gt {prog : Program} {w : World} {A : Around} {P : Nat → Value → Prop} (f : Nat → UInt64) (hval : ∀ i v, P i v → ∃ t, v = .float (f i) t) :
    CmpOf prog w A .Gt P (fun i j => Float64.cmp (f i) (f j) == some .gt) := fun i j vi vj s Q E hi hj h => by
  obtain ⟨t, rfl⟩ := hval i vi hi
  obtain ⟨u, rfl⟩ := hval j vj hj
  exact AutoFloatOps.gt_0 h
theorem cmpOf_floats_lt {prog : Program} {w : World} {A : Around} {P : Nat → Value → Prop} (f : Nat → UInt64) (hval : ∀ i v, P i v → ∃ t, v = .float (f i) t) :
    CmpOf prog w A .Lt P (fun i j => Float64.cmp (f i) (f j) == some .lt) := fun i j vi vj s Q E hi hj h => by
  obtain ⟨t, rfl⟩ := hval i vi hi
  obtain ⟨u, rfl⟩ := hval j vj hj
  exact AutoFloatOps.lt_0 h
section
variable {c : Cx} {n : Nat}
theorem fl3 {x y z : Flt} {va vb vc : Value} (ha : ∃ t, va = .float x.bits t) (hb : ∃ t, vb = .float y.bits t) (hc : ∃ t, vc = .float z.bits t) :
    ∀ (i : Nat) v, #[va, vb, vc][i]? = some v → ∃ t, v = .float (([x, y, z].map Flt.bits).getD i 0) t := by
  intro i v h
  match i with
  | 0 => cases h; exact ha
  | 1 => cases h; exact hb
  | 2 => cases h; exact hc
  | i + 3 => simp at h
theorem max_tail {A : Around} {s : Shared} {F : FH} {va vb vc : Value} (hA : OkA n A) (hF : FIn F s.heap) {Q : Value → Shared → Prop} {op : CmpOp} {bt : Nat → Nat → Bool}
    (hc : CmpOf c.prog c.w A.in1 op (fun i v => #[va, vb, vc][i]? = some v) bt)
    (h : ∀ v h' tk, #[va, vb, vc][argBest bt 2]? = some v → (∀ d o, s.heap.get? d = some o → h'.get? d = some o) → Q v { s with heap := h', toks := tk }) :
    wpAny (model c.prog c.w) A.in1 (pyIter (.ref s.heap.objs.size)) (fun it s₂ => ∃ I fp wr n P St bt, it = .ref I ∧ Walks c.prog c.w A.in1 I fp wr n P St ∧ St 0 s₂.heap ∧ (∀ b ∈ fp, b < s₂.heap.objs.size) ∧ 0 < n ∧ CmpOf c.prog c.w A.in1 op P bt ∧
      ∀ v h' tk, P (argBest bt (n - 1)) v → (∀ b o, b ∉ wr → s₂.heap.get? b = some o → h'.get? b = some o) → Q v { s₂ with heap := h', toks := tk }) NoE
      { s with heap := s.heap.push { cls := .type "tuple", data := .seq #[va, vb, vc] } } := by
  have hT : (s.heap.push { cls := .type "tuple", data := .seq #[va, vb, vc] }).IsTuple s.heap.objs.size #[va, vb, vc] := ⟨_, Heap.get?_push_size _ rfl, rfl, 0, rfl⟩
  refine wpAny_pyIter_tuple hT ?_
  have hsz : (s.heap.push { cls := .type "tuple", data := .seq #[va, vb, vc] }).objs.size = s.heap.objs.size + 1 := Heap.size_push ..
  refine ⟨_, [_, s.heap.objs.size], [_], 3, _, _, bt, rfl, Walks.tuple (A := A.in1) hA.hd _ s.heap.objs.size (by rw [hsz]; exact Nat.ne_of_lt (Nat.lt_succ_self _)) #[va, vb, vc],
    ⟨⟨_, Heap.get?_push_size _ rfl, rfl, rfl⟩, hT.push _⟩, fun d hd => ?_, by decide, hc, fun v h' tk hP hk => ?_⟩
  · show d < ((s.heap.push _).push _).objs.size
    rw [Heap.size_push, hsz]
    rcases List.mem_cons.mp hd with rfl | hd
    · rw [hsz]; exact Nat.lt_succ_self _
    · rcases List.mem_cons.mp hd with rfl | hd
      · exact Nat.lt_succ_of_lt (Nat.lt_succ_self _)
      · cases hd
  · refine h v h' tk hP fun d o e => ?_
    refine hk d o (fun hm => ?_) (Heap.get?_push_of_some _ (Heap.get?_push_of_some _ e))
    rcases List.mem_cons.mp hm with e1 | hm
    · have := Heap.lt_size e; rw [e1, hsz] at this; exact Nat.lt_irrefl _ (Nat.lt_of_succ_lt this)
    · cases hm
theorem best3 {x y z : Flt} (o : Ordering) (va vb vc v : Value) (ha : ∃ t, va = .float x.bits t) (hb : ∃ t, vb = .float y.bits t) (hc : ∃ t, vc = .float z.bits t)
    (h : #[va, vb, vc][argBest (fun i j => Float64.cmp (([x, y, z].map Flt.bits).getD i 0) (([x, y, z].map Flt.bits).getD j 0) == some o) 2]? = some v) :
    ∃ t, v = .float (let m := if Float64.cmp y.bits x.bits == some o then y else x; if Float64.cmp z.bits m.bits == some o then z else m).bits t := by
  have e : argBest (fun i j => Float64.cmp (([x, y, z].map Flt.bits).getD i 0) (([x, y, z].map Flt.bits).getD j 0) == some o) 2 =
      if Float64.cmp y.bits x.bits == some o then (if Float64.cmp z.bits y.bits == some o then 2 else 1) else (if Float64.cmp z.bits x.bits == some o then 2 else 0) := by
    show (if (Float64.cmp z.bits (([x, y, z].map Flt.bits).getD (if (Float64.cmp y.bits x.bits == some o) = true then 1 else 0) 0) == some o) = true then 2 else (if (Float64.cmp y.bits x.bits == some o) = true then 1 else 0)) = _
    split <;> split <;> simp_all
  rw [e] at h
  dsimp only
  split at h <;> split at h <;> rename_i h1 h2 <;> simp only [h1, h2] <;> first
    | (cases h; first | (simp only [if_true, if_false, Bool.false_eq_true, h2]; first | exact hc | exact hb | exact ha))
    | skip
theorem s_maxX {x : Flt × Flt × Flt × Unit} {g : Flt} (h : maxX x.1 x.2.1 x.2.2.1 = g) : CallS c n (.builtin "max") x g := by
  refine ⟨?_⟩
  rintro A s F vs hA hB hF ⟨va, _, rfl, ha, vb, _, rfl, hb, vc, _, rfl, hc, rfl⟩
  subst h
  refine call_max_three (max_tail hA hF (cmpOf_floats_gt _ (fl3 ha hb hc)) fun v h' tk hv hk => ?_)
  exact ⟨F, Ext.of_keeps hF ⟨h', tk, rfl, hk⟩, best3 .gt va vb vc v ha hb hc hv⟩
theorem s_minX {x : Flt × Flt × Flt × Unit} {g : Flt} (h : minX x.1 x.2.1 x.2.2.1 = g) : CallS c n (.builtin "min") x g := by
  refine ⟨?_⟩
  rintro A s F vs hA hB hF ⟨va, _, rfl, ha, vb, _, rfl, hb, vc, _, rfl, hc, rfl⟩
  subst h
  refine call_min_three (max_tail hA hF (cmpOf_floats_lt _ (fl3 ha hb hc)) fun v h' tk hv hk => ?_)
  exact ⟨F, Ext.of_keeps hF ⟨h', tk, rfl, hk⟩, best3 .lt va vb vc v ha hb hc hv⟩
end
end Mine
namespace Mine
open PySem PySem.W PyProof.Rows PySem.Calls

theorem isList_of {F : FH} {h : Heap} {a : Addr} {vs : List Value} {m : Nat} (hF : FIn F h) (e : F a = some (listObj vs m)) : h.IsList a vs.toArray := ⟨_, hF _ _ e, rfl, m, rfl⟩
theorem isTup_of {F : FH} {h : Heap} {a : Addr} {vs : List Value} {m : Nat} (hF : FIn F h) (e : F a = some (tupObj vs m)) : IsTup h a vs.toArray := ⟨_, hF _ _ e, rfl, m, rfl⟩

def bigN (k : Int) : Bool := match k with | .ofNat n => Nat.ble 4611686018427387904 n | .negSucc _ => true
def getL {α : Type} (xs : List α) (k : Int) : Option α := if bigN k then none else xs[k.toNat]?
theorem bigN_not {k : Int} (h : ¬ bigN k = true) : 0 ≤ k ∧ k < 2 ^ 63 := by
  cases k with
  | ofNat n =>
    have h2 : ¬ (4611686018427387904 ≤ n) := fun q => h (Nat.ble_eq_true_of_le q)
    exact ⟨Int.natCast_nonneg n, by show (n : Int) < 2 ^ 63; omega⟩
  | negSucc n => exact absurd rfl h
section
variable {c : Cx} {n : Nat} {env : Env} {Γ : Sh} {α β γ τ : Type} [Rep α] [Rep β] [Rep γ] [RepT τ]

/-- an item -/
theorem ev_index {value slice : Expr} {pos : Pos} {ov : Option (List α)} {oi : Option Int} (hv : Ev c n env Γ value ov) (hi : Ev c n env Γ slice oi)
    (hs : ∀ o i, subscripted slice false o i = operate [o, i] (getItem o i) := by intros; rfl) : Ev c n env Γ (.Subscript value slice pos) (bind2 ov oi fun xs k => getL xs k) := by
  refine ⟨?_⟩
  intro g hg A s F hA R
  obtain ⟨xs, hx, hg⟩ := bind_some hg
  obtain ⟨k, hk, hg⟩ := bind_some hg
  refine Subscript_ (hv.use hx hA R fun v s₁ F₁ x₁ R₁ r₁ => hi.use hk hA R₁ fun u s₂ F₂ x₂ R₂ r₂ => ?_)
  obtain ⟨a, vs, m, rfl, e, r₁⟩ := Rep.mono x₂.le r₁
  obtain ⟨t, rfl⟩ := r₂
  try dsimp only at hg
  unfold getL at hg
  split at hg
  · cases hg
  · rename_i hb
    obtain ⟨h0, h1⟩ := bigN_not hb
    obtain ⟨y, hy, ry⟩ := All2.get r₁ hg
    have hL := isList_of x₂.inn e
    exact tail_any hL.typeIs slot_list_getitem.lookup (wpAny_getItem_list hL h0 h1 (by simpa using hy) ⟨F₂, x₁.trans x₂, ry⟩) (hs _ _)
theorem ev_indexTL {value slice : Expr} {pos : Pos} {ov : Option (TL α)} {oi : Option Int} (hv : Ev c n env Γ value ov) (hi : Ev c n env Γ slice oi)
    (hs : ∀ o i, subscripted slice false o i = operate [o, i] (getItem o i) := by intros; rfl) : Ev c n env Γ (.Subscript value slice pos) (bind2 ov oi fun xs k => getL xs.items k) := by
  refine ⟨?_⟩
  intro g hg A s F hA R
  obtain ⟨xs, hx, hg⟩ := bind_some hg
  obtain ⟨k, hk, hg⟩ := bind_some hg
  refine Subscript_ (hv.use hx hA R fun v s₁ F₁ x₁ R₁ r₁ => hi.use hk hA R₁ fun u s₂ F₂ x₂ R₂ r₂ => ?_)
  obtain ⟨a, vs, m, rfl, e, r₁⟩ := Rep.mono x₂.le r₁
  obtain ⟨t, rfl⟩ := r₂
  try dsimp only at hg
  unfold getL at hg
  split at hg
  · cases hg
  · rename_i hb
    obtain ⟨h0, h1⟩ := bigN_not hb
    obtain ⟨y, hy, ry⟩ := All2.get r₁ hg
    have hT := isTup_of x₂.inn e
    refine tail_any hT.typeIs slot_tuple_getitem.lookup (PyProof.Rows.getItem_tuple hT (by omega) h1 (j := k.toNat) ?_ (by simpa using hy) ⟨F₂, x₁.trans x₂, ry⟩) (hs _ _)
    have hlt : k.toNat < vs.length := (List.getElem?_eq_some_iff.mp hy).1
    unfold seqIndex?
    simp only [List.size_toArray]
    split <;> rename_i q <;> simp_all <;> omega
/-- a written place of a tuple -/
theorem ev_field {value : Expr} {pos p : Pos} {ov : Option (Tup τ)} {k kk : Nat} {g : τ → γ} (hv : Ev c n env Γ value ov) (hg : ∀ F vs (x : τ), RepT.relT F vs x → ∃ v, vs[k]? = some v ∧ Rep.rel F v (g x)) (hk : k < 100 := by decide) :
    Ev c n env Γ (.Subscript value (.Constant (.int (k : Int)) kk p) pos) (ov.map fun x => g x.it) := by
  refine ⟨?_⟩
  intro y hy A s F hA R
  obtain ⟨x, hx, rfl⟩ := Option.map_eq_some_iff.mp hy
  refine Subscript_ (hv.use hx hA R fun v s₁ F₁ x₁ R₁ r₁ => ?_)
  refine (fun _ _ _ => ?_ : wpAny _ _ (eval (.Constant (.int (k : Int)) kk p) env) _ _ s₁)
  obtain ⟨a, vs, m, rfl, e, r₁⟩ := r₁
  obtain ⟨u, hu, ru⟩ := hg _ _ _ r₁
  have hT : IsTup ({ s₁ with toks := s₁.toks + 1 } : Shared).heap a vs.toArray := isTup_of x₁.inn e
  refine tail_any hT.typeIs slot_tuple_getitem.lookup (PyProof.Rows.getItem_tuple hT (by omega) (by omega) (j := k) ?_ (by simpa using hu) ⟨F₁, x₁.trans (Ext.tok x₁.inn _), ru⟩) rfl
  have hlt : k < vs.length := (List.getElem?_eq_some_iff.mp hu).1
  unfold seqIndex?
  simp only [List.size_toArray]
  split <;> rename_i q <;> simp_all <;> omega

/-- cuts -/
structure EvP (c : Cx) (n : Nat) (env : Env) (Γ : Sh) (e : Option Expr) (o : Option (Option Int)) : Prop where
  run : ∀ k, o = some k → ∀ A s F, OkA n A → Rs c env Γ F s → wpAny (model c.prog c.w) A (evalPart e env) (fun v s' => IsPart v k ∧ ∃ F', Ext s F s' F') NoE s
instance {c : Cx} {n : Nat} {env : Env} {Γ : Sh} {e : Option Expr} {o : Option (Option Int)} : CoeFun (EvP c n env Γ e o) (fun _ => ∀ k, o = some k → ∀ A s F, OkA n A → Rs c env Γ F s → wpAny (model c.prog c.w) A (evalPart e env) (fun v s' => IsPart v k ∧ ∃ F', Ext s F s' F') NoE s) := ⟨EvP.run⟩
theorem evP_none : EvP c n env Γ none (some none) := ⟨fun k hk A s F _ R => by
  cases hk; rw [evalPart_none]; exact wpAny_pure ⟨.none, F, Ext.refl R.inn⟩⟩
theorem evP_some {e : Expr} {o : Option Int} (h : Ev c n env Γ e o) : EvP c n env Γ (some e) (o.map some) := ⟨fun k hk A s F hA R => by
  obtain ⟨i, hi, rfl⟩ := Option.map_eq_some_iff.mp hk
  rw [evalPart_some]
  exact h.use hi hA R fun v s₁ F₁ x₁ _ r₁ => by obtain ⟨t, rfl⟩ := r₁; exact ⟨.int i t, F₁, x₁⟩⟩
def cutL {α : Type} (xs : List α) (lo hi : Option Int) : List α := (xs.drop (kms_lo lo xs.length)).take (kms_hi hi xs.length - kms_lo lo xs.length)
def sliceL {α : Type} (xs : List α) (lo hi : Option Int) : Option (List α) := if Nat.ble xs.length (2 ^ 24) then some (cutL xs lo hi) else none
def pickL {α : Type} (xs : List α) (lo hi st : Option Int) : List α := (sliceRange (sliceBounds lo hi st xs.length).1 (sliceBounds lo hi st xs.length).2.1 (sliceBounds lo hi st xs.length).2.2).filterMap (xs[·]?)
def stepL {α : Type} (xs : List α) (lo hi : Option Int) (st : Int) : Option (List α) := if Nat.ble xs.length (2 ^ 24) && st != 0 then some (pickL xs lo hi (some st)) else none
theorem All2.pick {R : Value → α → Prop} {vs : List Value} {xs : List α} (h : All2 R vs xs) (l : List Nat) : All2 R (l.filterMap (vs[·]?)) (l.filterMap (xs[·]?)) := by
  induction l with
  | nil => exact trivial
  | cons i l ih =>
    rw [List.filterMap_cons, List.filterMap_cons]
    cases e : xs[i]? with
    | some a => obtain ⟨v, hv, r⟩ := h.get e; rw [hv]; exact ⟨r, ih⟩
    | none =>
      have : vs[i]? = none := by
        rw [List.getElem?_eq_none_iff] at e ⊢
        rw [h.length]; exact e
      rw [this]; exact ih
theorem slice_core {value lower upper step} {p pos : Pos} {ov : Option (List α)} {ol ou os : Option (Option Int)} {xs : List α} {lo hi st : Option Int} {A : Around} {s : Shared} {F : FH} (hv : Ev c n env Γ value ov) (hl : EvP c n env Γ lower ol) (hu : EvP c n env Γ upper ou) (hst : EvP c n env Γ step os)
    (e1 : ov = some xs) (e2 : ol = some lo) (e3 : ou = some hi) (e4 : os = some st) (h0 : st ≠ some 0) (hz : xs.length ≤ sizeLine) (hA : OkA n A) (R : Rs c env Γ F s)
    (hs : ∀ o i, ∃ ops, subscripted (.Slice lower upper step p) false o i = operate ops (getItem o i)) :
    wpAny (model c.prog c.w) A (eval (.Subscript value (.Slice lower upper step p) pos) env) (PstF s F (pickL xs lo hi st)) NoE s := by
  refine Subscript_ (hv.use e1 hA R fun v s₁ F₁ x₁ R₁ r₁ => wpAny_Slice ?_)
  refine wpAny_mono (hl lo e2 A s₁ F₁ hA R₁) (fun vl s₂ ⟨pl, F₂, x₂⟩ => ?_) fun _ _ x => x
  refine wpAny_mono (hu hi e3 A s₂ F₂ hA (R₁.ext x₂)) (fun vu s₃ ⟨pu, F₃, x₃⟩ => ?_) fun _ _ x => x
  refine wpAny_mono (hst st e4 A s₃ F₃ hA ((R₁.ext x₂).ext x₃)) (fun vk s₄ ⟨pk, F₄, x₄⟩ => ?_) fun _ _ x => x
  obtain ⟨a, vs, m, rfl, e, r₁⟩ := Rep.mono ((x₂.le.trans x₃.le).trans x₄.le) r₁
  have hL : (s₄.heap.push { cls := .type "slice", data := .fields #[vl, vu, vk] }).IsList a vs.toArray := (isList_of x₄.inn e).push _
  have x5 := Ext.push (s := s₄) x₄.inn ({ cls := .type "slice", data := .fields #[vl, vu, vk] } : Obj) s₄.toks
  obtain ⟨ops, hs⟩ := hs (.ref a) (.ref s₄.heap.objs.size)
  refine tail_any (Heap.IsList.typeIs (s := { s₄ with heap := s₄.heap.push _ }) hL) slot_list_getitem.lookup (wpAny_getItem_list_slice (s := { s₄ with heap := s₄.heap.push _ }) hL (Heap.IsSliceOf.new ..) pl pu pk h0 ?_ (by simpa [r₁.length] using hz)) hs
  have e6 : slicePick vs.toArray lo hi st = ((sliceRange (sliceBounds lo hi st xs.length).1 (sliceBounds lo hi st xs.length).2.1 (sliceBounds lo hi st xs.length).2.2).filterMap (vs[·]?)).toArray := by
    unfold slicePick
    have : vs.toArray.size = xs.length := by simp [r₁.length]
    rw [this]
    congr 1
    congr 1
    funext i
    simp
  rw [e6]
  exact PstF.trans ((((x₁.trans x₂).trans x₃).trans x₄).trans x5) (pstF_push x5.inn (r₁.pick _) _)
theorem pickL_cut (xs : List α) (lo hi : Option Int) : pickL xs lo hi none = cutL xs lo hi := by
  unfold pickL cutL
  rw [kms_bounds]
  show (sliceRange _ _ 1).filterMap _ = _
  rw [sliceRange_one]
  have := pick_run xs.toArray (kms_lo lo xs.length) (kms_hi hi xs.length - kms_lo lo xs.length)
  simpa using this
theorem ev_slice {value : Expr} {lower upper : Option Expr} {p pos : Pos} {ov : Option (List α)} {ol ou : Option (Option Int)} (hv : Ev c n env Γ value ov) (hl : EvP c n env Γ lower ol) (hu : EvP c n env Γ upper ou) :
    EvF c n env Γ (.Subscript value (.Slice lower upper none p) pos) (ov.bind fun xs => ol.bind fun lo => ou.bind fun hi => sliceL xs lo hi) := by
  refine ⟨?_⟩
  intro g hg A s F hA R
  obtain ⟨xs, e1, hg⟩ := bind_some hg
  obtain ⟨lo, e2, hg⟩ := bind_some hg
  obtain ⟨hi, e3, hg⟩ := bind_some hg
  unfold sliceL at hg
  split at hg
  · rename_i q; cases hg
    have := slice_core (st := none) (os := some none) (step := none) (p := p) (pos := pos) hv hl hu evP_none e1 e2 e3 rfl (by intro q; cases q) (Nat.le_of_ble_eq_true q) hA R (fun o i => ⟨[i, o], rfl⟩)
    rw [pickL_cut] at this
    exact this
  · cases hg
theorem ev_sliceStep {value st : Expr} {lower upper : Option Expr} {p pos : Pos} {ov : Option (List α)} {ol ou : Option (Option Int)} {os : Option Int} (hv : Ev c n env Γ value ov) (hl : EvP c n env Γ lower ol) (hu : EvP c n env Γ upper ou) (hst : Ev c n env Γ st os) :
    EvF c n env Γ (.Subscript value (.Slice lower upper (some st) p) pos) (ov.bind fun xs => ol.bind fun lo => ou.bind fun hi => os.bind fun k => stepL xs lo hi k) := by
  refine ⟨?_⟩
  intro g hg A s F hA R
  obtain ⟨xs, e1, hg⟩ := bind_some hg
  obtain ⟨lo, e2, hg⟩ := bind_some hg
  obtain ⟨hi, e3, hg⟩ := bind_some hg
  obtain ⟨k, e4, hg⟩ := bind_some hg
  unfold stepL at hg
  split at hg
  · rename_i q; cases hg
    rw [Bool.and_eq_true] at q
    exact slice_core (st := some k) (os := os.map some) (step := some st) (p := p) (pos := pos) hv hl hu (evP_some hst) e1 e2 e3 (by rw [e4]; rfl) (by intro z; cases z; exact absurd q.2 (by decide)) (Nat.le_of_ble_eq_true q.1) hA R (fun o i => ⟨[o, i], rfl⟩)
  · cases hg
end
end Mine
namespace Mine
open PySem PySem.W PyProof.Rows PySem.Calls

def ownedIter (n : String) : Bool := ["enumerate", "zip", "dict_itemiterator", "dict_reverseitemiterator", "odict_iterator", "itertools.zip_longest", "itertools.pairwise"].contains n
structure It (c : Cx) (A : Around) (F : FH) (s s' : Shared) (I : Addr) (fp : List Addr) (P : Nat → Value → Prop) (St : Nat → Heap → Prop) {α : Type} [Rep α] (xs : List α) : Prop where
  ext : Ext s F s' F
  walk : Walks c.prog c.w A I fp [I] xs.length P St
  st : St 0 s'.heap
  cls : ∀ i h, St i h → ∃ o cl, h.get? I = some o ∧ o.cls = .type cl ∧ ownedIter cl = false
  new : s.heap.get? I = none
  fps : ∀ b ∈ fp, b = I ∨ ∃ o, F b = some o
  items : ∀ i v, i < xs.length → P i v → ∃ a, xs[i]? = some a ∧ Rep.rel F v a
structure ItS (c : Cx) (n : Nat) {κ α : Type} [Rep κ] [Rep α] (k : κ) (xs : List α) : Prop where
  run : ∀ A s F v, OkA n A → Bs c s.heap → FIn F s.heap → Rep.rel F v k → wpAny (model c.prog c.w) A (pyIter v) (fun it s' => ∃ I fp P St, it = .ref I ∧ It c A F s s' I fp P St xs) NoE s

instance {c : Cx} {n : Nat} {κ α : Type} [Rep κ] [Rep α] {k : κ} {xs : List α} : CoeFun (ItS c n k xs) (fun _ => ∀ A s F v, OkA n A → Bs c s.heap → FIn F s.heap → Rep.rel F v k → wpAny (model c.prog c.w) A (pyIter v) (fun it s' => ∃ I fp P St, it = .ref I ∧ It c A F s s' I fp P St xs) NoE s) := ⟨ItS.run⟩
section
variable {c : Cx} {n : Nat} {α : Type} [Rep α]
theorem lt_size_of {h : Heap} {a : Addr} {o : Obj} (e : h.get? a = some o) : a ≠ h.objs.size := Nat.ne_of_lt (Heap.lt_size e)
theorem its_list (xs : List α) : ItS c n xs xs := by
  refine ⟨?_⟩
  rintro A s F v hA hB hF ⟨a, vs, m, rfl, e, r⟩
  have hL := isList_of hF e
  refine wpAny_pyIter_list hL ?_
  have hne : a ≠ s.heap.objs.size := lt_size_of (hF _ _ e)
  refine ⟨_, [s.heap.objs.size, a], fun i v => vs.toArray[i]? = some v, fun i h => h.IsListIter s.heap.objs.size a i ∧ h.IsList a vs.toArray, rfl, Ext.push hF _ _, ?_, ⟨⟨_, Heap.get?_push_size _ rfl, rfl, rfl⟩, hL.push _⟩, ?_, get_size_none _, ?_, ?_⟩
  · have := Walks.list (prog := c.prog) (w := c.w) hA.hd s.heap.objs.size a hne vs.toArray
    rw [show vs.toArray.size = xs.length by simp [r.length]] at this
    exact this
  · rintro i h ⟨⟨o, ho, hc, _⟩, _⟩; exact ⟨o, _, ho, hc, by decide⟩
  · intro b hb
    rcases List.mem_cons.mp hb with h | h
    · exact .inl h
    · rcases List.mem_cons.mp h with h | h
      · exact .inr ⟨_, h ▸ e⟩
      · cases h
  · intro i v hi hv
    have hv' : vs[i]? = some v := by simpa using hv
    have hx : xs[i]? = some xs[i] := by simp [hi]
    obtain ⟨u, hu, ru⟩ := All2.get r hx
    rw [hv'] at hu; cases hu
    exact ⟨_, hx, ru⟩
theorem its_tup {κ : Type} [Rep κ] {k : κ} {xs : List α} (hk : ∀ F v, Rep.rel F v k → ∃ a vs m, v = .ref a ∧ F a = some (tupObj vs m) ∧ All2 (Rep.rel F) vs xs) : ItS c n k xs := by
  refine ⟨?_⟩
  intro A s F v hA hB hF hv
  obtain ⟨a, vs, m, rfl, e, r⟩ := hk F v hv
  have hT : s.heap.IsTuple a vs.toArray := ⟨_, hF _ _ e, rfl, m, rfl⟩
  refine wpAny_pyIter_tuple hT ?_
  have hne : a ≠ s.heap.objs.size := lt_size_of (hF _ _ e)
  refine ⟨_, [s.heap.objs.size, a], fun i v => vs.toArray[i]? = some v, fun i h => h.IsTupleIter s.heap.objs.size a i ∧ h.IsTuple a vs.toArray, rfl, Ext.push hF _ _, ?_, ⟨⟨_, Heap.get?_push_size _ rfl, rfl, rfl⟩, hT.push _⟩, ?_, get_size_none _, ?_, ?_⟩
  · have := Walks.tuple (prog := c.prog) (w := c.w) hA.hd s.heap.objs.size a hne vs.toArray
    rw [show vs.toArray.size = xs.length by simp [r.length]] at this
    exact this
  · rintro i h ⟨⟨o, ho, hc, _⟩, _⟩; exact ⟨o, _, ho, hc, by decide⟩
  · intro b hb
    rcases List.mem_cons.mp hb with h | h
    · exact .inl h
    · rcases List.mem_cons.mp h with h | h
      · exact .inr ⟨_, h ▸ e⟩
      · cases h
  · intro i v hi hv
    have hv' : vs[i]? = some v := by simpa using hv
    have hx : xs[i]? = some xs[i] := by simp [hi]
    obtain ⟨u, hu, ru⟩ := All2.get r hx
    rw [hv'] at hu; cases hu
    exact ⟨_, hx, ru⟩
theorem its_TL (xs : TL α) : ItS c n xs xs.items := its_tup fun F v h => h
theorem its_tup3 (x : Tup (α × α × α × Unit)) : ItS c n x [x.it.1, x.it.2.1, x.it.2.2.1] := its_tup fun F v h => by
  obtain ⟨a, vs, m, rfl, e, v1, _, rfl, r1, v2, _, rfl, r2, v3, _, rfl, r3, rfl⟩ := h
  exact ⟨a, _, m, rfl, e, r1, r2, r3, trivial⟩

/-- ranges by ones -/
structure Rng where
  lo : Int
  hi : Int
instance : Rep Rng := ⟨fun F v r => ∃ a t u x, v = .ref a ∧ ∀ h : Heap, FIn F h → IsRange h a r.lo r.hi 1 t u x, fun h ⟨a, t, u, x, e, k⟩ => ⟨a, t, u, x, e, fun h' hF => k h' fun b o q => hF b o (h b o q)⟩⟩
def intsFrom : Nat → Int → List Int
  | 0, _ => []
  | k + 1, a => a :: intsFrom k (a + 1)
theorem intsFrom_len : ∀ (k : Nat) (a : Int), (intsFrom k a).length = k
  | 0, _ => rfl
  | k + 1, a => by rw [intsFrom, List.length_cons, intsFrom_len]
theorem intsFrom_get : ∀ (k : Nat) (a : Int) (i : Nat), i < k → (intsFrom k a)[i]? = some (a + i)
  | k + 1, a, 0, _ => by simp [intsFrom]
  | k + 1, a, i + 1, h => by
    rw [intsFrom, List.getElem?_cons_succ, intsFrom_get k (a + 1) i (by omega)]
    congr 1; push_cast; omega
def rngI (r : Rng) : Option (List Int) := if Nat.ble (2 ^ 30) r.lo.natAbs || Nat.ble (2 ^ 30) r.hi.natAbs then none else some (intsFrom (r.hi - r.lo).toNat r.lo)
theorem its_rng {r : Rng} {xs : List Int} (h : rngI r = some xs) : ItS c n r xs := by
  refine ⟨?_⟩
  rintro A s F v hA hB hF ⟨a, t, u, x, rfl, k⟩
  unfold rngI at h
  split at h
  · cases h
  · rename_i q
    cases h
    rw [Bool.or_eq_true, not_or] at q
    have h1 : r.lo.natAbs < 2 ^ 30 := Nat.lt_of_not_le fun z => q.1 (Nat.ble_eq_true_of_le z)
    have h2 : r.hi.natAbs < 2 ^ 30 := Nat.lt_of_not_le fun z => q.2 (Nat.ble_eq_true_of_le z)
    have hsz : Builtin.Range.rangeSize r.lo r.hi 1 = (((r.hi - r.lo).toNat : Nat) : Int) := by
      unfold Builtin.Range.rangeSize
      simp
      split <;> omega
    have fit : ∀ z : Int, z.natAbs < 2 ^ 40 → Builtin.Range.rangeFitsLong z = true := fun z hz => by
      unfold Builtin.Range.rangeFitsLong
      simp
      omega
    have hsm : Builtin.Range.small r.lo r.hi 1 = true := by
      unfold Builtin.Range.small
      rw [hsz, fit r.lo (by omega), fit r.hi (by omega), fit 1 (by decide), fit _ (by omega)]
      have h3 : Builtin.Range.rangeFitsLong (r.hi + (1 - 1)) = true := fit _ (by omega)
      simp [h3]
      exact .inr (fit _ (by omega))
    refine wpAny_pyIter_range (k _ hF) hsm ?_
    refine ⟨_, [s.heap.objs.size], fun i v => ∃ t, v = .int (r.lo + i * 1) t, fun i h => IsRangeIter h s.heap.objs.size (r.lo + (i : Nat) * 1) (((r.hi - r.lo).toNat : Int) - (i : Nat)) 1, rfl, Ext.push hF _ _, ?_, ?_, ?_, get_size_none _, ?_, ?_⟩
    · have := Walks.range (prog := c.prog) (w := c.w) hA.hd s.heap.objs.size r.lo 1 (r.hi - r.lo).toNat
      rw [intsFrom_len]
      exact this
    · show IsRangeIter _ _ _ _ _
      rw [hsz]; simpa using Heap.get?_push_size _ rfl
    · intro i h hi; exact ⟨_, _, hi, rfl, by decide⟩
    · intro b hb; exact .inl (List.mem_singleton.mp hb)
    · rintro i v hi ⟨t, rfl⟩
      rw [intsFrom_len] at hi
      exact ⟨_, intsFrom_get _ _ _ hi, ⟨t, by simp⟩⟩
/-- the signs of a text -/
def signs (x : Txt) : List Txt := x.cs.map fun k => ⟨[k]⟩
theorem its_txt (x : Txt) : ItS c n x (signs x) := by
  refine ⟨?_⟩
  rintro A s F v hA hB hF ⟨t, rfl⟩
  have hsz : x.str.cps.size = (signs x).length := by show x.cs.toArray.size = (x.cs.map _).length; simp
  have hget : ∀ i (v : Value), SignAt x.str i v → ∃ a, (signs x)[i]? = some a ∧ Rep.rel F v a := by
    rintro i v ⟨cc, u, h1, rfl⟩
    have h1' : x.cs.toArray[i]? = some cc := h1
    have h2 : x.cs[i]? = some cc := by simpa using h1'
    refine ⟨⟨[cc]⟩, ?_, u, rfl⟩
    show (x.cs.map _)[i]? = _
    rw [List.getElem?_map, h2]; rfl
  have fin : ∀ (T : String) (St : Nat → Heap → Prop), ownedIter T = false → (∀ i h, St i h → h.IsStrIter s.heap.objs.size T x.str t i) → St 0 (s.heap.push { cls := .type T, data := .fields #[.str x.str t, .int 0 0] }) →
      Walks c.prog c.w A s.heap.objs.size [s.heap.objs.size] [s.heap.objs.size] x.str.cps.size (SignAt x.str) St →
      ∃ I fp P St, (Value.ref s.heap.objs.size : Value) = .ref I ∧ It c A F s { s with heap := s.heap.push { cls := .type T, data := .fields #[.str x.str t, .int 0 0] } } I fp P St (signs x) := by
    intro T St hT hi h0 W
    rw [hsz] at W
    exact ⟨_, _, _, St, rfl, Ext.push hF _ _, W, h0, fun i h q => (by obtain ⟨o, ho, hc, _⟩ := hi i h q; exact ⟨o, T, ho, hc, hT⟩), get_size_none _, fun b hb => .inl (List.mem_singleton.mp hb), fun i v _ q => hget i v q⟩
  cases ha : x.str.cps.all (· < 128)
  · exact wpAny_pyIter_wide ha (fin "str_iterator" _ (by decide) (fun _ _ q => q) ⟨_, Heap.get?_push_size _ rfl, rfl, rfl⟩ (Walks.strWide hA.hd _ x.str t))
  · exact wpAny_pyIter_ascii ha (fin "str_ascii_iterator" _ (by decide) (fun _ _ q => q) ⟨_, Heap.get?_push_size _ rfl, rfl, rfl⟩ (Walks.strAscii hA.hd _ x.str t))
end
end Mine
namespace Mine
open PySem PySem.W PyProof.Rows PySem.Calls

section
variable {c : Cx} {n : Nat} {X : Ac} {Γ : Sh} {F : FH} {s : Shared} {ρ : Str → Option Value} {μ : Slots}
/-- one more thing is kept: not the frame's, nor a cell, nor a slot -/
theorem Stv.guard {I : Addr} {o : Obj} (R : Stv c X Γ F s ρ μ) (ho : s.heap.get? I = some o) (hL : X.env.locals ≠ I) (hC : ∀ x cc, X.env.cells.lookup x = some cc → cc ≠ I) (hM : ∀ i a o, μ i = some (a, o) → a ≠ I) :
    Stv c (X.pr F (X.prot.put I o)) Γ F s ρ μ := by
  have E := R.ste
  have S := R.sep
  have off : ∀ a, a ≠ I → X.prot a = none → X.prot.put I o a = none := fun a h q => by unfold FH.put; rw [if_neg h]; exact q
  refine ⟨⟨E.bs0, ⟨E.ext.keeps, FLe.refl _, E.ext.inn, fun _ _ q => .inl q⟩, fun a o' q => ?_, fun _ _ q => .inl q⟩, R.kin, R.nod, R.rd, R.mu,
    ⟨S.locN, S.locF, off _ hL S.locP, S.celH, S.celN, S.celF, fun x cc h => off _ (hC x cc h) (S.celP x cc h), S.celL, S.celA, S.muN, S.muF, fun i a o' h => off _ (hM i a o' h) (S.muP i a o' h), S.muL, S.muC, S.muA⟩, R.ent⟩
  have q' : (if a = I then some o else X.prot a) = some o' := q
  split at q'
  · rename_i h; cases q'; rw [h]; exact ho
  · exact E.prt a o' q'
/-- the kept thing turns -/
theorem Stv.wrG {I : Addr} {o : Obj} {F₁ P' : FH} {h' : Heap} {tk : Nat} (R : Stv c (X.pr F₁ (X.prot.put I o)) Γ F s ρ μ) (hI : X.s0.heap.get? I = none) (hF : F₁ I = none)
    (hP : ∀ b q, P' b = some q → b = I ∨ X.prot b = some q) (hPI : ∀ q, P' I = some q → h'.get? I = some q)
    (hk : ∀ b q, b ∉ [I] → s.heap.get? b = some q → h'.get? b = some q) : Stv c (X.pr F₁ P') Γ F { s with heap := h', toks := tk } ρ μ := by
  have E := R.ste
  have S := R.sep
  have pI : (X.pr F₁ (X.prot.put I o)).prot I = some o := FH.put_self ..
  have ne : ∀ a, (X.pr F₁ (X.prot.put I o)).prot a = none → a ≠ I := fun a q z => by rw [z, pI] at q; cases q
  have nP : ∀ a, (X.pr F₁ (X.prot.put I o)).prot a = none → P' a = none := fun a q => by
    have h := ne a q
    have q' : (if a = I then some o else X.prot a) = none := q
    rw [if_neg h] at q'
    refine not_some_of fun z e => ?_
    rcases hP a z e with w | w
    · exact h w
    · rw [q'] at w; cases w
  have FI : F I = none := not_some_of fun q z => by
    rcases E.prn I q z with z' | z'
    · rw [show (X.pr F₁ (X.prot.put I o)).F0 I = F₁ I from rfl, hF] at z'; cases z'
    · rw [pI] at z'; cases z'
  have k2 : ∀ b q, b ≠ I → s.heap.get? b = some q → h'.get? b = some q := fun b q h e => hk b q (by simpa using h) e
  have neF : ∀ b q, F b = some q → b ≠ I := fun b q e z => by rw [z, FI] at e; cases e
  have neM : ∀ i a q, μ i = some (a, q) → a ≠ I := fun i a q e => ne a (S.muP i a q e)
  have neL : X.env.locals ≠ I := ne _ S.locP
  have neC : ∀ x cc, X.env.cells.lookup x = some cc → cc ≠ I := fun x cc e => ne _ (S.celP x cc e)
  obtain ⟨h₁, t₁, hs, hkp⟩ := E.ext.keeps
  have k0 : ∀ b q, X.s0.heap.get? b = some q → h'.get? b = some q := fun b q e => k2 b q (fun z => by rw [z, hI] at e; cases e) (by subst hs; exact hkp b q e)
  refine ⟨⟨E.bs0, ⟨⟨h', tk, by subst hs; rfl, k0⟩, E.ext.le, fun b q e => k2 b q (neF b q e) (E.ext.inn b q e), E.ext.new⟩, fun a q e => ?_, fun a q e => ?_⟩, R.kin, R.nod, ⟨R.rd.kind, R.rd.glob, R.rd.bui, ?_, ?_⟩, fun i a q e => k2 a q (neM i a q e) (R.mu i a q e),
    ⟨S.locN, S.locF, nP _ S.locP, fun x cc e => let ⟨q, z⟩ := S.celH x cc e; ⟨q, k2 _ _ (neC x cc e) z⟩, S.celN, S.celF, fun x cc h => nP _ (S.celP x cc h), S.celL, S.celA, S.muN, S.muF, fun i a o' h => nP _ (S.muP i a o' h), S.muL, S.muC, S.muA⟩, R.ent⟩
  · have e : P' a = some q := e
    by_cases h : a = I
    · rw [h] at e ⊢; exact hPI q e
    · rcases hP a q e with w | w
      · exact absurd w h
      · exact k2 a q h (E.prt a q (by show (if a = I then some o else X.prot a) = some q; rw [if_neg h]; exact w))
  · rcases E.prn a q e with z | z
    · exact .inl z
    · exact .inr (nP a z)
  · obtain ⟨m, hn, hm⟩ := R.rd.loc
    exact ⟨m, hn.at' fun q e => k2 _ q neL e, hm⟩
  · intro x hx
    obtain ⟨cc, h1, q, e, hd⟩ := R.rd.cel x hx
    exact ⟨cc, h1, q, k2 _ q (neC x cc h1) e, hd⟩
theorem Stv.wr {I : Addr} {o o' : Obj} {F₁ : FH} {h' : Heap} {tk : Nat} (R : Stv c (X.pr F₁ (X.prot.put I o)) Γ F s ρ μ) (hI : X.s0.heap.get? I = none) (hF : F₁ I = none) (ho : h'.get? I = some o')
    (hk : ∀ b q, b ∉ [I] → s.heap.get? b = some q → h'.get? b = some q) : Stv c (X.pr F₁ (X.prot.put I o')) Γ F { s with heap := h', toks := tk } ρ μ :=
  R.wrG hI hF (fun b q e => by
    have e' : (if b = I then some o' else X.prot b) = some q := e
    split at e'
    · rename_i h; exact .inl h
    · exact .inr e') (fun q e => by rw [FH.put_self] at e; cases e; exact ho) hk
theorem StE.back {P : FH} {F₁ : FH} {s₁ : Shared} (B : StE c X F₁ s₁) (E : StE c (X.pr F₁ P) F s) (hP : ∀ b o, X.prot b = some o → P b = some o) : StE c X F s := by
  refine ⟨E.bs0, ⟨E.ext.keeps, B.ext.le.trans E.ext.le, E.ext.inn, fun a o e => ?_⟩, fun a o e => E.prt a o (hP a o e), fun a o e => ?_⟩
  · rcases E.ext.new a o e with z | z
    · exact B.ext.new a o z
    · exact .inr z
  · rcases E.prn a o e with z | z
    · exact B.prn a o z
    · exact .inr (not_some_of fun q w => by rw [show (X.pr F₁ P).prot a = P a from rfl, hP a q w] at z; cases z)
theorem Stv.back {P : FH} {F₁ : FH} {s₁ : Shared} (B : StE c X F₁ s₁) (R : Stv c (X.pr F₁ P) Γ F s ρ μ) (hP : ∀ b o, X.prot b = some o → P b = some o) : Stv c X Γ F s ρ μ := by
  have S := R.sep
  have nP : ∀ a, P a = none → X.prot a = none := fun a q => not_some_of fun o w => by rw [hP a o w] at q; cases q
  exact ⟨StE.back B R.ste hP, R.kin, R.nod, R.rd, R.mu, ⟨S.locN, S.locF, nP _ S.locP, S.celH, S.celN, S.celF, fun x cc h => nP _ (S.celP x cc h), S.celL, S.celA, S.muN, S.muF, fun i a o h => nP _ (S.muP i a o h), S.muL, S.muC, S.muA⟩, R.ent⟩
end

def forF {σ ρ α : Type} (f : σ → Option (Fl σ ρ)) (set : σ → α → σ) : List α → σ → Option (Fl σ ρ)
  | [], x => some (.next x)
  | a :: as, x => (f (set x a)).bind fun
    | .next y => forF f set as y
    | .cont y => forF f set as y
    | .brk y => some (.next y)
    | .ret r => some (.ret r)
def whileF {σ ρ : Type} (t : σ → Option Bool) (f : σ → Option (Fl σ ρ)) : Nat → σ → Option (Fl σ ρ)
  | 0, _ => none
  | k + 1, x => (t x).bind fun b => if b then (f x).bind fun
    | .next y => whileF t f k y
    | .cont y => whileF t f k y
    | .brk y => some (.next y)
    | .ret r => some (.ret r)
    else some (.next x)

section
variable {c : Cx} {n : Nat} {X : Ac} {σ ρ : Type} [Rep ρ] {sh : σ → Sh} {α β κ : Type} [Rep α] [Rep β] [Rep κ]
structure Asg (c : Cx) (X : Ac) (sh : σ → Sh) (target : Expr) (set : σ → α → σ) : Prop where
  run : ∀ x a A s F v, OkA 0 A → Stt c X (sh x) F s → Rep.rel F v a → wpAny (model c.prog c.w) A (assign target X.env v) (fun _ s' => ∃ F', FLe F F' ∧ Stt c X (sh (set x a)) F' s') NoE s
instance {c : Cx} {X : Ac} {sh : σ → Sh} {target : Expr} {set : σ → α → σ} : CoeFun (Asg c X sh target set) (fun _ => ∀ x a A s F v, OkA 0 A → Stt c X (sh x) F s → Rep.rel F v a → wpAny (model c.prog c.w) A (assign target X.env v) (fun _ s' => ∃ F', FLe F F' ∧ Stt c X (sh (set x a)) F' s') NoE s) := ⟨Asg.run⟩
theorem asg_name {y : Str} {py : Pos} {up : σ → α → σ} (i : Nat) (hi : ∀ x, ∃ e0, (sh x)[i]? = some (y, e0) := by intro _; exact ⟨_, rfl⟩) (hu : ∀ x a, sh (up x a) = (sh x).set i (y, val (some a)) := by intros; rfl) : Asg c X sh (.Name y py) up := by
  refine ⟨?_⟩
  intro x a A s F v _ R r
  obtain ⟨e0, hi⟩ := hi x
  exact wpAny_assign_Name (store_val hi R r fun s' R' => ⟨F, FLe.refl F, by rw [hu]; exact R'⟩)
theorem letOwned_wp {M : Model} {A : Around} {E : Value → Shared → Prop} {s : Shared} {target : Expr} {I : Addr} {v : Value} {o : Obj} {cl : String} {Q : Unit → Shared → Prop} (ho : s.heap.get? I = some o) (hc : o.cls = .type cl) (hn : ownedIter cl = false) (h : Q () s) :
    wpAny M A (letOwnedTupleGo target (.ref I) v) Q E s := by
  have main : wpAny M A (match (Value.ref I, v) with
      | (.ref r, .ref a) => load r >>= fun o => match o.cls, o.data with
        | .type n, .fields vs => if ["enumerate", "zip", "dict_itemiterator", "dict_reverseitemiterator", "odict_iterator", "itertools.zip_longest", "itertools.pairwise"].contains n && vs[0]? == some (rawInt a) then (do
            rule "for.unpacks-the-owned-tuple"
            updateField r 0 .none) else pure ()
        | _, _ => pure ()
      | _ => pure ()) Q E s := by
    cases v with
    | ref a =>
      refine wpAny_bind (wpAny_load ho ?_)
      rw [hc]
      cases o.data with
      | fields vs =>
        show wpAny M A (if (ownedIter cl && vs[0]? == some (rawInt a)) = true then _ else _) Q E s
        rw [hn]; exact wpAny_pure h
      | _ => exact wpAny_pure h
    | _ => exact wpAny_pure h
  cases target <;> first | exact wpAny_pure h | exact main
theorem noE_any {α : Type} {M : Model} {A : Around} {s : Shared} {t : Sem α} {Q : α → Shared → Prop} {E : Value → Shared → Prop} (h : wpAny M A t Q NoE s) : wpAny M A t Q E s := wpAny_mono h (fun _ _ x => x) fun _ _ x => x.elim

theorem for_core {target : Expr} {body : List Stmt} {xs : List α} {set : σ → α → σ} {f : σ → Option (Fl σ ρ)} {A : Around} {I : Addr} {fp : List Addr} {P : Nat → Value → Prop} {St : Nat → Heap → Prop} {F : FH} {s s₂ : Shared} {x : σ} {out : Fl σ ρ}
    (hA : OkA n A) (R : Stt c X (sh x) F s) (T : It c A F s s₂ I fp P St xs) (hasg : ∀ F0 P, Asg c (X.pr F0 P) sh target set) (hb : ∀ F0 P, Exs c n (X.pr F0 P) sh body f) (ho : forF f set xs x = some out)
    {Rr : Result → Shared → Prop} (hR : ∀ fl s', OutP c X sh out fl s' → Rr (.ok fl) s') : codeAny (model c.prog c.w) A (.forLoop target (.ref I) body [] X.env) Rr s₂ := by
  obtain ⟨ρ₀, μ₀, R0⟩ := R
  have R2 := R0.ext T.ext
  have hs0 : X.s0.heap.get? I = none := not_some_of fun o q => by have := keeps_keep R0.ste.ext.keeps I o q; rw [T.new] at this; cases this
  have hFI : F I = none := not_some_of fun o q => by have := R0.ste.ext.inn I o q; rw [T.new] at this; cases this
  have hpI : X.prot I = none := not_some_of fun o q => by have := R0.ste.prt I o q; rw [T.new] at this; cases this
  obtain ⟨o₀, cl₀, hI₀, _⟩ := T.cls 0 _ T.st
  have G0 : Stv c (X.pr F (X.prot.put I o₀)) (sh x) F s₂ ρ₀ μ₀ := by
    refine R2.guard hI₀ (fun z => ?_) (fun y cc e z => ?_) (fun i a o e z => ?_)
    · obtain ⟨o, e⟩ := R0.rd.locH; rw [z, T.new] at e; cases e
    · obtain ⟨o, q⟩ := R0.sep.celH y cc e; rw [z, T.new] at q; cases q
    · have q := R0.mu i a o e; rw [z, T.new] at q; cases q
  have prle : ∀ o b q, X.prot b = some q → (X.prot.put I o) b = some q := fun o b q e => by
    unfold FH.put; rw [if_neg (fun z => by rw [z, hpI] at e; cases e)]; exact e
  refine codeAny_forLoop_any (fun k s' => ∃ j y F' o ρ' μ', j ≤ xs.length ∧ k = xs.length - j + 1 ∧ St j s'.heap ∧ s'.heap.get? I = some o ∧ forF f set (xs.drop j) y = some out ∧ Stv c (X.pr F (X.prot.put I o)) (sh y) F' s' ρ' μ') ?_ (xs.length + 1)
    ⟨0, x, F, o₀, ρ₀, μ₀, Nat.zero_le _, by omega, T.st, hI₀, by simpa using ho, G0⟩
  rintro k s' ⟨j, y, F', o, ρ', μ', hj, rfl, hst, hIo, hout, G⟩
  by_cases hlt : j < xs.length
  · have hdrop : xs.drop j = xs[j] :: xs.drop (j + 1) := List.drop_eq_getElem_cons hlt
    rw [hdrop] at hout
    obtain ⟨res, hres, hout⟩ := bind_some hout
    refine T.walk.item j s' _ _ hlt hst fun v h' tk hP hst' hk => ?_
    obtain ⟨o', cl, hI', hcl, hown⟩ := T.cls _ _ hst'
    have G' := G.wr (tk := tk) hs0 hFI hI' hk
    refine letOwned_wp (s := { s' with heap := h', toks := tk }) hI' hcl hown ?_
    obtain ⟨a, ha, ra⟩ := T.items j v hlt hP
    have ea : a = xs[j] := by rw [List.getElem?_eq_getElem hlt] at ha; exact (Option.some.inj ha).symm
    subst ea
    have fle : FLe F F' := G.ste.ext.le
    refine noE_any (wpAny_mono (hasg F (X.prot.put I o') y xs[j] A _ F' v (hA.le (Nat.zero_le _)) ⟨ρ', μ', G'⟩ (Rep.mono fle ra)) (fun _ s₄ ⟨F₄, le₄, R₄⟩ => ?_) fun _ _ x => x)
    refine noE_any (wpAny_mono (hb F (X.prot.put I o') (set y xs[j]) res hres A s₄ F₄ hA R₄) (fun fl s₅ p => ?_) fun _ _ x => x)
    have fin : ∀ (y' : σ) (F₅ : FH), Stt c (X.pr F (X.prot.put I o')) (sh y') F₅ s₅ → forF f set (xs.drop (j + 1)) y' = some out → ∃ m, m < xs.length - j + 1 ∧ ∃ j y F' o ρ' μ', j ≤ xs.length ∧ m = xs.length - j + 1 ∧ St j s₅.heap ∧ s₅.heap.get? I = some o ∧ forF f set (xs.drop j) y = some out ∧ Stv c (X.pr F (X.prot.put I o)) (sh y) F' s₅ ρ' μ' := by
      rintro y' F₅ ⟨ρ₅, μ₅, R₅⟩ ho'
      have e5 : s₅.heap.get? I = some o' := R₅.ste.prt I o' (FH.put_self ..)
      refine ⟨xs.length - (j + 1) + 1, by omega, j + 1, y', F₅, o', ρ₅, μ₅, hlt, rfl, ?_, e5, ho', R₅⟩
      refine T.walk.frame _ _ _ hst' fun b hb q eq => ?_
      rcases T.fps b hb with z | ⟨q', z⟩
      · subst z; rw [hI'] at eq; cases eq; exact e5
      · have h1 : h'.get? b = some q' := G'.ste.ext.inn b q' (fle b q' z)
        rw [h1] at eq; cases eq
        exact R₅.ste.ext.inn b _ (R₅.ste.ext.le b _ z)
    have bk : ∀ (y' : σ) (F₅ : FH), Stt c (X.pr F (X.prot.put I o')) (sh y') F₅ s₅ → Stt c X (sh y') F₅ s₅ := by
      rintro y' F₅ ⟨ρ₅, μ₅, R₅⟩
      exact ⟨ρ₅, μ₅, R₅.back R2.ste (prle o')⟩
    cases res with
    | next y' =>
      cases fl with
      | next => obtain ⟨F₅, R₅⟩ := p; exact fin y' F₅ R₅ hout
      | _ => exact p.elim
    | cont y' =>
      cases fl with
      | cont => obtain ⟨F₅, R₅⟩ := p; exact fin y' F₅ R₅ hout
      | _ => exact p.elim
    | brk y' =>
      cases hout
      cases fl with
      | brk => obtain ⟨F₅, R₅⟩ := p; exact hR .next s₅ ⟨F₅, bk y' F₅ R₅⟩
      | _ => exact p.elim
    | ret r =>
      cases hout
      cases fl with
      | ret v => obtain ⟨F₅, E₅, r₅⟩ := p; exact hR (.ret v) s₅ ⟨F₅, StE.back R2.ste E₅ (prle o'), r₅⟩
      | _ => exact p.elim
  · have hje : j = xs.length := by omega
    subst hje
    rw [List.drop_length] at hout
    cases hout
    refine T.walk.done s' _ _ hst fun h' tk hk => ?_
    refine wpAny_execs_nil (hR .next _ ?_)
    have G' := G.wrG (P' := X.prot) (tk := tk) hs0 hFI (fun b q e => .inr e) (fun q e => by rw [hpI] at e; cases e) hk
    exact ⟨F', ρ', μ', G'.back R2.ste fun _ _ e => e⟩

theorem ex_for {target iter : Expr} {body : List Stmt} {pos : Pos} {d : σ → Option κ} {items : κ → Option (List α)} {set : σ → α → σ} {f : σ → Option (Fl σ ρ)} (he : ∀ x, Ev c n X.env (sh x) iter (d x)) (hit : ∀ k xs, items k = some xs → ItS c n k xs)
    (hasg : ∀ F0 P, Asg c (X.pr F0 P) sh target set) (hb : ∀ F0 P, Exs c n (X.pr F0 P) sh body f) (hs : ∀ x, foldedSetIterable iter X.env x = pure x := by intro _; rfl) :
    Ex c n X sh (.For target iter body [] pos) (fun x => (d x).bind fun k => (items k).bind fun xs => forF f set xs x) := by
  refine ⟨?_⟩
  intro x out ho A s F hA R
  obtain ⟨k, hk, ho⟩ := bind_some ho
  obtain ⟨xs, hx, ho⟩ := bind_some ho
  refine wpAny_For ((he x).use hk hA R.rs fun v s₁ F₁ x₁ R₁ r₁ => wpAny_mono (hit k xs hx A s₁ F₁ v hA R₁.bs R₁.inn r₁) (fun it s₂ ⟨I, fp, P, St, hI, T⟩ => ?_) fun _ _ x => x) hs
  subst hI
  exact for_core hA (R.ext x₁) T hasg hb ho fun fl s' p => p
theorem ex_while {test : Expr} {body : List Stmt} {pos : Pos} {t : σ → Option Bool} {f : σ → Option (Fl σ ρ)} (k : Nat) (ht : ∀ x, Tst c n X.env (sh x) test (t x)) (hb : Exs c n X sh body f) : Ex c n X sh (.While test body [] pos) (fun x => whileF t f k x) := by
  refine ⟨?_⟩
  intro x out ho A s F hA R
  refine wpAny_While (codeAny_whileLoop (fun j s' => ∃ y F', whileF t f j y = some out ∧ Stt c X (sh y) F' s') ?_ k ⟨x, F, ho, R⟩)
  rintro j s' ⟨y, F', ho, R'⟩
  cases j with
  | zero => cases ho
  | succ j =>
    obtain ⟨b, hb', ho⟩ := bind_some ho
    refine noE_any (wpAny_mono (ht y b hb' A s' F' hA R'.rs) (fun r s₂ p => ?_) fun _ _ x => x)
    obtain ⟨rfl, F₂, x₂⟩ := p
    cases r with
    | false =>
      cases ho
      exact wpAny_execs_nil ⟨F₂, R'.ext x₂⟩
    | true =>
      obtain ⟨res, hres, ho⟩ := bind_some ho
      refine noE_any (wpAny_mono (hb y res hres A s₂ F₂ hA (R'.ext x₂)) (fun fl s₅ p => ?_) fun _ _ x => x)
      cases res with
      | next y' => cases fl with
        | next => obtain ⟨F₅, R₅⟩ := p; exact ⟨j, Nat.lt_succ_self j, y', F₅, ho, R₅⟩
        | _ => exact p.elim
      | cont y' => cases fl with
        | cont => obtain ⟨F₅, R₅⟩ := p; exact ⟨j, Nat.lt_succ_self j, y', F₅, ho, R₅⟩
        | _ => exact p.elim
      | brk y' =>
        cases ho
        cases fl with
        | brk => exact p
        | _ => exact p.elim
      | ret r =>
        cases ho
        cases fl with
        | ret v => exact p
        | _ => exact p.elim
end
end Mine
namespace Mine
open PySem PySem.W PyProof.Rows PySem.Calls

/-! the block of a comprehension -/
def cloF (cells : Str → Option Addr) : List (Str × NameKind) → List (Str × Addr) → List (Str × Addr)
  | [], acc => acc
  | (y, k) :: r, acc => if k == .free then cloF cells r ((y, (cells y).getD 0) :: acc) else cloF cells r acc
theorem clo_go {env : Env} : ∀ (names : List (Str × NameKind)) (acc : List (Str × Addr)), (∀ y ∈ names, y.2 = .free → (env.cells.lookup y.1).isSome = true) →
    (forIn names acc (fun (x : Str × NameKind) (cs : List (Str × Addr)) => (if (x.2 == NameKind.free) = true then do let a ← cellOf env x.1; pure (ForInStep.yield ((x.1, a) :: cs)) else pure (ForInStep.yield cs) : Sem (ForInStep (List (Str × Addr)))))) = pure (cloF (fun y => env.cells.lookup y) names acc)
  | [], acc, _ => rfl
  | (y, k) :: r, acc, h => by
    rw [List.forIn_cons]
    unfold cloF
    cases hk : k == NameKind.free with
    | true =>
      have hk' : k = .free := by simpa using hk
      obtain ⟨a, ha⟩ := Option.isSome_iff_exists.mp (h (y, k) (.head _) hk')
      have hc : cellOf env y = pure a := by unfold cellOf; rw [show env.cells.lookup y = some a from ha]
      simp only [if_true, hc, pure_bind]
      rw [show env.cells.lookup y = some a from ha]
      exact clo_go r _ fun z hz => h z (.tail _ hz)
    | false =>
      simp only [Bool.false_eq_true, if_false, pure_bind]
      exact clo_go r _ fun z hz => h z (.tail _ hz)
theorem closureFor_clo {scope : Scope} {env : Env} (h : ∀ y ∈ scope.names, y.2 = .free → (env.cells.lookup y.1).isSome = true) : closureFor scope env = pure (cloF (fun y => env.cells.lookup y) scope.names []) := by
  have := clo_go scope.names [] h
  unfold closureFor
  refine Eq.trans ?_ (congrArg (fun t : Sem (List (Str × Addr)) => t >>= fun r => pure r) this)
  rfl
theorem clo_lookup {cells : Str → Option Addr} {y : Str} : ∀ (names : List (Str × NameKind)) (acc : List (Str × Addr)), ((y, NameKind.free) ∈ names ∨ acc.lookup y = some ((cells y).getD 0)) → (∀ p ∈ acc, p.2 = (cells p.1).getD 0) → (cloF cells names acc).lookup y = some ((cells y).getD 0)
  | [], acc, h, _ => h.elim (fun q => nomatch q) id
  | (z, k) :: r, acc, h, ha => by
    unfold cloF
    split
    · rename_i hk
      refine clo_lookup r _ ?_ fun p hp => by
        rcases List.mem_cons.mp hp with e | e
        · rw [e]
        · exact ha p e
      by_cases hz : y = z
      · right; subst hz; rw [List.lookup_cons]; simp
      · rcases h with h | h
        · rcases List.mem_cons.mp h with e | e
          · exact absurd (Prod.mk.inj e).1 hz
          · exact .inl e
        · right
          rw [List.lookup_cons]
          have : (y == z) = false := by simpa using hz
          rw [this]; exact h
    · rename_i hk
      refine clo_lookup r acc ?_ ha
      rcases h with h | h
      · rcases List.mem_cons.mp h with e | e
        · exfalso; cases e; exact hk rfl
        · exact .inl e
      · exact .inr h
def relK (env : Env) (n : Str) (k : NameKind) : NameKind := if (k == .free && env.scope.kind == .function && env.kindOf n == some .cell) then .cell else k
theorem relabel_lookup {env : Env} {y : Str} : ∀ (names : List (Str × NameKind)), (names.map fun (n, k) => if (k == NameKind.free && env.scope.kind == .function && env.kindOf n == some .cell) then (n, NameKind.cell) else (n, k)).lookup y = (names.lookup y).map (relK env y)
  | [] => rfl
  | (n, k) :: r => by
    have ih := relabel_lookup (env := env) (y := y) r
    rw [List.map_cons]
    show List.lookup y ((if (k == NameKind.free && env.scope.kind == .function && env.kindOf n == some .cell) = true then (n, NameKind.cell) else (n, k)) :: _) = _
    have e : (if (k == NameKind.free && env.scope.kind == .function && env.kindOf n == some .cell) = true then (n, NameKind.cell) else (n, k)) = (n, relK env n k) := by
      unfold relK; split <;> rfl
    rw [e, List.lookup_cons, List.lookup_cons]
    cases h : y == n with
    | true => have : y = n := by simpa using h
              rw [this]; rfl
    | false => exact ih

/-- the static facts of a comprehension's block, as one look -/
def compOk (scope : Scope) (x : Str) (kindOf : Str → Option NameKind) : Bool :=
  scope.kind == .function && scope.names.all (fun y => (y.2 != .local || scope.names.lookup y.1 == some .local) && (y.2 != .free || ((kindOf y.1 == some .cell || kindOf y.1 == some .free) && y.1 != x && scope.names.lookup y.1 == some .free))) &&
  ((scope.names.lookup x == some .local && scope.names.all fun y => y.2 != .cell) || (scope.names.lookup x == some .cell && scope.names.filter (fun y => y.2 == .cell) == [(x, .cell)]))
theorem cellsFrom_none : ∀ (names : List (Str × NameKind)) (k : Nat) (acc : List (Str × Addr)) (h : Heap), (∀ y ∈ names, y.2 ≠ .cell) → cellsFrom k names acc = acc ∧ pushCells h names = h
  | [], _, _, _, _ => ⟨rfl, rfl⟩
  | (n, kd) :: r, k, acc, h, H => by
    have : (kd == NameKind.cell) = false := by simpa using H (n, kd) (.head _)
    unfold cellsFrom pushCells
    rw [this]
    exact cellsFrom_none r k acc h fun y hy => H y (.tail _ hy)
theorem cellsFrom_one {x : Str} : ∀ (names : List (Str × NameKind)) (k : Nat) (acc : List (Str × Addr)) (h : Heap), names.filter (fun y => y.2 == .cell) = [(x, .cell)] → cellsFrom k names acc = (x, k) :: acc ∧ pushCells h names = h.push { cls := .type "cell", data := .cell none }
  | [], _, _, _, H => by cases H
  | (n, kd) :: r, k, acc, h, H => by
    unfold cellsFrom pushCells
    cases hk : kd == NameKind.cell with
    | true =>
      rw [List.filter_cons, if_pos (by simpa using hk)] at H
      obtain ⟨h1, h2⟩ := List.cons.inj H
      cases h1
      have := cellsFrom_none r (k + 1) ((x, k) :: acc) (h.push { cls := .type "cell", data := .cell none }) fun y hy hc => by
        have : y ∈ r.filter (fun y => y.2 == .cell) := List.mem_filter.mpr ⟨hy, by simpa using hc⟩
        rw [h2] at this; cases this
      exact this
    | false =>
      rw [List.filter_cons, if_neg (by simpa using hk)] at H
      exact cellsFrom_one r k acc h H
def compF {α β : Type} (t : α → Option Bool) (e : α → Option β) : List α → Option (List β)
  | [] => some []
  | a :: as => (t a).bind fun b => if b then (e a).bind fun y => (compF t e as).bind fun ys => some (y :: ys) else compF t e as
def mapF {α β : Type} (e : α → Option β) : List α → Option (List β)
  | [] => some []
  | a :: as => (e a).bind fun y => (mapF e as).bind fun ys => some (y :: ys)
theorem mapF_comp {α β : Type} (e : α → Option β) : ∀ l : List α, compF (fun _ => some true) e l = mapF e l
  | [] => rfl
  | a :: as => by unfold compF mapF; rw [mapF_comp e as]; rfl
theorem compF_len {α β : Type} {t : α → Option Bool} {e : α → Option β} : ∀ {l : List α} {ys : List β}, compF t e l = some ys → ys.length ≤ l.length
  | [], ys, h => by cases h; exact Nat.le_refl _
  | a :: as, ys, h => by
    obtain ⟨b, _, h⟩ := bind_some h
    cases b with
    | true =>
      obtain ⟨y, _, h⟩ := bind_some h
      obtain ⟨zs, hz, h⟩ := bind_some h
      cases h
      have := compF_len hz
      simp; exact this
    | false => have := compF_len (l := as) h; simp; omega
def pickSh (Γ : Sh) (idx : List Nat) : Sh := idx.filterMap (Γ[·]?)
theorem pickSh_mem {Γ : Sh} {idx : List Nat} {p : Str × Ent} (h : p ∈ pickSh Γ idx) : p ∈ Γ := by
  obtain ⟨i, _, e⟩ := List.mem_filterMap.mp h
  exact List.mem_of_getElem? e

/-- the tests of a comprehension -/
def Tsts (c : Cx) (n : Nat) (env : Env) (Γ : Sh) : List Expr → Option Bool → Prop
  | [], o => o = some true
  | [e], o => Tst c n env Γ e o
  | _, _ => False
theorem tsts_wp {c : Cx} {n : Nat} {env : Env} {Γ : Sh} {ifs : List Expr} {o : Option Bool} (h : Tsts c n env Γ ifs o) {b : Bool} (hb : o = some b) {A : Around} {s : Shared} {F : FH} (hA : OkA n A) (R : Rs c env Γ F s) :
    wpAny (model c.prog c.w) A (forIn ifs true fun cc r => if r = true then do let ok ← isTrue cc env (eval cc env); pure (ForInStep.yield ok) else pure (ForInStep.yield r)) (fun ok s' => ok = b ∧ ∃ F', Ext s F s' F') NoE s := by
  match ifs, h with
  | [], h =>
    have h' : o = some true := h
    rw [h'] at hb; cases hb
    rw [List.forIn_nil]; exact wpAny_pure ⟨rfl, F, Ext.refl R.inn⟩
  | [e], h =>
    rw [List.forIn_cons]
    simp only [if_true]
    refine wpAny_bind (wpAny_bind (wpAny_mono ((show Tst c n env Γ e o from h) b hb A s F hA R) (fun r s' p => wpAny_pure ?_) fun _ _ x => x))
    show wpAny _ _ (forIn [] r _) _ _ _
    rw [List.forIn_nil]; exact wpAny_pure p

section
variable {c : Cx} {n : Nat} {env : Env} {Γ : Sh} {α β κ : Type} [Rep α] [Rep β] [Rep κ]

def compEnvK (scope : Scope) (cells : List (Str × Addr)) (C : Addr) (env : Env) : Env :=
  { scope := relabel scope env, locals := C, globals := env.globals, cells := cells, qual := env.qual, func := none, code := env.code, frame := env.frame, builtins := env.builtins }
theorem newEnv_comp {scope : Scope} {cl : List (Str × Addr)} {A : Around} {M : Model} {E : Value → Shared → Prop} {s : Shared} {Q : Env → Shared → Prop}
    (h : Q (newEnv scope s.heap.objs.size env.globals (cellsFrom (s.heap.objs.size + 1) scope.names cl) env.qual none .none (some env) builtinsNs) { s with heap := pushCells (s.heap.push { cls := .type "dict", data := .dict #[] }) scope.names }) :
    wpAny M A (newFunctionEnv scope env.globals cl [] env.qual none .none (some env)) Q E s := by
  simp only [newFunctionEnv, Option.isSome_some, if_true]
  refine wpAny_bind (wpAny_alloc ?_)
  refine wpAny_bind (wpAny_layCells _ (fun name kind cells => by cases hkc : kind == NameKind.cell <;> simp [hkc]) _ _ _ _ ?_)
  rw [show ({ s with heap := s.heap.push { cls := .type "dict", data := .dict #[] } } : Shared).heap.objs.size = s.heap.objs.size + 1 from Heap.size_push ..]
  refine wpAny_bind ?_
  rw [List.forIn_nil]
  exact wpAny_pure (wpAny_pure h)

theorem ord1 {I D : Nat} (h : I < D) : D + 1 ≠ I := by omega
theorem ord2 {I D cv : Nat} (h : I < D) (k : D < cv) : cv ≠ I := by omega
theorem ord3 {j n : Nat} (h : j < n) : n - (j + 1) + 1 < n - j + 1 := by omega
theorem ord4 {a b j n z : Nat} (h1 : a = b) (h2 : b ≤ j) (h3 : j < n) (h4 : n ≤ z) : a ≤ z := by omega
/-- where the comprehension's own name lies -/
structure CE (cenv : Env) (x : Str) (C cv : Addr) : Prop where
  loc : cenv.locals = C
  kind : cenv.scope.kind = .function
  at' : (cenv.kindOf x = some .local ∧ cv = C) ∨ (cenv.kindOf x = some .cell ∧ cenv.cells.lookup x = some cv ∧ cv ≠ C)
def CS (cenv : Env) (x : Str) (C cv : Addr) (h : Heap) : Prop := (∃ m, h.Ns C m) ∧ (cenv.kindOf x = some .cell → ∃ w, h.IsCell cv w)
def CSv (cenv : Env) (x : Str) (C cv : Addr) (v : Value) (h : Heap) : Prop := (∃ m, h.Ns C m ∧ (cenv.kindOf x = some .local → m x = some v)) ∧ (cenv.kindOf x = some .cell → h.IsCell cv (some v))
theorem CSv.cs {cenv : Env} {x : Str} {C cv : Addr} {v : Value} {h : Heap} (q : CSv cenv x C cv v h) : CS cenv x C cv h := ⟨let ⟨m, a, _⟩ := q.1; ⟨m, a⟩, fun k => ⟨_, q.2 k⟩⟩
theorem CS.keeps {cenv : Env} {x : Str} {C cv : Addr} {h h' : Heap} (q : CS cenv x C cv h) (hk : ∀ b o, (b = C ∨ b = cv) → h.get? b = some o → h'.get? b = some o) : CS cenv x C cv h' :=
  ⟨let ⟨m, a⟩ := q.1; ⟨m, a.at' fun o e => hk _ o (.inl rfl) e⟩, fun k => let ⟨w, o, e, d⟩ := q.2 k; ⟨w, o, hk _ o (.inr rfl) e, d⟩⟩
theorem CSv.keeps {cenv : Env} {x : Str} {C cv : Addr} {v : Value} {h h' : Heap} (q : CSv cenv x C cv v h) (hk : ∀ b o, (b = C ∨ b = cv) → h.get? b = some o → h'.get? b = some o) : CSv cenv x C cv v h' :=
  ⟨let ⟨m, a, b⟩ := q.1; ⟨m, a.at' fun o e => hk _ o (.inl rfl) e, b⟩, fun k => let ⟨o, e, d⟩ := q.2 k; ⟨o, hk _ o (.inr rfl) e, d⟩⟩
theorem CE.store {cenv : Env} {x : Str} {C cv : Addr} {px : Pos} {v : Value} {M : Model} {A : Around} {E : Value → Shared → Prop} {s : Shared} {Q : Unit → Shared → Prop} (K : CE cenv x C cv) (S : CS cenv x C cv s.heap)
    (h : ∀ h' tk, Heap.SameBut cv s.heap h' → CSv cenv x C cv v h' → Q () { s with heap := h', toks := tk }) : wpAny M A (assign (.Name x px) cenv v) Q E s := by
  refine wpAny_assign_Name ?_
  obtain ⟨m, hm⟩ := S.1
  rcases K.at' with ⟨hk, rfl⟩ | ⟨hk, hl, hne⟩
  · refine wpAny_storeName_local hk (by rw [K.loc]; exact hm) (fun h' hn hs => ?_) (by rw [K.kind]; rfl)
    rw [K.loc] at hn hs
    exact h h' _ hs ⟨⟨_, hn, fun _ => by simp⟩, fun q => by rw [hk] at q; cases q⟩
  · obtain ⟨w, hw⟩ := S.2 hk
    refine wpAny_storeName_cell K.kind hk hl hw fun h' hc hs => ?_
    exact h h' _ hs ⟨⟨m, hm.sameBut hs hne.symm, fun q => by rw [hk] at q; cases q⟩, fun _ => hc⟩

theorem Ext.turnAt {s s' : Shared} {F F' : FH} {a : Addr} {h' : Heap} {tk : Nat} (x : Ext s F s' F') (hn : s.heap.get? a = none) (hF : F' a = none) (hk : ∀ b o, b ≠ a → s'.heap.get? b = some o → h'.get? b = some o) : Ext s F { s' with heap := h', toks := tk } F' := by
  obtain ⟨h₁, t₁, hs, kp⟩ := x.keeps
  subst hs
  exact ⟨⟨h', tk, rfl, fun b o e => hk b o (fun z => by rw [z, hn] at e; cases e) (kp b o e)⟩, x.le, fun b o e => hk b o (fun z => by rw [z, hF] at e; cases e) (x.inn b o e), x.new⟩

theorem comp_core {elt iter : Expr} {x : Str} {px : Pos} {ifs : List Expr} {scope : Scope} {pos : Pos} {xs : List α} {ys : List β} {t : α → Option Bool} {g : α → Option β} (idx : List Nat)
    (hok : compOk scope x (fun y => env.kindOf y) = true) (hΓ : ((pickSh Γ idx).all fun p => scope.names.lookup p.1 == some .free) = true)
    (ht : ∀ a C cells, Tsts c n (compEnvK scope cells C env) ((x, val (some a)) :: pickSh Γ idx) ifs (t a)) (hg : ∀ a C cells, Ev c n (compEnvK scope cells C env) ((x, val (some a)) :: pickSh Γ idx) elt (g a))
    (hx : compF t g xs = some ys) (hz : xs.length ≤ sizeLine) {A : Around} {s₁ s₂ : Shared} {F : FH} {I : Addr} {fp : List Addr} {P : Nat → Value → Prop} {St : Nat → Heap → Prop} (hA : OkA n A) (R : Rs c env Γ F s₁) (T : It c A F s₁ s₂ I fp P St xs)
    {use : Option (Value → Sem Unit)} {Q : Value → Shared → Prop}
    (hend : ∀ D C s₃ F₃ vs m, Ext s₁ F s₃ F₃ → s₃.heap.get? D = some (listObj vs m) → s₁.heap.get? D = none → F₃ D = none → All2 (Rep.rel F₃) vs ys → s₁.heap.get? C = none → F₃ C = none → C ≠ D → (∃ mm, s₃.heap.Ns C mm) → compPost (model c.prog c.w) A NoE use Q (.ref D) C (.ok .next) s₃) :
    wpAny (model c.prog c.w) A (newList []) (fun acc s₃ => wpAny (model c.prog c.w) A (newFunctionEnv scope env.globals (cloF (fun y => env.cells.lookup y) scope.names []) [] env.qual none .none (some env)) (fun cenv s₄ =>
      codeAny (model c.prog c.w) A (.compStart (.ListComp elt [⟨.Name x px, iter, ifs, 0⟩] scope pos) 0 (.ref I) acc { cenv with scope := relabel scope env }) (compPost (model c.prog c.w) A NoE use Q acc cenv.locals) s₄) NoE s₃) NoE s₂ := by
  unfold compOk at hok
  rw [Bool.and_eq_true, Bool.and_eq_true] at hok
  obtain ⟨⟨hk1, hk2⟩, hk3⟩ := hok
  have hkind : scope.kind = .function := by simpa using hk1
  have hk2' := List.all_eq_true.mp hk2
  obtain ⟨ρ, μ, rd, mi, hv⟩ := R.vars
  refine newList_wp ?_ (by decide)
  refine newEnv_comp ?_
  have hsz3 : (s₂.heap.push (listObj [] 0)).objs.size = s₂.heap.objs.size + 1 := Heap.size_push ..
  generalize hD : s₂.heap.objs.size = D at hsz3 ⊢
  generalize hH3 : s₂.heap.push (listObj [] 0) = H3 at hsz3 ⊢
  have hC : H3.objs.size = D + 1 := hsz3
  have up3 : ∀ b o, s₂.heap.get? b = some o → H3.get? b = some o := fun b o e => by rw [← hH3]; exact Heap.get?_push_of_some _ e
  have hD3 : H3.get? D = some (listObj [] 0) := by rw [← hH3, ← hD]; exact Heap.get?_push_size _ rfl
  have hs1D : s₁.heap.get? D = none := not_some_of fun o e => by
    have := Heap.lt_size (keeps_keep T.ext.keeps _ _ e); rw [hD] at this; exact Nat.lt_irrefl _ this
  have hge : ∀ b, D ≤ b → s₁.heap.get? b = none ∧ F b = none := fun b hb => by
    have h1 : s₁.heap.get? b = none := not_some_of fun o e => by
      have := Heap.lt_size (keeps_keep T.ext.keeps _ _ e); rw [hD] at this; exact absurd this (Nat.not_lt.mpr hb)
    exact ⟨h1, not_some_of fun o e => by rw [R.inn b o e] at h1; cases h1⟩
  -- the cells
  have interface : ∃ (cv : Nat) (H4 : Heap), pushCells (H3.push { cls := .type "dict", data := .dict #[] }) scope.names = H4 ∧ (∀ b o, H3.get? b = some o → H4.get? b = some o) ∧ @LT.lt Nat _ D cv ∧
      CE (compEnvK scope (cellsFrom (D + 1 + 1) scope.names (cloF (fun y => env.cells.lookup y) scope.names [])) (D + 1) env) x (D + 1) cv ∧
      CS (compEnvK scope (cellsFrom (D + 1 + 1) scope.names (cloF (fun y => env.cells.lookup y) scope.names [])) (D + 1) env) x (D + 1) cv H4 ∧
      (∀ y, y ≠ x → (cellsFrom (D + 1 + 1) scope.names (cloF (fun y => env.cells.lookup y) scope.names [])).lookup y = (cloF (fun y => env.cells.lookup y) scope.names []).lookup y) := by
    rw [Bool.or_eq_true] at hk3
    have dk : (H3.push { cls := .type "dict", data := .dict #[] }).Ns (D + 1) fun _ => none := by
      have := Heap.Ns.new H3 (.type "dict"); rw [hC] at this; exact this
    rcases hk3 with hk3 | hk3
    · rw [Bool.and_eq_true] at hk3
      have hxl : scope.names.lookup x = some .local := by simpa using hk3.1
      have hnc : ∀ y ∈ scope.names, y.2 ≠ .cell := fun y hy => by have := List.all_eq_true.mp hk3.2 y hy; simpa using this
      have e := fun k acc h => cellsFrom_none scope.names k acc h hnc
      have kx : (compEnvK scope (cellsFrom (D + 1 + 1) scope.names (cloF (fun y => env.cells.lookup y) scope.names [])) (D + 1) env).kindOf x = some .local := by
        show (relabel scope env).names.lookup x = some .local
        unfold relabel; rw [relabel_lookup, hxl]; rfl
      refine ⟨D + 1, _, rfl, ?_, Nat.lt_succ_self _, ⟨rfl, hkind, .inl ⟨kx, rfl⟩⟩, ?_, fun y _ => by rw [(e _ _ H3).1]⟩
      · rw [(e 0 [] _).2]; exact fun b o q => Heap.get?_push_of_some _ q
      · rw [(e 0 [] _).2]
        exact ⟨⟨_, dk⟩, fun q => by rw [kx] at q; cases q⟩
    · rw [Bool.and_eq_true] at hk3
      have hxc : scope.names.lookup x = some .cell := by simpa using hk3.1
      have hone : scope.names.filter (fun y => y.2 == .cell) = [(x, .cell)] := by simpa using hk3.2
      have e := fun k acc h => cellsFrom_one scope.names k acc h hone
      have kx : (compEnvK scope (cellsFrom (D + 1 + 1) scope.names (cloF (fun y => env.cells.lookup y) scope.names [])) (D + 1) env).kindOf x = some .cell := by
        show (relabel scope env).names.lookup x = some .cell
        unfold relabel; rw [relabel_lookup, hxc]; rfl
      have hsz4 : (H3.push { cls := .type "dict", data := .dict #[] }).objs.size = D + 2 := by rw [Heap.size_push, hC]
      refine ⟨D + 2, _, rfl, ?_, Nat.lt_succ_of_lt (Nat.lt_succ_self _), ⟨rfl, hkind, .inr ⟨kx, ?_, Nat.ne_of_gt (Nat.lt_succ_self _)⟩⟩, ?_, fun y hy => ?_⟩
      · rw [(e 0 [] _).2]; exact fun b o q => Heap.get?_push_of_some _ (Heap.get?_push_of_some _ q)
      · show (cellsFrom (D + 1 + 1) scope.names _).lookup x = some (D + 2)
        rw [(e _ _ H3).1, List.lookup_cons]; simp
      · rw [(e 0 [] _).2]
        refine ⟨⟨_, dk.push _⟩, fun _ => ⟨none, ({ cls := .type "cell", data := .cell none } : Obj), ?_, rfl⟩⟩
        have := Heap.get?_push_size (H3.push { cls := .type "dict", data := .dict #[] }) (o := { cls := .type "cell", data := .cell none }) rfl
        rw [hsz4] at this; exact this
      · rw [(e _ _ H3).1, List.lookup_cons]
        have : (y == x) = false := by simpa using hy
        rw [this]
  obtain ⟨cv, H4, hH4, up4, hcv, ce, cs4, cell4⟩ := interface
  show codeAny _ _ (.compStart _ 0 (.ref I) (.ref D) (compEnvK scope (cellsFrom (H3.objs.size + 1) scope.names _) H3.objs.size env)) (compPost _ A NoE use Q (.ref D) H3.objs.size) _
  rw [hH4, hC]
  generalize hcs : cellsFrom (D + 1 + 1) scope.names (cloF (fun y => env.cells.lookup y) scope.names []) = cells at ce cs4 cell4 ⊢
  have hID : I ≠ D := by
    obtain ⟨o, _, e, _⟩ := T.cls 0 _ T.st
    have := Heap.lt_size e; rw [hD] at this; exact Nat.ne_of_lt this
  have hIlt : @LT.lt Nat _ I D := by
    obtain ⟨o, _, e, _⟩ := T.cls 0 _ T.st
    have := Heap.lt_size e; rw [hD] at this; exact this
  have hFI : F I = none := not_some_of fun o q => by have := R.inn I o q; rw [T.new] at this; cases this
  have fpD : ∀ b ∈ fp, @LT.lt Nat _ b D := fun b hb => by
    rcases T.fps b hb with z | ⟨o, z⟩
    · rw [z]; exact hIlt
    · have := Heap.lt_size (T.ext.inn b o z); rw [hD] at this; exact this
  -- what holds between the turns
  let J : Nat → Shared → Prop := fun k s' => ∃ j F' vs m done rest, j ≤ xs.length ∧ k = xs.length - j + 1 ∧ Ext s₁ F s' F' ∧ F' I = none ∧ F' D = none ∧ F' (D + 1) = none ∧ F' cv = none ∧ St j s'.heap ∧ s'.heap.get? D = some (listObj vs m) ∧
    CS (compEnvK scope cells (D + 1) env) x (D + 1) cv s'.heap ∧ All2 (Rep.rel F') vs done ∧ compF t g (xs.drop j) = some rest ∧ done ++ rest = ys ∧ done.length ≤ j
  have start : J (xs.length + 1) { s₂ with heap := H4 } := by
    refine ⟨0, F, [], 0, [], ys, Nat.zero_le _, rfl, ?_, hFI, (hge D (Nat.le_refl _)).2, (hge _ (Nat.le_succ _)).2, (hge _ (Nat.le_of_lt hcv)).2, ?_, up4 _ _ hD3, cs4, trivial, by simpa using hx, rfl, Nat.le_refl _⟩
    · refine T.ext.trans (Ext.of_keeps T.ext.inn ⟨H4, s₂.toks, rfl, fun b o e => up4 b o (up3 b o e)⟩)
    · exact T.walk.frame _ _ _ T.st fun b _ o e => up4 b o (up3 b o e)
  have loop : ∀ s₃ : Shared, s₃ = { s₂ with heap := H4 } → codeAny (model c.prog c.w) A (.compLoop (.ListComp elt [⟨.Name x px, iter, ifs, 0⟩] scope pos) 0 (.ref I) (.ref D) (compEnvK scope cells (D + 1) env)) (compPost (model c.prog c.w) A NoE use Q (.ref D) (D + 1)) s₃ := by
    rintro s₃ rfl
    refine codeAny_compLoop_tests J ?_ (xs.length + 1) start
    rintro k s' ⟨j, F', vs, m, done, rest, hj, rfl, ext, fI, fD, fC, fv, hst, hDo, cs, hvs, hrest, hys, hdl⟩
    by_cases hlt : j < xs.length
    · rw [List.drop_eq_getElem_cons hlt] at hrest
      obtain ⟨b, hb, hrest⟩ := bind_some hrest
      refine T.walk.item j s' _ _ hlt hst fun v h' tk hP hst' hk => ?_
      have k1 : ∀ b o, b ≠ I → s'.heap.get? b = some o → h'.get? b = some o := fun b o hb e => hk b o (by simpa using hb) e
      have ext1 : Ext s₁ F { s' with heap := h', toks := tk } F' := ext.turnAt T.new fI k1
      have cs1 : CS (compEnvK scope cells (D + 1) env) x (D + 1) cv h' := cs.keeps fun b o hb e => k1 b o (by rcases hb with z | z; (rw [z]; exact neN (ord1 hIlt)); (rw [z]; exact neN (ord2 hIlt hcv))) e
      refine noE_any (ce.store (s := { s' with heap := h', toks := tk }) cs1 fun h2 tk2 hs2 csv => ?_)
      have hcvD : cv ≠ D := neN (Nat.ne_of_gt hcv)
      have hcvI : cv ≠ I := neN (ord2 hIlt hcv)
      have k2 : ∀ b o, b ≠ cv → h'.get? b = some o → h2.get? b = some o := fun b o hb e => hs2.extBut b o hb e
      have ext2 : Ext s₁ F { s' with heap := h2, toks := tk2 } F' := ext1.turnAt (hge _ (Nat.le_of_lt hcv)).1 fv k2
      have st2 : St (j + 1) h2 := T.walk.frame _ _ _ hst' fun b hb o e => k2 b o (by have := fpD b hb; exact neN (Nat.ne_of_lt (Nat.lt_trans this hcv))) e
      have hD2 : h2.get? D = some (listObj vs m) := k2 _ _ hcvD.symm (k1 _ _ hID.symm hDo)
      obtain ⟨a, ha, ra⟩ := T.items j v hlt hP
      have ea : a = xs[j] := by rw [List.getElem?_eq_getElem hlt] at ha; exact (Option.some.inj ha).symm
      subst ea
      -- the block's own reading
      have mk : ∀ (s5 : Shared) (F5 : FH), Ext s₁ F s5 F5 → CSv (compEnvK scope cells (D + 1) env) x (D + 1) cv v s5.heap → Rs c (compEnvK scope cells (D + 1) env) ((x, val (some xs[j])) :: pickSh Γ idx) F5 s5 := by
        intro s5 F5 e5 q5
        have kp := keeps_keep e5.keeps
        refine ⟨R.bs.keeps kp, e5.inn, fun p hp => ?_, fun y => if y = x then some v else if scope.names.lookup y = some .free then ρ y else none, μ, ⟨hkind, rd.glob, rd.bui, ?_, ?_⟩, fun i a o e => kp _ _ (mi i a o e), fun p hp => ?_⟩
        · rcases List.mem_cons.mp hp with z | z
          · rw [z]
            rcases ce.at' with ⟨kx, _⟩ | ⟨kx, _⟩ <;> (show isLoc ((compEnvK scope cells (D + 1) env).kindOf x) = true; rw [kx]; rfl)
          · have := List.all_eq_true.mp hΓ p z
            have hf : scope.names.lookup p.1 = some .free := by simpa using this
            show isLoc ((relabel scope env).names.lookup p.1) = true
            unfold relabel; rw [relabel_lookup, hf]
            show isLoc (some (relK env p.1 .free)) = true
            unfold relK; split <;> rfl
        · obtain ⟨m5, n5, l5⟩ := q5.1
          refine ⟨m5, n5, fun y w hy hw => ?_⟩
          by_cases hyx : y = x
          · subst hyx; rw [if_pos rfl] at hw; cases hw; exact l5 hy
          · rw [if_neg hyx] at hw
            split at hw
            · rename_i hf
              exfalso
              have : (relabel scope env).names.lookup y = some .local := hy
              unfold relabel at this
              rw [relabel_lookup, hf] at this
              have h3 : relK env y .free = .local := Option.some.inj this
              unfold relK at h3; split at h3 <;> cases h3
            · cases hw
        · intro y hy
          by_cases hyx : y = x
          · subst hyx
            rcases ce.at' with ⟨kx, _⟩ | ⟨kx, hl, _⟩
            · exfalso; rcases hy with z | z <;> (rw [kx] at z; cases z)
            · exact ⟨cv, hl, by rw [if_pos rfl]; exact q5.2 kx⟩
          · have hf : scope.names.lookup y = some .free := by
              have hy' : (relabel scope env).names.lookup y = some .cell ∨ (relabel scope env).names.lookup y = some .free := hy
              unfold relabel at hy'
              rw [relabel_lookup] at hy'
              cases hl : scope.names.lookup y with
              | none => rw [hl] at hy'; rcases hy' with z | z <;> cases z
              | some kd =>
                rw [hl] at hy'
                have hmem := mem_of_lookup hl
                cases kd with
                | free => rfl
                | cell =>
                  exfalso
                  rw [Bool.or_eq_true] at hk3
                  rcases hk3 with z | z
                  · rw [Bool.and_eq_true] at z
                    have := List.all_eq_true.mp z.2 _ hmem; simp at this
                  · rw [Bool.and_eq_true] at z
                    have hone : scope.names.filter (fun y => y.2 == .cell) = [(x, .cell)] := by simpa using z.2
                    have : (y, NameKind.cell) ∈ scope.names.filter (fun y => y.2 == .cell) := List.mem_filter.mpr ⟨hmem, rfl⟩
                    rw [hone] at this
                    exact hyx (Prod.mk.inj (List.mem_singleton.mp this)).1
                | _ => exfalso; rcases hy' with z | z <;> (have z := Option.some.inj z; unfold relK at z; simp at z)
            have hmem := mem_of_lookup hf
            have hfr := hk2' _ hmem
            rw [Bool.and_eq_true] at hfr
            have hfr2 : env.kindOf y = some .cell ∨ env.kindOf y = some .free := by
              have := hfr.2
              simp at this
              exact this.1.1
            obtain ⟨cc, h1, h2⟩ := rd.cel y hfr2
            refine ⟨cc, ?_, ?_⟩
            · show cells.lookup y = some cc
              rw [cell4 y hyx, clo_lookup (cells := fun y => env.cells.lookup y) scope.names [] (.inl hmem) (fun _ q => nomatch q)]
              show some ((env.cells.lookup y).getD 0) = some cc
              rw [h1]; rfl
            · rw [if_neg hyx, if_pos hf]; exact h2.keeps kp
        · rcases List.mem_cons.mp hp with z | z
          · rw [z]; exact fun a ha => by cases ha; exact ⟨v, if_pos rfl, Rep.mono e5.le ra⟩
          · have hf : scope.names.lookup p.1 = some .free := by have := List.all_eq_true.mp hΓ p z; simpa using this
            have hpx : p.1 ≠ x := by
              have := hk2' _ (mem_of_lookup hf)
              rw [Bool.and_eq_true] at this
              have := this.2
              simp at this
              exact this.1.2
            have := p.2.mono e5.le (hv p (pickSh_mem z))
            show p.2.holds F5 μ (if p.1 = x then some v else if scope.names.lookup p.1 = some .free then ρ p.1 else none)
            rw [if_neg hpx, if_pos hf]; exact this
      have fkeep : ∀ {s5 s6 : Shared} {F5 F6 : FH} {a : Addr} {o : Obj}, Ext s5 F5 s6 F6 → s5.heap.get? a = some o → F5 a = none → F6 a = none := fun {s5 s6 F5 F6 a o} e h1 h2 => not_some_of fun q z => by
        rcases e.new a q z with w | w
        · rw [h2] at w; cases w
        · rw [h1] at w; cases w
      have exI : ∃ o, h2.get? I = some o := let ⟨o, _, e, _⟩ := T.cls _ _ st2; ⟨o, e⟩
      have exC : ∃ o, h2.get? (D + 1) = some o := let ⟨m, ⟨o, _, _, e, _⟩, _⟩ := csv.1; ⟨o, e⟩
      have exv : ∃ o, h2.get? cv = some o := by
        rcases ce.at' with ⟨kx, hcv'⟩ | ⟨kx, _, _⟩
        · rw [hcv']; exact exC
        · obtain ⟨o, e, _⟩ := csv.2 kx; exact ⟨o, e⟩
      refine noE_any (wpAny_mono (tsts_wp (ht xs[j] _ _) hb hA (mk { s' with heap := h2, toks := tk2 } F' ext2 csv)) (fun ok s₄ p => ?_) fun _ _ x => x)
      obtain ⟨rfl, F₄, x₄⟩ := p
      have kp4 := keeps_keep x₄.keeps
      have ext4 := ext2.trans x₄
      have st4 : St (j + 1) s₄.heap := T.walk.frame _ _ _ st2 fun b _ o e => kp4 b o e
      obtain ⟨oI, eI⟩ := exI
      obtain ⟨oC, eC⟩ := exC
      obtain ⟨ov, ev⟩ := exv
      have f4I := fkeep x₄ eI fI
      have f4D := fkeep x₄ hD2 fD
      have f4C := fkeep x₄ eC fC
      have f4v := fkeep x₄ ev fv
      cases ok with
      | false =>
        refine ⟨xs.length - (j + 1) + 1, ord3 hlt, j + 1, F₄, vs, m, done, rest, hlt, rfl, ext4, f4I, f4D, f4C, f4v, st4, kp4 _ _ hD2, csv.cs.keeps fun b o _ e => kp4 b o e, hvs.imp fun _ _ => Rep.mono x₄.le, hrest, hys, Nat.le_succ_of_le hdl⟩
      | true =>
        obtain ⟨y, hy, hrest⟩ := bind_some hrest
        obtain ⟨zs, hzs, hrest⟩ := bind_some hrest
        cases hrest
        simp only [if_true]
        refine noE_any (wpAny_mono (hg xs[j] _ _ y hy A s₄ F₄ hA (mk s₄ F₄ ext4 (csv.keeps fun b o _ e => kp4 b o e))) (fun u s₅ p => ?_) fun _ _ x => x)
        obtain ⟨F₅, x₅, r₅⟩ := p
        have kp5 := keeps_keep x₅.keeps
        have hD5 := kp5 _ _ (kp4 _ _ hD2)
        have f5I := fkeep x₅ (kp4 _ _ eI) f4I
        have f5D := fkeep x₅ (kp4 _ _ hD2) f4D
        have f5C := fkeep x₅ (kp4 _ _ eC) f4C
        have f5v := fkeep x₅ (kp4 _ _ ev) f4v
        refine noE_any (append_at (D := D) hD5 (fun h6 hs6 ho6 => ?_) (by
          have := hvs.length
          have h7 : vs.length ≤ sizeLine := ord4 this hdl hlt hz
          simpa using h7))
        have k6 : ∀ b o, b ≠ D → s₅.heap.get? b = some o → h6.get? b = some o := fun b o hb e => hs6.extBut b o hb e
        refine ⟨xs.length - (j + 1) + 1, ord3 hlt, j + 1, F₅, vs ++ [u], m + 1, done ++ [y], zs, hlt, rfl, (ext4.trans x₅).turnAt hs1D f5D k6, f5I, f5D, f5C, f5v, ?_, ?_, ?_, ?_, hzs, by rw [← hys]; simp, by rw [List.length_append]; exact Nat.succ_le_succ hdl⟩
        · exact T.walk.frame _ _ _ st4 fun b hb o e => k6 b o (by have := fpD b hb; exact neN (Nat.ne_of_lt this)) (kp5 b o e)
        · rw [ho6]; simp
        · exact csv.cs.keeps fun b o hb e => k6 b o (by rcases hb with z | z; (rw [z]; exact neN (Nat.succ_ne_self D)); (rw [z]; exact neN (Nat.ne_of_gt hcv))) (kp5 b o (kp4 b o e))
        · exact ((hvs.imp fun _ _ => Rep.mono x₄.le).imp fun _ _ => Rep.mono x₅.le).append ⟨r₅, trivial⟩
    · have hje : j = xs.length := Nat.le_antisymm hj (Nat.le_of_not_lt hlt)
      subst hje
      rw [List.drop_length] at hrest
      cases hrest
      rw [List.append_nil] at hys
      subst hys
      refine T.walk.done s' _ _ hst fun h' tk hk => ?_
      have k1 : ∀ b o, b ≠ I → s'.heap.get? b = some o → h'.get? b = some o := fun b o hb e => hk b o (by simpa using hb) e
      refine hend D (D + 1) _ F' vs m (ext.turnAt T.new fI k1) (k1 _ _ hID.symm hDo) hs1D fD hvs (hge _ (Nat.le_succ _)).1 fC (neN (Nat.succ_ne_self D)) ?_
      obtain ⟨mm, hmm⟩ := cs.1
      exact ⟨mm, hmm.at' fun o e => k1 _ o (neN (ord1 hIlt)) e⟩
  refine codeAny_compStart_list (loop _ rfl) ?_
  exact T.walk.self 0 _ _ _ (T.walk.frame _ _ _ T.st fun b _ o e => up4 b o (up3 b o e)) (loop _ rfl)
end
end Mine
namespace Mine
open PySem PySem.W PyProof.Rows PySem.Calls

def compC {α β : Type} (t : α → Option Bool) (e : α → Option β) (xs : List α) : Option (List β) := if Nat.ble xs.length (2 ^ 24) then compF t e xs else none
theorem compC_some {α β : Type} {t : α → Option Bool} {e : α → Option β} {xs : List α} {ys : List β} (h : compC t e xs = some ys) : xs.length ≤ sizeLine ∧ compF t e xs = some ys := by
  unfold compC at h
  split at h
  · rename_i q; exact ⟨Nat.le_of_ble_eq_true q, h⟩
  · cases h
section
variable {c : Cx} {n : Nat} {env : Env} {Γ : Sh} {α β κ : Type} [Rep α] [Rep β] [Rep κ]
theorem comp_static {scope : Scope} {x : Str} {ρ : Str → Option Value} {h : Heap} (hok : compOk scope x (fun y => env.kindOf y) = true) (rd : Rd env ρ h) :
    closureFor scope env = pure (cloF (fun y => env.cells.lookup y) scope.names []) ∧ scope.kind = .function ∧ (∀ x ∈ scope.names, x.2 = .local → scope.names.lookup x.1 = some .local) := by
  unfold compOk at hok
  rw [Bool.and_eq_true, Bool.and_eq_true] at hok
  obtain ⟨⟨hk1, hk2⟩, hk3⟩ := hok
  have hk2' := List.all_eq_true.mp hk2
  refine ⟨closureFor_clo fun y hy hf => ?_, by simpa using hk1, fun y hy hl => ?_⟩
  · have := hk2' y hy
    rw [Bool.and_eq_true] at this
    have := this.2
    rw [hf] at this
    simp at this
    obtain ⟨cc, h1, _⟩ := rd.cel y.1 this.1.1
    rw [h1]; rfl
  · have := hk2' y hy
    rw [Bool.and_eq_true] at this
    have := this.1
    rw [hl] at this
    simpa using this
theorem ev_comp {elt iter : Expr} {x : Str} {px : Pos} {ifs : List Expr} {scope : Scope} {pos : Pos} {d : Option κ} {items : κ → Option (List α)} {t : α → Option Bool} {g : α → Option β} (idx : List Nat)
    (he : Ev c n env Γ iter d) (hit : ∀ k xs, items k = some xs → ItS c n k xs) (hok : compOk scope x (fun y => env.kindOf y) = true) (hΓ : ((pickSh Γ idx).all fun p => scope.names.lookup p.1 == some .free) = true)
    (ht : ∀ a C cells, Tsts c n (compEnvK scope cells C env) ((x, val (some a)) :: pickSh Γ idx) ifs (t a)) (hg : ∀ a C cells, Ev c n (compEnvK scope cells C env) ((x, val (some a)) :: pickSh Γ idx) elt (g a))
    (hs : ∀ x, foldedSetIterable iter env x = pure x := by intro _; rfl) : EvF c n env Γ (.ListComp elt [⟨.Name x px, iter, ifs, 0⟩] scope pos) (d.bind fun k => (items k).bind fun xs => compC t g xs) := by
  refine ⟨?_⟩
  intro ys hy A s F hA R
  obtain ⟨k, hk, hy⟩ := bind_some hy
  obtain ⟨xs, hx, hy⟩ := bind_some hy
  obtain ⟨hz, hy⟩ := compC_some hy
  obtain ⟨ρ, μ, rd, _⟩ := R.vars
  obtain ⟨h1, h2, h3⟩ := comp_static hok rd
  rw [eval_ListComp]
  refine wpAny_comprehension_free (use := none) rfl hs h1 h2 h3 (he.use hk hA R fun v s₁ F₁ x₁ R₁ r₁ => wpAny_mono (hit k xs hx A s₁ F₁ v hA R₁.bs R₁.inn r₁) (fun it s₂ ⟨I, fp, P, St, hI, T⟩ => ?_) fun _ _ x => x)
  subst hI
  refine comp_core idx hok hΓ ht hg hy hz hA R₁ T fun D C s₃ F₃ vs m x₃ hD hDn hFD r₃ hCn hFC hCD hC => ?_
  obtain ⟨mm, hmm⟩ := hC
  refine ⟨mm, hmm, fun h' hs' => PstF.trans x₁ ?_⟩
  have kk : ∀ b o, b ≠ C → s₃.heap.get? b = some o → h'.get? b = some o := fun b o hb e => hs'.extBut b o hb e
  exact ⟨F₃, D, vs, m, x₃.turnAt (tk := s₃.toks) hCn hFC kk, rfl, kk _ _ hCD.symm hD, hDn, hFD, r₃⟩
end

section
variable {c : Cx} {n : Nat} {X : Ac} {σ ρ : Type} [Rep ρ] {sh : σ → Sh} {α β κ : Type} [Rep α] [Rep β] [Rep κ]
theorem Stv.turnC {Γ : Sh} {F : FH} {s : Shared} {ρ' : Str → Option Value} {μ : Slots} {C : Addr} {h' : Heap} {tk : Nat} (R : Stv c X Γ F s ρ' μ) (hs0 : X.s0.heap.get? C = none) (hF : F C = none) (hP : X.prot C = none) (hL : X.env.locals ≠ C) (hCe : ∀ x cc, X.env.cells.lookup x = some cc → cc ≠ C) (hM : ∀ i a o, μ i = some (a, o) → a ≠ C)
    (hs : Heap.SameBut C s.heap h') : Stv c X Γ F { s with heap := h', toks := tk } ρ' μ := by
  have kk : ∀ b o, b ≠ C → s.heap.get? b = some o → h'.get? b = some o := fun b o hb e => hs.extBut b o hb e
  have S := R.sep
  refine ⟨R.ste.turn hs hs0 hF hP, R.kin, R.nod, ⟨R.rd.kind, R.rd.glob, R.rd.bui, ?_, ?_⟩, fun i a o e => kk a o (hM i a o e) (R.mu i a o e), ⟨S.locN, S.locF, S.locP, fun x cc e => ?_, S.celN, S.celF, S.celP, S.celL, S.celA, S.muN, S.muF, S.muP, S.muL, S.muC, S.muA⟩, R.ent⟩
  · obtain ⟨m, hn, hm⟩ := R.rd.loc
    exact ⟨m, hn.at' fun o e => kk _ o hL e, hm⟩
  · intro x hx
    obtain ⟨cc, h1, o, e, d⟩ := R.rd.cel x hx
    exact ⟨cc, h1, o, kk _ o (hCe x cc h1) e, d⟩
  · obtain ⟨o, q⟩ := S.celH x cc e
    exact ⟨o, kk _ o (hCe x cc e) q⟩
theorem ex_assign_comp {y : Str} {py spos : Pos} {elt iter : Expr} {x : Str} {px : Pos} {ifs : List Expr} {scope : Scope} {pos : Pos} {d : σ → Option κ} {items : κ → Option (List α)} {t : σ → α → Option Bool} {g : σ → α → Option β} {up : σ → List β → σ} (i : Nat) (idx : List Nat)
    (he : ∀ z, Ev c n X.env (sh z) iter (d z)) (hit : ∀ k xs, items k = some xs → ItS c n k xs) (hok : compOk scope x (fun y => X.env.kindOf y) = true) (hΓ : ∀ z, ((pickSh (sh z) idx).all fun p => scope.names.lookup p.1 == some .free) = true)
    (ht : ∀ z a C cells, Tsts c n (compEnvK scope cells C X.env) ((x, val (some a)) :: pickSh (sh z) idx) ifs (t z a)) (hg : ∀ z a C cells, Ev c n (compEnvK scope cells C X.env) ((x, val (some a)) :: pickSh (sh z) idx) elt (g z a))
    (hi : ∀ x, ∃ e0, (sh x)[i]? = some (y, e0) := by intro _; exact ⟨_, rfl⟩) (hu : ∀ x a, sh (up x a) = (sh x).set i (y, val (some a)) := by intros; rfl)
    (hsw : swapsWith (.ListComp elt [⟨.Name x px, iter, ifs, 0⟩] scope pos) (some (.Name y py)) spos.line X.env = pure true := by rfl) (hs : ∀ x, foldedSetIterable iter X.env x = pure x := by intro _; rfl) :
    Ex (ρ := ρ) c n X sh (.Assign [.Name y py] (.ListComp elt [⟨.Name x px, iter, ifs, 0⟩] scope pos) spos) (fun z => ((d z).bind fun k => (items k).bind fun xs => compC (t z) (g z) xs).bind fun a => some (.next (up z a))) := by
  refine ⟨?_⟩
  intro z out ho A s F hA R
  obtain ⟨ys, hy, ho⟩ := bind_some ho
  cases ho
  obtain ⟨k, hk, hy⟩ := bind_some hy
  obtain ⟨xs, hx, hy⟩ := bind_some hy
  obtain ⟨hz, hy⟩ := compC_some hy
  obtain ⟨ρ₁, μ₁, rd, _⟩ := R.rs.vars
  obtain ⟨h1, h2, h3⟩ := comp_static hok rd
  obtain ⟨e0, hi⟩ := hi z
  rw [exec_Assign_Name_used _ _ _ _ hsw]
  refine wpAny_bind (wpAny_standAt (wpAny_bind ?_))
  show wpAny _ A (do let _ ← comprehension (.ListComp elt [⟨.Name x px, iter, ifs, 0⟩] scope pos) scope X.env _ (newList []) false (eval iter X.env) (some (assign (.Name y py) X.env))) _ _ s
  refine wpAny_bind (wpAny_mono (wpAny_comprehension_free (use := some (assign (.Name y py) X.env)) (Q := fun _ s' => OutP c X sh (.next (up z ys) : Fl σ ρ) .next s') rfl hs h1 h2 h3
    ((he z).use hk hA R.rs fun v s₁ F₁ x₁ R₁ r₁ => wpAny_mono (hit k xs hx A s₁ F₁ v hA R₁.bs R₁.inn r₁) (fun it s₂ ⟨I, fp, P, St, hI, T⟩ => ?_) fun _ _ x => x)) (fun _ s' hq => wpAny_pure (wpAny_pure hq)) fun _ _ e => e)
  subst hI
  refine comp_core idx hok (hΓ z) (ht z) (hg z) hy hz hA R₁ T fun D C s₃ F₃ vs m x₃ hD hDn hFD r₃ hCn hFC hCD hC => ?_
  obtain ⟨mm, hmm⟩ := hC
  -- the list is frozen and stored, then the block's names go
  have x4 := x₃.freeze hD hDn
  obtain ⟨ρ₂, μ₂, R₂⟩ := R.ext x₁
  have R4 := R₂.ext x4
  have r4 : Rep.rel (F₃.put D (listObj vs m)) (.ref D) ys := ⟨D, vs, m, rfl, FH.put_self .., r₃.imp fun _ _ => Rep.mono (FH.put_le x₃.inn hD)⟩
  have nL : X.env.locals ≠ C := fun q => by obtain ⟨o, e⟩ := R₂.rd.locH; rw [q, hCn] at e; cases e
  have nC : ∀ x cc, X.env.cells.lookup x = some cc → cc ≠ C := fun x cc e q => by obtain ⟨o, e'⟩ := R₂.sep.celH x cc e; rw [q, hCn] at e'; cases e'
  have nM : ∀ i a o, μ₂ i = some (a, o) → a ≠ C := fun i a o e q => by have := R₂.mu i a o e; rw [q, hCn] at this; cases this
  have n0 : X.s0.heap.get? C = none := not_some_of fun o e => by have := keeps_keep R₂.ste.ext.keeps _ _ e; rw [hCn] at this; cases this
  have nP : X.prot C = none := not_some_of fun o e => by have := R₂.ste.prt _ _ e; rw [hCn] at this; cases this
  have nF : F₃.put D (listObj vs m) C = none := by unfold FH.put; rw [if_neg hCD]; exact hFC
  show wpAny _ A (assign (.Name y py) X.env (.ref D)) _ _ _
  have hCs : ∃ oC, s₃.heap.get? C = some oC := let ⟨o, _, _, e, _⟩ := hmm; ⟨o, e⟩
  -- C is guarded through the store
  obtain ⟨oC, eC⟩ := hCs
  have G := R4.guard eC nL nC nM
  refine wpAny_assign_Name (store_gen (X := X.pr (F₃.put D (listObj vs m)) (X.prot.put C oC)) hi G (e := val (some ys)) (fun b hb => by cases hb; exact ⟨.ref D, rfl, r4⟩) fun s₅ R5 => ?_)
  have e5 : s₅.heap.get? C = some oC := R5.ste.prt C oC (FH.put_self ..)
  refine ⟨mm, hmm.at' fun o e => by rw [eC] at e; cases e; exact e5, fun h' hs' => ?_⟩
  have prle : ∀ b q, X.prot b = some q → (X.prot.put C oC) b = some q := fun b q e => by
    unfold FH.put; rw [if_neg (fun w => by rw [w, nP] at e; cases e)]; exact e
  have R6 := R5.back R4.ste prle
  have R7 := R6.turnC (tk := s₅.toks) n0 nF nP nL nC (fun i a o e => nM i a o e) hs'
  rw [← hu] at R7
  exact ⟨_, _, _, R7⟩
end
end Mine
namespace Mine
open PySem PySem.W PyProof.Rows PySem.Calls

/-- a list that can be read, frozen or not -/
def LR {α : Type} [Rep α] (F : FH) (h : Heap) (v : Value) (xs : List α) : Prop := ∃ a vs m, v = .ref a ∧ h.get? a = some (listObj vs m) ∧ All2 (Rep.rel F) vs xs
theorem LR.ext {α : Type} [Rep α] {F F' : FH} {s s' : Shared} {v : Value} {xs : List α} (r : LR F s.heap v xs) (x : Ext s F s' F') : LR F' s'.heap v xs :=
  let ⟨a, vs, m, e, h, r⟩ := r; ⟨a, vs, m, e, keeps_keep x.keeps _ _ h, r.imp fun _ _ => Rep.mono x.le⟩
theorem LR.isList {α : Type} [Rep α] {F : FH} {h : Heap} {a : Addr} {xs : List α} {vs : List Value} {m : Nat} (e : h.get? a = some (listObj vs m)) : h.IsList a vs.toArray := ⟨_, e, rfl, m, rfl⟩
theorem lr_of {α : Type} [Rep α] {F : FH} {h : Heap} {v : Value} {xs : List α} (hF : FIn F h) (r : Rep.rel F v xs) : LR F h v xs := let ⟨a, vs, m, e, k, r⟩ := r; ⟨a, vs, m, e, hF _ _ k, r⟩
section
variable {c : Cx} {n : Nat} {env : Env} {Γ : Sh} {α β γ κ τ : Type} [Rep α] [Rep β] [Rep γ] [Rep κ] [RepT τ]
structure EvR (c : Cx) (n : Nat) (env : Env) (Γ : Sh) {α : Type} [Rep α] (e : Expr) (o : Option (List α)) : Prop where
  run : ∀ xs, o = some xs → ∀ A s F, OkA n A → Rs c env Γ F s → wpAny (model c.prog c.w) A (eval e env) (fun v s' => ∃ F', Ext s F s' F' ∧ LR F' s'.heap v xs) NoE s
instance {c : Cx} {n : Nat} {env : Env} {Γ : Sh} {α : Type} [Rep α] {e : Expr} {o : Option (List α)} : CoeFun (EvR c n env Γ e o) (fun _ => ∀ xs, o = some xs → ∀ A s F, OkA n A → Rs c env Γ F s → wpAny (model c.prog c.w) A (eval e env) (fun v s' => ∃ F', Ext s F s' F' ∧ LR F' s'.heap v xs) NoE s) := ⟨EvR.run⟩
theorem Ev.r {e : Expr} {o : Option (List α)} (h : Ev c n env Γ e o) : EvR c n env Γ e o := ⟨fun a ha A s F hA R =>
  wpAny_mono (h a ha A s F hA R) (fun _ _ ⟨F', x, r⟩ => ⟨F', x, lr_of x.inn r⟩) fun _ _ x => x⟩
theorem evR_own {x : Str} {pos : Pos} {o : Option (List α)} {j : Nat} (i : Nat) (hi : Γ[i]? = some (x, own j o)) (hx : plainName x = true) : EvR c n env Γ (.Name x pos) o := by
  refine ⟨?_⟩
  intro a ha A s F hA R
  obtain ⟨ρ, μ, rd, mi, hv⟩ := R.vars
  have hm := List.mem_of_getElem? hi
  obtain ⟨ad, vs, m, e, hs, r⟩ := hv _ hm a ha
  unfold plainName at hx
  simp only [Bool.and_eq_true, Bool.not_eq_true'] at hx
  exact wpAny_Name (loadLoc rd (R.kin _ hm) e ⟨F, Ext.refl R.inn, ad, vs, m, rfl, mi _ _ _ hs, r⟩ hx.1) hx.2
theorem EvR.use {e : Expr} {o : Option (List α)} (h : EvR c n env Γ e o) {a : List α} (ha : o = some a) {A : Around} {s : Shared} {F : FH} (hA : OkA n A) (R : Rs c env Γ F s) {Q : Value → Shared → Prop}
    (k : ∀ v s' F', Ext s F s' F' → Rs c env Γ F' s' → LR F' s'.heap v a → Q v s') : wpAny (model c.prog c.w) A (eval e env) Q NoE s :=
  wpAny_mono (h a ha A s F hA R) (fun v s' ⟨F', x, r⟩ => k v s' F' x (R.ext x) r) fun _ _ x => x

theorem ev_indexR {value slice : Expr} {pos : Pos} {ov : Option (List α)} {oi : Option Int} (hv : EvR c n env Γ value ov) (hi : Ev c n env Γ slice oi)
    (hs : ∀ o i, subscripted slice false o i = operate [o, i] (getItem o i) := by intros; rfl) : Ev c n env Γ (.Subscript value slice pos) (bind2 ov oi fun xs k => getL xs k) := by
  refine ⟨?_⟩
  intro g hg A s F hA R
  obtain ⟨xs, hx, hg⟩ := bind_some hg
  obtain ⟨k, hk, hg⟩ := bind_some hg
  refine Subscript_ (hv.use hx hA R fun v s₁ F₁ x₁ R₁ r₁ => hi.use hk hA R₁ fun u s₂ F₂ x₂ R₂ r₂ => ?_)
  obtain ⟨a, vs, m, rfl, e, r₁⟩ := r₁.ext x₂
  obtain ⟨t, rfl⟩ := r₂
  try dsimp only at hg
  unfold getL at hg
  split at hg
  · cases hg
  · rename_i hb
    obtain ⟨h0, h1⟩ := bigN_not hb
    obtain ⟨y, hy, ry⟩ := All2.get r₁ hg
    have hL : s₂.heap.IsList a vs.toArray := ⟨_, e, rfl, m, rfl⟩
    exact tail_any hL.typeIs slot_list_getitem.lookup (wpAny_getItem_list hL h0 h1 (by simpa using hy) ⟨F₂, x₁.trans x₂, ry⟩) (hs _ _)

/-- lists glued -/
def addL {α : Type} (xs ys : List α) : Option (List α) := if Nat.ble (xs.length + ys.length) (2 ^ 24) then some (xs ++ ys) else none
theorem ev_addL {l r : Expr} {pos : Pos} {ol or : Option (List α)} (hl : EvR c n env Γ l ol) (hr : EvR c n env Γ r or) : EvF c n env Γ (.BinOp l .Add r pos) (bind2 ol or fun a b => addL a b) := by
  refine ⟨?_⟩
  intro g hg A s F hA R
  obtain ⟨a, ha, hg⟩ := bind_some hg
  obtain ⟨b, hb, hg⟩ := bind_some hg
  try dsimp only at hg
  unfold addL at hg
  split at hg
  · rename_i q; cases hg
    have q := Nat.le_of_ble_eq_true q
    refine wpAny_BinOp (hl.use ha hA R fun v s₁ F₁ x₁ R₁ r₁ => hr.use hb hA R₁ fun u s₂ F₂ x₂ R₂ r₂ => ?_)
    obtain ⟨p1, vs, m1, rfl, e1, k1⟩ := r₁.ext x₂
    obtain ⟨p2, ws, m2, rfl, e2, k2⟩ := r₂
    refine concat_meets ⟨_, e1, rfl⟩ ⟨_, e2, rfl⟩ noFill_list_add seq_list_add PySem.F.slot_list_add PySem.F.entry_list_add (PySem.F.args_list_add_2 _ _) (list_addW p1 p2 vs.toArray ws.toArray m1 m2 none none #[] #[] (by show vs.toArray.size + ws.toArray.size ≤ 2 ^ 24; simp only [List.size_toArray, k1.length, k2.length]; exact q)) ⟨e1, e2, ?_⟩
    have e : vs.toArray ++ ws.toArray = (vs ++ ws).toArray := by simp
    rw [e]
    exact PstF.trans (x₁.trans x₂) (pstF_push x₂.inn (k1.append k2) _)
  · cases hg
/-- a list some times over -/
def mulL {α : Type} (xs : List α) (k : Int) : Option (List α) := if bigN k || !(Nat.ble (xs.length * k.toNat) (2 ^ 24)) then none else some (List.replicate k.toNat xs).flatten
theorem foldl_rep (vs : List Value) : ∀ (k : Nat) (acc : Array Value), List.foldl (fun x1 x2 => x1 ++ x2) acc (List.replicate k vs.toArray) = acc ++ ((List.replicate k vs).flatten).toArray
  | 0, acc => by simp
  | k + 1, acc => by
    rw [List.replicate_succ, List.foldl_cons, foldl_rep vs k, List.replicate_succ, List.flatten_cons]
    simp [Array.append_assoc]
theorem All2.rep {R : Value → α → Prop} {vs : List Value} {xs : List α} (h : All2 R vs xs) : ∀ k : Nat, All2 R (List.replicate k vs).flatten (List.replicate k xs).flatten
  | 0 => trivial
  | k + 1 => by rw [List.replicate_succ, List.replicate_succ, List.flatten_cons, List.flatten_cons]; exact h.append (All2.rep h k)
theorem ev_mulL {l r : Expr} {pos : Pos} {ol : Option (List α)} {or : Option Int} (hl : EvR c n env Γ l ol) (hr : Ev c n env Γ r or) : EvF c n env Γ (.BinOp l .Mult r pos) (bind2 ol or fun a b => mulL a b) := by
  refine ⟨?_⟩
  intro g hg A s F hA R
  obtain ⟨a, ha, hg⟩ := bind_some hg
  obtain ⟨b, hb, hg⟩ := bind_some hg
  try dsimp only at hg
  unfold mulL at hg
  split at hg
  · cases hg
  · rename_i q; cases hg
    rw [Bool.or_eq_true, not_or] at q
    obtain ⟨h0, h1⟩ := bigN_not q.1
    have h2 : a.length * b.toNat ≤ 2 ^ 24 := by have := q.2; simp at this; exact this
    refine wpAny_BinOp (hl.use ha hA R fun v s₁ F₁ x₁ R₁ r₁ => hr.use hb hA R₁ fun u s₂ F₂ x₂ R₂ r₂ => ?_)
    obtain ⟨p1, vs, m1, rfl, e1, k1⟩ := r₁.ext x₂
    obtain ⟨t, rfl⟩ := r₂
    have hz : vs.toArray.size * b.toNat ≤ 2 ^ 24 := by simpa [k1.length] using h2
    refine wpAny_binaryOp_repeat_ref (T := "list") (U := "int") (by decide) ⟨_, e1, rfl⟩ (fun s' => typeIs_int s' b t) noFill_list_mul PySem.F.fills_int_mul PySem.F.slot_int_rmul repeat_list PySem.F.slot_int_index.lookup
      (call_meets PySem.F.slot_int_rmul (typeIs_int s₂ b t) PySem.F.entry_int_rmul (PySem.F.args_int_rmul_2 _ _) (int___rmul___int_list b t p1 vs.toArray m1)
        ⟨e1, rfl, ⟨_, e1, rfl⟩, call_meets PySem.F.slot_list_mul ⟨_, e1, rfl⟩ PySem.F.entry_list_mul (PySem.F.args_list_mul_2 _ _)
          (AutoListH.list___mul___list_int_3 p1 vs.toArray m1 b t (by simp [Builtin.List.listFitsIndex]; omega) (by omega) (by simp [Builtin.List.listTooLong, sizeLine] at hz ⊢; omega))
          ⟨e1, ?_⟩⟩)
    have e : List.foldl (fun x1 x2 => x1 ++ x2) #[] (List.replicate (if vs.toArray.isEmpty = true then 0 else b.toNat) vs.toArray) = ((List.replicate b.toNat vs).flatten).toArray := by
      split
      · rename_i hemp
        have : vs = [] := by simpa using hemp
        subst this; simp
      · rw [foldl_rep]; simp
    rw [e]
    exact PstF.trans (x₁.trans x₂) (pstF_push x₂.inn (k1.rep _) _)

/-- one argument, whatever it is -/
theorem call1 {f : Str} {v : Value} {e : Expr} {fp pos : Pos} {A : Around} {s : Shared} {F : FH} {Q : Value → Shared → Prop} (hk : env.kindOf f = some .globalImplicit) (hg : GlobV c f v) (hp : Kp c v) (R : Rs c env Γ F s)
    (h : wpAny (model c.prog c.w) A (eval e env) (fun u s' => Rs c env Γ F s' ∨ (∃ F', Rs c env Γ F' s')) NoE s → wpAny (model c.prog c.w) A (eval e env) (fun u s' => c.K.In s'.heap ∧ wpAny (model c.prog c.w) A (call v [u]) Q NoE s') NoE s)
    (h' : wpAny (model c.prog c.w) A (eval e env) (fun u s' => c.K.In s'.heap ∧ wpAny (model c.prog c.w) A (call v [u]) Q NoE s') NoE s)
    (he : starEach [e] env = [(false, eval e env)] := by exact starEach_one rfl) (hd : (f == ("__debug__" : Str)) = false := by decide) : wpAny (model c.prog c.w) A (eval (.Call (.Name f fp) [e] [] pos) env) Q NoE s := by
  refine Call_ (load_glob R hk hg ?_ hd)
  rw [he]
  refine callWith_of (P := c.K.In) rfl (fun h' => hp _ h') ?_
  exact evalArgs_plain (spliced_cons (wpAny_mono h' (fun u s' q => spliced_nil q) fun _ _ x => x))
structure Call1R (c : Cx) (n : Nat) (f : Value) (xs : List α) (r : γ) : Prop where
  run : ∀ A s F v, OkA n A → Bs c s.heap → FIn F s.heap → LR F s.heap v xs → wpAny (model c.prog c.w) A (call f [v]) (Pst s F r) NoE s
instance {c : Cx} {n : Nat} {f : Value} {xs : List α} {r : γ} : CoeFun (Call1R c n f xs r) (fun _ => ∀ A s F v, OkA n A → Bs c s.heap → FIn F s.heap → LR F s.heap v xs → wpAny (model c.prog c.w) A (call f [v]) (Pst s F r) NoE s) := ⟨Call1R.run⟩
theorem ev_callR {f : Str} {v : Value} {e : Expr} {fp pos : Pos} {o : Option (List α)} {g : List α → Option γ} (hk : env.kindOf f = some .globalImplicit) (hg : GlobV c f v) (hp : Kp c v) (h : EvR c n env Γ e o) (hf : ∀ x r, g x = some r → Call1R c n v x r)
    (he : starEach [e] env = [(false, eval e env)] := by exact starEach_one rfl) (hd : (f == ("__debug__" : Str)) = false := by decide) : Ev c n env Γ (.Call (.Name f fp) [e] [] pos) (o.bind g) := by
  refine ⟨?_⟩
  intro r hr A s F hA R
  obtain ⟨x, hx, hr⟩ := bind_some hr
  have key : wpAny (model c.prog c.w) A (eval e env) (fun u s' => c.K.In s'.heap ∧ wpAny (model c.prog c.w) A (call v [u]) (Pst s F r) NoE s') NoE s :=
    h.use hx hA R fun u s₁ F₁ x₁ R₁ r₁ => ⟨R₁.bs.frag, wpAny_mono (hf x r hr A s₁ F₁ u hA R₁.bs R₁.inn r₁) (fun _ _ p => Pst.trans x₁ p) fun _ _ x => x⟩
  exact call1 hk hg hp R (fun _ => key) key he hd

def lenL {α : Type} (xs : List α) : Option Int := if Nat.ble xs.length (2 ^ 24) then some (xs.length : Int) else none
theorem s_lenL {xs : List α} {r : Int} (h : lenL xs = some r) : Call1R c n (.builtin "len") xs r := by
  refine ⟨?_⟩
  rintro A s F v hA hB hF ⟨a, vs, m, rfl, e, k⟩
  unfold lenL at h
  split at h
  · rename_i q; cases h
    have q := Nat.le_of_ble_eq_true q
    have hL : s.heap.IsList a vs.toArray := ⟨_, e, rfl, m, rfl⟩
    refine call_len_list hL (by simp [k.length]; omega) ?_
    exact pst_tok hF _ ⟨s.toks + 1, by simp [k.length]⟩
  · cases h
theorem s_sumL {xs : List Int} {r : Int} (h : some xs.sum = some r) : Call1R c n (.builtin "sum") xs r := by
  refine ⟨?_⟩
  rintro A s F v hA hB hF ⟨a, vs, m, rfl, e, k⟩
  cases h
  have hL : s.heap.IsList a vs.toArray := ⟨_, e, rfl, m, rfl⟩
  have hne : a ≠ s.heap.objs.size := lt_size_of e
  refine call_sum_walkG (wpAny_pyIter_list hL ?_)
  refine ⟨_, [s.heap.objs.size, a], [s.heap.objs.size], vs.toArray.size, fun i v => vs.toArray[i]? = some v, fun i h => h.IsListIter s.heap.objs.size a i ∧ h.IsList a vs.toArray, fun i => xs.getD i 0, rfl,
    Walks.list (A := A.in1) hA.hd s.heap.objs.size a hne vs.toArray, ⟨⟨_, Heap.get?_push_size _ rfl, rfl, rfl⟩, hL.push _⟩, ?_, ?_, ?_⟩
  · intro b hb
    show b < (s.heap.push _).objs.size
    rw [Heap.size_push]
    rcases List.mem_cons.mp hb with h | h
    · rw [h]; exact Nat.lt_succ_self _
    · rcases List.mem_cons.mp h with h | h
      · rw [h]; exact Nat.lt_succ_of_lt (Heap.lt_size e)
      · cases h
  · intro i v hv
    have hv' : vs[i]? = some v := by simpa using hv
    have hi : i < xs.length := by rw [← k.length]; exact (List.getElem?_eq_some_iff.mp hv').1
    obtain ⟨u, hu, t, rfl⟩ := All2.get k (show xs[i]? = some xs[i] by simp [hi])
    rw [hv'] at hu; cases hu
    exact ⟨t, by simp [List.getD, hi]⟩
  · intro h' tk t' hk
    refine ⟨F, Ext.of_keeps hF ⟨h', tk, rfl, fun b o q => hk b o (fun z => ?_) (Heap.get?_push_of_some _ q)⟩, t', ?_⟩
    · rw [List.mem_singleton.mp z, get_size_none] at q; cases q
    · rw [show vs.toArray.size = xs.length by simp [k.length], preSum_getD, List.take_length]
def tupL {α : Type} (xs : List α) : Option (TL α) := if Nat.ble xs.length (2 ^ 24) then some ⟨xs⟩ else none
theorem s_tupL {xs : List α} {r : TL α} (h : tupL xs = some r) : Call1R c n (.type "tuple") xs r := by
  refine ⟨?_⟩
  rintro A s F v hA hB hF ⟨a, vs, m, rfl, e, k⟩
  unfold tupL at h
  split at h
  · rename_i q; cases h
    have q := Nat.le_of_ble_eq_true q
    have hL : s.heap.IsList a vs.toArray := ⟨_, e, rfl, m, rfl⟩
    refine call_tuple_list hL (fun h' hk => ?_) (by show vs.toArray.size ≤ 2 ^ 24; simp only [List.size_toArray, k.length]; exact q)
    have x1 : Ext s F { s with heap := h' } F := Ext.of_keeps hF ⟨h', s.toks, rfl, hk⟩
    have x2 := Ext.alloc (s := { s with heap := h' }) x1.inn (o := tupObj vs 0) rfl s.toks
    exact ⟨_, x1.trans x2, _, vs, 0, rfl, FH.put_self .., k.imp fun _ _ => Rep.mono x2.le⟩
  · cases h
def absI (a : Int) : Int := if a < 0 then -a else a
theorem s_absI {x : Int × Unit} {r : Int} (h : some (absI x.1) = some r) : CallS c n (.builtin "abs") x r := by
  refine ⟨?_⟩
  rintro A s F vs hA hB hF ⟨v, ws, rfl, ⟨t, rfl⟩, rfl⟩; cases h
  exact call_abs_int fun u tk => pst_tok hF _ ⟨u, rfl⟩
theorem s_range1 {x : Int × Unit} {r : Rng} (h : some (⟨0, x.1⟩ : Rng) = some r) : CallS c n (.type "range") x r := by
  refine ⟨?_⟩
  rintro A s F vs hA hB hF ⟨v, ws, rfl, ⟨t, rfl⟩, rfl⟩; cases h
  refine call_range_1 ?_
  exact ⟨_, Ext.alloc hF rfl _, _, _, _, _, rfl, fun h' hF' => hF' _ _ (FH.put_self ..)⟩
theorem s_range2 {x : Int × Int × Unit} {r : Rng} (h : some (⟨x.1, x.2.1⟩ : Rng) = some r) : CallS c n (.type "range") x r := by
  refine ⟨?_⟩
  rintro A s F vs hA hB hF ⟨v, ws, rfl, ⟨t, rfl⟩, v2, ws2, rfl, ⟨t2, rfl⟩, rfl⟩; cases h
  refine call_range_2 ?_
  exact ⟨_, Ext.alloc hF rfl _, _, _, _, _, rfl, fun h' hF' => hF' _ _ (FH.put_self ..)⟩
end

/-! equality of data -/
class RepD (α : Type) extends Rep α where
  toD : α → PyData
  eqd : α → α → Bool
  dp : Nat
  reads : ∀ {F : FH} {h : Heap} {v : Value} {a : α}, FIn F h → Rep.rel F v a → ∃ as, Reads h v (toD a) as
  lay : ∀ a, (toD a).canLay0 = true
  dep : ∀ a, (toD a).depth ≤ dp
  eqv : ∀ a b, PyData.eqv (toD a) (toD b) = eqd a b
instance : RepD Int where
  toD := .int
  eqd := fun a b => a == b
  dp := 0
  reads := fun _ ⟨t, e⟩ => ⟨[], by rw [e]; exact .int _ t⟩
  lay := fun _ => by simp [PyData.canLay0]
  dep := fun _ => by simp [PyData.depth]
  eqv := fun _ _ => by simp [PyData.eqv]
def eqL {α : Type} (e : α → α → Bool) : List α → List α → Bool
  | [], [] => true
  | a :: as, b :: bs => e a b && eqL e as bs
  | [], _ :: _ => false
  | _ :: _, [] => false
section
variable {α : Type} [RepD α]
theorem readsAll {F : FH} {h : Heap} (hF : FIn F h) : ∀ {vs : List Value} {xs : List α}, All2 (Rep.rel F) vs xs → ∃ as, ReadsAll h vs (xs.map RepD.toD) as
  | [], [], _ => ⟨[], .nil⟩
  | v :: vs, x :: xs, r => let ⟨as, p⟩ := RepD.reads hF r.1; let ⟨bs, q⟩ := readsAll hF r.2; ⟨as ++ bs, .cons p q⟩
  | [], _ :: _, r => r.elim
  | _ :: _, [], r => r.elim
theorem layAll : ∀ xs : List α, PyData.canLayAll0 (xs.map RepD.toD) = true
  | [] => by simp [PyData.canLayAll0]
  | x :: xs => by simp [PyData.canLayAll0, RepD.lay x, layAll xs]
theorem depAll : ∀ xs : List α, PyData.depthAll (xs.map RepD.toD) ≤ RepD.dp α
  | [] => by simp [PyData.depthAll]
  | x :: xs => by have h1 := RepD.dep x; have h2 := depAll xs; simp [PyData.depthAll]; omega
theorem eqvAll_eq : ∀ xs ys : List α, PyData.eqvAll (xs.map RepD.toD) (ys.map RepD.toD) = eqL RepD.eqd xs ys
  | [], [] => by simp [PyData.eqvAll, eqL]
  | x :: xs, y :: ys => by simp [PyData.eqvAll, eqL, RepD.eqv x y, eqvAll_eq xs ys]
  | [], _ :: _ => by simp [PyData.eqvAll, eqL]
  | _ :: _, [] => by simp [PyData.eqvAll, eqL]
instance : RepD (List α) where
  toD := fun xs => .list (xs.map RepD.toD)
  eqd := eqL RepD.eqd
  dp := RepD.dp α + 1
  reads := fun hF ⟨a, vs, m, e, k, r⟩ => let ⟨as, q⟩ := readsAll hF r; ⟨a :: as, by rw [e]; exact .list (hF _ _ k) rfl rfl (by simpa using q)⟩
  lay := fun xs => by simp only [PyData.canLay0]; exact layAll xs
  dep := fun xs => by have := depAll xs; simp only [PyData.depth]; omega
  eqv := fun xs ys => by simp only [PyData.eqv]; exact eqvAll_eq xs ys
theorem lr_reads {F : FH} {h : Heap} {v : Value} {xs : List α} (hF : FIn F h) (r : LR F h v xs) : ∃ as, Reads h v (RepD.toD xs) as := by
  obtain ⟨a, vs, m, rfl, e, k⟩ := r
  obtain ⟨as, q⟩ := readsAll hF k
  exact ⟨a :: as, .list e rfl rfl (by simpa using q)⟩
theorem shapedD {x : α} (h : RepD.dp α ≤ 20) : SeqAt.shaped (RepD.toD x) = true := by
  unfold SeqAt.shaped
  rw [RepD.lay x]
  have := RepD.dep x
  simp; omega
variable {c : Cx} {n : Nat} {env : Env} {Γ : Sh}
theorem OkA.un64 {A : Around} (h : OkA n A) (hn : 8 ≤ n) : A.units + 64 < cLine := by have := h.un; omega
theorem cmpR_eq {l r : Expr} {pos : Pos} {ol or : Option (List α)} (hl : EvR c n env Γ l ol) (hr : EvR c n env Γ r or) (hd : RepD.dp α + 1 ≤ 20) (hn : 8 ≤ n) (hm : behindInMarks .Eq r = false := by rfl) :
    Tst c n env Γ (.Compare l [.Eq] [r] pos) (bind2 ol or fun a b => some (eqL RepD.eqd a b)) := by
  refine ⟨?_⟩
  intro g hg A s F hA R
  obtain ⟨a, ha, hg⟩ := bind_some hg
  obtain ⟨b, hb, hg⟩ := bind_some hg
  cases hg
  refine wpAny_isTrue_Compare1 (hl.use ha hA R fun v s₁ F₁ x₁ R₁ r₁ => hr.use hb hA R₁ fun u s₂ F₂ x₂ R₂ r₂ => ?_) hm
  obtain ⟨as, q1⟩ := lr_reads x₂.inn (r₁.ext x₂)
  obtain ⟨bs, q2⟩ := lr_reads x₂.inn r₂
  refine SeqAt.compareEq_shaped q1 q2 (shapedD hd) (shapedD hd) (hA.un64 hn) ?_
  rw [RepD.eqv]
  exact wpAny_truthy_bool ⟨rfl, F₂, x₁.trans x₂⟩
theorem cmpR_ne {l r : Expr} {pos : Pos} {ol or : Option (List α)} (hl : EvR c n env Γ l ol) (hr : EvR c n env Γ r or) (hd : RepD.dp α + 1 ≤ 20) (hn : 8 ≤ n) (hm : behindInMarks .NotEq r = false := by rfl) :
    Tst c n env Γ (.Compare l [.NotEq] [r] pos) (bind2 ol or fun a b => some (!eqL RepD.eqd a b)) := by
  refine ⟨?_⟩
  intro g hg A s F hA R
  obtain ⟨a, ha, hg⟩ := bind_some hg
  obtain ⟨b, hb, hg⟩ := bind_some hg
  cases hg
  refine wpAny_isTrue_Compare1 (hl.use ha hA R fun v s₁ F₁ x₁ R₁ r₁ => hr.use hb hA R₁ fun u s₂ F₂ x₂ R₂ r₂ => ?_) hm
  obtain ⟨as, q1⟩ := lr_reads x₂.inn (r₁.ext x₂)
  obtain ⟨bs, q2⟩ := lr_reads x₂.inn r₂
  refine SeqAt.compareNe_shaped q1 q2 (shapedD hd) (shapedD hd) (hA.un64 hn) ?_
  rw [RepD.eqv]
  exact wpAny_truthy_bool ⟨rfl, F₂, x₁.trans x₂⟩
end
end Mine
namespace Mine
open PySem PySem.W PyProof.Rows PySem.Calls

/-! texts -/
def Txt.of (s : Str) : Txt := ⟨s.cps.toList⟩
theorem Txt.str_of (s : Str) : (Txt.of s).str = s := by
  cases s; rfl
theorem Txt.len_str (x : Txt) : x.str.length = x.cs.length := by
  show x.cs.toArray.size = _; simp
def addT (a b : Txt) : Option Txt := if Nat.ble (a.cs.length + b.cs.length) (2 ^ 24) then some ⟨a.cs ++ b.cs⟩ else none
def mulT (a : Txt) (k : Int) : Option Txt := if Int.natAbs k ≤ 4096 ∧ a.cs.length ≤ 4096 then some ⟨(List.replicate k.toNat a.cs).flatten⟩ else none
def eqT (a b : Txt) : Option Bool := some (a.cs == b.cs)
def neT (a b : Txt) : Option Bool := some (a.cs != b.cs)
def lenT (x : Txt) : Option Int := if Nat.ble x.cs.length (2 ^ 24) then some (x.cs.length : Int) else none
def joinT (xs : List Txt) : Option Txt := if Nat.ble (xs.map fun x => x.cs.length).sum (2 ^ 24) then some ⟨(xs.map Txt.cs).flatten⟩ else none
def splitT (x y : Txt) : Option (List Txt) := if Nat.ble x.cs.length (2 ^ 20) && !(y.cs.length == 0) then some ((PySem.Txt.split x.str y.str).map Txt.of) else none

theorem txt_foldl (a : List Nat) : ∀ (k : Nat) (acc : Array Nat), List.foldl (fun x1 x2 => x1 ++ x2) acc (List.replicate k a.toArray) = acc ++ ((List.replicate k a).flatten).toArray
  | 0, acc => by simp
  | k + 1, acc => by
    rw [List.replicate_succ, List.foldl_cons, txt_foldl a k, List.replicate_succ, List.flatten_cons]
    simp [Array.append_assoc]
theorem txt_mul (a : Txt) (k : Int) : PySem.Txt.mul a.str k = (⟨(List.replicate k.toNat a.cs).flatten⟩ : Txt).str := by
  unfold PySem.Txt.mul
  split
  · rename_i h
    have : k.toNat = 0 := by omega
    rw [this]; rfl
  · split
    · rename_i h1 h
      rw [Bool.or_eq_true] at h
      rcases h with h | h
      · have : k = 1 := by simpa using h
        subst this
        show a.str = (⟨a.cs ++ []⟩ : Txt).str
        rw [List.append_nil]
      · have : a.cs = [] := by
          rw [Txt.len_str] at h
          simpa using h
        unfold Txt.str
        rw [this]
        simp
    · show (⟨List.foldl (fun x1 x2 => x1 ++ x2) #[] (List.replicate k.toNat a.cs.toArray)⟩ : Str) = ⟨_⟩
      rw [txt_foldl]; simp
theorem glue_foldl : ∀ (xs : List Txt) (acc : Array Nat), List.foldl (fun acc (p : Str) => acc ++ (#[] : Array Nat) ++ p.cps) acc (xs.map Txt.str) = acc ++ ((xs.map Txt.cs).flatten).toArray
  | [], acc => by simp
  | x :: xs, acc => by
    rw [List.map_cons, List.foldl_cons, glue_foldl xs, List.map_cons, List.flatten_cons]
    show (acc ++ #[] ++ x.cs.toArray) ++ _ = _
    simp [Array.append_assoc]
theorem txt_join (xs : List Txt) : PySem.Txt.join (⟨[]⟩ : Txt).str (xs.map Txt.str) = (⟨(xs.map Txt.cs).flatten⟩ : Txt).str := by
  show (⟨((xs.map Txt.str).drop 1).foldl (fun acc p => acc ++ (#[] : Array Nat) ++ p.cps) ((xs.map Txt.str).headD Str.empty).cps⟩ : Str) = ⟨_⟩
  cases xs with
  | nil => rfl
  | cons x xs =>
    show (⟨List.foldl (fun acc p => acc ++ (#[] : Array Nat) ++ p.cps) x.str.cps (xs.map Txt.str)⟩ : Str) = ⟨_⟩
    rw [glue_foldl]
    show (⟨x.cs.toArray ++ _⟩ : Str) = _
    simp

section
variable {c : Cx} {n : Nat} {env : Env} {Γ : Sh} {α β γ τ : Type} [Rep α] [Rep β] [Rep γ] [RepT τ]
theorem s_addT {a b g : Txt} (h : addT a b = some g) : BinS c n .Add a b g := by
  refine ⟨?_⟩
  rintro A s F va vb hA hB hF ⟨t, rfl⟩ ⟨u, rfl⟩
  unfold addT at h
  split at h
  · rename_i q; cases h
    have q := Nat.le_of_ble_eq_true q
    refine PyProof.Rows.add_str (fun t' tk => pst_tok hF _ ⟨t', ?_⟩) (by rw [Txt.len_str, Txt.len_str]; exact q)
    show Value.str ⟨a.cs.toArray ++ b.cs.toArray⟩ t' = Value.str ⟨(a.cs ++ b.cs).toArray⟩ t'
    simp
  · cases h
theorem s_mulT {a g : Txt} {k : Int} (h : mulT a k = some g) : BinS c n .Mult a k g := by
  refine ⟨?_⟩
  rintro A s F va vb hA hB hF ⟨t, rfl⟩ ⟨u, rfl⟩
  unfold mulT at h
  split at h
  · rename_i q; cases h
    refine SB.mul (mulOk_of 4096 4096 (by rw [Txt.len_str]; exact q.2) (by omega) (by omega) (by decide) (by decide)) fun t' tk => pst_tok hF _ ⟨t', ?_⟩
    rw [txt_mul]
  · cases h
theorem str_beq (a b : Txt) : (a.str == b.str) = (a.cs == b.cs) := by
  rw [← toList_beq]; show (a.cs.toArray.toList == b.cs.toArray.toList) = _; simp
theorem s_eqT {a b : Txt} {g : Bool} (h : eqT a b = some g) : CmpS c n .Eq a b g := by
  refine ⟨?_⟩
  rintro A s F va vb hA hB hF ⟨t, rfl⟩ ⟨u, rfl⟩; cases h
  refine PyProof.Rows.eq_str ?_
  rw [str_beq]; exact pst_same hF rfl
theorem s_neT {a b : Txt} {g : Bool} (h : neT a b = some g) : CmpS c n .NotEq a b g := by
  refine ⟨?_⟩
  rintro A s F va vb hA hB hF ⟨t, rfl⟩ ⟨u, rfl⟩; cases h
  refine PyProof.Rows.ne_str ?_
  show Pst s F _ (Value.bool (!(a.str == b.str))) s
  rw [str_beq]; exact pst_same hF rfl
theorem s_lenT {x : Txt × Unit} {r : Int} (h : lenT x.1 = some r) : CallS c n (.builtin "len") x r := by
  refine ⟨?_⟩
  rintro A s F vs hA hB hF ⟨v, ws, rfl, ⟨t, rfl⟩, rfl⟩
  unfold lenT at h
  split at h
  · rename_i q; cases h
    have q := Nat.le_of_ble_eq_true q
    refine PyProof.Rows.len_str (by rw [Txt.len_str]; omega) ?_
    rw [Txt.len_str]
    exact pst_tok hF _ ⟨_, rfl⟩
  · cases h

/-- the form that a call of a method comes to -/
def MethForm (env : Env) (o : Expr) (name : Str) (apos pos : Pos) (es : List Expr) : Prop := ∃ pl : Sem Bool, eval (.Call (.Attribute o name apos) es [] pos) env = (do
      let ov ← eval o env
      standAt apos.atName
      let (f, first) ← holding [ov] (getMethod ov name pl)
      callWith pos f first (backTo pos (starEach es env)) [])
/-- a method of a text -/
def GetM (T : Value → Prop) (name : Str) (id : String) : Prop := ∀ (M : Model) (A : Around) (E : Value → Shared → Prop) (s : Shared) (v : Value) (pl : Sem Bool) (Q : Value × List Value → Shared → Prop), T v → Q (.builtin id, [v]) s → wpAny M A (getMethod v name pl) Q E s
def isStrV (v : Value) : Prop := ∃ x t, v = .str x t
theorem getM_join : GetM isStrV "join" "str.join" := by
  rintro M A E s v pl Q ⟨x, t, rfl⟩ h; exact GM.join h
theorem getM_split : GetM isStrV "split" "str.split" := by
  rintro M A E s v pl Q ⟨x, t, rfl⟩ h; exact GM.split h
theorem ev_meth {T : Value → Prop} {o : Expr} {name : Str} {id : String} {apos pos : Pos} {es : List Expr} {oo : Option α} {oa : Option τ} {g : α → τ → Option γ} (hm : GetM T name id) (ho : Ev c n env Γ o oo) (hT : ∀ F v (a : α), Rep.rel F v a → T v) (ha : EvL c n env Γ es oa)
    (hf : ∀ x y r, g x y = some r → CallS c n (.builtin id) (x, y) r) (hform : MethForm env o name apos pos es := by exact ⟨_, rfl⟩) : Ev c n env Γ (.Call (.Attribute o name apos) es [] pos) (bind2 oo oa fun x y => g x y) := by
  refine ⟨?_⟩
  obtain ⟨pl, hform⟩ := hform
  intro r hr A s F hA R
  obtain ⟨x, hx, hr⟩ := bind_some hr
  obtain ⟨y, hy, hr⟩ := bind_some hr
  refine MethodCall_ (ho.use hx hA R fun v s₁ F₁ x₁ R₁ r₁ => hm _ _ _ _ _ _ _ (hT _ _ _ r₁) (callWith_gen kp_builtin ha hy hA R₁ fun vs s₂ F₂ x₂ R₂ r₂ => ?_)) hform
  exact wpAny_mono (hf x y r hr A s₂ F₂ (v :: vs) hA R₂.bs R₂.inn ⟨v, vs, rfl, Rep.mono x₂.le r₁, r₂⟩) (fun _ _ p => Pst.trans (x₁.trans x₂) p) fun _ _ x => x
theorem isStr_txt : ∀ (F : FH) (v : Value) (a : Txt), Rep.rel F v a → isStrV v := fun _ _ _ ⟨t, e⟩ => ⟨_, t, e⟩

theorem strs_of {F : FH} : ∀ {vs : List Value} {xs : List Txt}, All2 (Rep.rel F) vs xs → StrsAre vs (xs.map Txt.str)
  | [], [], _ => .nil
  | _ :: _, x :: _, r => by obtain ⟨⟨t, rfl⟩, r⟩ := r; exact .cons _ t (strs_of r)
  | [], _ :: _, r => r.elim
  | _ :: _, [], r => r.elim
theorem ev_join {e : Expr} {x : Str} {k : Nat} {cp apos pos : Pos} {o : Option (List Txt)} (hx : x = (⟨[]⟩ : Txt).str) (h : EvR c n env Γ e o) (he : starEach [e] env = [(false, eval e env)] := by exact starEach_one rfl) (hform : MethForm env (.Constant (.str x) k cp) "join" apos pos [e] := by exact ⟨_, rfl⟩) :
    Ev c n env Γ (.Call (.Attribute (.Constant (.str x) k cp) "join" apos) [e] [] pos) (o.bind joinT) := by
  refine ⟨?_⟩
  obtain ⟨pl, hform⟩ := hform
  intro r hr A s F hA R
  obtain ⟨xs, ho, hr⟩ := bind_some hr
  subst hx
  unfold joinT at hr
  split at hr
  · rename_i q; cases hr
    have q := Nat.le_of_ble_eq_true q
    refine MethodCall_ (Ev.use (ev_str (⟨[]⟩ : Txt) rfl) rfl hA R fun v s₁ F₁ x₁ R₁ r₁ => ?_) hform
    obtain ⟨t, rfl⟩ := r₁
    refine getM_join _ _ _ _ _ _ _ ⟨_, _, rfl⟩ ?_
    refine callWith_method1 ?_ he
    rw [he]
    refine spliced_cons (h.use ho hA R₁ fun u s₂ F₂ x₂ R₂ r₂ => spliced_nil ?_)
    obtain ⟨a, vs, m, rfl, e, k⟩ := r₂
    have hL : s₂.heap.IsList a vs.toArray := ⟨_, e, rfl, m, rfl⟩
    refine join_list hL (ys := xs.map Txt.str) (by simpa using strs_of k) ?_ fun t' tk => ?_
    · have e1 : (xs.map Txt.str).map (fun x => x.length) = xs.map fun x => x.cs.length := by
        rw [List.map_map]; exact List.map_congr_left fun x _ => Txt.len_str x
      rw [e1, Txt.len_str]
      show _ + _ * 0 ≤ _
      simpa using q
    · rw [txt_join]
      exact Pst.trans (x₁.trans x₂) (pst_tok x₂.inn _ ⟨t', rfl⟩)
  · cases hr
theorem strs_rel {F : FH} : ∀ {l : List (Str × Tok)} {ys : List Str}, l.map (·.1) = ys → All2 (Rep.rel F) (strValues l) (ys.map Txt.of)
  | [], _, e => by subst e; exact trivial
  | p :: l, _, e => by
    subst e
    exact ⟨⟨p.2, by rw [Txt.str_of]⟩, strs_rel (l := l) rfl⟩
theorem s_splitT {x y : Txt} {r : List Txt} (h : splitT x y = some r) : CallS c n (.builtin "str.split") (x, y, ()) r := by
  refine ⟨?_⟩
  rintro A s F vs hA hB hF ⟨v, ws, rfl, ⟨t, rfl⟩, v2, ws2, rfl, ⟨t2, rfl⟩, rfl⟩
  unfold splitT at h
  split at h
  · rename_i q; cases h
    rw [Bool.and_eq_true] at q
    have q1 := Nat.le_of_ble_eq_true q.1
    have q2 : (y.str.length == 0) = false := by rw [Txt.len_str]; simpa using q.2
    have h1 := StrLaws.occ_length_le x.str y.str 0 x.str.length (x.str.length + 1)
    have h2 : x.str.length ≤ sizeLine := by rw [Txt.len_str]; exact Nat.le_trans q1 (by decide)
    have h3 : (Builtin.Str.partsBetween x.str (Builtin.Str.occurrences x.str y.str 0 x.str.length (x.str.length + 1)) y.str.length).length ≤ sizeLine := by
      rw [len_partsBetween]
      rw [Txt.len_str] at h1 ⊢
      show _ ≤ 2 ^ 24
      omega
    show wpAny _ A (call (.builtin "str.split") [.str x.str t, .str y.str t2]) _ _ s
    unfold PySem.Txt.split
    cases g1 : (decide (x.str.length < y.str.length) || decide (Builtin.Str.strKind x.str < Builtin.Str.strKind y.str))
    · rw [if_neg Bool.false_ne_true]
      cases hf : (Builtin.Str.occurrences x.str y.str 0 x.str.length (x.str.length + 1)).isEmpty
      · rw [if_neg Bool.false_ne_true]
        refine call_meets PySem.F.slot_str_split (typeIs_str _ _ _) PySem.F.entry_str_split (PySem.F.args_str_split_2 _ _) (meets_str_split_sep x.str y.str t t2 g1 q2 hf h2 h3) ?_
        show wants _ _ _ { s with toks := _, heap := s.heap.push { cls := .type "list", data := .seq (strsFrom s.toks (Builtin.Str.partsBetween x.str (Builtin.Str.occurrences x.str y.str 0 x.str.length (x.str.length + 1)) y.str.length)).toArray } }
        rw [strsFrom_eq]
        exact pst_list hF (strs_rel (numbered_texts _ _)) _
      · rw [if_pos rfl]
        exact call_meets PySem.F.slot_str_split (typeIs_str _ _ _) PySem.F.entry_str_split (PySem.F.args_str_split_2 _ _) (meets_str_split_not_found x.str y.str t t2 g1 q2 hf)
          (pst_list hF (vs := strValues [(x.str, t)]) (strs_rel rfl) s.toks)
    · rw [if_pos rfl]
      exact call_meets PySem.F.slot_str_split (typeIs_str _ _ _) PySem.F.entry_str_split (PySem.F.args_str_split_2 _ _) (meets_str_split_cannot_occur x.str y.str t t2 g1)
        (pst_list hF (vs := strValues [(x.str, t)]) (strs_rel rfl) s.toks)
  · cases h
end
end Mine
namespace Mine
open PySem PySem.W PyProof.Rows PySem.Calls

def trivE : Ent := val (none : Option Unit)
theorem triv_holds {F : FH} {μ : Slots} {v : Option Value} : trivE.holds F μ v := fun _ h => nomatch h
section
variable {c : Cx} {X : Ac} {Γ : Sh} {F : FH} {s : Shared} {ρ : Str → Option Value} {μ : Slots}
theorem putS_self (j : Nat) (p : Addr × Obj) : putS μ j p j = some p := if_pos rfl
theorem putS_ne {j k : Nat} {p : Addr × Obj} (h : k ≠ j) : putS μ j p k = μ k := if_neg h
/-- a slot is filled, or what lies in it turns -/
theorem Stv.slot {i j : Nat} {x : Str} {e0 e : Ent} {a : Addr} {o : Obj} {h' : Heap} {tk : Nat} (R : Stv c X Γ F s ρ μ) (hi : Γ[i]? = some (x, e0)) (hj : slotFree (Γ.map fun p => p.2.slot) i j = true) (hs : Heap.SameBut a s.heap h') (ho : h'.get? a = some o)
    (hN : X.s0.heap.get? a = none) (hF : F a = none) (hP : X.prot a = none) (hL : a ≠ X.env.locals) (hC : ∀ y cc, X.env.cells.lookup y = some cc → a ≠ cc) (hM : ∀ k b p, k ≠ j → μ k = some (b, p) → b ≠ a)
    (he : e.holds F (putS μ j (a, o)) (ρ x)) : Stv c X (Γ.set i (x, e)) F { s with heap := h', toks := tk } ρ (putS μ j (a, o)) := by
  have kk : ∀ b q, b ≠ a → s.heap.get? b = some q → h'.get? b = some q := fun b q hb e => hs.extBut b q hb e
  have S := R.sep
  have hm := List.mem_of_getElem? hi
  have inS : ∀ k b q, putS μ j (a, o) k = some (b, q) → (k = j ∧ b = a ∧ q = o) ∨ (k ≠ j ∧ μ k = some (b, q)) := fun k b q h => by
    by_cases hk : k = j
    · rw [hk, putS_self] at h; cases h; exact .inl ⟨hk, rfl, rfl⟩
    · rw [putS_ne hk] at h; exact .inr ⟨hk, h⟩
  refine ⟨R.ste.turn hs hN hF hP, fun p hp => ?_, by rw [map_set_names hi]; exact R.nod, ⟨R.rd.kind, R.rd.glob, R.rd.bui, ?_, ?_⟩, fun k b q h => ?_, ?_, fun p hp => ?_⟩
  · rcases set_mem hi R.nod hp with h | h
    · rw [h]; exact R.kin (x, e0) hm
    · exact R.kin p h.1
  · obtain ⟨m, hn, hm⟩ := R.rd.loc
    exact ⟨m, hn.at' fun o e => kk _ o hL.symm e, hm⟩
  · intro x hx
    obtain ⟨cc, h1, o, e, d⟩ := R.rd.cel x hx
    exact ⟨cc, h1, o, kk _ o (hC x cc h1).symm e, d⟩
  · rcases inS k b q h with ⟨_, rfl, rfl⟩ | ⟨hk, h⟩
    · exact ho
    · exact kk b q (hM k b q hk h) (R.mu k b q h)
  · refine ⟨S.locN, S.locF, S.locP, fun y cc h => ?_, S.celN, S.celF, S.celP, S.celL, S.celA, fun k b q h => ?_, fun k b q h => ?_, fun k b q h => ?_, fun k b q h => ?_, fun k b q h => ?_, fun k l b q b' q' hkl h h2 => ?_⟩
    · obtain ⟨o, q⟩ := S.celH y cc h
      exact ⟨o, kk _ o (hC y cc h).symm q⟩
    · rcases inS k b q h with ⟨_, rfl, rfl⟩ | ⟨hk, h⟩
      · exact hN
      · exact S.muN k b q h
    · rcases inS k b q h with ⟨_, rfl, rfl⟩ | ⟨hk, h⟩
      · exact hF
      · exact S.muF k b q h
    · rcases inS k b q h with ⟨_, rfl, rfl⟩ | ⟨hk, h⟩
      · exact hP
      · exact S.muP k b q h
    · rcases inS k b q h with ⟨_, rfl, rfl⟩ | ⟨hk, h⟩
      · exact hL
      · exact S.muL k b q h
    · rcases inS k b q h with ⟨_, rfl, rfl⟩ | ⟨hk, h⟩
      · exact hC
      · exact S.muC k b q h
    · rcases inS k b q h with ⟨r1, r2, r3⟩ | ⟨hk, h⟩
      · rcases inS l b' q' h2 with ⟨t1, t2, t3⟩ | ⟨hl, h2⟩
        · exact absurd (r1.trans t1.symm) hkl
        · rw [r2]; exact (hM l b' q' hl h2).symm
      · rcases inS l b' q' h2 with ⟨t1, t2, t3⟩ | ⟨hl, h2⟩
        · rw [t2]; exact hM k b q hk h
        · exact S.muA k l b q b' q' hkl h h2
  · by_cases hp1 : p.1 = x
    · rcases set_mem hi R.nod hp with h | h
      · rw [h]; exact he
      · exact absurd hp1 h.2
    · have hmem : p ∈ Γ := by
        rcases set_mem hi R.nod hp with h | h
        · rw [h] at hp1; exact absurd rfl hp1
        · exact h.1
      obtain ⟨k, hk, hpk⟩ := List.getElem_of_mem hmem
      have hk' : Γ[k]? = some p := by rw [List.getElem?_eq_getElem hk, hpk]
      have hki : k ≠ i := by rintro rfl; rw [hi] at hk'; cases hk'; exact hp1 rfl
      have hfree := slotFree_spec hj k p hk' hki
      refine p.2.off (fun l hl => ?_) (R.ent p hmem)
      exact putS_ne (by rintro rfl; exact hfree hl)

/-- a new thing, seen from the activation -/
theorem Stv.freshAt {a : Addr} (R : Stv c X Γ F s ρ μ) (hn : s.heap.get? a = none) : X.s0.heap.get? a = none ∧ X.prot a = none ∧ a ≠ X.env.locals ∧ (∀ y cc, X.env.cells.lookup y = some cc → a ≠ cc) ∧ ∀ k b p, μ k = some (b, p) → b ≠ a := by
  refine ⟨not_some_of fun o q => ?_, not_some_of fun o q => ?_, ?_, fun y cc h => ?_, fun k b p h => ?_⟩
  · rw [keeps_keep R.ste.ext.keeps _ _ q] at hn; cases hn
  · rw [R.ste.prt _ _ q] at hn; cases hn
  · rintro rfl; obtain ⟨o, e⟩ := R.rd.locH; rw [e] at hn; cases hn
  · rintro rfl; obtain ⟨o, e⟩ := R.sep.celH y _ h; rw [e] at hn; cases hn
  · rintro rfl; rw [R.mu k _ _ h] at hn; cases hn
end

section
variable {c : Cx} {n : Nat} {X : Ac} {σ ρ : Type} [Rep ρ] {sh : σ → Sh} {α β : Type} [Rep α] [Rep β]
theorem ex_assignF {y : Str} {py pos : Pos} {e : Expr} {d : σ → Option (List α)} {up : σ → List α → σ} (i j : Nat) (h : ∀ x, EvF c n X.env (sh x) e (d x)) (hj : ∀ x, slotFree ((sh x).map fun p => p.2.slot) i j = true := by intro _; rfl) (hi : ∀ x, ∃ e0, (sh x)[i]? = some (y, e0) := by intro _; exact ⟨_, rfl⟩)
    (hu : ∀ x a, sh (up x a) = (sh x).set i (y, own j (some a)) := by intros; rfl) (hs : swapsWith e (some (.Name y py)) pos.line X.env = pure false := by rfl) :
    Ex (ρ := ρ) c n X sh (.Assign [.Name y py] e pos) (fun x => (d x).bind fun a => some (.next (up x a))) := by
  refine ⟨?_⟩
  intro x out ho A s F hA R
  obtain ⟨a, ha, ho⟩ := bind_some ho
  cases ho
  obtain ⟨e0, hi⟩ := hi x
  obtain ⟨ρ₀, μ, R⟩ := R
  refine wpAny_Assign_Name (wpAny_mono (h x a ha A s F hA R.rs) (fun v s₁ p => ?_) fun _ _ x => x) hs
  obtain ⟨F₁, ad, vs, m, x₁, rfl, hg, hn, hF, r₁⟩ := p
  obtain ⟨f1, f2, f3, f4, f5⟩ := R.freshAt hn
  have R₁ := (R.ext x₁).slot (e := trivE) (o := listObj vs m) (tk := s₁.toks) hi (hj x) (Heap.SameBut.refl _ _) hg f1 hF f2 f3 f4 (fun k b p _ h => f5 k b p h) triv_holds
  have hi' : ((sh x).set i (y, trivE))[i]? = some (y, trivE) := by
    rw [List.getElem?_set_self]
    exact (List.getElem?_eq_some_iff.mp hi).1
  refine store_gen hi' R₁ (e := own j (some a)) (fun xs hx => by cases hx; exact ⟨ad, vs, m, rfl, putS_self _ _, r₁⟩) fun s₂ R₂ => ⟨F₁, ?_⟩
  rw [List.set_set] at R₂
  rw [hu]
  exact ⟨_, _, R₂⟩

def appL {α : Type} (xs : List α) (a : α) : Option (List α) := if Nat.ble xs.length (2 ^ 20) then some (xs ++ [a]) else none
theorem ex_append {y : Str} {py apos mpos pos : Pos} {e : Expr} {d : σ → Option α} {o : σ → Option (List α)} {up : σ → List α → σ} (i j : Nat) (hi : ∀ x, (sh x)[i]? = some (y, own j (o x))) (hy : plainName y = true) (h : ∀ x, Ev c n X.env (sh x) e (d x)) (hj : ∀ x, slotFree ((sh x).map fun p => p.2.slot) i j = true := by intro _; rfl)
    (hu : ∀ x a, sh (up x a) = (sh x).set i (y, own j (some a)) := by intros; rfl) (he : starEach [e] X.env = [(false, eval e X.env)] := by exact starEach_one rfl) (hform : MethForm X.env (.Name y py) "append" apos mpos [e] := by exact ⟨_, rfl⟩)
    (hin : interactive X.env = false := by rfl) (hs : swapsWith (.Call (.Attribute (.Name y py) "append" apos) [e] [] mpos) none pos.line X.env = pure false := by rfl) :
    Ex (ρ := ρ) c n X sh (.Expr (.Call (.Attribute (.Name y py) "append" apos) [e] [] mpos) pos) (fun x => (o x).bind fun xs => (d x).bind fun a => (appL xs a).bind fun r => some (.next (up x r))) := by
  refine ⟨?_⟩
  obtain ⟨pl, hform⟩ := hform
  intro x out ho A s F hA R
  obtain ⟨xs, hxs, ho⟩ := bind_some ho
  obtain ⟨a, ha, ho⟩ := bind_some ho
  obtain ⟨r, hr, ho⟩ := bind_some ho
  cases ho
  unfold appL at hr
  split at hr
  · rename_i q; cases hr
    have q := Nat.le_of_ble_eq_true q
    obtain ⟨ρ₀, μ, R⟩ := R
    have hm := List.mem_of_getElem? (hi x)
    obtain ⟨ad, vs, m, hv, hmu, r₁⟩ := R.ent _ hm xs hxs
    unfold plainName at hy
    simp only [Bool.and_eq_true, Bool.not_eq_true'] at hy
    refine wpAny_Expr_any ?_ hin hs
    refine MethodCall_ (wpAny_Name (loadLoc R.rd (isSt_loc (R.kin _ hm)) hv ?_ hy.1) hy.2) hform
    refine getMethod_list_append (R.mu _ _ _ hmu) rfl rfl ?_
    refine callWith_method1 ?_ he
    rw [he]
    refine spliced_cons ((h x).use ha hA R.rs fun u s₂ F₂ x₂ R₂ r₂ => spliced_nil ?_)
    have R2 := R.ext x₂
    refine append_at (R2.mu _ _ _ hmu) (fun h' hs' hg => ?_) (by simp [r₁.length]; exact Nat.le_trans q (by decide))
    have e1 : vs.toArray.push u = (vs ++ [u]).toArray := by simp
    rw [e1] at hg
    have S := R2.sep
    have R3 := R2.slot (e := own j (some (xs ++ [a]))) (tk := s₂.toks) (hi x) (hj x) hs' hg (S.muN _ _ _ hmu) (S.muF _ _ _ hmu) (S.muP _ _ _ hmu) (S.muL _ _ _ hmu) (S.muC _ _ _ hmu) (fun k b p hk h => S.muA k j b p ad _ hk h hmu)
      (fun zs hz => by cases hz; exact ⟨ad, _, _, hv, putS_self _ _, (r₁.imp fun _ _ => Rep.mono x₂.le).append ⟨r₂, trivial⟩⟩)
    refine ⟨F₂, ?_⟩
    rw [hu]
    exact ⟨_, _, R3⟩
  · cases hr

theorem setItem_exact {prog : Program} {w : World} {A : Around} {E : Value → Shared → Prop} {s : Shared} {l : Addr} {vs : List Value} {m : Nat} {k : Int} {t : Tok} {v : Value} {Q : Unit → Shared → Prop} (ho : s.heap.get? l = some (listObj vs m))
    (h0 : 0 ≤ k) (hfit : k < 2 ^ 63) (hn : k < vs.length)
    (hQ : ∀ h' m', h'.get? l = some (listObj (vs.set k.toNat v) m') → Heap.SameBut l s.heap h' → Q () { s with heap := h' }) :
    wpAny (model prog w) A (setItem (.ref l) (.int k t) v) Q E s := by
  have hl : s.heap.IsList l vs.toArray := ⟨_, ho, rfl, m, rfl⟩
  unfold setItem
  try with_reducible refine wpAny_holding ?_
  first | refine wpAny_bind (wpAny_pure ?_) | skip
  refine wpAny_bind (wpAny_sequenceKey hl.typeIs (by decide) ?_)
  refine wpAny_bind (wpAny_callSpecial?_slot (name := Str.ofString "__setitem__") hl.typeIs slot_list_setitem
    (wpAny_call_entry slot_list_setitem hl.typeIs entry_list_setitem ?_ (args_list_setitem _ _ _)))
  show wpAny _ _ (Builtin.List.listSubscript? (.int k t) >>= _) _ _ s
  refine wpAny_bind (wpAny_listSubscript_int (fitsIndex_of h0 hfit) ?_)
  clear hfit
  obtain ⟨j, rfl⟩ := Int.eq_ofNat_of_zero_le h0
  have hj : j < vs.toArray.size := by simp; omega
  have hx' : vs.toArray[j]? = some vs.toArray[j] := Array.getElem?_eq_getElem hj
  show wpAny _ _ ((seqItemAt l j >>= fun r => pure (r.map (j, ·))) >>= _) _ _ s
  refine wpAny_bind (wpAny_bind (wpAny_seqItemAt ho rfl (wpAny_pure ?_)))
  rw [hx']
  show wpAny _ _ (setSeqItemAt l j v >>= _) _ _ s
  have hg : ∃ m', (s.heap.update l (Obj.mapSeq (·.setIfInBounds j v))).get? l = some (listObj (vs.set j v) m') := by
    have e : ∃ m', Obj.mapSeq (·.setIfInBounds j v) (listObj vs m) = listObj (vs.set j v) m' := by
      refine ⟨if (vs.set j v).toArray.size > vs.toArray.size then m + 1 else m, ?_⟩
      simp [Obj.mapSeq]
    obtain ⟨m', e⟩ := e
    exact ⟨m', by rw [Heap.get?_update_self _ ho (by rw [e]; rfl), e]⟩
  obtain ⟨m', hg⟩ := hg
  refine wpAny_bind (wpAny_setSeqItemAt ho rfl ?_)
  first
    | exact wpAny_bind (wpAny_pure (wpAny_pure ⟨.none, rfl, wpAny_pure (hQ _ _ hg (Heap.SameBut.update ..))⟩))
    | exact wpAny_pure ⟨.none, rfl, wpAny_pure (hQ _ _ hg (Heap.SameBut.update ..))⟩

/-- an item of an owned list is set -/
def setL {α : Type} (xs : List α) (k : Int) (a : α) : Option (List α) := if bigN k || !(decide (k < xs.length)) then none else some (xs.set k.toNat a)
theorem exec_Assign_Sub {env : Env} {o i : Expr} {spos pos : Pos} {value : Expr} (hs : swapsWith value (some (.Subscript o i spos)) pos.line env = pure false) : exec (.Assign [.Subscript o i spos] value pos) env =
    (do standAt pos; let v ← eval value env; assign (.Subscript o i spos) env v; pure .next) := by
  have e : exec (.Assign [.Subscript o i spos] value pos) env = (do
      standAt pos
      if ← swapsWith value (some (.Subscript o i spos)) pos.line env then
        evalThenUse value env (assign (.Subscript o i spos) env)
        return .next
      let v ← eval value env
      assign (.Subscript o i spos) env v
      pure .next) := rfl
  rw [e, hs]; rfl
theorem release_wp {M : Model} {A : Around} {E : Value → Shared → Prop} {s : Shared} {l r : List Value} {Q : Unit → Shared → Prop} (h : Q () s) : wpAny M A (release l r) Q E s := fun Γ p hΓ => by
  simp only [Sem.wp_release]; exact h
theorem ex_setitem {y : Str} {py spos pos : Pos} {e ix : Expr} {d : σ → Option α} {k : σ → Option Int} {o : σ → Option (List α)} {up : σ → List α → σ} (i j : Nat) (hi : ∀ x, (sh x)[i]? = some (y, own j (o x))) (hy : plainName y = true) (h : ∀ x, Ev c n X.env (sh x) e (d x)) (hk : ∀ x, Ev c n X.env (sh x) ix (k x))
    (hj : ∀ x, slotFree ((sh x).map fun p => p.2.slot) i j = true := by intro _; rfl)
    (hu : ∀ x a, sh (up x a) = (sh x).set i (y, own j (some a)) := by intros; rfl) (hs : swapsWith e (some (.Subscript (.Name y py) ix spos)) pos.line X.env = pure false := by rfl) (hnS : (match ix with | .Slice .. => false | _ => true) = true := by rfl) :
    Ex (ρ := ρ) c n X sh (.Assign [.Subscript (.Name y py) ix spos] e pos) (fun x => (d x).bind fun a => (o x).bind fun xs => (k x).bind fun q => (setL xs q a).bind fun r => some (.next (up x r))) := by
  refine ⟨?_⟩
  intro x out ho A s F hA R
  obtain ⟨a, ha, ho⟩ := bind_some ho
  obtain ⟨xs, hxs, ho⟩ := bind_some ho
  obtain ⟨q, hq, ho⟩ := bind_some ho
  obtain ⟨r, hr, ho⟩ := bind_some ho
  cases ho
  unfold setL at hr
  split at hr
  · cases hr
  · rename_i z; cases hr
    rw [Bool.or_eq_true, not_or] at z
    obtain ⟨h0, h1⟩ := bigN_not z.1
    have h2 : q < xs.length := by have := z.2; simp at this; exact this
    obtain ⟨ρ₀, μ, R⟩ := R
    have hm := List.mem_of_getElem? (hi x)
    obtain ⟨ad, vs, m, hv, hmu, r₁⟩ := R.ent _ hm xs hxs
    unfold plainName at hy
    simp only [Bool.and_eq_true, Bool.not_eq_true'] at hy
    rw [exec_Assign_Sub hs]
    refine wpAny_bind (wpAny_standAt (wpAny_bind ((h x).use ha hA R.rs fun u s₂ F₂ x₂ R₂ r₂ => wpAny_bind ?_)))
    have R2 := R.ext x₂
    show wpAny _ A (holding [u] (eval (.Name y py) X.env) >>= fun ov => holding [u, ov] (eval ix X.env) >>= fun iv => standAt spos >>= fun _ => holding [u, ov, iv] (setItem ov iv u) >>= fun _ => release _ []) _ _ _
    refine wpAny_bind (wpAny_holding (wpAny_Name (loadLoc R2.rd (isSt_loc (R2.kin _ hm)) hv (wpAny_bind (wpAny_holding ((hk x).use hq hA R2.rs fun iv s₃ F₃ x₃ R₃ r₃ => ?_))) hy.1) hy.2))
    obtain ⟨t, rfl⟩ := r₃
    have R3 := R2.ext x₃
    refine wpAny_bind (wpAny_standAt (wpAny_bind (wpAny_holding (setItem_exact (R3.mu _ _ _ hmu) h0 (by omega) (by rw [r₁.length]; exact h2) fun h' m' hg hs' => release_wp (wpAny_pure ?_)))))
    have S := R3.sep
    have R4 := R3.slot (e := own j (some (xs.set q.toNat a))) (tk := s₃.toks) (hi x) (hj x) hs' hg (S.muN _ _ _ hmu) (S.muF _ _ _ hmu) (S.muP _ _ _ hmu) (S.muL _ _ _ hmu) (S.muC _ _ _ hmu) (fun k b p hk h => S.muA k j b p ad _ hk h hmu)
      (fun zs hz => by cases hz; exact ⟨ad, _, _, hv, putS_self _ _, All2.set (Rep.mono x₃.le r₂) _ (r₁.imp fun _ _ => Rep.mono (x₂.le.trans x₃.le))⟩)
    refine ⟨F₃, ?_⟩
    rw [hu]
    exact ⟨_, _, R4⟩
end
end Mine
namespace Mine
open PySem PySem.W PyProof.Rows PySem.Calls

section
variable {c : Cx} {n : Nat} {X : Ac} {σ ρ : Type} [Rep ρ] {sh : σ → Sh} {α β τ : Type} [Rep α] [Rep β] [RepT τ]
/-- stores in a row -/
structure AsgL (c : Cx) (X : Ac) (sh : σ → Sh) (stores : List (Value → Sem Unit)) (set : σ → τ → σ) : Prop where
  run : ∀ x t A s F vs, OkA 0 A → Stt c X (sh x) F s → RepT.relT F vs t → stores.length = vs.length ∧ wpAny (model c.prog c.w) A (assignInOrder stores vs) (fun _ s' => ∃ F', FLe F F' ∧ Stt c X (sh (set x t)) F' s') NoE s
instance {c : Cx} {X : Ac} {sh : σ → Sh} {stores : List (Value → Sem Unit)} {set : σ → τ → σ} : CoeFun (AsgL c X sh stores set) (fun _ => ∀ x t A s F vs, OkA 0 A → Stt c X (sh x) F s → RepT.relT F vs t → stores.length = vs.length ∧ wpAny (model c.prog c.w) A (assignInOrder stores vs) (fun _ s' => ∃ F', FLe F F' ∧ Stt c X (sh (set x t)) F' s') NoE s) := ⟨AsgL.run⟩
theorem asgL_nil : AsgL (τ := Unit) c X sh [] (fun x _ => x) := by
  refine ⟨?_⟩
  intro x t A s F vs hA R r
  cases r
  exact ⟨rfl, wpAny_pure ⟨F, FLe.refl F, R⟩⟩
theorem asgL_cons {target : Expr} {stores : List (Value → Sem Unit)} {set1 : σ → α → σ} {set2 : σ → τ → σ} (h : Asg c X sh target set1) (hs : AsgL c X sh stores set2) : AsgL (τ := α × τ) c X sh (assign target X.env :: stores) (fun x t => set2 (set1 x t.1) t.2) := by
  refine ⟨?_⟩
  rintro x t A s F vs hA R ⟨v, ws, rfl, r, q⟩
  refine ⟨by rw [List.length_cons, List.length_cons, (hs x t.2 A s F ws hA R q).1], ?_⟩
  show wpAny _ A (holding ws (assign target X.env v) >>= fun _ => assignInOrder stores ws) _ _ s
  refine wpAny_bind (wpAny_holding (wpAny_mono (h x t.1 A s F v hA R r) (fun _ s₁ p => ?_) fun _ _ x => x))
  obtain ⟨F₁, le, R₁⟩ := p
  refine wpAny_mono (hs _ t.2 A s₁ F₁ ws hA R₁ (RepT.monoT le q)).2 (fun _ s₂ p => ?_) fun _ _ x => x
  obtain ⟨F₂, le2, R₂⟩ := p
  exact ⟨F₂, le.trans le2, R₂⟩
theorem asg_tuple {elts : List Expr} {k : Nat} {pos : Pos} {stores : List (Value → Sem Unit)} {set : σ → τ → σ} (h : AsgL c X sh stores set) (he : (assignEach elts X.env).map (·.2) = stores := by rfl) (hst : (assignEach elts X.env).findIdx? (·.1) = none := by rfl) :
    Asg c X sh (.Tuple elts k pos) (fun x (t : Tup τ) => set x t.it) := by
  refine ⟨?_⟩
  rintro x t A s F v hA R ⟨a, vs, m, rfl, hg, r⟩
  have hT : IsTup s.heap a vs.toArray := ⟨_, R.rs.inn _ _ hg, rfl, m, rfl⟩
  have hlen := (h x t.it A s F vs hA R r).1
  refine assign_Tuple_tuple hA.hd hT (by rw [← List.length_map (f := (·.2)), he, hlen]; simp) hst fun h' hx => ?_
  rw [he]
  have kk : Keeps s { s with heap := h' } := ⟨h', s.toks, rfl, fun b o e => hx b o (by rintro rfl; rw [get_size_none] at e; cases e) e⟩
  have e1 := Ext.of_keeps R.rs.inn kk
  have := (h x t.it A _ F vs hA (R.ext e1) r).2
  simpa using this
/-- a store through any target -/
theorem ex_assignT {target e : Expr} {pos : Pos} {d : σ → Option α} {set : σ → α → σ} (h : ∀ x, Ev c n X.env (sh x) e (d x)) (ha : Asg c X sh target set) (hs : swapsWith e (some target) pos.line X.env = pure false := by rfl) (hw : swappedStores [target] e X.env = pure none := by rfl)
    (he : (assignEach [target] X.env).map (·.2) = [assign target X.env] := by rfl) :
    Ex (ρ := ρ) c n X sh (.Assign [target] e pos) (fun x => (d x).bind fun a => some (.next (set x a))) := by
  refine ⟨?_⟩
  intro x out ho A s F hA R
  obtain ⟨a, hd, ho⟩ := bind_some ho
  cases ho
  refine wpAny_Assign_stores ((h x).use hd hA R.rs fun v s₁ F₁ x₁ _ r₁ => ?_) hs hw
  rw [he]
  exact wpAny_mono (ha x a A s₁ F₁ v (hA.le (Nat.zero_le _)) (R.ext x₁) r₁) (fun _ s₂ ⟨F₂, _, R₂⟩ => ⟨F₂, R₂⟩) fun _ _ x => x
/-- two names, a pair written: the stores are swapped -/
theorem ex_assign_swap {y1 y2 : Str} {p1 p2 tp pos : Pos} {k : Nat} {e : Expr} {d : σ → Option (Tup (α × β × Unit))} {up : σ → α → β → σ} (i1 i2 : Nat) (h : ∀ x, Ev c n X.env (sh x) e (d x))
    (h2 : ∀ x, ∃ e0, (sh x)[i2]? = some (y2, e0)) (h1 : ∀ x b, ∃ e0, ((sh x).set i2 (y2, val (some (b : β))))[i1]? = some (y1, e0))
    (hu : ∀ x a b, sh (up x a b) = ((sh x).set i2 (y2, val (some b))).set i1 (y1, val (some a)))
    (hs : swapsWith e (some (.Tuple [.Name y1 p1, .Name y2 p2] k tp)) pos.line X.env = pure false := by rfl)
    (hw : swappedStores [.Tuple [.Name y1 p1, .Name y2 p2] k tp] e X.env = pure (some [y1, y2])) :
    Ex (ρ := ρ) c n X sh (.Assign [.Tuple [.Name y1 p1, .Name y2 p2] k tp] e pos) (fun x => (d x).bind fun a => some (.next (up x a.it.1 a.it.2.1))) := by
  refine ⟨?_⟩
  intro x out ho A s F hA R
  obtain ⟨a, hd, ho⟩ := bind_some ho
  cases ho
  rw [exec_Assign_arm]
  refine wpAny_bind (wpAny_standAt ?_)
  rw [show swapsWithSole [.Tuple [.Name y1 p1, .Name y2 p2] k tp] e pos.line X.env = pure false from hs]
  refine wpAny_bind (wpAny_pure ?_)
  rw [if_neg (by decide)]
  refine wpAny_bind ((h x).use hd hA R.rs fun v s₁ F₁ x₁ _ r₁ => ?_)
  rw [hw]
  refine wpAny_bind (wpAny_pure ?_)
  obtain ⟨ad, vs, m, rfl, hg, r⟩ := r₁
  obtain ⟨v1, w1, rfl, q1, v2, w2, rfl, q2, rfl⟩ := r
  show wpAny _ A (rule "assign.swapped-stores" >>= fun _ => unpackItems (.ref ad) 2 none >>= fun items => assignInOrder [fun v => bindName X.env y2 v, fun v => bindName X.env y1 v] items.reverse >>= fun _ => pure Flow.next) _ _ s₁
  have hT : IsTup s₁.heap ad [v1, v2].toArray := ⟨_, x₁.inn _ _ hg, rfl, m, rfl⟩
  refine wpAny_bind (wpAny_rule (wpAny_bind (unpackItems_tuple (items := [v1, v2].toArray) hA.hd hT fun h' hx => ?_)))
  have kk : Keeps s₁ { s₁ with heap := h' } := ⟨h', s₁.toks, rfl, fun b o e => hx b o (by rintro rfl; rw [get_size_none] at e; cases e) e⟩
  have e1 := Ext.of_keeps x₁.inn kk
  have R1 := (R.ext x₁).ext e1
  obtain ⟨e2, h2⟩ := h2 x
  obtain ⟨e3, h1⟩ := h1 x a.it.2.1
  show wpAny _ A ((holding [v1] (bindName X.env y2 v2) >>= fun _ => holding [] (bindName X.env y1 v1) >>= fun _ => pure ()) >>= fun _ => pure Flow.next) _ _ _
  refine wpAny_bind (wpAny_bind (wpAny_holding ?_))
  have bn : ∀ {y : Str} {v : Value} {s : Shared} {Q : Unit → Shared → Prop}, wpAny (model c.prog c.w) A (storeName X.env y v) Q NoE s → wpAny (model c.prog c.w) A (bindName X.env y v) Q NoE s := by
    intro y v s Q h Γ p hΓ
    rw [Sem.wp_bindName]; exact h Γ p hΓ
  refine bn (store_val h2 R1 q2 fun s₂ R₂ => wpAny_bind (wpAny_holding (bn (store_val h1 R₂ q1 fun s₃ R₃ => wpAny_pure (wpAny_pure ?_)))))
  exact ⟨F₁, by rw [hu]; exact R₃⟩
end
end Mine
namespace Mine
open PySem PySem.W PyProof.Rows PySem.Calls

/-- the attributes of an instance -/
class RepO (α : Type) where
  attrs : α → Sh
  nod : ∀ x, ((attrs x).map (·.1)).Nodup
  noS : ∀ x, ∀ p ∈ attrs x, p.2.slot = none
def dlk (name : Str) (es : List DictEntry) : Option Value := (PySem.W.getL name es).join
structure AttrsIn (F : FH) (es : List DictEntry) (Γ : Sh) : Prop where
  noRef : es.any (·.refKey) = false
  named : ∀ y, y ∉ Γ.map (·.1) → PySem.W.getL y es = some none
  ent : ∀ p ∈ Γ, p.2.holds F (fun _ => none) (dlk p.1 es)
theorem AttrsIn.mono {F F' : FH} {es : List DictEntry} {Γ : Sh} (h : FLe F F') (x : AttrsIn F es Γ) : AttrsIn F' es Γ := ⟨x.noRef, x.named, fun p hp => p.2.mono h (x.ent p hp)⟩
structure Ins (C : Nat) (α : Type) where
  it : α
instance {C : Nat} {α : Type} [RepO α] : Rep (Ins C α) :=
  ⟨fun F v x => ∃ a dx es k, v = .ref a ∧ F a = some (instObj C dx) ∧ F dx = some (dictOf es k) ∧ AttrsIn F es (RepO.attrs x.it),
   fun h ⟨a, dx, es, k, e, f, g, q⟩ => ⟨a, dx, es, k, e, h _ _ f, h _ _ g, q.mono h⟩⟩
def inst {α : Type} [RepO α] (C : Nat) (j m : Nat) (a : Addr) (x : α) : Ent :=
  ⟨fun F μ ov => ov = some (.ref a) ∧ ∃ dx es k, F a = some (instObj C dx) ∧ μ j = some (dx, dictOf es k) ∧ es.length ≤ m ∧ AttrsIn F es (RepO.attrs x), some j,
   fun h ⟨e, dx, es, k, f, g, l, q⟩ => ⟨e, dx, es, k, h _ _ f, g, l, q.mono h⟩,
   fun h ⟨e, dx, es, k, f, g, l, q⟩ => ⟨e, dx, es, k, f, (h j rfl).trans g, l, q⟩⟩

/-- the values that an attribute hands out as they are -/
class Handy (α : Type) [Rep α] : Prop where
  ok : ∀ {F : FH} {v : Value} {a : α}, Rep.rel F v a → handedIn v = true
instance : Handy Int := ⟨fun ⟨_, e⟩ => by rw [e]; rfl⟩
instance : Handy Bool := ⟨fun e => by rw [show _ = _ from e]; rfl⟩
instance : Handy Txt := ⟨fun ⟨_, e⟩ => by rw [e]; rfl⟩
instance {τ : Type} [RepT τ] : Handy (Tup τ) := ⟨fun ⟨_, _, _, e, _⟩ => by rw [e]; rfl⟩

def attrOk (K : Frag) (C : Addr) (name : Str) : Bool := plainGet K C name && hasDictIn K C && findIn K (.ref C) name == some none
theorem instAt_of {h : Heap} {x C dx : Addr} {es : List DictEntry} {k : Nat} (h1 : h.get? x = some (instObj C dx)) (h2 : h.get? dx = some (dictOf es k)) : InstAt h x (instObj C dx) C (some (dictOf es k)) := ⟨h1, rfl, rfl, h2⟩

section
variable {c : Cx} {n : Nat} {env : Env} {Γ : Sh} {α β γ τ : Type} [Rep β] [Rep γ] [RepT τ]
theorem get_attr {A : Around} {E : Value → Shared → Prop} {s : Shared} {x C dx : Addr} {es : List DictEntry} {k : Nat} {name : Str} {v : Value} {Q : Value → Shared → Prop} (X : c.K.In s.heap) (h1 : s.heap.get? x = some (instObj C dx)) (h2 : s.heap.get? dx = some (dictOf es k)) (ho : attrOk c.K C name = true)
    (hl : PySem.W.getL name es = some (some v)) (hh : handedIn v = true) (h : Q v { s with toks := s.toks + 1 }) : wpAny (model c.prog c.w) A (getAttr (.ref x) name true) Q E s := by
  unfold attrOk at ho
  rw [Bool.and_eq_true, Bool.and_eq_true] at ho
  exact get_value X (instAt_of h1 h2) (plainGet_of ho.1.1).1 (findObj_own ho.1.2 (beq_iff_eq.mp ho.2) (by rfl) hl) hh h
theorem dlk_some {name : Str} {es : List DictEntry} {v : Value} (h : dlk name es = some v) : PySem.W.getL name es = some (some v) := by
  unfold dlk at h
  cases e : PySem.W.getL name es with
  | none => rw [e] at h; cases h
  | some o => rw [e] at h; exact congrArg some h
/-- the form that an attribute's load comes to -/
def AttrForm (env : Env) (e : Expr) (name : Str) (pos : Pos) : Prop := eval (.Attribute e name pos) env = (do
    let o ← eval e env
    standAt pos.atName
    let r ← holding [o] (getAttr o name true)
    letTemporaryGo e o r
    pure r)
theorem attr_wp {e : Expr} {name : Str} {pos : Pos} {A : Around} {s : Shared} {Q : Value → Shared → Prop} (hf : AttrForm env e name pos)
    (h : wpAny (model c.prog c.w) A (eval e env) (fun v s₁ => wpAny (model c.prog c.w) A (getAttr v name true) Q NoE s₁) NoE s) : wpAny (model c.prog c.w) A (eval (.Attribute e name pos) env) Q NoE s := by
  rw [show eval (.Attribute e name pos) env = _ from hf]
  exact wpAny_bind (wpAny_mono h (fun v s₁ h₁ => wpAny_bind (wpAny_standAt (wpAny_bind (wpAny_holding (wpAny_mono h₁ (fun r s₂ h₂ => wpAny_bind (wpAny_letTemporaryGo (wpAny_pure h₂))) fun _ _ x => x))))) fun _ _ x => x)
variable [RepO α]
theorem ev_attr {C : Nat} {e : Expr} {name : Str} {pos : Pos} {o : Option (Ins C α)} {sel : α → Option β} [Handy β] (i : Nat) (h : Ev c n env Γ e o) (hi : ∀ x, (RepO.attrs x)[i]? = some (name, val (sel x))) (ho : attrOk c.K C name = true) (hf : AttrForm env e name pos := by rfl) :
    Ev c n env Γ (.Attribute e name pos) (o.bind fun x => sel x.it) := by
  refine ⟨?_⟩
  intro b hb A s F hA R
  obtain ⟨x, hx, hb⟩ := bind_some hb
  refine attr_wp hf (h.use hx hA R fun v s₁ F₁ x₁ R₁ r₁ => ?_)
  obtain ⟨a, dx, es, k, rfl, f, g, q⟩ := r₁
  obtain ⟨v, hv, r⟩ := q.ent _ (List.mem_of_getElem? (hi x.it)) b hb
  exact get_attr R₁.bs.frag (R₁.inn _ _ f) (R₁.inn _ _ g) ho (dlk_some hv) (Handy.ok r) ⟨F₁, x₁.trans (Ext.tok x₁.inn _), r⟩
/-- an attribute of an instance that the call still builds -/
theorem ev_attrI {C j m : Nat} {a : Addr} {z : α} {y : Str} {py : Pos} {name : Str} {pos : Pos} {sel : α → Option β} [Handy β] (i i' : Nat) (hi : Γ[i]? = some (y, inst C j m a z)) (hy : plainName y = true) (hi' : (RepO.attrs z)[i']? = some (name, val (sel z))) (ho : attrOk c.K C name = true) (hf : AttrForm env (.Name y py) name pos := by rfl) :
    Ev c n env Γ (.Attribute (.Name y py) name pos) (sel z) := by
  refine ⟨?_⟩
  intro b hb A s F hA R
  obtain ⟨ρ, μ, rd, hmu, hv⟩ := R.vars
  have hm := List.mem_of_getElem? hi
  obtain ⟨e, dx, es, k, f, g, _, q⟩ := hv _ hm
  unfold plainName at hy
  simp only [Bool.and_eq_true, Bool.not_eq_true'] at hy
  refine attr_wp hf (wpAny_Name (loadLoc rd (R.kin _ hm) e ?_ hy.1) hy.2)
  obtain ⟨v, hv, r⟩ := q.ent _ (List.mem_of_getElem? hi') b hb
  exact get_attr R.bs.frag (R.inn _ _ f) (hmu _ _ _ g) ho (dlk_some hv) (Handy.ok r) ⟨F, Ext.tok R.inn _, r⟩
/-- a method of an instance, called -/
def methOk (K : Frag) (C : Addr) (name : Str) (f : Addr) : Bool := plainGet K C name && findIn K (.ref C) name == some (some (.ref f)) && isFn K (.ref f)
theorem ev_methI {C : Nat} {o : Expr} {name : Str} {f : Addr} {apos pos : Pos} {es : List Expr} {oo : Option (Ins C α)} {oa : Option τ} {g : Ins C α → τ → Option γ} (ho : Ev c n env Γ o oo) (hm : methOk c.K C name f = true) (hn : ∀ x : α, ((RepO.attrs x).map (·.1)).contains name = false) (hk : keepIn c.K (.ref f) = true) (ha : EvL c n env Γ es oa)
    (hf : ∀ x y r, g x y = some r → CallS c n (.ref f) (x, y) r) (hform : MethForm env o name apos pos es := by exact ⟨_, rfl⟩) : Ev c n env Γ (.Call (.Attribute o name apos) es [] pos) (bind2 oo oa fun x y => g x y) := by
  refine ⟨?_⟩
  obtain ⟨pl, hform⟩ := hform
  intro r hr A s F hA R
  obtain ⟨x, hx, hr⟩ := bind_some hr
  obtain ⟨y, hy, hr⟩ := bind_some hr
  unfold methOk at hm
  rw [Bool.and_eq_true, Bool.and_eq_true] at hm
  refine MethodCall_ (ho.use hx hA R fun v s₁ F₁ x₁ R₁ r₁ => ?_) hform
  have r₁' := r₁
  obtain ⟨a, dx, es', k, rfl, e1, e2, q⟩ := r₁
  have hl : PySem.W.getL name es' = some none := q.named name (fun hc => by have := hn x.it; rw [List.contains_iff_mem.mpr hc] at this; cases this)
  refine method_fn R₁.bs.frag (instAt_of (R₁.inn _ _ e1) (R₁.inn _ _ e2)) (plainGet_of hm.1.1).1 (plainGet_of hm.1.1).2 (beq_iff_eq.mp hm.1.2) (beq_iff_eq.mp hm.2) (by show (lookIn name (dictOf es' k)).map _ = _; rw [lookIn_dict, hl]; rfl) ?_
  refine callWith_gen (kp_K hk) ha hy hA R₁ fun vs s₂ F₂ x₂ R₂ r₂ => ?_
  exact wpAny_mono (hf x y r hr A s₂ F₂ (.ref a :: vs) hA R₂.bs R₂.inn ⟨_, vs, rfl, Rep.mono x₂.le r₁', r₂⟩) (fun _ _ p => Pst.trans (x₁.trans x₂) p) fun _ _ x => x
end
end Mine
namespace Mine
open PySem PySem.W PyProof.Rows PySem.Calls

theorem isStr_ne {v : Value} {a b : Str} (h : v.isStr a = true) (hn : a ≠ b) : v.isStr b = false := by
  cases v with
  | str x t =>
    have e : x = a := by simpa [Value.isStr] using h
    subst e
    simpa [Value.isStr] using hn
  | _ => cases h
theorem putL_ref {name : Str} {hsh : Int} {x : Str} {t : Tok} {v : Value} : ∀ {es : List DictEntry}, es.any (·.refKey) = false → (putL name hsh (.str x t) v es).any (·.refKey) = false
  | [], _ => rfl
  | e :: r, h => by
    rw [List.any_cons, Bool.or_eq_false_iff] at h
    unfold putL
    split
    · rw [List.any_cons, Bool.or_eq_false_iff]
      refine ⟨?_, h.2⟩
      have := h.1
      unfold DictEntry.refKey at this ⊢
      exact this
    · rw [List.any_cons, Bool.or_eq_false_iff]; exact ⟨h.1, putL_ref h.2⟩
theorem putL_len {name : Str} {hsh : Int} {k v : Value} : ∀ {es : List DictEntry}, (putL name hsh k v es).length ≤ es.length + 1
  | [] => Nat.le_refl _
  | e :: r => by
    unfold putL
    split
    · simp
    · have := putL_len (name := name) (hsh := hsh) (k := k) (v := v) (es := r)
      simp; omega
theorem find_put_same {name : Str} {hsh : Int} {t : Tok} {v : Value} : ∀ {es : List DictEntry}, ∃ e, (putL name hsh (.str name t) v es).find? (·.key.isStr name) = some e ∧ e.val = v
  | [] => ⟨_, by unfold putL; rw [List.find?_cons_of_pos (by simp [Value.isStr])], rfl⟩
  | e :: r => by
    unfold putL
    split
    · rename_i h; exact ⟨_, by rw [List.find?_cons_of_pos (by exact h)], rfl⟩
    · rename_i h; rw [List.find?_cons_of_neg (by exact h)]; exact find_put_same
theorem find_put_ne {name y : Str} {hsh : Int} {t : Tok} {v : Value} (hy : name ≠ y) : ∀ {es : List DictEntry}, (putL name hsh (.str name t) v es).find? (·.key.isStr y) = es.find? (·.key.isStr y)
  | [] => by unfold putL; rw [List.find?_cons_of_neg (by simp [Value.isStr]; exact hy)]
  | e :: r => by
    unfold putL
    split
    · rename_i h
      have := isStr_ne h hy
      rw [List.find?_cons_of_neg (by rw [this]; decide), List.find?_cons_of_neg (by rw [this]; decide)]
    · cases q : e.key.isStr y with
      | true => rw [List.find?_cons_of_pos (by exact q), List.find?_cons_of_pos (by exact q)]
      | false => rw [List.find?_cons_of_neg (by rw [q]; decide), List.find?_cons_of_neg (by rw [q]; decide)]; exact find_put_ne hy
theorem getL_put_same {name : Str} {hsh : Int} {t : Tok} {v : Value} {es : List DictEntry} : PySem.W.getL name (putL name hsh (.str name t) v es) = some (some v) := by
  obtain ⟨e, h1, h2⟩ := find_put_same (name := name) (hsh := hsh) (t := t) (v := v) (es := es)
  unfold PySem.W.getL
  rw [h1, ← h2]
theorem getL_put_ne {name y : Str} {hsh : Int} {t : Tok} {v : Value} {es : List DictEntry} (hn : es.any (·.refKey) = false) (hy : name ≠ y) : PySem.W.getL y (putL name hsh (.str name t) v es) = PySem.W.getL y es := by
  unfold PySem.W.getL
  rw [find_put_ne hy, putL_ref hn, hn]

def setOk (K : Frag) (C : Addr) (name : Str) : Bool := findIn K (.ref C) "__setattr__" == some (some (.builtin "object.__setattr__")) && plainOver K C && takerIn K C name == some none && hasDictIn K C
section
variable {c : Cx} {n : Nat} {X : Ac} {σ ρ : Type} [Rep ρ] {sh : σ → Sh} {α β : Type} [RepO α] [Rep β]
theorem set_attr {A : Around} {E : Value → Shared → Prop} {s : Shared} {x C dx : Addr} {es : List DictEntry} {k : Nat} {name : Str} {v : Value} {Q : Unit → Shared → Prop} (X : c.K.In s.heap) (h1 : s.heap.get? x = some (instObj C dx)) (h2 : s.heap.get? dx = some (dictOf es k)) (ho : setOk c.K C name = true)
    (hr : es.any (·.refKey) = false) (hz : es.length ≤ 900)
    (h : ∀ h' hsh t k', h'.get? dx = some (dictOf (putL name hsh (.str name t) v es) k') → Heap.SameBut dx s.heap h' → Q () { s with heap := h', toks := s.toks + 2 }) : wpAny (model c.prog c.w) A (setAttr (.ref x) name v) Q E s := by
  unfold setOk at ho
  simp only [Bool.and_eq_true, beq_iff_eq] at ho
  obtain ⟨⟨⟨a1, a2⟩, a3⟩, a4⟩ := ho
  refine set_plain X (instAt_of h1 h2) a1 (osa_open (s := { s with toks := s.toks + 1 }) X (instAt_of h1 h2) a2 a3 fun b => ?_)
  obtain ⟨cd, hc, hd'⟩ := any_some a4
  refine wpAny_bind (wpAny_pure (wpAny_bind (wpAny_bind (wpAny_loadPart h1 (wpAny_bind (looks_clsIn X hc _ _ _ _ (fun _ _ e => e) ?_))))))
  rw [hd']
  refine wpAny_pure (a := some dx) (wpAny_bind (wpAny_pure (wpAny_bind ?_)))
  unfold nsSet
  refine wpAny_bind (wpAny_bind (wpAny_askSetting (wpAny_pure (wpAny_bind (wpAny_mkText (wpAny_bind (wpAny_loadPart h2 ?_)))))))
  have c1 : (!es.toArray.any (·.key.isStr name) && es.toArray.any (·.refKey)) = false := by
    have : es.toArray.any (·.refKey) = false := by rw [← hr]; simp
    rw [this, Bool.and_false]
  dsimp only
  rw [aRefKeyMayBeTheName_at, c1]
  have e1 := putName_dict name (PyData.keyHash c.w.params name) (.str name (s.toks + 1)) v es k
  have D' : (s.heap.update dx (Obj.putName name (PyData.keyHash c.w.params name) (.str name (s.toks + 1)) v)).get? dx = some (dictOf (putL name (PyData.keyHash c.w.params name) (.str name (s.toks + 1)) v es) (putN name es k)) := by
    rw [Heap.get?_update_self _ h2 (by rw [e1]; rfl), e1]
  refine wpAny_updatePart h2 ?_
  refine wpAny_bind (wpAny_lookBehind D' (pastItsLine_dict (by rw [List.size_toArray, sizeLine_eq]; have := putL_len (name := name) (hsh := PyData.keyHash c.w.params name) (k := .str name (s.toks + 1)) (v := v) (es := es); omega)) ?_)
  exact wpAny_pure (h _ _ _ _ D' (Heap.SameBut.update ..))

theorem AttrsIn.put {F : FH} {es : List DictEntry} {Γ : Sh} {i : Nat} {y : Str} {e0 : Ent} {hsh : Int} {t : Tok} {v : Value} {b : β} (x : AttrsIn F es Γ) (hn : (Γ.map (·.1)).Nodup) (hi : Γ[i]? = some (y, e0)) (r : Rep.rel F v b) :
    AttrsIn F (putL y hsh (.str y t) v es) (Γ.set i (y, val (some b))) := by
  have hm := List.mem_of_getElem? hi
  refine ⟨putL_ref x.noRef, fun z hz => ?_, fun p hp => ?_⟩
  · rw [map_set_names hi] at hz
    have : y ≠ z := by rintro rfl; exact hz (List.mem_map.mpr ⟨_, hm, rfl⟩)
    rw [getL_put_ne x.noRef this]
    exact x.named z hz
  · rcases set_mem hi hn hp with h | h
    · rw [h]
      show (val (some b)).holds F _ (dlk y _)
      unfold dlk
      rw [getL_put_same]
      exact fun a ha => by cases ha; exact ⟨v, rfl, r⟩
    · unfold dlk
      rw [getL_put_ne x.noRef (fun q => h.2 q.symm)]
      exact x.ent p h.1

/-- an attribute of the instance that the call builds is set -/
theorem ex_setattr {C j : Nat} {a : Addr} {y : Str} {py tp pos : Pos} {name : Str} {e : Expr} {d : σ → Option β} {z : σ → α} {m : σ → Nat} {upA : α → β → α} {up : σ → β → σ} (i i' : Nat) (hi : ∀ x, (sh x)[i]? = some (y, inst C j (m x) a (z x))) (hy : plainName y = true) (h : ∀ x, Ev c n X.env (sh x) e (d x))
    (hi' : ∀ x : α, ∃ e0, (RepO.attrs x)[i']? = some (name, e0)) (hA' : ∀ (x : α) b, RepO.attrs (upA x b) = (RepO.attrs x).set i' (name, val (some b))) (ho : setOk c.K C name = true)
    (hj : ∀ x, slotFree ((sh x).map fun p => p.2.slot) i j = true := by intro _; rfl)
    (hu : ∀ x b, sh (up x b) = (sh x).set i (y, inst C j (m x + 1) a (upA (z x) b)) := by intros; rfl)
    (hs : swapsWith e (some (.Attribute (.Name y py) name tp)) pos.line X.env = pure false := by rfl) :
    Ex (ρ := ρ) c n X sh (.Assign [.Attribute (.Name y py) name tp] e pos) (fun x => (d x).bind fun b => if Nat.ble (m x) 900 then some (.next (up x b)) else none) := by
  refine ⟨?_⟩
  intro x out hout A s F hA R
  obtain ⟨b, hb, hout⟩ := bind_some hout
  split at hout
  case isFalse => cases hout
  rename_i hmx
  have hmx := Nat.le_of_ble_eq_true hmx
  cases hout
  obtain ⟨ρ₀, μ, R⟩ := R
  have hmem := List.mem_of_getElem? (hi x)
  obtain ⟨hv, dx, es, k, f, g, hl, q⟩ := R.ent _ hmem
  unfold plainName at hy
  simp only [Bool.and_eq_true, Bool.not_eq_true'] at hy
  refine plainObj_wpAny_Assign_Attribute ((h x).use hb hA R.rs fun u s₂ F₂ x₂ R₂ r₂ => ?_) hs
  have R2 := R.ext x₂
  refine wpAny_Name (loadLoc R2.rd (isSt_loc (R2.kin _ hmem)) hv ?_ hy.1) hy.2
  have f2 := x₂.le _ _ f
  refine set_attr R₂.bs.frag (R₂.inn _ _ f2) (R2.mu _ _ _ g) ho q.noRef (Nat.le_trans hl hmx) fun h' hsh t k' hg hs' => ?_
  have S := R2.sep
  obtain ⟨e0, hi'⟩ := hi' (z x)
  have R3 := R2.slot (e := inst C j (m x + 1) a (upA (z x) b)) (tk := s₂.toks + 2) (hi x) (hj x) hs' hg (S.muN _ _ _ g) (S.muF _ _ _ g) (S.muP _ _ _ g) (S.muL _ _ _ g) (S.muC _ _ _ g) (fun k b p hk h => S.muA k j b p dx _ hk h g)
    ⟨hv, dx, _, _, f2, putS_self _ _, Nat.le_trans putL_len (Nat.succ_le_succ hl), by rw [hA']; exact (q.mono x₂.le).put (RepO.nod _) hi' r₂⟩
  refine ⟨F₂, ?_⟩
  rw [hu]
  exact ⟨_, _, R3⟩
end
end Mine
namespace Mine
open PySem PySem.W PyProof.Rows PySem.Calls

structure Slf where
  v : Value
instance : Rep Slf := ⟨fun _ v a => v = a.v, fun _ h => h⟩

section
variable {c : Cx} {n : Nat} {env : Env} {Γ : Sh}
theorem ev_clsattr {C : Addr} {y : Str} {py pos : Pos} {name : Str} {mc : Value} {t : Tok} (x : Txt) (hk : env.kindOf y = some .globalImplicit) (hg : GlobV c y (.ref C)) (hr : readsIn c.K C mc = true) (e : findCls c.K (.ref C) mc name = some (.val (.str x.str t)))
    (hf : AttrForm env (.Name y py) name pos := by rfl) (hd : (y == ("__debug__" : Str)) = false := by decide) : Ev c n env Γ (.Attribute (.Name y py) name pos) (some x) := by
  refine ⟨?_⟩
  intro b hb A s F hA R
  cases hb
  refine attr_wp hf (load_glob R hk hg ?_ hd)
  exact cls_value R.bs.frag hr e rfl ⟨F, Ext.tok R.inn _, t, rfl⟩

theorem rebase {sA : Shared} {FA : FH} {s s₁ : Shared} {F F₁ : FH} {ρ : Str → Option Value} {μ : Slots} (R : Stv c ⟨env, s, F, fun _ => none⟩ Γ F₁ s₁ ρ μ) (hb : Bs c sA.heap) (x : Ext sA FA s F) : Stv c ⟨env, sA, FA, fun _ => none⟩ Γ F₁ s₁ ρ μ := by
  have up : ∀ b, s.heap.get? b = none → sA.heap.get? b = none := fun b h => not_some_of fun o q => by rw [keeps_keep x.keeps _ _ q] at h; cases h
  have S := R.sep
  exact ⟨⟨hb, x.trans R.ste.ext, fun _ _ q => (nomatch q), fun _ _ _ => .inr rfl⟩, R.kin, R.nod, R.rd, R.mu,
    ⟨up _ S.locN, S.locF, rfl, S.celH, fun y cc h => up _ (S.celN y cc h), S.celF, fun _ _ _ => rfl, S.celL, S.celA, fun i a o h => up _ (S.muN i a o h), S.muF, fun _ _ _ _ => rfl, S.muL, S.muC, S.muA⟩, R.ent⟩

theorem tc_weight (C : Addr) (vs : List Value) : (Code.builtin "type.__call__" ⟨.ref C :: vs, []⟩).weight = 1 := by rfl
theorem tc_units (a : Args) : (Code.builtin "type.__call__" a).cUnits = 1 := by rfl
theorem OkA.under {A : Around} {C : Addr} {vs : List Value} (x : OkA (n + 1) A) : OkA n (A.under (.builtin "type.__call__" ⟨.ref C :: vs, []⟩)) :=
  ⟨x.hd, by have := x.dp; show A.depth + (Code.builtin "type.__call__" ⟨.ref C :: vs, []⟩).weight + n < _; rw [tc_weight]; omega, by have := x.un; show A.units + (Code.builtin "type.__call__" ⟨.ref C :: vs, []⟩).cUnits + 8 * n + 8 < _; rw [tc_units]; omega⟩
theorem slotFree_set {j : Nat} : ∀ {i : Nat} {l : List (Option Nat)}, slotFree l i j = true → slotFree (l.set i none) i j = true
  | 0, [], _ => rfl
  | 0, _ :: _, h => h
  | _ + 1, [], _ => rfl
  | i + 1, q :: l, h => by
    have h' : (q != some j && slotFree l i j) = true := h
    rw [Bool.and_eq_true] at h'
    show (q != some j && slotFree (l.set i none) i j) = true
    rw [Bool.and_eq_true]
    exact ⟨h'.1, slotFree_set h'.2⟩

variable {σ ρ : Type} [Rep ρ] {α : Type} [RepO α]
theorem cls_ok {C fa : Addr} {fd : FuncData} {body : List Stmt} {oc : Value} {od : Option Addr} {osl : Array (Option Value)} {τ : Type} [RepA τ] (self : Str) (ns : List Str) {f : σ → Option (Fl σ ρ)} (init : τ → σ) (sh : Addr → σ → Sh) (i : Nat) (z0 : α) (res : σ → α) (msz : σ → Nat)
    (hmk : makesIn c.K C = true) (hfind : findIn c.K (.ref C) "__init__" = some (some (.ref fa))) (hfn : isFn c.K (.ref fa) = true)
    (hK : c.K.lookup fa = some ⟨oc, od, .func fd, osl⟩) (hcd : codeIn c.K fd.code fd.qualname = true) (hbody : fd.body = .stmts body) (hclo : fd.closure = []) (hg : fd.globals = mainGlobals) (hbu : fd.builtins = builtinsNs)
    (hco : fd.scope.isCoroutine = false) (hgen : fd.scope.isGenerator = false) (hk : fd.scope.kind = .function)
    (hbind : ∀ vs, vs.length = RepA.arity τ + 1 → bindArgs fd ⟨vs, []⟩ = pure ((self :: ns).zip vs)) (hn : (self :: ns).Nodup) (hpar : ((self :: ns).all fun y => isSt (fd.scope.names.lookup y)) = true)
    (hfree : (fd.scope.names.all fun p => p.2 != .free) = true)
    (hkin : ∀ a x, ((sh a (init x)).all fun p => isSt (fd.scope.names.lookup p.1)) = true) (hnod : ∀ a x, ((sh a (init x)).map (·.1)).Nodup)
    (hself : ∀ a x, (sh a (init x))[i]? = some (self, inst C 0 0 a z0)) (hfr : ∀ a x, slotFree ((sh a (init x)).map fun p => p.2.slot) i 0 = true)
    (hz0 : ∀ p ∈ RepO.attrs z0, unset p.2) (hend : ∀ a y, (sh a y)[i]? = some (self, inst C 0 (msz y) a (res y)))
    (hΓ : ∀ a x, ∀ p ∈ (sh a (init x)).set i (self, val (some (⟨.ref a⟩ : Slf))), p ∈ RepA.ents (self :: ns) ((⟨.ref a⟩ : Slf), x) ∨ unset p.2)
    (hEx : ∀ a L s F P, Exs c n ⟨callEnvC fd L fa, s, F, P⟩ (sh a) body f) : ∀ (x : τ) (y : σ), f (init x) = some (.next y) → CallS c (n + 2) (.ref C) x (Ins.mk (C := C) (res y)) := by
  intro x y ho
  refine ⟨?_⟩
  intro A s F vs hA hb hF hr
  obtain ⟨h, g, d, t, os⟩ := s
  have X := hb.frag
  refine wpAny_call (make_core (makes_of X hmk) (looks_findIn X hfind) (fun self => bind_fn X self (beq_iff_eq.mp hfn)) (.inl rfl) ?_)
  have hA1 : OkA (n + 1) (A.under (.builtin "type.__call__" ⟨.ref C :: vs, []⟩)) := hA.under
  generalize hAA : A.under (.builtin "type.__call__" ⟨.ref C :: vs, []⟩) = A1 at hA1 ⊢
  -- the new instance
  generalize hsB : (⟨(h.push emptyDict).push (instObj C h.objs.size), g, d, t, os⟩ : Shared) = sB
  have xA : Ext ⟨h, g, d, t, os⟩ F sB (F.put (h.objs.size + 1) (instObj C h.objs.size)) := by
    subst hsB
    have k1 : Ext ⟨h, g, d, t, os⟩ F ⟨h.push emptyDict, g, d, t, os⟩ F := Ext.push (s := ⟨h, g, d, t, os⟩) hF emptyDict t
    have k2 := Ext.alloc (s := ⟨h.push emptyDict, g, d, t, os⟩) k1.inn (o := instObj C h.objs.size) rfl t
    have : (h.push emptyDict).objs.size = h.objs.size + 1 := Heap.size_push ..
    rw [← this]
    exact k1.trans k2
  have hdx : sB.heap.get? h.objs.size = some emptyDict := by subst hsB; exact Heap.get?_push_of_some _ (Heap.get?_push_size _ rfl)
  have hFdx : F h.objs.size = none := F_size_none hF
  have hF1 : (F.put (h.objs.size + 1) (instObj C h.objs.size)) h.objs.size = none := by
    unfold FH.put
    rw [if_neg (Nat.ne_of_lt (Nat.lt_succ_self _))]; exact hFdx
  have hbB := hb.keeps (keeps_keep xA.keeps)
  have hrB : RepT.relT (F.put (h.objs.size + 1) (instObj C h.objs.size)) (.ref (h.objs.size + 1) :: vs) ((⟨.ref (h.objs.size + 1)⟩ : Slf), x) := ⟨_, vs, rfl, rfl, RepT.monoT xA.le hr⟩
  have hl := RepA.len hr
  refine codeAny_call_cells (fd := fd) (by have := hA1.dp; omega) (hbB.frag _ _ hK) rfl hbB.lim (codeRec_of hbB.frag hcd) hbody (hbind _ (by rw [List.length_cons, hl])) hclo (fun y hy => ?_) (fun s₁ I => ?_) hco hgen hk
  · have hm := (List.of_mem_zip (show (y.1, y.2) ∈ (self :: ns).zip _ from hy)).1
    have := List.all_eq_true.mp hpar _ hm
    unfold isSt at this
    split at this
    · rename_i e; exact .inl e
    · rename_i e; exact .inr ⟨e, cellsFrom_some _ _ _ (.inl e)⟩
    · cases this
  · have hi := hself (h.objs.size + 1) x
    have hset : ((sh (h.objs.size + 1) (init x)).set i (self, val (some (⟨.ref (h.objs.size + 1)⟩ : Slf))))[i]? = some (self, val (some (⟨.ref (h.objs.size + 1)⟩ : Slf))) := by
      rw [List.getElem?_set_self]; exact (List.getElem?_eq_some_iff.mp hi).1
    obtain ⟨ρ₀, μ, S⟩ := start_stt (Γ := (sh (h.objs.size + 1) (init x)).set i (self, val (some (⟨.ref (h.objs.size + 1)⟩ : Slf)))) hbB xA.inn hrB hn hk hg hbu I (fun p hp => by
        rcases set_mem hi (hnod _ x) hp with q | q
        · rw [q]; exact List.all_eq_true.mp (hkin (h.objs.size + 1) x) (self, inst C 0 0 (h.objs.size + 1) z0) (List.mem_of_getElem? hi)
        · exact List.all_eq_true.mp (hkin (h.objs.size + 1) x) p q.1) (by rw [map_set_names hi]; exact hnod _ x) (fun y k e q => by
        have := List.all_eq_true.mp hfree _ (mem_of_lookup e)
        rw [q] at this; cases this) (hΓ _ x)
    obtain ⟨v0, hv0, r0⟩ := S.ent _ (List.mem_of_getElem? hset) _ rfl
    have hv : ρ₀ self = some (.ref (h.objs.size + 1)) := by rw [show ρ₀ self = some v0 from hv0, show v0 = _ from r0]
    have S' := rebase S hb xA
    have hLs := S.sep.locN
    have S2 := S'.slot (j := 0) (e := inst C 0 0 (h.objs.size + 1) z0) (a := h.objs.size) (o := dictOf [] 0) (tk := s₁.toks) hset (by
        rw [List.map_set]
        exact slotFree_set (hfr (h.objs.size + 1) x)) (Heap.SameBut.refl _ _) (keeps_keep S.ste.ext.keeps _ _ hdx) (get_size_none h) hF1 rfl
      (by intro q; rw [← q] at hLs; rw [show (Ac.s0 _).heap.get? h.objs.size = _ from hdx] at hLs; cases hLs)
      (fun y cc hc q => by have z := S.sep.celN y cc hc; rw [← q] at z; rw [show (Ac.s0 _).heap.get? h.objs.size = _ from hdx] at z; cases z)
      (fun k b p _ hm q => by have z := S.sep.muN k b p hm; rw [q] at z; rw [show (Ac.s0 _).heap.get? h.objs.size = _ from hdx] at z; cases z)
      ⟨hv, h.objs.size, [], 0, FH.put_self .., putS_self _ _, Nat.le_refl _, ⟨rfl, fun _ _ => rfl, fun p hp => hz0 p hp _ _ _⟩⟩
    rw [List.set_set] at S2
    have e3 : (sh (h.objs.size + 1) (init x)).set i (self, inst C 0 0 (h.objs.size + 1) z0) = sh (h.objs.size + 1) (init x) := by
      have := List.set_getElem_self (as := sh (h.objs.size + 1) (init x)) (i := i) (List.getElem?_eq_some_iff.mp hi).1
      rw [(List.getElem?_eq_some_iff.mp hi).2] at this
      exact this
    rw [e3] at S2
    refine wpAny_mono (hEx _ _ ⟨h, g, d, t, os⟩ F (fun _ => none) (init x) _ ho _ s₁ _ (hA1.deeper _) ⟨_, _, S2⟩) (fun fl s' p => ?_) fun _ _ x => x.elim
    cases fl with
    | next =>
      obtain ⟨F', ρ', μ', R'⟩ := p
      refine ⟨rfl, ?_⟩
      obtain ⟨_, dx, es, k, f1, g1, _, q⟩ := R'.ent _ (List.mem_of_getElem? (hend _ y))
      have hg1 := R'.mu _ _ _ g1
      have hn1 := R'.sep.muN _ _ _ g1
      have x2 := R'.ste.ext.freeze hg1 hn1
      have le2 := FH.put_le R'.ste.ext.inn hg1
      exact ⟨_, x2, _, dx, es, k, rfl, le2 _ _ f1, FH.put_self .., q.mono le2⟩
    | _ => exact p.elim
end
end Mine
namespace Mine
open PySem PySem.W PyProof.Rows PySem.Calls
open PySem.Builtin PySem.Builtin.Re

/-! the method sub of a pattern -/
theorem slot_re_sub : Slot "re.Pattern" "sub" "re.Pattern.sub" :=
  .of (owner := "re.Pattern") (n := "sub") (by rw [typeLookup_type, builtinLookup_eq_fast]; kernel_rfl) (by decide +kernel) (by decide +kernel) (by decide +kernel)
    (by first | exact .inl (by decide +kernel) | exact .inr (by decide +kernel)) (by rw [isSubtype_type]; kernel_rfl)
theorem type_re_sub : typeOf (.builtin "re.Pattern.sub") = pure (.type "method_descriptor") := by show builtinType _ = _; rw [builtinType_eq_fast]; kernel_rfl
theorem entry_re_sub : entryFor table "re.Pattern.sub" = some Builtin.«re.Pattern.sub» := entryFor_of_tree (by kernel_rfl)
theorem entry_re_loop : entryFor table "re.Pattern.sub.loop" = some Builtin.«re.Pattern.sub.loop» := entryFor_of_tree (by kernel_rfl)
theorem plainAttrs_re : PlainAttrs "re.Pattern" :=
  ⟨⟨"object.__getattribute__", by rw [typeLookup_type, builtinLookup_eq_fast]; kernel_rfl, by decide +kernel⟩, by rw [typeLookup_type, builtinLookup_eq_fast]; kernel_rfl⟩
theorem args_re_sub (a b d : Value) : argsOk "re.Pattern.sub" ⟨[a, b, d], []⟩ := by
  unfold argsOk; kernel_rfl
theorem str_call : typeLookup (.type "str") "__call__" = pure none := by rw [typeLookup_type, builtinLookup_eq_fast]; kernel_rfl
theorem named_re (a b : Value) : reNamed "re.Pattern.sub" "sub" ["repl", "string", "count"] 2 [a, b] [] = pure [some a, some b, none] := by kernel_rfl

/-- the machine, driven in turns -/
def driveP : Nat → Sre.M → Option Sre.M
  | 0, _ => none
  | k + 1, m =>
    let m := m.runFor 4
    if m.outcome.isSome then some m else driveP k m
def nextP (code text : Array Nat) (start : Nat) (must : Bool) : Option (Option (Nat × Nat)) :=
  match driveP 10000 (Sre.forSearch code text 0 start text.size must) with
  | none => none
  | some m => match m.outcome with
    | some .matched => some (some (m.start, m.handed))
    | some .failed => some none
    | _ => none

section
variable {M : Model} {A : Around} {E : Value → Shared → Prop} {s : Shared}
theorem drive_wp {Q : Sre.M → Shared → Prop} : ∀ (k : Nat) (turns : Nat) (m m' : Sre.M), k ≤ turns → driveP k m = some m' → Q m' s → wpAny M A (reDrive turns m) Q E s
  | 0, _, _, _, _, h, _ => by cases h
  | k + 1, 0, _, _, hk, _, _ => absurd hk (by omega)
  | k + 1, turns + 1, m, m', hk, h, q => by
    unfold driveP at h
    unfold reDrive
    dsimp only at h ⊢
    show wpAny M A (if (m.runFor 4).outcome.isSome = true then pure (m.runFor 4) else _) Q E s
    split at h
    · rename_i z; cases h; rw [if_pos z]; exact wpAny_pure q
    · rename_i z; rw [if_neg z]
      exact wpAny_bind (wpAny_rule (drive_wp k turns _ m' (by omega) h q))
theorem next_wp {pat str : Value} {code text : Array Nat} {kind start : Nat} {must : Bool} {r : Option (Nat × Nat)} {Q : Option Sre.M → Shared → Prop} (h : nextP code text start must = some r)
    (q : ∀ o : Option Sre.M, o.map (fun m => (m.start, m.handed)) = r → Q o s) : wpAny M A (reNextFound ⟨pat, str, code, text, kind, 0, 0, text.size⟩ start must) Q E s := by
  unfold nextP at h
  cases e : driveP 10000 (Sre.forSearch code text 0 start text.size must) with
  | none => rw [e] at h; cases h
  | some m =>
    rw [e] at h
    dsimp only at h
    show wpAny M A (reRunToEnd (Sre.forSearch code text 0 start text.size must)) Q E s
    unfold reRunToEnd
    refine wpAny_bind (drive_wp 10000 _ _ m (by decide) e ?_)
    have z : wpAny M A (forIn (List.range Sre.names.size) PUnit.unit fun i __s =>
      if m.seen.has i = true then do
        rule (Sre.names.getD i "")
        pure (ForInStep.yield PUnit.unit)
      else pure (ForInStep.yield PUnit.unit)) (fun _ s' => s' = s) E s := by
      refine wpAny_forIn_list (I := fun _ _ s' => s' = s) (Q := fun _ s' => s' = s) _ ?_ (fun _ _ x => x) _ _ rfl
      rintro i rest b s' rfl
      by_cases hc : m.seen.has i = true
      · rw [if_pos hc]; exact wpAny_bind (wpAny_rule (wpAny_pure rfl))
      · rw [if_neg hc]; exact wpAny_pure rfl
    refine wpAny_bind (wpAny_mono z (fun u s' hs => ?_) fun _ _ x => x)
    subst hs
    cases e2 : m.outcome with
    | none => rw [e2] at h; cases h
    | some oc =>
      rw [e2] at h
      cases oc with
      | matched => cases h; exact wpAny_pure (q (some m) rfl)
      | failed => cases h; exact wpAny_pure (q none rfl)
      | stuck w => cases h

end
end Mine
namespace Mine
open PySem PySem.W PyProof.Rows PySem.Calls
open PySem.Builtin PySem.Builtin.Re

section
variable {M : Model} {A : Around} {E : Value → Shared → Prop} {s : Shared}
/-- the pieces, glued -/
def subP (code : Array Nat) (text : Array Nat) (repl : Txt) : Nat → Nat → Nat → Bool → List Nat → Option (List Nat)
  | 0, _, _, _, _ => none
  | k + 1, done, start, must, acc => match nextP code text start must with
    | none => none
    | some none => some (acc ++ (text.extract done text.size).toList)
    | some (some (a, b)) => subP code text repl k b b (b == a) (acc ++ (text.extract done a).toList ++ repl.cs)
theorem target_wp {Q : ReTarget → Shared → Prop} {p ct : Addr} {x : Txt} {t : Tok} {pt fl : Value} {od : Option Addr} {osl : Array (Option Value)} {items : Array Value} {m : Nat} {oc : Value} {od2 : Option Addr} {osl2 : Array (Option Value)} {code : Array Nat}
    (h1 : s.heap.get? p = some ⟨oc, od, .fields #[pt, fl, .int 0 0, .none, .none, .ref ct, .int 0 0], osl⟩) (h2 : s.heap.get? ct = some ⟨.type "tuple", od2, .seq items m, osl2⟩) (hc : (items.map reRawOf).map (·.toNat) = code)
    (q : Q ⟨.ref p, .str x.str t, code, x.cs.toArray, 0, 0, 0, x.cs.toArray.size⟩ s) : wpAny M A (reWholeTarget (.ref p) (.str x.str t)) Q E s := by
  unfold reWholeTarget
  refine wpAny_bind (wpAny_fieldsOf h1 rfl ?_)
  show wpAny M A (reRawItems (.ref ct) >>= fun cc => pure ⟨.ref p, .str x.str t, cc.map (·.toNat), x.str.cps, 0, 0, 0, x.str.cps.size⟩) Q E s
  refine wpAny_bind (wpAny_bind (wpAny_seqItems h2 rfl (wpAny_pure (wpAny_pure ?_))))
  show Q ⟨_, _, (items.map reRawOf).map (·.toNat), _, _, _, _, _⟩ s
  rw [hc]
  exact q
theorem updateSeq_push {D : Addr} {vs : List Value} {m : Nat} {v : Value} {Q : Unit → Shared → Prop} (hD : s.heap.get? D = some (listObj vs m)) (hz : vs.length ≤ 2 ^ 21)
    (h : ∀ h', Heap.SameBut D s.heap h' → h'.get? D = some (listObj (vs ++ [v]) (m + 1)) → Q () { s with heap := h' }) : wpAny M A (updateSeq D (·.push v)) Q E s := by
  have e : Obj.mapSeq (·.push v) (listObj vs m) = listObj (vs ++ [v]) (m + 1) := by simp [Obj.mapSeq]
  refine wpAny_updateSeq hD rfl (h _ (Heap.SameBut.update ..) ?_) ?_ ?_
  · rw [Heap.get?_update_self _ hD (by rw [e]; rfl), e]
  · simp [sizeLine]; omega
  · simp [sizeLine]; omega
end

section
variable {c : Cx} {n : Nat} {A : Around} {s : Shared} {F : FH}
theorem flat_snoc (ys : List Txt) (y : Txt) : ((ys ++ [y]).map Txt.cs).flatten = (ys.map Txt.cs).flatten ++ y.cs := by simp
theorem ext_turn {s' : Shared} {D : Addr} {h' : Heap} {tk : Nat} (x : Ext s F s' F) (hn : s.heap.get? D = none) (hF : F D = none) (hs : Heap.SameBut D s'.heap h') : Ext s F { s' with heap := h', toks := tk } F :=
  x.turnAt hn hF fun b o hb e => hs.extBut b o hb e
theorem loop_wp {R : Result → Shared → Prop} {p ct D : Addr} {x repl : Txt} {t tr : Tok} {pt fl : Value} {od : Option Addr} {osl : Array (Option Value)} {items : Array Value} {mt : Nat} {oc : Value} {od2 : Option Addr} {osl2 : Array (Option Value)} {code : Array Nat} {r : List Nat}
    (h1 : s.heap.get? p = some ⟨oc, od, .fields #[pt, fl, .int 0 0, .none, .none, .ref ct, .int 0 0], osl⟩) (h2 : s.heap.get? ct = some ⟨.type "tuple", od2, .seq items mt, osl2⟩) (hc : (items.map reRawOf).map (·.toNat) = code)
    (hD : s.heap.get? D = none) (hFD : F D = none) (hx : x.cs.length ≤ 2 ^ 20) (hr : r.length ≤ 2 ^ 20) (hR : ∀ t' s'', Ext s F s'' F → R (.ok (.ret (.str (⟨r⟩ : Txt).str t'))) s'') :
    ∀ (k : Nat) (cnt : Int) (done start : Nat) (must : Bool) (acc : List Nat) (vs : List Value) (ys : List Txt) (m : Nat) (s' : Shared), Ext s F s' F → s'.heap.get? D = some (listObj vs m) → All2 (Rep.rel F) vs ys → (ys.map Txt.cs).flatten = acc →
      ys.length + 2 * k ≤ 2 ^ 20 → subP code x.cs.toArray repl k done start must acc = some r →
      codeAny (model c.prog c.w) A (.builtin "re.Pattern.sub.loop" ⟨[.ref p, .str x.str t, .str repl.str tr, .int 0 0, .int 0 0, .int cnt 0, .int done 0, .int start 0, .bool must, .ref D, .bool false], []⟩) R s' := by
  intro k
  induction k with
  | zero => intro _ _ _ _ _ _ _ _ _ _ _ _ _ _ h; cases h
  | succ k ih =>
    intro cnt done start must acc vs ys m s' e hg hv ha hl h
    unfold subP at h
    refine codeAny_builtin entry_re_loop ?_
    have kp := keeps_keep e.keeps
    generalize A.under _ = A'
    show wpAny _ A' (reWholeTarget (.ref p) (.str x.str t) >>= fun tg => reNextFound tg start must >>= fun o => match o with
      | some m => _
      | none => _) _ _ s'
    refine wpAny_bind (target_wp (kp _ _ h1) (kp _ _ h2) hc ?_)
    have hlen := hv.length
    cases hn : nextP code x.cs.toArray start must with
    | none => rw [hn] at h; cases h
    | some o =>
      refine wpAny_bind (next_wp hn fun om hom => ?_)
      rw [hn] at h
      have slice : ∀ (b en : Nat) (s₁ : Shared) (Q : Value → Shared → Prop) (E : Value → Shared → Prop), Q (.str (⟨(x.cs.toArray.extract b en).toList⟩ : Txt).str s₁.toks) { s₁ with toks := s₁.toks + 1 } → wpAny (model c.prog c.w) A' (reSlice x.cs.toArray 0 b en) Q E s₁ := fun b en s₁ Q E q => by
        show wpAny _ _ (mkStr ⟨x.cs.toArray.extract b en⟩) _ _ _
        refine wpAny_mkStr ?_ ?_
        · have : (⟨x.cs.toArray.extract b en⟩ : Str) = (⟨(x.cs.toArray.extract b en).toList⟩ : Txt).str := by show _ = (⟨_⟩ : Str); simp
          rw [this]; exact q
        · show (x.cs.toArray.extract b en).size ≤ 2 ^ 24
          simp; omega
      -- a piece of the text, if there is one
      have piece : ∀ (b en : Nat) (s₁ : Shared) (vs₁ : List Value) (ys₁ : List Txt) (m₁ : Nat) (J : Unit → Sem PySem.Fin) (Q : PySem.Fin → Shared → Prop) (E : Value → Shared → Prop), Ext s F s₁ F → s₁.heap.get? D = some (listObj vs₁ m₁) → All2 (Rep.rel F) vs₁ ys₁ → ys₁.length ≤ 2 ^ 20 →
          (∀ s₂ vs₂ ys₂ m₂, Ext s F s₂ F → s₂.heap.get? D = some (listObj vs₂ m₂) → All2 (Rep.rel F) vs₂ ys₂ → ys₂.length ≤ ys₁.length + 1 → (ys₂.map Txt.cs).flatten = (ys₁.map Txt.cs).flatten ++ (x.cs.toArray.extract b en).toList → wpAny (model c.prog c.w) A' (J ()) Q E s₂) →
          wpAny (model c.prog c.w) A' (if b < en then (reSlice x.cs.toArray 0 b en >>= fun v => updateSeq D (·.push v) >>= J) else J ()) Q E s₁ := by
        intro b en s₁ vs₁ ys₁ m₁ J Q E e1 g1 v1 l1 hJ
        by_cases hb : b < en
        · rw [if_pos hb]
          refine wpAny_bind (slice b en s₁ _ _ (wpAny_bind (updateSeq_push (s := { s₁ with toks := s₁.toks + 1 }) g1 (by rw [v1.length]; omega) fun h' hs' hg' => ?_)))
          exact hJ _ _ (ys₁ ++ [⟨(x.cs.toArray.extract b en).toList⟩]) _ (ext_turn (tk := s₁.toks + 1) (e1.trans (Ext.tok e1.inn (s₁.toks + 1))) hD hFD hs') hg' (v1.append ⟨⟨_, rfl⟩, trivial⟩) (by simp) (flat_snoc _ _)
        · rw [if_neg hb]
          refine hJ s₁ vs₁ ys₁ m₁ e1 g1 v1 (Nat.le_succ _) ?_
          have : x.cs.toArray.extract b en = #[] := by simp; omega
          rw [this]; simp
      cases o with
      | none =>
        cases om with
        | some mm => cases hom
        | none =>
          cases h
          refine piece done x.cs.toArray.size s' vs ys m _ _ _ e hg hv (by omega) fun s₂ vs₂ ys₂ m₂ e2 g2 v2 l2 f2 => ?_
          rw [ha] at f2
          refine wpAny_bind (slice 0 0 s₂ _ _ ?_)
          refine wpAny_bind (wpAny_seqItems g2 rfl ?_)
          have e3 := e2.trans (Ext.tok e2.inn (s₂.toks + 1))
          show wpAny _ A' (if vs₂.toArray.isEmpty = true then _ else _) _ _ _
          by_cases hemp : vs₂.toArray.isEmpty = true
          · rw [if_pos hemp]
            have hv0 : vs₂ = [] := by simpa using hemp
            subst hv0
            have hy0 : ys₂ = [] := by cases ys₂ with | nil => rfl | cons a b => exact v2.elim
            subst hy0
            refine wpAny_pure ?_
            have : (⟨(x.cs.toArray.extract 0 0).toList⟩ : Txt) = ⟨acc ++ (x.cs.toArray.extract done x.cs.toArray.size).toList⟩ := by
              rw [← f2]; simp
            rw [this]
            exact hR _ _ e3
          · rw [if_neg hemp]
            refine wpAny_bind ?_
            show wpAny _ A' (call (.builtin "str.join") [.str (⟨(x.cs.toArray.extract 0 0).toList⟩ : Txt).str s₂.toks, .ref D]) _ _ _
            have he0 : (⟨(x.cs.toArray.extract 0 0).toList⟩ : Txt) = ⟨[]⟩ := by simp
            rw [he0]
            have hL : s₂.heap.IsList D vs₂.toArray := ⟨_, g2, rfl, _, rfl⟩
            refine join_list (s := { s₂ with toks := s₂.toks + 1 }) hL (ys := ys₂.map Txt.str) (by simpa using strs_of v2) ?_ fun t' tk => ?_
            · have e1 : (ys₂.map Txt.str).map (fun x => x.length) = ys₂.map fun x => x.cs.length := by
                rw [List.map_map]; exact List.map_congr_left fun x _ => Txt.len_str x
              have e2 : (ys₂.map fun x => x.cs.length).sum = ((ys₂.map Txt.cs).flatten).length := by
                rw [List.length_flatten, List.map_map]; rfl
              rw [e1, Txt.len_str, e2, f2]
              show _ + _ * 0 ≤ _
              omega
            · rw [txt_join, f2]
              exact wpAny_pure (hR _ _ (e3.trans (Ext.tok e3.inn tk)))
      | some ab =>
        obtain ⟨a, b⟩ := ab
        cases om with
        | none => cases hom
        | some mm =>
          have hm1 : mm.start = a := by injection hom with q; exact (Prod.mk.inj q).1
          have hm2 : mm.handed = b := by injection hom with q; exact (Prod.mk.inj q).2
          subst hm1 hm2
          dsimp only at h
          refine piece done mm.start s' vs ys m _ _ _ e hg hv (by omega) fun s₂ vs₂ ys₂ m₂ e2 g2 v2 l2 f2 => ?_
          rw [ha] at f2
          show wpAny _ A' (updateSeq D (·.push (.str repl.str tr)) >>= fun _ => again (.builtin "re.Pattern.sub.loop" ⟨[.ref p, .str x.str t, .str repl.str tr, .int 0 0, .int 0 0, .int (cnt + 1) 0, .int mm.handed 0, .int mm.handed 0, .bool (mm.handed == mm.start), .ref D, .bool false], []⟩)) _ _ s₂
          refine wpAny_bind (updateSeq_push g2 (by rw [v2.length]; omega) fun h' hs' hg' => wpAny_pure ⟨Code.quiet_builtin _ (by decide +kernel), ?_⟩)
          refine ih (cnt + 1) mm.handed mm.handed (mm.handed == mm.start) _ _ (ys₂ ++ [repl]) _ _ (ext_turn (tk := s₂.toks) e2 hD hFD hs') hg' (v2.append ⟨⟨tr, rfl⟩, trivial⟩) (flat_snoc _ _) (by simp; omega) ?_
          rw [f2]; exact h
end
end Mine
namespace Mine
open PySem PySem.W PyProof.Rows PySem.Calls
open PySem.Builtin PySem.Builtin.Re

def subT (code : Array Nat) (repl x : Txt) : Option Txt := if Nat.ble x.cs.length (2 ^ 20) && !(repl.cs.contains 92) then (subP code x.cs.toArray repl 4000 0 0 false []).bind fun r => if Nat.ble r.length (2 ^ 20) then some ⟨r⟩ else none else none
section
variable {c : Cx} {n : Nat} {env : Env} {Γ : Sh}
theorem s_sub {p ct : Addr} {pt fl : Value} {od : Option Addr} {osl : Array (Option Value)} {items : Array Value} {mt : Nat} {od2 : Option Addr} {osl2 : Array (Option Value)} {code : Array Nat}
    (h1 : c.K.lookup p = some ⟨.type "re.Pattern", od, .fields #[pt, fl, .int 0 0, .none, .none, .ref ct, .int 0 0], osl⟩) (h2 : c.K.lookup ct = some ⟨.type "tuple", od2, .seq items mt, osl2⟩) (hc : (items.map reRawOf).map (·.toNat) = code)
    {repl x r : Txt} (h : subT code repl x = some r) {A : Around} {s : Shared} {F : FH} {t tr : Tok} (hb : Bs c s.heap) (hF : FIn F s.heap) :
    wpAny (model c.prog c.w) A (call (.builtin "re.Pattern.sub") [.ref p, .str repl.str tr, .str x.str t]) (Pst s F r) NoE s := by
  unfold subT at h
  split at h
  · rename_i z
    rw [Bool.and_eq_true] at z
    have hx := Nat.le_of_ble_eq_true z.1
    obtain ⟨rr, hrr, h⟩ := bind_some h
    split at h
    · rename_i z2; cases h
      have hrl := Nat.le_of_ble_eq_true z2
      have g1 := hb.frag _ _ h1
      have g2 := hb.frag _ _ h2
      refine wpAny_call (codeAny_call_builtin slot_re_sub.plain entry_re_sub (slot_re_sub.check _ _ _ _ _ _ _ _ ⟨_, g1, rfl⟩ (args_re_sub _ _ _) ?_))
      show wpAny _ _ (reNamed "re.Pattern.sub" "sub" ["repl", "string", "count"] 2 [.str repl.str tr, .str x.str t] [] >>= _) _ _ s
      rw [named_re]
      refine wpAny_bind (wpAny_pure ?_)
      dsimp only
      refine wpAny_bind (wpAny_pure ?_)
      refine wpAny_bind (wpAny_specialOf (typeIs_str _ _ _) str_call ?_)
      dsimp only [Option.isSome]
      rw [if_neg (by decide)]
      refine wpAny_bind (show wpAny _ _ (pure (some repl.str)) _ _ s from wpAny_pure ?_)
      dsimp only
      refine wpAny_bind (wpAny_pure ?_)
      have hcont : (!repl.str.cps.contains 92) = true := by
        have := z.2
        show (!repl.cs.toArray.contains 92) = true
        simpa using this
      rw [if_neg (by decide), if_pos hcont]
      show wpAny _ _ (holding [.str repl.str tr] (reWholeTarget (.ref p) (.str x.str t)) >>= fun _ => newList [] >>= fun l => again (.builtin "re.Pattern.sub.loop" ⟨[.ref p, .str x.str t, .str repl.str tr, .int 0 0, .int 0 0, .int 0 0, .int 0 0, .int 0 0, .bool false, l, .bool false], []⟩)) _ _ s
      refine wpAny_bind (wpAny_holding (target_wp g1 g2 hc (wpAny_bind (newList_wp ?_ (by decide)))))
      refine wpAny_pure ⟨Code.quiet_builtin _ (by decide +kernel), ?_⟩
      have e := Ext.push hF (listObj [] 0) s.toks
      exact loop_wp g1 g2 hc (get_size_none _) (F_size_none hF) hx hrl (fun t' s'' e' => ⟨F, e', t', rfl⟩) 4000 0 0 0 false [] [] [] 0 _ e (Heap.get?_push_size _ rfl) trivial rfl (by decide) hrr
    · cases h
  · cases h
theorem ev_sub {p ct : Addr} {y : Str} {py apos pos : Pos} {e1 e2 : Expr} {pt fl : Value} {osl : Array (Option Value)} {items : Array Value} {mt : Nat} {od2 : Option Addr} {osl2 : Array (Option Value)} (code : Array Nat) {or ox : Option Txt}
    (hk : env.kindOf y = some .globalImplicit) (hg : GlobV c y (.ref p))
    (h1 : c.K.lookup p = some ⟨.type "re.Pattern", none, .fields #[pt, fl, .int 0 0, .none, .none, .ref ct, .int 0 0], osl⟩) (h2 : c.K.lookup ct = some ⟨.type "tuple", od2, .seq items mt, osl2⟩) (hc : (items.map reRawOf).map (·.toNat) = code)
    (hr : Ev c n env Γ e1 or) (hx : Ev c n env Γ e2 ox) (he1 : starEach [e1, e2] env = (false, eval e1 env) :: starEach [e2] env := by exact starEach_cons rfl) (he2 : starEach [e2] env = (false, eval e2 env) :: starEach [] env := by exact starEach_cons rfl) (hform : MethForm env (.Name y py) "sub" apos pos [e1, e2] := by exact ⟨_, rfl⟩) (hd : (y == ("__debug__" : Str)) = false := by decide) :
    Ev c n env Γ (.Call (.Attribute (.Name y py) "sub" apos) [e1, e2] [] pos) (bind2 or ox fun a b => subT code a b) := by
  obtain ⟨pl, hform⟩ := hform
  refine ⟨?_⟩
  intro r hres A s F hA R
  obtain ⟨a, ha, hres⟩ := bind_some hres
  obtain ⟨b, hb, hres⟩ := bind_some hres
  refine MethodCall_ (load_glob R hk hg ?_ hd) hform
  have g1 := R.bs.frag _ _ h1
  refine getMethod_builtin ⟨_, g1, rfl⟩ plainAttrs_re slot_re_sub type_re_sub (fun a' e => by cases e; exact ⟨_, g1, rfl⟩) ?_
  refine callWith_gen kp_builtin (evL_cons hr (evL_cons hx evL_nil he2) he1) (by rw [ha, hb]; rfl) hA R fun vs s₂ F₂ x₂ R₂ r₂ => ?_
  obtain ⟨v1, w1, rfl, ⟨t1, rfl⟩, v2, w2, rfl, ⟨t2, rfl⟩, rfl⟩ := r₂
  exact wpAny_mono (s_sub h1 h2 hc hres R₂.bs R₂.inn) (fun _ _ p => Pst.trans x₂ p) fun _ _ x => x
end
end Mine
namespace Mine
open PySem PySem.W PyProof.Rows PySem.Calls

section
variable {c : Cx} {n : Nat} {env : Env} {Γ : Sh} {α β γ τ : Type} [Rep α] [Rep β] [Rep γ] [RepT τ]
theorem CallS.le {m : Nat} {f : Value} {x : τ} {r : γ} (h : CallS c m f x r) (hm : m ≤ n) : CallS c n f x r := ⟨fun A s F vs hA hb hF hv => h.run A s F vs (hA.le hm) hb hF hv⟩
theorem hit_list : ∀ (k xs : List α), some k = some xs → ItS c n k xs := fun k _ h => by cases h; exact its_list k
theorem hit_TL : ∀ (k : TL α) (xs : List α), some k.items = some xs → ItS c n k xs := fun k _ h => by cases h; exact its_TL k
theorem hit_tup3 : ∀ (k : Tup (α × α × α × Unit)) (xs : List α), some [k.it.1, k.it.2.1, k.it.2.2.1] = some xs → ItS c n k xs := fun k _ h => by cases h; exact its_tup3 k
theorem hit_txt : ∀ (k : Txt) (xs : List Txt), some (signs k) = some xs → ItS c n k xs := fun k _ h => by cases h; exact its_txt k
theorem hit_rng : ∀ (k : Rng) (xs : List Int), rngI k = some xs → ItS c n k xs := fun _ _ h => its_rng h
theorem fld0 : ∀ (F : FH) (vs : List Value) (x : α × τ), RepT.relT F vs x → ∃ v, vs[0]? = some v ∧ Rep.rel F v x.1 := fun _ _ _ ⟨v, _, e, r, _⟩ => ⟨v, by rw [e]; rfl, r⟩
theorem fld1 : ∀ (F : FH) (vs : List Value) (x : α × β × τ), RepT.relT F vs x → ∃ v, vs[1]? = some v ∧ Rep.rel F v x.2.1 := fun _ _ _ ⟨_, _, e, _, v, _, e2, r, _⟩ => ⟨v, by rw [e, e2]; rfl, r⟩
theorem fld2 : ∀ (F : FH) (vs : List Value) (x : α × β × γ × τ), RepT.relT F vs x → ∃ v, vs[2]? = some v ∧ Rep.rel F v x.2.2.1 := fun _ _ _ ⟨_, _, e, _, _, _, e2, _, v, _, e3, r, _⟩ => ⟨v, by rw [e, e2, e3]; rfl, r⟩
theorem tupLen {τ : Type} [RepA τ] (h : RepA.arity τ ≤ 100) : ∀ (F : FH) (vs : List Value) (x : τ), RepT.relT F vs x → vs.length ≤ sizeLine := fun _ _ _ r => by rw [RepA.len r]; exact Nat.le_trans h (by decide)
theorem ev_globstr {x : Str} {t : Tok} {pos : Pos} (v : Txt) (hk : env.kindOf x = some .globalImplicit) (hg : GlobV c x (.str v.str t)) (hd : (x == ("__debug__" : Str)) = false := by decide) : Ev c n env Γ (.Name x pos) (some v) := by
  refine ⟨?_⟩
  intro a ha A s F hA R
  cases ha
  exact load_glob R hk hg (pst_same R.inn ⟨t, rfl⟩) hd
def lenTL {α : Type} (x : TL α) : Option Int := if Nat.ble x.items.length (2 ^ 24) then some (x.items.length : Int) else none
theorem s_lenTL {x : TL α × Unit} {r : Int} (h : lenTL x.1 = some r) : CallS c n (.builtin "len") x r := by
  refine ⟨?_⟩
  rintro A s F vs hA hB hF ⟨v, ws, rfl, ⟨a, us, m, rfl, e, k⟩, rfl⟩
  unfold lenTL at h
  split at h
  · rename_i q; cases h
    have q := Nat.le_of_ble_eq_true q
    have hT : IsTup s.heap a us.toArray := ⟨_, hF _ _ e, rfl, m, rfl⟩
    refine len_tuple hT (by simp [k.length]; omega) ?_
    exact pst_tok hF _ ⟨s.toks + 1, by simp [k.length]⟩
  · cases h
end
end Mine
namespace Mine
open PySem PySem.W PyProof.Rows PySem.Calls

theorem well_ints {Pm : Params} {h : Heap} {F : FH} : ∀ {ns : List Int} {vs : List Value}, WellAll Pm h vs (ofPys (ns.map PyData.int)) → All2 (Rep.rel F) vs ns
  | [], _, w => by
    rw [List.map_nil, show ofPys [] = [] from by simp [ofPys]] at w
    cases w; exact trivial
  | n :: ns, _, w => by
    rw [List.map_cons, show ofPys (PyData.int n :: ns.map PyData.int) = .int n :: ofPys (ns.map PyData.int) from by simp [ofPys, ofPy]] at w
    cases w with
    | cons a b =>
      cases a with
      | int _ t => exact ⟨⟨t, rfl⟩, well_ints b⟩
theorem len1 {vs : List Value} (h : vs.length = 1) : ∃ a, vs = [a] := by
  match vs, h with
  | [a], _ => exact ⟨a, rfl⟩
theorem len2 {vs : List Value} (h : vs.length = 2) : ∃ a b, vs = [a, b] := by
  cases vs with
  | nil => cases h
  | cons a vs => obtain ⟨b, rfl⟩ := len1 (Nat.succ.inj h); exact ⟨a, b, rfl⟩
theorem len3 {vs : List Value} (h : vs.length = 3) : ∃ a b c, vs = [a, b, c] := by
  cases vs with
  | nil => cases h
  | cons a vs => obtain ⟨b, c, rfl⟩ := len2 (Nat.succ.inj h); exact ⟨a, b, c, rfl⟩
theorem okCaller : OkA 40 callerA := ⟨rfl, by decide +kernel, by decide +kernel⟩
theorem top_core {prog : Program} {w : World} {K : Frag} {mg mb : Str → Option Value} {s₁ : Shared} {l fa : Addr} {ns : List Int} {c : ClaimW} {cl : Str → Option Addr} {mean : ExcName → Option Value} {args : List WData} {Pm : Params}
    (hc : CallS ⟨prog, w, K, mg, mb⟩ 40 (.ref fa) ((ns, ()) : List Int × Unit) true) (X : K.In s₁.heap) (g : s₁.heap.Ns mainGlobals mg) (b : s₁.heap.Ns builtinsNs mb) (bi : ∀ x : Str, x ≠ "__name__" → mb x = bootBuiltins x) (lim : s₁.heap.NoLimit)
    (hw : Well Pm s₁.heap (.ref l) (ofPy (.list (ns.map PyData.int)))) (hg : s₁.gens = #[]) (hr : ∀ cls, c.raises args cls = false) (hp : c.post args (.bool true) args = true) :
    wpAny (model prog w) callerA (call (.ref fa) [.ref l]) (fun v s' => GoodWG c cl mean args s₁ (.ok (.ret v)) s') (fun e s' => GoodWG c cl mean args s₁ (.error e) s') s₁ := by
  rw [show ofPy (.list (ns.map PyData.int)) = .list (ofPys (ns.map PyData.int)) from by simp [ofPy]] at hw
  cases hw with
  | @list _ vs _ e wa =>
    have hF : FIn (fun a => if a = l then some (listObj vs 0) else none) s₁.heap := fun a o q => by
      have q' : (if a = l then some (listObj vs 0) else none) = some o := q
      split at q'
      · rename_i h; cases q'; rw [h]; exact e
      · cases q'
    refine wpAny_mono (hc callerA s₁ _ [.ref l] okCaller ⟨X, g, b, bi, lim⟩ hF ⟨.ref l, [], rfl, ⟨l, vs, 0, rfl, if_pos rfl, well_ints wa⟩, rfl⟩) (fun v s' ⟨F', x, r⟩ => ?_) fun _ _ x => x.elim
    have hv : v = .bool true := r
    subst hv
    have hk := keeps_keep x.keeps
    obtain ⟨h', tk, rfl, _⟩ := x.keeps
    exact ⟨.inl ⟨_, _, [], rfl, hr, ReadsW.bool true, hp, fun _ => ⟨List.nodup_nil, fun _ hm => (nomatch hm)⟩⟩, .of_keep hk, rfl, .of_eq hg⟩
end Mine
namespace Mine
open PySem PySem.W PyProof.Rows PySem.Calls
open PySem.Sre (M Seen Frame Outcome)

noncomputable def iterS : Nat → M → M
  | 0, m => m
  | k + 1, m => iterS k m.step
theorem iterS_add (a b : Nat) (m : M) : iterS (a + b) m = iterS b (iterS a m) := by
  induction a generalizing m with
  | zero => rw [Nat.zero_add]; rfl
  | succ a ih => rw [show a + 1 + b = (a + b) + 1 by omega]; exact ih _
theorem step_done {m : M} (h : m.outcome.isSome = true) : m.step = m := by
  unfold M.step; rw [if_pos h]
theorem iterS_done {m : M} (h : m.outcome.isSome = true) : ∀ k, iterS k m = m
  | 0 => rfl
  | k + 1 => by show iterS k m.step = m; rw [step_done h]; exact iterS_done h k
theorem runFor_iter : ∀ (k : Nat) (m : M), m.runFor k = iterS k m
  | 0, _ => rfl
  | k + 1, m => by
    unfold M.runFor
    split
    · rename_i h; exact (iterS_done h _).symm
    · exact runFor_iter k m.step
theorem driveP_iter {k n : Nat} {m m' : M} (h : iterS n m = m') (ho : m'.outcome.isSome = true) (hn : n ≤ 4 * k) (hk : 0 < k) : driveP k m = some m' := by
  induction k generalizing m n with
  | zero => cases hk
  | succ k ih =>
    unfold driveP
    dsimp only
    rw [runFor_iter]
    split
    · rename_i z
      congr 1
      rcases Nat.le_total n 4 with h4 | h4
      · have : iterS 4 m = iterS (4 - n) (iterS n m) := by rw [← iterS_add]; congr 1; omega
        rw [this, h, iterS_done ho]
      · have : iterS n m = iterS (n - 4) (iterS 4 m) := by rw [← iterS_add]; congr 1; omega
        rw [← h, this, iterS_done z]
    · rename_i z
      have hn4 : 4 < n := by
        apply Nat.lt_of_not_le
        intro h4
        have : iterS 4 m = iterS (4 - n) (iterS n m) := by rw [← iterS_add]; congr 1; omega
        rw [this, h, iterS_done ho] at z
        exact z ho
      refine ih (n := n - 4) ?_ (by omega) (by omega)
      rw [← iterS_add, ← h]; congr 1; omega

noncomputable def code1 : Array Nat := #[14, 4, 0, 1, 1, 6, 1, 16, 46, 1]
noncomputable def code2 : Array Nat := #[14, 9, 4, 1, 2, 16, 10, 16, 13, 0, 7, 7, 16, 13, 16, 10, 15, 18, 5, 16, 10, 15, 13, 11, 16, 13, 5, 5, 0, 16, 10, 1, 15, 2, 0, 1]

/-! the first pattern: a dot at the head of a row -/
noncomputable def bol (text : Array Nat) (s : Nat) : Bool := s == 0 || text.getD (s - 1) 0 == 10
abbrev Sn := Sre.Seen
noncomputable def a1 (text : Array Nat) (s pc pos : Nat) (must first : Bool) (ans : Option Bool) (seen : Sn) : M :=
  { code := code1, text := text, lim := text.size, start := s, lastStart := text.size, mustAdvance := must, pc := pc, pos := pos, handed := s, outermost := first, marks := #[], frames := [{ wait := .nextStart, pc := 5, pos := s, outermost := first }], weight := 1, answer := ans, seen := seen }
theorem a1_at (text : Array Nat) (s : Nat) (must first : Bool) (seen : Sn) : ∃ seen', (a1 text s 5 s must first none seen).step = if bol text s = true then a1 text s 7 s must first none seen' else a1 text s 5 s must first (some false) seen' := ⟨_, rfl⟩
theorem a1_lit (text : Array Nat) (s : Nat) (must first : Bool) (seen : Sn) : (a1 text s 7 s must first none seen).step = if s ≥ text.size then a1 text s 7 s must first (some false) (seen.add 16) else
    match (text.getD s 0 == 46) with | true => a1 text s 9 (s + 1) must first none (seen.add 16) | false => a1 text s 7 s must first (some false) (seen.add 16) := by kernel_rfl
theorem a1_lit0 (text : Array Nat) (s : Nat) (must first : Bool) (seen : Sn) (h : s ≥ text.size) : ∃ seen', (a1 text s 7 s must first none seen).step = a1 text s 7 s must first (some false) seen' := ⟨_, by rw [a1_lit, if_pos h]⟩
theorem a1_lit1 (text : Array Nat) (s : Nat) (must first : Bool) (seen : Sn) (h : ¬ s ≥ text.size) : ∃ seen', (a1 text s 7 s must first none seen).step = if (text.getD s 0 == 46) = true then a1 text s 9 (s + 1) must first none seen' else a1 text s 7 s must first (some false) seen' := by
  refine ⟨seen.add 16, ?_⟩
  rw [a1_lit, if_neg h]
  generalize (text.getD s 0 == 46) = b
  cases b <;> rfl
theorem a1_suc0 (text : Array Nat) (s : Nat) (must first : Bool) (seen : Sn) : M.step (a1 text s 9 (s + 1) must first none seen) = if (first && ((false && (s + 1 != text.size)) || (must && (s + 1 == s)))) = true then a1 text s 9 (s + 1) must first (some false) (seen.add 1) else
    { (a1 text s 9 (s + 1) must first (some true) (seen.add 1)) with handed := s + 1 } := rfl
theorem a1_suc (text : Array Nat) (s : Nat) (must first : Bool) (seen : Sn) : ∃ m', iterS 3 (a1 text s 9 (s + 1) must first none seen) = m' ∧ m'.outcome = some .matched ∧ m'.start = s ∧ m'.handed = s + 1 := by
  refine ⟨_, rfl, ?_⟩
  have h : (s + 1 == s) = false := by simp
  have e := a1_suc0 text s must first seen
  rw [h, if_neg (by simp)] at e
  show (iterS 2 (M.step (a1 text s 9 (s + 1) must first none seen))).outcome = _ ∧ (iterS 2 (M.step (a1 text s 9 (s + 1) must first none seen))).start = _ ∧ (iterS 2 (M.step (a1 text s 9 (s + 1) must first none seen))).handed = _
  rw [e]
  exact ⟨rfl, rfl, rfl⟩
theorem a1_res (text : Array Nat) (s pc pos : Nat) (must first : Bool) (seen : Sn) : M.step (a1 text s pc pos must first (some false) seen) = if s < text.size then a1 text (s + 1) 5 (s + 1) false false none seen else { (a1 text s 5 s must first (some false) seen) with frames := [], weight := 0 } := rfl
theorem a1_fail (text : Array Nat) (s pc pos : Nat) (must first : Bool) (seen : Sn) (h : ¬ s < text.size) : ∃ m', iterS 2 (a1 text s pc pos must first (some false) seen) = m' ∧ m'.outcome = some .failed := by
  have e := a1_res text s pc pos must first seen
  rw [if_neg h] at e
  refine ⟨_, rfl, ?_⟩
  show (M.step (M.step (a1 text s pc pos must first (some false) seen))).outcome = _
  rw [e]; rfl
theorem a1_next (text : Array Nat) (s pc pos : Nat) (must first : Bool) (seen : Sn) (h : s < text.size) : M.step (a1 text s pc pos must first (some false) seen) = a1 text (s + 1) 5 (s + 1) false false none seen := by rw [a1_res, if_pos h]
/-- the next match from a place on -/
noncomputable def nx1 (text : Array Nat) : Nat → Nat → Option (Nat × Nat)
  | 0, _ => none
  | k + 1, s => if bol text s && text.getD s 0 == 46 && decide (s < text.size) then some (s, s + 1) else nx1 text k (s + 1)
theorem run1 (text : Array Nat) : ∀ (n s : Nat) (must first : Bool) (seen : Sn), text.size - s < n → s ≤ text.size → ∃ k m', k ≤ 5 * n ∧ iterS k (a1 text s 5 s must first none seen) = m' ∧
    ((nx1 text n s = none ∧ m'.outcome = some .failed) ∨ (∃ a b, nx1 text n s = some (a, b) ∧ m'.outcome = some .matched ∧ m'.start = a ∧ m'.handed = b))
  | 0, _, _, _, _, h, _ => absurd h (Nat.not_lt_zero _)
  | n + 1, s, must, first, seen, hn, hs => by
    have fail : ∀ (k pc pos : Nat) (seen' : Sn), k ≤ 2 → iterS k (a1 text s 5 s must first none seen) = a1 text s pc pos must first (some false) seen' → (bol text s && text.getD s 0 == 46 && decide (s < text.size)) = false → ∃ k m', k ≤ 5 * (n + 1) ∧ iterS k (a1 text s 5 s must first none seen) = m' ∧
        ((nx1 text (n + 1) s = none ∧ m'.outcome = some .failed) ∨ (∃ a b, nx1 text (n + 1) s = some (a, b) ∧ m'.outcome = some .matched ∧ m'.start = a ∧ m'.handed = b)) := by
      intro k pc pos seen' hk e hc
      have en : nx1 text (n + 1) s = nx1 text n (s + 1) := by rw [nx1, hc]; rfl
      by_cases h : s < text.size
      · obtain ⟨k2, m', hk2, e2, r⟩ := run1 text n (s + 1) false false seen' (by omega) h
        refine ⟨k + (1 + k2), m', by omega, ?_, by rw [en]; exact r⟩
        rw [iterS_add, e, iterS_add]
        show iterS k2 (M.step (a1 text s pc pos must first (some false) seen')) = _
        rw [a1_next text s pc pos must first seen' h]; exact e2
      · obtain ⟨m', e2, ho⟩ := a1_fail text s pc pos must first seen' h
        refine ⟨k + 2, m', by omega, by rw [iterS_add, e, e2], .inl ⟨?_, ho⟩⟩
        have none' : ∀ k s, ¬ s < text.size → nx1 text k s = none := by
          intro k
          induction k with
          | zero => intros; rfl
          | succ k ih =>
            intro s hs
            rw [nx1, show decide (s < text.size) = false by simp; omega, Bool.and_false]
            exact ih (s + 1) (by omega)
        exact none' _ _ h
    obtain ⟨s1, e1⟩ := a1_at text s must first seen
    by_cases hb : bol text s = true
    · rw [if_pos hb] at e1
      by_cases hz : s ≥ text.size
      · obtain ⟨s2, e2⟩ := a1_lit0 text s must first s1 hz
        refine fail 2 7 s s2 (by omega) ?_ (by simp; omega)
        show M.step (M.step (a1 text s 5 s must first none seen)) = _
        rw [e1, e2]
      · obtain ⟨s2, e2⟩ := a1_lit1 text s must first s1 hz
        by_cases hc : (text.getD s 0 == 46) = true
        · rw [if_pos hc] at e2
          obtain ⟨m', e3, h1, h2, h3⟩ := a1_suc text s must first s2
          refine ⟨5, m', by omega, ?_, .inr ⟨s, s + 1, ?_, h1, h2, h3⟩⟩
          · show iterS 3 (M.step (M.step (a1 text s 5 s must first none seen))) = _
            rw [e1, e2, e3]
          · rw [nx1, hb, hc, show decide (s < text.size) = true by simp; omega]; rfl
        · rw [if_neg hc] at e2
          refine fail 2 7 s s2 (by omega) ?_ (by rw [show (text.getD s 0 == 46) = false by simpa using hc]; simp)
          show M.step (M.step (a1 text s 5 s must first none seen)) = _
          rw [e1, e2]
    · rw [if_neg hb] at e1
      refine fail 1 5 s s1 (by omega) e1 (by rw [show bol text s = false by simpa using hb]; rfl)
theorem nextP1 (text : Array Nat) (start : Nat) (must : Bool) (hs : start ≤ text.size) (hz : text.size ≤ 5000) : nextP code1 text start must = some (nx1 text (text.size - start + 1) start) := by
  unfold nextP
  by_cases h : text.size - start < 1
  · have e : Sre.forSearch code1 text 0 start text.size must = M.say { code := code1, text := text, lim := text.size, start := start, pc := 5, pos := start, handed := start, marks := #[], mustAdvance := must, seen := ({} : Sn).add 14 } false := by
      unfold Sre.forSearch
      have hd : Sre.header code1 = (1, 5) := rfl
      dsimp only
      rw [hd, if_pos (by simp; omega)]
      rfl
    rw [e]
    have hst : start = text.size := by omega
    subst hst
    have e0 : nx1 text (text.size - text.size + 1) text.size = none := by
      rw [Nat.sub_self, nx1, show decide (text.size < text.size) = false by simp, Bool.and_false]; rfl
    rw [e0]; rfl
  · have e : ∃ seen, Sre.forSearch code1 text 0 start text.size must = a1 text start 5 start must true none seen := by
      unfold Sre.forSearch
      have hd : Sre.header code1 = (1, 5) := rfl
      dsimp only
      rw [hd, if_neg (by simp; omega)]
      exact ⟨_, rfl⟩
    obtain ⟨seen, e⟩ := e
    rw [e]
    obtain ⟨k, m', hk, e2, r⟩ := run1 text (text.size - start + 1) start must true seen (by omega) hs
    have ho : m'.outcome.isSome = true := by
      rcases r with ⟨_, r⟩ | ⟨_, _, _, r, _⟩ <;> rw [r] <;> rfl
    rw [driveP_iter e2 ho (by omega) (by decide)]
    rcases r with ⟨r1, r2⟩ | ⟨a, b, r1, r2, r3, r4⟩
    · dsimp only; rw [r2, r1]
    · dsimp only; rw [r2, r1, r3, r4]
end Mine
namespace Mine
open PySem PySem.W PyProof.Rows PySem.Calls
open PySem.Sre (M Outcome)

/-! the second pattern: the end of a row -/
noncomputable def kp0 : Sre.Kept := { lastmark := -1, lastindex := -1, whole := false, marks := #[] }
noncomputable def nsF (s : Nat) (first : Bool) : Sre.Frame := { wait := .nextStart, pc := 10, pos := s, outermost := first }
noncomputable def nbF (pc s : Nat) (first : Bool) : Sre.Frame := { wait := .nextBranch, pc := pc, pos := s, outermost := first, kept := kp0 }
noncomputable def lnF (s : Nat) (first : Bool) : Sre.Frame := { wait := .lookNot, pc := 26, pos := s, outermost := first, kept := kp0 }
noncomputable def a2 (text : Array Nat) (s pc pos hd : Nat) (must first out : Bool) (ans : Option Bool) (fr : List Sre.Frame) (wt : Nat) (seen : Sn) : M :=
  { code := code2, text := text, lim := text.size, start := s, lastStart := text.size, mustAdvance := must, pc := pc, pos := pos, handed := hd, outermost := out, marks := #[], frames := fr, weight := wt, answer := ans, seen := seen }
section
variable (text : Array Nat) (s pos hd : Nat) (must first out : Bool) (fr : List Sre.Frame) (wt : Nat) (seen : Sn)
theorem l2_12 : (a2 text s 12 pos hd must first out none fr wt seen).step = if pos ≥ text.size then a2 text s 12 pos hd must first out (some false) fr wt (seen.add 16) else
    match (text.getD pos 0 == 13) with | true => a2 text s 14 (pos + 1) hd must first out none fr wt (seen.add 16) | false => a2 text s 12 pos hd must first out (some false) fr wt (seen.add 16) := by kernel_rfl
theorem l2_12t (h : pos < text.size) (hc : text.getD pos 0 = 13) : (a2 text s 12 pos hd must first out none fr wt seen).step = a2 text s 14 (pos + 1) hd must first out none fr wt (seen.add 16) := by
  rw [l2_12, if_neg (by omega), hc]; rfl
theorem l2_12f (h : ¬ (pos < text.size ∧ text.getD pos 0 = 13)) : (a2 text s 12 pos hd must first out none fr wt seen).step = a2 text s 12 pos hd must first out (some false) fr wt (seen.add 16) := by
  rw [l2_12]
  split
  · rfl
  · have : (text.getD pos 0 == 13) = false := by rw [beq_eq_false_iff_ne]; intro q; exact h ⟨by omega, q⟩
    rw [this]
theorem l2_14 : (a2 text s 14 pos hd must first out none fr wt seen).step = if pos ≥ text.size then a2 text s 14 pos hd must first out (some false) fr wt (seen.add 16) else
    match (text.getD pos 0 == 10) with | true => a2 text s 16 (pos + 1) hd must first out none fr wt (seen.add 16) | false => a2 text s 14 pos hd must first out (some false) fr wt (seen.add 16) := by kernel_rfl
theorem l2_14t (h : pos < text.size) (hc : text.getD pos 0 = 10) : (a2 text s 14 pos hd must first out none fr wt seen).step = a2 text s 16 (pos + 1) hd must first out none fr wt (seen.add 16) := by
  rw [l2_14, if_neg (by omega), hc]; rfl
theorem l2_14f (h : ¬ (pos < text.size ∧ text.getD pos 0 = 10)) : (a2 text s 14 pos hd must first out none fr wt seen).step = a2 text s 14 pos hd must first out (some false) fr wt (seen.add 16) := by
  rw [l2_14]
  split
  · rfl
  · have : (text.getD pos 0 == 10) = false := by rw [beq_eq_false_iff_ne]; intro q; exact h ⟨by omega, q⟩
    rw [this]
theorem l2_19 : (a2 text s 19 pos hd must first out none fr wt seen).step = if pos ≥ text.size then a2 text s 19 pos hd must first out (some false) fr wt (seen.add 16) else
    match (text.getD pos 0 == 10) with | true => a2 text s 21 (pos + 1) hd must first out none fr wt (seen.add 16) | false => a2 text s 19 pos hd must first out (some false) fr wt (seen.add 16) := by kernel_rfl
theorem l2_19t (h : pos < text.size) (hc : text.getD pos 0 = 10) : (a2 text s 19 pos hd must first out none fr wt seen).step = a2 text s 21 (pos + 1) hd must first out none fr wt (seen.add 16) := by
  rw [l2_19, if_neg (by omega), hc]; rfl
theorem l2_19f (h : ¬ (pos < text.size ∧ text.getD pos 0 = 10)) : (a2 text s 19 pos hd must first out none fr wt seen).step = a2 text s 19 pos hd must first out (some false) fr wt (seen.add 16) := by
  rw [l2_19]
  split
  · rfl
  · have : (text.getD pos 0 == 10) = false := by rw [beq_eq_false_iff_ne]; intro q; exact h ⟨by omega, q⟩
    rw [this]
theorem l2_24 : (a2 text s 24 pos hd must first out none fr wt seen).step = if pos ≥ text.size then a2 text s 24 pos hd must first out (some false) fr wt (seen.add 16) else
    match (text.getD pos 0 == 13) with | true => a2 text s 26 (pos + 1) hd must first out none fr wt (seen.add 16) | false => a2 text s 24 pos hd must first out (some false) fr wt (seen.add 16) := by kernel_rfl
theorem l2_24t (h : pos < text.size) (hc : text.getD pos 0 = 13) : (a2 text s 24 pos hd must first out none fr wt seen).step = a2 text s 26 (pos + 1) hd must first out none fr wt (seen.add 16) := by
  rw [l2_24, if_neg (by omega), hc]; rfl
theorem l2_24f (h : ¬ (pos < text.size ∧ text.getD pos 0 = 13)) : (a2 text s 24 pos hd must first out none fr wt seen).step = a2 text s 24 pos hd must first out (some false) fr wt (seen.add 16) := by
  rw [l2_24]
  split
  · rfl
  · have : (text.getD pos 0 == 13) = false := by rw [beq_eq_false_iff_ne]; intro q; exact h ⟨by omega, q⟩
    rw [this]
theorem l2_29 : (a2 text s 29 pos hd must first out none fr wt seen).step = if pos ≥ text.size then a2 text s 29 pos hd must first out (some false) fr wt (seen.add 16) else
    match (text.getD pos 0 == 10) with | true => a2 text s 31 (pos + 1) hd must first out none fr wt (seen.add 16) | false => a2 text s 29 pos hd must first out (some false) fr wt (seen.add 16) := by kernel_rfl
theorem l2_29t (h : pos < text.size) (hc : text.getD pos 0 = 10) : (a2 text s 29 pos hd must first out none fr wt seen).step = a2 text s 31 (pos + 1) hd must first out none fr wt (seen.add 16) := by
  rw [l2_29, if_neg (by omega), hc]; rfl
theorem l2_29f (h : ¬ (pos < text.size ∧ text.getD pos 0 = 10)) : (a2 text s 29 pos hd must first out none fr wt seen).step = a2 text s 29 pos hd must first out (some false) fr wt (seen.add 16) := by
  rw [l2_29]
  split
  · rfl
  · have : (text.getD pos 0 == 10) = false := by rw [beq_eq_false_iff_ne]; intro q; exact h ⟨by omega, q⟩
    rw [this]
theorem j2_16 : (a2 text s 16 pos hd must first out none fr wt seen).step = a2 text s 35 pos hd must first out none fr wt (seen.add 15) := by kernel_rfl
theorem j2_21 : (a2 text s 21 pos hd must first out none fr wt seen).step = a2 text s 35 pos hd must first out none fr wt (seen.add 15) := by kernel_rfl
theorem j2_32 : (a2 text s 32 pos hd must first out none fr wt seen).step = a2 text s 35 pos hd must first out none fr wt (seen.add 15) := by kernel_rfl
theorem b2_10 : (a2 text s 10 s s must first first none [nsF s first] 1 seen).step = a2 text s 12 s s must first first none [nbF 11 s first, nsF s first] 2 (seen.add 7) := by kernel_rfl
theorem b2_11 (pc : Nat) : (a2 text s pc pos hd must first out (some false) [nbF 11 s first, nsF s first] 2 seen).step = a2 text s 19 s s must first first none [nbF 18 s first, nsF s first] 2 seen := by kernel_rfl
theorem b2_18 (pc : Nat) : (a2 text s pc pos hd must first out (some false) [nbF 18 s first, nsF s first] 2 seen).step = a2 text s 24 s s must first first none [nbF 23 s first, nsF s first] 2 seen := by kernel_rfl
theorem n2_26 : (a2 text s 26 (s + 1) hd must first first none [nbF 23 s first, nsF s first] 2 seen).step = a2 text s 29 (s + 1) (s + 1) must first false none [lnF (s + 1) first, nbF 23 s first, nsF s first] 3 (seen.add 5) := by kernel_rfl
theorem n2_29 (pc : Nat) : (a2 text s pc pos hd must first out (some false) [lnF (s + 1) first, nbF 23 s first, nsF s first] 3 seen).step = a2 text s 32 (s + 1) hd must first first none [nbF 23 s first, nsF s first] 2 seen := by kernel_rfl
theorem s2_35 : (a2 text s 35 pos hd must first out none fr wt seen).step = if (out && ((false && (pos != text.size)) || (must && (pos == s)))) = true then a2 text s 35 pos hd must first out (some false) fr wt (seen.add 1) else a2 text s 35 pos pos must first out (some true) fr wt (seen.add 1) := by kernel_rfl
theorem e2 (pc b : Nat) : ∃ m', iterS 3 (a2 text s pc pos hd must first out (some true) [nbF b s first, nsF s first] 2 seen) = m' ∧ m'.outcome = some .matched ∧ m'.start = s ∧ m'.handed = hd := ⟨_, rfl, by kernel_rfl, by kernel_rfl, by kernel_rfl⟩
theorem t2_35 (b : Nat) (hp : s < pos) : ∃ m', iterS 4 (a2 text s 35 pos hd must first out none [nbF b s first, nsF s first] 2 seen) = m' ∧ m'.outcome = some .matched ∧ m'.start = s ∧ m'.handed = pos := by
  have h : (pos == s) = false := by simp; omega
  have e := s2_35 text s pos hd must first out [nbF b s first, nsF s first] 2 seen
  rw [h, if_neg (by simp)] at e
  show ∃ m', iterS 3 (M.step (a2 text s 35 pos hd must first out none [nbF b s first, nsF s first] 2 seen)) = m' ∧ _
  rw [e]
  exact e2 text s pos pos must first out _ 35 b
/-- the end of a row at this place -/
noncomputable def eol (text : Array Nat) (s : Nat) : Nat := if text.getD s 0 = 13 ∧ s + 1 < text.size ∧ text.getD (s + 1) 0 = 10 then s + 2 else s + 1
theorem at2 (h : s < text.size) (hc : text.getD s 0 = 10 ∨ text.getD s 0 = 13) : ∃ k m', k ≤ 16 ∧ iterS k (a2 text s 10 s s must first first none [nsF s first] 1 seen) = m' ∧ m'.outcome = some .matched ∧ m'.start = s ∧ m'.handed = eol text s := by
  have go : ∀ {k : Nat} {m x : M}, m.step = x → (∃ j m', j ≤ k ∧ iterS j x = m' ∧ m'.outcome = some .matched ∧ m'.start = s ∧ m'.handed = eol text s) → ∃ j m', j ≤ k + 1 ∧ iterS j m = m' ∧ m'.outcome = some .matched ∧ m'.start = s ∧ m'.handed = eol text s := by
    rintro k m x e ⟨j, m', hj, e', r⟩
    exact ⟨j + 1, m', by omega, by show iterS j m.step = m'; rw [e, e'], r⟩
  have fin : ∀ {b p h' : Nat} {sn : Sn}, s < p → p = eol text s → ∃ j m', j ≤ 4 ∧ iterS j (a2 text s 35 p h' must first first none [nbF b s first, nsF s first] 2 sn) = m' ∧ m'.outcome = some .matched ∧ m'.start = s ∧ m'.handed = eol text s := by
    intro b p h' sn hp he
    obtain ⟨m', e, r1, r2, r3⟩ := t2_35 text s p h' must first first sn b hp
    exact ⟨4, m', Nat.le_refl _, e, r1, r2, r3.trans he⟩
  have wk : ∀ {k : Nat} {m : M}, k ≤ 16 → (∃ j m', j ≤ k ∧ iterS j m = m' ∧ m'.outcome = some .matched ∧ m'.start = s ∧ m'.handed = eol text s) → ∃ j m', j ≤ 16 ∧ iterS j m = m' ∧ m'.outcome = some .matched ∧ m'.start = s ∧ m'.handed = eol text s := fun hk ⟨j, m', hj, r⟩ => ⟨j, m', Nat.le_trans hj hk, r⟩
  rcases hc with hc | hc
  · -- a feed
    have he : s + 1 = eol text s := by unfold eol; rw [if_neg (by rw [hc]; rintro ⟨q, _⟩; cases q)]
    refine wk ?_ (go (b2_10 text s must first seen) (go (l2_12f text s s s must first first _ _ _ (by rw [hc]; rintro ⟨_, q⟩; cases q)) (go (b2_11 text s s s must first first _ 12) (go (l2_19t text s s s must first first _ _ _ h hc) (go (j2_21 ..) (fin (Nat.lt_succ_self s) he))))))
    decide
  · by_cases hn : s + 1 < text.size ∧ text.getD (s + 1) 0 = 10
    · have he : s + 2 = eol text s := by unfold eol; rw [if_pos ⟨hc, hn⟩]
      refine wk ?_ (go (b2_10 text s must first seen) (go (l2_12t text s s s must first first _ _ _ h hc) (go (l2_14t text s (s + 1) s must first first _ _ _ hn.1 hn.2) (go (j2_16 ..) (fin (by omega) he)))))
      decide
    · have he : s + 1 = eol text s := by unfold eol; rw [if_neg (by rintro ⟨_, q⟩; exact hn q)]
      refine wk ?_ (go (b2_10 text s must first seen) (go (l2_12t text s s s must first first _ _ _ h hc) (go (l2_14f text s (s + 1) s must first first _ _ _ hn) (go (b2_11 text s (s + 1) s must first first _ 14) (go (l2_19f text s s s must first first _ _ _ (by rw [hc]; rintro ⟨_, q⟩; cases q)) (go (b2_18 text s s s must first first _ 19) (go (l2_24t text s s s must first first _ _ _ h hc) (go (n2_26 text s s must first _) (go (l2_29f text s (s + 1) (s + 1) must first false _ _ _ hn) (go (n2_29 text s (s + 1) (s + 1) must first false _ 29) (go (j2_32 ..) (fin (Nat.lt_succ_self s) he))))))))))))
      decide
end
noncomputable def isE (text : Array Nat) (s : Nat) : Bool := text.getD s 0 == 10 || text.getD s 0 == 13
noncomputable def nx2 (text : Array Nat) : Nat → Nat → Option (Nat × Nat)
  | 0, _ => none
  | k + 1, s => if s < text.size then (if isE text s then some (s, eol text s) else nx2 text k (s + 1)) else none
theorem inSet2 (c : Nat) (seen : Sn) : ∃ seen', Sre.inSet code2 c code2.size 5 true seen = .ok (c == 10 || c == 13, seen') := by
  have e : Sre.inSet code2 c code2.size 5 true seen = if (c == 10) = true then .ok (true, seen.add 16) else if (c == 13) = true then .ok (true, (seen.add 16).add 16) else .ok (false, ((seen.add 16).add 16).add 0) := by kernel_rfl
  rw [e]
  cases c == 10 <;> cases c == 13 <;> exact ⟨_, rfl⟩
theorem admitted2 (m : M) (text : Array Nat) (hm : m.code = code2) (ht : m.text = text) (hl : m.lim = text.size) : ∀ (k s : Nat) (seen : Sn), ∃ seen', M.admitted m k s seen = .ok ((nx2 text k s).map (·.1), seen')
  | 0, s, seen => ⟨seen, rfl⟩
  | k + 1, s, seen => by
    unfold M.admitted nx2
    rw [hl]
    by_cases h : s < text.size
    · rw [if_neg (by omega), if_pos h, hm, ht]
      obtain ⟨seen', e⟩ := inSet2 (text.getD s 0) seen
      rw [e]
      show ∃ seen'', (match (Except.ok (text.getD s 0 == 10 || text.getD s 0 == 13, seen') : Except String (Bool × Sn)) with | .ok (true, seen) => (Except.ok (some s, seen) : Except String (Option Nat × Sn)) | .ok (false, seen) => M.admitted m k (s + 1) seen | .error why => Except.error why) = _
      unfold isE
      cases text.getD s 0 == 10 || text.getD s 0 == 13
      · exact admitted2 m text hm ht hl k (s + 1) seen'
      · exact ⟨_, rfl⟩
    · rw [if_pos (by omega), if_neg h]; exact ⟨_, rfl⟩
theorem nx2_spec (text : Array Nat) : ∀ (k s a b : Nat), nx2 text k s = some (a, b) → a < text.size ∧ isE text a = true ∧ b = eol text a
  | 0, _, _, _, h => by cases h
  | k + 1, s, a, b, h => by
    unfold nx2 at h
    split at h
    · split at h
      · cases h; exact ⟨by assumption, by assumption, rfl⟩
      · exact nx2_spec text k (s + 1) a b h
    · cases h
theorem nextP2 (text : Array Nat) (start : Nat) (must : Bool) (hs : start ≤ text.size) : nextP code2 text start must = some (nx2 text (text.size + 1 - start) start) := by
  unfold nextP
  have hd : Sre.header code2 = (1, 10) := rfl
  by_cases h : text.size - start < 1
  · have hst : start = text.size := by omega
    subst hst
    have e : Sre.forSearch code2 text 0 text.size text.size must = M.say { code := code2, text := text, lim := text.size, start := text.size, pc := 10, pos := text.size, handed := text.size, marks := #[], mustAdvance := must, seen := ({} : Sn).add 14 } false := by
      unfold Sre.forSearch
      dsimp only
      rw [hd, if_pos (by simp)]
      rfl
    have e0 : nx2 text (text.size + 1 - text.size) text.size = none := by
      rw [show text.size + 1 - text.size = 1 by omega, nx2, if_neg (Nat.lt_irrefl _)]
    rw [e, e0]; rfl
  · let m0 : M := { code := code2, text := text, lim := text.size, start := start, lastStart := text.size, pc := 10, pos := start, handed := start, marks := #[], mustAdvance := must, seen := ({} : Sn).add 14 }
    have e : Sre.forSearch code2 text 0 start text.size must = M.attemptFrom m0 start true := by
      unfold Sre.forSearch
      dsimp only
      rw [hd, if_neg (by simp; omega)]
      rfl
    rw [e]
    obtain ⟨seen', ea⟩ := admitted2 m0 text rfl rfl rfl (text.size + 1 - start) start m0.seen
    have e3 : M.attemptFrom m0 start true = match M.admitted m0 (m0.lim + 1 - start) start m0.seen with
      | .ok (some s, seen) => M.attemptAt { m0 with mustAdvance := false, seen := seen } s true
      | .ok (none, seen) => M.say { m0 with seen := seen } false
      | .error why => m0.stick why := rfl
    rw [e3, show m0.lim = text.size from rfl, ea]
    cases hx : nx2 text (text.size + 1 - start) start with
    | none => rfl
    | some ab =>
      obtain ⟨a, b⟩ := ab
      obtain ⟨h1, h2, h3⟩ := nx2_spec _ _ _ _ _ hx
      have h2' : text.getD a 0 = 10 ∨ text.getD a 0 = 13 := by unfold isE at h2; rw [Bool.or_eq_true, beq_iff_eq, beq_iff_eq] at h2; exact h2
      obtain ⟨k, m', hk, e4, r1, r2, r3⟩ := at2 text a false true seen' h1 h2'
      have e5 : M.attemptAt { m0 with mustAdvance := false, seen := seen' } a true = a2 text a 10 a a false true true none [nsF a true] 1 seen' := rfl
      show (match driveP 10000 (M.attemptAt { m0 with mustAdvance := false, seen := seen' } a true) with | none => none | some m => _) = _
      rw [e5, driveP_iter e4 (by rw [r1]; rfl) (by omega) (by decide)]
      dsimp only
      rw [r1, r2, r3, h3]
end Mine
namespace Mine
open PySem PySem.W PyProof.Rows PySem.Calls

noncomputable def fixE : List Nat → List Nat
  | [] => []
  | 13 :: 10 :: r => 13 :: 10 :: fixE r
  | c :: r => if c == 13 || c == 10 then 13 :: 10 :: fixE r else c :: fixE r
noncomputable def dotE (b : Bool) : List Nat → List Nat
  | [] => []
  | c :: r => if b && c == 46 then 46 :: 46 :: dotE false r else c :: dotE (c == 10) r
theorem fixE_crlf (r : List Nat) : fixE (13 :: 10 :: r) = 13 :: 10 :: fixE r := rfl
theorem fixE_one (c : Nat) (r : List Nat) (h : ¬ (c = 13 ∧ ∃ q, r = 10 :: q)) : fixE (c :: r) = if c == 13 || c == 10 then 13 :: 10 :: fixE r else c :: fixE r := by
  rw [fixE]
  intro q e1 e2
  exact h ⟨e1, q, e2⟩
theorem getD_drop {cs : List Nat} {s : Nat} (h : s < cs.length) : cs.drop s = cs.toArray.getD s 0 :: cs.drop (s + 1) := by
  rw [List.drop_eq_getElem_cons h]
  congr 1
  simp [Array.getD, h]
theorem fix_scan (cs : List Nat) : ∀ (n s : Nat), cs.length - s < n → s ≤ cs.length → match nx2 cs.toArray n s with
    | none => fixE (cs.drop s) = cs.drop s
    | some (a, b) => s ≤ a ∧ a < b ∧ b ≤ cs.length ∧ fixE (cs.drop s) = (cs.drop s).take (a - s) ++ ([13, 10] ++ fixE (cs.drop b))
  | 0, _, h, _ => absurd h (Nat.not_lt_zero _)
  | n + 1, s, hn, hs => by
    unfold nx2
    have hsz : cs.toArray.size = cs.length := by simp
    by_cases h : s < cs.length
    · rw [if_pos (by rw [hsz]; exact h)]
      have e := getD_drop h
      cases hi : isE cs.toArray s with
      | true =>
        rw [if_pos rfl]
        unfold isE at hi
        generalize hc : cs.toArray.getD s 0 = c at hi e
        unfold eol
        by_cases h2 : cs.toArray.getD s 0 = 13 ∧ s + 1 < cs.toArray.size ∧ cs.toArray.getD (s + 1) 0 = 10
        · rw [if_pos h2]
          have h3 : s + 1 < cs.length := by rw [← hsz]; exact h2.2.1
          have e2 := getD_drop h3
          rw [h2.2.2] at e2
          rw [hc] at h2
          refine ⟨Nat.le_refl _, by omega, by omega, ?_⟩
          rw [Nat.sub_self, List.take_zero, List.nil_append, e, e2, h2.1]
          rfl
        · rw [if_neg h2]
          refine ⟨Nat.le_refl _, by omega, by omega, ?_⟩
          rw [Nat.sub_self, List.take_zero, List.nil_append, e, fixE_one, if_pos (by rw [Bool.or_comm]; exact hi)]
          · rfl
          · rintro ⟨r1, q, r2⟩
            refine h2 ⟨hc.trans r1, ?_⟩
            have h3 : s + 1 < cs.length := by
              apply Nat.lt_of_not_le; intro z
              rw [List.drop_eq_nil_of_le z] at r2; cases r2
            refine ⟨by rw [hsz]; exact h3, ?_⟩
            rw [getD_drop h3] at r2
            exact (List.cons.inj r2).1
      | false =>
        rw [if_neg (by decide)]
        unfold isE at hi
        have ef : fixE (cs.drop s) = cs.toArray.getD s 0 :: fixE (cs.drop (s + 1)) := by
          rw [e, fixE_one, if_neg (by rw [Bool.or_comm, hi]; decide)]
          rintro ⟨r1, _⟩; rw [r1] at hi; cases hi
        have ih := fix_scan cs n (s + 1) (by omega) h
        cases hx : nx2 cs.toArray n (s + 1) with
        | none => rw [hx] at ih; show fixE _ = _; rw [ef, ih, ← e]
        | some ab =>
          obtain ⟨a, b⟩ := ab
          rw [hx] at ih
          obtain ⟨i1, i2, i3, i4⟩ := ih
          refine ⟨by omega, i2, i3, ?_⟩
          rw [ef, i4, show a - s = (a - (s + 1)) + 1 by omega]
          conv => rhs; rw [e]
          rfl
    · rw [if_neg (by rw [hsz]; exact h)]
      show fixE _ = _
      rw [List.drop_eq_nil_of_le (by omega)]; rfl
theorem dot_scan (cs : List Nat) : ∀ (n s : Nat), cs.length - s < n → s ≤ cs.length → match nx1 cs.toArray n s with
    | none => dotE (bol cs.toArray s) (cs.drop s) = cs.drop s
    | some (a, b) => s ≤ a ∧ b = a + 1 ∧ b ≤ cs.length ∧ bol cs.toArray b = false ∧ dotE (bol cs.toArray s) (cs.drop s) = (cs.drop s).take (a - s) ++ ([46, 46] ++ dotE false (cs.drop b))
  | 0, _, h, _ => absurd h (Nat.not_lt_zero _)
  | n + 1, s, hn, hs => by
    unfold nx1
    have hsz : cs.toArray.size = cs.length := by simp
    by_cases h : s < cs.length
    · have e := getD_drop h
      have hd : decide (s < cs.toArray.size) = true := by rw [hsz]; exact decide_eq_true h
      rw [hd, Bool.and_true]
      have eb : bol cs.toArray (s + 1) = (cs.toArray.getD s 0 == 10) := by
        unfold bol; rw [Nat.add_sub_cancel]; simp
      cases hi : bol cs.toArray s && cs.toArray.getD s 0 == 46 with
      | true =>
        rw [if_pos rfl]
        have hi' := hi
        rw [Bool.and_eq_true, beq_iff_eq] at hi'
        refine ⟨Nat.le_refl _, rfl, h, by rw [eb, hi'.2]; rfl, ?_⟩
        rw [Nat.sub_self, List.take_zero, List.nil_append]
        conv => lhs; rw [e]
        rw [dotE, hi, if_pos rfl]; rfl
      | false =>
        rw [if_neg (by decide)]
        have ef : dotE (bol cs.toArray s) (cs.drop s) = cs.toArray.getD s 0 :: dotE (bol cs.toArray (s + 1)) (cs.drop (s + 1)) := by
          conv => lhs; rw [e]
          rw [dotE, hi, if_neg (by decide), eb]
        have ih := dot_scan cs n (s + 1) (by omega) h
        cases hx : nx1 cs.toArray n (s + 1) with
        | none => rw [hx] at ih; show dotE _ _ = _; rw [ef, ih, ← e]
        | some ab =>
          obtain ⟨a, b⟩ := ab
          rw [hx] at ih
          obtain ⟨i1, i2, i3, i4, i5⟩ := ih
          refine ⟨by omega, i2, i3, i4, ?_⟩
          rw [ef, i5, show a - s = (a - (s + 1)) + 1 by omega]
          conv => rhs; rw [e]
          rfl
    · have hd : decide (s < cs.toArray.size) = false := by rw [hsz]; exact decide_eq_false h
      rw [hd, Bool.and_false, if_neg (by decide)]
      have none' : ∀ k s, ¬ s < cs.toArray.size → nx1 cs.toArray k s = none := by
        intro k
        induction k with
        | zero => intros; rfl
        | succ k ih =>
          intro s hs
          rw [nx1, show decide (s < cs.toArray.size) = false by simp; simp at hs; omega, Bool.and_false]
          exact ih (s + 1) (by omega)
      rw [none' n (s + 1) (by rw [hsz]; omega)]
      show dotE _ _ = _
      rw [List.drop_eq_nil_of_le (by omega)]; rfl
theorem extract_list (cs : List Nat) (a b : Nat) (h : b ≤ cs.length) : (cs.toArray.extract a b).toList = (cs.drop a).take (b - a) := by
  simp [List.extract_toArray, List.extract_eq_take_drop]
theorem sub2 (cs : List Nat) (hz : cs.length ≤ 3000) : ∀ (k d : Nat) (must : Bool) (acc : List Nat), cs.length - d < k → d ≤ cs.length → subP code2 cs.toArray ⟨[13, 10]⟩ k d d must acc = some (acc ++ fixE (cs.drop d))
  | 0, _, _, _, h, _ => absurd h (Nat.not_lt_zero _)
  | k + 1, d, must, acc, hk, hd => by
    unfold subP
    rw [nextP2 _ _ _ (by simpa using hd)]
    have ih := fix_scan cs (cs.toArray.size + 1 - d) d (by simp; omega) hd
    cases hx : nx2 cs.toArray (cs.toArray.size + 1 - d) d with
    | none =>
      rw [hx] at ih
      have ih' : fixE (cs.drop d) = cs.drop d := ih
      show some _ = some _
      rw [ih', extract_list _ _ _ (by simp)]
      congr 2
      rw [List.take_of_length_le]
      simp
    | some ab =>
      obtain ⟨a, b⟩ := ab
      rw [hx] at ih
      obtain ⟨i1, i2, i3, i4⟩ := ih
      show subP code2 cs.toArray ⟨[13, 10]⟩ k b b (b == a) (acc ++ (cs.toArray.extract d a).toList ++ [13, 10]) = _
      rw [sub2 cs hz k b _ _ (by omega) i3, i4, extract_list _ _ _ (by omega)]
      congr 1
      simp only [List.append_assoc]
theorem sub1 (cs : List Nat) (hz : cs.length ≤ 3000) : ∀ (k d : Nat) (must : Bool) (acc : List Nat), cs.length - d < k → d ≤ cs.length → subP code1 cs.toArray ⟨[46, 46]⟩ k d d must acc = some (acc ++ dotE (bol cs.toArray d) (cs.drop d))
  | 0, _, _, _, h, _ => absurd h (Nat.not_lt_zero _)
  | k + 1, d, must, acc, hk, hd => by
    unfold subP
    rw [nextP1 _ _ _ (by simpa using hd) (by simp; omega)]
    have ih := dot_scan cs (cs.toArray.size - d + 1) d (by simp) hd
    cases hx : nx1 cs.toArray (cs.toArray.size - d + 1) d with
    | none =>
      rw [hx] at ih
      have ih' : dotE (bol cs.toArray d) (cs.drop d) = cs.drop d := ih
      show some _ = some _
      rw [ih', extract_list _ _ _ (by simp)]
      congr 2
      rw [List.take_of_length_le]
      simp
    | some ab =>
      obtain ⟨a, b⟩ := ab
      rw [hx] at ih
      obtain ⟨i1, i2, i3, i4, i5⟩ := ih
      show subP code1 cs.toArray ⟨[46, 46]⟩ k b b (b == a) (acc ++ (cs.toArray.extract d a).toList ++ [46, 46]) = _
      rw [sub1 cs hz k b _ _ (by omega) i3, i5, i4, extract_list _ _ _ (by omega)]
      congr 1
      simp only [List.append_assoc]
theorem fixE_len : ∀ cs : List Nat, (fixE cs).length ≤ 2 * cs.length
  | [] => Nat.le_refl _
  | c :: r => by
    by_cases h : c = 13 ∧ ∃ q, r = 10 :: q
    · obtain ⟨rfl, q, rfl⟩ := h
      have := fixE_len q
      rw [fixE_crlf]; simp; omega
    · rw [fixE_one c r h]
      have := fixE_len r
      split <;> simp <;> omega
termination_by cs => cs.length
decreasing_by all_goals simp_all <;> omega
theorem dotE_len : ∀ (cs : List Nat) (b : Bool), (dotE b cs).length ≤ 2 * cs.length
  | [], _ => Nat.le_refl _
  | c :: r, b => by
    unfold dotE
    split
    · have := dotE_len r false; simp; omega
    · have := dotE_len r (c == 10); simp; omega
theorem subT2 (x : Txt) (hz : x.cs.length ≤ 3000) : subT code2 ⟨[13, 10]⟩ x = some ⟨fixE x.cs⟩ := by
  unfold subT
  rw [if_pos (by rw [Bool.and_eq_true]; exact ⟨Nat.ble_eq_true_of_le (by omega), by decide⟩), sub2 x.cs hz 4000 0 false [] (by omega) (Nat.zero_le _)]
  rw [List.drop_zero, List.nil_append]
  show (if Nat.ble (fixE x.cs).length (2 ^ 20) = true then some (⟨fixE x.cs⟩ : Txt) else none) = _
  have := fixE_len x.cs
  rw [if_pos (Nat.ble_eq_true_of_le (by omega))]
theorem subT1 (x : Txt) (hz : x.cs.length ≤ 3000) : subT code1 ⟨[46, 46]⟩ x = some ⟨dotE true x.cs⟩ := by
  unfold subT
  rw [if_pos (by rw [Bool.and_eq_true]; exact ⟨Nat.ble_eq_true_of_le (by omega), by decide⟩), sub1 x.cs hz 4000 0 false [] (by omega) (Nat.zero_le _)]
  rw [List.drop_zero, List.nil_append]
  show (if Nat.ble (dotE true x.cs).length (2 ^ 20) = true then some (⟨dotE true x.cs⟩ : Txt) else none) = _
  have := dotE_len x.cs true
  rw [if_pos (Nat.ble_eq_true_of_le (by omega))]
end Mine
namespace Mine
open PySem PySem.W PyProof.Rows PySem.Calls

/-! a text cut at its row ends -/
noncomputable def spl : List Nat → List (List Nat)
  | [] => [[]]
  | 13 :: 10 :: r => [] :: spl r
  | c :: r => match spl r with | [] => [[c]] | p :: ps => (c :: p) :: ps
theorem spl_one (c : Nat) (r : List Nat) (h : ¬ (c = 13 ∧ ∃ q, r = 10 :: q)) : spl (c :: r) = match spl r with | [] => [[c]] | p :: ps => (c :: p) :: ps := by
  rw [spl]
  intro q e1 e2
  exact h ⟨e1, q, e2⟩
noncomputable def crlfAt (cs : List Nat) (i : Nat) : Prop := i + 2 ≤ cs.length ∧ (cs.drop i).take 2 = [13, 10]
theorem crlfAt_of {cs : List Nat} {i : Nat} : StrLaws.At (⟨cs⟩ : Txt).str (⟨[13, 10]⟩ : Txt).str (⟨cs⟩ : Txt).str.length i ↔ crlfAt cs i := by
  unfold StrLaws.At crlfAt
  rw [StrLaws.subAt_eq, Txt.len_str, Txt.len_str]
  show i + 2 ≤ cs.length ∧ ((cs.toArray.toList.drop i).take 2 == [13, 10].toArray.toList) = true ↔ _
  rw [beq_iff_eq]
theorem spl_step {cs : List Nat} {a : Nat} (h : a < cs.length) (hn : ¬ crlfAt cs a) : spl (cs.drop a) = match spl (cs.drop (a + 1)) with | [] => [[cs[a]]] | p :: ps => (cs[a] :: p) :: ps := by
  rw [List.drop_eq_getElem_cons h, spl_one]
  rintro ⟨h1, q, h2⟩
  refine hn ⟨?_, ?_⟩
  · apply Nat.lt_of_not_le; intro z
    rw [List.drop_eq_nil_of_le (by omega)] at h2; cases h2
  · rw [List.drop_eq_getElem_cons h, h1, h2]; rfl
theorem spl_none {cs : List Nat} : ∀ (n a : Nat), n = cs.length - a → (∀ k, a ≤ k → ¬ crlfAt cs k) → spl (cs.drop a) = [cs.drop a]
  | 0, a, h, _ => by rw [List.drop_eq_nil_of_le (by omega)]; rfl
  | n + 1, a, h, hn => by
    have ha : a < cs.length := by omega
    rw [spl_step ha (hn a (Nat.le_refl _)), spl_none n (a + 1) (by omega) fun k hk => hn k (by omega)]
    rw [List.drop_eq_getElem_cons ha]
theorem spl_cut {cs : List Nat} : ∀ (n a c : Nat), n = c - a → a ≤ c → crlfAt cs c → (∀ k, a ≤ k → k < c → ¬ crlfAt cs k) → spl (cs.drop a) = (cs.drop a).take (c - a) :: spl (cs.drop (c + 2))
  | 0, a, c, h, hac, hc, _ => by
    have e : a = c := by omega
    subst e
    obtain ⟨h1, h2⟩ := hc
    have e1 : cs.drop a = 13 :: 10 :: cs.drop (a + 2) := by
      have e3 : (cs.drop a).take 2 ++ (cs.drop a).drop 2 = cs.drop a := List.take_append_drop 2 _
      rw [h2, List.drop_drop] at e3
      exact e3.symm
    rw [e1, Nat.sub_self]; rfl
  | n + 1, a, c, h, hac, hc, hn => by
    have ha : a < cs.length := by have := hc.1; omega
    rw [spl_step ha (hn a (Nat.le_refl _) (by omega)), spl_cut n (a + 1) c (by omega) (by omega) hc fun k h1 h2 => hn k (by omega) h2]
    rw [List.drop_eq_getElem_cons ha, show c - a = (c - (a + 1)) + 1 by omega]
    rfl
theorem spl_parts {cs : List Nat} : ∀ (cuts : List Nat) (a f : Nat), StrLaws.ChainG (⟨cs⟩ : Txt).str (⟨[13, 10]⟩ : Txt).str (⟨cs⟩ : Txt).str.length a cuts f → (∀ k, f ≤ k → ¬ crlfAt cs k) → (StrLaws.partsFrom (⟨cs⟩ : Txt).str 2 a cuts).map Txt.of = (spl (cs.drop a)).map Txt.mk
  | [], a, f, h, hn => by
    have e : f = a := h
    subst e
    rw [spl_none _ f rfl hn]
    show [Txt.of (Builtin.Str.strSub (⟨cs⟩ : Txt).str f (⟨cs⟩ : Txt).str.length)] = [⟨cs.drop f⟩]
    unfold Txt.of
    rw [StrLaws.strSub_toList, Txt.len_str]
    congr 2
    show (cs.drop f).take (cs.length - f) = _
    rw [List.take_of_length_le (by simp)]
  | c :: r, a, f, h, hn => by
    obtain ⟨h1, h2, h3, h4⟩ := h
    have h2' := crlfAt_of.mp h2
    rw [spl_cut _ a c rfl h1 h2' fun k k1 k2 q => h3 k k1 k2 (crlfAt_of.mpr q)]
    show Txt.of (Builtin.Str.strSub (⟨cs⟩ : Txt).str a c) :: (StrLaws.partsFrom (⟨cs⟩ : Txt).str 2 (c + 2) r).map Txt.of = _
    rw [spl_parts r (c + 2) f h4 hn, List.map_cons]
    congr 1
    unfold Txt.of
    rw [StrLaws.strSub_toList]; rfl
theorem splitT_ok (x : Txt) (hz : x.cs.length ≤ 1000000) : splitT x ⟨[13, 10]⟩ = some ((spl x.cs).map Txt.mk) := by
  obtain ⟨cs⟩ := x
  unfold splitT
  rw [if_pos (by rw [Bool.and_eq_true]; exact ⟨Nat.ble_eq_true_of_le (by show cs.length ≤ _; have : cs.length ≤ 1000000 := hz; omega), rfl⟩)]
  congr 1
  obtain ⟨f, h1, h2⟩ := StrLaws.occ_tight (⟨cs⟩ : Txt).str (⟨[13, 10]⟩ : Txt).str (by rw [Txt.len_str]; decide)
  have key := spl_parts _ 0 f h1 fun k hk q => h2 k hk (crlfAt_of.mpr q)
  rw [List.drop_zero] at key
  have whole : (StrLaws.partsFrom (⟨cs⟩ : Txt).str 2 0 []).map Txt.of = [Txt.of (⟨cs⟩ : Txt).str] := by
    show [Txt.of (Builtin.Str.strSub (⟨cs⟩ : Txt).str 0 (⟨cs⟩ : Txt).str.length)] = _
    unfold Txt.of
    rw [StrLaws.strSub_toList, Txt.len_str]
    congr 2
    show (cs.drop 0).take (cs.length - 0) = cs
    simp
  unfold PySem.Txt.split
  split
  · rename_i hc
    rw [Bool.or_eq_true, decide_eq_true_iff, decide_eq_true_iff, Txt.len_str, Txt.len_str] at hc
    have hk : Builtin.Str.strKind (⟨[13, 10]⟩ : Txt).str = 1 := by decide +kernel
    rw [hk] at hc
    have hpos : 1 ≤ Builtin.Str.strKind (⟨cs⟩ : Txt).str := by unfold Builtin.Str.strKind; split <;> (try split) <;> omega
    have hlt : cs.length < 2 := by
      rcases hc with hc | hc
      · exact hc
      · omega
    have e := spl_none (cs := cs) _ 0 rfl fun k _ q => by have := q.1; omega
    rw [List.drop_zero] at e
    rw [e]; simp [Txt.of, Txt.str]
  · split
    · rename_i he
      have : Builtin.Str.occurrences (⟨cs⟩ : Txt).str (⟨[13, 10]⟩ : Txt).str 0 (⟨cs⟩ : Txt).str.length ((⟨cs⟩ : Txt).str.length + 1) = [] := by simpa using he
      rw [this, whole] at key
      exact key
    · rw [StrLaws.partsBetween_eq]
      exact key
end Mine
open PySem PySem.W PyProof.Rows in
open_top Mine.hd2 for PySem.Challenge.rw_pu0039_02
namespace Mine
open PySem PySem.W PyProof.Rows PySem.Calls

noncomputable abbrev c2 (prog : Program) (w : World) (mg mb : Str → Option Value) : Cx := ⟨prog, w, hd2.heap_39 w.params, mg, mb⟩
theorem g_len (prog : Program) (w : World) (mg mb : Str → Option Value) : GlobV (c2 prog w mg mb) "len" (.builtin "len") := .inr ⟨by kernel_rfl, by kernel_rfl, by decide⟩
theorem g_sum (prog : Program) (w : World) (mg mb : Str → Option Value) : GlobV (c2 prog w mg mb) "sum" (.builtin "sum") := .inr ⟨by kernel_rfl, by kernel_rfl, by decide⟩
theorem g_max (prog : Program) (w : World) (mg mb : Str → Option Value) : GlobV (c2 prog w mg mb) "max" (.builtin "max") := .inr ⟨by kernel_rfl, by kernel_rfl, by decide⟩
theorem g_min (prog : Program) (w : World) (mg mb : Str → Option Value) : GlobV (c2 prog w mg mb) "min" (.builtin "min") := .inr ⟨by kernel_rfl, by kernel_rfl, by decide⟩
theorem g_abs (prog : Program) (w : World) (mg mb : Str → Option Value) : GlobV (c2 prog w mg mb) "abs" (.builtin "abs") := .inr ⟨by kernel_rfl, by kernel_rfl, by decide⟩
theorem g_int (prog : Program) (w : World) (mg mb : Str → Option Value) : GlobV (c2 prog w mg mb) "int" (.type "int") := .inr ⟨by kernel_rfl, by kernel_rfl, by decide⟩
theorem g_range (prog : Program) (w : World) (mg mb : Str → Option Value) : GlobV (c2 prog w mg mb) "range" (.type "range") := .inr ⟨by kernel_rfl, by kernel_rfl, by decide⟩
theorem g_tuple (prog : Program) (w : World) (mg mb : Str → Option Value) : GlobV (c2 prog w mg mb) "tuple" (.type "tuple") := .inr ⟨by kernel_rfl, by kernel_rfl, by decide⟩
theorem g_rgb_to_hsv (prog : Program) (w : World) (mg mb : Str → Option Value) : GlobV (c2 prog w mg mb) "rgb_to_hsv" (.ref 45) := .inl (by kernel_rfl)
theorem k_rgb_to_hsv (prog : Program) (w : World) (mg mb : Str → Option Value) : Kp (c2 prog w mg mb) (.ref 45) := kp_K (by kernel_rfl)
theorem g_hsv_to_rgb (prog : Program) (w : World) (mg mb : Str → Option Value) : GlobV (c2 prog w mg mb) "hsv_to_rgb" (.ref 52) := .inl (by kernel_rfl)
theorem k_hsv_to_rgb (prog : Program) (w : World) (mg mb : Str → Option Value) : Kp (c2 prog w mg mb) (.ref 52) := kp_K (by kernel_rfl)
theorem g_quotedata (prog : Program) (w : World) (mg mb : Str → Option Value) : GlobV (c2 prog w mg mb) "quotedata" (.ref 69) := .inl (by kernel_rfl)
theorem k_quotedata (prog : Program) (w : World) (mg mb : Str → Option Value) : Kp (c2 prog w mg mb) (.ref 69) := kp_K (by kernel_rfl)
theorem g__fix_eols (prog : Program) (w : World) (mg mb : Str → Option Value) : GlobV (c2 prog w mg mb) "_fix_eols" (.ref 76) := .inl (by kernel_rfl)
theorem k__fix_eols (prog : Program) (w : World) (mg mb : Str → Option Value) : Kp (c2 prog w mg mb) (.ref 76) := kp_K (by kernel_rfl)
theorem g_Whitespace (prog : Program) (w : World) (mg mb : Str → Option Value) : GlobV (c2 prog w mg mb) "Whitespace" (.ref 138) := .inl (by kernel_rfl)
theorem k_Whitespace (prog : Program) (w : World) (mg mb : Str → Option Value) : Kp (c2 prog w mg mb) (.ref 138) := kp_K (by kernel_rfl)
theorem g__law_lacking (prog : Program) (w : World) (mg mb : Str → Option Value) : GlobV (c2 prog w mg mb) "_law_lacking" (.ref 147) := .inl (by kernel_rfl)
theorem k__law_lacking (prog : Program) (w : World) (mg mb : Str → Option Value) : Kp (c2 prog w mg mb) (.ref 147) := kp_K (by kernel_rfl)
theorem g__law_polygon (prog : Program) (w : World) (mg mb : Str → Option Value) : GlobV (c2 prog w mg mb) "_law_polygon" (.ref 152) := .inl (by kernel_rfl)
theorem k__law_polygon (prog : Program) (w : World) (mg mb : Str → Option Value) : Kp (c2 prog w mg mb) (.ref 152) := kp_K (by kernel_rfl)
theorem g__law_lead (prog : Program) (w : World) (mg mb : Str → Option Value) : GlobV (c2 prog w mg mb) "_law_lead" (.ref 157) := .inl (by kernel_rfl)
theorem k__law_lead (prog : Program) (w : World) (mg mb : Str → Option Value) : Kp (c2 prog w mg mb) (.ref 157) := kp_K (by kernel_rfl)
theorem g__law_gain (prog : Program) (w : World) (mg mb : Str → Option Value) : GlobV (c2 prog w mg mb) "_law_gain" (.ref 162) := .inl (by kernel_rfl)
theorem k__law_gain (prog : Program) (w : World) (mg mb : Str → Option Value) : Kp (c2 prog w mg mb) (.ref 162) := kp_K (by kernel_rfl)
theorem g__twin_re_1 (prog : Program) (w : World) (mg mb : Str → Option Value) : GlobV (c2 prog w mg mb) "_twin_re_1" (.ref 57) := .inl (by kernel_rfl)
theorem g__twin_re_2 (prog : Program) (w : World) (mg mb : Str → Option Value) : GlobV (c2 prog w mg mb) "_twin_re_2" (.ref 62) := .inl (by kernel_rfl)
theorem g_CRLF (prog : Program) (w : World) (mg mb : Str → Option Value) : GlobV (c2 prog w mg mb) "CRLF" (.str (⟨[13, 10]⟩ : Txt).str 383) := .inl (by kernel_rfl)
theorem ca_reads (prog : Program) (w : World) (mg mb : Str → Option Value) : readsIn (c2 prog w mg mb).K 138 (.type "type") = true := by kernel_rfl
theorem ca_S (prog : Program) (w : World) (mg mb : Str → Option Value) : findCls (c2 prog w mg mb).K (.ref 138) (.type "type") "S" = some (.val (.str (⟨[32]⟩ : Txt).str 414)) := by kernel_rfl
theorem ca_T (prog : Program) (w : World) (mg mb : Str → Option Value) : findCls (c2 prog w mg mb).K (.ref 138) (.type "type") "T" = some (.val (.str (⟨[9]⟩ : Txt).str 415)) := by kernel_rfl
theorem m_indent_level (prog : Program) (w : World) (mg mb : Str → Option Value) : methOk (c2 prog w mg mb).K 138 "indent_level" 107 = true := by kernel_rfl
theorem kk_indent_level (prog : Program) (w : World) (mg mb : Str → Option Value) : keepIn (c2 prog w mg mb).K (.ref 107) = true := by kernel_rfl
structure WS where
  raw : Option Txt
  n : Option Int
  nt : Option Int
  norm : Option (Tup ((TL Int) × Int × Unit))
  is_simple : Option Bool
def ws_attrs (x : WS) : Sh := [("raw", val x.raw), ("n", val x.n), ("nt", val x.nt), ("norm", val x.norm), ("is_simple", val x.is_simple)]
instance : RepO WS := ⟨ws_attrs, fun _ => (by decide : (["raw", "n", "nt", "norm", "is_simple"] : List Str).Nodup), fun _ => (List.forall_mem_cons.mpr ⟨rfl, (List.forall_mem_cons.mpr ⟨rfl, (List.forall_mem_cons.mpr ⟨rfl, (List.forall_mem_cons.mpr ⟨rfl, (List.forall_mem_cons.mpr ⟨rfl, (fun _ h => nomatch h)⟩)⟩)⟩)⟩)⟩)⟩
end Mine
namespace Mine
open PySem PySem.W PyProof.Rows PySem.Calls

structure S_rgb_to_hsv where
  r : Option Flt
  g : Option Flt
  b : Option Flt
  maxc : Option Flt
  minc : Option Flt
  rangec : Option Flt
  v : Option Flt
  s : Option Flt
  rc : Option Flt
  gc : Option Flt
  bc : Option Flt
  h : Option Flt
noncomputable def sh_rgb_to_hsv (x : S_rgb_to_hsv) : Sh := [("r", val x.r), ("g", val x.g), ("b", val x.b), ("maxc", val x.maxc), ("minc", val x.minc), ("rangec", val x.rangec), ("v", val x.v), ("s", val x.s), ("rc", val x.rc), ("gc", val x.gc), ("bc", val x.bc), ("h", val x.h)]
noncomputable def f_rgb_to_hsv (x : S_rgb_to_hsv) : Option (Fl S_rgb_to_hsv (Tup (Flt × Flt × Flt × Unit))) := (((((bind2 (x.r) ((bind2 (x.g) ((bind2 (x.b) ((some ())) fun a t => some (a, t))) fun a t => some (a, t))) fun a t => some (a, t))).bind fun t => some (maxX t.1 t.2.1 t.2.2.1))).bind fun a => some (.next { x with maxc := some a })).bind (thenF fun x => (((((bind2 (x.r) ((bind2 (x.g) ((bind2 (x.b) ((some ())) fun a t => some (a, t))) fun a t => some (a, t))) fun a t => some (a, t))).bind fun t => some (minX t.1 t.2.1 t.2.2.1))).bind fun a => some (.next { x with minc := some a })).bind (thenF fun x => (((bind2 (x.maxc) (x.minc) subX)).bind fun a => some (.next { x with rangec := some a })).bind (thenF fun x => ((x.maxc).bind fun a => some (.next { x with v := some a })).bind (thenF fun x => (((bind2 (x.minc) (x.maxc) eqX)).bind fun b => if b then ((((bind2 ((some (⟨0⟩ : Flt))) ((bind2 ((some (⟨0⟩ : Flt))) ((bind2 (x.v) ((some ())) fun a t => some (a, t))) fun a t => some (a, t))) fun a t => some (a, t))).map Tup.mk)).bind fun a => some (.ret a) else some (.next x)).bind (thenF fun x => (((bind2 (x.rangec) (x.maxc) divX)).bind fun a => some (.next { x with s := some a })).bind (thenF fun x => (((bind2 ((bind2 (x.maxc) (x.r) subX)) (x.rangec) divX)).bind fun a => some (.next { x with rc := some a })).bind (thenF fun x => (((bind2 ((bind2 (x.maxc) (x.g) subX)) (x.rangec) divX)).bind fun a => some (.next { x with gc := some a })).bind (thenF fun x => (((bind2 ((bind2 (x.maxc) (x.b) subX)) (x.rangec) divX)).bind fun a => some (.next { x with bc := some a })).bind (thenF fun x => (((bind2 (x.r) (x.maxc) eqX)).bind fun b => if b then ((bind2 (x.bc) (x.gc) subX)).bind fun a => some (.next { x with h := some a }) else ((bind2 (x.g) (x.maxc) eqX)).bind fun b => if b then ((bind2 ((bind2 ((some (⟨4611686018427387904⟩ : Flt))) (x.rc) addX)) (x.bc) subX)).bind fun a => some (.next { x with h := some a }) else ((bind2 ((bind2 ((some (⟨4616189618054758400⟩ : Flt))) (x.gc) addX)) (x.rc) subX)).bind fun a => some (.next { x with h := some a })).bind (thenF fun x => (((bind2 ((bind2 (x.h) ((some (⟨4618441417868443648⟩ : Flt))) divX)) ((some (⟨4607182418800017408⟩ : Flt))) modX)).bind fun a => some (.next { x with h := some a })).bind (thenF fun x => ((((bind2 (x.h) ((bind2 (x.s) ((bind2 (x.v) ((some ())) fun a t => some (a, t))) fun a t => some (a, t))) fun a t => some (a, t))).map Tup.mk)).bind fun a => some (.ret a))))))))))))
noncomputable def in_rgb_to_hsv (a : Flt × Flt × Flt × Unit) : S_rgb_to_hsv := { r := some a.1, g := some a.2.1, b := some a.2.2.1, maxc := none, minc := none, rangec := none, v := none, s := none, rc := none, gc := none, bc := none, h := none }
noncomputable def fn_rgb_to_hsv (a : Flt × Flt × Flt × Unit) : Option (Tup (Flt × Flt × Flt × Unit)) := retOf (f_rgb_to_hsv (in_rgb_to_hsv a))
theorem ok_rgb_to_hsv (prog : Program) (w : World) (mg mb : Str → Option Value) (a : Flt × Flt × Flt × Unit) (r : (Tup (Flt × Flt × Flt × Unit))) (h : fn_rgb_to_hsv a = some r) : CallS (c2 prog w mg mb) 21 (.ref 45) a r := by
  refine fn_ok (c := (c2 prog w mg mb)) (n := 20) (sh := sh_rgb_to_hsv) (f := f_rgb_to_hsv) ["r", "g", "b"] in_rgb_to_hsv rfl (by kernel_rfl) rfl rfl rfl rfl rfl rfl rfl ?_ (by decide) rfl rfl (fun _ => rfl) (fun _ => ?_) (fun a => ?_) ?_ a r h
  · intro vs h; obtain ⟨_, _, _, rfl⟩ := len3 h; rfl
  · exact (by decide : (["r", "g", "b", "maxc", "minc", "rangec", "v", "s", "rc", "gc", "bc", "h"] : List Str).Nodup)
  · exact (List.forall_mem_cons.mpr ⟨.inl (.head _), (List.forall_mem_cons.mpr ⟨.inl (.tail _ (.head _)), (List.forall_mem_cons.mpr ⟨.inl (.tail _ (.tail _ (.head _))), (List.forall_mem_cons.mpr ⟨.inr (fun _ _ _ _ h => nomatch h), (List.forall_mem_cons.mpr ⟨.inr (fun _ _ _ _ h => nomatch h), (List.forall_mem_cons.mpr ⟨.inr (fun _ _ _ _ h => nomatch h), (List.forall_mem_cons.mpr ⟨.inr (fun _ _ _ _ h => nomatch h), (List.forall_mem_cons.mpr ⟨.inr (fun _ _ _ _ h => nomatch h), (List.forall_mem_cons.mpr ⟨.inr (fun _ _ _ _ h => nomatch h), (List.forall_mem_cons.mpr ⟨.inr (fun _ _ _ _ h => nomatch h), (List.forall_mem_cons.mpr ⟨.inr (fun _ _ _ _ h => nomatch h), (List.forall_mem_cons.mpr ⟨.inr (fun _ _ _ _ h => nomatch h), (fun _ h => nomatch h)⟩)⟩)⟩)⟩)⟩)⟩)⟩)⟩)⟩)⟩)⟩)⟩)
  · intro L s F P
    unfold f_rgb_to_hsv
    exact (exs_cons (ex_assign 3 (fun x => (ev_call rfl (g_max ..) kp_builtin (evL_cons (ev_name 0 rfl rfl) (evL_cons (ev_name 1 rfl rfl) (evL_cons (ev_name 2 rfl rfl) evL_nil))) (fun _ _ h => s_maxX (Option.some.inj h))))) (exs_cons (ex_assign 4 (fun x => (ev_call rfl (g_min ..) kp_builtin (evL_cons (ev_name 0 rfl rfl) (evL_cons (ev_name 1 rfl rfl) (evL_cons (ev_name 2 rfl rfl) evL_nil))) (fun _ _ h => s_minX (Option.some.inj h))))) (exs_cons (ex_assign 5 (fun x => (ev_bin (ev_name 3 rfl rfl) (ev_name 4 rfl rfl) (fun _ _ _ h => s_subX h)))) (exs_cons (ex_assign 6 (fun x => (ev_name 3 rfl rfl))) (exs_cons (ex_if (fun x => (tst_cmp (ev_name 4 rfl rfl) (ev_name 3 rfl rfl) (fun _ _ _ h => s_eqX h))) (exs_one (ex_return (fun x => (ev_tuple (evL_cons ev_float (evL_cons ev_float (evL_cons (ev_name 6 rfl rfl) evL_nil))) (tupLen (by decide)))))) exs_nil) (exs_cons (ex_assign 7 (fun x => (ev_bin (ev_name 5 rfl rfl) (ev_name 3 rfl rfl) (fun _ _ _ h => s_divX h)))) (exs_cons (ex_assign 8 (fun x => (ev_bin (ev_bin (ev_name 3 rfl rfl) (ev_name 0 rfl rfl) (fun _ _ _ h => s_subX h)) (ev_name 5 rfl rfl) (fun _ _ _ h => s_divX h)))) (exs_cons (ex_assign 9 (fun x => (ev_bin (ev_bin (ev_name 3 rfl rfl) (ev_name 1 rfl rfl) (fun _ _ _ h => s_subX h)) (ev_name 5 rfl rfl) (fun _ _ _ h => s_divX h)))) (exs_cons (ex_assign 10 (fun x => (ev_bin (ev_bin (ev_name 3 rfl rfl) (ev_name 2 rfl rfl) (fun _ _ _ h => s_subX h)) (ev_name 5 rfl rfl) (fun _ _ _ h => s_divX h)))) (exs_cons (ex_if (fun x => (tst_cmp (ev_name 0 rfl rfl) (ev_name 3 rfl rfl) (fun _ _ _ h => s_eqX h))) (exs_one (ex_assign 11 (fun x => (ev_bin (ev_name 10 rfl rfl) (ev_name 9 rfl rfl) (fun _ _ _ h => s_subX h))))) (exs_one (ex_if (fun x => (tst_cmp (ev_name 1 rfl rfl) (ev_name 3 rfl rfl) (fun _ _ _ h => s_eqX h))) (exs_one (ex_assign 11 (fun x => (ev_bin (ev_bin ev_float (ev_name 8 rfl rfl) (fun _ _ _ h => s_addX h)) (ev_name 10 rfl rfl) (fun _ _ _ h => s_subX h))))) (exs_one (ex_assign 11 (fun x => (ev_bin (ev_bin ev_float (ev_name 9 rfl rfl) (fun _ _ _ h => s_addX h)) (ev_name 8 rfl rfl) (fun _ _ _ h => s_subX h)))))))) (exs_cons (ex_assign 11 (fun x => (ev_bin (ev_bin (ev_name 11 rfl rfl) ev_float (fun _ _ _ h => s_divX h)) ev_float (fun _ _ _ h => s_modX h)))) (exs_one (ex_return (fun x => (ev_tuple (evL_cons (ev_name 11 rfl rfl) (evL_cons (ev_name 7 rfl rfl) (evL_cons (ev_name 6 rfl rfl) evL_nil))) (tupLen (by decide)))))))))))))))))
end Mine
namespace Mine
open PySem PySem.W PyProof.Rows PySem.Calls

structure S_hsv_to_rgb where
  h : Option Flt
  s : Option Flt
  v : Option Flt
  i : Option Int
  f : Option Flt
  p : Option Flt
  q : Option Flt
  t : Option Flt
noncomputable def sh_hsv_to_rgb (x : S_hsv_to_rgb) : Sh := [("h", val x.h), ("s", val x.s), ("v", val x.v), ("i", val x.i), ("f", val x.f), ("p", val x.p), ("q", val x.q), ("t", val x.t)]
noncomputable def f_hsv_to_rgb (x : S_hsv_to_rgb) : Option (Fl S_hsv_to_rgb (Tup (Flt × Flt × Flt × Unit))) := (((bind2 (x.s) ((some (⟨0⟩ : Flt))) eqX)).bind fun b => if b then ((((bind2 (x.v) ((bind2 (x.v) ((bind2 (x.v) ((some ())) fun a t => some (a, t))) fun a t => some (a, t))) fun a t => some (a, t))).map Tup.mk)).bind fun a => some (.ret a) else some (.next x)).bind (thenF fun x => (((((bind2 ((bind2 (x.h) ((some (⟨4618441417868443648⟩ : Flt))) mulX)) ((some ())) fun a t => some (a, t))).bind fun t => intX t.1)).bind fun a => some (.next { x with i := some a })).bind (thenF fun x => (((bind2 ((bind2 (x.h) ((some (⟨4618441417868443648⟩ : Flt))) mulX)) (x.i) subXI)).bind fun a => some (.next { x with f := some a })).bind (thenF fun x => (((bind2 (x.v) ((bind2 ((some (⟨4607182418800017408⟩ : Flt))) (x.s) subX)) mulX)).bind fun a => some (.next { x with p := some a })).bind (thenF fun x => (((bind2 (x.v) ((bind2 ((some (⟨4607182418800017408⟩ : Flt))) ((bind2 (x.s) (x.f) mulX)) subX)) mulX)).bind fun a => some (.next { x with q := some a })).bind (thenF fun x => (((bind2 (x.v) ((bind2 ((some (⟨4607182418800017408⟩ : Flt))) ((bind2 (x.s) ((bind2 ((some (⟨4607182418800017408⟩ : Flt))) (x.f) subX)) mulX)) subX)) mulX)).bind fun a => some (.next { x with t := some a })).bind (thenF fun x => (((bind2 (x.i) ((some (6 : Int))) modI)).bind fun a => some (.next { x with i := some a })).bind (thenF fun x => (((bind2 (x.i) ((some (0 : Int))) eqI)).bind fun b => if b then ((((bind2 (x.v) ((bind2 (x.t) ((bind2 (x.p) ((some ())) fun a t => some (a, t))) fun a t => some (a, t))) fun a t => some (a, t))).map Tup.mk)).bind fun a => some (.ret a) else some (.next x)).bind (thenF fun x => (((bind2 (x.i) ((some (1 : Int))) eqI)).bind fun b => if b then ((((bind2 (x.q) ((bind2 (x.v) ((bind2 (x.p) ((some ())) fun a t => some (a, t))) fun a t => some (a, t))) fun a t => some (a, t))).map Tup.mk)).bind fun a => some (.ret a) else some (.next x)).bind (thenF fun x => (((bind2 (x.i) ((some (2 : Int))) eqI)).bind fun b => if b then ((((bind2 (x.p) ((bind2 (x.v) ((bind2 (x.t) ((some ())) fun a t => some (a, t))) fun a t => some (a, t))) fun a t => some (a, t))).map Tup.mk)).bind fun a => some (.ret a) else some (.next x)).bind (thenF fun x => (((bind2 (x.i) ((some (3 : Int))) eqI)).bind fun b => if b then ((((bind2 (x.p) ((bind2 (x.q) ((bind2 (x.v) ((some ())) fun a t => some (a, t))) fun a t => some (a, t))) fun a t => some (a, t))).map Tup.mk)).bind fun a => some (.ret a) else some (.next x)).bind (thenF fun x => (((bind2 (x.i) ((some (4 : Int))) eqI)).bind fun b => if b then ((((bind2 (x.t) ((bind2 (x.p) ((bind2 (x.v) ((some ())) fun a t => some (a, t))) fun a t => some (a, t))) fun a t => some (a, t))).map Tup.mk)).bind fun a => some (.ret a) else some (.next x)).bind (thenF fun x => ((bind2 (x.i) ((some (5 : Int))) eqI)).bind fun b => if b then ((((bind2 (x.v) ((bind2 (x.p) ((bind2 (x.q) ((some ())) fun a t => some (a, t))) fun a t => some (a, t))) fun a t => some (a, t))).map Tup.mk)).bind fun a => some (.ret a) else some (.next x)))))))))))))
noncomputable def in_hsv_to_rgb (a : Flt × Flt × Flt × Unit) : S_hsv_to_rgb := { h := some a.1, s := some a.2.1, v := some a.2.2.1, i := none, f := none, p := none, q := none, t := none }
noncomputable def fn_hsv_to_rgb (a : Flt × Flt × Flt × Unit) : Option (Tup (Flt × Flt × Flt × Unit)) := retOf (f_hsv_to_rgb (in_hsv_to_rgb a))
theorem ok_hsv_to_rgb (prog : Program) (w : World) (mg mb : Str → Option Value) (a : Flt × Flt × Flt × Unit) (r : (Tup (Flt × Flt × Flt × Unit))) (h : fn_hsv_to_rgb a = some r) : CallS (c2 prog w mg mb) 21 (.ref 52) a r := by
  refine fn_ok (c := (c2 prog w mg mb)) (n := 20) (sh := sh_hsv_to_rgb) (f := f_hsv_to_rgb) ["h", "s", "v"] in_hsv_to_rgb rfl (by kernel_rfl) rfl rfl rfl rfl rfl rfl rfl ?_ (by decide) rfl rfl (fun _ => rfl) (fun _ => ?_) (fun a => ?_) ?_ a r h
  · intro vs h; obtain ⟨_, _, _, rfl⟩ := len3 h; rfl
  · exact (by decide : (["h", "s", "v", "i", "f", "p", "q", "t"] : List Str).Nodup)
  · exact (List.forall_mem_cons.mpr ⟨.inl (.head _), (List.forall_mem_cons.mpr ⟨.inl (.tail _ (.head _)), (List.forall_mem_cons.mpr ⟨.inl (.tail _ (.tail _ (.head _))), (List.forall_mem_cons.mpr ⟨.inr (fun _ _ _ _ h => nomatch h), (List.forall_mem_cons.mpr ⟨.inr (fun _ _ _ _ h => nomatch h), (List.forall_mem_cons.mpr ⟨.inr (fun _ _ _ _ h => nomatch h), (List.forall_mem_cons.mpr ⟨.inr (fun _ _ _ _ h => nomatch h), (List.forall_mem_cons.mpr ⟨.inr (fun _ _ _ _ h => nomatch h), (fun _ h => nomatch h)⟩)⟩)⟩)⟩)⟩)⟩)⟩)⟩)
  · intro L s F P
    unfold f_hsv_to_rgb
    exact (exs_cons (ex_if (fun x => (tst_cmp (ev_name 1 rfl rfl) ev_float (fun _ _ _ h => s_eqX h))) (exs_one (ex_return (fun x => (ev_tuple (evL_cons (ev_name 2 rfl rfl) (evL_cons (ev_name 2 rfl rfl) (evL_cons (ev_name 2 rfl rfl) evL_nil))) (tupLen (by decide)))))) exs_nil) (exs_cons (ex_assign 3 (fun x => (ev_call rfl (g_int ..) kp_type (evL_cons (ev_bin (ev_name 0 rfl rfl) ev_float (fun _ _ _ h => s_mulX h)) evL_nil) (fun _ _ h => s_intX h)))) (exs_cons (ex_assign 4 (fun x => (ev_bin (ev_bin (ev_name 0 rfl rfl) ev_float (fun _ _ _ h => s_mulX h)) (ev_name 3 rfl rfl) (fun _ _ _ h => s_subXI h)))) (exs_cons (ex_assign 5 (fun x => (ev_bin (ev_name 2 rfl rfl) (ev_bin ev_float (ev_name 1 rfl rfl) (fun _ _ _ h => s_subX h)) (fun _ _ _ h => s_mulX h)))) (exs_cons (ex_assign 6 (fun x => (ev_bin (ev_name 2 rfl rfl) (ev_bin ev_float (ev_bin (ev_name 1 rfl rfl) (ev_name 4 rfl rfl) (fun _ _ _ h => s_mulX h)) (fun _ _ _ h => s_subX h)) (fun _ _ _ h => s_mulX h)))) (exs_cons (ex_assign 7 (fun x => (ev_bin (ev_name 2 rfl rfl) (ev_bin ev_float (ev_bin (ev_name 1 rfl rfl) (ev_bin ev_float (ev_name 4 rfl rfl) (fun _ _ _ h => s_subX h)) (fun _ _ _ h => s_mulX h)) (fun _ _ _ h => s_subX h)) (fun _ _ _ h => s_mulX h)))) (exs_cons (ex_assign 3 (fun x => (ev_bin (ev_name 3 rfl rfl) ev_int (fun _ _ _ h => s_modI h)))) (exs_cons (ex_if (fun x => (tst_cmp (ev_name 3 rfl rfl) ev_int (fun _ _ _ h => s_eqI h))) (exs_one (ex_return (fun x => (ev_tuple (evL_cons (ev_name 2 rfl rfl) (evL_cons (ev_name 7 rfl rfl) (evL_cons (ev_name 5 rfl rfl) evL_nil))) (tupLen (by decide)))))) exs_nil) (exs_cons (ex_if (fun x => (tst_cmp (ev_name 3 rfl rfl) ev_int (fun _ _ _ h => s_eqI h))) (exs_one (ex_return (fun x => (ev_tuple (evL_cons (ev_name 6 rfl rfl) (evL_cons (ev_name 2 rfl rfl) (evL_cons (ev_name 5 rfl rfl) evL_nil))) (tupLen (by decide)))))) exs_nil) (exs_cons (ex_if (fun x => (tst_cmp (ev_name 3 rfl rfl) ev_int (fun _ _ _ h => s_eqI h))) (exs_one (ex_return (fun x => (ev_tuple (evL_cons (ev_name 5 rfl rfl) (evL_cons (ev_name 2 rfl rfl) (evL_cons (ev_name 7 rfl rfl) evL_nil))) (tupLen (by decide)))))) exs_nil) (exs_cons (ex_if (fun x => (tst_cmp (ev_name 3 rfl rfl) ev_int (fun _ _ _ h => s_eqI h))) (exs_one (ex_return (fun x => (ev_tuple (evL_cons (ev_name 5 rfl rfl) (evL_cons (ev_name 6 rfl rfl) (evL_cons (ev_name 2 rfl rfl) evL_nil))) (tupLen (by decide)))))) exs_nil) (exs_cons (ex_if (fun x => (tst_cmp (ev_name 3 rfl rfl) ev_int (fun _ _ _ h => s_eqI h))) (exs_one (ex_return (fun x => (ev_tuple (evL_cons (ev_name 7 rfl rfl) (evL_cons (ev_name 5 rfl rfl) (evL_cons (ev_name 2 rfl rfl) evL_nil))) (tupLen (by decide)))))) exs_nil) (exs_one (ex_if (fun x => (tst_cmp (ev_name 3 rfl rfl) ev_int (fun _ _ _ h => s_eqI h))) (exs_one (ex_return (fun x => (ev_tuple (evL_cons (ev_name 2 rfl rfl) (evL_cons (ev_name 5 rfl rfl) (evL_cons (ev_name 6 rfl rfl) evL_nil))) (tupLen (by decide)))))) exs_nil))))))))))))))
end Mine
namespace Mine
open PySem PySem.W PyProof.Rows PySem.Calls

structure S_quotedata where
  data : Option Txt
noncomputable def sh_quotedata (x : S_quotedata) : Sh := [("data", val x.data)]
noncomputable def f_quotedata (x : S_quotedata) : Option (Fl S_quotedata Txt) := ((bind2 ((some (⟨[46,46]⟩ : Txt))) ((bind2 ((some (⟨[13,10]⟩ : Txt))) (x.data) fun a b => subT code2 a b)) fun a b => subT code1 a b)).bind fun a => some (.ret a)
noncomputable def in_quotedata (a : Txt × Unit) : S_quotedata := { data := some a.1 }
noncomputable def fn_quotedata (a : Txt × Unit) : Option Txt := retOf (f_quotedata (in_quotedata a))
theorem ok_quotedata (prog : Program) (w : World) (mg mb : Str → Option Value) (a : Txt × Unit) (r : Txt) (h : fn_quotedata a = some r) : CallS (c2 prog w mg mb) 21 (.ref 69) a r := by
  refine fn_ok (c := (c2 prog w mg mb)) (n := 20) (sh := sh_quotedata) (f := f_quotedata) ["data"] in_quotedata rfl (by kernel_rfl) rfl rfl rfl rfl rfl rfl rfl ?_ (by decide) rfl rfl (fun _ => rfl) (fun _ => ?_) (fun a => ?_) ?_ a r h
  · intro vs h; obtain ⟨_, rfl⟩ := len1 h; rfl
  · exact (by decide : (["data"] : List Str).Nodup)
  · exact (List.forall_mem_cons.mpr ⟨.inl (.head _), (fun _ h => nomatch h)⟩)
  · intro L s F P
    unfold f_quotedata
    exact (exs_one (ex_return (fun x => (ev_sub code1 rfl (g__twin_re_1 ..) rfl rfl (by decide +kernel) (ev_str (⟨[46,46]⟩ : Txt) rfl) (ev_sub code2 rfl (g__twin_re_2 ..) rfl rfl (by decide +kernel) (ev_globstr (⟨[13,10]⟩ : Txt) rfl (g_CRLF ..)) (ev_name 0 rfl rfl))))))
end Mine
namespace Mine
open PySem PySem.W PyProof.Rows PySem.Calls

structure S__fix_eols where
  data : Option Txt
noncomputable def sh__fix_eols (x : S__fix_eols) : Sh := [("data", val x.data)]
noncomputable def f__fix_eols (x : S__fix_eols) : Option (Fl S__fix_eols Txt) := ((bind2 ((some (⟨[13,10]⟩ : Txt))) (x.data) fun a b => subT code2 a b)).bind fun a => some (.ret a)
noncomputable def in__fix_eols (a : Txt × Unit) : S__fix_eols := { data := some a.1 }
noncomputable def fn__fix_eols (a : Txt × Unit) : Option Txt := retOf (f__fix_eols (in__fix_eols a))
theorem ok__fix_eols (prog : Program) (w : World) (mg mb : Str → Option Value) (a : Txt × Unit) (r : Txt) (h : fn__fix_eols a = some r) : CallS (c2 prog w mg mb) 21 (.ref 76) a r := by
  refine fn_ok (c := (c2 prog w mg mb)) (n := 20) (sh := sh__fix_eols) (f := f__fix_eols) ["data"] in__fix_eols rfl (by kernel_rfl) rfl rfl rfl rfl rfl rfl rfl ?_ (by decide) rfl rfl (fun _ => rfl) (fun _ => ?_) (fun a => ?_) ?_ a r h
  · intro vs h; obtain ⟨_, rfl⟩ := len1 h; rfl
  · exact (by decide : (["data"] : List Str).Nodup)
  · exact (List.forall_mem_cons.mpr ⟨.inl (.head _), (fun _ h => nomatch h)⟩)
  · intro L s F P
    unfold f__fix_eols
    exact (exs_one (ex_return (fun x => (ev_sub code2 rfl (g__twin_re_2 ..) rfl rfl (by decide +kernel) (ev_globstr (⟨[13,10]⟩ : Txt) rfl (g_CRLF ..)) (ev_name 0 rfl rfl)))))
end Mine
namespace Mine
open PySem PySem.W PyProof.Rows PySem.Calls

structure S_init where
  self : WS
  ws : Option Txt
  S : Option Txt
  T : Option Txt
  count : Option (List Int)
  b : Option Int
  n : Option Int
  nt : Option Int
  ch : Option Txt
  msz : Nat
noncomputable def sh_init (ad : Addr) (x : S_init) : Sh := [("self", inst 138 0 x.msz ad x.self), ("ws", val x.ws), ("S", val x.S), ("T", val x.T), ("count", own 1 x.count), ("b", val x.b), ("n", val x.n), ("nt", val x.nt), ("ch", val x.ch)]
noncomputable def fb_init_1 (x : S_init) : Option (Fl S_init Unit) := ((bind2 (x.ch) (x.S) eqT)).bind fun b => if b then (((bind2 (x.n) ((some (1 : Int))) addI)).bind fun a => some (.next { x with n := some a })).bind (thenF fun x => ((bind2 (x.b) ((some (1 : Int))) addI)).bind fun a => some (.next { x with b := some a })) else ((bind2 (x.ch) (x.T) eqT)).bind fun b => if b then (((bind2 (x.n) ((some (1 : Int))) addI)).bind fun a => some (.next { x with n := some a })).bind (thenF fun x => (((bind2 (x.nt) ((some (1 : Int))) addI)).bind fun a => some (.next { x with nt := some a })).bind (thenF fun x => (((bind2 (x.b) (((x.count).bind lenL)) geI)).bind fun b => if b then ((bind2 (x.count) ((bind2 ((bind2 ((some (0 : Int))) ((some [])) fun a t => some (a :: t))) ((bind2 ((bind2 (x.b) (((x.count).bind lenL)) subI)) ((some (1 : Int))) addI)) fun a b => mulL a b)) fun a b => addL a b)).bind fun a => some (.next { x with count := some a }) else some (.next x)).bind (thenF fun x => (((bind2 ((bind2 (x.count) (x.b) fun xs k => getL xs k)) ((some (1 : Int))) addI)).bind fun a => (x.count).bind fun xs => (x.b).bind fun q => (setL xs q a).bind fun r => some (.next { x with count := some r })).bind (thenF fun x => ((some (0 : Int))).bind fun a => some (.next { x with b := some a }))))) else some (.brk x)
noncomputable def f_init (x : S_init) : Option (Fl S_init Unit) := ((x.ws).bind fun b => if Nat.ble x.msz 900 then some (.next { x with self := { x.self with raw := some b }, msz := x.msz + 1 }) else none).bind (thenF fun x => (((((bind2 ((some (⟨[32]⟩ : Txt))) ((bind2 ((some (⟨[9]⟩ : Txt))) ((some ())) fun a t => some (a, t))) fun a t => some (a, t))).map Tup.mk)).bind fun a => some (.next { { x with T := some a.it.2.1 } with S := some a.it.1 })).bind (thenF fun x => (((some ([] : List Int))).bind fun a => some (.next { x with count := some a })).bind (thenF fun x => (((some (0 : Int))).bind fun a => some (.next { { { x with b := some a } with n := some a } with nt := some a })).bind (thenF fun x => (((x.self.raw)).bind fun k => (some (signs k)).bind fun xs => forF fb_init_1 (fun x a => { x with ch := some a }) xs x).bind (thenF fun x => ((x.n).bind fun b => if Nat.ble x.msz 900 then some (.next { x with self := { x.self with n := some b }, msz := x.msz + 1 }) else none).bind (thenF fun x => ((x.nt).bind fun b => if Nat.ble x.msz 900 then some (.next { x with self := { x.self with nt := some b }, msz := x.msz + 1 }) else none).bind (thenF fun x => (((((bind2 (((x.count).bind tupL)) ((bind2 (x.b) ((some ())) fun a t => some (a, t))) fun a t => some (a, t))).map Tup.mk)).bind fun b => if Nat.ble x.msz 900 then some (.next { x with self := { x.self with norm := some b }, msz := x.msz + 1 }) else none).bind (thenF fun x => ((bind2 (((x.count).bind lenL)) ((some (1 : Int))) leI)).bind fun b => if Nat.ble x.msz 900 then some (.next { x with self := { x.self with is_simple := some b }, msz := x.msz + 1 }) else none))))))))
noncomputable def ws0 : WS := ⟨none, none, none, none, none⟩
noncomputable def in_init (a : Txt × Unit) : S_init := { self := ws0, ws := some a.1, S := none, T := none, count := none, b := none, n := none, nt := none, ch := none, msz := 0 }
noncomputable def fn_Whitespace (a : Txt × Unit) : Option (Ins 138 WS) := match f_init (in_init a) with | some (.next y) => some ⟨y.self⟩ | _ => none
theorem ok_Whitespace (prog : Program) (w : World) (mg mb : Str → Option Value) (a : Txt × Unit) (r : Ins 138 WS) (h : fn_Whitespace a = some r) : CallS (c2 prog w mg mb) 22 (.ref 138) a r := by
  unfold fn_Whitespace at h
  split at h
  case h_2 => cases h
  rename_i y hy
  cases h
  refine cls_ok (c := (c2 prog w mg mb)) (C := 138) (fa := 93) (n := 20) (f := f_init) "self" ["ws"] in_init sh_init 0 ws0 (fun y => y.self) (fun y => y.msz) (by kernel_rfl) (by kernel_rfl) (by kernel_rfl) rfl (by kernel_rfl) rfl rfl rfl rfl rfl rfl rfl ?_ (by decide) rfl rfl (fun _ _ => rfl) (fun _ _ => ?_) (fun _ _ => rfl) (fun _ _ => rfl) ?_ (fun _ _ => rfl) (fun a x => ?_) ?_ a y hy
  · intro vs h; obtain ⟨_, _, rfl⟩ := len2 h; rfl
  · exact (by decide : (["self", "ws", "S", "T", "count", "b", "n", "nt", "ch"] : List Str).Nodup)
  · exact (List.forall_mem_cons.mpr ⟨(fun _ _ _ _ h => nomatch h), (List.forall_mem_cons.mpr ⟨(fun _ _ _ _ h => nomatch h), (List.forall_mem_cons.mpr ⟨(fun _ _ _ _ h => nomatch h), (List.forall_mem_cons.mpr ⟨(fun _ _ _ _ h => nomatch h), (List.forall_mem_cons.mpr ⟨(fun _ _ _ _ h => nomatch h), (fun _ h => nomatch h)⟩)⟩)⟩)⟩)⟩)
  · exact (List.forall_mem_cons.mpr ⟨.inl (.head _), (List.forall_mem_cons.mpr ⟨.inl (.tail _ (.head _)), (List.forall_mem_cons.mpr ⟨.inr (fun _ _ _ _ h => nomatch h), (List.forall_mem_cons.mpr ⟨.inr (fun _ _ _ _ h => nomatch h), (List.forall_mem_cons.mpr ⟨.inr (fun _ _ _ _ h => nomatch h), (List.forall_mem_cons.mpr ⟨.inr (fun _ _ _ _ h => nomatch h), (List.forall_mem_cons.mpr ⟨.inr (fun _ _ _ _ h => nomatch h), (List.forall_mem_cons.mpr ⟨.inr (fun _ _ _ _ h => nomatch h), (List.forall_mem_cons.mpr ⟨.inr (fun _ _ _ _ h => nomatch h), (fun _ h => nomatch h)⟩)⟩)⟩)⟩)⟩)⟩)⟩)⟩)⟩)
  · intro ad L s F P
    unfold f_init
    exact (exs_cons (ex_setattr (m := fun x : S_init => x.msz) (z := fun x : S_init => x.self) (upA := fun (z : WS) b => { z with raw := some b }) 0 0 (fun _ => rfl) rfl (fun x => (ev_name 1 rfl rfl)) (fun _ => ⟨_, rfl⟩) (fun _ _ => rfl) (by kernel_rfl)) (exs_cons (ex_assign_swap (up := fun (x : S_init) a b => { { x with T := some b } with S := some a }) 2 3 (fun x => (ev_tuple (evL_cons (ev_clsattr (⟨[32]⟩ : Txt) rfl (g_Whitespace ..) (ca_reads ..) (ca_S ..)) (evL_cons (ev_clsattr (⟨[9]⟩ : Txt) rfl (g_Whitespace ..) (ca_reads ..) (ca_T ..)) evL_nil)) (tupLen (by decide)))) (fun _ => ⟨_, rfl⟩) (fun _ _ => ⟨_, rfl⟩) (fun _ _ _ => rfl) rfl rfl) (exs_cons (ex_assignF 4 1 (fun x => (ev_list evH_nil))) (exs_cons (ex_assign3 (up := fun (x : S_init) a => { { { x with b := some a } with n := some a } with nt := some a }) 5 6 7 (fun x => ev_int) (fun _ => ⟨_, rfl⟩) (fun _ _ => ⟨_, rfl⟩) (fun _ _ => ⟨_, rfl⟩) (fun _ _ => rfl) rfl) (exs_cons (ex_for (fun x => (ev_attrI (sel := fun z : WS => z.raw) 0 0 rfl rfl rfl (by kernel_rfl))) hit_txt (fun _ _ => asg_name 8) (fun _ _ => (exs_one (ex_if (fun x => (tst_cmp (ev_name 8 rfl rfl) (ev_name 2 rfl rfl) (fun _ _ _ h => s_eqT h))) (exs_cons (ex_assign 6 (fun x => (ev_bin (ev_name 6 rfl rfl) ev_int (fun _ _ _ h => s_addI h)))) (exs_one (ex_assign 5 (fun x => (ev_bin (ev_name 5 rfl rfl) ev_int (fun _ _ _ h => s_addI h)))))) (exs_one (ex_if (fun x => (tst_cmp (ev_name 8 rfl rfl) (ev_name 3 rfl rfl) (fun _ _ _ h => s_eqT h))) (exs_cons (ex_assign 6 (fun x => (ev_bin (ev_name 6 rfl rfl) ev_int (fun _ _ _ h => s_addI h)))) (exs_cons (ex_assign 7 (fun x => (ev_bin (ev_name 7 rfl rfl) ev_int (fun _ _ _ h => s_addI h)))) (exs_cons (ex_if (fun x => (tst_cmp (ev_name 5 rfl rfl) (ev_callR rfl (g_len ..) kp_builtin (evR_own 4 rfl rfl) (fun _ _ h => s_lenL h)) (fun _ _ _ h => s_geI h))) (exs_one (ex_assignF 4 1 (fun x => (ev_addL (evR_own 4 rfl rfl) (Ev.r (EvF.ev (ev_mulL (Ev.r (EvF.ev (ev_list (evH_cons ev_int evH_nil)))) (ev_bin (ev_bin (ev_name 5 rfl rfl) (ev_callR rfl (g_len ..) kp_builtin (evR_own 4 rfl rfl) (fun _ _ h => s_lenL h)) (fun _ _ _ h => s_subI h)) ev_int (fun _ _ _ h => s_addI h))))))))) exs_nil) (exs_cons (ex_setitem 4 1 (fun _ => rfl) rfl (fun x => (ev_bin (ev_indexR (evR_own 4 rfl rfl) (ev_name 5 rfl rfl)) ev_int (fun _ _ _ h => s_addI h))) (fun x => (ev_name 5 rfl rfl))) (exs_one (ex_assign 5 (fun x => ev_int))))))) (exs_one ex_break))))))) (exs_cons (ex_setattr (m := fun x : S_init => x.msz) (z := fun x : S_init => x.self) (upA := fun (z : WS) b => { z with n := some b }) 0 1 (fun _ => rfl) rfl (fun x => (ev_name 6 rfl rfl)) (fun _ => ⟨_, rfl⟩) (fun _ _ => rfl) (by kernel_rfl)) (exs_cons (ex_setattr (m := fun x : S_init => x.msz) (z := fun x : S_init => x.self) (upA := fun (z : WS) b => { z with nt := some b }) 0 2 (fun _ => rfl) rfl (fun x => (ev_name 7 rfl rfl)) (fun _ => ⟨_, rfl⟩) (fun _ _ => rfl) (by kernel_rfl)) (exs_cons (ex_setattr (m := fun x : S_init => x.msz) (z := fun x : S_init => x.self) (upA := fun (z : WS) b => { z with norm := some b }) 0 3 (fun _ => rfl) rfl (fun x => (ev_tuple (evL_cons (ev_callR rfl (g_tuple ..) kp_type (evR_own 4 rfl rfl) (fun _ _ h => s_tupL h)) (evL_cons (ev_name 5 rfl rfl) evL_nil)) (tupLen (by decide)))) (fun _ => ⟨_, rfl⟩) (fun _ _ => rfl) (by kernel_rfl)) (exs_one (ex_setattr (m := fun x : S_init => x.msz) (z := fun x : S_init => x.self) (upA := fun (z : WS) b => { z with is_simple := some b }) 0 4 (fun _ => rfl) rfl (fun x => (ev_cmp (ev_callR rfl (g_len ..) kp_builtin (evR_own 4 rfl rfl) (fun _ _ h => s_lenL h)) ev_int (fun _ _ _ h => s_leI h))) (fun _ => ⟨_, rfl⟩) (fun _ _ => rfl) (by kernel_rfl)))))))))))
end Mine
namespace Mine
open PySem PySem.W PyProof.Rows PySem.Calls

structure S_indent_level where
  self : Option (Ins 138 WS)
  tabsize : Option Int
  count : Option (TL Int)
  trailing : Option Int
  il : Option Int
  i : Option Int
noncomputable def sh_indent_level (x : S_indent_level) : Sh := [("self", val x.self), ("tabsize", val x.tabsize), ("count", val x.count), ("trailing", val x.trailing), ("il", val x.il), ("i", val x.i)]
noncomputable def fb_indent_level_1 (x : S_indent_level) : Option (Fl S_indent_level Int) := ((bind2 (x.il) ((bind2 ((bind2 (x.i) (x.tabsize) divI)) ((bind2 (x.count) (x.i) fun xs k => getL xs.items k)) mulI)) addI)).bind fun a => some (.next { x with il := some a })
noncomputable def f_indent_level (x : S_indent_level) : Option (Fl S_indent_level Int) := ((((x.self).bind fun x => x.it.norm)).bind fun a => some (.next ((fun (x : S_indent_level) (t : (Tup ((TL Int) × Int × Unit))) => { { x with count := some t.it.1 } with trailing := some t.it.2.1 }) x a))).bind (thenF fun x => (((some (0 : Int))).bind fun a => some (.next { x with il := some a })).bind (thenF fun x => (((((bind2 (x.tabsize) ((bind2 ((((bind2 (x.count) ((some ())) fun a t => some (a, t))).bind fun t => lenTL t.1)) ((some ())) fun a t => some (a, t))) fun a t => some (a, t))).bind fun t => some (⟨t.1, t.2.1⟩ : Rng))).bind fun k => (rngI k).bind fun xs => forF fb_indent_level_1 (fun x a => { x with i := some a }) xs x).bind (thenF fun x => ((bind2 (x.trailing) ((bind2 (x.tabsize) ((bind2 (x.il) (((x.self).bind fun x => x.it.nt)) addI)) mulI)) addI)).bind fun a => some (.ret a))))
noncomputable def in_indent_level (a : (Ins 138 WS) × Int × Unit) : S_indent_level := { self := some a.1, tabsize := some a.2.1, count := none, trailing := none, il := none, i := none }
noncomputable def fn_indent_level (a : (Ins 138 WS) × Int × Unit) : Option Int := retOf (f_indent_level (in_indent_level a))
theorem ok_indent_level (prog : Program) (w : World) (mg mb : Str → Option Value) (a : (Ins 138 WS) × Int × Unit) (r : Int) (h : fn_indent_level a = some r) : CallS (c2 prog w mg mb) 21 (.ref 107) a r := by
  refine fn_ok (c := (c2 prog w mg mb)) (n := 20) (sh := sh_indent_level) (f := f_indent_level) ["self", "tabsize"] in_indent_level rfl (by kernel_rfl) rfl rfl rfl rfl rfl rfl rfl ?_ (by decide) rfl rfl (fun _ => rfl) (fun _ => ?_) (fun a => ?_) ?_ a r h
  · intro vs h; obtain ⟨_, _, rfl⟩ := len2 h; rfl
  · exact (by decide : (["self", "tabsize", "count", "trailing", "il", "i"] : List Str).Nodup)
  · exact (List.forall_mem_cons.mpr ⟨.inl (.head _), (List.forall_mem_cons.mpr ⟨.inl (.tail _ (.head _)), (List.forall_mem_cons.mpr ⟨.inr (fun _ _ _ _ h => nomatch h), (List.forall_mem_cons.mpr ⟨.inr (fun _ _ _ _ h => nomatch h), (List.forall_mem_cons.mpr ⟨.inr (fun _ _ _ _ h => nomatch h), (List.forall_mem_cons.mpr ⟨.inr (fun _ _ _ _ h => nomatch h), (fun _ h => nomatch h)⟩)⟩)⟩)⟩)⟩)⟩)
  · intro L s F P
    unfold f_indent_level
    exact (exs_cons (ex_assignT (fun x => (ev_attr (sel := fun z : WS => z.norm) 3 (ev_name 0 rfl rfl) (fun _ => rfl) (by kernel_rfl))) (asg_tuple (asgL_cons (set1 := (fun (x : S_indent_level) a => { x with count := some a })) (asg_name 2) (asgL_cons (set1 := (fun (x : S_indent_level) a => { x with trailing := some a })) (asg_name 3) asgL_nil)))) (exs_cons (ex_assign 4 (fun x => ev_int)) (exs_cons (ex_for (fun x => (ev_call rfl (g_range ..) kp_type (evL_cons (ev_name 1 rfl rfl) (evL_cons (ev_call rfl (g_len ..) kp_builtin (evL_cons (ev_name 2 rfl rfl) evL_nil) (fun _ _ h => s_lenTL h)) evL_nil)) (fun _ _ h => s_range2 h))) hit_rng (fun _ _ => asg_name 5) (fun _ _ => (exs_one (ex_assign 4 (fun x => (ev_bin (ev_name 4 rfl rfl) (ev_bin (ev_bin (ev_name 5 rfl rfl) (ev_name 1 rfl rfl) (fun _ _ _ h => s_divI h)) (ev_indexTL (ev_name 2 rfl rfl) (ev_name 5 rfl rfl)) (fun _ _ _ h => s_mulI h)) (fun _ _ _ h => s_addI h))))))) (exs_one (ex_return (fun x => (ev_bin (ev_name 3 rfl rfl) (ev_bin (ev_name 1 rfl rfl) (ev_bin (ev_name 4 rfl rfl) (ev_attr (sel := fun z : WS => z.nt) 2 (ev_name 0 rfl rfl) (fun _ => rfl) (by kernel_rfl)) (fun _ _ _ h => s_addI h)) (fun _ _ _ h => s_mulI h)) (fun _ _ _ h => s_addI h))))))))
end Mine
namespace Mine
open PySem PySem.W PyProof.Rows PySem.Calls

structure S__law_lacking where
  paints : Option (List (List Int))
  mixed : Option (List Flt)
  told : Option (Tup (Flt × Flt × Flt × Unit))
  share : Option Flt
noncomputable def sh__law_lacking (x : S__law_lacking) : Sh := [("paints", val x.paints), ("mixed", val x.mixed), ("told", val x.told), ("share", val x.share)]
noncomputable def f__law_lacking (x : S__law_lacking) : Option (Fl S__law_lacking (List Int)) := ((((((bind2 ((some (3 : Int))) ((some ())) fun a t => some (a, t))).bind fun t => some (⟨0, t.1⟩ : Rng))).bind fun k => (rngI k).bind fun xs => compC (fun _ => some true) (fun a1 => (bind2 (((((x.paints).bind fun k => (some k).bind fun xs => compC (fun _ => some true) (fun a2 => (bind2 ((some a2)) ((some a1)) fun xs k => getL xs k)) xs)).bind (fun xs => some xs.sum))) ((some (⟨4616189618054758400⟩ : Flt))) divIX)) xs).bind fun a => some (.next { x with mixed := some a })).bind (thenF fun x => (((((bind2 ((bind2 (x.mixed) ((some (0 : Int))) fun xs k => getL xs k)) ((bind2 ((bind2 (x.mixed) ((some (1 : Int))) fun xs k => getL xs k)) ((bind2 ((bind2 (x.mixed) ((some (2 : Int))) fun xs k => getL xs k)) ((some ())) fun a t => some (a, t))) fun a t => some (a, t))) fun a t => some (a, t))).bind fn_rgb_to_hsv)).bind fun a => some (.next { x with told := some a })).bind (thenF fun x => (((some (⟨0⟩ : Flt))).bind fun a => some (.next { x with share := some a })).bind (thenF fun x => (((bind2 (((x.told).map fun x => x.it.2.1)) ((some (⟨0⟩ : Flt))) gtX)).bind fun b => if b then ((some (⟨4607182418800017408⟩ : Flt))).bind fun a => some (.next { x with share := some a }) else some (.next x)).bind (thenF fun x => ((((((bind2 ((bind2 (((x.told).map fun x => x.it.1)) ((some (⟨4602678819172646912⟩ : Flt))) addX)) ((bind2 (x.share) ((bind2 ((some (⟨4607182418800017408⟩ : Flt))) ((some ())) fun a t => some (a, t))) fun a t => some (a, t))) fun a t => some (a, t))).bind fn_hsv_to_rgb)).bind fun k => (some [k.it.1, k.it.2.1, k.it.2.2.1]).bind fun xs => compC (fun _ => some true) (fun a1 => (((bind2 ((bind2 ((some a1)) ((some (⟨4602678819172646912⟩ : Flt))) addX)) ((some ())) fun a t => some (a, t))).bind fun t => intX t.1)) xs)).bind fun a => some (.ret a)))))
noncomputable def in__law_lacking (a : (List (List Int)) × Unit) : S__law_lacking := { paints := some a.1, mixed := none, told := none, share := none }
noncomputable def fn__law_lacking (a : (List (List Int)) × Unit) : Option (List Int) := retOf (f__law_lacking (in__law_lacking a))
theorem ok__law_lacking (prog : Program) (w : World) (mg mb : Str → Option Value) (a : (List (List Int)) × Unit) (r : (List Int)) (h : fn__law_lacking a = some r) : CallS (c2 prog w mg mb) 25 (.ref 147) a r := by
  refine fn_ok (c := (c2 prog w mg mb)) (n := 24) (sh := sh__law_lacking) (f := f__law_lacking) ["paints"] in__law_lacking rfl (by kernel_rfl) rfl rfl rfl rfl rfl rfl rfl ?_ (by decide) rfl rfl (fun _ => rfl) (fun _ => ?_) (fun a => ?_) ?_ a r h
  · intro vs h; obtain ⟨_, rfl⟩ := len1 h; rfl
  · exact (by decide : (["paints", "mixed", "told", "share"] : List Str).Nodup)
  · exact (List.forall_mem_cons.mpr ⟨.inl (.head _), (List.forall_mem_cons.mpr ⟨.inr (fun _ _ _ _ h => nomatch h), (List.forall_mem_cons.mpr ⟨.inr (fun _ _ _ _ h => nomatch h), (List.forall_mem_cons.mpr ⟨.inr (fun _ _ _ _ h => nomatch h), (fun _ h => nomatch h)⟩)⟩)⟩)⟩)
  · intro L s F P
    unfold f__law_lacking
    exact (exs_cons (ex_assign_comp 1 [0] (fun x => (ev_call rfl (g_range ..) kp_type (evL_cons ev_int evL_nil) (fun _ _ h => s_range1 h))) hit_rng rfl (fun _ => rfl) (fun x => (fun _ _ _ => rfl)) (fun x => (fun a1 _ _ => (ev_bin (ev_callR rfl (g_sum ..) kp_builtin (Ev.r (EvF.ev (ev_comp [0] (ev_name 1 rfl rfl) hit_list rfl rfl (fun _ _ _ => rfl) (fun a2 _ _ => (ev_index (ev_name 0 rfl rfl) (ev_name 1 rfl rfl)))))) (fun _ _ h => s_sumL h)) ev_float (fun _ _ _ h => s_divIX h))))) (exs_cons (ex_assign 2 (fun x => (ev_call rfl (g_rgb_to_hsv ..) (k_rgb_to_hsv _ _ _ _) (evL_cons (ev_index (ev_name 1 rfl rfl) ev_int) (evL_cons (ev_index (ev_name 1 rfl rfl) ev_int) (evL_cons (ev_index (ev_name 1 rfl rfl) ev_int) evL_nil))) (fun _ _ h => CallS.le (ok_rgb_to_hsv _ _ _ _ _ _ h) (by decide))))) (exs_cons (ex_assign 3 (fun x => ev_float)) (exs_cons (ex_if (fun x => (tst_cmp (ev_field (k := 1) (ev_name 2 rfl rfl) fld1) ev_float (fun _ _ _ h => s_gtX h))) (exs_one (ex_assign 3 (fun x => ev_float))) exs_nil) (exs_one (ex_return (fun x => (EvF.ev (ev_comp [] (ev_call rfl (g_hsv_to_rgb ..) (k_hsv_to_rgb _ _ _ _) (evL_cons (ev_bin (ev_field (k := 0) (ev_name 2 rfl rfl) fld0) ev_float (fun _ _ _ h => s_addX h)) (evL_cons (ev_name 3 rfl rfl) (evL_cons ev_float evL_nil))) (fun _ _ h => CallS.le (ok_hsv_to_rgb _ _ _ _ _ _ h) (by decide))) hit_tup3 rfl rfl (fun _ _ _ => rfl) (fun a1 _ _ => (ev_call rfl (g_int ..) kp_type (evL_cons (ev_bin (ev_name 0 rfl rfl) ev_float (fun _ _ _ h => s_addX h)) evL_nil) (fun _ _ h => s_intX h))))))))))))
end Mine
namespace Mine
open PySem PySem.W PyProof.Rows PySem.Calls

structure S__law_polygon where
  script : Option (List Int)
  rows : Option (List Txt)
  counts : Option (List Int)
  ways : Option (List (List Int))
  three : Option (List (List Int))
  four : Option (List (List Int))
  across : Option (List (List Int))
  glued : Option Int
  k : Option Int
  place : Option Int
  sent : Option (List Txt)
  fresh : Option (List Int)
noncomputable def sh__law_polygon (x : S__law_polygon) : Sh := [("script", val x.script), ("rows", val x.rows), ("counts", val x.counts), ("ways", val x.ways), ("three", val x.three), ("four", val x.four), ("across", val x.across), ("glued", val x.glued), ("k", val x.k), ("place", val x.place), ("sent", val x.sent), ("fresh", val x.fresh)]
noncomputable def fb__law_polygon_1 (x : S__law_polygon) : Option (Fl S__law_polygon (Tup (Txt × (List Int) × (List (List Int)) × (List (List Int)) × (List (List Int)) × Unit))) := (((bind2 ((bind2 (((((x.script).bind fun xs => (((x.k).map some)).bind fun lo => ((some none)).bind fun hi => (x.glued).bind fun k => stepL xs lo hi k)).bind (fun xs => some xs.sum))) (x.k) addI)) ((bind2 (x.k) ((some (3 : Int))) addI)) modI)).bind fun a => some (.next { x with place := some a })).bind (thenF fun x => (((bind2 (((x.rows).bind fun xs => (((x.place).map some)).bind fun lo => ((some none)).bind fun hi => sliceL xs lo hi)) (((x.rows).bind fun xs => ((some none)).bind fun lo => (((x.place).map some)).bind fun hi => sliceL xs lo hi)) fun a b => addL a b)).bind fun a => some (.next { x with rows := some a })).bind (thenF fun x => (((bind2 (((x.counts).bind fun xs => (((x.place).map some)).bind fun lo => ((some none)).bind fun hi => sliceL xs lo hi)) (((x.counts).bind fun xs => ((some none)).bind fun lo => (((x.place).map some)).bind fun hi => sliceL xs lo hi)) fun a b => addL a b)).bind fun a => some (.next { x with counts := some a })).bind (thenF fun x => (((bind2 (((x.ways).bind fun xs => (((x.place).map some)).bind fun lo => ((some none)).bind fun hi => sliceL xs lo hi)) (((((x.ways).bind fun xs => ((some none)).bind fun lo => (((x.place).map some)).bind fun hi => sliceL xs lo hi)).bind fun k => (some k).bind fun xs => compC (fun _ => some true) (fun a1 => (bind2 ((((bind2 ((some a1)) ((some (0 : Int))) fun xs k => getL xs k)).bind negI)) ((bind2 ((((bind2 ((some a1)) ((some (1 : Int))) fun xs k => getL xs k)).bind negI)) ((some [])) fun a t => some (a :: t))) fun a t => some (a :: t))) xs)) fun a b => addL a b)).bind fun a => some (.next { x with ways := some a })).bind (thenF fun x => (((bind2 (((x.three).bind fun xs => (((x.place).map some)).bind fun lo => ((some none)).bind fun hi => sliceL xs lo hi)) (((x.three).bind fun xs => ((some none)).bind fun lo => (((x.place).map some)).bind fun hi => sliceL xs lo hi)) fun a b => addL a b)).bind fun a => some (.next { x with three := some a })).bind (thenF fun x => (((bind2 (((x.four).bind fun xs => (((x.place).map some)).bind fun lo => ((some none)).bind fun hi => sliceL xs lo hi)) (((x.four).bind fun xs => ((some none)).bind fun lo => (((x.place).map some)).bind fun hi => sliceL xs lo hi)) fun a b => addL a b)).bind fun a => some (.next { x with four := some a })).bind (thenF fun x => (((bind2 (((x.across).bind fun xs => (((x.place).map some)).bind fun lo => ((some none)).bind fun hi => sliceL xs lo hi)) (((x.across).bind fun xs => ((some none)).bind fun lo => (((x.place).map some)).bind fun hi => sliceL xs lo hi)) fun a b => addL a b)).bind fun a => some (.next { x with across := some a })).bind (thenF fun x => (((bind2 ((((bind2 ((bind2 ((bind2 (x.rows) ((some (0 : Int))) fun xs k => getL xs k)) ((bind2 (x.rows) ((some (1 : Int))) fun xs k => getL xs k)) addT)) ((some ())) fun a t => some (a, t))).bind fn_quotedata)) ((bind2 ((some (⟨[13,10]⟩ : Txt))) ((some ())) fun a t => some (a, t))) fun x y => splitT x y.1)).bind fun a => some (.next { x with sent := some a })).bind (thenF fun x => (((bind2 ((bind2 ((bind2 ((bind2 (x.sent) ((some (0 : Int))) fun xs k => getL xs k)) ((some (⟨[13,10]⟩ : Txt))) addT)) ((bind2 ((bind2 ((some (⟨[46]⟩ : Txt))) ((bind2 ((bind2 ((some (⟨[10]⟩ : Txt))) ((bind2 ((some (⟨[13]⟩ : Txt))) ((bind2 ((some (⟨[13,10]⟩ : Txt))) ((some [])) fun a t => some (a :: t))) fun a t => some (a :: t))) fun a t => some (a :: t))) ((bind2 (x.k) ((some (3 : Int))) modI)) fun xs k => getL xs k)) addT)) ((bind2 ((bind2 ((bind2 (x.sent) ((some (1 : Int))) fun xs k => getL xs k)) ((some (⟨[13,10]⟩ : Txt))) addT)) ((some [])) fun a t => some (a :: t))) fun a t => some (a :: t))) fun a t => some (a :: t))) (((x.rows).bind fun xs => ((((some (2 : Int))).map some)).bind fun lo => ((some none)).bind fun hi => sliceL xs lo hi)) fun a b => addL a b)).bind fun a => some (.next { x with rows := some a })).bind (thenF fun x => (((bind2 ((bind2 ((bind2 ((bind2 (x.counts) ((some (0 : Int))) fun xs k => getL xs k)) ((some (1 : Int))) addI)) ((bind2 ((some (1 : Int))) ((bind2 ((bind2 ((bind2 (x.counts) ((some (1 : Int))) fun xs k => getL xs k)) ((some (1 : Int))) addI)) ((some [])) fun a t => some (a :: t))) fun a t => some (a :: t))) fun a t => some (a :: t))) (((x.counts).bind fun xs => ((((some (2 : Int))).map some)).bind fun lo => ((some none)).bind fun hi => sliceL xs lo hi)) fun a b => addL a b)).bind fun a => some (.next { x with counts := some a })).bind (thenF fun x => (((bind2 ((bind2 ((bind2 (x.ways) ((some (0 : Int))) fun xs k => getL xs k)) ((bind2 ((bind2 ((bind2 ((bind2 ((bind2 (x.ways) ((some (0 : Int))) fun xs k => getL xs k)) ((some (0 : Int))) fun xs k => getL xs k)) ((bind2 ((bind2 (x.ways) ((some (1 : Int))) fun xs k => getL xs k)) ((some (0 : Int))) fun xs k => getL xs k)) addI)) ((bind2 ((bind2 ((bind2 ((bind2 (x.ways) ((some (0 : Int))) fun xs k => getL xs k)) ((some (1 : Int))) fun xs k => getL xs k)) ((bind2 ((bind2 (x.ways) ((some (1 : Int))) fun xs k => getL xs k)) ((some (1 : Int))) fun xs k => getL xs k)) addI)) ((some [])) fun a t => some (a :: t))) fun a t => some (a :: t))) ((some [])) fun a t => some (a :: t))) fun a t => some (a :: t))) (((x.ways).bind fun xs => ((((some (1 : Int))).map some)).bind fun lo => ((some none)).bind fun hi => sliceL xs lo hi)) fun a b => addL a b)).bind fun a => some (.next { x with ways := some a })).bind (thenF fun x => (((bind2 ((bind2 ((bind2 (x.three) ((some (0 : Int))) fun xs k => getL xs k)) ((bind2 ((((bind2 (((x.three).bind fun xs => ((some none)).bind fun lo => ((((some (2 : Int))).map some)).bind fun hi => sliceL xs lo hi)) ((some ())) fun a t => some (a, t))).bind fn__law_lacking)) ((some [])) fun a t => some (a :: t))) fun a t => some (a :: t))) (((x.three).bind fun xs => ((((some (1 : Int))).map some)).bind fun lo => ((some none)).bind fun hi => sliceL xs lo hi)) fun a b => addL a b)).bind fun a => some (.next { x with three := some a })).bind (thenF fun x => (((((bind2 ((bind2 ((bind2 (x.four) ((some (0 : Int))) fun xs k => getL xs k)) ((bind2 ((bind2 (x.four) ((some (1 : Int))) fun xs k => getL xs k)) ((bind2 ((bind2 (x.across) ((some (0 : Int))) fun xs k => getL xs k)) ((some [])) fun a t => some (a :: t))) fun a t => some (a :: t))) fun a t => some (a :: t))) ((some ())) fun a t => some (a, t))).bind fn__law_lacking)).bind fun a => some (.next { x with fresh := some a })).bind (thenF fun x => (((bind2 ((bind2 ((bind2 (x.four) ((some (1 : Int))) fun xs k => getL xs k)) ((bind2 ((bind2 (x.four) ((some (0 : Int))) fun xs k => getL xs k)) ((some [])) fun a t => some (a :: t))) fun a t => some (a :: t))) (((x.across).bind fun xs => ((((some (1 : Int))).map some)).bind fun lo => ((some none)).bind fun hi => sliceL xs lo hi)) fun a b => addL a b)).bind fun a => some (.next { x with across := some a })).bind (thenF fun x => ((bind2 ((bind2 ((bind2 (x.four) ((some (0 : Int))) fun xs k => getL xs k)) ((bind2 (x.fresh) ((some [])) fun a t => some (a :: t))) fun a t => some (a :: t))) (((x.four).bind fun xs => ((((some (1 : Int))).map some)).bind fun lo => ((some none)).bind fun hi => sliceL xs lo hi)) fun a b => addL a b)).bind fun a => some (.next { x with four := some a })))))))))))))))
noncomputable def f__law_polygon (x : S__law_polygon) : Option (Fl S__law_polygon (Tup (Txt × (List Int) × (List (List Int)) × (List (List Int)) × (List (List Int)) × Unit))) := (((bind2 ((some (⟨[46,10]⟩ : Txt))) ((bind2 ((some (⟨[46,13]⟩ : Txt))) ((bind2 ((some (⟨[46,13,10]⟩ : Txt))) ((some [])) fun a t => some (a :: t))) fun a t => some (a :: t))) fun a t => some (a :: t))).bind fun a => some (.next { x with rows := some a })).bind (thenF fun x => (((bind2 ((some (1 : Int))) ((bind2 ((some (1 : Int))) ((bind2 ((some (1 : Int))) ((some [])) fun a t => some (a :: t))) fun a t => some (a :: t))) fun a t => some (a :: t))).bind fun a => some (.next { x with counts := some a })).bind (thenF fun x => (((bind2 ((bind2 ((some (1 : Int))) ((bind2 ((some (0 : Int))) ((some [])) fun a t => some (a :: t))) fun a t => some (a :: t))) ((bind2 ((bind2 ((some (1 : Int))) ((bind2 ((some (1 : Int))) ((some [])) fun a t => some (a :: t))) fun a t => some (a :: t))) ((bind2 ((bind2 ((some (0 : Int))) ((bind2 ((some (1 : Int))) ((some [])) fun a t => some (a :: t))) fun a t => some (a :: t))) ((some [])) fun a t => some (a :: t))) fun a t => some (a :: t))) fun a t => some (a :: t))).bind fun a => some (.next { x with ways := some a })).bind (thenF fun x => (((bind2 ((bind2 ((some (1 : Int))) ((bind2 ((some (0 : Int))) ((bind2 ((some (0 : Int))) ((some [])) fun a t => some (a :: t))) fun a t => some (a :: t))) fun a t => some (a :: t))) ((bind2 ((bind2 ((some (0 : Int))) ((bind2 ((some (1 : Int))) ((bind2 ((some (0 : Int))) ((some [])) fun a t => some (a :: t))) fun a t => some (a :: t))) fun a t => some (a :: t))) ((bind2 ((bind2 ((some (0 : Int))) ((bind2 ((some (0 : Int))) ((bind2 ((some (1 : Int))) ((some [])) fun a t => some (a :: t))) fun a t => some (a :: t))) fun a t => some (a :: t))) ((some [])) fun a t => some (a :: t))) fun a t => some (a :: t))) fun a t => some (a :: t))).bind fun a => some (.next { x with three := some a })).bind (thenF fun x => ((x.three).bind fun a => some (.next { x with four := some a })).bind (thenF fun x => (((bind2 ((bind2 (x.three) ((some (2 : Int))) fun xs k => getL xs k)) ((bind2 ((bind2 (x.three) ((some (0 : Int))) fun xs k => getL xs k)) ((bind2 ((bind2 (x.three) ((some (1 : Int))) fun xs k => getL xs k)) ((some [])) fun a t => some (a :: t))) fun a t => some (a :: t))) fun a t => some (a :: t))).bind fun a => some (.next { x with across := some a })).bind (thenF fun x => (((bind2 ((some (2 : Int))) ((bind2 ((bind2 (((x.script).bind lenL)) ((some (2 : Int))) divI)) ((some (3 : Int))) modI)) addI)).bind fun a => some (.next { x with glued := some a })).bind (thenF fun x => (((((bind2 (x.glued) ((some ())) fun a t => some (a, t))).bind fun t => some (⟨0, t.1⟩ : Rng))).bind fun k => (rngI k).bind fun xs => forF fb__law_polygon_1 (fun x a => { x with k := some a }) xs x).bind (thenF fun x => ((((bind2 ((((bind2 (((x.rows).bind joinT)) ((some ())) fun a t => some (a, t))).bind fn__fix_eols)) ((bind2 (x.counts) ((bind2 (x.ways) ((bind2 (x.three) ((bind2 (x.four) ((some ())) fun a t => some (a, t))) fun a t => some (a, t))) fun a t => some (a, t))) fun a t => some (a, t))) fun a t => some (a, t))).map Tup.mk)).bind fun a => some (.ret a)))))))))
noncomputable def in__law_polygon (a : (List Int) × Unit) : S__law_polygon := { script := some a.1, rows := none, counts := none, ways := none, three := none, four := none, across := none, glued := none, k := none, place := none, sent := none, fresh := none }
noncomputable def fn__law_polygon (a : (List Int) × Unit) : Option (Tup (Txt × (List Int) × (List (List Int)) × (List (List Int)) × (List (List Int)) × Unit)) := retOf (f__law_polygon (in__law_polygon a))
theorem ok__law_polygon (prog : Program) (w : World) (mg mb : Str → Option Value) (a : (List Int) × Unit) (r : (Tup (Txt × (List Int) × (List (List Int)) × (List (List Int)) × (List (List Int)) × Unit))) (h : fn__law_polygon a = some r) : CallS (c2 prog w mg mb) 27 (.ref 152) a r := by
  refine fn_ok (c := (c2 prog w mg mb)) (n := 26) (sh := sh__law_polygon) (f := f__law_polygon) ["script"] in__law_polygon rfl (by kernel_rfl) rfl rfl rfl rfl rfl rfl rfl ?_ (by decide) rfl rfl (fun _ => rfl) (fun _ => ?_) (fun a => ?_) ?_ a r h
  · intro vs h; obtain ⟨_, rfl⟩ := len1 h; rfl
  · exact (by decide : (["script", "rows", "counts", "ways", "three", "four", "across", "glued", "k", "place", "sent", "fresh"] : List Str).Nodup)
  · exact (List.forall_mem_cons.mpr ⟨.inl (.head _), (List.forall_mem_cons.mpr ⟨.inr (fun _ _ _ _ h => nomatch h), (List.forall_mem_cons.mpr ⟨.inr (fun _ _ _ _ h => nomatch h), (List.forall_mem_cons.mpr ⟨.inr (fun _ _ _ _ h => nomatch h), (List.forall_mem_cons.mpr ⟨.inr (fun _ _ _ _ h => nomatch h), (List.forall_mem_cons.mpr ⟨.inr (fun _ _ _ _ h => nomatch h), (List.forall_mem_cons.mpr ⟨.inr (fun _ _ _ _ h => nomatch h), (List.forall_mem_cons.mpr ⟨.inr (fun _ _ _ _ h => nomatch h), (List.forall_mem_cons.mpr ⟨.inr (fun _ _ _ _ h => nomatch h), (List.forall_mem_cons.mpr ⟨.inr (fun _ _ _ _ h => nomatch h), (List.forall_mem_cons.mpr ⟨.inr (fun _ _ _ _ h => nomatch h), (List.forall_mem_cons.mpr ⟨.inr (fun _ _ _ _ h => nomatch h), (fun _ h => nomatch h)⟩)⟩)⟩)⟩)⟩)⟩)⟩)⟩)⟩)⟩)⟩)⟩)
  · intro L s F P
    unfold f__law_polygon
    exact (exs_cons (ex_assign 1 (fun x => (EvF.ev (ev_list (evH_cons (ev_str (⟨[46,10]⟩ : Txt) rfl) (evH_cons (ev_str (⟨[46,13]⟩ : Txt) rfl) (evH_cons (ev_str (⟨[46,13,10]⟩ : Txt) rfl) evH_nil))))))) (exs_cons (ex_assign 2 (fun x => (EvF.ev (ev_list (evH_cons ev_int (evH_cons ev_int (evH_cons ev_int evH_nil))))))) (exs_cons (ex_assign 3 (fun x => (EvF.ev (ev_list (evH_cons (EvF.ev (ev_list (evH_cons ev_int (evH_cons ev_int evH_nil)))) (evH_cons (EvF.ev (ev_list (evH_cons ev_int (evH_cons ev_int evH_nil)))) (evH_cons (EvF.ev (ev_list (evH_cons ev_int (evH_cons ev_int evH_nil)))) evH_nil))))))) (exs_cons (ex_assign 4 (fun x => (EvF.ev (ev_list (evH_cons (EvF.ev (ev_list (evH_cons ev_int (evH_cons ev_int (evH_cons ev_int evH_nil))))) (evH_cons (EvF.ev (ev_list (evH_cons ev_int (evH_cons ev_int (evH_cons ev_int evH_nil))))) (evH_cons (EvF.ev (ev_list (evH_cons ev_int (evH_cons ev_int (evH_cons ev_int evH_nil))))) evH_nil))))))) (exs_cons (ex_assign 5 (fun x => (ev_name 4 rfl rfl))) (exs_cons (ex_assign 6 (fun x => (EvF.ev (ev_list (evH_cons (ev_index (ev_name 4 rfl rfl) ev_int) (evH_cons (ev_index (ev_name 4 rfl rfl) ev_int) (evH_cons (ev_index (ev_name 4 rfl rfl) ev_int) evH_nil))))))) (exs_cons (ex_assign 7 (fun x => (ev_bin ev_int (ev_bin (ev_bin (ev_callR rfl (g_len ..) kp_builtin (Ev.r (ev_name 0 rfl rfl)) (fun _ _ h => s_lenL h)) ev_int (fun _ _ _ h => s_divI h)) ev_int (fun _ _ _ h => s_modI h)) (fun _ _ _ h => s_addI h)))) (exs_cons (ex_for (fun x => (ev_call rfl (g_range ..) kp_type (evL_cons (ev_name 7 rfl rfl) evL_nil) (fun _ _ h => s_range1 h))) hit_rng (fun _ _ => asg_name 8) (fun _ _ => (exs_cons (ex_assign 9 (fun x => (ev_bin (ev_bin (ev_callR rfl (g_sum ..) kp_builtin (Ev.r (EvF.ev (ev_sliceStep (ev_name 0 rfl rfl) (evP_some (ev_name 8 rfl rfl)) evP_none (ev_name 7 rfl rfl)))) (fun _ _ h => s_sumL h)) (ev_name 8 rfl rfl) (fun _ _ _ h => s_addI h)) (ev_bin (ev_name 8 rfl rfl) ev_int (fun _ _ _ h => s_addI h)) (fun _ _ _ h => s_modI h)))) (exs_cons (ex_assign 1 (fun x => (EvF.ev (ev_addL (Ev.r (EvF.ev (ev_slice (ev_name 1 rfl rfl) (evP_some (ev_name 9 rfl rfl)) evP_none))) (Ev.r (EvF.ev (ev_slice (ev_name 1 rfl rfl) evP_none (evP_some (ev_name 9 rfl rfl))))))))) (exs_cons (ex_assign 2 (fun x => (EvF.ev (ev_addL (Ev.r (EvF.ev (ev_slice (ev_name 2 rfl rfl) (evP_some (ev_name 9 rfl rfl)) evP_none))) (Ev.r (EvF.ev (ev_slice (ev_name 2 rfl rfl) evP_none (evP_some (ev_name 9 rfl rfl))))))))) (exs_cons (ex_assign 3 (fun x => (EvF.ev (ev_addL (Ev.r (EvF.ev (ev_slice (ev_name 3 rfl rfl) (evP_some (ev_name 9 rfl rfl)) evP_none))) (Ev.r (EvF.ev (ev_comp [] (EvF.ev (ev_slice (ev_name 3 rfl rfl) evP_none (evP_some (ev_name 9 rfl rfl)))) hit_list rfl rfl (fun _ _ _ => rfl) (fun a1 _ _ => (EvF.ev (ev_list (evH_cons (ev_un (ev_index (ev_name 0 rfl rfl) ev_int) (fun _ _ h => s_negI h)) (evH_cons (ev_un (ev_index (ev_name 0 rfl rfl) ev_int) (fun _ _ h => s_negI h)) evH_nil)))))))))))) (exs_cons (ex_assign 4 (fun x => (EvF.ev (ev_addL (Ev.r (EvF.ev (ev_slice (ev_name 4 rfl rfl) (evP_some (ev_name 9 rfl rfl)) evP_none))) (Ev.r (EvF.ev (ev_slice (ev_name 4 rfl rfl) evP_none (evP_some (ev_name 9 rfl rfl))))))))) (exs_cons (ex_assign 5 (fun x => (EvF.ev (ev_addL (Ev.r (EvF.ev (ev_slice (ev_name 5 rfl rfl) (evP_some (ev_name 9 rfl rfl)) evP_none))) (Ev.r (EvF.ev (ev_slice (ev_name 5 rfl rfl) evP_none (evP_some (ev_name 9 rfl rfl))))))))) (exs_cons (ex_assign 6 (fun x => (EvF.ev (ev_addL (Ev.r (EvF.ev (ev_slice (ev_name 6 rfl rfl) (evP_some (ev_name 9 rfl rfl)) evP_none))) (Ev.r (EvF.ev (ev_slice (ev_name 6 rfl rfl) evP_none (evP_some (ev_name 9 rfl rfl))))))))) (exs_cons (ex_assign 10 (fun x => (ev_meth getM_split (ev_call rfl (g_quotedata ..) (k_quotedata _ _ _ _) (evL_cons (ev_bin (ev_index (ev_name 1 rfl rfl) ev_int) (ev_index (ev_name 1 rfl rfl) ev_int) (fun _ _ _ h => s_addT h)) evL_nil) (fun _ _ h => CallS.le (ok_quotedata _ _ _ _ _ _ h) (by decide))) isStr_txt (evL_cons (ev_str (⟨[13,10]⟩ : Txt) rfl) evL_nil) (fun _ _ _ h => s_splitT h)))) (exs_cons (ex_assign 1 (fun x => (EvF.ev (ev_addL (Ev.r (EvF.ev (ev_list (evH_cons (ev_bin (ev_index (ev_name 10 rfl rfl) ev_int) (ev_str (⟨[13,10]⟩ : Txt) rfl) (fun _ _ _ h => s_addT h)) (evH_cons (ev_bin (ev_str (⟨[46]⟩ : Txt) rfl) (ev_index (EvF.ev (ev_list (evH_cons (ev_str (⟨[10]⟩ : Txt) rfl) (evH_cons (ev_str (⟨[13]⟩ : Txt) rfl) (evH_cons (ev_str (⟨[13,10]⟩ : Txt) rfl) evH_nil))))) (ev_bin (ev_name 8 rfl rfl) ev_int (fun _ _ _ h => s_modI h))) (fun _ _ _ h => s_addT h)) (evH_cons (ev_bin (ev_index (ev_name 10 rfl rfl) ev_int) (ev_str (⟨[13,10]⟩ : Txt) rfl) (fun _ _ _ h => s_addT h)) evH_nil)))))) (Ev.r (EvF.ev (ev_slice (ev_name 1 rfl rfl) (evP_some ev_int) evP_none))))))) (exs_cons (ex_assign 2 (fun x => (EvF.ev (ev_addL (Ev.r (EvF.ev (ev_list (evH_cons (ev_bin (ev_index (ev_name 2 rfl rfl) ev_int) ev_int (fun _ _ _ h => s_addI h)) (evH_cons ev_int (evH_cons (ev_bin (ev_index (ev_name 2 rfl rfl) ev_int) ev_int (fun _ _ _ h => s_addI h)) evH_nil)))))) (Ev.r (EvF.ev (ev_slice (ev_name 2 rfl rfl) (evP_some ev_int) evP_none))))))) (exs_cons (ex_assign 3 (fun x => (EvF.ev (ev_addL (Ev.r (EvF.ev (ev_list (evH_cons (ev_index (ev_name 3 rfl rfl) ev_int) (evH_cons (EvF.ev (ev_list (evH_cons (ev_bin (ev_index (ev_index (ev_name 3 rfl rfl) ev_int) ev_int) (ev_index (ev_index (ev_name 3 rfl rfl) ev_int) ev_int) (fun _ _ _ h => s_addI h)) (evH_cons (ev_bin (ev_index (ev_index (ev_name 3 rfl rfl) ev_int) ev_int) (ev_index (ev_index (ev_name 3 rfl rfl) ev_int) ev_int) (fun _ _ _ h => s_addI h)) evH_nil)))) evH_nil))))) (Ev.r (EvF.ev (ev_slice (ev_name 3 rfl rfl) (evP_some ev_int) evP_none))))))) (exs_cons (ex_assign 4 (fun x => (EvF.ev (ev_addL (Ev.r (EvF.ev (ev_list (evH_cons (ev_index (ev_name 4 rfl rfl) ev_int) (evH_cons (ev_call rfl (g__law_lacking ..) (k__law_lacking _ _ _ _) (evL_cons (EvF.ev (ev_slice (ev_name 4 rfl rfl) evP_none (evP_some ev_int))) evL_nil) (fun _ _ h => CallS.le (ok__law_lacking _ _ _ _ _ _ h) (by decide))) evH_nil))))) (Ev.r (EvF.ev (ev_slice (ev_name 4 rfl rfl) (evP_some ev_int) evP_none))))))) (exs_cons (ex_assign 11 (fun x => (ev_call rfl (g__law_lacking ..) (k__law_lacking _ _ _ _) (evL_cons (EvF.ev (ev_list (evH_cons (ev_index (ev_name 5 rfl rfl) ev_int) (evH_cons (ev_index (ev_name 5 rfl rfl) ev_int) (evH_cons (ev_index (ev_name 6 rfl rfl) ev_int) evH_nil))))) evL_nil) (fun _ _ h => CallS.le (ok__law_lacking _ _ _ _ _ _ h) (by decide))))) (exs_cons (ex_assign 6 (fun x => (EvF.ev (ev_addL (Ev.r (EvF.ev (ev_list (evH_cons (ev_index (ev_name 5 rfl rfl) ev_int) (evH_cons (ev_index (ev_name 5 rfl rfl) ev_int) evH_nil))))) (Ev.r (EvF.ev (ev_slice (ev_name 6 rfl rfl) (evP_some ev_int) evP_none))))))) (exs_one (ex_assign 5 (fun x => (EvF.ev (ev_addL (Ev.r (EvF.ev (ev_list (evH_cons (ev_index (ev_name 5 rfl rfl) ev_int) (evH_cons (ev_name 11 rfl rfl) evH_nil))))) (Ev.r (EvF.ev (ev_slice (ev_name 5 rfl rfl) (evP_some ev_int) evP_none)))))))))))))))))))))))) (exs_one (ex_return (fun x => (ev_tuple (evL_cons (ev_call rfl (g__fix_eols ..) (k__fix_eols _ _ _ _) (evL_cons (ev_join rfl (Ev.r (ev_name 1 rfl rfl))) evL_nil) (fun _ _ h => CallS.le (ok__fix_eols _ _ _ _ _ _ h) (by decide))) (evL_cons (ev_name 2 rfl rfl) (evL_cons (ev_name 3 rfl rfl) (evL_cons (ev_name 4 rfl rfl) (evL_cons (ev_name 5 rfl rfl) evL_nil))))) (tupLen (by decide))))))))))))))
end Mine
namespace Mine
open PySem PySem.W PyProof.Rows PySem.Calls

structure S__law_lead where
  runs : Option (List Int)
noncomputable def sh__law_lead (x : S__law_lead) : Sh := [("runs", val x.runs)]
noncomputable def f__law_lead (x : S__law_lead) : Option (Fl S__law_lead (Ins 138 WS)) := ((((bind2 ((bind2 (((((x.runs).bind fun k => (some k).bind fun xs => compC (fun _ => some true) (fun a1 => (bind2 ((bind2 ((some (⟨[32]⟩ : Txt))) ((some a1)) mulT)) ((some (⟨[9]⟩ : Txt))) addT)) xs)).bind joinT)) ((some (⟨[120,32,9]⟩ : Txt))) addT)) ((some ())) fun a t => some (a, t))).bind fn_Whitespace)).bind fun a => some (.ret a)
noncomputable def in__law_lead (a : (List Int) × Unit) : S__law_lead := { runs := some a.1 }
noncomputable def fn__law_lead (a : (List Int) × Unit) : Option (Ins 138 WS) := retOf (f__law_lead (in__law_lead a))
theorem ok__law_lead (prog : Program) (w : World) (mg mb : Str → Option Value) (a : (List Int) × Unit) (r : (Ins 138 WS)) (h : fn__law_lead a = some r) : CallS (c2 prog w mg mb) 25 (.ref 157) a r := by
  refine fn_ok (c := (c2 prog w mg mb)) (n := 24) (sh := sh__law_lead) (f := f__law_lead) ["runs"] in__law_lead rfl (by kernel_rfl) rfl rfl rfl rfl rfl rfl rfl ?_ (by decide) rfl rfl (fun _ => rfl) (fun _ => ?_) (fun a => ?_) ?_ a r h
  · intro vs h; obtain ⟨_, rfl⟩ := len1 h; rfl
  · exact (by decide : (["runs"] : List Str).Nodup)
  · exact (List.forall_mem_cons.mpr ⟨.inl (.head _), (fun _ h => nomatch h)⟩)
  · intro L s F P
    unfold f__law_lead
    exact (exs_one (ex_return (fun x => (ev_call rfl (g_Whitespace ..) (k_Whitespace _ _ _ _) (evL_cons (ev_bin (ev_join rfl (Ev.r (EvF.ev (ev_comp [] (ev_name 0 rfl rfl) hit_list rfl rfl (fun _ _ _ => rfl) (fun a1 _ _ => (ev_bin (ev_bin (ev_str (⟨[32]⟩ : Txt) rfl) (ev_name 0 rfl rfl) (fun _ _ _ h => s_mulT h)) (ev_str (⟨[9]⟩ : Txt) rfl) (fun _ _ _ h => s_addT h))))))) (ev_str (⟨[120,32,9]⟩ : Txt) rfl) (fun _ _ _ h => s_addT h)) evL_nil) (fun _ _ h => CallS.le (ok_Whitespace _ _ _ _ _ _ h) (by decide))))))
end Mine
namespace Mine
open PySem PySem.W PyProof.Rows PySem.Calls

structure S__law_gain where
  runs : Option (List Int)
  size : Option Int
noncomputable def sh__law_gain (x : S__law_gain) : Sh := [("runs", val x.runs), ("size", val x.size)]
noncomputable def f__law_gain (x : S__law_gain) : Option (Fl S__law_gain Int) := ((bind2 ((bind2 ((((bind2 (x.runs) ((some ())) fun a t => some (a, t))).bind fn__law_lead)) ((bind2 (x.size) ((some ())) fun a t => some (a, t))) fun x y => fn_indent_level (x, y))) ((bind2 ((((bind2 (((x.runs).bind fun k => (some k).bind fun xs => compC (fun _ => some true) (fun a1 => (bind2 ((some a1)) ((some (1 : Int))) subI)) xs)) ((some ())) fun a t => some (a, t))).bind fn__law_lead)) ((bind2 (x.size) ((some ())) fun a t => some (a, t))) fun x y => fn_indent_level (x, y))) subI)).bind fun a => some (.ret a)
noncomputable def in__law_gain (a : (List Int) × Int × Unit) : S__law_gain := { runs := some a.1, size := some a.2.1 }
noncomputable def fn__law_gain (a : (List Int) × Int × Unit) : Option Int := retOf (f__law_gain (in__law_gain a))
theorem ok__law_gain (prog : Program) (w : World) (mg mb : Str → Option Value) (a : (List Int) × Int × Unit) (r : Int) (h : fn__law_gain a = some r) : CallS (c2 prog w mg mb) 27 (.ref 162) a r := by
  refine fn_ok (c := (c2 prog w mg mb)) (n := 26) (sh := sh__law_gain) (f := f__law_gain) ["runs", "size"] in__law_gain rfl (by kernel_rfl) rfl rfl rfl rfl rfl rfl rfl ?_ (by decide) rfl rfl (fun _ => rfl) (fun _ => ?_) (fun a => ?_) ?_ a r h
  · intro vs h; obtain ⟨_, _, rfl⟩ := len2 h; rfl
  · exact (by decide : (["runs", "size"] : List Str).Nodup)
  · exact (List.forall_mem_cons.mpr ⟨.inl (.head _), (List.forall_mem_cons.mpr ⟨.inl (.tail _ (.head _)), (fun _ h => nomatch h)⟩)⟩)
  · intro L s F P
    unfold f__law_gain
    exact (exs_one (ex_return (fun x => (ev_bin (ev_methI (ev_call rfl (g__law_lead ..) (k__law_lead _ _ _ _) (evL_cons (ev_name 0 rfl rfl) evL_nil) (fun _ _ h => CallS.le (ok__law_lead _ _ _ _ _ _ h) (by decide))) (m_indent_level ..) (fun _ => rfl) (kk_indent_level ..) (evL_cons (ev_name 1 rfl rfl) evL_nil) (fun _ _ _ h => CallS.le (ok_indent_level _ _ _ _ _ _ h) (by decide))) (ev_methI (ev_call rfl (g__law_lead ..) (k__law_lead _ _ _ _) (evL_cons (EvF.ev (ev_comp [] (ev_name 0 rfl rfl) hit_list rfl rfl (fun _ _ _ => rfl) (fun a1 _ _ => (ev_bin (ev_name 0 rfl rfl) ev_int (fun _ _ _ h => s_subI h))))) evL_nil) (fun _ _ h => CallS.le (ok__law_lead _ _ _ _ _ _ h) (by decide))) (m_indent_level ..) (fun _ => rfl) (kk_indent_level ..) (evL_cons (ev_name 1 rfl rfl) evL_nil) (fun _ _ _ h => CallS.le (ok_indent_level _ _ _ _ _ _ h) (by decide))) (fun _ _ _ h => s_subI h)))))
end Mine
namespace Mine
open PySem PySem.W PyProof.Rows PySem.Calls

structure S_law where
  script : Option (List Int)
  mail : Option Txt
  counts : Option (List Int)
  ways : Option (List (List Int))
  three : Option (List (List Int))
  four : Option (List (List Int))
  dots : Option (List Int)
  corners : Option Int
  i : Option Int
  others : Option (List Int)
  runs : Option (List Int)
  old : Option Int
  now : Option Int
  j : Option Int
  due : Option Int
  size : Option Int
  paint : Option (List (List Int))
  alike : Option (List Int)
  unlike : Option (List Int)
noncomputable def sh_law (x : S_law) : Sh := [("script", val x.script), ("mail", val x.mail), ("counts", val x.counts), ("ways", val x.ways), ("three", val x.three), ("four", val x.four), ("dots", val x.dots), ("corners", val x.corners), ("i", val x.i), ("others", val x.others), ("runs", own 1 x.runs), ("old", val x.old), ("now", val x.now), ("j", val x.j), ("due", val x.due), ("size", val x.size), ("paint", val x.paint), ("alike", val x.alike), ("unlike", val x.unlike)]
noncomputable def fb_law_1 (x : S_law) : Option (Fl S_law Bool) := ((x.runs).bind fun xs => (x.now).bind fun a => (appL xs a).bind fun r => some (.next { x with runs := some r })).bind (thenF fun x => (((bind2 ((bind2 ((bind2 (x.dots) (x.j) fun xs k => getL xs k)) (x.now) mulI)) (x.old) subI)).bind fun a => some (.next { x with due := some a })).bind (thenF fun x => ((x.now).bind fun a => some (.next { x with old := some a })).bind (thenF fun x => (x.due).bind fun a => some (.next { x with now := some a }))))
noncomputable def fb_law_2 (x : S_law) : Option (Fl S_law Bool) := ((((((bind2 ((bind2 (x.corners) ((some (1 : Int))) subI)) ((some ())) fun a t => some (a, t))).bind fun t => some (⟨0, t.1⟩ : Rng))).bind fun k => (rngI k).bind fun xs => compC (fun a1 => (bind2 ((bind2 (x.paint) ((bind2 (x.others) ((some a1)) fun xs k => getL xs k)) fun xs k => getL xs k)) ((bind2 (x.paint) (x.i) fun xs k => getL xs k)) fun a b => some (eqL RepD.eqd a b))) (fun a1 => (bind2 (x.runs) ((some a1)) fun xs k => getL xs k)) xs).bind fun a => some (.next { x with alike := some a })).bind (thenF fun x => ((((((bind2 ((bind2 (x.corners) ((some (1 : Int))) subI)) ((some ())) fun a t => some (a, t))).bind fun t => some (⟨0, t.1⟩ : Rng))).bind fun k => (rngI k).bind fun xs => compC (fun a1 => (bind2 ((bind2 (x.paint) ((bind2 (x.others) ((some a1)) fun xs k => getL xs k)) fun xs k => getL xs k)) ((bind2 (x.paint) (x.i) fun xs k => getL xs k)) fun a b => some (!eqL RepD.eqd a b))) (fun a1 => (bind2 (x.runs) ((some a1)) fun xs k => getL xs k)) xs).bind fun a => some (.next { x with unlike := some a })).bind (thenF fun x => (((bind2 ((((bind2 (x.alike) ((bind2 (x.size) ((some ())) fun a t => some (a, t))) fun a t => some (a, t))).bind fn__law_gain)) ((bind2 (x.size) (((x.alike).bind lenL)) mulI)) neI)).bind fun b => if b then ((some false)).bind fun a => some (.ret a) else some (.next x)).bind (thenF fun x => (((bind2 ((((bind2 (x.unlike) ((bind2 (x.size) ((some ())) fun a t => some (a, t))) fun a t => some (a, t))).bind fn__law_gain)) ((some (0 : Int))) neI)).bind fun b => if b then ((some false)).bind fun a => some (.ret a) else some (.next x)).bind (thenF fun x => ((andF ((bind2 (x.size) ((some (2 : Int))) eqI)) fun _ => (bind2 ((bind2 ((((((((bind2 (x.unlike) ((some ())) fun a t => some (a, t))).bind fn__law_lead)).bind fun x => x.it.norm)).map fun x => x.it.1)) ((some (1 : Int))) fun xs k => getL xs.items k)) ((bind2 ((bind2 (x.dots) (x.i) fun xs k => getL xs k)) ((some (1 : Int))) addI)) neI))).bind fun b => if b then ((some false)).bind fun a => some (.ret a) else some (.next x)))))
noncomputable def fb_law_3 (x : S_law) : Option (Fl S_law Bool) := (((((((bind2 ((some (1 : Int))) ((bind2 (x.corners) ((some ())) fun a t => some (a, t))) fun a t => some (a, t))).bind fun t => some (⟨t.1, t.2.1⟩ : Rng))).bind fun k => (rngI k).bind fun xs => compC (fun _ => some true) (fun a1 => (bind2 ((bind2 (x.i) ((some a1)) addI)) (x.corners) modI)) xs)).bind fun a => some (.next { x with others := some a })).bind (thenF fun x => (((some ([] : List Int))).bind fun a => some (.next { x with runs := some a })).bind (thenF fun x => (((some (0 : Int))).bind fun a => some (.next { x with old := some a })).bind (thenF fun x => (((some (1 : Int))).bind fun a => some (.next { x with now := some a })).bind (thenF fun x => ((x.others).bind fun k => (some k).bind fun xs => forF fb_law_1 (fun x a => { x with j := some a }) xs x).bind (thenF fun x => (((bind2 (x.now) ((some (0 : Int))) neI)).bind fun b => if b then ((some false)).bind fun a => some (.ret a) else some (.next x)).bind (thenF fun x => (((bind2 (x.runs) (((x.others).bind fun k => (some k).bind fun xs => compC (fun _ => some true) (fun a1 => (((bind2 ((bind2 ((bind2 ((bind2 ((bind2 (x.ways) (x.i) fun xs k => getL xs k)) ((some (0 : Int))) fun xs k => getL xs k)) ((bind2 ((bind2 (x.ways) ((some a1)) fun xs k => getL xs k)) ((some (1 : Int))) fun xs k => getL xs k)) mulI)) ((bind2 ((bind2 ((bind2 (x.ways) (x.i) fun xs k => getL xs k)) ((some (1 : Int))) fun xs k => getL xs k)) ((bind2 ((bind2 (x.ways) ((some a1)) fun xs k => getL xs k)) ((some (0 : Int))) fun xs k => getL xs k)) mulI)) subI)) ((some ())) fun a t => some (a, t))).bind fun t => some (absI t.1))) xs)) fun a b => some (!eqL RepD.eqd a b))).bind fun b => if b then ((some false)).bind fun a => some (.ret a) else some (.next x)).bind (thenF fun x => ((bind2 ((((bind2 ((some (2 : Int))) ((bind2 (x.three) ((some ())) fun a t => some (a, t))) fun a t => some (a, t))).map Tup.mk)) ((bind2 ((((bind2 ((some (3 : Int))) ((bind2 (x.four) ((some ())) fun a t => some (a, t))) fun a t => some (a, t))).map Tup.mk)) ((some [])) fun a t => some (a :: t))) fun a t => some (a :: t))).bind fun k => (some k).bind fun xs => forF fb_law_2 (fun (x : S_law) (t : (Tup (Int × (List (List Int)) × Unit))) => { { x with size := some t.it.1 } with paint := some t.it.2.1 }) xs x)))))))
noncomputable def f_law (x : S_law) : Option (Fl S_law Bool) := (((((bind2 (x.script) ((some ())) fun a t => some (a, t))).bind fn__law_polygon)).bind fun a => some (.next ((fun (x : S_law) (t : (Tup (Txt × (List Int) × (List (List Int)) × (List (List Int)) × (List (List Int)) × Unit))) => { { { { { x with mail := some t.it.1 } with counts := some t.it.2.1 } with ways := some t.it.2.2.1 } with three := some t.it.2.2.2.1 } with four := some t.it.2.2.2.2.1 }) x a))).bind (thenF fun x => (((bind2 (x.mail) (((((x.counts).bind fun k => (some k).bind fun xs => compC (fun _ => some true) (fun a1 => (bind2 ((bind2 ((some (⟨[46]⟩ : Txt))) ((some a1)) mulT)) ((some (⟨[13,10]⟩ : Txt))) addT)) xs)).bind joinT)) neT)).bind fun b => if b then ((some false)).bind fun a => some (.ret a) else some (.next x)).bind (thenF fun x => ((((((bind2 (x.mail) ((bind2 ((some (⟨[13,10]⟩ : Txt))) ((some ())) fun a t => some (a, t))) fun x y => splitT x y.1)).bind fun xs => ((some none)).bind fun lo => ((((((some (1 : Int))).bind negI)).map some)).bind fun hi => sliceL xs lo hi)).bind fun k => (some k).bind fun xs => compC (fun _ => some true) (fun a1 => (((bind2 ((some a1)) ((some ())) fun a t => some (a, t))).bind fun t => lenT t.1)) xs).bind fun a => some (.next { x with dots := some a })).bind (thenF fun x => ((((x.dots).bind lenL)).bind fun a => some (.next { x with corners := some a })).bind (thenF fun x => (((((bind2 (x.corners) ((some ())) fun a t => some (a, t))).bind fun t => some (⟨0, t.1⟩ : Rng))).bind fun k => (rngI k).bind fun xs => forF fb_law_3 (fun x a => { x with i := some a }) xs x).bind (thenF fun x => ((some true)).bind fun a => some (.ret a))))))
noncomputable def in_law (a : (List Int) × Unit) : S_law := { script := some a.1, mail := none, counts := none, ways := none, three := none, four := none, dots := none, corners := none, i := none, others := none, runs := none, old := none, now := none, j := none, due := none, size := none, paint := none, alike := none, unlike := none }
noncomputable def fn_law (a : (List Int) × Unit) : Option Bool := retOf (f_law (in_law a))
theorem ok_law (prog : Program) (w : World) (mg mb : Str → Option Value) (a : (List Int) × Unit) (r : Bool) (h : fn_law a = some r) : CallS (c2 prog w mg mb) 29 (.ref 167) a r := by
  refine fn_ok (c := (c2 prog w mg mb)) (n := 28) (sh := sh_law) (f := f_law) ["script"] in_law rfl (by kernel_rfl) rfl rfl rfl rfl rfl rfl rfl ?_ (by decide) rfl rfl (fun _ => rfl) (fun _ => ?_) (fun a => ?_) ?_ a r h
  · intro vs h; obtain ⟨_, rfl⟩ := len1 h; rfl
  · exact (by decide : (["script", "mail", "counts", "ways", "three", "four", "dots", "corners", "i", "others", "runs", "old", "now", "j", "due", "size", "paint", "alike", "unlike"] : List Str).Nodup)
  · exact (List.forall_mem_cons.mpr ⟨.inl (.head _), (List.forall_mem_cons.mpr ⟨.inr (fun _ _ _ _ h => nomatch h), (List.forall_mem_cons.mpr ⟨.inr (fun _ _ _ _ h => nomatch h), (List.forall_mem_cons.mpr ⟨.inr (fun _ _ _ _ h => nomatch h), (List.forall_mem_cons.mpr ⟨.inr (fun _ _ _ _ h => nomatch h), (List.forall_mem_cons.mpr ⟨.inr (fun _ _ _ _ h => nomatch h), (List.forall_mem_cons.mpr ⟨.inr (fun _ _ _ _ h => nomatch h), (List.forall_mem_cons.mpr ⟨.inr (fun _ _ _ _ h => nomatch h), (List.forall_mem_cons.mpr ⟨.inr (fun _ _ _ _ h => nomatch h), (List.forall_mem_cons.mpr ⟨.inr (fun _ _ _ _ h => nomatch h), (List.forall_mem_cons.mpr ⟨.inr (fun _ _ _ _ h => nomatch h), (List.forall_mem_cons.mpr ⟨.inr (fun _ _ _ _ h => nomatch h), (List.forall_mem_cons.mpr ⟨.inr (fun _ _ _ _ h => nomatch h), (List.forall_mem_cons.mpr ⟨.inr (fun _ _ _ _ h => nomatch h), (List.forall_mem_cons.mpr ⟨.inr (fun _ _ _ _ h => nomatch h), (List.forall_mem_cons.mpr ⟨.inr (fun _ _ _ _ h => nomatch h), (List.forall_mem_cons.mpr ⟨.inr (fun _ _ _ _ h => nomatch h), (List.forall_mem_cons.mpr ⟨.inr (fun _ _ _ _ h => nomatch h), (List.forall_mem_cons.mpr ⟨.inr (fun _ _ _ _ h => nomatch h), (fun _ h => nomatch h)⟩)⟩)⟩)⟩)⟩)⟩)⟩)⟩)⟩)⟩)⟩)⟩)⟩)⟩)⟩)⟩)⟩)⟩)⟩)
  · intro L s F P
    unfold f_law
    exact (exs_cons (ex_assignT (fun x => (ev_call rfl (g__law_polygon ..) (k__law_polygon _ _ _ _) (evL_cons (ev_name 0 rfl rfl) evL_nil) (fun _ _ h => CallS.le (ok__law_polygon _ _ _ _ _ _ h) (by decide)))) (asg_tuple (asgL_cons (set1 := (fun (x : S_law) a => { x with mail := some a })) (asg_name 1) (asgL_cons (set1 := (fun (x : S_law) a => { x with counts := some a })) (asg_name 2) (asgL_cons (set1 := (fun (x : S_law) a => { x with ways := some a })) (asg_name 3) (asgL_cons (set1 := (fun (x : S_law) a => { x with three := some a })) (asg_name 4) (asgL_cons (set1 := (fun (x : S_law) a => { x with four := some a })) (asg_name 5) asgL_nil))))))) (exs_cons (ex_if (fun x => (tst_cmp (ev_name 1 rfl rfl) (ev_join rfl (Ev.r (EvF.ev (ev_comp [] (ev_name 2 rfl rfl) hit_list rfl rfl (fun _ _ _ => rfl) (fun a1 _ _ => (ev_bin (ev_bin (ev_str (⟨[46]⟩ : Txt) rfl) (ev_name 0 rfl rfl) (fun _ _ _ h => s_mulT h)) (ev_str (⟨[13,10]⟩ : Txt) rfl) (fun _ _ _ h => s_addT h))))))) (fun _ _ _ h => s_neT h))) (exs_one (ex_return (fun x => ev_bool))) exs_nil) (exs_cons (ex_assign_comp 6 [] (fun x => (EvF.ev (ev_slice (ev_meth getM_split (ev_name 1 rfl rfl) isStr_txt (evL_cons (ev_str (⟨[13,10]⟩ : Txt) rfl) evL_nil) (fun _ _ _ h => s_splitT h)) evP_none (evP_some (ev_un ev_int (fun _ _ h => s_negI h)))))) hit_list rfl (fun _ => rfl) (fun x => (fun _ _ _ => rfl)) (fun x => (fun a1 _ _ => (ev_call rfl (g_len ..) kp_builtin (evL_cons (ev_name 0 rfl rfl) evL_nil) (fun _ _ h => s_lenT h))))) (exs_cons (ex_assign 7 (fun x => (ev_callR rfl (g_len ..) kp_builtin (Ev.r (ev_name 6 rfl rfl)) (fun _ _ h => s_lenL h)))) (exs_cons (ex_for (fun x => (ev_call rfl (g_range ..) kp_type (evL_cons (ev_name 7 rfl rfl) evL_nil) (fun _ _ h => s_range1 h))) hit_rng (fun _ _ => asg_name 8) (fun _ _ => (exs_cons (ex_assign 9 (fun x => (EvF.ev (ev_comp [7, 8] (ev_call rfl (g_range ..) kp_type (evL_cons ev_int (evL_cons (ev_name 7 rfl rfl) evL_nil)) (fun _ _ h => s_range2 h)) hit_rng rfl rfl (fun _ _ _ => rfl) (fun a1 _ _ => (ev_bin (ev_bin (ev_name 2 rfl rfl) (ev_name 0 rfl rfl) (fun _ _ _ h => s_addI h)) (ev_name 1 rfl rfl) (fun _ _ _ h => s_modI h))))))) (exs_cons (ex_assignF 10 1 (fun x => (ev_list evH_nil))) (exs_cons (ex_assign 11 (fun x => ev_int)) (exs_cons (ex_assign 12 (fun x => ev_int)) (exs_cons (ex_for (fun x => (ev_name 9 rfl rfl)) hit_list (fun _ _ => asg_name 13) (fun _ _ => (exs_cons (ex_append 10 1 (fun _ => rfl) rfl (fun x => (ev_name 12 rfl rfl))) (exs_cons (ex_assign 14 (fun x => (ev_bin (ev_bin (ev_index (ev_name 6 rfl rfl) (ev_name 13 rfl rfl)) (ev_name 12 rfl rfl) (fun _ _ _ h => s_mulI h)) (ev_name 11 rfl rfl) (fun _ _ _ h => s_subI h)))) (exs_cons (ex_assign 11 (fun x => (ev_name 12 rfl rfl))) (exs_one (ex_assign 12 (fun x => (ev_name 14 rfl rfl))))))))) (exs_cons (ex_if (fun x => (tst_cmp (ev_name 12 rfl rfl) ev_int (fun _ _ _ h => s_neI h))) (exs_one (ex_return (fun x => ev_bool))) exs_nil) (exs_cons (ex_if (fun x => (cmpR_ne (evR_own 10 rfl rfl) (Ev.r (EvF.ev (ev_comp [3, 8] (ev_name 9 rfl rfl) hit_list rfl rfl (fun _ _ _ => rfl) (fun a1 _ _ => (ev_call rfl (g_abs ..) kp_builtin (evL_cons (ev_bin (ev_bin (ev_index (ev_index (ev_name 1 rfl rfl) (ev_name 2 rfl rfl)) ev_int) (ev_index (ev_index (ev_name 1 rfl rfl) (ev_name 0 rfl rfl)) ev_int) (fun _ _ _ h => s_mulI h)) (ev_bin (ev_index (ev_index (ev_name 1 rfl rfl) (ev_name 2 rfl rfl)) ev_int) (ev_index (ev_index (ev_name 1 rfl rfl) (ev_name 0 rfl rfl)) ev_int) (fun _ _ _ h => s_mulI h)) (fun _ _ _ h => s_subI h)) evL_nil) (fun _ _ h => s_absI h)))))) (by decide) (by decide))) (exs_one (ex_return (fun x => ev_bool))) exs_nil) (exs_one (ex_for (fun x => (EvF.ev (ev_list (evH_cons (ev_tuple (evL_cons ev_int (evL_cons (ev_name 4 rfl rfl) evL_nil)) (tupLen (by decide))) (evH_cons (ev_tuple (evL_cons ev_int (evL_cons (ev_name 5 rfl rfl) evL_nil)) (tupLen (by decide))) evH_nil))))) hit_list (fun _ _ => (asg_tuple (asgL_cons (set1 := (fun (x : S_law) a => { x with size := some a })) (asg_name 15) (asgL_cons (set1 := (fun (x : S_law) a => { x with paint := some a })) (asg_name 16) asgL_nil)))) (fun _ _ => (exs_cons (ex_assign_comp 17 [8, 9, 10, 16] (fun x => (ev_call rfl (g_range ..) kp_type (evL_cons (ev_bin (ev_name 7 rfl rfl) ev_int (fun _ _ _ h => s_subI h)) evL_nil) (fun _ _ h => s_range1 h))) hit_rng rfl (fun _ => rfl) (fun x => (fun a1 _ _ => (cmpR_eq (Ev.r (ev_index (ev_name 4 rfl rfl) (ev_index (ev_name 2 rfl rfl) (ev_name 0 rfl rfl)))) (Ev.r (ev_index (ev_name 4 rfl rfl) (ev_name 1 rfl rfl))) (by decide) (by decide)))) (fun x => (fun a1 _ _ => (ev_indexR (evR_own 3 rfl rfl) (ev_name 0 rfl rfl))))) (exs_cons (ex_assign_comp 18 [8, 9, 10, 16] (fun x => (ev_call rfl (g_range ..) kp_type (evL_cons (ev_bin (ev_name 7 rfl rfl) ev_int (fun _ _ _ h => s_subI h)) evL_nil) (fun _ _ h => s_range1 h))) hit_rng rfl (fun _ => rfl) (fun x => (fun a1 _ _ => (cmpR_ne (Ev.r (ev_index (ev_name 4 rfl rfl) (ev_index (ev_name 2 rfl rfl) (ev_name 0 rfl rfl)))) (Ev.r (ev_index (ev_name 4 rfl rfl) (ev_name 1 rfl rfl))) (by decide) (by decide)))) (fun x => (fun a1 _ _ => (ev_indexR (evR_own 3 rfl rfl) (ev_name 0 rfl rfl))))) (exs_cons (ex_if (fun x => (tst_cmp (ev_call rfl (g__law_gain ..) (k__law_gain _ _ _ _) (evL_cons (ev_name 17 rfl rfl) (evL_cons (ev_name 15 rfl rfl) evL_nil)) (fun _ _ h => CallS.le (ok__law_gain _ _ _ _ _ _ h) (by decide))) (ev_bin (ev_name 15 rfl rfl) (ev_callR rfl (g_len ..) kp_builtin (Ev.r (ev_name 17 rfl rfl)) (fun _ _ h => s_lenL h)) (fun _ _ _ h => s_mulI h)) (fun _ _ _ h => s_neI h))) (exs_one (ex_return (fun x => ev_bool))) exs_nil) (exs_cons (ex_if (fun x => (tst_cmp (ev_call rfl (g__law_gain ..) (k__law_gain _ _ _ _) (evL_cons (ev_name 18 rfl rfl) (evL_cons (ev_name 15 rfl rfl) evL_nil)) (fun _ _ h => CallS.le (ok__law_gain _ _ _ _ _ _ h) (by decide))) ev_int (fun _ _ _ h => s_neI h))) (exs_one (ex_return (fun x => ev_bool))) exs_nil) (exs_one (ex_if (fun x => (tst_and2 (tst_cmp (ev_name 15 rfl rfl) ev_int (fun _ _ _ h => s_eqI h)) (tst_cmp (ev_indexTL (ev_field (k := 0) (ev_attr (sel := fun z : WS => z.norm) 3 (ev_call rfl (g__law_lead ..) (k__law_lead _ _ _ _) (evL_cons (ev_name 18 rfl rfl) evL_nil) (fun _ _ h => CallS.le (ok__law_lead _ _ _ _ _ _ h) (by decide))) (fun _ => rfl) (by kernel_rfl)) fld0) ev_int) (ev_bin (ev_index (ev_name 6 rfl rfl) (ev_name 8 rfl rfl)) ev_int (fun _ _ _ h => s_addI h)) (fun _ _ _ h => s_neI h)))) (exs_one (ex_return (fun x => ev_bool))) exs_nil)))))))))))))))))) (exs_one (ex_return (fun x => ev_bool))))))))
end Mine
namespace Mine
open PySem PySem.W PyProof.Rows PySem.Calls

/-! leads of runs of blanks, counted -/
noncomputable def tabT (r : Nat) : List Nat := List.replicate r 32 ++ [9]
noncomputable def leadT (rs : List Nat) : List Nat := (rs.map tabT).flatten
noncomputable def bumpI (c : List Int) (r : Nat) : List Int := (c ++ List.replicate (r + 1 - c.length) 0).set r ((c ++ List.replicate (r + 1 - c.length) 0).getD r 0 + 1)
noncomputable def cnts (c : List Int) (rs : List Nat) : List Int := rs.foldl bumpI c
noncomputable def wsum (f : Nat → Int) : Nat → List Int → Int
  | _, [] => 0
  | i, x :: xs => f i * x + wsum f (i + 1) xs
noncomputable def rsum (f : Nat → Int) : List Nat → Int
  | [] => 0
  | r :: rs => f r + rsum f rs
theorem wsum_rep (f : Nat → Int) : ∀ (k i : Nat), wsum f i (List.replicate k 0) = 0
  | 0, _ => rfl
  | k + 1, i => by rw [List.replicate_succ, wsum, wsum_rep f k]; simp
theorem wsum_app (f : Nat → Int) : ∀ (c d : List Int) (i : Nat), wsum f i (c ++ d) = wsum f i c + wsum f (i + c.length) d
  | [], d, i => by simp [wsum]
  | x :: c, d, i => by
    rw [List.cons_append, wsum, wsum, wsum_app f c d, List.length_cons, show i + 1 + c.length = i + (c.length + 1) by omega]; omega
theorem wsum_set (f : Nat → Int) : ∀ (c : List Int) (k i : Nat), k < c.length → wsum f i (c.set k (c.getD k 0 + 1)) = wsum f i c + f (i + k)
  | [], _, _, h => absurd h (Nat.not_lt_zero _)
  | x :: c, 0, i, _ => by simp [wsum, Int.mul_add]; omega
  | x :: c, k + 1, i, h => by
    have := wsum_set f c k (i + 1) (by simpa using h)
    simp only [List.set_cons_succ, List.getD_cons_succ, wsum]
    rw [this, show i + 1 + k = i + (k + 1) by omega]; omega
theorem bump_len (c : List Int) (r : Nat) : (bumpI c r).length = c.length + (r + 1 - c.length) := by simp [bumpI]
theorem wsum_bump (f : Nat → Int) (c : List Int) (r : Nat) : wsum f 0 (bumpI c r) = wsum f 0 c + f r := by
  unfold bumpI
  rw [wsum_set f _ r 0 (by simp; omega), wsum_app, wsum_rep]; simp
theorem wsum_cnts (f : Nat → Int) : ∀ (rs : List Nat) (c : List Int), wsum f 0 (cnts c rs) = wsum f 0 c + rsum f rs
  | [], c => by simp [cnts, rsum]
  | r :: rs, c => by
    show wsum f 0 (cnts (bumpI c r) rs) = _
    rw [wsum_cnts f rs, wsum_bump, rsum]; omega
theorem wsum_drop (f : Nat → Int) : ∀ (k i : Nat) (c : List Int), (∀ j, j < k → f (i + j) = 0) → wsum f i c = wsum f (i + k) (c.drop k)
  | 0, _, _, _ => rfl
  | k + 1, i, [], _ => rfl
  | k + 1, i, x :: c, h => by
    rw [wsum, show f i = 0 from h 0 (by omega), List.drop_succ_cons, show i + (k + 1) = i + 1 + k by omega, ← wsum_drop f k (i + 1) c fun j hj => by
      have := h (j + 1) (by omega)
      rw [show i + 1 + j = i + (j + 1) by omega]; exact this]
    simp
theorem set_le {M : Nat} : ∀ {c : List Int} {k : Nat} {v : Int}, (∀ x ∈ c, x.natAbs ≤ M) → v.natAbs ≤ M → ∀ x ∈ c.set k v, x.natAbs ≤ M := by
  intro c k v hc hv x hx
  rcases List.mem_or_eq_of_mem_set hx with h | h
  · exact hc x h
  · rw [h]; exact hv
theorem bump_le {M : Nat} {c : List Int} {r : Nat} (h : ∀ x ∈ c, x.natAbs ≤ M) : ∀ x ∈ bumpI c r, x.natAbs ≤ M + 1 := by
  have h1 : ∀ x ∈ c ++ List.replicate (r + 1 - c.length) 0, x.natAbs ≤ M := by
    intro x hx
    rcases List.mem_append.mp hx with q | q
    · exact h x q
    · rw [(List.mem_replicate.mp q).2]; exact Nat.zero_le _
  unfold bumpI
  refine set_le (fun x hx => Nat.le_succ_of_le (h1 x hx)) ?_
  have : ((c ++ List.replicate (r + 1 - c.length) 0).getD r 0).natAbs ≤ M := by
    rw [List.getD_eq_getElem?_getD]
    cases e : (c ++ List.replicate (r + 1 - c.length) 0)[r]? with
    | none => exact Nat.zero_le _
    | some v => exact h1 v (List.mem_of_getElem? e)
  omega
theorem cnts_le {M : Nat} : ∀ {rs : List Nat} {c : List Int}, (∀ x ∈ c, x.natAbs ≤ M) → ∀ x ∈ cnts c rs, x.natAbs ≤ M + rs.length
  | [], c, h => h
  | r :: rs, c, h => by
    have := cnts_le (rs := rs) (bump_le (r := r) h)
    intro x hx
    have := this x hx
    rw [List.length_cons]; omega
theorem cnts_len {N : Nat} : ∀ {rs : List Nat} {c : List Int}, c.length ≤ N → (∀ r ∈ rs, r < N) → (cnts c rs).length ≤ N
  | [], c, h, _ => h
  | r :: rs, c, h, hr => by
    have h1 := hr r (.head _)
    exact cnts_len (rs := rs) (c := bumpI c r) (by rw [bump_len]; omega) fun x hx => hr x (.tail _ hx)

section
variable (self : WS) (ws : Option Txt) (msz : Nat)
abbrev bl : Txt := ⟨[32]⟩
abbrev tb : Txt := ⟨[9]⟩
noncomputable def stI (c : List Int) (b n nt : Int) (ch : Option Txt) : S_init := ⟨self, ws, some bl, some tb, some c, some b, some n, some nt, ch, msz⟩
theorem fb_bl (c : List Int) (b n nt : Int) : fb_init_1 (stI self ws msz c b n nt (some bl)) = some (.next (stI self ws msz c (b + 1) (n + 1) nt (some bl))) := rfl
theorem fb_x (c : List Int) (b n nt : Int) : fb_init_1 (stI self ws msz c b n nt (some ⟨[120]⟩)) = some (.brk (stI self ws msz c b n nt (some ⟨[120]⟩))) := rfl
theorem lenL_ok {α : Type} {c : List α} (h : c.length ≤ 100000) : lenL c = some (c.length : Int) := by
  unfold lenL; rw [if_pos (Nat.ble_eq_true_of_le (by omega))]
theorem bigN_ok {r : Nat} (h : r ≤ 100000) : bigN (r : Int) = false := by
  show Nat.ble 4611686018427387904 r = false
  cases e : Nat.ble 4611686018427387904 r with
  | false => rfl
  | true => have := Nat.le_of_ble_eq_true e; omega
theorem getL_ok {α : Type} {c : List α} {r : Nat} {a : α} (h : r ≤ 100000) (e : c[r]? = some a) : getL c (r : Int) = some a := by
  unfold getL; rw [bigN_ok h]; exact e
theorem setL_ok {α : Type} {c : List α} {r : Nat} {a : α} (h : r ≤ 100000) (e : r < c.length) : setL c (r : Int) a = some (c.set r a) := by
  unfold setL
  rw [bigN_ok h, show decide ((r : Int) < c.length) = true from decide_eq_true (by omega)]; rfl
theorem rep_flat (k : Nat) (x : Int) : (List.replicate k [x]).flatten = List.replicate k x := by
  induction k with
  | zero => rfl
  | succ k ih => rw [List.replicate_succ, List.flatten_cons, ih]; rfl
theorem mulL_ok {k : Nat} (h : k ≤ 100000) : mulL [(0 : Int)] (k : Int) = some (List.replicate k 0) := by
  unfold mulL
  rw [bigN_ok h, show Nat.ble ([(0 : Int)].length * (k : Int).toNat) (2 ^ 24) = true from Nat.ble_eq_true_of_le (by simp; omega)]
  simp [rep_flat]
theorem addL_ok {α : Type} {a b : List α} (h : a.length + b.length ≤ 1000000) : addL a b = some (a ++ b) := by
  unfold addL; rw [if_pos (Nat.ble_eq_true_of_le (by omega))]
theorem fb_tb (c : List Int) (r : Nat) (n nt : Int) (hc : c.length ≤ 2000) (hr : r ≤ 2000) : fb_init_1 (stI self ws msz c r n nt (some tb)) = some (.next (stI self ws msz (bumpI c r) 0 (n + 1) (nt + 1) (some tb))) := by
  have step : ∀ d : List Int, r < d.length → ((bind2 ((bind2 (getL d (r : Int)) (some (1 : Int)) addI)) (some ()) fun a _ => some a).bind fun a => (setL d (r : Int) a).bind fun q => some q) = some (d.set r (d.getD r 0 + 1)) := by
    intro d hd
    rw [getL_ok (by omega) (List.getElem?_eq_getElem hd)]
    show (setL d (r : Int) (d[r] + 1)).bind _ = _
    rw [setL_ok (by omega) hd, List.getD_eq_getElem?_getD, List.getElem?_eq_getElem hd]; rfl
  have tail : ∀ d : List Int, r < d.length → ((((bind2 (getL d (r : Int)) (some (1 : Int)) addI)).bind fun a => (setL d (r : Int) a).bind fun q => some (Fl.next (ρ := Unit) (stI self ws msz q r (n + 1) (nt + 1) (some tb)))).bind (thenF fun x => ((some (0 : Int))).bind fun a => some (.next { x with b := some a }))) = some (.next (stI self ws msz (d.set r (d.getD r 0 + 1)) 0 (n + 1) (nt + 1) (some tb))) := by
    intro d hd
    rw [getL_ok (by omega) (List.getElem?_eq_getElem hd)]
    show ((setL d (r : Int) (d[r] + 1)).bind _).bind _ = _
    rw [setL_ok (by omega) hd, List.getD_eq_getElem?_getD, List.getElem?_eq_getElem hd]; rfl
  have e : fb_init_1 (stI self ws msz c r n nt (some tb)) = ((((lenL c).bind fun l => geI r l)).bind fun b => if b then ((((lenL c).bind fun l => subI r l).bind fun d => addI d 1).bind fun k => (mulL [(0 : Int)] k).bind fun z => addL c z).bind fun a => some (Fl.next (ρ := Unit) (stI self ws msz a r (n + 1) (nt + 1) (some tb))) else some (.next (stI self ws msz c r (n + 1) (nt + 1) (some tb)))).bind (thenF fun x => (((bind2 ((bind2 (x.count) (x.b) fun xs k => getL xs k)) ((some (1 : Int))) addI)).bind fun a => (x.count).bind fun xs => (x.b).bind fun q => (setL xs q a).bind fun r => some (.next { x with count := some r })).bind (thenF fun x => ((some (0 : Int))).bind fun a => some (.next { x with b := some a }))) := by
    show ((bind2 (some (r : Int)) (lenL c) geI).bind _).bind _ = _
    rw [lenL_ok (by omega)]
    unfold geI
    show ((some (decide ((r : Int) ≥ (c.length : Int)))).bind _).bind _ = ((some (decide ((r : Int) ≥ (c.length : Int)))).bind _).bind _
    cases decide ((r : Int) ≥ (c.length : Int)) with
    | true =>
      show ((bind2 (some c) (bind2 _ (bind2 (bind2 (some (r : Int)) (lenL c) subI) (some 1) addI) fun a b => mulL a b) fun a b => addL a b).bind _).bind _ = _
      rw [lenL_ok (by omega)]
      show (((mulL [(0 : Int)] ((r : Int) - (c.length : Int) + 1)).bind fun z => addL c z).bind _).bind _ = (((mulL [(0 : Int)] ((r : Int) - (c.length : Int) + 1)).bind fun z => addL c z).bind _).bind _
      generalize ((mulL [(0 : Int)] ((r : Int) - (c.length : Int) + 1)).bind fun z => addL c z) = q
      cases q <;> rfl
    | false => rfl
  rw [e, lenL_ok (by omega)]
  show ((some (decide ((r : Int) ≥ (c.length : Int)))).bind _).bind _ = _
  by_cases h : c.length ≤ r
  · rw [show decide ((r : Int) ≥ (c.length : Int)) = true from decide_eq_true (by omega)]
    show (((mulL [(0 : Int)] ((r : Int) - (c.length : Int) + 1)).bind fun z => addL c z).bind _).bind _ = _
    rw [show (r : Int) - (c.length : Int) + 1 = ((r + 1 - c.length : Nat) : Int) by omega, mulL_ok (by omega)]
    show ((addL c (List.replicate (r + 1 - c.length) 0)).bind _).bind _ = _
    rw [addL_ok (by simp; omega)]
    exact tail _ (by simp; omega)
  · rw [show decide ((r : Int) ≥ (c.length : Int)) = false from decide_eq_false (by omega)]
    have hb : bumpI c r = c.set r (c.getD r 0 + 1) := by unfold bumpI; rw [show r + 1 - c.length = 0 by omega, List.replicate_zero, List.append_nil]
    rw [hb]
    exact tail c (by omega)
abbrev setCh : S_init → Txt → S_init := fun x a => { x with ch := some a }
theorem for_bl : ∀ (r : Nat) (rest : List Nat) (c : List Int) (b n nt : Int) (ch : Option Txt), ∃ ch', forF fb_init_1 setCh ((List.replicate r 32 ++ rest).map fun k => (⟨[k]⟩ : Txt)) (stI self ws msz c b n nt ch) = forF fb_init_1 setCh (rest.map fun k => (⟨[k]⟩ : Txt)) (stI self ws msz c (b + r) (n + r) nt ch')
  | 0, rest, c, b, n, nt, ch => ⟨ch, by simp⟩
  | r + 1, rest, c, b, n, nt, ch => by
    obtain ⟨ch', e⟩ := for_bl r rest c (b + 1) (n + 1) nt (some bl)
    refine ⟨ch', ?_⟩
    rw [List.replicate_succ, List.cons_append, List.map_cons]
    show (fb_init_1 (stI self ws msz c b n nt (some bl))).bind _ = _
    rw [fb_bl]
    show forF fb_init_1 setCh _ (stI self ws msz c (b + 1) (n + 1) nt (some bl)) = _
    rw [e]
    congr 2 <;> push_cast <;> omega
theorem for_lead : ∀ (rs : List Nat) (rest : List Nat) (c : List Int) (n nt : Int) (ch : Option Txt), c.length ≤ 1500 → (∀ r ∈ rs, r < 1500) → ∃ ch' n', forF fb_init_1 setCh ((leadT rs ++ rest).map fun k => (⟨[k]⟩ : Txt)) (stI self ws msz c 0 n nt ch) = forF fb_init_1 setCh (rest.map fun k => (⟨[k]⟩ : Txt)) (stI self ws msz (cnts c rs) 0 n' (nt + rs.length) ch')
  | [], rest, c, n, nt, ch, _, _ => ⟨ch, n, by simp [leadT, cnts]⟩
  | r :: rs, rest, c, n, nt, ch, hc, hr => by
    have e0 : leadT (r :: rs) ++ rest = List.replicate r 32 ++ (9 :: (leadT rs ++ rest)) := by simp [leadT, tabT]
    obtain ⟨ch1, e1⟩ := for_bl self ws msz r (9 :: (leadT rs ++ rest)) c 0 n nt ch
    have hr0 := hr r (.head _)
    have hl : (bumpI c r).length ≤ 1500 := by rw [bump_len]; omega
    obtain ⟨ch2, n2, e2⟩ := for_lead rs rest (bumpI c r) (n + r + 1) (nt + 1) (some tb) hl fun x hx => hr x (.tail _ hx)
    refine ⟨ch2, n2, ?_⟩
    rw [e0, e1, Int.zero_add, List.map_cons]
    show (fb_init_1 (stI self ws msz c r (n + r) nt (some tb))).bind _ = _
    rw [fb_tb self ws msz c r (n + r) nt (by omega) (by omega)]
    show forF fb_init_1 setCh _ (stI self ws msz (bumpI c r) 0 (n + r + 1) (nt + 1) (some tb)) = _
    rw [e2]
    show forF _ _ _ (stI self ws msz (cnts (bumpI c r) rs) 0 n2 _ ch2) = forF _ _ _ (stI self ws msz (cnts (bumpI c r) rs) 0 n2 _ ch2)
    congr 2
    rw [List.length_cons]; push_cast; omega
end
/-- a lead with a sign behind it -/
theorem init_lead (rs : List Nat) (rest : List Nat) (hr : ∀ r ∈ rs, r < 1500) : ∃ w : WS, fn_Whitespace (⟨leadT rs ++ (120 :: rest)⟩, ()) = some ⟨w⟩ ∧ w.nt = some (rs.length : Int) ∧ w.norm = some ⟨(⟨cnts [] rs⟩, 0, ())⟩ := by
  obtain ⟨ch, n, e⟩ := for_lead { ws0 with raw := some ⟨leadT rs ++ (120 :: rest)⟩ } (some ⟨leadT rs ++ (120 :: rest)⟩) 1 rs (120 :: rest) [] 0 0 none (by decide) hr
  have hl := cnts_len (rs := rs) (c := []) (N := 1500) (by decide) hr
  have e2 : forF fb_init_1 setCh ((120 :: rest).map fun k => (⟨[k]⟩ : Txt)) (stI { ws0 with raw := some ⟨leadT rs ++ (120 :: rest)⟩ } (some ⟨leadT rs ++ (120 :: rest)⟩) 1 (cnts [] rs) 0 n (0 + rs.length) ch) =
      some (.next (stI { ws0 with raw := some ⟨leadT rs ++ (120 :: rest)⟩ } (some ⟨leadT rs ++ (120 :: rest)⟩) 1 (cnts [] rs) 0 n (0 + rs.length) (some ⟨[120]⟩))) := rfl
  rw [e2] at e
  have e3 : f_init (in_init (⟨leadT rs ++ (120 :: rest)⟩, ())) = ((forF fb_init_1 setCh ((leadT rs ++ (120 :: rest)).map fun k => (⟨[k]⟩ : Txt)) (stI { ws0 with raw := some ⟨leadT rs ++ (120 :: rest)⟩ } (some ⟨leadT rs ++ (120 :: rest)⟩) 1 [] 0 0 0 none))).bind (thenF fun x => ((x.n).bind fun b => if Nat.ble x.msz 900 then some (.next { x with self := { x.self with n := some b }, msz := x.msz + 1 }) else none).bind (thenF fun x => ((x.nt).bind fun b => if Nat.ble x.msz 900 then some (.next { x with self := { x.self with nt := some b }, msz := x.msz + 1 }) else none).bind (thenF fun x => (((((bind2 (((x.count).bind tupL)) ((bind2 (x.b) ((some ())) fun a t => some (a, t))) fun a t => some (a, t))).map Tup.mk)).bind fun b => if Nat.ble x.msz 900 then some (.next { x with self := { x.self with norm := some b }, msz := x.msz + 1 }) else none).bind (thenF fun x => ((bind2 (((x.count).bind lenL)) ((some (1 : Int))) leI)).bind fun b => if Nat.ble x.msz 900 then some (.next { x with self := { x.self with is_simple := some b }, msz := x.msz + 1 }) else none)))) := rfl
  rw [e] at e3
  have e4 : tupL (cnts [] rs) = some ⟨cnts [] rs⟩ := by unfold tupL; rw [if_pos (Nat.ble_eq_true_of_le (by omega))]
  have e5 := lenL_ok (c := cnts [] rs) (by omega)
  have e6 : ∃ y, f_init (in_init (⟨leadT rs ++ (120 :: rest)⟩, ())) = some (.next y) ∧ y.self.nt = some (0 + rs.length : Int) ∧ y.self.norm = some ⟨(⟨cnts [] rs⟩, 0, ())⟩ := by
    rw [e3]
    show ∃ y, ((((bind2 (tupL (cnts [] rs)) _ _).map Tup.mk)).bind _).bind _ = _ ∧ _
    rw [e4]
    show ∃ y, (bind2 (lenL (cnts [] rs)) _ _).bind _ = _ ∧ _
    rw [e5]
    exact ⟨_, rfl, rfl, rfl⟩
  obtain ⟨y, h1, h2, h3⟩ := e6
  refine ⟨y.self, ?_, by rw [h2]; simp, h3⟩
  unfold fn_Whitespace
  rw [h1]
end Mine
namespace Mine
open PySem PySem.W PyProof.Rows PySem.Calls

theorem bigI_ok {a : Int} (h : a.natAbs ≤ 2 ^ 200) : bigI a = false := by
  rw [bigI_eq]
  cases e : Nat.ble (2 ^ 250) a.natAbs with
  | false => rfl
  | true =>
    have := Nat.le_of_ble_eq_true e
    have h2 : (2 : Nat) ^ 200 < 2 ^ 250 := by decide
    omega
theorem mulI_ok {a b : Int} (ha : a.natAbs ≤ 2 ^ 200) (hb : b.natAbs ≤ 2 ^ 200) : mulI a b = some (a * b) := by
  unfold mulI; rw [bigI_ok ha, bigI_ok hb]; rfl
theorem divI_ok {a b : Nat} (hb : 0 < b) (hs : b ≤ 2 ^ 200) : divI (a : Int) (b : Int) = some ((a / b : Nat) : Int) := by
  unfold divI
  rw [bigI_ok (by simpa using hs), show ((b : Int) == 0) = false by simp; omega]
  have : Int.fdiv (a : Int) (b : Int) = ((a / b : Nat) : Int) := by rw [Int.fdiv_eq_ediv_of_nonneg _ (by omega)]; rfl
  rw [this]; rfl
noncomputable def stL (w : Ins 138 WS) (ts : Int) (c : TL Int) (tr il : Int) (i : Option Int) : S_indent_level := ⟨some w, some ts, some c, some tr, some il, i⟩
abbrev setI : S_indent_level → Int → S_indent_level := fun x a => { x with i := some a }
theorem for_il (w : Ins 138 WS) (ts : Nat) (c : List Int) (tr : Int) (hts : 0 < ts) (ht : ts ≤ 100000) (hc : c.length ≤ 100000) (hM : ∀ x ∈ c, x.natAbs ≤ 100000) : ∀ (m a : Nat) (il : Int) (i : Option Int), m = c.length - a →
    ∃ i', forF fb_indent_level_1 setI (intsFrom m (a : Int)) (stL w ts ⟨c⟩ tr il i) = some (.next (stL w ts ⟨c⟩ tr (il + wsum (fun r => ((r / ts : Nat) : Int)) a (c.drop a)) i'))
  | 0, a, il, i, h => ⟨i, by rw [List.drop_eq_nil_of_le (by omega)]; simp [wsum, intsFrom, forF]⟩
  | m + 1, a, il, i, h => by
    have ha : a < c.length := by omega
    have hd : c.drop a = c[a] :: c.drop (a + 1) := List.drop_eq_getElem_cons ha
    obtain ⟨i', e⟩ := for_il w ts c tr hts ht hc hM m (a + 1) (il + ((a / ts : Nat) : Int) * c[a]) (some (a : Int)) (by omega)
    refine ⟨i', ?_⟩
    have hq : a / ts ≤ 100000 := Nat.le_trans (Nat.div_le_self _ _) (by omega)
    have hb : ((a / ts : Nat) : Int).natAbs ≤ 2 ^ 200 := by
      rw [Int.natAbs_natCast]; exact Nat.le_trans hq (by decide)
    have hb2 : (c[a]).natAbs ≤ 2 ^ 200 := Nat.le_trans (hM _ (List.getElem_mem ha)) (by decide)
    have hs : fb_indent_level_1 (stL w ts ⟨c⟩ tr il (some (a : Int))) = some (.next (stL w ts ⟨c⟩ tr (il + ((a / ts : Nat) : Int) * c[a]) (some (a : Int)))) := by
      show ((bind2 (some il) (bind2 (divI (a : Int) (ts : Int)) (getL c (a : Int)) mulI) addI).bind _) = _
      rw [divI_ok hts (by omega), getL_ok (by omega) (List.getElem?_eq_getElem ha)]
      show ((bind2 (some il) (mulI ((a / ts : Nat) : Int) c[a]) addI).bind _) = _
      rw [mulI_ok hb hb2]; rfl
    rw [intsFrom]
    show (fb_indent_level_1 (stL w ts ⟨c⟩ tr il (some (a : Int)))).bind _ = _
    rw [hs]
    show forF fb_indent_level_1 setI (intsFrom m ((a : Int) + 1)) (stL w ts ⟨c⟩ tr (il + ((a / ts : Nat) : Int) * c[a]) (some (a : Int))) = _
    rw [show (a : Int) + 1 = ((a + 1 : Nat) : Int) by omega, e, hd, wsum]
    congr 3; omega
theorem rsum_le (f : Nat → Int) (B : Nat) : ∀ (rs : List Nat), (∀ r ∈ rs, (f r).natAbs ≤ B) → (rsum f rs).natAbs ≤ B * rs.length
  | [], _ => by simp [rsum]
  | r :: rs, h => by
    have h1 := h r (.head _)
    have h2 := rsum_le f B rs fun x hx => h x (.tail _ hx)
    rw [rsum, List.length_cons, Nat.mul_succ]; omega
/-- the columns of a lead -/
noncomputable def colsP (ts : Nat) (rs : List Nat) : Int := (ts : Int) * (rsum (fun r => ((r / ts : Nat) : Int)) rs + (rs.length : Int))
theorem indent_ok {w : WS} {rs : List Nat} {ts : Nat} (hnt : w.nt = some (rs.length : Int)) (hno : w.norm = some ⟨(⟨cnts [] rs⟩, 0, ())⟩) (hr : ∀ r ∈ rs, r < 1500) (hl : rs.length ≤ 1500) (hts : 0 < ts) (ht : ts ≤ 1500) :
    fn_indent_level (⟨w⟩, (ts : Int), ()) = some (colsP ts rs) := by
  obtain ⟨raw, n, nt, norm, simple⟩ := w
  cases hnt
  cases hno
  have hlen := cnts_len (rs := rs) (c := []) (N := 1500) (by decide) hr
  have hM : ∀ x ∈ cnts [] rs, x.natAbs ≤ 100000 := fun x hx => by
    have := cnts_le (M := 0) (rs := rs) (c := []) (fun _ h => nomatch h) x hx; omega
  have hrng : rngI ⟨(ts : Int), ((cnts [] rs).length : Int)⟩ = some (intsFrom ((cnts [] rs).length - ts) (ts : Int)) := by
    unfold rngI
    have h1 : Nat.ble (2 ^ 30) ((ts : Int)).natAbs = false := by
      cases e : Nat.ble (2 ^ 30) ((ts : Int)).natAbs with
      | false => rfl
      | true => have := Nat.le_of_ble_eq_true e; simp at this; omega
    have h2 : Nat.ble (2 ^ 30) (((cnts [] rs).length : Int)).natAbs = false := by
      cases e : Nat.ble (2 ^ 30) (((cnts [] rs).length : Int)).natAbs with
      | false => rfl
      | true => have := Nat.le_of_ble_eq_true e; simp at this; omega
    show (if (Nat.ble (2 ^ 30) ((ts : Int)).natAbs || Nat.ble (2 ^ 30) (((cnts [] rs).length : Int)).natAbs) = true then none else some (intsFrom ((((cnts [] rs).length : Int) - (ts : Int)).toNat) (ts : Int))) = _
    rw [h1, h2, if_neg (by decide)]
    congr 2
    omega
  have hTL : lenTL (⟨cnts [] rs⟩ : TL Int) = some ((cnts [] rs).length : Int) := by
    unfold lenTL; rw [if_pos (Nat.ble_eq_true_of_le (by show (cnts [] rs).length ≤ _; omega))]
  obtain ⟨i', e⟩ := for_il ⟨⟨raw, n, some (rs.length : Int), some ⟨(⟨cnts [] rs⟩, 0, ())⟩, simple⟩⟩ ts (cnts [] rs) 0 hts (by omega) (by omega) hM ((cnts [] rs).length - ts) ts 0 none rfl
  have hsum : wsum (fun r => ((r / ts : Nat) : Int)) ts ((cnts [] rs).drop ts) = rsum (fun r => ((r / ts : Nat) : Int)) rs := by
    have := wsum_drop (fun r => ((r / ts : Nat) : Int)) ts 0 (cnts [] rs) fun j hj => by rw [Nat.zero_add, Nat.div_eq_of_lt hj]; rfl
    rw [Nat.zero_add] at this
    rw [← this, wsum_cnts]; simp [wsum]
  rw [hsum, Int.zero_add] at e
  have hS : (rsum (fun r => ((r / ts : Nat) : Int)) rs).natAbs ≤ 1500 * rs.length := rsum_le _ 1500 rs fun r hr' => by
    rw [Int.natAbs_natCast]
    have := Nat.div_le_self r ts
    have := hr r hr'
    omega
  simp only [fn_indent_level, f_indent_level, in_indent_level, bind2, Option.bind_some, thenF, hTL, hrng]
  have e' : forF fb_indent_level_1 setI (intsFrom ((cnts [] rs).length - ts) (ts : Int)) { self := some (⟨⟨raw, n, some (rs.length : Int), some ⟨(⟨cnts [] rs⟩, 0, ())⟩, simple⟩⟩ : Ins 138 WS), tabsize := some (ts : Int), count := some ⟨cnts [] rs⟩, trailing := some 0, il := some 0, i := none } = _ := e
  rw [e']
  show retOf ((bind2 (some (0 : Int)) (mulI (ts : Int) (rsum (fun r => ((r / ts : Nat) : Int)) rs + (rs.length : Int))) addI).bind _) = _
  rw [mulI_ok (by rw [Int.natAbs_natCast]; exact Nat.le_trans ht (by decide)) (Nat.le_trans (show _ ≤ 100000000 by omega) (by decide))]
  show some (0 + _) = _
  rw [Int.zero_add]; rfl
end Mine
namespace Mine
open PySem PySem.W PyProof.Rows PySem.Calls

noncomputable def zs (rs : List Nat) : List Int := rs.map fun (r : Nat) => (r : Int)
theorem zs_len (rs : List Nat) : (zs rs).length = rs.length := by simp [zs]
theorem compF_map {α β : Type} {g : α → Option β} {f : α → β} : ∀ {xs : List α}, (∀ a ∈ xs, g a = some (f a)) → compF (fun _ => some true) g xs = some (xs.map f)
  | [], _ => rfl
  | a :: xs, h => by
    unfold compF
    rw [h a (.head _), compF_map (xs := xs) fun b hb => h b (.tail _ hb)]; rfl
theorem compC_map {α β : Type} {g : α → Option β} {f : α → β} {xs : List α} (h : ∀ a ∈ xs, g a = some (f a)) (hz : xs.length ≤ 1000000) : compC (fun _ => some true) g xs = some (xs.map f) := by
  unfold compC
  rw [if_pos (Nat.ble_eq_true_of_le (by omega)), compF_map h]
theorem mulT_ok {r : Nat} (c : Nat) (h : r ≤ 4096) : mulT ⟨[c]⟩ (r : Int) = some ⟨List.replicate r c⟩ := by
  unfold mulT
  rw [if_pos ⟨by rw [Int.natAbs_natCast]; exact h, by show 1 ≤ 4096; decide⟩]
  have : ((List.replicate r [c]).flatten) = List.replicate r c := by
    clear h
    induction r with
    | zero => rfl
    | succ k ih => rw [List.replicate_succ, List.flatten_cons, ih]; rfl
  simp [this]
theorem addT_ok {a b : Txt} (h : a.cs.length + b.cs.length ≤ 1000000) : addT a b = some ⟨a.cs ++ b.cs⟩ := by
  unfold addT; rw [if_pos (Nat.ble_eq_true_of_le (by omega))]
theorem sum_le (B : Nat) : ∀ (l : List Nat), (∀ x ∈ l, x ≤ B) → l.sum ≤ B * l.length
  | [], _ => by simp
  | x :: l, h => by
    have h1 := h x (.head _)
    have h2 := sum_le B l fun y hy => h y (.tail _ hy)
    rw [List.sum_cons, List.length_cons, Nat.mul_succ]; omega
theorem joinT_ok {xs : List Txt} {B : Nat} (h : ∀ x ∈ xs, x.cs.length ≤ B) (hz : B * xs.length ≤ 10000000) : joinT xs = some ⟨(xs.map Txt.cs).flatten⟩ := by
  unfold joinT
  have := sum_le B (xs.map fun x => x.cs.length) (fun y hy => by obtain ⟨x, hx, rfl⟩ := List.mem_map.mp hy; exact h x hx)
  rw [List.length_map] at this
  rw [if_pos (Nat.ble_eq_true_of_le (by omega))]
theorem tab_some {r : Nat} (h : r ≤ 4000) : bind2 (bind2 (some (⟨[32]⟩ : Txt)) (some (r : Int)) mulT) (some (⟨[9]⟩ : Txt)) addT = some ⟨tabT r⟩ := by
  show bind2 (mulT ⟨[32]⟩ (r : Int)) (some (⟨[9]⟩ : Txt)) addT = _
  rw [mulT_ok 32 (by omega)]
  show addT _ _ = _
  rw [addT_ok (by simp; omega)]; rfl
theorem tabs_join {rs : List Nat} (hr : ∀ r ∈ rs, r < 1500) (hl : rs.length ≤ 1500) : (compC (fun _ => some true) (fun a1 => bind2 (bind2 (some (⟨[32]⟩ : Txt)) (some a1) mulT) (some (⟨[9]⟩ : Txt)) addT) (zs rs)).bind joinT = some ⟨leadT rs⟩ := by
  have e : compC (fun _ => some true) (fun a1 => bind2 (bind2 (some (⟨[32]⟩ : Txt)) (some a1) mulT) (some (⟨[9]⟩ : Txt)) addT) (zs rs) = some ((zs rs).map fun (r : Int) => (⟨tabT r.toNat⟩ : Txt)) := by
    refine compC_map (fun a ha => ?_) (by rw [zs_len]; omega)
    obtain ⟨r, hr', rfl⟩ := List.mem_map.mp ha
    rw [tab_some (by have := hr r hr'; omega)]; rfl
  rw [e]
  show joinT _ = _
  rw [joinT_ok (B := 1500)]
  · unfold zs leadT; rw [List.map_map, List.map_map]; rfl
  · intro x hx
    unfold zs at hx
    rw [List.map_map] at hx
    obtain ⟨r, hr', rfl⟩ := List.mem_map.mp hx
    have := hr r hr'
    simp [tabT]; omega
  · rw [List.length_map, zs_len]; omega
theorem leadT_len {rs : List Nat} (hr : ∀ r ∈ rs, r < 1500) : (leadT rs).length ≤ 1500 * rs.length := by
  have := sum_le 1500 ((rs.map tabT).map List.length) (fun y hy => by
    rw [List.map_map] at hy
    obtain ⟨x, hx, rfl⟩ := List.mem_map.mp hy
    have := hr x hx
    simp [tabT]; omega)
  unfold leadT
  rw [List.length_flatten]
  simpa using this
theorem lead_ok {rs : List Nat} (hr : ∀ r ∈ rs, r < 1500) (hl : rs.length ≤ 500) : ∃ w : WS, fn__law_lead (zs rs, ()) = some ⟨w⟩ ∧ w.nt = some (rs.length : Int) ∧ w.norm = some ⟨(⟨cnts [] rs⟩, 0, ())⟩ := by
  obtain ⟨w, h1, h2, h3⟩ := init_lead rs [32, 9] hr
  refine ⟨w, ?_, h2, h3⟩
  have hb := leadT_len hr
  simp only [fn__law_lead, f__law_lead, in__law_lead]
  rw [show (some (zs rs)).bind (fun k => (some k).bind fun xs => compC (fun _ => some true) (fun a1 => bind2 (bind2 (some (⟨[32]⟩ : Txt)) (some a1) mulT) (some (⟨[9]⟩ : Txt)) addT) xs) = compC (fun _ => some true) (fun a1 => bind2 (bind2 (some (⟨[32]⟩ : Txt)) (some a1) mulT) (some (⟨[9]⟩ : Txt)) addT) (zs rs) from rfl, tabs_join hr (by omega)]
  show retOf (((bind2 (addT ⟨leadT rs⟩ ⟨[120, 32, 9]⟩) (some ()) fun a t => some (a, t)).bind fn_Whitespace).bind _) = _
  rw [addT_ok (by show (leadT rs).length + 3 ≤ _; omega)]
  show retOf ((fn_Whitespace (⟨leadT rs ++ [120, 32, 9]⟩, ())).bind _) = _
  rw [h1]; rfl
noncomputable def okN (x : Int) : Bool := match x with | .ofNat n => Nat.ble n 1499 | .negSucc _ => false
theorem okN_spec {x : Int} (h : okN x = true) : ((x.toNat : Nat) : Int) = x ∧ x.toNat < 1500 := by
  cases x with
  | ofNat n => exact ⟨rfl, Nat.lt_succ_of_le (Nat.le_of_ble_eq_true h)⟩
  | negSucc n => cases h
noncomputable def natsOf (runs : List Int) : Option (List Nat) := if runs.all okN && Nat.ble runs.length 500 then some (runs.map Int.toNat) else none
theorem natsOf_spec {runs : List Int} {rs : List Nat} (h : natsOf runs = some rs) : runs = zs rs ∧ (∀ r ∈ rs, r < 1500) ∧ rs.length ≤ 500 := by
  unfold natsOf at h
  split at h
  · rename_i q; cases h
    rw [Bool.and_eq_true] at q
    have q1 := List.all_eq_true.mp q.1
    have q2 := Nat.le_of_ble_eq_true q.2
    refine ⟨?_, fun r hr => ?_, by rw [List.length_map]; exact q2⟩
    · unfold zs
      rw [List.map_map]
      have : runs.map ((fun r : Nat => (r : Int)) ∘ Int.toNat) = runs.map id := List.map_congr_left fun x hx => (okN_spec (q1 x hx)).1
      rw [this, List.map_id]
    · obtain ⟨x, hx, rfl⟩ := List.mem_map.mp hr
      exact (okN_spec (q1 x hx)).2
  · cases h
noncomputable def gainS (runs : List Int) (size : Nat) : Option Int := (natsOf runs).bind fun rs => (natsOf (runs.map fun x => x - 1)).bind fun qs => some (colsP size rs - colsP size qs)
theorem gainS_ok {runs : List Int} {size : Nat} {v : Int} (h : gainS runs size = some v) (h0 : 0 < size) (h1 : size ≤ 1500) : fn__law_gain (runs, (size : Int), ()) = some v := by
  unfold gainS at h
  obtain ⟨rs, e1, h⟩ := bind_some h
  obtain ⟨qs, e2, h⟩ := bind_some h
  cases h
  obtain ⟨a1, a2, a3⟩ := natsOf_spec e1
  obtain ⟨b1, b2, b3⟩ := natsOf_spec e2
  obtain ⟨w, w1, w2, w3⟩ := lead_ok a2 a3
  obtain ⟨u, u1, u2, u3⟩ := lead_ok b2 b3
  have i1 := indent_ok w2 w3 a2 (by omega) h0 h1
  have i2 := indent_ok u2 u3 b2 (by omega) h0 h1
  have ec : compC (fun _ => some true) (fun a1 => bind2 (some a1) (some (1 : Int)) subI) runs = some (runs.map fun x => x - 1) := compC_map (fun a _ => rfl) (by rw [a1, zs_len]; omega)
  rw [← a1] at w1
  rw [← b1] at u1
  simp only [fn__law_gain, f__law_gain, in__law_gain, bind2, Option.bind_some, w1, i1]
  have ec' : compC (fun _ => some true) (fun a1 => subI a1 1) runs = some (runs.map fun x => x - 1) := ec
  rw [ec']
  simp only [Option.bind_some, u1, i2]
  rfl
end Mine
namespace Mine
open PySem PySem.W PyProof.Rows PySem.Calls

/-! one corner of the polygon, without the frame -/
noncomputable def frz (dots : List Int) : List Int → List Int → Int → Int → Option (List Int × Int)
  | [], rs, _, now => some (rs, now)
  | j :: js, rs, old, now => (appL rs now).bind fun r => (getL dots j).bind fun d => (mulI d now).bind fun m => frz dots js r now (m - old)
noncomputable def othersS (n i : Int) : Option (List Int) := (rngI ⟨1, n⟩).bind fun xs => compC (fun _ => some true) (fun a => modI (i + a) n) xs
noncomputable def detS (ways : List (List Int)) (i : Int) (os : List Int) : Option (List Int) := compC (fun _ => some true) (fun a1 => (((bind2 ((bind2 ((bind2 ((bind2 ((bind2 (some ways) (some i) fun xs k => getL xs k)) ((some (0 : Int))) fun xs k => getL xs k)) ((bind2 ((bind2 (some ways) ((some a1)) fun xs k => getL xs k)) ((some (1 : Int))) fun xs k => getL xs k)) mulI)) ((bind2 ((bind2 ((bind2 (some ways) (some i) fun xs k => getL xs k)) ((some (1 : Int))) fun xs k => getL xs k)) ((bind2 ((bind2 (some ways) ((some a1)) fun xs k => getL xs k)) ((some (0 : Int))) fun xs k => getL xs k)) mulI)) subI)) ((some ())) fun a t => some (a, t))).bind fun t => some (absI t.1))) os
noncomputable def likeS (neg : Bool) (n : Int) (os runs : List Int) (paint : List (List Int)) (i : Int) : Option (List Int) := (rngI ⟨0, n - 1⟩).bind fun xs => compC (fun a1 => (bind2 ((bind2 (some paint) ((bind2 (some os) ((some a1)) fun xs k => getL xs k)) fun xs k => getL xs k)) ((bind2 (some paint) (some i) fun xs k => getL xs k)) fun a b => some (neg != eqL RepD.eqd a b))) (fun a1 => (bind2 (some runs) ((some a1)) fun xs k => getL xs k)) xs
noncomputable def pairS (size : Nat) (paint : List (List Int)) (dots : List Int) (n : Int) (os runs : List Int) (i : Int) : Option Bool :=
  (likeS false n os runs paint i).bind fun al => (likeS true n os runs paint i).bind fun un => (gainS al size).bind fun g => (lenL al).bind fun l => (mulI (size : Int) l).bind fun m => (gainS un size).bind fun g2 =>
    if g == m && g2 == 0 then (if size == 2 then (natsOf un).bind fun us => (getL (cnts [] us) 1).bind fun q => (getL dots i).bind fun d => some (q == d + 1) else some true) else some false
noncomputable def rowS (dots : List Int) (ways three four : List (List Int)) (n i : Int) : Option Bool :=
  (othersS n i).bind fun os => (frz dots os [] 0 1).bind fun p => if p.2 == 0 then (detS ways i os).bind fun ds => if eqL RepD.eqd p.1 ds then (pairS 2 three dots n os p.1 i).bind fun b => if b then pairS 3 four dots n os p.1 i else some false else some false else some false

section
variable (sc : List Int) (ml : Txt) (ct : List Int) (wy th fo : List (List Int)) (ds : List Int) (n : Int)
noncomputable def stW (i : Option Int) (os runs : Option (List Int)) (old now j due size : Option Int) (paint : Option (List (List Int))) (al un : Option (List Int)) : S_law := ⟨some sc, some ml, some ct, some wy, some th, some fo, some ds, some n, i, os, runs, old, now, j, due, size, paint, al, un⟩
theorem frz_ok {i : Option Int} {os : Option (List Int)} {size : Option Int} {paint : Option (List (List Int))} {al un : Option (List Int)} : ∀ (js rs : List Int) (old now : Int) (j due : Option Int) (p : List Int × Int), frz ds js rs old now = some p →
    ∃ old' j' due', forF fb_law_1 (fun x a => { x with j := some a }) js (stW sc ml ct wy th fo ds n i os (some rs) (some old) (some now) j due size paint al un) = some (.next (stW sc ml ct wy th fo ds n i os (some p.1) old' (some p.2) j' due' size paint al un))
  | [], rs, old, now, j, due, p, h => by cases h; exact ⟨some old, j, due, rfl⟩
  | k :: js, rs, old, now, j, due, p, h => by
    unfold frz at h
    obtain ⟨r, e1, h⟩ := bind_some h
    obtain ⟨d, e2, h⟩ := bind_some h
    obtain ⟨m, e3, h⟩ := bind_some h
    obtain ⟨old', j', due', e⟩ := frz_ok js r now (m - old) (some k) (some (m - old)) p h
    refine ⟨old', j', due', ?_⟩
    have hb : fb_law_1 (stW sc ml ct wy th fo ds n i os (some rs) (some old) (some now) (some k) due size paint al un) = some (.next (stW sc ml ct wy th fo ds n i os (some r) (some now) (some (m - old)) (some k) (some (m - old)) size paint al un)) := by
      simp only [fb_law_1, stW, bind2, Option.bind_some, thenF, e1, e2, e3, subI]
    show (fb_law_1 (stW sc ml ct wy th fo ds n i os (some rs) (some old) (some now) (some k) due size paint al un)).bind _ = _
    rw [hb]
    exact e
theorem pair_ok {size : Nat} {paint : List (List Int)} {os runs : List Int} {i : Int} (h : pairS size paint ds n os runs i = some true) (h0 : 0 < size) (h1 : size ≤ 1500) (old now j due : Option Int) (al un : Option (List Int)) :
    ∃ al' un', fb_law_2 (stW sc ml ct wy th fo ds n (some i) (some os) (some runs) old now j due (some (size : Int)) (some paint) al un) = some (.next (stW sc ml ct wy th fo ds n (some i) (some os) (some runs) old now j due (some (size : Int)) (some paint) al' un')) := by
  unfold pairS at h
  obtain ⟨a, e1, h⟩ := bind_some h
  obtain ⟨u, e2, h⟩ := bind_some h
  obtain ⟨g, e3, h⟩ := bind_some h
  obtain ⟨l, e4, h⟩ := bind_some h
  obtain ⟨m, e5, h⟩ := bind_some h
  obtain ⟨g2, e6, h⟩ := bind_some h
  split at h
  case isFalse => cases h
  rename_i hg
  rw [Bool.and_eq_true, beq_iff_eq, beq_iff_eq] at hg
  have g1 := gainS_ok e3 h0 h1
  have g3 := gainS_ok e6 h0 h1
  refine ⟨some a, some u, ?_⟩
  have e1' : ((rngI ⟨0, n - 1⟩).bind fun xs => compC (fun a1 => (bind2 ((bind2 (some paint) ((bind2 (some os) ((some a1)) fun xs k => getL xs k)) fun xs k => getL xs k)) ((bind2 (some paint) (some i) fun xs k => getL xs k)) fun a b => some (eqL RepD.eqd a b))) (fun a1 => (bind2 (some runs) ((some a1)) fun xs k => getL xs k)) xs) = some a := by
    rw [← e1]; unfold likeS; simp only [Bool.false_bne]
  have e2' : ((rngI ⟨0, n - 1⟩).bind fun xs => compC (fun a1 => (bind2 ((bind2 (some paint) ((bind2 (some os) ((some a1)) fun xs k => getL xs k)) fun xs k => getL xs k)) ((bind2 (some paint) (some i) fun xs k => getL xs k)) fun a b => some (!eqL RepD.eqd a b))) (fun a1 => (bind2 (some runs) ((some a1)) fun xs k => getL xs k)) xs) = some u := by
    rw [← e2]; unfold likeS; simp only [Bool.true_bne]
  have z1 : neI g m = some false := by unfold neI; rw [hg.1]; simp
  have z2 : neI g2 0 = some false := by unfold neI; rw [hg.2]; rfl
  have e7 : (andF (eqI (size : Int) 2) fun _ => (bind2 ((bind2 ((((((fn__law_lead (u, ())).bind fun x => x.it.norm)).map fun x => x.it.1)) ) ((some (1 : Int))) fun xs k => getL xs.items k)) ((bind2 ((bind2 (some ds) (some i) fun xs k => getL xs k)) ((some (1 : Int))) addI)) neI)) = some false := by
    unfold andF eqI
    show (if (((size : Int) == 2)) = true then _ else some false) = _
    by_cases h2 : size = 2
    · rw [h2] at h
      have h' : ((natsOf u).bind fun us => (getL (cnts [] us) 1).bind fun q => (getL ds i).bind fun d => some (q == d + 1)) = some true := h
      obtain ⟨us, f1, h'⟩ := bind_some h'
      obtain ⟨q, f2, h'⟩ := bind_some h'
      obtain ⟨d, f3, h'⟩ := bind_some h'
      obtain ⟨a1, a2, a3⟩ := natsOf_spec f1
      obtain ⟨w, w1, w2, w3⟩ := lead_ok a2 a3
      have w1' : fn__law_lead (u, ()) = some ⟨w⟩ := by rw [a1]; exact w1
      rw [if_pos (by rw [h2]; rfl), w1']
      simp only [Option.bind_some, w3, Option.map_some, bind2, f2, f3, addI, neI]
      have : (q == d + 1) = true := Option.some.inj h'
      rw [beq_iff_eq] at this
      rw [this]; simp
    · rw [if_neg (by simp; omega)]
  have e1'' : ((rngI ⟨0, n - 1⟩).bind fun xs => compC (fun a1 => ((getL os a1).bind fun b => getL paint b).bind fun a => (getL paint i).bind fun b => some (eqL RepD.eqd a b)) (fun a1 => getL runs a1) xs) = some a := e1'
  have e2'' : ((rngI ⟨0, n - 1⟩).bind fun xs => compC (fun a1 => ((getL os a1).bind fun b => getL paint b).bind fun a => (getL paint i).bind fun b => some (!eqL RepD.eqd a b)) (fun a1 => getL runs a1) xs) = some u := e2'
  have e7' : (andF (eqI (size : Int) 2) fun _ => ((((fn__law_lead (u, ())).bind fun x => x.it.norm).map fun x => x.it.1).bind fun a => getL a.items 1).bind fun a => ((getL ds i).bind fun a => addI a 1).bind fun b => neI a b) = some false := e7
  simp only [fb_law_2, stW, bind2, Option.bind_some, thenF, subI, e1'', e2'', e4, e5, g1, g3, z1, z2, e7', Bool.false_eq_true, if_false]
end
end Mine
namespace Mine
open PySem PySem.W PyProof.Rows PySem.Calls

theorem forF_inv {σ ρ α : Type} {f : σ → Option (Fl σ ρ)} {set : σ → α → σ} {I : σ → Prop} : ∀ {xs : List α} {x : σ}, I x → (∀ a ∈ xs, ∀ x, I x → ∃ y, f (set x a) = some (.next y) ∧ I y) → ∃ y, forF f set xs x = some (.next y) ∧ I y
  | [], x, h, _ => ⟨x, rfl, h⟩
  | a :: xs, x, h, H => by
    obtain ⟨y, e, hy⟩ := H a (.head _) x h
    obtain ⟨z, e2, hz⟩ := forF_inv (xs := xs) hy fun b hb => H b (.tail _ hb)
    refine ⟨z, ?_, hz⟩
    show (f (set x a)).bind _ = _
    rw [e]; exact e2
noncomputable def splS (t : Txt) : Option (List Txt) := if Nat.ble t.cs.length 10000 then some ((spl t.cs).map Txt.mk) else none
theorem splS_ok {t : Txt} {r : List Txt} (h : splS t = some r) : splitT t ⟨[13, 10]⟩ = some r := by
  unfold splS at h
  split at h
  · rename_i z; cases h
    have z := Nat.le_of_ble_eq_true z
    exact splitT_ok t (by omega)
  · cases h
section
variable (sc : List Int) (ml : Txt) (ct : List Int) (wy th fo : List (List Int)) (ds : List Int) (n : Int)
noncomputable def InvW (x : S_law) : Prop := ∃ i os runs old now j due size paint al un, x = stW sc ml ct wy th fo ds n i os runs old now j due size paint al un
theorem row_ok {i : Int} (h : rowS ds wy th fo n i = some true) (x : S_law) (hx : InvW sc ml ct wy th fo ds n x) : ∃ y, fb_law_3 { x with i := some i } = some (.next y) ∧ InvW sc ml ct wy th fo ds n y := by
  obtain ⟨i0, os0, runs0, old0, now0, j0, due0, size0, paint0, al0, un0, rfl⟩ := hx
  unfold rowS at h
  obtain ⟨os, e1, h⟩ := bind_some h
  obtain ⟨p, e2, h⟩ := bind_some h
  split at h
  case isFalse => cases h
  rename_i hp
  obtain ⟨dt, e3, h⟩ := bind_some h
  split at h
  case isFalse => cases h
  rename_i hd
  obtain ⟨b, e4, h⟩ := bind_some h
  split at h
  case isFalse => cases h
  rename_i hb
  subst hb
  obtain ⟨o1, j1, d1, f1⟩ := frz_ok sc ml ct wy th fo ds n (i := some i) (os := some os) (size := size0) (paint := paint0) (al := al0) (un := un0) os [] 0 1 j0 due0 p e2
  obtain ⟨al1, un1, f2⟩ := pair_ok sc ml ct wy th fo ds n e4 (by decide) (by decide) o1 (some p.2) j1 d1 al0 un0
  obtain ⟨al2, un2, f3⟩ := pair_ok sc ml ct wy th fo ds n h (by decide) (by decide) o1 (some p.2) j1 d1 al1 un1
  have e1' : ((rngI ⟨1, n⟩).bind fun xs => compC (fun _ => some true) (fun a1 => (addI i a1).bind fun a => modI a n) xs) = some os := e1
  have z1 : neI p.2 0 = some false := by unfold neI; rw [beq_iff_eq.mp hp]; rfl
  have e3' := e3
  unfold detS at e3'
  simp only [bind2, Option.bind_some] at e3'
  refine ⟨_, ?_, ⟨some i, some os, some p.1, o1, some p.2, j1, d1, some 3, some fo, al2, un2, rfl⟩⟩
  simp only [fb_law_3, stW, bind2, Option.bind_some, thenF, e1', Option.map_some]
  have f1' : forF fb_law_1 (fun x a => { x with j := some a }) os { script := some sc, mail := some ml, counts := some ct, ways := some wy, three := some th, four := some fo, dots := some ds, corners := some n, i := some i, others := some os, runs := some [], old := some 0, now := some 1, j := j0, due := due0, size := size0, paint := paint0, alike := al0, unlike := un0 } = _ := f1
  rw [f1']
  simp only [stW, thenF, Option.bind_some, Option.map_some, z1, Bool.false_eq_true, if_false, e3', hd, Bool.not_true]
  show (fb_law_2 (stW sc ml ct wy th fo ds n (some i) (some os) (some p.1) o1 (some p.2) j1 d1 (some ((2 : Nat) : Int)) (some th) al0 un0)).bind _ = _
  rw [f2]
  show (fb_law_2 (stW sc ml ct wy th fo ds n (some i) (some os) (some p.1) o1 (some p.2) j1 d1 (some ((3 : Nat) : Int)) (some fo) al1 un1)).bind _ = _
  rw [f3]
  rfl
/-- what is asked of a polygon -/
noncomputable def lawS (ml : Txt) (ct : List Int) (wy th fo : List (List Int)) : Option Bool :=
  ((compC (fun _ => some true) (fun a1 => (bind2 ((bind2 ((some (⟨[46]⟩ : Txt))) ((some a1)) mulT)) ((some (⟨[13,10]⟩ : Txt))) addT)) ct).bind joinT).bind fun m => if ml.cs == m.cs then
    ((splS ml).bind fun xs => sliceL xs none (some (-1))).bind fun k => (compC (fun _ => some true) (fun a1 => lenT a1) k).bind fun ds => (lenL ds).bind fun n => (rngI ⟨0, n⟩).bind fun is => if is.all fun i => (rowS ds wy th fo n i == some true) then some true else none
  else none
theorem law_ok (h : lawS ml ct wy th fo = some true) (hp : fn__law_polygon (sc, ()) = some ⟨(ml, ct, wy, th, fo, ())⟩) : fn_law (sc, ()) = some true := by
  unfold lawS at h
  obtain ⟨m, e1, h⟩ := bind_some h
  split at h
  case isFalse => cases h
  rename_i hm
  obtain ⟨k, e2, h⟩ := bind_some h
  obtain ⟨ds, e3, h⟩ := bind_some h
  obtain ⟨n, e4, h⟩ := bind_some h
  obtain ⟨is, e5, h⟩ := bind_some h
  split at h
  case isFalse => cases h
  rename_i hall
  have hall := List.all_eq_true.mp hall
  obtain ⟨y, f1, _⟩ := forF_inv (f := fb_law_3) (set := fun x a => { x with i := some a }) (I := InvW sc ml ct wy th fo ds n) (xs := is) (x := stW sc ml ct wy th fo ds n none none none none none none none none none none none) ⟨_, _, _, _, _, _, _, _, _, _, _, rfl⟩
    fun a ha x hx => row_ok sc ml ct wy th fo ds n (by simpa using hall a ha) x hx
  have z1 : neT ml m = some false := by unfold neT; simp only [bne, hm]; rfl
  obtain ⟨mm, e0, e1'⟩ := bind_some e1
  have e0' : compC (fun _ => some true) (fun a1 => (mulT ⟨[46]⟩ a1).bind fun a => addT a ⟨[13, 10]⟩) ct = some mm := e0
  obtain ⟨sp, s1, s2⟩ := bind_some e2
  have s1 := splS_ok s1
  have f1' : forF fb_law_3 (fun x a => { x with i := some a }) is { script := some sc, mail := some ml, counts := some ct, ways := some wy, three := some th, four := some fo, dots := some ds, corners := some n, i := none, others := none, runs := none, old := none, now := none, j := none, due := none, size := none, paint := none, alike := none, unlike := none } = _ := f1
  unfold fn_law
  simp only [f_law, in_law, bind2, Option.bind_some, thenF, hp, e0', e1', z1, Bool.false_eq_true, if_false, s1, negI, Option.map_some, s2, e3, e4, e5, f1']
  rfl
end
end Mine
namespace Mine
open PySem PySem.W PyProof.Rows PySem.Calls

/-! the polygon, without the frame -/
structure PS where
  rows : List Txt
  counts : List Int
  ways : List (List Int)
  three : List (List Int)
  four : List (List Int)
  across : List (List Int)
noncomputable def rotS {α : Type} (xs : List α) (p : Int) : Option (List α) := (sliceL xs (some p) none).bind fun a => (sliceL xs none (some p)).bind fun b => addL a b
noncomputable def quoteS (t : Txt) : Option Txt := if Nat.ble t.cs.length 1000 then some ⟨dotE true (fixE t.cs)⟩ else none
theorem quoteS_ok {t q : Txt} (h : quoteS t = some q) : fn_quotedata (t, ()) = some q := by
  unfold quoteS at h
  split at h
  · rename_i z; cases h
    have z := Nat.le_of_ble_eq_true z
    have := fixE_len t.cs
    simp only [fn_quotedata, f_quotedata, in_quotedata, bind2, Option.bind_some, subT2 t (by omega)]
    rw [subT1 ⟨fixE t.cs⟩ (by show (fixE t.cs).length ≤ _; omega)]; rfl
  · cases h
noncomputable def fixS (t : Txt) : Option Txt := if Nat.ble t.cs.length 1000 then some ⟨fixE t.cs⟩ else none
theorem fixS_ok {t q : Txt} (h : fixS t = some q) : fn__fix_eols (t, ()) = some q := by
  unfold fixS at h
  split at h
  · rename_i z; cases h
    have z := Nat.le_of_ble_eq_true z
    simp only [fn__fix_eols, f__fix_eols, in__fix_eols, bind2, Option.bind_some, subT2 t (by omega)]; rfl
  · cases h
noncomputable def lackTab : List (List (List Int) × List Int) := 
  let R : List Int := [1, 0, 0]
  let G : List Int := [0, 1, 0]
  let B : List Int := [0, 0, 1]
  let W : List Int := [1, 1, 1]
  [([R, G], B), ([G, R], B), ([R, B], G), ([B, R], G), ([G, B], R), ([B, G], R),
   ([R, G, B], W), ([R, B, G], W), ([G, R, B], W), ([G, B, R], W), ([B, R, G], W), ([B, G, R], W),
   ([R, G, W], B), ([R, W, G], B), ([G, R, W], B), ([G, W, R], B), ([W, R, G], B), ([W, G, R], B),
   ([R, B, W], G), ([R, W, B], G), ([B, R, W], G), ([B, W, R], G), ([W, R, B], G), ([W, B, R], G),
   ([G, B, W], R), ([G, W, B], R), ([B, G, W], R), ([B, W, G], R), ([W, G, B], R), ([W, B, G], R)]
theorem lackTab_ok : (lackTab.all fun e => fn__law_lacking (e.1, ()) == some e.2) = true := by decide +kernel
noncomputable def lackS (p : List (List Int)) : Option (List Int) := (lackTab.find? fun e => e.1 == p).map (·.2)
theorem lackS_ok {p : List (List Int)} {c : List Int} (h : lackS p = some c) : fn__law_lacking (p, ()) = some c := by
  unfold lackS at h
  obtain ⟨e, he, rfl⟩ := Option.map_eq_some_iff.mp h
  have h1 := List.mem_of_find?_eq_some he
  have h2 := List.find?_some he
  rw [beq_iff_eq] at h2
  have := List.all_eq_true.mp lackTab_ok e h1
  rw [beq_iff_eq] at this
  rw [← h2]; exact this

noncomputable def stepS (k : Int) (p : Int) (x : PS) : Option PS :=
  (rotS x.rows p).bind fun rows => (rotS x.counts p).bind fun counts =>
  ((sliceL x.ways (some p) none).bind fun a => ((sliceL x.ways none (some p)).bind fun b => compC (fun _ => some true) (fun a1 => (bind2 ((((bind2 ((some a1)) ((some (0 : Int))) fun xs k => getL xs k)).bind negI)) ((bind2 ((((bind2 ((some a1)) ((some (1 : Int))) fun xs k => getL xs k)).bind negI)) ((some [])) fun a t => some (a :: t))) fun a t => some (a :: t))) b).bind fun c => addL a c).bind fun ways =>
  (rotS x.three p).bind fun three => (rotS x.four p).bind fun four => (rotS x.across p).bind fun across =>
  (getL rows 0).bind fun r0 => (getL rows 1).bind fun r1 => (addT r0 r1).bind fun t => (quoteS t).bind fun q => (splS q).bind fun sent =>
  (getL sent 0).bind fun s0 => (addT s0 ⟨[13, 10]⟩).bind fun n0 => (modI k 3).bind fun km => (getL [(⟨[10]⟩ : Txt), ⟨[13]⟩, ⟨[13, 10]⟩] km).bind fun e => (addT ⟨[46]⟩ e).bind fun n1 => (getL sent 1).bind fun s1 => (addT s1 ⟨[13, 10]⟩).bind fun n2 =>
  (sliceL rows (some 2) none).bind fun rr => (addL [n0, n1, n2] rr).bind fun rows' =>
  (getL counts 0).bind fun c0 => (getL counts 1).bind fun c1 => (sliceL counts (some 2) none).bind fun cr => (addL [c0 + 1, 1, c1 + 1] cr).bind fun counts' =>
  (getL ways 0).bind fun w0 => (getL w0 0).bind fun w00 => (getL ways 1).bind fun w1 => (getL w1 0).bind fun w10 => (getL w0 1).bind fun w01 => (getL w1 1).bind fun w11 => (sliceL ways (some 1) none).bind fun wr => (addL [w0, [w00 + w10, w01 + w11]] wr).bind fun ways' =>
  (getL three 0).bind fun t0 => (sliceL three none (some 2)).bind fun t2 => (lackS t2).bind fun tn => (sliceL three (some 1) none).bind fun tr => (addL [t0, tn] tr).bind fun three' =>
  (getL four 0).bind fun f0 => (getL four 1).bind fun f1 => (getL across 0).bind fun a0 => (lackS [f0, f1, a0]).bind fun fresh =>
  (sliceL across (some 1) none).bind fun ar => (addL [f1, f0] ar).bind fun across' => (sliceL four (some 1) none).bind fun fr => (addL [f0, fresh] fr).bind fun four' =>
  some ⟨rows', counts', ways', three', four', across'⟩
theorem nx {σ ρ : Type} {o : Option (Fl σ ρ)} {y : σ} {g : σ → Option (Fl σ ρ)} (h : o = some (.next y)) : o.bind (thenF g) = g y := by rw [h]; rfl
noncomputable def placeS (sc : List Int) (glued k : Int) : Option Int := (stepL sc (some k) none glued).bind fun xs => modI (xs.sum + k) (k + 3)
noncomputable def stP (sc : List Int) (x : PS) (glued : Int) (k place : Option Int) (sent : Option (List Txt)) (fresh : Option (List Int)) : S__law_polygon := ⟨some sc, some x.rows, some x.counts, some x.ways, some x.three, some x.four, some x.across, some glued, k, place, sent, fresh⟩
theorem step_ok {sc : List Int} {x y : PS} {glued k p : Int} (hp : placeS sc glued k = some p) (h : stepS k p x = some y) (pl : Option Int) (sent : Option (List Txt)) (fresh : Option (List Int)) :
    ∃ pl' sent' fresh', fb__law_polygon_1 (stP sc x glued (some k) pl sent fresh) = some (.next (stP sc y glued (some k) pl' sent' fresh')) := by
  unfold placeS at hp
  obtain ⟨xs, p1, p2⟩ := bind_some hp
  unfold stepS rotS at h
  obtain ⟨rows, e1, h⟩ := bind_some h
  obtain ⟨q1, e11, e12⟩ := bind_some e1
  obtain ⟨q2, e13, e14⟩ := bind_some e12
  obtain ⟨counts, e2, h⟩ := bind_some h
  obtain ⟨q3, e21, e22⟩ := bind_some e2
  obtain ⟨q4, e23, e24⟩ := bind_some e22
  obtain ⟨ways, e3, h⟩ := bind_some h
  obtain ⟨q5, e31, e32⟩ := bind_some e3
  obtain ⟨q6, e33, e34⟩ := bind_some e32
  obtain ⟨q7, e35, e36⟩ := bind_some e33
  obtain ⟨three, e4, h⟩ := bind_some h
  obtain ⟨q8, e41, e42⟩ := bind_some e4
  obtain ⟨q9, e43, e44⟩ := bind_some e42
  obtain ⟨four, e5, h⟩ := bind_some h
  obtain ⟨q10, e51, e52⟩ := bind_some e5
  obtain ⟨q11, e53, e54⟩ := bind_some e52
  obtain ⟨across, e6, h⟩ := bind_some h
  obtain ⟨q12, e61, e62⟩ := bind_some e6
  obtain ⟨q13, e63, e64⟩ := bind_some e62
  obtain ⟨r0, f1, h⟩ := bind_some h
  obtain ⟨r1, f2, h⟩ := bind_some h
  obtain ⟨t, f3, h⟩ := bind_some h
  obtain ⟨q, f4, h⟩ := bind_some h
  obtain ⟨sent', f5, h⟩ := bind_some h
  obtain ⟨s0, f6, h⟩ := bind_some h
  obtain ⟨n0, f7, h⟩ := bind_some h
  obtain ⟨km, f8, h⟩ := bind_some h
  obtain ⟨e, f9, h⟩ := bind_some h
  obtain ⟨n1, f10, h⟩ := bind_some h
  obtain ⟨s1, f11, h⟩ := bind_some h
  obtain ⟨n2, f12, h⟩ := bind_some h
  obtain ⟨rr, f13, h⟩ := bind_some h
  obtain ⟨rows', f14, h⟩ := bind_some h
  obtain ⟨c0, f15, h⟩ := bind_some h
  obtain ⟨c1, f16, h⟩ := bind_some h
  obtain ⟨cr, f17, h⟩ := bind_some h
  obtain ⟨counts', f18, h⟩ := bind_some h
  obtain ⟨w0, f19, h⟩ := bind_some h
  obtain ⟨w00, f20, h⟩ := bind_some h
  obtain ⟨w1, f21, h⟩ := bind_some h
  obtain ⟨w10, f22, h⟩ := bind_some h
  obtain ⟨w01, f23, h⟩ := bind_some h
  obtain ⟨w11, f24, h⟩ := bind_some h
  obtain ⟨wr, f25, h⟩ := bind_some h
  obtain ⟨ways', f26, h⟩ := bind_some h
  obtain ⟨t0, f27, h⟩ := bind_some h
  obtain ⟨t2, f28, h⟩ := bind_some h
  obtain ⟨tn, f29, h⟩ := bind_some h
  obtain ⟨tr, f30, h⟩ := bind_some h
  obtain ⟨three', f31, h⟩ := bind_some h
  obtain ⟨f0, f32, h⟩ := bind_some h
  obtain ⟨ff1, f33, h⟩ := bind_some h
  obtain ⟨a0, f34, h⟩ := bind_some h
  obtain ⟨fresh', f35, h⟩ := bind_some h
  obtain ⟨ar, f36, h⟩ := bind_some h
  obtain ⟨across', f37, h⟩ := bind_some h
  obtain ⟨fr, f38, h⟩ := bind_some h
  obtain ⟨four', f39, h⟩ := bind_some h
  cases h
  have g4 := quoteS_ok f4
  have f5 := splS_ok f5
  have g29 := lackS_ok f29
  have g35 := lackS_ok f35
  simp only [bind2, Option.bind_some] at e36
  refine ⟨some p, some sent', some fresh', ?_⟩
  unfold fb__law_polygon_1 stP
  refine (nx (y := (⟨some sc, some x.rows, some x.counts, some x.ways, some x.three, some x.four, some x.across, some glued, some k, some p, sent, fresh⟩ : S__law_polygon)) (by simp only [bind2, Option.bind_some, Option.map_some, p1, addI, p2])).trans ?_
  refine (nx (y := (⟨some sc, some rows, some x.counts, some x.ways, some x.three, some x.four, some x.across, some glued, some k, some p, sent, fresh⟩ : S__law_polygon)) (by simp only [bind2, Option.bind_some, Option.map_some, e11, e13, e14])).trans ?_
  refine (nx (y := (⟨some sc, some rows, some counts, some x.ways, some x.three, some x.four, some x.across, some glued, some k, some p, sent, fresh⟩ : S__law_polygon)) (by simp only [bind2, Option.bind_some, Option.map_some, e21, e23, e24])).trans ?_
  refine (nx (y := (⟨some sc, some rows, some counts, some ways, some x.three, some x.four, some x.across, some glued, some k, some p, sent, fresh⟩ : S__law_polygon)) (by simp only [bind2, Option.bind_some, Option.map_some, e31, e35, e36, e34])).trans ?_
  refine (nx (y := (⟨some sc, some rows, some counts, some ways, some three, some x.four, some x.across, some glued, some k, some p, sent, fresh⟩ : S__law_polygon)) (by simp only [bind2, Option.bind_some, Option.map_some, e41, e43, e44])).trans ?_
  refine (nx (y := (⟨some sc, some rows, some counts, some ways, some three, some four, some x.across, some glued, some k, some p, sent, fresh⟩ : S__law_polygon)) (by simp only [bind2, Option.bind_some, Option.map_some, e51, e53, e54])).trans ?_
  refine (nx (y := (⟨some sc, some rows, some counts, some ways, some three, some four, some across, some glued, some k, some p, sent, fresh⟩ : S__law_polygon)) (by simp only [bind2, Option.bind_some, Option.map_some, e61, e63, e64])).trans ?_
  refine (nx (y := (⟨some sc, some rows, some counts, some ways, some three, some four, some across, some glued, some k, some p, some sent', fresh⟩ : S__law_polygon)) (by simp only [bind2, Option.bind_some, Option.map_some, f1, f2, f3, g4, f5])).trans ?_
  refine (nx (y := (⟨some sc, some rows', some counts, some ways, some three, some four, some across, some glued, some k, some p, some sent', fresh⟩ : S__law_polygon)) (by simp only [bind2, Option.bind_some, Option.map_some, f6, f7, f8, f9, f10, f11, f12, f13, f14])).trans ?_
  refine (nx (y := (⟨some sc, some rows', some counts', some ways, some three, some four, some across, some glued, some k, some p, some sent', fresh⟩ : S__law_polygon)) (by simp only [bind2, Option.bind_some, Option.map_some, f15, f16, addI, f17, f18])).trans ?_
  refine (nx (y := (⟨some sc, some rows', some counts', some ways', some three, some four, some across, some glued, some k, some p, some sent', fresh⟩ : S__law_polygon)) (by simp only [bind2, Option.bind_some, Option.map_some, f19, f20, f21, f22, f23, f24, addI, f25, f26])).trans ?_
  refine (nx (y := (⟨some sc, some rows', some counts', some ways', some three', some four, some across, some glued, some k, some p, some sent', fresh⟩ : S__law_polygon)) (by simp only [bind2, Option.bind_some, Option.map_some, f27, f28, g29, f30, f31])).trans ?_
  refine (nx (y := (⟨some sc, some rows', some counts', some ways', some three', some four, some across, some glued, some k, some p, some sent', some fresh'⟩ : S__law_polygon)) (by simp only [bind2, Option.bind_some, Option.map_some, f32, f33, f34, g35])).trans ?_
  refine (nx (y := (⟨some sc, some rows', some counts', some ways', some three', some four, some across', some glued, some k, some p, some sent', some fresh'⟩ : S__law_polygon)) (by simp only [bind2, Option.bind_some, Option.map_some, f32, f33, f36, f37])).trans ?_
  show _ = some (Fl.next (⟨some sc, some rows', some counts', some ways', some three', some four', some across', some glued, some k, some p, some sent', some fresh'⟩ : S__law_polygon))
  simp only [bind2, Option.bind_some, Option.map_some, f32, f38, f39]
end Mine
namespace Mine
open PySem PySem.W PyProof.Rows PySem.Calls

noncomputable def polyS : Nat → Int → (Int → Option Int) → PS → Option PS
  | 0, _, _, x => some x
  | m + 1, k, pl, x => (pl k).bind fun p => (stepS k p x).bind fun y => polyS m (k + 1) pl y
theorem poly_ok {sc : List Int} {glued : Int} : ∀ (m : Nat) (k : Int) (x y : PS) (k0 pl : Option Int) (sent : Option (List Txt)) (fresh : Option (List Int)), polyS m k (placeS sc glued) x = some y →
    ∃ k' pl' sent' fresh', forF fb__law_polygon_1 (fun x a => { x with k := some a }) (intsFrom m k) (stP sc x glued k0 pl sent fresh) = some (.next (stP sc y glued k' pl' sent' fresh'))
  | 0, k, x, y, k0, pl, sent, fresh, h => by cases h; exact ⟨k0, pl, sent, fresh, rfl⟩
  | m + 1, k, x, y, k0, pl, sent, fresh, h => by
    unfold polyS at h
    obtain ⟨p, h1, h⟩ := bind_some h
    obtain ⟨z, h2, h⟩ := bind_some h
    obtain ⟨pl1, sent1, fresh1, e1⟩ := step_ok h1 h2 pl sent fresh
    obtain ⟨k', pl', sent', fresh', e⟩ := poly_ok m (k + 1) z y (some k) pl1 sent1 fresh1 h
    refine ⟨k', pl', sent', fresh', ?_⟩
    show (fb__law_polygon_1 (stP sc x glued (some k) pl sent fresh)).bind _ = _
    rw [e1]; exact e
noncomputable def ps0 : PS := ⟨[⟨[46, 10]⟩, ⟨[46, 13]⟩, ⟨[46, 13, 10]⟩], [1, 1, 1], [[1, 0], [1, 1], [0, 1]], [[1, 0, 0], [0, 1, 0], [0, 0, 1]], [[1, 0, 0], [0, 1, 0], [0, 0, 1]], [[0, 0, 1], [1, 0, 0], [0, 1, 0]]⟩
noncomputable def gluedOf (sc : List Int) : Nat := 2 + sc.length / 2 % 3
theorem polygon_ok {sc : List Int} {x : PS} {j ml : Txt} (hz : sc.length ≤ 63) (h : polyS (gluedOf sc) 0 (placeS sc (gluedOf sc : Int)) ps0 = some x) (hj : joinT x.rows = some j) (hm : fixS j = some ml) :
    fn__law_polygon (sc, ()) = some ⟨(ml, x.counts, x.ways, x.three, x.four, ())⟩ := by
  have e1 : lenL sc = some (sc.length : Int) := lenL_ok (by omega)
  have e2 : divI (sc.length : Int) 2 = some ((sc.length / 2 : Nat) : Int) := divI_ok (b := 2) (by decide) (by decide)
  have e3 : modI ((sc.length / 2 : Nat) : Int) 3 = some ((sc.length / 2 % 3 : Nat) : Int) := by
    unfold modI
    rw [if_neg (by decide), Int.fmod_eq_emod_of_nonneg _ (by decide)]; rfl
  have e4 : addI 2 ((sc.length / 2 % 3 : Nat) : Int) = some (gluedOf sc : Int) := by unfold addI gluedOf; congr 1
  have hg : gluedOf sc ≤ 4 := by unfold gluedOf; omega
  have e5 : rngI ⟨0, (gluedOf sc : Int)⟩ = some (intsFrom (gluedOf sc) 0) := by
    match gluedOf sc, hg with
    | 0, _ => rfl
    | 1, _ => rfl
    | 2, _ => rfl
    | 3, _ => rfl
    | 4, _ => rfl
    | k + 5, h => omega
  obtain ⟨k', pl', sent', fresh', e6⟩ := poly_ok (sc := sc) (glued := (gluedOf sc : Int)) (gluedOf sc) 0 ps0 x none none none none h
  have hf := fixS_ok hm
  have key : f__law_polygon (in__law_polygon (sc, ())) = some (.ret ⟨(ml, x.counts, x.ways, x.three, x.four, ())⟩) := by
    unfold f__law_polygon in__law_polygon
    refine (nx (y := (⟨some sc, some ps0.rows, none, none, none, none, none, none, none, none, none, none⟩ : S__law_polygon)) rfl).trans ?_
    refine (nx (y := (⟨some sc, some ps0.rows, some ps0.counts, none, none, none, none, none, none, none, none, none⟩ : S__law_polygon)) rfl).trans ?_
    refine (nx (y := (⟨some sc, some ps0.rows, some ps0.counts, some ps0.ways, none, none, none, none, none, none, none, none⟩ : S__law_polygon)) rfl).trans ?_
    refine (nx (y := (⟨some sc, some ps0.rows, some ps0.counts, some ps0.ways, some ps0.three, none, none, none, none, none, none, none⟩ : S__law_polygon)) rfl).trans ?_
    refine (nx (y := (⟨some sc, some ps0.rows, some ps0.counts, some ps0.ways, some ps0.three, some ps0.four, none, none, none, none, none, none⟩ : S__law_polygon)) rfl).trans ?_
    refine (nx (y := (⟨some sc, some ps0.rows, some ps0.counts, some ps0.ways, some ps0.three, some ps0.four, some ps0.across, none, none, none, none, none⟩ : S__law_polygon)) rfl).trans ?_
    refine (nx (y := (⟨some sc, some ps0.rows, some ps0.counts, some ps0.ways, some ps0.three, some ps0.four, some ps0.across, some (gluedOf sc : Int), none, none, none, none⟩ : S__law_polygon)) (by simp only [bind2, Option.bind_some, e1, e2, e3, e4])).trans ?_
    refine (nx (y := stP sc x (gluedOf sc : Int) k' pl' sent' fresh') ?_).trans ?_
    · simp only [bind2, Option.bind_some, e5]
      exact e6
    · simp only [stP, bind2, Option.bind_some, Option.map_some, hj, hf]
  unfold fn__law_polygon
  rw [key]; rfl
/-- every polygon that can come is as asked -/
noncomputable def endS (x : PS) : Bool := match joinT x.rows with
  | some j => match fixS j with
    | some ml => lawS ml x.counts x.ways x.three x.four == some true
    | none => false
  | none => false
noncomputable def treeS : Nat → Nat → PS → Bool
  | 0, _, x => endS x
  | m + 1, k, x => (List.range (k + 3)).all fun (p : Nat) => match stepS (k : Int) (p : Int) x with
    | some y => treeS m (k + 1) y
    | none => false
theorem tree_ok {pl : Int → Option Int} (hpl : ∀ k : Nat, k ≤ 10 → ∃ p : Nat, p < k + 3 ∧ pl (k : Int) = some (p : Int)) : ∀ (m k : Nat) (x : PS), m + k ≤ 10 → treeS m k x = true → ∃ y, polyS m (k : Int) pl x = some y ∧ endS y = true
  | 0, k, x, _, h => ⟨x, rfl, h⟩
  | m + 1, k, x, hk, h => by
    unfold treeS at h
    obtain ⟨p, hp, e⟩ := hpl k (by omega)
    have h1 := List.all_eq_true.mp h p (List.mem_range.mpr hp)
    unfold polyS
    rw [e]
    show ∃ y, ((stepS (k : Int) (p : Int) x).bind fun y => polyS m ((k : Int) + 1) pl y) = some y ∧ _
    cases e2 : stepS (k : Int) (p : Int) x with
    | none => rw [e2] at h1; cases h1
    | some z =>
      rw [e2] at h1
      obtain ⟨y, e3, hy⟩ := tree_ok hpl m (k + 1) z (by omega) h1
      exact ⟨y, by rw [← e3]; rfl, hy⟩
theorem place_ok {sc : List Int} {glued : Nat} (hg : 0 < glued) (hz : sc.length ≤ 63) (k : Nat) (hk : k ≤ 10) : ∃ p : Nat, p < k + 3 ∧ placeS sc (glued : Int) (k : Int) = some (p : Int) := by
  have e : stepL sc (some (k : Int)) none (glued : Int) = some (pickL sc (some (k : Int)) none (some (glued : Int))) := by
    unfold stepL
    rw [if_pos]
    rw [Bool.and_eq_true]
    exact ⟨Nat.ble_eq_true_of_le (by omega), by simp; omega⟩
  unfold placeS
  rw [e]
  show ∃ p : Nat, p < k + 3 ∧ modI _ ((k : Int) + 3) = _
  generalize (pickL sc (some (k : Int)) none (some (glued : Int))).sum + (k : Int) = s
  refine ⟨(s % ((k : Int) + 3)).toNat, ?_, ?_⟩
  · have := Int.emod_lt_of_pos s (show 0 < (k : Int) + 3 by omega)
    have := Int.emod_nonneg s (show (k : Int) + 3 ≠ 0 by omega)
    omega
  · unfold modI
    rw [if_neg (by simp; omega), Int.fmod_eq_emod_of_nonneg _ (by omega)]
    have := Int.emod_nonneg s (show (k : Int) + 3 ≠ 0 by omega)
    congr 1; omega
end Mine
namespace Mine
open PySem PySem.W PyProof.Rows PySem.Calls
theorem tree2 : treeS 2 0 ps0 = true := by decide +kernel
noncomputable def treePQ (m k : Nat) (p q : Nat) (x : PS) : Bool := match stepS (k : Int) (p : Int) x with
  | some y => match stepS ((k + 1 : Nat) : Int) (q : Int) y with
    | some z => treeS m (k + 2) z
    | none => false
  | none => false
theorem t3_00 : treePQ 1 0 0 0 ps0 = true := by decide +kernel
theorem t3_01 : treePQ 1 0 0 1 ps0 = true := by decide +kernel
theorem t3_02 : treePQ 1 0 0 2 ps0 = true := by decide +kernel
theorem t3_03 : treePQ 1 0 0 3 ps0 = true := by decide +kernel
theorem t3_10 : treePQ 1 0 1 0 ps0 = true := by decide +kernel
theorem t3_11 : treePQ 1 0 1 1 ps0 = true := by decide +kernel
theorem t3_12 : treePQ 1 0 1 2 ps0 = true := by decide +kernel
theorem t3_13 : treePQ 1 0 1 3 ps0 = true := by decide +kernel
theorem t3_20 : treePQ 1 0 2 0 ps0 = true := by decide +kernel
theorem t3_21 : treePQ 1 0 2 1 ps0 = true := by decide +kernel
theorem t3_22 : treePQ 1 0 2 2 ps0 = true := by decide +kernel
theorem t3_23 : treePQ 1 0 2 3 ps0 = true := by decide +kernel
theorem t4_00 : treePQ 2 0 0 0 ps0 = true := by decide +kernel
theorem t4_01 : treePQ 2 0 0 1 ps0 = true := by decide +kernel
theorem t4_02 : treePQ 2 0 0 2 ps0 = true := by decide +kernel
theorem t4_03 : treePQ 2 0 0 3 ps0 = true := by decide +kernel
theorem t4_10 : treePQ 2 0 1 0 ps0 = true := by decide +kernel
theorem t4_11 : treePQ 2 0 1 1 ps0 = true := by decide +kernel
theorem t4_12 : treePQ 2 0 1 2 ps0 = true := by decide +kernel
theorem t4_13 : treePQ 2 0 1 3 ps0 = true := by decide +kernel
theorem t4_20 : treePQ 2 0 2 0 ps0 = true := by decide +kernel
theorem t4_21 : treePQ 2 0 2 1 ps0 = true := by decide +kernel
theorem t4_22 : treePQ 2 0 2 2 ps0 = true := by decide +kernel
theorem t4_23 : treePQ 2 0 2 3 ps0 = true := by decide +kernel
theorem tree_two {m k : Nat} {x : PS} (h : ∀ p, p < k + 3 → ∀ q, q < k + 4 → treePQ m k p q x = true) : treeS (m + 2) k x = true := by
  unfold treeS
  refine List.all_eq_true.mpr fun p hp => ?_
  have hp' := List.mem_range.mp hp
  have h0 := h p hp' 0 (by omega)
  unfold treePQ at h0
  split
  · rename_i y hy
    unfold treeS
    refine List.all_eq_true.mpr fun q hq => ?_
    have := h p hp' q (List.mem_range.mp hq)
    unfold treePQ at this
    rw [hy] at this
    exact this
  · rename_i hy
    rw [hy] at h0; cases h0
theorem tree3 : treeS 3 0 ps0 = true := tree_two (m := 1) (k := 0) fun p hp q hq => by
  match p, hp, q, hq with
  | 0, _, 0, _ => exact t3_00
  | 0, _, 1, _ => exact t3_01
  | 0, _, 2, _ => exact t3_02
  | 0, _, 3, _ => exact t3_03
  | 1, _, 0, _ => exact t3_10
  | 1, _, 1, _ => exact t3_11
  | 1, _, 2, _ => exact t3_12
  | 1, _, 3, _ => exact t3_13
  | 2, _, 0, _ => exact t3_20
  | 2, _, 1, _ => exact t3_21
  | 2, _, 2, _ => exact t3_22
  | 2, _, 3, _ => exact t3_23
  | p + 3, h, _, _ => exact absurd h (by omega)
  | 0, _, q + 4, h => exact absurd h (by omega)
  | 1, _, q + 4, h => exact absurd h (by omega)
  | 2, _, q + 4, h => exact absurd h (by omega)
theorem tree4 : treeS 4 0 ps0 = true := tree_two (m := 2) (k := 0) fun p hp q hq => by
  match p, hp, q, hq with
  | 0, _, 0, _ => exact t4_00
  | 0, _, 1, _ => exact t4_01
  | 0, _, 2, _ => exact t4_02
  | 0, _, 3, _ => exact t4_03
  | 1, _, 0, _ => exact t4_10
  | 1, _, 1, _ => exact t4_11
  | 1, _, 2, _ => exact t4_12
  | 1, _, 3, _ => exact t4_13
  | 2, _, 0, _ => exact t4_20
  | 2, _, 1, _ => exact t4_21
  | 2, _, 2, _ => exact t4_22
  | 2, _, 3, _ => exact t4_23
  | p + 3, h, _, _ => exact absurd h (by omega)
  | 0, _, q + 4, h => exact absurd h (by omega)
  | 1, _, q + 4, h => exact absurd h (by omega)
  | 2, _, q + 4, h => exact absurd h (by omega)
theorem law2 (ns : List Int) (hz : ns.length ≤ 63) : fn_law (ns, ()) = some true := by
  have hg : gluedOf ns = 2 ∨ gluedOf ns = 3 ∨ gluedOf ns = 4 := by unfold gluedOf; omega
  have ht : treeS (gluedOf ns) 0 ps0 = true := by
    rcases hg with h | h | h <;> rw [h]
    · exact tree2
    · exact tree3
    · exact tree4
  obtain ⟨y, e1, e2⟩ := tree_ok (pl := placeS ns (gluedOf ns : Int)) (fun k hk => place_ok (by omega) hz k hk) (gluedOf ns) 0 ps0 (by omega) ht
  unfold endS at e2
  cases e3 : joinT y.rows with
  | none => rw [e3] at e2; cases e2
  | some j =>
    rw [e3] at e2
    dsimp only at e2
    cases e4 : fixS j with
    | none => rw [e4] at e2; cases e2
    | some ml =>
      rw [e4] at e2
      exact law_ok ns ml y.counts y.ways y.three y.four (by simpa using e2) (polygon_ok hz e1 e3 e4)
end Mine
namespace Mine
open PySem PySem.W PyProof.Rows PySem.Calls
theorem top2 (hlaw : ∀ ns : List Int, ns.length ≤ 63 → fn_law (ns, ()) = some true) : PySem.Challenge.rw_pu0039_02.Holds := hd2 (by
  k_fill
  intro w s₀ s₁ mg mb G Y fa o pm cd doc dV kV ho hd hcd hD hmg hg args vals as hpre hlay hrd hwl hlo
  have KX := kIn_of Y
  refine Ground.open G ?_
  intro T B D TE TW
  clear hd hcd hD Y D B TE TW
  wrow_args hpre hlay hrd hwl hlo
  have e1 : fa = 167 := by
    have := mg_of KX T.g (n := PySem.Str.ofString "law") (v := .ref 167) (by kernel_rfl)
    have h2 := hmg.symm.trans this
    cases h2; rfl
  subst e1
  rename_i ns _ _ _ _ _ _ _ _ _ _ _ _ hw _ _ _ hlen _
  refine top_core (ns := ns) (CallS.le (n := 40) (ok_law _ w mg mb (ns, ()) true (hlaw ns (by omega))) (by decide)) KX T.g T.b T.builtins T.nolimit hw hg ?_ ?_
  · exact fun _ => rfl
  · first | rfl | wrow_post)
end Mine
open PySem PySem.W PyProof.Rows
theorem PySem.Challenge.cw_pu0039_02_holds : PySem.Challenge.rw_pu0039_02.Holds := by
  exact Mine.top2 Mine.law2
