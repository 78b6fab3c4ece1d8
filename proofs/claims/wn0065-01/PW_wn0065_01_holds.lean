import PyProof.Rows.All
import Wide.All
import OpenK.AllK
import Wide.FinOn
import PySem.Challenge.RW_wn0065_01

set_option Elab.async false
set_option maxRecDepth 100000
namespace Mine
open PySem PySem.W PySem.Calls PyProof.Rows

/-- a function made by a nested def -/
structure Clo where
  nm : Str
  qual : Str
  params : Arguments
  body : List Stmt
  scope : Scope
  clo : List (Str × Addr)

/-- pure data -/
inductive D where
  | none
  | bool (b : Bool)
  | int (i : Int)
  | str (s : List Nat)
  | bytes (b : List Nat)
  | list (l : List D)
  | tup (l : List D)
  | raw (v : Value)
  | fn (c : Clo)

abbrev Fz := Addr → Option Obj
abbrev lstObj (vs : List Value) (n : Nat) : Obj := { cls := .type "list", data := .seq vs.toArray n }
abbrev tupObj (vs : List Value) (n : Nat) : Obj := { cls := .type "tuple", data := .seq vs.toArray n }

def CodeFz (fz : Fz) (c : Addr) (q : Str) : Prop := ∃ o vs t, fz c = some o ∧ o.data = .fields vs ∧ vs[1]? = some (.str q t)
theorem CodeFz.mono {fz fz' : Fz} {c q} (x : CodeFz fz c q) (h : ∀ a o, fz a = some o → fz' a = some o) : CodeFz fz' c q :=
  let ⟨o, vs, t, e, r⟩ := x; ⟨o, vs, t, h _ _ e, r⟩
theorem CodeFz.rec {fz : Fz} {h : Heap} {c q} (x : CodeFz fz c q) (k : ∀ a o, fz a = some o → h.get? a = some o) : h.CodeRec (.ref c) q :=
  let ⟨o, vs, t, e, r⟩ := x; ⟨c, o, vs, t, rfl, k _ _ e, r⟩


mutual
def Rep (fz : Fz) (v : Value) : D → Prop
  | .none => v = .none
  | .bool b => v = .bool b
  | .int i => ∃ t, v = .int i t
  | .str l => ∃ t, v = .str ⟨l.toArray⟩ t
  | .bytes l => (∃ t, v = .bytes (l.map Nat.toUInt8).toArray t) ∧ ∀ x ∈ l, x < 256
  | .list ds => ∃ a n vs, v = .ref a ∧ fz a = some (lstObj vs n) ∧ Reps fz vs ds
  | .tup ds => ∃ a n vs, v = .ref a ∧ fz a = some (tupObj vs n) ∧ Reps fz vs ds
  | .raw u => v = u
  | .fn c => ∃ a o doc pm an c' ctv, v = .ref a ∧ fz a = some o ∧ o.data = .func (fnX c.nm c.qual c.params c.body c.scope c.clo .none .none doc pm an (.ref c') ctv) ∧ CodeFz fz c' c.qual
def Reps (fz : Fz) (vs : List Value) : List D → Prop
  | [] => vs = []
  | d :: ds => ∃ v r, vs = v :: r ∧ Rep fz v d ∧ Reps fz r ds
end

mutual
theorem Rep.mono {fz fz' : Fz} (h : ∀ a o, fz a = some o → fz' a = some o) : ∀ {d : D} {v : Value}, Rep fz v d → Rep fz' v d
  | .none, _, r => r
  | .bool _, _, r => r
  | .int _, _, r => r
  | .str _, _, r => r
  | .bytes _, _, r => r
  | .list ds, v, r => by
    unfold Rep at r ⊢
    obtain ⟨a, n, vs, e, e1, e4⟩ := r
    exact ⟨a, n, vs, e, h _ _ e1, Reps.mono h e4⟩
  | .tup ds, v, r => by
    unfold Rep at r ⊢
    obtain ⟨a, n, vs, e, e1, e4⟩ := r
    exact ⟨a, n, vs, e, h _ _ e1, Reps.mono h e4⟩
  | .raw _, _, r => r
  | .fn _, _, r => let ⟨a, o, doc, pm, an, c', ctv, e, e1, e2, e3⟩ := r; ⟨a, o, doc, pm, an, c', ctv, e, h _ _ e1, e2, e3.mono h⟩
theorem Reps.mono {fz fz' : Fz} (h : ∀ a o, fz a = some o → fz' a = some o) : ∀ {ds : List D} {vs : List Value}, Reps fz vs ds → Reps fz' vs ds
  | [], _, r => r
  | d :: ds, vs, r => by
    unfold Reps at r ⊢
    obtain ⟨v, l, e, r1, r2⟩ := r
    exact ⟨v, l, e, Rep.mono h r1, Reps.mono h r2⟩
end

theorem Reps.length {fz : Fz} : ∀ {ds : List D} {vs : List Value}, Reps fz vs ds → vs.length = ds.length
  | [], _, r => by unfold Reps at r; subst r; rfl
  | d :: ds, vs, r => by unfold Reps at r; obtain ⟨v, l, rfl, _, r2⟩ := r; simp [Reps.length r2]
theorem Reps.nil {fz : Fz} : Reps fz [] [] := by unfold Reps; rfl
theorem Reps.cons {fz : Fz} {v d vs ds} (a : Rep fz v d) (b : Reps fz vs ds) : Reps fz (v :: vs) (d :: ds) := by
  unfold Reps; exact ⟨v, vs, rfl, a, b⟩
theorem Reps.append {fz : Fz} : ∀ {ds ds' : List D} {vs vs' : List Value}, Reps fz vs ds → Reps fz vs' ds' → Reps fz (vs ++ vs') (ds ++ ds')
  | [], _, _, _, r, r' => by unfold Reps at r; subst r; exact r'
  | d :: ds, ds', vs, vs', r, r' => by
    unfold Reps at r; obtain ⟨v, l, rfl, r1, r2⟩ := r
    exact Reps.cons r1 (Reps.append r2 r')
theorem Reps.get {fz : Fz} : ∀ {ds : List D} {vs : List Value} (i : Nat) (d : D), Reps fz vs ds → ds[i]? = some d → ∃ v, vs[i]? = some v ∧ Rep fz v d
  | [], _, i, d, _, e => by simp at e
  | d' :: ds, vs, 0, d, r, e => by
    unfold Reps at r; obtain ⟨v, l, rfl, r1, r2⟩ := r
    simp at e; subst e; exact ⟨v, rfl, r1⟩
  | d' :: ds, vs, i + 1, d, r, e => by
    unfold Reps at r; obtain ⟨v, l, rfl, r1, r2⟩ := r
    simp at e; simpa using Reps.get i d r2 e
theorem Reps.take {fz : Fz} : ∀ (n : Nat) {ds : List D} {vs : List Value}, Reps fz vs ds → Reps fz (vs.take n) (ds.take n)
  | 0, _, _, _ => by simpa using Reps.nil
  | n + 1, [], _, r => by unfold Reps at r; subst r; simpa using Reps.nil
  | n + 1, d :: ds, vs, r => by
    unfold Reps at r; obtain ⟨v, l, rfl, r1, r2⟩ := r
    simpa using Reps.cons r1 (Reps.take n r2)
theorem Reps.drop {fz : Fz} : ∀ (n : Nat) {ds : List D} {vs : List Value}, Reps fz vs ds → Reps fz (vs.drop n) (ds.drop n)
  | 0, _, _, r => by simpa using r
  | n + 1, [], _, r => by unfold Reps at r; subst r; simpa using Reps.nil
  | n + 1, d :: ds, vs, r => by
    unfold Reps at r; obtain ⟨v, l, rfl, r1, r2⟩ := r
    simpa using Reps.drop n r2
theorem Reps.set {fz : Fz} : ∀ (i : Nat) {ds : List D} {vs : List Value} {v : Value} {d : D}, Reps fz vs ds → Rep fz v d → Reps fz (vs.set i v) (ds.set i d)
  | _, [], _, _, _, r, _ => by unfold Reps at r; subst r; simpa using Reps.nil
  | 0, d' :: ds, vs, v, d, r, q => by
    unfold Reps at r; obtain ⟨v', l, rfl, r1, r2⟩ := r
    simpa using Reps.cons q r2
  | i + 1, d' :: ds, vs, v, d, r, q => by
    unfold Reps at r; obtain ⟨v', l, rfl, r1, r2⟩ := r
    simpa using Reps.cons r1 (Reps.set i r2 q)
theorem Reps.reverse {fz : Fz} : ∀ {ds : List D} {vs : List Value}, Reps fz vs ds → Reps fz vs.reverse ds.reverse
  | [], _, r => by unfold Reps at r; subst r; simpa using Reps.nil
  | d :: ds, vs, r => by
    unfold Reps at r; obtain ⟨v, l, rfl, r1, r2⟩ := r
    simpa using Reps.append (Reps.reverse r2) (Reps.cons r1 Reps.nil)

/-- a nested def: the code object of its maker, the table of its maker, its place, its qualname -/
structure NestTab where
  c : Addr
  P : Addr
  pos : Pos
  qual : Str

/-- what is fixed -/
structure Bs where
  prog : Program
  w : World
  h₀ : Heap
  mg : Str → Option Value
  mb : Str → Option Value
  tabs : List NestTab

def TabOK (fz : Fz) (h : Heap) (t : NestTab) : Prop :=
  h.get? t.P = some (tabObj #[]) ∨ ∃ c', h.get? t.P = some (tabObj #[rawInt t.pos.line, rawInt t.pos.col, .ref c']) ∧ CodeFz fz c' t.qual

structure Bs.Ok (B : Bs) : Prop where
  g : B.h₀.Ns mainGlobals B.mg
  b : B.h₀.Ns builtinsNs B.mb
  nolimit : B.h₀.NoLimit
  builtins : ∀ x : Str, x ≠ "__name__" → B.mb x = bootBuiltins x
  bmain : ∃ bm ob, B.mg "__builtins__" = some (.ref bm) ∧ bm ≠ builtinsNs ∧ B.h₀.get? bm = some ob ∧ ob.cls = .type "module" ∧ ob.dict = some builtinsNs ∧ ob.data = .plain
  code : ∀ t ∈ B.tabs, CodeHd B.h₀ t.c t.P
  uniq : ∀ t ∈ B.tabs, ∀ u ∈ B.tabs, t.P = u.P → t = u

structure G (B : Bs) (fz : Fz) (h : Heap) : Prop where
  ok : B.Ok
  base : ∀ a o, B.h₀.get? a = some o → fz a = some o
  sub : ∀ a o, fz a = some o → h.get? a = some o
  tab : ∀ t ∈ B.tabs, TabOK fz h t
  off : ∀ t ∈ B.tabs, fz t.P = none

def isTab (B : Bs) (a : Addr) : Prop := ∃ t ∈ B.tabs, a = t.P

structure Mod (B : Bs) (S : Addr → Prop) (h h' : Heap) : Prop where
  keep : ∀ a o, ¬ S a → ¬ isTab B a → h.get? a = some o → h'.get? a = some o
  size : h.objs.size ≤ h'.objs.size

theorem Mod.refl {B S h} : Mod B S h h := ⟨fun _ _ _ _ e => e, Nat.le_refl _⟩
theorem Mod.trans {B S S' h h' h''} (x : Mod B S h h') (y : Mod B S' h' h'') (hS : ∀ a, S' a → S a ∨ h.objs.size ≤ a) : Mod B S h h'' :=
  ⟨fun a o n1 n2 e => y.keep a o (fun q => (hS a q).elim n1 fun l => absurd (Heap.lt_size e) (Nat.not_lt.mpr l)) n2 (x.keep a o n1 n2 e), Nat.le_trans x.size y.size⟩
theorem Mod.mono {B S S' h h'} (x : Mod B S h h') (hS : ∀ a, S a → S' a ∨ h.objs.size ≤ a) : Mod B S' h h' :=
  ⟨fun a o n1 n2 e => x.keep a o (fun q => (hS a q).elim n1 fun l => absurd (Heap.lt_size e) (Nat.not_lt.mpr l)) n2 e, x.size⟩
theorem Mod.push {B S h o} : Mod B S h (h.push o) := ⟨fun _ _ _ _ e => Heap.get?_push_of_some _ e, by rw [Heap.size_push]; omega⟩
theorem Mod.of_keep {B S h h'} (k : ∀ a o, h.get? a = some o → h'.get? a = some o) (z : h.objs.size ≤ h'.objs.size) : Mod B S h h' := ⟨fun a o _ _ e => k a o e, z⟩
theorem Mod.sameBut {B} {S : Addr → Prop} {h h' : Heap} {a : Addr} (s : Heap.SameBut a h h') (hS : S a) : Mod B S h h' :=
  ⟨fun b o n _ e => (s.2 b (fun q => n (q ▸ hS))).trans e, Nat.le_of_eq s.1.symm⟩

structure Grow (fz fz' : Fz) (h : Heap) : Prop where
  ext : ∀ a o, fz a = some o → fz' a = some o
  new : ∀ a o, fz' a = some o → fz a = some o ∨ h.objs.size ≤ a
theorem Grow.refl {fz h} : Grow fz fz h := ⟨fun _ _ e => e, fun _ _ e => .inl e⟩
theorem Grow.trans {fz fz' fz'' h h'} (x : Grow fz fz' h) (y : Grow fz' fz'' h') (hs : h.objs.size ≤ h'.objs.size) : Grow fz fz'' h :=
  ⟨fun a o e => y.ext a o (x.ext a o e), fun a o e => (y.new a o e).elim (x.new a o) fun l => .inr (Nat.le_trans hs l)⟩

def fzSet (fz : Fz) (a : Addr) (o : Obj) : Fz := fun b => if b = a then some o else fz b

theorem Grow.set {fz h a o} (hn : fz a = none) (hs : h.objs.size ≤ a) : Grow fz (fzSet fz a o) h :=
  ⟨fun b o' e => by unfold fzSet; rw [if_neg (fun q => by rw [q, hn] at e; cases e)]; exact e,
   fun b o' e => by unfold fzSet at e; split at e; rename_i q; exact .inr (q ▸ hs); exact .inl e⟩

theorem G.lt {B fz h} (g : G B fz h) {t} (ht : t ∈ B.tabs) : t.P < h.objs.size := by
  rcases g.tab t ht with e | ⟨_, e, _⟩ <;> exact Heap.lt_size e
theorem TabOK.cls {fz h t} (x : TabOK fz h t) : ∃ o, h.get? t.P = some o ∧ o.cls = .none := by
  rcases x with e | ⟨_, e, _⟩ <;> exact ⟨_, e, rfl⟩
theorem TabOK.keeps {fz fz' : Fz} {h h' : Heap} {t} (x : TabOK fz h t) (k : ∀ o, h.get? t.P = some o → h'.get? t.P = some o) (e : ∀ a o, fz a = some o → fz' a = some o) : TabOK fz' h' t := by
  rcases x with q | ⟨c', q, r⟩
  · exact .inl (k _ q)
  · exact .inr ⟨c', k _ q, r.mono e⟩
theorem G.none_of_le {B fz h} (g : G B fz h) {a} (ha : h.objs.size ≤ a) : fz a = none := by
  cases q : fz a with
  | none => rfl
  | some o => exact absurd (Heap.lt_size (g.sub _ _ q)) (Nat.not_lt.mpr ha)
theorem G.not_tab {B fz h} (g : G B fz h) {a} (ha : h.objs.size ≤ a) : ¬ isTab B a := fun ⟨t, ht, e⟩ => by
  have := g.lt ht; rw [← e] at this; exact absurd this (Nat.not_lt.mpr ha)
/-- a change of the heap that spares what is frozen and the tables -/
theorem G.keeps {B} {fz : Fz} {h h' : Heap} (g : G B fz h) (k : ∀ a o, fz a = some o ∨ isTab B a → h.get? a = some o → h'.get? a = some o) : G B fz h' :=
  ⟨g.ok, g.base, fun a o e => k a o (.inl e) (g.sub a o e), fun t ht => (g.tab t ht).keeps (fun o e => k _ o (.inr ⟨t, ht, rfl⟩) e) (fun _ _ e => e), g.off⟩
theorem G.sameBut {B} {fz : Fz} {h h' : Heap} {a : Addr} (g : G B fz h) (s : Heap.SameBut a h h') (h1 : fz a = none) (h2 : ¬ isTab B a) : G B fz h' :=
  g.keeps fun b o hb e => (s.2 b (fun q => by subst q; rcases hb with q | q; rw [h1] at q; cases q; exact h2 q)).trans e
theorem G.push {B} {fz : Fz} {h : Heap} (g : G B fz h) (o : Obj) : G B fz (h.push o) := g.keeps fun _ _ _ e => Heap.get?_push_of_some _ e
/-- a new frozen object -/
theorem G.fzSet {B} {fz : Fz} {h : Heap} {a : Addr} {o : Obj} (g : G B fz h) (e : h.get? a = some o) (h1 : fz a = none) (h2 : ¬ isTab B a) : G B (fzSet fz a o) h where
  ok := g.ok
  base := fun b o' q => (Grow.set (h := { objs := #[] }) h1 (Nat.zero_le _)).ext b o' (g.base b o' q)
  sub := fun b o' q => by unfold Mine.fzSet at q; split at q; rename_i z; cases q; rw [z]; exact e; exact g.sub b o' q
  tab := fun t ht => (g.tab t ht).keeps (fun _ q => q) (Grow.set (h := { objs := #[] }) h1 (Nat.zero_le _)).ext
  off := fun t ht => by unfold Mine.fzSet; rw [if_neg (fun q => h2 ⟨t, ht, q.symm⟩)]; exact g.off t ht

inductive Own where
  | lst (ds : List D)
  | bar (l : List Nat)
  | any

abbrev barObj (l : List Nat) : Obj := { cls := .type "bytearray", data := .bytearray (l.map Nat.toUInt8).toArray 0 }

def OwnAt (fz : Fz) (h : Heap) (a : Addr) : Own → Prop
  | .lst ds => ∃ vs n, h.get? a = some (lstObj vs n) ∧ Reps fz vs ds
  | .bar l => h.get? a = some (barObj l) ∧ ∀ x ∈ l, x < 256
  | .any => True

theorem OwnAt.mono {fz fz' h h' a} {o : Own} (x : OwnAt fz h a o) (hf : ∀ b ob, fz b = some ob → fz' b = some ob) (hk : ∀ ob, h.get? a = some ob → h'.get? a = some ob) : OwnAt fz' h' a o := by
  cases o with
  | lst ds => obtain ⟨vs, n, e, r⟩ := x; exact ⟨vs, n, hk _ e, r.mono hf⟩
  | bar l => exact ⟨hk _ x.1, x.2⟩
  | any => trivial

def VarAt (env : Env) (h : Heap) (x : Str) (v : Value) : Prop :=
  (env.kindOf x = some .local ∧ ∃ m, h.Ns env.locals m ∧ m x = some v) ∨
  ((env.kindOf x = some .cell ∨ env.kindOf x = some .free) ∧ ∃ c, env.cells.lookup x = some c ∧ h.IsCell c (some v))

structure Act where
  A : Around
  env : Env
  cells : List Addr
  n : Nat
  s₀ : Shared
  fz₀ : Fz
  wr : List Addr
  ro : List (Addr × List Value × Nat × List D)

def owns (K : Act) (O : List (Addr × Own)) : List Addr := K.env.locals :: (K.cells ++ O.map (·.1))

abbrev Rho := List (Str × D)
abbrev Own' := List (Addr × Own)
abbrev Tmp := List (Value × D)

structure Room (A : Around) (n : Nat) : Prop where
  handled : A.handled = none
  depth : A.depth + n < recursionLimit
  units : A.units + 4 * n + 64 < cLine

structure StF (B : Bs) (K : Act) (ρ : Rho) (O : Own') (T : Tmp) (fz : Fz) (s : Shared) : Prop where
  g : G B fz s.heap
  rel : ∃ h' t', s = { K.s₀ with heap := h', toks := t' }
  mod : Mod B (· ∈ K.wr) K.s₀.heap s.heap
  grow : Grow K.fz₀ fz K.s₀.heap
  ns : ∃ m, s.heap.Ns K.env.locals m
  var : ∀ x d, ρ.lookup x = some d → ∃ v, VarAt K.env s.heap x v ∧ Rep fz v d
  own : ∀ p ∈ O, OwnAt fz s.heap p.1 p.2
  tmp : ∀ p ∈ T, Rep fz p.1 p.2
  cell : ∀ c ∈ K.cells, ∃ v, s.heap.IsCell c v
  apart : (owns K O).Nodup
  off : ∀ a ∈ owns K O, fz a = none ∧ ¬ isTab B a ∧ a < s.heap.objs.size
  fresh : ∀ a ∈ owns K O, K.s₀.heap.objs.size ≤ a ∨ a ∈ K.wr
  capt : ∀ x c, K.env.cells.lookup x = some c → c ∈ K.cells ∨ (c < K.s₀.heap.objs.size ∧ c ∉ K.wr)
  cinj : ∀ x y c, K.env.cells.lookup x = some c → K.env.cells.lookup y = some c → c ∈ K.cells → x = y
  kind : K.env.scope.kind = .function
  glob : K.env.globals = mainGlobals
  blt : K.env.builtins = builtinsNs
  room : Room K.A K.n
  ro : ∀ p ∈ K.ro, s.heap.get? p.1 = some (lstObj p.2.1 p.2.2.1) ∧ Reps fz p.2.1 p.2.2.2 ∧ p.1 < K.s₀.heap.objs.size ∧ p.1 ∉ K.wr ∧ ¬ isTab B p.1

def St (B : Bs) (K : Act) (ρ : Rho) (O : Own') (T : Tmp) (s : Shared) : Prop := ∃ fz, StF B K ρ O T fz s

theorem nodup_inj {α β : Type} {f : α → β} : ∀ {l : List α}, (l.map f).Nodup → ∀ {x y}, x ∈ l → y ∈ l → f x = f y → x = y
  | [], _, _, _, h, _, _ => by cases h
  | a :: l, nd, x, y, hx, hy, e => by
    obtain ⟨h1, h2⟩ := List.nodup_cons.mp nd
    rcases List.mem_cons.mp hx with q1 | q1 <;> rcases List.mem_cons.mp hy with q2 | q2
    · rw [q1, q2]
    · exact absurd (List.mem_map.mpr ⟨y, q2, by rw [← e, q1]⟩) h1
    · exact absurd (List.mem_map.mpr ⟨x, q1, by rw [e, q2]⟩) h1
    · exact nodup_inj h2 q1 q2 e

section
variable {B : Bs} {K : Act} {ρ : Rho} {O : Own'} {T : Tmp} {fz : Fz} {s : Shared}

theorem StF.ro_ne (S : StF B K ρ O T fz s) {p} (hp : p ∈ K.ro) {a : Addr} (ha : a ∈ owns K O) : p.1 ≠ a := fun e => by
  have h := S.ro p hp
  rcases S.fresh a ha with q | q
  · exact absurd h.2.2.1 (Nat.not_lt.mpr (e ▸ q))
  · exact h.2.2.2.1 (e ▸ q)
/-- the change of the heap spares the variables and the owned objects; only `.any` places may be written -/
theorem StF.step {fz' : Fz} {h' : Heap} {t' : Nat} {P : Addr → Prop} (S : StF B K ρ O T fz s) (hg : G B fz' h') (gr : Grow fz fz' s.heap) (md : Mod B P s.heap h')
    (hP : ∀ a, P a → s.heap.objs.size ≤ a ∨ (a, Own.any) ∈ O) : StF B K ρ O T fz' { s with heap := h', toks := t' } := by
  have nd := S.apart
  -- what P holds is none of the frame's, nor of the cells', nor a written list's
  have notP : ∀ a, a < s.heap.objs.size → (a, Own.any) ∉ O → ¬ P a := fun a hl hn hp => (hP a hp).elim (fun h => by omega) hn
  have keepB : ∀ a o, (a, Own.any) ∉ O → ¬ isTab B a → s.heap.get? a = some o → h'.get? a = some o := fun a o hn ht e =>
    md.keep a o (notP a (Heap.lt_size e) hn) ht e
  have anyO : ∀ a, (a, Own.any) ∈ O → a ∈ O.map (·.1) := fun a h => List.mem_map.mpr ⟨_, h, rfl⟩
  have locNot : (K.env.locals, Own.any) ∉ O := fun h => by
    have := (List.nodup_cons.mp nd).1
    exact this (List.mem_append_right _ (anyO _ h))
  have cellNot : ∀ c ∈ K.cells, (c, Own.any) ∉ O := fun c hc h => by
    have := (List.nodup_append.mp (List.nodup_cons.mp nd).2).2.2
    exact this c hc c (anyO _ h) rfl
  have locK : ∀ o, s.heap.get? K.env.locals = some o → h'.get? K.env.locals = some o := fun o e =>
    keepB _ o locNot (S.off _ List.mem_cons_self).2.1 e
  have cellOf : ∀ x c v, K.env.cells.lookup x = some c → s.heap.IsCell c v → h'.IsCell c v := fun x c v hc hv => by
    obtain ⟨o, ho, hd⟩ := hv
    refine ⟨o, keepB c o ?_ ?_ ho, hd⟩
    · rcases S.capt x c hc with h | ⟨h, hm⟩
      · exact cellNot c h
      · intro q
        rcases S.fresh c (List.mem_cons_of_mem _ (List.mem_append_right _ (anyO _ q))) with h' | h'
        · exact absurd h (Nat.not_lt.mpr h')
        · exact hm h'
    · rintro ⟨t, ht, e⟩
      obtain ⟨o', e', hc'⟩ := (S.g.tab t ht).cls
      have hd' : o'.data = .cell v := by rw [← e, ho] at e'; cases e'; exact hd
      rcases S.g.tab t ht with q | ⟨_, q, _⟩ <;> (rw [q] at e'; cases e'; cases hd')
  refine ⟨hg, ?_, ?_, ?_, ?_, ?_, ?_, ?_, ?_, nd, ?_, S.fresh, S.capt, S.cinj, S.kind, S.glob, S.blt, S.room, fun p hp => ⟨keepB p.1 _ (fun q => S.ro_ne hp (List.mem_cons_of_mem _ (List.mem_append_right _ (anyO _ q))) rfl) (S.ro p hp).2.2.2.2 (S.ro p hp).1, (S.ro p hp).2.1.mono gr.ext, (S.ro p hp).2.2⟩⟩
  · obtain ⟨h1, t1, e⟩ := S.rel
    exact ⟨h', t', by rw [e]⟩
  · refine S.mod.trans md fun a hp => ?_
    rcases hP a hp with h | h
    · exact .inr (Nat.le_trans S.mod.size h)
    · exact (S.fresh a (List.mem_cons_of_mem _ (List.mem_append_right _ (anyO _ h)))).symm
  · exact S.grow.trans gr S.mod.size
  · obtain ⟨m, o, es, ep, ho, r⟩ := S.ns
    exact ⟨m, o, es, ep, locK o ho, r⟩
  · intro x d e
    obtain ⟨v, hv, hr⟩ := S.var x d e
    refine ⟨v, ?_, hr.mono gr.ext⟩
    rcases hv with ⟨k, m, ⟨o, es, ep, ho, r⟩, hm⟩ | ⟨k, c, hc, hv⟩
    · exact .inl ⟨k, m, ⟨o, es, ep, locK o ho, r⟩, hm⟩
    · exact .inr ⟨k, c, hc, cellOf x c _ hc hv⟩
  · intro p hp
    have hw := S.own p hp
    cases h2 : p.2 with
    | any => trivial
    | lst ds =>
      rw [h2] at hw
      refine hw.mono gr.ext fun ob e => keepB _ ob ?_ (S.off _ (List.mem_cons_of_mem _ (List.mem_append_right _ (List.mem_map.mpr ⟨p, hp, rfl⟩)))).2.1 e
      intro q
      have nd2 := (List.nodup_append.mp (List.nodup_cons.mp nd).2).2.1
      have := nodup_inj nd2 hp q rfl
      rw [this] at h2; cases h2
    | bar l =>
      rw [h2] at hw
      refine hw.mono gr.ext fun ob e => keepB _ ob ?_ (S.off _ (List.mem_cons_of_mem _ (List.mem_append_right _ (List.mem_map.mpr ⟨p, hp, rfl⟩)))).2.1 e
      intro q
      have nd2 := (List.nodup_append.mp (List.nodup_cons.mp nd).2).2.1
      have := nodup_inj nd2 hp q rfl
      rw [this] at h2; cases h2
  · exact fun p hp => (S.tmp p hp).mono gr.ext
  · intro c hc
    obtain ⟨v, o, ho, hd⟩ := S.cell c hc
    exact ⟨v, o, keepB c o (cellNot c hc) (S.off _ (List.mem_cons_of_mem _ (List.mem_append_left _ hc))).2.1 ho, hd⟩
  · intro a ha
    have := S.off a ha
    refine ⟨?_, this.2.1, Nat.lt_of_lt_of_le this.2.2 md.size⟩
    cases q : fz' a with
    | none => rfl
    | some o =>
      rcases gr.new a o q with h | h
      · rw [this.1] at h; cases h
      · exact absurd this.2.2 (Nat.not_lt.mpr h)
end
end Mine

set_option Elab.async false
set_option maxRecDepth 100000
namespace Mine
open PySem PySem.W PySem.Calls PyProof.Rows

section
variable {B : Bs} {K : Act} {ρ : Rho} {O : Own'} {T : Tmp} {fz : Fz} {s : Shared}

theorem StF.toks (S : StF B K ρ O T fz s) (t : Nat) : StF B K ρ O T fz { s with toks := t } :=
  { S with rel := let ⟨h, _, e⟩ := S.rel; ⟨h, t, by rw [e]⟩ }
theorem StF.push (S : StF B K ρ O T fz s) {v d} (h : Rep fz v d) : StF B K ρ O ((v, d) :: T) fz s :=
  { S with tmp := fun p hp => (List.mem_cons.mp hp).elim (fun e => by rw [e]; exact h) (S.tmp p) }
theorem StF.setT (S : StF B K ρ O T fz s) {T' : Tmp} (h : ∀ p ∈ T', Rep fz p.1 p.2) : StF B K ρ O T' fz s := { S with tmp := h }
theorem StF.subT (S : StF B K ρ O T fz s) {T' : Tmp} (h : ∀ p ∈ T', p ∈ T) : StF B K ρ O T' fz s := S.setT fun p hp => S.tmp p (h p hp)
theorem StF.subR (S : StF B K ρ O T fz s) {ρ' : Rho} (h : ∀ x d, ρ'.lookup x = some d → ρ.lookup x = some d) : StF B K ρ' O T fz s :=
  { S with var := fun x d e => S.var x d (h x d e) }

theorem StF.dropO {O' : Own'} (S : StF B K ρ (O' ++ O) T fz s) : StF B K ρ O T fz s := by
  have hm : ∀ a, a ∈ owns K O → a ∈ owns K (O' ++ O) := fun a ha => by
    unfold owns at ha ⊢
    rcases List.mem_cons.mp ha with h | h
    · exact h ▸ List.mem_cons_self
    · refine List.mem_cons_of_mem _ ?_
      rcases List.mem_append.mp h with h | h
      · exact List.mem_append_left _ h
      · exact List.mem_append_right _ (by rw [List.map_append]; exact List.mem_append_right _ h)
  refine { S with own := fun p hp => S.own p (List.mem_append_right _ hp), apart := ?_, off := fun a ha => S.off a (hm a ha), fresh := fun a ha => S.fresh a (hm a ha) }
  have nd := S.apart
  unfold owns at nd ⊢
  rw [List.map_append] at nd
  refine List.Nodup.sublist ?_ nd
  exact List.Sublist.cons_cons _ (List.Sublist.append (List.Sublist.refl _) (List.sublist_append_right _ _))

theorem StF.frees (S : StF B K ρ O T fz s) {a : Addr} (ha : a ∈ owns K O) : fz a = none ∧ ¬ isTab B a := ⟨(S.off a ha).1, (S.off a ha).2.1⟩

/-- a local name is bound -/
theorem StF.storeL {x : Str} {v : Value} {d : D} {h' : Heap} {t' : Nat} {m : Str → Option Value} (S : StF B K ρ O T fz s) (hl : K.env.kindOf x = some .local) (hm : s.heap.Ns K.env.locals m)
    (hn : h'.Ns K.env.locals (fun y => if y = x then some v else m y)) (hs : Heap.SameBut K.env.locals s.heap h') (hr : Rep fz v d) : StF B K ((x, d) :: ρ) O T fz { s with heap := h', toks := t' } := by
  have hL := S.frees (a := K.env.locals) List.mem_cons_self
  have nd := List.nodup_cons.mp S.apart
  refine ⟨S.g.sameBut hs hL.1 hL.2, let ⟨_, _, e⟩ := S.rel; ⟨h', t', by rw [e]⟩,
    S.mod.trans (Mod.sameBut (S := fun a => a = K.env.locals) hs rfl) (fun a e => by have e' : a = K.env.locals := e; rw [e']; exact (S.fresh _ List.mem_cons_self).symm), S.grow, ⟨_, hn⟩, ?_, ?_, S.tmp, ?_, S.apart, ?_, S.fresh, S.capt, S.cinj, S.kind, S.glob, S.blt, S.room, fun p hp => ⟨(hs.2 _ (S.ro_ne hp List.mem_cons_self)).trans (S.ro p hp).1, (S.ro p hp).2⟩⟩
  · intro y e he
    rw [List.lookup_cons] at he
    by_cases hy : y = x
    · subst hy
      simp only [beq_self_eq_true] at he
      cases he
      exact ⟨v, .inl ⟨hl, _, hn, by simp⟩, hr⟩
    · have : (y == x) = false := by simpa using hy
      simp only [this] at he
      obtain ⟨u, hv, hr'⟩ := S.var y e he
      refine ⟨u, ?_, hr'⟩
      rcases hv with ⟨k, m', hn', hm'⟩ | ⟨k, c, hc, hv⟩
      · refine .inl ⟨k, _, hn, ?_⟩
        rw [if_neg hy]
        obtain ⟨o, es, ep, ho, hd, hk, hf⟩ := hn'
        obtain ⟨o2, es2, ep2, ho2, hd2, hk2, hf2⟩ := hm
        rw [ho] at ho2; cases ho2; rw [hd] at hd2; cases hd2
        rw [← hf2, hf]; exact hm'
      · refine .inr ⟨k, c, hc, hv.sameBut hs ?_⟩
        rintro rfl
        rcases S.capt y _ hc with h | h
        · exact nd.1 (List.mem_append_left _ h)
        · rcases S.fresh _ List.mem_cons_self with q | q
          · exact absurd h.1 (Nat.not_lt.mpr q)
          · exact h.2 q
  · intro p hp
    exact (S.own p hp).mono (fun _ _ e => e) fun ob e => (hs.2 _ (fun q => nd.1 (List.mem_append_right _ (q ▸ List.mem_map_of_mem hp)))).trans e
  · intro c hc
    obtain ⟨v, hv⟩ := S.cell c hc
    exact ⟨v, hv.sameBut hs fun q => nd.1 (List.mem_append_left _ (q ▸ hc))⟩
  · intro a ha
    have := S.off a ha
    exact ⟨this.1, this.2.1, by rw [hs.1]; exact this.2.2⟩

/-- a cell's name is bound -/
theorem StF.storeC {x : Str} {c : Addr} {v : Value} {d : D} {h' : Heap} {t' : Nat} (S : StF B K ρ O T fz s) (hk : K.env.kindOf x = some .cell) (hc : K.env.cells.lookup x = some c) (hown : c ∈ K.cells)
    (hn : h'.IsCell c (some v)) (hs : Heap.SameBut c s.heap h') (hr : Rep fz v d) : StF B K ((x, d) :: ρ) O T fz { s with heap := h', toks := t' } := by
  have hmem : c ∈ owns K O := List.mem_cons_of_mem _ (List.mem_append_left _ hown)
  have hL := S.frees hmem
  have nd := List.nodup_cons.mp S.apart
  have nd2 := List.nodup_append.mp nd.2
  refine ⟨S.g.sameBut hs hL.1 hL.2, let ⟨_, _, e⟩ := S.rel; ⟨h', t', by rw [e]⟩,
    S.mod.trans (Mod.sameBut (S := fun a => a = c) hs rfl) (fun a e => by have e' : a = c := e; rw [e']; exact (S.fresh _ hmem).symm), S.grow, ?_, ?_, ?_, S.tmp, ?_, S.apart, ?_, S.fresh, S.capt, S.cinj, S.kind, S.glob, S.blt, S.room, fun p hp => ⟨(hs.2 _ (S.ro_ne hp hmem)).trans (S.ro p hp).1, (S.ro p hp).2⟩⟩
  · obtain ⟨m, hm⟩ := S.ns
    exact ⟨m, hm.sameBut hs fun q => nd.1 (List.mem_append_left _ (q ▸ hown))⟩
  · intro y e he
    rw [List.lookup_cons] at he
    by_cases hy : y = x
    · subst hy
      simp only [beq_self_eq_true] at he
      cases he
      exact ⟨v, .inr ⟨.inl hk, c, hc, hn⟩, hr⟩
    · have : (y == x) = false := by simpa using hy
      simp only [this] at he
      obtain ⟨u, hv, hr'⟩ := S.var y e he
      refine ⟨u, ?_, hr'⟩
      rcases hv with ⟨k, m', hn', hm'⟩ | ⟨k, c', hc', hv⟩
      · exact .inl ⟨k, m', hn'.sameBut hs fun q => nd.1 (List.mem_append_left _ (q ▸ hown)), hm'⟩
      · refine .inr ⟨k, c', hc', hv.sameBut hs ?_⟩
        rintro rfl
        exact hy (S.cinj y x _ hc' hc hown)
  · intro p hp
    exact (S.own p hp).mono (fun _ _ e => e) fun ob e => (hs.2 _ (fun q => nd2.2.2 c hown _ (List.mem_map_of_mem hp) q.symm)).trans e
  · intro c' hc'
    by_cases q : c' = c
    · subst q; exact ⟨_, hn⟩
    · obtain ⟨v, hv⟩ := S.cell c' hc'
      exact ⟨v, hv.sameBut hs q⟩
  · intro a ha
    have := S.off a ha
    exact ⟨this.1, this.2.1, by rw [hs.1]; exact this.2.2⟩

/-- an owned object is changed -/
theorem StF.setOwn {O₁ O₂ : Own'} {a : Addr} {o o' : Own} {h' : Heap} {t' : Nat} (S : StF B K ρ (O₁ ++ (a, o) :: O₂) T fz s) (hs : Heap.SameBut a s.heap h') (hn : OwnAt fz h' a o') :
    StF B K ρ (O₁ ++ (a, o') :: O₂) T fz { s with heap := h', toks := t' } := by
  have eo : owns K (O₁ ++ (a, o') :: O₂) = owns K (O₁ ++ (a, o) :: O₂) := by unfold owns; simp
  have hmem : a ∈ owns K (O₁ ++ (a, o) :: O₂) := List.mem_cons_of_mem _ (List.mem_append_right _ (List.mem_map_of_mem (List.mem_append_right _ List.mem_cons_self)))
  have hL := S.frees hmem
  have nd := List.nodup_cons.mp S.apart
  have nd2 := List.nodup_append.mp nd.2
  have amem : a ∈ (O₁ ++ (a, o) :: O₂).map (·.1) := List.mem_map_of_mem (f := Prod.fst) (List.mem_append_right O₁ (List.mem_cons_self (a := (a, o)) (l := O₂)))
  refine ⟨S.g.sameBut hs hL.1 hL.2, let ⟨_, _, e⟩ := S.rel; ⟨h', t', by rw [e]⟩,
    S.mod.trans (Mod.sameBut (S := fun b => b = a) hs rfl) (fun b e => by have e' : b = a := e; rw [e']; exact (S.fresh _ hmem).symm), S.grow, ?_, ?_, ?_, S.tmp, ?_, eo ▸ S.apart, ?_, eo ▸ S.fresh, S.capt, S.cinj, S.kind, S.glob, S.blt, S.room, fun p hp => ⟨(hs.2 _ (S.ro_ne hp hmem)).trans (S.ro p hp).1, (S.ro p hp).2⟩⟩
  · obtain ⟨m, hm⟩ := S.ns
    exact ⟨m, hm.sameBut hs fun q => nd.1 (List.mem_append_right _ (q ▸ amem))⟩
  · intro y e he
    obtain ⟨u, hv, hr'⟩ := S.var y e he
    refine ⟨u, ?_, hr'⟩
    rcases hv with ⟨k, m', hn', hm'⟩ | ⟨k, c', hc', hv⟩
    · exact .inl ⟨k, m', hn'.sameBut hs fun q => nd.1 (List.mem_append_right _ (q ▸ amem)), hm'⟩
    · refine .inr ⟨k, c', hc', hv.sameBut hs ?_⟩
      rintro rfl
      rcases S.capt y _ hc' with h | h
      · exact nd2.2.2 _ h _ amem rfl
      · rcases S.fresh _ hmem with q | q
        · exact absurd h.1 (Nat.not_lt.mpr q)
        · exact h.2 q
  · intro p hp
    rcases List.mem_append.mp hp with hp | hp
    · refine (S.own p (List.mem_append_left _ hp)).mono (fun _ _ e => e) fun ob e => (hs.2 _ (fun q => ?_)).trans e
      have nd3 := nd2.2.1
      rw [List.map_append] at nd3
      exact (List.nodup_append.mp nd3).2.2 _ (List.mem_map_of_mem hp) _ List.mem_cons_self q
    · rcases List.mem_cons.mp hp with rfl | hp
      · exact hn
      · refine (S.own p (List.mem_append_right _ (List.mem_cons_of_mem _ hp))).mono (fun _ _ e => e) fun ob e => (hs.2 _ (fun q => ?_)).trans e
        have nd3 := nd2.2.1
        rw [List.map_append] at nd3
        have := (List.nodup_cons.mp (List.nodup_append.mp nd3).2.1).1
        exact this (List.mem_map.mpr ⟨p, hp, q⟩)
  · intro c' hc'
    obtain ⟨v, hv⟩ := S.cell c' hc'
    exact ⟨v, hv.sameBut hs fun q => nd2.2.2 _ hc' _ amem q⟩
  · intro b hb
    have := S.off b (eo ▸ hb)
    exact ⟨this.1, this.2.1, by rw [hs.1]; exact this.2.2⟩

/-- a new object of the call's own -/
theorem StF.addOwn {a : Addr} {o : Own} {h' : Heap} {t' : Nat} (S : StF B K ρ O T fz s) (ha : s.heap.objs.size ≤ a) (hk : ∀ b ob, s.heap.get? b = some ob → h'.get? b = some ob) (hz : a < h'.objs.size) (hn : OwnAt fz h' a o) :
    StF B K ρ ((a, o) :: O) T fz { s with heap := h', toks := t' } := by
  have S' := S.step (h' := h') (t' := t') (P := fun _ => False) (S.g.keeps fun b o _ e => hk b o e) Grow.refl (Mod.of_keep hk (Nat.le_of_lt (Nat.lt_of_le_of_lt ha hz))) (fun _ h => h.elim)
  have hlt : ∀ b ∈ owns K O, b < a := fun b hb => Nat.lt_of_lt_of_le (S.off b hb).2.2 ha
  have mem : ∀ b, b ∈ owns K ((a, o) :: O) → b = a ∨ b ∈ owns K O := fun b hb => by
    unfold owns at hb ⊢
    rcases List.mem_cons.mp hb with h | h
    · exact .inr (h ▸ List.mem_cons_self)
    · rcases List.mem_append.mp h with h | h
      · exact .inr (List.mem_cons_of_mem _ (List.mem_append_left _ h))
      · rw [List.map_cons] at h
        rcases List.mem_cons.mp h with h | h
        · exact .inl h
        · exact .inr (List.mem_cons_of_mem _ (List.mem_append_right _ h))
  refine { S' with own := ?_, apart := ?_, off := ?_, fresh := ?_ }
  · intro p hp
    rcases List.mem_cons.mp hp with rfl | hp
    · exact hn
    · exact S'.own p hp
  · have nd := S.apart
    unfold owns at nd ⊢
    rw [List.map_cons]
    have h1 := List.nodup_cons.mp nd
    have h2 := List.nodup_append.mp h1.2
    refine List.nodup_cons.mpr ⟨fun q => ?_, List.nodup_append.mpr ⟨h2.1, List.nodup_cons.mpr ⟨fun q => ?_, h2.2.1⟩, fun x hx y hy e => ?_⟩⟩
    · rcases List.mem_append.mp q with q | q
      · exact h1.1 (List.mem_append_left _ q)
      · rcases List.mem_cons.mp q with q | q
        · have := hlt K.env.locals List.mem_cons_self
          rw [show K.env.locals = a from q] at this
          exact Nat.lt_irrefl a this
        · exact h1.1 (List.mem_append_right _ q)
    · exact Nat.lt_irrefl a (hlt _ (List.mem_cons_of_mem _ (List.mem_append_right _ q)))
    · rcases List.mem_cons.mp hy with hy | hy
      · have := hlt _ (List.mem_cons_of_mem _ (List.mem_append_left _ hx))
        exact Nat.lt_irrefl a (by rw [e, hy] at this; exact this)
      · exact h2.2.2 x hx y hy e
  · intro b hb
    rcases mem b hb with h | h
    · refine ⟨?_, ?_, by rw [h]; exact hz⟩
      · rw [h]; exact S.g.none_of_le ha
      · rw [h]; exact S.g.not_tab ha
    · exact S'.off b h
  · intro b hb
    rcases mem b hb with h | h
    · rw [h]; exact .inl (Nat.le_trans S.mod.size ha)
    · exact S'.fresh b h
end

theorem Rep.listSet {fz : Fz} {a : Addr} {vs n ds} (hn : fz a = none) (r : Reps fz vs ds) : Rep (fzSet fz a (lstObj vs n)) (.ref a) (.list ds) := by
  unfold Rep
  refine ⟨a, n, vs, rfl, ?_, r.mono (Grow.set (h := { objs := #[] }) hn (Nat.zero_le _)).ext⟩
  unfold fzSet; rw [if_pos rfl]

section
variable {B : Bs} {K : Act} {ρ : Rho} {O : Own'} {T : Tmp} {fz : Fz} {s : Shared}

theorem lookup_some_mem {α β : Type} [BEq α] [LawfulBEq α] : ∀ {l : List (α × β)} {x : α} {d : β}, l.lookup x = some d → (x, d) ∈ l
  | [], _, _, e => nomatch e
  | p :: r, x, d, e => by
    rw [List.lookup_cons] at e
    cases q : x == p.1 with
    | true => simp only [q] at e; cases e; rw [eq_of_beq q]; exact List.mem_cons_self
    | false => simp only [q] at e; exact List.mem_cons_of_mem _ (lookup_some_mem e)

/-- an owned list is frozen: from here on it is data -/
theorem StF.freeze {a : Addr} {ds : List D} {ρ' : Rho} (S : StF B K ρ ((a, .lst ds) :: O) T fz s) (hf : K.s₀.heap.objs.size ≤ a)
    (hρ : ∀ p ∈ ρ', ρ.lookup p.1 = some p.2 ∨ (ρ.lookup p.1 = some (.raw (.ref a)) ∧ p.2 = .list ds)) :
    ∃ fz', StF B K ρ' O ((.ref a, .list ds) :: T) fz' s := by
  have ha := S.off a (List.mem_cons_of_mem _ (List.mem_append_right _ List.mem_cons_self))
  obtain ⟨vs, n, hget, hreps⟩ := S.own (a, .lst ds) List.mem_cons_self
  have nd := List.nodup_cons.mp S.apart
  have nd2 := List.nodup_append.mp nd.2
  have D0 := StF.dropO (O' := [(a, .lst ds)]) S
  have ext := (Grow.set (h := { objs := #[] }) (o := lstObj vs n) ha.1 (Nat.zero_le _)).ext
  have R : Rep (fzSet fz a (lstObj vs n)) (.ref a) (.list ds) := Rep.listSet ha.1 hreps
  refine ⟨fzSet fz a (lstObj vs n), { D0 with g := D0.g.fzSet hget ha.1 ha.2.1, grow := ?_, var := ?_, own := ?_, tmp := ?_, off := ?_, ro := fun p hp => ⟨(D0.ro p hp).1, (D0.ro p hp).2.1.mono ext, (D0.ro p hp).2.2⟩ }⟩
  · exact ⟨fun b o e => ext b o (D0.grow.ext b o e), fun b o e => by
      unfold fzSet at e; split at e
      · rename_i q; exact .inr (q ▸ hf)
      · exact D0.grow.new b o e⟩
  · intro x d e
    rcases hρ (x, d) (lookup_some_mem e) with e₀ | ⟨e₀, rfl⟩
    · obtain ⟨v, hv, hr⟩ := S.var x d e₀
      exact ⟨v, hv, hr.mono ext⟩
    · obtain ⟨v, hv, hr⟩ := S.var x _ e₀
      have : v = .ref a := hr
      exact ⟨v, hv, this ▸ R⟩
  · exact fun p hp => (D0.own p hp).mono ext fun _ e => e
  · intro p hp
    rcases List.mem_cons.mp hp with rfl | hp
    · exact R
    · exact (S.tmp p hp).mono ext
  · intro b hb
    have := D0.off b hb
    refine ⟨?_, this.2⟩
    unfold fzSet
    rw [if_neg]
    · exact this.1
    · rintro rfl
      unfold owns at hb
      rcases List.mem_cons.mp hb with h | h
      · exact nd.1 (h ▸ List.mem_append_right _ List.mem_cons_self)
      · rcases List.mem_append.mp h with h | h
        · exact nd2.2.2 _ h _ List.mem_cons_self rfl
        · exact (List.nodup_cons.mp nd2.2.1).1 h
end
end Mine

set_option Elab.async false
set_option maxRecDepth 100000
namespace Mine
open PySem PySem.W PySem.Calls PyProof.Rows

abbrev No : Addr → Prop := fun _ => False

/-- what a step that changes nothing old may hand back -/
abbrev Back (B : Bs) (fz : Fz) (s : Shared) (d : D) (Q : Value → Shared → Prop) : Prop :=
  ∀ v fz' h' t', Grow fz fz' s.heap → G B fz' h' → Rep fz' v d → Mod B No s.heap h' → Q v { s with heap := h', toks := t' }

def Op1 (B : Bs) (f : Value → Sem Value) (d₁ d : D) : Prop :=
  ∀ A fz s v₁, Room A 0 → G B fz s.heap → Rep fz v₁ d₁ → ∀ Q E, Back B fz s d Q → wpAny (model B.prog B.w) A (f v₁) Q E s
def Op2 (B : Bs) (f : Value → Value → Sem Value) (d₁ d₂ d : D) : Prop :=
  ∀ A fz s v₁ v₂, Room A 0 → G B fz s.heap → Rep fz v₁ d₁ → Rep fz v₂ d₂ → ∀ Q E, Back B fz s d Q → wpAny (model B.prog B.w) A (f v₁ v₂) Q E s
/-- a call with n frames of room -/
def FSpec (B : Bs) (n : Nat) (f : Value) (ds : List D) (d : D) : Prop :=
  ∀ A fz s vs, Room A n → G B fz s.heap → Reps fz vs ds → ∀ Q E, Back B fz s d Q → wpAny (model B.prog B.w) A (call f vs) Q E s
def TSpec (B : Bs) (d : D) (b : Bool) : Prop :=
  ∀ A fz s v, Room A 0 → G B fz s.heap → Rep fz v d → ∀ Q E, (∀ t', Q b { s with toks := t' }) → wpAny (model B.prog B.w) A (truthy v) Q E s

theorem Room.le {A n m} (r : Room A n) (h : m ≤ n) : Room A m := ⟨r.handled, by have := r.depth; omega, by have := r.units; omega⟩

section
variable {B : Bs}
theorem Back.same {fz : Fz} {s : Shared} {d : D} {Q : Value → Shared → Prop} (h : Back B fz s d Q) (g : G B fz s.heap) {v : Value} (r : Rep fz v d) (t' : Nat) : Q v { s with toks := t' } :=
  h v fz s.heap t' Grow.refl g r Mod.refl
theorem Back.same0 {fz : Fz} {s : Shared} {d : D} {Q : Value → Shared → Prop} (h : Back B fz s d Q) (g : G B fz s.heap) {v : Value} (r : Rep fz v d) : Q v s := h.same g r s.toks
/-- a new list, a new tuple -/
theorem Back.list {fz : Fz} {s : Shared} {ds : List D} {Q : Value → Shared → Prop} (h : Back B fz s (.list ds) Q) (g : G B fz s.heap) {vs : List Value} (r : Reps fz vs ds) (n t' : Nat) :
    Q (.ref s.heap.objs.size) { s with heap := s.heap.push (lstObj vs n), toks := t' } := by
  have hn := g.none_of_le (Nat.le_refl s.heap.objs.size)
  exact h _ (fzSet fz s.heap.objs.size (lstObj vs n)) _ t' (Grow.set hn (Nat.le_refl _)) ((g.push _).fzSet (Heap.get?_push_size _ rfl) hn (g.not_tab (Nat.le_refl _))) (Rep.listSet hn r) Mod.push
theorem Back.tup {fz : Fz} {s : Shared} {ds : List D} {Q : Value → Shared → Prop} (h : Back B fz s (.tup ds) Q) (g : G B fz s.heap) {vs : List Value} (r : Reps fz vs ds) (n t' : Nat) :
    Q (.ref s.heap.objs.size) { s with heap := s.heap.push { cls := .type "tuple", data := .seq vs.toArray n }, toks := t' } := by
  have hn := g.none_of_le (Nat.le_refl s.heap.objs.size)
  have gr : Grow fz (fzSet fz s.heap.objs.size { cls := .type "tuple", data := .seq vs.toArray n }) s.heap := Grow.set hn (Nat.le_refl _)
  refine h _ (fzSet fz s.heap.objs.size { cls := .type "tuple", data := .seq vs.toArray n }) _ t' gr ((g.push _).fzSet (Heap.get?_push_size _ rfl) hn (g.not_tab (Nat.le_refl _))) ?_ Mod.push
  unfold Rep
  exact ⟨_, n, vs, rfl, by unfold fzSet; rw [if_pos rfl], r.mono gr.ext⟩
end

/-- an expression gives the data d -/
def Ev (B : Bs) (K : Act) (ρ : Rho) (O : Own') (e : Expr) (d : D) : Prop :=
  ∀ F T s, St B K ρ (O ++ F) T s → ∀ Q E, (∀ v s', St B K ρ (O ++ F) ((v, d) :: T) s' → Mod B No s.heap s'.heap → Q v s') → wpAny (model B.prog B.w) K.A (eval e K.env) Q E s
def Et (B : Bs) (K : Act) (ρ : Rho) (O : Own') (e : Expr) (b : Bool) : Prop :=
  ∀ F T s, St B K ρ (O ++ F) T s → ∀ Q E, (∀ s', St B K ρ (O ++ F) T s' → Mod B No s.heap s'.heap → Q b s') → wpAny (model B.prog B.w) K.A (isTrue e K.env (eval e K.env)) Q E s
/-- arguments, items of a display -/
def Evs (B : Bs) (K : Act) (ρ : Rho) (O : Own') (es : List Expr) (ds : List D) : Prop :=
  ∀ F T s pos, St B K ρ (O ++ F) T s → ∀ Q E, (∀ vs s', vs.length = ds.length → St B K ρ (O ++ F) (vs.zip ds ++ T) s' → Mod B No s.heap s'.heap → Q vs s') →
    wpAny (model B.prog B.w) K.A (spliced (backTo pos (starEach es K.env))) Q E s

section
variable {B : Bs} {K : Act} {ρ : Rho} {O F : Own'} {T : Tmp} {fz : Fz} {s : Shared}

theorem StF.back {d : D} {Q : Value → Shared → Prop} (S : StF B K ρ O T fz s) (hQ : ∀ v s', St B K ρ O ((v, d) :: T) s' → Mod B No s.heap s'.heap → Q v s') : Back B fz s d Q :=
  fun v fz' h' t' gr g r md => hQ v _ ⟨fz', (S.step g gr md (fun _ h => h.elim)).push r⟩ md
theorem Reps.of_zip {fz : Fz} : ∀ {vs : List Value} {ds : List D}, vs.length = ds.length → (∀ p ∈ vs.zip ds, Rep fz p.1 p.2) → Reps fz vs ds
  | [], [], _, _ => Reps.nil
  | [], _ :: _, e, _ => by cases e
  | _ :: _, [], e, _ => by cases e
  | v :: vs, d :: ds, e, h => Reps.cons (h (v, d) List.mem_cons_self) (Reps.of_zip (by simpa using e) fun p hp => h p (List.mem_cons_of_mem _ hp))
theorem St.sub {T' : Tmp} (S : St B K ρ O T s) (h : ∀ p ∈ T', p ∈ T) : St B K ρ O T' s := let ⟨fz, x⟩ := S; ⟨fz, x.subT h⟩

theorem Ev.const_int {i k pos} : Ev B K ρ O (.Constant (.int i) k pos) (.int i) := fun F T s ⟨fz, S⟩ Q E hQ =>
  wpAny_Constant_int (hQ _ _ ⟨fz, (S.toks _).push ⟨_, rfl⟩⟩ Mod.refl)
theorem Ev.const_str {x : Str} {k pos} : Ev B K ρ O (.Constant (.str x) k pos) (.str x.cps.toList) := fun F T s ⟨fz, S⟩ Q E hQ =>
  wpAny_Constant_str (hQ _ _ ⟨fz, (S.toks _).push ⟨_, rfl⟩⟩ Mod.refl)
theorem Ev.var {x : Str} {pos : Pos} {d : D} (h : ρ.lookup x = some d) (hd : (x == ("__debug__" : Str)) = false := by decide) (hc : (x == ("__classdict__" : Str)) = false := by decide) :
    Ev B K ρ O (.Name x pos) d := fun F T s ⟨fz, S⟩ Q E hQ => by
  obtain ⟨v, hv, hr⟩ := S.var x d h
  have q := hQ v s ⟨fz, S.push hr⟩ Mod.refl
  rcases hv with ⟨k, m, hn, hm⟩ | ⟨k | k, c, hcl, hv⟩
  · exact wpAny_Name (wpAny_loadName_local S.kind k hn hm q) hd
  · exact wpAny_Name (wpAny_loadName_cell S.kind k hcl hv q) hd
  · exact wpAny_Name (wpAny_loadName_free S.kind k hcl hv q hc) hd

theorem StF.heapG (S : StF B K ρ O T fz s) : s.heap.Ns mainGlobals B.mg := S.g.ok.g.keeps fun a o e => S.g.sub a o (S.g.base a o e)
theorem StF.heapB (S : StF B K ρ O T fz s) : s.heap.Ns builtinsNs B.mb := S.g.ok.b.keeps fun a o e => S.g.sub a o (S.g.base a o e)

theorem Ev.glob {x : Str} {pos : Pos} {v : Value} (h : B.mg x = some v) (hk : K.env.kindOf x = some .globalImplicit) (hd : (x == ("__debug__" : Str)) = false := by decide) : Ev B K ρ O (.Name x pos) (.raw v) :=
  fun F T s ⟨fz, S⟩ Q E hQ => Name_function_global S.kind hk (loadGlobal_global (S.glob.symm ▸ S.heapG) h (hQ v s ⟨fz, S.push rfl⟩ Mod.refl)) hd
theorem Ev.globD {x : Str} {pos : Pos} {v : Value} {d : D} (h : B.mg x = some v) (hr : ∀ fz, Rep fz v d) (hk : K.env.kindOf x = some .globalImplicit) (hd : (x == ("__debug__" : Str)) = false := by decide) : Ev B K ρ O (.Name x pos) d :=
  fun F T s ⟨fz, S⟩ Q E hQ => Name_function_global S.kind hk (loadGlobal_global (S.glob.symm ▸ S.heapG) h (hQ v s ⟨fz, S.push (hr _)⟩ Mod.refl)) hd
theorem Ev.blt {x : Str} {pos : Pos} {v : Value} (h : B.mg x = none) (hb : bootBuiltins x = some v) (hk : K.env.kindOf x = some .globalImplicit) (hn : x ≠ "__name__" := by decide) (hd : (x == ("__debug__" : Str)) = false := by decide) :
    Ev B K ρ O (.Name x pos) (.raw v) :=
  fun F T s ⟨fz, S⟩ Q E hQ => Name_function_global S.kind hk (loadGlobal_builtin (S.glob.symm ▸ S.heapG) h (S.blt.symm ▸ S.heapB) ((S.g.ok.builtins x hn).trans hb) (hQ v s ⟨fz, S.push rfl⟩ Mod.refl)) hd

theorem Ev.bin {l r : Expr} {op : Operator} {pos : Pos} {d₁ d₂ d : D} (h1 : Ev B K ρ O l d₁) (h2 : Ev B K ρ O r d₂) (h : Op2 B (binaryOp op) d₁ d₂ d) : Ev B K ρ O (.BinOp l op r pos) d :=
  fun F T s S Q E hQ => wpAny_BinOp (h1 F T s S _ _ fun v₁ s₁ S₁ m₁ => h2 F _ s₁ S₁ _ _ fun v₂ s₂ ⟨fz, S₂⟩ m₂ =>
    h _ fz s₂ v₁ v₂ (S₂.room.le (Nat.zero_le _)) S₂.g (S₂.tmp (v₁, d₁) (by simp)) (S₂.tmp (v₂, d₂) (by simp)) _ _ (S₂.back fun v s' S' m' =>
      hQ v s' (S'.sub (by intro p hp; rcases List.mem_cons.mp hp with h | h <;> simp_all)) ((m₁.trans m₂ fun _ h => h.elim).trans m' fun _ h => h.elim)))
theorem Ev.cmp {l r : Expr} {op : CmpOp} {pos : Pos} {d₁ d₂ d : D} (h1 : Ev B K ρ O l d₁) (h2 : Ev B K ρ O r d₂) (h : Op2 B (compareOp op) d₁ d₂ d) (hm : behindInMarks op r = false := by rfl) : Ev B K ρ O (.Compare l [op] [r] pos) d :=
  fun F T s S Q E hQ => wpAny_Compare1 (h1 F T s S _ _ fun v₁ s₁ S₁ m₁ => h2 F _ s₁ S₁ _ _ fun v₂ s₂ ⟨fz, S₂⟩ m₂ =>
    h _ fz s₂ v₁ v₂ (S₂.room.le (Nat.zero_le _)) S₂.g (S₂.tmp (v₁, d₁) (by simp)) (S₂.tmp (v₂, d₂) (by simp)) _ _ (S₂.back fun v s' S' m' =>
      hQ v s' (S'.sub (by intro p hp; rcases List.mem_cons.mp hp with h | h <;> simp_all)) ((m₁.trans m₂ fun _ h => h.elim).trans m' fun _ h => h.elim))) hm
theorem Ev.un {x : Expr} {op : UnaryOp} {pos : Pos} {d₁ d : D} (h1 : Ev B K ρ O x d₁) (h : Op1 B (unaryOp op) d₁ d) : Ev B K ρ O (.UnaryOp op x pos) d :=
  fun F T s S Q E hQ => wpAny_UnaryOp (h1 F T s S _ _ fun v₁ s₁ ⟨fz, S₁⟩ m₁ =>
    h _ fz s₁ v₁ (S₁.room.le (Nat.zero_le _)) S₁.g (S₁.tmp (v₁, d₁) (by simp)) _ _ (S₁.back fun v s' S' m' =>
      hQ v s' (S'.sub (by intro p hp; rcases List.mem_cons.mp hp with h | h <;> simp_all)) (m₁.trans m' fun _ h => h.elim)))

theorem Et.cmp {l r : Expr} {op : CmpOp} {pos : Pos} {d₁ d₂ : D} {b : Bool} (h1 : Ev B K ρ O l d₁) (h2 : Ev B K ρ O r d₂) (h : Op2 B (compareOp op) d₁ d₂ (.bool b)) (hm : behindInMarks op r = false := by rfl) : Et B K ρ O (.Compare l [op] [r] pos) b :=
  fun F T s S Q E hQ => wpAny_isTrue_Compare1 (h1 F T s S _ _ fun v₁ s₁ S₁ m₁ => h2 F _ s₁ S₁ _ _ fun v₂ s₂ ⟨fz, S₂⟩ m₂ =>
    h _ fz s₂ v₁ v₂ (S₂.room.le (Nat.zero_le _)) S₂.g (S₂.tmp (v₁, d₁) (by simp)) (S₂.tmp (v₂, d₂) (by simp)) _ _ (S₂.back fun v s' S' m' => by
      obtain ⟨fz', S''⟩ := S'
      have e : v = .bool b := S''.tmp (v, .bool b) (by simp)
      subst e
      exact wpAny_truthy_bool (hQ s' ⟨fz', S''.subT (by intro p hp; simp_all)⟩ ((m₁.trans m₂ fun _ h => h.elim).trans m' fun _ h => h.elim)))) hm
theorem Et.val {e : Expr} {d : D} {b : Bool} (h1 : Ev B K ρ O e d) (ht : TSpec B d b)
    (hv : isTrue e K.env (eval e K.env) = (do let v ← eval e K.env; standAt e.pos; holding [v] (truthy v)) := by rfl) : Et B K ρ O e b :=
  fun F T s S Q E hQ => wpAny_isTrue_value (h1 F T s S _ _ fun v₁ s₁ ⟨fz, S₁⟩ m₁ =>
    ht _ fz s₁ v₁ (S₁.room.le (Nat.zero_le _)) S₁.g (S₁.tmp (v₁, d) (by simp)) _ _ fun t' => hQ _ ⟨fz, (S₁.toks t').subT (by intro p hp; simp_all)⟩ m₁) hv
theorem Ev.ite {t b o : Expr} {pos : Pos} {c : Bool} {d : D} (h : Et B K ρ O t c) (h1 : c = true → Ev B K ρ O b d) (h2 : c = false → Ev B K ρ O o d) : Ev B K ρ O (.IfExp t b o pos) d :=
  fun F T s S Q E hQ => wpAny_IfExp (h F T s S _ _ fun s' S' m => by
    cases c with
    | true => simpa using h1 rfl F T s' S' Q E fun v s'' S'' m' => hQ v s'' S'' (m.trans m' fun _ h => h.elim)
    | false => simpa using h2 rfl F T s' S' Q E fun v s'' S'' m' => hQ v s'' S'' (m.trans m' fun _ h => h.elim))

theorem Evs.nil : Evs B K ρ O [] [] := fun _ _ s _ S _ _ hQ => wpAny_items_nil (hQ [] s rfl S Mod.refl)
theorem Evs.cons {e : Expr} {es : List Expr} {d : D} {ds : List D} (h : Ev B K ρ O e d) (h' : Evs B K ρ O es ds) (hs : starEach (e :: es) K.env = (false, eval e K.env) :: starEach es K.env := by rfl) : Evs B K ρ O (e :: es) (d :: ds) :=
  fun F T s pos S Q E hQ => wpAny_items_cons (h F T s S _ _ fun v s₁ S₁ m₁ => h' F _ s₁ pos S₁ _ _ fun vs s₂ hl S₂ m₂ =>
    hQ (v :: vs) s₂ (by simp [hl]) (S₂.sub (by intro p hp; simp only [List.zip_cons_cons, List.cons_append, List.mem_cons, List.mem_append] at hp ⊢; rcases hp with h | h | h <;> simp [h])) (m₁.trans m₂ fun _ h => h.elim)) hs
end
end Mine

set_option Elab.async false
set_option maxRecDepth 100000
namespace Mine
open PySem PySem.W PySem.Calls PyProof.Rows

/-- the data's type -/
def DTy (B : Bs) (d : D) (T : String) : Prop := ∀ (fz : Fz) (s : Shared) (v : Value), G B fz s.heap → Rep fz v d → s.TypeIs v T ∧ ∀ a, v = .ref a → ∃ o : Obj, s.heap.get? a = some o ∧ o.dict = none

section
variable {B : Bs} {fz : Fz} {s : Shared}
theorem Rep.isList {v : Value} {ds : List D} (g : G B fz s.heap) (r : Rep fz v (.list ds)) : ∃ a vs n, v = .ref a ∧ s.heap.get? a = some (lstObj vs n) ∧ s.heap.IsList a vs.toArray ∧ Reps fz vs ds := by
  unfold Rep at r
  obtain ⟨a, n, vs, e, e1, e2⟩ := r
  have := g.sub _ _ e1
  exact ⟨a, vs, n, e, this, ⟨_, this, rfl, n, rfl⟩, e2⟩
theorem Rep.isTup {v : Value} {ds : List D} (g : G B fz s.heap) (r : Rep fz v (.tup ds)) : ∃ a vs n, v = .ref a ∧ s.heap.get? a = some (tupObj vs n) ∧ IsTup s.heap a vs.toArray ∧ Reps fz vs ds := by
  unfold Rep at r
  obtain ⟨a, n, vs, e, e1, e2⟩ := r
  have := g.sub _ _ e1
  exact ⟨a, vs, n, e, this, ⟨_, this, rfl, n, rfl⟩, e2⟩
theorem DTy.int {i : Int} : DTy B (.int i) "int" := fun _ _ v _ ⟨_, r⟩ => by subst r; exact ⟨rfl, fun _ h => nomatch h⟩
theorem DTy.str {l} : DTy B (.str l) "str" := fun _ _ v _ ⟨_, r⟩ => by subst r; exact ⟨rfl, fun _ h => nomatch h⟩
theorem DTy.bytes {l} : DTy B (.bytes l) "bytes" := fun _ _ v _ ⟨⟨_, r⟩, _⟩ => by subst r; exact ⟨rfl, fun _ h => nomatch h⟩
theorem DTy.list {ds} : DTy B (.list ds) "list" := fun _ _ v g r => by
  obtain ⟨a, vs, n, rfl, h1, h2, _⟩ := r.isList g
  exact ⟨h2.typeIs, fun b e => by cases e; exact ⟨_, h1, rfl⟩⟩
end

section
variable {B : Bs} {K : Act} {ρ : Rho} {O F : Own'} {T : Tmp} {fz : Fz} {s : Shared}

theorem Ev.list {es : List Expr} {ds : List D} {pos : Pos} (h : Evs B K ρ O es ds) (hz : ds.length ≤ 1000 := by exact Nat.le_of_ble_eq_true rfl) : Ev B K ρ O (.List es pos) (.list ds) := fun F T s S Q E hQ => by
  refine wpAny_List (h F T s pos S _ _ fun vs s' hl S' m => ?_)
  obtain ⟨fz, S'⟩ := S'
  have r : Reps fz vs ds := Reps.of_zip hl fun p hp => S'.tmp p (List.mem_append_left _ hp)
  refine ⟨by rw [hl]; exact Nat.le_trans hz (by decide), ?_⟩
  exact Back.list (S'.back fun v s'' S'' m'' => hQ v s'' (S''.sub (by intro p hp; rcases List.mem_cons.mp hp with h | h <;> simp [h])) (m.trans m'' fun _ h => h.elim)) S'.g r 0 s'.toks
theorem Ev.tup {es : List Expr} {ds : List D} {k : Nat} {pos : Pos} (h : Evs B K ρ O es ds) (hz : ds.length ≤ 1000 := by exact Nat.le_of_ble_eq_true rfl) : Ev B K ρ O (.Tuple es k pos) (.tup ds) := fun F T s S Q E hQ => by
  refine wpAny_Tuple (h F T s pos S _ _ fun vs s' hl S' m => ?_)
  obtain ⟨fz, S'⟩ := S'
  have r : Reps fz vs ds := Reps.of_zip hl fun p hp => S'.tmp p (List.mem_append_left _ hp)
  refine ⟨by rw [hl]; exact Nat.le_trans hz (by decide), ?_⟩
  exact Back.tup (S'.back fun v s'' S'' m'' => hQ v s'' (S''.sub (by intro p hp; rcases List.mem_cons.mp hp with h | h <;> simp [h])) (m.trans m'' fun _ h => h.elim)) S'.g r 0 s'.toks

/-- an item -/
theorem Ev.sub {value slice : Expr} {pos : Pos} {d₁ d₂ d : D} {T id : String} (h1 : Ev B K ρ O value d₁) (h2 : Ev B K ρ O slice d₂) (hT : DTy B d₁ T)
    (hl : typeLookup (.type T) "__getitem__" = pure (some (.builtin id))) (h : Op2 B getItem d₁ d₂ d)
    (hs : ∀ o i, subscripted slice false o i = operate [o, i] (getItem o i) := by intro _ _; with_unfolding_all rfl) : Ev B K ρ O (.Subscript value slice pos) d :=
  fun F T s S Q E hQ => Subscript_ (h1 F T s S _ _ fun v₁ s₁ S₁ m₁ => h2 F _ s₁ S₁ _ _ fun v₂ s₂ ⟨fz, S₂⟩ m₂ =>
    tail_any (hT fz s₂ v₁ S₂.g (S₂.tmp (v₁, d₁) (by simp))).1 hl (h _ fz s₂ v₁ v₂ (S₂.room.le (Nat.zero_le _)) S₂.g (S₂.tmp (v₁, d₁) (by simp)) (S₂.tmp (v₂, d₂) (by simp)) _ _ (S₂.back fun v s' S' m' =>
      hQ v s' (S'.sub (by intro p hp; rcases List.mem_cons.mp hp with h | h <;> simp_all)) ((m₁.trans m₂ fun _ h => h.elim).trans m' fun _ h => h.elim))) (hs _ _))

/-- a part of a slice -/
def Epart (B : Bs) (K : Act) (ρ : Rho) (O : Own') (e : Option Expr) (k : Option Int) : Prop :=
  ∀ F T s, St B K ρ (O ++ F) T s → ∀ Q E, (∀ v s', IsPart v k → St B K ρ (O ++ F) T s' → Mod B No s.heap s'.heap → Q v s') → wpAny (model B.prog B.w) K.A (evalPart e K.env) Q E s
theorem Epart.none : Epart B K ρ O none none := fun _ _ s S _ _ hQ => by rw [evalPart_none]; exact wpAny_pure (hQ _ s .none S Mod.refl)
theorem Epart.some {e : Expr} {i : Int} (h : Ev B K ρ O e (.int i)) : Epart B K ρ O (some e) (some i) := fun F T s S Q E hQ => by
  rw [evalPart_some]
  refine h F T s S _ _ fun v s' S' m => ?_
  obtain ⟨fz, S'⟩ := S'
  obtain ⟨t, rfl⟩ := S'.tmp (v, .int i) (by simp)
  exact hQ _ s' (.int i t) ⟨fz, S'.subT (by intro p hp; simp [hp])⟩ m

theorem Reps.pick {fz : Fz} {vs : List Value} {ds : List D} (r : Reps fz vs ds) (lo hi : Nat) : Reps fz ((vs.drop lo).take hi) ((ds.drop lo).take hi) := (r.drop lo).take hi

/-- what xs[lo:hi] is -/
def cut {α : Type} (xs : List α) (lo hi : Option Int) : List α :=
  (xs.drop (lo.elim 0 (clipAt xs.length))).take (hi.elim xs.length (clipAt xs.length) - lo.elim 0 (clipAt xs.length))

theorem Ev.slice {value : Expr} {lower upper : Option Expr} {p pos : Pos} {ds : List D} {lo hi : Option Int} (h1 : Ev B K ρ O value (.list ds)) (h2 : Epart B K ρ O lower lo) (h3 : Epart B K ρ O upper hi) (hz : ds.length ≤ sizeLine) :
    Ev B K ρ O (.Subscript value (.Slice lower upper none p) pos) (.list (cut ds lo hi)) :=
  fun F T s S Q E hQ => Subscript_ (h1 F T s S _ _ fun v₁ s₁ S₁ m₁ => wpAny_Slice (h2 F _ s₁ S₁ _ _ fun vl s₂ pl S₂ m₂ => h3 F _ s₂ S₂ _ _ fun vu s₃ pu S₃ m₃ => by
    rw [evalPart_none]
    refine wpAny_pure ?_
    obtain ⟨fz, S₃⟩ := S₃
    obtain ⟨a, vs, n, rfl, ha, hl, hr⟩ := (S₃.tmp (v₁, .list ds) (by simp)).isList S₃.g
    have hv : vs.length = ds.length := hr.length
    -- the slice object is made
    have S₄ := S₃.step (h' := s₃.heap.push { cls := .type "slice", data := .fields #[vl, vu, .none] }) (t' := s₃.toks) (S₃.g.push _) Grow.refl (Mod.push (S := No)) (fun _ h => h.elim)
    have m₄ : Mod B No s.heap (s₃.heap.push { cls := .type "slice", data := .fields #[vl, vu, .none] }) := ((m₁.trans m₂ fun _ h => h.elim).trans m₃ fun _ h => h.elim).trans (Mod.push (S := No)) fun _ h => h.elim
    refine tail_any (hl.push _).typeIs list_getitem_lookup (wpAny_getItem_list_slice (hl.push _) (Heap.IsSliceOf.new ..) pl pu .none (by simp) ?_ (by simp [hv]; exact hz)) (by with_unfolding_all rfl)
    have e : slicePick vs.toArray lo hi none = (cut vs lo hi).toArray := by
      rw [slicePick_plain]; simp [cut]
    rw [e]
    have r' : Reps fz (cut vs lo hi) (cut ds lo hi) := by unfold cut; rw [hv]; exact hr.pick _ _
    exact Back.list (S₄.back fun v s' S' m' => hQ v s' (S'.sub (by intro p hp; rcases List.mem_cons.mp hp with h | h <;> simp [h])) (m₄.trans m' fun _ h => h.elim)) S₄.g r' 0 s₃.toks))

/-- how the machine keeps what it calls -/
def Keep (B : Bs) (f : Value) : Prop := ∀ h : Heap, (∀ a o, B.h₀.get? a = some o → h.get? a = some o) → ∃ k, (k = Keeper.frame ∨ k = Keeper.machine ∨ k = Keeper.boundFrame) ∧ Looks (model B.prog B.w) h (keeperOf f) k
theorem Keep.builtin {id : String} : Keep B (.builtin id) := fun _ _ => ⟨.machine, .inr (.inl rfl), Looks.of_pure rfl⟩
theorem Keep.type {T : String} : Keep B (.type T) := fun _ _ => ⟨.machine, .inr (.inl rfl), Looks.of_pure rfl⟩
theorem Keep.fn {a : Addr} {o : Obj} {fd : FuncData} (h : B.h₀.get? a = some o) (hd : o.data = .func fd) : Keep B (.ref a) := fun hp k => by
  refine ⟨.frame, .inl rfl, ?_⟩
  refine (Looks.ld (part := none) (k _ _ h)).andThen ?_
  rw [hd]; exact .now

theorem evalArgs_of_spliced {M : Model} {A : Around} {E : Value → Shared → Prop} {s : Shared} {f : Value} {args : List (Bool × Sem Value)} {Q : Args → Shared → Prop} (hp : args.any (·.1) = false)
    (h : wpAny M A (spliced args) (fun vs s₁ => Q ⟨vs, []⟩ s₁) E s) : wpAny M A (evalArgs f true args []) Q E s := by
  cases args with
  | nil => exact fun Γ p hΓ => evalArgs_nil3 (h Γ p hΓ) Γ p hΓ
  | cons x r =>
    obtain ⟨star, t⟩ := x
    cases star with
    | true => simp at hp
    | false => exact evalArgs_plain h

theorem Ev.call {f : Expr} {args : List Expr} {pos : Pos} {fv : Value} {ds : List D} {d : D} {m : Nat} (hf : Ev B K ρ O f (.raw fv)) (ha : Evs B K ρ O args ds) (hk : Keep B fv) (hs : FSpec B m fv ds d) (hm : m ≤ K.n)
    (hp : (backTo pos (starEach args K.env)).any (·.1) = false := by rfl)
    (he : eval (.Call f args [] pos) K.env = (do callWith pos (← eval f K.env) [] (backTo pos (starEach args K.env)) []) := by rfl) : Ev B K ρ O (.Call f args [] pos) d := fun F T s S Q E hQ => by
  rw [he]
  refine wpAny_bind (hf F T s S _ _ fun v₁ s₁ S₁ m₁ => ?_)
  have e : v₁ = fv := by obtain ⟨fz, S₁⟩ := S₁; exact S₁.tmp (v₁, .raw fv) (by simp)
  subst e
  refine callWith_of (P := fun h => ∀ a o, B.h₀.get? a = some o → h.get? a = some o) (by simp [hp]) (fun h k => hk h k) (evalArgs_of_spliced hp (ha F _ s₁ pos S₁ _ _ fun vs s₂ hl S₂ m₂ => ?_))
  obtain ⟨fz, S₂⟩ := S₂
  refine ⟨fun a o q => S₂.g.sub a o (S₂.g.base a o q), ?_⟩
  have r : Reps fz vs ds := Reps.of_zip hl fun p hp => S₂.tmp p (List.mem_append_left _ hp)
  exact hs _ fz s₂ vs (S₂.room.le hm) S₂.g r _ _ (S₂.back fun v s' S' m' =>
    hQ v s' (S'.sub (by intro p hp; rcases List.mem_cons.mp hp with h | h <;> simp [h])) ((m₁.trans m₂ fun _ h => h.elim).trans m' fun _ h => h.elim))

/-- a method of a built-in type -/
theorem Ev.meth {o : Expr} {name : Str} {apos pos : Pos} {args : List Expr} {T id : String} {d₁ d : D} {ds : List D} (ho : Ev B K ρ O o d₁) (ha : Evs B K ρ O args ds) (hT : DTy B d₁ T) (pa : PlainAttrs T) (slot : Slot T name id)
    (hty : typeOf (.builtin id) = pure (.type "method_descriptor")) (hs : FSpec B 0 (.builtin id) (d₁ :: ds) d)
    (hbase : attributeBase o name K.env (eval o K.env) = eval o K.env := by rfl)
    (hp : (backTo pos (starEach args K.env)).any (·.1) = false := by rfl)
    (hfew : ((backTo pos (starEach args K.env)).all (fun x => !x.1) && (backToKw pos (keywordEach [] K.env)).all (fun x => x.1.isSome)
      && decide (args.length + ([] : List Keyword).length + (if ([] : List Keyword).isEmpty then 0 else 1) < 30)) = true := by rfl)
    (hline : (apos.endLine == pos.line) = true := by rfl) : Ev B K ρ O (.Call (.Attribute o name apos) args [] pos) d := fun F T s S Q E hQ =>
  wpAny_Call_method hbase hfew hline pa slot hty (ho F T s S _ _ fun v₁ s₁ S₁ m₁ => by
    obtain ⟨h1, h2⟩ : s₁.TypeIs v₁ _ ∧ _ := by obtain ⟨fz, S₁⟩ := S₁; exact hT fz s₁ v₁ S₁.g (S₁.tmp (v₁, d₁) (by simp))
    refine ⟨h1, h2, ?_⟩
    refine Calls.callWith_builtin hp (evalArgs_of_spliced hp (ha F _ s₁ pos S₁ _ _ fun vs s₂ hl S₂ m₂ => ?_))
    obtain ⟨fz, S₂⟩ := S₂
    have r : Reps fz vs ds := Reps.of_zip hl fun p hp => S₂.tmp p (List.mem_append_left _ hp)
    exact hs _ fz s₂ (v₁ :: vs) (S₂.room.le (Nat.zero_le _)) S₂.g (Reps.cons (S₂.tmp (v₁, d₁) (by simp)) r) _ _ (S₂.back fun v s' S' m' =>
      hQ v s' (S'.sub (by intro p hp; rcases List.mem_cons.mp hp with h | h <;> simp [h])) ((m₁.trans m₂ fun _ h => h.elim).trans m' fun _ h => h.elim)))
end
end Mine

set_option Elab.async false
set_option maxRecDepth 100000
namespace Mine
open PySem

theorem runs_size_le {M : Model} {Γ : PySem.Ctx} {p : Pos} {t : Sem Fin} {fs : List Frame} {s s' : Shared} {e : End} (h : Runs M Γ p t fs s e s') : s.heap.objs.size ≤ s'.heap.objs.size := by
  induction h <;> (try simp only [Shared.setGen, Heap.size_push, Heap.size_after_update] at *) <;> omega
theorem returns_size_le {M : Model} {Γ : PySem.Ctx} {p : Pos} {s s' : Shared} {r : Result} (h : Returns M Γ p s r s') : s.heap.objs.size ≤ s'.heap.objs.size := runs_size_le h
theorem wakes_size_le {M : Model} {Γ : PySem.Ctx} {p : Pos} {g : Nat} {r : Resume} {s s' : Shared} {res : GenResult} (h : Wakes M Γ p g r s res s') : s.heap.objs.size ≤ s'.heap.objs.size := by
  unfold Wakes at h
  split at h
  · exact h.elim
  · split at h
    · obtain ⟨e₁, s₁, hr, _, _, rfl⟩ := h; exact (runs_size_le hr : (s.setGen g .running).heap.objs.size ≤ s₁.heap.objs.size)
    · rw [h.2]; exact Nat.le_refl _
    · rw [h.2]; exact Nat.le_refl _
  · obtain ⟨e₁, s₁, hr, _, _, rfl⟩ := h; exact (runs_size_le hr : (s.setGen g .running).heap.objs.size ≤ s₁.heap.objs.size)
  · rw [h.2]; exact Nat.le_refl _
  · rw [h.2]; exact Nat.le_refl _

theorem wp_size {α : Type} (M : Model) (Γ : PySem.Ctx) (n : Nat) (t : Sem α) : ∀ (Q : α → Pos → Shared → Prop) (E : Value → Pos → Shared → Prop) (p : Pos) (s : Shared), n ≤ s.heap.objs.size → Sem.wp M Γ t Q E p s →
    Sem.wp M Γ t (fun a p' s' => n ≤ s'.heap.objs.size ∧ Q a p' s') (fun e p' s' => n ≤ s'.heap.objs.size ∧ E e p' s') p s := by
  induction t with
  | pure a => intro Q E p s hn h; exact ⟨hn, h⟩
  | raise e => intro Q E p s hn h; exact ⟨hn, h⟩
  | unsupported _ => intro Q E p s _ h; exact h
  | finish _ => intro Q E p s _ h; exact h
  | rule _ k ih => intro Q E p s hn h; exact ih () Q E p s hn h
  | «at» p' k ih => intro Q E p s hn h; exact ih () Q E p' s hn h
  | load a _ k ih => intro Q E p s hn h; obtain ⟨o, ho, h⟩ := h; exact ⟨o, ho, ih o Q E p s hn h⟩
  | update a _ f k ih => intro Q E p s hn h; exact ⟨h.1, ih () Q E p _ (by rw [Heap.size_after_update]; exact hn) h.2⟩
  | loadIfAlive a k ih => intro Q E p s hn h; exact ih _ Q E p s hn h
  | point _ k ih => intro Q E p s hn h; exact ih () Q E p s hn h
  | register _ _ => intro Q E p s _ h; exact h
  | alloc o k ih => intro Q E p s hn h; exact ih _ Q E p _ (by rw [Heap.size_push]; omega) h
  | fresh k ih => intro Q E p s hn h; exact ih _ Q E p _ hn h
  | ask k ih => intro Q E p s hn h; exact ih _ Q E p s hn h
  | choose src m k ih => intro Q E p s hn h; exact ⟨h.1, ih _ Q E p _ hn h.2⟩
  | os q _ k ih => intro Q E p s hn h; exact ih _ Q E p _ hn h
  | call c hd _ _ k ih => intro Q E p s hn h; obtain ⟨r, s', hr, h⟩ := h; exact ⟨r, s', hr, ih r Q E p s' (Nat.le_trans hn (returns_size_le hr)) h⟩
  | handled own k ih => intro Q E p s hn h; exact ih _ Q E p s hn h
  | genState g k ih => intro Q E p s hn h; obtain ⟨st, hs, h⟩ := h; exact ⟨st, hs, ih _ Q E p s hn h⟩
  | newGen c k ih => intro Q E p s hn h; exact ih _ Q E p _ hn h
  | resume g r _ k ih => intro Q E p s hn h; obtain ⟨res, s', hw, h⟩ := h; exact ⟨res, s', hw, ih res Q E p s' (Nat.le_trans hn (wakes_size_le hw)) h⟩
  | yield _ _ _ _ => intro Q E p s _ h; exact h
  | stack k ih => intro Q E p s hn h; exact ih _ Q E p s hn h
  | fork _ _ => intro Q E p s _ h; exact h
  | thread k ih => intro Q E p s hn h; exact ih _ Q E p s hn h
  | await _ _ _ _ _ => intro Q E p s _ h; exact h

/-- the heap never shrinks -/
theorem with_size {α : Type} {M : Model} {A : Around} {s : Shared} {t : Sem α} {Q : α → Shared → Prop} {E : Value → Shared → Prop}
    (h : wpAny M A t (fun a s' => s.heap.objs.size ≤ s'.heap.objs.size → Q a s') (fun e s' => s.heap.objs.size ≤ s'.heap.objs.size → E e s') s) : wpAny M A t Q E s :=
  have h' : wpAny M A t (fun a s' => s.heap.objs.size ≤ s'.heap.objs.size ∧ (s.heap.objs.size ≤ s'.heap.objs.size → Q a s')) (fun e s' => s.heap.objs.size ≤ s'.heap.objs.size ∧ (s.heap.objs.size ≤ s'.heap.objs.size → E e s')) s :=
    fun Γ p hΓ => wp_size M Γ s.heap.objs.size t _ _ p s (Nat.le_refl _) (h Γ p hΓ)
  wpAny_mono h' (fun _ _ x => x.2 x.1) fun _ _ x => x.2 x.1
theorem code_with_size {M : Model} {A : Around} {s : Shared} {c : Code} {R : Result → Shared → Prop} (h : codeAny M A c (fun r s' => s.heap.objs.size ≤ s'.heap.objs.size → R r s') s) : codeAny M A c R s :=
  fun Γ p hc hΓ => by obtain ⟨r, s', hr, hR⟩ := h Γ p hc hΓ; exact ⟨r, s', hr, hR (returns_size_le hr)⟩
end Mine

set_option Elab.async false
set_option maxRecDepth 100000
namespace Mine
open PySem PySem.W PySem.Calls PyProof.Rows

inductive Out where
  | next (ρ : Rho) (O : Own')
  | brk (ρ : Rho) (O : Own')
  | cont (ρ : Rho) (O : Own')
  | ret (d : D) (O : Own')

def OutSt (B : Bs) (K : Act) (F : Own') (T : Tmp) (o : Out) (fl : Flow) (s : Shared) : Prop := match o with
  | .next ρ O => fl = .next ∧ St B K ρ (O ++ F) T s
  | .brk ρ O => fl = .brk ∧ St B K ρ (O ++ F) T s
  | .cont ρ O => fl = .cont ∧ St B K ρ (O ++ F) T s
  | .ret d O => ∃ v, fl = .ret v ∧ St B K [] (O ++ F) ((v, d) :: T) s

abbrev Own.in (K : Act) (O : Own') : Addr → Prop := fun a => a ∈ owns K O

/-- statements come to the outcome o -/
def Ex (B : Bs) (K : Act) (ρ : Rho) (O : Own') (ss : List Stmt) (o : Out) : Prop :=
  ∀ F T s, St B K ρ (O ++ F) T s → ∀ Q E, (∀ fl s', OutSt B K F T o fl s' → Mod B (Own.in K O) s.heap s'.heap → Q fl s') → wpAny (model B.prog B.w) K.A (execs ss K.env) Q E s
def Ex1 (B : Bs) (K : Act) (ρ : Rho) (O : Own') (st : Stmt) (o : Out) : Prop :=
  ∀ F T s, St B K ρ (O ++ F) T s → ∀ Q E, (∀ fl s', OutSt B K F T o fl s' → Mod B (Own.in K O) s.heap s'.heap → Q fl s') → wpAny (model B.prog B.w) K.A (exec st K.env) Q E s
/-- a value is bound to a target -/
def Asg (B : Bs) (K : Act) (ρ : Rho) (t : Expr) (d : D) (ρ' : Rho) : Prop :=
  ∀ O T s v, St B K ρ O ((v, d) :: T) s → ∀ Q E, (∀ s', St B K ρ' O ((v, d) :: T) s' → Mod B (Own.in K []) s.heap s'.heap → Q () s') → wpAny (model B.prog B.w) K.A (assign t K.env v) Q E s

def Bindable (K : Act) (x : Str) : Prop := K.env.kindOf x = some .local ∨ (K.env.kindOf x = some .cell ∧ ∃ c, K.env.cells.lookup x = some c ∧ c ∈ K.cells)

section
variable {B : Bs} {K : Act} {ρ ρ' : Rho} {O O' F : Own'} {T : Tmp} {fz : Fz} {s : Shared} {o : Out}

theorem mod_no {h h' : Heap} {S : Addr → Prop} (m : Mod B No h h') : Mod B S h h' := m.mono fun _ h => h.elim
theorem own_mono (h : ∀ a ∈ O'.map (·.1), a ∈ O.map (·.1)) {a : Addr} (ha : Own.in K O' a) : Own.in K O a := by
  rcases List.mem_cons.mp ha with q | q
  · exact q ▸ List.mem_cons_self
  · rcases List.mem_append.mp q with q | q
    · exact List.mem_cons_of_mem _ (List.mem_append_left _ q)
    · exact List.mem_cons_of_mem _ (List.mem_append_right _ (h a q))
theorem own_nil {a : Addr} (ha : Own.in K [] a) : Own.in K O a := own_mono (O' := []) (fun _ h => nomatch h) ha

theorem Reps.zip_mem {fz : Fz} : ∀ {vs : List Value} {ds : List D}, Reps fz vs ds → ∀ p ∈ vs.zip ds, Rep fz p.1 p.2
  | vs, [], _, p, hp => by simp at hp
  | vs, d :: ds, r, p, hp => by
    unfold Reps at r
    obtain ⟨v, l, rfl, h1, h2⟩ := r
    rcases List.mem_cons.mp hp with rfl | hp
    · exact h1
    · exact Reps.zip_mem h2 p hp
theorem St.store {x : Str} {v : Value} {d : D} {T' : Tmp} (S : St B K ρ O T s) (hm : (v, d) ∈ T) (hb : Bindable K x) {Q : Unit → Shared → Prop} {E : Value → Shared → Prop}
    (hQ : ∀ s', St B K ((x, d) :: ρ) O T s' → Mod B (Own.in K []) s.heap s'.heap → Q () s') : wpAny (model B.prog B.w) K.A (storeName K.env x v) Q E s := by
  obtain ⟨fz, S⟩ := S
  have hr : Rep fz v d := S.tmp (v, d) hm
  rcases hb with hl | ⟨hk, c, hc, hmem⟩
  · obtain ⟨m, hn⟩ := S.ns
    exact wpAny_storeName_local hl hn (fun h' hn' hs' => hQ _ ⟨fz, S.storeL hl hn hn' hs' hr⟩ (Mod.sameBut hs' List.mem_cons_self)) (by rw [S.kind]; rfl)
  · obtain ⟨v₀, hv⟩ := S.cell c hmem
    exact wpAny_storeName_cell S.kind hk hc hv fun h' hv' hs' => hQ _ ⟨fz, S.storeC (t' := s.toks) hk hc hmem hv' hs' hr⟩ (Mod.sameBut hs' (List.mem_cons_of_mem _ (List.mem_append_left _ hmem)))

theorem Asg.name {x : Str} {pos : Pos} {d : D} (hb : Bindable K x) : Asg B K ρ (.Name x pos) d ((x, d) :: ρ) := fun O T s v S Q E hQ =>
  wpAny_assign_Name (S.store (T' := T) List.mem_cons_self hb hQ)

theorem Ex.nil : Ex B K ρ O [] (.next ρ O) := fun _ _ s S _ _ hQ => wpAny_execs_nil (hQ .next s ⟨rfl, S⟩ Mod.refl)
/-- the statements behind a statement that goes on -/
theorem Ex.cons {st : Stmt} {r : List Stmt} {ρ₁ : Rho} {O₁ : Own'} (h : Ex1 B K ρ O st (.next ρ₁ O₁)) (h' : Ex B K ρ₁ O₁ r o) (hO : ∀ a ∈ O₁.map (·.1), a ∈ O.map (·.1) := by exact fun _ h => h) : Ex B K ρ O (st :: r) o :=
  fun F T s S Q E hQ => wpAny_execs_cons (h F T s S _ _ fun fl s₁ ⟨e, S₁⟩ m₁ => by
    subst e
    exact h' F T s₁ S₁ Q E fun fl s₂ S₂ m₂ => hQ fl s₂ S₂ (m₁.trans m₂ fun a ha => .inl (own_mono hO ha)))
theorem Ex.stop {st : Stmt} {r : List Stmt} {d : D} (h : Ex1 B K ρ O st (.ret d O')) : Ex B K ρ O (st :: r) (.ret d O') :=
  fun F T s S Q E hQ => wpAny_execs_cons (h F T s S _ _ fun fl s₁ ⟨v, e, S₁⟩ m₁ => by subst e; exact hQ _ s₁ ⟨v, rfl, S₁⟩ m₁)
/-- fewer names are known -/
theorem Ex.weak {ss : List Stmt} (h : Ex B K ρ' O ss o) (hs : ∀ x d, ρ'.lookup x = some d → ρ.lookup x = some d) : Ex B K ρ O ss o :=
  fun F T s ⟨fz, S⟩ Q E hQ => h F T s ⟨fz, S.subR hs⟩ Q E hQ

theorem lookup_of_all : ∀ {ρ' : Rho}, (∀ p ∈ ρ', ρ.lookup p.1 = some p.2) → ∀ x d, ρ'.lookup x = some d → ρ.lookup x = some d
  | [], _, _, _, e => by cases e
  | p :: r, h, x, d, e => by
    rw [List.lookup_cons] at e
    cases q : x == p.1 with
    | true => simp only [q] at e; cases e; rw [eq_of_beq q]; exact h p List.mem_cons_self
    | false => simp only [q] at e; exact lookup_of_all (fun p hp => h p (List.mem_cons_of_mem _ hp)) x d e

theorem Ex1.assign {x : Str} {p pos : Pos} {e : Expr} {d : D} (h : Ev B K ρ O e d) (hb : Bindable K x) (hs : swapsWith e (some (.Name x p)) pos.line K.env = pure false := by rfl) :
    Ex1 B K ρ O (.Assign [.Name x p] e pos) (.next ((x, d) :: ρ) O) := fun F T s S Q E hQ =>
  wpAny_Assign_Name (h F T s S _ _ fun v s₁ S₁ m₁ => S₁.store (T' := T) List.mem_cons_self hb fun s₂ S₂ m₂ =>
    hQ .next s₂ ⟨rfl, S₂.sub fun p hp => List.mem_cons_of_mem _ hp⟩ ((mod_no m₁).trans m₂ fun a ha => .inl (own_nil ha))) hs

theorem Ex1.ret {e : Expr} {pos : Pos} {d : D} (h : Ev B K ρ O e d) : Ex1 B K ρ O (.Return (some e) pos) (.ret d O) := fun F T s S Q E hQ =>
  wpAny_Return_some (h F T s S _ _ fun v s₁ ⟨fz, S₁⟩ m₁ => hQ _ s₁ ⟨v, rfl, fz, S₁.subR fun _ _ h => nomatch h⟩ (mod_no m₁))
theorem Ex1.retNone {pos : Pos} : Ex1 B K ρ O (.Return none pos) (.ret .none O) := fun F T s ⟨fz, S⟩ Q E hQ =>
  wpAny_Return_none (hQ _ s ⟨.none, rfl, fz, (StF.push (v := Value.none) (d := D.none) S rfl).subR fun _ _ h => nomatch h⟩ Mod.refl)

theorem Ex1.ite {t : Expr} {b e : List Stmt} {pos : Pos} {c : Bool} (h : Et B K ρ O t c) (h1 : c = true → Ex B K ρ O b o) (h2 : c = false → Ex B K ρ O e o) : Ex1 B K ρ O (.If t b e pos) o := fun F T s S Q E hQ =>
  wpAny_If (h F T s S _ _ fun s₁ S₁ m₁ => by
    cases c with
    | true => simpa using h1 rfl F T s₁ S₁ Q E fun fl s₂ S₂ m₂ => hQ fl s₂ S₂ ((mod_no m₁).trans m₂ fun a ha => .inl ha)
    | false => simpa using h2 rfl F T s₁ S₁ Q E fun fl s₂ S₂ m₂ => hQ fl s₂ S₂ ((mod_no m₁).trans m₂ fun a ha => .inl ha))

/-- a pair (a triple ..) is unpacked into names -/
theorem asg_inOrder : ∀ (xs : List (Str × Pos)) (vs : List Value) (ds : List D) (ρ : Rho) (s : Shared), vs.length = ds.length → xs.length = ds.length → (∀ x ∈ xs, Bindable K x.1) → St B K ρ O T s → (∀ p ∈ vs.zip ds, p ∈ T) →
    ∀ (Q : Unit → Shared → Prop) (E : Value → Shared → Prop), (∀ s', St B K (((xs.map (·.1)).zip ds).reverse ++ ρ) O T s' → Mod B (Own.in K []) s.heap s'.heap → Q () s') →
      wpAny (model B.prog B.w) K.A (assignInOrder (xs.map fun x => assign (.Name x.1 x.2) K.env) vs) Q E s
  | [], vs, ds, ρ, s, e1, e2, _, S, _, Q, E, hQ => by
    have : ds = [] := List.length_eq_zero_iff.mp e2.symm
    subst this
    unfold assignInOrder
    exact wpAny_pure (hQ s S Mod.refl)
  | x :: xs, [], ds, ρ, s, e1, e2, _, S, _, Q, E, hQ => by
    rw [← e1] at e2; cases e2
  | x :: xs, v :: vs, [], ρ, s, e1, e2, _, S, _, Q, E, hQ => by cases e1
  | x :: xs, v :: vs, d :: ds, ρ, s, e1, e2, hb, S, hT, Q, E, hQ => by
    show wpAny _ _ (holding vs (assign (.Name x.1 x.2) K.env v) >>= fun _ => assignInOrder (xs.map fun x => assign (.Name x.1 x.2) K.env) vs) Q E s
    refine wpAny_bind (wpAny_holding (wpAny_assign_Name (S.store (T' := T) (hT (v, d) List.mem_cons_self) (hb x List.mem_cons_self) fun s₁ S₁ m₁ => ?_)))
    refine asg_inOrder xs vs ds _ s₁ (by simpa using e1) (by simpa using e2) (fun x hx => hb x (List.mem_cons_of_mem _ hx)) S₁ (fun p hp => hT p (List.mem_cons_of_mem _ hp)) Q E fun s₂ S₂ m₂ => ?_
    refine hQ s₂ ?_ (m₁.trans m₂ fun _ h => .inl h)
    simpa using S₂

theorem Asg.tup {elts : List Expr} {k : Nat} {pos : Pos} {xs : List (Str × Pos)} {ds : List D} (he : elts = xs.map fun x => .Name x.1 x.2) (hl : xs.length = ds.length) (hb : ∀ x ∈ xs, Bindable K x.1) :
    Asg B K ρ (.Tuple elts k pos) (.tup ds) (((xs.map (·.1)).zip ds).reverse ++ ρ) := fun O T s v S Q E hQ => by
  subst he
  rw [assign_Tuple]
  refine wpAny_bind (wpAny_standAt ?_)
  obtain ⟨fz, S⟩ := S
  obtain ⟨a, vs, n, rfl, ha, ht, hr⟩ := (S.tmp (v, .tup ds) List.mem_cons_self).isTup S.g
  have eA : ∀ xs : List (Str × Pos), assignEach (xs.map fun x => .Name x.1 x.2) K.env = xs.map fun x => (false, assign (.Name x.1 x.2) K.env) := by
    intro xs
    induction xs with
    | nil => rfl
    | cons x r ih => rw [List.map_cons, List.map_cons, ← ih]; rfl
  rw [eA]
  unfold unpack
  have eF : (xs.map fun x => (false, assign (.Name x.1 x.2) K.env)).findIdx? (·.1) = none := by
    rw [List.findIdx?_eq_none_iff]; intro x hx; obtain ⟨y, _, rfl⟩ := List.mem_map.mp hx; rfl
  rw [eF, List.map_map, List.length_map]
  have hlv : xs.length = vs.toArray.size := by rw [List.size_toArray, hr.length, hl]
  rw [hlv]
  refine wpAny_bind (wpAny_holding (with_size (unpackItems_tuple S.room.handled ht fun h' he hz => ?_)))
  have ext : ∀ b ob, s.heap.get? b = some ob → h'.get? b = some ob := fun b ob e => he b ob (Nat.ne_of_lt (Heap.lt_size e)) e
  have S₁ := S.step (h' := h') (t' := s.toks) (P := No) (S.g.keeps fun b ob _ e => ext b ob e) Grow.refl (Mod.of_keep ext hz) (fun _ h => h.elim)
  have hall : ∀ p ∈ vs.zip ds, Rep fz p.1 p.2 := hr.zip_mem
  have S₂ : StF B K ρ O (vs.zip ds ++ ((.ref a, .tup ds) :: T)) fz { s with heap := h', toks := s.toks } := S₁.setT fun p hp => (List.mem_append.mp hp).elim (hall p) (S₁.tmp p)
  refine asg_inOrder xs vs ds ρ _ hr.length hl hb ⟨fz, S₂⟩ (fun p hp => List.mem_append_left _ hp) Q E fun s' S' m' => ?_
  exact hQ s' (S'.sub fun p hp => List.mem_append_right _ hp) ((Mod.of_keep ext hz).trans m' fun _ h => .inl h)
end
end Mine

set_option Elab.async false
set_option maxRecDepth 100000
namespace Mine
open PySem PySem.W PySem.Calls PyProof.Rows

/-- the activation of a def of the module's -/
def actOf (fd : FuncData) (a : Addr) (A : Around) (n : Nat) (s : Shared) (fz : Fz) : Act where
  A := A.deeper (callEnvC fd s.heap.objs.size a)
  env := callEnvC fd s.heap.objs.size a
  cells := (cellsFrom (s.heap.objs.size + 1) fd.scope.names []).map (·.2)
  n := n
  s₀ := s
  fz₀ := fz
  wr := []
  ro := []

theorem bindL_out {kindOf : Str → Option NameKind} : ∀ (l : List (Str × Value)) (m : Str → Option Value) (x : Str), x ∉ l.map (·.1) → bindL kindOf l m x = m x
  | [], _, _, _ => rfl
  | (n, v) :: r, m, x, h => by
    unfold bindL
    rw [bindL_out r _ x (fun q => h (List.mem_cons_of_mem _ q))]
    split
    · exact if_neg (fun q : x = n => h (q ▸ List.mem_cons_self))
    · rfl
theorem bindL_in {kindOf : Str → Option NameKind} : ∀ (l : List (Str × Value)) (m : Str → Option Value) (x : Str) (v : Value), (l.map (·.1)).Nodup → l.lookup x = some v → kindOf x = some .local → bindL kindOf l m x = some v
  | (n, u) :: r, m, x, v, nd, h, hk => by
    obtain ⟨h1, h2⟩ := List.nodup_cons.mp nd
    rw [List.lookup_cons] at h
    unfold bindL
    cases q : x == n with
    | true =>
      simp only [q] at h; cases h
      have e := eq_of_beq q; subst e
      rw [if_pos hk, bindL_out r _ x h1]; exact if_pos rfl
    | false =>
      simp only [q] at h
      exact bindL_in r _ x v h2 h hk
theorem bindC_out {kindOf : Str → Option NameKind} : ∀ (l : List (Str × Value)) (m : Str → Option Value) (x : Str), x ∉ l.map (·.1) → bindC kindOf l m x = m x
  | [], _, _, _ => rfl
  | (n, v) :: r, m, x, h => by
    unfold bindC
    rw [bindC_out r _ x (fun q => h (List.mem_cons_of_mem _ q))]
    split
    · rfl
    · exact if_neg (fun q : x = n => h (q ▸ List.mem_cons_self))
theorem bindC_in {kindOf : Str → Option NameKind} : ∀ (l : List (Str × Value)) (m : Str → Option Value) (x : Str) (v : Value), (l.map (·.1)).Nodup → l.lookup x = some v → kindOf x ≠ some .local → bindC kindOf l m x = some v
  | (n, u) :: r, m, x, v, nd, h, hk => by
    obtain ⟨h1, h2⟩ := List.nodup_cons.mp nd
    rw [List.lookup_cons] at h
    unfold bindC
    cases q : x == n with
    | true =>
      simp only [q] at h; cases h
      have e := eq_of_beq q; subst e
      rw [if_neg hk, bindC_out r _ x h1]; exact if_pos rfl
    | false =>
      simp only [q] at h
      exact bindC_in r _ x v h2 h hk

theorem zip_lookup : ∀ {ps : List Str} {vs : List Value} {ds : List D} {fz : Fz} {x : Str} {d : D}, Reps fz vs ds → (ps.zip ds).lookup x = some d → ∃ v, (ps.zip vs).lookup x = some v ∧ Rep fz v d
  | [], _, _, _, _, _, _, e => by simp at e
  | p :: ps, vs, [], _, _, _, _, e => by simp at e
  | p :: ps, vs, d' :: ds, fz, x, d, r, e => by
    unfold Reps at r
    obtain ⟨v, l, rfl, h1, h2⟩ := r
    rw [List.zip_cons_cons, List.lookup_cons] at e
    rw [List.zip_cons_cons, List.lookup_cons]
    cases q : x == p with
    | true => simp only [q] at e ⊢; cases e; exact ⟨v, rfl, h1⟩
    | false => simp only [q] at e ⊢; exact zip_lookup h2 e
theorem zip_names {ps : List Str} {vs : List Value} (h : vs.length = ps.length) : (ps.zip vs).map (·.1) = ps := List.map_fst_zip (by omega)

theorem enter_st {B : Bs} {nm qual : Str} {params : Arguments} {body : List Stmt} {scope : Scope} {doc pm cdv ct : Value} {an : Option Addr} {a : Addr} {ps : List Str} {ds : List D} {n : Nat} {A : Around} {s s₁ : Shared} {fz : Fz} {vs : List Value}
    (hlen : ps.length = ds.length) (hnd : ps.Nodup)
    (hkind : ∀ p ∈ ps, scope.names.lookup p = some .local ∨ (scope.names.lookup p = some .cell ∧ ∀ L, ((cellsFrom (L + 1) scope.names []).lookup p).isSome = true))
    (hcn : ((cellsFrom 0 scope.names []).map (·.1)).Nodup) (hk : scope.kind = .function) (rm : Room A (n + 1)) (g : G B fz s.heap) (r : Reps fz vs ds)
    (x : InCallC s (callEnvC (fnX nm qual params body scope [] .none .none doc pm an cdv ct) s.heap.objs.size a).locals (bindL (callEnvC (fnX nm qual params body scope [] .none .none doc pm an cdv ct) s.heap.objs.size a).kindOf (ps.zip vs) fun _ => none) (callEnvC (fnX nm qual params body scope [] .none .none doc pm an cdv ct) s.heap.objs.size a).cells
        (bindC (callEnvC (fnX nm qual params body scope [] .none .none doc pm an cdv ct) s.heap.objs.size a).kindOf (ps.zip vs) fun _ => none) s₁) :
    StF B (actOf (fnX nm qual params body scope [] .none .none doc pm an cdv ct) a A n s fz) (ps.zip ds) [] [] fz s₁ := by
  have hvl : vs.length = ds.length := r.length
  let K := actOf (fnX nm qual params body scope [] .none .none doc pm an cdv ct) a A n s fz
  have hcn' : ((cellsFrom (s.heap.objs.size + 1) scope.names []).map (·.1)).Nodup := cellsFrom_names scope.names 0 (s.heap.objs.size + 1) [] [] rfl ▸ hcn
  have hL : s.heap.objs.size < s₁.heap.objs.size := x.toInCall.ns.lt
  have hcell : ∀ c ∈ K.cells, s.heap.objs.size < c ∧ ∃ v, s₁.heap.IsCell c v := fun c hc => by
    obtain ⟨p, hp, rfl⟩ := List.mem_map.mp hc
    exact ⟨x.above p.1 p.2 hp, _, x.cell p.1 p.2 (lookup_of_mem_nodup hcn' hp)⟩
  have hmod : Mod B (· ∈ K.wr) s.heap s₁.heap := Mod.of_keep x.toInCall.keep (Nat.le_of_lt hL)
  have hnd2 : (ps.zip vs).map (·.1) = ps := zip_names (by omega)
  refine ⟨g.keeps fun b o _ e => x.toInCall.keep b o e, ?_, hmod, Grow.refl, ⟨_, x.toInCall.ns⟩, ?_, (fun _ h => nomatch h), (fun _ h => nomatch h), fun c hc => (hcell c hc).2, ?_, ?_, ?_, ?_, ?_, hk, rfl, rfl, ?_, fun _ h => nomatch h⟩
  · obtain ⟨h', t', e, _⟩ := x.done
    exact ⟨h', t', e⟩
  · intro y dy e
    obtain ⟨v, hv, hr⟩ := zip_lookup r e
    refine ⟨v, ?_, hr⟩
    have hyp : y ∈ ps := by
      have := mem_of_lookup e
      exact (List.of_mem_zip this).1
    rcases hkind y hyp with q | ⟨q, q2⟩
    · exact .inl ⟨q, _, x.toInCall.ns, bindL_in _ _ y v (by rw [hnd2]; exact hnd) hv q⟩
    · obtain ⟨c, hc⟩ := Option.isSome_iff_exists.mp (q2 s.heap.objs.size)
      refine .inr ⟨.inl q, c, hc, ?_⟩
      have hne : (callEnvC (fnX nm qual params body scope [] .none .none doc pm an cdv ct) s.heap.objs.size a).kindOf y ≠ some .local := by
        show scope.names.lookup y ≠ _; rw [q]; decide
      have := x.cell y c hc
      rw [bindC_in _ _ y v (by rw [hnd2]; exact hnd) hv hne] at this
      exact this
  · show (s.heap.objs.size :: (K.cells ++ [])).Nodup
    rw [List.append_nil]
    refine List.nodup_cons.mpr ⟨fun q => Nat.lt_irrefl _ (hcell _ q).1, ?_⟩
    have := x.apart
    refine List.Pairwise.map _ ?_ this
    intro p q hpq; exact hpq
  · intro b hb
    rcases List.mem_cons.mp hb with q | q
    · exact ⟨q ▸ g.none_of_le (Nat.le_refl _), q ▸ g.not_tab (Nat.le_refl _), q ▸ hL⟩
    · rw [List.map_nil, List.append_nil] at q
      have := hcell b q
      exact ⟨g.none_of_le (Nat.le_of_lt this.1), g.not_tab (Nat.le_of_lt this.1), this.2.choose_spec.lt⟩
  · intro b hb
    rcases List.mem_cons.mp hb with q | q
    · exact .inl (q ▸ Nat.le_refl _)
    · rw [List.map_nil, List.append_nil] at q
      exact .inl (Nat.le_of_lt (hcell b q).1)
  · exact fun y c hc => .inl (List.mem_map.mpr ⟨(y, c), mem_of_lookup hc, rfl⟩)
  · exact fun y z c hy hz _ => name_of_addr x.apart (mem_of_lookup hy) (mem_of_lookup hz)
  · exact ⟨rm.handled, by have := rm.depth; show A.depth + 1 + n < _; omega, by have := rm.units; show A.units + 3 + 4 * n + 64 < _; omega⟩

theorem FSpec.enter {B : Bs} {nm qual : Str} {params : Arguments} {body : List Stmt} {scope : Scope} {doc pm cdv ct : Value} {an : Option Addr} {fo : Obj} {a : Addr} {ps : List Str} {ds : List D} {d : D} {n : Nat}
    (hget : B.h₀.get? a = some fo) (hd : fo.data = .func (fnX nm qual params body scope [] .none .none doc pm an cdv ct)) (hcd : B.h₀.CodeRec cdv qual)
    (hbind : ∀ vs : List Value, vs.length = ds.length → bindArgs (fnX nm qual params body scope [] .none .none doc pm an cdv ct) ⟨vs, []⟩ = pure (ps.zip vs))
    (hlen : ps.length = ds.length) (hnd : ps.Nodup)
    (hkind : ∀ p ∈ ps, scope.names.lookup p = some .local ∨ (scope.names.lookup p = some .cell ∧ ∀ L, ((cellsFrom (L + 1) scope.names []).lookup p).isSome = true))
    (hcn : ((cellsFrom 0 scope.names []).map (·.1)).Nodup)
    (h : ∀ A s fz, Ex B (actOf (fnX nm qual params body scope [] .none .none doc pm an cdv ct) a A n s fz) (ps.zip ds) [] body (.ret d []))
    (hco : scope.isCoroutine = false := by rfl) (hgen : scope.isGenerator = false := by rfl) (hk : scope.kind = .function := by rfl) :
    FSpec B (n + 1) (.ref a) ds d := fun A fz s vs rm g r Q E hQ => by
  have hvl : vs.length = ds.length := r.length
  have up : ∀ b o, B.h₀.get? b = some o → s.heap.get? b = some o := fun b o e => g.sub b o (g.base b o e)
  refine wpAny_call (codeAny_call_cells (fd := fnX nm qual params body scope [] .none .none doc pm an cdv ct) (body := body) (by have := rm.depth; omega) (up _ _ hget) hd (g.ok.nolimit.keeps up) (hcd.keeps up) rfl (hbind vs hvl) rfl ?_ ?_ hco hgen hk)
  · intro x hx
    have hm : x.1 ∈ ps := (List.of_mem_zip (a := x.1) (b := x.2) hx).1
    exact (hkind x.1 hm).imp id fun q => ⟨q.1, q.2 _⟩
  · intro s₁ x
    have S := enter_st (body := body) (doc := doc) (pm := pm) (an := an) (cdv := cdv) (ct := ct) (a := a) hlen hnd hkind hcn hk rm g r x
    refine h A s fz [] [] s₁ ⟨fz, S⟩ _ _ fun fl s₂ o₂ m₂ => ?_
    obtain ⟨v, rfl, fz', S₂⟩ := o₂
    obtain ⟨h', t', e⟩ := S₂.rel
    have := hQ v fz' h' t' S₂.grow (by rw [e] at S₂; exact S₂.g) (S₂.tmp (v, d) (by simp)) (by have := S₂.mod; rw [e] at this; exact this.mono fun a q => nomatch q)
    rw [e]; exact this
end Mine

set_option Elab.async false
set_option maxRecDepth 100000
namespace Mine
open PySem PySem.W PySem.Calls PyProof.Rows

/-- a for loop, whatever its target -/
theorem forLoop_gen {prog : Program} {w : World} {A : Around} {s : Shared} {R : Result → Shared → Prop} {target it body env} (I : Nat → Shared → Prop)
    (turn : ∀ n s, I n s → ∀ E, wpAny (model prog w) A (pyNext it) (fun r s₁ => match r with
      | none => R (.ok .next) s₁
      | some v => wpAny (model prog w) A (letOwnedTupleGo target it v) (fun _ s₂ => wpAny (model prog w) A (assign target env v) (fun _ s₃ => wpAny (model prog w) A (execs body env) (fun f s₄ => match f with
          | .next | .cont => ∃ m, m < n ∧ I m s₄
          | .brk => R (.ok .next) s₄
          | .ret v => R (.ok (.ret v)) s₄) E s₃) E s₂) E s₁) E s)
    (n : Nat) (h : I n s) : codeAny (model prog w) A (.forLoop target it body [] env) R s := by
  refine codeAny_loop' rfl I (fun n s hI => ?_) n h
  show wpAny _ _ ((forTurn target it body [] env).onRaise (fun x => do noteFrame x env; theTreesLotGoes x)) _ _ s
  refine wpAny_noted ?_
  simp only [forTurn]
  refine wpAny_bind (wpAny_standAt (wpAny_bind (wpAny_onRaise (wpAny_mono (turn n s hI (notedBy (model prog w) A env fun e s' => R (.error e) s')) (fun r s₁ h₁ => ?_) fun _ _ h' => wpAny_standAt h'))))
  cases r with
  | none => exact wpAny_pure (.inr ⟨rfl, codeAny_block (wpAny_execs_nil h₁)⟩)
  | some v =>
    refine wpAny_bind (wpAny_mono h₁ (fun _ s₂ h₂ => wpAny_bind (wpAny_mono h₂ (fun _ s₃ h₃ => wpAny_bind (wpAny_mono h₃ (fun f s₄ h₄ => ?_) fun _ _ h' => h')) fun _ _ h' => h')) fun _ _ h' => h')
    cases f with
    | next => exact wpAny_pure (.inl ⟨rfl, h₄⟩)
    | cont => exact wpAny_pure (.inl ⟨rfl, h₄⟩)
    | brk => exact wpAny_pure h₄
    | ret v => exact wpAny_pure h₄

/-- the loop of a list comprehension, whatever its target -/
theorem compLoop_gen {prog : Program} {w : World} {A : Around} {s : Shared} {R : Result → Shared → Prop} {elt target iter : Expr} {ifs : List Expr} {scope : Scope} {pos : Pos} {it acc : Value} {env : Env} (I : Nat → Shared → Prop)
    (turn : ∀ n s, I n s → ∀ E, wpAny (model prog w) A (pyNext it) (fun r s₁ => match r with
      | none => R (.ok .next) s₁
      | some v => wpAny (model prog w) A (letOwnedTupleGo target it v) (fun _ s₁' => wpAny (model prog w) A (assign target env v) (fun _ s₂ =>
          wpAny (model prog w) A (forIn ifs true fun c r => if r = true then do let ok ← isTrue c env (eval c env); pure (ForInStep.yield ok) else pure (ForInStep.yield r)) (fun ok s₃ =>
            if ok = true then wpAny (model prog w) A (eval elt env) (fun x s₄ =>
              wpAny (model prog w) A (call (.builtin "list.append") [acc, x]) (fun _ s₅ => ∃ m, m < n ∧ I m s₅) E s₄) E s₃
            else ∃ m, m < n ∧ I m s₃) E s₂) E s₁') E s₁) E s)
    (n : Nat) (h : I n s) :
    codeAny (model prog w) A (.compLoop (.ListComp elt [⟨target, iter, ifs, 0⟩] scope pos) 0 it acc env) R s := by
  refine codeAny_loop rfl I (fun n s hI => ?_) n h
  show wpAny _ A ((compTurn (.ListComp elt [⟨target, iter, ifs, 0⟩] scope pos) 0 it acc env).onRaise (fun x => do noteFrame x env; theTreesLotGoes x)) _ _ s
  refine wpAny_noted ?_
  rw [compTurn_list]
  refine wpAny_bind (wpAny_standAt (wpAny_bind (wpAny_mono (turn n s hI _) (fun r s₁ h₁ => ?_) fun _ _ h' => h')))
  cases r with
  | none => exact wpAny_pure h₁
  | some v =>
    refine wpAny_bind (wpAny_mono h₁ (fun _ s₁' h₁' => ?_) fun _ _ h' => h')
    refine wpAny_bind (wpAny_mono h₁' (fun _ s₂ h₂ => wpAny_bind (wpAny_mono h₂ (fun ok s₃ h₃ => ?_) fun _ _ h' => h')) fun _ _ h' => h')
    cases ok with
    | false => exact wpAny_pure ⟨rfl, h₃⟩
    | true =>
      exact wpAny_bind (wpAny_bind (wpAny_mono h₃ (fun x s₄ h₄ => wpAny_bind (wpAny_mono h₄ (fun _ s₅ h₅ => wpAny_pure (wpAny_pure ⟨rfl, h₅⟩)) fun _ _ h' => h')) fun _ _ h' => h'))

/-- an iterator that hands out the data ds, one by one -/
structure Itr (B : Bs) (A : Around) (t : Expr) (it : Value) (wr fp : List Addr) (Sti : Nat → Heap → Prop) (vals : List D) (T : Tmp) : Prop where
  frame : ∀ i h h', Sti i h → (∀ b ∈ fp, ∀ o, h.get? b = some o → h'.get? b = some o) → Sti i h'
  fpOK : ∀ b ∈ fp, b ∈ wr ∨ ∃ d, (Value.ref b, d) ∈ T ∧ ((∃ ds, d = .list ds) ∨ ∃ ds, d = .tup ds)
  item : ∀ (i : Nat) (d : D) (s : Shared) (fz : Fz) (Q : Value → Shared → Prop) (E : Value → Shared → Prop), vals[i]? = some d → Sti i s.heap → G B fz s.heap → (∀ b ∈ wr, fz b = none ∧ ¬ isTab B b ∧ b < s.heap.objs.size) → (∀ p ∈ T, Rep fz p.1 p.2) →
    (∀ v fz' h' tk, Sti (i + 1) h' → Grow fz fz' s.heap → G B fz' h' → Rep fz' v d → Mod B (· ∈ wr) s.heap h' → Q v { s with heap := h', toks := tk }) →
    wpAny (model B.prog B.w) A (pyNext it) (fun r s₁ => match r with | none => False | some v => wpAny (model B.prog B.w) A (letOwnedTupleGo t it v) (fun _ s₂ => Q v s₂) E s₁) E s
  done : ∀ (s : Shared) (Q : Option Value → Shared → Prop) (E : Value → Shared → Prop), Sti vals.length s.heap → (∀ h' tk, (∀ b o, b ∉ wr → s.heap.get? b = some o → h'.get? b = some o) → Q none { s with heap := h', toks := tk }) → wpAny (model B.prog B.w) A (pyNext it) Q E s
  self : ∀ (i : Nat) (s : Shared) (Q : Value → Shared → Prop) (E : Value → Shared → Prop), Sti i s.heap → Q it s → wpAny (model B.prog B.w) A (pyIter it) Q E s

abbrev anys (wr : List Addr) : Own' := wr.map fun b => (b, Own.any)

/-- the source of a loop: evaluated, and its iterator made -/
def EvIt (B : Bs) (K : Act) (ρ : Rho) (O : Own') (t iter : Expr) (vals : List D) : Prop :=
  ∀ (F : Own') (T : Tmp) (s : Shared), St B K ρ (O ++ F) T s → ∀ (Q : Value → Shared → Prop) (E : Value → Shared → Prop), (∀ (it : Value) (wr fp : List Addr) (Sti : Nat → Heap → Prop) (T' : Tmp) (s₂ : Shared), Itr B K.A t it wr fp Sti vals T' → Sti 0 s₂.heap → (∀ p ∈ T, p ∈ T') → St B K ρ (O ++ (anys wr ++ F)) T' s₂ → Mod B No s.heap s₂.heap → (∀ b ∈ wr, s.heap.objs.size ≤ b) → Q it s₂) →
    wpAny (model B.prog B.w) K.A (eval iter K.env) (fun x s₁ => wpAny (model B.prog B.w) K.A (pyIter x) Q E s₁) E s

section
variable {B : Bs} {K : Act} {ρ ρ' : Rho} {O O' F : Own'} {T : Tmp} {fz : Fz} {s : Shared} {o : Out}

theorem St.subR (S : St B K ρ O T s) (h : ∀ x d, ρ'.lookup x = some d → ρ.lookup x = some d) : St B K ρ' O T s := let ⟨fz, x⟩ := S; ⟨fz, x.subR h⟩
/-- the places of an iterator are not the activation's -/
theorem fp_apart {wr fp : List Addr} (S : StF B K ρ (O ++ (anys wr ++ F)) T fz s) (h : ∀ b ∈ fp, b ∈ wr ∨ ∃ d, (Value.ref b, d) ∈ T ∧ ((∃ ds, d = .list ds) ∨ ∃ ds, d = .tup ds)) : ∀ b ∈ fp, ¬ Own.in K O b ∧ ¬ isTab B b := by
  intro b hb
  have hin : ∀ a, Own.in K O a → a ∈ owns K (O ++ (anys wr ++ F)) := fun a ha => by
    rcases List.mem_cons.mp ha with q | q
    · exact q ▸ List.mem_cons_self
    · rcases List.mem_append.mp q with q | q
      · exact List.mem_cons_of_mem _ (List.mem_append_left _ q)
      · exact List.mem_cons_of_mem _ (List.mem_append_right _ (by rw [List.map_append]; exact List.mem_append_left _ q))
  rcases h b hb with hw | ⟨d, hm, hd⟩
  · have hwm : b ∈ (anys wr ++ F).map (·.1) := by rw [List.map_append, List.map_map]; exact List.mem_append_left _ (List.mem_map.mpr ⟨b, hw, rfl⟩)
    have hmem : b ∈ owns K (O ++ (anys wr ++ F)) := List.mem_cons_of_mem _ (List.mem_append_right _ (by rw [List.map_append]; exact List.mem_append_right _ hwm))
    refine ⟨fun q => ?_, (S.off b hmem).2.1⟩
    have nd := List.nodup_cons.mp S.apart
    have nd2 := List.nodup_append.mp nd.2
    rw [List.map_append] at nd2
    have nd3 := List.nodup_append.mp nd2.2.1
    rcases List.mem_cons.mp q with q | q
    · exact nd.1 (q ▸ List.mem_append_right _ (by rw [List.map_append]; exact List.mem_append_right _ hwm))
    · rcases List.mem_append.mp q with q | q
      · exact nd2.2.2 b q b (List.mem_append_right _ hwm) rfl
      · exact nd3.2.2 b q b hwm rfl
  · have hr := S.tmp _ hm
    have hz : ∃ ob, fz b = some ob := by
      rcases hd with ⟨ds, rfl⟩ | ⟨ds, rfl⟩ <;> (unfold Rep at hr; obtain ⟨a, n, vs, e, e1, _⟩ := hr; cases e; exact ⟨_, e1⟩)
    obtain ⟨ob, hz⟩ := hz
    refine ⟨fun q => ?_, fun ⟨t, ht, e⟩ => ?_⟩
    · have := (S.off b (hin b q)).1; rw [hz] at this; cases this
    · have := S.g.off t ht; rw [← e, hz] at this; cases this

theorem Mod.keepFp {S : Addr → Prop} {h h' : Heap} {fp : List Addr} (m : Mod B S h h') (h1 : ∀ b ∈ fp, ¬ S b ∧ ¬ isTab B b) : ∀ b ∈ fp, ∀ o, h.get? b = some o → h'.get? b = some o :=
  fun b hb o e => m.keep b o (h1 b hb).1 (h1 b hb).2 e

/-- one draw of a loop -/
theorem draw {t : Expr} {it : Value} {wr fp : List Addr} {Sti : Nat → Heap → Prop} {vals : List D} {d : D} {T' : Tmp} (I : Itr B K.A t it wr fp Sti vals T') {i : Nat} (hi : vals[i]? = some d) (hst : Sti i s.heap) (S : St B K ρ (O ++ (anys wr ++ F)) T' s)
    (ha : Asg B K ρ t d ρ') {Q : Shared → Prop} {E : Value → Shared → Prop}
    (hQ : ∀ s', Sti (i + 1) s'.heap → St B K ρ' (O ++ (anys wr ++ F)) T' s' → Mod B (fun a => a ∈ wr ∨ Own.in K O a) s.heap s'.heap → Q s') :
    wpAny (model B.prog B.w) K.A (pyNext it) (fun r s₁ => match r with | none => False | some v => wpAny (model B.prog B.w) K.A (letOwnedTupleGo t it v) (fun _ s₂ => wpAny (model B.prog B.w) K.A (assign t K.env v) (fun _ s₃ => Q s₃) E s₂) E s₁) E s := by
  obtain ⟨fz, S⟩ := S
  have hwm : ∀ b ∈ wr, (b, Own.any) ∈ O ++ (anys wr ++ F) := fun b hb => List.mem_append_right _ (List.mem_append_left _ (List.mem_map.mpr ⟨b, hb, rfl⟩))
  have hwo : ∀ b ∈ wr, b ∈ owns K (O ++ (anys wr ++ F)) := fun b hb => List.mem_cons_of_mem _ (List.mem_append_right _ (List.mem_map_of_mem (hwm b hb)))
  refine I.item i d s fz (fun v s₂ => wpAny (model B.prog B.w) K.A (assign t K.env v) (fun _ s₃ => Q s₃) E s₂) E hi hst S.g (fun b hb => S.off b (hwo b hb)) S.tmp fun v fz' h' tk hst' gr g' r md => ?_
  have S' := (S.step (t' := tk) g' gr md (fun a ha => .inr (hwm a ha))).push r
  refine ha _ _ _ v ⟨fz', S'⟩ _ _ fun s₃ S₃ m₃ => ?_
  refine hQ s₃ ?_ (S₃.sub fun p hp => List.mem_cons_of_mem _ hp) ((md.mono fun a q => .inl (.inl q)).trans m₃ fun a q => .inl (.inr (own_nil q)))
  have hap := fp_apart S' (fun b hb => (I.fpOK b hb).imp id fun ⟨d, hm, hd⟩ => ⟨d, List.mem_cons_of_mem _ hm, hd⟩)
  exact I.frame _ _ _ hst' (m₃.keepFp fun b hb => ⟨fun q => (hap b hb).1 (own_nil q), (hap b hb).2⟩)

/-- the turns of a for loop -/
inductive Turns (B : Bs) (K : Act) (t : Expr) (body : List Stmt) : List D → Rho → Own' → Out → Prop
  | done {ρ O ρw} : (∀ x d, ρw.lookup x = some d → ρ.lookup x = some d) → Turns B K t body [] ρ O (.next ρw O)
  | next {d ds ρ O ρw ρ₀ ρ₁ O₁ o} : (∀ x d, ρw.lookup x = some d → ρ.lookup x = some d) → Asg B K ρw t d ρ₀ → Ex B K ρ₀ O body (.next ρ₁ O₁) → (∀ a ∈ O₁.map (·.1), a ∈ O.map (·.1)) →
      Turns B K t body ds ρ₁ O₁ o → Turns B K t body (d :: ds) ρ O o
  | ret {d ds ρ O ρw ρ₀ r O₁} : (∀ x d, ρw.lookup x = some d → ρ.lookup x = some d) → Asg B K ρw t d ρ₀ → Ex B K ρ₀ O body (.ret r O₁) → Turns B K t body (d :: ds) ρ O (.ret r O₁)

theorem St.dropF {wr : List Addr} (S : St B K ρ (O ++ (anys wr ++ F)) T s) : St B K ρ (O ++ F) T s := by
  obtain ⟨fz, S⟩ := S
  have hsub : ∀ a, a ∈ owns K (O ++ F) → a ∈ owns K (O ++ (anys wr ++ F)) := fun a ha => by
    rcases List.mem_cons.mp ha with q | q
    · exact q ▸ List.mem_cons_self
    · refine List.mem_cons_of_mem _ ?_
      rcases List.mem_append.mp q with q | q
      · exact List.mem_append_left _ q
      · refine List.mem_append_right _ ?_
        rw [List.map_append] at q ⊢
        rcases List.mem_append.mp q with q | q
        · exact List.mem_append_left _ q
        · exact List.mem_append_right _ (by rw [List.map_append]; exact List.mem_append_right _ q)
  refine ⟨fz, { S with own := fun p hp => S.own p ?_, apart := ?_, off := fun a ha => S.off a (hsub a ha), fresh := fun a ha => S.fresh a (hsub a ha) }⟩
  · rcases List.mem_append.mp hp with q | q
    · exact List.mem_append_left _ q
    · exact List.mem_append_right _ (List.mem_append_right _ q)
  · refine List.Nodup.sublist ?_ S.apart
    unfold owns
    refine List.Sublist.cons_cons _ (List.Sublist.append (List.Sublist.refl _) ?_)
    rw [List.map_append, List.map_append, List.map_append]
    exact List.Sublist.append (List.Sublist.refl _) (List.sublist_append_right _ _)

theorem drop_cons {α : Type} {l : List α} {i : Nat} {d : α} {r : List α} (h : d :: r = l.drop i) : l[i]? = some d ∧ r = l.drop (i + 1) ∧ i < l.length := by
  have h1 : l[i]? = some d := by rw [← List.head?_drop, ← h]; rfl
  have h2 : r = l.drop (i + 1) := by rw [← List.tail_drop, ← h]; rfl
  exact ⟨h1, h2, (List.getElem?_eq_some_iff.mp h1).1⟩

theorem Ex1.for {t iter : Expr} {body : List Stmt} {pos : Pos} {vals : List D} (hi : EvIt B K ρ O t iter vals) (ht : Turns B K t body vals ρ O o)
    (hs : ∀ x, foldedSetIterable iter K.env x = pure x := by intro _; rfl) : Ex1 B K ρ O (.For t iter body [] pos) o := fun F T s S Q E hQ => by
  refine wpAny_For (hi F T s S _ _ fun it wr fp Sti T' s₂ I hst hTT S₂ m₂ hwr => ?_) hs
  refine forLoop_gen (fun k s' => ∃ i rem ρ' O', rem = vals.drop i ∧ Turns B K t body rem ρ' O' o ∧ St B K ρ' (O' ++ (anys wr ++ F)) T' s' ∧ Sti i s'.heap ∧ i ≤ vals.length ∧ k = vals.length + 1 - i ∧ (∀ a ∈ O'.map (·.1), a ∈ O.map (·.1)) ∧ Mod B (fun a => a ∈ wr ∨ Own.in K O a) s₂.heap s'.heap) ?_ (vals.length + 1)
    ⟨0, vals, ρ, O, rfl, ht, S₂, hst, Nat.zero_le _, rfl, fun _ h => h, Mod.refl⟩
  rintro k s' ⟨i, rem, ρ', O', hrem, tr, S', hst', hin, rfl, hO, m'⟩ E'
  have fin : ∀ {s'' : Shared}, Mod B (fun a => a ∈ wr ∨ Own.in K O a) s₂.heap s''.heap → Mod B (Own.in K O) s.heap s''.heap := fun {s''} m => (mod_no m₂).trans m fun a q => q.elim (fun q => .inr (hwr a q)) .inl
  cases tr with
  | done hw =>
    have hlen : i = vals.length := by
      have := congrArg List.length hrem; simp at this; omega
    subst hlen
    refine with_size (I.done _ _ _ hst' fun h' tk hk hz => ?_)
    have md : Mod B (· ∈ wr) s'.heap h' := ⟨fun a ob h1 _ e => hk a ob h1 e, hz⟩
    obtain ⟨fz, S'⟩ := S'
    have hwo : ∀ b ∈ wr, fz b = none ∧ ¬ isTab B b := fun b hb => by
      have := S'.off b (List.mem_cons_of_mem _ (List.mem_append_right _ (List.mem_map_of_mem (List.mem_append_right O' (List.mem_append_left F (List.mem_map.mpr ⟨b, hb, rfl⟩ : (b, Own.any) ∈ anys wr))))))
      exact ⟨this.1, this.2.1⟩
    have g' : G B fz h' := S'.g.keeps fun b ob hb e => hk b ob (fun q => by rcases hb with z | z; rw [(hwo b q).1] at z; cases z; exact (hwo b q).2 z) e
    have S'' := S'.step (t' := tk) g' Grow.refl md (fun a ha => .inr (List.mem_append_right _ (List.mem_append_left _ (List.mem_map.mpr ⟨a, ha, rfl⟩))))
    exact hQ .next _ ⟨rfl, (St.dropF ⟨fz, S''.subR hw⟩).sub hTT⟩ (fin (m'.trans md fun a q => .inl (.inl q)))
  | next hw ha he hO1 tr' =>
    obtain ⟨hd, hr', hlt⟩ := drop_cons hrem
    have S'' := S'.subR hw
    refine wpAny_mono (draw I hd hst' S'' ha (Q := ?q) (E := E') ?a) ?b fun _ _ e => e
    case b =>
      intro r s₁ h₁
      cases r with
      | none => exact h₁.elim
      | some v => exact h₁
    case a =>
      intro s₃ hst₃ S₃ m₃
      refine he _ _ s₃ S₃ _ _ fun fl s₄ o₄ m₄ => ?_
      obtain ⟨rfl, S₄⟩ := o₄
      refine ⟨vals.length + 1 - (i + 1), by omega, i + 1, _, _, _, hr', tr', S₄, ?_, hlt, rfl, fun a ha => hO a (hO1 a ha), ?_⟩
      · obtain ⟨fz₃, S₃⟩ := S₃
        exact I.frame _ _ _ hst₃ (m₄.keepFp (fp_apart S₃ I.fpOK))
      · exact (m'.trans m₃ fun a q => .inl (q.imp id (own_mono hO))).trans m₄ fun a q => .inl (.inr (own_mono hO q))
  | ret hw ha he =>
    obtain ⟨hd, hr', hlt⟩ := drop_cons hrem
    have S'' := S'.subR hw
    refine wpAny_mono (draw I hd hst' S'' ha (Q := ?q2) (E := E') ?a2) ?b2 fun _ _ e => e
    case b2 =>
      intro r s₁ h₁
      cases r with
      | none => exact h₁.elim
      | some v => exact h₁
    case a2 =>
      intro s₃ hst₃ S₃ m₃
      refine he _ _ s₃ S₃ _ _ fun fl s₄ o₄ m₄ => ?_
      obtain ⟨v, rfl, S₄⟩ := o₄
      refine hQ _ s₄ ⟨v, rfl, ?_⟩ (fin ((m'.trans m₃ fun a q => .inl (q.imp id (own_mono hO))).trans m₄ fun a q => .inl (.inr (own_mono hO q))))
      exact (St.dropF S₄).sub fun p hp => by
        rcases List.mem_cons.mp hp with h | h
        · exact h ▸ List.mem_cons_self
        · exact List.mem_cons_of_mem _ (hTT p h)
end
end Mine

set_option Elab.async false
set_option maxRecDepth 100000
namespace Mine
open PySem PySem.W PySem.Calls PyProof.Rows

/-- what a comprehension's block captures -/
def closOf (env : Env) : List (Str × NameKind) → List (Str × Addr) → List (Str × Addr)
  | [], acc => acc
  | (n, k) :: r, acc => closOf env r (if k == .free then (n, (env.cells.lookup n).getD 0) :: acc else acc)

theorem closureFor_eq {env : Env} : ∀ (names : List (Str × NameKind)) (acc : List (Str × Addr)), (∀ x ∈ names, x.2 = .free → (env.cells.lookup x.1).isSome = true) →
    (forIn names acc fun (x : Str × NameKind) (r : List (Str × Addr)) => if (x.2 == NameKind.free) = true then do let a ← cellOf env x.1; pure (ForInStep.yield ((x.1, a) :: r)) else pure (ForInStep.yield r) : Sem _) = pure (closOf env names acc)
  | [], acc, _ => rfl
  | (n, k) :: r, acc, h => by
    rw [List.forIn_cons]
    unfold closOf
    by_cases hk : (k == NameKind.free) = true
    · obtain ⟨c, hc⟩ := Option.isSome_iff_exists.mp (h (n, k) List.mem_cons_self (eq_of_beq hk))
      have hc' : env.cells.lookup n = some c := hc
      simp only [hk, if_true, hc', Option.getD_some]
      have e : cellOf env n = pure c := by unfold cellOf; rw [hc']
      rw [e]
      exact closureFor_eq r _ fun x hx => h x (List.mem_cons_of_mem _ hx)
    · simp only [hk]
      exact closureFor_eq r _ fun x hx => h x (List.mem_cons_of_mem _ hx)
theorem closure_pure {env : Env} {scope : Scope} (h : ∀ x ∈ scope.names, x.2 = .free → (env.cells.lookup x.1).isSome = true) : closureFor scope env = pure (closOf env scope.names []) := by
  have := closureFor_eq scope.names [] h
  show ((forIn scope.names [] fun (x : Str × NameKind) (r : List (Str × Addr)) => if (x.2 == NameKind.free) = true then do let a ← cellOf env x.1; pure (ForInStep.yield ((x.1, a) :: r)) else pure (ForInStep.yield r) : Sem _) >>= fun r => pure r) = _
  rw [this]
  rfl

theorem closOf_mem {env : Env} : ∀ {names : List (Str × NameKind)} {acc : List (Str × Addr)} {n : Str} {c : Addr}, (∀ x ∈ names, x.2 = .free → (env.cells.lookup x.1).isSome = true) → (n, c) ∈ closOf env names acc → (n, c) ∈ acc ∨ env.cells.lookup n = some c
  | [], _, _, _, _, h => .inl h
  | (m, k) :: r, acc, n, c, hs, h => by
    unfold closOf at h
    rcases closOf_mem (fun x hx => hs x (List.mem_cons_of_mem _ hx)) h with q | q
    · by_cases hk : (k == NameKind.free) = true
      · rw [if_pos hk] at q
        rcases List.mem_cons.mp q with q | q
        · cases q
          obtain ⟨c', hc'⟩ := Option.isSome_iff_exists.mp (hs (m, k) List.mem_cons_self (eq_of_beq hk))
          have hc'' : env.cells.lookup m = some c' := hc'
          rw [hc'']; exact .inr rfl
        · exact .inl q
      · rw [if_neg hk] at q; exact .inl q
    · exact .inr q

theorem closOf_out {env : Env} : ∀ {names : List (Str × NameKind)} {acc : List (Str × Addr)} {x : Str}, x ∉ names.map (·.1) → (closOf env names acc).lookup x = acc.lookup x
  | [], _, _, _ => rfl
  | (m, k) :: r, acc, x, h => by
    unfold closOf
    rw [closOf_out (fun q => h (List.mem_cons_of_mem _ q))]
    split
    · rw [List.lookup_cons]
      have : (x == m) = false := by simpa using fun q : x = m => h (q ▸ List.mem_cons_self)
      rw [this]
    · rfl
theorem closOf_in {env : Env} {c : Addr} {x : Str} (hc : env.cells.lookup x = some c) : ∀ {names : List (Str × NameKind)} {acc : List (Str × Addr)}, (names.map (·.1)).Nodup → names.lookup x = some .free → (closOf env names acc).lookup x = some c
  | (m, k) :: r, acc, nd, h => by
    obtain ⟨h1, h2⟩ := List.nodup_cons.mp nd
    rw [List.lookup_cons] at h
    unfold closOf
    cases q : x == m with
    | true =>
      simp only [q] at h; cases h
      have e := eq_of_beq q; subst e
      rw [closOf_out h1]
      simp [hc]
    | false =>
      simp only [q] at h
      exact closOf_in hc h2 h

theorem cellsFrom_split : ∀ (names : List (Str × NameKind)) (n : Nat) (acc : List (Str × Addr)), cellsFrom n names acc = cellsFrom n names [] ++ acc
  | [], _, _ => rfl
  | (m, k) :: r, n, acc => by
    unfold cellsFrom
    split
    · rw [cellsFrom_split r (n + 1) ((m, n) :: acc), cellsFrom_split r (n + 1) [(m, n)], List.append_assoc]; rfl
    · exact cellsFrom_split r n acc
theorem cellsFrom_mem : ∀ {names : List (Str × NameKind)} {n : Nat} {x : Str} {c : Addr}, (x, c) ∈ cellsFrom n names [] → (x, NameKind.cell) ∈ names ∧ n ≤ c
  | [], _, _, _, h => nomatch h
  | (m, k) :: r, n, x, c, h => by
    unfold cellsFrom at h
    split at h
    · rename_i hk
      rw [cellsFrom_split] at h
      rcases List.mem_append.mp h with h | h
      · have := cellsFrom_mem h
        exact ⟨List.mem_cons_of_mem _ this.1, by omega⟩
      · have e := List.mem_singleton.mp h
        cases e
        rw [eq_of_beq hk]
        exact ⟨List.mem_cons_self, Nat.le_refl _⟩
    · have := cellsFrom_mem h
      exact ⟨List.mem_cons_of_mem _ this.1, this.2⟩

theorem lookup_map_kind {f : Str → NameKind → NameKind} : ∀ {names : List (Str × NameKind)} {x : Str} {k : NameKind}, names.lookup x = some k → (names.map fun (n, k) => (n, f n k)).lookup x = some (f x k)
  | (m, k') :: r, x, k, h => by
    rw [List.lookup_cons] at h
    rw [List.map_cons, List.lookup_cons]
    cases q : x == m with
    | true => simp only [q] at h ⊢; cases h; rw [eq_of_beq q]
    | false => simp only [q] at h ⊢; exact lookup_map_kind h
theorem relabel_names (scope : Scope) (env : Env) : (relabel scope env).names = scope.names.map fun (n, k) => (n, if (k == .free && env.scope.kind == .function && env.kindOf n == some .cell) = true then NameKind.cell else k) := by
  unfold relabel
  dsimp only
  congr 1
  funext ⟨n, k⟩
  dsimp only
  split <;> rfl

/-- the activation of a comprehension's block -/
def compAct (K : Act) (scope : Scope) (L : Addr) (s₀ : Shared) (fz₀ : Fz) (wr : List Addr) (ro : List (Addr × List Value × Nat × List D)) : Act where
  A := K.A
  env := { scope := relabel scope K.env, locals := L, globals := K.env.globals, cells := cellsFrom (L + 1) scope.names (closOf K.env scope.names []), qual := K.env.qual, func := none, code := K.env.code, frame := K.env.frame, builtins := K.env.builtins }
  cells := (cellsFrom (L + 1) scope.names []).map (·.2)
  n := K.n
  s₀ := s₀
  fz₀ := fz₀
  wr := wr
  ro := ro

/-- the tests of a comprehension -/
def Etests (B : Bs) (K : Act) (ρ : Rho) (O : Own') (ifs : List Expr) (b : Bool) : Prop :=
  ∀ F T s, St B K ρ (O ++ F) T s → ∀ Q E, (∀ s', St B K ρ (O ++ F) T s' → Mod B No s.heap s'.heap → Q b s') →
    wpAny (model B.prog B.w) K.A (forIn ifs true fun c r => if r = true then do let ok ← isTrue c K.env (eval c K.env); pure (ForInStep.yield ok) else pure (ForInStep.yield r)) Q E s

section
variable {B : Bs} {K : Act} {ρ ρ' : Rho} {O O' F : Own'} {T : Tmp} {fz : Fz} {s : Shared} {o : Out}
theorem Etests.nil : Etests B K ρ O [] true := fun _ _ s S _ _ hQ => wpAny_tests_nil (hQ s S Mod.refl)
theorem Etests.one {c : Expr} {b : Bool} (h : Et B K ρ O c b) : Etests B K ρ O [c] b := fun F T s S Q E hQ => wpAny_tests_one (h F T s S Q E hQ)

/-- the block of a comprehension begins -/
theorem comp_env {scope : Scope} {cl : List (Str × Addr)} {env : Env} {Q : Env → Shared → Prop} {E : Value → Shared → Prop} {M : Model} {A : Around}
    (h : Q { scope := scope, locals := s.heap.objs.size, globals := env.globals, cells := cellsFrom (s.heap.objs.size + 1) scope.names cl, qual := env.qual, func := none, code := env.code, frame := env.frame, builtins := env.builtins }
      { s with heap := pushCells (s.heap.push { cls := .type "dict", data := .dict #[] }) scope.names }) :
    wpAny M A (newFunctionEnv scope env.globals cl [] env.qual none .none (some env)) Q E s := by
  simp only [newFunctionEnv, Option.isSome_some, if_true]
  refine wpAny_bind (wpAny_alloc ?_)
  refine wpAny_bind (wpAny_layCells _ (fun name kind cells => by cases hkc : kind == NameKind.cell <;> simp [hkc]) _ _ _ _ ?_)
  rw [show ({ s with heap := s.heap.push { cls := .type "dict", data := .dict #[] } } : Shared).heap.objs.size = s.heap.objs.size + 1 from Heap.size_push ..]
  refine wpAny_bind ?_
  rw [List.forIn_nil]
  exact wpAny_pure (wpAny_pure h)

theorem pushCells_size : ∀ (names : List (Str × NameKind)) (h : Heap), h.objs.size ≤ (pushCells h names).objs.size
  | [], _ => Nat.le_refl _
  | (_, k) :: r, h => by
    unfold pushCells
    split
    · exact Nat.le_trans (by rw [Heap.size_push]; omega) (pushCells_size r _)
    · exact pushCells_size r h
end
end Mine

set_option Elab.async false
set_option maxRecDepth 100000
namespace Mine
open PySem PySem.W PySem.Calls PyProof.Rows

/-- the turns of a comprehension: what it takes, what it gives -/
inductive CT (B : Bs) (K : Act) (ρ : Rho) (t : Expr) (ifs : List Expr) (elt : Expr) : List D → List D → Prop
  | nil : CT B K ρ t ifs elt [] []
  | take {d ds e rs ρ₀} : Asg B K ρ t d ρ₀ → (∀ x d, ρ.lookup x = some d → ρ₀.lookup x = some d) → Etests B K ρ₀ [] ifs true → Ev B K ρ₀ [] elt e → CT B K ρ t ifs elt ds rs → CT B K ρ t ifs elt (d :: ds) (e :: rs)
  | skip {d ds rs ρ₀} : Asg B K ρ t d ρ₀ → (∀ x d, ρ.lookup x = some d → ρ₀.lookup x = some d) → Etests B K ρ₀ [] ifs false → CT B K ρ t ifs elt ds rs → CT B K ρ t ifs elt (d :: ds) rs

theorem lookup_of_mem_nd {α : Type} : ∀ {l : List (Str × α)} {n : Str} {c : α}, (l.map (·.1)).Nodup → (n, c) ∈ l → l.lookup n = some c
  | p :: r, n, c, nd, h => by
    obtain ⟨h1, h2⟩ := List.nodup_cons.mp nd
    rw [List.lookup_cons]
    rcases List.mem_cons.mp h with q | q
    · rw [← q]; simp
    · cases z : n == p.1 with
      | true => exact absurd (List.mem_map.mpr ⟨_, q, eq_of_beq z⟩) h1
      | false => exact lookup_of_mem_nd h2 q

section
variable {B : Bs} {K : Act} {ρ ρ' : Rho} {O O' F : Own'} {T : Tmp} {fz : Fz} {s : Shared} {o : Out}

theorem StF.addAny {a : Addr} (S : StF B K ρ O T fz s) (h1 : a ∉ owns K O) (h2 : fz a = none) (h3 : ¬ isTab B a) (h4 : a < s.heap.objs.size) (h5 : K.s₀.heap.objs.size ≤ a) : StF B K ρ ((a, .any) :: O) T fz s := by
  have mem : ∀ b, b ∈ owns K ((a, Own.any) :: O) → b = a ∨ b ∈ owns K O := fun b hb => by
    rcases List.mem_cons.mp hb with h | h
    · exact .inr (h ▸ List.mem_cons_self)
    · rcases List.mem_append.mp h with h | h
      · exact .inr (List.mem_cons_of_mem _ (List.mem_append_left _ h))
      · rcases List.mem_cons.mp h with h | h
        · exact .inl h
        · exact .inr (List.mem_cons_of_mem _ (List.mem_append_right _ h))
  refine { S with own := ?_, apart := ?_, off := ?_, fresh := ?_ }
  · intro p hp
    rcases List.mem_cons.mp hp with rfl | hp
    · trivial
    · exact S.own p hp
  · have nd := S.apart
    unfold owns at nd h1 ⊢
    rw [List.map_cons]
    have h6 := List.nodup_cons.mp nd
    have h7 := List.nodup_append.mp h6.2
    refine List.nodup_cons.mpr ⟨fun q => ?_, List.nodup_append.mpr ⟨h7.1, List.nodup_cons.mpr ⟨fun q => ?_, h7.2.1⟩, fun x hx y hy e => ?_⟩⟩
    · rcases List.mem_append.mp q with q | q
      · exact h6.1 (List.mem_append_left _ q)
      · rcases List.mem_cons.mp q with q | q
        · exact h1 (q ▸ List.mem_cons_self)
        · exact h6.1 (List.mem_append_right _ q)
    · exact h1 (List.mem_cons_of_mem _ (List.mem_append_right _ q))
    · rcases List.mem_cons.mp hy with hy | hy
      · exact h1 (List.mem_cons_of_mem _ (List.mem_append_left _ (by have hy' : y = a := hy; rw [← hy', ← e]; exact hx)))
      · exact h7.2.2 x hx y hy e
  · intro b hb
    rcases mem b hb with h | h
    · exact h ▸ ⟨h2, h3, h4⟩
    · exact S.off b h
  · intro b hb
    rcases mem b hb with h | h
    · exact .inl (h ▸ h5)
    · exact S.fresh b h

theorem pick_ro {P : Addr × List D → List Value → Nat → Prop} : ∀ {Oc : List (Addr × List D)}, (∀ p ∈ Oc, ∃ vs n, P p vs n) → ∃ ro : List (Addr × List Value × Nat × List D), (ro.map fun r => (r.1, r.2.2.2)) = Oc ∧ ∀ r ∈ ro, P (r.1, r.2.2.2) r.2.1 r.2.2.1
  | [], _ => ⟨[], rfl, fun _ h => nomatch h⟩
  | p :: r, h => by
    obtain ⟨ro, e, h'⟩ := pick_ro fun q hq => h q (List.mem_cons_of_mem _ hq)
    obtain ⟨vs, n, hp⟩ := h p List.mem_cons_self
    exact ⟨(p.1, vs, n, p.2) :: ro, by simp [e], fun q hq => (List.mem_cons.mp hq).elim (fun z => by rw [z]; exact hp) (h' q)⟩

theorem comp_core {t elt iter : Expr} {ifs : List Expr} {scope : Scope} {pos : Pos} {it : Value} {wr fp : List Addr} {Sti : Nat → Heap → Prop} {vals rs : List D} {ρc : Rho} {fz₂ : Fz} {s₂ : Shared} {RR : Value → Addr → Result → Shared → Prop} {E : Value → Shared → Prop}
    (I : Itr B K.A t it wr fp Sti vals T) (hst : Sti 0 s₂.heap) (S₂ : StF B K ρ (O ++ (anys wr ++ F)) T fz₂ s₂)
    (hcl : ∀ x ∈ scope.names, x.2 = .free → (K.env.cells.lookup x.1).isSome = true) (hkind : scope.kind = .function) (hnd : (scope.names.map (·.1)).Nodup)
    (hcap : ∀ p ∈ ρc, ρ.lookup p.1 = some p.2 ∧ scope.names.lookup p.1 = some .free ∧ K.env.kindOf p.1 ≠ some .local)
    {Oc : List (Addr × List D)} (hOc : ∀ p ∈ Oc, (p.1, Own.lst p.2) ∈ O)
    (hct : ∀ L s₀ fz₀ wr ro, (ro.map fun r => (r.1, r.2.2.2)) = Oc → CT B (compAct K scope L s₀ fz₀ wr ro) ρc t ifs elt vals rs) (hsz : vals.length ≤ sizeLine)
    (hRR : ∀ D L fz_f s_e, StF B K ρ (O ++ (anys wr ++ F)) ((.ref D, .list rs) :: T) fz_f s_e → s₂.heap.objs.size ≤ L → L < s_e.heap.objs.size → fz_f L = none → (∃ m, s_e.heap.Ns L m) → Mod B (· ∈ wr) s₂.heap s_e.heap → RR (.ref D) L (.ok .next) s_e) :
    wpAny (model B.prog B.w) K.A (newList []) (fun acc s₃ => wpAny (model B.prog B.w) K.A (newFunctionEnv scope K.env.globals (closOf K.env scope.names []) [] K.env.qual none .none (some K.env)) (fun cenv s₄ =>
      codeAny (model B.prog B.w) K.A (.compStart (.ListComp elt [⟨t, iter, ifs, 0⟩] scope pos) 0 it acc { cenv with scope := relabel scope K.env }) (RR acc cenv.locals) s₄) E s₃) E s₂ := by
  refine wpAny_newObj_type (comp_env ?_)
  dsimp only
  generalize hH2 : s₂.heap.push { cls := .type "list", dict := none, data := .seq ([] : List Value).toArray } = H2
  have hL : H2.objs.size = s₂.heap.objs.size + 1 := by rw [← hH2, Heap.size_push]
  generalize hH3 : H2.push { cls := .type "dict", data := .dict #[] } = H3
  have hH3s : H3.objs.size = H2.objs.size + 1 := by rw [← hH3, Heap.size_push]
  generalize hH4 : pushCells H3 scope.names = H4
  have hH4s : H3.objs.size ≤ H4.objs.size := hH4 ▸ pushCells_size _ _
  have k34 : ∀ b ob, H3.get? b = some ob → H4.get? b = some ob := fun b ob e => hH4 ▸ pushCells_keeps _ _ b ob e
  have k23 : ∀ b ob, H2.get? b = some ob → H3.get? b = some ob := fun b ob e => hH3 ▸ Heap.get?_push_of_some _ e
  have k12 : ∀ b ob, s₂.heap.get? b = some ob → H2.get? b = some ob := fun b ob e => hH2 ▸ Heap.get?_push_of_some _ e
  have old : ∀ b ob, s₂.heap.get? b = some ob → H4.get? b = some ob := fun b ob e => k34 _ _ (k23 _ _ (k12 _ _ e))
  have ok := cellsFrom_ok scope.names H3 (H2.objs.size + 1) [] ⟨fun _ _ hm => (nomatch hm), List.Pairwise.nil⟩ (by rw [hH3s]; exact Nat.le_refl _)
  rw [hH3s, hH4] at ok
  obtain ⟨ro, hro, hroP⟩ := pick_ro (P := fun p vs n => s₂.heap.get? p.1 = some (lstObj vs n) ∧ Reps fz₂ vs p.2 ∧ (p.1, Own.lst p.2) ∈ O) (Oc := Oc) fun p hp => by
    obtain ⟨vs, n, h1, h2⟩ := S₂.own _ (List.mem_append_left _ (hOc p hp))
    exact ⟨vs, n, h1, h2, hOc p hp⟩
  let K' := compAct K scope H2.objs.size s₂ fz₂ wr ro
  have hwo : ∀ b ∈ wr, b ∈ owns K (O ++ (anys wr ++ F)) := fun b hb => List.mem_cons_of_mem _ (List.mem_append_right _ (List.mem_map_of_mem (f := Prod.fst) (List.mem_append_right O (List.mem_append_left F (List.mem_map.mpr ⟨b, hb, rfl⟩ : (b, Own.any) ∈ anys wr)))))
  have hwlt : ∀ b ∈ wr, b < s₂.heap.objs.size := fun b hb => (S₂.off b (hwo b hb)).2.2
  have hcell : ∀ c ∈ K'.cells, H2.objs.size < c ∧ H4.IsCell c none := fun c hc => by
    obtain ⟨p, hp, rfl⟩ := List.mem_map.mp hc
    have := ok.empty p.1 p.2 hp
    exact ⟨this.2, this.1⟩
  have hclos : ∀ x c, (x, c) ∈ closOf K.env scope.names [] → K.env.cells.lookup x = some c ∧ c < s₂.heap.objs.size ∧ c ∉ wr := fun x c hm => by
    rcases closOf_mem hcl hm with q | q
    · cases q
    · refine ⟨q, ?_⟩
      rcases S₂.capt x c q with h | ⟨h, h'⟩
      · have hin : c ∈ owns K (O ++ (anys wr ++ F)) := List.mem_cons_of_mem _ (List.mem_append_left _ h)
        refine ⟨(S₂.off c hin).2.2, fun hw => ?_⟩
        have nd := List.nodup_append.mp (List.nodup_cons.mp S₂.apart).2
        exact nd.2.2 c h c (List.mem_map_of_mem (f := Prod.fst) (List.mem_append_right O (List.mem_append_left F (List.mem_map.mpr ⟨c, hw, rfl⟩ : (c, Own.any) ∈ anys wr)))) rfl
      · refine ⟨Nat.lt_of_lt_of_le h S₂.mod.size, fun hw => ?_⟩
        rcases S₂.fresh c (hwo c hw) with z | z
        · exact absurd h (Nat.not_lt.mpr z)
        · exact h' z
  have hlookO : ∀ x c, K'.env.cells.lookup x = some c → (x, c) ∈ cellsFrom (H2.objs.size + 1) scope.names [] ∨ (x, c) ∈ closOf K.env scope.names [] := fun x c hc => by
    have := mem_of_lookup hc
    show _ ∨ _
    have e : K'.env.cells = cellsFrom (H2.objs.size + 1) scope.names [] ++ closOf K.env scope.names [] := cellsFrom_split _ _ _
    rw [e] at this
    exact List.mem_append.mp this
  have S₄ : StF B K' ρc ([(s₂.heap.objs.size, .lst [])] ++ (anys wr ++ [])) T fz₂ { s₂ with heap := H4 } := by
    have hgD : H4.get? s₂.heap.objs.size = some (lstObj [] 0) := k34 _ _ (k23 _ _ (hH2 ▸ Heap.get?_push_size _ rfl))
    have hDlt : s₂.heap.objs.size < H4.objs.size := Heap.lt_size hgD
    refine ⟨S₂.g.keeps fun b ob _ e => old b ob e, ⟨H4, s₂.toks, rfl⟩, Mod.of_keep old (Nat.le_of_lt hDlt), Grow.refl, ?_, ?_, ?_, S₂.tmp, fun c hc => ⟨none, (hcell c hc).2⟩, ?_, ?_, ?_, ?_, ?_, ?_, S₂.glob, S₂.blt, S₂.room, ?_⟩
    · exact ⟨_, ((hH3 ▸ Heap.Ns.new H2 (.type "dict") : H3.Ns H2.objs.size fun _ => none)).keeps k34⟩
    · intro x d e
      have hm := mem_of_lookup e
      obtain ⟨h1, h2, h3⟩ := hcap _ hm
      obtain ⟨v, hv, hr⟩ := S₂.var x d h1
      refine ⟨v, ?_, hr⟩
      rcases hv with ⟨k, _⟩ | ⟨_, c, hc, hv⟩
      · exact absurd k h3
      · have hk' : K'.env.kindOf x = some .cell ∨ K'.env.kindOf x = some .free := by
          show (relabel scope K.env).names.lookup x = _ ∨ (relabel scope K.env).names.lookup x = _
          rw [relabel_names, lookup_map_kind (f := fun n k => if (k == .free && K.env.scope.kind == .function && K.env.kindOf n == some .cell) = true then NameKind.cell else k) h2]
          split
          · exact .inl rfl
          · exact .inr rfl
        refine .inr ⟨hk', c, ?_, hv.keeps old⟩
        show (cellsFrom (H2.objs.size + 1) scope.names (closOf K.env scope.names [])).lookup x = some c
        rw [cellsFrom_split, List.lookup_append, closOf_in hc hnd h2]
        have : (cellsFrom (H2.objs.size + 1) scope.names []).lookup x = none := by
          cases q : (cellsFrom (H2.objs.size + 1) scope.names []).lookup x with
          | none => rfl
          | some c' =>
            have := (cellsFrom_mem (mem_of_lookup q)).1
            have e2 := lookup_of_mem_nd hnd this
            rw [h2] at e2; cases e2
        rw [this]; rfl
    · intro p hp
      rcases List.mem_append.mp hp with hp | hp
      · rw [List.mem_singleton.mp hp]; exact ⟨[], 0, hgD, Reps.nil⟩
      · rw [List.append_nil] at hp
        obtain ⟨b, hb, rfl⟩ := List.mem_map.mp hp; trivial
    · show (H2.objs.size :: (K'.cells ++ (s₂.heap.objs.size :: ((anys wr ++ []).map (fun p : Addr × Own => p.1))))).Nodup
      have ew : (anys wr ++ []).map (fun p : Addr × Own => p.1) = wr := by simp [anys, List.map_map, Function.comp_def]
      rw [ew]
      have ndw : wr.Nodup := by
        have nd := List.nodup_append.mp (List.nodup_cons.mp S₂.apart).2
        have n2 := nd.2.1
        rw [List.map_append, List.map_append] at n2
        have n3 := (List.nodup_append.mp (List.nodup_append.mp n2).2.1).1
        simpa [anys, List.map_map, Function.comp_def] using n3
      refine List.nodup_cons.mpr ⟨fun q => ?_, List.nodup_append.mpr ⟨?_, List.nodup_cons.mpr ⟨fun q => Nat.lt_irrefl _ (hwlt _ q), ndw⟩, fun x hx y hy e => ?_⟩⟩
      · rcases List.mem_append.mp q with q | q
        · exact Nat.lt_irrefl _ (hcell _ q).1
        · rcases List.mem_cons.mp q with q | q
          · rw [hL] at q; exact absurd q (Nat.succ_ne_self _)
          · have h9 := hwlt _ q; rw [hL] at h9; exact absurd (Nat.lt_of_succ_lt h9) (Nat.lt_irrefl _)
      · refine List.Pairwise.map _ ?_ ok.apart
        intro p q hpq; exact hpq
      · have h1 := (hcell x hx).1
        rw [hL] at h1
        rcases List.mem_cons.mp hy with hy | hy
        · rw [e, hy] at h1; omega
        · have h9 := hwlt _ hy; rw [e] at h1; exact absurd h9 (Nat.not_lt.mpr (Nat.le_of_lt (Nat.lt_of_succ_lt h1)))
    · intro b hb
      rcases List.mem_cons.mp hb with q | q
      · rw [q]; exact ⟨S₂.g.none_of_le (by show _ ≤ H2.objs.size; rw [hL]; omega), S₂.g.not_tab (by show _ ≤ H2.objs.size; rw [hL]; omega), by show H2.objs.size < H4.objs.size; omega⟩
      · rcases List.mem_append.mp q with q | q
        · have := hcell b q
          have hle : s₂.heap.objs.size ≤ b := by have := this.1; rw [hL] at this; omega
          exact ⟨S₂.g.none_of_le hle, S₂.g.not_tab hle, this.2.lt⟩
        · rw [List.map_append] at q
          rcases List.mem_append.mp q with q | q
          · have q := List.mem_singleton.mp q; rw [q]
            exact ⟨S₂.g.none_of_le (Nat.le_refl _), S₂.g.not_tab (Nat.le_refl _), hDlt⟩
          · have hbw : b ∈ wr := by simpa [anys, List.map_map, Function.comp_def] using q
            have := S₂.off b (hwo b hbw)
            exact ⟨this.1, this.2.1, Nat.lt_trans this.2.2 hDlt⟩
    · intro b hb
      rcases List.mem_cons.mp hb with q | q
      · exact .inl (by rw [q]; show _ ≤ H2.objs.size; rw [hL]; show s₂.heap.objs.size ≤ _; omega)
      · rcases List.mem_append.mp q with q | q
        · have := (hcell b q).1
          exact .inl (by show s₂.heap.objs.size ≤ b; omega)
        · rw [List.map_append] at q
          rcases List.mem_append.mp q with q | q
          · have q := List.mem_singleton.mp q; exact .inl (by rw [q]; exact Nat.le_refl _)
          · exact .inr (show b ∈ wr by simpa [anys, List.map_map, Function.comp_def] using q)
    · intro x c hc
      rcases hlookO x c hc with h | h
      · exact .inl (List.mem_map.mpr ⟨(x, c), h, rfl⟩)
      · exact .inr (hclos x c h).2
    · intro x y c hx hy hc
      have hgt := (hcell c hc).1
      have own : ∀ z, K'.env.cells.lookup z = some c → (z, c) ∈ cellsFrom (H2.objs.size + 1) scope.names [] := fun z hz => by
        rcases hlookO z c hz with h | h
        · exact h
        · have h9 := (hclos z c h).2.1; rw [hL] at hgt; exact absurd h9 (Nat.not_lt.mpr (Nat.le_of_lt (Nat.lt_of_succ_lt hgt)))
      exact name_of_addr ok.apart (own x hx) (own y hy)
    · exact hkind
    · intro p hp
      obtain ⟨h1, h2, h3⟩ := hroP p hp
      have hm : p.1 ∈ owns K (O ++ (anys wr ++ F)) := List.mem_cons_of_mem _ (List.mem_append_right _ (List.mem_map_of_mem (f := Prod.fst) (List.mem_append_left _ h3)))
      refine ⟨old _ _ h1, h2, (S₂.off _ hm).2.2, fun hw => ?_, (S₂.off _ hm).2.1⟩
      have nd := (List.nodup_append.mp (List.nodup_cons.mp S₂.apart).2).2.1
      rw [List.map_append] at nd
      exact (List.nodup_append.mp nd).2.2 _ (List.mem_map_of_mem (f := Prod.fst) h3) _ (List.mem_map_of_mem (f := Prod.fst) (List.mem_append_left F (List.mem_map.mpr ⟨p.1, hw, rfl⟩ : (p.1, Own.any) ∈ anys wr))) rfl
  have hst₄ : Sti 0 H4 := I.frame _ _ _ hst fun b _ ob e => old b ob e
  have fin : ∀ s_e, St B K' ρc ([(s₂.heap.objs.size, .lst rs)] ++ (anys wr ++ [])) T s_e → RR (.ref s₂.heap.objs.size) H2.objs.size (.ok .next) s_e := by
    rintro s_e ⟨fz_e, Se⟩
    obtain ⟨vs, n, hget, hreps⟩ := Se.own (s₂.heap.objs.size, .lst rs) List.mem_cons_self
    have hmemD : s₂.heap.objs.size ∈ owns K' ([(s₂.heap.objs.size, Own.lst rs)] ++ (anys wr ++ [])) := List.mem_cons_of_mem _ (List.mem_append_right _ List.mem_cons_self)
    have hoff := Se.off _ hmemD
    have ext := (Grow.set (h := { objs := #[] }) (o := lstObj vs n) hoff.1 (Nat.zero_le _)).ext
    have hg := Se.g.fzSet hget hoff.1 hoff.2.1
    have gr : Grow fz₂ (fzSet fz_e s₂.heap.objs.size (lstObj vs n)) s₂.heap := ⟨fun b ob e => ext b ob (Se.grow.ext b ob e), fun b ob e => by
      unfold fzSet at e; split at e
      · rename_i q; exact .inr (Nat.le_of_eq q.symm)
      · exact Se.grow.new b ob e⟩
    obtain ⟨h', t', e⟩ := Se.rel
    have Sf := S₂.step (fz' := fzSet fz_e s₂.heap.objs.size (lstObj vs n)) (h' := s_e.heap) (t' := s_e.toks) hg gr Se.mod (fun a ha => .inr (List.mem_append_right _ (List.mem_append_left _ (List.mem_map.mpr ⟨a, ha, rfl⟩))))
    have es : ({ s₂ with heap := s_e.heap, toks := s_e.toks } : Shared) = s_e := by rw [e]; rfl
    rw [es] at Sf
    have hoL := Se.off H2.objs.size List.mem_cons_self
    refine hRR _ H2.objs.size _ s_e (Sf.push (Rep.listSet hoff.1 hreps)) (by rw [hL]; omega) hoL.2.2 ?_ Se.ns Se.mod
    unfold fzSet
    rw [if_neg (by rw [hL]; exact Nat.succ_ne_self _)]
    exact hoL.1
  have loop : ∀ s₄ : Shared, s₄ = { s₂ with heap := H4 } → codeAny (model B.prog B.w) K.A (.compLoop (.ListComp elt [⟨t, iter, ifs, 0⟩] scope pos) 0 it (.ref s₂.heap.objs.size) K'.env) (RR (.ref s₂.heap.objs.size) H2.objs.size) s₄ := by
    rintro s₄ rfl
    refine compLoop_gen (fun k s' => ∃ i rem done rs', rem = vals.drop i ∧ CT B K' ρc t ifs elt rem rs' ∧ done ++ rs' = rs ∧ done.length ≤ i ∧ St B K' ρc ([(s₂.heap.objs.size, .lst done)] ++ (anys wr ++ [])) T s' ∧ Sti i s'.heap ∧ i ≤ vals.length ∧ k = vals.length + 1 - i) ?_ (vals.length + 1)
      ⟨0, vals, [], rs, rfl, hct _ _ _ _ _ hro, rfl, Nat.le_refl _, ⟨fz₂, S₄⟩, hst₄, Nat.zero_le _, rfl⟩
    rintro k s' ⟨i, rem, done, rs', hrem, tr, hrs, hdl, S', hst', hin, rfl⟩ E'
    cases tr with
    | nil =>
      have hlen : i = vals.length := by have := congrArg List.length hrem; simp at this; omega
      subst hlen
      rw [List.append_nil] at hrs; subst hrs
      refine with_size (I.done _ _ _ hst' fun h' tk hk hz => ?_)
      have md : Mod B (· ∈ wr) s'.heap h' := ⟨fun a ob h1 _ e => hk a ob h1 e, hz⟩
      obtain ⟨fz, S'⟩ := S'
      have hwm : ∀ b ∈ wr, (b, Own.any) ∈ [(s₂.heap.objs.size, Own.lst done)] ++ (anys wr ++ []) := fun b hb => List.mem_append_right _ (List.mem_append_left _ (List.mem_map.mpr ⟨b, hb, rfl⟩))
      have hwo' : ∀ b ∈ wr, fz b = none ∧ ¬ isTab B b := fun b hb => by
        have := S'.off b (List.mem_cons_of_mem _ (List.mem_append_right _ (List.mem_map_of_mem (hwm b hb))))
        exact ⟨this.1, this.2.1⟩
      have g' : G B fz h' := S'.g.keeps fun b ob hb e => hk b ob (fun q => by rcases hb with z | z; rw [(hwo' b q).1] at z; cases z; exact (hwo' b q).2 z) e
      exact fin _ ⟨fz, S'.step (t' := tk) g' Grow.refl md (fun a ha => .inr (hwm a ha))⟩
    | take ha hsub hte he tr' =>
      obtain ⟨hd, hr', hlt⟩ := drop_cons hrem
      refine wpAny_mono (draw (K := K') (show Itr B K'.A t it wr fp Sti vals T from I) hd hst' S' ha (Q := ?q) (E := E') ?a) ?b fun _ _ e => e
      case b =>
        intro r s₁ h₁
        cases r with
        | none => exact h₁.elim
        | some v => exact h₁
      case a =>
        intro s₃ hst₃ S₃ m₃
        refine hte _ _ s₃ S₃ _ _ fun s₅ S₅ m₅ => ?_
        simp only [if_true]
        refine he _ _ s₅ S₅ _ _ fun v s₆ S₆ m₆ => ?_
        obtain ⟨fz₃, S₃⟩ := S₃
        obtain ⟨fz₅, S₅⟩ := S₅
        obtain ⟨fz₆, S₆⟩ := S₆
        obtain ⟨vs, n, hget, hreps⟩ := S₆.own (s₂.heap.objs.size, .lst done) List.mem_cons_self
        refine wpAny_list_append_plain (l := s₂.heap.objs.size) (items := vs.toArray) ⟨n, hget⟩ (fun h' hp' hs' => ?_) (by rw [List.size_toArray, hreps.length]; omega)
        obtain ⟨n', hget'⟩ := hp'
        have S₇ := StF.setOwn (O₁ := []) (t' := s₆.toks) S₆ hs' (o' := .lst (done ++ [_])) ⟨vs ++ [v], n', by rw [hget']; simp, hreps.append (Reps.cons (S₆.tmp (v, _) List.mem_cons_self) Reps.nil)⟩
        refine ⟨vals.length + 1 - (i + 1), by omega, i + 1, _, done ++ [_], _, hr', tr', by simpa using hrs, by simp; omega, ⟨fz₆, (S₇.subT (T' := T) fun p hp => List.mem_cons_of_mem _ hp).subR hsub⟩, ?_, hlt, rfl⟩
        have a3 := fp_apart S₃ I.fpOK
        have a6 := fp_apart (O := [(s₂.heap.objs.size, Own.lst done)]) (F := []) (S₆.subT (T' := T) fun p hp => List.mem_cons_of_mem _ hp) I.fpOK
        refine I.frame _ _ _ (I.frame _ _ _ hst₃ ((m₅.trans m₆ fun _ h => h.elim).keepFp fun b hb => ⟨fun h => h, (a3 b hb).2⟩)) fun b hb ob e => ?_
        exact (hs'.2 b (fun q => (a6 b hb).1 (q ▸ List.mem_cons_of_mem _ (List.mem_append_right _ List.mem_cons_self)))).trans e
    | skip ha hsub hte tr' =>
      obtain ⟨hd, hr', hlt⟩ := drop_cons hrem
      refine wpAny_mono (draw (K := K') (show Itr B K'.A t it wr fp Sti vals T from I) hd hst' S' ha (Q := ?q2) (E := E') ?a2) ?b2 fun _ _ e => e
      case b2 =>
        intro r s₁ h₁
        cases r with
        | none => exact h₁.elim
        | some v => exact h₁
      case a2 =>
        intro s₃ hst₃ S₃ m₃
        refine hte _ _ s₃ S₃ _ _ fun s₅ S₅ m₅ => ?_
        simp only [Bool.false_eq_true, if_false]
        obtain ⟨fz₃, S₃⟩ := S₃
        obtain ⟨fz₅, S₅⟩ := S₅
        refine ⟨vals.length + 1 - (i + 1), by omega, i + 1, _, done, _, hr', tr', hrs, by omega, ⟨fz₅, S₅.subR hsub⟩, ?_, hlt, rfl⟩
        exact I.frame _ _ _ hst₃ (m₅.keepFp fun b hb => ⟨fun h => h, (fp_apart S₃ I.fpOK b hb).2⟩)
  exact codeAny_compStart_list (loop _ rfl) (I.self 0 _ _ _ hst₄ (loop _ rfl))
end
end Mine

set_option Elab.async false
set_option maxRecDepth 100000
namespace Mine
open PySem PySem.W PySem.Calls PyProof.Rows

section
variable {B : Bs} {K : Act} {ρ ρ' : Rho} {O O' F : Own'} {T : Tmp} {fz : Fz} {s : Shared} {o : Out}

/-- behind the block: its names go -/
theorem comp_after {wr : List Addr} {L : Addr} {h' : Heap} {s₂ : Shared} {d : D} {v : Value} (S : StF B K ρ (O ++ (anys wr ++ F)) ((v, d) :: T) fz s) (hold : ∀ b ∈ owns K (O ++ (anys wr ++ F)), b < s₂.heap.objs.size) (h1 : s₂.heap.objs.size ≤ L)
    (h2 : L < s.heap.objs.size) (h3 : fz L = none) (hn : ∃ m, s.heap.Ns L m) (hz : K.s₀.heap.objs.size ≤ s₂.heap.objs.size) (hs : Heap.SameBut L s.heap h') :
    StF B K ρ (O ++ (anys wr ++ F)) ((v, d) :: T) fz { s with heap := h' } := by
  have nt : ¬ isTab B L := fun ⟨t, ht, e⟩ => by
    obtain ⟨m, o, es, ep, ho, hd, _⟩ := hn
    rcases S.g.tab t ht with q | ⟨_, q, _⟩ <;> (rw [← e, ho] at q; cases q; cases hd)
  have S1 := S.addAny (a := L) (fun q => Nat.lt_irrefl _ (Nat.lt_of_lt_of_le (hold L q) h1)) h3 nt h2 (Nat.le_trans hz h1)
  have S2 := S1.step (h' := h') (t' := s.toks) (P := (· = L)) (S1.g.sameBut hs h3 nt) Grow.refl (Mod.sameBut hs rfl) (fun a q => .inr (by have q : a = L := q; rw [q]; exact List.mem_cons_self))
  exact StF.dropO (O' := [(L, .any)]) S2

theorem Ev.compRo {t elt iter : Expr} {ifs : List Expr} {scope : Scope} {pos : Pos} {vals rs : List D} {ρc : Rho} (hi : EvIt B K ρ O t iter vals)
    (hcl : ∀ x ∈ scope.names, x.2 = .free → (K.env.cells.lookup x.1).isSome = true) (hkind : scope.kind = .function) (hnd : (scope.names.map (·.1)).Nodup)
    (hcap : ∀ p ∈ ρc, ρ.lookup p.1 = some p.2 ∧ scope.names.lookup p.1 = some .free ∧ K.env.kindOf p.1 ≠ some .local)
    {Oc : List (Addr × List D)} (hOc : ∀ p ∈ Oc, (p.1, Own.lst p.2) ∈ O)
    (hct : ∀ L s₀ fz₀ wr ro, (ro.map fun r => (r.1, r.2.2.2)) = Oc → CT B (compAct K scope L s₀ fz₀ wr ro) ρc t ifs elt vals rs) (hsz : vals.length ≤ sizeLine)
    (hs : ∀ x, foldedSetIterable iter K.env x = pure x := by intro _; rfl) : Ev B K ρ O (.ListComp elt [⟨t, iter, ifs, 0⟩] scope pos) (.list rs) := fun F T s S Q E hQ => by
  rw [eval_ListComp]
  refine wpAny_comprehension_free (use := none) rfl hs (closure_pure hcl) hkind (fun x hx hl => lookup_of_mem_nd hnd (hl ▸ hx : (x.1, NameKind.local) ∈ scope.names))
    (hi F T s S (fun it s₂ => wpAny (model B.prog B.w) K.A (newList []) (fun acc s₃ => wpAny (model B.prog B.w) K.A (newFunctionEnv scope K.env.globals (closOf K.env scope.names []) [] K.env.qual none .none (some K.env)) (fun cenv s₄ =>
      codeAny (model B.prog B.w) K.A (.compStart (.ListComp elt [⟨t, iter, ifs, 0⟩] scope pos) 0 it acc { cenv with scope := relabel scope K.env }) (compPost (model B.prog B.w) K.A E none Q acc cenv.locals) s₄) E s₃) E s₂) E fun it wr fp Sti T' s₂ I hst hTT S₂ m₂ hwr => ?_)
  obtain ⟨fz₂, S₂⟩ := S₂
  refine comp_core (RR := fun acc C => compPost (model B.prog B.w) K.A E none Q acc C) I hst S₂ hcl hkind hnd hcap hOc hct hsz fun D' L fz_f s_e Sf h1 h2 h3 hn md => ?_
  obtain ⟨m, hm⟩ := hn
  refine ⟨m, hm, fun h' hs' => ?_⟩
  have Sh := comp_after (s₂ := s₂) Sf (fun b hb => (S₂.off b hb).2.2) h1 h2 h3 ⟨m, hm⟩ S₂.mod.size hs'
  refine hQ _ _ ((St.dropF ⟨fz_f, Sh⟩).sub (T' := (.ref D', .list rs) :: T) fun p hp => ?_) ?_
  · rcases List.mem_cons.mp hp with h | h
    · exact h ▸ List.mem_cons_self
    · exact List.mem_cons_of_mem _ (hTT p h)
  · exact (m₂.trans md fun a q => .inr (hwr a q)).trans (Mod.sameBut (S := (· = L)) hs' rfl) fun a q => .inr (by have q : a = L := q; rw [q]; exact Nat.le_trans m₂.size h1)

/-- a comprehension bound to a name: the stores stand in another order -/
theorem Ex1.assignCompRo {x : Str} {px : Pos} {t elt iter : Expr} {ifs : List Expr} {scope : Scope} {pos spos : Pos} {vals rs : List D} {ρc : Rho} (hi : EvIt B K ρ O t iter vals) (hb : Bindable K x)
    (hcl : ∀ x ∈ scope.names, x.2 = .free → (K.env.cells.lookup x.1).isSome = true) (hkind : scope.kind = .function) (hnd : (scope.names.map (·.1)).Nodup)
    (hcap : ∀ p ∈ ρc, ρ.lookup p.1 = some p.2 ∧ scope.names.lookup p.1 = some .free ∧ K.env.kindOf p.1 ≠ some .local)
    {Oc : List (Addr × List D)} (hOc : ∀ p ∈ Oc, (p.1, Own.lst p.2) ∈ O)
    (hct : ∀ L s₀ fz₀ wr ro, (ro.map fun r => (r.1, r.2.2.2)) = Oc → CT B (compAct K scope L s₀ fz₀ wr ro) ρc t ifs elt vals rs) (hsz : vals.length ≤ sizeLine)
    (hsw : swapsWith (.ListComp elt [⟨t, iter, ifs, 0⟩] scope pos) (some (.Name x px)) spos.line K.env = pure true := by rfl)
    (hs : ∀ x, foldedSetIterable iter K.env x = pure x := by intro _; rfl) : Ex1 B K ρ O (.Assign [.Name x px] (.ListComp elt [⟨t, iter, ifs, 0⟩] scope pos) spos) (.next ((x, .list rs) :: ρ) O) := fun F T s S Q E hQ => by
  rw [exec_Assign_Name_used _ _ _ _ hsw]
  refine wpAny_bind (wpAny_standAt (wpAny_bind ?_))
  show wpAny _ K.A (do let _ ← comprehension (.ListComp elt [⟨t, iter, ifs, 0⟩] scope pos) scope K.env _ (newList []) false (eval iter K.env) (some (PySem.assign (.Name x px) K.env))) _ _ s
  refine wpAny_bind (wpAny_mono (wpAny_comprehension_free (use := some (PySem.assign (.Name x px) K.env)) (Q := fun _ s' => Q .next s') rfl hs (closure_pure hcl) hkind (fun x hx hl => lookup_of_mem_nd hnd (hl ▸ hx : (x.1, NameKind.local) ∈ scope.names))
    (hi F T s S (fun it s₂ => wpAny (model B.prog B.w) K.A (newList []) (fun acc s₃ => wpAny (model B.prog B.w) K.A (newFunctionEnv scope K.env.globals (closOf K.env scope.names []) [] K.env.qual none .none (some K.env)) (fun cenv s₄ =>
      codeAny (model B.prog B.w) K.A (.compStart (.ListComp elt [⟨t, iter, ifs, 0⟩] scope pos) 0 it acc { cenv with scope := relabel scope K.env }) (compPost (model B.prog B.w) K.A E (some (PySem.assign (.Name x px) K.env)) (fun _ s' => Q .next s') acc cenv.locals) s₄) E s₃) E s₂) E fun it wr fp Sti T' s₂ I hst hTT S₂ m₂ hwr => ?_)) (fun _ s' hq => wpAny_pure (wpAny_pure hq)) fun _ _ e => e)
  obtain ⟨fz₂, S₂⟩ := S₂
  refine comp_core (RR := fun acc C => compPost (model B.prog B.w) K.A E (some (PySem.assign (.Name x px) K.env)) (fun _ s' => Q .next s') acc C) I hst S₂ hcl hkind hnd hcap hOc hct hsz fun D' L fz_f s_e Sf h1 h2 h3 hn md => ?_
  show wpAny _ K.A (PySem.assign (.Name x px) K.env (.ref D')) _ _ _
  obtain ⟨m, hm⟩ := hn
  have nt : ¬ isTab B L := fun ⟨t, ht, e⟩ => by
    obtain ⟨o, es, ep, ho, hd, _⟩ := hm
    rcases Sf.g.tab t ht with q | ⟨_, q, _⟩ <;> (rw [← e, ho] at q; cases q; cases hd)
  have nin : L ∉ owns K (O ++ (anys wr ++ F)) := fun q => Nat.lt_irrefl _ (Nat.lt_of_lt_of_le (S₂.off L q).2.2 h1)
  have S1 := Sf.addAny (a := L) nin h3 nt h2 (Nat.le_trans S₂.mod.size h1)
  refine wpAny_assign_Name (St.store (T' := T) ⟨fz_f, S1⟩ List.mem_cons_self hb fun s₃ S₃ m₃ => ?_)
  have hL3 : ¬ Own.in K [] L := fun q => nin (own_nil (O := O ++ (anys wr ++ F)) q)
  have hm3 : s₃.heap.Ns L m := hm.at' fun ob e => m₃.keep L ob hL3 nt e
  refine ⟨m, hm3, fun h' hs' => ?_⟩
  obtain ⟨fz₃, S₃⟩ := S₃
  have hfz : fz₃ L = none := (S₃.off L (List.mem_cons_of_mem _ (List.mem_append_right _ List.mem_cons_self))).1
  have S4 := S₃.step (h' := h') (t' := s₃.toks) (P := (· = L)) (S₃.g.sameBut hs' hfz nt) Grow.refl (Mod.sameBut hs' rfl) (fun a q => .inr (by have q : a = L := q; rw [q]; exact List.mem_cons_self))
  have S5 := StF.dropO (O' := [(L, .any)]) S4
  refine hQ .next _ ⟨rfl, (St.dropF ⟨fz₃, S5⟩).sub fun p hp => List.mem_cons_of_mem _ (hTT p hp)⟩ ?_
  have n1 : Mod B (Own.in K O) s.heap s_e.heap := (mod_no m₂).trans md fun a q => .inr (hwr a q)
  exact (n1.trans m₃ fun a q => .inl (own_nil q)).trans (Mod.sameBut (S := (· = L)) hs' rfl) fun a q => .inr (by have q : a = L := q; rw [q]; exact Nat.le_trans m₂.size h1)

theorem Ev.comp {t elt iter : Expr} {ifs : List Expr} {scope : Scope} {pos : Pos} {vals rs : List D} {ρc : Rho} (hi : EvIt B K ρ O t iter vals)
    (hcl : ∀ x ∈ scope.names, x.2 = .free → (K.env.cells.lookup x.1).isSome = true) (hkind : scope.kind = .function) (hnd : (scope.names.map (·.1)).Nodup)
    (hcap : ∀ p ∈ ρc, ρ.lookup p.1 = some p.2 ∧ scope.names.lookup p.1 = some .free ∧ K.env.kindOf p.1 ≠ some .local)
    (hct : ∀ L s₀ fz₀ wr, CT B (compAct K scope L s₀ fz₀ wr []) ρc t ifs elt vals rs) (hsz : vals.length ≤ sizeLine)
    (hs : ∀ x, foldedSetIterable iter K.env x = pure x := by intro _; rfl) : Ev B K ρ O (.ListComp elt [⟨t, iter, ifs, 0⟩] scope pos) (.list rs) :=
  Ev.compRo hi hcl hkind hnd hcap (Oc := []) (fun _ h => nomatch h) (fun L s₀ fz₀ wr ro e => by rw [List.map_eq_nil_iff.mp e]; exact hct L s₀ fz₀ wr) hsz hs
theorem Ex1.assignComp {x : Str} {px : Pos} {t elt iter : Expr} {ifs : List Expr} {scope : Scope} {pos spos : Pos} {vals rs : List D} {ρc : Rho} (hi : EvIt B K ρ O t iter vals) (hb : Bindable K x)
    (hcl : ∀ x ∈ scope.names, x.2 = .free → (K.env.cells.lookup x.1).isSome = true) (hkind : scope.kind = .function) (hnd : (scope.names.map (·.1)).Nodup)
    (hcap : ∀ p ∈ ρc, ρ.lookup p.1 = some p.2 ∧ scope.names.lookup p.1 = some .free ∧ K.env.kindOf p.1 ≠ some .local)
    (hct : ∀ L s₀ fz₀ wr, CT B (compAct K scope L s₀ fz₀ wr []) ρc t ifs elt vals rs) (hsz : vals.length ≤ sizeLine)
    (hsw : swapsWith (.ListComp elt [⟨t, iter, ifs, 0⟩] scope pos) (some (.Name x px)) spos.line K.env = pure true := by rfl)
    (hs : ∀ x, foldedSetIterable iter K.env x = pure x := by intro _; rfl) : Ex1 B K ρ O (.Assign [.Name x px] (.ListComp elt [⟨t, iter, ifs, 0⟩] scope pos) spos) (.next ((x, .list rs) :: ρ) O) :=
  Ex1.assignCompRo hi hb hcl hkind hnd hcap (Oc := []) (fun _ h => nomatch h) (fun L s₀ fz₀ wr ro e => by rw [List.map_eq_nil_iff.mp e]; exact hct L s₀ fz₀ wr) hsz hsw hs
end
end Mine

set_option Elab.async false
set_option maxRecDepth 100000
namespace Mine
open PySem PySem.W PySem.Calls PyProof.Rows

/-- an expression makes a new object, the call's own -/
def EvNew (B : Bs) (K : Act) (ρ : Rho) (O : Own') (e : Expr) (w : Own) : Prop :=
  ∀ (F : Own') (T : Tmp) (s : Shared), St B K ρ (O ++ F) T s → ∀ (Q : Value → Shared → Prop) (E : Value → Shared → Prop), (∀ (a : Addr) (s' : Shared), St B K ρ ((a, w) :: (O ++ F)) T s' → Mod B No s.heap s'.heap → s.heap.objs.size ≤ a → Q (.ref a) s') → wpAny (model B.prog B.w) K.A (eval e K.env) Q E s

section
variable {B : Bs} {K : Act} {ρ ρ' : Rho} {O O₁ O₂ F : Own'} {T : Tmp} {fz : Fz} {s : Shared} {o : Out}

theorem EvNew.list {es : List Expr} {ds : List D} {pos : Pos} (h : Evs B K ρ O es ds) (hz : ds.length ≤ 1000 := by exact Nat.le_of_ble_eq_true rfl) : EvNew B K ρ O (.List es pos) (.lst ds) := fun F T s S Q E hQ => by
  refine wpAny_List (h F T s pos S _ _ fun vs s' hl S' m => ?_)
  obtain ⟨fz, S'⟩ := S'
  have r : Reps fz vs ds := Reps.of_zip hl fun p hp => S'.tmp p (List.mem_append_left _ hp)
  refine ⟨by rw [hl]; exact Nat.le_trans hz (by decide), ?_⟩
  have hk : ∀ b ob, s'.heap.get? b = some ob → (s'.heap.push (lstObj vs 0)).get? b = some ob := fun b ob e => Heap.get?_push_of_some _ e
  have S2 := S'.addOwn (a := s'.heap.objs.size) (o := .lst ds) (t' := s'.toks) (Nat.le_refl _) hk (by rw [Heap.size_push]; exact Nat.lt_succ_self _) ⟨vs, 0, Heap.get?_push_size _ rfl, r⟩
  exact hQ _ _ ⟨fz, S2.subT fun p hp => List.mem_append_right _ hp⟩ (m.trans (Mod.push (S := No)) fun _ h => h.elim) m.size

theorem mod_new {a : Addr} {h h' h'' : Heap} {w : Own} (m₂ : Mod B No h h') (ha : h.objs.size ≤ a) (m₃ : Mod B (Own.in K ((a, w) :: O)) h' h'') : Mod B (Own.in K O) h h'' :=
  (mod_no m₂).trans m₃ fun b hb => by
    rcases List.mem_cons.mp hb with q | q
    · exact .inl (q ▸ List.mem_cons_self)
    · rcases List.mem_append.mp q with q | q
      · exact .inl (List.mem_cons_of_mem _ (List.mem_append_left _ q))
      · rcases List.mem_cons.mp q with q | q
        · exact .inr (q ▸ ha)
        · exact .inl (List.mem_cons_of_mem _ (List.mem_append_right _ q))

theorem Ex.assignNew {x : Str} {p pos : Pos} {e : Expr} {w : Own} {r : List Stmt} (h : EvNew B K ρ O e w) (hb : Bindable K x) (h' : ∀ a, Ex B K ((x, .raw (.ref a)) :: ρ) ((a, w) :: O) r o)
    (hs : swapsWith e (some (.Name x p)) pos.line K.env = pure false := by rfl) : Ex B K ρ O (.Assign [.Name x p] e pos :: r) o := fun F T s S Q E hQ =>
  wpAny_execs_cons (wpAny_Assign_Name (h F T s S _ _ fun a s₁ S₁ m₁ ha => by
    obtain ⟨fz, S₁⟩ := S₁
    refine St.store (T' := T) (v := .ref a) (d := .raw (.ref a)) ⟨fz, StF.push (v := .ref a) (d := .raw (.ref a)) S₁ rfl⟩ List.mem_cons_self hb fun s₂ S₂ m₂ => ?_
    refine h' a F T s₂ (S₂.sub fun p hp => List.mem_cons_of_mem _ hp) Q E fun fl s₃ o₃ m₃ => hQ fl s₃ o₃ (mod_new (w := w) m₁ ha ((m₂.mono fun b hb => .inl (own_nil hb)).trans m₃ fun b hb => .inl hb))) hs)

/-- an owned list becomes data -/
theorem Ex.freeze {a : Addr} {ds : List D} {ss : List Stmt} (hw : K.wr = []) (hρ : ∀ p ∈ ρ', ρ.lookup p.1 = some p.2 ∨ (ρ.lookup p.1 = some (.raw (.ref a)) ∧ p.2 = .list ds)) (h : Ex B K ρ' O ss o) : Ex B K ρ ((a, .lst ds) :: O) ss o := fun F T s S Q E hQ => by
  obtain ⟨fz, S⟩ := S
  have hf : K.s₀.heap.objs.size ≤ a := (S.fresh a (List.mem_cons_of_mem _ (List.mem_append_right _ List.mem_cons_self))).elim id fun q => by rw [hw] at q; cases q
  obtain ⟨fz', S'⟩ := StF.freeze (O := O ++ F) S hf hρ
  exact h F T s ⟨fz', S'.subT (T' := T) fun p hp => List.mem_cons_of_mem _ hp⟩ Q E fun fl s' o' m' => hQ fl s' o' (m'.mono fun b hb => .inl (own_mono (O' := O) (O := (a, .lst ds) :: O) (fun c hc => List.mem_cons_of_mem _ hc) hb))
end
end Mine

set_option Elab.async false
set_option maxRecDepth 100000
namespace Mine
open PySem PySem.W PySem.Calls PyProof.Rows

section
variable {B : Bs} {K : Act} {ρ ρ' : Rho} {O O₁ O₂ R : Own'} {T : Tmp} {fz : Fz} {s : Shared} {o : Out}

theorem StF.ownGet {O₁ O₂ R : Own'} {a : Addr} {w : Own} (S : StF B K ρ ((O₁ ++ (a, w) :: O₂) ++ R) T fz s) : OwnAt fz s.heap a w := S.own (a, w) (by simp)

theorem own_mem {a : Addr} {w : Own} : Own.in K (O₁ ++ (a, w) :: O₂) a := List.mem_cons_of_mem _ (List.mem_append_right _ (List.mem_map_of_mem (f := Prod.fst) (List.mem_append_right O₁ (List.mem_cons_self (a := (a, w))))))

/-- x.append(e) -/
theorem Ex1.append {x : Str} {a : Addr} {ds : List D} {d : D} {e : Expr} {npos apos pos spos : Pos} (hx : ρ.lookup x = some (.raw (.ref a))) (h : Ev B K ρ (O₁ ++ (a, .lst ds) :: O₂) e d) (hsz : ds.length ≤ sizeLine)
    (hs : starEach [e] K.env = (false, eval e K.env) :: starEach [] K.env := by rfl)
    (hi : interactive K.env = false := by rfl) (hsw : swapsWith (.Call (.Attribute (.Name x npos) "append" apos) [e] [] pos) none spos.line K.env = pure false := by rfl)
    (hbase : attributeBase (.Name x npos) "append" K.env (eval (.Name x npos) K.env) = eval (.Name x npos) K.env := by rfl)
    (hp : (backTo pos (starEach [e] K.env)).any (·.1) = false := by rfl)
    (hfew : ((backTo pos (starEach [e] K.env)).all (fun x => !x.1) && (backToKw pos (keywordEach [] K.env)).all (fun x => x.1.isSome)
      && decide ([e].length + ([] : List Keyword).length + (if ([] : List Keyword).isEmpty then 0 else 1) < 30)) = true := by rfl)
    (hline : (apos.endLine == pos.line) = true := by rfl) (hd : (x == ("__debug__" : Str)) = false := by decide) (hc : (x == ("__classdict__" : Str)) = false := by decide) :
    Ex1 B K ρ (O₁ ++ (a, .lst ds) :: O₂) (.Expr (.Call (.Attribute (.Name x npos) "append" apos) [e] [] pos) spos) (.next ρ (O₁ ++ (a, .lst (ds ++ [d])) :: O₂)) := fun R T s S Q E hQ => by
  refine wpAny_Expr (wpAny_Call_method hbase hfew hline F.plainAttrs_list slot_list_append F.type_list_append (Ev.var (O := O₁ ++ (a, .lst ds) :: O₂) hx hd hc R T s S _ _ fun v₁ s₁ S₁ m₁ => ?_)) hi hsw
  obtain rfl : v₁ = .ref a := by obtain ⟨fz, S₁⟩ := S₁; exact S₁.tmp (v₁, .raw (.ref a)) (by simp)
  have hty : s₁.TypeIs (.ref a) "list" ∧ ∀ b, (Value.ref a) = .ref b → ∃ o : Obj, s₁.heap.get? b = some o ∧ o.dict = none := by
    obtain ⟨fz, S₁⟩ := S₁
    obtain ⟨vs, n, hg, _⟩ := S₁.ownGet
    exact ⟨⟨_, hg, rfl⟩, fun b e => by cases e; exact ⟨_, hg, rfl⟩⟩
  refine ⟨hty.1, hty.2, Calls.callWith_builtin hp (evalArgs_of_spliced hp (Evs.cons h Evs.nil hs R _ s₁ pos S₁ _ _ fun vs s₂ hl S₂ m₂ => ?_))⟩
  obtain ⟨fz, S₂⟩ := S₂
  obtain ⟨v, rfl⟩ : ∃ v, vs = [v] := by
    match vs, hl with
    | [v], _ => exact ⟨v, rfl⟩
  have hr : Rep fz v d := S₂.tmp (v, d) (by simp)
  obtain ⟨us, n, hg, hrs⟩ := S₂.ownGet
  refine wpAny_list_append_plain ⟨n, hg⟩ (fun h' hp' hsb => ?_) (by rw [List.size_toArray, hrs.length]; exact hsz)
  obtain ⟨n', hp'⟩ := hp'
  have hn : OwnAt fz h' a (.lst (ds ++ [d])) := ⟨us ++ [v], n', by rw [hp']; simp, hrs.append (Reps.cons hr Reps.nil)⟩
  rw [List.append_assoc, List.cons_append] at S₂
  have S₃ := S₂.setOwn (t' := s₂.toks) hsb hn
  refine hQ .next _ ⟨rfl, fz, ?_⟩ (((mod_no m₁).trans (mod_no (S := No) m₂) fun _ h => h.elim).trans (Mod.sameBut (S := (· = a)) hsb rfl) fun b hb => .inl (by have hb : b = a := hb; rw [hb]; exact own_mem))
  have := S₃.subT (T' := T) fun p hp => by simp [hp]
  rw [List.append_assoc, List.cons_append]; exact this

/-- x.reverse() -/
theorem Ex1.reverse {x : Str} {a : Addr} {ds : List D} {npos apos pos spos : Pos} (hx : ρ.lookup x = some (.raw (.ref a))) (hsz : ds.length ≤ sizeLine)
    (hi : interactive K.env = false := by rfl) (hsw : swapsWith (.Call (.Attribute (.Name x npos) "reverse" apos) [] [] pos) none spos.line K.env = pure false := by rfl)
    (hbase : attributeBase (.Name x npos) "reverse" K.env (eval (.Name x npos) K.env) = eval (.Name x npos) K.env := by rfl)
    (hfew : ((backTo pos (starEach [] K.env)).all (fun x => !x.1) && (backToKw pos (keywordEach [] K.env)).all (fun x => x.1.isSome)
      && decide (([] : List Expr).length + ([] : List Keyword).length + (if ([] : List Keyword).isEmpty then 0 else 1) < 30)) = true := by rfl)
    (hline : (apos.endLine == pos.line) = true := by rfl) (hd : (x == ("__debug__" : Str)) = false := by decide) (hc : (x == ("__classdict__" : Str)) = false := by decide) :
    Ex1 B K ρ (O₁ ++ (a, .lst ds) :: O₂) (.Expr (.Call (.Attribute (.Name x npos) "reverse" apos) [] [] pos) spos) (.next ρ (O₁ ++ (a, .lst ds.reverse) :: O₂)) := fun R T s S Q E hQ => by
  refine wpAny_Expr (wpAny_Call_method hbase hfew hline F.plainAttrs_list F.slot_list_reverse F.type_list_reverse (Ev.var (O := O₁ ++ (a, .lst ds) :: O₂) hx hd hc R T s S _ _ fun v₁ s₁ S₁ m₁ => ?_)) hi hsw
  obtain rfl : v₁ = .ref a := by obtain ⟨fz, S₁⟩ := S₁; exact S₁.tmp (v₁, .raw (.ref a)) (by simp)
  obtain ⟨fz, S₁⟩ := S₁
  obtain ⟨vs, n, hg, hrs⟩ := S₁.ownGet
  refine ⟨⟨_, hg, rfl⟩, fun b e => by cases e; exact ⟨_, hg, rfl⟩, P.reverse_list (items := vs.toArray) (n := n) hg ?_ (by rw [List.size_toArray, hrs.length]; exact hsz)⟩
  have hsb : Heap.SameBut a s₁.heap (s₁.heap.update a (Obj.mapSeq fun x => x.reverse)) := Heap.SameBut.update ..
  have hn : OwnAt fz (s₁.heap.update a (Obj.mapSeq fun x => x.reverse)) a (.lst ds.reverse) := ⟨vs.reverse, _, by rw [IsL.update (n := n) hg fun x => x.reverse]; simp only [List.reverse_toArray]; rfl, hrs.reverse⟩
  rw [List.append_assoc, List.cons_append] at S₁
  have S₃ := S₁.setOwn (t' := s₁.toks) hsb hn
  refine hQ .next _ ⟨rfl, fz, ?_⟩ ((mod_no (S := Own.in K (O₁ ++ (a, .lst ds) :: O₂)) m₁).trans (Mod.sameBut (S := (· = a)) hsb rfl) fun b hb => .inl (by have hb : b = a := hb; rw [hb]; exact own_mem))
  have := S₃.subT (T' := T) fun p hp => by simp [hp]
  rw [List.append_assoc, List.cons_append]; exact this

/-- the turns of a while loop -/
inductive Whiles (B : Bs) (K : Act) (test : Expr) (body : List Stmt) : Nat → Rho → Own' → Out → Prop
  | done {n ρ O ρw} : (∀ x d, ρw.lookup x = some d → ρ.lookup x = some d) → Et B K ρw O test false → Whiles B K test body n ρ O (.next ρw O)
  | next {n ρ O ρw ρ₁ O₁ o} : (∀ x d, ρw.lookup x = some d → ρ.lookup x = some d) → Et B K ρw O test true → Ex B K ρw O body (.next ρ₁ O₁) → (∀ a ∈ O₁.map (·.1), a ∈ O.map (·.1)) →
      Whiles B K test body n ρ₁ O₁ o → Whiles B K test body (n + 1) ρ O o

theorem Ex1.while {test : Expr} {body : List Stmt} {pos : Pos} {n : Nat} (h : Whiles B K test body n ρ O o) : Ex1 B K ρ O (.While test body [] pos) o := fun R T s S Q E hQ => by
  refine wpAny_While (codeAny_whileLoop (fun k s' => ∃ ρ' O', Whiles B K test body k ρ' O' o ∧ St B K ρ' (O' ++ R) T s' ∧ (∀ a ∈ O'.map (·.1), a ∈ O.map (·.1)) ∧ Mod B (Own.in K O) s.heap s'.heap) ?_ n ⟨ρ, O, h, S, fun _ h => h, Mod.refl⟩)
  rintro k s' ⟨ρ', O', hw, S', hO, m'⟩
  cases hw with
  | done hw ht =>
    refine ht R T s' (S'.subR hw) _ _ fun s₁ S₁ m₁ => ?_
    simp only [Bool.false_eq_true, if_false]
    exact wpAny_execs_nil (hQ .next s₁ ⟨rfl, S₁⟩ (m'.trans m₁ fun _ h => h.elim))
  | next hw ht hb hO1 hn =>
    refine ht R T s' (S'.subR hw) _ _ fun s₁ S₁ m₁ => ?_
    simp only [if_true]
    refine hb R T s₁ S₁ _ _ fun fl s₂ o₂ m₂ => ?_
    obtain ⟨rfl, S₂⟩ := o₂
    exact ⟨_, Nat.lt_succ_self _, _, _, hn, S₂, fun a ha => hO a (hO1 a ha), (m'.trans m₁ fun _ h => h.elim).trans m₂ fun a ha => .inl (own_mono hO ha)⟩
end
end Mine

set_option Elab.async false
set_option maxRecDepth 100000
namespace Mine
open PySem PySem.W PySem.Calls PyProof.Rows

section
variable {B : Bs} {K : Act} {ρ ρ' : Rho} {O O₁ O₂ R : Own'} {T : Tmp} {fz : Fz} {s : Shared} {o : Out}

theorem StF.made {t : NestTab} {h' : Heap} {c' : Addr} {oc fo : Obj} {C : Clo} {vs : Array Value} {tt tk : Tok} {doc pm ctv : Value} {an : Option Addr} (S : StF B K ρ O T fz s) (ht : t ∈ B.tabs)
    (hx : ∀ b ob, b ≠ t.P → s.heap.get? b = some ob → h'.get? b = some ob) (hz : s.heap.objs.size ≤ h'.objs.size) (hoc : h'.get? c' = some oc) (hc : fz c' = some oc ∨ s.heap.objs.size ≤ c') (hd : oc.data = .fields vs) (hv : vs[1]? = some (.str t.qual tt))
    (hP : h'.get? t.P = some (tabObj #[rawInt t.pos.line, rawInt t.pos.col, .ref c'])) (hq : C.qual = t.qual) (hfo : fo.data = .func (fnX C.nm C.qual C.params C.body C.scope C.clo .none .none doc pm an (.ref c') ctv)) (hfr : fo.isFreed = false) :
    ∃ fz', StF B K ρ O ((.ref h'.objs.size, .fn C) :: T) fz' { s with heap := h'.push fo, toks := tk } ∧ Mod B No s.heap (h'.push fo) := by
  have hcl : c' < h'.objs.size := Heap.lt_size hoc
  have nt : ∀ u ∈ B.tabs, c' ≠ u.P := fun u hu e => by
    rcases hc with q | q
    · have := S.g.off u hu; rw [← e, q] at this; cases this
    · exact S.g.not_tab q ⟨u, hu, e⟩
  have hF : ∀ u ∈ B.tabs, h'.objs.size ≠ u.P := fun u hu e => by
    have := S.g.lt hu; rw [← e] at this; exact Nat.lt_irrefl _ (Nat.lt_of_lt_of_le this hz)
  have hfn : fz h'.objs.size = none := S.g.none_of_le hz
  have e1 : ∀ b ob, fz b = some ob → fzSet (fzSet fz c' oc) h'.objs.size fo b = some ob := fun b ob e => by
    unfold fzSet
    split
    · rename_i q; rw [q, hfn] at e; cases e
    · split
      · rename_i q; subst q
        rcases hc with q | q
        · rw [← e, q]
        · rw [S.g.none_of_le q] at e; cases e
      · exact e
  have e2 : fzSet (fzSet fz c' oc) h'.objs.size fo c' = some oc := by
    unfold fzSet; rw [if_neg (Nat.ne_of_lt hcl), if_pos rfl]
  have e3 : fzSet (fzSet fz c' oc) h'.objs.size fo h'.objs.size = some fo := by unfold fzSet; rw [if_pos rfl]
  have gr : Grow fz (fzSet (fzSet fz c' oc) h'.objs.size fo) s.heap := ⟨e1, fun b ob e => by
    unfold fzSet at e
    split at e
    · rename_i q; exact .inr (q ▸ hz)
    · split at e
      · rename_i q; subst q
        exact hc.imp (fun q => by rw [q]; exact e) id
      · exact .inl e⟩
  have up : ∀ b ob, b ≠ t.P → s.heap.get? b = some ob → (h'.push fo).get? b = some ob := fun b ob n e => Heap.get?_push_of_some _ (hx b ob n e)
  have md : Mod B No s.heap (h'.push fo) := ⟨fun b ob _ n e => up b ob (fun q => n ⟨t, ht, q⟩) e, Nat.le_trans hz (by rw [Heap.size_push]; exact Nat.le_succ _)⟩
  have g : G B (fzSet (fzSet fz c' oc) h'.objs.size fo) (h'.push fo) := by
    refine ⟨S.g.ok, fun b ob e => e1 b ob (S.g.base b ob e), fun b ob e => ?_, fun u hu => ?_, fun u hu => ?_⟩
    · unfold fzSet at e
      split at e
      · rename_i q; cases e; rw [q]; exact Heap.get?_push_size _ hfr
      · split at e
        · rename_i q; cases e; rw [q]; exact Heap.get?_push_of_some _ hoc
        · exact up b ob (fun q => by have := S.g.off t ht; rw [← q, e] at this; cases this) (S.g.sub b ob e)
    · by_cases q : u.P = t.P
      · have := S.g.ok.uniq u hu t ht q
        subst this
        exact .inr ⟨c', Heap.get?_push_of_some _ hP, oc, vs, tt, e2, hd, hv⟩
      · exact (S.g.tab u hu).keeps (fun ob e => up _ ob q e) e1
    · unfold fzSet
      rw [if_neg (fun q => hF u hu q.symm), if_neg (fun q => nt u hu q.symm)]
      exact S.g.off u hu
  refine ⟨_, (S.step (t' := tk) g gr md (fun _ h => h.elim)).push ?_, md⟩
  refine ⟨h'.objs.size, fo, doc, pm, an, c', ctv, rfl, e3, hfo, oc, vs, tt, e2, hd, ?_⟩
  rw [hq]; exact hv

/-- a def within a def -/
theorem Ex1.def {nm : Str} {params : Arguments} {body : List Stmt} {scope : Scope} {pos : Pos} {t : NestTab} (ht : t ∈ B.tabs) (hpos : t.pos = pos) (hq : t.qual = qualnameIn K.env nm nm) (hcode : K.env.code = .ref t.c)
    (hcl : ∀ x ∈ scope.names, x.2 = .free → (K.env.cells.lookup x.1).isSome = true) (hb : Bindable K nm) (hd0 : params.defaults = [] := by rfl) (hk0 : params.kw_defaults = [] := by rfl) (ha : annTrees params none K.env = [] := by rfl) :
    Ex1 B K ρ O (.FunctionDef nm params body [] none [] scope none nm pos) (.next ((nm, .fn ⟨nm, qualnameIn K.env nm nm, params, body, scope, closOf K.env scope.names []⟩) :: ρ) O) := fun R T s S Q E hQ => by
  refine nestDef_K hd0 hk0 ha ?_
  obtain ⟨fz, S⟩ := S
  have up : ∀ b ob, B.h₀.get? b = some ob → s.heap.get? b = some ob := fun b ob e => S.g.sub b ob (S.g.base b ob e)
  have C := (S.g.ok.code t ht).keeps up
  have hg := S.heapG
  obtain ⟨bm, ob, b1, b2, b3, b4, b5, b6⟩ := S.g.ok.bmain
  have tabn : ∀ o', s.heap.get? t.P = some o' → o'.cls = .none ∧ ∃ xs, o'.data = .fields xs := fun o' e => by
    rcases S.g.tab t ht with q | ⟨_, q, _⟩ <;> (rw [q] at e; cases e; exact ⟨rfl, _, rfl⟩)
  have hgP : mainGlobals ≠ t.P := fun q => by
    obtain ⟨o, es, ep, e, hd, _⟩ := hg
    rw [q] at e
    obtain ⟨_, xs, hx⟩ := tabn _ e
    rw [hx] at hd; cases hd
  have hbP : bm ≠ t.P := fun q => by
    have e := up _ _ b3
    rw [q] at e
    have := (tabn _ e).1
    rw [b4] at this; cases this
  have hbG : bm ≠ mainGlobals := fun q => by
    obtain ⟨o, es, ep, e, hd, _⟩ := hg
    have e' := up _ _ b3
    rw [q, e] at e'; cases e'; rw [hd] at b6; cases b6
  have hBA : s.heap.BuiltinsAt B.mg t.P := ⟨bm, ob, b1, b2, hbG, hbP, up _ _ b3, b4, b5, b6⟩
  have fin : ∀ v s₁, (∃ fz', StF B K ρ (O ++ R) ((v, .fn ⟨nm, qualnameIn K.env nm nm, params, body, scope, closOf K.env scope.names []⟩) :: T) fz' s₁ ∧ Mod B No s.heap s₁.heap) →
      wpAny (model B.prog B.w) K.A (storeName K.env nm v) (fun _ s'' => Q .next s'') E s₁ := fun v s₁ ⟨fz', S', m'⟩ =>
    St.store (T' := T) ⟨fz', S'⟩ List.mem_cons_self hb fun s₂ S₂ m₂ => hQ .next s₂ ⟨rfl, S₂.sub fun p hp => List.mem_cons_of_mem _ hp⟩ ((mod_no m').trans m₂ fun a ha => .inl (own_nil ha))
  rcases S.g.tab t ht with hP | ⟨c', hP, oc, vs, tt, hfc, hd, hv⟩
  · refine makeFunction_K (mg := B.mg) (closure_pure hcl) S.glob hg hcode C hP trivial rfl hgP hBA fun c' ctv doc h' tk hx hge hlt hrec htb => fin _ _ ?_
    obtain ⟨c₂, oc, vs, tt, e2, hoc, hd, hv⟩ := hrec
    cases e2
    exact S.made (C := ⟨nm, qualnameIn K.env nm nm, params, body, scope, closOf K.env scope.names []⟩) ht (fun b ob n e => hx b ob n e) (Nat.le_trans hge (Nat.le_of_lt hlt)) hoc (.inr hge) hd (by rw [hq]; exact hv) (by rw [hpos]; exact htb) hq.symm rfl rfl
  · have hf : codeAmong pos (#[rawInt t.pos.line, rawInt t.pos.col, .ref c'] : Array Value).toList = some (.ref c') := by
      rw [hpos]
      exact codeAmong_snoc (c := .ref c') [] trivial rfl
    refine makeFunction_hit (mg := B.mg) (closure_pure hcl) S.glob hg hcode C hP trivial hf hBA fun ctv doc h' tk hk hsz => fin _ _ ?_
    exact S.made (C := ⟨nm, qualnameIn K.env nm nm, params, body, scope, closOf K.env scope.names []⟩) ht (fun b ob _ e => hk b ob e) hsz (hk _ _ (S.g.sub _ _ hfc)) (.inl hfc) hd hv (hk _ _ hP) hq.symm rfl rfl
end
end Mine

set_option Elab.async false
set_option maxRecDepth 100000
namespace Mine
open PySem PySem.W PySem.Calls PyProof.Rows

/-- the activation of a def within a def: no cells of its own; the objects W are its maker's, and it may write them -/
def actIn (fd : FuncData) (a : Addr) (A : Around) (n : Nat) (s : Shared) (fz : Fz) (W : List Addr) : Act where
  A := A.deeper (callEnv fd s.heap.objs.size a)
  env := callEnv fd s.heap.objs.size a
  cells := []
  n := n
  s₀ := s
  fz₀ := fz
  wr := W
  ro := []

/-- the data of a function made by C -/
abbrev fdOf (C : Clo) (doc pm : Value) (an : Option Addr) (c' : Addr) (ctv : Value) : FuncData := fnX C.nm C.qual C.params C.body C.scope C.clo .none .none doc pm an (.ref c') ctv

/-- a call of a function made by C: the names it captures, the objects it changes -/
def CSpec (B : Bs) (n : Nat) (C : Clo) (cap : Rho) (O O' : Own') (ds : List D) (d : D) : Prop :=
  ∀ (A : Around) (fz : Fz) (s : Shared) (v : Value) (vs : List Value), Room A n → G B fz s.heap → Rep fz v (.fn C) → (∀ p ∈ cap, ∃ c u, C.clo.lookup p.1 = some c ∧ c ∉ O.map (·.1) ∧ s.heap.IsCell c (some u) ∧ Rep fz u p.2) → Reps fz vs ds →
    (∀ p ∈ O, OwnAt fz s.heap p.1 p.2 ∧ fz p.1 = none ∧ ¬ isTab B p.1 ∧ p.1 < s.heap.objs.size) → (O.map (·.1)).Nodup → (∀ x c, C.clo.lookup x = some c → c < s.heap.objs.size ∧ c ∉ O.map (·.1)) →
    ∀ (Q : Value → Shared → Prop) (E : Value → Shared → Prop),
      (∀ r fz' h' t', Grow fz fz' s.heap → G B fz' h' → Rep fz' r d → Mod B (· ∈ O.map (·.1)) s.heap h' → (∀ p ∈ O', OwnAt fz' h' p.1 p.2) → Q r { s with heap := h', toks := t' }) →
      wpAny (model B.prog B.w) A (call v vs) Q E s

theorem CSpec.enter {B : Bs} {C : Clo} {cap : Rho} {O O' : Own'} {ps : List Str} {ds : List D} {d : D} {n : Nat}
    (hbind : ∀ doc pm an c' ctv, ∀ vs : List Value, vs.length = ds.length → bindArgs (fdOf C doc pm an c' ctv) ⟨vs, []⟩ = pure (ps.zip vs))
    (hlen : ps.length = ds.length) (hnd : ps.Nodup) (hloc : ∀ p ∈ ps, C.scope.names.lookup p = some .local) (hcell : ∀ x ∈ C.scope.names, x.2 ≠ .cell) (hfree : ∀ p ∈ cap, C.scope.names.lookup p.1 = some .free)
    (h : ∀ A s fz a doc pm an c' ctv, ∃ o, Ex B (actIn (fdOf C doc pm an c' ctv) a A n s fz (O.map (·.1))) (ps.zip ds ++ cap) O C.body o ∧ (o = .ret d O' ∨ (d = .none ∧ ∃ ρ', o = .next ρ' O')))
    (hO : O'.map (·.1) = O.map (·.1))
    (hco : C.scope.isCoroutine = false := by rfl) (hgen : C.scope.isGenerator = false := by rfl) (hk : C.scope.kind = .function := by rfl) :
    CSpec B (n + 1) C cap O O' ds d := fun A fz s v vs rm g rv hcap r hown hndO hclo Q E hQ => by
  have hvl : vs.length = ds.length := r.length
  obtain ⟨a, fo, doc, pm, an, c', ctv, rfl, hfa, hfd, hcf⟩ := rv
  have hget := g.sub _ _ hfa
  have up : ∀ b o, B.h₀.get? b = some o → s.heap.get? b = some o := fun b o e => g.sub b o (g.base b o e)
  have hcl : ∀ x ∈ ps.zip vs, C.scope.names.lookup x.1 = some .local := fun x hx => hloc x.1 (List.of_mem_zip (a := x.1) (b := x.2) hx).1
  refine wpAny_call (codeAny_call_def (fd := fdOf C doc pm an c' ctv) (body := C.body) (by have := rm.depth; omega) hget hfd (g.ok.nolimit.keeps up) (hcf.rec g.sub) rfl (BindsTo.of_eq (hbind doc pm an c' ctv vs hvl)) hcell hcl ?_ hco hgen hk)
  intro h₁ hns hkp
  have hkp' : ∀ b o, s.heap.get? b = some o → h₁.get? b = some o := hkp
  have hL : s.heap.objs.size < h₁.objs.size := hns.lt
  let K := actIn (fdOf C doc pm an c' ctv) a A n s fz (O.map (·.1))
  have hnd2 : (ps.zip vs).map (·.1) = ps := zip_names (by omega)
  have hmod : Mod B (· ∈ K.wr) s.heap h₁ := Mod.of_keep hkp' (Nat.le_of_lt hL)
  have lkp : ∀ (l : List (Str × Value)) (x : Str) (u : Value), (l.map (·.1)).Nodup → l.lookup x = some u → l.reverse.lookup x = some u := by
    intro l x u nd e
    refine lookup_of_mem_nd (by rw [List.map_reverse]; exact (List.pairwise_reverse.mpr (List.Pairwise.imp (fun h => Ne.symm h) nd))) (List.mem_reverse.mpr (lookup_some_mem e))
  have S : StF B K (ps.zip ds ++ cap) O [] fz { s with heap := h₁, toks := s.toks + (ps.zip vs).length } := by
    refine ⟨g.keeps fun b o _ e => hkp' b o e, ⟨_, _, rfl⟩, hmod, Grow.refl, ⟨_, hns⟩, ?_, ?_, (fun _ h => nomatch h), (fun _ h => nomatch h), ?_, ?_, ?_, ?_, (fun x y c _ _ h => nomatch h), hk, rfl, rfl, ?_, fun _ h => nomatch h⟩
    · intro y dy e
      rw [List.lookup_append] at e
      cases q : (ps.zip ds).lookup y with
      | some d' =>
        rw [q] at e; cases e
        obtain ⟨u, hu, hr⟩ := zip_lookup r q
        have hyp : y ∈ ps := (List.of_mem_zip (lookup_some_mem q)).1
        exact ⟨u, .inl ⟨hloc y hyp, _, hns, lkp _ _ _ (by rw [hnd2]; exact hnd) hu⟩, hr⟩
      | none =>
        rw [q] at e
        have e : cap.lookup y = some dy := e
        obtain ⟨c, u, e1, e2, e3, e4⟩ := hcap (y, dy) (lookup_some_mem e)
        exact ⟨u, .inr ⟨.inr (hfree (y, dy) (lookup_some_mem e)), c, e1, e3.keeps hkp'⟩, e4⟩
    · intro p hp
      exact (hown p hp).1.mono (fun _ _ e => e) fun ob e => hkp' _ ob e
    · show (s.heap.objs.size :: ([] ++ O.map (·.1))).Nodup
      rw [List.nil_append]
      refine List.nodup_cons.mpr ⟨fun q => ?_, hndO⟩
      obtain ⟨p, hp, e⟩ := List.mem_map.mp q
      have := (hown p hp).2.2.2
      rw [e] at this
      exact Nat.lt_irrefl _ this
    · intro b hb
      rcases List.mem_cons.mp hb with q | q
      · exact ⟨q ▸ g.none_of_le (Nat.le_refl _), q ▸ g.not_tab (Nat.le_refl _), q ▸ hL⟩
      · have q : b ∈ O.map (·.1) := q
        obtain ⟨p, hp, e⟩ := List.mem_map.mp q
        have := (hown p hp).2
        rw [e] at this
        exact ⟨this.1, this.2.1, Nat.lt_trans this.2.2 hL⟩
    · intro b hb
      rcases List.mem_cons.mp hb with q | q
      · exact .inl (q ▸ Nat.le_refl _)
      · exact .inr q
    · exact fun x c hc => .inr (hclo x c hc)
    · exact ⟨rm.handled, by have := rm.depth; show A.depth + 1 + n < _; omega, by have := rm.units; show A.units + 3 + 4 * n + 64 < _; omega⟩
  obtain ⟨o, hex, hoc⟩ := h A s fz a doc pm an c' ctv
  refine hex [] [] _ ⟨fz, by rw [List.append_nil]; exact S⟩ _ _ fun fl s₂ o₂ m₂ => ?_
  rcases hoc with rfl | ⟨rfl, ρ', rfl⟩
  · obtain ⟨v, rfl, fz', S₂⟩ := o₂
    rw [List.append_nil] at S₂
    obtain ⟨h', t', e⟩ := S₂.rel
    have := hQ v fz' h' t' S₂.grow (by rw [e] at S₂; exact S₂.g) (S₂.tmp (v, d) (by simp)) (by have := S₂.mod; rw [e] at this; exact this) (fun p hp => by have := S₂.own p hp; rw [e] at this; exact this)
    rw [e]; exact this
  · obtain ⟨rfl, fz', S₂⟩ := o₂
    rw [List.append_nil] at S₂
    obtain ⟨h', t', e⟩ := S₂.rel
    have := hQ .none fz' h' t' S₂.grow (by rw [e] at S₂; exact S₂.g) rfl (by have := S₂.mod; rw [e] at this; exact this) (fun p hp => by have := S₂.own p hp; rw [e] at this; exact this)
    rw [e]; exact this

theorem Keep.fnd {B : Bs} {fz : Fz} {h : Heap} {v : Value} {C : Clo} (g : G B fz h) (r : Rep fz v (.fn C)) : Looks (model B.prog B.w) h (keeperOf v) .frame := by
  obtain ⟨a, fo, doc, pm, an, c', ctv, rfl, hfa, hfd, hcf⟩ := r
  refine (Looks.ld (part := none) (g.sub _ _ hfa)).andThen ?_
  rw [hfd]; exact .now

section
variable {B : Bs} {K : Act} {ρ ρ' : Rho} {O O₁ O₂ R : Own'} {T : Tmp} {fz : Fz} {s : Shared} {o : Out}

/-- what a caller of a captured function has to show -/
theorem StF.capts {C : Clo} {cap : Rho} {Oc : Own'} (S : StF B K ρ O T fz s) (hO : ∀ a ∈ Oc.map (·.1), a ∈ O.map (·.1)) (hcap : ∀ p ∈ cap, ρ.lookup p.1 = some p.2 ∧ K.env.kindOf p.1 ≠ some .local ∧ (C.clo.lookup p.1).isSome = true)
    (hsub : ∀ x c, C.clo.lookup x = some c → K.env.cells.lookup x = some c) (hall : ∀ x c, C.clo.lookup x = some c → ∃ p ∈ cap, p.1 = x) :
    (∀ p ∈ cap, ∃ c u, C.clo.lookup p.1 = some c ∧ c ∉ Oc.map (·.1) ∧ s.heap.IsCell c (some u) ∧ Rep fz u p.2) ∧ (∀ x c, C.clo.lookup x = some c → c < s.heap.objs.size ∧ c ∉ Oc.map (·.1)) := by
  have nin : ∀ x c, C.clo.lookup x = some c → c ∉ Oc.map (·.1) := fun x c hc q => by
    have hm := hO c q
    have nd := List.nodup_append.mp (List.nodup_cons.mp S.apart).2
    rcases S.capt x c (hsub x c hc) with h | ⟨h1, h2⟩
    · exact nd.2.2 c h c hm rfl
    · rcases S.fresh c (List.mem_cons_of_mem _ (List.mem_append_right _ hm)) with h | h
      · exact absurd h1 (Nat.not_lt.mpr h)
      · exact h2 h
  have main : ∀ p ∈ cap, ∃ c u, C.clo.lookup p.1 = some c ∧ c ∉ Oc.map (·.1) ∧ s.heap.IsCell c (some u) ∧ Rep fz u p.2 := fun p hp => by
    obtain ⟨e, hk, hs⟩ := hcap p hp
    obtain ⟨c, hc⟩ := Option.isSome_iff_exists.mp hs
    obtain ⟨u, hv, hr⟩ := S.var _ _ e
    rcases hv with ⟨k, _⟩ | ⟨_, c', hc', hi⟩
    · exact absurd k hk
    · rw [hsub _ _ hc] at hc'; cases hc'
      exact ⟨c, u, hc, nin _ _ hc, hi, hr⟩
  refine ⟨main, fun x c hc => ⟨?_, nin x c hc⟩⟩
  obtain ⟨p, hp, rfl⟩ := hall x c hc
  obtain ⟨c', u, e1, _, e3, _⟩ := main p hp
  rw [hc] at e1; cases e1
  exact e3.lt

/-- behind a call that changed objects of the caller's -/
theorem StF.after {Oc Oc' : Own'} {fz' : Fz} {h' : Heap} {t' : Nat} (S : StF B K ρ (O₁ ++ (Oc ++ O₂)) T fz s) (gr : Grow fz fz' s.heap) (g : G B fz' h') (md : Mod B (· ∈ Oc.map (·.1)) s.heap h') (hn : ∀ p ∈ Oc', OwnAt fz' h' p.1 p.2) (he : Oc'.map (·.1) = Oc.map (·.1)) :
    StF B K ρ (O₁ ++ (Oc' ++ O₂)) T fz' { s with heap := h', toks := t' } := by
  have eo : ∀ X : Own', X.map (·.1) = Oc.map (·.1) → owns K (O₁ ++ (X ++ O₂)) = owns K (O₁ ++ (Oc ++ O₂)) := fun X hX => by unfold owns; rw [List.map_append, List.map_append, hX, List.map_append, List.map_append]
  have S1 : StF B K ρ (O₁ ++ (anys (Oc.map (·.1)) ++ O₂)) T fz s := by
    have e := eo (anys (Oc.map (·.1))) (by rw [List.map_map]; exact List.map_id' _)
    refine { S with own := fun p hp => ?_, apart := e ▸ S.apart, off := e ▸ S.off, fresh := e ▸ S.fresh }
    rcases List.mem_append.mp hp with q | q
    · exact S.own p (List.mem_append_left _ q)
    · rcases List.mem_append.mp q with q | q
      · obtain ⟨b, _, rfl⟩ := List.mem_map.mp q
        trivial
      · exact S.own p (List.mem_append_right _ (List.mem_append_right _ q))
  have S2 := S1.step (t' := t') g gr md (fun a ha => .inr (List.mem_append_right _ (List.mem_append_left _ (List.mem_map.mpr ⟨a, ha, rfl⟩))))
  have e := (eo Oc' he).trans (eo (anys (Oc.map (·.1))) (by rw [List.map_map]; exact List.map_id' _)).symm
  refine { S2 with own := fun p hp => ?_, apart := e ▸ S2.apart, off := e ▸ S2.off, fresh := e ▸ S2.fresh }
  rcases List.mem_append.mp hp with q | q
  · exact S2.own p (List.mem_append_left _ q)
  · rcases List.mem_append.mp q with q | q
    · exact hn p q
    · exact S2.own p (List.mem_append_right _ (List.mem_append_right _ q))

theorem StF.ofs {Oc : Own'} (S : StF B K ρ (O₁ ++ (Oc ++ O₂)) T fz s) : (∀ p ∈ Oc, OwnAt fz s.heap p.1 p.2 ∧ fz p.1 = none ∧ ¬ isTab B p.1 ∧ p.1 < s.heap.objs.size) ∧ (Oc.map (·.1)).Nodup ∧ (∀ a ∈ Oc.map (·.1), a ∈ (O₁ ++ (Oc ++ O₂)).map (·.1)) := by
  have hin : ∀ p ∈ Oc, p ∈ O₁ ++ (Oc ++ O₂) := fun p hp => List.mem_append_right _ (List.mem_append_left _ hp)
  refine ⟨fun p hp => ⟨S.own p (hin p hp), S.off p.1 (List.mem_cons_of_mem _ (List.mem_append_right _ (List.mem_map_of_mem (hin p hp))))⟩, ?_, fun a ha => ?_⟩
  · have nd := (List.nodup_append.mp (List.nodup_cons.mp S.apart).2).2.1
    refine List.Nodup.sublist ?_ nd
    rw [List.map_append, List.map_append]
    exact (List.sublist_append_left _ _).trans (List.sublist_append_right _ _)
  · rw [List.map_append, List.map_append]
    exact List.mem_append_right _ (List.mem_append_left _ ha)

/-- f(..) of a captured function: a value -/
theorem Ev.callC {f : Expr} {args : List Expr} {pos : Pos} {C : Clo} {cap : Rho} {ds : List D} {d : D} {m : Nat} (hf : Ev B K ρ O f (.fn C)) (ha : Evs B K ρ O args ds) (hs : CSpec B m C cap [] [] ds d) (hm : m ≤ K.n)
    (hcap : ∀ p ∈ cap, ρ.lookup p.1 = some p.2 ∧ K.env.kindOf p.1 ≠ some .local ∧ (C.clo.lookup p.1).isSome = true) (hsub : ∀ x c, C.clo.lookup x = some c → K.env.cells.lookup x = some c) (hall : ∀ x c, C.clo.lookup x = some c → ∃ p ∈ cap, p.1 = x)
    (hp : (backTo pos (starEach args K.env)).any (·.1) = false := by rfl)
    (he : eval (.Call f args [] pos) K.env = (do callWith pos (← eval f K.env) [] (backTo pos (starEach args K.env)) []) := by rfl) : Ev B K ρ O (.Call f args [] pos) d := fun F T s S Q E hQ => by
  rw [he]
  refine wpAny_bind (hf F T s S _ _ fun v₁ s₁ S₁ m₁ => ?_)
  refine callWith_of (P := fun h => ∃ fz, G B fz h ∧ Rep fz v₁ (.fn C)) (by simp [hp]) (fun h ⟨fz, g, r⟩ => ⟨.frame, .inl rfl, Keep.fnd g r⟩) (evalArgs_of_spliced hp (ha F _ s₁ pos S₁ _ _ fun vs s₂ hl S₂ m₂ => ?_))
  obtain ⟨fz, S₂⟩ := S₂
  have r : Reps fz vs ds := Reps.of_zip hl fun p hp => S₂.tmp p (List.mem_append_left _ hp)
  have rf : Rep fz v₁ (.fn C) := S₂.tmp (v₁, .fn C) (by simp)
  refine ⟨⟨fz, S₂.g, rf⟩, ?_⟩
  have hc := S₂.capts (C := C) (cap := cap) (Oc := []) (fun _ h => nomatch h) hcap hsub hall
  refine hs _ fz s₂ v₁ vs (S₂.room.le hm) S₂.g rf hc.1 r (fun _ h => nomatch h) List.nodup_nil hc.2 _ _ fun r fz' h' t' gr g rr md _ => ?_
  have S₃ := (S₂.step (t' := t') g gr md (fun a ha => nomatch ha)).push rr
  exact hQ r _ ⟨fz', S₃.subT (by intro p hp; rcases List.mem_cons.mp hp with h | h <;> simp [h])⟩ ((m₁.trans m₂ fun _ h => h.elim).trans md fun _ h => nomatch h)

/-- f(..) of a captured function, as a statement: it gives None, and changes objects of the caller's -/
theorem Ex1.callC {f : Expr} {args : List Expr} {pos spos : Pos} {C : Clo} {cap : Rho} {Oc Oc' : Own'} {ds : List D} {m : Nat} (hf : Ev B K ρ (O₁ ++ (Oc ++ O₂)) f (.fn C)) (ha : Evs B K ρ (O₁ ++ (Oc ++ O₂)) args ds) (hs : CSpec B m C cap Oc Oc' ds .none) (hm : m ≤ K.n)
    (hcap : ∀ p ∈ cap, ρ.lookup p.1 = some p.2 ∧ K.env.kindOf p.1 ≠ some .local ∧ (C.clo.lookup p.1).isSome = true) (hsub : ∀ x c, C.clo.lookup x = some c → K.env.cells.lookup x = some c) (hall : ∀ x c, C.clo.lookup x = some c → ∃ p ∈ cap, p.1 = x) (heq : Oc'.map (·.1) = Oc.map (·.1))
    (hi : interactive K.env = false := by rfl) (hsw : swapsWith (.Call f args [] pos) none spos.line K.env = pure false := by rfl)
    (hp : (backTo pos (starEach args K.env)).any (·.1) = false := by rfl)
    (he : eval (.Call f args [] pos) K.env = (do callWith pos (← eval f K.env) [] (backTo pos (starEach args K.env)) []) := by rfl) :
    Ex1 B K ρ (O₁ ++ (Oc ++ O₂)) (.Expr (.Call f args [] pos) spos) (.next ρ (O₁ ++ (Oc' ++ O₂))) := fun F T s S Q E hQ => by
  refine wpAny_Expr ?_ hi hsw
  rw [he]
  refine wpAny_bind (hf F T s S _ _ fun v₁ s₁ S₁ m₁ => ?_)
  refine callWith_of (P := fun h => ∃ fz, G B fz h ∧ Rep fz v₁ (.fn C)) (by simp [hp]) (fun h ⟨fz, g, r⟩ => ⟨.frame, .inl rfl, Keep.fnd g r⟩) (evalArgs_of_spliced hp (ha F _ s₁ pos S₁ _ _ fun vs s₂ hl S₂ m₂ => ?_))
  obtain ⟨fz, S₂⟩ := S₂
  have r : Reps fz vs ds := Reps.of_zip hl fun p hp => S₂.tmp p (List.mem_append_left _ hp)
  have rf : Rep fz v₁ (.fn C) := S₂.tmp (v₁, .fn C) (by simp)
  refine ⟨⟨fz, S₂.g, rf⟩, ?_⟩
  rw [List.append_assoc, List.append_assoc] at S₂
  have ho := S₂.ofs
  have hc := S₂.capts (C := C) (cap := cap) (Oc := Oc) ho.2.2 hcap hsub hall
  refine hs _ fz s₂ v₁ vs (S₂.room.le hm) S₂.g rf hc.1 r ho.1 ho.2.1 hc.2 _ _ fun r fz' h' t' gr g rr md hn => ?_
  have rr : r = .none := rr
  subst rr
  have S₃ := S₂.after (t' := t') gr g md hn heq
  refine hQ .next _ ⟨rfl, fz', ?_⟩ ((mod_no (m₁.trans m₂ fun _ h => h.elim)).trans md fun b hb => .inl ?_)
  · rw [List.append_assoc, List.append_assoc]
    exact S₃.subT (by intro p hp; simp [hp])
  · refine List.mem_cons_of_mem _ (List.mem_append_right _ ?_)
    rw [List.map_append, List.map_append]
    exact List.mem_append_right _ (List.mem_append_left _ hb)
end
end Mine

set_option Elab.async false
set_option maxRecDepth 100000
namespace Mine
open PySem PySem.W PySem.Calls PyProof.Rows

section
variable {B : Bs} {K : Act} {ρ ρ' : Rho} {O O' F : Own'} {T : Tmp} {fz : Fz} {s : Shared} {o : Out}

theorem StF.perm (S : StF B K ρ O T fz s) (h : O.Perm O') : StF B K ρ O' T fz s := by
  have hp : (owns K O).Perm (owns K O') := List.Perm.cons _ (List.Perm.append_left _ (h.map _))
  exact { S with own := fun p hp' => S.own p (h.mem_iff.mpr hp'), apart := hp.nodup_iff.mp S.apart, off := fun a ha => S.off a (hp.mem_iff.mpr ha), fresh := fun a ha => S.fresh a (hp.mem_iff.mpr ha) }

theorem StF.addAnys : ∀ {wr : List Addr} {O : Own'}, StF B K ρ O T fz s → wr.Nodup → (∀ b ∈ wr, b ∉ owns K O ∧ fz b = none ∧ ¬ isTab B b ∧ b < s.heap.objs.size ∧ K.s₀.heap.objs.size ≤ b) → StF B K ρ (anys wr ++ O) T fz s
  | [], _, S, _, _ => S
  | a :: wr, O, S, nd, h => by
    obtain ⟨h1, h2⟩ := List.nodup_cons.mp nd
    have S1 := StF.addAnys (wr := wr) S h2 fun b hb => h b (List.mem_cons_of_mem _ hb)
    have ha := h a List.mem_cons_self
    refine S1.addAny (a := a) (fun q => ?_) ha.2.1 ha.2.2.1 ha.2.2.2.1 ha.2.2.2.2
    rcases List.mem_cons.mp q with q | q
    · exact ha.1 (q ▸ List.mem_cons_self)
    · rcases List.mem_append.mp q with q | q
      · exact ha.1 (List.mem_cons_of_mem _ (List.mem_append_left _ q))
      · rw [List.map_append] at q
        rcases List.mem_append.mp q with q | q
        · rw [List.map_map] at q
          obtain ⟨b, hb, e⟩ := List.mem_map.mp q
          exact h1 (e ▸ hb)
        · exact ha.1 (List.mem_cons_of_mem _ (List.mem_append_right _ q))

/-- new places are the activation's to write -/
theorem StF.newIter {h' : Heap} {tk : Nat} {wr : List Addr} (S : StF B K ρ (O ++ F) T fz s) (hk : ∀ b ob, s.heap.get? b = some ob → h'.get? b = some ob) (hz : s.heap.objs.size ≤ h'.objs.size) (nd : wr.Nodup) (hr : ∀ b ∈ wr, s.heap.objs.size ≤ b ∧ b < h'.objs.size) :
    StF B K ρ (O ++ (anys wr ++ F)) T fz { s with heap := h', toks := tk } := by
  have S1 := S.step (h' := h') (t' := tk) (P := No) (S.g.keeps fun b ob _ e => hk b ob e) Grow.refl (Mod.of_keep hk hz) (fun _ h => h.elim)
  have S2 := S1.addAnys (wr := wr) nd fun b hb => ⟨fun q => Nat.lt_irrefl _ (Nat.lt_of_lt_of_le (S.off b q).2.2 (hr b hb).1), S.g.none_of_le (hr b hb).1, S.g.not_tab (hr b hb).1, (hr b hb).2, Nat.le_trans S.mod.size (hr b hb).1⟩
  refine S2.perm ?_
  rw [← List.append_assoc, ← List.append_assoc]
  exact List.Perm.append_right _ List.perm_append_comm

theorem Itr.more {A : Around} {t : Expr} {it : Value} {wr fp : List Addr} {Sti : Nat → Heap → Prop} {vals : List D} {T T' : Tmp} (I : Itr B A t it wr fp Sti vals T) (h : ∀ p ∈ T, p ∈ T') : Itr B A t it wr fp Sti vals T' where
  frame := I.frame
  fpOK := fun b hb => (I.fpOK b hb).imp id fun ⟨d, hm, hd⟩ => ⟨d, h _ hm, hd⟩
  item := fun i d s fz Q E hv hs g hw hT hQ => I.item i d s fz Q E hv hs g hw (fun p hp => hT p (h p hp)) hQ
  done := I.done
  self := I.self

theorem Itr.ofWalks {A : Around} {t : Expr} {I : Addr} {wr fp : List Addr} {n : Nat} {P : Nat → Value → Prop} {Sti : Nat → Heap → Prop} {vals : List D} {T : Tmp} (W : Walks B.prog B.w A I fp wr n P Sti) (hn : vals.length = n)
    (hfp : ∀ b ∈ fp, b ∈ wr ∨ ∃ d, (Value.ref b, d) ∈ T ∧ ((∃ ds, d = .list ds) ∨ ∃ ds, d = .tup ds))
    (hP : ∀ i d v fz h, vals[i]? = some d → P i v → Sti i h → G B fz h → (∀ p ∈ T, Rep fz p.1 p.2) → Rep fz v d)
    (hgo : ∀ i v (s : Shared) (Q : Unit → Shared → Prop) (E : Value → Shared → Prop), Sti i s.heap → Q () s → wpAny (model B.prog B.w) A (letOwnedTupleGo t (.ref I) v) Q E s) : Itr B A t (.ref I) wr fp Sti vals T where
  frame := W.frame
  fpOK := hfp
  item := fun i d s fz Q E hv hs g hw hT hQ => by
    have hi : i < n := hn ▸ (List.getElem?_eq_some_iff.mp hv).1
    refine with_size (W.item i s _ _ hi hs fun v h' tk hp hs' hk hz => ?_)
    refine hgo (i + 1) v _ _ E hs' ?_
    have g' : G B fz h' := g.keeps fun b ob hb e => hk b ob (fun q => by rcases hb with z | z; rw [(hw b q).1] at z; cases z; exact (hw b q).2.1 z) e
    exact hQ v fz h' tk hs' Grow.refl g' (hP i d v fz s.heap hv hp hs g hT) ⟨fun a ob h1 _ e => hk a ob h1 e, hz⟩
  done := fun s Q E hs hQ => W.done s Q E (hn ▸ hs) hQ
  self := fun i s Q E hs hQ => W.self i s Q E hs hQ

/-- an iterator is made for a value -/
def ItMake (B : Bs) (A : Around) (t : Expr) (d : D) (vals : List D) : Prop := A.handled = none → ∀ (fz : Fz) (s : Shared) (v : Value), G B fz s.heap → Rep fz v d → ∀ (Q : Value → Shared → Prop) (E : Value → Shared → Prop),
  (∀ (it : Value) (wr fp : List Addr) (Sti : Nat → Heap → Prop) (h' : Heap) (tk : Nat), (∀ b ob, s.heap.get? b = some ob → h'.get? b = some ob) → s.heap.objs.size ≤ h'.objs.size → wr.Nodup → (∀ b ∈ wr, s.heap.objs.size ≤ b ∧ b < h'.objs.size) → Itr B A t it wr fp Sti vals [(v, d)] → Sti 0 h' →
    Q it { s with heap := h', toks := tk }) → wpAny (model B.prog B.w) A (pyIter v) Q E s

theorem EvIt.of {t iter : Expr} {d : D} {vals : List D} (h : Ev B K ρ O iter d) (hm : ItMake B K.A t d vals) : EvIt B K ρ O t iter vals := fun F T s S Q E hQ =>
  h F T s S _ _ fun v s₁ S₁ m₁ => by
    obtain ⟨fz, S₁⟩ := S₁
    refine hm S₁.room.handled fz s₁ v S₁.g (S₁.tmp (v, d) List.mem_cons_self) Q E fun it wr fp Sti h' tk hk hz nd hr I h0 => ?_
    exact hQ it wr fp Sti ((v, d) :: T) _ (I.more fun p hp => by rw [List.mem_singleton.mp hp]; exact List.mem_cons_self) h0 (fun p hp => List.mem_cons_of_mem _ hp) ⟨fz, S₁.newIter hk hz nd hr⟩ (m₁.trans (Mod.of_keep (S := No) hk hz) fun _ h => h.elim)
      fun b hb => Nat.le_trans m₁.size (hr b hb).1

/-- a call makes an iterable, and an iterator is made of it -/
def CMake (B : Bs) (A : Around) (t : Expr) (fv : Value) (ds : List D) (vals : List D) : Prop := A.handled = none → ∀ (fz : Fz) (s : Shared) (vs : List Value), G B fz s.heap → Reps fz vs ds → ∀ (Q : Value → Shared → Prop) (E : Value → Shared → Prop),
  (∀ (it : Value) (wr fp : List Addr) (Sti : Nat → Heap → Prop) (h' : Heap) (tk : Nat), (∀ b ob, s.heap.get? b = some ob → h'.get? b = some ob) → s.heap.objs.size ≤ h'.objs.size → wr.Nodup → (∀ b ∈ wr, s.heap.objs.size ≤ b ∧ b < h'.objs.size) → Itr B A t it wr fp Sti vals (vs.zip ds) → Sti 0 h' →
    Q it { s with heap := h', toks := tk }) → wpAny (model B.prog B.w) A (call fv vs) (fun x s₁ => wpAny (model B.prog B.w) A (pyIter x) Q E s₁) E s

theorem EvIt.call {t f : Expr} {args : List Expr} {pos : Pos} {fv : Value} {ds vals : List D} (hf : Ev B K ρ O f (.raw fv)) (ha : Evs B K ρ O args ds) (hk : Keep B fv) (hm : CMake B K.A t fv ds vals)
    (hp : (backTo pos (starEach args K.env)).any (·.1) = false := by rfl)
    (he : eval (.Call f args [] pos) K.env = (do callWith pos (← eval f K.env) [] (backTo pos (starEach args K.env)) []) := by rfl) : EvIt B K ρ O t (.Call f args [] pos) vals := fun F T s S Q E hQ => by
  rw [he]
  refine wpAny_bind (hf F T s S _ _ fun v₁ s₁ S₁ m₁ => ?_)
  have e : v₁ = fv := by obtain ⟨fz, S₁⟩ := S₁; exact S₁.tmp (v₁, .raw fv) (by simp)
  subst e
  refine callWith_of (P := fun h => ∀ a o, B.h₀.get? a = some o → h.get? a = some o) (by simp [hp]) (fun h k => hk h k) (evalArgs_of_spliced hp (ha F _ s₁ pos S₁ _ _ fun vs s₂ hl S₂ m₂ => ?_))
  obtain ⟨fz, S₂⟩ := S₂
  refine ⟨fun a o q => S₂.g.sub a o (S₂.g.base a o q), ?_⟩
  have r : Reps fz vs ds := Reps.of_zip hl fun p hp => S₂.tmp p (List.mem_append_left _ hp)
  refine hm S₂.room.handled fz s₂ vs S₂.g r Q E fun it wr fp Sti h' tk hk hz nd hr I h0 => ?_
  exact hQ it wr fp Sti (vs.zip ds ++ T) _ (I.more fun p hp => List.mem_append_left _ hp) h0 (fun p hp => List.mem_append_right _ hp) ⟨fz, (S₂.newIter hk hz nd hr).subT fun p hp => by rcases List.mem_append.mp hp with h | h <;> simp [h]⟩ ((m₁.trans m₂ fun _ h => h.elim).trans (Mod.of_keep (S := No) hk hz) fun _ h => h.elim)
    fun b hb => Nat.le_trans (Nat.le_trans m₁.size m₂.size) (hr b hb).1
end

section
variable {B : Bs} {A : Around}

/-- a target that takes no tuple apart -/
def Plain : Expr → Prop
  | .Tuple .. => False
  | .List .. => False
  | _ => True
theorem go_plain {t : Expr} (h : Plain t) (I : Addr) (v : Value) : letOwnedTupleGo t (.ref I) v = pure () := by
  cases t <;> first | rfl | exact h.elim

theorem push_keep {s : Shared} {ob : Obj} : ∀ b o', s.heap.get? b = some o' → (s.heap.push ob).get? b = some o' := fun _ _ e => Heap.get?_push_of_some _ e
theorem push_size {s : Shared} {ob : Obj} : s.heap.objs.size ≤ (s.heap.push ob).objs.size := by rw [Heap.size_push]; exact Nat.le_succ _
theorem push_one {s : Shared} {ob : Obj} : ∀ b ∈ [s.heap.objs.size], s.heap.objs.size ≤ b ∧ b < (s.heap.push ob).objs.size := fun b hb => by
  rw [List.mem_singleton.mp hb, Heap.size_push]; exact ⟨Nat.le_refl _, Nat.lt_succ_self _⟩

theorem go_list {t : Expr} {I a : Addr} {i : Nat} {v : Value} {s : Shared} {M : Model} {Q : Unit → Shared → Prop} {E : Value → Shared → Prop} (hit : s.heap.IsListIter I a i) (hQ : Q () s) : wpAny M A (letOwnedTupleGo t (.ref I) v) Q E s := by
  obtain ⟨o, ho, hc, hd⟩ := hit
  have main : wpAny M A (match (Value.ref I, v) with
      | (.ref r, .ref a) => (do
        let o ← load r
        match o.cls, o.data with
        | .type n, .fields vs =>
          if ["enumerate", "zip", "dict_itemiterator", "dict_reverseitemiterator", "odict_iterator", "itertools.zip_longest", "itertools.pairwise"].contains n && vs[0]? == some (rawInt a) then
            rule "for.unpacks-the-owned-tuple"
            updateField r 0 .none
        | _, _ => pure ())
      | _ => pure ()) Q E s := by
    cases v with
    | ref b =>
      refine wpAny_bind (wpAny_load ho ?_)
      rw [hc, hd]
      exact wpAny_of_eq (a := ()) (by rfl) hQ
    | _ => exact wpAny_pure hQ
  cases t <;> first | exact wpAny_pure hQ | exact main

theorem reps_of_list {fz : Fz} {h : Heap} {a : Addr} {items : Array Value} {ds : List D} (g : G B fz h) (r : Rep fz (.ref a) (.list ds)) (hl : h.IsList a items) : Reps fz items.toList ds := by
  unfold Rep at r
  obtain ⟨a', n', vs', e, e1, e2⟩ := r
  cases e
  obtain ⟨o, ho, _, n₂, hd₂⟩ := hl
  rw [g.sub _ _ e1] at ho
  cases ho
  have : (lstObj vs' n').data = .seq items n₂ := hd₂
  injection this with q _
  rw [← q]
  exact e2

theorem ItMake.list {t : Expr} {ds : List D} : ItMake B A t (.list ds) ds := fun hh fz s v g r Q E hQ => by
  obtain ⟨a, vs, n, rfl, ha, hl, hr⟩ := r.isList g
  have hlt : a < s.heap.objs.size := Heap.lt_size ha
  refine wpAny_pyIter_list hl (hQ _ [s.heap.objs.size] [s.heap.objs.size, a] (fun i h => h.IsListIter s.heap.objs.size a i ∧ h.IsList a vs.toArray) _ s.toks push_keep push_size (by simp) push_one ?_ ?_)
  · refine Itr.ofWalks (Walks.list hh s.heap.objs.size a (Nat.ne_of_lt hlt) vs.toArray) (by rw [List.size_toArray, hr.length]) ?_ ?_ ?_
    · intro b hb
      rcases List.mem_cons.mp hb with q | q
      · exact .inl (List.mem_singleton.mpr q)
      · rw [List.mem_singleton.mp q]
        exact .inr ⟨_, List.mem_singleton.mpr rfl, .inl ⟨_, rfl⟩⟩
    · intro i d v fz' h₁ hd hv hst g₁ hT
      obtain ⟨x, hx, hx2⟩ := (reps_of_list g₁ (hT (.ref a, .list ds) (List.mem_singleton.mpr rfl)) hst.2).get i d hd
      have hv : vs.toArray[i]? = some v := hv
      rw [List.getElem?_toArray] at hv
      have : vs[i]? = some x := hx
      rw [this] at hv; cases hv
      exact hx2
    · exact fun i v s Q E st hq => go_list st.1 hq
  · exact ⟨⟨_, Heap.get?_push_size _ rfl, rfl, rfl⟩, hl.push _⟩

theorem ItMake.str {t : Expr} {l : List Nat} (hp : Plain t) : ItMake B A t (.str l) (l.map fun c => .str [c]) := fun hh fz s v g r Q E hQ => by
  obtain ⟨u, rfl⟩ := r
  refine wpAny_pyIter_str fun o Sti W h0 => hQ _ [s.heap.objs.size] [s.heap.objs.size] Sti _ s.toks push_keep push_size (by simp) push_one ?_ h0
  refine Itr.ofWalks (W A hh) (by simp) (fun b hb => .inl hb) ?_ (fun i v s Q E _ hq => wpAny_of_eq (go_plain hp _ _) hq)
  rintro i d v fz' h₁ hd ⟨c, u, hc, rfl⟩ _ _ _
  have hc : l.toArray[i]? = some c := hc
  rw [List.getElem?_toArray] at hc
  rw [List.getElem?_map, hc] at hd
  cases hd
  exact ⟨_, rfl⟩

theorem ItMake.bytes {t : Expr} {l : List Nat} (hp : Plain t) : ItMake B A t (.bytes l) (l.map fun (c : Nat) => D.int (c : Int)) := fun hh fz s v g r Q E hQ => by
  obtain ⟨⟨u, rfl⟩, hr⟩ := r
  refine PySem.W.KBw.pyIter_bytes (hQ _ [s.heap.objs.size] [s.heap.objs.size] (fun i h => PySem.W.KBw.IsBytesIter h s.heap.objs.size (l.map Nat.toUInt8).toArray u i) _ s.toks push_keep push_size (by simp) push_one ?_ ?_)
  · refine Itr.ofWalks (PySem.W.KBw.walks hh s.heap.objs.size (l.map Nat.toUInt8).toArray u) (by simp) (fun b hb => .inl hb) ?_ (fun i v s Q E _ hq => wpAny_of_eq (go_plain hp _ _) hq)
    rintro i d v fz' h₁ hd ⟨c, u, hc, rfl⟩ _ _ _
    rw [List.getElem?_toArray, List.getElem?_map] at hc
    rw [List.getElem?_map] at hd
    cases q : l[i]? with
    | none => rw [q] at hd; cases hd
    | some x =>
      rw [q] at hc hd
      cases hc; cases hd
      refine ⟨u, ?_⟩
      have : (Nat.toUInt8 x).toNat = x := by
        have := hr x (List.mem_of_getElem? q)
        show x % 256 = x
        omega
      rw [this]
  · exact ⟨_, Heap.get?_push_size _ rfl, rfl, rfl⟩

def intSeq (a c : Int) (n : Nat) : List D := (List.range n).map fun (i : Nat) => D.int (a + i * c)

theorem range_itr {t : Expr} (hp : Plain t) {a b c : Int} {u v x : Tok} {r : Addr} {n : Nat} {s : Shared} {T : Tmp} (hh : A.handled = none) (hr : IsRange s.heap r a b c u v x) (hs : Builtin.Range.small a b c = true) (hn : Builtin.Range.rangeSize a b c = n) {Q : Value → Shared → Prop} {E : Value → Shared → Prop}
    (hQ : ∀ ob, Itr B A t (.ref s.heap.objs.size) [s.heap.objs.size] [s.heap.objs.size] (fun i h => IsRangeIter h s.heap.objs.size (a + (i : Nat) * c) ((n : Int) - (i : Nat)) c) (intSeq a c n) T →
      IsRangeIter (s.heap.push ob) s.heap.objs.size (a + (0 : Nat) * c) ((n : Int) - (0 : Nat)) c → Q (.ref s.heap.objs.size) { s with heap := s.heap.push ob }) : wpAny (model B.prog B.w) A (pyIter (.ref r)) Q E s := by
  refine wpAny_pyIter_range hr hs (hQ _ ?_ ?_)
  · refine Itr.ofWalks (Walks.range hh s.heap.objs.size a c n) (by simp [intSeq]) (fun b hb => .inl hb) ?_ (fun i v s Q E _ hq => wpAny_of_eq (go_plain hp _ _) hq)
    rintro i d v fz' h₁ hd ⟨tk, rfl⟩ _ _ _
    unfold intSeq at hd
    rw [List.getElem?_map] at hd
    cases q : (List.range n)[i]? with
    | none => rw [q] at hd; cases hd
    | some j =>
      rw [q] at hd; cases hd
      have hj : i = j := by
        obtain ⟨h1, h2⟩ := List.getElem?_eq_some_iff.mp q
        rw [List.getElem_range] at h2; exact h2
      subst hj
      exact ⟨tk, rfl⟩
  · rw [hn]
    show (s.heap.push _).get? _ = some _
    rw [Heap.get?_push_size _ rfl]
    simp

theorem range_make {t : Expr} (hp : Plain t) {a b c : Int} {n : Nat} {u v x tk : Tok} {s : Shared} {T : Tmp} (hh : A.handled = none) (hs : Builtin.Range.small a b c = true) (hn : Builtin.Range.rangeSize a b c = n) {Q : Value → Shared → Prop} {E : Value → Shared → Prop}
    (hQ : ∀ (it : Value) (wr fp : List Addr) (Sti : Nat → Heap → Prop) (h' : Heap) (tk : Nat), (∀ b ob, s.heap.get? b = some ob → h'.get? b = some ob) → s.heap.objs.size ≤ h'.objs.size → wr.Nodup → (∀ b ∈ wr, s.heap.objs.size ≤ b ∧ b < h'.objs.size) → Itr B A t it wr fp Sti (intSeq a c n) T → Sti 0 h' → Q it { s with heap := h', toks := tk }) :
    wpAny (model B.prog B.w) A (pyIter (.ref s.heap.objs.size)) Q E { s with heap := s.heap.push { cls := .type "range", data := .fields #[.int a u, .int b v, .int c x] }, toks := tk } := by
  refine range_itr (T := T) (s := { s with heap := s.heap.push { cls := .type "range", data := .fields #[.int a u, .int b v, .int c x] }, toks := tk }) hp hh (IsRange.new s.heap a b c u v x) hs hn fun ob I h0 => ?_
  refine hQ _ _ _ _ _ tk (fun b ob e => Heap.get?_push_of_some _ (Heap.get?_push_of_some _ e)) (Nat.le_trans (push_size (s := s)) (push_size (s := { s with heap := s.heap.push _ }))) (by simp) ?_ I h0
  intro b hb
  rw [List.mem_singleton.mp hb]
  exact ⟨push_size (s := s), by rw [Heap.size_push (s.heap.push _)]; exact Nat.lt_succ_self _⟩

theorem reps1 {fz : Fz} {vs : List Value} {d : D} (r : Reps fz vs [d]) : ∃ v, vs = [v] ∧ Rep fz v d := by
  unfold Reps at r; obtain ⟨v, l, rfl, h1, h2⟩ := r; unfold Reps at h2; subst h2; exact ⟨v, rfl, h1⟩
theorem reps2 {fz : Fz} {vs : List Value} {d e : D} (r : Reps fz vs [d, e]) : ∃ v u, vs = [v, u] ∧ Rep fz v d ∧ Rep fz u e := by
  unfold Reps at r; obtain ⟨v, l, rfl, h1, h2⟩ := r; obtain ⟨u, rfl, h3⟩ := reps1 h2; exact ⟨v, u, rfl, h1, h3⟩
theorem reps3 {fz : Fz} {vs : List Value} {d e f : D} (r : Reps fz vs [d, e, f]) : ∃ v u x, vs = [v, u, x] ∧ Rep fz v d ∧ Rep fz u e ∧ Rep fz x f := by
  unfold Reps at r; obtain ⟨v, l, rfl, h1, h2⟩ := r; obtain ⟨u, x, rfl, h3, h4⟩ := reps2 h2; exact ⟨v, u, x, rfl, h1, h3, h4⟩

theorem CMake.range1 {t : Expr} (hp : Plain t) {b : Int} {n : Nat} (hs : Builtin.Range.small 0 b 1 = true) (hn : Builtin.Range.rangeSize 0 b 1 = n) : CMake B A t (.type "range") [.int b] (intSeq 0 1 n) := fun hh fz s vs g r Q E hQ => by
  obtain ⟨v, rfl, ⟨tv, rfl⟩⟩ := reps1 r
  exact call_range_1 (range_make hp hh hs hn hQ)
theorem CMake.range2 {t : Expr} (hp : Plain t) {a b : Int} {n : Nat} (hs : Builtin.Range.small a b 1 = true) (hn : Builtin.Range.rangeSize a b 1 = n) : CMake B A t (.type "range") [.int a, .int b] (intSeq a 1 n) := fun hh fz s vs g r Q E hQ => by
  obtain ⟨v, u, rfl, ⟨tv, rfl⟩, ⟨tu, rfl⟩⟩ := reps2 r
  exact call_range_2 (range_make hp hh hs hn hQ)
theorem CMake.range3 {t : Expr} (hp : Plain t) {a b c : Int} {n : Nat} (hc : c ≠ 0) (hs : Builtin.Range.small a b c = true) (hn : Builtin.Range.rangeSize a b c = n) (hd : Builtin.divisionGoesByPylong (b - a) c = false) : CMake B A t (.type "range") [.int a, .int b, .int c] (intSeq a c n) := fun hh fz s vs g r Q E hQ => by
  obtain ⟨v, u, x, rfl, ⟨tv, rfl⟩, ⟨tu, rfl⟩, ⟨tx, rfl⟩⟩ := reps3 r
  exact call_range_3 hc (range_make hp hh hs hn hQ) (.inl hd)

theorem CMake.reversed {t : Expr} (hp : Plain t) {ds : List D} : CMake B A t (.type "reversed") [.list ds] ds.reverse := fun hh fz s vs g r Q E hQ => by
  obtain ⟨v, rfl, r₁⟩ := reps1 r
  obtain ⟨a, vs, n, rfl, ha, hl, hr⟩ := r₁.isList g
  have hlt : a < s.heap.objs.size := Heap.lt_size ha
  have hrev : (s.heap.push (revObj a ((vs.toArray.size : Int) - 1))).IsRevIter s.heap.objs.size a ((vs.toArray.size : Int) - 1 - ((0 : Nat) : Int)) := ⟨_, Heap.get?_push_size _ rfl, rfl, by simp [revObj]⟩
  refine call_reversed_list hl (wpAny_pyIter_revIter hrev (hQ _ [s.heap.objs.size] [s.heap.objs.size, a] (fun i h => i ≤ vs.toArray.size ∧ h.IsRevIter s.heap.objs.size a ((vs.toArray.size : Int) - 1 - (i : Int)) ∧ h.IsList a vs.toArray) _ s.toks push_keep push_size (by simp) push_one ?_ ⟨Nat.zero_le _, hrev, hl.push _⟩))
  refine Itr.ofWalks (Walks.listRev hh s.heap.objs.size a (Nat.ne_of_lt hlt) vs.toArray) (by rw [List.length_reverse, List.size_toArray, hr.length]) ?_ ?_ (fun i v s Q E _ hq => wpAny_of_eq (go_plain hp _ _) hq)
  · intro b hb
    rcases List.mem_cons.mp hb with q | q
    · exact .inl (List.mem_singleton.mpr q)
    · rw [List.mem_singleton.mp q]
      exact .inr ⟨_, List.mem_singleton.mpr rfl, .inl ⟨_, rfl⟩⟩
  · intro i d v fz' h₁ hd hv hst g₁ hT
    have hR := reps_of_list g₁ (hT (.ref a, .list ds) (List.mem_singleton.mpr rfl)) hst.2.2
    have hlen : ds.length = vs.length := hr.length.symm
    have hi : i < ds.length := by
      have := (List.getElem?_eq_some_iff.mp hd).1
      rwa [List.length_reverse] at this
    have hd' : ds[ds.length - 1 - i]? = some d := by rw [← hd, List.getElem?_reverse hi]
    obtain ⟨x, hx, hx2⟩ := hR.get _ d hd'
    have hv : vs.toArray[vs.toArray.size - 1 - i]? = some v := hv
    rw [List.getElem?_toArray, List.size_toArray, ← hlen] at hv
    have hx : vs[ds.length - 1 - i]? = some x := hx
    rw [hx] at hv; cases hv
    exact hx2
end
end Mine

set_option Elab.async false
set_option maxRecDepth 100000
namespace Mine
open PySem PySem.W PySem.Calls PyProof.Rows

theorem neA {N a b : Nat} (h : a ≠ b) : (N + a : Nat) ≠ N + b := by omega
theorem neA0 {N b : Nat} (h : 0 ≠ b) : (N : Nat) ≠ N + b := by omega
theorem inA {N a b : Nat} (h : a < b) : N ≤ N + a ∧ N + a < N + b := by omega
theorem inA0 {N b : Nat} (h : 0 < b) : N ≤ N ∧ N < N + b := by omega
section
variable {B : Bs} {A : Around}

abbrev ZipSt (z TI TO i1 i2 l1 l2 : Addr) (xs ys : Array Value) (i : Nat) (h : Heap) : Prop :=
  IsZip h z TI TO .none ∧ IsPair h TI (.ref i1) (.ref i2) ∧ (∃ a b, IsPair h TO a b) ∧ h.IsListIter i1 l1 i ∧ h.IsListIter i2 l2 i ∧ h.IsList l1 xs ∧ h.IsList l2 ys

theorem Itr.zip2 {elts : List Expr} {k : Nat} {pos : Pos} {z TI TO i1 i2 l1 l2 : Addr} {us vs : List Value} {xs ys : List D} (hh : A.handled = none) (Z : ZipApart z TI TO i1 i2 l1 l2) (e1 : us.length = xs.length) (e2 : vs.length = ys.length) :
    Itr B A (.Tuple elts k pos) (.ref z) [z, TI, TO, i1, i2] [z, TI, TO, i1, i2, l1, l2] (ZipSt z TI TO i1 i2 l1 l2 us.toArray vs.toArray) ((xs.zip ys).map fun p => .tup [p.1, p.2]) ([Value.ref l1, Value.ref l2].zip [.list xs, .list ys]) where
  frame := fun i h h' hst hk => by
    obtain ⟨hz, hTI, ⟨a, b, hTO⟩, h1, h2, hl1, hl2⟩ := hst
    exact ⟨hk z (by simp) _ hz, hk TI (by simp) _ hTI, ⟨a, b, hk TO (by simp) _ hTO⟩, h1.at fun o e => hk i1 (by simp) o e, h2.at fun o e => hk i2 (by simp) o e,
      hl1.at fun o e => hk l1 (by simp) o e, hl2.at fun o e => hk l2 (by simp) o e⟩
  fpOK := fun b hb => by
    simp only [List.mem_cons, List.not_mem_nil, or_false] at hb
    rcases hb with rfl | rfl | rfl | rfl | rfl | rfl | rfl
    · exact .inl (by simp)
    · exact .inl (by simp)
    · exact .inl (by simp)
    · exact .inl (by simp)
    · exact .inl (by simp)
    · exact .inr ⟨_, List.mem_cons_self, .inl ⟨_, rfl⟩⟩
    · exact .inr ⟨_, List.mem_cons_of_mem _ List.mem_cons_self, .inl ⟨_, rfl⟩⟩
  item := fun i d s fz Q E hv hst g hw hT hQ => by
    obtain ⟨hz, hTI, ⟨a, b, hTO⟩, h1, h2, hl1, hl2⟩ := hst
    rw [List.getElem?_map] at hv
    obtain ⟨p, hp, rfl⟩ : ∃ p, (xs.zip ys)[i]? = some p ∧ D.tup [p.1, p.2] = d := by
      cases q : (xs.zip ys)[i]? with
      | none => rw [q] at hv; cases hv
      | some p => rw [q] at hv; cases hv; exact ⟨p, rfl, rfl⟩
    obtain ⟨px, py⟩ := p
    have hp2 := List.getElem?_zip_eq_some.mp hp
    obtain ⟨x, hx, rx⟩ := (reps_of_list g (hT (.ref l1, .list xs) List.mem_cons_self) hl1).get i px hp2.1
    obtain ⟨y, hy, ry⟩ := (reps_of_list g (hT (.ref l2, .list ys) (List.mem_cons_of_mem _ List.mem_cons_self)) hl2).get i py hp2.2
    have hx' : us.toArray[i]? = some x := by rw [List.getElem?_toArray]; exact hx
    have hy' : vs.toArray[i]? = some y := by rw [List.getElem?_toArray]; exact hy
    refine wpAny_pyNext_zip_item Z hz hTI hTO h1 h2 hl1 hl2 hx' hy' fun h' a1 a2 a3 a4 a5 a6 hk => ?_
    refine wpAny_letOwnedTupleGo_zip a1 fun h'' hz'' hs'' => ?_
    have lt : ∀ {c o}, s.heap.get? c = some o → c ≠ s.heap.objs.size := fun e => Nat.ne_of_lt (Heap.lt_size e)
    have keep : ∀ c o, c ∉ [z, TI, TO, i1, i2] → s.heap.get? c = some o → h''.get? c = some o := fun c o hc e => by
      simp only [List.mem_cons, List.not_mem_nil, or_false, not_or] at hc
      exact hs''.extBut _ _ hc.1 (hk c o hc.1 hc.2.2.1 hc.2.2.2.1 hc.2.2.2.2 e)
    have hTn : fz s.heap.objs.size = none := g.none_of_le (Nat.le_refl _)
    have hTt := g.not_tab (a := s.heap.objs.size) (Nat.le_refl _)
    have gT : h''.get? s.heap.objs.size = some (tupObj [x, y] 0) := hs''.extBut _ _ (lt hz).symm a5
    have g'' : G B fz h'' := g.keeps fun b ob hb e => keep b ob (fun q => by rcases hb with w | w; rw [(hw b q).1] at w; cases w; exact (hw b q).2.1 w) e
    refine hQ (.ref s.heap.objs.size) (fzSet fz s.heap.objs.size (tupObj [x, y] 0)) h'' s.toks ?_ (Grow.set hTn (Nat.le_refl _)) (g''.fzSet gT hTn hTt) ?_ ⟨fun c o h1 _ e => keep c o h1 e, ?_⟩
    · exact ⟨hz'', hs''.extBut _ _ Z.TIz (hk _ _ Z.TIz Z.TITO Z.TIi1 Z.TIi2 hTI), ⟨_, _, hs''.extBut _ _ Z.TOz a2⟩, a3.extBut hs''.extBut Z.i1z, a4.extBut hs''.extBut Z.i2z,
        (hl1.at fun o e => hk _ o Z.l1z Z.l1TO Z.l1i1 Z.l1i2 e).extBut hs''.extBut Z.l1z, (hl2.at fun o e => hk _ o Z.l2z Z.l2TO Z.l2i1 Z.l2i2 e).extBut hs''.extBut Z.l2z⟩
    · unfold Rep
      refine ⟨_, 0, [x, y], rfl, by unfold fzSet; rw [if_pos rfl], ?_⟩
      have ext := (Grow.set (h := s.heap) (o := tupObj [x, y] 0) hTn (Nat.le_refl _)).ext
      exact Reps.cons (rx.mono ext) (Reps.cons (ry.mono ext) Reps.nil)
    · rw [hs''.1, a6]; exact Nat.le_succ _
  done := fun s Q E hst hQ => by
    obtain ⟨hz, hTI, ⟨a, b, hTO⟩, h1, h2, hl1, hl2⟩ := hst
    have hlen : ((xs.zip ys).map fun p => D.tup [p.1, p.2]).length = min us.length vs.length := by rw [List.length_map, List.length_zip, e1, e2]
    rw [hlen] at h1 h2
    have hend : us.toArray[min us.length vs.length]? = none ∨ vs.toArray[min us.length vs.length]? = none := by
      rw [List.getElem?_toArray, List.getElem?_toArray, List.getElem?_eq_none_iff, List.getElem?_eq_none_iff]
      omega
    exact wpAny_pyNext_zip_end hh Z hz hTI hTO h1 h2 hl1 hl2 hend fun h' hk => hQ h' s.toks fun c o hc e => by
      simp only [List.mem_cons, List.not_mem_nil, or_false, not_or] at hc
      exact hk c o hc.1 hc.2.2.1 hc.2.2.2.1 hc.2.2.2.2 e
  self := fun i s Q E hst hQ => wpAny_pyIter_zip hst.1 hQ

theorem CMake.zip2 {elts : List Expr} {k : Nat} {pos : Pos} {xs ys : List D} : CMake B A (.Tuple elts k pos) (.type "zip") [.list xs, .list ys] ((xs.zip ys).map fun p => .tup [p.1, p.2]) := fun hh fz s vs g r Q E hQ => by
  obtain ⟨v, u, rfl, r1, r2⟩ := reps2 r
  obtain ⟨l1, us, n1, rfl, ha1, hl1, hr1⟩ := r1.isList g
  obtain ⟨l2, ws, n2, rfl, ha2, hl2, hr2⟩ := r2.isList g
  have b1 : l1 < s.heap.objs.size := Heap.lt_size ha1
  have b2 : l2 < s.heap.objs.size := Heap.lt_size ha2
  have n1 : ∀ j, l1 ≠ s.heap.objs.size + j := fun j => Nat.ne_of_lt (Nat.lt_of_lt_of_le b1 (Nat.le_add_right _ _))
  have n2 : ∀ j, l2 ≠ s.heap.objs.size + j := fun j => Nat.ne_of_lt (Nat.lt_of_lt_of_le b2 (Nat.le_add_right _ _))
  refine call_zip_2 hl1 hl2 fun h' z1 z2 z3 z4 z5 hsz hk => ?_
  have Z : ZipApart (s.heap.objs.size + 4) (s.heap.objs.size + 2) (s.heap.objs.size + 3) s.heap.objs.size (s.heap.objs.size + 1) l1 l2 :=
    ⟨neA (by decide), neA (by decide), neA0 (by decide), neA (by decide), neA (by decide), (neA0 (by decide)).symm, neA (by decide), (neA0 (by decide)).symm, neA (by decide), neA0 (by decide), n1 4, n1 3, n1 0, n1 1, n2 4, n2 3, n2 0, n2 1⟩
  refine wpAny_pyIter_zip (s := { s with heap := h' }) z1 (hQ _ [s.heap.objs.size + 4, s.heap.objs.size + 2, s.heap.objs.size + 3, s.heap.objs.size, s.heap.objs.size + 1] _ _ h' s.toks hk (by rw [hsz]; exact Nat.le_add_right _ _) ?_ ?_
    (Itr.zip2 hh Z hr1.length hr2.length) ⟨z1, z2, ⟨_, _, z3⟩, z4, z5, hl1.at fun o e => hk _ _ e, hl2.at fun o e => hk _ _ e⟩)
  · simp
  · intro b hb
    rw [hsz]
    simp only [List.mem_cons, List.not_mem_nil, or_false] at hb
    rcases hb with rfl | rfl | rfl | rfl | rfl <;> first | exact inA (by decide) | exact inA0 (by decide)

abbrev EnSt (e it l : Addr) (xs : Array Value) (i : Nat) (h : Heap) : Prop := (∃ old, IsEnum h e it i old) ∧ h.IsListIter it l i ∧ h.IsList l xs

end
end Mine

set_option Elab.async false
set_option maxRecDepth 100000
namespace Mine
open PySem PySem.W PySem.Calls PyProof.Rows

section
variable {B : Bs} {a b : Int}

theorem Op2.int2 {f : Value → Value → Sem Value} {r : Int} (h : ∀ A (s : Shared) t u (Q : Value → Shared → Prop) (E : Value → Shared → Prop), Q (.int r s.toks) { s with toks := s.toks + 1 } → wpAny (model B.prog B.w) A (f (.int a t) (.int b u)) Q E s) : Op2 B f (.int a) (.int b) (.int r) :=
  fun A fz s v₁ v₂ rm g ⟨t, e₁⟩ ⟨u, e₂⟩ Q E hQ => by subst e₁ e₂; exact h A s t u Q E (hQ.same g ⟨_, rfl⟩ _)
theorem Op2.intB {f : Value → Value → Sem Value} {r : Bool} (h : ∀ A (s : Shared) t u (Q : Value → Shared → Prop) (E : Value → Shared → Prop), Q (.bool r) s → wpAny (model B.prog B.w) A (f (.int a t) (.int b u)) Q E s) : Op2 B f (.int a) (.int b) (.bool r) :=
  fun A fz s v₁ v₂ rm g ⟨t, e₁⟩ ⟨u, e₂⟩ Q E hQ => by subst e₁ e₂; exact h A s t u Q E (hQ.same0 g rfl)

theorem op_add : Op2 B (binaryOp .Add) (.int a) (.int b) (.int (a + b)) := Op2.int2 fun _ _ _ _ _ _ h => P.add_int h
theorem op_sub : Op2 B (binaryOp .Sub) (.int a) (.int b) (.int (a - b)) := Op2.int2 fun _ _ _ _ _ _ h => P.sub_int h
theorem op_mul (hm : IntMulOk a b) : Op2 B (binaryOp .Mult) (.int a) (.int b) (.int (a * b)) := Op2.int2 fun _ _ _ _ _ _ h => P.mul_int h hm
theorem op_floordiv (hb : b ≠ 0) (hp : Builtin.divisionGoesByPylong a b = false) : Op2 B (binaryOp .FloorDiv) (.int a) (.int b) (.int (a.fdiv b)) := Op2.int2 fun _ _ _ _ _ _ h => floordiv_int hb h (.inl hp)
theorem op_mod (hb : b ≠ 0) : Op2 B (binaryOp .Mod) (.int a) (.int b) (.int (a.fmod b)) := Op2.int2 fun _ _ _ _ _ _ h => mod_int' hb h
theorem op_pow (hn : 0 ≤ b) (hsz : (Builtin.Int.intBits a : Int) * b ≤ 2 ^ 27) : Op2 B (binaryOp .Pow) (.int a) (.int b) (.int (a ^ b.toNat)) := Op2.int2 fun _ _ _ _ _ _ h => pow_int hn hsz h
theorem op_shl (hn : 0 ≤ b) (hsz : (Builtin.Int.intBits a : Int) + b ≤ 2 ^ 27) : Op2 B (binaryOp .LShift) (.int a) (.int b) (.int (a * 2 ^ b.toNat)) := Op2.int2 fun _ _ _ _ _ _ h => lshift_int hn hsz h
theorem op_shr (hn : 0 ≤ b) : Op2 B (binaryOp .RShift) (.int a) (.int b) (.int (a.fdiv (2 ^ b.toNat))) := Op2.int2 fun _ _ _ _ _ _ h => rshift_int hn h
theorem op_xor : Op2 B (binaryOp .BitXor) (.int a) (.int b) (.int (Builtin.bitXor a b)) := Op2.int2 fun _ _ _ _ _ _ h => xor_int h
theorem op_neg : Op1 B (unaryOp .USub) (.int a) (.int (-a)) := fun A fz s v rm g ⟨t, e⟩ Q E hQ => by subst e; exact P.neg_int (hQ.same g ⟨_, rfl⟩ _)
theorem op_inv : Op1 B (unaryOp .Invert) (.int a) (.int (-a - 1)) := fun A fz s v rm g ⟨t, e⟩ Q E hQ => by
  subst e
  have h := hQ.same g (v := .int (Builtin.bitNot a) s.toks) ⟨s.toks, rfl⟩ (s.toks + 1)
  exact PyProof.Rows.invert_int h

theorem op_eq : Op2 B (compareOp .Eq) (.int a) (.int b) (.bool (a == b)) := Op2.intB fun _ _ _ _ _ _ h => P.eq_int h
theorem op_ne : Op2 B (compareOp .NotEq) (.int a) (.int b) (.bool (a != b)) := Op2.intB fun _ _ _ _ _ _ h => P.ne_int h
theorem op_lt : Op2 B (compareOp .Lt) (.int a) (.int b) (.bool (decide (a < b))) := Op2.intB fun _ _ _ _ _ _ h => P.lt_int h
theorem op_le : Op2 B (compareOp .LtE) (.int a) (.int b) (.bool (decide (a ≤ b))) := Op2.intB fun _ _ _ _ _ _ h => P.le_int h
theorem op_gt : Op2 B (compareOp .Gt) (.int a) (.int b) (.bool (decide (a > b))) := Op2.intB fun _ _ _ _ _ _ h => P.gt_int h
theorem t_int : TSpec B (.int a) (a != 0) := fun A fz s v rm g ⟨t, e⟩ Q E hQ => by subst e; exact P.truthy_int (hQ s.toks)

theorem strOf_eq (l : List Nat) : ({ cps := l.toArray } : Str).cps.toList = l := by simp
theorem op_neS {x y : List Nat} : Op2 B (compareOp .NotEq) (.str x) (.str y) (.bool (x != y)) := fun A fz s v₁ v₂ rm g ⟨t, e₁⟩ ⟨u, e₂⟩ Q E hQ => by
  subst e₁ e₂
  refine P.ne_str ?_
  rw [strOf_eq, strOf_eq]; exact hQ.same0 g rfl
theorem op_addL {x y : List D} (hz : x.length + y.length ≤ sizeLine) : Op2 B (binaryOp .Add) (.list x) (.list y) (.list (x ++ y)) := fun A fz s v₁ v₂ rm g r₁ r₂ Q E hQ => by
  obtain ⟨l1, us, n1, rfl, ha1, hl1, hr1⟩ := r₁.isList g
  obtain ⟨l2, vs, n2, rfl, ha2, hl2, hr2⟩ := r₂.isList g
  refine P.add_list (n := n1) (n2 := n2) ha1 ha2 ?_ (by rw [List.size_toArray, List.size_toArray, hr1.length, hr2.length]; exact hz)
  have := hQ.list g (hr1.append hr2) 0 s.toks
  rw [show (us.toArray ++ vs.toArray : Array Value) = (us ++ vs).toArray by simp]
  exact this

theorem str_add {x y : List Nat} : (⟨x.toArray⟩ : Str) ++ (⟨y.toArray⟩ : Str) = ⟨(x ++ y).toArray⟩ := by
  show Str.mk (x.toArray ++ y.toArray) = _
  simp
theorem op_addS {x y : List Nat} (hz : x.length + y.length ≤ sizeLine) : Op2 B (binaryOp .Add) (.str x) (.str y) (.str (x ++ y)) := fun A fz s v₁ v₂ rm g ⟨t, e₁⟩ ⟨u, e₂⟩ Q E hQ => by
  subst e₁ e₂
  refine P.add_str ?_
  rw [str_add]
  split
  · rename_i h
    have : x = [] := by simpa [Str.length] using h
    subst this
    exact hQ.same0 g ⟨_, rfl⟩
  · split
    · rename_i h
      have : y = [] := by simpa [Str.length] using h
      subst this
      exact hQ.same0 g (v := .str ⟨x.toArray⟩ t) ⟨t, by rw [List.append_nil]⟩
    · exact ⟨by simpa [Str.length] using hz, hQ.same g ⟨_, rfl⟩ _⟩

theorem FSpec.of1 {f : Value} {d₁ d : D} (h : ∀ (A : Around) fz (s : Shared) v, Room A 0 → G B fz s.heap → Rep fz v d₁ → ∀ Q E, Back B fz s d Q → wpAny (model B.prog B.w) A (call f [v]) Q E s) : FSpec B 0 f [d₁] d := fun A fz s vs rm g r Q E hQ => by
  obtain ⟨v, rfl, r₁⟩ := reps1 r
  exact h A fz s v rm g r₁ Q E hQ
theorem FSpec.of2 {f : Value} {d₁ d₂ d : D} (h : ∀ (A : Around) fz (s : Shared) v u, Room A 0 → G B fz s.heap → Rep fz v d₁ → Rep fz u d₂ → ∀ Q E, Back B fz s d Q → wpAny (model B.prog B.w) A (call f [v, u]) Q E s) : FSpec B 0 f [d₁, d₂] d := fun A fz s vs rm g r Q E hQ => by
  obtain ⟨v, u, rfl, r1, r2⟩ := reps2 r
  exact h A fz s v u rm g r1 r2 Q E hQ
theorem FSpec.of3 {f : Value} {d₁ d₂ d₃ d : D} (h : ∀ (A : Around) fz (s : Shared) v u x, Room A 0 → G B fz s.heap → Rep fz v d₁ → Rep fz u d₂ → Rep fz x d₃ → ∀ Q E, Back B fz s d Q → wpAny (model B.prog B.w) A (call f [v, u, x]) Q E s) : FSpec B 0 f [d₁, d₂, d₃] d := fun A fz s vs rm g r Q E hQ => by
  obtain ⟨v, u, x, rfl, r1, r2, r3⟩ := reps3 r
  exact h A fz s v u x rm g r1 r2 r3 Q E hQ

theorem f_lenL {x : List D} (hz : x.length ≤ sizeLine) : FSpec B 0 (.builtin "len") [.list x] (.int x.length) := FSpec.of1 fun A fz s v rm g r Q E hQ => by
  obtain ⟨l1, us, n1, rfl, ha1, hl1, hr1⟩ := r.isList g
  have h : us.toArray.size = x.length := by rw [List.size_toArray, hr1.length]
  refine Calls.call_len_list hl1 ?_ ?_
  · rw [h]; have : (sizeLine : Int) < 2 ^ 63 := by decide
    omega
  · rw [h]; exact hQ.same g ⟨_, rfl⟩ _
theorem f_lenS {x : List Nat} (hz : x.length ≤ sizeLine) : FSpec B 0 (.builtin "len") [.str x] (.int x.length) := FSpec.of1 fun A fz s v rm g ⟨t, e⟩ Q E hQ => by
  subst e
  have h : ({ cps := x.toArray } : Str).length = x.length := by simp [Str.length]
  refine P.len_str ?_ ?_
  · rw [h]; have : (sizeLine : Int) < 2 ^ 63 := by decide
    omega
  · rw [h]; exact hQ.same g ⟨_, rfl⟩ _
theorem f_lenY {x : List Nat} (hz : x.length ≤ sizeLine) : FSpec B 0 (.builtin "len") [.bytes x] (.int x.length) := FSpec.of1 fun A fz s v rm g ⟨⟨t, e⟩, _⟩ Q E hQ => by
  subst e
  have h : (x.map Nat.toUInt8).toArray.size = x.length := by simp
  refine PySem.W.len_bytes ?_ ?_
  · rw [h]; exact Nat.le_trans hz (by decide)
  · rw [h]; exact hQ.same g ⟨_, rfl⟩ _
theorem f_int : FSpec B 0 (.type "int") [.int a] (.int a) := FSpec.of1 fun A fz s v rm g ⟨t, e⟩ Q E hQ => by
  subst e
  exact call_int_int (hQ.same0 g ⟨_, rfl⟩)
theorem f_divmod (hb : b ≠ 0) (hp : Builtin.divisionGoesByPylong a b = false) : FSpec B 0 (.builtin "divmod") [.int a, .int b] (.tup [.int (a.fdiv b), .int (a.fmod b)]) := FSpec.of2 fun A fz s v u rm g ⟨t, e⟩ ⟨t', e'⟩ Q E hQ => by
  subst e e'
  exact divmod_int hb (hQ.tup g (vs := [.int (a.fdiv b) s.toks, .int (a.fmod b) (s.toks + 1)]) (Reps.cons ⟨_, rfl⟩ (Reps.cons ⟨_, rfl⟩ Reps.nil)) 0 _) (.inl hp)

/-- an item of a list, from either end -/
theorem op_item {x : List D} {i : Int} {d : D} (k : Nat) (hk : (0 ≤ i ∧ k = i.toNat) ∨ (i < 0 ∧ -(x.length : Int) ≤ i ∧ k = (i + x.length).toNat)) (hd : x[k]? = some d) (hf : -(2 ^ 63) ≤ i ∧ i < 2 ^ 63) : Op2 B getItem (.list x) (.int i) d := fun A fz s v₁ v₂ rm g r ⟨t, e⟩ Q E hQ => by
  subst e
  obtain ⟨l1, us, n1, rfl, ha1, hl1, hr1⟩ := r.isList g
  obtain ⟨v, hv, hr⟩ := hr1.get k d hd
  rcases hk with ⟨h0, rfl⟩ | ⟨h0, h1, rfl⟩
  · exact wpAny_getItem_list hl1 h0 hf.2 (by simpa using hv) (hQ.same0 g hr)
  · have h : us.toArray.size = x.length := by rw [List.size_toArray, hr1.length]
    refine wpAny_getItem_list_neg hl1 h0 (by rw [h]; exact h1) hf.1 (x := v) ?_ (hQ.same0 g hr)
    rw [h]; simpa using hv
end
end Mine

set_option Elab.async false
set_option maxRecDepth 100000
namespace Mine
open PySem PySem.W PySem.Calls PyProof.Rows

/-- codes that hold a buffer -/
def bad : Code → Bool
  | .builtin id _ => (["bytearray.__contains__", "bytearray.__mod__", "bytearray.__rmod__", "_struct.pack_into.held", "bytearray.find.held"] ++ Builtin.Bytes.decodersThatHold).contains id
  | _ => false

def CleanB (Γ : Ctx) : Prop := ∀ x ∈ Γ.below, bad x.1 = false
def Clean (Γ : Ctx) : Prop := bad Γ.code = false ∧ CleanB Γ

/-- as wpAny, in clean contexts -/
def wpC {α : Type} (M : Model) (A : Around) (t : Sem α) (Q : α → Shared → Prop) (E : Value → Shared → Prop) (s : Shared) : Prop :=
  ∀ Γ p, Γ.In A → Clean Γ → Sem.wp M Γ t (fun a _ s' => Q a s') (fun e _ s' => E e s') p s
def codeC (M : Model) (A : Around) (c : Code) (R : Result → Shared → Prop) (s : Shared) : Prop := ∀ Γ p, Γ.code = c → Γ.Below A → CleanB Γ → wpCode M Γ R p s

section
variable {α β : Type} {M : Model} {A : Around} {E : Value → Shared → Prop} {s : Shared}

theorem wpC.of {t : Sem α} {Q : α → Shared → Prop} (h : wpAny M A t Q E s) : wpC M A t Q E s := fun Γ p hΓ _ => h Γ p hΓ
theorem wpC.pure {a : α} {Q : α → Shared → Prop} (h : Q a s) : wpC M A (Pure.pure a) Q E s := wpC.of (wpAny_pure h)
theorem wpC.mono {t : Sem α} {Q Q' : α → Shared → Prop} {E' : Value → Shared → Prop} (h : wpC M A t Q E s) (hQ : ∀ a s, Q a s → Q' a s) (hE : ∀ e s, E e s → E' e s) : wpC M A t Q' E' s :=
  fun Γ p hΓ hC => Sem.wp_mono M Γ t (fun a _ s => hQ a s) (fun e _ s => hE e s) p s (h Γ p hΓ hC)
theorem wpC.bind {m : Sem α} {f : α → Sem β} {Q : β → Shared → Prop} (h : wpC M A m (fun a s' => wpC M A (f a) Q E s') E s) : wpC M A (m >>= f) Q E s := fun Γ p hΓ hC => by
  rw [Sem.wp_bind']
  exact Sem.wp_mono M Γ m (fun a p' s' h' => h' Γ p' hΓ hC) (fun _ _ _ h' => h') p s (h Γ p hΓ hC)
/-- the first part needs no clean context -/
theorem wpC.bindA {m : Sem α} {f : α → Sem β} {Q : β → Shared → Prop} (h : wpAny M A m (fun a s' => wpC M A (f a) Q E s') E s) : wpC M A (m >>= f) Q E s := wpC.bind (wpC.of h)
theorem wpC.holding {vs : List Value} {m : Sem α} {Q : α → Shared → Prop} (h : wpC M A m Q E s) : wpC M A (holding vs m) Q E s :=
  fun Γ p hΓ hC => by rw [Sem.wp_holding]; exact h Γ p hΓ hC
theorem wpC.onRaise {m : Sem α} {k : Value → Sem Unit} {Q : α → Shared → Prop} (h : wpC M A m Q (fun e s' => wpC M A (k e) (fun _ s'' => E e s'') E s') s) : wpC M A (m.onRaise k) Q E s := fun Γ p hΓ hC => by
  rw [Sem.wp_onRaise]
  exact Sem.wp_mono M Γ m (fun _ _ _ h' => h') (fun e p' s' h' => h' Γ p' hΓ hC) p s (h Γ p hΓ hC)
theorem Clean.enter {Γ : Ctx} (h : Clean Γ) (c : Code) (hd : Option Value) (p : Pos) : CleanB (Γ.enter c hd p) := fun x hx => by
  rcases List.mem_cons.mp hx with q | q
  · rw [q]; exact h.1
  · exact h.2 x q

theorem wpC.call {f : Value} {pos : List Value} {kw : List (Str × Value)} {Q : Value → Shared → Prop}
    (hc : codeC M A (.call f ⟨pos, kw⟩) (fun r s' => match r with | .ok (.ret v) => Q v s' | .ok _ => False | .error e => E e s') s) : wpC M A (call f pos kw) Q E s := fun Γ p hΓ hC => by
  show Sem.wp M Γ (runValue _) _ _ p s
  rw [Sem.wp_runValue]
  exact hc _ p rfl (hΓ.enter _ none p (by intro x; cases x)) (hC.enter _ none p)

theorem codeC.tree {c : Code} {R : Result → Shared → Prop} (hb : bad c = false)
    (h : wpC M (A.under c) (M.den c) (fun fin s' => match fin with | .done f => R (.ok f) s' | .again c' => c'.quiet = true ∧ codeC M A c' R s') (fun e s' => R (.error e) s') s) : codeC M A c R s := fun Γ p hc hΓ hB => by
  rw [wpCode_iff_wp, hc]
  refine Sem.wp_mono M Γ _ (fun fin p' s' h' => ?_) (fun _ _ _ h' => h') p s (h Γ p (hc ▸ hΓ.in) ⟨by rw [hc]; exact hb, hB⟩)
  cases fin with
  | done f => exact h'
  | again c' => exact ⟨h'.1, h'.2 (Γ.goto c') p' rfl (hΓ.goto c') hB⟩
end

section
variable {prog : Program} {w : World} {A : Around} {E : Value → Shared → Prop} {s : Shared} {R : Result → Shared → Prop}
theorem codeC.builtin {id : String} {args : Args} {b : Builtin} (hbad : bad (.builtin id args) = false) (hb : entryFor table id = some b)
    (h : wpC (model prog w) (A.under (.builtin id args)) (b args) (fun fin s' => match fin with | .done f => R (.ok f) s' | .again c' => c'.quiet = true ∧ codeC (model prog w) A c' R s') (fun e s' => R (.error e) s') s) :
    codeC (model prog w) A (.builtin id args) R s := by
  refine codeC.tree hbad ?_
  show wpC _ _ (match entryFor table id with | some b => b args | none => unsupported ((withoutEnding? id "#data").getD id)) _ _ s
  rw [hb]; exact h
theorem codeC.callB {id : String} {args : Args} {b : Builtin} (hbad : bad (.builtin id args) = false) (hq : plainId id = true) (hb : entryFor table id = some b)
    (h : wpAny (model prog w) A.in1 (checkBuiltinCall id args) (fun _ s₁ => wpC (model prog w) A.in1 (b args)
      (fun fin s' => match fin with | .done f => R (.ok f) s' | .again c' => c'.quiet = true ∧ codeC (model prog w) A c' R s') (fun e s' => R (.error e) s') s₁) (fun e s' => R (.error e) s') s) :
    codeC (model prog w) A (.call (.builtin id) args) R s := by
  refine codeC.tree rfl ?_
  show wpC _ A.in1 (do checkBuiltinCall id args; again (.builtin id args)) _ _ s
  refine wpC.bindA (wpAny_mono h (fun _ s₁ h₁ => wpC.pure (And.intro (plainId_quiet hq args) (codeC.builtin hbad hb ?_))) fun _ _ h' => h')
  rw [Around.under_plainId hq args]; exact h₁
theorem codeC.func {body : List Stmt} {env : Env}
    (h : wpC (model prog w) (A.deeper env) (execs body env) (fun f s' => R (.ok (.ret (match f with | .ret v => v | _ => .none))) s')
      (fun e s' => wpAny (model prog w) (A.deeper env) (leaving env e) (fun _ s'' => R (.error e) s'') (fun e' s'' => R (.error e') s'') s') s) :
    codeC (model prog w) A (.func body env) R s := by
  refine codeC.tree rfl ?_
  show wpC _ (A.deeper env) (do point; match ← (execs body env).onRaise (leaving env) with | .ret v => ret v | _ => ret .none) _ _ s
  refine wpC.bindA (wpAny_point (wpC.bind (wpC.onRaise (wpC.mono h (fun f s' h' => ?_) fun _ _ h' => wpC.of h'))))
  cases f <;> exact wpC.pure h'
theorem codeC.callFn {a : Addr} {args : Args} {o : Obj} {fd : FuncData} {body : List Stmt} (hroom : A.depth < recursionLimit) (ho : s.heap.get? a = some o)
    (hd' : o.data = .func fd) (hco : fd.scope.isCoroutine = false) (hgen : fd.scope.isGenerator = false) (hbody : fd.body = .stmts body) (hcd : s.heap.CodeRec fd.code fd.qualname)
    (h : wpAny (model prog w) A.in1 (bindArgs fd args) (fun binds s₁ =>
      wpAny (model prog w) A.in1 (newFunctionEnv fd.scope fd.globals fd.closure binds (fd.qualname ++ ".<locals>.") (some a) fd.code none fd.builtins)
        (fun env s₂ => s₂.heap.NoLimit ∧ codeC (model prog w) A (.func body env) R s₂) (fun e s' => R (.error e) s') s₁) (fun e s' => R (.error e) s') s) :
    codeC (model prog w) A (.call (.ref a) args) R s := by
  refine codeC.tree rfl ?_
  show wpC _ A.in1 (callAny (.ref a) args) _ _ s
  simp only [callAny]
  refine wpC.bindA (wpAny_load ho ?_)
  obtain ⟨c, oc, vs, tq, hc, hoc, hdc, hq⟩ := hcd
  simp only [hd', callFunction, hco, hgen, hbody, hc]
  rw [hc] at h
  refine wpC.bindA (m := field (.ref c) 1) (wpAny_field hoc hdc hq (wpC.bindA (wpAny_pure ?_)))
  exact wpC.bindA (wpAny_mono h (fun binds s₁ h₁ => wpC.bindA (wpAny_mono h₁ (fun env s₂ h₂ => wpC.bindA (wpAny_enterFrame h₂.1 hroom (wpC.pure (And.intro rfl h₂.2)))) fun _ _ h' => h')) fun _ _ h' => h')

theorem wpC.exported {self : Value} {Q : Bool → Shared → Prop} (h : Q false s) : wpC (model prog w) A (Builtin.Bytes.exported self) Q E s := fun Γ p hΓ hC => by
  have key : ∀ x ∈ (Γ.code, p) :: Γ.below, bad x.1 = false := fun x hx => by
    rcases List.mem_cons.mp hx with q | q
    · rw [q]; exact hC.1
    · exact hC.2 x q
  unfold Builtin.Bytes.exported
  show Q (List.any ((Γ.code, p) :: Γ.below) _) s
  rw [List.any_eq_false.mpr ?_]
  · exact h
  · intro x hx
    have hb := key x hx
    obtain ⟨c, q⟩ := x
    cases c with
    | builtin id args =>
      have hb' : ¬ id ∈ (["bytearray.__contains__", "bytearray.__mod__", "bytearray.__rmod__", "_struct.pack_into.held", "bytearray.find.held"] ++ Builtin.Bytes.decodersThatHold) := fun q => by
        have : bad (.builtin id args) = true := List.contains_iff_mem.mpr q
        rw [this] at hb; cases hb
      have no : ∀ i, i ∈ (["bytearray.__contains__", "bytearray.__mod__", "bytearray.__rmod__", "_struct.pack_into.held", "bytearray.find.held"] ++ Builtin.Bytes.decodersThatHold) → id ≠ i := fun i hi e => hb' (e ▸ hi)
      split <;> rename_i hm
      · injection hm with h1 _; injection h1 with h2 _; exact absurd h2 (no _ (by simp))
      · injection hm with h1 _; injection h1 with h2 _; exact absurd h2 (no _ (by simp))
      · injection hm with h1 _; injection h1 with h2 _; exact absurd h2 (no _ (by simp))
      · injection hm with h1 _; injection h1 with h2 _; exact absurd h2 (no _ (by simp))
      · injection hm with h1 _; injection h1 with h2 _; exact absurd h2 (no _ (by simp))
      · injection hm with h1 _; injection h1 with h2 _
        subst h2
        have : Builtin.Bytes.decodersThatHold.contains id = false := by
          cases q : Builtin.Bytes.decodersThatHold.contains id with
          | false => rfl
          | true => exact absurd (List.mem_append_right _ (List.contains_iff_mem.mp q)) hb'
        rw [this]; simp
      · simp
    | _ => simp
end
end Mine

set_option Elab.async false
set_option maxRecDepth 100000
namespace Mine
open PySem

theorem runs_toks_le {M : Model} {Γ : PySem.Ctx} {p : Pos} {t : Sem Fin} {fs : List Frame} {s s' : Shared} {e : End} (h : Runs M Γ p t fs s e s') : s.toks ≤ s'.toks := by
  induction h <;> (try simp only [Shared.setGen] at *) <;> omega
theorem returns_toks_le {M : Model} {Γ : PySem.Ctx} {p : Pos} {s s' : Shared} {r : Result} (h : Returns M Γ p s r s') : s.toks ≤ s'.toks := runs_toks_le h
theorem wakes_toks_le {M : Model} {Γ : PySem.Ctx} {p : Pos} {g : Nat} {r : Resume} {s s' : Shared} {res : GenResult} (h : Wakes M Γ p g r s res s') : s.toks ≤ s'.toks := by
  unfold Wakes at h
  split at h
  · exact h.elim
  · split at h
    · obtain ⟨e₁, s₁, hr, _, _, rfl⟩ := h; exact (runs_toks_le hr : (s.setGen g .running).toks ≤ s₁.toks)
    · rw [h.2]; exact Nat.le_refl _
    · rw [h.2]; exact Nat.le_refl _
  · obtain ⟨e₁, s₁, hr, _, _, rfl⟩ := h; exact (runs_toks_le hr : (s.setGen g .running).toks ≤ s₁.toks)
  · rw [h.2]; exact Nat.le_refl _
  · rw [h.2]; exact Nat.le_refl _

theorem wp_toks {α : Type} (M : Model) (Γ : PySem.Ctx) (n : Nat) (t : Sem α) : ∀ (Q : α → Pos → Shared → Prop) (E : Value → Pos → Shared → Prop) (p : Pos) (s : Shared), n ≤ s.toks → Sem.wp M Γ t Q E p s →
    Sem.wp M Γ t (fun a p' s' => n ≤ s'.toks ∧ Q a p' s') (fun e p' s' => n ≤ s'.toks ∧ E e p' s') p s := by
  induction t with
  | pure a => intro Q E p s hn h; exact ⟨hn, h⟩
  | raise e => intro Q E p s hn h; exact ⟨hn, h⟩
  | unsupported _ => intro Q E p s _ h; exact h
  | finish _ => intro Q E p s _ h; exact h
  | rule _ k ih => intro Q E p s hn h; exact ih () Q E p s hn h
  | «at» p' k ih => intro Q E p s hn h; exact ih () Q E p' s hn h
  | load a _ k ih => intro Q E p s hn h; obtain ⟨o, ho, h⟩ := h; exact ⟨o, ho, ih o Q E p s hn h⟩
  | update a _ f k ih => intro Q E p s hn h; exact ⟨h.1, ih () Q E p _ hn h.2⟩
  | loadIfAlive a k ih => intro Q E p s hn h; exact ih _ Q E p s hn h
  | point _ k ih => intro Q E p s hn h; exact ih () Q E p s hn h
  | register _ _ => intro Q E p s _ h; exact h
  | alloc o k ih => intro Q E p s hn h; exact ih _ Q E p _ hn h
  | fresh k ih => intro Q E p s hn h; exact ih _ Q E p _ (Nat.le_succ_of_le hn) h
  | ask k ih => intro Q E p s hn h; exact ih _ Q E p s hn h
  | choose src m k ih => intro Q E p s hn h; exact ⟨h.1, ih _ Q E p _ hn h.2⟩
  | os q _ k ih => intro Q E p s hn h; exact ih _ Q E p _ hn h
  | call c hd _ _ k ih => intro Q E p s hn h; obtain ⟨r, s', hr, h⟩ := h; exact ⟨r, s', hr, ih r Q E p s' (Nat.le_trans hn (returns_toks_le hr)) h⟩
  | handled own k ih => intro Q E p s hn h; exact ih _ Q E p s hn h
  | genState g k ih => intro Q E p s hn h; obtain ⟨st, hs, h⟩ := h; exact ⟨st, hs, ih _ Q E p s hn h⟩
  | newGen c k ih => intro Q E p s hn h; exact ih _ Q E p _ hn h
  | resume g r _ k ih => intro Q E p s hn h; obtain ⟨res, s', hw, h⟩ := h; exact ⟨res, s', hw, ih res Q E p s' (Nat.le_trans hn (wakes_toks_le hw)) h⟩
  | yield _ _ _ _ => intro Q E p s _ h; exact h
  | stack k ih => intro Q E p s hn h; exact ih _ Q E p s hn h
  | fork _ _ => intro Q E p s _ h; exact h
  | thread k ih => intro Q E p s hn h; exact ih _ Q E p s hn h
  | await _ _ _ _ _ => intro Q E p s _ h; exact h

/-- the count of makings never falls -/
theorem with_toks {α : Type} {M : Model} {A : Around} {s : Shared} {t : Sem α} {Q : α → Shared → Prop} {E : Value → Shared → Prop}
    (h : wpAny M A t (fun a s' => s.toks ≤ s'.toks → Q a s') (fun e s' => s.toks ≤ s'.toks → E e s') s) : wpAny M A t Q E s :=
  have h' : wpAny M A t (fun a s' => s.toks ≤ s'.toks ∧ (s.toks ≤ s'.toks → Q a s')) (fun e s' => s.toks ≤ s'.toks ∧ (s.toks ≤ s'.toks → E e s')) s :=
    fun Γ p hΓ => wp_toks M Γ s.toks t _ _ p s (Nat.le_refl _) (h Γ p hΓ)
  wpAny_mono h' (fun _ _ x => x.2 x.1) fun _ _ x => x.2 x.1
theorem wpC.toks {α : Type} {M : Model} {A : Around} {s : Shared} {t : Sem α} {Q : α → Shared → Prop} {E : Value → Shared → Prop}
    (h : wpC M A t (fun a s' => s.toks ≤ s'.toks → Q a s') E s) : wpC M A t Q E s :=
  have h' : wpC M A t (fun a s' => s.toks ≤ s'.toks ∧ (s.toks ≤ s'.toks → Q a s')) (fun e s' => s.toks ≤ s'.toks ∧ E e s') s :=
    fun Γ p hΓ hC => wp_toks M Γ s.toks t _ _ p s (Nat.le_refl _) (h Γ p hΓ hC)
  wpC.mono h' (fun _ _ x => x.2 x.1) fun _ _ x => x.2
end Mine

set_option Elab.async false
set_option maxRecDepth 100000
namespace Mine
open PySem PySem.W PySem.Calls PyProof.Rows

namespace FY
theorem mro : mroOf (.type "bytearray") = pure [.type "bytearray", .type "object"] := by rw [mroOf_type]; kernel_rfl
theorem look_new : typeLookup (.type "bytearray") "__new__" = pure (some (.builtin "bytearray.__new__")) := by rw [typeLookup_type, builtinLookup_eq_fast]; kernel_rfl
theorem sub_self : isSubtype (.type "bytearray") (.type "bytearray") = pure true := by rw [isSubtype_type]; kernel_rfl
theorem slot_init : Slot "bytearray" "__init__" "bytearray.__init__" :=
  .of (owner := "bytearray") (n := "__init__") (by rw [typeLookup_type, builtinLookup_eq_fast]; kernel_rfl) (by decide +kernel) (by decide +kernel) (by decide +kernel)
    (by first | exact .inl (by decide +kernel) | exact .inr (by decide +kernel)) sub_self
theorem slot_set : Slot "bytearray" "__setitem__" "bytearray.__setitem__" :=
  .of (owner := "bytearray") (n := "__setitem__") (by rw [typeLookup_type, builtinLookup_eq_fast]; kernel_rfl) (by decide +kernel) (by decide +kernel) (by decide +kernel)
    (by first | exact .inl (by decide +kernel) | exact .inr (by decide +kernel)) sub_self
theorem called : TypeCalled "bytearray" "bytearray.__new__" "bytearray.__init__" :=
  ⟨by decide +kernel, by decide +kernel, ⟨_, _, mro⟩, madeBy_type mro look_new (by decide +kernel), by decide +kernel, sub_self, slot_init⟩
theorem typeCall (a : Value) : checkTypeCall "bytearray" ⟨[a], []⟩ = pure () := by kernel_rfl
theorem newCall (a : Value) : checkBuiltinCall "bytearray.__new__" ⟨[.type "bytearray", a], []⟩ = pure () := by kernel_rfl
theorem entry_new : entryFor table "bytearray.__new__" = some Builtin.«list.__new__» := entryFor_alias (id' := "list.__new__") (by kernel_rfl) rfl (by decide +kernel) (by kernel_rfl)
theorem plain_new : plainId "bytearray.__new__" = true := by decide +kernel
theorem entry_init : entryFor table "bytearray.__init__" = some Builtin.«bytearray.__init__» := entryFor_of_tree (by kernel_rfl)
theorem plain_init : plainId "bytearray.__init__" = true := by decide +kernel
theorem entry_set : entryFor table "bytearray.__setitem__" = some Builtin.«bytearray.__setitem__» := entryFor_of_tree (by kernel_rfl)
theorem args_init (a b : Value) : argsOk "bytearray.__init__" ⟨[a, b], []⟩ := by unfold argsOk; kernel_rfl
theorem args_set (a b c : Value) : argsOk "bytearray.__setitem__" ⟨[a, b, c], []⟩ := by unfold argsOk; kernel_rfl
theorem look_release : typeLookup (.type "bytearray") "__release_buffer__" = pure (some (.builtin "bytearray.__release_buffer__")) := by rw [typeLookup_type, builtinLookup_eq_fast]; kernel_rfl
theorem bindOpt (v : Value) : Builtin.Bytes.bindOptional "bytearray.__init__" "bytearray" ["source", "encoding", "errors"] [v] [] = pure [some v, none, none] := by kernel_rfl
end FY

set_option maxRecDepth 1000000 in
set_option maxHeartbeats 4000000 in
theorem owner_new : ("bytearray.__new__".splitOn ".__new__").headD "" = "bytearray" := by simp +decide [String.splitOn, String.splitOnAux]

section
variable {prog : Program} {w : World} {A : Around} {E : Value → Shared → Prop} {s : Shared}

theorem code_new (a : Value) {Q₁ : Value → Shared → Prop} (h : Q₁ (.ref s.heap.objs.size) { s with heap := s.heap.push { cls := .type "bytearray", data := .bytearray #[] } }) :
    codeAny (model prog w) A (.call (.builtin "bytearray.__new__") ⟨[.type "bytearray", a], []⟩) (wants Q₁ E) s := by
  refine codeAny_of_tree ?_
  show wpAny _ A.in1 (do checkBuiltinCall "bytearray.__new__" ⟨[.type "bytearray", a], []⟩; again (.builtin "bytearray.__new__" ⟨[.type "bytearray", a], []⟩)) _ _ s
  refine wpAny_bind (wpAny_of_eq (FY.newCall a) (wpAny_pure ⟨plainId_quiet FY.plain_new _, codeAny_builtin_stack FY.entry_new rfl fun p st => ?_⟩))
  rw [Around.under_plainId FY.plain_new _]
  have hsub := FY.sub_self
  have hown := owner_new
  obtain ⟨hp, g, d, tk, os⟩ := s
  simp only [hown]
  wp_walk
  exact h

abbrev yObj (b : Array UInt8) : Obj := { cls := .type "bytearray", data := .bytearray b }

theorem wpAny_writeY {a : Addr} {b : Array UInt8} {f : Array UInt8 → Array UInt8} {Q : Unit → Shared → Prop} (h : s.heap.get? a = some (yObj b)) (hz : (f b).size ≤ sizeLine)
    (hQ : ∀ h', h'.get? a = some (yObj (f b)) → Heap.SameBut a s.heap h' → Q () { s with heap := h' }) : wpAny (model prog w) A (Builtin.Bytes.write (.ref a) f) Q E s := by
  show wpAny _ _ (updateBytearray a f) _ _ _
  unfold updateBytearray
  refine wpAny_bind (wpAny_load h ?_)
  show wpAny _ _ (update a (Obj.mapBytearray f) >>= fun _ => lookBehind a) _ _ _
  refine wpAny_bind (wpAny_update h ?_)
  have h₂ : (s.heap.update a (Obj.mapBytearray f)).get? a = some (yObj (f b)) := Heap.get?_update_self (Obj.mapBytearray f) h rfl
  refine wpAny_lookBehind h₂ ?_ (hQ _ h₂ (Heap.SameBut.update ..))
  show (if (f b).size > sizeLine then some "bytearray:memory" else none) = none
  rw [if_neg (Nat.not_lt.mpr hz)]

theorem wpAny_ownRelease {a : Addr} {Q : Bool → Shared → Prop} (hT : s.TypeIs (.ref a) "bytearray") (h : Q false s) : wpAny (model prog w) A (Builtin.Bytes.ownRelease (.ref a)) Q E s := by
  unfold Builtin.Bytes.ownRelease Builtin.Bytes.slotIsOwn
  refine wpAny_bind (wpAny_bind (wpAny_specialOf hT FY.look_release ?_))
  dsimp only
  rw [if_neg (by decide +kernel)]
  have e0 : "bytearray.__release_buffer__".dropRight ("__release_buffer__".length + 1) = "bytearray" := by decide +kernel
  rw [e0]
  first
    | exact wpAny_isInstance hT FY.sub_self (wpAny_pure h)
    | exact wpAny_bind (wpAny_pure (wpAny_isInstance hT FY.sub_self (wpAny_pure h)))

/-- bytearray(n) -/
theorem init_count {a : Addr} {n : Int} {t : Tok} {Q : Fin → Shared → Prop} (h : s.heap.get? a = some (yObj #[])) (h0 : 0 ≤ n) (hz : n ≤ sizeLine)
    (hQ : ∀ h', h'.get? a = some (yObj (Array.replicate n.toNat 0)) → Heap.SameBut a s.heap h' → Q (.done (.ret .none)) { s with heap := h' }) :
    wpC (model prog w) A (Builtin.«bytearray.__init__» ⟨[.ref a, .int n t], []⟩) Q E s := by
  have hT : s.TypeIs (.ref a) "bytearray" := ⟨_, h, rfl⟩
  unfold Builtin.«bytearray.__init__»
  refine wpC.bindA (wpAny_ownRelease hT ?_)
  have st : ∀ {c : Bool} {x y : Sem Fin} , c = false → wpC (model prog w) A y Q E s → wpC (model prog w) A (if c = true then x else y) Q E s := fun hc h => by subst hc; exact h
  refine st rfl ?_
  refine wpC.bindA (wpAny_of_eq (FY.bindOpt _) ?_)
  refine wpC.bindA (wpAny_of_eq (a := ()) rfl ?_)
  refine wpC.bindA (wpAny_of_eq (a := ()) rfl ?_)
  refine wpC.bind (wpC.bind (wpC.exported ?_))
  refine wpC.of ?_
  show wpAny _ _ ((do match (← load a).data with
      | .bytearray _ n => pure n
      | _ => pure 0 : Sem Nat) >>= fun x => pure (decide (x > 0))) _ _ s
  refine wpAny_bind (wpAny_bind (wpAny_load h (wpAny_pure (wpAny_pure ?_))))
  have sa : ∀ {c : Bool} {x y : Sem Fin} {s' : Shared}, c = false → wpAny (model prog w) A y Q E s' → wpAny (model prog w) A (if c = true then x else y) Q E s' := fun hc h => by subst hc; exact h
  have st' : ∀ {c : Bool} {x y : Sem Fin} {s' : Shared}, c = true → wpAny (model prog w) A x Q E s' → wpAny (model prog w) A (if c = true then x else y) Q E s' := fun hc h => by subst hc; exact h
  refine st rfl (wpC.of ?_)
  refine wpAny_bind (wpAny_writeY h (Nat.zero_le _) fun h₁ g₁ s₁ => ?_)
  refine wpAny_bind (wpAny_of_eq (a := none) rfl ?_)
  have hf : (!Builtin.Bytes.fitsIndex n) = false := by
    have : (sizeLine : Int) < 2 ^ 63 := by decide
    have e : Builtin.Bytes.fitsIndex n = true := by unfold Builtin.Bytes.fitsIndex; simp only [Bool.and_eq_true, decide_eq_true_eq]; omega
    rw [e]; rfl
  refine sa rfl ?_
  refine sa hf ?_
  have sp : ∀ {c : Prop} [Decidable c] {x y : Sem Fin} {s' : Shared}, ¬ c → wpAny (model prog w) A y Q E s' → wpAny (model prog w) A (if c then x else y) Q E s' := fun hc h => by rw [if_neg hc]; exact h
  refine sp (Int.not_lt.mpr h0) ?_
  have hm : (n == 2 ^ 63 - 1) = false := by
    have : (sizeLine : Int) < 2 ^ 63 - 1 := by decide
    simp only [beq_eq_false_iff_ne, ne_eq]; omega
  refine sa hm ?_
  have hl : Builtin.Bytes.tooLong n.toNat = false := by
    unfold Builtin.Bytes.tooLong
    exact decide_eq_false (by omega)
  refine sa hl ?_
  refine wpAny_bind (wpAny_rule ?_)
  have fin : ∀ h', h'.get? a = some (yObj (Array.replicate n.toNat 0)) → Heap.SameBut a s.heap h' → wpAny (model prog w) A (ret .none : Sem Fin) Q E { s with heap := h' } := fun h' g' s' => wpAny_pure (hQ h' g' s')
  by_cases hn : n > 0
  · rw [if_pos hn]
    refine wpAny_bind (wpAny_writeY (f := fun _ => Array.replicate n.toNat 0) g₁ (by rw [Array.size_replicate]; omega) fun h₂ g₂ s₂ => ?_)
    exact fin h₂ g₂ (s₁.trans s₂)
  · rw [if_neg hn]
    have : n = 0 := by omega
    subst this
    exact fin h₁ g₁ s₁
end
end Mine

set_option Elab.async false
set_option maxRecDepth 100000
namespace Mine
open PySem PySem.W PySem.Calls PyProof.Rows

theorem bad_of {id : String} {args : Args} (h : ((["bytearray.__contains__", "bytearray.__mod__", "bytearray.__rmod__", "_struct.pack_into.held", "bytearray.find.held"] ++ Builtin.Bytes.decodersThatHold).contains id) = false := by decide +kernel) : bad (.builtin id args) = false := h

section
variable {prog : Program} {w : World} {A : Around} {E : Value → Shared → Prop} {s : Shared}

theorem callY {n : Int} {t : Tok} {Q : Value → Shared → Prop} (h0 : 0 ≤ n) (hz : n ≤ sizeLine)
    (hQ : ∀ h', h'.get? s.heap.objs.size = some (yObj (Array.replicate n.toNat 0)) → (∀ b o, s.heap.get? b = some o → h'.get? b = some o) → h'.objs.size = s.heap.objs.size + 1 → Q (.ref s.heap.objs.size) { s with heap := h' }) :
    wpC (model prog w) A (call (.type "bytearray") [.int n t]) Q E s := by
  obtain ⟨c, tl, hmro⟩ := FY.called.mro
  have hmade := FY.called.made
  have h1 := FY.called.notType
  have h2 := FY.called.canCreate
  refine wpC.call (codeC.tree rfl ?_)
  show wpC _ _ (callAny (.type "bytearray") _) _ _ _
  refine wpC.pure ⟨Code.quiet_builtin _ (by decide +kernel), codeC.builtin bad_of F.entry_type_call ?_⟩
  rw [Around.under_plain (weight_type_call_type "bytearray" _ []) rfl]
  unfold Builtin.«type.__call__»
  have st : ∀ {α : Type} {c : Bool} {x y : Sem α} {s' : Shared} {Q : α → Shared → Prop} {E : Value → Shared → Prop} {A : Around}, c = false → wpC (model prog w) A y Q E s' → wpC (model prog w) A (if c = true then x else y) Q E s' := fun hc h => by subst hc; exact h
  refine st h1 ?_
  refine st h2 ?_
  refine wpC.bindA (wpAny_of_eq (FY.typeCall _) ?_)
  refine wpC.bindA (wpAny_of_eq hmro ?_)
  refine st rfl ?_
  refine wpC.bindA (wpAny_of_eq hmade ?_)
  refine wpC.bindA (wpAny_of_eq (a := Value.builtin "bytearray.__new__") rfl ?_)
  refine wpC.bindA (wpAny_holding (wpAny_call (codeAny_mono (code_new (E := E) (.int n t) (Q₁ := fun obj s₁ => obj = .ref s.heap.objs.size ∧ s₁ = { s with heap := s.heap.push (yObj #[]) }) ⟨rfl, rfl⟩) fun r s₁ hr => ?_)))
  cases r with
  | error e => exact hr
  | ok fl =>
    cases fl with
    | ret obj =>
      obtain ⟨rfl, rfl⟩ := hr
      have hg : (s.heap.push (yObj #[])).get? s.heap.objs.size = some (yObj #[]) := Heap.get?_push_size _ rfl
      have hT : Shared.TypeIs { s with heap := s.heap.push (yObj #[]) } (.ref s.heap.objs.size) "bytearray" := ⟨_, hg, rfl⟩
      refine wpC.bindA (wpAny_isInstance hT FY.sub_self ?_)
      refine st rfl ?_
      refine wpC.bind (wpC.holding ?_)
      unfold callSpecial?
      refine wpC.bindA (wpAny_specialOf hT FY.slot_init.lookup ?_)
      dsimp only
      refine wpC.holding ?_
      rw [FY.slot_init.bind]
      refine wpC.bindA (wpAny_pure ?_)
      refine wpC.bind (wpC.call (codeC.callB bad_of FY.plain_init FY.entry_init (FY.slot_init.check _ _ _ _ _ _ _ _ hT (FY.args_init _ _) ?_)))
      refine init_count hg h0 hz fun h' g' hs' => ?_
      refine wpC.pure ?_
      dsimp only
      refine st rfl ?_
      refine wpC.pure ?_
      exact hQ h' g' (fun b o e => hs'.extBut b o (Nat.ne_of_lt (Heap.lt_size e)) (Heap.get?_push_of_some _ e)) (by rw [hs'.1, Heap.size_push])
    | _ => exact hr.elim
end
end Mine

set_option Elab.async false
set_option maxRecDepth 100000
namespace Mine
open PySem PySem.W PySem.Calls PyProof.Rows

namespace FY
theorem no_bytes : typeLookup (.type "bytearray") "__bytes__" = pure none := by rw [typeLookup_type, builtinLookup_eq_fast]; kernel_rfl
theorem noIndex : typeLookup (.type "bytearray") "__index__" = pure none := by rw [typeLookup_type, builtinLookup_eq_fast]; kernel_rfl
theorem look_buffer : typeLookup (.type "bytearray") "__buffer__" = pure (some (.builtin "bytearray.__buffer__")) := by rw [typeLookup_type, builtinLookup_eq_fast]; kernel_rfl
end FY

section
variable {prog : Program} {w : World} {A : Around} {E : Value → Shared → Prop} {s : Shared}

theorem wpAny_setItemY {a : Addr} {b : Array UInt8} {k x : Int} {t u : Tok} {Q : Unit → Shared → Prop} (h : s.heap.get? a = some (yObj b)) (h0 : 0 ≤ k) (h1 : k < b.size) (hz : b.size ≤ sizeLine) (hx : 0 ≤ x ∧ x < 256)
    (hQ : ∀ h', h'.get? a = some (yObj (b.setIfInBounds k.toNat x.toNat.toUInt8)) → Heap.SameBut a s.heap h' → Q () { s with heap := h' }) :
    wpAny (model prog w) A (setItem (.ref a) (.int k t) (.int x u)) Q E s := by
  have hT : s.TypeIs (.ref a) "bytearray" := ⟨_, h, rfl⟩
  unfold setItem
  try with_reducible refine wpAny_holding ?_
  refine wpAny_bind (wpAny_sequenceKey hT (by decide) ?_)
  refine wpAny_bind (wpAny_callSpecial?_slot (name := Str.ofString "__setitem__") hT FY.slot_set (wpAny_call_entry FY.slot_set hT FY.entry_set ?_ (FY.args_set _ _ _)))
  unfold Builtin.«bytearray.__setitem__»
  have st : ∀ {c : Bool} {x y : Sem Fin} {s' : Shared} {Q : Fin → Shared → Prop} {A : Around}, c = false → wpAny (model prog w) A y Q E s' → wpAny (model prog w) A (if c = true then x else y) Q E s' := fun hc h => by subst hc; exact h
  refine st rfl ?_
  refine wpAny_bind ?_
  unfold Builtin.Bytes.subscript?
  refine wpAny_bind (wpAny_specialOf (T := "int") (typeIs_int _ k t) int_index ?_)
  have sz : (sizeLine : Int) < 2 ^ 63 := by decide
  have hf : (!Builtin.Bytes.fitsIndex k) = false := by
    have e : Builtin.Bytes.fitsIndex k = true := by unfold Builtin.Bytes.fitsIndex; simp only [Bool.and_eq_true, decide_eq_true_eq]; omega
    rw [e]; rfl
  have st2 : ∀ {c : Bool} {x y : Sem (Option Int)} {s' : Shared} {Q : Option Int → Shared → Prop} {A : Around}, c = false → wpAny (model prog w) A y Q E s' → wpAny (model prog w) A (if c = true then x else y) Q E s' := fun hc h => by subst hc; exact h
  refine st2 rfl ?_
  refine wpAny_bind (wpAny_of_eq (a := k) rfl ?_)
  refine st2 hf ?_
  refine wpAny_pure ?_
  refine wpAny_bind ?_
  unfold Builtin.Bytes.byteValue
  refine wpAny_bind (wpAny_of_eq (a := x) rfl ?_)
  have st3 : ∀ {c : Bool} {x y : Sem UInt8} {s' : Shared} {Q : UInt8 → Shared → Prop} {A : Around}, c = false → wpAny (model prog w) A y Q E s' → wpAny (model prog w) A (if c = true then x else y) Q E s' := fun hc h => by subst hc; exact h
  refine st3 (by simp only [Bool.or_eq_false_iff, decide_eq_false_iff_not]; omega) ?_
  refine wpAny_pure ?_
  refine wpAny_bind ?_
  unfold Builtin.Bytes.payload Builtin.Bytes.payload?
  refine wpAny_bind (wpAny_bind (wpAny_load h (wpAny_pure (wpAny_pure ?_))))
  have hs : seqIndex? k b.size = some k.toNat := seqIndex_of h0 h1
  rw [hs]
  try dsimp only
  refine wpAny_bind (wpAny_writeY h (by rw [Array.size_setIfInBounds]; exact hz) fun h' g' s' => ?_)
  exact wpAny_pure ⟨_, rfl, wpAny_pure (hQ h' g' s')⟩

theorem wpAny_slotIsOwnY {a : Addr} {Q : Bool → Shared → Prop} (hT : s.TypeIs (.ref a) "bytearray") (h : Q true s) : wpAny (model prog w) A (Builtin.Bytes.slotIsOwn (.ref a) "__buffer__") Q E s := by
  unfold Builtin.Bytes.slotIsOwn
  refine wpAny_bind (wpAny_specialOf hT FY.look_buffer ?_)
  try dsimp only
  rw [if_neg (by decide +kernel)]
  have e0 : "bytearray.__buffer__".dropRight ("__buffer__".length + 1) = "bytearray" := by decide +kernel
  rw [e0]
  first
    | exact wpAny_isInstance hT FY.sub_self h
    | exact wpAny_bind (wpAny_pure (wpAny_isInstance hT FY.sub_self h))

theorem wpAny_bufferY {id : String} {a : Addr} {b : Array UInt8} {full : Bool} {Q : Option (Array UInt8) → Shared → Prop} (h : s.heap.get? a = some (yObj b)) (hQ : Q (some b) s) : wpAny (model prog w) A (Builtin.Bytes.buffer? id (.ref a) full) Q E s := by
  have hT : s.TypeIs (.ref a) "bytearray" := ⟨_, h, rfl⟩
  unfold Builtin.Bytes.buffer?
  refine wpAny_bind (wpAny_specialOf hT FY.look_buffer ?_)
  try dsimp only
  refine wpAny_bind (wpAny_slotIsOwnY hT ?_)
  simp only [Bool.not_true, Bool.false_eq_true, if_false]
  refine wpAny_bind (wpAny_specialOf hT FY.look_buffer ?_)
  try dsimp only
  refine wpAny_bind (wpAny_ownRelease hT ?_)
  simp only [Bool.false_eq_true, if_false]
  unfold Builtin.Bytes.payload Builtin.Bytes.payload?
  exact wpAny_bind (wpAny_bind (wpAny_bind (wpAny_load h (wpAny_pure (wpAny_pure (wpAny_pure hQ))))))

theorem codeY_bytes {a : Addr} {b : Array UInt8} {Q : Value → Shared → Prop} (h : s.heap.get? a = some (yObj b)) (hz : b.size ≤ sizeLine) (hQ : Q (.bytes b s.toks) { s with toks := s.toks + 1 }) :
    codeAny (model prog w) A (.call (.builtin "bytes.__new__") ⟨[.type "bytes", .ref a], []⟩) (wants Q E) s := by
  have hT : s.TypeIs (.ref a) "bytearray" := ⟨_, h, rfl⟩
  refine codeAny_of_tree ?_
  show wpAny _ A.in1 (do checkBuiltinCall "bytes.__new__" ⟨[.type "bytes", .ref a], []⟩; again (.builtin "bytes.__new__" ⟨[.type "bytes", .ref a], []⟩)) _ _ s
  refine wpAny_bind (wpAny_of_eq (PySem.F.bm_newCall _) (wpAny_pure ⟨plainId_quiet PySem.F.bm_plain _, codeAny_builtin PySem.F.bm_entry ?_⟩))
  rw [Around.under_plainId PySem.F.bm_plain _]
  unfold Builtin.«bytes.__new__»
  refine wpAny_bind (wpAny_of_eq (a := true) rfl ?_)
  refine bm_if_false rfl ?_
  refine wpAny_bind (wpAny_of_eq PySem.F.bm_sub ?_)
  refine bm_if_false rfl ?_
  refine wpAny_bind (wpAny_of_eq (PySem.F.bm_bind _) ?_)
  refine wpAny_bind (wpAny_of_eq (a := ()) rfl ?_)
  refine wpAny_bind (wpAny_of_eq (a := ()) rfl ?_)
  refine bm_if_false rfl ?_
  refine wpAny_bind (wpAny_specialOf hT FY.no_bytes ?_)
  refine wpAny_bind (wpAny_bind ?_)
  show wpAny _ _ (load a >>= _) _ _ _
  refine wpAny_bind (wpAny_load h ?_)
  refine wpAny_pure (wpAny_pure ?_)
  refine bm_if_false rfl ?_
  refine wpAny_bind (wpAny_specialOf hT FY.noIndex ?_)
  refine bm_if_true rfl ?_
  first
    | show wpAny _ _ (Builtin.Bytes.buffer? "bytes.__new__" (.ref a) true >>= _) _ _ _
    | (refine wpAny_bind ?_; show wpAny _ _ (Builtin.Bytes.buffer? "bytes.__new__" (.ref a) true >>= _) _ _ _)
  refine wpAny_bind (wpAny_bufferY h ?_)
  try dsimp only
  refine wpAny_bind (wpAny_rule ?_)
  refine wpAny_bind (wpAny_mkBytes ?_ hz)
  show wpAny _ _ (if (Value.type "bytes" == Value.type "bytes") = true then _ else _) _ _ _
  refine bm_if_true (by decide) ?_
  first
    | exact wpAny_pure hQ
    | exact wpAny_bind (wpAny_pure (wpAny_pure hQ))

/-- bytes(x) of a bytearray -/
theorem callY_bytes {a : Addr} {b : Array UInt8} {Q : Value → Shared → Prop} (h : s.heap.get? a = some (yObj b)) (hz : b.size ≤ sizeLine) (hQ : Q (.bytes b s.toks) { s with toks := s.toks + 1 }) : wpAny (model prog w) A (call (.type "bytes") [.ref a]) Q E s := by
  refine callType_codes (Q₁ := fun obj s₁ => s₁.TypeIs obj "bytes" ∧ Q obj s₁) PySem.F.bm_called (PySem.F.bm_typeCall _) PySem.F.entry_object_init
    (codeY_bytes h hz ⟨PySem.W.typeIs_bytes _ _ _, hQ⟩) fun obj s₁ h₁ => ?_
  exact ⟨h₁.1, PySem.F.args_object_init_2 obj _, object_init_meets PySem.F.bm_called.init.lookup PySem.F.bm_called.made (by decide) prog w A.in1 _ s₁ ⟨h₁.1, rfl, h₁.2⟩⟩

/-- list(b) of bytes -/
abbrev OctAt (b : Array UInt8) (i : Nat) (v : Value) : Prop := ∃ c u, b[i]? = some c ∧ v = .int (c.toNat : Int) u

end
end Mine

set_option Elab.async false
set_option maxRecDepth 100000
namespace Mine
open PySem PySem.W PySem.Calls PyProof.Rows

section
variable {B : Bs}

abbrev octs (l : List Nat) : Array UInt8 := (l.map Nat.toUInt8).toArray
theorem octs_size (l : List Nat) : (octs l).size = l.length := by simp [octs]
abbrev natD (l : List Nat) : List D := l.map fun (c : Nat) => D.int (c : Int)

theorem toUInt8_toNat {x : Nat} (h : x < 256) : (Nat.toUInt8 x).toNat = x := by
  show x % 256 = x
  omega

theorem intsAre_natD {fz : Fz} : ∀ {l : List Nat} {vs : List Value}, Reps fz vs (natD l) → IntsAre vs (l.map fun (c : Nat) => (c : Int))
  | [], vs, r => by
    unfold natD Reps at r
    simp only [List.map_nil] at r
    subst r
    exact .nil
  | c :: l, vs, r => by
    unfold natD at r
    rw [List.map_cons] at r
    unfold Reps at r
    obtain ⟨v, t, rfl, ⟨u, rfl⟩, h2⟩ := r
    exact .cons _ _ (intsAre_natD h2)

theorem f_bytesL {l : List Nat} (h : ∀ x ∈ l, x < 256) (hz : l.length ≤ sizeLine) : FSpec B 0 (.type "bytes") [.list (natD l)] (.bytes l) := FSpec.of1 fun A fz s v rm g r Q E hQ => by
  obtain ⟨a, vs, n, rfl, ha, hl, hr⟩ := r.isList g
  have hv : vs.length = l.length := by rw [hr.length]; simp
  refine with_size (call_bytes_ints hl (intsAre_natD hr) (fun n hn => ?_) (by rw [hv]; exact hz) rm.handled fun h' t k hk hsz => ?_)
  · obtain ⟨c, hc, rfl⟩ := List.mem_map.mp hn
    have := h c hc
    omega
  · refine hQ _ fz h' k Grow.refl (g.keeps fun b o _ e => hk b o e) ⟨⟨t, ?_⟩, h⟩ (Mod.of_keep hk hsz)
    congr 1
    unfold byteArr
    rw [List.map_map]
    rfl

theorem op_itemY {l : List Nat} {i : Int} {c : Nat} (h0 : 0 ≤ i) (hc : l[i.toNat]? = some c) (hz : l.length ≤ sizeLine) : Op2 B getItem (.bytes l) (.int i) (.int c) := fun A fz s v₁ v₂ rm g ⟨⟨t, e₁⟩, hb⟩ ⟨u, e₂⟩ Q E hQ => by
  subst e₁ e₂
  have hlt : i.toNat < l.length := (List.getElem?_eq_some_iff.mp hc).1
  refine getItem_bytes (l := l.map Nat.toUInt8) (by rw [List.length_map]; exact Nat.le_trans hz (by decide)) h0 (by rw [List.length_map]; omega) ?_
  have e : ((l.map Nat.toUInt8).getD i.toNat 0).toNat = c := by
    rw [List.getD_eq_getElem?_getD, List.getElem?_map, hc]
    exact toUInt8_toNat (hb c (List.mem_of_getElem? hc))
  rw [e]
  exact hQ.same g ⟨_, rfl⟩ _
end

section
variable {B : Bs} {K : Act} {ρ ρ' : Rho} {O O₁ O₂ R : Own'} {T : Tmp} {fz : Fz} {s : Shared} {o : Out}

/-- x[i] = e of a bytearray of the call's own -/
theorem Ex1.setBar {obj ix val : Expr} {p pos : Pos} {a : Addr} {l l' : List Nat} {k : Int} {c : Nat} (h1 : Ev B K ρ (O₁ ++ (a, .bar l) :: O₂) val (.int c)) (h2 : Ev B K ρ (O₁ ++ (a, .bar l) :: O₂) obj (.raw (.ref a)))
    (h3 : Ev B K ρ (O₁ ++ (a, .bar l) :: O₂) ix (.int k)) (h0 : 0 ≤ k) (hk : k < l.length) (hz : l.length ≤ sizeLine) (hc : c < 256) (hl' : l' = l.set k.toNat c)
    (hs : swapsWith val (some (.Subscript obj ix p)) pos.line K.env = pure false := by rfl) :
    Ex1 B K ρ (O₁ ++ (a, .bar l) :: O₂) (.Assign [.Subscript obj ix p] val pos) (.next ρ (O₁ ++ (a, .bar l') :: O₂)) := fun R T s S Q E hQ => by
  subst hl'
  exact wpAny_Assign_Subscript (h1 R T s S _ _ fun v₁ s₁ S₁ m₁ => h2 R _ s₁ S₁ _ _ fun v₂ s₂ S₂ m₂ => h3 R _ s₂ S₂ _ _ fun v₃ s₃ S₃ m₃ => by
    obtain ⟨fz, S₃⟩ := S₃
    obtain ⟨t, rfl⟩ : ∃ t, v₁ = .int c t := S₃.tmp (v₁, .int c) (by simp)
    obtain rfl : v₂ = .ref a := S₃.tmp (v₂, .raw (.ref a)) (by simp)
    obtain ⟨u, rfl⟩ : ∃ u, v₃ = .int k u := S₃.tmp (v₃, .int k) (by simp)
    obtain ⟨hg, hb⟩ := S₃.ownGet
    refine wpAny_setItemY (b := octs l) hg h0 (by rw [octs_size]; exact hk) (by rw [octs_size]; exact hz) ⟨by omega, by omega⟩ fun h' hg' hsb => ?_
    have hn : OwnAt fz h' a (.bar (l.set k.toNat c)) := by
      refine ⟨?_, fun x hx => ?_⟩
      · rw [hg']
        have : (octs l).setIfInBounds k.toNat (Int.toNat (c : Int)).toUInt8 = octs (l.set k.toNat c) := by
          unfold octs
          rw [List.setIfInBounds_toArray, List.map_set]
          rfl
        rw [this]
      · rcases List.mem_or_eq_of_mem_set hx with q | q
        · exact hb x q
        · rw [q]; exact hc
    rw [List.append_assoc, List.cons_append] at S₃
    have S₄ := S₃.setOwn (t' := s₃.toks) hsb hn
    refine hQ .next _ ⟨rfl, fz, ?_⟩ ((mod_no (S := Own.in K (O₁ ++ (a, .bar l) :: O₂)) ((m₁.trans m₂ fun _ h => h.elim).trans m₃ fun _ h => h.elim)).trans (Mod.sameBut (S := (· = a)) hsb rfl) fun b hb => .inl (by have hb : b = a := hb; rw [hb]; exact own_mem))
    have := S₄.subT (T' := T) fun p hp => by simp [hp]
    rw [List.append_assoc, List.cons_append]; exact this) hs

/-- bytes(x) of a bytearray of the call's own -/
theorem Ev.bytesBar {f e : Expr} {pos : Pos} {a : Addr} {l : List Nat} (hf : Ev B K ρ (O₁ ++ (a, .bar l) :: O₂) f (.raw (.type "bytes"))) (h : Ev B K ρ (O₁ ++ (a, .bar l) :: O₂) e (.raw (.ref a))) (hz : l.length ≤ sizeLine)
    (hs : starEach [e] K.env = (false, eval e K.env) :: starEach [] K.env := by rfl)
    (hp : (backTo pos (starEach [e] K.env)).any (·.1) = false := by rfl)
    (he : eval (.Call f [e] [] pos) K.env = (do callWith pos (← eval f K.env) [] (backTo pos (starEach [e] K.env)) []) := by rfl) : Ev B K ρ (O₁ ++ (a, .bar l) :: O₂) (.Call f [e] [] pos) (.bytes l) := fun F T s S Q E hQ => by
  rw [he]
  refine wpAny_bind (hf F T s S _ _ fun v₁ s₁ S₁ m₁ => ?_)
  have e₁ : v₁ = .type "bytes" := by obtain ⟨fz, S₁⟩ := S₁; exact S₁.tmp (v₁, .raw (.type "bytes")) (by simp)
  subst e₁
  refine callWith_of (P := fun h => True) (by simp [hp]) (fun h _ => ⟨.machine, .inr (.inl rfl), Looks.of_pure rfl⟩) (evalArgs_of_spliced hp (Evs.cons h Evs.nil hs F _ s₁ pos S₁ _ _ fun vs s₂ hl S₂ m₂ => ?_))
  obtain ⟨v, rfl⟩ : ∃ v, vs = [v] := by
    match vs, hl with
    | [v], _ => exact ⟨v, rfl⟩
  obtain ⟨fz, S₂⟩ := S₂
  obtain rfl : v = .ref a := S₂.tmp (v, .raw (.ref a)) (by simp)
  obtain ⟨hg, hb⟩ := S₂.ownGet
  refine ⟨trivial, callY_bytes (b := octs l) hg (by rw [octs_size]; exact hz) ?_⟩
  exact hQ _ _ ⟨fz, ((S₂.toks _).push (v := .bytes (octs l) s₂.toks) (d := .bytes l) ⟨⟨_, rfl⟩, hb⟩).subT (by intro p hp; rcases List.mem_cons.mp hp with h | h <;> simp [h])⟩ (m₁.trans m₂ fun _ h => h.elim)
end
end Mine

set_option Elab.async false
set_option maxRecDepth 100000
namespace Mine
open PySem PySem.W PySem.Calls PyProof.Rows

/-- as Ev, Evs, Ex, FSpec, in clean contexts -/
def EvC (B : Bs) (K : Act) (ρ : Rho) (O : Own') (e : Expr) (d : D) : Prop :=
  ∀ (F : Own') (T : Tmp) (s : Shared), 0 < s.toks → St B K ρ (O ++ F) T s → ∀ (Q : Value → Shared → Prop) (E : Value → Shared → Prop), (∀ v s', St B K ρ (O ++ F) ((v, d) :: T) s' → Mod B No s.heap s'.heap → Q v s') → wpC (model B.prog B.w) K.A (eval e K.env) Q E s
def EvsC (B : Bs) (K : Act) (ρ : Rho) (O : Own') (es : List Expr) (ds : List D) : Prop :=
  ∀ (F : Own') (T : Tmp) (s : Shared) (pos : Pos), 0 < s.toks → St B K ρ (O ++ F) T s → ∀ (Q : List Value → Shared → Prop) (E : Value → Shared → Prop), (∀ vs s', vs.length = ds.length → St B K ρ (O ++ F) (vs.zip ds ++ T) s' → Mod B No s.heap s'.heap → Q vs s') →
    wpC (model B.prog B.w) K.A (spliced (backTo pos (starEach es K.env))) Q E s
def EvNewC (B : Bs) (K : Act) (ρ : Rho) (O : Own') (e : Expr) (w : Own) : Prop :=
  ∀ (F : Own') (T : Tmp) (s : Shared), 0 < s.toks → St B K ρ (O ++ F) T s → ∀ (Q : Value → Shared → Prop) (E : Value → Shared → Prop), (∀ (a : Addr) (s' : Shared), St B K ρ ((a, w) :: (O ++ F)) T s' → Mod B No s.heap s'.heap → s.heap.objs.size ≤ a → Q (.ref a) s') → wpC (model B.prog B.w) K.A (eval e K.env) Q E s
def ExC (B : Bs) (K : Act) (ρ : Rho) (O : Own') (ss : List Stmt) (o : Out) : Prop :=
  ∀ (F : Own') (T : Tmp) (s : Shared), 0 < s.toks → St B K ρ (O ++ F) T s → ∀ (Q : Flow → Shared → Prop) (E : Value → Shared → Prop), (∀ fl s', OutSt B K F T o fl s' → Mod B (Own.in K O) s.heap s'.heap → Q fl s') → wpC (model B.prog B.w) K.A (execs ss K.env) Q E s
def Ex1C (B : Bs) (K : Act) (ρ : Rho) (O : Own') (st : Stmt) (o : Out) : Prop :=
  ∀ (F : Own') (T : Tmp) (s : Shared), 0 < s.toks → St B K ρ (O ++ F) T s → ∀ (Q : Flow → Shared → Prop) (E : Value → Shared → Prop), (∀ fl s', OutSt B K F T o fl s' → Mod B (Own.in K O) s.heap s'.heap → Q fl s') → wpC (model B.prog B.w) K.A (exec st K.env) Q E s
def FSpecC (B : Bs) (n : Nat) (f : Value) (ds : List D) (d : D) : Prop :=
  ∀ (A : Around) (fz : Fz) (s : Shared) (vs : List Value), 0 < s.toks → Room A n → G B fz s.heap → Reps fz vs ds → ∀ (Q : Value → Shared → Prop) (E : Value → Shared → Prop), Back B fz s d Q → wpC (model B.prog B.w) A (call f vs) Q E s

section
variable {M : Model} {A : Around} {E : Value → Shared → Prop} {s : Shared} {env : Env}
theorem wpC.items_cons {pos : Pos} {e : Expr} {rest : List Expr} {Q : List Value → Shared → Prop}
    (h : wpC M A (eval e env) (fun v s₁ => wpC M A (spliced (backTo pos (starEach rest env))) (fun vs s₂ => Q (v :: vs) s₂) E s₁) E s)
    (he : starEach (e :: rest) env = (false, eval e env) :: starEach rest env := by rfl) : wpC M A (spliced (backTo pos (starEach (e :: rest) env))) Q E s := by
  rw [he]
  show wpC M A (do
    let v ← eval e env
    let here ← (Pure.pure [v] : Sem (List Value))
    return here ++ (← PySem.holding here (spliced (backTo pos (starEach rest env))))) Q E s
  exact wpC.bind (wpC.mono h (fun v s₁ h₁ => wpC.bindA (wpAny_pure (wpC.bind (wpC.holding (wpC.mono h₁ (fun vs s₂ h₂ => wpC.pure h₂) fun _ _ x => x))))) fun _ _ x => x)
theorem wpC.evalArgs {f : Value} {x : Sem Value} {rest : List (Bool × Sem Value)} {Q : Args → Shared → Prop}
    (h : wpC M A (spliced ((false, x) :: rest)) (fun vs s' => Q ⟨vs, []⟩ s') E s) : wpC M A (PySem.evalArgs f true ((false, x) :: rest) []) Q E s := by
  unfold PySem.evalArgs
  show wpC M A (spliced ((false, x) :: rest) >>= _) Q E s
  refine wpC.bind (wpC.mono h (fun vs s' h' => ?_) fun _ _ x => x)
  refine wpC.holding ?_
  exact wpC.of (wpAny_bind (wpAny_pure (wpAny_bind (wpAny_pure (wpAny_pure h')))))
theorem wpC.callWith {P : Heap → Prop} {pos : Pos} {f : Value} {first : List Value} {args : List (Bool × Sem Value)} {Q : Value → Shared → Prop} (hplain : args.any (·.1) = false)
    (hk : ∀ h, P h → ∃ k, (k = Keeper.frame ∨ k = Keeper.machine ∨ k = Keeper.boundFrame) ∧ Looks M h (keeperOf f) k)
    (h : wpC M A (PySem.evalArgs f true args []) (fun a s₁ => P s₁.heap ∧ wpC M A (PySem.call f (first ++ a.pos) a.kw) Q E s₁) E s) : wpC M A (PySem.callWith pos f first args []) Q E s := by
  unfold PySem.callWith
  refine wpC.bind (wpC.holding (wpC.mono h (fun a s₁ h₁ => wpC.bindA (wpAny_standAt ?_)) fun _ _ x => x))
  obtain ⟨k, hk', L⟩ := hk _ h₁.1
  simp only [hplain, List.any_nil, Bool.or_false]
  refine wpC.bindA (L.here ?_)
  have tail : ∀ {t : Sem Value}, wpC M A t Q E s₁ → wpC M A (t >>= fun r => PySem.holding [r] point >>= fun _ => Pure.pure r) Q E s₁ :=
    fun ht => wpC.bind (wpC.mono ht (fun r s₂ hr => wpC.of (wpAny_bind (wpAny_holding (wpAny_point (wpAny_pure hr))))) fun _ _ x => x)
  have marked (mk : Value) : wpC M A (callMarked mk f (first ++ a.pos) a.kw) Q E s₁ := by
    unfold callMarked
    intro Γ p hΓ hC
    rw [Sem.wp_keep]
    exact h₁.2 Γ p hΓ hC
  rcases hk' with rfl | rfl | rfl <;> dsimp only <;> first | exact tail h₁.2 | (split <;> first | exact tail h₁.2 | exact tail (marked _))
end

section
variable {B : Bs} {K : Act} {ρ ρ' ρ₁ : Rho} {O O' O₁ O₂ R F : Own'} {T : Tmp} {fz : Fz} {s : Shared} {o : Out}

theorem EvC.of {e : Expr} {d : D} (h : Ev B K ρ O e d) : EvC B K ρ O e d := fun F T s _ S Q E hQ => wpC.of (h F T s S Q E hQ)
theorem EvsC.of {es : List Expr} {ds : List D} (h : Evs B K ρ O es ds) : EvsC B K ρ O es ds := fun F T s pos _ S Q E hQ => wpC.of (h F T s pos S Q E hQ)
theorem ExC.of {ss : List Stmt} (h : Ex B K ρ O ss o) : ExC B K ρ O ss o := fun F T s _ S Q E hQ => wpC.of (h F T s S Q E hQ)
theorem Ex1C.of {st : Stmt} (h : Ex1 B K ρ O st o) : Ex1C B K ρ O st o := fun F T s _ S Q E hQ => wpC.of (h F T s S Q E hQ)
theorem FSpecC.of {n : Nat} {f : Value} {ds : List D} {d : D} (h : FSpec B n f ds d) : FSpecC B n f ds d := fun A fz s vs _ rm g r Q E hQ => wpC.of (h A fz s vs rm g r Q E hQ)

theorem EvsC.cons {e : Expr} {es : List Expr} {d : D} {ds : List D} (h : EvC B K ρ O e d) (h' : EvsC B K ρ O es ds) (hs : starEach (e :: es) K.env = (false, eval e K.env) :: starEach es K.env := by rfl) : EvsC B K ρ O (e :: es) (d :: ds) :=
  fun F T s pos hk S Q E hQ => wpC.items_cons (wpC.toks (h F T s hk S _ _ fun v s₁ S₁ m₁ k₁ => h' F _ s₁ pos (Nat.lt_of_lt_of_le hk k₁) S₁ _ _ fun vs s₂ hl S₂ m₂ =>
    hQ (v :: vs) s₂ (by simp [hl]) (S₂.sub (by intro p hp; simp only [List.zip_cons_cons, List.cons_append, List.mem_cons, List.mem_append] at hp ⊢; rcases hp with h | h | h <;> simp [h])) (m₁.trans m₂ fun _ h => h.elim))) hs

theorem EvC.call {f e : Expr} {args : List Expr} {pos : Pos} {fv : Value} {ds : List D} {d : D} {m : Nat} (hf : Ev B K ρ O f (.raw fv)) (ha : EvsC B K ρ O (e :: args) ds) (hk : Keep B fv) (hs : FSpecC B m fv ds d) (hm : m ≤ K.n)
    (hse : starEach (e :: args) K.env = (false, eval e K.env) :: starEach args K.env := by rfl)
    (hp : (backTo pos (starEach (e :: args) K.env)).any (·.1) = false := by rfl)
    (he : eval (.Call f (e :: args) [] pos) K.env = (do callWith pos (← eval f K.env) [] (backTo pos (starEach (e :: args) K.env)) []) := by rfl) : EvC B K ρ O (.Call f (e :: args) [] pos) d := fun F T s hk₀ S Q E hQ => by
  rw [he]
  refine wpC.bindA (with_toks (hf F T s S _ _ fun v₁ s₁ S₁ m₁ k₁ => ?_))
  have e₁ : v₁ = fv := by obtain ⟨fz, S₁⟩ := S₁; exact S₁.tmp (v₁, .raw fv) (by simp)
  subst e₁
  refine wpC.callWith (P := fun h => ∀ a o, B.h₀.get? a = some o → h.get? a = some o) hp (fun h k => hk h k) ?_
  have hk₁ := Nat.lt_of_lt_of_le hk₀ k₁
  have key := wpC.toks (ha F _ s₁ pos hk₁ S₁ (fun vs s₂ => s₁.toks ≤ s₂.toks → (∀ a o, B.h₀.get? a = some o → s₂.heap.get? a = some o) ∧ wpC (model B.prog B.w) K.A (PySem.call v₁ vs) Q E s₂) E fun vs s₂ hl S₂ m₂ k₂ => by
    obtain ⟨fz, S₂⟩ := S₂
    refine ⟨fun a o q => S₂.g.sub a o (S₂.g.base a o q), ?_⟩
    have r : Reps fz vs ds := Reps.of_zip hl fun p hp => S₂.tmp p (List.mem_append_left _ hp)
    exact hs _ fz s₂ vs (Nat.lt_of_lt_of_le hk₁ k₂) (S₂.room.le hm) S₂.g r _ _ (S₂.back fun v s' S' m' =>
      hQ v s' (S'.sub (by intro p hp; rcases List.mem_cons.mp hp with h | h <;> simp [h])) ((m₁.trans m₂ fun _ h => h.elim).trans m' fun _ h => h.elim)))
  rw [hse] at key ⊢
  exact wpC.evalArgs key

theorem EvNewC.bytearray {f e : Expr} {pos : Pos} {n : Nat} (hf : Ev B K ρ O f (.raw (.type "bytearray"))) (h : Ev B K ρ O e (.int n)) (hz : n ≤ sizeLine)
    (hse : starEach [e] K.env = (false, eval e K.env) :: starEach [] K.env := by rfl)
    (hp : (backTo pos (starEach [e] K.env)).any (·.1) = false := by rfl)
    (he : eval (.Call f [e] [] pos) K.env = (do callWith pos (← eval f K.env) [] (backTo pos (starEach [e] K.env)) []) := by rfl) : EvNewC B K ρ O (.Call f [e] [] pos) (.bar (List.replicate n 0)) := fun F T s _ S Q E hQ => by
  rw [he]
  refine wpC.bindA (hf F T s S _ _ fun v₁ s₁ S₁ m₁ => ?_)
  have e₁ : v₁ = .type "bytearray" := by obtain ⟨fz, S₁⟩ := S₁; exact S₁.tmp (v₁, .raw (.type "bytearray")) (by simp)
  subst e₁
  refine wpC.callWith (P := fun _ => True) hp (fun h _ => ⟨.machine, .inr (.inl rfl), Looks.of_pure rfl⟩) ?_
  have key := Evs.cons h Evs.nil hse F _ s₁ pos S₁ (fun vs s₂ => True ∧ wpC (model B.prog B.w) K.A (PySem.call (.type "bytearray") vs) Q E s₂) E fun vs s₂ hl S₂ m₂ => by
    obtain ⟨v, rfl⟩ : ∃ v, vs = [v] := by
      match vs, hl with
      | [v], _ => exact ⟨v, rfl⟩
    obtain ⟨fz, S₂⟩ := S₂
    obtain ⟨t, rfl⟩ : ∃ t, v = .int n t := S₂.tmp (v, .int n) (by simp)
    refine ⟨trivial, callY (by omega) (by omega) fun h' hg hk hsz => ?_⟩
    have hn : OwnAt fz h' s₂.heap.objs.size (.bar (List.replicate n 0)) := by
      refine ⟨?_, fun x hx => ?_⟩
      · rw [hg]
        have : (Array.replicate (n : Int).toNat (0 : UInt8)) = octs (List.replicate n 0) := by
          unfold octs
          rw [List.map_replicate]
          simp
        rw [this]
      · rw [(List.mem_replicate.mp hx).2]; decide
    have S₃ := S₂.addOwn (a := s₂.heap.objs.size) (o := .bar (List.replicate n 0)) (t' := s₂.toks) (Nat.le_refl _) hk (by rw [hsz]; exact Nat.lt_succ_self _) hn
    refine hQ _ _ ⟨fz, S₃.subT fun p hp => by simp [hp]⟩ ((m₁.trans m₂ fun _ h => h.elim).trans (Mod.of_keep (S := No) hk (by rw [hsz]; exact Nat.le_succ _)) fun _ h => h.elim) (Nat.le_trans m₁.size m₂.size)
  rw [hse] at key ⊢
  exact wpC.evalArgs (wpC.of key)

theorem wpC.bindName {x : Str} {v : Value} {Q : Unit → Shared → Prop} {E : Value → Shared → Prop} {A : Around} {env : Env} (h : wpAny (model B.prog B.w) A (storeName env x v) Q E s) : wpC (model B.prog B.w) A (PySem.bindName env x v) Q E s :=
  wpC.of (wpAny_bindName h)

theorem Ex1C.assign {x : Str} {p pos : Pos} {e : Expr} {d : D} (h : EvC B K ρ O e d) (hb : Bindable K x) (hs : swapsWith e (some (.Name x p)) pos.line K.env = pure false := by rfl) :
    Ex1C B K ρ O (.Assign [.Name x p] e pos) (.next ((x, d) :: ρ) O) := fun F T s hk S Q E hQ => by
  rw [exec_Assign_Name _ _ _ _ _ hs]
  refine wpC.bindA (wpAny_standAt (wpC.bind (h F T s hk S _ _ fun v s₁ S₁ m₁ => wpC.bindA (wpAny_standAt (wpC.bind (wpC.bindName ?_))))))
  exact S₁.store (T' := T) List.mem_cons_self hb fun s₂ S₂ m₂ => wpC.pure (hQ .next s₂ ⟨rfl, S₂.sub fun p hp => List.mem_cons_of_mem _ hp⟩ ((mod_no m₁).trans m₂ fun a ha => .inl (own_nil ha)))
theorem ExC.cons {st : Stmt} {r : List Stmt} (h : Ex1C B K ρ O st (.next ρ₁ O₁)) (h' : ExC B K ρ₁ O₁ r o) (hO : ∀ a ∈ O₁.map (·.1), a ∈ O.map (·.1) := by exact fun _ h => h) : ExC B K ρ O (st :: r) o := fun F T s hk S Q E hQ => by
  rw [execs_cons]
  refine wpC.bind (wpC.toks (h F T s hk S _ _ fun fl s₁ ⟨e, S₁⟩ m₁ k₁ => ?_))
  subst e
  exact h' F T s₁ (Nat.lt_of_lt_of_le hk k₁) S₁ Q E fun fl s₂ S₂ m₂ => hQ fl s₂ S₂ (m₁.trans m₂ fun a ha => .inl (own_mono hO ha))
theorem ExC.assignNew {x : Str} {p pos : Pos} {e : Expr} {w : Own} {r : List Stmt} (h : EvNewC B K ρ O e w) (hb : Bindable K x) (h' : ∀ a, ExC B K ((x, .raw (.ref a)) :: ρ) ((a, w) :: O) r o)
    (hs : swapsWith e (some (.Name x p)) pos.line K.env = pure false := by rfl) : ExC B K ρ O (.Assign [.Name x p] e pos :: r) o := fun F T s hk S Q E hQ => by
  rw [execs_cons, exec_Assign_Name _ _ _ _ _ hs]
  refine wpC.bind (wpC.toks (wpC.bindA (wpAny_standAt (wpC.bind (h F T s hk S _ _ fun a s₁ S₁ m₁ ha => wpC.bindA (wpAny_standAt (wpC.bind (wpC.bindName ?_))))))))
  obtain ⟨fz, S₁⟩ := S₁
  refine St.store (T' := T) (v := .ref a) (d := .raw (.ref a)) ⟨fz, StF.push (v := .ref a) (d := .raw (.ref a)) S₁ rfl⟩ List.mem_cons_self hb fun s₂ S₂ m₂ => wpC.pure fun k₁ => ?_
  exact h' a F T s₂ (Nat.lt_of_lt_of_le hk k₁) (S₂.sub fun p hp => List.mem_cons_of_mem _ hp) Q E fun fl s₃ o₃ m₃ => hQ fl s₃ o₃ (mod_new (w := w) m₁ ha ((m₂.mono fun b hb => .inl (own_nil hb)).trans m₃ fun b hb => .inl hb))
end

theorem FSpecC.enter {B : Bs} {nm qual : Str} {params : Arguments} {body : List Stmt} {scope : Scope} {doc pm cdv ct : Value} {an : Option Addr} {fo : Obj} {a : Addr} {ps : List Str} {ds : List D} {d : D} {n : Nat}
    (hget : B.h₀.get? a = some fo) (hd : fo.data = .func (fnX nm qual params body scope [] .none .none doc pm an cdv ct)) (hcd : B.h₀.CodeRec cdv qual)
    (hbind : ∀ vs : List Value, vs.length = ds.length → bindArgs (fnX nm qual params body scope [] .none .none doc pm an cdv ct) ⟨vs, []⟩ = pure (ps.zip vs))
    (hlen : ps.length = ds.length) (hnd : ps.Nodup)
    (hkind : ∀ p ∈ ps, scope.names.lookup p = some .local ∨ (scope.names.lookup p = some .cell ∧ ∀ L, ((cellsFrom (L + 1) scope.names []).lookup p).isSome = true))
    (hcn : ((cellsFrom 0 scope.names []).map (·.1)).Nodup)
    (h : ∀ A s fz, ExC B (actOf (fnX nm qual params body scope [] .none .none doc pm an cdv ct) a A n s fz) (ps.zip ds) [] body (.ret d []))
    (hco : scope.isCoroutine = false := by rfl) (hgen : scope.isGenerator = false := by rfl) (hk : scope.kind = .function := by rfl) :
    FSpecC B (n + 1) (.ref a) ds d := fun A fz s vs htk rm g r Q E hQ => by
  have hvl : vs.length = ds.length := r.length
  have up : ∀ b o, B.h₀.get? b = some o → s.heap.get? b = some o := fun b o e => g.sub b o (g.base b o e)
  refine wpC.call (codeC.callFn (fd := fnX nm qual params body scope [] .none .none doc pm an cdv ct) (body := body) (by have := rm.depth; omega) (up _ _ hget) hd hco hgen rfl (hcd.keeps up) ?_)
  rw [hbind vs hvl]
  refine wpAny_pure (with_toks (wpAny_newFunctionEnv_cells hk (fun x hx => ?_) fun env he s₁ x k₁ => ?_))
  · have hm : x.1 ∈ ps := (List.of_mem_zip (a := x.1) (b := x.2) hx).1
    exact (hkind x.1 hm).imp id fun q => ⟨q.1, q.2 _⟩
  · subst he
    have S := enter_st (body := body) (doc := doc) (pm := pm) (an := an) (cdv := cdv) (ct := ct) (a := a) hlen hnd hkind hcn hk rm g r x
    refine ⟨(g.ok.nolimit.keeps up).keeps x.toInCall.keep, codeC.func (h A s fz [] [] s₁ (Nat.lt_of_lt_of_le htk k₁) ⟨fz, S⟩ _ _ fun fl s₂ o₂ m₂ => ?_)⟩
    obtain ⟨v, rfl, fz', S₂⟩ := o₂
    obtain ⟨h', t', e⟩ := S₂.rel
    have := hQ v fz' h' t' S₂.grow (by rw [e] at S₂; exact S₂.g) (S₂.tmp (v, d) (by simp)) (by have := S₂.mod; rw [e] at this; exact this.mono fun a q => nomatch q)
    rw [e]; exact this
end Mine

set_option Elab.async false
set_option maxRecDepth 100000
namespace Mine
open PySem PySem.W PySem.Calls PyProof.Rows

def parAt (p : Program) (i : Nat) : Arguments := match p.main.body[i]? with | some (.FunctionDef _ a _ _ _ _ _ _ _ _) => a | _ => default
def bodyAt (p : Program) (i : Nat) : List Stmt := match p.main.body[i]? with | some (.FunctionDef _ _ b _ _ _ _ _ _ _) => b | _ => []
def scopeAt (p : Program) (i : Nat) : Scope := match p.main.body[i]? with | some (.FunctionDef _ _ _ _ _ _ s _ _ _) => s | _ => default

/-- a def of the module's stands in the heap -/
structure FnIn (B : Bs) (x : Str) (a : Addr) (p : Program) (i : Nat) (cd : Value) : Prop where
  mg : B.mg x = some (.ref a)
  ob : ∃ fo doc pm an ct, B.h₀.get? a = some fo ∧ fo.data = .func (fnX x x (parAt p i) (bodyAt p i) (scopeAt p i) [] .none .none doc pm an cd ct)
  cr : B.h₀.CodeRec cd x

theorem FnIn.keep {B x a p i cd} (F : FnIn B x a p i cd) : Keep B (.ref a) := let ⟨_, _, _, _, _, h, hd⟩ := F.ob; Keep.fn h hd

/-- the names of the built-ins are not bound by the module -/
def bltNames : List Str := ["len", "range", "bytes", "bytearray", "list", "reversed", "divmod", "int", "zip", "min", "max", "sum", "sorted", "enumerate", "isinstance", "ord", "chr"]
def Blt (B : Bs) : Prop := ∀ x ∈ bltNames, B.mg x = none

/-- the activation's stores of a call with ps and ds -/
abbrev actF (x : Str) (p : Program) (i : Nat) (doc pm : Value) (an : Option Addr) (cd ct : Value) (a : Addr) (A : Around) (n : Nat) (s : Shared) (fz : Fz) : Act :=
  actOf (fnX x x (parAt p i) (bodyAt p i) (scopeAt p i) [] .none .none doc pm an cd ct) a A n s fz

theorem FnIn.spec {B : Bs} {x : Str} {a : Addr} {p : Program} {i : Nat} {cd : Value} {ps : List Str} {ds : List D} {d : D} {n : Nat} (F : FnIn B x a p i cd)
    (hbind : ∀ doc pm an ct, ∀ vs : List Value, vs.length = ds.length → bindArgs (fnX x x (parAt p i) (bodyAt p i) (scopeAt p i) [] .none .none doc pm an cd ct) ⟨vs, []⟩ = pure (ps.zip vs))
    (hlen : ps.length = ds.length) (hnd : ps.Nodup)
    (hkind : ∀ q ∈ ps, (scopeAt p i).names.lookup q = some .local ∨ ((scopeAt p i).names.lookup q = some .cell ∧ ∀ L, ((cellsFrom (L + 1) (scopeAt p i).names []).lookup q).isSome = true))
    (hcn : ((cellsFrom 0 (scopeAt p i).names []).map (·.1)).Nodup)
    (h : ∀ doc pm an ct A s fz, Ex B (actF x p i doc pm an cd ct a A n s fz) (ps.zip ds) [] (bodyAt p i) (.ret d []))
    (hco : (scopeAt p i).isCoroutine = false := by rfl) (hgen : (scopeAt p i).isGenerator = false := by rfl) (hk : (scopeAt p i).kind = .function := by rfl) : FSpec B (n + 1) (.ref a) ds d := by
  obtain ⟨fo, doc, pm, an, ct, hg, hd⟩ := F.ob
  exact FSpec.enter hg hd F.cr (hbind doc pm an ct) hlen hnd hkind hcn (h doc pm an ct) hco hgen hk
theorem FnIn.specC {B : Bs} {x : Str} {a : Addr} {p : Program} {i : Nat} {cd : Value} {ps : List Str} {ds : List D} {d : D} {n : Nat} (F : FnIn B x a p i cd)
    (hbind : ∀ doc pm an ct, ∀ vs : List Value, vs.length = ds.length → bindArgs (fnX x x (parAt p i) (bodyAt p i) (scopeAt p i) [] .none .none doc pm an cd ct) ⟨vs, []⟩ = pure (ps.zip vs))
    (hlen : ps.length = ds.length) (hnd : ps.Nodup)
    (hkind : ∀ q ∈ ps, (scopeAt p i).names.lookup q = some .local ∨ ((scopeAt p i).names.lookup q = some .cell ∧ ∀ L, ((cellsFrom (L + 1) (scopeAt p i).names []).lookup q).isSome = true))
    (hcn : ((cellsFrom 0 (scopeAt p i).names []).map (·.1)).Nodup)
    (h : ∀ doc pm an ct A s fz, ExC B (actF x p i doc pm an cd ct a A n s fz) (ps.zip ds) [] (bodyAt p i) (.ret d []))
    (hco : (scopeAt p i).isCoroutine = false := by rfl) (hgen : (scopeAt p i).isGenerator = false := by rfl) (hk : (scopeAt p i).kind = .function := by rfl) : FSpecC B (n + 1) (.ref a) ds d := by
  obtain ⟨fo, doc, pm, an, ct, hg, hd⟩ := F.ob
  exact FSpecC.enter hg hd F.cr (hbind doc pm an ct) hlen hnd hkind hcn (h doc pm an ct) hco hgen hk

section
variable {B : Bs} {K : Act} {ρ : Rho} {O : Own'}
/-- a call of a built-in function or type by its name -/
theorem Ev.cb {x : Str} {np pos : Pos} {args : List Expr} {v : Value} {ds : List D} {d : D} (N : Blt B) (hv : bootBuiltins x = some v) (ha : Evs B K ρ O args ds) (hs : FSpec B 0 v ds d) (hk : Keep B v)
    (hm : x ∈ bltNames := by decide) (hkind : K.env.kindOf x = some .globalImplicit := by rfl) (hn : x ≠ "__name__" := by decide) (hd : (x == ("__debug__" : Str)) = false := by decide)
    (hp : (backTo pos (starEach args K.env)).any (·.1) = false := by rfl)
    (he : eval (.Call (.Name x np) args [] pos) K.env = (do callWith pos (← eval (.Name x np) K.env) [] (backTo pos (starEach args K.env)) []) := by rfl) : Ev B K ρ O (.Call (.Name x np) args [] pos) d :=
  Ev.call (Ev.blt (N x hm) hv hkind hn hd) ha hk hs (Nat.zero_le _) hp he
/-- a call of a def of the module's by its name -/
theorem Ev.cf {x : Str} {np pos : Pos} {args : List Expr} {a : Addr} {p : Program} {i m : Nat} {cd : Value} {ds : List D} {d : D} (F : FnIn B x a p i cd) (ha : Evs B K ρ O args ds) (hs : FSpec B m (.ref a) ds d) (hm : m ≤ K.n)
    (hkind : K.env.kindOf x = some .globalImplicit := by rfl) (hd : (x == ("__debug__" : Str)) = false := by decide)
    (hp : (backTo pos (starEach args K.env)).any (·.1) = false := by rfl)
    (he : eval (.Call (.Name x np) args [] pos) K.env = (do callWith pos (← eval (.Name x np) K.env) [] (backTo pos (starEach args K.env)) []) := by rfl) : Ev B K ρ O (.Call (.Name x np) args [] pos) d :=
  Ev.call (Ev.glob F.mg hkind hd) ha F.keep hs hm hp he
theorem EvC.cf {x : Str} {np pos : Pos} {e : Expr} {args : List Expr} {a : Addr} {p : Program} {i m : Nat} {cd : Value} {ds : List D} {d : D} (F : FnIn B x a p i cd) (ha : EvsC B K ρ O (e :: args) ds) (hs : FSpecC B m (.ref a) ds d) (hm : m ≤ K.n)
    (hkind : K.env.kindOf x = some .globalImplicit := by rfl) (hd : (x == ("__debug__" : Str)) = false := by decide)
    (hse : starEach (e :: args) K.env = (false, eval e K.env) :: starEach args K.env := by rfl)
    (hp : (backTo pos (starEach (e :: args) K.env)).any (·.1) = false := by rfl)
    (he : eval (.Call (.Name x np) (e :: args) [] pos) K.env = (do callWith pos (← eval (.Name x np) K.env) [] (backTo pos (starEach (e :: args) K.env)) []) := by rfl) : EvC B K ρ O (.Call (.Name x np) (e :: args) [] pos) d :=
  EvC.call (Ev.glob F.mg hkind hd) ha F.keep hs hm hse hp he
theorem EvIt.cb {t : Expr} {x : Str} {np pos : Pos} {args : List Expr} {v : Value} {ds vals : List D} (N : Blt B) (hv : bootBuiltins x = some v) (ha : Evs B K ρ O args ds) (hs : CMake B K.A t v ds vals) (hk : Keep B v)
    (hm : x ∈ bltNames := by decide) (hkind : K.env.kindOf x = some .globalImplicit := by rfl) (hn : x ≠ "__name__" := by decide) (hd : (x == ("__debug__" : Str)) = false := by decide)
    (hp : (backTo pos (starEach args K.env)).any (·.1) = false := by rfl)
    (he : eval (.Call (.Name x np) args [] pos) K.env = (do callWith pos (← eval (.Name x np) K.env) [] (backTo pos (starEach args K.env)) []) := by rfl) : EvIt B K ρ O t (.Call (.Name x np) args [] pos) vals :=
  EvIt.call (Ev.blt (N x hm) hv hkind hn hd) ha hk hs hp he
theorem Evs.c1 {e : Expr} {d : D} (h : Ev B K ρ O e d) (hs : starEach [e] K.env = (false, eval e K.env) :: starEach [] K.env := by rfl) : Evs B K ρ O [e] [d] := Evs.cons h Evs.nil hs
theorem Evs.c2 {e e' : Expr} {d d' : D} (h : Ev B K ρ O e d) (h' : Ev B K ρ O e' d') (hs : starEach [e, e'] K.env = (false, eval e K.env) :: starEach [e'] K.env := by rfl) (hs' : starEach [e'] K.env = (false, eval e' K.env) :: starEach [] K.env := by rfl) : Evs B K ρ O [e, e'] [d, d'] :=
  Evs.cons h (Evs.c1 h' hs') hs
theorem Evs.c3 {e e' e'' : Expr} {d d' d'' : D} (h : Ev B K ρ O e d) (h' : Ev B K ρ O e' d') (h'' : Ev B K ρ O e'' d'') (hs : starEach [e, e', e''] K.env = (false, eval e K.env) :: starEach [e', e''] K.env := by rfl) (hs' : starEach [e', e''] K.env = (false, eval e' K.env) :: starEach [e''] K.env := by rfl)
    (hs'' : starEach [e''] K.env = (false, eval e'' K.env) :: starEach [] K.env := by rfl) : Evs B K ρ O [e, e', e''] [d, d', d''] := Evs.cons h (Evs.c2 h' h'' hs' hs'') hs

theorem Ex.retNil {ss : List Stmt} {d : D} {O' : Own'} (h : Ex B K ρ O ss (.ret d O')) : Ex B K ρ O ss (.ret d []) := fun F T s S Q E hQ =>
  h F T s S Q E fun fl s' o m => by
    obtain ⟨v, rfl, fz, S'⟩ := o
    exact hQ _ s' ⟨v, rfl, fz, StF.dropO S'⟩ m
theorem Ex.last {e : Expr} {pos : Pos} {d : D} (h : Ev B K ρ O e d) : Ex B K ρ O [.Return (some e) pos] (.ret d []) := Ex.retNil (Ex.stop (Ex1.ret h))

def Agree : Rho → Rho → Prop
  | [], _ => True
  | p :: r, ρ => ρ.lookup p.1 = some p.2 ∧ Agree r ρ
theorem Agree.all : ∀ {ρ' ρ : Rho}, Agree ρ' ρ → ∀ q ∈ ρ', ρ.lookup q.1 = some q.2
  | _ :: _, _, h, q, hq => by
    rcases List.mem_cons.mp hq with e | e
    · exact e ▸ h.1
    · exact Agree.all h.2 q e

/-- a loop that folds -/
theorem Turns.fold {σ α : Type} {t : Expr} {body : List Stmt} {o : Out} (enc : α → D) (f : σ → α → σ) (ρf : σ → Rho) (Of : σ → Own') (P : σ → Prop) : ∀ (vals : List α) (st : σ) (ρ : Rho), P st → (∀ x d, (ρf st).lookup x = some d → ρ.lookup x = some d) →
    (∀ st a, P st → a ∈ vals → P (f st a) ∧ (∀ q ∈ (Of (f st a)).map (·.1), q ∈ (Of st).map (·.1)) ∧ ∃ ρt ρ₁, Asg B K (ρf st) t (enc a) ρt ∧ Ex B K ρt (Of st) body (.next ρ₁ (Of (f st a))) ∧ Agree (ρf (f st a)) ρ₁) →
    o = .next (ρf (vals.foldl f st)) (Of (vals.foldl f st)) → Turns B K t body (vals.map enc) ρ (Of st) o
  | [], st, ρ, _, hρ, _, ho => by subst ho; exact Turns.done hρ
  | a :: vals, st, ρ, hP, hρ, step, ho => by
    obtain ⟨hP', hO, ρt, ρ₁, ha, he, hl⟩ := step st a hP List.mem_cons_self
    exact Turns.next hρ ha he hO (Turns.fold enc f ρf Of P vals (f st a) ρ₁ hP' (lookup_of_all hl.all) (fun st b hp hb => step st b hp (List.mem_cons_of_mem _ hb)) ho)

theorem Turns.foldP' {σ α : Type} {t : Expr} {body : List Stmt} {o : Out} (enc : α → D) (f : σ → α → σ) (ρf : σ → Rho) (Of : σ → Own') (all : List α) (st0 : σ)
    (step : ∀ pre a post, all = pre ++ a :: post → (∀ q ∈ (Of (f (pre.foldl f st0) a)).map (·.1), q ∈ (Of (pre.foldl f st0)).map (·.1)) ∧ ∃ ρt ρ₁, Asg B K (ρf (pre.foldl f st0)) t (enc a) ρt ∧ Ex B K ρt (Of (pre.foldl f st0)) body (.next ρ₁ (Of (f (pre.foldl f st0) a))) ∧ Agree (ρf (f (pre.foldl f st0) a)) ρ₁)
    (ho : o = .next (ρf (all.foldl f st0)) (Of (all.foldl f st0))) : ∀ (vals pre : List α) (ρ : Rho), all = pre ++ vals → (∀ x d, (ρf (pre.foldl f st0)).lookup x = some d → ρ.lookup x = some d) → Turns B K t body (vals.map enc) ρ (Of (pre.foldl f st0)) o
  | [], pre, ρ, he, hρ => by
    rw [List.append_nil] at he
    subst he ho
    exact Turns.done hρ
  | a :: vals, pre, ρ, he, hρ => by
    obtain ⟨hO, ρt, ρ₁, ha, hx, hl⟩ := step pre a vals he
    have e : (pre ++ [a]).foldl f st0 = f (pre.foldl f st0) a := by rw [List.foldl_append]; rfl
    have := Turns.foldP' enc f ρf Of all st0 step ho vals (pre ++ [a]) ρ₁ (by rw [he, List.append_assoc]; rfl) (by rw [e]; exact lookup_of_all hl.all)
    rw [e] at this
    exact Turns.next hρ ha hx hO this
theorem Turns.foldP {σ α : Type} {t : Expr} {body : List Stmt} {o : Out} (enc : α → D) (f : σ → α → σ) (ρf : σ → Rho) (Of : σ → Own') (vals : List α) (st : σ) (ρ : Rho) (hρ : Agree (ρf st) ρ)
    (step : ∀ pre a post, vals = pre ++ a :: post → (∀ q ∈ (Of (f (pre.foldl f st) a)).map (·.1), q ∈ (Of (pre.foldl f st)).map (·.1)) ∧ ∃ ρt ρ₁, Asg B K (ρf (pre.foldl f st)) t (enc a) ρt ∧ Ex B K ρt (Of (pre.foldl f st)) body (.next ρ₁ (Of (f (pre.foldl f st) a))) ∧ Agree (ρf (f (pre.foldl f st) a)) ρ₁)
    (ho : o = .next (ρf (vals.foldl f st)) (Of (vals.foldl f st))) : Turns B K t body (vals.map enc) ρ (Of st) o :=
  Turns.foldP' enc f ρf Of vals st step ho vals [] ρ rfl (lookup_of_all hρ.all)
end
end Mine

set_option Elab.async false
set_option maxRecDepth 100000
namespace Mine
open PySem PySem.W PySem.Calls PyProof.Rows

section
variable {B : Bs}

theorem foldl_rep {v : Value} : ∀ (k : Nat) (acc : Array Value), List.foldl (fun x1 x2 => x1 ++ x2) acc (List.replicate k #[v]) = acc ++ (List.replicate k v).toArray
  | 0, acc => by simp
  | k + 1, acc => by
    rw [List.replicate_succ, List.foldl_cons, foldl_rep k, List.replicate_succ]
    apply Array.toList_inj.mp
    simp
theorem reps_rep {fz : Fz} {v : Value} {d : D} (h : Rep fz v d) : ∀ k, Reps fz (List.replicate k v) (List.replicate k d)
  | 0 => Reps.nil
  | k + 1 => Reps.cons h (reps_rep h k)

theorem wpAny_mulN {A : Around} {s : Shared} {l : Addr} {items : Array Value} {n : Nat} {x : Int} {u : Tok} {Q : Value → Shared → Prop} {E : Value → Shared → Prop} (h : s.heap.get? l = some { cls := .type "list", dict := none, data := .seq items n, slots := #[] })
    (hlo : -(2 ^ 63 : Int) ≤ x) (hhi : x < 2 ^ 63) (hsz : items.size * x.toNat ≤ 2 ^ 24)
    (hQ : Q (.ref s.heap.objs.size) { s with heap := s.heap.push { cls := .type "list", data := .seq (List.foldl (fun x1 x2 => x1 ++ x2) #[] (List.replicate (if items.isEmpty = true then 0 else x.toNat) items)) } }) : wpAny (model B.prog B.w) A (binaryOp .Mult (.ref l) (.int x u)) Q E s :=
  wpAny_binaryOp_repeat_ref (T := "list") (U := "int") (by decide) ⟨_, h, rfl⟩ (fun s' => typeIs_int s' x u) noFill_list_mul F.fills_int_mul F.slot_int_rmul repeat_list F.slot_int_index.lookup
    (call_meets F.slot_int_rmul (typeIs_int s x u) F.entry_int_rmul (F.args_int_rmul_2 _ _) (int___rmul___int_list x u l items n)
      ⟨h, rfl, ⟨_, h, rfl⟩, call_meets F.slot_list_mul ⟨_, h, rfl⟩ F.entry_list_mul (F.args_list_mul_2 _ _)
        (AutoListH.list___mul___list_int_3 l items n x u (by simp [Builtin.List.listFitsIndex]; omega) (by omega) (by simp [Builtin.List.listTooLong, sizeLine]; omega)) ⟨h, hQ⟩⟩)

/-- [x] * k -/
theorem wpAny_mul1 {A : Around} {s : Shared} {l : Addr} {v : Value} {n : Nat} {k : Nat} {u : Tok} {Q : Value → Shared → Prop} {E : Value → Shared → Prop} (h : s.heap.get? l = some (lstObj [v] n)) (hk : k ≤ sizeLine)
    (hQ : Q (.ref s.heap.objs.size) { s with heap := s.heap.push (lstObj (List.replicate k v) 0) }) : wpAny (model B.prog B.w) A (binaryOp .Mult (.ref l) (.int k u)) Q E s := by
  have hz : (sizeLine : Int) < 2 ^ 63 := by decide
  have hz2 : sizeLine = 2 ^ 24 := rfl
  refine wpAny_mulN (items := [v].toArray) (n := n) h (by omega) (by omega) ?_ ?_
  · rw [List.size_toArray]
    simp only [List.length_singleton, Nat.one_mul, Int.toNat_natCast]
    omega
  · have e2 : (if ([v].toArray : Array Value).isEmpty = true then 0 else (k : Int).toNat) = k := by simp
    rw [e2]
    have e3 := foldl_rep (v := v) k #[]
    rw [show ([v].toArray : Array Value) = #[v] from rfl, e3, Array.empty_append]
    exact hQ

theorem op_mulL {d : D} {k : Nat} (hk : k ≤ sizeLine) : Op2 B (binaryOp .Mult) (.list [d]) (.int k) (.list (List.replicate k d)) := fun A fz s v₁ v₂ rm g r ⟨u, e⟩ Q E hQ => by
  subst e
  obtain ⟨l, us, n, rfl, ha, hl, hr⟩ := r.isList g
  obtain ⟨v, rfl, rv⟩ := reps1 hr
  exact wpAny_mul1 ha hk (hQ.list g (reps_rep rv k) 0 s.toks)
end

section
variable {B : Bs} {K : Act} {ρ ρ' : Rho} {O O₁ O₂ R F : Own'} {T : Tmp} {fz : Fz} {s : Shared} {o : Out}

/-- a new list that the call may change -/
theorem StF.newList {vs : List Value} {ds : List D} (S : StF B K ρ (O ++ F) T fz s) (r : Reps fz vs ds) (n : Nat) : StF B K ρ ((s.heap.objs.size, .lst ds) :: (O ++ F)) T fz { s with heap := s.heap.push (lstObj vs n), toks := s.toks } :=
  S.addOwn (a := s.heap.objs.size) (o := .lst ds) (t' := s.toks) (Nat.le_refl _) (fun b ob e => Heap.get?_push_of_some _ e) (by rw [Heap.size_push]; exact Nat.lt_succ_self _) ⟨vs, n, Heap.get?_push_size _ rfl, r⟩

theorem EvNew.mul {l r : Expr} {pos : Pos} {d : D} {k : Nat} (h1 : Ev B K ρ O l (.list [d])) (h2 : Ev B K ρ O r (.int k)) (hk : k ≤ sizeLine) : EvNew B K ρ O (.BinOp l .Mult r pos) (.lst (List.replicate k d)) := fun F T s S Q E hQ =>
  wpAny_BinOp (h1 F T s S _ _ fun v₁ s₁ S₁ m₁ => h2 F _ s₁ S₁ _ _ fun v₂ s₂ ⟨fz, S₂⟩ m₂ => by
    obtain ⟨u, rfl⟩ : ∃ u, v₂ = .int k u := S₂.tmp (v₂, .int k) (by simp)
    obtain ⟨l, us, n, rfl, ha, hl, hr⟩ := (S₂.tmp (v₁, .list [d]) (by simp)).isList S₂.g
    obtain ⟨v, rfl, rv⟩ := reps1 hr
    refine wpAny_mul1 ha hk ?_
    exact hQ _ _ ⟨fz, (S₂.newList (reps_rep rv k) 0).subT fun p hp => by simp [hp]⟩ ((m₁.trans m₂ fun _ h => h.elim).trans (Mod.push (S := No)) fun _ h => h.elim) (Nat.le_trans m₁.size m₂.size))

/-- x[i] = e of a list of the call's own -/
theorem Ex1.setLst {obj ix val : Expr} {p pos : Pos} {a : Addr} {ds ds' : List D} {k : Int} {d : D} (h1 : Ev B K ρ (O₁ ++ (a, .lst ds) :: O₂) val d) (h2 : Ev B K ρ (O₁ ++ (a, .lst ds) :: O₂) obj (.raw (.ref a)))
    (h3 : Ev B K ρ (O₁ ++ (a, .lst ds) :: O₂) ix (.int k)) (h0 : 0 ≤ k) (hk : k < ds.length) (hz : ds.length ≤ sizeLine) (hl' : ds' = ds.set k.toNat d)
    (hs : swapsWith val (some (.Subscript obj ix p)) pos.line K.env = pure false := by rfl) :
    Ex1 B K ρ (O₁ ++ (a, .lst ds) :: O₂) (.Assign [.Subscript obj ix p] val pos) (.next ρ (O₁ ++ (a, .lst ds') :: O₂)) := fun R T s S Q E hQ => by
  subst hl'
  exact wpAny_Assign_Subscript (h1 R T s S _ _ fun v₁ s₁ S₁ m₁ => h2 R _ s₁ S₁ _ _ fun v₂ s₂ S₂ m₂ => h3 R _ s₂ S₂ _ _ fun v₃ s₃ S₃ m₃ => by
    obtain ⟨fz, S₃⟩ := S₃
    have hr : Rep fz v₁ d := S₃.tmp (v₁, d) (by simp)
    obtain rfl : v₂ = .ref a := S₃.tmp (v₂, .raw (.ref a)) (by simp)
    obtain ⟨u, rfl⟩ : ∃ u, v₃ = .int k u := S₃.tmp (v₃, .int k) (by simp)
    obtain ⟨us, n, hg, hrs⟩ := S₃.ownGet
    have hlen : us.length = ds.length := hrs.length
    have hzz : (sizeLine : Int) < 2 ^ 63 := by decide
    refine ki_setAt (items := us.toArray) (n := n) hg h0 (by omega) (by rw [List.size_toArray, hlen]; exact hk) ?_
    have hsb : Heap.SameBut a s₃.heap (s₃.heap.update a (Obj.mapSeq fun x => x.setIfInBounds k.toNat v₁)) := Heap.SameBut.update ..
    have hn : OwnAt fz (s₃.heap.update a (Obj.mapSeq fun x => x.setIfInBounds k.toNat v₁)) a (.lst (ds.set k.toNat d)) :=
      ⟨us.set k.toNat v₁, _, by rw [IsL.update (n := n) hg fun x => x.setIfInBounds k.toNat v₁]; simp only [List.setIfInBounds_toArray]; rfl, hrs.set _ hr⟩
    rw [List.append_assoc, List.cons_append] at S₃
    have S₄ := S₃.setOwn (t' := s₃.toks) hsb hn
    refine hQ .next _ ⟨rfl, fz, ?_⟩ ((mod_no (S := Own.in K (O₁ ++ (a, .lst ds) :: O₂)) ((m₁.trans m₂ fun _ h => h.elim).trans m₃ fun _ h => h.elim)).trans (Mod.sameBut (S := (· = a)) hsb rfl) fun b hb => .inl (by have hb : b = a := hb; rw [hb]; exact own_mem))
    have := S₄.subT (T' := T) fun p hp => by simp [hp]
    rw [List.append_assoc, List.cons_append]; exact this) hs

theorem f_bitlen {i : Int} : FSpec B 0 (.builtin "int.bit_length") [.int i] (.int (Builtin.Int.intBits i)) := FSpec.of1 fun A fz s v rm g ⟨t, e⟩ Q E hQ => by
  subst e
  exact call_meets F.slot_int_bit_length (typeIs_int s i t) F.entry_int_bit_length (F.args_int_bit_length_1 _) (AutoIntG2.int_bit_length_int_0 i t).meets (show (Made.int (Builtin.Int.intBits i : Int)).post _ s from hQ.same g ⟨_, rfl⟩ _)
end
end Mine

set_option Elab.async false
set_option maxRecDepth 100000
namespace Mine
open PySem PySem.W PySem.Calls PyProof.Rows

section
variable {B : Bs} {K : Act} {ρ ρ' : Rho} {O O₁ O₂ R F : Own'} {T : Tmp} {fz : Fz} {s : Shared} {o : Out}

theorem Ev.as {e : Expr} {d d' : D} (h : Ev B K ρ O e d) (q : d = d') : Ev B K ρ O e d' := q ▸ h
theorem Ev.int {e : Expr} {i j : Int} (h : Ev B K ρ O e (.int i)) (q : i = j) : Ev B K ρ O e (.int j) := q ▸ h
theorem Et.as {e : Expr} {b b' : Bool} (h : Et B K ρ O e b) (q : b = b') : Et B K ρ O e b' := q ▸ h

theorem Ex.nilW {O' : Own'} (e : O = O') : Ex B K ρ O [] (.next [] O') := e ▸ Ex.weak Ex.nil fun _ _ h => nomatch h

theorem Ex.nilA {ρ' : Rho} {O' : Own'} (h : Agree ρ' ρ) (e : O = O') : Ex B K ρ O [] (.next ρ' O') := e ▸ Ex.weak Ex.nil (lookup_of_all h.all)

theorem Ex.nilO {O' : Own'} (e : O = O') : Ex B K ρ O [] (.next ρ O') := e ▸ Ex.nil

theorem actOf_cell {fd : FuncData} {a : Addr} {A : Around} {n : Nat} {s : Shared} {fz : Fz} {x : Str} (hk : fd.scope.names.lookup x = some .cell) (h : ((cellsFrom (s.heap.objs.size + 1) fd.scope.names []).lookup x).isSome = true) : Bindable (actOf fd a A n s fz) x := by
  obtain ⟨c, hc⟩ := Option.isSome_iff_exists.mp h
  exact .inr ⟨hk, c, hc, List.mem_map.mpr ⟨(x, c), lookup_some_mem hc, rfl⟩⟩

/-- len(x) of a list of the call's own -/
theorem Ev.lenOwn {x : Str} {np pos : Pos} {e : Expr} {a : Addr} {ds : List D} (N : Blt B) (hx : x = "len") (h : Ev B K ρ (O₁ ++ (a, .lst ds) :: O₂) e (.raw (.ref a))) (hz : ds.length ≤ sizeLine)
    (hkind : K.env.kindOf "len" = some .globalImplicit := by rfl)
    (hs : starEach [e] K.env = (false, eval e K.env) :: starEach [] K.env := by rfl)
    (hp : (backTo pos (starEach [e] K.env)).any (·.1) = false := by rfl)
    (he : eval (.Call (.Name x np) [e] [] pos) K.env = (do callWith pos (← eval (.Name x np) K.env) [] (backTo pos (starEach [e] K.env)) []) := by rfl) : Ev B K ρ (O₁ ++ (a, .lst ds) :: O₂) (.Call (.Name x np) [e] [] pos) (.int ds.length) := fun F T s S Q E hQ => by
  subst hx
  rw [he]
  refine wpAny_bind ((Ev.blt (N _ (by decide)) Boot.len hkind : Ev B K ρ (O₁ ++ (a, .lst ds) :: O₂) _ _) F T s S _ _ fun v₁ s₁ S₁ m₁ => ?_)
  have e₁ : v₁ = .builtin "len" := by obtain ⟨fz, S₁⟩ := S₁; exact S₁.tmp (v₁, .raw (.builtin "len")) (by simp)
  subst e₁
  refine callWith_of (P := fun h => True) (by simp [hp]) (fun h _ => ⟨.machine, .inr (.inl rfl), Looks.of_pure rfl⟩) (evalArgs_of_spliced hp (Evs.cons h Evs.nil hs F _ s₁ pos S₁ _ _ fun vs s₂ hl S₂ m₂ => ?_))
  obtain ⟨v, rfl⟩ : ∃ v, vs = [v] := by
    match vs, hl with
    | [v], _ => exact ⟨v, rfl⟩
  obtain ⟨fz, S₂⟩ := S₂
  obtain rfl : v = .ref a := S₂.tmp (v, .raw (.ref a)) (by simp)
  obtain ⟨us, n, hg, hr⟩ := S₂.ownGet
  have hL : s₂.heap.IsList a us.toArray := ⟨_, hg, rfl, n, rfl⟩
  have hsz : us.toArray.size = ds.length := by rw [List.size_toArray, hr.length]
  refine ⟨trivial, Calls.call_len_list hL ?_ ?_⟩
  · rw [hsz]; have : (sizeLine : Int) < 2 ^ 63 := by decide
    omega
  · rw [hsz]
    exact hQ _ _ ⟨fz, ((S₂.toks _).push (v := .int ds.length (s₂.toks + 1)) (d := .int ds.length) ⟨_, rfl⟩).subT (by intro p hp; rcases List.mem_cons.mp hp with h | h <;> simp [h])⟩ (m₁.trans m₂ fun _ h => h.elim)
end

theorem bitAnd_nat (x y : Nat) : Builtin.bitAnd (x : Int) (y : Int) = ((x &&& y : Nat) : Int) := by
  unfold Builtin.bitAnd
  simp
theorem bitOr_nat (x y : Nat) : Builtin.bitOr (x : Int) (y : Int) = ((x ||| y : Nat) : Int) := by
  unfold Builtin.bitOr Builtin.bitNot Builtin.bitAnd
  have h1 : decide (0 ≤ -(x : Int) - 1) = false := decide_eq_false (by omega)
  have h2 : decide (0 ≤ -(y : Int) - 1) = false := decide_eq_false (by omega)
  rw [h1, h2]
  simp only
  unfold Builtin.bitNot
  have e1 : (-(-(x : Int) - 1) - 1).toNat = x := by omega
  have e2 : (-(-(y : Int) - 1) - 1).toNat = y := by omega
  rw [e1, e2]
  omega
theorem or_xor_and : ∀ n x y : Nat, x < 2 ^ n → y < 2 ^ n → x ||| y = (x ^^^ y) + (x &&& y)
  | 0, x, y, hx, hy => by
    have : x = 0 := by omega
    have : y = 0 := by omega
    subst x y
    rfl
  | n + 1, x, y, hx, hy => by
    have ih := or_xor_and n (x / 2) (y / 2) (by rw [Nat.pow_succ] at hx; omega) (by rw [Nat.pow_succ] at hy; omega)
    have d1 : (x ||| y) / 2 = x / 2 ||| y / 2 := Nat.or_div_two
    have d2 : (x ^^^ y) / 2 = x / 2 ^^^ y / 2 := Nat.xor_div_two
    have d3 : (x &&& y) / 2 = x / 2 &&& y / 2 := Nat.and_div_two
    have m : ∀ a b : Nat, a < 2 → b < 2 → a ||| b = (a ^^^ b) + (a &&& b) := fun a b ha hb => by
      rcases (by omega : a = 0 ∨ a = 1) with rfl | rfl <;> rcases (by omega : b = 0 ∨ b = 1) with rfl | rfl <;> rfl
    have m1 : (x ||| y) % 2 = x % 2 ||| y % 2 := Nat.or_mod_two_pow (n := 1)
    have m2 : (x ^^^ y) % 2 = x % 2 ^^^ y % 2 := Nat.xor_mod_two_pow (n := 1)
    have m3 : (x &&& y) % 2 = x % 2 &&& y % 2 := Nat.and_mod_two_pow (n := 1)
    have mm := m (x % 2) (y % 2) (Nat.mod_lt _ (by decide)) (Nat.mod_lt _ (by decide))
    omega
theorem bitXor_nat (x y : Nat) : Builtin.bitXor (x : Int) (y : Int) = ((x ^^^ y : Nat) : Int) := by
  unfold Builtin.bitXor
  rw [bitOr_nat, bitAnd_nat]
  obtain ⟨n, h1, h2⟩ : ∃ n, x < 2 ^ n ∧ y < 2 ^ n := ⟨x + y, Nat.lt_of_le_of_lt (Nat.le_add_right x y) Nat.lt_two_pow_self, Nat.lt_of_le_of_lt (Nat.le_add_left y x) Nat.lt_two_pow_self⟩
  rw [or_xor_and n x y h1 h2]
  omega
theorem xor_low (x s : Nat) : x ^^^ (x / 2 ^ s * 2 ^ s) = x % 2 ^ s := by
  apply Nat.eq_of_testBit_eq
  intro i
  rw [Nat.testBit_xor, Nat.testBit_mul_two_pow, Nat.testBit_mod_two_pow]
  by_cases h : s ≤ i
  · have : ¬ i < s := by omega
    simp [h, this, Nat.testBit_div_two_pow]
  · have : i < s := by omega
    simp [h, this]
end Mine

set_option Elab.async false
set_option maxRecDepth 100000
namespace Mine
open PySem PySem.W PySem.Calls PyProof.Rows

/-- the figures of x to the base 2^n are put behind place L -/
def putD (n x L k : Nat) (ds : List D) : List D := (List.range k).foldl (fun ds i => ds.set (L + i) (.int (x / 2 ^ (n * i) % 2 ^ n : Nat))) ds

theorem foldl_ext {α β : Type} {f g : β → α → β} : ∀ {l : List α} {b : β}, (∀ b, ∀ a ∈ l, f b a = g b a) → l.foldl f b = l.foldl g b
  | [], _, _ => rfl
  | a :: r, b, h => by
    rw [List.foldl_cons, List.foldl_cons, h b a List.mem_cons_self]
    exact foldl_ext fun b c hc => h b c (List.mem_cons_of_mem _ hc)

theorem low_digit {x n k i : Nat} (h : n * i + n ≤ n * k) : x % 2 ^ (n * k) / 2 ^ (n * i) % 2 ^ n = x / 2 ^ (n * i) % 2 ^ n := by
  apply Nat.eq_of_testBit_eq
  intro j
  rw [Nat.testBit_mod_two_pow, Nat.testBit_mod_two_pow, Nat.testBit_div_two_pow, Nat.testBit_div_two_pow, Nat.testBit_mod_two_pow]
  by_cases hj : j < n
  · have : j + n * i < n * k := by omega
    simp [hj, this]
  · simp [hj]
theorem putD_one {n x L : Nat} {ds : List D} (hx : x < 2 ^ n) : putD n x L 1 ds = ds.set L (.int x) := by
  have e : x / 2 ^ (n * 0) % 2 ^ n = x := by rw [Nat.mul_zero, Nat.pow_zero, Nat.div_one, Nat.mod_eq_of_lt hx]
  show (List.range 1).foldl _ ds = _
  rw [show List.range 1 = [0] from rfl, List.foldl_cons, List.foldl_nil, e, Nat.add_zero]
theorem putD_split (n x L k₁ k₂ : Nat) (ds : List D) : putD n (x / 2 ^ (n * k₁)) (L + k₁) k₂ (putD n (x % 2 ^ (n * k₁)) L k₁ ds) = putD n x L (k₁ + k₂) ds := by
  unfold putD
  rw [List.range_add, List.foldl_append, List.foldl_map]
  have e1 : (List.range k₁).foldl (fun ds i => ds.set (L + i) (D.int (x % 2 ^ (n * k₁) / 2 ^ (n * i) % 2 ^ n : Nat))) ds = (List.range k₁).foldl (fun ds i => ds.set (L + i) (D.int (x / 2 ^ (n * i) % 2 ^ n : Nat))) ds := by
    refine foldl_ext fun b i hi => ?_
    have hi := List.mem_range.mp hi
    rw [low_digit]
    have : n * (i + 1) ≤ n * k₁ := Nat.mul_le_mul_left n hi
    rw [Nat.mul_succ] at this
    exact this
  rw [e1]
  refine foldl_ext fun b i hi => ?_
  rw [Nat.add_assoc, Nat.div_div_eq_div_mul, ← Nat.pow_add, Nat.mul_add]
theorem putD_len {n x L k : Nat} : ∀ {ds : List D}, (putD n x L k ds).length = ds.length := by
  unfold putD
  induction (List.range k) with
  | nil => intro ds; rfl
  | cons a r ih => intro ds; rw [List.foldl_cons, ih, List.length_set]

/-- the figures, the lowest first -/
def digs (n x : Nat) : List Nat := (List.range ((Builtin.Int.intBits (x : Int) + n - 1) / n)).map fun i => x / 2 ^ (n * i) % 2 ^ n

theorem putD_all {n x : Nat} : ∀ (k : Nat) (ds : List D), ds.length = k → putD n x 0 k ds = (List.range k).map fun (i : Nat) => D.int (x / 2 ^ (n * i) % 2 ^ n : Nat) := by
  intro k ds hk
  have key : ∀ j ≤ k, putD n x 0 j ds = ((List.range j).map fun (i : Nat) => D.int (x / 2 ^ (n * i) % 2 ^ n : Nat)) ++ ds.drop j := by
    intro j
    induction j with
    | zero => intro _; simp [putD]
    | succ j ih =>
      intro hj
      have h1 := ih (by omega)
      have e : putD n x 0 (j + 1) ds = (putD n x 0 j ds).set j (.int (x / 2 ^ (n * j) % 2 ^ n : Nat)) := by
        unfold putD
        rw [List.range_succ, List.foldl_append]
        simp
      rw [e, h1, List.range_succ, List.map_append]
      have hd : ds.drop j = ds[j] :: ds.drop (j + 1) := List.drop_eq_getElem_cons (by omega)
      rw [hd, List.set_append_right _ _ (by simp), List.length_map, List.length_range, Nat.sub_self, List.set_cons_zero, List.append_assoc]
      rfl
  have := key k (Nat.le_refl _)
  rw [this, ← hk, List.drop_length, List.append_nil]

/-- the number that the figures say, the lowest first -/
def undig (n : Nat) : List Nat → Nat
  | [] => 0
  | c :: r => c + 2 ^ n * undig n r
theorem undig_app (n : Nat) : ∀ (x y : List Nat), undig n (x ++ y) = undig n x + 2 ^ (n * x.length) * undig n y
  | [], y => by simp [undig]
  | c :: r, y => by
    rw [List.cons_append, undig, undig, undig_app n r y, List.length_cons, Nat.mul_add, Nat.mul_succ, Nat.pow_add, ← Nat.mul_assoc, Nat.mul_comm (2 ^ (n * r.length)) (2 ^ n), Nat.add_assoc]
theorem undig_lt {n : Nat} : ∀ {x : List Nat}, (∀ c ∈ x, c < 2 ^ n) → undig n x < 2 ^ (n * x.length)
  | [], _ => by simp [undig]
  | c :: r, h => by
    have ih := undig_lt (x := r) fun c hc => h c (List.mem_cons_of_mem _ hc)
    have hc := h c List.mem_cons_self
    rw [undig, List.length_cons, Nat.mul_succ, Nat.pow_add, Nat.mul_comm (2 ^ (n * r.length))]
    have : 2 ^ n * undig n r + 2 ^ n ≤ 2 ^ n * 2 ^ (n * r.length) := by
      rw [← Nat.mul_succ]
      exact Nat.mul_le_mul_left _ ih
    omega
/-- the part from L, k figures long -/
abbrev part (ds : List Nat) (L k : Nat) : List Nat := (ds.drop L).take k
theorem part_split {ds : List Nat} {L k₁ k₂ : Nat} : part ds L (k₁ + k₂) = part ds L k₁ ++ part ds (L + k₁) k₂ := by
  unfold part
  rw [List.take_add, List.drop_drop]
theorem part_len {ds : List Nat} {L k : Nat} (h : L + k ≤ ds.length) : (part ds L k).length = k := by
  unfold part
  rw [List.length_take, List.length_drop]
  omega
theorem part_mem {ds : List Nat} {L k c : Nat} (h : c ∈ part ds L k) : c ∈ ds := List.mem_of_mem_drop (List.mem_of_mem_take h)
theorem part_one {ds : List Nat} {n L : Nat} (h : L < ds.length) : undig n (part ds L 1) = ds.getD L 0 := by
  have : part ds L 1 = [ds[L]] := by
    unfold part
    rw [List.drop_eq_getElem_cons h]
    rfl
  rw [this, List.getD_eq_getElem?_getD, List.getElem?_eq_getElem h]
  simp [undig]

theorem bits_pow {x : Nat} : x < 2 ^ Builtin.Int.intBits (x : Int) := by
  unfold Builtin.Int.intBits
  split
  · rename_i h
    have : x = 0 := by simpa using h
    subst this
    decide
  · exact Nat.lt_log2_self
theorem bits_le {x m : Nat} (h : x < 2 ^ m) : Builtin.Int.intBits (x : Int) ≤ m := by
  unfold Builtin.Int.intBits
  split
  · exact Nat.zero_le _
  · rename_i h0
    have : x ≠ 0 := by simpa using h0
    have := (Nat.log2_lt this).mpr h
    have e : (x : Int).natAbs = x := by simp
    rw [e]; exact this
end Mine

set_option Elab.async false
set_option maxRecDepth 100000
namespace Mine
open PySem PySem.W PySem.Calls PyProof.Rows

namespace Re
open PySem.Sre

def iter : Nat → M → M
  | 0, m => m
  | n + 1, m => iter n m.step
theorem step_done {m : M} (h : m.outcome.isSome = true) : m.step = m := by
  unfold M.step
  rw [if_pos h]
theorem iter_done {m : M} (h : m.outcome.isSome = true) : ∀ n, iter n m = m
  | 0 => rfl
  | n + 1 => by rw [iter, step_done h]; exact iter_done h n
theorem iter_add (a b : Nat) : ∀ m, iter (a + b) m = iter b (iter a m) := by
  induction a with
  | zero => intro m; rw [Nat.zero_add]; rfl
  | succ a ih => intro m; rw [Nat.succ_add]; exact ih m.step
theorem runFor_iter : ∀ n m, M.runFor n m = iter n m
  | 0, _ => rfl
  | n + 1, m => by
    unfold M.runFor
    split
    · rename_i h
      rw [iter_done h]
    · exact runFor_iter n m.step

section
variable {Mo : Model} {A : Around} {E : Value → Shared → Prop} {s : Shared}
theorem wpAny_drive {Q : M → Shared → Prop} {k : Nat} {m : M} : ∀ {turns : Nat} {m0 : M} {k0 : Nat}, m = iter k0 m0 → m.outcome.isSome = true → k0 ≤ 4 * turns → 1 ≤ turns → Q m s → wpAny Mo A (Builtin.Re.reDrive turns m0) Q E s
  | 0, _, _, _, _, _, h, _ => absurd h (by decide)
  | turns + 1, m0, k0, he, ho, hk, _, hQ => by
    unfold Builtin.Re.reDrive
    simp only [Builtin.Re.reTurnSteps, runFor_iter]
    by_cases hd : (iter 4 m0).outcome.isSome = true
    · rw [if_pos hd]
      refine wpAny_pure ?_
      have : m = iter 4 m0 := by
        by_cases h4 : k0 ≤ 4
        · have e : iter 4 m0 = iter (4 - k0) (iter k0 m0) := by rw [← iter_add, show k0 + (4 - k0) = 4 by omega]
          rw [e, ← he, iter_done ho]
        · have e : iter k0 m0 = iter (k0 - 4) (iter 4 m0) := by rw [← iter_add, show 4 + (k0 - 4) = k0 by omega]
          rw [he, e, iter_done hd]
      rw [← this]; exact hQ
    · rw [if_neg hd]
      have h4 : 4 < k0 := by
        rcases Nat.lt_or_ge 4 k0 with h | h
        · exact h
        · have e : iter 4 m0 = iter (4 - k0) (iter k0 m0) := by rw [← iter_add, show k0 + (4 - k0) = 4 by omega]
          rw [e, ← he, iter_done ho] at hd
          exact absurd ho hd
      have e : iter k0 m0 = iter (k0 - 4) (iter 4 m0) := by rw [← iter_add, show 4 + (k0 - 4) = k0 by omega]
      exact wpAny_bind (wpAny_rule (wpAny_drive (k := k) (he.trans e) ho (by omega) (by omega) hQ))
end

def code1 : Array Nat := #[14, 4, 0, 1, 1, 6, 1, 16, 46, 1]
def fr1 (s : Nat) (first : Bool) : Sre.Frame := { wait := .nextStart, pc := 5, pos := s, outermost := first }
def st1 (text : Array Nat) (s : Nat) (first : Bool) (sn : Sre.Seen) : M :=
  { code := code1, text, lim := text.size, start := s, lastStart := text.size, pc := 5, pos := s, handed := s, outermost := first, marks := #[], frames := [fr1 s first], weight := 1, seen := sn }

theorem st1_at (text : Array Nat) (s : Nat) (first : Bool) (sn : Sre.Seen) : (st1 text s first sn).step =
    (if (s == 0 || text.getD (s - 1) 0 == 10) = true then { st1 text s first ((sn.add 6).add 44) with pc := 7 } else { st1 text s first ((sn.add 6).add 44) with answer := some false }) := by
  rfl

/-- an attempt said no -/
def no1 (text : Array Nat) (s : Nat) (first : Bool) (sn : Sre.Seen) (pc : Nat) : M := { st1 text s first sn with pc := pc, answer := some false }
def yes1 (text : Array Nat) (s : Nat) (first : Bool) (sn : Sre.Seen) : M := { st1 text s first sn with pc := 9, pos := s + 1, handed := s + 1, answer := some true }
theorem no1_next {text : Array Nat} {s : Nat} {first : Bool} {sn : Sre.Seen} {pc : Nat} (h : s < text.size) : (no1 text s first sn pc).step = st1 text (s + 1) false sn := by
  show (if s < text.size then _ else _) = _
  rw [if_pos h]
  rfl
theorem no1_last {text : Array Nat} {s : Nat} {first : Bool} {sn : Sre.Seen} {pc : Nat} (h : ¬ s < text.size) : ((no1 text s first sn pc).step.step).outcome = some .failed := by
  have e : (no1 text s first sn pc).step = M.say { st1 text s first sn with frames := [], weight := 0 } false := by
    show (if s < text.size then _ else _) = _
    rw [if_neg h]
    rfl
  rw [e]
  rfl
theorem st1_lit {text : Array Nat} {s : Nat} {first : Bool} {sn : Sre.Seen} (h : s < text.size) : M.step { st1 text s first sn with pc := 7 } =
    (match (text.getD s 0 == 46) with
     | true => { st1 text s first (sn.add 16) with pc := 9, pos := s + 1 }
     | false => no1 text s first (sn.add 16) 7) := by
  show (if s ≥ text.size then _ else _) = _
  rw [if_neg (by omega)]
  show (match accepts code1 7 (text.getD s 0) (sn.add 16) with
    | .error why => _
    | .ok (false, seen) => _
    | .ok (true, seen) => _) = _
  have e : accepts code1 7 (text.getD s 0) (sn.add 16) = .ok (text.getD s 0 == 46, sn.add 16) := rfl
  rw [e]
  cases text.getD s 0 == 46 <;> rfl
theorem st1_lit_end {text : Array Nat} {s : Nat} {first : Bool} {sn : Sre.Seen} (h : ¬ s < text.size) : M.step { st1 text s first sn with pc := 7 } = no1 text s first (sn.add 16) 7 := by
  show (if s ≥ text.size then _ else _) = _
  rw [if_pos (by omega)]
  rfl
theorem st1_ok {text : Array Nat} {s : Nat} {first : Bool} {sn : Sre.Seen} : M.step { st1 text s first sn with pc := 9, pos := s + 1 } = yes1 text s first (sn.add 1) := by
  cases first <;> rfl
theorem yes1_end {text : Array Nat} {s : Nat} {first : Bool} {sn : Sre.Seen} : (yes1 text s first sn).step.step = { st1 text s first sn with frames := [], weight := 0, pos := s, handed := s + 1, answer := some true, outcome := some .matched } := by
  rfl

/-- a dot at the head of a line -/
def hit1 (text : Array Nat) (s : Nat) : Bool := (s == 0 || text.getD (s - 1) 0 == 10) && (decide (s < text.size) && text.getD s 0 == 46)

theorem try1 (text : Array Nat) (s : Nat) (first : Bool) (sn : Sre.Seen) :
    (hit1 text s = true → ∃ k ≤ 6, ∃ m, iter k (st1 text s first sn) = m ∧ m.outcome = some .matched ∧ m.start = s ∧ m.handed = s + 1) ∧
    (hit1 text s = false → s < text.size → ∃ k ≤ 6, ∃ sn', iter k (st1 text s first sn) = st1 text (s + 1) false sn') ∧
    (hit1 text s = false → ¬ s < text.size → ∃ k ≤ 6, (iter k (st1 text s first sn)).outcome = some .failed) := by
  unfold hit1
  have ha := st1_at text s first sn
  cases hb : (s == 0 || text.getD (s - 1) 0 == 10)
  · rw [hb] at ha
    simp only [Bool.false_eq_true, if_false] at ha
    have ha : (st1 text s first sn).step = no1 text s first ((sn.add 6).add 44) 5 := ha
    refine ⟨fun h => by simp at h, fun _ h => ⟨2, by decide, (sn.add 6).add 44, ?_⟩, fun _ h => ⟨3, by decide, ?_⟩⟩
    · show (st1 text s first sn).step.step = _
      rw [ha, no1_next h]
    · show ((st1 text s first sn).step.step.step).outcome = _
      rw [ha]
      exact no1_last h
  · rw [hb] at ha
    simp only [if_true] at ha
    by_cases hs : s < text.size
    · have hl := st1_lit (text := text) (s := s) (first := first) (sn := (sn.add 6).add 44) hs
      cases hc : (text.getD s 0 == 46)
      · rw [hc] at hl
        refine ⟨fun h => by simp at h, fun _ h => ⟨3, by decide, ((sn.add 6).add 44).add 16, ?_⟩, fun _ h => absurd hs h⟩
        show (st1 text s first sn).step.step.step = _
        rw [ha, hl]
        exact no1_next h
      · rw [hc] at hl
        refine ⟨fun _ => ⟨5, by decide, _, rfl, ?_⟩, fun h => by simp [hs] at h, fun h => by simp [hs] at h⟩
        have e : iter 5 (st1 text s first sn) = (st1 text s first sn).step.step.step.step.step := rfl
        rw [e, ha, hl]
        show (M.step { st1 text s first _ with pc := 9, pos := s + 1 }).step.step.outcome = _ ∧ (M.step { st1 text s first _ with pc := 9, pos := s + 1 }).step.step.start = _ ∧ (M.step { st1 text s first _ with pc := 9, pos := s + 1 }).step.step.handed = _
        rw [st1_ok, yes1_end]
        exact ⟨rfl, rfl, rfl⟩
    · refine ⟨fun h => by simp [hs] at h, fun _ h => absurd h hs, fun _ h => ⟨4, by decide, ?_⟩⟩
      have e : iter 4 (st1 text s first sn) = (st1 text s first sn).step.step.step.step := rfl
      rw [e, ha, st1_lit_end hs]
      exact no1_last hs
end Re
end Mine

set_option Elab.async false
set_option maxRecDepth 100000
namespace Mine
open PySem PySem.W PySem.Calls PyProof.Rows

namespace Re
open PySem.Sre

def code2 : Array Nat := #[14, 9, 4, 1, 2, 16, 10, 16, 13, 0, 7, 7, 16, 13, 16, 10, 15, 18, 5, 16, 10, 15, 13, 11, 16, 13, 5, 5, 0, 16, 10, 1, 15, 2, 0, 1]
def mk2 (text : Array Nat) (s pos pc hd : Nat) (om : Bool) (fr : List Sre.Frame) (w : Nat) (ans : Option Bool) (sn : Sre.Seen) : M :=
  { code := code2, text, lim := text.size, start := s, lastStart := text.size, pc, pos, handed := hd, outermost := om, marks := #[], frames := fr, weight := w, answer := ans, seen := sn }
def fS (s : Nat) (first : Bool) : Sre.Frame := { wait := .nextStart, pc := 10, pos := s, outermost := first }
def fB (pc s : Nat) (first : Bool) : Sre.Frame := { wait := .nextBranch, pc, pos := s, outermost := first }
def fL (s : Nat) (first : Bool) : Sre.Frame := { wait := .lookNot, pc := 26, pos := s, outermost := first }

section
variable {text : Array Nat} {s hd : Nat} {first : Bool} {sn : Sre.Seen}
theorem s_branch : (mk2 text s s 10 hd first [fS s first] 1 none sn).step = mk2 text s s 12 s first [fB 11 s first, fS s first] 2 none (sn.add 7) := rfl
theorem s_lit12 {pos hd w : Nat} {om : Bool} {fr : List Sre.Frame} (hp : pos < text.size) : (mk2 text s pos 12 hd om fr w none sn).step =
    (match (text.getD pos 0 == 13) with
     | true => mk2 text s (pos + 1) 14 hd om fr w none (sn.add 16)
     | false => mk2 text s pos 12 hd om fr w (some false) (sn.add 16)) := by
  show (if pos ≥ text.size then _ else _) = _
  rw [if_neg (by omega)]
  show (match accepts code2 12 (text.getD pos 0) (sn.add 16) with
    | .error why => _
    | .ok (false, seen) => _
    | .ok (true, seen) => _) = _
  have e : accepts code2 12 (text.getD pos 0) (sn.add 16) = .ok (text.getD pos 0 == 13, sn.add 16) := rfl
  rw [e]
  cases text.getD pos 0 == 13 <;> rfl
theorem s_lit14 {pos hd w : Nat} {om : Bool} {fr : List Sre.Frame} (hp : pos < text.size) : (mk2 text s pos 14 hd om fr w none sn).step =
    (match (text.getD pos 0 == 10) with
     | true => mk2 text s (pos + 1) 16 hd om fr w none (sn.add 16)
     | false => mk2 text s pos 14 hd om fr w (some false) (sn.add 16)) := by
  show (if pos ≥ text.size then _ else _) = _
  rw [if_neg (by omega)]
  show (match accepts code2 14 (text.getD pos 0) (sn.add 16) with
    | .error why => _
    | .ok (false, seen) => _
    | .ok (true, seen) => _) = _
  have e : accepts code2 14 (text.getD pos 0) (sn.add 16) = .ok (text.getD pos 0 == 10, sn.add 16) := rfl
  rw [e]
  cases text.getD pos 0 == 10 <;> rfl
theorem s_lit14e {pos hd w : Nat} {om : Bool} {fr : List Sre.Frame} (hp : ¬ pos < text.size) : (mk2 text s pos 14 hd om fr w none sn).step = mk2 text s pos 14 hd om fr w (some false) (sn.add 16) := by
  show (if pos ≥ text.size then _ else _) = _
  rw [if_pos (by omega)]
  rfl
theorem s_lit19 {pos hd w : Nat} {om : Bool} {fr : List Sre.Frame} (hp : pos < text.size) : (mk2 text s pos 19 hd om fr w none sn).step =
    (match (text.getD pos 0 == 10) with
     | true => mk2 text s (pos + 1) 21 hd om fr w none (sn.add 16)
     | false => mk2 text s pos 19 hd om fr w (some false) (sn.add 16)) := by
  show (if pos ≥ text.size then _ else _) = _
  rw [if_neg (by omega)]
  show (match accepts code2 19 (text.getD pos 0) (sn.add 16) with
    | .error why => _
    | .ok (false, seen) => _
    | .ok (true, seen) => _) = _
  have e : accepts code2 19 (text.getD pos 0) (sn.add 16) = .ok (text.getD pos 0 == 10, sn.add 16) := rfl
  rw [e]
  cases text.getD pos 0 == 10 <;> rfl
theorem s_lit24 {pos hd w : Nat} {om : Bool} {fr : List Sre.Frame} (hp : pos < text.size) : (mk2 text s pos 24 hd om fr w none sn).step =
    (match (text.getD pos 0 == 13) with
     | true => mk2 text s (pos + 1) 26 hd om fr w none (sn.add 16)
     | false => mk2 text s pos 24 hd om fr w (some false) (sn.add 16)) := by
  show (if pos ≥ text.size then _ else _) = _
  rw [if_neg (by omega)]
  show (match accepts code2 24 (text.getD pos 0) (sn.add 16) with
    | .error why => _
    | .ok (false, seen) => _
    | .ok (true, seen) => _) = _
  have e : accepts code2 24 (text.getD pos 0) (sn.add 16) = .ok (text.getD pos 0 == 13, sn.add 16) := rfl
  rw [e]
  cases text.getD pos 0 == 13 <;> rfl
theorem s_lit29 {pos hd w : Nat} {om : Bool} {fr : List Sre.Frame} (hp : pos < text.size) : (mk2 text s pos 29 hd om fr w none sn).step =
    (match (text.getD pos 0 == 10) with
     | true => mk2 text s (pos + 1) 31 hd om fr w none (sn.add 16)
     | false => mk2 text s pos 29 hd om fr w (some false) (sn.add 16)) := by
  show (if pos ≥ text.size then _ else _) = _
  rw [if_neg (by omega)]
  show (match accepts code2 29 (text.getD pos 0) (sn.add 16) with
    | .error why => _
    | .ok (false, seen) => _
    | .ok (true, seen) => _) = _
  have e : accepts code2 29 (text.getD pos 0) (sn.add 16) = .ok (text.getD pos 0 == 10, sn.add 16) := rfl
  rw [e]
  cases text.getD pos 0 == 10 <;> rfl
theorem s_lit29e {pos hd w : Nat} {om : Bool} {fr : List Sre.Frame} (hp : ¬ pos < text.size) : (mk2 text s pos 29 hd om fr w none sn).step = mk2 text s pos 29 hd om fr w (some false) (sn.add 16) := by
  show (if pos ≥ text.size then _ else _) = _
  rw [if_pos (by omega)]
  rfl
theorem s_jump16 {pos hd w : Nat} {om : Bool} {fr : List Sre.Frame} : (mk2 text s pos 16 hd om fr w none sn).step = mk2 text s pos 35 hd om fr w none (sn.add 15) := rfl
theorem s_jump21 {pos hd w : Nat} {om : Bool} {fr : List Sre.Frame} : (mk2 text s pos 21 hd om fr w none sn).step = mk2 text s pos 35 hd om fr w none (sn.add 15) := rfl
theorem s_jump32 {pos hd w : Nat} {om : Bool} {fr : List Sre.Frame} : (mk2 text s pos 32 hd om fr w none sn).step = mk2 text s pos 35 hd om fr w none (sn.add 15) := rfl
theorem s_ok {pos hd w : Nat} {om : Bool} {fr : List Sre.Frame} : (mk2 text s pos 35 hd om fr w none sn).step = mk2 text s pos 35 pos om fr w (some true) (sn.add 1) := by cases om <;> rfl
theorem s_yes {pos pc b : Nat} {om f : Bool} : ((mk2 text s pos pc hd om [fB b s f, fS s f] 2 (some true) sn).step.step.step) = { mk2 text s s 10 hd f [] 0 (some true) sn with outcome := some .matched } := rfl
theorem s_no1 {pos pc : Nat} {om : Bool} : (mk2 text s pos pc hd om [fB 11 s first, fS s first] 2 (some false) sn).step = mk2 text s s 19 s first [fB 18 s first, fS s first] 2 none sn := rfl
theorem s_no2 {pos pc : Nat} {om : Bool} : (mk2 text s pos pc hd om [fB 18 s first, fS s first] 2 (some false) sn).step = mk2 text s s 24 s first [fB 23 s first, fS s first] 2 none sn := rfl
theorem s_assert {pos : Nat} : (mk2 text s pos 26 hd first [fB 23 s first, fS s first] 2 none sn).step = mk2 text s pos 29 pos false [fL pos first, fB 23 s first, fS s first] 3 none (sn.add 5) := rfl
theorem s_look {pos q pc : Nat} {om : Bool} : (mk2 text s q pc hd om [fL pos first, fB 23 s first, fS s first] 3 (some false) sn).step = mk2 text s pos 32 hd first [fB 23 s first, fS s first] 2 none sn := rfl

/-- the end of a sign of a line's end at s -/
def len2 (text : Array Nat) (s : Nat) : Nat := if text.getD s 0 == 13 && (decide (s + 1 < text.size) && text.getD (s + 1) 0 == 10) then s + 2 else s + 1

/-- the attempt that says yes -/
def fin2 (text : Array Nat) (s hd : Nat) (m : M) : Prop := m.outcome = some .matched ∧ m.start = s ∧ m.handed = hd
theorem ok2 {pos b : Nat} {om : Bool} : fin2 text s pos (iter 4 (mk2 text s pos 35 hd om [fB b s first, fS s first] 2 none sn)) := by
  show fin2 text s pos (mk2 text s pos 35 hd om [fB b s first, fS s first] 2 none sn).step.step.step.step
  rw [s_ok, s_yes]
  exact ⟨rfl, rfl, rfl⟩
theorem iter_succ (n : Nat) (m : M) : iter (n + 1) m = iter n m.step := rfl

theorem tail2 {pos : Nat} {sn : Sre.Seen} (h13 : (text.getD s 0 == 13) = true) (hs : s < text.size) (hn : (decide (s + 1 < text.size) && text.getD (s + 1) 0 == 10) = false) :
    ∃ k ≤ 14, fin2 text s (s + 1) (iter k (mk2 text s pos 14 hd first [fB 11 s first, fS s first] 2 (some false) sn)) := by
  have h10 : (text.getD s 0 == 10) = false := by
    have : text.getD s 0 = 13 := by simpa using h13
    rw [this]; rfl
  have e1 := s_lit19 (text := text) (s := s) (pos := s) (hd := s) (w := 2) (om := first) (fr := [fB 18 s first, fS s first]) (sn := sn) hs
  rw [h10] at e1
  have e2 := s_lit24 (text := text) (s := s) (pos := s) (hd := s) (w := 2) (om := first) (fr := [fB 23 s first, fS s first]) (sn := sn.add 16) hs
  rw [h13] at e2
  have e3 : ∃ sn', (mk2 text s (s + 1) 29 (s + 1) false [fL (s + 1) first, fB 23 s first, fS s first] 3 none (((sn.add 16).add 16).add 5)).step = mk2 text s (s + 1) 29 (s + 1) false [fL (s + 1) first, fB 23 s first, fS s first] 3 (some false) sn' := by
    by_cases hp : s + 1 < text.size
    · have e := s_lit29 (text := text) (s := s) (pos := s + 1) (hd := s + 1) (w := 3) (om := false) (fr := [fL (s + 1) first, fB 23 s first, fS s first]) (sn := ((sn.add 16).add 16).add 5) hp
      have : (text.getD (s + 1) 0 == 10) = false := by simpa [hp] using hn
      rw [this] at e
      exact ⟨_, e⟩
    · exact ⟨_, s_lit29e hp⟩
  obtain ⟨sn', e3⟩ := e3
  refine ⟨12, by decide, ?_⟩
  rw [iter_succ, s_no1, iter_succ, e1, iter_succ, s_no2, iter_succ, e2, iter_succ, s_assert, iter_succ, e3, iter_succ, s_look, iter_succ, s_jump32]
  exact ok2

theorem try2 (hs : s < text.size) (hc : text.getD s 0 = 10 ∨ text.getD s 0 = 13) : ∃ k ≤ 20, fin2 text s (len2 text s) (iter k (mk2 text s s 10 s first [fS s first] 1 none sn)) := by
  have e0 := s_lit12 (text := text) (s := s) (pos := s) (hd := s) (w := 2) (om := first) (fr := [fB 11 s first, fS s first]) (sn := sn.add 7) hs
  rcases hc with hc | hc
  · have h13 : (text.getD s 0 == 13) = false := by rw [hc]; rfl
    have h10 : (text.getD s 0 == 10) = true := by rw [hc]; rfl
    rw [h13] at e0
    have e1 := s_lit19 (text := text) (s := s) (pos := s) (hd := s) (w := 2) (om := first) (fr := [fB 18 s first, fS s first]) (sn := (sn.add 7).add 16) hs
    rw [h10] at e1
    have hl : len2 text s = s + 1 := by unfold len2; rw [h13]; rfl
    rw [hl]
    refine ⟨9, by decide, ?_⟩
    rw [iter_succ, s_branch, iter_succ, e0, iter_succ, s_no1, iter_succ, e1, iter_succ, s_jump21]
    exact ok2
  · have h13 : (text.getD s 0 == 13) = true := by rw [hc]; rfl
    rw [h13] at e0
    by_cases hp : s + 1 < text.size
    · have e1 := s_lit14 (text := text) (s := s) (pos := s + 1) (hd := s) (w := 2) (om := first) (fr := [fB 11 s first, fS s first]) (sn := (sn.add 7).add 16) hp
      cases h10 : (text.getD (s + 1) 0 == 10)
      · rw [h10] at e1
        have hn : (decide (s + 1 < text.size) && text.getD (s + 1) 0 == 10) = false := by rw [h10, Bool.and_false]
        have hl : len2 text s = s + 1 := by unfold len2; rw [hn, Bool.and_false]; rfl
        obtain ⟨k, hk, hf⟩ := tail2 (text := text) (s := s) (hd := s) (first := first) (pos := s + 1) (sn := ((sn.add 7).add 16).add 16) h13 hs hn
        refine ⟨k + 3, by omega, ?_⟩
        rw [hl, iter_succ, s_branch, iter_succ, e0, iter_succ, e1]
        exact hf
      · rw [h10] at e1
        have hl : len2 text s = s + 2 := by unfold len2; rw [h13, h10, decide_eq_true hp]; rfl
        refine ⟨8, by decide, ?_⟩
        rw [hl, iter_succ, s_branch, iter_succ, e0, iter_succ, e1, iter_succ, s_jump16]
        exact ok2
    · have e1 := s_lit14e (text := text) (s := s) (pos := s + 1) (hd := s) (w := 2) (om := first) (fr := [fB 11 s first, fS s first]) (sn := (sn.add 7).add 16) hp
      have hn : (decide (s + 1 < text.size) && text.getD (s + 1) 0 == 10) = false := by rw [decide_eq_false hp, Bool.false_and]
      have hl : len2 text s = s + 1 := by unfold len2; rw [hn, Bool.and_false]; rfl
      obtain ⟨k, hk, hf⟩ := tail2 (text := text) (s := s) (hd := s) (first := first) (pos := s + 1) (sn := ((sn.add 7).add 16).add 16) h13 hs hn
      refine ⟨k + 3, by omega, ?_⟩
      rw [hl, iter_succ, s_branch, iter_succ, e0, iter_succ, e1]
      exact hf

/-- the first sign of a line's end from s on -/
def next2 (text : Array Nat) : Nat → Nat → Option Nat
  | 0, _ => none
  | n + 1, s => if text.getD s 0 == 10 || text.getD s 0 == 13 then some s else next2 text n (s + 1)
theorem inSet2 {c : Nat} : inSet code2 c code2.size 5 true sn = if (c == 10) = true then .ok (true, sn.add 16) else if (c == 13) = true then .ok (true, (sn.add 16).add 16) else .ok (false, ((sn.add 16).add 16).add 0) := rfl
theorem admitted2 {m : M} (hcode : m.code = code2) (htext : m.text = text) (hlim : m.lim = text.size) : ∀ (n fuel s : Nat) (sn : Sre.Seen), text.size - s = n → n < fuel → ∃ sn', M.admitted m fuel s sn = .ok (next2 text n s, sn')
  | n, 0, s, sn, _, h => absurd h (Nat.not_lt_zero _)
  | 0, fuel + 1, s, sn, hn, _ => by
    unfold M.admitted
    rw [if_pos (by rw [hlim]; omega)]
    exact ⟨sn, rfl⟩
  | n + 1, fuel + 1, s, sn, hn, h => by
    unfold M.admitted
    rw [if_neg (by rw [hlim]; omega), hcode, htext, inSet2]
    unfold next2
    by_cases h10 : (text.getD s 0 == 10) = true
    · rw [if_pos h10, h10]
      exact ⟨_, rfl⟩
    · rw [if_neg h10]
      have h10' : (text.getD s 0 == 10) = false := by simpa using h10
      by_cases h13 : (text.getD s 0 == 13) = true
      · rw [if_pos h13, h13, h10']
        exact ⟨_, rfl⟩
      · rw [if_neg h13]
        have h13' : (text.getD s 0 == 13) = false := by simpa using h13
        rw [h10', h13']
        obtain ⟨sn', e⟩ := admitted2 hcode htext hlim n fuel (s + 1) (((sn.add 16).add 16).add 0) (by omega) (by omega)
        exact ⟨sn', e⟩
theorem next2_spec {text : Array Nat} : ∀ {n s p : Nat}, next2 text n s = some p → s ≤ p ∧ p < s + n ∧ (text.getD p 0 = 10 ∨ text.getD p 0 = 13)
  | 0, _, _, h => nomatch h
  | n + 1, s, p, h => by
    unfold next2 at h
    split at h
    · rename_i hc
      cases h
      exact ⟨Nat.le_refl _, by omega, by simpa using hc⟩
    · have := next2_spec h
      exact ⟨by omega, by omega, this.2.2⟩
end
end Re
end Mine

set_option Elab.async false
set_option maxRecDepth 100000
namespace Mine
open PySem PySem.W PySem.Calls PyProof.Rows

namespace Re
open PySem.Sre

/-- what a search says: where, and up to where -/
abbrev Fnd := Array Nat → Nat → Option (Nat × Nat)
def next1 (text : Array Nat) : Nat → Nat → Option Nat
  | 0, _ => none
  | n + 1, s => if hit1 text s then some s else next1 text n (s + 1)
def fnd1 : Fnd := fun text s => (next1 text (text.size - s) s).map fun p => (p, p + 1)
def fnd2 : Fnd := fun text s => (next2 text (text.size - s) s).map fun p => (p, len2 text p)

/-- the engine, set off at s, comes to what f says -/
def Runs (code : Array Nat) (f : Fnd) : Prop := ∀ (text : Array Nat) (s : Nat), s ≤ text.size → ∃ k ≤ 20 * (text.size + 2), match f text s with
  | some (p, e) => (iter k (forSearch code text 0 s text.size false)).outcome = some .matched ∧ (iter k (forSearch code text 0 s text.size false)).start = p ∧ (iter k (forSearch code text 0 s text.size false)).handed = e
  | none => (iter k (forSearch code text 0 s text.size false)).outcome = some .failed

theorem run1_go (text : Array Nat) : ∀ (n s : Nat) (first : Bool) (sn : Sre.Seen), text.size - s = n → s ≤ text.size → ∃ k ≤ 6 * (n + 1), match (next1 text n s).map fun p => (p, p + 1) with
    | some (p, e) => (iter k (st1 text s first sn)).outcome = some .matched ∧ (iter k (st1 text s first sn)).start = p ∧ (iter k (st1 text s first sn)).handed = e
    | none => (iter k (st1 text s first sn)).outcome = some .failed
  | 0, s, first, sn, hn, hs => by
    obtain ⟨_, _, h3⟩ := try1 text s first sn
    have : ¬ s < text.size := by omega
    obtain ⟨k, hk, h⟩ := h3 (by unfold hit1; simp [this]) this
    exact ⟨k, by omega, h⟩
  | n + 1, s, first, sn, hn, hs => by
    obtain ⟨h1, h2, _⟩ := try1 text s first sn
    unfold next1
    cases hh : hit1 text s
    · obtain ⟨k, hk, sn', e⟩ := h2 hh (by omega)
      obtain ⟨k', hk', h⟩ := run1_go text n (s + 1) false sn' (by omega) (by omega)
      refine ⟨k + k', by omega, ?_⟩
      rw [iter_add, e]
      exact h
    · obtain ⟨k, hk, m, e, a, b, c⟩ := h1 hh
      refine ⟨k, by omega, ?_⟩
      rw [e]
      exact ⟨a, b, c⟩
theorem runs1 : Runs code1 fnd1 := fun text s hs => by
  by_cases h : s < text.size
  · have e : forSearch code1 text 0 s text.size false = st1 text s true (({} : Sre.Seen).add 14) := by
      show (if (decide (s > text.size) || decide (text.size - s < 1)) = true then _ else _) = _
      rw [if_neg (by simp; omega)]
      rfl
    obtain ⟨k, hk, h⟩ := run1_go text (text.size - s) s true (({} : Sre.Seen).add 14) rfl hs
    refine ⟨k, by omega, ?_⟩
    rw [e]
    exact h
  · have hss : s = text.size := by omega
    subst hss
    have e : (forSearch code1 text 0 text.size text.size false).step.outcome = some .failed := by
      have : forSearch code1 text 0 text.size text.size false = M.say { st1 text text.size true (({} : Sre.Seen).add 14) with lastStart := 0, outermost := true, frames := [], weight := 0 } false := by
        show (if (decide (text.size > text.size) || decide (text.size - text.size < 1)) = true then _ else _) = _
        rw [if_pos (by simp)]
        rfl
      rw [this]
      rfl
    refine ⟨1, by omega, ?_⟩
    unfold fnd1
    rw [Nat.sub_self]
    exact e
theorem runs2 : Runs code2 fnd2 := fun text s hs => by
  by_cases h : s < text.size
  · have e : forSearch code2 text 0 s text.size false = M.attemptFrom { mk2 text s s 10 s true [] 0 none (({} : Sre.Seen).add 14) with } s true := by
      show (if (decide (s > text.size) || decide (text.size - s < 1)) = true then _ else _) = _
      rw [if_neg (by simp; omega)]
      rfl
    obtain ⟨sn', ha⟩ := admitted2 (text := text) (m := mk2 text s s 10 s true [] 0 none (({} : Sre.Seen).add 14)) rfl rfl rfl (text.size - s) (text.size + 1 - s) s (({} : Sre.Seen).add 14) rfl (by omega)
    have e2 : forSearch code2 text 0 s text.size false = (match M.admitted (mk2 text s s 10 s true [] 0 none (({} : Sre.Seen).add 14)) (text.size + 1 - s) s (({} : Sre.Seen).add 14) with
      | .ok (some s', seen) => mk2 text s' s' 10 s' true [fS s' true] 1 none seen
      | .ok (none, seen) => M.say (mk2 text s s 10 s true [] 0 none seen) false
      | .error why => M.stick (mk2 text s s 10 s true [] 0 none (({} : Sre.Seen).add 14)) why) := e
    rw [ha] at e2
    unfold fnd2
    cases hq : next2 text (text.size - s) s with
    | none =>
      rw [hq] at e2
      refine ⟨1, by omega, ?_⟩
      rw [e2]
      rfl
    | some p =>
      rw [hq] at e2
      obtain ⟨h1, h2, h3⟩ := next2_spec hq
      obtain ⟨k, hk, f1, f2, f3⟩ := try2 (text := text) (s := p) (first := true) (sn := sn') (by omega) h3
      refine ⟨k, by omega, ?_⟩
      rw [e2]
      exact ⟨f1, f2, f3⟩
  · have hss : s = text.size := by omega
    subst hss
    have e : (forSearch code2 text 0 text.size text.size false).step.outcome = some .failed := by
      have : forSearch code2 text 0 text.size text.size false = M.say { mk2 text text.size text.size 10 text.size true [] 0 none (({} : Sre.Seen).add 14) with lastStart := 0 } false := by
        show (if (decide (text.size > text.size) || decide (text.size - text.size < 1)) = true then _ else _) = _
        rw [if_pos (by simp)]
        rfl
      rw [this]
      rfl
    refine ⟨1, by omega, ?_⟩
    unfold fnd2
    rw [Nat.sub_self]
    exact e

section
variable {Mo : Model} {A : Around} {E : Value → Shared → Prop} {st : Shared}
theorem wpAny_says {m : M} : ∀ (l : List Nat) {Q : PUnit → Shared → Prop}, Q ⟨⟩ st → wpAny Mo A (forIn l PUnit.unit fun i (_ : PUnit) => if m.seen.has i = true then do rule (Sre.names.getD i ""); pure (ForInStep.yield PUnit.unit) else do pure PUnit.unit; pure (ForInStep.yield PUnit.unit)) Q E st
  | [], _, h => wpAny_pure h
  | i :: l, _, h => by
    rw [List.forIn_cons]
    refine wpAny_bind ?_
    by_cases hc : m.seen.has i = true
    · rw [if_pos hc]
      exact wpAny_bind (wpAny_rule (wpAny_pure (wpAny_says l h)))
    · rw [if_neg hc]
      exact wpAny_pure (wpAny_says l h)
theorem wpAny_runToEnd {m0 m : M} {k : Nat} {Q : Option M → Shared → Prop} (he : m = iter k m0) (hk : k ≤ 2 ^ 60) (h : (m.outcome = some .matched ∧ Q (some m) st) ∨ (m.outcome = some .failed ∧ Q none st)) : wpAny Mo A (Builtin.Re.reRunToEnd m0) Q E st := by
  have ho : m.outcome.isSome = true := by rcases h with h | h <;> rw [h.1] <;> rfl
  unfold Builtin.Re.reRunToEnd
  refine wpAny_bind (wpAny_drive (k := k) he ho (by omega) (by decide) ?_)
  refine wpAny_bind ?_
  refine wpAny_says (m := m) _ ?_
  rcases h with ⟨h, hq⟩ | ⟨h, hq⟩
  · rw [h]; exact wpAny_pure hq
  · rw [h]; exact wpAny_pure hq
theorem wpAny_next {code : Array Nat} {f : Fnd} (R : Runs code f) {t : Builtin.Re.ReTarget} {s : Nat} {Q : Option M → Shared → Prop} (h1 : t.code = code) (h2 : t.groups = 0) (h3 : t.lim = t.text.size) (hs : s ≤ t.text.size) (hz : t.text.size ≤ sizeLine)
    (h : match f t.text s with | some (p, e) => ∀ m : M, m.start = p → m.handed = e → Q (some m) st | none => Q none st) : wpAny Mo A (Builtin.Re.reNextFound t s false) Q E st := by
  obtain ⟨k, hk, hr⟩ := R t.text s hs
  unfold Builtin.Re.reNextFound
  rw [h1, h2, h3]
  have hz2 : sizeLine = 2 ^ 24 := rfl
  refine wpAny_runToEnd (k := k) rfl (by omega) ?_
  cases hf : f t.text s with
  | none => rw [hf] at h hr; exact .inr ⟨hr, h⟩
  | some q =>
    obtain ⟨p, e⟩ := q
    rw [hf] at h hr
    exact .inl ⟨hr.1, h _ hr.2.1 hr.2.2⟩
end
end Re
end Mine

set_option Elab.async false
set_option maxRecDepth 100000
namespace Mine
open PySem PySem.W PySem.Calls PyProof.Rows

abbrev sS (l : List Nat) : Str := ⟨l.toArray⟩
theorem sS_toList (l : List Nat) : (sS l).cps.toList = l := by simp
theorem sS_of (x : Str) : sS x.cps.toList = x := by cases x; simp [sS]
theorem sS_len (l : List Nat) : (sS l).length = l.length := by simp [Str.length]
abbrev strD (ls : List (List Nat)) : List D := ls.map D.str
abbrev intD (l : List Int) : List D := l.map D.int

theorem strsAre_strD {fz : Fz} : ∀ {ls : List (List Nat)} {vs : List Value}, Reps fz vs (strD ls) → StrsAre vs (ls.map sS)
  | [], vs, r => by unfold strD Reps at r; subst r; exact .nil
  | l :: ls, vs, r => by
    obtain ⟨v, r', rfl, ⟨t, rfl⟩, h⟩ := r
    exact .cons _ t (strsAre_strD h)
theorem strD_values {fz : Fz} : ∀ {l : List (Str × Tok)}, Reps fz (PySem.strValues l) (strD (l.map fun p => p.1.cps.toList))
  | [] => Reps.nil
  | (x, t) :: l => Reps.cons (v := .str x t) (d := .str x.cps.toList) ⟨t, by rw [show (⟨x.cps.toList.toArray⟩ : Str) = x from sS_of x]⟩ strD_values
theorem intsAre_intD {fz : Fz} : ∀ {l : List Int} {vs : List Value}, Reps fz vs (intD l) → IntsAre vs l
  | [], vs, r => by unfold intD Reps at r; subst r; exact .nil
  | l :: ls, vs, r => by
    obtain ⟨v, r', rfl, ⟨t, rfl⟩, h⟩ := r
    exact .cons _ t (intsAre_intD h)

/-- x * n of a text -/
def mulS (l : List Nat) (n : Nat) : List Nat := (List.replicate n l).flatten
theorem foldl_rep_s (l : List Nat) : ∀ (k : Nat) (acc : Array Nat), List.foldl (fun x1 x2 => x1 ++ x2) acc (List.replicate k l.toArray) = acc ++ (mulS l k).toArray
  | 0, acc => by simp [mulS]
  | k + 1, acc => by
    rw [List.replicate_succ, List.foldl_cons, foldl_rep_s l k]
    unfold mulS
    rw [List.replicate_succ, List.flatten_cons]
    apply Array.toList_inj.mp
    simp
theorem mulS_len (l : List Nat) (n : Nat) : (mulS l n).length = n * l.length := by
  unfold mulS
  induction n with
  | zero => simp
  | succ n ih => rw [List.replicate_succ, List.flatten_cons, List.length_append, ih, Nat.succ_mul, Nat.add_comm]
theorem txt_mul (l : List Nat) (n : Nat) : Txt.mul (sS l) n = sS (mulS l n) := by
  unfold Txt.mul
  split
  · rename_i h
    have : n = 0 := by omega
    subst this
    rfl
  · split
    · rename_i h h2
      simp only [Bool.or_eq_true, beq_iff_eq] at h2
      rcases h2 with h2 | h2
      · have : n = 1 := by omega
        subst this
        simp [mulS]
      · have : l = [] := by simpa [Str.length] using h2
        subst this
        simp [mulS]
    · rw [Int.toNat_natCast]
      have := foldl_rep_s l n #[]
      show Str.mk _ = _
      rw [show (sS l).cps = l.toArray from rfl, this, Array.empty_append]

section
variable {B : Bs}
theorem op_mulS {l : List Nat} {n : Nat} (hz : n * l.length ≤ 1000000) (hn : n ≤ 1000000) : Op2 B (binaryOp .Mult) (.str l) (.int n) (.str (mulS l n)) := fun A fz s v₁ v₂ rm g ⟨t, e₁⟩ ⟨u, e₂⟩ Q E hQ => by
  subst e₁ e₂
  refine SB.mul (x := sS l) ⟨?_, fun h1 h2 h3 => ?_, fun h1 h2 => ?_⟩ fun t' k => ?_
  · rw [decide_eq_false (by omega), decide_eq_false (by omega)]; rfl
  · have h4 : (1 : Int) ≤ n := by omega
    have h6 : ((l.length : Nat) : Int) > (2 ^ 63 - 1) / n := by rw [sS_len] at h3; exact h3
    have h5 := Int.lt_mul_of_ediv_lt (by omega) h6
    have h7 : ((n * l.length : Nat) : Int) = (l.length : Int) * n := by push_cast; rw [Int.mul_comm]
    omega
  · rw [sS_len, Int.toNat_natCast, Nat.mul_comm]
    unfold PySem.Builtin.Str.tooLong
    have : sizeLine = 2 ^ 24 := rfl
    exact decide_eq_false (by omega)
  · rw [txt_mul]
    exact hQ.same g ⟨_, rfl⟩ _

/-- the pieces joined -/
def joinL (sep : List Nat) : List (List Nat) → List Nat
  | [] => []
  | [x] => x
  | x :: y :: r => x ++ sep ++ joinL sep (y :: r)
theorem txt_join (sep : List Nat) : ∀ ls : List (List Nat), Str.join (sS sep) (ls.map sS) = sS (joinL sep ls)
  | [] => rfl
  | [x] => rfl
  | x :: y :: r => by
    have ih := txt_join sep (y :: r)
    show sS x ++ sS sep ++ Str.join (sS sep) (sS y :: r.map sS) = _
    rw [show (sS y :: r.map sS) = (y :: r).map sS from rfl, ih]
    show sS x ++ sS sep ++ _ = sS (x ++ sep ++ joinL sep (y :: r))
    rw [str_add, str_add]
theorem f_join {sep : List Nat} {ls : List (List Nat)} (hz : (ls.map (·.length)).sum + ls.length * sep.length ≤ 16777216) : FSpec B 0 (.builtin "str.join") [.str sep, .list (strD ls)] (.str (joinL sep ls)) := FSpec.of2 fun A fz s v u rm g ⟨t, e⟩ r Q E hQ => by
  subst e
  obtain ⟨l1, us, n1, rfl, ha1, hl1, hr1⟩ := r.isList g
  refine join_list hl1 (strsAre_strD hr1) ?_ fun t' k => ?_
  · rw [List.map_map, List.length_map, sS_len]
    have e : (Str.length ∘ sS) = (fun l : List Nat => l.length) := by funext l; exact sS_len l
    rw [e]; exact hz
  · have e : Txt.join (sS sep) (ls.map sS) = sS (joinL sep ls) := by
      show PySem.Builtin.Str.glued _ _ = _
      rw [StrLaws.glued_eq_join, txt_join]
    rw [e]
    exact hQ.same g ⟨_, rfl⟩ _

/-- x.split(y) -/
def splitL (x y : List Nat) : List (List Nat) := (Txt.split (sS x) (sS y)).map fun z => z.cps.toList
theorem f_split {x y : List Nat} (hy : y ≠ []) (hz : x.length ≤ sizeLine) (hz2 : (splitL x y).length ≤ sizeLine) : FSpec B 0 (.builtin "str.split") [.str x, .str y] (.list (strD (splitL x y))) := FSpec.of2 fun A fz s v u rm g ⟨t, e⟩ ⟨t', e'⟩ Q E hQ => by
  subst e e'
  have hl0 : ((sS y).length == 0) = false := by rw [sS_len]; cases y with | nil => exact absurd rfl hy | cons _ _ => rfl
  have key : ∀ (l : List (Str × Tok)) (tk : Nat), l.map (·.1) = Txt.split (sS x) (sS y) → Q (.ref s.heap.objs.size) { s with heap := s.heap.push (lstObj (PySem.strValues l) 0), toks := tk } := fun l tk hl => by
    have r : Reps fz (PySem.strValues l) (strD (splitL x y)) := by
      have e : splitL x y = l.map fun p => p.1.cps.toList := by unfold splitL; rw [← hl, List.map_map]; rfl
      rw [e]; exact strD_values
    exact hQ.list g r 0 tk
  cases h1 : (decide ((sS x).length < (sS y).length) || decide (Builtin.Str.strKind (sS x) < Builtin.Str.strKind (sS y)))
  · cases hf : (Builtin.Str.occurrences (sS x) (sS y) 0 (sS x).length ((sS x).length + 1)).isEmpty
    · refine call_meets F.slot_str_split (typeIs_str _ _ _) F.entry_str_split (F.args_str_split_2 _ _) (meets_str_split_sep (sS x) (sS y) t t' h1 hl0 hf (by rw [sS_len]; exact hz) ?_) ?_
      · have e : splitL x y = (Builtin.Str.partsBetween (sS x) (Builtin.Str.occurrences (sS x) (sS y) 0 (sS x).length ((sS x).length + 1)) (sS y).length).map fun z => z.cps.toList := by
          unfold splitL Txt.split
          rw [if_neg (ne_true_of_eq_false h1), if_neg (ne_true_of_eq_false hf)]
        rw [e, List.length_map] at hz2
        exact hz2
      · show wants Q E _ { s with toks := _, heap := s.heap.push { cls := .type "list", data := .seq (strsFrom s.toks (Builtin.Str.partsBetween (sS x) (Builtin.Str.occurrences (sS x) (sS y) 0 (sS x).length ((sS x).length + 1)) (sS y).length)).toArray } }
        rw [strsFrom_eq]
        exact key (numbered s.toks _) _ ((numbered_texts _ _).trans ((if_neg (ne_true_of_eq_false h1)).trans (if_neg (ne_true_of_eq_false hf))).symm)
    · exact call_meets F.slot_str_split (typeIs_str _ _ _) F.entry_str_split (F.args_str_split_2 _ _) (meets_str_split_not_found (sS x) (sS y) t t' h1 hl0 hf)
        (key [(sS x, t)] s.toks ((if_neg (ne_true_of_eq_false h1)).trans (if_pos hf)).symm)
  · exact call_meets F.slot_str_split (typeIs_str _ _ _) F.entry_str_split (F.args_str_split_2 _ _) (meets_str_split_cannot_occur (sS x) (sS y) t t' h1)
      (key [(sS x, t)] s.toks (if_pos h1).symm)

theorem op_neI {x y : List Int} : Op2 B (compareOp .NotEq) (.list (intD x)) (.list (intD y)) (.bool (!decide (x = y))) := fun A fz s v₁ v₂ rm g r₁ r₂ Q E hQ => by
  obtain ⟨l1, us, n1, rfl, ha1, hl1, hr1⟩ := r₁.isList g
  obtain ⟨l2, vs, n2, rfl, ha2, hl2, hr2⟩ := r₂.isList g
  exact ne_intsK hl1 (intsAre_intD hr1) hl2 (intsAre_intD hr2) (by have := rm.units; omega) (hQ.same0 g rfl)

theorem f_min2 {a b : Int} : FSpec B 0 (.builtin "min") [.int a, .int b] (.int (if b < a then b else a)) := FSpec.of2 fun A fz s v u rm g ⟨t, e⟩ ⟨t', e'⟩ Q E hQ => by
  subst e e'
  refine with_size (PySem.min_two_ints rm.handled fun h' tk hk hsz => ?_)
  have r : Rep fz (if b < a then .int b t' else .int a t) (.int (if b < a then b else a)) := by
    split <;> exact ⟨_, rfl⟩
  exact hQ _ fz h' tk Grow.refl (g.keeps fun c o _ e => hk c o e) r (Mod.of_keep hk hsz)
end
end Mine

set_option Elab.async false
set_option maxRecDepth 100000
namespace Mine
open PySem PySem.W PySem.Calls PyProof.Rows
namespace Re
open PySem.Sre

namespace F
theorem slot_sub : Slot "re.Pattern" "sub" "re.Pattern.sub" :=
  .of (owner := "re.Pattern") (n := "sub") (by rw [typeLookup_type, builtinLookup_eq_fast]; kernel_rfl) (by decide +kernel) (by decide +kernel) (by decide +kernel)
    (by first | exact .inl (by decide +kernel) | exact .inr (by decide +kernel)) (by rw [isSubtype_type]; kernel_rfl)
theorem type_sub : typeOf (.builtin "re.Pattern.sub") = pure (.type "method_descriptor") := by show builtinType _ = _; rw [builtinType_eq_fast]; kernel_rfl
theorem entry_sub : entryFor table "re.Pattern.sub" = some Builtin.«re.Pattern.sub» := entryFor_of_tree (by kernel_rfl)
theorem args_sub (a b c : Value) : argsOk "re.Pattern.sub" ⟨[a, b, c], []⟩ := by unfold argsOk; kernel_rfl
theorem entry_loop : entryFor table "re.Pattern.sub.loop" = some Builtin.«re.Pattern.sub.loop» := entryFor_of_tree (by kernel_rfl)
theorem plain_loop : plainId "re.Pattern.sub.loop" = true := by decide +kernel
theorem no_call : typeLookup (.type "str") "__call__" = pure none := by rw [typeLookup_type, builtinLookup_eq_fast]; kernel_rfl
theorem named (a b : Value) : Builtin.Re.reNamed "re.Pattern.sub" "sub" ["repl", "string", "count"] 2 [a, b] [] = pure [some a, some b, none] := by kernel_rfl
end F

/-- a pattern's object -/
structure Pat (h : Heap) (p : Addr) (code : Array Nat) : Prop where
  at' : ∃ po fs c co items n, h.get? p = some po ∧ po.cls = .type "re.Pattern" ∧ po.dict = none ∧ po.data = .fields fs ∧ fs.getD 6 .none = rawInt 0 ∧ fs.getD 2 .none = rawInt 0 ∧ fs.getD 5 .none = .ref c ∧
    h.get? c = some co ∧ co.data = .seq items n ∧ (items.map Builtin.Re.reRawOf).map (·.toNat) = code
theorem Pat.keeps {h h' : Heap} {p : Addr} {code : Array Nat} (P : Pat h p code) (k : ∀ a o, h.get? a = some o → h'.get? a = some o) : Pat h' p code := by
  obtain ⟨po, fs, c, co, items, n, a1, a2, a3, a4, a5, a6, a7, a8, r⟩ := P.at'
  exact ⟨po, fs, c, co, items, n, k _ _ a1, a2, a3, a4, a5, a6, a7, k _ _ a8, r⟩

section
variable {M : Model} {A : Around} {E : Value → Shared → Prop} {s : Shared}
theorem whole {p : Addr} {code : Array Nat} {text : List Nat} {t : Tok} {Q : Builtin.Re.ReTarget → Shared → Prop} (P : Pat s.heap p code)
    (h : Q { pattern := .ref p, string := .str (sS text) t, code, text := text.toArray, kind := 0, groups := 0, pos := 0, lim := text.toArray.size } s) : wpAny M A (Builtin.Re.reWholeTarget (.ref p) (.str (sS text) t)) Q E s := by
  obtain ⟨po, fs, c, co, items, n, a1, a2, a3, a4, a5, a6, a7, a8, a9, a10⟩ := P.at'
  unfold Builtin.Re.reWholeTarget
  refine wpAny_bind ?_
  unfold fieldsOf
  refine wpAny_bind (wpAny_load a1 ?_)
  rw [a4]
  refine wpAny_pure ?_
  refine wpAny_bind ?_
  refine wpAny_pure ?_
  dsimp only
  rw [a5, a6, a7]
  refine wpAny_bind (wpAny_pure ?_)
  unfold Builtin.Re.reRawItems
  refine wpAny_bind (wpAny_bind (wpAny_seqItems a8 a9 (wpAny_pure ?_)))
  refine wpAny_pure ?_
  rw [show ((some items : Option (Array Value)).getD #[]) = items from rfl, a10]
  exact h

/-- the loop's facts -/
def Goes (f : Fnd) : Prop := ∀ (text : Array Nat) (s p e : Nat), s ≤ text.size → f text s = some (p, e) → s ≤ p ∧ p < e ∧ e ≤ text.size
def slc (text : Array Nat) (b e : Nat) : List Nat := (text.extract b e).toList
/-- the pieces of what is put together -/
def subGo (f : Fnd) (rep : List Nat) (text : Array Nat) : Nat → Nat → List (List Nat)
  | 0, _ => []
  | k + 1, s => match f text s with
    | some (p, e) => (if s < p then [slc text s p] else []) ++ [rep] ++ subGo f rep text k e
    | none => if s < text.size then [slc text s text.size] else []
def subF (f : Fnd) (rep text : List Nat) : List Nat := joinL [] (subGo f rep text.toArray (text.length + 1) 0)

/-- a list of the call's own, with more behind it -/
def Pieces (h : Heap) (l : Addr) (ls : List (List Nat)) : Prop := ∃ vs n, h.get? l = some (lstObj vs n) ∧ StrsAre vs (ls.map sS)

theorem push_piece {l : Addr} {ls : List (List Nat)} {x : List Nat} {t : Tok} {Q : Unit → Shared → Prop} (h : Pieces s.heap l ls) (hz : ls.length ≤ 100000)
    (hQ : ∀ h', Pieces h' l (ls ++ [x]) → Heap.SameBut l s.heap h' → Q () { s with heap := h' }) : wpAny M A (updateSeq l (·.push (.str (sS x) t))) Q E s := by
  obtain ⟨vs, n, hg, hv⟩ := h
  have hl : vs.length = ls.length := by rw [hv.len_eq, List.length_map]
  have hs : sizeLine = 2 ^ 24 := rfl
  refine wpAny_updateSeq hg rfl ?_ (by rw [List.size_toArray]; omega) (by rw [Array.size_push, List.size_toArray]; omega)
  refine hQ _ ⟨vs ++ [.str (sS x) t], _, by rw [IsL.update (n := n) hg fun x => x.push _]; simp only [List.push_toArray]; rfl, ?_⟩ (Heap.SameBut.update ..)
  rw [List.map_append]
  exact hv.append' (.cons _ _ .nil)

theorem slice_str {text : List Nat} {b e : Nat} {Q : Value → Shared → Prop} (hz : text.length ≤ 100000) (hQ : Q (.str (sS (slc text.toArray b e)) s.toks) { s with toks := s.toks + 1 }) : wpAny M A (Builtin.Re.reSlice text.toArray 0 b e) Q E s := by
  unfold Builtin.Re.reSlice
  rw [if_pos (by rfl)]
  refine wpAny_mkStr ?_ ?_
  · have e : (⟨text.toArray.extract b e⟩ : Str) = sS (slc text.toArray b e) := by unfold slc; simp
    rw [e]; exact hQ
  · show (text.toArray.extract b e).size ≤ _
    rw [Array.size_extract, List.size_toArray]
    have hs : sizeLine = 2 ^ 24 := rfl
    omega
end

section
variable {prog : Program} {w : World} {A : Around} {R : Result → Shared → Prop}
theorem slc_len (text : Array Nat) (b e : Nat) : (slc text b e).length = min e text.size - b := by unfold slc; rw [Array.length_toList, Array.size_extract]

theorem loop {code : Array Nat} {f : Fnd} (Rn : Runs code f) (Gf : Goes f) {p l : Addr} {text rep : List Nat} {tt tr : Tok} {h₀ : Heap} (hz : text.length ≤ 10000) (hr : rep.length ≤ 10) (P : Pat h₀ p code) (hl0 : h₀.get? l = none) :
    ∀ (k s₀ : Nat) (n : Int) (ls : List (List Nat)) (st : Shared), text.length - s₀ < k → s₀ ≤ text.length → (∀ b o, h₀.get? b = some o → st.heap.get? b = some o) → Pieces st.heap l ls → ls.length ≤ 2 * s₀ → (ls.map (·.length)).sum ≤ s₀ * (rep.length + 1) →
    (∀ h' tk t', (∀ b o, h₀.get? b = some o → h'.get? b = some o) → R (.ok (.ret (.str (sS (joinL [] (ls ++ subGo f rep text.toArray k s₀))) t'))) { st with heap := h', toks := tk }) →
    codeAny (model prog w) A (.builtin "re.Pattern.sub.loop" ⟨[.ref p, .str (sS text) tt, .str (sS rep) tr, rawInt 0, rawInt 0, rawInt n, rawInt s₀, rawInt s₀, .bool false, .ref l, .bool false], []⟩) R st
  | 0, _, _, _, _, h, _, _, _, _, _, _ => absurd h (Nat.not_lt_zero _)
  | k + 1, s₀, n, ls, st, hk, hs, hold, hp, hn, hsum, hR => by
    refine codeAny_builtin F.entry_loop ?_
    rw [Around.under_plainId F.plain_loop _]
    unfold Builtin.«re.Pattern.sub.loop»
    dsimp only [rawInt]
    refine wpAny_bind (whole (P.keeps hold) ?_)
    dsimp only
    refine bm_if_true rfl ?_
    refine wpAny_bind (wpAny_bind (wpAny_pure (wpAny_pure ?_)))
    refine wpAny_bind ?_
    refine bm_if_false rfl ?_
    refine wpAny_next Rn rfl rfl rfl (by show _ ≤ text.toArray.size; rw [List.size_toArray]; omega) (by show text.toArray.size ≤ _; rw [List.size_toArray]; have hs : sizeLine = 2 ^ 24 := rfl; omega) ?_
    rw [Int.toNat_natCast]
    show match f text.toArray s₀ with | some (p, e) => _ | none => _
    have hgo : subGo f rep text.toArray (k + 1) s₀ = match f text.toArray s₀ with
      | some (p, e) => (if s₀ < p then [slc text.toArray s₀ p] else []) ++ [rep] ++ subGo f rep text.toArray k e
      | none => if s₀ < text.toArray.size then [slc text.toArray s₀ text.toArray.size] else [] := rfl
    rw [hgo] at hR
    cases hf : f text.toArray s₀ with
    | none =>
      rw [hf] at hR
      dsimp only at hR ⊢
      have fin : ∀ (ls' : List (List Nat)) (st' : Shared), ls' = ls ++ (if s₀ < text.toArray.size then [slc text.toArray s₀ text.toArray.size] else []) → (∀ b o, h₀.get? b = some o → st'.heap.get? b = some o) → Pieces st'.heap l ls' → st'.gens = st.gens → st'.drawn = st.drawn → st'.os = st.os →
          wpAny (model prog w) A.in1 (do
            let joiner ← Builtin.Re.reSlice text.toArray 0 0 0
            let __do_lift ← seqItems? (Value.ref l)
            if (__do_lift.getD #[]).isEmpty = true then do
              let text ← pure joiner
              if false = true then do
                let __do_lift ← holding [text] do
                  let __do_lift ← mkInt n
                  newTuple [text, __do_lift]
                ret __do_lift
              else ret text
            else do
              let text ← call (Value.builtin (if (0 == 0) = true then "str.join" else "bytes.join")) [joiner, Value.ref l]
              if false = true then do
                let __do_lift ← holding [text] do
                  let __do_lift ← mkInt n
                  newTuple [text, __do_lift]
                ret __do_lift
              else ret text)
            (fun fin s' => match fin with | Fin.done f => R (Except.ok f) s' | Fin.again c' => c'.quiet = true ∧ codeAny (model prog w) A c' R s') (fun e s' => R (Except.error e) s') st' := by
        intro ls' st' e1 hold' hp' g1 g2 g3
        have hsl : ls'.length ≤ 2 * s₀ + 1 ∧ (ls'.map (·.length)).sum ≤ s₀ * (rep.length + 1) + text.length := by
          rw [e1]
          split
          · rw [List.length_append, List.map_append, List.sum_append, List.map_singleton, List.sum_singleton, slc_len, List.size_toArray]
            simp only [List.length_singleton]
            omega
          · rw [List.append_nil]; omega
        have hmul : s₀ * (rep.length + 1) ≤ 10000 * 11 := Nat.mul_le_mul (by omega) (by omega)
        refine wpAny_bind (slice_str (by omega) ?_)
        have h00 : slc text.toArray 0 0 = [] := by unfold slc; simp
        rw [h00]
        obtain ⟨vs, c, hg, hv⟩ := hp'
        refine wpAny_bind (wpAny_seqItems hg rfl ?_)
        have hRR : ∀ tk t', R (Except.ok (Flow.ret (Value.str (sS (joinL [] ls')) t'))) { st' with toks := tk } := fun tk t' => by
          have := hR st'.heap tk t' hold'
          rw [← e1, ← g1, ← g2, ← g3] at this
          exact this
        cases hvs : vs with
        | nil =>
          have hls : ls' = [] := by
            have := hv.len_eq
            rw [hvs, List.length_map] at this
            exact List.length_eq_zero_iff.mp this.symm
          refine bm_if_true rfl ?_
          refine wpAny_bind (wpAny_pure ?_)
          refine bm_if_false rfl ?_
          have := hRR (st'.toks + 1) st'.toks
          rw [hls] at this
          exact wpAny_pure this
        | cons v r =>
          refine bm_if_false rfl ?_
          refine wpAny_bind ?_
          refine join_list (s := { st' with toks := st'.toks + 1 }) (x := sS []) (items := vs.toArray) ⟨_, hg, rfl, c, rfl⟩ hv ?_ fun t' k' => ?_
          · rw [List.map_map, List.length_map, sS_len, show (Str.length ∘ sS) = (fun l : List Nat => l.length) from by funext l; exact sS_len l]
            simp only [List.length_nil, Nat.mul_zero, Nat.add_zero]
            omega
          · refine bm_if_false rfl ?_
            have e : Txt.join (sS []) (ls'.map sS) = sS (joinL [] ls') := by
              show PySem.Builtin.Str.glued _ _ = _
              rw [StrLaws.glued_eq_join, txt_join]
            rw [e]
            exact wpAny_pure (hRR k' t')
      by_cases hlt : s₀ < text.toArray.size
      · rw [if_pos hlt]
        refine wpAny_bind (slice_str (by omega) ?_)
        refine wpAny_bind (push_piece (s := { st with toks := st.toks + 1 }) hp (by omega) fun h' hp' hsb => ?_)
        exact fin (ls ++ [slc text.toArray s₀ text.toArray.size]) { st with heap := h', toks := st.toks + 1 } (by rw [if_pos hlt]) (fun b o e => (hsb.2 b (fun q => by rw [q, hl0] at e; cases e)).trans (hold b o e)) hp' rfl rfl rfl
      · rw [if_neg hlt]
        exact fin ls st (by rw [if_neg hlt, List.append_nil]) hold hp rfl rfl rfl
    | some q =>
      obtain ⟨q, e⟩ := q
      rw [hf] at hR
      dsimp only at hR ⊢
      intro m hm1 hm2
      rw [hm1, hm2]
      obtain ⟨g1, g2, g3⟩ := Gf _ _ _ _ (by rw [List.size_toArray]; exact hs) hf
      rw [List.size_toArray] at g3
      have hmb : (e == q) = false := beq_eq_false_iff_ne.mpr (by omega)
      rw [hmb]
      have goon : ∀ (ls' : List (List Nat)) (st' : Shared), ls' = ls ++ (if s₀ < q then [slc text.toArray s₀ q] else []) → (∀ b o, h₀.get? b = some o → st'.heap.get? b = some o) → Pieces st'.heap l ls' → st'.gens = st.gens → st'.drawn = st.drawn → st'.os = st.os →
          wpAny (model prog w) A.in1 (updateSeq l (fun x => x.push (.str (sS rep) tr)) >>= fun _ => again (Code.builtin "re.Pattern.sub.loop"
                          { pos := [Value.ref p, Value.str (sS text) tt, Value.str (sS rep) tr, Value.int 0 0, Value.int 0 0, Value.int (n + 1) 0, Value.int (↑e) 0, Value.int (↑e) 0, Value.bool false, Value.ref l, Value.bool false] }))
            (fun fin s' => match fin with | Fin.done f => R (Except.ok f) s' | Fin.again c' => c'.quiet = true ∧ codeAny (model prog w) A c' R s') (fun e s' => R (Except.error e) s') st' := by
        intro ls' st' e1 hold' hp' k1 k2 k3
        have hsl : ls'.length ≤ 2 * s₀ + 1 ∧ (ls'.map (·.length)).sum ≤ s₀ * (rep.length + 1) + (q - s₀) := by
          rw [e1]
          split
          · rw [List.length_append, List.map_append, List.sum_append, List.map_singleton, List.sum_singleton, slc_len, List.size_toArray]
            simp only [List.length_singleton]
            omega
          · rw [List.append_nil]; omega
        refine wpAny_bind (push_piece hp' (by omega) fun h' hp'' hsb => ?_)
        refine wpAny_pure ⟨plainId_quiet F.plain_loop _, ?_⟩
        refine loop Rn Gf hz hr P hl0 k e (n + 1) (ls' ++ [rep]) { st' with heap := h' } (by omega) (by omega) (fun b o e => (hsb.2 b (fun q => by rw [q, hl0] at e; cases e)).trans (hold' b o e)) hp'' ?_ ?_ fun h'' tk t' hk'' => ?_
        · rw [List.length_append]; simp only [List.length_singleton]; omega
        · rw [List.map_append, List.sum_append, List.map_singleton, List.sum_singleton]
          obtain ⟨d, rfl⟩ : ∃ d, e = s₀ + d := ⟨e - s₀, by omega⟩
          have h1 : d ≤ d * rep.length ∨ rep.length = 0 := by
            rcases Nat.eq_zero_or_pos rep.length with h | h
            · exact .inr h
            · exact .inl (Nat.le_mul_of_pos_right d h)
          have h2 : rep.length ≤ d * rep.length := Nat.le_mul_of_pos_left _ (by omega)
          rw [Nat.mul_succ, Nat.add_mul] at *
          omega
        · have := hR h'' tk t' hk''
          rw [← k1, ← k2, ← k3] at this
          rw [e1]
          simpa [List.append_assoc] using this
      by_cases hlt : s₀ < q
      · rw [if_pos hlt]
        refine wpAny_bind (slice_str (by omega) ?_)
        refine wpAny_bind (push_piece (s := { st with toks := st.toks + 1 }) hp (by omega) fun h' hp' hsb => ?_)
        refine bm_if_true rfl ?_
        refine wpAny_bind (wpAny_pure ?_)
        refine bm_if_true rfl ?_
        exact goon (ls ++ [slc text.toArray s₀ q]) { st with heap := h', toks := st.toks + 1 } (by rw [if_pos hlt]) (fun b o e => (hsb.2 b (fun q => by rw [q, hl0] at e; cases e)).trans (hold b o e)) hp' rfl rfl rfl
      · rw [if_neg hlt]
        refine bm_if_true rfl ?_
        refine wpAny_bind (wpAny_pure ?_)
        refine bm_if_true rfl ?_
        exact goon ls st (by rw [if_neg hlt, List.append_nil]) hold hp rfl rfl rfl
end
/-- pattern.sub(rep, text) -/
theorem f_sub {B : Bs} {code : Array Nat} {f : Fnd} (Rn : Runs code f) (Gf : Goes f) {p : Addr} {text rep : List Nat} (hz : text.length ≤ 10000) (hr : rep.length ≤ 10) (h92 : rep.contains 92 = false) (P : Pat B.h₀ p code) :
    FSpec B 0 (.builtin "re.Pattern.sub") [.raw (.ref p), .str rep, .str text] (.str (subF f rep text)) := FSpec.of3 fun A fz s v u x rm g e1 ⟨tr, e2⟩ ⟨tt, e3⟩ Q E hQ => by
  subst e1 e2 e3
  have Ps : Pat s.heap p code := P.keeps fun a o e => g.sub a o (g.base a o e)
  obtain ⟨po, fs, c, co, items, n, a1, a2, _⟩ := Ps.at'
  refine wpAny_call (codeAny_call_builtin F.slot_sub.plain F.entry_sub (F.slot_sub.check _ _ _ _ _ _ _ _ ⟨po, a1, a2⟩ (F.args_sub _ _ _) ?_))
  show wpAny _ _ (Builtin.Re.reSubstitute "re.Pattern.sub" "sub" false ⟨[.ref p, .str (sS rep) tr, .str (sS text) tt], []⟩) _ _ s
  unfold Builtin.Re.reSubstitute
  dsimp only
  refine wpAny_bind (wpAny_of_eq (F.named _ _) ?_)
  dsimp only
  refine wpAny_bind (wpAny_pure ?_)
  refine wpAny_bind (wpAny_specialOf (typeIs_str _ _ _) F.no_call ?_)
  refine bm_if_false rfl ?_
  refine wpAny_bind (wpAny_pure ?_)
  dsimp only
  refine wpAny_bind (wpAny_pure ?_)
  refine bm_if_false rfl ?_
  refine bm_if_true (by rw [show (sS rep).cps.contains 92 = rep.contains 92 by simp, h92]; rfl) ?_
  refine wpAny_bind (wpAny_pure ?_)
  dsimp only
  refine wpAny_bind (wpAny_holding (whole Ps ?_))
  refine bm_if_false rfl ?_
  refine wpAny_bind (wpAny_newList ?_ (Nat.zero_le _))
  refine wpAny_pure ⟨plainId_quiet F.plain_loop _, ?_⟩
  refine code_with_size (loop (l := s.heap.objs.size) (h₀ := s.heap) (n := 0) (ls := []) (st := { s with heap := s.heap.push (lstObj [] 0) }) (k := text.length + 1) (s₀ := 0) Rn Gf hz hr Ps ?_ (by omega) (Nat.zero_le _) (fun b o e => Heap.get?_push_of_some _ e) ?_ (Nat.zero_le _) (Nat.zero_le _) fun h' tk t' hk hsz => ?_)
  · cases q : s.heap.get? s.heap.objs.size with
    | none => rfl
    | some o => exact absurd (Heap.lt_size q) (Nat.lt_irrefl _)
  · exact ⟨[], 0, Heap.get?_push_size _ rfl, .nil⟩
  · refine hQ _ fz h' tk Grow.refl (g.keeps fun c o _ e => hk c o e) ⟨t', ?_⟩ (Mod.of_keep hk (Nat.le_trans (by rw [Heap.size_push]; exact Nat.le_succ _) hsz))
    rfl

theorem pat_ty {B : Bs} {p : Addr} {code : Array Nat} (P : Pat B.h₀ p code) : DTy B (.raw (.ref p)) "re.Pattern" := fun fz s v g e => by
  have e : v = .ref p := e
  subst e
  obtain ⟨po, fs, c, co, items, n, a1, a2, a3, _⟩ := (P.keeps fun a o e => g.sub a o (g.base a o e)).at'
  exact ⟨⟨po, a1, a2⟩, fun a e => by cases e; exact ⟨po, a1, a3⟩⟩
theorem plainAttrs_pat : PlainAttrs "re.Pattern" :=
  ⟨⟨"object.__getattribute__", by rw [typeLookup_type, builtinLookup_eq_fast]; kernel_rfl, by decide +kernel⟩, by rw [typeLookup_type, builtinLookup_eq_fast]; kernel_rfl⟩
theorem goes1 : Goes fnd1 := fun text s p e hs h => by
  unfold fnd1 at h
  obtain ⟨q, hq, he⟩ := Option.map_eq_some_iff.mp h
  cases he
  have key : ∀ n s p, next1 text n s = some p → s ≤ p ∧ hit1 text p = true := by
    intro n
    induction n with
    | zero => intro s p h; cases h
    | succ n ih =>
      intro s p h
      unfold next1 at h
      split at h
      · rename_i hh; cases h; exact ⟨Nat.le_refl _, hh⟩
      · obtain ⟨a, b⟩ := ih _ _ h; exact ⟨by omega, b⟩
  obtain ⟨a, b⟩ := key _ _ _ hq
  refine ⟨a, Nat.lt_succ_self _, ?_⟩
  unfold hit1 at b
  simp only [Bool.and_eq_true, decide_eq_true_eq] at b
  omega
theorem goes2 : Goes fnd2 := fun text s p e hs h => by
  unfold fnd2 at h
  obtain ⟨q, hq, he⟩ := Option.map_eq_some_iff.mp h
  cases he
  obtain ⟨a, b, _⟩ := next2_spec hq
  refine ⟨a, ?_, ?_⟩
  · unfold len2; split <;> omega
  · unfold len2
    split
    · rename_i h
      simp only [Bool.and_eq_true, decide_eq_true_eq] at h
      omega
    · omega
end Re
end Mine

set_option Elab.async false
set_option maxRecDepth 100000
set_option linter.unusedVariables false
namespace Mine
open PySem PySem.W PySem.Calls PyProof.Rows

theorem joinL_nil : ∀ ls : List (List Nat), joinL [] ls = ls.flatten
  | [] => rfl
  | [x] => by simp [joinL]
  | x :: y :: r => by
    show x ++ [] ++ joinL [] (y :: r) = _
    rw [joinL_nil (y :: r)]
    simp

/-- x.split(y), sign by sign -/
def splitS (sep : List Nat) : Nat → List Nat → List (List Nat)
  | _, [] => [[]]
  | 0, c :: r => if ((c :: r).take sep.length == sep) = true then [] :: splitS sep (sep.length - 1) r else (match splitS sep 0 r with | [] => [] | p :: ps => (c :: p) :: ps)
  | k + 1, _ :: r => splitS sep k r
theorem splitS_skip (sep : List Nat) : ∀ (k : Nat) (l : List Nat), splitS sep k l = splitS sep 0 (l.drop k)
  | 0, l => rfl
  | k + 1, [] => by simp [splitS]
  | k + 1, c :: r => by
    show splitS sep k r = _
    rw [splitS_skip sep k r]
    rfl
theorem splitS_ne (sep : List Nat) : ∀ (l : List Nat) (k : Nat), splitS sep k l ≠ []
  | [], k => by cases k <;> simp [splitS]
  | c :: r, 0 => by
    unfold splitS
    split
    · simp
    · have := splitS_ne sep r 0
      split
      · rename_i h; exact absurd h this
      · simp
  | c :: r, k + 1 => splitS_ne sep r k
theorem splitS_gap (sep : List Nat) : ∀ (n : Nat) (l : List Nat), n ≤ l.length → (∀ j < n, (l.drop j).take sep.length ≠ sep) → ∃ p ps, splitS sep 0 (l.drop n) = p :: ps ∧ splitS sep 0 l = (l.take n ++ p) :: ps
  | 0, l, _, _ => by
    cases h : splitS sep 0 l with
    | nil => exact absurd h (splitS_ne sep l 0)
    | cons p ps => exact ⟨p, ps, h, rfl⟩
  | n + 1, [], h, _ => absurd h (by simp)
  | n + 1, c :: r, h, hn => by
    obtain ⟨p, ps, h1, h2⟩ := splitS_gap sep n r (by simpa using h) fun j hj => by simpa using hn (j + 1) (by omega)
    refine ⟨p, ps, h1, ?_⟩
    have h0 : ((c :: r).take sep.length == sep) = false := by simpa using hn 0 (by omega)
    show (if ((c :: r).take sep.length == sep) = true then _ else _) = _
    rw [h0, if_neg (by decide), h2]
    rfl
theorem at_iff {l sep : List Nat} (hs : 1 ≤ sep.length) {i : Nat} : StrLaws.At (sS l) (sS sep) (sS l).length i ↔ (l.drop i).take sep.length = sep := by
  unfold StrLaws.At
  rw [StrLaws.subAt_eq, sS_len, sS_len, sS_toList, sS_toList, beq_iff_eq]
  refine ⟨fun h => h.2, fun h => ⟨?_, h⟩⟩
  have := congrArg List.length h
  simp at this
  omega
theorem parts_split {l sep : List Nat} (hs : 1 ≤ sep.length) : ∀ (cuts : List Nat) (a f : Nat), StrLaws.ChainG (sS l) (sS sep) (sS l).length a cuts f → (∀ k, f ≤ k → ¬ StrLaws.At (sS l) (sS sep) (sS l).length k) → a ≤ l.length →
    (StrLaws.partsFrom (sS l) (sS sep).length a cuts).map (fun z => z.cps.toList) = splitS sep 0 (l.drop a)
  | [], a, f, h, hn, ha => by
    have e : f = a := h
    subst e
    obtain ⟨p, ps, h1, h2⟩ := splitS_gap sep (l.drop f).length (l.drop f) (Nat.le_refl _) fun j hj q => hn (f + j) (by omega) ((at_iff hs).mpr (by rw [← List.drop_drop]; exact q))
    rw [List.drop_length] at h1
    have h1 : [[]] = p :: ps := h1
    simp only [List.cons.injEq] at h1
    obtain ⟨rfl, rfl⟩ := h1
    rw [h2, List.append_nil, List.take_length]
    show [(Builtin.Str.strSub (sS l) f (sS l).length).cps.toList] = [_]
    rw [StrLaws.strSub_toList, sS_toList, sS_len, List.take_of_length_le (by simp)]
  | c :: r, a, f, h, hn, ha => by
    obtain ⟨h1, h2, h3, h4⟩ := h
    have hc := h2.1
    rw [sS_len, sS_len] at hc
    have h2' := (at_iff hs).mp h2
    have ih := parts_split hs r (c + (sS sep).length) f h4 hn (by rw [sS_len]; exact hc)
    obtain ⟨p, ps, g1, g2⟩ := splitS_gap sep (c - a) (l.drop a) (by simp; omega) fun j hj q => h3 (a + j) (by omega) (by omega) ((at_iff hs).mpr (by rw [← List.drop_drop]; exact q))
    have ed : (l.drop a).drop (c - a) = l.drop c := by rw [List.drop_drop]; congr 1; omega
    rw [ed] at g1
    have hd : l.drop c ≠ [] := fun q => by have := congrArg List.length q; simp at this; omega
    have g3 : splitS sep 0 (l.drop c) = [] :: splitS sep 0 (l.drop (c + sep.length)) := by
      have e0 : splitS sep 0 (l.drop c) = [] :: splitS sep (sep.length - 1) (l.drop c).tail := by
        generalize l.drop c = m at *
        cases m with
        | nil => simp at hd
        | cons x m =>
          show (if ((x :: m).take sep.length == sep) = true then _ else _) = _
          rw [h2', if_pos (by simp)]
          rfl
      rw [e0, splitS_skip, List.tail_drop, List.drop_drop, show c + 1 + (sep.length - 1) = c + sep.length by omega]
    rw [g3] at g1
    simp only [List.cons.injEq] at g1
    obtain ⟨rfl, rfl⟩ := g1
    rw [g2, List.append_nil]
    show (Builtin.Str.strSub (sS l) a c).cps.toList :: (StrLaws.partsFrom (sS l) (sS sep).length (c + (sS sep).length) r).map _ = _
    rw [ih, sS_len, StrLaws.strSub_toList, sS_toList]
theorem kind_one {sep : List Nat} (h : sep.all (· < 256) = true) : Builtin.Str.strKind (sS sep) = 1 := by
  unfold Builtin.Str.strKind
  rw [if_pos (by simpa using h)]
theorem kind_ge (x : Str) : 1 ≤ Builtin.Str.strKind x := by
  unfold Builtin.Str.strKind
  split
  · exact Nat.le_refl _
  · split <;> decide
theorem splitL_eq {l sep : List Nat} (hs : 1 ≤ sep.length) (h : sep.all (· < 256) = true) : splitL l sep = splitS sep 0 l := by
  unfold splitL Txt.split
  obtain ⟨f, hc, hn⟩ := StrLaws.occ_tight (sS l) (sS sep) (by rw [sS_len]; exact hs)
  have main := parts_split hs _ 0 f hc hn (Nat.zero_le _)
  rw [List.drop_zero] at main
  split
  · rename_i hq
    rw [Bool.or_eq_true, decide_eq_true_eq, decide_eq_true_eq, kind_one h, sS_len, sS_len] at hq
    have hlt : l.length < sep.length := hq.elim id fun q => absurd (kind_ge (sS l)) (by omega)
    obtain ⟨p, ps, h1, h2⟩ := splitS_gap sep l.length l (Nat.le_refl _) fun j hj q => by
      have := congrArg List.length q
      simp at this
      omega
    rw [List.drop_length] at h1
    have h1 : [[]] = p :: ps := h1
    simp only [List.cons.injEq] at h1
    obtain ⟨rfl, rfl⟩ := h1
    rw [h2, List.append_nil, List.take_length]
    show [(sS l).cps.toList] = _
    rw [sS_toList]
  · split
    · rename_i hq
      rw [List.isEmpty_iff.mp hq] at main
      rw [← main]
      show [(sS l).cps.toList] = [(Builtin.Str.strSub (sS l) 0 (sS l).length).cps.toList]
      rw [StrLaws.strSub_toList, sS_toList, sS_len, List.take_of_length_le (by simp)]
      rfl
    · rw [StrLaws.partsBetween_eq]
      exact main

namespace Re
/-- '..' for each dot at a line's head; b: at a line's head -/
def conv1 : Bool → List Nat → List Nat
  | _, [] => []
  | b, c :: r => (if (b && c == 46) = true then [46, 46] else [c]) ++ conv1 (c == 10) r
/-- both signs for each end of a line -/
def conv2 : List Nat → List Nat
  | [] => []
  | 13 :: 10 :: r => 13 :: 10 :: conv2 r
  | c :: r => (if (c == 10 || c == 13) = true then [13, 10] else [c]) ++ conv2 r

theorem slc_eq (l : List Nat) (b e : Nat) : slc l.toArray b e = (l.drop b).take (e - b) := by unfold slc; simp
theorem getD_arr (l : List Nat) (i : Nat) : l.toArray.getD i 0 = l.getD i 0 := by simp [Array.getD, List.getD_eq_getElem?_getD]; split <;> simp_all
theorem drop_get {l : List Nat} {s : Nat} (h : s < l.length) : l.drop s = l.getD s 0 :: l.drop (s + 1) := by
  rw [List.drop_eq_getElem_cons h, List.getD_eq_getElem?_getD, List.getElem?_eq_getElem h]; rfl
abbrev head1 (l : List Nat) (s : Nat) : Bool := s == 0 || l.getD (s - 1) 0 == 10
theorem head1_succ (l : List Nat) (s : Nat) : head1 l (s + 1) = (l.getD s 0 == 10) := by simp [head1]
theorem hit1_eq (l : List Nat) (s : Nat) (h : s < l.length) : hit1 l.toArray s = (head1 l s && l.getD s 0 == 46) := by
  unfold hit1
  rw [getD_arr, getD_arr, List.size_toArray, decide_eq_true h, Bool.true_and]

theorem scan1 (l : List Nat) : ∀ (n s : Nat), s + n = l.length → match next1 l.toArray n s with
    | none => conv1 (head1 l s) (l.drop s) = l.drop s
    | some p => s ≤ p ∧ p < l.length ∧ conv1 (head1 l s) (l.drop s) = (l.drop s).take (p - s) ++ [46, 46] ++ conv1 (head1 l (p + 1)) (l.drop (p + 1))
  | 0, s, h => by
    show conv1 _ (l.drop s) = _
    rw [List.drop_of_length_le (by omega)]
    rfl
  | n + 1, s, h => by
    have hs : s < l.length := by omega
    have ih := scan1 l n (s + 1) (by omega)
    unfold next1
    rw [hit1_eq l s hs]
    cases hh : (head1 l s && l.getD s 0 == 46) with
    | true =>
      rw [if_pos rfl]
      refine ⟨Nat.le_refl _, hs, ?_⟩
      rw [drop_get hs, Nat.sub_self, List.take_zero, head1_succ]
      show (if (head1 l s && l.getD s 0 == 46) = true then [46, 46] else [l.getD s 0]) ++ _ = _
      rw [hh, if_pos rfl]
      rfl
    | false =>
      rw [if_neg (by decide)]
      have e : conv1 (head1 l s) (l.drop s) = l.getD s 0 :: conv1 (head1 l (s + 1)) (l.drop (s + 1)) := by
        rw [drop_get hs, head1_succ]
        show (if (head1 l s && l.getD s 0 == 46) = true then [46, 46] else [l.getD s 0]) ++ _ = _
        rw [hh, if_neg (by decide)]
        rfl
      cases hn : next1 l.toArray n (s + 1) with
      | none =>
        rw [hn] at ih
        show conv1 _ _ = _
        rw [e, show conv1 _ _ = _ from ih, ← drop_get hs]
      | some p =>
        rw [hn] at ih
        obtain ⟨i1, i2, i3⟩ := ih
        refine ⟨by omega, i2, ?_⟩
        rw [e, i3, drop_get hs, show p - s = (p - (s + 1)) + 1 by omega, List.take_succ_cons]
        rfl
theorem sub1_go (l : List Nat) : ∀ (k s : Nat), l.length - s < k → s ≤ l.length → (subGo fnd1 [46, 46] l.toArray k s).flatten = conv1 (head1 l s) (l.drop s)
  | 0, _, h, _ => absurd h (Nat.not_lt_zero _)
  | k + 1, s, h, hs => by
    have sc := scan1 l (l.length - s) s (by omega)
    unfold subGo
    have ef : fnd1 l.toArray s = (next1 l.toArray (l.length - s) s).map fun p => (p, p + 1) := by unfold fnd1; rw [List.size_toArray]
    rw [ef]
    cases hn : next1 l.toArray (l.length - s) s with
    | none =>
      rw [hn] at sc
      show (if s < l.toArray.size then [slc l.toArray s l.toArray.size] else []).flatten = _
      rw [show conv1 _ _ = _ from sc, List.size_toArray]
      split
      · rw [slc_eq, List.take_of_length_le (by simp)]; simp
      · rw [List.drop_of_length_le (by omega)]; rfl
    | some p =>
      rw [hn] at sc
      obtain ⟨h1, h2, h3⟩ := sc
      show ((if s < p then [slc l.toArray s p] else []) ++ [[46, 46]] ++ subGo fnd1 [46, 46] l.toArray k (p + 1)).flatten = _
      rw [List.flatten_append, List.flatten_append, sub1_go l k (p + 1) (by omega) (by omega), h3]
      congr 1
      congr 1
      split
      · rw [slc_eq]; simp
      · rw [show p - s = 0 by omega]; rfl
theorem sub1_eq (l : List Nat) : subF fnd1 [46, 46] l = conv1 true l := by
  unfold subF
  rw [joinL_nil, sub1_go l _ 0 (by omega) (Nat.zero_le _)]
  rfl

theorem conv2_pair (r : List Nat) : conv2 (13 :: 10 :: r) = 13 :: 10 :: conv2 r := by rw [conv2]
theorem conv2_one {c : Nat} {r : List Nat} (h : ¬ (c = 13 ∧ r.head? = some 10)) : conv2 (c :: r) = (if (c == 10 || c == 13) = true then [13, 10] else [c]) ++ conv2 r := by
  rw [conv2]
  rintro r' rfl rfl
  exact h ⟨rfl, rfl⟩
theorem scan2 (l : List Nat) : ∀ (n s : Nat), s + n = l.length → match next2 l.toArray n s with
    | none => conv2 (l.drop s) = l.drop s
    | some p => s ≤ p ∧ p < l.length ∧ conv2 (l.drop s) = (l.drop s).take (p - s) ++ [13, 10] ++ conv2 (l.drop (len2 l.toArray p))
  | 0, s, h => by
    show conv2 (l.drop s) = _
    rw [List.drop_of_length_le (by omega)]
    rfl
  | n + 1, s, h => by
    have hs : s < l.length := by omega
    have ih := scan2 l n (s + 1) (by omega)
    unfold next2
    rw [getD_arr]
    cases hh : (l.getD s 0 == 10 || l.getD s 0 == 13) with
    | true =>
      rw [if_pos rfl]
      refine ⟨Nat.le_refl _, hs, ?_⟩
      rw [Nat.sub_self, List.take_zero]
      unfold len2
      rw [getD_arr, getD_arr, List.size_toArray]
      by_cases hp : l.getD s 0 = 13 ∧ s + 1 < l.length ∧ l.getD (s + 1) 0 = 10
      · rw [if_pos (by simp only [Bool.and_eq_true, beq_iff_eq, decide_eq_true_eq]; exact hp), drop_get hs, drop_get hp.2.1, hp.1, hp.2.2, conv2_pair]
        rfl
      · rw [if_neg (by simp only [Bool.and_eq_true, beq_iff_eq, decide_eq_true_eq]; exact hp), drop_get hs, conv2_one, hh, if_pos rfl]
        · rfl
        · rintro ⟨q1, q2⟩
          refine hp ⟨q1, ?_⟩
          by_cases hl : s + 1 < l.length
          · rw [drop_get hl] at q2
            exact ⟨hl, by simpa using q2⟩
          · rw [List.drop_of_length_le (by omega)] at q2
            simp at q2
    | false =>
      rw [if_neg (by decide)]
      have e : conv2 (l.drop s) = l.getD s 0 :: conv2 (l.drop (s + 1)) := by
        rw [drop_get hs, conv2_one, hh, if_neg (by decide)]
        · rfl
        · rintro ⟨q1, _⟩
          rw [q1] at hh
          simp at hh
      cases hn : next2 l.toArray n (s + 1) with
      | none =>
        rw [hn] at ih
        show conv2 _ = _
        rw [e, show conv2 _ = _ from ih, ← drop_get hs]
      | some p =>
        rw [hn] at ih
        obtain ⟨i1, i2, i3⟩ := ih
        refine ⟨by omega, i2, ?_⟩
        rw [e, i3, drop_get hs, show p - s = (p - (s + 1)) + 1 by omega, List.take_succ_cons]
        rfl
theorem len2_le {l : List Nat} {p : Nat} (h : p < l.length) : p < len2 l.toArray p ∧ len2 l.toArray p ≤ l.length := by
  unfold len2
  rw [List.size_toArray]
  split
  · rename_i q
    simp only [Bool.and_eq_true, decide_eq_true_eq] at q
    omega
  · omega
theorem sub2_go (l : List Nat) : ∀ (k s : Nat), l.length - s < k → s ≤ l.length → (subGo fnd2 [13, 10] l.toArray k s).flatten = conv2 (l.drop s)
  | 0, _, h, _ => absurd h (Nat.not_lt_zero _)
  | k + 1, s, h, hs => by
    have sc := scan2 l (l.length - s) s (by omega)
    unfold subGo
    have ef : fnd2 l.toArray s = (next2 l.toArray (l.length - s) s).map fun p => (p, len2 l.toArray p) := by unfold fnd2; rw [List.size_toArray]
    rw [ef]
    cases hn : next2 l.toArray (l.length - s) s with
    | none =>
      rw [hn] at sc
      show (if s < l.toArray.size then [slc l.toArray s l.toArray.size] else []).flatten = _
      rw [show conv2 _ = _ from sc, List.size_toArray]
      split
      · rw [slc_eq, List.take_of_length_le (by simp)]; simp
      · rw [List.drop_of_length_le (by omega)]; rfl
    | some p =>
      rw [hn] at sc
      obtain ⟨h1, h2, h3⟩ := sc
      have hl := len2_le h2
      show ((if s < p then [slc l.toArray s p] else []) ++ [[13, 10]] ++ subGo fnd2 [13, 10] l.toArray k (len2 l.toArray p)).flatten = _
      rw [List.flatten_append, List.flatten_append, sub2_go l k (len2 l.toArray p) (by omega) hl.2, h3]
      congr 1
      congr 1
      split
      · rw [slc_eq]; simp
      · rw [show p - s = 0 by omega]; rfl
theorem sub2_eq (l : List Nat) : subF fnd2 [13, 10] l = conv2 l := by
  unfold subF
  rw [joinL_nil, sub2_go l _ 0 (by omega) (Nat.zero_le _)]
  rfl
theorem conv2_len (l : List Nat) : (conv2 l).length ≤ 2 * l.length := by
  fun_induction conv2 l with
  | case1 => exact Nat.le_refl _
  | case2 r ih => simp only [List.length_cons]; omega
  | case3 c r h ih => split <;> simp only [List.length_append, List.length_cons, List.length_nil] <;> omega
end Re
end Mine

set_option Elab.async false
set_option maxRecDepth 100000
set_option linter.unusedVariables false
namespace Mine
open PySem PySem.W PySem.Calls PyProof.Rows

section
variable {B : Bs} {K : Act} {ρ ρ' : Rho} {O O' F : Own'} {T : Tmp} {fz : Fz} {s : Shared} {o : Out}

end
end Mine

set_option Elab.async false
set_option maxRecDepth 100000
set_option linter.unusedVariables false
namespace Mine
open PySem PySem.W PySem.Calls PyProof.Rows
section
variable {B : Bs} {K : Act} {ρ ρ' : Rho} {O O₁ O₂ : Own'}
/-- a loop that folds: each turn ends in the names asked -/
theorem Turns.foldA {σ α : Type} {t : Expr} {body : List Stmt} {o : Out} (enc : α → D) (f : σ → α → σ) (ρf : σ → Rho) (Of : σ → Own') (vals : List α) (st : σ) (ρ : Rho) (hρ : Agree (ρf st) ρ) (hself : ∀ st, Agree (ρf st) (ρf st))
    (step : ∀ pre a post, vals = pre ++ a :: post → (∀ q ∈ (Of (f (pre.foldl f st) a)).map (·.1), q ∈ (Of (pre.foldl f st)).map (·.1)) ∧ ∃ ρt, Asg B K (ρf (pre.foldl f st)) t (enc a) ρt ∧ Ex B K ρt (Of (pre.foldl f st)) body (.next (ρf (f (pre.foldl f st) a)) (Of (f (pre.foldl f st) a))))
    (ho : o = .next (ρf (vals.foldl f st)) (Of (vals.foldl f st))) : Turns B K t body (vals.map enc) ρ (Of st) o :=
  Turns.foldP enc f ρf Of vals st ρ hρ (fun pre a post h => let ⟨h1, ρt, h2, h3⟩ := step pre a post h; ⟨h1, ρt, _, h2, h3, hself _⟩) ho

theorem Ev.iteI {t b o : Expr} {pos : Pos} {c : Bool} {i j : Int} (h : Et B K ρ O t c) (h1 : Ev B K ρ O b (.int i)) (h2 : Ev B K ρ O o (.int j)) : Ev B K ρ O (.IfExp t b o pos) (.int (if c then i else j)) :=
  Ev.ite h (fun e => by subst e; exact h1) fun e => by subst e; exact h2
/-- x[i] of a list of data, i in it -/
theorem Ev.item {value slice : Expr} {pos : Pos} {ds : List D} {i : Int} {d : D} (h1 : Ev B K ρ O value (.list ds)) (h2 : Ev B K ρ O slice (.int i)) (k : Nat) (hi : i = (k : Int)) (hd : ds[k]? = some d) (hz : ds.length ≤ sizeLine)
    (hs : ∀ o i, subscripted slice false o i = operate [o, i] (getItem o i) := by intro _ _; with_unfolding_all rfl) : Ev B K ρ O (.Subscript value slice pos) d := by
  have hk : k < ds.length := (List.getElem?_eq_some_iff.mp hd).1
  have hz2 : sizeLine = 2 ^ 24 := rfl
  exact Ev.sub h1 h2 DTy.list slot_list_getitem.lookup (op_item k (.inl ⟨by omega, by omega⟩) hd (by omega)) hs
theorem natD_get {l : List Nat} {k : Nat} (h : k < l.length) : (natD l)[k]? = some (.int (l.getD k 0 : Nat)) := by
  rw [List.getElem?_map, List.getD_eq_getElem?_getD, List.getElem?_eq_getElem h]; rfl
theorem natD_len (l : List Nat) : (natD l).length = l.length := List.length_map _
theorem natD_app (a b : List Nat) : natD (a ++ b) = natD a ++ natD b := List.map_append
theorem intD_get {l : List Int} {k : Nat} (h : k < l.length) : (intD l)[k]? = some (.int (l.getD k 0)) := by
  rw [List.getElem?_map, List.getD_eq_getElem?_getD, List.getElem?_eq_getElem h]; rfl
theorem intD_len (l : List Int) : (intD l).length = l.length := List.length_map _
theorem natD_intD (l : List Nat) : natD l = intD (l.map fun (c : Nat) => (c : Int)) := by unfold natD intD; rw [List.map_map]; rfl
end
end Mine

set_option Elab.async false
set_option maxRecDepth 100000
set_option linter.unusedVariables false
namespace Mine
open PySem PySem.W PySem.Calls PyProof.Rows

section
variable {B : Bs} {K : Act} {ρ ρ' ρ₁ : Rho} {O O' O₁ O₂ F : Own'} {T : Tmp} {fz : Fz} {s : Shared} {o : Out} {P P₁ : Out → Prop}
end
end Mine

set_option Elab.async false
set_option maxRecDepth 100000
set_option linter.unusedVariables false
namespace Mine
open PySem PySem.W PySem.Calls PyProof.Rows
section
variable {B : Bs} {K : Act} {ρ ρ' : Rho} {O O₁ O₂ : Own'}
theorem CT.map {α : Type} {t elt : Expr} (enc g : α → D) : ∀ (l : List α), (∀ x ∈ l, ∃ ρ₀, Asg B K ρ t (enc x) ρ₀ ∧ Agree ρ ρ₀ ∧ Ev B K ρ₀ [] elt (g x)) → CT B K ρ t [] elt (l.map enc) (l.map g)
  | [], _ => .nil
  | x :: l, h => by
    obtain ⟨ρ₀, h1, h2, h3⟩ := h x List.mem_cons_self
    exact .take h1 (lookup_of_all h2.all) Etests.nil h3 (CT.map enc g l fun y hy => h y (List.mem_cons_of_mem _ hy))
theorem CT.filter {α : Type} {t elt c : Expr} (enc g : α → D) (p : α → Bool) : ∀ (l : List α), (∀ x ∈ l, ∃ ρ₀, Asg B K ρ t (enc x) ρ₀ ∧ Agree ρ ρ₀ ∧ Et B K ρ₀ [] c (p x) ∧ (p x = true → Ev B K ρ₀ [] elt (g x))) → CT B K ρ t [c] elt (l.map enc) ((l.filter p).map g)
  | [], _ => .nil
  | x :: l, h => by
    obtain ⟨ρ₀, h1, h2, h3, h4⟩ := h x List.mem_cons_self
    have ih := CT.filter enc g p l fun y hy => h y (List.mem_cons_of_mem _ hy)
    cases hp : p x with
    | true =>
      rw [List.filter_cons_of_pos hp, List.map_cons, List.map_cons]
      exact .take h1 (lookup_of_all h2.all) (hp ▸ Etests.one h3) (h4 hp) ih
    | false =>
      rw [List.filter_cons_of_neg (by rw [hp]; decide), List.map_cons]
      exact .skip h1 (lookup_of_all h2.all) (hp ▸ Etests.one h3) ih

/-- what a comprehension captures lies in cells -/
theorem free_ok {names : List (Str × NameKind)} {env : Env} (xs : List Str) (h : ∀ y ∈ names, y.2 = .free → y.1 ∈ xs) (h2 : ∀ x ∈ xs, (env.cells.lookup x).isSome = true) : ∀ y ∈ names, y.2 = .free → (env.cells.lookup y.1).isSome = true :=
  fun y hy hf => h2 _ (h y hy hf)
theorem free_no {names : List (Str × NameKind)} {env : Env} (h : ∀ y ∈ names, y.2 ≠ .free) : ∀ y ∈ names, y.2 = .free → (env.cells.lookup y.1).isSome = true :=
  fun y hy hf => absurd hf (h y hy)
theorem cap_no {ρ : Rho} {names : List (Str × NameKind)} {env : Env} : ∀ p ∈ ([] : Rho), ρ.lookup p.1 = some p.2 ∧ names.lookup p.1 = some .free ∧ env.kindOf p.1 ≠ some .local := fun _ h => nomatch h
end
end Mine

set_option Elab.async false
set_option maxRecDepth 100000
set_option linter.unusedVariables false
namespace Mine
open PySem PySem.W PySem.Calls PyProof.Rows

section
variable {M : Model} {A : Around} {E : Value → Shared → Prop} {s : Shared} {env : Env}
end

section
variable {B : Bs} {K : Act} {ρ ρ' ρ₁ : Rho} {O O' O₁ O₂ F : Own'} {T : Tmp} {fz : Fz} {s : Shared} {o : Out}
theorem EvsC.nil : EvsC B K ρ O [] [] := EvsC.of Evs.nil
theorem EvsC.c1 {e : Expr} {d : D} (h : EvC B K ρ O e d) (hs : starEach [e] K.env = (false, eval e K.env) :: starEach [] K.env := by rfl) : EvsC B K ρ O [e] [d] := EvsC.cons h EvsC.nil hs
theorem EvC.as {e : Expr} {d d' : D} (h : EvC B K ρ O e d) (q : d = d') : EvC B K ρ O e d' := q ▸ h
theorem EvC.ite {t b e : Expr} {pos : Pos} {c : Bool} {d : D} (h : Et B K ρ O t c) (h1 : c = true → EvC B K ρ O b d) (h2 : c = false → EvC B K ρ O e d) : EvC B K ρ O (.IfExp t b e pos) d := fun F T s hk S Q E hQ => by
  rw [arm_eval_IfExp]
  refine wpC.bindA (with_toks (h F T s S _ _ fun s' S' m k₁ => ?_))
  have hk' := Nat.lt_of_lt_of_le hk k₁
  cases c with
  | true => simpa using h1 rfl F T s' hk' S' Q E fun v s'' S'' m' => hQ v s'' S'' (m.trans m' fun _ h => h.elim)
  | false => simpa using h2 rfl F T s' hk' S' Q E fun v s'' S'' m' => hQ v s'' S'' (m.trans m' fun _ h => h.elim)
theorem EvC.slice {value : Expr} {lower upper : Option Expr} {p pos : Pos} {ds : List D} {lo hi : Option Int} (h1 : EvC B K ρ O value (.list ds)) (h2 : Epart B K ρ O lower lo) (h3 : Epart B K ρ O upper hi) (hz : ds.length ≤ sizeLine) :
    EvC B K ρ O (.Subscript value (.Slice lower upper none p) pos) (.list (cut ds lo hi)) := fun F T s hk S Q E hQ => by
  rw [eval_Subscript]
  refine wpC.bind (h1 F T s hk S _ _ fun v₁ s₁ S₁ m₁ => wpC.of (wpAny_bind (wpAny_holding (wpAny_Slice (h2 F _ s₁ S₁ _ _ fun vl s₂ pl S₂ m₂ => h3 F _ s₂ S₂ _ _ fun vu s₃ pu S₃ m₃ => ?_)))))
  rw [evalPart_none]
  refine wpAny_pure ?_
  refine wpAny_bind (wpAny_standAt ?_)
  obtain ⟨fz, S₃⟩ := S₃
  obtain ⟨a, vs, n, rfl, ha, hl, hr⟩ := (S₃.tmp (v₁, .list ds) (by simp)).isList S₃.g
  have hv : vs.length = ds.length := hr.length
  have S₄ := S₃.step (h' := s₃.heap.push { cls := .type "slice", data := .fields #[vl, vu, .none] }) (t' := s₃.toks) (S₃.g.push _) Grow.refl (Mod.push (S := No)) (fun _ h => h.elim)
  have m₄ : Mod B No s.heap (s₃.heap.push { cls := .type "slice", data := .fields #[vl, vu, .none] }) := ((m₁.trans m₂ fun _ h => h.elim).trans m₃ fun _ h => h.elim).trans (Mod.push (S := No)) fun _ h => h.elim
  refine tail_any (hl.push _).typeIs list_getitem_lookup (wpAny_getItem_list_slice (hl.push _) (Heap.IsSliceOf.new ..) pl pu .none (by simp) ?_ (by simp [hv]; exact hz)) (by with_unfolding_all rfl)
  have e : slicePick vs.toArray lo hi none = (cut vs lo hi).toArray := by
    rw [slicePick_plain]; simp [cut]
  rw [e]
  have r' : Reps fz (cut vs lo hi) (cut ds lo hi) := by unfold cut; rw [hv]; exact hr.pick _ _
  exact Back.list (S₄.back fun v s' S' m' => hQ v s' (S'.sub (by intro p hp; rcases List.mem_cons.mp hp with h | h <;> simp [h])) (m₄.trans m' fun _ h => h.elim)) S₄.g r' 0 s₃.toks
/-- a method of a built-in type -/
theorem EvC.meth {e : Expr} {name : Str} {apos pos : Pos} {args : List Expr} {T id : String} {d₁ d : D} {ds : List D} (ho : EvC B K ρ O e d₁) (ha : Evs B K ρ O args ds) (hT : DTy B d₁ T) (pa : PlainAttrs T) (slot : Slot T name id)
    (hty : typeOf (.builtin id) = pure (.type "method_descriptor")) (hs : FSpec B 0 (.builtin id) (d₁ :: ds) d)
    (hbase : attributeBase e name K.env (eval e K.env) = eval e K.env := by rfl)
    (hp : (backTo pos (starEach args K.env)).any (·.1) = false := by rfl)
    (hfew : ((backTo pos (starEach args K.env)).all (fun x => !x.1) && (backToKw pos (keywordEach [] K.env)).all (fun x => x.1.isSome)
      && decide (args.length + ([] : List Keyword).length + (if ([] : List Keyword).isEmpty then 0 else 1) < 30)) = true := by rfl)
    (hline : (apos.endLine == pos.line) = true := by rfl) : EvC B K ρ O (.Call (.Attribute e name apos) args [] pos) d := fun F T s hk S Q E hQ => by
  rw [arm_eval_Call, hbase]
  refine wpC.bind (ho F T s hk S _ _ fun v₁ s₁ S₁ m₁ => wpC.of (wpAny_bind (wpAny_standAt ?_)))
  have hform : methodCallForm (args.length + ([] : List Keyword).length) (backTo pos (starEach args K.env)) (backToKw pos (keywordEach [] K.env)) = true := hfew
  have hpos : methodCallPos true e K.env apos pos = pure pos := by unfold methodCallPos; simp [hline]
  unfold methodCall
  rw [hform]
  obtain ⟨h1, h2⟩ : s₁.TypeIs v₁ _ ∧ _ := by obtain ⟨fz, S₁⟩ := S₁; exact hT fz s₁ v₁ S₁.g (S₁.tmp (v₁, d₁) (by simp))
  refine wpAny_bind (wpAny_holding (getMethod_builtin h1 pa slot hty h2 ?_))
  refine wpAny_bind (wpAny_of_eq hpos ?_)
  refine Calls.callWith_builtin hp (evalArgs_of_spliced hp (ha F _ s₁ pos S₁ _ _ fun vs s₂ hl S₂ m₂ => ?_))
  obtain ⟨fz, S₂⟩ := S₂
  have r : Reps fz vs ds := Reps.of_zip hl fun p hp => S₂.tmp p (List.mem_append_left _ hp)
  exact hs _ fz s₂ (v₁ :: vs) (S₂.room.le (Nat.zero_le _)) S₂.g (Reps.cons (S₂.tmp (v₁, d₁) (by simp)) r) _ _ (S₂.back fun v s' S' m' =>
    hQ v s' (S'.sub (by intro p hp; rcases List.mem_cons.mp hp with h | h <;> simp [h])) ((m₁.trans m₂ fun _ h => h.elim).trans m' fun _ h => h.elim))
end
end Mine

set_option Elab.async false
set_option maxRecDepth 100000
namespace Mine
open PySem PySem.W PySem.Calls PyProof.Rows

/-- the context of the law's caller -/
abbrev callerC : Ctx := ⟨.builtin "claim.caller" {}, none, none, [], none⟩
theorem callerC_clean : Clean callerC := ⟨by decide +kernel, fun _ h => nomatch h⟩
abbrev lawTree (name : Str) (vs : List Value) : Sem Fin := do match ← nsGet mainNs name with
      | some f => do ret (← PySem.call f vs)
      | none => unsupported "claim.caller:no-such-global"

theorem lawTree_wp {prog : Program} {w : World} {name : Str} {vs : List Value} {s : Shared} {mg : Str → Option Value} {f : Value} {Q : Fin → Shared → Prop} {E : Value → Shared → Prop} (hg : s.heap.Ns mainGlobals mg) (hf : mg name = some f)
    (h : wpC (model prog w) callerA (PySem.call f vs) (fun v s' => Q (.done (.ret v)) s') E s) : wpC (model prog w) callerA (lawTree name vs) Q E s := by
  refine wpC.bindA (wpAny_nsGet hg ?_)
  rw [hf]
  exact wpC.bind (h.mono (fun v s' x => wpC.pure x) fun _ _ x => x)

theorem ends_C {prog : Program} {w : World} {t : Sem Fin} {s : Shared} {R : Result → Shared → Prop} (hz : s.asleep)
    (h : wpC (model prog w) callerA t (fun fin s' => ∃ f, fin = .done f ∧ R (.ok f) s' ∧ AllBare s'.gens) (fun e s' => R (.error e) s' ∧ AllBare s'.gens) s) :
    ∃ n r s' s'', runN (denote table) prog w n s ⟨t, .builtin "claim.caller" {}, default, []⟩ = .halted (outcomeOf r) s' ∧
      schedN (denote table) prog w n (.single s ⟨t, .builtin "claim.caller" {}, default, []⟩) = .halted (outcomeOf r) s' ∧ s'.forget = s''.forget ∧ R r s'' := by
  have k : Sem.wp (model prog w) callerC t (Sem.finPost (model prog w) callerC fun r s' => R r s' ∧ leftWithCleanup s'.gens = false) (fun e _ s' => R (.error e) s' ∧ leftWithCleanup s'.gens = false) default s :=
    Sem.wp_mono _ _ t (fun fin p s' ⟨f, e, a, b⟩ => by subst e; exact ⟨a, leftWithCleanup_false_of_bare b⟩) (fun _ _ _ ⟨a, b⟩ => ⟨a, leftWithCleanup_false_of_bare b⟩) default s (h callerC default caller_in callerC_clean)
  obtain ⟨n, r, s₁, s₂, hs, hn, hf, hR⟩ := wp_halts_full (M := model prog w) (R := R) hz k
  exact ⟨n, r, s₂, s₁, hn, hs, hf, hR⟩

/-! ### the making tokens behind the text's top are not zero -/
theorem fenceAll_toks : ∀ (l : List Str) (s s1 : Shared), fenceAll? l s = some s1 → s1.toks = s.toks
  | [], s, s1, h => by simp only [fenceAll?, Option.some.injEq] at h; rw [← h]
  | m :: r, s, s1, h => by
    simp only [fenceAll?] at h
    obtain ⟨s2, h2, h3⟩ := Option.bind_eq_some_iff.mp h
    refine (fenceAll_toks r _ _ h3).trans ?_
    unfold fenceModule? at h2
    repeat' split at h2
    all_goals first
      | (obtain ⟨_, _, rfl⟩ := Option.map_eq_some_iff.mp h2; rfl)
      | cases h2
theorem copies_toks : ∀ (l : List Str) (s s1 : Shared), copiesAnew? l s = some s1 → s1.toks = s.toks
  | [], s, s1, h => by simp only [copiesAnew?, Option.some.injEq] at h; rw [← h]
  | m :: r, s, s1, h => by
    simp only [copiesAnew?] at h
    obtain ⟨s2, h2, h3⟩ := Option.bind_eq_some_iff.mp h
    obtain ⟨wo, _, rfl⟩ := Option.map_eq_some_iff.mp h2
    exact (copies_toks r _ _ h3).trans rfl
theorem fence_toks {p : Program} {s s1 : Shared} (h : fenceModules? p s = some s1) : s1.toks = s.toks := by
  unfold fenceModules? at h
  obtain ⟨s2, h2, h3⟩ := Option.bind_eq_some_iff.mp h
  split at h3
  · exact (copies_toks _ _ _ h3).trans (fenceAll_toks _ _ _ h2)
  · cases h3; exact fenceAll_toks _ _ _ h2
theorem topRun_toks {tb : String → Option Builtin} {p : Program} {w : World} {n₀ : Nat} {ann : Option Value} : ∀ (n : Nat) (s : Shared) (t : Thread) (s₁ : Shared), topRun tb p w n₀ ann n s t = some s₁ → s.toks ≤ s₁.toks
  | 0, _, _, _, h => by simp [topRun] at h
  | n + 1, s, t, s₁, h => by
    unfold topRun at h
    split at h
    · cases h; exact Nat.le_refl _
    · split at h
      · cases h
      · split at h
        · rename_i s' t' hs
          exact Nat.le_trans (step_toks_le _ _ _ _ _ _ _ hs) (topRun_toks n s' t' s₁ h)
        · cases h
theorem openEnds_toks {p : Program} {w : World} {N : Nat} {s : Shared} (h : openEnds treeTable p w N = some s) : 0 < s.toks := by
  rw [← table_eq_tree] at h
  obtain ⟨s₀, h2, h3⟩ := Option.bind_eq_some_iff.mp h
  obtain ⟨s', h4, h5⟩ := Option.bind_eq_some_iff.mp h2
  have A := (AfterImport.of_importEnds h4).toks_pos
  rw [← fence_toks h5] at A
  unfold topFrom at h3
  split at h3
  · obtain ⟨s₂, h6, h7⟩ := Option.bind_eq_some_iff.mp h3
    split at h7
    · cases h7; exact Nat.lt_of_lt_of_le A (topRun_toks _ _ _ _ h6)
    · cases h7
  · cases h3
theorem left_toks {p q : Program} {loose : List Str} {Xt : Shared → Bool} {α : Type} {Yf : Shared → α} {Ya : World → α} {N : Nat} {g0 : Bool} (left : LeftO p q loose Xt Yf Ya N g0) :
    LeftO p q loose Xt (fun s => (Yf s, Nat.ble 1 s.toks)) (fun w => (Ya w, true)) N g0 := fun w => by
  obtain ⟨s, h1, h2⟩ := Option.map_eq_some_iff.mp (left w)
  rw [h1]
  have e := Prod.mk.inj h2
  exact congrArg some (Prod.ext e.1 (Prod.ext e.2 (Nat.ble_eq.mpr (openEnds_toks h1))))

/-- what the law's walk has to show, in clean contexts -/
abbrev WalkC (q : Program) (loose : List Str) (XP : (Str → Option Value) → Heap → Prop) (YP : World → Heap → Prop) (r : RowW) (d : DefRec) (kwd : List (Str × Expr)) : Prop :=
  ∀ (w : World) (s₀ s₁ : Shared) (mg mb : Str → Option Value), Ground q loose r.records XP w s₀ mg mb s₁.heap → YP w s₁.heap → ∀ (a : Addr) (o : Obj) (pm cd doc dV kV : Value), s₁.heap.get? a = some o →
    o.data = .func { docDef d.name d.params d.body d.scope pm cd doc with defaults := dV, kwdefaults := kV } → s₁.heap.CodeRec cd d.name → Dflts mg s₁.heap d.params kwd dV kV → mg d.name = some (.ref a) → s₁.gens = #[] → 0 < s₁.toks →
    ∀ (args : List WData) (vals : List Value) (as : List Addr), r.claim.pre args = true → WData.layableAll args = true → ReadsAllW r.records (classAt s₀.heap) s₁.heap vals args as → WellAll w.params s₁.heap vals args → (∀ a ∈ as, (a == sysModules) = false) →
      wpC (model r.prog w) callerA (PySem.call (.ref a) vals) (fun v s' => GoodWG r.claim (classAt s₀.heap) (ExcName.means s₀.heap) args s₁ (.ok (.ret v)) s')
        (fun e s' => GoodWG r.claim (classAt s₀.heap) (ExcName.means s₀.heap) args s₁ (.error e) s') s₁

theorem call_C {c : ClaimW} {name : Str} {w : World} {s : Shared} {free : Addr → Prop} {gens : Prop} {kept : Heap → Prop} (hz : s.asleep) (hgens : s.gens = #[])
    (hspec : ∀ args, c.pre args = true → WData.layableAll args = true → ∀ ord : List DictEntry → List DictEntry, (∀ l, (ord l).Perm l) →
      ∃ vs s₁, layAllW c.records (classAt s.heap) w.params ord args s = some (vs, s₁) ∧
        wpC (model c.prog w) callerA (lawTree name vs) (fun fin s' => ∃ f, fin = .done f ∧ (c.Ends s args vs s₁ (.ok f) s' ∧ s'.os = s.os ∧ kept s'.heap) ∧ AllBare s'.gens)
          (fun e s' => (c.Ends s args vs s₁ (.error e) s' ∧ s'.os = s.os ∧ kept s'.heap) ∧ AllBare s'.gens) s₁) :
    c.CallFrom (fun vs => ⟨lawTree name vs, .builtin "claim.caller" {}, default, []⟩) w free gens kept s := by
  intro args hpre hlay ord hord
  obtain ⟨vs, s₁, hlaid, hcode⟩ := hspec args hpre hlay ord hord
  have hal := layAllW_rest _ _ _ hlaid
  obtain ⟨k, r, s', s'', hrun, hsched, hfo, hcase, hos, hkp⟩ := ends_C (R := fun r s' => c.Ends s args vs s₁ r s' ∧ s'.os = s.os ∧ kept s'.heap) (Shared.asleep_of_life hal.2.2.2 hz) hcode
  obtain ⟨eh, _, _, eo, _⟩ := Shared.forget_eq hfo
  have hcase := hcase.congr eh
  rw [← eh] at hkp
  rw [← eo] at hos
  have hlife : s'.heap.life = s.heap.life := (runN_life _ _ _ hrun).trans hal.2.2.2
  refine ⟨vs, s₁, hlaid, k, _, s', hsched, ?_, (fun _ i x hx => by rw [hgens] at hx; simp at hx), hkp, by rw [hlife], Shared.rest_eq hos⟩
  rcases hcase with ⟨v, rfl, d1, d2, d3, d4, d5⟩ | ⟨e, ob, cls, rfl, d1, d2, d3, d4, d5⟩
  · exact .inl ⟨v, rfl, d1, d2, d3, fun b o y _ => d4 b o y, d5⟩
  · exact .inr ⟨e, ob, cls, rfl, d1, d2, d3, d4, fun b o y _ => d5 b o y⟩

end Mine

open PySem PySem.W PySem.Calls PyProof.Rows
namespace MineH
open Mine
/-- the head of an open law, its walk in clean contexts alone -/
theorem PySem.W.holds_open {r : OpenRow} {q : Program} {loose : List Str} {Xt : Shared → Bool} {XP : (Str → Option Value) → Heap → Prop} {α : Type} {Yf : Shared → α} {Ya : World → α} {YP : World → Heap → Prop} {d : DefRec} {kwd : List (Str × Expr)} {N : Nat}
    (left : LeftO r.prog q loose Xt Yf Ya N) (hY : ∀ w s, Yf s = Ya w → YP w s.heap) (hYk : ∀ w h h', YP w h → (∀ b o, h.get? b = some o → h'.get? b = some o) → YP w h')
    (hX : ∀ s, Xt s = true → XP (s.heap.nsMap mainGlobals) s.heap) (hXk : ∀ mg h h', XP mg h → (∀ b o, h.get? b = some o → h'.get? b = some o) → XP mg h')
    (hdef : defOf q r.name = some (d, kwd)) (hp : r.prog.theDef r.name = some (d.params, d.body, d.scope)) (hk : kwWritten? d.params.kwonlyargs d.params.kw_defaults = some kwd) (hRf : ∀ s, Xt s = true → RecFacts r.records s.heap) (hwr : (!r.writes || r.records.isEmpty) = true)
    (k1 : r.wellSaid = true) (ok : (chainsOk q && opensWell r.prog && (frees r.toRowW && r.within.isEmpty)) = true) (hb : r.prog.bare) (hw : r.toRowW.promised)
    (call : WalkC q loose XP YP r.toRowW d kwd) : r.Holds := by
  refine ⟨k1, hw, ?_⟩
  obtain ⟨ok, k5⟩ := Bool.and_eq_true_iff.mp ok
  obtain ⟨hch, o1⟩ := Bool.and_eq_true_iff.mp ok
  obtain ⟨k5, k6⟩ := Bool.and_eq_true_iff.mp k5
  obtain ⟨hsame, hu, ha, hap, hm⟩ := frees_parts k5
  have left := left_toks left
  refine ⟨⟨hb, o1, by show r.toRowW.makers.map _ = []; rw [hm]; rfl⟩, hw.witness, fun w => ⟨(left.behind hX hch w).1, fun s' hs' => ?_⟩⟩
  obtain ⟨s₀, hf, hg0, s, hT, hz, hgens, hg, G00, y⟩ := (left.behind (XP := fun mg h => XP mg h ∧ RecFacts r.records h) (fun s hs => ⟨hX s hs, hRf s hs⟩) hch w).2 s' hs'
  obtain ⟨y, ht⟩ := Prod.mk.inj y
  have ht := Nat.ble_eq.mp ht
  have G0 : Ground q loose [] XP w s (s.heap.nsMap mainGlobals) (s.heap.nsMap builtinsNs) s.heap := ⟨G00.T, G00.B, G00.D, G00.TE, G00.TD, G00.W, G00.X.1, G00.cls, G00.has, G00.apart, G00.once, G00.K⟩
  have RF := G00.X.2
  have hT' := hT
  refine ⟨s₀, hf, hg0, s, hT, fun n hn => ?_, RF.1, RF.2.1, ?_⟩
  · obtain rfl : n = r.name := by split at hn <;> simp_all
    exact pinned_of_view hg G0 hdef hp hk
  have hgens : s.gens = #[] := Array.eq_empty_of_size_eq_zero (beq_iff_eq.mp hgens)
  have G : Ground q loose r.records XP w s _ _ s.heap := RF.ground G0
  refine call_C (c := r.toRowW.claim) hz hgens fun args hpre hlay ord hord => ?_
  obtain ⟨⟨vs, s₁⟩, hlaid⟩ := Option.isSome_iff_exists.mp (layAllW_isSome (P := w.params) (ord := ord) G.has args r.toRowW.args s (pre_splitW hpre).1)
  have keeps := layAllW_keeps _ _ _ hlaid
  have hal := layAllW_rest _ _ _ hlaid
  obtain ⟨as, hrd, hin, hold⟩ := reads_layAllW hord _ _ _ hlaid hlay s₁.heap (fun _ _ e => e)
  have L : Laid r.records w s s₁ args vs as := ⟨⟨ord, hord, hlaid⟩, hrd, hin, hold, keeps, hal.1.trans hgens, hal.2.2.1⟩
  have G₁ := G.keeps hXk keeps
  have hi := ident_freeW hu ha hap
  have hwi : r.toRowW.claim.within = [] := List.isEmpty_iff.mp k6
  obtain ⟨a, o, pm, cd, doc, dV, kV, h1, h2, h3, h4, h5⟩ := G₁.fn hdef
  have h := call w s s₁ _ _ G₁ (hYk _ _ _ (hY w s y) keeps) a o pm cd doc dV kV h2 h3 h4 h5 (defOf_name hdef ▸ h1) L.gens (Nat.lt_of_lt_of_le ht (layAllW_grows _ _ _ hlaid).toks) args vs as hpre hlay L.reads L.well (L.low G.low)
  refine ⟨vs, s₁, hlaid, lawTree_wp G₁.T.g h1 (h.mono (fun v s' g => ⟨_, rfl, ?_⟩) fun e s' g => ?_)⟩ <;>
  · have z := g.laid (c := r.toRowW.claim) hsame hwi hi L
    exact ⟨⟨z.1, z.2.1, fun q => ⟨namesKept_of hT' hg _ keeps g.2.1.old, noTable hwr q⟩⟩, z.2.2⟩
end MineH

set_option Elab.async false
set_option maxRecDepth 100000
set_option linter.unusedVariables false
namespace Mine
open PySem PySem.W PySem.Calls PyProof.Rows

/-- the def at a place of the text -/
def nameAt (p : Program) (i : Nat) : Str := match p.main.body[i]? with | some (.FunctionDef n _ _ _ _ _ _ _ _ _) => n | _ => ""
def posAt (p : Program) (i : Nat) : Pos := match p.main.body[i]? with | some (.FunctionDef _ _ _ _ _ _ _ _ _ q) => q | _ => default
def recAt (p : Program) (i : Nat) : DefRec := ⟨nameAt p i, parAt p i, bodyAt p i, scopeAt p i, posAt p i⟩

/-- what is fixed at the law's call -/
def bsOf (prog : Program) (w : World) (h : Heap) (mg mb : Str → Option Value) (tabs : List NestTab) : Bs := ⟨prog, w, ghostOf h (tabs.map fun t => (t.c, t.P)), mg, mb, tabs⟩
abbrev tabP (tabs : List NestTab) : List (Addr × Addr) := tabs.map fun t => (t.c, t.P)

/-- a pattern of the text's top -/
def patAt (K : Frag) (x : Str) (code : Array Nat) : Bool := match nsIn K mainGlobals x with
  | some (some (.ref p)) => (match K.lookup p with
    | some ⟨.type "re.Pattern", none, .fields fs, _⟩ => (match fs.getD 6 .none, fs.getD 2 .none, fs.getD 5 .none with
      | .int 0 0, .int 0 0, .ref c => (match K.lookup c with
        | some ⟨_, _, .seq items _, _⟩ => (items.map Builtin.Re.reRawOf).map (·.toNat) == code
        | _ => false)
      | _, _, _ => false)
    | _ => false)
  | _ => false

section
variable {view : Program} {loose : List Str} {mean : ExcName → Option Value} {mg mb : Str → Option Value} {h : Heap} {tabs : List NestTab} {K : Frag} {prog p : Program} {w : World}

theorem codeAll_get {l : List (Addr × Addr)} {h : Heap} (X : CodeAll l h) (q' : Addr × Addr) (hq : q' ∈ l) : CodeHd h q'.1 q'.2 := by
  induction l with
  | nil => exact absurd hq List.not_mem_nil
  | cons q r ih =>
    rcases List.mem_cons.mp hq with rfl | hq
    · exact X.1
    · exact ih X.2 hq
theorem bs_ok (T : Top view loose mean mg mb h) (hT : TabsAt (tabP tabs) h) (hu : ∀ t ∈ tabs, ∀ u ∈ tabs, t.P = u.P → t = u) : (bsOf prog w h mg mb tabs).Ok where
  g := ghost_ns hT T.g
  b := ghost_ns hT T.b
  nolimit := (ghost_top hT T).nolimit
  builtins := T.builtins
  bmain := let ⟨bm, ob, a1, a2, a3, a4, a5, a6⟩ := (ghost_top hT T).bmain; ⟨bm, ob, a1, a2, a3, a4, a5, a6⟩
  code := fun t ht => codeAll_get (ghost_code hT) (t.c, t.P) (List.mem_map.mpr ⟨t, ht, rfl⟩)
  uniq := hu
theorem g_start (T : Top view loose mean mg mb h) (hT : TabsAt (tabP tabs) h) (hu : ∀ t ∈ tabs, ∀ u ∈ tabs, t.P = u.P → t = u) : G (bsOf prog w h mg mb tabs) (fun a => (ghostOf h (tabP tabs)).get? a) h where
  ok := bs_ok T hT hu
  base := fun a o e => e
  sub := fun a o e => of_hideAll _ e
  tab := fun t ht => .inl (hT (t.c, t.P) (List.mem_map.mpr ⟨t, ht, rfl⟩)).2
  off := fun t ht => hideAll_none _ (List.mem_map.mpr ⟨(t.c, t.P), List.mem_map.mpr ⟨t, ht, rfl⟩, rfl⟩)

theorem fn_in (T : Top view loose mean mg mb h) (hT : TabsAt (tabP tabs) h) {x : Str} {i : Nat} (hf : (recsOf view).find? (fun e => e.name == x) = some (recAt p i)) :
    ∃ a cd, FnIn (bsOf prog w h mg mb tabs) x a p i cd ∧ ∀ (K : Frag), K.In h → ∀ c P, tabIn K x = some (c, P) → cd = .ref c := by
  have hn : (recAt p i).name = x := beq_iff_eq.mp (List.find?_some (p := fun e : DefRec => e.name == x) hf)
  obtain ⟨a, o, pm, cd, doc, h1, h2, h3, h4⟩ := T.fn _ (List.mem_of_find?_eq_some hf)
  rw [hn] at h1 h4
  rw [hn] at h3
  refine ⟨a, cd, ⟨h1, ⟨o, doc, pm, none, .none, ghost_get hT h2 (fun q => by rw [q] at h3; cases h3), ?_⟩, ?_⟩, fun K X c P ht => ?_⟩
  · rw [h3]; rfl
  · obtain ⟨c, oc, vs, t, e, e1, e2, e3⟩ := h4
    refine ⟨c, oc, vs, t, e, ghost_get hT e1 (fun q => ?_), e2, e3⟩
    rw [q] at e2
    cases e2
    simp at e3
  · exact law_code X T.g ht h1 h2 h3
theorem pat_of (T : Top view loose mean mg mb h) (hT : TabsAt (tabP tabs) h) (X : K.In h) {x : Str} {code : Array Nat} (e : patAt K x code = true) : ∃ a, mg x = some (.ref a) ∧ Re.Pat (bsOf prog w h mg mb tabs).h₀ a code := by
  unfold patAt at e
  split at e
  · rename_i a hn
    split at e
    · rename_i fs sl hp
      split at e
      · rename_i q6 q2 q5
        rename_i c
        split at e
        · rename_i cls' d' items n sl' hc
          exact ⟨a, mg_of X T.g hn, ⟨_, fs, c, _, items, n, ghost_get hT (X _ _ hp) (fun q => by cases q), rfl, rfl, rfl, q6, q2, q5, ghost_get hT (X _ _ hc) (fun q => by cases q), rfl, eq_of_beq e⟩⟩
        · cases e
      · cases e
    · cases e
  · cases e
theorem int_of (T : Top view loose mean mg mb h) {x : Str} {i : Int} (hv : valOf view x = some (.int i)) : ∃ t, mg x = some (.int i t) := by
  obtain ⟨v, h1, h2⟩ := T.const _ _ hv
  cases h2 h with
  | int i t => exact ⟨t, h1⟩
theorem str_of (T : Top view loose mean mg mb h) {x y : Str} (hv : valOf view x = some (.str y)) : ∃ t, mg x = some (.str y t) := by
  obtain ⟨v, h1, h2⟩ := T.const _ _ hv
  cases h2 h with
  | str i t => exact ⟨t, h1⟩
theorem blt_of (T : Top view loose mean mg mb h) (hx : bltNames.all (fun x => !startupNames.contains x && !loose.contains x && !((recsOf view).map (·.name)).contains x && !((litsOf view).map (·.1)).contains x && !((clssOf view loose).map (·.name)).contains x) = true) :
    Blt (bsOf prog w h mg mb tabs) := fun x hm => by
  have := List.all_eq_true.mp hx x hm
  simp only [Bool.and_eq_true, Bool.not_eq_true', List.contains_eq_mem, decide_eq_false_iff_not] at this
  exact T.free x this.1.1.1.1 this.1.1.1.2 this.1.1.2 this.1.2 this.2

theorem well_ints {P : Params} {h : Heap} {fz : Fz} : ∀ {ns : List Int} {vs : List Value}, WellAll P h vs (ofPys (ns.map PyData.int)) → Reps fz vs (intD ns)
  | [], vs, x => by cases x with | nil => exact Reps.nil
  | n :: ns, vs, x => by
    obtain ⟨v, vs', rfl, a, b⟩ := wellAll_cons_inv x
    cases a with
    | int i t => exact Reps.cons ⟨t, rfl⟩ (well_ints b)
/-- the law's call comes back as asked -/
theorem law_end {c : ClaimW} {cl : Str → Option Addr} {mean' : ExcName → Option Value} {P : Params} {args : List WData} {s : Shared} {fa a : Addr} {ns : List Int} {n : Nat} (T : Top view loose mean mg mb s.heap) (hT : TabsAt (tabP tabs) s.heap) (hu : ∀ t ∈ tabs, ∀ u ∈ tabs, t.P = u.P → t = u)
    (law : FSpecC (bsOf prog w s.heap mg mb tabs) n (.ref fa) [.list (intD ns)] (.bool true)) (hw : Well P s.heap (.ref a) (ofPy (PyData.list (ns.map PyData.int)))) (hg : s.gens = #[]) (htk : 0 < s.toks) (hn : n ≤ 100)
    (hr : ∀ cls, c.raises args cls = false) (hp : c.post args (.bool true) args = true) :
    wpC (model prog w) callerA (call (.ref fa) [.ref a]) (fun v s' => GoodWG c cl mean' args s (.ok (.ret v)) s') (fun e s' => GoodWG c cl mean' args s (.error e) s') s := by
  have g0 := g_start (prog := prog) (w := w) T hT hu
  obtain ⟨vs, hget, hall⟩ : ∃ vs, s.heap.get? a = some (lstObj vs 0) ∧ WellAll P s.heap vs (ofPys (ns.map PyData.int)) := by
    generalize hd : ofPy (PyData.list (ns.map PyData.int)) = d at hw
    cases hw <;> simp only [ofPy] at hd <;> cases hd
    rename_i vs h1 h2
    exact ⟨vs, h1, h2⟩
  have hrep : Reps (fun b => (ghostOf s.heap (tabP tabs)).get? b) [.ref a] [.list (intD ns)] := by
    refine Reps.cons ?_ Reps.nil
    unfold Rep
    exact ⟨a, 0, vs, rfl, ghost_get hT hget (fun q => by cases q), well_ints hall⟩
  refine law callerA _ s [.ref a] htk ⟨rfl, by show 1 + 300 + n < 1000; omega, by show 4 + 4 * n + 64 < 9900; omega⟩ g0 hrep _ _ fun v fz' h' t' gr g' rv md => ?_
  have e : v = .bool true := rv
  subst e
  have tabs_ok : ∀ b o, isTab (bsOf prog w s.heap mg mb tabs) b → s.heap.get? b = some o → isCodeTable s.heap b ∧ o = tabObj #[] ∧ ∃ ps, h'.get? b = some (tabObj ps) := by
    rintro b o ⟨t, ht, rfl⟩ he
    have hq := hT (t.c, t.P) (List.mem_map.mpr ⟨t, ht, rfl⟩)
    have e2 := hq.2
    rw [show s.heap.get? t.P = some o from he] at e2
    refine ⟨(hq.1.tab hq.2).isCodeTable, Option.some.inj e2, ?_⟩
    rcases g'.tab t ht with q | ⟨c', q, _⟩
    · exact ⟨_, q⟩
    · exact ⟨_, q⟩
  refine ⟨.inl ⟨.bool true, .bool true, [], rfl, hr, .bool true, hp, fun _ => ⟨List.nodup_nil, fun _ h => nomatch h⟩⟩, ⟨fun b o he => ?_, fun b o he => ?_⟩, rfl, .of_eq hg⟩
  · by_cases hb : isTab (bsOf prog w s.heap mg mb tabs) b
    · obtain ⟨k1, rfl, ps, k2⟩ := tabs_ok b o hb he
      exact .inr (.inl ⟨k1, rfl, #[], ps, rfl, by rw [Array.empty_append]; exact k2⟩)
    · exact .inl (md.keep b o (fun h => h) hb he)
  · by_cases hb : isTab (bsOf prog w s.heap mg mb tabs) b
    · obtain ⟨k1, rfl, ps, k2⟩ := tabs_ok b o hb he
      exact ⟨_, k2⟩
    · exact ⟨o, md.keep b o (fun h => h) hb he⟩
end
end Mine

set_option Elab.async false
set_option maxRecDepth 100000
set_option linter.unusedVariables false
namespace Mine
open PySem PySem.W PySem.Calls PyProof.Rows

theorem size_two {n : Nat} : Builtin.Range.rangeSize 1 ((n : Int) + 1) 1 = n := by
  unfold Builtin.Range.rangeSize
  rw [if_pos (by decide)]
  split <;> omega

theorem seq_get {a c : Int} {n k : Nat} {d : D} (hk : (intSeq a c n)[k]? = some d) : k < n ∧ d = .int (a + (k : Int) * c) := by
  unfold intSeq at hk
  rw [List.getElem?_map] at hk
  obtain ⟨j, hj, rfl⟩ := Option.map_eq_some_iff.mp hk
  obtain ⟨h1, h2⟩ := List.getElem?_eq_some_iff.mp hj
  rw [List.length_range] at h1
  rw [List.getElem_range] at h2
  subst h2
  exact ⟨h1, rfl⟩

theorem size_down {n : Nat} : Builtin.Range.rangeSize ((n : Int) - 1) (-1) (-1) = n := by
  unfold Builtin.Range.rangeSize
  rw [if_neg (by decide)]
  split
  · rw [show (-(-1) : Int) = 1 from rfl, Int.ediv_one]; omega
  · omega
theorem small_down {n : Nat} (h : n ≤ 1000) : Builtin.Range.small ((n : Int) - 1) (-1) (-1) = true := by
  unfold Builtin.Range.small Builtin.Range.rangeFitsLong
  simp only [Bool.and_eq_true, decide_eq_true_eq, Bool.or_eq_true]
  rw [size_down]
  exact ⟨⟨⟨⟨by omega, by omega⟩, by decide⟩, by omega⟩, .inr (by decide)⟩

section
variable {B : Bs} {K : Act} {ρ : Rho} {O₁ O₂ : Own'}
end
section
variable {B : Bs} {K : Act} {ρ : Rho} {O : Own'}
theorem EvIt.as {t e : Expr} {vs vs' : List D} (h : EvIt B K ρ O t e vs) (q : vs = vs') : EvIt B K ρ O t e vs' := q ▸ h
theorem Ev.asD {e : Expr} {d d' : D} (h : Ev B K ρ O e d) (q : d = d') : Ev B K ρ O e d' := q ▸ h
end
theorem cut_take (ns : List D) (k : Nat) : cut ns none (some (k : Int)) = ns.take k := by
  unfold cut clipAt
  simp only [Option.elim, List.drop_zero, Nat.sub_zero]
  rw [if_neg (by omega)]
  by_cases h : k ≤ ns.length
  · congr 1; omega
  · rw [List.take_of_length_le (by omega), List.take_of_length_le (by omega)]

def drawnI (ns : List Int) (k : Nat) : List Int := (ns.take k).map fun c => c.fmod 1000000
theorem drawnI_mem {ns : List Int} {k : Nat} : ∀ x ∈ drawnI ns k, 0 ≤ x ∧ x < 1000000 := fun x hx => by
  obtain ⟨c, _, rfl⟩ := List.mem_map.mp hx
  exact ⟨Int.fmod_nonneg_of_pos _ (by decide), Int.fmod_lt_of_pos _ (by decide)⟩
theorem drawnI_len {ns : List Int} {k : Nat} : (drawnI ns k).length ≤ k := by unfold drawnI; rw [List.length_map, List.length_take]; omega
end Mine

set_option Elab.async false
set_option maxRecDepth 100000
set_option linter.unusedVariables false
namespace Mine
open PySem PySem.W PySem.Calls PyProof.Rows

/-- no reader has booked a token -/
abbrev NB (B : Bs) : Prop := NoneBooked B.h₀

/-- x.replace(y, z) -/
def replL (x y z : List Nat) : List Nat := (Txt.replace (sS x) (sS y) (sS z)).cps.toList
theorem replL_eq {x y z : List Nat} (hs : 1 ≤ y.length) : replL x y z = joinL z (splitS y 0 x) := by
  unfold replL Txt.replace
  obtain ⟨f, hc, hn⟩ := StrLaws.occ_tight (sS x) (sS y) (by rw [sS_len]; exact hs)
  have main := parts_split hs _ 0 f hc hn (Nat.zero_le _)
  rw [List.drop_zero] at main
  split
  · rename_i hq
    rw [Bool.or_eq_true] at hq
    have hq : (Builtin.Str.occurrences (sS x) (sS y) 0 (sS x).length ((sS x).length + 1)).isEmpty = true := by
      rcases hq with q | q
      · exact q
      · rw [Bool.and_eq_true, beq_iff_eq, sS_len] at q
        omega
    rw [List.isEmpty_iff.mp hq] at main
    rw [← main]
    show (sS x).cps.toList = joinL z [(Builtin.Str.strSub (sS x) 0 (sS x).length).cps.toList]
    rw [StrLaws.strSub_toList, sS_toList, sS_len, List.take_of_length_le (by simp)]
    rfl
  · rw [← main, StrLaws.glued_eq_join, StrLaws.partsBetween_eq]
    generalize StrLaws.partsFrom (sS x) (sS y).length 0 _ = ps
    have e : ps = (ps.map fun w => w.cps.toList).map sS := by
      rw [List.map_map]
      conv => lhs; rw [← List.map_id ps]
      exact List.map_congr_left fun w _ => (sS_of w).symm
    conv => lhs; rw [e, txt_join]
theorem nb_heap {B : Bs} {fz : Fz} {h : Heap} (nb : NB B) (g : G B fz h) : NoneBooked h := by
  obtain ⟨mc, h1, h2⟩ := nb
  exact ⟨mc, h1.keeps fun a o e => g.sub a o (g.base a o e), h2⟩

section
variable {B : Bs} {K : Act} {ρ ρ' : Rho} {O O₁ O₂ R : Own'} {T : Tmp} {fz : Fz} {s : Shared} {o : Out}
theorem items_range {fz : Fz} {a c : Int} {n : Nat} {acc : Array Value} (h : ItemsOf (fun (i : Nat) v => ∃ t, v = .int (a + i * c) t) acc n) : Reps fz acc.toList (intSeq a c n) := by
  obtain ⟨h1, h2⟩ := h
  refine Reps.of_zip (by simp [h1, intSeq]) fun p hp => ?_
  obtain ⟨i, hi⟩ := List.getElem?_of_mem hp
  have := List.getElem?_zip_eq_some.mp hi
  obtain ⟨t, e⟩ := h2 i p.1 (by rw [← Array.getElem?_toList]; exact this.1)
  obtain ⟨_, e3⟩ := seq_get this.2
  rw [e, e3]
  exact ⟨t, rfl⟩
theorem f_ord {c : Nat} : FSpec B 0 (.builtin "ord") [.str [c]] (.int c) := FSpec.of1 fun A fz s v rm g ⟨t, e⟩ Q E hQ => by
  subst e
  exact P.ord_of_char (hQ.same g ⟨_, rfl⟩ _)
theorem f_sum {l : List Int} : FSpec B 0 (.builtin "sum") [.list (intD l)] (.int l.sum) := FSpec.of1 fun A fz s v rm g r Q E hQ => by
  obtain ⟨a, us, n, rfl, ha, hl, hr⟩ := r.isList g
  have hi := intsAre_intD hr
  obtain ⟨xs, hx⟩ := hi.allInts.items
  refine with_size (sum_intListG rm.handled (hx ▸ hl) fun h' tk t' hk hsz => ?_)
  have e1 : l = xs.toList.map (·.1) := by
    rw [← nums_intItems, ← hx]
    exact (show numsOf us.toArray.toList = l from hi.numsOf).symm
  have e2 : preSum (numAt xs) xs.size = l.sum := by
    rw [preSum_eq, List.take_of_length_le (by simp), e1]
  rw [e2]
  exact hQ _ fz h' tk Grow.refl (g.keeps fun c o _ e => hk c o e) ⟨_, rfl⟩ (Mod.of_keep hk hsz)

theorem tup2 {v : Value} {a b : Int} (g : G B fz s.heap) (r : Rep fz v (.tup [.int a, .int b])) : ∃ l t u, v = .ref l ∧ s.heap.IsTuple l #[.int a t, .int b u] := by
  unfold Rep at r
  obtain ⟨l, n, vs, rfl, h1, h2⟩ := r
  obtain ⟨v1, v2, rfl, ⟨t, rfl⟩, ⟨u, rfl⟩⟩ := reps2 h2
  exact ⟨l, t, u, rfl, _, g.sub _ _ h1, rfl, n, rfl⟩
theorem op_eqT {a b c d : Int} : Op2 B (compareOp .Eq) (.tup [.int a, .int b]) (.tup [.int c, .int d]) (.bool (decide (a = c ∧ b = d))) := fun A fz s v₁ v₂ rm g r₁ r₂ Q E hQ => by
  obtain ⟨l, t, u, rfl, h1⟩ := tup2 g r₁
  obtain ⟨l', t', u', rfl, h2⟩ := tup2 g r₂
  refine SeqAt.eq_tupleAt (e := fun j => if j = 0 then a == c else b == d) h1 h2 (by have := rm.units; omega) (fun j j1 j2 => ?_) ?_
  · match j, j1, j2 with
    | 0, _, _ => exact SeqAt.EqAt.int_int _ _ _ _
    | 1, _, _ => exact SeqAt.EqAt.int_int _ _ _ _
  · have e : ((List.range (min 2 2)).all (fun j => if j = 0 then a == c else b == d) && (2 : Nat) == 2) = decide (a = c ∧ b = d) := by
      rw [Bool.eq_iff_iff]
      simp [List.range_succ]
    show Q (.bool ((List.range (min 2 2)).all (fun j => if j = 0 then a == c else b == d) && (2 : Nat) == 2)) s
    rw [e]
    exact hQ.same0 g rfl
theorem cut_init {α : Type} (l : List α) : cut l none (some (-1)) = l.dropLast := by
  unfold cut clipAt
  simp only [Option.elim, List.drop_zero, Nat.sub_zero]
  rw [List.dropLast_eq_take]
  rw [if_pos (by omega)]
  congr 1
  omega
theorem cut_tail {α : Type} (l : List α) (k : Nat) : cut l (some (k : Int)) none = l.drop k := by
  unfold cut clipAt
  simp only [Option.elim]
  rw [if_neg (by omega)]
  by_cases h : k ≤ l.length
  · rw [show (max 0 (min (k : Int) (l.length : Int))).toNat = k by omega, List.take_of_length_le (by simp)]
  · rw [show (max 0 (min (k : Int) (l.length : Int))).toNat = l.length by omega, List.drop_of_length_le (Nat.le_refl _), List.drop_of_length_le (by omega)]; simp
/-- x[-1] of a list -/
theorem Ev.itemLast {value slice : Expr} {pos : Pos} {ds : List D} {d : D} (h1 : Ev B K ρ O value (.list ds)) (h2 : Ev B K ρ O slice (.int (-1))) (hd : ds[ds.length - 1]? = some d)
    (hs : ∀ o i, subscripted slice false o i = operate [o, i] (getItem o i) := by intro _ _; with_unfolding_all rfl) : Ev B K ρ O (.Subscript value slice pos) d := by
  have hk := (List.getElem?_eq_some_iff.mp hd).1
  exact Ev.sub h1 h2 DTy.list slot_list_getitem.lookup (op_item (ds.length - 1) (.inr ⟨by omega, by omega, by omega⟩) hd (by omega)) hs
/-- x[-1] of a list of the call's own -/
theorem Ev.lastOwn {value slice : Expr} {pos : Pos} {a : Addr} {ds : List D} {d : D} (h1 : Ev B K ρ (O₁ ++ (a, .lst ds) :: O₂) value (.raw (.ref a))) (h2 : Ev B K ρ (O₁ ++ (a, .lst ds) :: O₂) slice (.int (-1)))
    (hd : ds[ds.length - 1]? = some d)
    (hs : ∀ o i, subscripted slice false o i = operate [o, i] (getItem o i) := by intro _ _; with_unfolding_all rfl) : Ev B K ρ (O₁ ++ (a, .lst ds) :: O₂) (.Subscript value slice pos) d :=
  fun R T s S Q E hQ => Subscript_ (h1 R T s S _ _ fun v₁ s₁ S₁ m₁ => h2 R _ s₁ S₁ _ _ fun v₂ s₂ ⟨fz, S₂⟩ m₂ => by
    obtain rfl : v₁ = .ref a := S₂.tmp (v₁, .raw (.ref a)) (by simp)
    obtain ⟨t, rfl⟩ : ∃ t, v₂ = .int (-1) t := S₂.tmp (v₂, .int (-1)) (by simp)
    obtain ⟨vs, n, hg, hrs⟩ := S₂.ownGet
    obtain ⟨v, hv, hr⟩ := hrs.get _ d hd
    have hl : s₂.heap.IsList a vs.toArray := ⟨_, hg, rfl, n, rfl⟩
    have hk := (List.getElem?_eq_some_iff.mp hd).1
    have h : vs.toArray.size = ds.length := by rw [List.size_toArray, hrs.length]
    have e : ((-1 : Int) + (ds.length : Int)).toNat = ds.length - 1 := by omega
    refine tail_any hl.typeIs list_getitem_lookup (wpAny_getItem_list_neg hl (by decide) (by rw [h]; omega) (by decide) (x := v) ?_ ?_) (hs _ _)
    · rw [h, e]; simpa using hv
    exact hQ v s₂ ⟨fz, (S₂.push hr).subT (by intro p hp; rcases List.mem_cons.mp hp with h | h <;> simp [h])⟩ (m₁.trans m₂ fun _ h => h.elim))
/-- list(range(a, b)) -/
theorem Ev.listRange {e1 e2 : Expr} {p1 p2 p3 p4 : Pos} {a b : Int} {n : Nat} (N : Blt B) (h : Evs B K ρ O [e1, e2] [.int a, .int b]) (hs : Builtin.Range.small a b 1 = true) (hn : Builtin.Range.rangeSize a b 1 = n) (hz : n ≤ 2 ^ 24)
    (hk1 : K.env.kindOf "list" = some .globalImplicit := by rfl) (hk2 : K.env.kindOf "range" = some .globalImplicit := by rfl)
    (hs1 : starEach [.Call (.Name "range" p2) [e1, e2] [] p3] K.env = (false, eval (.Call (.Name "range" p2) [e1, e2] [] p3) K.env) :: starEach [] K.env := by rfl)
    (hp : (backTo p4 (starEach [.Call (.Name "range" p2) [e1, e2] [] p3] K.env)).any (·.1) = false := by rfl)
    (hp2 : (backTo p3 (starEach [e1, e2] K.env)).any (·.1) = false := by rfl)
    (he : eval (.Call (.Name "list" p1) [.Call (.Name "range" p2) [e1, e2] [] p3] [] p4) K.env = (do callWith p4 (← eval (.Name "list" p1) K.env) [] (backTo p4 (starEach [.Call (.Name "range" p2) [e1, e2] [] p3] K.env)) []) := by rfl)
    (he2 : eval (.Call (.Name "range" p2) [e1, e2] [] p3) K.env = (do callWith p3 (← eval (.Name "range" p2) K.env) [] (backTo p3 (starEach [e1, e2] K.env)) []) := by rfl) :
    Ev B K ρ O (.Call (.Name "list" p1) [.Call (.Name "range" p2) [e1, e2] [] p3] [] p4) (.list (intSeq a 1 n)) := fun F T s S Q E hQ => by
  have f1 : Ev B K ρ O (.Name "list" p1) (.raw (.type "list")) := Ev.blt (N "list" (by decide)) Boot.list hk1 (by decide) (by decide)
  have f2 : Ev B K ρ O (.Name "range" p2) (.raw (.type "range")) := Ev.blt (N "range" (by decide)) Boot.range hk2 (by decide) (by decide)
  rw [he]
  refine wpAny_bind (f1 F T s S _ _ fun v₁ s₁ S₁ m₁ => ?_)
  have e : v₁ = .type "list" := by obtain ⟨fz, S₁⟩ := S₁; exact S₁.tmp (v₁, .raw (.type "list")) (by simp)
  subst e
  refine callWith_of (P := fun h => ∀ a o, B.h₀.get? a = some o → h.get? a = some o) (by simp [hp]) (fun h k => Keep.type h k) (evalArgs_of_spliced hp (wpAny_items_cons ?_ hs1))
  rw [he2]
  refine wpAny_bind (f2 F _ s₁ S₁ _ _ fun v₂ s₂ S₂ m₂ => ?_)
  have e : v₂ = .type "range" := by obtain ⟨fz, S₂⟩ := S₂; exact S₂.tmp (v₂, .raw (.type "range")) (by simp)
  subst e
  refine callWith_of (P := fun h => ∀ a o, B.h₀.get? a = some o → h.get? a = some o) (by simp [hp2]) (fun h k => Keep.type h k) (evalArgs_of_spliced hp2 (h F _ s₂ p3 S₂ _ _ fun vs s₃ hl S₃ m₃ => ?_))
  obtain ⟨fz, S₃⟩ := S₃
  refine ⟨fun a o q => S₃.g.sub a o (S₃.g.base a o q), ?_⟩
  have r : Reps fz vs [.int a, .int b] := Reps.of_zip hl fun p hp => S₃.tmp p (List.mem_append_left _ hp)
  obtain ⟨v, u, rfl, ⟨tv, rfl⟩, ⟨tu, rfl⟩⟩ := reps2 r
  refine call_range_2 (wpAny_items_nil ⟨fun a o q => Heap.get?_push_of_some _ (S₃.g.sub a o (S₃.g.base a o q)), ?_⟩)
  refine with_size (call_list_range S₃.room.handled (IsRange.new s₃.heap a b 1 tv tu s₃.toks) hs hn hz fun h' tk acc' c' hk hS' hacc hsz => ?_)
  have hn3 : fz (s₃.heap.objs.size + 1) = none := S₃.g.none_of_le (Nat.le_succ _)
  have hk' : ∀ b o, s₃.heap.get? b = some o → h'.get? b = some o := fun b o e => hk b o (Heap.get?_push_of_some _ e)
  have hps := push_size (s := s₃) (ob := { cls := .type "range", data := .fields #[.int a tv, .int b tu, .int 1 s₃.toks] })
  have hpe : (s₃.heap.push { cls := .type "range", data := .fields #[.int a tv, .int b tu, .int 1 s₃.toks] }).objs.size = s₃.heap.objs.size + 1 := Heap.size_push _ _
  have bk : Back B fz s₃ (.list (intSeq a 1 n)) Q := S₃.back fun v s' S' m' =>
    hQ v s' (S'.sub (by intro p hp; rcases List.mem_cons.mp hp with h | h <;> simp [h])) (((m₁.trans m₂ fun _ h => h.elim).trans m₃ fun _ h => h.elim).trans m' fun _ h => h.elim)
  have q := bk (.ref (s₃.heap.objs.size + 1)) (fzSet fz (s₃.heap.objs.size + 1) (lstObj acc'.toList c')) h' tk (Grow.set hn3 (Nat.le_succ _)) ((S₃.g.keeps fun b o _ e => hk' b o e).fzSet (by rw [← hpe]; simpa using hS') hn3 (S₃.g.not_tab (Nat.le_succ _))) ?_ (Mod.of_keep hk' (Nat.le_trans hps hsz))
  · rw [← hpe] at q
    exact q
  · unfold Rep
    exact ⟨_, c', acc'.toList, rfl, by unfold fzSet; rw [if_pos rfl], items_range hacc⟩
end
/-! ### str.replace: the state asks whether old and new are one object, so their tokens must be known -/
/-- as EvC, ExC, where more than n makings have been -/
def EvCN (n : Nat) (B : Bs) (K : Act) (ρ : Rho) (O : Own') (e : Expr) (d : D) : Prop :=
  ∀ (F : Own') (T : Tmp) (s : Shared), n < s.toks → St B K ρ (O ++ F) T s → ∀ (Q : Value → Shared → Prop) (E : Value → Shared → Prop), (∀ v s', St B K ρ (O ++ F) ((v, d) :: T) s' → Mod B No s.heap s'.heap → Q v s') → wpC (model B.prog B.w) K.A (eval e K.env) Q E s
def ExCN (n : Nat) (B : Bs) (K : Act) (ρ : Rho) (O : Own') (ss : List Stmt) (o : Out) : Prop :=
  ∀ (F : Own') (T : Tmp) (s : Shared), n < s.toks → St B K ρ (O ++ F) T s → ∀ (Q : Flow → Shared → Prop) (E : Value → Shared → Prop), (∀ fl s', OutSt B K F T o fl s' → Mod B (Own.in K O) s.heap s'.heap → Q fl s') → wpC (model B.prog B.w) K.A (execs ss K.env) Q E s
/-- a str whose token is known -/
def EvTk (n : Nat) (B : Bs) (K : Act) (ρ : Rho) (O : Own') (e : Expr) (x : List Nat) : Prop :=
  ∀ (F : Own') (T : Tmp) (s : Shared), n < s.toks → St B K ρ (O ++ F) T s → ∀ (Q : Value → Shared → Prop) (E : Value → Shared → Prop),
    (∀ v tk s', v = .str (sS x) tk → tk ≠ 0 → (tk = s.toks ∨ tk ≤ n) → St B K ρ (O ++ F) ((v, .str x) :: T) s' → Mod B No s.heap s'.heap → Q v s') → wpAny (model B.prog B.w) K.A (eval e K.env) Q E s

section
variable {B : Bs} {K : Act} {ρ ρ' ρ₁ : Rho} {O O' O₁ O₂ R : Own'} {T : Tmp} {fz : Fz} {s : Shared} {o : Out} {n : Nat}
theorem EvCN.of {e : Expr} {d : D} (h : EvC B K ρ O e d) : EvCN n B K ρ O e d := fun F T s hk => h F T s (Nat.lt_of_le_of_lt (Nat.zero_le _) hk)
theorem EvTk.const {x : Str} {k : Nat} {pos : Pos} : EvTk n B K ρ O (.Constant (.str x) k pos) x.cps.toList := fun F T s hk ⟨fz, S⟩ Q E hQ =>
  wpAny_Constant_str (hQ _ s.toks _ (by rw [sS_of]) (by omega) (.inl rfl) ⟨fz, (S.toks _).push ⟨_, rfl⟩⟩ Mod.refl)
theorem EvTk.var {x : Str} {pos : Pos} {z : List Nat} {t : Tok} (h : ρ.lookup x = some (.raw (.str (sS z) t))) (h0 : t ≠ 0) (hn : t ≤ n)
    (hd : (x == ("__debug__" : Str)) = false := by decide) (hc : (x == ("__classdict__" : Str)) = false := by decide) : EvTk n B K ρ O (.Name x pos) z := fun F T s hk S Q E hQ =>
  Ev.var h hd hc F T s S Q E fun v s' ⟨fz, S'⟩ m => by
    have e : v = .str (sS z) t := S'.tmp (v, .raw (.str (sS z) t)) (by simp)
    subst e
    exact hQ _ t s' rfl h0 (.inr hn) ⟨fz, (S'.subT fun p hp => List.mem_cons_of_mem _ hp).push ⟨t, rfl⟩⟩ m

theorem EvCN.replace {e e2 : Expr} {old : Str} {x z : List Nat} {k1 : Nat} {p1 apos pos : Pos} (nb : NB B) (ho : EvCN n B K ρ O e (.str x)) (h2 : EvTk n B K ρ O e2 z) (hb : x.length + (x.length + 1) * z.length ≤ 16777216)
    (hbase : attributeBase e "replace" K.env (eval e K.env) = eval e K.env := by rfl)
    (hs1 : starEach [.Constant (.str old) k1 p1, e2] K.env = (false, eval (.Constant (.str old) k1 p1) K.env) :: starEach [e2] K.env := by rfl)
    (hs2 : starEach [e2] K.env = (false, eval e2 K.env) :: starEach [] K.env := by rfl)
    (hp : (backTo pos (starEach [.Constant (.str old) k1 p1, e2] K.env)).any (·.1) = false := by rfl)
    (hfew : ((backTo pos (starEach [.Constant (.str old) k1 p1, e2] K.env)).all (fun x => !x.1) && (backToKw pos (keywordEach [] K.env)).all (fun x => x.1.isSome)
      && decide ([Expr.Constant (.str old) k1 p1, e2].length + ([] : List Keyword).length + (if ([] : List Keyword).isEmpty then 0 else 1) < 30)) = true := by rfl)
    (hline : (apos.endLine == pos.line) = true := by rfl) : EvCN n B K ρ O (.Call (.Attribute e "replace" apos) [.Constant (.str old) k1 p1, e2] [] pos) (.str (replL x old.cps.toList z)) := fun F T s hk S Q E hQ => by
  rw [arm_eval_Call, hbase]
  refine wpC.bind (wpC.toks (ho F T s hk S _ _ fun v₁ s₁ S₁ m₁ k₁ => wpC.of (wpAny_bind (wpAny_standAt ?_))))
  have hform : methodCallForm ([Expr.Constant (.str old) k1 p1, e2].length + ([] : List Keyword).length) (backTo pos (starEach [.Constant (.str old) k1 p1, e2] K.env)) (backToKw pos (keywordEach [] K.env)) = true := hfew
  have hpos : methodCallPos true e K.env apos pos = pure pos := by unfold methodCallPos; simp [hline]
  unfold methodCall
  rw [hform]
  obtain ⟨h1, h3⟩ : s₁.TypeIs v₁ _ ∧ _ := by obtain ⟨fz, S₁⟩ := S₁; exact DTy.str fz s₁ v₁ S₁.g (S₁.tmp (v₁, .str x) (by simp))
  refine wpAny_bind (wpAny_holding (getMethod_builtin h1 PySem.F.plainAttrs_str PySem.F.slot_str_replace PySem.F.type_str_replace h3 ?_))
  refine wpAny_bind (wpAny_of_eq hpos ?_)
  refine Calls.callWith_builtin hp (evalArgs_of_spliced hp (wpAny_items_cons (wpAny_Constant_str (wpAny_items_cons ?_ hs2)) hs1))
  have S₂ : St B K ρ (O ++ F) ((v₁, .str x) :: T) { s₁ with toks := s₁.toks + 1 } := by obtain ⟨fz, S₁⟩ := S₁; exact ⟨fz, S₁.toks _⟩
  refine h2 F _ _ (Nat.lt_succ_of_lt (Nat.lt_of_lt_of_le hk k₁)) S₂ _ _ fun v₂ tk s₂ e2 h0 htk S₃ m₃ => wpAny_items_nil ?_
  subst e2
  obtain ⟨fz, S₃⟩ := S₃
  obtain ⟨t₁, e1⟩ := S₃.tmp (v₁, .str x) (by simp)
  subst e1
  have hne : s₁.toks ≠ tk := by
    rcases htk with q | q
    · exact fun e => by rw [q] at e; simp at e
    · have := Nat.lt_of_lt_of_le hk k₁; omega
  have h0' : s₁.toks ≠ 0 := by have := Nat.lt_of_lt_of_le hk k₁; omega
  have bk : Back B fz s₂ (.str (replL x old.cps.toList z)) Q := S₃.back fun v s' S' m' =>
    hQ v s' (S'.sub (by intro p hp; rcases List.mem_cons.mp hp with h | h <;> simp [h])) ((m₁.trans m₃ fun _ h => h.elim).trans m' fun _ h => h.elim)
  refine SC.replaceA (x := sS x) (y := old) (z := sS z) h0' h0 hne (by rw [sS_len, sS_len]; exact hb) (fun t' k => ?_) (nb_heap nb S₃.g)
  refine bk.same S₃.g ⟨t', ?_⟩ k
  show _ = Value.str (sS (Txt.replace (sS x) (sS old.cps.toList) (sS z)).cps.toList) t'
  rw [sS_of, sS_of]
theorem EvC.replace {e : Expr} {old new : Str} {x : List Nat} {k1 k2 : Nat} {p1 p2 apos pos : Pos} (nb : NB B) (ho : EvC B K ρ O e (.str x)) (hb : x.length + (x.length + 1) * new.cps.toList.length ≤ 16777216)
    (hbase : attributeBase e "replace" K.env (eval e K.env) = eval e K.env := by rfl)
    (hs1 : starEach [.Constant (.str old) k1 p1, .Constant (.str new) k2 p2] K.env = (false, eval (.Constant (.str old) k1 p1) K.env) :: starEach [.Constant (.str new) k2 p2] K.env := by rfl)
    (hs2 : starEach [.Constant (.str new) k2 p2] K.env = (false, eval (.Constant (.str new) k2 p2) K.env) :: starEach [] K.env := by rfl)
    (hp : (backTo pos (starEach [.Constant (.str old) k1 p1, .Constant (.str new) k2 p2] K.env)).any (·.1) = false := by rfl)
    (hfew : ((backTo pos (starEach [.Constant (.str old) k1 p1, .Constant (.str new) k2 p2] K.env)).all (fun x => !x.1) && (backToKw pos (keywordEach [] K.env)).all (fun x => x.1.isSome)
      && decide ([Expr.Constant (.str old) k1 p1, .Constant (.str new) k2 p2].length + ([] : List Keyword).length + (if ([] : List Keyword).isEmpty then 0 else 1) < 30)) = true := by rfl)
    (hline : (apos.endLine == pos.line) = true := by rfl) : EvC B K ρ O (.Call (.Attribute e "replace" apos) [.Constant (.str old) k1 p1, .Constant (.str new) k2 p2] [] pos) (.str (replL x old.cps.toList new.cps.toList)) :=
  EvCN.replace nb (EvCN.of ho) EvTk.const hb hbase hs1 hs2 hp hfew hline

/-- x = ['..', '..', '..'][k]: what is taken is known with its token -/
theorem ExC.assignTk {x : Str} {p lp sp pos p0 p1 p2 : Pos} {x0 x1 x2 z : Str} {k0 k1 k2 k : Nat} {idx : Expr} {r : List Stmt} (hi : Ev B K ρ O idx (.int k)) (hz : [x0, x1, x2][k]? = some z) (hb : Bindable K x)
    (h' : ∀ t, t ≠ 0 → ExCN t B K ((x, .raw (.str (sS z.cps.toList) t)) :: ρ) O r o)
    (hs : swapsWith (.Subscript (.List [.Constant (.str x0) k0 p0, .Constant (.str x1) k1 p1, .Constant (.str x2) k2 p2] lp) idx sp) (some (.Name x p)) pos.line K.env = pure false := by rfl)
    (hsb : ∀ o i, subscripted idx false o i = operate [o, i] (getItem o i) := by intro _ _; with_unfolding_all rfl)
    (s1 : starEach [.Constant (.str x0) k0 p0, .Constant (.str x1) k1 p1, .Constant (.str x2) k2 p2] K.env = (false, eval (.Constant (.str x0) k0 p0) K.env) :: starEach [.Constant (.str x1) k1 p1, .Constant (.str x2) k2 p2] K.env := by rfl)
    (s2 : starEach [.Constant (.str x1) k1 p1, .Constant (.str x2) k2 p2] K.env = (false, eval (.Constant (.str x1) k1 p1) K.env) :: starEach [.Constant (.str x2) k2 p2] K.env := by rfl)
    (s3 : starEach [.Constant (.str x2) k2 p2] K.env = (false, eval (.Constant (.str x2) k2 p2) K.env) :: starEach [] K.env := by rfl) :
    ExC B K ρ O (.Assign [.Name x p] (.Subscript (.List [.Constant (.str x0) k0 p0, .Constant (.str x1) k1 p1, .Constant (.str x2) k2 p2] lp) idx sp) pos :: r) o := fun F T s hk S Q E hQ => by
  rw [execs_cons, exec_Assign_Name _ _ _ _ _ hs]
  have key : ∀ (Q' : Value → Shared → Prop), (∀ t s', t ≠ 0 → t < s'.toks → St B K ρ (O ++ F) ((.str (sS z.cps.toList) t, .raw (.str (sS z.cps.toList) t)) :: T) s' → Mod B No s.heap s'.heap → Q' (.str (sS z.cps.toList) t) s') →
      wpAny (model B.prog B.w) K.A (eval (.Subscript (.List [.Constant (.str x0) k0 p0, .Constant (.str x1) k1 p1, .Constant (.str x2) k2 p2] lp) idx sp) K.env) Q' E s := by
    intro Q' hQ'
    refine Subscript_ (wpAny_List (wpAny_items_cons (wpAny_Constant_str (wpAny_items_cons (wpAny_Constant_str (wpAny_items_cons (wpAny_Constant_str (wpAny_items_nil ?_)) s3)) s2)) s1))
    refine ⟨Nat.le_of_ble_eq_true rfl, ?_⟩
    obtain ⟨fz, S⟩ := S
    have S0 := S.toks (s.toks + 1 + 1 + 1)
    have bk : Back B fz { s with toks := s.toks + 1 + 1 + 1 } (.list [.raw (.str x0 s.toks), .raw (.str x1 (s.toks + 1)), .raw (.str x2 (s.toks + 1 + 1))])
        (fun v s' => s'.toks = s.toks + 1 + 1 + 1 → wpAny (model B.prog B.w) K.A (eval idx K.env) (fun i s₂ => wpAny (model B.prog B.w) K.A (subscriptTail (.List [.Constant (.str x0) k0 p0, .Constant (.str x1) k1 p1, .Constant (.str x2) k2 p2] lp) idx v i) Q' E s₂) E s') := S0.back fun v₁ s₁ S₁ m₁ ht => ?_
    · exact bk.list S0.g (vs := [.str x0 s.toks, .str x1 (s.toks + 1), .str x2 (s.toks + 1 + 1)]) (Reps.cons rfl (Reps.cons rfl (Reps.cons rfl Reps.nil))) 0 (s.toks + 1 + 1 + 1) rfl
    refine with_toks (hi F _ s₁ S₁ _ _ fun v₂ s₂ ⟨fz₂, S₂⟩ m₂ k₂ => ?_)
    have hk3 : k < 3 := (List.getElem?_eq_some_iff.mp hz).1
    have hd : ([.raw (.str x0 s.toks), .raw (.str x1 (s.toks + 1)), .raw (.str x2 (s.toks + 1 + 1))] : List D)[k]? = some (.raw (.str z (s.toks + k))) := by
      match k, hk3, hz with
      | 0, _, hz => cases hz; rfl
      | 1, _, hz => cases hz; rfl
      | 2, _, hz => cases hz; rfl
    have hv1 : Rep fz₂ v₁ (.list [.raw (.str x0 s.toks), .raw (.str x1 (s.toks + 1)), .raw (.str x2 (s.toks + 1 + 1))]) := S₂.tmp (v₁, .list [.raw (.str x0 s.toks), .raw (.str x1 (s.toks + 1)), .raw (.str x2 (s.toks + 1 + 1))]) (by simp)
    refine with_toks (tail_any (DTy.list fz₂ s₂ v₁ S₂.g hv1).1 slot_list_getitem.lookup (op_item k (.inl ⟨by omega, by omega⟩) hd (by omega) _ fz₂ s₂ v₁ v₂ (S₂.room.le (Nat.zero_le _)) S₂.g hv1 (S₂.tmp (v₂, .int k) (by simp)) _ _ (S₂.back fun v s' S' m' k' => ?_)) (hsb _ _))
    have e : v = .str z (s.toks + k) := by obtain ⟨fz', S'⟩ := S'; exact S'.tmp (v, .raw _) (by simp)
    subst e
    have S'' := hQ' (s.toks + k) s' (show ((s.toks + k : Nat)) ≠ 0 by omega) (show ((s.toks + k : Nat)) < s'.toks by rw [ht] at k₂; omega)
    rw [sS_of] at S''
    exact S'' (S'.sub (by intro p hp; rcases List.mem_cons.mp hp with h | h <;> simp_all)) ((m₁.trans m₂ fun _ h => h.elim).trans m' fun _ h => h.elim)
  refine wpC.bind (wpC.bindA (wpAny_standAt (wpC.bindA (key _ fun t s₁ h0 ht S₁ m₁ => wpC.bindA (wpAny_standAt (wpC.bind (wpC.bindName ?_)))))))
  refine with_toks (S₁.store (T' := T) List.mem_cons_self hb fun s₂ S₂ m₂ k₂ => wpC.pure ?_)
  exact h' t h0 F T s₂ (Nat.lt_of_lt_of_le ht k₂) (S₂.sub fun p hp => List.mem_cons_of_mem _ hp) Q E fun fl s₃ S₃ m₃ => hQ fl s₃ S₃ (((mod_no m₁).trans m₂ fun a ha => .inl (own_nil ha)).trans m₃ fun a ha => .inl ha)
theorem EvCN.as {e : Expr} {d d' : D} (h : EvCN n B K ρ O e d) (q : d = d') : EvCN n B K ρ O e d' := q ▸ h
theorem EvCN.call1 {f e : Expr} {pos : Pos} {fv : Value} {d₁ d : D} {m : Nat} (hf : Ev B K ρ O f (.raw fv)) (ha : EvCN n B K ρ O e d₁) (hk : Keep B fv) (hs : FSpecC B m fv [d₁] d) (hm : m ≤ K.n)
    (hse : starEach [e] K.env = (false, eval e K.env) :: starEach [] K.env := by rfl)
    (hp : (backTo pos (starEach [e] K.env)).any (·.1) = false := by rfl)
    (he : eval (.Call f [e] [] pos) K.env = (do callWith pos (← eval f K.env) [] (backTo pos (starEach [e] K.env)) []) := by rfl) : EvCN n B K ρ O (.Call f [e] [] pos) d := fun F T s hk₀ S Q E hQ => by
  rw [he]
  refine wpC.bindA (with_toks (hf F T s S _ _ fun v₁ s₁ S₁ m₁ k₁ => ?_))
  have e₁ : v₁ = fv := by obtain ⟨fz, S₁⟩ := S₁; exact S₁.tmp (v₁, .raw fv) (by simp)
  subst e₁
  refine wpC.callWith (P := fun h => ∀ a o, B.h₀.get? a = some o → h.get? a = some o) hp (fun h k => hk h k) ?_
  have hk₁ := Nat.lt_of_lt_of_le hk₀ k₁
  have key : wpC (model B.prog B.w) K.A (spliced (backTo pos (starEach [e] K.env))) (fun vs s₂ => (∀ a o, B.h₀.get? a = some o → s₂.heap.get? a = some o) ∧ wpC (model B.prog B.w) K.A (PySem.call v₁ vs) Q E s₂) E s₁ := by
    refine wpC.items_cons (wpC.toks (ha F _ s₁ hk₁ S₁ _ _ fun v s₂ S₂ m₂ k₂ => wpC.of (wpAny_items_nil ?_))) hse
    obtain ⟨fz, S₂⟩ := S₂
    refine ⟨fun a o q => S₂.g.sub a o (S₂.g.base a o q), ?_⟩
    have r : Reps fz [v] [d₁] := Reps.cons (S₂.tmp (v, d₁) (by simp)) Reps.nil
    exact hs _ fz s₂ [v] (Nat.lt_of_le_of_lt (Nat.zero_le _) (Nat.lt_of_lt_of_le hk₁ k₂)) (S₂.room.le hm) S₂.g r _ _ (S₂.back fun v' s' S' m' =>
      hQ v' s' (S'.sub (by intro p hp; rcases List.mem_cons.mp hp with h | h <;> simp [h])) ((m₁.trans m₂ fun _ h => h.elim).trans m' fun _ h => h.elim))
  rw [hse] at key ⊢
  exact wpC.evalArgs key
theorem EvCN.cf1 {x : Str} {np pos : Pos} {e : Expr} {a : Addr} {p : Program} {i m : Nat} {cd : Value} {d₁ d : D} (F : FnIn B x a p i cd) (ha : EvCN n B K ρ O e d₁) (hs : FSpecC B m (.ref a) [d₁] d) (hm : m ≤ K.n)
    (hkind : K.env.kindOf x = some .globalImplicit := by rfl) (hd : (x == ("__debug__" : Str)) = false := by decide)
    (hse : starEach [e] K.env = (false, eval e K.env) :: starEach [] K.env := by rfl)
    (hp : (backTo pos (starEach [e] K.env)).any (·.1) = false := by rfl)
    (he : eval (.Call (.Name x np) [e] [] pos) K.env = (do callWith pos (← eval (.Name x np) K.env) [] (backTo pos (starEach [e] K.env)) []) := by rfl) : EvCN n B K ρ O (.Call (.Name x np) [e] [] pos) d :=
  EvCN.call1 (Ev.glob F.mg hkind hd) ha F.keep hs hm hse hp he
theorem ExCN.assign {x : Str} {p pos : Pos} {e : Expr} {d : D} {r : List Stmt} (h : EvCN n B K ρ O e d) (hb : Bindable K x) (h' : ExC B K ((x, d) :: ρ) O r o) (hs : swapsWith e (some (.Name x p)) pos.line K.env = pure false := by rfl) :
    ExCN n B K ρ O (.Assign [.Name x p] e pos :: r) o := fun F T s hk S Q E hQ => by
  rw [execs_cons, exec_Assign_Name _ _ _ _ _ hs]
  refine wpC.bind (wpC.bindA (wpAny_standAt (wpC.bind (wpC.toks (h F T s hk S _ _ fun v s₁ S₁ m₁ k₁ => wpC.bindA (wpAny_standAt (wpC.bind (wpC.bindName ?_))))))))
  refine with_toks (S₁.store (T' := T) List.mem_cons_self hb fun s₂ S₂ m₂ k₂ => wpC.pure ?_)
  exact h' F T s₂ (Nat.lt_of_le_of_lt (Nat.zero_le _) (Nat.lt_of_lt_of_le hk (Nat.le_trans k₁ k₂))) (S₂.sub fun p hp => List.mem_cons_of_mem _ hp) Q E fun fl s₃ S₃ m₃ => hQ fl s₃ S₃ (((mod_no m₁).trans m₂ fun a ha => .inl (own_nil ha)).trans m₃ fun a ha => .inl ha)
end
end Mine

set_option Elab.async false
set_option maxRecDepth 100000
set_option linter.unusedVariables false
namespace Mine
open PySem PySem.W PySem.Calls PyProof.Rows

def loopF {σ : Type} (c : σ → Bool) (f : σ → σ) : Nat → σ → σ
  | 0, s => s
  | k + 1, s => if c s then loopF c f k (f s) else s
section
variable {B : Bs} {K : Act} {ρ ρ' ρ₁ : Rho} {O O' O₁ O₂ R : Own'} {o : Out}
/-- a loop that runs while it may -/
theorem Whiles.loop {σ : Type} {test : Expr} {body : List Stmt} (c : σ → Bool) (f : σ → σ) (ρf : σ → Rho) (Of : σ → Own') (I : σ → Prop)
    (ht : ∀ st, I st → Et B K (ρf st) (Of st) test (c st))
    (hb : ∀ st, I st → c st = true → I (f st) ∧ (∀ q ∈ (Of (f st)).map (·.1), q ∈ (Of st).map (·.1)) ∧ Ex B K (ρf st) (Of st) body (.next (ρf (f st)) (Of (f st))))
    (hself : ∀ st, Agree (ρf st) (ρf st)) : ∀ (k : Nat) (st : σ) (ρ : Rho), Agree (ρf st) ρ → I st → c (loopF c f k st) = false → o = .next (ρf (loopF c f k st)) (Of (loopF c f k st)) → Whiles B K test body k ρ (Of st) o
  | 0, st, ρ, hρ, hI, hc, ho => by
    subst ho
    have e := ht st hI
    rw [show c st = false from hc] at e
    exact .done (lookup_of_all hρ.all) e
  | k + 1, st, ρ, hρ, hI, hc, ho => by
    have e := ht st hI
    unfold loopF at hc ho
    cases h : c st with
    | false =>
      rw [h] at hc ho e
      subst ho
      exact .done (lookup_of_all hρ.all) e
    | true =>
      rw [h] at hc ho e
      obtain ⟨h1, h2, h3⟩ := hb st hI h
      exact .next (lookup_of_all hρ.all) e h3 h2 (Whiles.loop c f ρf Of I ht hb hself k (f st) _ (hself _) h1 hc ho)

theorem relabel_look {names : List (Str × NameKind)} {env : Env} {x : Str} (h : names.lookup x = some .cell) :
    (names.map fun (n, k) => if (k == NameKind.free && env.scope.kind == .function && env.kindOf n == some .cell) then (n, NameKind.cell) else (n, k)).lookup x = some .cell := by
  induction names with
  | nil => cases h
  | cons p r ih =>
    obtain ⟨n, k⟩ := p
    rw [List.lookup_cons] at h
    rw [List.map_cons, List.lookup_cons]
    have e : (match (n, k) with | (n, k) => if (k == NameKind.free && env.scope.kind == ScopeKind.function && env.kindOf n == some NameKind.cell) then (n, NameKind.cell) else (n, k)).1 = n := by
      dsimp only; split <;> rfl
    rw [e]
    split at h
    · rename_i q
      cases h
      rfl
    · exact ih h
/-- a cell of a comprehension's own -/
theorem comp_cell {scope : Scope} {L : Addr} {s₀ : Shared} {fz₀ : Fz} {wr : List Addr} {ro : List (Addr × List Value × Nat × List D)} {x : Str} (hk : scope.names.lookup x = some .cell)
    (h : ((cellsFrom (L + 1) scope.names []).lookup x).isSome = true) : Bindable (compAct K scope L s₀ fz₀ wr ro) x := by
  obtain ⟨c, hc⟩ := Option.isSome_iff_exists.mp h
  refine .inr ⟨relabel_look hk, c, ?_, List.mem_map.mpr ⟨(x, c), lookup_some_mem hc, rfl⟩⟩
  show (cellsFrom (L + 1) scope.names (closOf K.env scope.names [])).lookup x = some c
  rw [cellsFrom_split, List.lookup_append, hc]
  rfl
end
end Mine

set_option Elab.async false
set_option maxRecDepth 100000
namespace Mine
open PySem PySem.W PySem.Calls PyProof.Rows
abbrev pw := PySem.Challenge.pw_wn0065_01
abbrev iQuote := 13
abbrev iDiv2 := 3
abbrev iInt2 := 5
abbrev iDig2 := 6
abbrev iDivPos := 7
abbrev iDivmod := 8
abbrev iSwap := 15
end Mine

set_option Elab.async false
set_option maxRecDepth 100000
namespace Mine
open PySem PySem.W PySem.Calls PyProof.Rows

def swapRow (l : List Nat) (w i : Nat) (acc : List Nat) : List Nat := (List.range w).foldl (fun acc j => acc.set (i * w + w - 1 - j) (l.getD (i * w + j) 0)) acc
def swapF (l : List Nat) (w k : Nat) : List Nat := (List.range k).foldl (fun acc i => swapRow l w i acc) (List.replicate l.length 0)

theorem foldl_len {α : Type} {f : List Nat → α → List Nat} (h : ∀ acc a, (f acc a).length = acc.length) : ∀ (l : List α) (acc : List Nat), (l.foldl f acc).length = acc.length
  | [], _ => rfl
  | a :: r, acc => by rw [List.foldl_cons, foldl_len h r, h]
theorem swapRow_len {l : List Nat} {w i : Nat} {acc : List Nat} : (swapRow l w i acc).length = acc.length := foldl_len (fun acc a => List.length_set) _ _

theorem small_of {a b c : Int} (ha : -(2 ^ 30) ≤ a ∧ a ≤ 2 ^ 30) (hb : -(2 ^ 30) ≤ b ∧ b ≤ 2 ^ 30) (hc : 1 ≤ c ∧ c ≤ 2 ^ 30) (hs : 0 ≤ Builtin.Range.rangeSize a b c ∧ Builtin.Range.rangeSize a b c ≤ 2 ^ 40) : Builtin.Range.small a b c = true := by
  unfold Builtin.Range.small Builtin.Range.rangeFitsLong
  simp only [Bool.and_eq_true, decide_eq_true_eq, Bool.or_eq_true]
  rw [if_pos (by omega)]
  simp only [Bool.and_eq_true, decide_eq_true_eq]
  refine ⟨⟨⟨⟨by omega, by omega⟩, by omega⟩, by omega⟩, .inr (by omega)⟩
theorem size_one {n : Nat} : Builtin.Range.rangeSize 0 (n : Int) 1 = n := by
  unfold Builtin.Range.rangeSize
  rw [if_pos (by decide)]
  split <;> omega
theorem size_step {k w : Nat} (hw : 1 ≤ w) : Builtin.Range.rangeSize 0 ((k * w : Nat) : Int) w = k := by
  unfold Builtin.Range.rangeSize
  rw [if_pos (by omega)]
  cases k with
  | zero => simp
  | succ k =>
    have hpos : 0 < (k + 1) * w := Nat.mul_pos (Nat.succ_pos _) hw
    rw [if_pos (by omega)]
    have e : (((k + 1) * w : Nat) : Int) - 0 - 1 = ((w - 1 + k * w : Nat) : Int) := by
      rw [Nat.succ_mul]; omega
    rw [e, ← Int.natCast_ediv, Nat.add_mul_div_right _ _ hw, Nat.div_eq_of_lt (by omega)]
    omega

section
variable {B : Bs} {a : Addr} {cd : Value}
theorem c_swap (N : Blt B) (F : FnIn B "_byteswap" a pw iSwap cd) {l : List Nat} {w k : Nat} (hl : l.length = k * w) (hw : 1 ≤ w) (hw' : w ≤ 1048576) (hb : ∀ x ∈ l, x < 256) (hz : l.length ≤ 1048576) : FSpecC B 1 (.ref a) [.bytes l, .int w] (.bytes (swapF l w k)) := by
  have hz' : l.length ≤ sizeLine := Nat.le_trans hz (by decide)
  refine F.specC (ps := ["data", "width"]) (fun doc pm an ct vs h => ?_) rfl (by decide) (fun q hq => ?_) (by decide) fun doc pm an ct A s fz => ?_
  · match vs, h with
    | [u, v], _ => rfl
  · simp only [List.mem_cons, List.not_mem_nil, or_false] at hq
    rcases hq with rfl | rfl <;> exact .inl rfl
  refine ExC.assignNew (EvNewC.bytearray (Ev.blt (N _ (by decide)) Boot.«bytearray» rfl) (Ev.cb N Boot.len (Evs.c1 (Ev.var rfl)) (f_lenY hz') Keep.builtin) hz') (.inl rfl) fun sw => ?_
  refine ExC.of ?_
  have hk : k ≤ 1048576 := Nat.le_trans (Nat.le_mul_of_pos_right k hw) (hl ▸ hz)
  have hs1 : Builtin.Range.rangeSize 0 (l.length : Int) w = k := by rw [hl]; exact size_step hw
  refine Ex.cons (Ex1.for (vals := intSeq 0 w k) (EvIt.cb N Boot.range (Evs.c3 Ev.const_int (Ev.cb N Boot.len (Evs.c1 (Ev.var rfl)) (f_lenY hz') Keep.builtin) (Ev.var rfl))
    (CMake.range3 (by trivial) (by omega) (small_of (by omega) (by omega) (by omega) (by rw [hs1]; omega)) hs1 (PyProof.noPylong_small (by omega))) Keep.type)
    (Turns.fold (fun (i : Nat) => D.int (0 + i * w)) (fun acc i => swapRow l w i acc) (fun _ => [("swapped_data", .raw (.ref sw)), ("data", .bytes l), ("width", .int w)]) (fun acc => [(sw, .bar acc)]) (fun acc => acc.length = l.length)
      (List.range k) (List.replicate l.length 0) _ (by simp) (fun _ _ h => h) (fun acc i hP hi => ?_) rfl)) ?_
  · refine ⟨by rw [swapRow_len, hP], fun _ h => h, _, _, Asg.name (.inl rfl), Ex.cons (Ex1.for (vals := intSeq 0 1 w) (EvIt.cb N Boot.range (Evs.c1 (Ev.var rfl)) (CMake.range1 (by trivial) (small_of (by omega) (by omega) (by omega) (by rw [size_one]; omega)) size_one) Keep.type)
      (Turns.fold (fun (j : Nat) => D.int (0 + j * 1)) (fun acc j => acc.set (i * w + w - 1 - j) (l.getD (i * w + j) 0)) (fun _ => [("i", .int (0 + i * w)), ("swapped_data", .raw (.ref sw)), ("data", .bytes l), ("width", .int w)]) (fun acc => [(sw, .bar acc)]) (fun acc => acc.length = l.length)
        (List.range w) acc _ hP (fun _ _ h => h) (fun acc j hP hj => ?_) rfl)) Ex.nil, rfl, rfl, rfl, trivial⟩
    · have hi' : i < k := List.mem_range.mp hi
      have hj' : j < w := List.mem_range.mp hj
      have hiw : (i + 1) * w ≤ k * w := Nat.mul_le_mul_right w hi'
      have hiw' : (i + 1) * w = i * w + w := Nat.succ_mul i w
      have hlt : i * w + j < l.length := by rw [hl]; omega
      have hget : l[i * w + j]? = some (l.getD (i * w + j) 0) := by rw [List.getD_eq_getElem?_getD, List.getElem?_eq_getElem hlt]; rfl
      have e1 : ((0 : Int) + i * w) + (0 + j * 1) = ((i * w + j : Nat) : Int) := by push_cast; omega
      have e2 : (((0 : Int) + i * w) + w - 1 - (0 + j * 1)) = ((i * w + w - 1 - j : Nat) : Int) := by
        have : ((i * w : Nat) : Int) = (i : Int) * w := by push_cast; rfl
        omega
      refine ⟨by rw [List.length_set, hP], fun _ h => h, _, _, Asg.name (.inl rfl), Ex.cons (Ex1.setBar (O₁ := []) (O₂ := []) (l := acc) (c := l.getD (i * w + j) 0)
        (Ev.sub (Ev.var rfl) (Ev.bin (Ev.var rfl) (Ev.var rfl) op_add) DTy.bytes FB.slot_bytes_getitem.lookup (op_itemY (by omega) (by rw [e1]; exact hget) hz')) (Ev.var rfl)
        (Ev.bin (Ev.bin (Ev.bin (Ev.var rfl) (Ev.var rfl) op_add) Ev.const_int op_sub) (Ev.var rfl) op_sub) (by omega) (by omega) (by omega) (hb _ (List.mem_of_getElem? hget)) (by rw [e2]; rfl)) Ex.nil, rfl, rfl, rfl, rfl, trivial⟩
  · refine Ex.last (Ev.bytesBar (O₁ := []) (O₂ := []) (Ev.blt (N _ (by decide)) Boot.«bytes» rfl) (Ev.var rfl) ?_)
    rw [foldl_len (fun acc a => swapRow_len), List.length_replicate]
    exact hz'
end
end Mine

set_option Elab.async false
set_option maxRecDepth 100000
namespace Mine
open PySem PySem.W PySem.Calls PyProof.Rows

/-- a def within a def's body -/
def nestAt (p : Program) (i j : Nat) : Option (Arguments × List Stmt × Scope × Pos) := match (bodyAt p i)[j]? with
  | some (.FunctionDef _ a b _ _ _ s _ _ q) => some (a, b, s, q)
  | _ => none
def nPar (p : Program) (i j : Nat) : Arguments := match nestAt p i j with | some x => x.1 | _ => default
def nBody (p : Program) (i j : Nat) : List Stmt := match nestAt p i j with | some x => x.2.1 | _ => []
def nScope (p : Program) (i j : Nat) : Scope := match nestAt p i j with | some x => x.2.2.1 | _ => default
def nPos (p : Program) (i j : Nat) : Pos := match nestAt p i j with | some x => x.2.2.2 | _ => default

abbrev CloOk (clo : List (Str × Addr)) (cap : Rho) : Prop := (∀ p ∈ cap, (clo.lookup p.1).isSome = true) ∧ ∀ x c, clo.lookup x = some c → ∃ p ∈ cap, p.1 = x

abbrev intClo (qual : Str) (clo : List (Str × Addr)) : Clo := ⟨"inner", qual, nPar pw iInt2 1, nBody pw iInt2 1, nScope pw iInt2 1, clo⟩
abbrev intCap (a : Addr) (n : Nat) (C : Clo) : Rho := [("a_digits", .raw (.ref a)), ("n", .int n), ("inner", .fn C)]

theorem small_mul {a b : Int} (h1 : -(2 ^ 40) ≤ a) (h2 : a ≤ 2 ^ 40) : IntMulOk a b := .of_left (intBits_le_64 (by omega) (by omega))
theorem fdiv_nat (a b : Nat) : (a : Int).fdiv (b : Int) = ((a / b : Nat) : Int) := by
  rw [Int.fdiv_eq_ediv_of_nonneg _ (by omega)]; rfl
theorem fmod_nat (a b : Nat) : (a : Int).fmod (b : Int) = ((a % b : Nat) : Int) := by
  rw [Int.fmod_eq_emod_of_nonneg _ (by omega)]; rfl

theorem int_nocell : ∀ x ∈ (nScope pw iInt2 1).names, x.2 ≠ .cell := by decide

theorem cast_args {B : Bs} {m : Nat} {C : Clo} {cap : Rho} {O O' : Own'} {x L R R' : Nat} {d : D} (h : CSpec B m C cap O O' [.int x, .int L, .int R] d) (e : R = R') : CSpec B m C cap O O' [.int x, .int L, .int R'] d := e ▸ h

theorem int_kind : ∀ x ∈ (["a_digits", "n", "inner"] : List Str), (nScope pw iInt2 1).names.lookup x ≠ some .local := by decide

section
variable {B : Bs} {qual : Str} {clo : List (Str × Addr)} {aD : Addr} {n : Nat}
theorem c_int_one (m : Nat) {x L : Nat} {ds : List D} (hL : L + 1 ≤ ds.length) (hx : x < 2 ^ n) (hds : ds.length ≤ 1048576) :
    CSpec B (m + 1) (intClo qual clo) (intCap aD n (intClo qual clo)) [(aD, .lst ds)] [(aD, .lst (putD n x L 1 ds))] [.int x, .int L, .int (L + 1 : Nat)] .none := by
  refine CSpec.enter (ps := ["x", "L", "R"]) (fun doc pm an c' ctv vs h => ?_) rfl (by decide) (fun q hq => ?_) int_nocell (fun q hq => ?_) (fun A s fz a doc pm an c' ctv => ?_) rfl
  · match vs, h with
    | [u, v, t], _ => rfl
  · simp only [List.mem_cons, List.not_mem_nil, or_false] at hq
    rcases hq with rfl | rfl | rfl <;> rfl
  · simp only [List.mem_cons, List.not_mem_nil, or_false] at hq
    rcases hq with rfl | rfl | rfl <;> rfl
  · refine ⟨_, Ex.stop (Ex1.ite (c := true) ((Et.cmp (Ev.bin (Ev.var rfl) Ev.const_int op_add) (Ev.var rfl) op_eq).as (by simp)) (fun _ => ?_) fun h => nomatch h), .inl rfl⟩
    refine Ex.cons (Ex1.setLst (O₁ := []) (O₂ := []) (Ev.var rfl) (Ev.var rfl) (Ev.var rfl) (by omega) (by omega) (by exact Nat.le_trans hds (by decide)) ?_) (Ex.stop Ex1.retNone)
    rw [putD_one hx]
    rfl

theorem int_capt {ρ : Rho} (hclo : CloOk clo (intCap aD n (intClo qual clo))) (h : Agree (intCap aD n (intClo qual clo)) ρ) :
    ∀ p ∈ intCap aD n (intClo qual clo), ρ.lookup p.1 = some p.2 ∧ (nScope pw iInt2 1).names.lookup p.1 ≠ some .local ∧ (clo.lookup p.1).isSome = true := fun p hp => by
  refine ⟨h.all p hp, int_kind _ ?_, hclo.1 p hp⟩
  simp only [intCap, List.mem_cons, List.not_mem_nil, or_false] at hp
  rcases hp with rfl | rfl | rfl <;> simp

theorem c_int_inner (hn : 1 ≤ n) (hclo : CloOk clo (intCap aD n (intClo qual clo))) : ∀ (d : Nat) {x L k : Nat} {ds : List D}, 1 ≤ k → k ≤ 2 ^ d → L + k ≤ ds.length → x < 2 ^ (n * k) → n * k ≤ 1048576 → ds.length ≤ 1048576 →
    CSpec B (d + 1) (intClo qual clo) (intCap aD n (intClo qual clo)) [(aD, .lst ds)] [(aD, .lst (putD n x L k ds))] [.int x, .int L, .int (L + k : Nat)] .none := by
  intro d
  induction d with
  | zero =>
    intro x L k ds h1 hk hL hx hnk hds
    have hk1 : k = 1 := by simp at hk; omega
    subst hk1
    exact c_int_one 0 hL (by simpa using hx) hds
  | succ d ih =>
    intro x L k ds h1 hk hL hx hnk hds
    by_cases hk1 : k = 1
    · subst hk1
      exact c_int_one (d + 1) hL (by simpa using hx) hds
    have hsplit : k / 2 + (k - k / 2) = k := by omega
    have hp : k ≤ 2 * 2 ^ d := by rw [Nat.pow_succ] at hk; omega
    have hm1 : n * (k / 2) ≤ n * k := Nat.mul_le_mul_left n (by omega)
    have hm2 : n * (k - k / 2) ≤ n * k := Nat.mul_le_mul_left n (by omega)
    have hup : x / 2 ^ (n * (k / 2)) < 2 ^ (n * (k - k / 2)) := by
      rw [Nat.div_lt_iff_lt_mul (Nat.two_pow_pos _), ← Nat.pow_add, ← Nat.mul_add, Nat.add_comm (k - k / 2), hsplit]
      exact hx
    have hlow : x % 2 ^ (n * (k / 2)) < 2 ^ (n * (k / 2)) := Nat.mod_lt _ (Nat.two_pow_pos _)
    refine CSpec.enter (ps := ["x", "L", "R"]) (fun doc pm an c' ctv vs h => ?_) rfl (by decide) (fun q hq => ?_) int_nocell (fun q hq => ?_) (fun A s fz a doc pm an c' ctv => ?_) rfl
    · match vs, h with
      | [u, v, t], _ => rfl
    · simp only [List.mem_cons, List.not_mem_nil, or_false] at hq
      rcases hq with rfl | rfl | rfl <;> rfl
    · simp only [List.mem_cons, List.not_mem_nil, or_false] at hq
      rcases hq with rfl | rfl | rfl <;> rfl
    refine ⟨.next [] [(aD, .lst (putD n x L k ds))], ?_, .inr ⟨rfl, _, rfl⟩⟩
    · refine Ex.cons (Ex1.ite (c := false) ((Et.cmp (Ev.bin (Ev.var rfl) Ev.const_int op_add) (Ev.var rfl) op_eq).as ?_) (fun h => nomatch h) fun _ => Ex.nil) ?_
      · simp only [beq_eq_false_iff_ne, ne_eq]
        omega
      refine Ex.cons (Ex1.assign (d := .int (L + k / 2 : Nat)) ((Ev.bin (Ev.bin (Ev.var rfl) (Ev.var rfl) op_add) Ev.const_int (op_shr (by decide))).int ?_) (.inl rfl)) ?_
      · rw [show ((L : Int) + ((L + k : Nat) : Int)) = ((L + (L + k) : Nat) : Int) by omega, show ((2 : Int) ^ (1 : Int).toNat) = ((2 : Nat) : Int) by decide, fdiv_nat]
        congr 1
        omega
      refine Ex.cons (Ex1.assign (d := .int (n * (k / 2) : Nat)) ((Ev.bin (Ev.bin (Ev.var rfl) (Ev.var rfl) op_sub) (Ev.var rfl) (op_mul (small_mul (by omega) (by omega)))).int ?_) (.inl rfl)) ?_
      · rw [show (((L + k / 2 : Nat) : Int) - (L : Int)) = ((k / 2 : Nat) : Int) by omega, Int.natCast_mul, Int.mul_comm]
      refine Ex.cons (Ex1.assign (d := .int (x / 2 ^ (n * (k / 2)) : Nat)) ((Ev.bin (Ev.var rfl) (Ev.var rfl) (op_shr (by omega))).int ?_) (.inl rfl)) ?_
      · rw [Int.toNat_natCast, show ((2 : Int) ^ (n * (k / 2))) = ((2 ^ (n * (k / 2)) : Nat) : Int) by push_cast; rfl, fdiv_nat]
      refine Ex.cons (Ex1.assign (d := .int (x % 2 ^ (n * (k / 2)) : Nat)) ((Ev.bin (Ev.var rfl) (Ev.bin (Ev.var rfl) (Ev.var rfl) (op_shl (by omega) ?_)) op_xor).int ?_) (.inl rfl)) ?_
      · have := bits_le hup
        omega
      · rw [Int.toNat_natCast, show ((x / 2 ^ (n * (k / 2)) : Nat) : Int) * 2 ^ (n * (k / 2)) = ((x / 2 ^ (n * (k / 2)) * 2 ^ (n * (k / 2)) : Nat) : Int) by push_cast; rfl, bitXor_nat, xor_low]
      refine Ex.cons (Ex1.callC (O₁ := []) (Oc := [(aD, .lst ds)]) (O₂ := []) (Ev.var rfl) (Evs.c3 (Ev.var rfl) (Ev.var rfl) (Ev.var rfl)) (ih (k := k / 2) (by omega) (by omega) (by omega) hlow (by omega) hds) (Nat.le_refl _)
        (int_capt hclo ⟨rfl, rfl, rfl, trivial⟩) (fun _ _ h => h) hclo.2 rfl) ?_
      refine Ex.cons (Ex1.callC (O₁ := []) (O₂ := []) (Ev.var rfl) (Evs.c3 (Ev.var rfl) (Ev.var rfl) (Ev.var rfl)) (cast_args (ih (L := L + k / 2) (k := k - k / 2) (by omega) (by omega) (by rw [putD_len]; omega) hup (by omega) (by rw [putD_len]; exact hds)) (by rw [Nat.add_assoc, hsplit])) (Nat.le_refl _)
        (int_capt hclo ⟨rfl, rfl, rfl, trivial⟩) (fun _ _ h => h) hclo.2 rfl) (Ex.nilW (by rw [List.nil_append, List.append_nil, putD_split, hsplit]))
end
end Mine

set_option Elab.async false
set_option maxRecDepth 100000
namespace Mine
open PySem PySem.W PySem.Calls PyProof.Rows

theorem int_free : ∀ y ∈ (nScope pw iInt2 1).names, y.2 = .free → y.1 ∈ (["a_digits", "n", "inner"] : List Str) := by decide

theorem int_kind2 : ∀ x ∈ (["a_digits", "n", "inner"] : List Str), (scopeAt pw iInt2).names.lookup x ≠ some .local := by decide
theorem int_capt2 {qual : Str} {clo : List (Str × Addr)} {aD : Addr} {n : Nat} {ρ : Rho} (hclo : CloOk clo (intCap aD n (intClo qual clo))) (h : Agree (intCap aD n (intClo qual clo)) ρ) :
    ∀ p ∈ intCap aD n (intClo qual clo), ρ.lookup p.1 = some p.2 ∧ (scopeAt pw iInt2).names.lookup p.1 ≠ some .local ∧ (clo.lookup p.1).isSome = true := fun p hp => by
  refine ⟨h.all p hp, int_kind2 _ ?_, hclo.1 p hp⟩
  simp only [intCap, List.mem_cons, List.not_mem_nil, or_false] at hp
  rcases hp with rfl | rfl | rfl <;> simp

theorem lookup_in {clo : List (Str × Addr)} {x : Str} {c : Addr} (h : clo.lookup x = some c) : x ∈ clo.map (·.1) := List.mem_map.mpr ⟨(x, c), lookup_some_mem h, rfl⟩

theorem digs_nil {n : Nat} (hn : 1 ≤ n) : digs n 0 = [] := by
  unfold digs
  have : (Builtin.Int.intBits ((0 : Nat) : Int) + n - 1) / n = 0 := by
    have : Builtin.Int.intBits ((0 : Nat) : Int) = 0 := rfl
    rw [this]
    exact Nat.div_eq_of_lt (by omega)
  rw [this]
  rfl

/-- how many figures -/
abbrev digN (n x : Nat) : Nat := (Builtin.Int.intBits (x : Int) + n - 1) / n

theorem digN_bits {n x : Nat} (hn : 1 ≤ n) : Builtin.Int.intBits (x : Int) ≤ n * digN n x := by
  have := Nat.div_add_mod (Builtin.Int.intBits (x : Int) + n - 1) n
  have h2 := Nat.mod_lt (Builtin.Int.intBits (x : Int) + n - 1) hn
  unfold digN
  omega
theorem digN_le {n x : Nat} (hn : 1 ≤ n) : n * digN n x ≤ Builtin.Int.intBits (x : Int) + n := by
  have := Nat.div_mul_le_self (Builtin.Int.intBits (x : Int) + n - 1) n
  unfold digN
  rw [Nat.mul_comm]
  omega

section
variable {B : Bs} {a : Addr} {tab : NestTab}
theorem c_int (N : Blt B) (Fn : FnIn B "_int2digits" a pw iInt2 (.ref tab.c)) (ht : tab ∈ B.tabs) (hpos : tab.pos = nPos pw iInt2 1) (hq : tab.qual = Str.ofString "_int2digits" ++ Str.ofString ".<locals>." ++ Str.ofString "inner")
    (d : Nat) {x n : Nat} (hn : 1 ≤ n) (hd : digN n x ≤ 2 ^ d) (hb : Builtin.Int.intBits (x : Int) ≤ 500000) (hn2 : n ≤ 500000) : FSpec B (d + 2) (.ref a) [.int x, .int n] (.list (natD (digs n x))) := by
  have hlen : digN n x ≤ n * digN n x := Nat.le_mul_of_pos_left _ hn
  have hnk := digN_le (n := n) (x := x) hn
  refine Fn.spec (ps := ["a", "n"]) (fun doc pm an ct vs h => ?_) rfl (by decide) (fun q hq => ?_) (by decide) fun doc pm an ct A s fz => ?_
  · match vs, h with
    | [u, v], _ => rfl
  · simp only [List.mem_cons, List.not_mem_nil, or_false] at hq
    rcases hq with rfl | rfl
    · exact .inl rfl
    · exact .inr ⟨rfl, fun _ => rfl⟩
  refine Ex.assignNew (EvNew.mul (k := digN n x) (Ev.list (Evs.c1 Ev.const_int)) ((Ev.bin (Ev.bin (Ev.bin (Ev.meth (Ev.var rfl) Evs.nil DTy.int PySem.F.plainAttrs_int PySem.F.slot_int_bit_length PySem.F.type_int_bit_length f_bitlen) (Ev.var rfl) op_add) Ev.const_int op_sub) (Ev.var rfl)
    (op_floordiv (by omega) (PyProof.noPylong_small (by omega)))).int ?_) (by exact Nat.le_trans (by omega) (show 1000000 ≤ sizeLine by decide))) (actOf_cell rfl rfl) fun aD => ?_
  · rw [show ((Builtin.Int.intBits (x : Int) : Int) + (n : Int) - 1) = ((Builtin.Int.intBits (x : Int) + n - 1 : Nat) : Int) by omega, fdiv_nat]
  refine Ex.cons (Ex1.def ht hpos hq rfl (fun y hy hf => ?_) (actOf_cell rfl rfl)) ?_
  · have := int_free y hy hf
    simp only [List.mem_cons, List.not_mem_nil, or_false] at this
    rcases this with e | e | e <;> rw [e] <;> rfl
  have hclo : CloOk (closOf (actF "_int2digits" pw iInt2 doc pm an (.ref tab.c) ct a A (d + 1) s fz).env (nScope pw iInt2 1).names []) (intCap aD n (intClo (qualnameIn (actF "_int2digits" pw iInt2 doc pm an (.ref tab.c) ct a A (d + 1) s fz).env "inner" "inner") (closOf (actF "_int2digits" pw iInt2 doc pm an (.ref tab.c) ct a A (d + 1) s fz).env (nScope pw iInt2 1).names []))) := by
    refine ⟨fun p hp => ?_, fun y c hc => ?_⟩
    · simp only [intCap, List.mem_cons, List.not_mem_nil, or_false] at hp
      rcases hp with rfl | rfl | rfl <;> rfl
    · have hm := lookup_in hc
      have hm : y ∈ (["inner", "n", "a_digits"] : List Str) ∨ y ∈ (["n", "inner", "a_digits"] : List Str) ∨ y ∈ (["n", "a_digits", "inner"] : List Str) := by first | exact .inl hm | exact .inr (.inl hm) | exact .inr (.inr hm)
      have hm : y = "a_digits" ∨ y = "n" ∨ y = "inner" := by
        rcases hm with hm | hm | hm <;> simp only [List.mem_cons, List.not_mem_nil, or_false] at hm <;> rcases hm with e | e | e <;> simp [e]
      rcases hm with rfl | rfl | rfl
      · exact ⟨_, List.mem_cons_self, rfl⟩
      · exact ⟨_, List.mem_cons_of_mem _ List.mem_cons_self, rfl⟩
      · exact ⟨_, List.mem_cons_of_mem _ (List.mem_cons_of_mem _ List.mem_cons_self), rfl⟩
  refine Ex.cons (Ex1.ite (c := (x : Int) != 0) (o := .next [("a_digits", .raw (.ref aD))] [(aD, .lst (natD (digs n x)))]) (Et.val (Ev.var rfl) t_int) (fun hc => ?_) (fun hc => ?_)) ?_
  · have hx : x ≠ 0 := by simpa using hc
    have hpos : 1 ≤ digN n x := by
      have := digN_bits (n := n) (x := x) hn
      have h0 : Builtin.Int.intBits (x : Int) ≠ 0 := fun h => by
        have := bits_pow (x := x)
        rw [h] at this
        omega
      rcases Nat.eq_zero_or_pos (digN n x) with h | h
      · rw [h] at this; omega
      · exact h
    have hxlt : x < 2 ^ (n * digN n x) := Nat.lt_of_lt_of_le bits_pow (Nat.pow_le_pow_right (by decide) (digN_bits hn))
    refine Ex.cons (Ex1.callC (O₁ := []) (O₂ := []) (Ev.var rfl) (Evs.c3 (Ev.var rfl) (Ev.const_int.int rfl) ((Ev.lenOwn (O₁ := []) (O₂ := []) N rfl (Ev.var rfl) (by rw [List.length_replicate]; exact Nat.le_trans (by omega) (show 1000000 ≤ sizeLine by decide))).int (by rw [List.length_replicate])))
      (cast_args (c_int_inner hn hclo d (x := x) (L := 0) (k := digN n x) hpos hd (by rw [List.length_replicate]; omega) hxlt (by omega) (by rw [List.length_replicate]; omega)) (Nat.zero_add _)) (Nat.le_refl _)
      (int_capt2 hclo ⟨rfl, rfl, rfl, trivial⟩) (fun y c h => (closOf_mem (fun z hz hf => ?_) (lookup_some_mem h)).resolve_left (fun h => nomatch h)) hclo.2 rfl) (Ex.nilA ⟨rfl, trivial⟩ ?_)
    · have := int_free z hz hf
      simp only [List.mem_cons, List.not_mem_nil, or_false] at this
      rcases this with e | e | e <;> rw [e] <;> rfl
    · rw [List.nil_append, List.append_nil, putD_all _ _ List.length_replicate]
      unfold natD digs
      rw [List.map_map]
      rfl
  · have hx : x = 0 := by simpa using hc
    subst hx
    refine Ex.nilA ⟨rfl, trivial⟩ ?_
    have e : digN n 0 = 0 := by
      have := congrArg List.length (digs_nil hn)
      unfold digs at this
      simpa using this
    rw [e, digs_nil hn]
    rfl
  · refine Ex.freeze (ρ' := [("a_digits", .list (natD (digs n x)))]) rfl (fun p hp => by rw [List.mem_singleton.mp hp]; exact .inr ⟨rfl, rfl⟩) (Ex.last (Ev.var rfl))
end
end Mine

set_option Elab.async false
set_option maxRecDepth 100000
namespace Mine
open PySem PySem.W PySem.Calls PyProof.Rows

section
variable {B : Bs}
theorem t_list {ds : List D} (hz : ds.length ≤ sizeLine) : TSpec B (.list ds) (!ds.isEmpty) := fun A fz s v rm g r Q E hQ => by
  obtain ⟨a, vs, n, rfl, ha, hl, hr⟩ := r.isList g
  have hlen : vs.length = ds.length := hr.length
  have hs : (sizeLine : Int) < 2 ^ 63 := by decide
  refine wpAny_truthy_list hl (by rw [List.size_toArray, hlen]; omega) ?_
  have e : vs.toArray.isEmpty = ds.isEmpty := by
    rw [List.isEmpty_toArray]
    cases vs <;> cases ds <;> first | rfl | cases hlen
  rw [e]
  exact hQ _
end

abbrev digClo (qual : Str) (clo : List (Str × Addr)) : Clo := ⟨"inner", qual, nPar pw iDig2 0, nBody pw iDig2 0, nScope pw iDig2 0, clo⟩
abbrev digCap (ds : List Nat) (n : Nat) (C : Clo) : Rho := [("digits", .list (natD ds)), ("n", .int n), ("inner", .fn C)]
theorem dig_nocell : ∀ x ∈ (nScope pw iDig2 0).names, x.2 ≠ .cell := by decide
theorem dig_kind : ∀ x ∈ (["digits", "n", "inner"] : List Str), (nScope pw iDig2 0).names.lookup x ≠ some .local := by decide
theorem dig_kind2 : ∀ x ∈ (["digits", "n", "inner"] : List Str), (scopeAt pw iDig2).names.lookup x ≠ some .local := by decide
theorem dig_free : ∀ y ∈ (nScope pw iDig2 0).names, y.2 = .free → y.1 ∈ (["digits", "n", "inner"] : List Str) := by decide

section
variable {B : Bs} {qual : Str} {clo : List (Str × Addr)} {ds : List Nat} {n : Nat}
theorem dig_mem {p : Str × D} {C : Clo} (hp : p ∈ digCap ds n C) : p.1 ∈ (["digits", "n", "inner"] : List Str) := by
  simp only [digCap, List.mem_cons, List.not_mem_nil, or_false] at hp
  rcases hp with rfl | rfl | rfl <;> simp
theorem dig_capt {ρ : Rho} (hclo : CloOk clo (digCap ds n (digClo qual clo))) (h : Agree (digCap ds n (digClo qual clo)) ρ) :
    ∀ p ∈ digCap ds n (digClo qual clo), ρ.lookup p.1 = some p.2 ∧ (nScope pw iDig2 0).names.lookup p.1 ≠ some .local ∧ (clo.lookup p.1).isSome = true := fun p hp => ⟨h.all p hp, dig_kind _ (dig_mem hp), hclo.1 p hp⟩
theorem dig_capt2 {ρ : Rho} (hclo : CloOk clo (digCap ds n (digClo qual clo))) (h : Agree (digCap ds n (digClo qual clo)) ρ) :
    ∀ p ∈ digCap ds n (digClo qual clo), ρ.lookup p.1 = some p.2 ∧ (scopeAt pw iDig2).names.lookup p.1 ≠ some .local ∧ (clo.lookup p.1).isSome = true := fun p hp => ⟨h.all p hp, dig_kind2 _ (dig_mem hp), hclo.1 p hp⟩

theorem cast_args2 {m : Nat} {C : Clo} {cap : Rho} {O O' : Own'} {L R R' : Nat} {d : D} (h : CSpec B m C cap O O' [.int L, .int R] d) (e : R = R') : CSpec B m C cap O O' [.int L, .int R'] d := e ▸ h

theorem c_dig_inner (hn : 1 ≤ n) (hclo : CloOk clo (digCap ds n (digClo qual clo))) (hc : ∀ c ∈ ds, c < 2 ^ n) (hz : n * ds.length ≤ 1048576) : ∀ (d : Nat) {L k : Nat}, 1 ≤ k → k ≤ 2 ^ d → L + k ≤ ds.length →
    CSpec B (d + 1) (digClo qual clo) (digCap ds n (digClo qual clo)) [] [] [.int L, .int (L + k : Nat)] (.int (undig n (part ds L k) : Nat)) := by
  have hdl : ds.length ≤ n * ds.length := Nat.le_mul_of_pos_left _ hn
  have one : ∀ (m : Nat) {L : Nat}, L + 1 ≤ ds.length → CSpec B (m + 1) (digClo qual clo) (digCap ds n (digClo qual clo)) [] [] [.int L, .int (L + 1 : Nat)] (.int (undig n (part ds L 1) : Nat)) := by
    intro m L hL
    refine CSpec.enter (ps := ["L", "R"]) (fun doc pm an c' ctv vs h => ?_) rfl (by decide) (fun q hq => ?_) dig_nocell (fun q hq => ?_) (fun A s fz a doc pm an c' ctv => ?_) rfl
    · match vs, h with
      | [u, v], _ => rfl
    · simp only [List.mem_cons, List.not_mem_nil, or_false] at hq
      rcases hq with rfl | rfl <;> rfl
    · have := dig_mem hq
      simp only [List.mem_cons, List.not_mem_nil, or_false] at this
      rcases this with e | e | e <;> rw [e] <;> rfl
    · refine ⟨_, Ex.stop (Ex1.ite (c := true) ((Et.cmp (Ev.bin (Ev.var rfl) Ev.const_int op_add) (Ev.var rfl) op_eq).as (by simp)) (fun _ => Ex.stop (Ex1.ret ?_)) fun h => nomatch h), .inl rfl⟩
      refine Ev.sub (Ev.var rfl) (Ev.var rfl) DTy.list list_getitem_lookup (op_item L (.inl ⟨by omega, by omega⟩) ?_ (by omega))
      rw [part_one (by omega)]
      unfold natD
      rw [List.getElem?_map, List.getD_eq_getElem?_getD, List.getElem?_eq_getElem (by omega)]
      rfl
  intro d
  induction d with
  | zero =>
    intro L k h1 hk hL
    have hk1 : k = 1 := by simp at hk; omega
    subst hk1
    exact one 0 hL
  | succ d ih =>
    intro L k h1 hk hL
    by_cases hk1 : k = 1
    · subst hk1
      exact one (d + 1) hL
    have hsplit : k / 2 + (k - k / 2) = k := by omega
    have hp : k ≤ 2 * 2 ^ d := by rw [Nat.pow_succ] at hk; omega
    have hm1 : n * (k / 2) ≤ n * ds.length := Nat.mul_le_mul_left n (by omega)
    have hm2 : n * (k - k / 2) ≤ n * ds.length := Nat.mul_le_mul_left n (by omega)
    have hup : undig n (part ds (L + k / 2) (k - k / 2)) < 2 ^ (n * (k - k / 2)) := by
      have := undig_lt (n := n) (x := part ds (L + k / 2) (k - k / 2)) fun c h => hc c (part_mem h)
      rwa [part_len (by omega)] at this
    refine CSpec.enter (ps := ["L", "R"]) (fun doc pm an c' ctv vs h => ?_) rfl (by decide) (fun q hq => ?_) dig_nocell (fun q hq => ?_) (fun A s fz a doc pm an c' ctv => ?_) rfl
    · match vs, h with
      | [u, v], _ => rfl
    · simp only [List.mem_cons, List.not_mem_nil, or_false] at hq
      rcases hq with rfl | rfl <;> rfl
    · have := dig_mem hq
      simp only [List.mem_cons, List.not_mem_nil, or_false] at this
      rcases this with e | e | e <;> rw [e] <;> rfl
    refine ⟨.ret (.int (undig n (part ds L k) : Nat)) [], ?_, .inl rfl⟩
    refine Ex.cons (Ex1.ite (c := false) ((Et.cmp (Ev.bin (Ev.var rfl) Ev.const_int op_add) (Ev.var rfl) op_eq).as ?_) (fun h => nomatch h) fun _ => Ex.nil) ?_
    · simp only [beq_eq_false_iff_ne, ne_eq]
      omega
    refine Ex.cons (Ex1.assign (d := .int (L + k / 2 : Nat)) ((Ev.bin (Ev.bin (Ev.var rfl) (Ev.var rfl) op_add) Ev.const_int (op_shr (by decide))).int ?_) (.inl rfl)) ?_
    · rw [show ((L : Int) + ((L + k : Nat) : Int)) = ((L + (L + k) : Nat) : Int) by omega, show ((2 : Int) ^ (1 : Int).toNat) = ((2 : Nat) : Int) by decide, fdiv_nat]
      congr 1
      omega
    refine Ex.cons (Ex1.assign (d := .int (n * (k / 2) : Nat)) ((Ev.bin (Ev.bin (Ev.var rfl) (Ev.var rfl) op_sub) (Ev.var rfl) (op_mul (small_mul (by omega) (by omega)))).int ?_) (.inl rfl)) ?_
    · rw [show (((L + k / 2 : Nat) : Int) - (L : Int)) = ((k / 2 : Nat) : Int) by omega, Int.natCast_mul, Int.mul_comm]
    refine Ex.stop (Ex1.ret (Ev.int (Ev.bin (Ev.bin (Ev.callC (Ev.var rfl) (Evs.c2 (Ev.var rfl) (Ev.var rfl)) (cast_args2 (ih (L := L + k / 2) (k := k - k / 2) (by omega) (by omega) (by omega)) (by rw [Nat.add_assoc, hsplit])) (Nat.le_refl _)
        (dig_capt hclo ⟨rfl, rfl, rfl, trivial⟩) (fun _ _ h => h) hclo.2) (Ev.var rfl) (op_shl (by omega) ?_))
      (Ev.callC (Ev.var rfl) (Evs.c2 (Ev.var rfl) (Ev.var rfl)) (ih (L := L) (k := k / 2) (by omega) (by omega) (by omega)) (Nat.le_refl _) (dig_capt hclo ⟨rfl, rfl, rfl, trivial⟩) (fun _ _ h => h) hclo.2) op_add) ?_))
    · have := bits_le hup
      omega
    · rw [Int.toNat_natCast, show part ds L k = part ds L (k / 2) ++ part ds (L + k / 2) (k - k / 2) by rw [← part_split, hsplit], undig_app, part_len (by omega)]
      push_cast
      rw [Int.add_comm, Int.mul_comm]
end

section
variable {B : Bs} {a : Addr} {tab : NestTab}
theorem c_dig (N : Blt B) (Fn : FnIn B "_digits2int" a pw iDig2 (.ref tab.c)) (ht : tab ∈ B.tabs) (hpos : tab.pos = nPos pw iDig2 0) (hq : tab.qual = Str.ofString "_digits2int" ++ Str.ofString ".<locals>." ++ Str.ofString "inner")
    (d : Nat) {ds : List Nat} {n : Nat} (hn : 1 ≤ n) (hd : ds.length ≤ 2 ^ d) (hc : ∀ c ∈ ds, c < 2 ^ n) (hz : n * ds.length ≤ 1000000) : FSpec B (d + 2) (.ref a) [.list (natD ds), .int n] (.int (undig n ds : Nat)) := by
  have hdl : ds.length ≤ n * ds.length := Nat.le_mul_of_pos_left _ hn
  refine Fn.spec (ps := ["digits", "n"]) (fun doc pm an ct vs h => ?_) rfl (by decide) (fun q hq => ?_) (by decide) fun doc pm an ct A s fz => ?_
  · match vs, h with
    | [u, v], _ => rfl
  · simp only [List.mem_cons, List.not_mem_nil, or_false] at hq
    rcases hq with rfl | rfl <;> exact .inr ⟨rfl, fun _ => rfl⟩
  refine Ex.cons (Ex1.def ht hpos hq rfl (fun y hy hf => ?_) (actOf_cell rfl rfl)) ?_
  · have := dig_free y hy hf
    simp only [List.mem_cons, List.not_mem_nil, or_false] at this
    rcases this with e | e | e <;> rw [e] <;> rfl
  have hclo : CloOk (closOf (actF "_digits2int" pw iDig2 doc pm an (.ref tab.c) ct a A (d + 1) s fz).env (nScope pw iDig2 0).names []) (digCap ds n (digClo (qualnameIn (actF "_digits2int" pw iDig2 doc pm an (.ref tab.c) ct a A (d + 1) s fz).env "inner" "inner") (closOf (actF "_digits2int" pw iDig2 doc pm an (.ref tab.c) ct a A (d + 1) s fz).env (nScope pw iDig2 0).names []))) := by
    refine ⟨fun p hp => ?_, fun y c hc => ?_⟩
    · simp only [digCap, List.mem_cons, List.not_mem_nil, or_false] at hp
      rcases hp with rfl | rfl | rfl <;> rfl
    · have hm := lookup_in hc
      have hm : y ∈ (["n", "inner", "digits"] : List Str) := hm
      simp only [List.mem_cons, List.not_mem_nil, or_false] at hm
      rcases hm with rfl | rfl | rfl
      · exact ⟨_, List.mem_cons_of_mem _ List.mem_cons_self, rfl⟩
      · exact ⟨_, List.mem_cons_of_mem _ (List.mem_cons_of_mem _ List.mem_cons_self), rfl⟩
      · exact ⟨_, List.mem_cons_self, rfl⟩
  have hl' : (natD ds).length = ds.length := by simp
  have hzz : (natD ds).length ≤ sizeLine := by rw [hl']; exact Nat.le_trans (by omega) (show 1000000 ≤ sizeLine by decide)
  refine Ex.last (Ev.ite (Et.val (Ev.var rfl) (t_list hzz)) (fun hne => ?_) (fun he => ?_))
  · have hne : ds ≠ [] := by
      rintro rfl
      cases hne
    have h1 : 1 ≤ ds.length := by
      cases ds with
      | nil => exact absurd rfl hne
      | cons _ _ => simp
    refine Ev.int (Ev.callC (Ev.var rfl) (Evs.c2 (Ev.const_int.int rfl) ((Ev.cb N Boot.len (Evs.c1 (Ev.var rfl)) (f_lenL hzz) Keep.builtin).int (by rw [hl']))) (cast_args2 (c_dig_inner hn hclo hc (by omega) d (L := 0) h1 hd (by omega)) (Nat.zero_add _)) (Nat.le_refl _)
      (dig_capt2 hclo ⟨rfl, rfl, rfl, trivial⟩) (fun y c h => (closOf_mem (fun z hz hf => ?_) (lookup_some_mem h)).resolve_left (fun h => nomatch h)) hclo.2) (by simp [part])
    have := dig_free z hz hf
    simp only [List.mem_cons, List.not_mem_nil, or_false] at this
    rcases this with e | e | e <;> rw [e] <;> rfl
  · have he : ds = [] := by
      cases ds with
      | nil => rfl
      | cons _ _ => cases he
    subst he
    exact Ev.const_int.int rfl
end
end Mine

set_option Elab.async false
set_option maxRecDepth 100000
namespace Mine
open PySem PySem.W PySem.Calls PyProof.Rows

section
variable {B : Bs} {K : Act} {ρ ρ' : Rho} {O : Own'}
theorem FSpec.le {n m : Nat} {f : Value} {ds : List D} {d : D} (h : FSpec B n f ds d) (hm : n ≤ m) : FSpec B m f ds d := fun A fz s vs rm g r Q E hQ => h A fz s vs (rm.le hm) g r Q E hQ
/-- a, b = e -/
theorem Ex1.assignTup {elts : List Expr} {k : Nat} {tp pos : Pos} {value : Expr} {d : D} (h : Ev B K ρ O value d) (ha : Asg B K ρ (.Tuple elts k tp) d ρ')
    (hs : swapsWithSole [.Tuple elts k tp] value pos.line K.env = pure false := by rfl) (hw : swappedStores [.Tuple elts k tp] value K.env = pure none := by rfl) : Ex1 B K ρ O (.Assign [.Tuple elts k tp] value pos) (.next ρ' O) := fun F T s S Q E hQ =>
  Assign_Tuple (h F T s S _ _ fun v s₁ S₁ m₁ => ha _ _ s₁ v S₁ _ _ fun s₂ S₂ m₂ => hQ .next s₂ ⟨rfl, S₂.sub fun p hp => List.mem_cons_of_mem _ hp⟩ ((mod_no m₁).trans m₂ fun a ha => .inl (own_nil ha))) hs hw
end

theorem noPy {a : Int} {b : Nat} (h : Builtin.Int.intBits (b : Int) ≤ 4000) : Builtin.divisionGoesByPylong a b = false := by
  refine PyProof.noPylong_of_log2 ?_
  unfold Builtin.Int.intBits at h
  split at h
  · rename_i h0
    have : b = 0 := by simpa using h0
    subst this
    decide
  · have e : (b : Int).natAbs = b := by simp
    rw [e] at h ⊢
    omega

section
variable {B : Bs} {a : Addr} {cd : Value}
theorem c_div2 (N : Blt B) (Fn : FnIn B "_div2n1n" a pw iDiv2 cd) (hlim : ∃ t, B.mg "_DIV_LIMIT" = some (.int 4000 t)) {x b n : Nat} (hb : 1 ≤ b) (hbb : Builtin.Int.intBits (b : Int) ≤ 4000) (hx : Builtin.Int.intBits (x : Int) ≤ n + 4000) :
    FSpec B 1 (.ref a) [.int x, .int b, .int n] (.tup [.int (x / b : Nat), .int (x % b : Nat)]) := by
  obtain ⟨t, hlim⟩ := hlim
  refine Fn.spec (ps := ["a", "b", "n"]) (fun doc pm an ct vs h => ?_) rfl (by decide) (fun q hq => ?_) (by decide) fun doc pm an ct A s fz => ?_
  · match vs, h with
    | [u, v, w], _ => rfl
  · simp only [List.mem_cons, List.not_mem_nil, or_false] at hq
    rcases hq with rfl | rfl | rfl <;> exact .inl rfl
  refine Ex.stop (Ex1.ite (c := true) ((Et.cmp (Ev.bin (Ev.meth (Ev.var rfl) Evs.nil DTy.int PySem.F.plainAttrs_int PySem.F.slot_int_bit_length PySem.F.type_int_bit_length f_bitlen) (Ev.var rfl) op_sub) (Ev.globD (d := .int 4000) hlim (fun _ => ⟨t, rfl⟩) rfl) op_le).as ?_)
    (fun _ => Ex.stop (Ex1.ret (Ev.as (Ev.cb N Boot.divmod (Evs.c2 (Ev.var rfl) (Ev.var rfl)) (f_divmod (by omega) (noPy hbb)) Keep.builtin) ?_))) fun h => nomatch h)
  · exact decide_eq_true (by omega)
  · rw [fdiv_nat, fmod_nat]
end

/-- the long division, the highest figure first -/
def divStep (n b : Nat) (st : Nat × List Nat) (c : Nat) : Nat × List Nat := ((st.1 * 2 ^ n + c) % b, st.2 ++ [(st.1 * 2 ^ n + c) / b])
theorem div_run {n b : Nat} (hb : 1 ≤ b) : ∀ (ds : List Nat), (∀ c ∈ ds, c < 2 ^ n) → let st := ds.reverse.foldl (divStep n b) (0, [])
    st.1 = undig n ds % b ∧ undig n st.2.reverse = undig n ds / b ∧ st.2.length = ds.length ∧ ∀ q ∈ st.2, q < 2 ^ n
  | [], _ => by simp [undig]
  | c :: ds, h => by
    obtain ⟨h1, h2, h3, h4⟩ := div_run hb ds fun c hc => h c (List.mem_cons_of_mem _ hc)
    have hc := h c List.mem_cons_self
    have e : (c :: ds).reverse.foldl (divStep n b) (0, []) = divStep n b (ds.reverse.foldl (divStep n b) (0, [])) c := by rw [List.reverse_cons, List.foldl_append]; rfl
    rw [e]
    generalize ds.reverse.foldl (divStep n b) (0, []) = st at h1 h2 h3 h4
    have hU : undig n (c :: ds) = (st.1 * 2 ^ n + c) + b * (2 ^ n * (undig n ds / b)) := by
      rw [undig, h1]
      have := Nat.div_add_mod (undig n ds) b
      have h5 : 2 ^ n * undig n ds = 2 ^ n * (b * (undig n ds / b)) + 2 ^ n * (undig n ds % b) := by rw [← Nat.mul_add, this]
      rw [h5, Nat.mul_comm (undig n ds % b), Nat.mul_left_comm]
      omega
    have hr : st.1 < b := by rw [h1]; exact Nat.mod_lt _ hb
    have hq : (st.1 * 2 ^ n + c) / b < 2 ^ n := by
      rw [Nat.div_lt_iff_lt_mul hb]
      have : (st.1 + 1) * 2 ^ n ≤ b * 2 ^ n := Nat.mul_le_mul_right _ hr
      rw [Nat.succ_mul] at this
      rw [Nat.mul_comm (2 ^ n) b]
      omega
    refine ⟨?_, ?_, ?_, ?_⟩
    · show (st.1 * 2 ^ n + c) % b = _
      rw [hU, Nat.add_mul_mod_self_left]
    · show undig n (st.2 ++ [(st.1 * 2 ^ n + c) / b]).reverse = _
      rw [List.reverse_append, List.reverse_singleton, List.singleton_append, undig, h2, hU, Nat.add_mul_div_left _ _ hb]
    · show (st.2 ++ [_]).length = _
      rw [List.length_append, h3]; rfl
    · intro q hq'
      rcases List.mem_append.mp hq' with q1 | q1
      · exact h4 q q1
      · rw [List.mem_singleton.mp q1]; exact hq
theorem undig_digs {n x : Nat} (hn : 1 ≤ n) : undig n (digs n x) = x := by
  have key : ∀ k, undig n ((List.range k).map fun i => x / 2 ^ (n * i) % 2 ^ n) = x % 2 ^ (n * k) := by
    intro k
    induction k with
    | zero => simp [undig, Nat.mod_one]
    | succ k ih =>
      rw [List.range_succ, List.map_append, undig_app, ih, List.length_map, List.length_range]
      simp only [List.map_cons, List.map_nil, undig, Nat.mul_zero, Nat.add_zero]
      rw [Nat.mul_succ, Nat.pow_add, Nat.mod_mul]
  unfold digs
  rw [key, Nat.mod_eq_of_lt]
  exact Nat.lt_of_lt_of_le bits_pow (Nat.pow_le_pow_right (by decide) (digN_bits hn))
theorem digs_lt {n x : Nat} : ∀ c ∈ digs n x, c < 2 ^ n := fun c hc => by
  unfold digs at hc
  obtain ⟨i, _, rfl⟩ := List.mem_map.mp hc
  exact Nat.mod_lt _ (Nat.two_pow_pos _)
theorem digs_len {n x : Nat} : (digs n x).length = digN n x := by unfold digs; simp
theorem bits_pos {b : Nat} (hb : 1 ≤ b) : 1 ≤ Builtin.Int.intBits (b : Int) := by
  rcases Nat.eq_zero_or_pos (Builtin.Int.intBits (b : Int)) with h | h
  · have := bits_pow (x := b)
    rw [h] at this
    omega
  · exact h

/-- the numeric defs of the module -/
structure NumFns (B : Bs) (aI aD aP a2 aM : Addr) (tI tD : NestTab) (cP c2 cM : Value) : Prop where
  N : Blt B
  fI : FnIn B "_int2digits" aI pw iInt2 (.ref tI.c)
  fD : FnIn B "_digits2int" aD pw iDig2 (.ref tD.c)
  f2 : FnIn B "_div2n1n" a2 pw iDiv2 c2
  fP : FnIn B "_divmod_pos" aP pw iDivPos cP
  fM : FnIn B "int_divmod" aM pw iDivmod cM
  lim : ∃ t, B.mg "_DIV_LIMIT" = some (.int 4000 t)
  hI : tI ∈ B.tabs
  hD : tD ∈ B.tabs
  pI : tI.pos = nPos pw iInt2 1
  pD : tD.pos = nPos pw iDig2 0
  qI : tI.qual = Str.ofString "_int2digits" ++ Str.ofString ".<locals>." ++ Str.ofString "inner"
  qD : tD.qual = Str.ofString "_digits2int" ++ Str.ofString ".<locals>." ++ Str.ofString "inner"

section
variable {B : Bs} {aI aD aP a2 aM : Addr} {tI tD : NestTab} {cP c2 cM : Value}
theorem c_divpos (M : NumFns B aI aD aP a2 aM tI tD cP c2 cM) {x b : Nat} (d : Nat) (hb : 1 ≤ b) (hbb : Builtin.Int.intBits (b : Int) ≤ 4000) (hx : Builtin.Int.intBits (x : Int) ≤ 100000) (hd : digN (Builtin.Int.intBits (b : Int)) x ≤ 2 ^ d) :
    FSpec B (d + 3) (.ref aP) [.int x, .int b] (.tup [.int (x / b : Nat), .int (x % b : Nat)]) := by
  have hn := bits_pos hb
  have hnk := digN_le (n := Builtin.Int.intBits (b : Int)) (x := x) hn
  have hk1 : digN (Builtin.Int.intBits (b : Int)) x ≤ Builtin.Int.intBits (b : Int) * digN (Builtin.Int.intBits (b : Int)) x := Nat.le_mul_of_pos_left _ hn
  obtain ⟨r1, r2, r3, r4⟩ := div_run (n := Builtin.Int.intBits (b : Int)) hb (digs (Builtin.Int.intBits (b : Int)) x) digs_lt
  rw [undig_digs hn] at r1 r2
  rw [digs_len] at r3
  have hc := digs_lt (n := Builtin.Int.intBits (b : Int)) (x := x)
  have hl := digs_len (n := Builtin.Int.intBits (b : Int)) (x := x)
  have hI := c_int M.N M.fI M.hI M.pI M.qI d (x := x) hn hd (by omega) (by omega)
  generalize hnn : Builtin.Int.intBits (b : Int) = n at *
  generalize hds : digs n x = ds at *
  have hbn : b < 2 ^ n := hnn ▸ bits_pow
  refine M.fP.spec (ps := ["a", "b"]) (fun doc pm an ct vs h => ?_) rfl (by decide) (fun q hq => ?_) (by decide) fun doc pm an ct A s fz => ?_
  · match vs, h with
    | [u, v], _ => rfl
  · simp only [List.mem_cons, List.not_mem_nil, or_false] at hq
    rcases hq with rfl | rfl <;> exact .inl rfl
  refine Ex.cons (Ex1.assign (d := .int n) ((Ev.meth (Ev.var rfl) Evs.nil DTy.int PySem.F.plainAttrs_int PySem.F.slot_int_bit_length PySem.F.type_int_bit_length f_bitlen).int (by rw [hnn])) (.inl rfl)) ?_
  refine Ex.cons (Ex1.assign (Ev.cf M.fI (Evs.c2 (Ev.var rfl) (Ev.var rfl)) hI (Nat.le_refl _)) (.inl rfl)) ?_
  refine Ex.cons (Ex1.assign (d := .int (0 : Nat)) (Ev.const_int.int rfl) (.inl rfl)) ?_
  refine Ex.assignNew (w := .lst (natD [])) (EvNew.list Evs.nil) (.inl rfl) fun qd => ?_
  refine Ex.cons (Ex1.for (vals := (natD ds).reverse) (EvIt.cb M.N Boot.reversed (Evs.c1 (Ev.var rfl)) (CMake.reversed (by trivial)) Keep.type) (o := .next [("b", .int b), ("n", .int n), ("r", .int (x % b : Nat)), ("q_digits", .raw (.ref qd))] [(qd, .lst (natD (ds.reverse.foldl (divStep n b) (0, [])).2))]) ?_) ?_
  · have e : (natD ds).reverse = ds.reverse.map fun (c : Nat) => D.int (c : Int) := by unfold natD; rw [List.map_reverse]
    rw [e]
    refine Turns.foldP (fun (c : Nat) => D.int (c : Int)) (divStep n b) (fun st => [("b", .int b), ("n", .int n), ("r", .int st.1), ("q_digits", .raw (.ref qd))]) (fun st => [(qd, .lst (natD st.2))]) ds.reverse (0, []) _ ⟨rfl, rfl, rfl, rfl, trivial⟩ (fun pre c post he => ?_) (by rw [r1])
    have hcm : c ∈ ds := List.mem_reverse.mp (he ▸ List.mem_append_right _ List.mem_cons_self)
    have hcn := hc c hcm
    obtain ⟨s1, _, s3, _⟩ := div_run (n := n) hb pre.reverse fun q hq => hc q (List.mem_reverse.mp (he ▸ List.mem_append_left _ (List.mem_reverse.mp hq)))
    rw [List.reverse_reverse] at s1 s3
    have hprel : pre.length ≤ ds.length := by
      have := congrArg List.length he
      simp at this
      omega
    rw [List.length_reverse] at s3
    generalize pre.foldl (divStep n b) (0, []) = st at s1 s3
    have hr : st.1 < b := by rw [s1]; exact Nat.mod_lt _ hb
    have hv : st.1 * 2 ^ n + c < 2 ^ (n + n) := by
      have h1 : (st.1 + 1) * 2 ^ n ≤ 2 ^ n * 2 ^ n := Nat.mul_le_mul_right _ (by omega)
      rw [Nat.succ_mul] at h1
      rw [Nat.pow_add]
      omega
    refine ⟨fun _ h => h, _, _, Asg.name (.inl rfl), Ex.cons (Ex1.assignTup (Ev.cf M.f2 (Evs.c3 ((Ev.bin (Ev.bin (Ev.var rfl) (Ev.var rfl) (op_shl (by omega) ?_)) (Ev.var rfl) op_add).int ?_) (Ev.var rfl) (Ev.var rfl)) (c_div2 M.N M.f2 M.lim (x := st.1 * 2 ^ n + c) hb (by omega) ?_) (Nat.le_add_left _ _))
      (Asg.tup (xs := [("q_digit", _), ("r", _)]) rfl rfl (fun x hx => ?_))) (Ex.cons (Ex1.append (O₁ := []) (O₂ := []) rfl (Ev.var rfl) ?_) (Ex.nilO ?_)), ⟨rfl, rfl, rfl, rfl, trivial⟩⟩
    · have := bits_le (x := st.1) (m := n) (by omega)
      omega
    · push_cast
      rfl
    · have := bits_le hv
      omega
    · simp only [List.mem_cons, List.not_mem_nil, or_false] at hx
      rcases hx with rfl | rfl <;> exact .inl rfl
    · rw [List.length_map, s3]
      exact Nat.le_trans (by omega) (show 1000000 ≤ sizeLine by decide)
    · unfold divStep natD
      rw [List.map_append]
      rfl
  have hq : (natD (ds.reverse.foldl (divStep n b) (0, [])).2).length ≤ sizeLine := by
    rw [List.length_map, r3]
    exact Nat.le_trans (by omega) (show 1000000 ≤ sizeLine by decide)
  refine Ex.cons (Ex1.reverse (O₁ := []) (O₂ := []) rfl hq) ?_
  refine Ex.freeze (ρ' := [("b", .int b), ("n", .int n), ("r", .int (x % b : Nat)), ("q_digits", .list (natD (ds.reverse.foldl (divStep n b) (0, [])).2.reverse))]) rfl (fun p hp => ?_) ?_
  · simp only [List.mem_cons, List.not_mem_nil, or_false] at hp
    rcases hp with rfl | rfl | rfl | rfl
    · exact .inl rfl
    · exact .inl rfl
    · exact .inl rfl
    · refine .inr ⟨rfl, ?_⟩
      unfold natD
      rw [List.map_reverse]
  have hlen : (ds.reverse.foldl (divStep n b) (0, [])).2.reverse.length = digN n x := by rw [List.length_reverse, r3]
  refine Ex.cons (Ex1.assign (d := .int (x / b : Nat)) ((Ev.cf M.fD (Evs.c2 (Ev.var rfl) (Ev.var rfl)) (c_dig M.N M.fD M.hD M.pD M.qD d hn (by rw [hlen]; exact hd) (fun c h => r4 c (List.mem_reverse.mp h)) (by rw [hlen]; omega)) (Nat.le_refl _)).int (by rw [r2])) (.inl rfl)) ?_
  exact Ex.last (Ev.tup (Evs.c2 (Ev.var rfl) (Ev.var rfl)))
end
end Mine

set_option Elab.async false
set_option maxRecDepth 100000
namespace Mine
open PySem PySem.W PySem.Calls PyProof.Rows

theorem neg_div {x b : Nat} (hb : 1 ≤ b) : (-(x : Int) - 1).fdiv (b : Int) = -((x / b : Nat) : Int) - 1 ∧ (-(x : Int) - 1).fmod (b : Int) = (b : Int) + (-((x % b : Nat) : Int) - 1) := by
  rw [Int.fdiv_eq_ediv_of_nonneg _ (by omega), Int.fmod_eq_emod_of_nonneg _ (by omega)]
  have h1 := Nat.div_add_mod x b
  have h2 := Nat.mod_lt x hb
  refine (Int.ediv_emod_unique (by omega)).mpr ⟨?_, by omega, by omega⟩
  have h3 : ((b * (x / b) + x % b : Nat) : Int) = (x : Int) := by rw [h1]
  push_cast at h3
  rw [Int.mul_sub, Int.mul_neg, Int.mul_one]
  push_cast
  omega

section
variable {B : Bs} {aI aD aP a2 aM : Addr} {tI tD : NestTab} {cP c2 cM : Value}
theorem c_dm0 (M : NumFns B aI aD aP a2 aM tI tD cP c2 cM) {x b : Nat} (d : Nat) (hb : 1 ≤ b) (hbb : Builtin.Int.intBits (b : Int) ≤ 4000) (hx : Builtin.Int.intBits (x : Int) ≤ 100000) (hd : digN (Builtin.Int.intBits (b : Int)) x ≤ 2 ^ d) :
    FSpec B (d + 4) (.ref aM) [.int x, .int b] (.tup [.int (x / b : Nat), .int (x % b : Nat)]) := by
  refine M.fM.spec (ps := ["a", "b"]) (fun doc pm an ct vs h => ?_) rfl (by decide) (fun q hq => ?_) (by decide) fun doc pm an ct A s fz => ?_
  · match vs, h with
    | [u, v], _ => rfl
  · simp only [List.mem_cons, List.not_mem_nil, or_false] at hq
    rcases hq with rfl | rfl <;> exact .inl rfl
  refine Ex.stop (Ex1.ite (c := false) ((Et.cmp (Ev.var rfl) Ev.const_int op_eq).as ?_) (fun h => nomatch h) fun _ => Ex.stop (Ex1.ite (c := false) ((Et.cmp (Ev.var rfl) Ev.const_int op_lt).as ?_) (fun h => nomatch h) fun _ => Ex.stop (Ex1.ite (c := false) ((Et.cmp (Ev.var rfl) Ev.const_int op_lt).as ?_) (fun h => nomatch h) fun _ =>
    Ex.last (Ev.cf M.fP (Evs.c2 (Ev.var rfl) (Ev.var rfl)) (c_divpos M d hb hbb hx hd) (Nat.le_refl _)))))
  · simp only [beq_eq_false_iff_ne, ne_eq]; omega
  · exact decide_eq_false (by omega)
  · exact decide_eq_false (by omega)
theorem c_dm1 (M : NumFns B aI aD aP a2 aM tI tD cP c2 cM) {x b : Nat} (d : Nat) (hb : 1 ≤ b) (hbb : Builtin.Int.intBits (b : Int) ≤ 4000) (hx : Builtin.Int.intBits (x : Int) ≤ 100000) (hd : digN (Builtin.Int.intBits (b : Int)) x ≤ 2 ^ d) :
    FSpec B (d + 5) (.ref aM) [.int (-(x : Int) - 1), .int b] (.tup [.int ((-(x : Int) - 1).fdiv b), .int ((-(x : Int) - 1).fmod b)]) := by
  rw [(neg_div hb).1, (neg_div hb).2]
  refine M.fM.spec (ps := ["a", "b"]) (fun doc pm an ct vs h => ?_) rfl (by decide) (fun q hq => ?_) (by decide) fun doc pm an ct A s fz => ?_
  · match vs, h with
    | [u, v], _ => rfl
  · simp only [List.mem_cons, List.not_mem_nil, or_false] at hq
    rcases hq with rfl | rfl <;> exact .inl rfl
  refine Ex.stop (Ex1.ite (c := false) ((Et.cmp (Ev.var rfl) Ev.const_int op_eq).as ?_) (fun h => nomatch h) fun _ => Ex.stop (Ex1.ite (c := false) ((Et.cmp (Ev.var rfl) Ev.const_int op_lt).as ?_) (fun h => nomatch h) fun _ => Ex.stop (Ex1.ite (c := true) ((Et.cmp (Ev.var rfl) Ev.const_int op_lt).as ?_) (fun _ => ?_) fun h => nomatch h)))
  · simp only [beq_eq_false_iff_ne, ne_eq]; omega
  · exact decide_eq_false (by omega)
  · exact decide_eq_true (by omega)
  refine Ex.cons (Ex1.assignTup (Ev.cf M.fM (Evs.c2 ((Ev.un (Ev.var rfl) op_inv).int (show _ = (x : Int) by omega)) (Ev.var rfl)) (c_dm0 M d hb hbb hx hd) (Nat.le_refl _)) (Asg.tup (xs := [("q", _), ("r", _)]) rfl rfl (fun x hx => ?_))) ?_
  · simp only [List.mem_cons, List.not_mem_nil, or_false] at hx
    rcases hx with rfl | rfl <;> exact .inl rfl
  exact Ex.last (Ev.tup (Evs.c2 (Ev.un (Ev.var rfl) op_inv) (Ev.bin (Ev.var rfl) (Ev.un (Ev.var rfl) op_inv) op_add)))

/-- int_divmod by a number above nought -/
theorem c_dmp (M : NumFns B aI aD aP a2 aM tI tD cP c2 cM) {x : Int} {b : Nat} (d : Nat) (hb : 1 ≤ b) (hbb : Builtin.Int.intBits (b : Int) ≤ 4000) (hx : x.natAbs < 2 ^ 90000) (hd : x.natAbs < 2 ^ (2 ^ d)) :
    FSpec B (d + 5) (.ref aM) [.int x, .int b] (.tup [.int (x.fdiv b), .int (x.fmod b)]) := by
  have hn := bits_pos hb
  have dn : ∀ y : Nat, y < 2 ^ (2 ^ d) → digN (Builtin.Int.intBits (b : Int)) y ≤ 2 ^ d := fun y hy => by
    have h1 := bits_le hy
    have : digN (Builtin.Int.intBits (b : Int)) y ≤ Builtin.Int.intBits (y : Int) := by
      unfold digN
      rcases Nat.eq_zero_or_pos (Builtin.Int.intBits (y : Int)) with h | h
      · rw [h, Nat.div_eq_of_lt (by omega)]
        exact Nat.zero_le _
      · rw [Nat.div_le_iff_le_mul_add_pred hn]
        have : Builtin.Int.intBits (y : Int) ≤ Builtin.Int.intBits (b : Int) * Builtin.Int.intBits (y : Int) := Nat.le_mul_of_pos_left _ hn
        omega
    omega
  by_cases h0 : 0 ≤ x
  · obtain ⟨y, rfl⟩ := Int.eq_ofNat_of_zero_le h0
    have hy : (y : Int).natAbs = y := by simp
    rw [hy] at hx hd
    have hbx := bits_le hx
    have := c_dm0 M (x := y) (b := b) d hb hbb (by omega) (dn y hd)
    rw [← fdiv_nat, ← fmod_nat] at this
    exact this.le (by omega)
  · have hy : x = -(((-x - 1).toNat : Nat) : Int) - 1 := by omega
    have hyl : (-x - 1).toNat < x.natAbs := by omega
    have hbx := bits_le (Nat.lt_trans hyl hx)
    have := c_dm1 M (x := (-x - 1).toNat) (b := b) d hb hbb (by omega) (dn _ (Nat.lt_trans hyl hd))
    rw [← hy] at this
    exact this
theorem c_dm (M : NumFns B aI aD aP a2 aM tI tD cP c2 cM) {x b : Int} (d : Nat) (hb : b ≠ 0) (hbb : b.natAbs < 2 ^ 4000) (hx : x.natAbs < 2 ^ 90000) (hd : x.natAbs < 2 ^ (2 ^ d)) :
    FSpec B (d + 6) (.ref aM) [.int x, .int b] (.tup [.int (x.fdiv b), .int (x.fmod b)]) := by
  by_cases h0 : 0 ≤ b
  · obtain ⟨y, rfl⟩ := Int.eq_ofNat_of_zero_le h0
    have hy : (y : Int).natAbs = y := by simp
    rw [hy] at hbb
    exact (c_dmp M d (by omega) (bits_le hbb) hx hd).le (by omega)
  · have hy : -b = ((-b).toNat : Int) := by omega
    have hyl : (-b).toNat = b.natAbs := by omega
    have sub := c_dmp M (x := -x) (b := (-b).toNat) d (by omega) (bits_le (by rw [hyl]; exact hbb)) (by rw [Int.natAbs_neg]; exact hx) (by rw [Int.natAbs_neg]; exact hd)
    rw [← hy, Int.neg_fdiv_neg, Int.neg_fmod_neg] at sub
    refine M.fM.spec (ps := ["a", "b"]) (fun doc pm an ct vs h => ?_) rfl (by decide) (fun q hq => ?_) (by decide) fun doc pm an ct A s fz => ?_
    · match vs, h with
      | [u, v], _ => rfl
    · simp only [List.mem_cons, List.not_mem_nil, or_false] at hq
      rcases hq with rfl | rfl <;> exact .inl rfl
    refine Ex.stop (Ex1.ite (c := false) ((Et.cmp (Ev.var rfl) Ev.const_int op_eq).as ?_) (fun h => nomatch h) fun _ => Ex.stop (Ex1.ite (c := true) ((Et.cmp (Ev.var rfl) Ev.const_int op_lt).as ?_) (fun _ => ?_) fun h => nomatch h))
    · simpa using hb
    · exact decide_eq_true (by omega)
    refine Ex.cons (Ex1.assignTup (Ev.cf M.fM (Evs.c2 (Ev.un (Ev.var rfl) op_neg) (Ev.un (Ev.var rfl) op_neg)) sub (Nat.le_refl _)) (Asg.tup (xs := [("q", _), ("r", _)]) rfl rfl (fun x hx => ?_))) ?_
    · simp only [List.mem_cons, List.not_mem_nil, or_false] at hx
      rcases hx with rfl | rfl <;> exact .inl rfl
    exact Ex.last ((Ev.tup (Evs.c2 (Ev.var rfl) (Ev.un (Ev.var rfl) op_neg))).as (by rw [Int.neg_neg]))
end
end Mine

set_option Elab.async false
set_option maxRecDepth 100000
namespace Mine
open PySem PySem.W PySem.Calls PyProof.Rows

structure QFns (B : Bs) (aQ p1 p2 : Addr) (cQ : Value) : Prop where
  N : Blt B
  fQ : FnIn B "quotedata" aQ pw iQuote cQ
  g1 : B.mg "_twin_re_1" = some (.ref p1)
  g2 : B.mg "_twin_re_2" = some (.ref p2)
  P1 : Re.Pat B.h₀ p1 Re.code1
  P2 : Re.Pat B.h₀ p2 Re.code2
  crlf : ∃ t, B.mg "CRLF" = some (.str "\r\n" t)

def quoteF (l : List Nat) : List Nat := Re.conv1 true (Re.conv2 l)
section
variable {B : Bs} {aQ p1 p2 : Addr} {cQ : Value}
theorem c_quote (M : QFns B aQ p1 p2 cQ) {l : List Nat} (hz : l.length ≤ 4000) : FSpec B 1 (.ref aQ) [.str l] (.str (quoteF l)) := by
  obtain ⟨t, hc⟩ := M.crlf
  have hz2 : (Re.conv2 l).length ≤ 10000 := Nat.le_trans (Re.conv2_len l) (by omega)
  unfold quoteF
  rw [← Re.sub1_eq, ← Re.sub2_eq]
  rw [← Re.sub2_eq] at hz2
  refine M.fQ.spec (ps := ["data"]) (fun doc pm an ct vs h => ?_) rfl (by decide) (fun q hq => ?_) (by decide) fun doc pm an ct A s fz => ?_
  · match vs, h with
    | [u], _ => rfl
  · simp only [List.mem_cons, List.not_mem_nil, or_false] at hq
    rcases hq with rfl
    exact .inl rfl
  refine Ex.last (Ev.meth (Ev.glob M.g1 rfl) (Evs.c2 Ev.const_str (Ev.meth (Ev.glob M.g2 rfl) (Evs.c2 (Ev.globD (d := .str [13, 10]) hc (fun _ => ⟨t, rfl⟩) rfl) (Ev.var rfl)) (Re.pat_ty M.P2) Re.plainAttrs_pat Re.F.slot_sub Re.F.type_sub (Re.f_sub Re.runs2 Re.goes2 (by omega) (by decide) (by decide) M.P2)))
    (Re.pat_ty M.P1) Re.plainAttrs_pat Re.F.slot_sub Re.F.type_sub (Re.f_sub Re.runs1 Re.goes1 hz2 (by decide) (by decide) M.P1))
end
end Mine

set_option Elab.async false
set_option maxRecDepth 100000
set_option linter.unusedVariables false
namespace Mine
open PySem PySem.W PySem.Calls PyProof.Rows
abbrev iTurned := 17
abbrev iReach := 18
abbrev iTable := 19
abbrev iDet := 20
abbrev iProd := 21
abbrev iParted := 22
abbrev iLaw := 23

/-- the text turned about, a dot for each end and an end for each dot -/
def turnL (l : List Nat) : List Nat := (swapF l l.length 1).map fun (o : Nat) => if ((o : Int) == 10) = true then 46 else 10
def reachStep (acc : List Nat) (r : List Nat) : List Nat := acc ++ [acc.getLastD 0 + r.length]
def reachF (rows : List (List Nat)) : List Nat := (rows.foldl reachStep [0]).drop 1
def prodF (start : Int) (l : List Int) : Int := l.foldl (· * ·) start

theorem swap1_len {l : List Nat} {w k : Nat} : (swapF l w k).length = l.length := by
  unfold swapF
  rw [foldl_len (fun acc a => swapRow_len)]
  simp
theorem sum_ones {α : Type} : ∀ l : List α, (l.map fun _ => 1).sum = l.length
  | [] => rfl
  | x :: l => by rw [List.map_cons, List.sum_cons, sum_ones l, List.length_cons]; omega
theorem reach_ne {rows : List (List Nat)} : ∀ {acc : List Nat}, acc ≠ [] → (rows.foldl reachStep acc).length = acc.length + rows.length := by
  induction rows with
  | nil => intro acc h; rfl
  | cons r rows ih =>
    intro acc h
    rw [List.foldl_cons, ih (by unfold reachStep; simp)]
    unfold reachStep
    simp; omega
theorem natD_last {l : List Nat} (h : l ≠ []) : (natD l)[(natD l).length - 1]? = some (.int (l.getLastD 0 : Nat)) := by
  rw [natD_len]
  unfold natD
  rw [List.getElem?_map, ← List.getLast?_eq_getElem?, List.getLastD_eq_getLast?]
  cases e : l.getLast? with
  | none => exact absurd (List.getLast?_eq_none_iff.mp e) h
  | some x => rfl
theorem flat_one (f : Nat → Nat) : ∀ l : List Nat, (l.map fun o => [f o]).flatten = l.map f
  | [] => rfl
  | x :: l => by rw [List.map_cons, List.flatten_cons, flat_one f l]; rfl

section
variable {B : Bs} {aS a : Addr} {cS cd : Value}
theorem c_turned (N : Blt B) (FS : FnIn B "_byteswap" aS pw iSwap cS) (F : FnIn B "_law_turned" a pw iTurned cd) {l : List Nat} (h1 : 1 ≤ l.length) (hz : l.length ≤ 100000) (hb : ∀ x ∈ l, x < 256) : FSpecC B 2 (.ref a) [.str l] (.str (turnL l)) := by
  have hs2 : sizeLine = 2 ^ 24 := rfl
  have hsl : (swapF l l.length 1).length = l.length := swap1_len
  refine F.specC (ps := ["text"]) (fun doc pm an ct vs h => ?_) rfl (by decide) (fun q hq => ?_) (by decide) fun doc pm an ct A s fz => ?_
  · match vs, h with
    | [u], _ => rfl
  · simp only [List.mem_cons, List.not_mem_nil, or_false] at hq
    rcases hq with rfl
    exact .inl rfl
  refine ExC.cons (Ex1C.assign (EvC.cf FS (EvsC.of (Evs.c2 (Ev.cb N Boot.«bytes» (Evs.c1 ((Ev.comp (ρc := []) (vals := l.map fun c => D.str [c]) (rs := l.map fun (c : Nat) => D.int c) (EvIt.of (Ev.var rfl) (ItMake.str (by trivial))) (free_no (by decide)) rfl (by decide) cap_no
    (fun L s₀ fz₀ wr => CT.map (fun (c : Nat) => D.str [c]) _ _ fun c hc => ⟨_, Asg.name (.inl rfl), trivial, Ev.cb N Boot.ord (Evs.c1 (Ev.var rfl)) f_ord Keep.builtin⟩) (by rw [List.length_map]; omega)).asD (d' := .list (natD l)) rfl)) (f_bytesL hb (by omega)) Keep.type)
    (Ev.cb N Boot.len (Evs.c1 (Ev.var rfl)) (f_lenS (by omega)) Keep.builtin))) (c_swap N FS (k := 1) (w := l.length) (by omega) h1 (by omega) hb (by omega)) (Nat.le_refl _)) (.inl rfl)) ?_
  generalize hS : swapF l l.length 1 = sw at *
  refine ExC.of (Ex.last ((Ev.meth Ev.const_str (Evs.c1 ((Ev.comp (ρc := []) (vals := sw.map fun (c : Nat) => D.int c) (rs := sw.map fun (o : Nat) => D.str [if ((o : Int) == 10) = true then 46 else 10]) (EvIt.of (Ev.var rfl) (ItMake.bytes (by trivial))) (free_no (by decide)) rfl (by decide) cap_no
    (fun L s₀ fz₀ wr => CT.map (fun (c : Nat) => D.int c) _ _ fun c hc => ⟨_, Asg.name (.inl rfl), trivial, Ev.ite (Et.cmp (Ev.var rfl) Ev.const_int op_eq) (fun h => ?_) fun h => ?_⟩) (by rw [List.length_map]; omega)).asD (d' := .list (strD (sw.map fun (o : Nat) => [if ((o : Int) == 10) = true then 46 else 10]))) ?_)) DTy.str PySem.F.plainAttrs_str PySem.F.slot_str_join PySem.F.type_str_join (f_join (ls := sw.map fun (o : Nat) => [if ((o : Int) == 10) = true then 46 else 10]) ?_)).asD ?_))
  · rw [if_pos h]; exact Ev.const_str (x := ".")
  · rw [if_neg (by rw [h]; decide)]; exact Ev.const_str (x := "\n")
  · unfold strD; rw [List.map_map]; rfl
  · rw [List.map_map, List.length_map, show (List.length ∘ fun (o : Nat) => [if ((o : Int) == 10) = true then 46 else 10]) = fun _ => 1 from rfl, sum_ones]
    show sw.length + sw.length * 0 ≤ 16777216
    omega
  · show D.str (joinL [] _) = _
    rw [joinL_nil, flat_one]
    unfold turnL
    rw [hS]

theorem c_reach (N : Blt B) (F : FnIn B "_law_reach" a pw iReach cd) {rows : List (List Nat)} (hz : rows.length ≤ 10000) (hr : ∀ r ∈ rows, r.length ≤ 100000) : FSpec B 1 (.ref a) [.list (strD rows)] (.list (natD (reachF rows))) := by
  have hs2 : sizeLine = 2 ^ 24 := rfl
  refine F.spec (ps := ["rows"]) (fun doc pm an ct vs h => ?_) rfl (by decide) (fun q hq => ?_) (by decide) fun doc pm an ct A s fz => ?_
  · match vs, h with
    | [u], _ => rfl
  · simp only [List.mem_cons, List.not_mem_nil, or_false] at hq
    rcases hq with rfl
    exact .inl rfl
  refine Ex.assignNew (w := .lst (natD [0])) (EvNew.list (Evs.c1 (Ev.const_int.int rfl))) (.inl rfl) fun aR => ?_
  refine Ex.cons (Ex1.for (vals := strD rows) (EvIt.of (Ev.var rfl) ItMake.list)
    (Turns.foldA (fun (r : List Nat) => D.str r) reachStep (fun _ => [("reach", .raw (.ref aR))]) (fun acc => [(aR, .lst (natD acc))]) rows [0] _ ⟨rfl, trivial⟩ (fun _ => ⟨rfl, trivial⟩) (fun pre r post he => ?_) rfl)) ?_
  · have hlen := reach_ne (rows := pre) (acc := [0]) (by simp)
    have hpl : pre.length ≤ rows.length := by rw [he]; simp
    have hrl := hr r (by rw [he]; simp)
    have hne : pre.foldl reachStep [0] ≠ [] := fun e => by rw [e] at hlen; simp at hlen; omega
    generalize pre.foldl reachStep [0] = acc at *
    refine ⟨fun _ h => h, _, Asg.name (.inl rfl), ?_⟩
    refine Ex.cons (Ex1.append (O₁ := []) (O₂ := []) rfl (Ev.int (i := (acc.getLastD 0 : Nat) + (r.length : Int)) (Ev.bin (Ev.lastOwn (O₁ := []) (O₂ := []) (Ev.var rfl) (Ev.un Ev.const_int op_neg) (natD_last hne)) (Ev.cb N Boot.len (Evs.c1 (Ev.var rfl)) (f_lenS (by omega)) Keep.builtin) op_add) rfl) (by rw [natD_len]; simp at hlen; omega)) (Ex.nilA ⟨rfl, trivial⟩ ?_)
    show [_] = [_]
    unfold reachStep
    rw [natD_app]
    rfl
  · have hlen := reach_ne (rows := rows) (acc := [0]) (by simp)
    refine Ex.freeze (ρ' := [("reach", .list (natD (rows.foldl reachStep [0])))]) rfl (fun p hp => ?_) (Ex.last ((Ev.slice (Ev.var rfl) (Epart.some Ev.const_int) Epart.none (by rw [natD_len]; simp at hlen; omega)).asD ?_))
    · rw [List.mem_singleton.mp hp]; exact .inr ⟨rfl, rfl⟩
    · have e := cut_tail (natD (rows.foldl reachStep [0])) 1
      show D.list (cut _ (some 1) none) = _
      rw [show ((1 : Int)) = ((1 : Nat) : Int) from rfl, e]
      unfold reachF natD
      rw [List.map_drop]
end
end Mine

set_option Elab.async false
set_option maxRecDepth 100000
set_option linter.unusedVariables false
namespace Mine
open PySem PySem.W PySem.Calls PyProof.Rows

/-! ### the determinant, by divisions that leave nothing -/
abbrev sm (x : Int) : Bool := Nat.ble (x.natAbs + 1) (2 ^ 4000)
def matD (rows : List (List Int)) : List D := rows.map fun r => .list (intD r)
def rowF (first : Int) (head : List Int) (last : Int) (row : List Int) : List Int := List.zipWith (fun x h => (first * x - row.headD 0 * h).fdiv last) row.tail head.tail
def detStep (st : List (List Int) × Int) : List (List Int) × Int := (st.1.tail.map (rowF ((st.1.headD []).headD 0) (st.1.headD []) st.2), (st.1.headD []).headD 0)
/-- all is square, small, and the divisor is not nought -/
def detOk1 (st : List (List Int) × Int) : Bool := st.2 != 0 && sm st.2 && Nat.ble 1 st.1.length && Nat.ble st.1.length 100 && st.1.all fun r => r.length == st.1.length && r.all sm
def detOk : Nat → List (List Int) × Int → Bool
  | 0, st => detOk1 st
  | k + 1, st => detOk1 st && (Nat.ble st.1.length 1 || detOk k (detStep st))
def detGo : Nat → List (List Int) × Int → List (List Int) × Int := loopF (fun st => Nat.ble 2 st.1.length) detStep
def detF (rows : List (List Int)) : Int := ((detGo rows.length (rows, 1)).1.headD []).headD 0

theorem sm_bits {x : Int} (h : sm x = true) : Builtin.Int.intBits x ≤ 4001 := Nat.le_succ_of_le (intBits_le (Nat.le_of_ble_eq_true h))
theorem sm_log {x : Int} (h : sm x = true) : x.natAbs.log2 < 9000 := by
  have := Nat.le_of_ble_eq_true h
  by_cases h0 : x.natAbs = 0
  · rw [h0]; decide
  · exact (Nat.log2_lt h0).mpr (Nat.lt_of_lt_of_le this (Nat.pow_le_pow_right (by decide) (by decide)))
theorem matD_get {rows : List (List Int)} {k : Nat} (h : k < rows.length) : (matD rows)[k]? = some (.list (intD (rows.getD k []))) := by
  unfold matD
  rw [List.getElem?_map, List.getD_eq_getElem?_getD, List.getElem?_eq_getElem h]; rfl
theorem matD_len (l : List (List Int)) : (matD l).length = l.length := List.length_map _
theorem rowF_eq {first last : Int} {head row : List Int} (h : row.length = head.length) (h1 : 1 ≤ row.length) :
    rowF first head last row = (List.range (row.length - 1)).map fun i => (first * row.getD (1 + i) 0 - row.getD 0 0 * head.getD (1 + i) 0).fdiv last := by
  match row, head, h1, h with
  | r :: row, x :: head, _, h =>
    have h : row.length = head.length := by simpa using h
    unfold rowF
    refine List.ext_getElem (by simp [h]) fun i i1 i2 => ?_
    have i3 : i < row.length := by simp at i2; exact i2
    simp [Nat.add_comm 1 i, i3, h ▸ i3]

section
variable {B : Bs} {a : Addr} {cd : Value}
theorem c_prod (N : Blt B) (F : FnIn B "_law_product" a pw iProd cd) {start : Int} {l : List Int} (h : ∀ k ≤ l.length, sm (prodF start (l.take k)) = true) (hl : ∀ x ∈ l, sm x = true) : FSpec B 1 (.ref a) [.int start, .list (intD l)] (.int (prodF start l)) := by
  refine F.spec (ps := ["start", "factors"]) (fun doc pm an ct vs h => ?_) rfl (by decide) (fun q hq => ?_) (by decide) fun doc pm an ct A s fz => ?_
  · match vs, h with
    | [u, v], _ => rfl
  · simp only [List.mem_cons, List.not_mem_nil, or_false] at hq
    rcases hq with rfl | rfl <;> exact .inl rfl
  refine Ex.cons (Ex1.assign (Ev.var rfl) (.inl rfl)) ?_
  refine Ex.cons (Ex1.for (vals := intD l) (EvIt.of (Ev.var rfl) ItMake.list)
    (Turns.foldA (fun (x : Int) => D.int x) (fun p x => p * x) (fun p => [("product", .int p)]) (fun _ => []) l start _ ⟨rfl, trivial⟩ (fun _ => ⟨rfl, trivial⟩) (fun pre x post he => ?_) rfl)) (Ex.last (Ev.var rfl))
  refine ⟨fun _ h => h, _, Asg.name (.inl rfl), ?_⟩
  have h1 : sm (pre.foldl (fun p x => p * x) start) = true := by
    have := h pre.length (by rw [he]; simp)
    rwa [he, List.take_left] at this
  have h2 : sm x = true := hl x (by rw [he]; simp)
  exact Ex.cons (Ex1.assign (Ev.bin (Ev.var rfl) (Ev.var rfl) (op_mul (IntMulOk.of_bits (Nat.le_trans (sm_bits h1) (by decide)) (Nat.le_trans (sm_bits h2) (by decide))))) (.inl rfl)) (Ex.nilA ⟨rfl, trivial⟩ rfl)
/-! ### divided by one after the other -/
def partF (n : Int) (l : List Int) : Int := l.foldl (fun a d => a.fdiv d) n
def partOk : Int → List Int → Bool
  | n, [] => true
  | n, d :: ds => d != 0 && sm d && sm n && n.fmod d == 0 && partOk (n.fdiv d) ds
theorem partOk_at : ∀ {pre : List Int} {n d : Int} {post : List Int}, partOk n (pre ++ d :: post) = true → d ≠ 0 ∧ sm d = true ∧ sm (pre.foldl (fun a d => a.fdiv d) n) = true ∧ (pre.foldl (fun a d => a.fdiv d) n).fmod d = 0
  | [], n, d, post, h => by
    rw [List.nil_append] at h
    unfold partOk at h
    simp only [Bool.and_eq_true, bne_iff_ne, ne_eq, beq_iff_eq] at h
    exact ⟨h.1.1.1.1, h.1.1.1.2, h.1.1.2, h.1.2⟩
  | p :: pre, n, d, post, h => by
    rw [List.cons_append] at h
    unfold partOk at h
    rw [Bool.and_eq_true] at h
    exact partOk_at (pre := pre) (n := n.fdiv p) (d := d) (post := post) h.2
theorem sm_big {x : Int} (h : sm x = true) : x.natAbs < 2 ^ 4000 := Nat.le_of_ble_eq_true h
theorem sm_90 {x : Int} (h : sm x = true) : x.natAbs < 2 ^ 90000 := Nat.lt_of_lt_of_le (sm_big h) (Nat.pow_le_pow_right (by decide) (by decide))
theorem sm_13 {x : Int} (h : sm x = true) : x.natAbs < 2 ^ (2 ^ 13) := Nat.lt_of_lt_of_le (sm_big h) (Nat.pow_le_pow_right (by decide) (by decide))

variable {aI aD aP a2 aM : Addr} {tI tD : NestTab} {cP c2 cM : Value}
theorem c_parted (M : NumFns B aI aD aP a2 aM tI tD cP c2 cM) (F : FnIn B "_law_parted" a pw iParted cd) {n : Int} {l : List Int} (h : partOk n l = true) : FSpec B 20 (.ref a) [.int n, .list (intD l)] (.int (partF n l)) := by
  refine F.spec (ps := ["number", "divisors"]) (fun doc pm an ct vs h => ?_) rfl (by decide) (fun q hq => ?_) (by decide) fun doc pm an ct A s fz => ?_
  · match vs, h with
    | [u, v], _ => rfl
  · simp only [List.mem_cons, List.not_mem_nil, or_false] at hq
    rcases hq with rfl | rfl <;> exact .inl rfl
  refine Ex.cons (Ex1.assign (Ev.var rfl) (.inl rfl)) ?_
  refine Ex.cons (Ex1.for (vals := intD l) (EvIt.of (Ev.var rfl) ItMake.list)
    (Turns.foldA (fun (x : Int) => D.int x) (fun p x => p.fdiv x) (fun p => [("left", .int p)]) (fun _ => []) l n _ ⟨rfl, trivial⟩ (fun _ => ⟨rfl, trivial⟩) (fun pre x post he => ?_) rfl)) (Ex.last (Ev.var rfl))
  refine ⟨fun _ h => h, _, Asg.name (.inl rfl), ?_⟩
  obtain ⟨h1, h2, h3, h4⟩ := partOk_at (he ▸ h)
  refine Ex.cons (Ex1.assignTup (Ev.cf M.fM (Evs.c2 (Ev.var rfl) (Ev.var rfl)) (c_dm M 13 h1 (sm_big h2) (sm_90 h3) (sm_13 h3)) (Nat.le_refl _)) (Asg.tup (xs := [("quotient", _), ("rest", _)]) rfl rfl (fun x hx => ?_))) ?_
  · simp only [List.mem_cons, List.not_mem_nil, or_false] at hx
    rcases hx with rfl | rfl <;> exact .inl rfl
  refine Ex.cons (Ex1.ite (c := false) ((Et.cmp (Ev.var rfl) Ev.const_int op_ne).as (by rw [h4]; rfl)) (fun hc => nomatch hc) fun _ => Ex.nil) ?_
  exact Ex.cons (Ex1.assign (Ev.var rfl) (.inl rfl)) (Ex.nilA ⟨rfl, trivial⟩ rfl)
end
end Mine

set_option Elab.async false
set_option maxRecDepth 100000
set_option linter.unusedVariables false
namespace Mine
open PySem PySem.W PySem.Calls PyProof.Rows

theorem detOk_one : ∀ {k : Nat} {st : List (List Int) × Int}, detOk k st = true → detOk1 st = true
  | 0, _, h => h
  | k + 1, st, h => by unfold detOk at h; rw [Bool.and_eq_true] at h; exact h.1
theorem detOk_next {k : Nat} {st : List (List Int) × Int} (h : detOk (k + 1) st = true) (h2 : 2 ≤ st.1.length) : detOk k (detStep st) = true := by
  unfold detOk at h
  rw [Bool.and_eq_true, Bool.or_eq_true] at h
  rcases h.2 with q | q
  · exact absurd (Nat.le_of_ble_eq_true q) (by omega)
  · exact q
theorem detStep_len {st : List (List Int) × Int} : (detStep st).1.length = st.1.length - 1 := by unfold detStep; simp
theorem detGo_end : ∀ {k : Nat} {st : List (List Int) × Int}, st.1.length ≤ k + 1 → Nat.ble 2 (detGo k st).1.length = false
  | 0, st, h => by
    unfold detGo loopF
    rw [← Bool.not_eq_true, Nat.ble_eq]; omega
  | k + 1, st, h => by
    unfold detGo loopF
    cases hc : Nat.ble 2 st.1.length with
    | false => simp [hc]
    | true =>
      rw [if_pos rfl]
      exact detGo_end (k := k) (st := detStep st) (by rw [detStep_len]; omega)
structure DetI (st : List (List Int) × Int) : Prop where
  ne : st.2 ≠ 0
  sm2 : sm st.2 = true
  pos : 1 ≤ st.1.length
  le : st.1.length ≤ 100
  sq : ∀ r ∈ st.1, r.length = st.1.length
  all : ∀ r ∈ st.1, ∀ x ∈ r, sm x = true
theorem detI_of {st : List (List Int) × Int} (h : detOk1 st = true) : DetI st := by
  unfold detOk1 at h
  simp only [Bool.and_eq_true, bne_iff_ne, ne_eq, Nat.ble_eq, List.all_eq_true, beq_iff_eq] at h
  obtain ⟨⟨⟨⟨h1, h2⟩, h3⟩, h4⟩, h5⟩ := h
  exact ⟨h1, Nat.ble_eq.mpr h2, h3, h4, fun r hr => (h5 r hr).1, fun r hr x hx => Nat.ble_eq.mpr ((h5 r hr).2 x hx)⟩
/-- while the loop runs -/
def DetInv (st : List (List Int) × Int) : Prop := ∃ k, st.1.length ≤ k + 1 ∧ detOk k st = true
theorem getD_mem {α : Type} {l : List α} {k : Nat} {d : α} (h : k < l.length) : l.getD k d ∈ l := by
  rw [List.getD_eq_getElem?_getD, List.getElem?_eq_getElem h]; exact List.getElem_mem h
theorem headD_get {α : Type} (l : List α) (d : α) : l.headD d = l.getD 0 d := by cases l <;> rfl
theorem detInv_end : ∀ {k : Nat} {st : List (List Int) × Int}, DetInv st → DetInv (detGo k st)
  | 0, st, h => h
  | k + 1, st, h => by
    unfold detGo loopF
    cases hc : Nat.ble 2 st.1.length with
    | false => simpa [hc] using h
    | true =>
      rw [if_pos rfl]
      refine detInv_end (k := k) (st := detStep st) ?_
      obtain ⟨j, h1, h2⟩ := h
      have := Nat.le_of_ble_eq_true hc
      match j, h1, h2 with
      | 0, h1, _ => omega
      | j + 1, h1, h2 => exact ⟨j, by rw [detStep_len]; omega, detOk_next h2 this⟩

section
variable {B : Bs} {a : Addr} {cd : Value}
theorem c_det (N : Blt B) (F : FnIn B "_law_determinant" a pw iDet cd) {rows : List (List Int)} (h : detOk rows.length (rows, 1) = true) : FSpec B 1 (.ref a) [.list (matD rows)] (.int (detF rows)) := by
  have hs2 : sizeLine = 2 ^ 24 := rfl
  have hI0 : DetInv (rows, 1) := ⟨rows.length, Nat.le_succ _, h⟩
  have hEnd := detInv_end (k := rows.length) hI0
  have hStop := detGo_end (k := rows.length) (st := (rows, 1)) (Nat.le_succ _)
  refine F.spec (ps := ["table"]) (fun doc pm an ct vs h => ?_) rfl (by decide) (fun q hq => ?_) (by decide) fun doc pm an ct A s fz => ?_
  · match vs, h with
    | [u], _ => rfl
  · simp only [List.mem_cons, List.not_mem_nil, or_false] at hq
    rcases hq with rfl
    exact .inl rfl
  refine Ex.cons (Ex1.assignTup (Ev.tup (Evs.c2 (Ev.var rfl) Ev.const_int)) (Asg.tup (xs := [("rows", _), ("last", _)]) rfl rfl (fun x hx => ?_))) ?_
  · simp only [List.mem_cons, List.not_mem_nil, or_false] at hx
    rcases hx with rfl | rfl
    · exact .inl rfl
    · exact actOf_cell rfl rfl
  refine Ex.cons (Ex1.while (n := rows.length) (Whiles.loop (σ := List (List Int) × Int) (fun st => Nat.ble 2 st.1.length) detStep (fun st => [("rows", .list (matD st.1)), ("last", .int st.2)]) (fun _ => []) DetInv (fun st hI => ?_) (fun st hI hc => ?_) (fun _ => ⟨rfl, rfl, trivial⟩) rows.length (rows, 1) _ ⟨rfl, rfl, trivial⟩ hI0 hStop rfl)) ?_
  · obtain ⟨j, h1, h2⟩ := hI
    have DI := detI_of (detOk_one h2)
    refine (Et.cmp (Ev.cb N Boot.len (Evs.c1 (Ev.var rfl)) (f_lenL (by rw [matD_len]; have := DI.le; omega)) Keep.builtin) Ev.const_int op_gt).as ?_
    rw [matD_len, Bool.eq_iff_iff, Nat.ble_eq, decide_eq_true_eq]
    omega
  · obtain ⟨j, h1, h2⟩ := hI
    have DI := detI_of (detOk_one h2)
    have hlen := Nat.le_of_ble_eq_true hc
    have hnext : DetInv (detStep st) := by
      match j, h1, h2 with
      | 0, h1, _ => omega
      | j + 1, h1, h2 => exact ⟨j, by rw [detStep_len]; omega, detOk_next h2 hlen⟩
    refine ⟨hnext, fun _ h => h, ?_⟩
    obtain ⟨rs, last⟩ := st
    have hle := DI.le
    have hsq := DI.sq
    have hne := DI.ne
    have hsl := DI.sm2
    have hall := DI.all
    have hle0 := hle
    have hlen0 := hlen
    simp only at hlen hle hsq hne hsl hall
    have e2 : detStep (rs, last) = (rs.tail.map (rowF ((rs.getD 0 []).getD 0 0) (rs.getD 0 []) last), (rs.getD 0 []).getD 0 0) := by
      unfold detStep; simp only [headD_get]
    rw [e2]
    have hhead : rs.getD 0 [] ∈ rs := getD_mem (by omega)
    generalize hh : rs.getD 0 [] = head at *
    have hhl : head.length = rs.length := hsq head hhead
    have hfm : head.getD 0 0 ∈ head := getD_mem (by omega)
    generalize hf : head.getD 0 0 = first at *
    refine Ex.cons (Ex1.assign (d := .list (intD head)) (Ev.item (Ev.var rfl) Ev.const_int 0 rfl (by rw [← hh]; exact matD_get (by show 0 < rs.length; omega)) (by rw [matD_len]; omega)) (actOf_cell rfl rfl)) ?_
    refine Ex.cons (Ex1.assign (d := .int first) (Ev.item (Ev.var rfl) Ev.const_int 0 rfl (by rw [← hf]; exact intD_get (by omega)) (by rw [intD_len]; omega)) (actOf_cell rfl rfl)) ?_
    refine Ex.cons (Ex1.assignComp (vals := rs.tail.map fun r => D.list (intD r)) (rs := rs.tail.map fun r => D.list (intD (rowF first head last r))) (ρc := [("first", .int first), ("head", .list (intD head)), ("last", .int last)])
      ((EvIt.of (Ev.slice (Ev.var rfl) (Epart.some Ev.const_int) Epart.none (by rw [matD_len]; omega)) ItMake.list).as ?_) (.inl rfl) (free_ok ["first", "head", "last"] (by decide) fun x hx => ?_) rfl (by decide) (fun p hp => ?_)
      (fun L s₀ fz₀ wr => CT.map (fun r => D.list (intD r)) _ _ fun r hr => ?_) (by rw [List.length_map, List.length_tail]; omega)) ?_
    · show cut (matD rs) (some 1) none = _
      rw [show (1 : Int) = ((1 : Nat) : Int) from rfl, cut_tail]
      unfold matD
      rw [← List.map_drop, List.drop_one]
    · simp only [List.mem_cons, List.not_mem_nil, or_false] at hx
      rcases hx with rfl | rfl | rfl <;> rfl
    · simp only [List.mem_cons, List.not_mem_nil, or_false] at hp
      rcases hp with rfl | rfl | rfl
      · exact ⟨rfl, rfl, by show (scopeAt pw iDet).names.lookup ("first" : Str) ≠ some NameKind.local; decide⟩
      · exact ⟨rfl, rfl, by show (scopeAt pw iDet).names.lookup ("head" : Str) ≠ some NameKind.local; decide⟩
      · exact ⟨rfl, rfl, by show (scopeAt pw iDet).names.lookup ("last" : Str) ≠ some NameKind.local; decide⟩
    · have hrm : r ∈ rs := List.mem_of_mem_tail hr
      have hrl : r.length = rs.length := hsq r hrm
      have hsz : Builtin.Range.rangeSize 1 (((intD r).length : Nat) : Int) 1 = (r.length - 1 : Nat) := by
        rw [intD_len, show ((r.length : Nat) : Int) = (((r.length - 1 : Nat) : Int) + 1) by omega]
        exact size_two
      refine ⟨_, Asg.name (comp_cell rfl rfl), ⟨rfl, rfl, rfl, trivial⟩, ?_⟩
      refine (Ev.comp (vals := intSeq 1 1 (r.length - 1)) (rs := (List.range (r.length - 1)).map fun i => D.int ((first * r.getD (1 + i) 0 - r.getD 0 0 * head.getD (1 + i) 0).fdiv last)) (ρc := [("first", .int first), ("head", .list (intD head)), ("last", .int last), ("row", .list (intD r))])
        (EvIt.cb N Boot.range (Evs.c2 Ev.const_int (Ev.cb N Boot.len (Evs.c1 (Ev.var rfl)) (f_lenL (by rw [intD_len]; omega)) Keep.builtin)) (CMake.range2 (by trivial) (small_of (by omega) (by rw [intD_len]; omega) (by omega) ?_) ?_) Keep.type)
        (free_ok ["first", "head", "last", "row"] (by decide) fun x hx => ?_) rfl (by decide) (fun p hp => ?_)
        (fun L' s₀' fz₀' wr' => CT.map (fun (i : Nat) => D.int (1 + i * 1)) _ _ fun i hi => ⟨_, Asg.name (.inl rfl), ⟨rfl, rfl, rfl, rfl, trivial⟩, ?_⟩) (by unfold intSeq; rw [List.length_map, List.length_range]; omega)).asD ?_
      · rw [hsz]; omega
      · exact hsz
      · simp only [List.mem_cons, List.not_mem_nil, or_false] at hx
        rcases hx with rfl | rfl | rfl | rfl <;> rfl
      · simp only [List.mem_cons, List.not_mem_nil, or_false] at hp
        rcases hp with rfl | rfl | rfl | rfl <;> exact ⟨rfl, rfl, fun h => nomatch (show some NameKind.cell = some NameKind.local from h)⟩
      · have hi' : 1 + i < rs.length := by have := List.mem_range.mp hi; omega
        have i1 := hall r hrm (r.getD (1 + i) 0) (getD_mem (by omega))
        have i2 := hall r hrm (r.getD 0 0) (getD_mem (by omega))
        have i3 := hall head hhead (head.getD (1 + i) 0) (getD_mem (by omega))
        have i4 := hall head hhead first hfm
        have zr : (intD r).length ≤ sizeLine := by rw [intD_len]; omega
        have zh : (intD head).length ≤ sizeLine := by rw [intD_len]; omega
        have ok : ∀ {x y : Int}, sm x = true → sm y = true → IntMulOk x y := fun hx hy => IntMulOk.of_bits (Nat.le_trans (sm_bits hx) (by decide)) (Nat.le_trans (sm_bits hy) (by decide))
        exact Ev.bin (Ev.bin (Ev.bin (Ev.var rfl) (Ev.item (Ev.var rfl) (Ev.var rfl) (1 + i) (by omega) (intD_get (by omega)) zr) (op_mul (ok i4 i1))) (Ev.bin (Ev.item (Ev.var rfl) Ev.const_int 0 rfl (intD_get (by omega)) zr) (Ev.item (Ev.var rfl) (Ev.var rfl) (1 + i) (by omega) (intD_get (by omega)) zh) (op_mul (ok i2 i3))) op_sub) (Ev.var rfl) (op_floordiv hne (PyProof.noPylong_of_log2 (sm_log hsl)))
      · rw [rowF_eq (by omega) (by omega)]
        unfold intD
        rw [List.map_map]
        rfl
    · refine Ex.cons (Ex1.assign (Ev.var rfl) (actOf_cell rfl rfl)) (Ex.nilA ⟨?_, rfl, trivial⟩ rfl)
      show _ = some (D.list (matD (rs.tail.map (rowF first head last))))
      unfold matD
      rw [List.map_map]
      rfl
  · obtain ⟨j, h1, h2⟩ := hEnd
    have DI := detI_of (detOk_one h2)
    have hpos := DI.pos
    have hle := DI.le
    have hfin : detF rows = ((detGo rows.length (rows, 1)).1.getD 0 []).getD 0 0 := by unfold detF; simp only [headD_get]
    have hx := DI.sq _ (getD_mem (l := (detGo rows.length (rows, 1)).1) (d := []) (k := 0) hpos)
    exact Ex.last ((Ev.item (Ev.item (Ev.var rfl) Ev.const_int 0 rfl (matD_get hpos) (by rw [matD_len]; exact Nat.le_trans hle (by decide))) Ev.const_int 0 rfl (intD_get (by rw [hx]; exact hpos)) (by rw [intD_len, hx]; exact Nat.le_trans hle (by decide))).asD (by rw [hfin]))
end
end Mine

set_option Elab.async false
set_option maxRecDepth 100000
set_option linter.unusedVariables false
namespace Mine
open PySem PySem.W PySem.Calls PyProof.Rows

/-! ### Kirchhoff's table -/
def weightsF (rows : List Nat) (side : Nat) : List Int := List.replicate (rows.length - 1) 1 ++ [(side : Int)]
def spotsF (rows : List Nat) : List Nat := (List.range (rows.getLastD 0 - 1)).map (1 + ·)
def tieR (ps : List (Nat × Int)) (spot : Nat) : List Int := ps.map fun p => if decide ((p.1 : Int) > (spot : Int)) = true then -p.2 else 0
def tieC (spots : List Nat) (row : Nat) (w : Int) : List Int := spots.map fun (spot : Nat) => if decide ((row : Int) > (spot : Int)) = true then -w else 0
def ownL (l : List Nat) (k : Nat) (x : Int) : List Int := l.map fun (o : Nat) => if ((o : Int) == (k : Int)) = true then x else 0
def table1 (rows : List Nat) (side : Nat) : List (List Int) := (spotsF rows).map fun spot => ownL (spotsF rows) spot (-(tieR (rows.zip (weightsF rows side)) spot).sum) ++ tieR (rows.zip (weightsF rows side)) spot
def table2 (rows : List Nat) (side : Nat) : List (List Int) := (List.range rows.length).map fun place =>
  tieC (spotsF rows) (rows.getD place 0) ((weightsF rows side).getD place 0) ++ ownL (List.range rows.length) place ((weightsF rows side).getD place 0 * side - (tieC (spotsF rows) (rows.getD place 0) ((weightsF rows side).getD place 0)).sum)
def tableF (rows : List Nat) (side : Nat) : List (List Int) := table1 rows side ++ table2 rows side

theorem zip_nat_int (a : List Nat) (b : List Int) : (((natD a).zip (intD b)).map fun p => D.tup [p.1, p.2]) = (a.zip b).map fun p => D.tup [.int (p.1 : Nat), .int p.2] := by
  unfold natD intD
  rw [List.zip_map, List.map_map]
  rfl
theorem foldl_snocL {α β : Type} (g : α → β) : ∀ (l : List α) (acc : List β), l.foldl (fun acc x => acc ++ [g x]) acc = acc ++ l.map g
  | [], acc => by simp
  | x :: l, acc => by rw [List.foldl_cons, foldl_snocL g l, List.append_assoc]; rfl
theorem intD_map {α : Type} (l : List α) (g : α → Int) : intD (l.map g) = l.map fun x => D.int (g x) := by unfold intD; rw [List.map_map]; rfl
theorem natD_map {α : Type} (l : List α) (g : α → Nat) : natD (l.map g) = l.map fun x => D.int (g x : Nat) := by unfold natD; rw [List.map_map]; rfl
theorem seq_nat {a n : Nat} : intSeq (a : Int) 1 n = natD ((List.range n).map (a + ·)) := by
  rw [natD_map]
  unfold intSeq
  exact List.map_congr_left fun i _ => congrArg D.int (by omega)
theorem seq_zero {n : Nat} : intSeq 0 1 n = natD (List.range n) := by
  unfold intSeq natD
  exact List.map_congr_left fun i _ => congrArg D.int (by omega)
theorem intD_appI (a b : List Int) : intD (a ++ b) = intD a ++ intD b := List.map_append

section
variable {B : Bs} {a : Addr} {cd : Value}
theorem c_table (N : Blt B) (F : FnIn B "_law_table" a pw iTable cd) {rows : List Nat} {side : Nat} (h1 : 1 ≤ rows.length) (hz : rows.length ≤ 100) (hl1 : 1 ≤ rows.getLastD 0) (hl2 : rows.getLastD 0 ≤ 100) (hs : side < 2 ^ 64) : FSpec B 1 (.ref a) [.list (natD rows), .int side] (.list (matD (tableF rows side))) := by
  have hs2 : sizeLine = 2 ^ 24 := rfl
  have hzR : (natD rows).length ≤ sizeLine := by rw [natD_len]; omega
  refine F.spec (ps := ["rows", "side"]) (fun doc pm an ct vs h => ?_) rfl (by decide) (fun q hq => ?_) (by decide) fun doc pm an ct A s fz => ?_
  · match vs, h with
    | [u, v], _ => rfl
  · simp only [List.mem_cons, List.not_mem_nil, or_false] at hq
    rcases hq with rfl | rfl
    · exact .inr ⟨rfl, fun _ => rfl⟩
    · exact .inl rfl
  refine Ex.cons (Ex1.assign (d := .list (intD (weightsF rows side))) ((Ev.bin (Ev.bin (Ev.list (Evs.c1 Ev.const_int)) ((Ev.bin (Ev.cb N Boot.len (Evs.c1 (Ev.var rfl)) (f_lenL hzR) Keep.builtin) Ev.const_int op_sub).int (j := (rows.length - 1 : Nat)) (by rw [natD_len]; omega)) (op_mulL (by omega))) (Ev.list (Evs.c1 (Ev.var rfl))) (op_addL (by rw [List.length_replicate]; simp; omega))).asD ?_) (actOf_cell rfl rfl)) ?_
  · unfold weightsF intD
    rw [List.map_append, List.map_replicate]
    rfl
  have hwl : (weightsF rows side).length = rows.length := by unfold weightsF; simp; omega
  have hwm : ∀ x ∈ weightsF rows side, x = 1 ∨ x = side := fun x hx => by
    unfold weightsF at hx
    rcases List.mem_append.mp hx with q | q
    · exact .inl (List.mem_replicate.mp q).2
    · exact .inr (List.mem_singleton.mp q)
  refine Ex.cons (Ex1.assign (d := .list (natD (spotsF rows))) ((Ev.listRange (a := 1) (b := (rows.getLastD 0 : Nat)) (n := rows.getLastD 0 - 1) N (Evs.c2 Ev.const_int (Ev.itemLast (Ev.var rfl) (Ev.un Ev.const_int op_neg) (natD_last (by intro e; rw [e] at h1; simp at h1)))) (small_of (by omega) (by omega) (by omega) ?_) ?_ (by omega)).asD ?_) (.inl rfl)) ?_
  · rw [show ((rows.getLastD 0 : Nat) : Int) = ((rows.getLastD 0 - 1 : Nat) : Int) + 1 by omega, size_two]; omega
  · rw [show ((rows.getLastD 0 : Nat) : Int) = ((rows.getLastD 0 - 1 : Nat) : Int) + 1 by omega, size_two]
  · have e := seq_nat (a := 1) (n := rows.getLastD 0 - 1)
    exact congrArg D.list e
  have hsp : (spotsF rows).length ≤ 100 := by unfold spotsF; rw [List.length_map, List.length_range]; omega
  have hzS : (natD (spotsF rows)).length ≤ sizeLine := by rw [natD_len]; omega
  have hzW : (intD (weightsF rows side)).length ≤ sizeLine := by rw [intD_len]; omega
  have ht1 : table1 rows side = (spotsF rows).map fun spot => ownL (spotsF rows) spot (-(tieR (rows.zip (weightsF rows side)) spot).sum) ++ tieR (rows.zip (weightsF rows side)) spot := rfl
  have ht2 : table2 rows side = (List.range rows.length).map fun place => tieC (spotsF rows) (rows.getD place 0) ((weightsF rows side).getD place 0) ++ ownL (List.range rows.length) place ((weightsF rows side).getD place 0 * side - (tieC (spotsF rows) (rows.getD place 0) ((weightsF rows side).getD place 0)).sum) := rfl
  have htf : tableF rows side = table1 rows side ++ table2 rows side := rfl
  have htl1 : (table1 rows side).length ≤ 100 := by rw [ht1, List.length_map]; exact hsp
  generalize spotsF rows = spots at *
  generalize weightsF rows side = ws at *
  refine Ex.assignNew (w := .lst (matD [])) (EvNew.list Evs.nil) (.inl rfl) fun aT => ?_
  refine Ex.cons (Ex1.for (vals := natD spots) (EvIt.of (Ev.var rfl) ItMake.list)
    (Turns.foldA (fun (c : Nat) => D.int (c : Nat)) (fun acc spot => acc ++ [ownL spots spot (-(tieR (rows.zip ws) spot).sum) ++ tieR (rows.zip ws) spot]) (fun _ => [("rows", .list (natD rows)), ("weights", .list (intD ws)), ("spots", .list (natD spots)), ("side", .int side), ("table", .raw (.ref aT))]) (fun acc => [(aT, .lst (matD acc))]) spots [] _ ⟨rfl, rfl, rfl, rfl, rfl, trivial⟩ (fun _ => ⟨rfl, rfl, rfl, rfl, rfl, trivial⟩) (fun pre spot post he => ?_) rfl)) ?_
  · have hpl : pre.length ≤ spots.length := by rw [he]; simp
    rw [foldl_snocL, List.nil_append]
    refine ⟨fun _ h => h, _, Asg.name (actOf_cell rfl rfl), ?_⟩
    refine Ex.cons (Ex1.assign (Ev.comp (vals := (rows.zip ws).map fun p => D.tup [.int (p.1 : Nat), .int p.2]) (rs := (rows.zip ws).map fun p => D.int (if decide ((p.1 : Int) > (spot : Int)) = true then -p.2 else 0)) (ρc := [("spot", .int spot)])
      ((EvIt.cb N Boot.zip (Evs.c2 (Ev.var rfl) (Ev.var rfl)) CMake.zip2 Keep.type).as (zip_nat_int rows ws)) (free_ok ["spot"] (by decide) fun x hx => ?_) rfl (by decide) (fun p hp => ?_)
      (fun L s₀ fz₀ wr => CT.map (fun (p : Nat × Int) => D.tup [.int (p.1 : Nat), .int p.2]) _ _ fun p hp => ⟨_, Asg.tup (xs := [("row", _), ("weight", _)]) rfl rfl (fun x hx => ?_), ⟨rfl, trivial⟩, Ev.iteI (Et.cmp (Ev.var rfl) (Ev.var rfl) op_gt) (Ev.un (Ev.var rfl) op_neg) Ev.const_int⟩) (by rw [List.length_map, List.length_zip]; omega)) (actOf_cell rfl rfl)) ?_
    · rw [List.mem_singleton.mp hx]; rfl
    · rw [List.mem_singleton.mp hp]; exact ⟨rfl, rfl, fun h => nomatch (show some NameKind.cell = some NameKind.local from h)⟩
    · simp only [List.mem_cons, List.not_mem_nil, or_false] at hx
      rcases hx with rfl | rfl <;> exact .inl rfl
    have etr : tieR (rows.zip ws) spot = (rows.zip ws).map fun p => if decide ((p.1 : Int) > (spot : Int)) = true then -p.2 else 0 := rfl
    have etl : (tieR (rows.zip ws) spot).length ≤ 100 := by rw [etr, List.length_map, List.length_zip]; omega
    rw [← intD_map, ← etr]
    generalize tieR (rows.zip ws) spot = tie at *
    refine Ex.cons (Ex1.append (O₁ := []) (O₂ := []) rfl ((Ev.bin (Ev.comp (vals := natD spots) (rs := spots.map fun (o : Nat) => D.int (if ((o : Int) == (spot : Int)) = true then -tie.sum else 0)) (ρc := [("ties", .list (intD tie)), ("spot", .int spot)])
      (EvIt.of (Ev.var rfl) ItMake.list) (free_ok ["ties", "spot"] (by decide) fun x hx => ?_) rfl (by decide) (fun p hp => ?_)
      (fun L s₀ fz₀ wr => CT.map (fun (c : Nat) => D.int (c : Nat)) _ _ fun o ho => ⟨_, Asg.name (.inl rfl), ⟨rfl, rfl, trivial⟩, Ev.iteI (Et.cmp (Ev.var rfl) (Ev.var rfl) op_eq) (Ev.un (Ev.cb N Boot.sum (Evs.c1 (Ev.var rfl)) f_sum Keep.builtin) op_neg) Ev.const_int⟩) hzS) (Ev.var rfl) (op_addL (by rw [List.length_map, intD_len]; omega))).asD
      (d' := .list (intD (ownL spots spot (-tie.sum) ++ tie))) ?_) (by rw [matD_len, List.length_map]; omega)) (Ex.nilA ⟨rfl, rfl, rfl, rfl, rfl, trivial⟩ ?_)
    · simp only [List.mem_cons, List.not_mem_nil, or_false] at hx
      rcases hx with rfl | rfl <;> rfl
    · simp only [List.mem_cons, List.not_mem_nil, or_false] at hp
      rcases hp with rfl | rfl <;> exact ⟨rfl, rfl, fun h => nomatch (show some NameKind.cell = some NameKind.local from h)⟩
    · unfold ownL
      rw [intD_appI, intD_map]
    · show [_] = [_]
      unfold matD
      rw [List.map_append]
      rfl
  rw [foldl_snocL, List.nil_append, ← ht1]
  refine Ex.cons (Ex1.for (vals := natD (List.range rows.length)) ((EvIt.cb N Boot.range (Evs.c1 (Ev.cb N Boot.len (Evs.c1 (Ev.var rfl)) (f_lenL hzR) Keep.builtin)) (CMake.range1 (by trivial) (small_of (by omega) (by rw [natD_len]; omega) (by omega) (by rw [size_one, natD_len]; omega)) (by rw [size_one, natD_len])) Keep.type).as seq_zero)
    (Turns.foldA (fun (c : Nat) => D.int (c : Nat)) (fun acc place => acc ++ [tieC spots (rows.getD place 0) (ws.getD place 0) ++ ownL (List.range rows.length) place (ws.getD place 0 * side - (tieC spots (rows.getD place 0) (ws.getD place 0)).sum)]) (fun _ => [("rows", .list (natD rows)), ("weights", .list (intD ws)), ("spots", .list (natD spots)), ("side", .int side), ("table", .raw (.ref aT))]) (fun acc => [(aT, .lst (matD acc))]) (List.range rows.length) (table1 rows side) _ ⟨rfl, rfl, rfl, rfl, rfl, trivial⟩ (fun _ => ⟨rfl, rfl, rfl, rfl, rfl, trivial⟩) (fun pre place post he => ?_) rfl)) ?_
  · have hpl : pre.length ≤ rows.length := by have := congrArg List.length he; simp at this; omega
    have hpr : place < rows.length := by
      have : place ∈ List.range rows.length := by rw [he]; simp
      exact List.mem_range.mp this
    rw [foldl_snocL]
    have hw := hwm _ (getD_mem (d := 0) (by omega : place < ws.length))
    have iw := intD_get (l := ws) (k := place) (by omega)
    have ir := natD_get (l := rows) (k := place) hpr
    generalize hwe : ws.getD place 0 = wt at *
    generalize hre : rows.getD place 0 = rw_ at *
    refine ⟨fun _ h => h, _, Asg.name (actOf_cell rfl rfl), ?_⟩
    refine Ex.cons (Ex1.assign (Ev.comp (vals := natD spots) (rs := spots.map fun (sp : Nat) => D.int (if decide ((rw_ : Int) > (sp : Int)) = true then -wt else 0)) (ρc := [("weights", .list (intD ws)), ("place", .int place), ("rows", .list (natD rows))])
      (EvIt.of (Ev.var rfl) ItMake.list) (free_ok ["weights", "place", "rows"] (by decide) fun x hx => ?_) rfl (by decide) (fun p hp => ?_)
      (fun L s₀ fz₀ wr => CT.map (fun (c : Nat) => D.int (c : Nat)) _ _ fun p hp => ⟨_, Asg.name (.inl rfl), ⟨rfl, rfl, rfl, trivial⟩, Ev.iteI (Et.cmp (Ev.item (Ev.var rfl) (Ev.var rfl) place rfl ir hzR) (Ev.var rfl) op_gt) (Ev.un (Ev.item (Ev.var rfl) (Ev.var rfl) place rfl iw hzW) op_neg) Ev.const_int⟩) hzS) (actOf_cell rfl rfl)) ?_
    · simp only [List.mem_cons, List.not_mem_nil, or_false] at hx
      rcases hx with rfl | rfl | rfl <;> rfl
    · simp only [List.mem_cons, List.not_mem_nil, or_false] at hp
      rcases hp with rfl | rfl | rfl <;> exact ⟨rfl, rfl, fun h => nomatch (show some NameKind.cell = some NameKind.local from h)⟩
    have etr : tieC spots rw_ wt = spots.map fun (sp : Nat) => if decide ((rw_ : Int) > (sp : Int)) = true then -wt else 0 := rfl
    have etl : (tieC spots rw_ wt).length ≤ 100 := by rw [etr, List.length_map]; omega
    rw [← intD_map, ← etr]
    generalize tieC spots rw_ wt = tie at *
    have hb64 : Builtin.Int.intBits (side : Int) ≤ 64 := bits_le hs
    refine Ex.cons (Ex1.assign (d := .int (wt * side - tie.sum)) (Ev.bin (Ev.bin (Ev.item (Ev.var rfl) (Ev.var rfl) place rfl iw hzW) (Ev.var rfl) (op_mul (.of_right hb64))) (Ev.cb N Boot.sum (Evs.c1 (Ev.var rfl)) f_sum Keep.builtin) op_sub) (actOf_cell rfl rfl)) ?_
    refine Ex.cons (Ex1.append (O₁ := []) (O₂ := []) rfl ((Ev.bin (Ev.var rfl) (Ev.comp (vals := natD (List.range rows.length)) (rs := (List.range rows.length).map fun (o : Nat) => D.int (if ((o : Int) == (place : Int)) = true then wt * side - tie.sum else 0)) (ρc := [("own", .int (wt * side - tie.sum)), ("place", .int place)])
      ((EvIt.cb N Boot.range (Evs.c1 (Ev.cb N Boot.len (Evs.c1 (Ev.var rfl)) (f_lenL hzR) Keep.builtin)) (CMake.range1 (by trivial) (small_of (by omega) (by rw [natD_len]; omega) (by omega) (by rw [size_one, natD_len]; omega)) (by rw [size_one, natD_len])) Keep.type).as seq_zero)
      (free_ok ["own", "place"] (by decide) fun x hx => ?_) rfl (by decide) (fun p hp => ?_)
      (fun L s₀ fz₀ wr => CT.map (fun (c : Nat) => D.int (c : Nat)) _ _ fun o ho => ⟨_, Asg.name (.inl rfl), ⟨rfl, rfl, trivial⟩, Ev.iteI (Et.cmp (Ev.var rfl) (Ev.var rfl) op_eq) (Ev.var rfl) Ev.const_int⟩) (by rw [natD_len, List.length_range]; omega)) (op_addL (by rw [intD_len, List.length_map, List.length_range]; omega))).asD
      (d' := .list (intD (tie ++ ownL (List.range rows.length) place (wt * side - tie.sum)))) ?_) (by rw [matD_len, List.length_append, List.length_map]; omega)) (Ex.nilA ⟨rfl, rfl, rfl, rfl, rfl, trivial⟩ ?_)
    · simp only [List.mem_cons, List.not_mem_nil, or_false] at hx
      rcases hx with rfl | rfl <;> rfl
    · simp only [List.mem_cons, List.not_mem_nil, or_false] at hp
      rcases hp with rfl | rfl <;> exact ⟨rfl, rfl, fun h => nomatch (show some NameKind.cell = some NameKind.local from h)⟩
    · unfold ownL
      rw [intD_appI, intD_map]
    · show [_] = [_]
      unfold matD
      rw [List.map_append (l₂ := [_])]
      rfl
  · rw [foldl_snocL, ← ht2, ← htf]
    refine Ex.freeze (ρ' := [("table", .list (matD (tableF rows side)))]) rfl (fun p hp => ?_) (Ex.last (Ev.var rfl))
    rw [List.mem_singleton.mp hp]; exact .inr ⟨rfl, rfl⟩
end
end Mine

set_option Elab.async false
set_option maxRecDepth 100000
set_option linter.unusedVariables false
namespace Mine
open PySem PySem.W PySem.Calls PyProof.Rows

def endsL : List (List Nat) := [[10], [13], [13, 10]]
def countsL (p q r : Nat) : List Nat := [1 + p, q, r]
def stairL (p q r : Nat) : List Nat := joinL [] ((countsL p q r).map fun k => mulS [46] k ++ [10])
def mailL (p q r : Nat) (t : Bool) : List Nat := if t then turnL (stairL p q r) else stairL p q r
def sentL (m : List Nat) (e : Nat) : List Nat := quoteF (joinL (endsL.getD e []) (splitS [10] 0 m))
/-- each row one dot longer, both signs behind it -/
def longL (m : List Nat) : List (List Nat) := (splitS [10] 0 m).dropLast.map fun row => row ++ mulS [46] (min row.length 1) ++ [13, 10]
def wantL (m : List Nat) : List Nat := joinL [] (longL m)
def rowsL (s : List Nat) : List Nat := reachF (splitS [13, 10] 0 s).dropLast
def plainL (s : List Nat) : List Nat := joinL [10] (splitS [13, 10] 0 s)
def colsL (s : List Nat) : List Nat := reachF (splitS [10] 0 (turnL (plainL s))).dropLast
def toldL (rows : List Nat) : List Int := (List.range (rows.getLastD 0)).map fun (i : Nat) => ((rows.filter fun (row : Nat) => decide ((row : Int) > (rows.getLastD 0 : Int) - 1 + (i : Int) * -1)).length : Int)
def shapes : List (Nat × Nat × Nat × Bool) := [0, 1].flatMap fun p => [0, 1, 2].flatMap fun q => [0, 1].flatMap fun r => [false, true].map fun t => (p, q, r, t)
def okParts (l : List (List Nat)) : Bool := Nat.ble l.length 200 && l.all fun r => Nat.ble r.length 200
def okText (x : Nat × Nat × Nat × Bool) : Bool :=
  let m := mailL x.1 x.2.1 x.2.2.1 x.2.2.2
  let s := wantL m
  let rows := rowsL s
  let cols := colsL s
  m.length ≤ 100 && Nat.ble 1 (stairL x.1 x.2.1 x.2.2.1).length && (stairL x.1 x.2.1 x.2.2.1).length ≤ 100 && (stairL x.1 x.2.1 x.2.2.1).all (Nat.ble · 255) && ((List.range 3).all fun e => sentL m e == s) && s.length ≤ 100 && Nat.ble 1 (plainL s).length && (plainL s).length ≤ 100 && (plainL s).all (Nat.ble · 255) &&
    (cols.map fun (c : Nat) => (c : Int)) == toldL rows && Nat.ble 1 rows.length && rows.length ≤ 50 && Nat.ble 1 (rows.getLastD 0) && rows.getLastD 0 ≤ 50 && Nat.ble 1 cols.length && cols.length ≤ 50 && Nat.ble 1 (cols.getLastD 0) && cols.getLastD 0 ≤ 50 &&
    ((List.range 3).all fun e => Nat.ble (joinL (endsL.getD e []) (splitS [10] 0 m)).length 200) && okParts (splitS [10] 0 m) && okParts (splitS [13, 10] 0 s) && okParts (splitS [10] 0 (turnL (plainL s))) && Nat.ble ((longL m).map (·.length)).sum 1000 && Nat.ble (turnL (plainL s)).length 200
theorem dec_text : shapes.all okText = true := by decide +kernel

def factorsL (rows cols : List Nat) : List Int := (rows.dropLast ++ cols.dropLast).map fun (c : Nat) => (c : Int) - 1
def prodOk (start : Int) (l : List Int) : Bool := ((List.range (l.length + 1)).all fun k => sm (prodF start (l.take k))) && l.all sm
def okSpare (trees : Int) (fs : List Int) (side : Nat) (spare : Nat) : Bool :=
  let d1 : Int := side + spare
  let pr := fs.map fun f => f - (spare : Int)
  let v := prodF ((spare : Int) ^ 2) pr
  prodOk ((spare : Int) ^ 2) pr && trees.fmod d1 == v.fmod d1 && trees.fmod (-side - spare) == v.fmod (-side - spare)
def okDet (rows cols : List Nat) (width : Nat) : Bool :=
  let side := 2 ^ width
  let tb := tableF rows side
  let trees := detF tb
  let fs := factorsL rows cols
  let sq := prodF 1 ((rows ++ cols).map fun (c : Nat) => (c : Int))
  let by_ : Int := (rows.getLastD 0 : Int) * (cols.getLastD 0 : Int)
  detOk tb.length (tb, 1) && sm trees && trees == ((trees.toNat : Nat) : Int) && partOk trees (fs.map fun f => (side : Int) + f) && partF trees (fs.map fun f => (side : Int) + f) == (side : Int) ^ 2 &&
    ((List.range 9).all (okSpare trees fs side)) && prodOk 1 ((rows ++ cols).map fun (c : Nat) => (c : Int)) &&
    sq.fdiv by_ == ((digs width trees.toNat).map fun (c : Nat) => (c : Int)).sum && sq.fmod by_ == 0
def widths : List Nat := (List.range 15).map (18 + ·)
def okShape (x : Nat × Nat × Nat × Bool) : Bool :=
  let s := wantL (mailL x.1 x.2.1 x.2.2.1 x.2.2.2)
  let rows := rowsL s
  let cols := colsL s
  widths.all (okDet rows cols)
set_option maxHeartbeats 4000000 in
theorem dec_shapes : shapes.all okShape = true := by decide +kernel
end Mine

set_option Elab.async false
set_option maxRecDepth 100000
set_option linter.unusedVariables false
namespace Mine
open PySem PySem.W PySem.Calls PyProof.Rows

theorem shapes_mem {p q r : Nat} {t : Bool} (hp : p < 2) (hq : q < 3) (hr : r < 2) : (p, q, r, t) ∈ shapes := by
  have h1 : p = 0 ∨ p = 1 := by omega
  have h2 : q = 0 ∨ q = 1 ∨ q = 2 := by omega
  have h3 : r = 0 ∨ r = 1 := by omega
  rcases h1 with rfl | rfl <;> rcases h2 with rfl | rfl | rfl <;> rcases h3 with rfl | rfl <;> cases t <;> decide
structure TextFacts (p q r : Nat) (t : Bool) (m s : List Nat) (rows cols : List Nat) : Prop where
  ml : m.length ≤ 100
  st1 : 1 ≤ (stairL p q r).length
  st2 : (stairL p q r).length ≤ 100
  st3 : ∀ x ∈ stairL p q r, x < 256
  sent : ∀ e < 3, sentL m e = s
  sl : s.length ≤ 100
  pl1 : 1 ≤ (plainL s).length
  pl2 : (plainL s).length ≤ 100
  pl3 : ∀ x ∈ plainL s, x < 256
  told : (cols.map fun (c : Nat) => (c : Int)) = toldL rows
  r1 : 1 ≤ rows.length
  r2 : rows.length ≤ 50
  r3 : 1 ≤ rows.getLastD 0
  r4 : rows.getLastD 0 ≤ 50
  k1 : 1 ≤ cols.length
  k2 : cols.length ≤ 50
  k3 : 1 ≤ cols.getLastD 0
  k4 : cols.getLastD 0 ≤ 50
  jl : ∀ e < 3, (joinL (endsL.getD e []) (splitS [10] 0 m)).length ≤ 200
  q1 : (splitS [10] 0 m).length ≤ 200 ∧ ∀ x ∈ splitS [10] 0 m, x.length ≤ 200
  q2 : (splitS [13, 10] 0 s).length ≤ 200 ∧ ∀ x ∈ splitS [13, 10] 0 s, x.length ≤ 200
  q3 : (splitS [10] 0 (turnL (plainL s))).length ≤ 200 ∧ ∀ x ∈ splitS [10] 0 (turnL (plainL s)), x.length ≤ 200
  lg : ((longL m).map (·.length)).sum ≤ 1000
  tl : (turnL (plainL s)).length ≤ 200
theorem parts_of {l : List (List Nat)} (h : okParts l = true) : l.length ≤ 200 ∧ ∀ x ∈ l, x.length ≤ 200 := by
  unfold okParts at h
  rw [Bool.and_eq_true, Nat.ble_eq, List.all_eq_true] at h
  exact ⟨h.1, fun x hx => Nat.ble_eq.mp (h.2 x hx)⟩
theorem text_facts {p q r : Nat} {t : Bool} (hp : p < 2) (hq : q < 3) (hr : r < 2) : TextFacts p q r t (mailL p q r t) (wantL (mailL p q r t)) (rowsL (wantL (mailL p q r t))) (colsL (wantL (mailL p q r t))) := by
  have h := List.all_eq_true.mp dec_text _ (shapes_mem (t := t) hp hq hr)
  unfold okText at h
  dsimp only at h
  simp only [Bool.and_eq_true, decide_eq_true_eq, Nat.ble_eq, List.all_eq_true, beq_iff_eq, List.mem_range] at h
  obtain ⟨⟨⟨⟨⟨⟨⟨⟨⟨⟨⟨⟨⟨⟨⟨⟨⟨⟨⟨⟨⟨⟨⟨h1, h2⟩, h3⟩, h4⟩, h5⟩, h6⟩, h7⟩, h8⟩, h9⟩, h10⟩, h11⟩, h12⟩, h13⟩, h14⟩, h15⟩, h16⟩, h17⟩, h18⟩, h19⟩, h20⟩, h21⟩, h22⟩, h23⟩, h24⟩ := h
  exact ⟨h1, h2, h3, fun x hx => Nat.lt_succ_of_le (h4 x hx), h5, h6, h7, h8, fun x hx => Nat.lt_succ_of_le (h9 x hx), h10, h11, h12, h13, h14, h15, h16, h17, h18, h19, parts_of h20, parts_of h21, parts_of h22, h23, h24⟩
theorem det_facts {p q r w : Nat} {t : Bool} (hp : p < 2) (hq : q < 3) (hr : r < 2) (h1 : 18 ≤ w) (h2 : w < 33) : okDet (rowsL (wantL (mailL p q r t))) (colsL (wantL (mailL p q r t))) w = true := by
  have h := List.all_eq_true.mp dec_shapes _ (shapes_mem (t := t) hp hq hr)
  unfold okShape at h
  dsimp only at h
  exact List.all_eq_true.mp h w (List.mem_map.mpr ⟨w - 18, List.mem_range.mpr (by omega), by omega⟩)
structure DetFacts (rows cols : List Nat) (w x : Nat) : Prop where
  det : detOk (tableF rows (2 ^ w)).length (tableF rows (2 ^ w), 1) = true
  eq : detF (tableF rows (2 ^ w)) = (x : Int)
  smx : sm (x : Int) = true
  part : partOk (x : Int) ((factorsL rows cols).map fun f => ((2 ^ w : Nat) : Int) + f) = true
  partv : partF (x : Int) ((factorsL rows cols).map fun f => ((2 ^ w : Nat) : Int) + f) = ((2 ^ w : Nat) : Int) ^ 2
  spare : ∀ sp < 9, okSpare (x : Int) (factorsL rows cols) (2 ^ w) sp = true
  prod : prodOk 1 ((rows ++ cols).map fun (c : Nat) => (c : Int)) = true
  q : (prodF 1 ((rows ++ cols).map fun (c : Nat) => (c : Int))).fdiv ((rows.getLastD 0 : Int) * (cols.getLastD 0 : Int)) = ((digs w x).map fun (c : Nat) => (c : Int)).sum
  r : (prodF 1 ((rows ++ cols).map fun (c : Nat) => (c : Int))).fmod ((rows.getLastD 0 : Int) * (cols.getLastD 0 : Int)) = 0
theorem detFacts_of {rows cols : List Nat} {w : Nat} (h : okDet rows cols w = true) : ∃ x, DetFacts rows cols w x := by
  unfold okDet at h
  dsimp only at h
  simp only [Bool.and_eq_true, List.all_eq_true, beq_iff_eq, List.mem_range] at h
  obtain ⟨⟨⟨⟨⟨⟨⟨⟨h1, h2⟩, h3⟩, h4⟩, h5⟩, h6⟩, h7⟩, h8⟩, h9⟩ := h
  refine ⟨(detF (tableF rows (2 ^ w))).toNat, h1, h3, ?_, ?_, ?_, ?_, h7, h8, h9⟩
  · rw [← h3]; exact h2
  · rw [← h3]; exact h4
  · rw [← h3]; exact h5
  · rw [← h3]; exact h6
theorem prodOk_of {start : Int} {l : List Int} (h : prodOk start l = true) : (∀ k ≤ l.length, sm (prodF start (l.take k)) = true) ∧ ∀ x ∈ l, sm x = true := by
  unfold prodOk at h
  simp only [Bool.and_eq_true, List.all_eq_true, List.mem_range] at h
  exact ⟨fun k hk => h.1 k (by omega), h.2⟩
def cells1 (dr : List Int) : List Int := dr ++ ([2, 4, 22] : List Int).drop dr.length
theorem cells1_shape {dr : List Int} (h : ∀ x ∈ dr, 0 ≤ x ∧ x < 1000000) (hl : dr.length ≤ 3) : ∃ c0 c1 c2 : Nat, cells1 dr = [(c0 : Int), (c1 : Int), (c2 : Int)] ∧ c0 < 1000000 ∧ c1 < 1000000 ∧ c2 < 1000000 := by
  have key : ∀ a b c : Int, 0 ≤ a ∧ a < 1000000 → 0 ≤ b ∧ b < 1000000 → 0 ≤ c ∧ c < 1000000 → ∃ c0 c1 c2 : Nat, [a, b, c] = [(c0 : Int), (c1 : Int), (c2 : Int)] ∧ c0 < 1000000 ∧ c1 < 1000000 ∧ c2 < 1000000 := by
    intro a b c ha hb hc
    refine ⟨a.toNat, b.toNat, c.toNat, ?_, by omega, by omega, by omega⟩
    rw [Int.toNat_of_nonneg (by omega), Int.toNat_of_nonneg (by omega), Int.toNat_of_nonneg (by omega)]
  match dr, h, hl with
  | [], h, _ => exact key 2 4 22 (by decide) (by decide) (by decide)
  | [a], h, _ => exact key a 4 22 (h a (by simp)) (by decide) (by decide)
  | [a, b], h, _ => exact key a b 22 (h a (by simp)) (h b (by simp)) (by decide)
  | [a, b, c], h, _ => exact key a b c (h a (by simp)) (h b (by simp)) (h c (by simp))
  | _ :: _ :: _ :: _ :: _, _, hl => simp at hl
theorem strD_len (l : List (List Nat)) : (strD l).length = l.length := List.length_map _

/-- the defs of the first law -/
structure Fns1 (B : Bs) (aI aD aP a2 aM aS aQ p1 p2 aT aR aTb aDt aPr aPt aL : Addr) (tI tD : NestTab) (cP c2 cM cS cQ cT cR cTb cDt cPr cPt cL : Value) : Prop where
  M : NumFns B aI aD aP a2 aM tI tD cP c2 cM
  Q : QFns B aQ p1 p2 cQ
  fS : FnIn B "_byteswap" aS pw iSwap cS
  fT : FnIn B "_law_turned" aT pw iTurned cT
  fR : FnIn B "_law_reach" aR pw iReach cR
  fTb : FnIn B "_law_table" aTb pw iTable cTb
  fDt : FnIn B "_law_determinant" aDt pw iDet cDt
  fPr : FnIn B "_law_product" aPr pw iProd cPr
  fPt : FnIn B "_law_parted" aPt pw iParted cPt
  fL : FnIn B "law" aL pw iLaw cL
  nb : NB B

section
variable {B : Bs} {aI aD aP a2 aM aS aQ p1 p2 aT aR aTb aDt aPr aPt aL : Addr} {tI tD : NestTab} {cP c2 cM cS cQ cT cR cTb cDt cPr cPt cL : Value}
set_option maxHeartbeats 4000000 in
theorem c_law (X : Fns1 B aI aD aP a2 aM aS aQ p1 p2 aT aR aTb aDt aPr aPt aL tI tD cP c2 cM cS cQ cT cR cTb cDt cPr cPt cL) {ns : List Int} (hn : ns.length ≤ 63) : FSpecC B 22 (.ref aL) [.list (intD ns)] (.bool true) := by
  have hs2 : sizeLine = 2 ^ 24 := rfl
  have N := X.M.N
  have hd0 : ∀ x ∈ drawnI ns 3, 0 ≤ x ∧ x < 1000000 := drawnI_mem
  have hdl : (drawnI ns 3).length ≤ 3 := drawnI_len
  obtain ⟨c0, c1, c2, hcells, b0, b1, b2⟩ := cells1_shape hd0 hdl
  refine X.fL.specC (ps := ["script"]) (fun doc pm an ct vs h => ?_) rfl (by decide) (fun q hq => ?_) (by decide) fun doc pm an ct A s fz => ?_
  · match vs, h with
    | [u], _ => rfl
  · simp only [List.mem_cons, List.not_mem_nil, or_false] at hq
    rcases hq with rfl
    exact .inl rfl
  -- drawn
  refine ExC.cons (Ex1C.of (Ex1.assignComp (ρc := []) (vals := (ns.take 3).map D.int) (rs := (ns.take 3).map fun c => D.int (c.fmod 1000000)) (EvIt.of ((Ev.slice (Ev.var rfl) Epart.none (Epart.some Ev.const_int) (by rw [intD_len]; omega)).asD (by rw [show (3 : Int) = ((3 : Nat) : Int) from rfl, cut_take]; unfold intD; rw [List.map_take])) ItMake.list) (.inl rfl)
    (free_no (by decide)) rfl (by decide) cap_no (fun L s₀ fz₀ wr => CT.map D.int _ _ fun c hc => ⟨_, Asg.name (.inl rfl), trivial, Ev.bin (Ev.cb N Boot.int (Evs.c1 (Ev.var rfl)) f_int Keep.type) ((Ev.bin Ev.const_int Ev.const_int (op_pow (by decide) (by decide))).int (show _ = (1000000 : Int) by decide)) (op_mod (by decide))⟩) (by rw [List.length_map, List.length_take]; omega))) ?_
  rw [show ((ns.take 3).map fun c => D.int (c.fmod 1000000)) = intD (drawnI ns 3) by unfold intD drawnI; rw [List.map_map]; rfl]
  generalize drawnI ns 3 = dr at *
  -- cells
  refine ExC.cons (Ex1C.of (Ex1.assign (d := .list (natD [c0, c1, c2])) ((Ev.bin (Ev.var rfl) ((Ev.slice (Ev.list (Evs.c3 Ev.const_int Ev.const_int Ev.const_int)) (Epart.some (Ev.cb N Boot.len (Evs.c1 (Ev.var rfl)) (f_lenL (by rw [intD_len]; omega)) Keep.builtin)) Epart.none (Nat.le_of_ble_eq_true rfl)).asD (congrArg D.list (cut_tail _ _))) (op_addL ?_)).asD ?_) (.inl rfl))) ?_
  · rw [intD_len, List.length_drop]; simp; omega
  · rw [intD_len]
    have e : D.list (intD dr ++ ([2, 4, 22].map D.int).drop dr.length) = .list (intD (cells1 dr)) := by
      unfold cells1
      rw [intD_appI]
      unfold intD
      rw [List.map_drop]
    exact e.trans (by rw [hcells]; rfl)
  clear hcells hd0 hdl
  -- counts
  refine ExC.cons (Ex1C.of (Ex1.assign (d := .list (natD (countsL (c0 % 2) (c1 % 3) (c2 % 2)))) (Ev.list (Evs.c3 ((Ev.bin Ev.const_int (Ev.bin (Ev.item (Ev.var rfl) Ev.const_int 0 rfl rfl (Nat.le_of_ble_eq_true rfl)) Ev.const_int (op_mod (by decide))) op_add).int ?_)
    ((Ev.bin (Ev.item (Ev.var rfl) Ev.const_int 1 rfl rfl (Nat.le_of_ble_eq_true rfl)) Ev.const_int (op_mod (by decide))).int (fmod_nat c1 3)) ((Ev.bin (Ev.item (Ev.var rfl) Ev.const_int 2 rfl rfl (Nat.le_of_ble_eq_true rfl)) Ev.const_int (op_mod (by decide))).int (fmod_nat c2 2)))) (.inl rfl))) ?_
  · show (1 : Int) + (c0 : Int).fmod ((2 : Nat) : Int) = _
    rw [fmod_nat]; push_cast; rfl
  have hp : c0 % 2 < 2 := by omega
  have hq : c1 % 3 < 3 := by omega
  have hr : c2 % 2 < 2 := by omega
  generalize c0 % 2 = p at *
  generalize c1 % 3 = q at *
  generalize c2 % 2 = r at *
  have hcn : ∀ c ∈ countsL p q r, c ≤ 3 := fun c hc => by
    simp only [countsL, List.mem_cons, List.not_mem_nil, or_false] at hc
    omega
  -- stair
  refine ExC.cons (Ex1C.of (Ex1.assign (d := .str (stairL p q r)) (Ev.meth Ev.const_str (Evs.c1 ((Ev.comp (ρc := []) (vals := (countsL p q r).map fun (c : Nat) => D.int c) (rs := (countsL p q r).map fun (c : Nat) => D.str (mulS [46] c ++ [10])) (EvIt.of (Ev.var rfl) ItMake.list)
    (free_no (by decide)) rfl (by decide) cap_no (fun L s₀ fz₀ wr => CT.map (fun (c : Nat) => D.int c) _ _ fun c hc => ⟨_, Asg.name (.inl rfl), trivial, Ev.bin (Ev.bin (Ev.const_str (x := ".")) (Ev.var rfl) (op_mulS (l := [46]) (by have := hcn c hc; simp; omega) (by have := hcn c hc; omega))) (Ev.const_str (x := "\n")) (op_addS (x := mulS [46] c) (y := [10]) (by have := hcn c hc; rw [mulS_len]; simp; omega))⟩) (Nat.le_of_ble_eq_true rfl)).asD
      (d' := .list (strD ((countsL p q r).map fun k => mulS [46] k ++ [10]))) (by unfold strD; rw [List.map_map]; rfl))) DTy.str F.plainAttrs_str F.slot_str_join F.type_str_join (f_join (ls := (countsL p q r).map fun k => mulS [46] k ++ [10]) ?_)) (.inl rfl))) ?_
  · have hml : ∀ k, (mulS [46] k ++ [10]).length = k + 1 := fun k => by rw [List.length_append, mulS_len]; simp
    simp only [countsL, List.map_cons, List.map_nil, List.sum_cons, List.sum_nil, List.length_cons, List.length_nil, hml]
    show _ + _ * 0 ≤ _
    omega
  -- mail
  obtain ⟨tw, htw⟩ : ∃ tw, ((((c0 : Int).fdiv 2).fmod 2) == 1) = tw := ⟨_, rfl⟩
  have T := text_facts (t := tw) hp hq hr
  refine ExC.cons (Ex1C.assign (d := .str (mailL p q r tw)) (EvC.ite (c := tw) ((Et.cmp (Ev.bin (Ev.bin (Ev.item (Ev.var rfl) Ev.const_int 0 rfl rfl (Nat.le_of_ble_eq_true rfl)) Ev.const_int (op_floordiv (by decide) (PyProof.noPylong_small (by omega)))) Ev.const_int (op_mod (by decide))) Ev.const_int op_eq).as htw) (fun h => ?_) fun h => ?_) (.inl rfl)) ?_
  · subst h
    exact EvC.cf X.fT (EvsC.of (Evs.c1 (Ev.var rfl))) (c_turned N X.fS X.fT T.st1 (by have := T.st2; omega) T.st3) (Nat.le_add_left _ _)
  · subst h
    exact EvC.of (Ev.var rfl)
  clear htw
  -- ends
  have hen : c1 / 3 % 3 < 3 := by omega
  obtain ⟨z, hz, hz2⟩ : ∃ z, (["\n", "\r", "\r\n"] : List Str)[c1 / 3 % 3]? = some z ∧ z.cps.toList = endsL.getD (c1 / 3 % 3) [] := by
    generalize c1 / 3 % 3 = e at *
    rcases (show e = 0 ∨ e = 1 ∨ e = 2 by omega) with rfl | rfl | rfl <;> exact ⟨_, rfl, rfl⟩
  have hz3 : z.cps.toList.length ≤ 2 := by
    rw [hz2]
    generalize c1 / 3 % 3 = e at *
    rcases (show e = 0 ∨ e = 1 ∨ e = 2 by omega) with rfl | rfl | rfl <;> decide
  refine ExC.assignTk (k := c1 / 3 % 3) ((Ev.bin (Ev.bin (Ev.item (Ev.var rfl) Ev.const_int 1 rfl rfl (Nat.le_of_ble_eq_true rfl)) Ev.const_int (op_floordiv (by decide) (PyProof.noPylong_small (by omega)))) Ev.const_int (op_mod (by decide))).int ?_) hz (.inl rfl) fun tk htk => ?_
  · show ((c1 : Int).fdiv ((3 : Nat) : Int)).fmod ((3 : Nat) : Int) = _
    rw [fdiv_nat, fmod_nat]
  have hsent := T.sent _ hen
  unfold sentL at hsent
  rw [← hz2] at hsent
  generalize c1 / 3 % 3 = e at *
  generalize z.cps.toList = zz at *
  -- sent
  have hml := T.ml
  have hb : (mailL p q r tw).length + ((mailL p q r tw).length + 1) * zz.length ≤ 16777216 := by
    have : ((mailL p q r tw).length + 1) * zz.length ≤ 101 * 2 := Nat.mul_le_mul (by omega) hz3
    omega
  have hrl : replL (mailL p q r tw) [10] zz = joinL zz (splitS [10] 0 (mailL p q r tw)) := replL_eq (by decide)
  have hjl := T.jl _ hen
  rw [← hz2] at hjl
  obtain ⟨hq1, hq1'⟩ := T.q1
  obtain ⟨hq2, hq2'⟩ := T.q2
  obtain ⟨hq3, hq3'⟩ := T.q3
  have hlg := T.lg
  have hsl := T.sl
  have hpl1 := T.pl1
  have hpl2 := T.pl2
  have hpl3 := T.pl3
  have htl := T.tl
  have htold := T.told
  obtain ⟨hr1, hr2, hr3, hr4, hk1, hk2, hk3, hk4⟩ : 1 ≤ (rowsL (wantL (mailL p q r tw))).length ∧ (rowsL (wantL (mailL p q r tw))).length ≤ 50 ∧ 1 ≤ (rowsL (wantL (mailL p q r tw))).getLastD 0 ∧ (rowsL (wantL (mailL p q r tw))).getLastD 0 ≤ 50 ∧ 1 ≤ (colsL (wantL (mailL p q r tw))).length ∧ (colsL (wantL (mailL p q r tw))).length ≤ 50 ∧ 1 ≤ (colsL (wantL (mailL p q r tw))).getLastD 0 ∧ (colsL (wantL (mailL p q r tw))).getLastD 0 ≤ 50 := ⟨T.r1, T.r2, T.r3, T.r4, T.k1, T.k2, T.k3, T.k4⟩
  have hw1 : 18 ≤ 18 + c0 / 4 % 15 := by omega
  have hw2 : 18 + c0 / 4 % 15 < 33 := by omega
  obtain ⟨x, DF⟩ := detFacts_of (det_facts (t := tw) hp hq hr hw1 hw2)
  have hwant : wantL (mailL p q r tw) = joinL [] (longL (mailL p q r tw)) := rfl
  have hrows : rowsL (wantL (mailL p q r tw)) = reachF (splitS [13, 10] 0 (wantL (mailL p q r tw))).dropLast := rfl
  have hcols : colsL (wantL (mailL p q r tw)) = reachF (splitS [10] 0 (turnL (plainL (wantL (mailL p q r tw))))).dropLast := rfl
  have hlong : longL (mailL p q r tw) = (splitS [10] 0 (mailL p q r tw)).dropLast.map fun row => row ++ mulS [46] (min row.length 1) ++ [13, 10] := rfl
  clear T hcn
  generalize rowsL (wantL (mailL p q r tw)) = rows at *
  generalize colsL (wantL (mailL p q r tw)) = cols at *
  generalize hS : wantL (mailL p q r tw) = S at *
  generalize mailL p q r tw = m at *
  refine ExCN.assign (d := .str S) ((EvCN.cf1 X.Q.fQ (EvCN.replace X.nb (EvCN.of (EvC.of (Ev.var rfl))) (EvTk.var rfl htk (Nat.le_refl _)) hb) (FSpecC.of (c_quote X.Q (by show (replL m [10] zz).length ≤ 4000; rw [hrl]; omega))) (Nat.le_add_left _ _)).as (by show D.str (quoteF (replL m [10] zz)) = _; rw [hrl, hsent])) (.inl rfl) ?_
  -- if sent != ..
  refine ExC.cons (Ex1C.of (Ex1.ite (c := false) ((Et.cmp (Ev.var rfl) (Ev.meth Ev.const_str (Evs.c1 ((Ev.comp (ρc := []) (vals := (splitS [10] 0 m).dropLast.map fun r => D.str r) (rs := (splitS [10] 0 m).dropLast.map fun row => D.str (row ++ mulS [46] (min row.length 1) ++ [13, 10]))
    (EvIt.of ((Ev.slice (Ev.meth (Ev.var rfl) (Evs.c1 (Ev.const_str (x := "\n"))) DTy.str F.plainAttrs_str F.slot_str_split F.type_str_split (f_split (x := m) (y := [10]) (by decide) (by omega) (by rw [splitL_eq (by decide) (by decide)]; omega))) Epart.none (Epart.some (Ev.un Ev.const_int op_neg)) (by rw [strD_len, splitL_eq (by decide) (by decide)]; omega)).asD (d' := .list ((splitS [10] 0 m).dropLast.map fun r => D.str r)) ?_) ItMake.list)
    (free_no (by decide)) rfl (by decide) cap_no (fun L s₀ fz₀ wr => CT.map (fun (c : List Nat) => D.str c) _ _ fun c hc => ⟨_, Asg.name (.inl rfl), trivial, Ev.bin (Ev.bin (Ev.var rfl) (Ev.bin (Ev.const_str (x := ".")) ((Ev.cb N Boot.min (Evs.c2 (Ev.cb N Boot.len (Evs.c1 (Ev.var rfl)) (f_lenS ?_) Keep.builtin) Ev.const_int) f_min2 Keep.builtin).int (j := (min c.length 1 : Nat)) ?_) (op_mulS (l := [46]) ?_ ?_)) (op_addS (x := c) (y := mulS [46] (min c.length 1)) ?_)) (Ev.const_str (x := "\r\n")) (op_addS (x := c ++ mulS [46] (min c.length 1)) (y := [13, 10]) ?_)⟩) ?_).asD
      (d' := .list (strD (longL m))) (by rw [hlong]; unfold strD; rw [List.map_map]; rfl))) DTy.str F.plainAttrs_str F.slot_str_join F.type_str_join (f_join (ls := longL m) ?_)) op_neS).as ?_) (fun h => nomatch h) fun _ => Ex.nil)) ?_
  · rw [splitL_eq (by decide) (by decide)]
    show D.list (cut (strD (splitS [10] 0 m)) none (some (-1))) = _
    rw [cut_init]
    unfold strD
    rw [List.map_dropLast]
  · have := hq1' c ((List.dropLast_sublist _).subset hc); omega
  · split <;> omega
  · have : min c.length 1 ≤ 1 := Nat.min_le_right _ _
    simp; omega
  · have : min c.length 1 ≤ 1 := Nat.min_le_right _ _
    omega
  · have := hq1' c ((List.dropLast_sublist _).subset hc)
    have : min c.length 1 ≤ 1 := Nat.min_le_right _ _
    rw [mulS_len]; simp; omega
  · have := hq1' c ((List.dropLast_sublist _).subset hc)
    have : min c.length 1 ≤ 1 := Nat.min_le_right _ _
    rw [List.length_append, mulS_len]; simp; omega
  · rw [List.length_map, List.length_dropLast]; omega
  · have : (longL m).length ≤ 200 := by rw [hlong, List.length_map, List.length_dropLast]; omega
    show _ + _ * 0 ≤ _
    omega
  · show (S != joinL [] (longL m)) = false
    rw [hwant]; simp
  clear hlg hlong hwant hq1' hq1
  -- rows
  refine ExC.cons (Ex1C.of (Ex1.assign (d := .list (natD rows)) ((Ev.cf X.fR (Evs.c1 ((Ev.slice (Ev.meth (Ev.var rfl) (Evs.c1 (Ev.const_str (x := "\r\n"))) DTy.str F.plainAttrs_str F.slot_str_split F.type_str_split (f_split (x := S) (y := [13, 10]) (by decide) (by omega) (by rw [splitL_eq (by decide) (by decide)]; omega))) Epart.none (Epart.some (Ev.un Ev.const_int op_neg)) (by rw [strD_len, splitL_eq (by decide) (by decide)]; omega)).asD (d' := .list (strD (splitS [13, 10] 0 S).dropLast)) ?_)) (c_reach N X.fR (rows := (splitS [13, 10] 0 S).dropLast) ?_ ?_) (Nat.le_add_left _ _)).asD (by rw [hrows])) (actOf_cell rfl rfl))) ?_
  · rw [splitL_eq (by decide) (by decide)]
    show D.list (cut (strD (splitS [13, 10] 0 S)) none (some (-1))) = _
    rw [cut_init]
    unfold strD
    rw [List.map_dropLast]
  · rw [List.length_dropLast]; omega
  · intro y hy
    have := hq2' y ((List.dropLast_sublist _).subset hy)
    omega
  -- columns
  have hrl2 : replL S [13, 10] [10] = plainL S := replL_eq (by decide)
  refine ExC.cons (Ex1C.assign (d := .list (natD cols)) ((EvC.cf X.fR (EvsC.c1 ((EvC.slice (EvC.meth (EvC.cf X.fT (EvsC.c1 ((EvC.replace (old := "\r\n") (new := "\n") X.nb (EvC.of (Ev.var rfl)) ?_).as (d' := .str (plainL S)) ?_)) (c_turned N X.fS X.fT hpl1 (by omega) hpl3) (Nat.le_add_left _ _)) (Evs.c1 (Ev.const_str (x := "\n"))) DTy.str F.plainAttrs_str F.slot_str_split F.type_str_split (f_split (x := turnL (plainL S)) (y := [10]) (by decide) (by omega) (by rw [splitL_eq (by decide) (by decide)]; omega))) Epart.none (Epart.some (Ev.un Ev.const_int op_neg)) (by rw [strD_len, splitL_eq (by decide) (by decide)]; omega)).as (d' := .list (strD (splitS [10] 0 (turnL (plainL S))).dropLast)) ?_)) (FSpecC.of (c_reach N X.fR (rows := (splitS [10] 0 (turnL (plainL S))).dropLast) ?_ ?_)) (Nat.le_add_left _ _)).as (by rw [hcols])) (.inl rfl)) ?_
  · show S.length + (S.length + 1) * 1 ≤ _
    omega
  · exact congrArg D.str hrl2
  · rw [splitL_eq (by decide) (by decide)]
    show D.list (cut (strD (splitS [10] 0 (turnL (plainL S)))) none (some (-1))) = _
    rw [cut_init]
    unfold strD
    rw [List.map_dropLast]
  · rw [List.length_dropLast]; omega
  · intro y hy
    have := hq3' y ((List.dropLast_sublist _).subset hy)
    omega
  clear hrl2 hrows hcols hq2 hq2' hq3 hq3' hpl1 hpl2 hpl3 htl
  have hrn : rows ≠ [] := fun e => by rw [e] at hr1; simp at hr1
  have hcn : cols ≠ [] := fun e => by rw [e] at hk1; simp at hk1
  have hzr : (natD rows).length ≤ sizeLine := by rw [natD_len]; omega
  have hzc : (natD cols).length ≤ sizeLine := by rw [natD_len]; omega
  -- if columns != ..
  refine ExC.cons (Ex1C.of (Ex1.ite (c := false) ((Et.cmp ((Ev.var rfl).asD (d := .list (natD cols)) (d' := .list (intD (cols.map fun (c : Nat) => (c : Int)))) (by rw [natD_intD])) ((Ev.comp (ρc := [("rows", .list (natD rows))]) (vals := intSeq (((rows.getLastD 0 : Nat) : Int) - 1) (-1) (rows.getLastD 0)) (rs := (List.range (rows.getLastD 0)).map fun (i : Nat) => D.int ((rows.filter fun (row : Nat) => decide ((row : Int) > (rows.getLastD 0 : Int) - 1 + (i : Int) * -1)).length : Int))
    (EvIt.cb N Boot.range (Evs.c3 (Ev.bin (Ev.itemLast (Ev.var rfl) (Ev.un Ev.const_int op_neg) (natD_last hrn)) Ev.const_int op_sub) (Ev.un Ev.const_int op_neg) (Ev.un Ev.const_int op_neg)) (CMake.range3 (by trivial) (by decide) (small_down (by omega)) size_down (PyProof.noPylong_small (by omega))) Keep.type)
    (free_ok ["rows"] (by decide) fun x hx => ?_) rfl (by decide) (fun p hp => ?_) (fun L s₀ fz₀ wr => CT.map (fun (i : Nat) => D.int (((rows.getLastD 0 : Nat) : Int) - 1 + (i : Int) * -1)) _ _ fun i hi => ⟨_, Asg.name (comp_cell rfl rfl), ⟨rfl, trivial⟩, (Ev.cb N Boot.len (Evs.c1 (Ev.comp (ρc := [("spot", .int (((rows.getLastD 0 : Nat) : Int) - 1 + (i : Int) * -1))]) (vals := natD rows) (rs := (rows.filter fun (row : Nat) => decide ((row : Int) > (rows.getLastD 0 : Int) - 1 + (i : Int) * -1)).map fun (c : Nat) => D.int c)
      (EvIt.of (Ev.var rfl) ItMake.list) (free_ok ["spot"] (by decide) fun x hx => ?_) rfl (by decide) (fun p hp => ?_) (fun L' s₀' fz₀' wr' => CT.filter (fun (c : Nat) => D.int c) (fun (c : Nat) => D.int c) _ _ fun c hc => ⟨_, Asg.name (.inl rfl), ⟨rfl, trivial⟩, Et.cmp (Ev.var rfl) (Ev.var rfl) op_gt, fun _ => Ev.var rfl⟩) hzr)) (f_lenL ?_) Keep.builtin).int (by rw [List.length_map])⟩) ?_).asD
      (d' := .list (intD (toldL rows))) (by unfold toldL; rw [intD_map])) op_neI).as ?_) (fun h => nomatch h) fun _ => Ex.nil)) ?_
  · rw [List.mem_singleton.mp hx]; rfl
  · rw [List.mem_singleton.mp hp]; exact ⟨rfl, rfl, fun h => nomatch (show some NameKind.cell = some NameKind.local from h)⟩
  · rw [List.mem_singleton.mp hx]; rfl
  · rw [List.mem_singleton.mp hp]; exact ⟨rfl, rfl, fun h => nomatch (show some NameKind.cell = some NameKind.local from h)⟩
  · rw [List.length_map]
    exact Nat.le_trans (List.length_filter_le _ _) (by omega)
  · unfold intSeq
    rw [List.length_map, List.length_range]; omega
  · rw [htold]; simp
  clear htold
  -- width, side
  refine ExC.of ?_
  refine Ex.cons (Ex1.assign (d := .int (18 + c0 / 4 % 15 : Nat)) ((Ev.bin Ev.const_int (Ev.bin (Ev.bin (Ev.item (Ev.var rfl) Ev.const_int 0 rfl rfl (Nat.le_of_ble_eq_true rfl)) Ev.const_int (op_floordiv (by decide) (PyProof.noPylong_small (by omega)))) Ev.const_int (op_mod (by decide))) op_add).int ?_) (.inl rfl)) ?_
  · show (18 : Int) + ((c0 : Int).fdiv ((4 : Nat) : Int)).fmod ((15 : Nat) : Int) = _
    rw [fdiv_nat, fmod_nat]; push_cast; rfl
  generalize 18 + c0 / 4 % 15 = w at *
  refine Ex.cons (Ex1.assign (d := .int (2 ^ w : Nat)) ((Ev.bin Ev.const_int (Ev.var rfl) (op_pow (by omega) ?_)).int ?_) (actOf_cell rfl rfl)) ?_
  · have e8 : Builtin.Int.intBits 2 = 2 := by decide
    rw [e8]; omega
  · rw [Int.toNat_natCast]; push_cast; rfl
  obtain ⟨hdet, hdeq, hsmx, hpart, hpartv, hspare, hprod, hqq, hrr⟩ := DF
  have hside : 2 ^ w < 2 ^ 33 := Nat.pow_lt_pow_right (by decide) hw2
  have hside1 : 1 ≤ 2 ^ w := Nat.one_le_pow _ _ (by decide)
  generalize hsd : 2 ^ w = side at *
  have e33 : 2 ^ 33 = 8589934592 := by decide
  rw [e33] at hside
  have hb64 : Builtin.Int.intBits (side : Int) ≤ 64 := bits_le (Nat.lt_of_lt_of_le hside (by decide))
  -- trees
  refine Ex.cons (Ex1.assign (d := .int (x : Nat)) ((Ev.cf X.fDt (Evs.c1 (Ev.cf X.fTb (Evs.c2 (Ev.var rfl) (Ev.var rfl)) (c_table N X.fTb hr1 (by omega) hr3 (by omega) (Nat.lt_of_lt_of_le hside (by decide))) (Nat.le_add_left _ _))) (c_det N X.fDt hdet) (Nat.le_add_left _ _)).asD (by rw [hdeq])) (.inl rfl)) ?_
  clear hdet hdeq
  -- factors
  refine Ex.cons (Ex1.assignComp (ρc := []) (vals := (rows.dropLast ++ cols.dropLast).map fun (c : Nat) => D.int c) (rs := (rows.dropLast ++ cols.dropLast).map fun (c : Nat) => D.int ((c : Int) - 1))
    (EvIt.of ((Ev.bin (Ev.slice (Ev.var rfl) Epart.none (Epart.some (Ev.un Ev.const_int op_neg)) hzr) (Ev.slice (Ev.var rfl) Epart.none (Epart.some (Ev.un Ev.const_int op_neg)) hzc) (op_addL ?_)).asD (d' := .list ((rows.dropLast ++ cols.dropLast).map fun (c : Nat) => D.int c)) ?_) ItMake.list) (.inl rfl)
    (free_no (by decide)) rfl (by decide) cap_no (fun L s₀ fz₀ wr => CT.map (fun (c : Nat) => D.int c) _ _ fun c hc => ⟨_, Asg.name (.inl rfl), trivial, Ev.bin (Ev.var rfl) Ev.const_int op_sub⟩) ?_) ?_
  · rw [show (-(1 : Int)) = -1 from rfl, cut_init, cut_init, List.length_dropLast, List.length_dropLast, natD_len, natD_len]; omega
  · rw [show (-(1 : Int)) = -1 from rfl, cut_init, cut_init]
    unfold natD
    rw [List.map_append, List.map_dropLast, List.map_dropLast]
  · rw [List.length_map, List.length_append, List.length_dropLast, List.length_dropLast]; omega
  have hfl : (factorsL rows cols).length ≤ 100 := by unfold factorsL; rw [List.length_map, List.length_append, List.length_dropLast, List.length_dropLast]; omega
  rw [show ((rows.dropLast ++ cols.dropLast).map fun (c : Nat) => D.int ((c : Int) - 1)) = intD (factorsL rows cols) by unfold factorsL; rw [intD_map]]
  generalize factorsL rows cols = fs at *
  have hzf : (intD fs).length ≤ sizeLine := by rw [intD_len]; omega
  -- if _law_parted(..) != side ** 2
  refine Ex.cons (Ex1.ite (c := false) ((Et.cmp (Ev.cf X.fPt (Evs.c2 (Ev.var rfl) ((Ev.comp (ρc := [("side", .int side)]) (vals := intD fs) (rs := fs.map fun f => D.int ((side : Int) + f)) (EvIt.of (Ev.var rfl) ItMake.list)
    (free_ok ["side"] (by decide) fun x hx => ?_) rfl (by decide) (fun p hp => ?_) (fun L s₀ fz₀ wr => CT.map (fun (c : Int) => D.int c) _ _ fun c hc => ⟨_, Asg.name (.inl rfl), ⟨rfl, trivial⟩, Ev.bin (Ev.var rfl) (Ev.var rfl) op_add⟩) hzf).asD (d' := .list (intD (fs.map fun f => (side : Int) + f))) (by rw [intD_map]))) (c_parted X.M X.fPt hpart) (show 20 ≤ 21 by decide)) (Ev.bin (Ev.var rfl) Ev.const_int (op_pow (by decide) ?_)) op_ne).as ?_) (fun h => nomatch h) fun _ => Ex.nil) ?_
  · rw [List.mem_singleton.mp hx]; rfl
  · rw [List.mem_singleton.mp hp]; exact ⟨rfl, rfl, fun h => nomatch (show some NameKind.cell = some NameKind.local from h)⟩
  · omega
  · rw [hpartv]; simp
  clear hpart hpartv
  -- spare
  refine Ex.cons (Ex1.assign (d := .int (c2 / 4 % 9 : Nat)) ((Ev.bin (Ev.bin (Ev.item (Ev.var rfl) Ev.const_int 2 rfl rfl (Nat.le_of_ble_eq_true rfl)) Ev.const_int (op_floordiv (by decide) (PyProof.noPylong_small (by omega)))) Ev.const_int (op_mod (by decide))).int ?_) (actOf_cell rfl rfl)) ?_
  · show ((c2 : Int).fdiv ((4 : Nat) : Int)).fmod ((9 : Nat) : Int) = _
    rw [fdiv_nat, fmod_nat]
  have hsp9 : c2 / 4 % 9 < 9 := by omega
  have hsp := hspare _ hsp9
  generalize c2 / 4 % 9 = sp at *
  unfold okSpare at hsp
  dsimp only at hsp
  simp only [Bool.and_eq_true, beq_iff_eq] at hsp
  obtain ⟨⟨hsp1, hsp2⟩, hsp3⟩ := hsp
  obtain ⟨hpr1, hpr2⟩ := prodOk_of hsp1
  -- divisor
  obtain ⟨dv, hdv⟩ : ∃ dv, (if ((((c2 : Int).fdiv 2).fmod 2) == 0) = true then (side : Int) + (sp : Int) else -(side : Int) - (sp : Int)) = dv := ⟨_, rfl⟩
  have hdvf : (x : Int).fmod dv = (prodF ((sp : Int) ^ 2) (fs.map fun f => f - (sp : Int))).fmod dv := by
    rw [← hdv]; split
    · exact hsp2
    · exact hsp3
  have hdvb : dv ≠ 0 ∧ -(2 ^ 63) < dv ∧ dv < 2 ^ 63 := by
    rw [← hdv]; split <;> omega
  have hdvs : sm dv = true := Nat.ble_eq.mpr (Nat.le_trans (by omega : dv.natAbs + 1 ≤ 2 ^ 63) (Nat.pow_le_pow_right (by decide) (by decide)))
  refine Ex.cons (Ex1.assign (d := .int dv) (Ev.int (Ev.iteI (Et.cmp (Ev.bin (Ev.bin (Ev.item (Ev.var rfl) Ev.const_int 2 rfl rfl (Nat.le_of_ble_eq_true rfl)) Ev.const_int (op_floordiv (by decide) (PyProof.noPylong_small (by omega)))) Ev.const_int (op_mod (by decide))) Ev.const_int op_eq) (Ev.bin (Ev.var rfl) (Ev.var rfl) op_add) (Ev.bin (Ev.un (Ev.var rfl) op_neg) (Ev.var rfl) op_sub)) hdv) (.inl rfl)) ?_
  clear hsp1 hsp2 hsp3 hdv hspare
  -- quotient, rest
  refine Ex.cons (Ex1.assignTup (Ev.cf X.M.fM (Evs.c2 (Ev.var rfl) (Ev.var rfl)) (c_dm X.M 13 hdvb.1 (sm_big hdvs) (sm_90 hsmx) (sm_13 hsmx)) (show 19 ≤ 21 by decide)) (Asg.tup (xs := [("quotient", _), ("rest", _)]) rfl rfl (fun x hx => ?_))) ?_
  · simp only [List.mem_cons, List.not_mem_nil, or_false] at hx
    rcases hx with rfl | rfl <;> exact .inl rfl
  have hdv64 : Builtin.Int.intBits dv ≤ 64 := intBits_le_64 (by omega) (by omega)
  refine Ex.cons (Ex1.ite (c := false) ((Et.cmp (Ev.bin (Ev.bin (Ev.var rfl) (Ev.var rfl) (op_mul (.of_right hdv64))) (Ev.var rfl) op_add) (Ev.var rfl) op_ne).as ?_) (fun h => nomatch h) fun _ => Ex.nil) ?_
  · rw [Int.mul_comm, Int.mul_fdiv_add_fmod]; simp
  -- if rest != ..
  refine Ex.cons (Ex1.ite (c := false) ((Et.cmp (Ev.var rfl) (Ev.bin (Ev.cf X.fPr (Evs.c2 (Ev.bin (Ev.var rfl) Ev.const_int (op_pow (by decide) ?_)) ((Ev.comp (ρc := [("spare", .int sp)]) (vals := intD fs) (rs := fs.map fun f => D.int (f - (sp : Int))) (EvIt.of (Ev.var rfl) ItMake.list)
    (free_ok ["spare"] (by decide) fun x hx => ?_) rfl (by decide) (fun p hp => ?_) (fun L s₀ fz₀ wr => CT.map (fun (c : Int) => D.int c) _ _ fun c hc => ⟨_, Asg.name (.inl rfl), ⟨rfl, trivial⟩, Ev.bin (Ev.var rfl) (Ev.var rfl) op_sub⟩) hzf).asD (d' := .list (intD (fs.map fun f => f - (sp : Int)))) (by rw [intD_map]))) (c_prod N X.fPr hpr1 hpr2) (Nat.le_add_left _ _)) (Ev.var rfl) (op_mod hdvb.1)) op_ne).as ?_) (fun h => nomatch h) fun _ => Ex.nil) ?_
  · have : Builtin.Int.intBits (sp : Int) ≤ 4 := bits_le (Nat.lt_trans hsp9 (by decide))
    omega
  · rw [List.mem_singleton.mp hx]; rfl
  · rw [List.mem_singleton.mp hp]; exact ⟨rfl, rfl, fun h => nomatch (show some NameKind.cell = some NameKind.local from h)⟩
  · rw [hdvf]
    show (_ != _) = false
    simp
  -- squares
  obtain ⟨hpr3, hpr4⟩ := prodOk_of hprod
  refine Ex.cons (Ex1.assign (d := .int (prodF 1 ((rows ++ cols).map fun (c : Nat) => (c : Int)))) (Ev.cf X.fPr (Evs.c2 Ev.const_int ((Ev.bin (Ev.var rfl) (Ev.var rfl) (op_addL ?_)).asD (d' := .list (intD ((rows ++ cols).map fun (c : Nat) => (c : Int)))) ?_)) (c_prod N X.fPr hpr3 hpr4) (Nat.le_add_left _ _)) (.inl rfl)) ?_
  · rw [natD_len, natD_len]; omega
  · rw [← natD_intD, natD_app]
  have hsq : sm (prodF 1 ((rows ++ cols).map fun (c : Nat) => (c : Int))) = true := by
    have := hpr3 _ (Nat.le_refl _)
    rwa [List.take_length] at this
  generalize prodF 1 ((rows ++ cols).map fun (c : Nat) => (c : Int)) = sq at *
  have hby : (rows.getLastD 0 : Int) * (cols.getLastD 0 : Int) = ((rows.getLastD 0 * cols.getLastD 0 : Nat) : Int) := by push_cast; rfl
  have hby1 : 1 ≤ rows.getLastD 0 * cols.getLastD 0 := Nat.mul_le_mul hr3 hk3
  have hby2 : rows.getLastD 0 * cols.getLastD 0 ≤ 50 * 50 := Nat.mul_le_mul hr4 hk4
  have lr := natD_last hrn
  have lc := natD_last hcn
  generalize rows.getLastD 0 = r0 at *
  generalize cols.getLastD 0 = k0 at *
  have hdl : digN w x ≤ 2 ^ 8 := by
    have hb := sm_bits hsmx
    unfold digN
    have : (Builtin.Int.intBits (x : Int) + w - 1) / w ≤ (Builtin.Int.intBits (x : Int) + w - 1) / 18 := Nat.div_le_div_left hw1 (by decide)
    have : (Builtin.Int.intBits (x : Int) + w - 1) / 18 ≤ 4040 / 18 := Nat.div_le_div_right (by omega)
    omega
  refine Ex.last ((Ev.cmp (Ev.cf X.M.fM (Evs.c2 (Ev.var rfl) ((Ev.bin (Ev.itemLast (Ev.var rfl) (Ev.un Ev.const_int op_neg) lr) (Ev.itemLast (Ev.var rfl) (Ev.un Ev.const_int op_neg) lc) (op_mul (small_mul (by omega) (by omega)))).int hby)) (c_dm X.M 13 (by omega) (sm_big ?_) (sm_90 hsq) (sm_13 hsq)) (show 19 ≤ 21 by decide))
    (Ev.tup (Evs.c2 (Ev.cb N Boot.sum (Evs.c1 ((Ev.cf X.M.fI (Evs.c2 (Ev.var rfl) (Ev.var rfl)) (c_int N X.M.fI X.M.hI X.M.pI X.M.qI 8 (by omega) hdl (by have := sm_bits hsmx; omega) (by omega)) (show 10 ≤ 21 by decide)).asD (d' := .list (intD ((digs w x).map fun (c : Nat) => (c : Int)))) (by rw [natD_intD]))) f_sum Keep.builtin) Ev.const_int)) op_eqT).asD ?_)
  · refine Nat.ble_eq.mpr (Nat.le_trans (by omega : _ ≤ 2 ^ 63) (Nat.pow_le_pow_right (by decide) (by decide)))
  · rw [← hby, hqq, hrr]; simp
end
end Mine

set_option Elab.async false
set_option maxRecDepth 100000
set_option linter.unusedVariables false
open PySem PySem.W PySem.Calls PyProof.Rows
namespace Mine

abbrev qInt : Str := Str.ofString "_int2digits" ++ Str.ofString ".<locals>." ++ Str.ofString "inner"
abbrev qDig : Str := Str.ofString "_digits2int" ++ Str.ofString ".<locals>." ++ Str.ofString "inner"
abbrev defs1 : List (Str × Nat) := [("quotedata", iQuote), ("_div2n1n", iDiv2), ("_int2digits", iInt2), ("_digits2int", iDig2), ("_divmod_pos", iDivPos), ("int_divmod", iDivmod), ("_byteswap", iSwap), ("_law_turned", iTurned), ("_law_reach", iReach), ("_law_table", iTable), ("_law_determinant", iDet), ("_law_product", iProd), ("_law_parted", iParted), ("law", iLaw)]
theorem ns_none {K : Frag} {h : Heap} {a : Addr} {m : Str → Option Value} {n : Str} (X : K.In h) (G : h.Ns a m) (e : nsIn K a n = some none) : m n = none := by
  obtain ⟨o, es, ep, ho, hd, _, hf⟩ := G
  unfold nsIn at e
  split at e
  · rename_i c d es' n' sl q
    have := X _ _ q
    rw [ho] at this
    cases this
    cases hd
    split at e
    · cases e
    · rename_i he
      rw [← hf]
      unfold nsFind findBy
      rw [← Array.find?_toList, he]
      rfl
  · cases e
section
variable {view : Program} {loose : List Str} {mean : ExcName → Option Value} {mg mb : Str → Option Value} {h : Heap} {K : Frag} {w : World} {cI PI cD PD fa : Addr}
theorem nb_of {tabs : List NestTab} (T : Top view loose mean mg mb h) (X : K.In h) (hT : TabsAt (tabP tabs) h) (e : nsIn K cStatics sharingNotToldKey = some none) : NB (bsOf pw w h mg mb tabs) := by
  obtain ⟨mc, h1, _⟩ := T.nodigits
  exact ⟨mc, ghost_ns hT h1, ns_none X h1 e⟩
theorem finish1 {c : ClaimW} {cl : Str → Option Addr} {mean' : ExcName → Option Value} {P : Params} {args : List WData} {s : Shared} {a : Addr} {ns : List Int} (T : Top view loose mean mg mb s.heap) (X : K.In s.heap) (hT : TabsAt [(cD, PD), (cI, PI)] s.heap) (hI : tabIn K "_int2digits" = some (cI, PI)) (hD : tabIn K "_digits2int" = some (cD, PD))
    (hrec : ∀ q ∈ defs1, (recsOf view).find? (fun e => e.name == q.1) = some (recAt pw q.2)) (hp1 : patAt K "_twin_re_1" Re.code1 = true) (hp2 : patAt K "_twin_re_2" Re.code2 = true)
    (hlim : valOf view "_DIV_LIMIT" = some (.int 4000)) (hcr : valOf view "CRLF" = some (.str "\r\n"))
    (hx : bltNames.all (fun x => !startupNames.contains x && !loose.contains x && !((recsOf view).map (·.name)).contains x && !((litsOf view).map (·.1)).contains x && !((clssOf view loose).map (·.name)).contains x) = true) (hnb : nsIn K cStatics sharingNotToldKey = some none) (hfa : mg "law" = some (.ref fa))
    (hne : PD ≠ PI) (hw : Well P s.heap (.ref a) (ofPy (PyData.list (ns.map PyData.int)))) (hg : s.gens = #[]) (htk : 0 < s.toks) (hl : ns.length ≤ 63) (hr : ∀ cls, c.raises args cls = false) (hp : c.post args (.bool true) args = true) :
    wpC (model pw w) callerA (call (.ref fa) [.ref a]) (fun v s' => GoodWG c cl mean' args s (.ok (.ret v)) s') (fun e s' => GoodWG c cl mean' args s (.error e) s') s := by
  obtain ⟨aQ, cQ, fQ, _⟩ := fn_in (prog := pw) (w := w) (tabs := [⟨cD, PD, nPos pw iDig2 0, qDig⟩, ⟨cI, PI, nPos pw iInt2 1, qInt⟩]) T hT (hrec ("quotedata", iQuote) (by decide +kernel))
  obtain ⟨a2, c2, f2, _⟩ := fn_in (prog := pw) (w := w) (tabs := [⟨cD, PD, nPos pw iDig2 0, qDig⟩, ⟨cI, PI, nPos pw iInt2 1, qInt⟩]) T hT (hrec ("_div2n1n", iDiv2) (by decide +kernel))
  obtain ⟨aI, cI', fI, kI⟩ := fn_in (prog := pw) (w := w) (tabs := [⟨cD, PD, nPos pw iDig2 0, qDig⟩, ⟨cI, PI, nPos pw iInt2 1, qInt⟩]) T hT (hrec ("_int2digits", iInt2) (by decide +kernel))
  obtain ⟨aD, cD', fD, kD⟩ := fn_in (prog := pw) (w := w) (tabs := [⟨cD, PD, nPos pw iDig2 0, qDig⟩, ⟨cI, PI, nPos pw iInt2 1, qInt⟩]) T hT (hrec ("_digits2int", iDig2) (by decide +kernel))
  obtain ⟨aP, cP, fP, _⟩ := fn_in (prog := pw) (w := w) (tabs := [⟨cD, PD, nPos pw iDig2 0, qDig⟩, ⟨cI, PI, nPos pw iInt2 1, qInt⟩]) T hT (hrec ("_divmod_pos", iDivPos) (by decide +kernel))
  obtain ⟨aM, cM, fM, _⟩ := fn_in (prog := pw) (w := w) (tabs := [⟨cD, PD, nPos pw iDig2 0, qDig⟩, ⟨cI, PI, nPos pw iInt2 1, qInt⟩]) T hT (hrec ("int_divmod", iDivmod) (by decide +kernel))
  obtain ⟨aS, cS, fS, _⟩ := fn_in (prog := pw) (w := w) (tabs := [⟨cD, PD, nPos pw iDig2 0, qDig⟩, ⟨cI, PI, nPos pw iInt2 1, qInt⟩]) T hT (hrec ("_byteswap", iSwap) (by decide +kernel))
  obtain ⟨aT, cT, fT, _⟩ := fn_in (prog := pw) (w := w) (tabs := [⟨cD, PD, nPos pw iDig2 0, qDig⟩, ⟨cI, PI, nPos pw iInt2 1, qInt⟩]) T hT (hrec ("_law_turned", iTurned) (by decide +kernel))
  obtain ⟨aR, cR, fR, _⟩ := fn_in (prog := pw) (w := w) (tabs := [⟨cD, PD, nPos pw iDig2 0, qDig⟩, ⟨cI, PI, nPos pw iInt2 1, qInt⟩]) T hT (hrec ("_law_reach", iReach) (by decide +kernel))
  obtain ⟨aTb, cTb, fTb, _⟩ := fn_in (prog := pw) (w := w) (tabs := [⟨cD, PD, nPos pw iDig2 0, qDig⟩, ⟨cI, PI, nPos pw iInt2 1, qInt⟩]) T hT (hrec ("_law_table", iTable) (by decide +kernel))
  obtain ⟨aDt, cDt, fDt, _⟩ := fn_in (prog := pw) (w := w) (tabs := [⟨cD, PD, nPos pw iDig2 0, qDig⟩, ⟨cI, PI, nPos pw iInt2 1, qInt⟩]) T hT (hrec ("_law_determinant", iDet) (by decide +kernel))
  obtain ⟨aPr, cPr, fPr, _⟩ := fn_in (prog := pw) (w := w) (tabs := [⟨cD, PD, nPos pw iDig2 0, qDig⟩, ⟨cI, PI, nPos pw iInt2 1, qInt⟩]) T hT (hrec ("_law_product", iProd) (by decide +kernel))
  obtain ⟨aPt, cPt, fPt, _⟩ := fn_in (prog := pw) (w := w) (tabs := [⟨cD, PD, nPos pw iDig2 0, qDig⟩, ⟨cI, PI, nPos pw iInt2 1, qInt⟩]) T hT (hrec ("_law_parted", iParted) (by decide +kernel))
  obtain ⟨aL, cL, fL, _⟩ := fn_in (prog := pw) (w := w) (tabs := [⟨cD, PD, nPos pw iDig2 0, qDig⟩, ⟨cI, PI, nPos pw iInt2 1, qInt⟩]) T hT (hrec ("law", iLaw) (by decide +kernel))
  obtain ⟨p1, g1, P1⟩ := pat_of (prog := pw) (w := w) (tabs := [⟨cD, PD, nPos pw iDig2 0, qDig⟩, ⟨cI, PI, nPos pw iInt2 1, qInt⟩]) T hT X hp1
  obtain ⟨p2, g2, P2⟩ := pat_of (prog := pw) (w := w) (tabs := [⟨cD, PD, nPos pw iDig2 0, qDig⟩, ⟨cI, PI, nPos pw iInt2 1, qInt⟩]) T hT X hp2
  have eI := kI K X _ _ hI
  have eD := kD K X _ _ hD
  subst eI eD
  have eL : aL = fa := by
    have := fL.mg
    rw [show (bsOf pw w s.heap mg mb _).mg = mg from rfl, hfa] at this
    cases this
    rfl
  subst eL
  have N : Blt (bsOf pw w s.heap mg mb [⟨cD, PD, nPos pw iDig2 0, qDig⟩, ⟨cI, PI, nPos pw iInt2 1, qInt⟩]) := blt_of T hx
  refine law_end (tabs := [⟨cD, PD, nPos pw iDig2 0, qDig⟩, ⟨cI, PI, nPos pw iInt2 1, qInt⟩]) T hT (fun t ht u hu e => ?_) (c_law (tI := ⟨cI, PI, nPos pw iInt2 1, qInt⟩) (tD := ⟨cD, PD, nPos pw iDig2 0, qDig⟩) ⟨⟨N, fI, fD, f2, fP, fM, int_of T hlim, List.mem_cons_of_mem _ List.mem_cons_self, List.mem_cons_self, rfl, rfl, rfl, rfl⟩, ⟨N, fQ, g1, g2, P1, P2, str_of T hcr⟩, fS, fT, fR, fTb, fDt, fPr, fPt, fL, nb_of T X hT hnb⟩ hl) hw hg htk (by decide) hr hp
  simp only [List.mem_cons, List.not_mem_nil, or_false] at ht hu
  rcases ht with rfl | rfl <;> rcases hu with rfl | rfl
  · rfl
  · exact absurd e hne
  · exact absurd e.symm hne
  · rfl
end
end Mine

set_option Elab.async false
set_option maxRecDepth 100000
set_option linter.unusedVariables false
open PySem PySem.W PySem.Calls PyProof.Rows
namespace MineH
set_option maxHeartbeats 8000000 in
theorem law01 : PySem.Challenge.rw_wn0065_01.Holds := by
  w_on; o_law; k_head; (case hw => w_witness2)
  k_fill
  intro w s₀ s₁ mg mb G Y fa o pm cd doc dV kV ho hd hcd hD hmg hg htk args vals as hpre hlay hrd hwl hlo
  have KX := km_in_of Y
  km_tabs Y
  refine Ground.open G ?_
  intro T B D TE TW
  km_lay T hmg ho hd cd
  clear hd
  wrow_args hpre hlay hrd hwl hlo
  refine Mine.finish1 (w := w) T KX hT9 (by kernel_rfl) (by kernel_rfl) (by
    intro q hq
    simp only [Mine.defs1, List.mem_cons, List.not_mem_nil, or_false] at hq
    rcases hq with rfl | rfl | rfl | rfl | rfl | rfl | rfl | rfl | rfl | rfl | rfl | rfl | rfl | rfl <;> kernel_rfl) (by kernel_rfl) (by kernel_rfl) (by kernel_rfl) (by kernel_rfl) (by decide +kernel) (by kernel_rfl) hmg (by decide) (by assumption) hg htk (by omega) (fun _ => rfl) (by kernel_rfl)
end MineH

theorem PySem.Challenge.cw_wn0065_01_holds : PySem.Challenge.rw_wn0065_01.Holds :=
  MineH.law01
