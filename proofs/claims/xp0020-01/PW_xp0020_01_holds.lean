import PyProof.Rows.All
import Wide.All
import OpenK.AllK
import Wide.FinOn
import KE.KEqDict
import PyProof.StrReplace2
import PySem.Challenge.RW_xp0020_01
open PySem PySem.W PyProof.Rows PySem.Calls
set_option Elab.async false
set_option maxRecDepth 100000
set_option maxHeartbeats 8000000
namespace Mine

/-! Core1 -/
inductive AV where
  | none
  | bool (b : Bool)
  | int (i : Int)
  | str (x : Str)
  | ref (a : Addr)

inductive VR : AV → Value → Prop
  | none : VR .none .none
  | bool (b) : VR (.bool b) (.bool b)
  | int (i t) : VR (.int i) (.int i t)
  | str (x t) : VR (.str x) (.str x t)
  | ref (a) : VR (.ref a) (.ref a)

inductive All₂ {α β : Type} (R : α → β → Prop) : List α → List β → Prop
  | nil : All₂ R [] []
  | cons {a b as bs} : R a b → All₂ R as bs → All₂ R (a :: as) (b :: bs)

namespace All₂
variable {α β : Type} {R : α → β → Prop}
theorem length : ∀ {as : List α} {bs : List β}, All₂ R as bs → as.length = bs.length
  | _, _, .nil => rfl
  | _, _, .cons _ h => by simp [h.length]
theorem append : ∀ {as as' : List α} {bs bs' : List β}, All₂ R as bs → All₂ R as' bs' → All₂ R (as ++ as') (bs ++ bs')
  | _, _, _, _, .nil, h => h
  | _, _, _, _, .cons a h, h' => .cons a (h.append h')
theorem get : ∀ {as : List α} {bs : List β}, All₂ R as bs → ∀ {i : Nat} {a : α}, as[i]? = some a → ∃ b, bs[i]? = some b ∧ R a b
  | _, _, .nil, _, _, h => by simp at h
  | _, _, .cons h _, 0, _, e => by cases e; exact ⟨_, rfl, h⟩
  | _, _, .cons _ h, i + 1, _, e => by simpa using h.get (by simpa using e)
theorem get' : ∀ {as : List α} {bs : List β}, All₂ R as bs → ∀ {i : Nat} {b : β}, bs[i]? = some b → ∃ a, as[i]? = some a ∧ R a b
  | _, _, .nil, _, _, h => by simp at h
  | _, _, .cons h _, 0, _, e => by cases e; exact ⟨_, rfl, h⟩
  | _, _, .cons _ h, i + 1, _, e => by simpa using h.get' (by simpa using e)
theorem drop : ∀ {as : List α} {bs : List β}, All₂ R as bs → ∀ n, All₂ R (as.drop n) (bs.drop n)
  | _, _, .nil, n => by simpa using All₂.nil
  | _, _, .cons a h, 0 => .cons a h
  | _, _, .cons _ h, n + 1 => h.drop n
theorem take : ∀ {as : List α} {bs : List β}, All₂ R as bs → ∀ n, All₂ R (as.take n) (bs.take n)
  | _, _, .nil, n => by simpa using All₂.nil
  | _, _, .cons _ _, 0 => .nil
  | _, _, .cons a h, n + 1 => .cons a (h.take n)
theorem of_map {f : α → β} (h : ∀ a, R a (f a)) : ∀ as : List α, All₂ R as (as.map f)
  | [] => .nil
  | a :: as => .cons (h a) (of_map h as)
end All₂

inductive AO where
  | list (xs : List AV)
  | sdict (kvs : List (Str × AV))
  | idict (kvs : List (Int × AV))
  | range (a b st : Int)
  | tup (xs : List AV)
  | slice (xs : List AV)

noncomputable abbrev AH := Addr → Option AO

structure St where
  loc : Str → Option AV
  H : AH

noncomputable def St.put (σ : St) (a : Addr) (o : AO) : St := { σ with H := fun b => if b = a then some o else σ.H b }
noncomputable def St.set (σ : St) (x : Str) (v : AV) : St := { σ with loc := fun y => if y = x then some v else σ.loc y }

structure Cx where
  prog : Program
  w : World
  base : Heap
  st : Shared
  A : Around
  env : Env
  own : Bool

inductive OR (prog : Program) (w : World) : AO → Obj → Prop
  | list {xs : List AV} {items : List Value} {n : Nat} (h : All₂ VR xs items) (hl : xs.length ≤ 100000) : OR prog w (.list xs) { cls := .type "list", data := .seq items.toArray n }
  | tup {xs : List AV} {items : List Value} {n : Nat} (h : All₂ VR xs items) : OR prog w (.tup xs) { cls := .type "tuple", data := .seq items.toArray n }
  | sdict {kvs : List (Str × AV)} {cvs : List (Str × Value)} {o : Obj} (h : All₂ (fun a b => a.1 = b.1 ∧ VR a.2 b.2) kvs cvs) (ho : o.IsDictOf (strKind prog w) cvs) (hl : kvs.length ≤ 100000) : OR prog w (.sdict kvs) o
  | idict {kvs : List (Int × AV)} {cvs : List (Int × Value)} {o : Obj} (h : All₂ (fun a b => a.1 = b.1 ∧ VR a.2 b.2) kvs cvs) (ho : o.IsDictOf (intKind prog w) cvs) (hl : kvs.length ≤ 100000) : OR prog w (.idict kvs) o
  | range {a b st : Int} {t u v : Tok} : OR prog w (.range a b st) { cls := .type "range", data := .fields #[.int a t, .int b u, .int st v] }
  | slice {xs : List AV} {items : List Value} (h : All₂ VR xs items) : OR prog w (.slice xs) { cls := .type "slice", data := .fields items.toArray }

structure Conc (c : Cx) (h₀ : Heap) (σ : St) (s : Shared) : Prop where
  same : ∃ h tk, s = { c.st with heap := h, toks := tk }
  keep : h₀.StaysIn s.heap
  ns : ∃ m, s.heap.Ns c.env.locals m ∧ ∀ x v, c.env.kindOf x = some .local → σ.loc x = some v → ∃ u, m x = some u ∧ VR v u
  cell : ∀ x v, c.env.kindOf x = some .cell → σ.loc x = some v → ∃ a u, c.env.cells.lookup x = some a ∧ s.heap.IsCell a (some u) ∧ VR v u
  capart : ∀ x a, (x, a) ∈ c.env.cells → σ.H a = none ∧ a ≠ c.env.locals ∧ (∃ u, s.heap.IsCell a u) ∧ (c.own = true → h₀.get? a = none)
  heap : ∀ a o, σ.H a = some o → ∃ co, s.heap.get? a = some co ∧ OR c.prog c.w o co ∧ h₀.get? a = none ∧ a ≠ c.env.locals ∧ a ≠ sysModules
  lfree : h₀.get? c.env.locals = none

/-- what holds of a context -/
structure Ok (K : Frag) (c : Cx) (n : Nat) : Prop where
  kin : K.In c.base
  top : ∃ p loose mg mb, TopRead p loose mg mb c.base
  handled : c.A.handled = none
  depth : c.A.depth + n < recursionLimit
  units : c.A.units + 10 * n < cLine
  kind : c.env.scope.kind = .function
  glob : c.env.globals = mainGlobals
  blt : c.env.builtins = builtinsNs
  capair : c.own = true → c.env.cells.Pairwise fun x y => x.2 ≠ y.2

noncomputable def WG (c : Cx) {α β : Type} (R : α → β → Prop) (t : Sem β) (P : α → St → Prop) (σ : St) : Prop :=
  ∀ h₀ s, c.base.StaysIn h₀ → Conc c h₀ σ s → wpAny (model c.prog c.w) c.A t (fun v s' => ∃ av σ', R av v ∧ Conc c h₀ σ' s' ∧ P av σ') (fun _ _ => False) s

noncomputable abbrev WE (c : Cx) (t : Sem Value) (P : AV → St → Prop) (σ : St) : Prop := WG c VR t P σ
noncomputable abbrev WB (c : Cx) (t : Sem Bool) (P : Bool → St → Prop) (σ : St) : Prop := WG c (fun a b => a = b) t P σ
noncomputable abbrev WU (c : Cx) (t : Sem Unit) (P : St → Prop) (σ : St) : Prop := WG c (fun (_ : Unit) (_ : Unit) => True) t (fun _ => P) σ
noncomputable abbrev WL (c : Cx) (t : Sem (List Value)) (P : List AV → St → Prop) (σ : St) : Prop := WG c (All₂ VR) t P σ

inductive AF where
  | next | brk | cont
  | ret (v : AV)
inductive FR : AF → Flow → Prop
  | next : FR .next .next
  | brk : FR .brk .brk
  | cont : FR .cont .cont
  | ret {v u} (h : VR v u) : FR (.ret v) (.ret u)
noncomputable abbrev WF (c : Cx) (t : Sem Flow) (P : AF → St → Prop) (σ : St) : Prop := WG c FR t P σ

section
variable {c : Cx} {α β γ δ : Type} {R : α → β → Prop} {R' : γ → δ → Prop} {σ : St}

theorem WG.mono {t : Sem β} {P P' : α → St → Prop} (h : WG c R t P σ) (hp : ∀ a σ', P a σ' → P' a σ') : WG c R t P' σ :=
  fun h₀ s hb C => wpAny_mono (h h₀ s hb C) (fun _ _ ⟨av, σ', h1, h2, h3⟩ => ⟨av, σ', h1, h2, hp _ _ h3⟩) fun _ _ x => x
theorem WG.pure {a : α} {b : β} {P : α → St → Prop} (hr : R a b) (h : P a σ) : WG c R (Pure.pure b : Sem β) P σ :=
  fun _ _ _ C => wpAny_pure ⟨a, σ, hr, C, h⟩
theorem WG.bind {t : Sem β} {f : β → Sem δ} {P : γ → St → Prop} (h : WG c R t (fun a σ' => ∀ b, R a b → WG c R' (f b) P σ') σ) : WG c R' (t >>= f) P σ :=
  fun h₀ s hb C => wpAny_bind (wpAny_mono (h h₀ s hb C) (fun _ s' ⟨_, _, h1, h2, h3⟩ => h3 _ h1 h₀ s' hb h2) fun _ _ x => x)
/-- by the kit's own rule: the state is opened -/
theorem WG.of {t : Sem β} {P : α → St → Prop} (h : ∀ h₀ s, c.base.StaysIn h₀ → Conc c h₀ σ s →
    wpAny (model c.prog c.w) c.A t (fun v s' => ∃ av σ', R av v ∧ Conc c h₀ σ' s' ∧ P av σ') (fun _ _ => False) s) : WG c R t P σ := h
theorem WG.standAt {pos : Pos} {t : Sem β} {P : α → St → Prop} (h : WG c R t P σ) : WG c R (PySem.standAt pos >>= fun _ => t) P σ :=
  fun h₀ s hb C => wpAny_bind (wpAny_standAt (h h₀ s hb C))
theorem WG.holding {vs : List Value} {t : Sem β} {P : α → St → Prop} (h : WG c R t P σ) : WG c R (PySem.holding vs t) P σ :=
  fun h₀ s hb C => wpAny_holding (h h₀ s hb C)
theorem WG.operate {vs : List Value} {t : Sem Value} {R : α → Value → Prop} {P : α → St → Prop} (h : WG c R t P σ) : WG c R (PySem.operate vs t) P σ :=
  fun h₀ s hb C => wpAny_operateT (h h₀ s hb C)
end

/-! the state's own moves -/
namespace Conc
variable {c : Cx} {h₀ : Heap} {σ : St} {s : Shared}

theorem toks (C : Conc c h₀ σ s) (k : Nat) : Conc c h₀ σ { s with toks := k } :=
  ⟨(let ⟨h, _, e⟩ := C.same; ⟨h, k, by rw [e]⟩), C.keep, C.ns, C.cell, C.capart, C.heap, C.lfree⟩

/-- any turn of the heap that keeps all that is there -/
theorem grow (C : Conc c h₀ σ s) {h' : Heap} (k : Nat) (hk : ∀ b o, s.heap.get? b = some o → h'.get? b = some o) : Conc c h₀ σ { s with heap := h', toks := k } where
  same := let ⟨_, _, e⟩ := C.same; ⟨h', k, by rw [e]⟩
  keep := fun b o e => hk _ _ (C.keep b o e)
  ns := let ⟨m, hn, hm⟩ := C.ns; ⟨m, hn.keeps hk, hm⟩
  cell := fun x v hx hv => let ⟨a, u, h1, h2, h3⟩ := C.cell x v hx hv; ⟨a, u, h1, h2.keeps hk, h3⟩
  capart := fun x a hx => let ⟨h1, h2, ⟨u, h3⟩, h4⟩ := C.capart x a hx; ⟨h1, h2, ⟨u, h3.keeps hk⟩, h4⟩
  heap := fun a o ho => let ⟨co, h1, h2, h3⟩ := C.heap a o ho; ⟨co, hk _ _ h1, h2, h3⟩
  lfree := C.lfree


theorem lt (C : Conc c h₀ σ s) {a : Addr} {o : AO} (ho : σ.H a = some o) : a < s.heap.objs.size := let ⟨_, h1, _⟩ := C.heap a o ho; Heap.lt_size h1
theorem fresh (C : Conc c h₀ σ s) : σ.H s.heap.objs.size = none := by
  cases e : σ.H s.heap.objs.size with
  | none => rfl
  | some o => exact absurd (C.lt e) (Nat.lt_irrefl _)
theorem keep_lt (C : Conc c h₀ σ s) : h₀.get? s.heap.objs.size = none := by
  cases e : h₀.get? s.heap.objs.size with
  | none => rfl
  | some o => exact absurd (Heap.lt_size (C.keep _ _ e)) (Nat.lt_irrefl _)

/-- a new object of ours -/
theorem new (C : Conc c h₀ σ s) {co : Obj} {o : AO} (hr : OR c.prog c.w o co) (hf : co.isFreed = false) (hlo : sysModules < s.heap.objs.size) (k : Nat) :
    Conc c h₀ (St.put σ s.heap.objs.size o) { s with heap := s.heap.push co, toks := k } where
  same := let ⟨_, _, e⟩ := C.same; ⟨_, k, by rw [e]⟩
  keep := fun b o e => Heap.get?_push_of_some _ (C.keep b o e)
  ns := let ⟨m, hn, hm⟩ := C.ns; ⟨m, hn.push _, hm⟩
  cell := fun x v hx hv => let ⟨a, u, h1, h2, h3⟩ := C.cell x v hx hv; ⟨a, u, h1, h2.keeps fun _ _ e => Heap.get?_push_of_some _ e, h3⟩
  capart := fun x a hx => by
    obtain ⟨h1, h2, ⟨u, h3⟩, h4⟩ := C.capart x a hx
    refine ⟨?_, h2, ⟨u, h3.keeps fun _ _ e => Heap.get?_push_of_some _ e⟩, h4⟩
    show (if a = s.heap.objs.size then some o else σ.H a) = none
    rw [if_neg (Nat.ne_of_lt h3.lt)]; exact h1
  heap := fun a o' ho => by
    by_cases ha : a = s.heap.objs.size
    · subst ha
      have : o = o' := by simpa [St.put] using ho
      subst this
      obtain ⟨m, hn, _⟩ := C.ns
      exact ⟨co, Heap.get?_push_size _ hf, hr, C.keep_lt, fun e => Nat.lt_irrefl _ (e ▸ hn.lt), Nat.ne_of_gt hlo⟩
    · have : σ.H a = some o' := by simpa [St.put, ha] using ho
      obtain ⟨co', h1, h2, h3⟩ := C.heap a o' this
      exact ⟨co', Heap.get?_push_of_some _ h1, h2, h3⟩
  lfree := C.lfree

/-- an object of ours is written -/
theorem write (C : Conc c h₀ σ s) {a : Addr} {o o' : AO} (ho : σ.H a = some o) {h' : Heap} (k : Nat) (hs : Heap.SameBut a s.heap h') {co' : Obj} (hg : h'.get? a = some co') (hr : OR c.prog c.w o' co') :
    Conc c h₀ (St.put σ a o') { s with heap := h', toks := k } where
  same := let ⟨_, _, e⟩ := C.same; ⟨_, k, by rw [e]⟩
  keep := fun b ob e => by
    obtain ⟨_, _, _, hn, _⟩ := C.heap a o ho
    exact (hs.2 b (by rintro rfl; rw [hn] at e; cases e)).trans (C.keep b ob e)
  ns := by
    obtain ⟨_, _, _, _, hl, _⟩ := C.heap a o ho
    obtain ⟨m, hn, hm⟩ := C.ns
    exact ⟨m, hn.sameBut hs (Ne.symm hl), hm⟩
  cell := fun x v hx hv => by
    obtain ⟨b, u, h1, h2, h3⟩ := C.cell x v hx hv
    refine ⟨b, u, h1, h2.sameBut hs ?_, h3⟩
    rintro rfl
    have := (C.capart x _ (mem_of_lookup h1)).1
    rw [ho] at this; cases this
  capart := fun x b hx => by
    obtain ⟨h1, h2, ⟨u, h3⟩, h4⟩ := C.capart x b hx
    have hne : b ≠ a := by rintro rfl; rw [ho] at h1; cases h1
    refine ⟨?_, h2, ⟨u, h3.sameBut hs hne⟩, h4⟩
    show (if b = a then some o' else σ.H b) = none
    rw [if_neg hne]; exact h1
  heap := fun b ob hb => by
    by_cases hba : b = a
    · subst hba
      have : o' = ob := by simpa [St.put] using hb
      subst this
      obtain ⟨_, _, _, h3, h4, h5⟩ := C.heap b o ho
      exact ⟨co', hg, hr, h3, h4, h5⟩
    · have : σ.H b = some ob := by simpa [St.put, hba] using hb
      obtain ⟨co, h1, h2, h3⟩ := C.heap b ob this
      exact ⟨co, (hs.2 b hba).trans h1, h2, h3⟩
  lfree := C.lfree

/-- a local name is bound -/
theorem setLocal (C : Conc c h₀ σ s) {x : Str} {v : AV} {u : Value} (hv : VR v u) (hx : c.env.kindOf x = some .local) {m : Str → Option Value} (_hn : s.heap.Ns c.env.locals m)
    (hm : ∀ x v, c.env.kindOf x = some .local → σ.loc x = some v → ∃ u, m x = some u ∧ VR v u)
    {h' : Heap} (hn' : h'.Ns c.env.locals (fun y => if y = x then some u else m y)) (hs : Heap.SameBut c.env.locals s.heap h') (k : Nat) :
    Conc c h₀ (St.set σ x v) { s with heap := h', toks := k } where
  same := let ⟨_, _, e⟩ := C.same; ⟨_, k, by rw [e]⟩
  keep := fun b ob e => (hs.2 b (by rintro rfl; rw [C.lfree] at e; cases e)).trans (C.keep b ob e)
  ns := by
    refine ⟨_, hn', fun y w hy hw => ?_⟩
    by_cases hyx : y = x
    · subst hyx
      have : v = w := by simpa [St.set] using hw
      subst this
      exact ⟨u, by simp, hv⟩
    · have : σ.loc y = some w := by simpa [St.set, hyx] using hw
      obtain ⟨u', h1, h2⟩ := hm y w hy this
      exact ⟨u', by simp [hyx, h1], h2⟩
  cell := fun y w hy hw => by
    have hyx : y ≠ x := by rintro rfl; rw [hx] at hy; cases hy
    have : σ.loc y = some w := by simpa [St.set, hyx] using hw
    obtain ⟨a, u', h1, h2, h3⟩ := C.cell y w hy this
    exact ⟨a, u', h1, h2.sameBut hs (C.capart y a (mem_of_lookup h1)).2.1, h3⟩
  capart := fun y a hy => let ⟨h1, h2, ⟨u', h3⟩, h4⟩ := C.capart y a hy; ⟨h1, h2, ⟨u', h3.sameBut hs h2⟩, h4⟩
  heap := fun a o ho => let ⟨co, h1, h2, h3, h4, h5⟩ := C.heap a o ho; ⟨co, (hs.2 a h4).trans h1, h2, h3, h4, h5⟩
  lfree := C.lfree

/-- a name that lies in a cell of ours is bound -/
theorem setCell (C : Conc c h₀ σ s) {K : Frag} {n : Nat} (O : Ok K c n) (hown : c.own = true) {x : Str} {v : AV} {u : Value} (hv : VR v u) (hx : c.env.kindOf x = some .cell) {a : Addr} (ha : c.env.cells.lookup x = some a)
    {h' : Heap} (hc' : h'.IsCell a (some u)) (hs : Heap.SameBut a s.heap h') (k : Nat) :
    Conc c h₀ (St.set σ x v) { s with heap := h', toks := k } where
  same := let ⟨_, _, e⟩ := C.same; ⟨_, k, by rw [e]⟩
  keep := fun b ob e => (hs.2 b (by rintro rfl; rw [(C.capart x _ (mem_of_lookup ha)).2.2.2 hown] at e; cases e)).trans (C.keep b ob e)
  ns := by
    obtain ⟨m, hn, hm⟩ := C.ns
    refine ⟨m, hn.sameBut hs (Ne.symm (C.capart x _ (mem_of_lookup ha)).2.1), fun y w hy hw => ?_⟩
    have hyx : y ≠ x := by rintro rfl; rw [hx] at hy; cases hy
    exact hm y w hy (by simpa [St.set, hyx] using hw)
  cell := fun y w hy hw => by
    by_cases hyx : y = x
    · subst hyx
      have : v = w := by simpa [St.set] using hw
      subst this
      exact ⟨a, u, ha, hc', hv⟩
    · have : σ.loc y = some w := by simpa [St.set, hyx] using hw
      obtain ⟨b, u', h1, h2, h3⟩ := C.cell y w hy this
      exact ⟨b, u', h1, h2.sameBut hs (fun e => hyx (name_of_addr (O.capair hown) (mem_of_lookup h1) (e ▸ mem_of_lookup ha))), h3⟩
  capart := fun y b hy => by
    obtain ⟨h1, h2, ⟨u', h3⟩, h4⟩ := C.capart y b hy
    refine ⟨h1, h2, ?_, h4⟩
    by_cases hb : b = a
    · subst hb; exact ⟨_, hc'⟩
    · exact ⟨u', h3.sameBut hs hb⟩
  heap := fun b o ho => by
    obtain ⟨co, h1, h2⟩ := C.heap b o ho
    have hb : b ≠ a := by
      rintro rfl
      have := (C.capart x _ (mem_of_lookup ha)).1
      have ho' : σ.H b = some o := ho
      rw [ho'] at this; cases this
    exact ⟨co, (hs.2 b hb).trans h1, h2⟩
  lfree := C.lfree

/-- forget names -/
theorem forget (C : Conc c h₀ σ s) {l : Str → Option AV} (hl : ∀ x v, l x = some v → σ.loc x = some v) : Conc c h₀ { σ with loc := l } s :=
  ⟨C.same, C.keep, (let ⟨m, hn, hm⟩ := C.ns; ⟨m, hn, fun x v hx hv => hm x v hx (hl x v hv)⟩), fun x v hx hv => C.cell x v hx (hl x v hv), C.capart, C.heap, C.lfree⟩
/-- forget objects -/
theorem forgetH (C : Conc c h₀ σ s) {l : AH} (hl : ∀ x v, l x = some v → σ.H x = some v) : Conc c h₀ { σ with H := l } s :=
  ⟨C.same, C.keep, C.ns, C.cell, (fun x a hx => by
    obtain ⟨h1, h2⟩ := C.capart x a hx
    refine ⟨?_, h2⟩
    cases e : l a with
    | none => exact e
    | some o => rw [hl a o e] at h1; cases h1), (fun a o ho => C.heap a o (hl a o ho)), C.lfree⟩
end Conc

/-! Core2 -/
section
variable {K : Frag} {n : Nat} {c : Cx} {σ : St}

theorem Ok.low (O : Ok K c n) {h₀ : Heap} {s : Shared} (hb : c.base.StaysIn h₀) (C : Conc c h₀ σ s) : sysModules < s.heap.objs.size := by
  obtain ⟨p, loose, mg, mb, T⟩ := O.top
  obtain ⟨mc, hn, _⟩ := T.nolimit
  exact Nat.lt_trans (show sysModules < cStatics by decide) (Heap.lt_size (C.keep _ _ (hb _ _ hn.choose_spec.choose_spec.choose_spec.1)))
theorem Ok.stays (_O : Ok K c n) {h₀ : Heap} {s : Shared} (hb : c.base.StaysIn h₀) (C : Conc c h₀ σ s) : ∀ b o, c.base.get? b = some o → s.heap.get? b = some o := fun b o e => C.keep b o (hb b o e)

/-! ### expressions -/
theorem we_int {i : Int} {k : Nat} {pos : Pos} {P : AV → St → Prop} (h : P (.int i) σ) : WE c (eval (.Constant (.int i) k pos) c.env) P σ :=
  fun _ _ _ C => wpAny_Constant_int ⟨_, _, .int _ _, C.toks _, h⟩
theorem we_str {x : Str} {k : Nat} {pos : Pos} {P : AV → St → Prop} (h : P (.str x) σ) : WE c (eval (.Constant (.str x) k pos) c.env) P σ :=
  fun _ _ _ C => wpAny_Constant_str ⟨_, _, .str _ _, C.toks _, h⟩
theorem we_bool {b : Bool} {k : Nat} {pos : Pos} {P : AV → St → Prop} (h : P (.bool b) σ) : WE c (eval (.Constant (.bool b) k pos) c.env) P σ :=
  fun _ _ _ C => wpAny_Constant_bool ⟨_, _, .bool _, C, h⟩

theorem we_loadName (O : Ok K c n) {x : Str} {v : AV} {P : AV → St → Prop} (hv : σ.loc x = some v) (h : P v σ)
    (hk : (c.env.kindOf x == some .local || c.env.kindOf x == some .cell) = true) : WE c (loadName c.env x) P σ := by
  intro h₀ s _ C
  cases e : c.env.kindOf x with
  | none => rw [e] at hk; cases hk
  | some k =>
    by_cases hl : k = .local
    · subst hl
      obtain ⟨m, hn, hm⟩ := C.ns
      obtain ⟨u, hu, hr⟩ := hm x v e hv
      exact wpAny_loadName_local O.kind e hn hu ⟨_, _, hr, C, h⟩
    · have : k = .cell := by
        rw [e] at hk
        rcases Bool.or_eq_true_iff.mp hk with q | q
        · exact absurd (Option.some.inj (beq_iff_eq.mp q)) hl
        · exact Option.some.inj (beq_iff_eq.mp q)
      subst this
      obtain ⟨a, u, h1, h2, h3⟩ := C.cell x v e hv
      exact wpAny_loadName_cell O.kind e h1 h2 ⟨_, _, h3, C, h⟩

theorem we_Name (O : Ok K c n) {x : Str} {pos : Pos} {v : AV} {P : AV → St → Prop} (hv : σ.loc x = some v) (h : P v σ)
    (hk : (c.env.kindOf x == some .local || c.env.kindOf x == some .cell) = true) (hd : (x == ("__debug__" : Str)) = false) : WE c (eval (.Name x pos) c.env) P σ :=
  fun h₀ s hb C => wpAny_Name (we_loadName O hv h hk h₀ s hb C) hd

noncomputable def WBin (c : Cx) (op : Operator) (a b : AV) (P : AV → St → Prop) (σ : St) : Prop := ∀ u v, VR a u → VR b v → WE c (binaryOp op u v) P σ
noncomputable def WCmp (c : Cx) (op : CmpOp) (a b : AV) (P : AV → St → Prop) (σ : St) : Prop := ∀ u v, VR a u → VR b v → WE c (compareOp op u v) P σ
noncomputable def WTr (c : Cx) (a : AV) (P : Bool → St → Prop) (σ : St) : Prop := ∀ u, VR a u → WB c (truthy u) P σ

theorem we_BinOp {l r : Expr} {op : Operator} {pos : Pos} {P : AV → St → Prop}
    (h : WE c (eval l c.env) (fun a => WE c (eval r c.env) (fun b => WBin c op a b P)) σ) : WE c (eval (.BinOp l op r pos) c.env) P σ := by
  rw [eval_BinOp]
  exact WG.bind (h.mono fun a σ1 h1 u hu => WG.bind (WG.holding (h1.mono fun b σ2 h2 v hv => WG.standAt (WG.operate (h2 u v hu hv)))))
theorem we_Compare {l r : Expr} {op : CmpOp} {pos : Pos} {P : AV → St → Prop}
    (h : WE c (eval l c.env) (fun a => WE c (eval r c.env) (fun b => WCmp c op a b P)) σ) (hm : behindInMarks op r = false) : WE c (eval (.Compare l [op] [r] pos) c.env) P σ := by
  rw [eval_Compare1, markedBehindIn_of_false hm]
  exact WG.bind (h.mono fun a σ1 h1 u hu => WG.bind (WG.holding (h1.mono fun b σ2 h2 v hv => WG.standAt (WG.operate (h2 u v hu hv)))))
theorem we_UnaryOp {x : Expr} {op : PySem.UnaryOp} {pos : Pos} {P : AV → St → Prop}
    (h : WE c (eval x c.env) (fun a σ1 => ∀ u, VR a u → WE c (unaryOp op u) P σ1) σ) : WE c (eval (.UnaryOp op x pos) c.env) P σ := by
  rw [arm_eval_UnaryOp]
  exact WG.bind (h.mono fun a σ1 h1 u hu => WG.standAt (WG.holding (h1 u hu)))
theorem we_IfExp {test body orelse : Expr} {pos : Pos} {P : AV → St → Prop}
    (h : WB c (isTrue test c.env (eval test c.env)) (fun b σ1 => if b then WE c (eval body c.env) P σ1 else WE c (eval orelse c.env) P σ1) σ) : WE c (eval (.IfExp test body orelse pos) c.env) P σ := by
  rw [arm_eval_IfExp]
  refine WG.bind (h.mono fun a σ1 h1 u hu => ?_)
  cases hu
  cases a <;> exact h1
theorem we_Or2 {x y : Expr} {pos : Pos} {P : AV → St → Prop}
    (h : WE c (eval x c.env) (fun v σ1 => WTr c v (fun t σ2 => if t then P v σ2 else WE c (eval y c.env) P σ2) σ1) σ) : WE c (eval (.BoolOp .Or [x, y] pos) c.env) P σ := by
  intro h₀ s hb C
  refine wpAny_Or2 (wpAny_mono (h h₀ s hb C) (fun v s1 ⟨av, σ1, h1, h2, h3⟩ => wpAny_mono (h3 v h1 h₀ s1 hb h2) (fun t s2 ⟨b, σ2, e, h4, h5⟩ => ?_) fun _ _ x => x) fun _ _ x => x)
  subst e
  cases b with
  | false => exact h5 h₀ s2 hb h4
  | true => exact ⟨av, σ2, h1, h4, h5⟩

/-! ### tests -/
theorem wb_Compare {l r : Expr} {op : CmpOp} {pos : Pos} {whole : Sem Value} {P : Bool → St → Prop}
    (h : WE c (eval l c.env) (fun a => WE c (eval r c.env) (fun b => WCmp c op a b (fun v => WTr c v P))) σ) (hm : behindInMarks op r = false) : WB c (isTrue (.Compare l [op] [r] pos) c.env whole) P σ := by
  rw [isTrue_Compare1, markedBehindIn_of_false hm]
  exact WG.bind (h.mono fun a σ1 h1 u hu => WG.bind (WG.holding (h1.mono fun b σ2 h2 v hv => WG.standAt (WG.bind (WG.operate ((h2 u v hu hv).mono fun w σ3 h3 x hx => WG.holding (h3 x hx)))))))
theorem wb_Not {x : Expr} {pos : Pos} {whole : Sem Value} {P : Bool → St → Prop} (h : WB c (isTrue x c.env (eval x c.env)) (fun b => P (!b)) σ) : WB c (isTrue (.UnaryOp .Not x pos) c.env whole) P σ := by
  rw [arm_isTrue_UnaryOp]
  exact WG.bind (h.mono fun b σ1 h1 u hu => WG.pure (by rw [hu]) h1)
theorem wb_BoolOp {op : BoolOp} {vs : List Expr} {pos : Pos} {whole : Sem Value} {P : Bool → St → Prop} (h : WB c (allTrue op vs c.env) P σ) : WB c (isTrue (.BoolOp op vs pos) c.env whole) P σ := by
  rw [arm_isTrue_BoolOp]; exact h
theorem wb_And_nil {P : Bool → St → Prop} (h : P true σ) : WB c (allTrue .And [] c.env) P σ := WG.pure rfl h
theorem wb_Or_nil {P : Bool → St → Prop} (h : P false σ) : WB c (allTrue .Or [] c.env) P σ := WG.pure rfl h
theorem wb_And_cons {x : Expr} {rest : List Expr} {P : Bool → St → Prop}
    (h : WB c (isTrue x c.env (eval x c.env)) (fun b σ1 => if b then WB c (allTrue .And rest c.env) P σ1 else P false σ1) σ) : WB c (allTrue .And (x :: rest) c.env) P σ := by
  show WB c (do match BoolOp.And, ← isTrue x c.env (eval x c.env) with | .And, false => pure false | .Or, true => pure true | _, _ => allTrue .And rest c.env) P σ
  refine WG.bind (h.mono fun b σ1 h1 u hu => ?_)
  cases hu
  cases b
  · exact WG.pure rfl h1
  · exact h1
theorem wb_Or_cons {x : Expr} {rest : List Expr} {P : Bool → St → Prop}
    (h : WB c (isTrue x c.env (eval x c.env)) (fun b σ1 => if b then P true σ1 else WB c (allTrue .Or rest c.env) P σ1) σ) : WB c (allTrue .Or (x :: rest) c.env) P σ := by
  show WB c (do match BoolOp.Or, ← isTrue x c.env (eval x c.env) with | .And, false => pure false | .Or, true => pure true | _, _ => allTrue .Or rest c.env) P σ
  refine WG.bind (h.mono fun b σ1 h1 u hu => ?_)
  cases hu
  cases b
  · exact h1
  · exact WG.pure rfl h1
theorem wb_value {e : Expr} {whole : Sem Value} {P : Bool → St → Prop} (h : WE c whole (fun v => WTr c v P) σ)
    (he : isTrue e c.env whole = (do let v ← whole; standAt e.pos; holding [v] (truthy v))) : WB c (isTrue e c.env whole) P σ := by
  rw [he]
  exact WG.bind (h.mono fun b σ1 h1 u hu => WG.standAt (WG.holding (h1 u hu)))

theorem wt_bool {b : Bool} {P : Bool → St → Prop} (h : P b σ) : WTr c (.bool b) P σ := fun u hu => by
  cases hu
  exact fun _ _ _ C => wpAny_truthy_bool ⟨_, _, rfl, C, h⟩

/-! ### statements -/
theorem wf_nil {P : AF → St → Prop} (h : P .next σ) : WF c (execs [] c.env) P σ := WG.pure .next h
theorem wf_cons {st : Stmt} {rest : List Stmt} {P : AF → St → Prop}
    (h : WF c (exec st c.env) (fun f σ1 => match f with | .next => WF c (execs rest c.env) P σ1 | f => P f σ1) σ) : WF c (execs (st :: rest) c.env) P σ := by
  rw [execs_cons]
  refine WG.bind (h.mono fun f σ1 h1 u hu => ?_)
  cases hu with
  | next => exact h1
  | brk => exact WG.pure .brk h1
  | cont => exact WG.pure .cont h1
  | ret hv => exact WG.pure (.ret hv) h1

theorem wf_Return {e : Expr} {pos : Pos} {P : AF → St → Prop} (h : WE c (eval e c.env) (fun v => P (.ret v)) σ) : WF c (exec (.Return (some e) pos) c.env) P σ := by
  rw [exec_Return_some]
  exact WG.standAt (WG.bind (h.mono fun v σ1 h1 u hu => WG.pure (.ret hu) h1))

theorem wf_If {test : Expr} {body orelse : List Stmt} {pos : Pos} {P : AF → St → Prop}
    (h : WB c (isTrue test c.env (eval test c.env)) (fun b σ1 => if b then WF c (execs body c.env) P σ1 else WF c (execs orelse c.env) P σ1) σ) : WF c (exec (.If test body orelse pos) c.env) P σ := by
  rw [exec_If]
  refine WG.standAt (WG.bind (h.mono fun b σ1 h1 u hu => ?_))
  cases hu
  cases b <;> exact h1

theorem wf_Assert {test : Expr} {msg : Option Expr} {pos : Pos} {P : AF → St → Prop}
    (h : WB c (isTrue test c.env (eval test c.env)) (fun b σ1 => b = true ∧ P .next σ1) σ) : WF c (exec (.Assert test msg pos) c.env) P σ := by
  rw [arm_exec_Assert]
  refine WG.standAt (WG.bind (h.mono fun b σ1 h1 u hu => ?_))
  cases hu
  obtain ⟨rfl, h1⟩ := h1
  exact WG.pure .next h1

theorem wu_storeName (O : Ok K c n) {x : Str} {v : AV} {u : Value} (hv : VR v u) {P : St → Prop} (h : P (σ.set x v))
    (hk : (c.env.kindOf x == some .local || (c.own && c.env.kindOf x == some .cell && (c.env.cells.lookup x).isSome)) = true) : WU c (storeName c.env x u) P σ := by
  intro h₀ s _ C
  cases e : c.env.kindOf x with
  | none => rw [e] at hk; simp at hk
  | some k =>
    by_cases hl : k = .local
    · subst hl
      obtain ⟨m, hn, hm⟩ := C.ns
      refine wpAny_storeName_local e hn (fun h' hn' hs => ⟨(), _, trivial, C.setLocal hv e hn hm hn' hs _, h⟩) (by rw [O.kind]; rfl)
    · rw [e] at hk
      have hk' : (c.own = true ∧ k = .cell) ∧ (c.env.cells.lookup x).isSome = true := by simpa [hl] using hk
      obtain ⟨⟨ho, rfl⟩, hs⟩ := hk'
      obtain ⟨a, ha⟩ := Option.isSome_iff_exists.mp hs
      obtain ⟨_, _, ⟨u₀, hc⟩, _⟩ := C.capart x a (mem_of_lookup ha)
      exact wpAny_storeName_cell O.kind e ha hc fun h' hc' hs' => ⟨(), _, trivial, C.setCell O ho hv e ha hc' hs' s.toks, h⟩

theorem wu_bindName (O : Ok K c n) {x : Str} {v : AV} {u : Value} (hv : VR v u) {P : St → Prop} (h : P (σ.set x v))
    (hk : (c.env.kindOf x == some .local || (c.own && c.env.kindOf x == some .cell && (c.env.cells.lookup x).isSome)) = true) : WU c (bindName c.env x u) P σ :=
  fun h₀ s hb C => wpAny_bindName (wu_storeName O hv h hk h₀ s hb C)

theorem wf_Assign (O : Ok K c n) {x : Str} {px pos : Pos} {value : Expr} {P : AF → St → Prop}
    (h : WE c (eval value c.env) (fun v σ1 => P .next (σ1.set x v)) σ)
    (hk : (c.env.kindOf x == some .local || (c.own && c.env.kindOf x == some .cell && (c.env.cells.lookup x).isSome)) = true)
    (hs : swapsWith value (some (.Name x px)) pos.line c.env = pure false) : WF c (exec (.Assign [.Name x px] value pos) c.env) P σ := by
  rw [exec_Assign_Name _ _ _ _ _ hs]
  exact WG.standAt (WG.bind (h.mono fun v σ1 h1 u hu => WG.standAt (WG.bind ((wu_bindName O hu h1 hk).mono fun _ σ2 h2 _ _ => WG.pure .next h2))))

theorem wf_AugAssign (O : Ok K c n) {x : Str} {px pos : Pos} {op : Operator} {value : Expr} {old : AV} {P : AF → St → Prop} (hold : σ.loc x = some old)
    (h : WE c (eval value c.env) (fun v σ1 => ∀ u w, VR old u → VR v w → WE c (inplaceOp op u w) (fun r σ2 => P .next (σ2.set x r)) σ1) σ)
    (hk1 : (c.env.kindOf x == some .local || c.env.kindOf x == some .cell) = true)
    (hk : (c.env.kindOf x == some .local || (c.own && c.env.kindOf x == some .cell && (c.env.cells.lookup x).isSome)) = true) :
    WF c (exec (.AugAssign (.Name x px) op value pos) c.env) P σ := by
  rw [exec_AugAssign_Name]
  refine WG.standAt (WG.bind (we_loadName O hold (P := fun v σ1 => v = old ∧ σ1 = σ) ⟨rfl, rfl⟩ hk1 |>.mono fun v σ1 h1 u hu => ?_))
  obtain ⟨rfl, rfl⟩ := h1
  exact WG.bind (WG.holding (h.mono fun v σ1 h1 w hw => WG.standAt (WG.bind (WG.operate ((h1 u w hu hw).mono fun r σ2 h2 x hx => WG.standAt (WG.bind ((wu_bindName O hx h2 hk).mono fun _ σ3 h3 _ _ => WG.pure .next h3)))))))

theorem wf_Expr {e : Expr} {pos : Pos} {P : AF → St → Prop} (h : WE c (eval e c.env) (fun v σ1 => (∀ a, v ≠ .ref a) ∧ P .next σ1) σ)
    (hi : interactive c.env = false) (hs : swapsWith e none pos.line c.env = pure false) : WF c (exec (.Expr e pos) c.env) P σ := by
  rw [exec_Expr _ _ _ hi hs]
  refine WG.standAt (WG.bind (h.mono fun v σ1 h1 u hu => ?_))
  rw [dropValue_plain (fun a e => by subst e; cases hu; exact h1.1 a rfl)]
  exact WG.pure .next h1.2

/-! ### arguments -/
theorem wl_nil {pos : Pos} {P : List AV → St → Prop} (h : P [] σ) : WL c (spliced (backTo pos (starEach [] c.env))) P σ := WG.pure .nil h
theorem wl_cons {pos : Pos} {e : Expr} {rest : List Expr} {P : List AV → St → Prop}
    (h : WE c (eval e c.env) (fun v => WL c (spliced (backTo pos (starEach rest c.env))) (fun vs => P (v :: vs))) σ)
    (he : starEach (e :: rest) c.env = (false, eval e c.env) :: starEach rest c.env) : WL c (spliced (backTo pos (starEach (e :: rest) c.env))) P σ := by
  rw [he]
  show WL c (do
    let v ← eval e c.env
    let here ← (pure [v] : Sem (List Value))
    return here ++ (← holding here (spliced (backTo pos (starEach rest c.env))))) P σ
  exact WG.bind (h.mono fun v σ1 h1 u hu => WG.bind (WG.pure (P := fun (a : Unit) σ' => ∀ b, b = [u] → WL c (do return b ++ (← holding b (spliced (backTo pos (starEach rest c.env))))) P σ') (R := fun _ b => b = [u]) (a := ()) rfl (fun b hb => by
    subst hb
    exact WG.bind (WG.holding (h1.mono fun vs σ2 h2 us hus => WG.pure (.cons hu hus) h2)))))
end

/-! Core3 -/
/-- the addresses of ours -/
noncomputable def domL (h : Heap) (H : AH) : List Addr := (List.range h.objs.size).filter fun a => (H a).isSome
noncomputable def hideH (h : Heap) (H : AH) : Heap := hideAll h (domL h H)

theorem hideH_of {h : Heap} {H : AH} {b : Addr} {o : Obj} (e : (hideH h H).get? b = some o) : h.get? b = some o := of_hideAll _ e
theorem hideH_get {h : Heap} {H : AH} {b : Addr} {o : Obj} (e : h.get? b = some o) (n : H b = none) : (hideH h H).get? b = some o := by
  refine hideAll_get _ e fun hm => ?_
  have := (List.mem_filter.mp hm).2
  rw [n] at this; cases this
theorem hideH_none {h : Heap} {H : AH} {b : Addr} {o : AO} (n : H b = some o) : (hideH h H).get? b = none := by
  cases q : (hideH h H).get? b with
  | none => rfl
  | some ob =>
    have hlt := Heap.lt_size (hideH_of q)
    have hm : b ∈ domL h H := List.mem_filter.mpr ⟨List.mem_range.mpr hlt, by rw [n]; rfl⟩
    have := hideAll_none (domL h H) (h := h) hm
    rw [show (hideH h H) = hideAll h (domL h H) from rfl, this] at q; cases q

section
variable {K : Frag} {n : Nat} {c c' : Cx} {σ σ' : St} {h₀ h₁ : Heap} {s s' : Shared}

theorem Conc.weaken (C : Conc c h₁ σ s) (hs : h₀.StaysIn h₁) : Conc c h₀ σ s := by
  have nn : ∀ a, h₁.get? a = none → h₀.get? a = none := fun a e => by
    cases q : h₀.get? a with
    | none => rfl
    | some o => rw [hs _ _ q] at e; cases e
  exact ⟨C.same, fun b o e => C.keep b o (hs b o e), C.ns, C.cell, fun x a hx => let ⟨h1, h2, h3, h4⟩ := C.capart x a hx; ⟨h1, h2, h3, fun q => nn _ (h4 q)⟩,
    fun a o ho => let ⟨co, h1, h2, h3, h4⟩ := C.heap a o ho; ⟨co, h1, h2, nn _ h3, h4⟩, nn _ C.lfree⟩

/-- the caller again, behind a callee that kept what is not ours -/
theorem Conc.leave (C : Conc c h₀ σ s) {H' : AH} (same : ∃ h tk, s' = { c.st with heap := h, toks := tk }) (keep : (hideH s.heap σ.H).StaysIn s'.heap)
    (heap : ∀ a o, H' a = some o → ∃ co, s'.heap.get? a = some co ∧ OR c.prog c.w o co ∧ (hideH s.heap σ.H).get? a = none ∧ a ≠ sysModules) : Conc c h₀ { loc := σ.loc, H := H' } s' := by
  have up : h₀.StaysIn (hideH s.heap σ.H) := fun b o e => hideH_get (C.keep b o e) (by
    cases q : σ.H b with
    | none => rfl
    | some ao => obtain ⟨_, _, _, hn, _⟩ := C.heap b ao q; rw [hn] at e; cases e)
  have Ln : σ.H c.env.locals = none := by
    cases q : σ.H c.env.locals with
    | none => rfl
    | some ao => obtain ⟨_, _, _, _, hn, _⟩ := C.heap _ ao q; exact absurd rfl hn
  refine ⟨same, fun b o e => keep b o (up b o e), ?_, ?_, ?_, ?_, C.lfree⟩
  · obtain ⟨m, ⟨o, es, ep, ho, r⟩, hm⟩ := C.ns
    exact ⟨m, ⟨o, es, ep, keep _ _ (hideH_get ho Ln), r⟩, hm⟩
  · intro x v hx hv
    obtain ⟨a, u, h1, ⟨o, ho, hd⟩, h3⟩ := C.cell x v hx hv
    exact ⟨a, u, h1, ⟨o, keep _ _ (hideH_get ho (C.capart x a (mem_of_lookup h1)).1), hd⟩, h3⟩
  · intro x a hx
    obtain ⟨h1, h2, ⟨u, o, ho, hd⟩, h4⟩ := C.capart x a hx
    have hk := hideH_get ho h1
    refine ⟨?_, h2, ⟨u, o, keep _ _ hk, hd⟩, h4⟩
    show H' a = none
    cases q : H' a with
    | none => rfl
    | some ao => obtain ⟨_, _, _, hn, _⟩ := heap a ao q; rw [hn] at hk; cases hk
  · intro a o ho
    obtain ⟨co, h1, h2, h3, h4⟩ := heap a o ho
    refine ⟨co, h1, h2, ?_, ?_, h4⟩
    · cases q : h₀.get? a with
      | none => rfl
      | some ob => rw [up _ _ q] at h3; cases h3
    · rintro rfl
      obtain ⟨m, ⟨o', es, ep, ho', r⟩, hm⟩ := C.ns
      rw [hideH_get ho' Ln] at h3; cases h3

noncomputable def bindS : List (Str × AV) → (Str → Option AV) → Str → Option AV
  | [], m => m
  | (x, v) :: r, m => bindS r fun y => if y = x then some v else m y

theorem bindL_rel (kindOf : Str → Option NameKind) : ∀ {as : List AV} {us : List Value} (_ : All₂ VR as us) (names : List Str) (m : Str → Option Value) (l : Str → Option AV),
    (∀ x v, kindOf x = some .local → l x = some v → ∃ u, m x = some u ∧ VR v u) →
    ∀ x v, kindOf x = some .local → bindS (names.zip as) l x = some v → ∃ u, bindL kindOf (names.zip us) m x = some u ∧ VR v u
  | _, _, .nil, names, m, l, h => by simpa [bindS, bindL] using h
  | _, _, .cons hr hs, [], m, l, h => by simpa [bindS, bindL] using h
  | _, _, .cons (a := a) (b := b) hr hs, x :: names, m, l, h => by
    show ∀ y v, kindOf y = some .local → bindS (names.zip _) (fun y => if y = x then some a else l y) y = some v → ∃ u, bindL kindOf (names.zip _) (if kindOf x = some .local then fun y => if y = x then some b else m y else m) y = some u ∧ VR v u
    refine bindL_rel kindOf hs names _ _ fun y v hy hv => ?_
    by_cases hyx : y = x
    · subst hyx
      simp only [if_true] at hv; cases hv
      exact ⟨b, by simp [hy], hr⟩
    · simp only [hyx, if_false] at hv
      obtain ⟨u, h1, h2⟩ := h y v hy hv
      refine ⟨u, ?_, h2⟩
      split
      · simpa [hyx] using h1
      · exact h1
theorem bindC_rel (kindOf : Str → Option NameKind) : ∀ {as : List AV} {us : List Value} (_ : All₂ VR as us) (names : List Str) (m : Str → Option Value) (l : Str → Option AV),
    (∀ x v, kindOf x = some .cell → l x = some v → ∃ u, m x = some u ∧ VR v u) →
    ∀ x v, kindOf x = some .cell → bindS (names.zip as) l x = some v → ∃ u, bindC kindOf (names.zip us) m x = some u ∧ VR v u
  | _, _, .nil, names, m, l, h => by simpa [bindS, bindC] using h
  | _, _, .cons hr hs, [], m, l, h => by simpa [bindS, bindC] using h
  | _, _, .cons (a := a) (b := b) hr hs, x :: names, m, l, h => by
    show ∀ y v, kindOf y = some .cell → bindS (names.zip _) (fun y => if y = x then some a else l y) y = some v → ∃ u, bindC kindOf (names.zip _) (if kindOf x = some .local then m else fun y => if y = x then some b else m y) y = some u ∧ VR v u
    refine bindC_rel kindOf hs names _ _ fun y v hy hv => ?_
    by_cases hyx : y = x
    · subst hyx
      simp only [if_true] at hv; cases hv
      exact ⟨b, by simp [hy], hr⟩
    · simp only [hyx, if_false] at hv
      obtain ⟨u, h1, h2⟩ := h y v hy hv
      refine ⟨u, ?_, h2⟩
      split
      · exact h1
      · simpa [hyx] using h1

noncomputable def AF.val : AF → AV
  | .ret v => v
  | _ => .none

noncomputable abbrev inFn (c : Cx) (qual : Str) (scope : Scope) (L f : Addr) (cdv : Value) (cl : List (Str × Addr)) : Cx :=
  { c with A := c.A.deeper (envX qual scope L f cdv cl), env := envX qual scope L f cdv cl, own := true }

theorem Ok.inFn (O : Ok K c (n + 1)) {qual : Str} {scope : Scope} {L f : Addr} {cdv : Value} {cl : List (Str × Addr)} (hk : scope.kind = .function) (hp : cl.Pairwise fun x y => x.2 ≠ y.2) : Ok K (inFn c qual scope L f cdv cl) n where
  kin := O.kin
  top := O.top
  handled := O.handled
  depth := by have := O.depth; show c.A.depth + 1 + n < _; omega
  units := by have := O.units; show c.A.units + 3 + 10 * n < _; omega
  kind := hk
  glob := rfl
  blt := rfl
  capair := fun _ => hp

theorem call_fn (O : Ok K c (n + 1)) {f : Addr} {args : List AV} {us : List Value} {P : AV → St → Prop}
    {oc : Value} {od : Option Addr} {name qual : Str} {params : Arguments} {body : List Stmt} {scope : Scope} {dV kV doc pm cdv ct : Value} {an : Option Addr} {osl : Array (Option Value)}
    (hus : All₂ VR args us)
    (ho : K.lookup f = some ⟨oc, od, .func (fnOf name qual params body scope dV kV doc pm an cdv ct), osl⟩) (hcd : codeIn K cdv qual = true)
    (names : List Str) (hlen : args.length = names.length) (hbind : ∀ vals : List Value, vals.length = names.length → bindArgs (fnOf name qual params body scope dV kV doc pm an cdv ct) ⟨vals, []⟩ = pure (names.zip vals))
    (hkind : ∀ k, ∀ x ∈ names, scope.names.lookup x = some .local ∨ (scope.names.lookup x = some .cell ∧ ((cellsFrom k scope.names []).lookup x).isSome = true))
    (hnd : ((cellsFrom 0 scope.names []).map (·.1)).Nodup) (hk : scope.kind = .function) (hco : scope.isCoroutine = false) (hgen : scope.isGenerator = false)
    (h : ∀ L, let cc := inFn c qual scope L f cdv (cellsFrom (L + 1) scope.names []); Ok K cc n →
      WF cc (execs body cc.env) (fun fl σ' => P fl.val { loc := σ.loc, H := σ'.H }) { loc := bindS (names.zip args) fun _ => none, H := σ.H }) :
    WE c (call (.ref f) us) P σ := by
  intro h₀ s hb C
  have hul : us.length = names.length := hus.length ▸ hlen
  obtain ⟨p, loose, mg, mb, T⟩ := O.top
  have kst := O.stays hb C
  refine wpAny_call ?_
  refine codeAny_call_function (fd := fnOf name qual params body scope dV kV doc pm an cdv ct) (by have := O.depth; omega) (kst _ _ (O.kin _ _ ho)) rfl hco hgen rfl (codeRec_of (O.kin.keeps kst) hcd) ?_
  rw [hbind us hul]
  refine wpAny_pure (wpAny_newFunctionEnv_cells hk (fun x hx => hkind _ x.1 (List.of_mem_zip hx).1) fun env' he s₁ x => ?_)
  subst he
  refine ⟨((T.nolimit).keeps kst).keeps x.toInCall.keep, codeAny_func ?_⟩
  obtain ⟨hs₁, tk₁, es₁⟩ := x.toInCall.same
  have hnd' : ((cellsFrom (s.heap.objs.size + 1) scope.names []).map (·.1)).Nodup := by
    rw [← cellsFrom_names scope.names 0 (s.heap.objs.size + 1) [] [] rfl]; exact hnd
  have O' : Ok K (inFn c qual scope s.heap.objs.size f cdv (cellsFrom (s.heap.objs.size + 1) scope.names [])) n := O.inFn hk x.apart
  have hlow := O.low hb C
  have hdom : ∀ a o, σ.H a = some o → ∃ co, s.heap.get? a = some co := fun a o ho => let ⟨co, h1, _⟩ := C.heap a o ho; ⟨co, h1⟩
  have C' : Conc (inFn c qual scope s.heap.objs.size f cdv (cellsFrom (s.heap.objs.size + 1) scope.names [])) (hideH s.heap σ.H) { loc := bindS (names.zip args) fun _ => none, H := σ.H } s₁ := by
    have fresh : ∀ a, s.heap.objs.size ≤ a → (hideH s.heap σ.H).get? a = none := fun a ha => by
      cases q : (hideH s.heap σ.H).get? a with
      | none => rfl
      | some o => exact absurd (Heap.lt_size (hideH_of q)) (Nat.not_lt.mpr ha)
    refine ⟨?_, fun b o e => x.toInCall.keep _ _ (hideH_of e), ⟨_, x.toInCall.ns, fun y v hy hv => ?_⟩, fun y v hy hv => ?_, fun y a hy => ?_, fun a o ho => ?_, ?_⟩
    · obtain ⟨hh, tk, e⟩ := C.same; exact ⟨hs₁, tk₁, by rw [es₁, e]⟩
    · exact bindL_rel _ hus names _ (fun _ => none) (fun _ _ _ q => by cases q) y v hy hv
    · obtain ⟨u, h1, h2⟩ := bindC_rel (newEnv scope s.heap.objs.size mainGlobals (cellsFrom (s.heap.objs.size + 1) scope.names []) (qual ++ ".<locals>.") (some f) cdv none builtinsNs).kindOf hus names (fun _ => none) (fun _ => none) (fun _ _ _ q => by cases q) y v hy hv
      have hl : ∃ a, (cellsFrom (s.heap.objs.size + 1) scope.names []).lookup y = some a := by
        cases hq : (cellsFrom (s.heap.objs.size + 1) scope.names []).lookup y with
        | some a => exact ⟨a, rfl⟩
        | none =>
          exfalso
          have hs := cellsFrom_some (x := y) scope.names (s.heap.objs.size + 1) [] (.inl hy)
          rw [hq] at hs; cases hs
      obtain ⟨a, ha⟩ := hl
      have hc := x.cell y a ha
      rw [h1] at hc
      exact ⟨a, u, ha, hc, h2⟩
    · have hab := x.above y a hy
      have hlt : s.heap.objs.size ≤ a := Nat.le_of_lt hab
      refine ⟨?_, Nat.ne_of_gt hab, ⟨_, x.cell y a (lookup_of_mem_nodup hnd' hy)⟩, fun _ => fresh a hlt⟩
      show σ.H a = none
      cases q : σ.H a with
      | none => rfl
      | some o => exact absurd (C.lt q) (Nat.not_lt.mpr hlt)
    · obtain ⟨co, h1, h2, h3, h4, h5⟩ := C.heap a o ho
      exact ⟨co, x.toInCall.keep _ _ h1, h2, hideH_none ho, Nat.ne_of_lt (Heap.lt_size h1), h5⟩
    · exact fresh _ (Nat.le_refl _)
  have hb' : c.base.StaysIn (hideH s.heap σ.H) := fun b o e => hideH_get (kst b o e) (by
    cases q : σ.H b with
    | none => rfl
    | some ao => obtain ⟨_, _, _, hn, _⟩ := C.heap b ao q; rw [hb _ _ e] at hn; cases hn)
  refine wpAny_mono (h _ O' _ s₁ hb' C') (fun fl s₂ ⟨af, σ₂, hr, C₂, hp⟩ => ?_) fun _ _ x => x.elim
  refine ⟨af.val, _, ?_, C.leave C₂.same C₂.keep (fun a o ho => let ⟨co, h1, h2, h3, _, h5⟩ := C₂.heap a o ho; ⟨co, h1, h2, h3, h5⟩), hp⟩
  cases hr with
  | ret h => exact h
  | _ => exact .none

theorem we_global (O : Ok K c n) {x : Str} {pos : Pos} {v : Value} {β : Type} {R : AV → β → Prop} {f : Value → Sem β} {P : AV → St → Prop} (e : nsIn K mainGlobals x = some (some v)) (h : WG c R (f v) P σ)
    (hx : c.env.kindOf x = some .globalImplicit) (hd : (x == ("__debug__" : Str)) = false) : WG c R (eval (.Name x pos) c.env >>= f) P σ := by
  intro h₀ s hb C
  obtain ⟨p, loose, mg, mb, T⟩ := O.top
  have kst := O.stays hb C
  refine wpAny_bind (Name_function_global O.kind hx (loadGlobal_global (mg := mg) ?_ (mg_of O.kin T.g e) (h h₀ s hb C)) hd)
  rw [O.glob]; exact T.g.keeps kst
theorem we_builtin (O : Ok K c n) {x : Str} {pos : Pos} {v : Value} {β : Type} {R : AV → β → Prop} {f : Value → Sem β} {P : AV → St → Prop} (e : nsIn K mainGlobals x = some none) (hv : bootBuiltins x = some v) (hn : x ≠ "__name__") (h : WG c R (f v) P σ)
    (hx : c.env.kindOf x = some .globalImplicit) (hd : (x == ("__debug__" : Str)) = false) : WG c R (eval (.Name x pos) c.env >>= f) P σ := by
  intro h₀ s hb C
  obtain ⟨p, loose, mg, mb, T⟩ := O.top
  have kst := O.stays hb C
  refine wpAny_bind (Name_function_global O.kind hx (loadGlobal_builtin (mg := mg) (mb := mb) ?_ (mg_none_of O.kin T.g e) ?_ ((T.builtins x hn).trans hv) (h h₀ s hb C)) hd)
  · rw [O.glob]; exact T.g.keeps kst
  · rw [O.blt]; exact T.b.keeps kst

theorem we_CallFn (O : Ok K c n) {x : Str} {px pos : Pos} {f : Value} {e : Expr} {rest : List Expr} {P : AV → St → Prop} (hg : nsIn K mainGlobals x = some (some f)) (hk : keepIn K f = true)
    (h : WL c (spliced (backTo pos (starEach (e :: rest) c.env))) (fun vs σ1 => ∀ us, All₂ VR vs us → WE c (call f us) P σ1) σ)
    (hx : c.env.kindOf x = some .globalImplicit) (hd : (x == ("__debug__" : Str)) = false)
    (he : starEach (e :: rest) c.env = (false, eval e c.env) :: starEach rest c.env) (hplain : (backTo pos (starEach rest c.env)).any (·.1) = false) :
    WE c (eval (.Call (.Name x px) (e :: rest) [] pos) c.env) P σ := by
  rw [arm_eval_Call_Name']
  refine we_global O hg ?_ hx hd
  intro h₀ s hb C
  have kst := O.stays hb C
  refine callWith_K (h₀ := s.heap) (first := []) (O.kin.keeps kst) hk (wpAny_mono (h h₀ s hb C) (fun us s1 ⟨vs, σ1, h1, h2, h3⟩ => ⟨O.kin.keeps (O.stays hb h2), h3 us h1 h₀ s1 hb h2⟩) fun _ _ x => x) he hplain
end

/-! Core4 -/
noncomputable def HeapOK (prog : Program) (w : World) (H : AH) (h : Heap) : Prop := ∀ a o, H a = some o → ∃ co, h.get? a = some co ∧ OR prog w o co
theorem Conc.ok {c : Cx} {h₀ : Heap} {σ : St} {s : Shared} (C : Conc c h₀ σ s) : HeapOK c.prog c.w σ.H s.heap := fun a o ho => let ⟨co, h1, h2, _⟩ := C.heap a o ho; ⟨co, h1, h2⟩

/-- an iterator at I over items, while dep holds of our objects -/
structure It (prog : Program) (w : World) (A : Around) (dep : AH → Prop) (items : List AV) (I : Addr) (Sx : Nat → Heap → Prop) : Prop where
  frame : ∀ i h h', Sx i h → (∀ o, h.get? I = some o → h'.get? I = some o) → Sx i h'
  live : ∀ i h, Sx i h → ∃ o, h.get? I = some o
  item : ∀ i (H : AH) (s : Shared) (Q : Option Value → Shared → Prop) (E : Value → Shared → Prop) v, HeapOK prog w H s.heap → dep H → Sx i s.heap → items[i]? = some v →
    (∀ u h' tk, VR v u → Sx (i + 1) h' → (∀ b o, b ≠ I → s.heap.get? b = some o → h'.get? b = some o) → Q (some u) { s with heap := h', toks := tk }) → wpAny (model prog w) A (pyNext (.ref I)) Q E s
  done : ∀ (H : AH) (s : Shared) (Q : Option Value → Shared → Prop) (E : Value → Shared → Prop), HeapOK prog w H s.heap → dep H → Sx items.length s.heap →
    (∀ h' tk, (∀ b o, b ≠ I → s.heap.get? b = some o → h'.get? b = some o) → Q none { s with heap := h', toks := tk }) → wpAny (model prog w) A (pyNext (.ref I)) Q E s
  self : ∀ i (s : Shared) (Q : Value → Shared → Prop) (E : Value → Shared → Prop), Sx i s.heap → Q (.ref I) s → wpAny (model prog w) A (pyIter (.ref I)) Q E s

noncomputable def Itbl (prog : Program) (w : World) (A : Around) (pre dep : AH → Prop) (items : List AV) (v : AV) : Prop :=
  ∀ u (H : AH) (s : Shared) (Q : Value → Shared → Prop) (E : Value → Shared → Prop), VR v u → HeapOK prog w H s.heap → pre H →
    (∀ Sx o, It prog w A dep items s.heap.objs.size Sx → Sx 0 (s.heap.push o) → o.isFreed = false → Q (.ref s.heap.objs.size) { s with heap := s.heap.push o }) → wpAny (model prog w) A (pyIter u) Q E s

theorem It.ofWalks {prog : Program} {w : World} {A : Around} {items : List AV} {I : Addr} {P : Nat → Value → Prop} {Sx : Nat → Heap → Prop} (W : Walks prog w A I [I] [I] items.length P Sx)
    (hl : ∀ i h, Sx i h → ∃ o, h.get? I = some o) (hP : ∀ i v u, items[i]? = some v → P i u → VR v u) : It prog w A (fun _ => True) items I Sx where
  frame := fun i h h' st hk => W.frame i h h' st fun b hb o e => by rw [List.mem_singleton.mp hb] at e ⊢; exact hk o e
  live := hl
  item := fun i H s Q E v _ _ st hv hQ => W.item i s Q E (List.getElem?_eq_some_iff.mp hv).1 st fun u h' tk hu st' hk => hQ u h' tk (hP i v u hv hu) st' fun b o hb e => hk b o (fun h => hb (List.mem_singleton.mp h)) e
  done := fun H s Q E _ _ st hQ => W.done s Q E st fun h' tk hk => hQ h' tk fun b o hb e => hk b o (fun h => hb (List.mem_singleton.mp h)) e
  self := fun i s Q E st hQ => W.self i s Q E st hQ

theorem itbl_list {prog : Program} {w : World} {A : Around} (hh : A.handled = none) (a : Addr) (xs : List AV) : Itbl prog w A (fun H => H a = some (.list xs)) (fun H => H a = some (.list xs)) xs (.ref a) := by
  intro u H s Q E hu hH hp hQ
  cases hu
  have open_ : ∀ (H : AH) (h : Heap), HeapOK prog w H h → H a = some (.list xs) → ∃ items : List Value, h.IsList a items.toArray ∧ All₂ VR xs items := fun H h hH hp => by
    obtain ⟨co, h1, h2⟩ := hH _ _ hp
    cases h2 with
    | list h3 _ => exact ⟨_, ⟨_, h1, rfl, _, rfl⟩, h3⟩
  obtain ⟨items, hl, _⟩ := open_ H s.heap hH hp
  have hlt : a < s.heap.objs.size := by obtain ⟨_, e, _⟩ := hl; exact Heap.lt_size e
  refine wpAny_pyIter_list hl (hQ (fun i h => h.IsListIter s.heap.objs.size a i) _ ⟨?_, ?_, ?_, ?_, ?_⟩ ⟨_, Heap.get?_push_size _ rfl, rfl, rfl⟩ rfl)
  · rintro i h h' ⟨o, ho, r⟩ hk; exact ⟨o, hk o ho, r⟩
  · rintro i h ⟨o, ho, r⟩; exact ⟨o, ho⟩
  · intro i H s' Q E v hH hd st hv hQ
    obtain ⟨items, hl, hr⟩ := open_ H s'.heap hH hd
    obtain ⟨x, hx, hvx⟩ := hr.get hv
    exact wpAny_pyNext_list_item st hl (by simpa using hx) fun h' st' hs => hQ x h' s'.toks hvx st' fun b o hb e => (hs.2 b hb).trans e
  · intro H s' Q E hH hd st hQ
    obtain ⟨items, hl, hr⟩ := open_ H s'.heap hH hd
    exact wpAny_pyNext_list_end hh st hl (by simp [hr.length]) fun h' he => hQ h' s'.toks fun b o hb e => he b o hb e
  · intro i s' Q E st hQ
    exact wpAny_pyIter_listiter st hQ

noncomputable def rangeItems (a c : Int) (n : Nat) : List AV := (List.range n).map fun (i : Nat) => AV.int (a + (i : Int) * c)

theorem itbl_range {prog : Program} {w : World} {A : Around} (hh : A.handled = none) (r : Addr) {a b c : Int} {n : Nat} (hs : Builtin.Range.small a b c = true) (hn : Builtin.Range.rangeSize a b c = (n : Int)) :
    Itbl prog w A (fun H => H r = some (.range a b c)) (fun _ => True) (rangeItems a c n) (.ref r) := by
  intro u H s Q E hu hH hp hQ
  cases hu
  obtain ⟨co, h1, h2⟩ := hH _ _ hp
  cases h2
  have hlen : (rangeItems a c n).length = n := by simp [rangeItems]
  refine wpAny_pyIter_range h1 hs (hQ (fun i h => IsRangeIter h s.heap.objs.size (a + (i : Nat) * c) ((n : Int) - (i : Nat)) c) _ (It.ofWalks (P := fun i v => ∃ t, v = .int (a + i * c) t) ?_ ?_ ?_) ?_ rfl)
  · rw [hlen]; exact Walks.range hh _ a c n
  · intro i h hi; exact ⟨_, hi⟩
  · rintro i v u hv ⟨t, rfl⟩
    have hi : i < n := by have := (List.getElem?_eq_some_iff.mp hv).1; rwa [hlen] at this
    have : v = .int (a + (i : Int) * c) := by
      have h3 : (rangeItems a c n)[i]? = some (.int (a + (i : Int) * c)) := by simp [rangeItems, hi]
      rw [h3] at hv; exact (Option.some.inj hv).symm
    subst this; exact .int _ _
  · show IsRangeIter _ _ _ _ _
    rw [hn]; simpa using Heap.get?_push_size _ rfl

noncomputable def signItems (x : Str) : List AV := x.cps.toList.map fun c => .str ⟨#[c]⟩

theorem itbl_str {prog : Program} {w : World} {A : Around} (hh : A.handled = none) (x : Str) : Itbl prog w A (fun _ => True) (fun _ => True) (signItems x) (.str x) := by
  intro u H s Q E hu hH hp hQ
  cases hu with
  | str _ t =>
  have hlen : (signItems x).length = x.cps.size := by simp [signItems]
  have hP : ∀ i v u, (signItems x)[i]? = some v → SignAt x i u → VR v u := by
    rintro i v u hv ⟨c, tk, hc, rfl⟩
    have h3 : (signItems x)[i]? = some (.str ⟨#[c]⟩) := by
      simp only [signItems, List.getElem?_map, Array.getElem?_toList, hc, Option.map_some]
    rw [h3] at hv; cases hv; exact .str _ _
  cases ha : x.cps.all (· < 128)
  · exact wpAny_pyIter_wide ha (hQ _ _ (It.ofWalks (hlen ▸ Walks.strWide hh _ x t) (fun i h ⟨o, ho, _⟩ => ⟨o, ho⟩) hP) ⟨_, Heap.get?_push_size _ rfl, rfl, rfl⟩ rfl)
  · exact wpAny_pyIter_ascii ha (hQ _ _ (It.ofWalks (hlen ▸ Walks.strAscii hh _ x t) (fun i h ⟨o, ho, _⟩ => ⟨o, ho⟩) hP) ⟨_, Heap.get?_push_size _ rfl, rfl, rfl⟩ rfl)

/-! ### the for loop -/
noncomputable def hideP (h : Heap) (p : Addr → Bool) : Heap := hideAll h ((List.range h.objs.size).filter p)
theorem hideP_of {h : Heap} {p : Addr → Bool} {b : Addr} {o : Obj} (e : (hideP h p).get? b = some o) : h.get? b = some o := of_hideAll _ e
theorem hideP_get {h : Heap} {p : Addr → Bool} {b : Addr} {o : Obj} (e : h.get? b = some o) (n : p b = false) : (hideP h p).get? b = some o := by
  refine hideAll_get _ e fun hm => ?_
  have := (List.mem_filter.mp hm).2
  rw [n] at this; cases this
theorem hideP_none {h : Heap} {p : Addr → Bool} {b : Addr} (n : p b = true) : (hideP h p).get? b = none := by
  cases q : (hideP h p).get? b with
  | none => rfl
  | some ob =>
    have hlt := Heap.lt_size (hideP_of q)
    have := hideAll_none ((List.range h.objs.size).filter p) (h := h) (List.mem_filter.mpr ⟨List.mem_range.mpr hlt, n⟩)
    rw [show (hideP h p) = hideAll h ((List.range h.objs.size).filter p) from rfl, this] at q; cases q

section
variable {K : Frag} {n : Nat} {c : Cx} {σ : St} {h₀ : Heap} {s : Shared}

noncomputable def Cx.mine (c : Cx) (σ : St) (a : Addr) : Bool := (σ.H a).isSome || a == c.env.locals || (c.own && c.env.cells.any fun x => x.2 == a)

/-- what is not ours is held fast -/
theorem Conc.hold (C : Conc c h₀ σ s) : h₀.StaysIn (hideP s.heap (c.mine σ)) ∧ Conc c (hideP s.heap (c.mine σ)) σ s := by
  constructor
  · intro b o e
    refine hideP_get (C.keep b o e) ?_
    unfold Cx.mine
    simp only [Bool.or_eq_false_iff]
    refine ⟨⟨?_, ?_⟩, ?_⟩
    · cases q : σ.H b with
      | none => rfl
      | some ao => obtain ⟨_, _, _, hn, _⟩ := C.heap b ao q; rw [hn] at e; cases e
    · cases q : b == c.env.locals with
      | false => rfl
      | true => rw [beq_iff_eq.mp q, C.lfree] at e; cases e
    · cases q : c.own && c.env.cells.any fun x => x.2 == b with
      | false => rfl
      | true =>
        obtain ⟨h1, h2⟩ := Bool.and_eq_true_iff.mp q
        obtain ⟨⟨x, a⟩, hx, hb⟩ := List.any_eq_true.mp h2
        have : a = b := beq_iff_eq.mp hb
        subst this
        rw [(C.capart x a hx).2.2.2 h1] at e; cases e
  · refine ⟨C.same, fun b o e => hideP_of e, C.ns, C.cell, fun x a hx => ?_, fun a o ho => ?_, ?_⟩
    · obtain ⟨h1, h2, h3, _⟩ := C.capart x a hx
      refine ⟨h1, h2, h3, fun hown => hideP_none ?_⟩
      unfold Cx.mine
      rw [hown]
      simp only [Bool.true_and, Bool.or_eq_true]
      exact .inr (List.any_eq_true.mpr ⟨(x, a), hx, by simp⟩)
    · obtain ⟨co, h1, h2, _, h4⟩ := C.heap a o ho
      exact ⟨co, h1, h2, hideP_none (by unfold Cx.mine; rw [ho]; rfl), h4⟩
    · exact hideP_none (by unfold Cx.mine; simp)

theorem Conc.notMine (C : Conc c h₀ σ s) {a : Addr} (ha : s.heap.objs.size ≤ a) : c.mine σ a = false := by
  unfold Cx.mine
  simp only [Bool.or_eq_false_iff]
  refine ⟨⟨?_, ?_⟩, ?_⟩
  · cases q : σ.H a with
    | none => rfl
    | some o => exact absurd (C.lt q) (Nat.not_lt.mpr ha)
  · cases q : a == c.env.locals with
    | false => rfl
    | true =>
      obtain ⟨m, hn, _⟩ := C.ns
      have := hn.lt
      rw [← beq_iff_eq.mp q] at this
      exact absurd this (Nat.not_lt.mpr ha)
  · cases q : c.own && c.env.cells.any fun x => x.2 == a with
    | false => rfl
    | true =>
      obtain ⟨h1, h2⟩ := Bool.and_eq_true_iff.mp q
      obtain ⟨⟨x, b⟩, hx, hb⟩ := List.any_eq_true.mp h2
      have : b = a := beq_iff_eq.mp hb
      subst this
      obtain ⟨_, _, ⟨u, h3⟩, _⟩ := C.capart x b hx
      exact absurd h3.lt (Nat.not_lt.mpr ha)

/-- an object that is none of ours -/
structure Junk (c : Cx) (h₀ : Heap) (σ : St) (a : Addr) : Prop where
  held : h₀.get? a = none
  heap : σ.H a = none
  loc : a ≠ c.env.locals
  cell : ∀ x b, (x, b) ∈ c.env.cells → b ≠ a

theorem Conc.junk (C : Conc c h₀ σ s) {a : Addr} (ha : s.heap.objs.size ≤ a) : Junk c h₀ σ a where
  held := by
    cases q : h₀.get? a with
    | none => rfl
    | some o => exact absurd (Heap.lt_size (C.keep _ _ q)) (Nat.not_lt.mpr ha)
  heap := by
    cases q : σ.H a with
    | none => rfl
    | some o => exact absurd (C.lt q) (Nat.not_lt.mpr ha)
  loc := by
    rintro rfl
    obtain ⟨m, hn, _⟩ := C.ns
    exact absurd hn.lt (Nat.not_lt.mpr ha)
  cell := by
    rintro x b hx rfl
    obtain ⟨_, _, ⟨u, h3⟩, _⟩ := C.capart x b hx
    exact absurd h3.lt (Nat.not_lt.mpr ha)
theorem Junk.set {a : Addr} (X : Junk c h₀ σ a) (x : Str) (v : AV) : Junk c h₀ (σ.set x v) a := ⟨X.held, X.heap, X.loc, X.cell⟩
theorem Junk.put {a b : Addr} (X : Junk c h₀ σ a) (hne : a ≠ b) (o : AO) : Junk c h₀ (σ.put b o) a := ⟨X.held, (by show (if a = b then some o else σ.H a) = none; rw [if_neg hne]; exact X.heap), X.loc, X.cell⟩
theorem Junk.notMine {a : Addr} (X : Junk c h₀ σ a) : c.mine σ a = false := by
  unfold Cx.mine
  simp only [Bool.or_eq_false_iff]
  refine ⟨⟨by rw [X.heap]; rfl, by simpa using X.loc⟩, ?_⟩
  cases q : c.own && c.env.cells.any fun x => x.2 == a with
  | false => rfl
  | true =>
    obtain ⟨h1, h2⟩ := Bool.and_eq_true_iff.mp q
    obtain ⟨⟨x, b⟩, hx, hb⟩ := List.any_eq_true.mp h2
    exact absurd (beq_iff_eq.mp hb) (X.cell x b hx)

/-- the state where one foreign object turned -/
theorem Conc.turn (C : Conc c h₀ σ s) {I : Addr} (X : Junk c h₀ σ I) {h' : Heap} (k : Nat)
    (hk : ∀ b o, b ≠ I → s.heap.get? b = some o → h'.get? b = some o) : Conc c h₀ σ { s with heap := h', toks := k } := by
  refine ⟨(let ⟨_, _, e⟩ := C.same; ⟨h', k, by rw [e]⟩), fun b o e => hk b o (by rintro rfl; rw [X.held] at e; cases e) (C.keep b o e), ?_, ?_, ?_, ?_, C.lfree⟩
  · obtain ⟨m, hn, hm⟩ := C.ns
    exact ⟨m, hn.at' fun o e => hk _ o (Ne.symm X.loc) e, hm⟩
  · intro x v hx hv
    obtain ⟨a, u, h1, ⟨o, ho, hd⟩, h3⟩ := C.cell x v hx hv
    exact ⟨a, u, h1, ⟨o, hk _ o (X.cell x a (mem_of_lookup h1)) ho, hd⟩, h3⟩
  · intro x a hx
    obtain ⟨h1, h2, ⟨u, o, ho, hd⟩, h4⟩ := C.capart x a hx
    exact ⟨h1, h2, ⟨u, o, hk _ o (X.cell x a hx) ho, hd⟩, h4⟩
  · intro a o ho
    obtain ⟨co, h1, h2⟩ := C.heap a o ho
    exact ⟨co, hk _ _ (by rintro rfl; rw [X.heap] at ho; cases ho) h1, h2⟩

/-- what was held through a step is none of ours behind it -/
theorem Junk.after {σ' : St} {h₁ : Heap} {s' : Shared} {a : Addr} {o : Obj} (X : Junk c h₀ σ a) (C' : Conc c h₁ σ' s') (e : h₁.get? a = some o) : Junk c h₀ σ' a where
  held := X.held
  heap := by
    cases q : σ'.H a with
    | none => rfl
    | some ao => obtain ⟨_, _, _, hn, _⟩ := C'.heap a ao q; rw [hn] at e; cases e
  loc := X.loc
  cell := X.cell

structure ForT (c : Cx) (h₀ : Heap) (I : Addr) (Sx : Nat → Heap → Prop) (J : Nat → St → Prop) (dep : AH → Prop) (i : Nat) (σ' : St) (s' : Shared) : Prop where
  conc : Conc c h₀ σ' s'
  jI : Junk c h₀ σ' I
  sx : Sx i s'.heap
  j : J i σ'
  d : dep σ'.H
noncomputable abbrev ForInv (c : Cx) (h₀ : Heap) (I : Addr) (Sx : Nat → Heap → Prop) (J : Nat → St → Prop) (dep : AH → Prop) (n : Nat) (k : Nat) (s' : Shared) : Prop :=
  ∃ i σ', k = n - i ∧ i ≤ n ∧ ForT c h₀ I Sx J dep i σ' s'
theorem wf_For (O : Ok K c n) {x : Str} {px pos : Pos} {iter : Expr} {body : List Stmt} {P : AF → St → Prop}
    (hev : WE c (eval iter c.env) (fun v σ1 => ∃ (items : List AV) (dep : AH → Prop) (J : Nat → St → Prop), (∃ pre, Itbl c.prog c.w c.A pre dep items v ∧ pre σ1.H) ∧ dep σ1.H ∧ J 0 σ1 ∧
      (∀ i v σ1, items[i]? = some v → J i σ1 → dep σ1.H → WF c (execs body c.env) (fun f σ2 => match f with
        | .next | .cont => J (i + 1) σ2 ∧ dep σ2.H
        | .brk => P .next σ2
        | .ret v => P (.ret v) σ2) (σ1.set x v)) ∧
      (∀ σ1, J items.length σ1 → dep σ1.H → P .next σ1)) σ)
    (hx : c.env.kindOf x = some .local) (hs : ∀ u, foldedSetIterable iter c.env u = pure u)
    (ht : ∀ it v, letOwnedTupleGo (.Name x px) it v = pure ()) :
    WF c (exec (.For (.Name x px) iter body [] pos) c.env) P σ := by
  rw [arm_exec_For]
  intro h₀ s hb C
  refine wpAny_bind (wpAny_standAt (wpAny_bind (wpAny_mono (hev h₀ s hb C) (fun u s₁ ⟨v, σ1, hr, C₁, items, dep, J, ⟨_, hit, hpre⟩, hdep, hJ, hturn, hend⟩ => ?_) fun _ _ x => x)))
  rw [hs]
  refine wpAny_bind (wpAny_pure (wpAny_bind (wpAny_standAt (wpAny_bind (wpAny_holding (hit u σ1.H s₁ _ _ hr C₁.ok hpre fun Sx o hI hS ho => ?_))))))
  have X₁ : Junk c h₀ σ1 s₁.heap.objs.size := C₁.junk (Nat.le_refl _)
  have C₂ : Conc c h₀ σ1 { s₁ with heap := s₁.heap.push o } := C₁.grow s₁.toks fun b o' e => Heap.get?_push_of_some _ e
  generalize hIa : s₁.heap.objs.size = I at *
  refine wpAny_runOwn ?_
  refine codeAny_forLoop (ForInv c h₀ I Sx J dep items.length) ?_ items.length
    ⟨0, σ1, rfl, Nat.zero_le _, ⟨C₂, X₁, hS, hJ, hdep⟩⟩ (fun v => ht _ v)
  rintro k s' ⟨i, σ', rfl, hi, C', X', hS', hJ', hd'⟩
  by_cases hlt : i < items.length
  · obtain ⟨v, hv⟩ : ∃ v, items[i]? = some v := ⟨items[i], by simp [hlt]⟩
    refine hI.item i σ'.H s' _ _ v C'.ok hd' hS' hv fun u h' tk hu hS'' hk => ?_
    have C4 : Conc c h₀ σ' { s' with heap := h', toks := tk } := C'.turn X' tk hk
    obtain ⟨up5, C5⟩ := C4.hold
    have hI5 : ∀ o, h'.get? I = some o → (hideP h' (c.mine σ')).get? I = some o := fun o e => hideP_get e X'.notMine
    generalize hh5 : hideP ({ s' with heap := h', toks := tk } : Shared).heap (c.mine σ') = h5 at up5 C5
    have hI5' : ∀ o, h'.get? I = some o → h5.get? I = some o := fun o e => by rw [← hh5]; exact hI5 o e
    have hb5 : c.base.StaysIn h5 := fun b o e => up5 b o (hb b o e)
    refine wpAny_assign_Name ?_
    refine wpAny_mono (wu_storeName O hu (P := fun σ2 => σ2 = σ'.set x v) rfl (by rw [hx]; rfl) h5 _ hb5 C5) (fun _ s₂ ⟨_, σ2, _, C6, e⟩ => ?_) fun _ _ x => x.elim
    subst e
    refine wpAny_mono (hturn i v σ' hv hJ' hd' h5 s₂ hb5 C6) (fun f s₃ ⟨af, σ3, hf, C7, hP⟩ => ?_) fun _ _ x => x.elim
    have C8 := C7.weaken up5
    have keepI : ∀ o, h'.get? I = some o → s₃.heap.get? I = some o := fun o e => C7.keep _ _ (hI5' o e)
    obtain ⟨oI, hoI⟩ := hI.live _ _ hS''
    have next : J (i + 1) σ3 ∧ dep σ3.H → ∃ m, m < items.length - i ∧ ForInv c h₀ I Sx J dep items.length m s₃ := fun ⟨hJ3, hd3⟩ =>
      ⟨items.length - (i + 1), by omega, i + 1, σ3, rfl, hlt, C8, X'.after C7 (hI5' oI hoI), hI.frame _ _ _ hS'' keepI, hJ3, hd3⟩
    cases hf with
    | next => exact next hP
    | cont => exact next hP
    | brk => exact ⟨.next, σ3, .next, C8, hP⟩
    | ret hv => exact ⟨.ret _, σ3, .ret hv, C8, hP⟩
  · have hin : i = items.length := by omega
    subst hin
    refine hI.done σ'.H s' _ _ C'.ok hd' hS' fun h' tk hk => ?_
    exact wpAny_execs_nil ⟨.next, σ', .next, C'.turn X' tk hk, hend σ' hJ' hd'⟩
end

/-! Core5 -/
noncomputable def closL (cells : List (Str × Addr)) : List (Str × NameKind) → List (Str × Addr) → List (Str × Addr)
  | [], acc => acc
  | (x, k) :: r, acc => if k == .free then closL cells r ((x, (cells.lookup x).getD 0) :: acc) else closL cells r acc

theorem closure_eq {scope : Scope} {env : Env} (h : ∀ x, (x, NameKind.free) ∈ scope.names → (env.cells.lookup x).isSome = true) : closureFor scope env = pure (closL env.cells scope.names []) := by
  unfold closureFor
  have key : ∀ (names : List (Str × NameKind)) (acc : List (Str × Addr)), (∀ x, (x, NameKind.free) ∈ names → (env.cells.lookup x).isSome = true) →
      (forIn names acc fun (x : Str × NameKind) (cs : List (Str × Addr)) => (match x with | (name, kind) => if (kind == NameKind.free) = true then do let a ← cellOf env name; pure (ForInStep.yield ((name, a) :: cs)) else pure (ForInStep.yield cs) : Sem (ForInStep (List (Str × Addr))))) = (pure (closL env.cells names acc) : Sem (List (Str × Addr))) := by
    intro names
    induction names with
    | nil => intro acc _; rfl
    | cons y r ih =>
      obtain ⟨x, k⟩ := y
      intro acc hy
      rw [List.forIn_cons]
      have hr := fun x hx => hy x (List.mem_cons_of_mem _ hx)
      unfold closL
      by_cases hk : (k == NameKind.free) = true
      · have hk' : k = .free := beq_iff_eq.mp hk
        subst hk'
        obtain ⟨a, ha⟩ := Option.isSome_iff_exists.mp (hy x List.mem_cons_self)
        simp only [hk, if_true]
        have hc : cellOf env x = pure a := by unfold cellOf; rw [ha]
        rw [hc]
        simp only [pure_bind, ha, Option.getD_some]
        exact ih _ hr
      · simp only [hk]
        exact ih _ hr
  have := key scope.names [] h
  simp only [bind_pure]
  exact this

theorem closL_mem {cells : List (Str × Addr)} : ∀ {names : List (Str × NameKind)} {acc : List (Str × Addr)} {x : Str} {a : Addr}, (∀ x, (x, NameKind.free) ∈ names → (cells.lookup x).isSome = true) →
    (x, a) ∈ closL cells names acc → (x, a) ∈ acc ∨ cells.lookup x = some a
  | [], acc, x, a, _, h => .inl h
  | (y, k) :: r, acc, x, a, hy, h => by
    have hr := fun x hx => hy x (List.mem_cons_of_mem _ hx)
    unfold closL at h
    by_cases hk : (k == NameKind.free) = true
    · rw [if_pos hk] at h
      have hk' : k = .free := beq_iff_eq.mp hk
      subst hk'
      obtain ⟨b, hb⟩ := Option.isSome_iff_exists.mp (hy y List.mem_cons_self)
      rcases closL_mem hr h with h1 | h1
      · rcases List.mem_cons.mp h1 with e | h1
        · rw [hb] at e; cases e; exact .inr hb
        · exact .inl h1
      · exact .inr h1
    · rw [if_neg hk] at h
      exact closL_mem hr h
theorem closL_lookup {cells : List (Str × Addr)} : ∀ {names : List (Str × NameKind)} {acc : List (Str × Addr)} {x : Str} {a : Addr}, (∀ x, (x, NameKind.free) ∈ names → (cells.lookup x).isSome = true) →
    cells.lookup x = some a → ((x, NameKind.free) ∈ names ∨ acc.lookup x = some a) → (closL cells names acc).lookup x = some a
  | [], acc, x, a, _, hc, h => h.elim (fun h => by cases h) id
  | (y, k) :: r, acc, x, a, hy, hc, h => by
    have hr := fun x hx => hy x (List.mem_cons_of_mem _ hx)
    unfold closL
    by_cases hk : (k == NameKind.free) = true
    · rw [if_pos hk]
      have hk' : k = .free := beq_iff_eq.mp hk
      subst hk'
      refine closL_lookup hr hc ?_
      by_cases hxy : x = y
      · subst hxy
        exact .inr (by simp [List.lookup_cons, hc])
      · rcases h with h | h
        · rcases List.mem_cons.mp h with e | h
          · exact absurd (Prod.mk.inj e).1 hxy
          · exact .inl h
        · refine .inr ?_
          have : (x == y) = false := by simpa using hxy
          simpa [List.lookup_cons, this] using h
    · rw [if_neg hk]
      refine closL_lookup hr hc ?_
      rcases h with h | h
      · rcases List.mem_cons.mp h with e | h
        · exact absurd (by rw [← (Prod.mk.inj e).2]; rfl) hk
        · exact .inl h
      · exact .inr h

theorem relabel_cell {scope : Scope} {env : Env} (hcell : ∀ y ∈ scope.names, y.2 ≠ .cell) {x : Str} (h : (relabel scope env).names.lookup x = some .cell) : (x, NameKind.free) ∈ scope.names ∧ scope.names.lookup x = some .free ∧ env.kindOf x = some .cell := by
  have key : ∀ names : List (Str × NameKind), (∀ y ∈ names, y.2 ≠ .cell) →
      (names.map fun (n, k) => if (k == NameKind.free && env.scope.kind == .function && env.kindOf n == some .cell) then (n, NameKind.cell) else (n, k)).lookup x = some .cell →
      (x, NameKind.free) ∈ names ∧ names.lookup x = some .free ∧ env.kindOf x = some .cell := by
    intro names
    induction names with
    | nil => intro _ h; cases h
    | cons y r ih =>
      obtain ⟨n, k⟩ := y
      intro hc h
      rw [List.map_cons] at h
      dsimp only at h
      by_cases hk : (k == NameKind.free && env.scope.kind == .function && env.kindOf n == some .cell) = true
      · simp only [hk, if_true, List.lookup_cons] at h
        cases hx : x == n with
        | true =>
          have : x = n := beq_iff_eq.mp hx
          subst this
          simp only [Bool.and_eq_true, beq_iff_eq] at hk
          obtain ⟨⟨rfl, _⟩, h2⟩ := hk
          exact ⟨List.mem_cons_self, by simp [List.lookup_cons], h2⟩
        | false =>
          rw [hx] at h
          obtain ⟨h1, h2, h3⟩ := ih (fun y hy => hc y (List.mem_cons_of_mem _ hy)) h
          exact ⟨List.mem_cons_of_mem _ h1, by simp [List.lookup_cons, hx, h2], h3⟩
      · rw [if_neg hk] at h
        simp only [List.lookup_cons] at h
        cases hx : x == n with
        | true =>
          rw [hx] at h
          simp at h
          subst h
          exact absurd rfl (hc (n, .cell) List.mem_cons_self)
        | false =>
          rw [hx] at h
          obtain ⟨h1, h2, h3⟩ := ih (fun y hy => hc y (List.mem_cons_of_mem _ hy)) (by simpa using h)
          exact ⟨List.mem_cons_of_mem _ h1, by simp [List.lookup_cons, hx, h2], h3⟩
  exact key scope.names hcell h
theorem relabel_local {scope : Scope} {env : Env} {x : Str} (h : (relabel scope env).names.lookup x = some .local) : scope.names.lookup x = some .local := by
  have key : ∀ names : List (Str × NameKind),
      (names.map fun (n, k) => if (k == NameKind.free && env.scope.kind == .function && env.kindOf n == some .cell) then (n, NameKind.cell) else (n, k)).lookup x = some .local → names.lookup x = some .local := by
    intro names
    induction names with
    | nil => intro h; cases h
    | cons y r ih =>
      obtain ⟨n, k⟩ := y
      intro h
      rw [List.map_cons] at h
      dsimp only at h
      by_cases hk : (k == NameKind.free && env.scope.kind == .function && env.kindOf n == some .cell) = true
      · simp only [hk, if_true, List.lookup_cons] at h
        cases hx : x == n with
        | true => rw [hx] at h; cases h
        | false => rw [hx] at h; simp [List.lookup_cons, hx, ih h]
      · rw [if_neg hk] at h
        simp only [List.lookup_cons] at h
        cases hx : x == n with
        | true => rw [hx] at h; simp at h; simp [List.lookup_cons, hx, h]
        | false => rw [hx] at h; simp [List.lookup_cons, hx, ih (by simpa using h)]
  exact key scope.names h

noncomputable abbrev inComp (c : Cx) (scope : Scope) (C : Addr) : Cx := { c with env := compEnvC scope (closL c.env.cells scope.names []) C c.env, own := false }

/-- what a comprehension sees of the names around it -/
noncomputable def cloc (scope : Scope) (loc : Str → Option AV) : Str → Option AV := fun y => if scope.names.lookup y = some .free then loc y else none

section
variable {K : Frag} {n : Nat} {c : Cx} {σ : St} {h₀ g : Heap} {s s' : Shared}

theorem Ok.inComp (O : Ok K c n) {scope : Scope} {C : Addr} (hk : scope.kind = .function) : Ok K (inComp c scope C) n where
  kin := O.kin
  top := O.top
  handled := O.handled
  depth := O.depth
  units := O.units
  kind := hk
  glob := O.glob
  blt := O.blt
  capair := fun e => by cases e

/-- into a comprehension's own names -/
theorem Conc.enterComp (C : Conc c h₀ σ s) {scope : Scope} {D : Addr} (X : Junk c h₀ σ D) {m : Str → Option Value} (hn : s.heap.Ns D m) (hD : D ≠ sysModules)
    (hcell : ∀ y ∈ scope.names, y.2 ≠ .cell) (hfree : ∀ x, (x, NameKind.free) ∈ scope.names → (c.env.cells.lookup x).isSome = true) :
    Conc (inComp c scope D) (hideP s.heap fun a => (σ.H a).isSome || a == D) { loc := cloc scope σ.loc, H := σ.H } s where
  same := C.same
  keep := fun b o e => hideP_of e
  ns := ⟨m, hn, fun x v hx hv => by
    have h1 := relabel_local hx
    simp only [cloc, h1] at hv
    rw [if_neg (by simp)] at hv; cases hv⟩
  cell := fun x v hx hv => by
    obtain ⟨h1, h2, h3⟩ := relabel_cell hcell hx
    simp only [cloc, h2, if_true] at hv
    obtain ⟨a, u, h4, h5, h6⟩ := C.cell x v h3 hv
    exact ⟨a, u, closL_lookup hfree h4 (.inl h1), h5, h6⟩
  capart := fun x a hx => by
    rcases closL_mem hfree hx with h | h
    · cases h
    · obtain ⟨h1, h2, h3, _⟩ := C.capart x a (mem_of_lookup h)
      exact ⟨h1, X.cell x a (mem_of_lookup h), h3, fun e => by cases e⟩
  heap := fun a o ho => by
    obtain ⟨co, h1, h2, _, _, h5⟩ := C.heap a o ho
    have ho' : σ.H a = some o := ho
    exact ⟨co, h1, h2, hideP_none (by rw [ho']; rfl), (by rintro rfl; rw [X.heap] at ho'; cases ho'), h5⟩
  lfree := hideP_none (by simp [compEnvC])

/-- the outer state again -/
theorem Conc.leave' (C : Conc c h₀ σ s) {H' : AH} (same : ∃ h tk, s' = { c.st with heap := h, toks := tk }) (keep : g.StaysIn s'.heap)
    (hg : ∀ b o, s.heap.get? b = some o → σ.H b = none → (h₀.get? b = some o ∨ b = c.env.locals ∨ ∃ x, (x, b) ∈ c.env.cells) → g.get? b = some o)
    (heap : ∀ a o, H' a = some o → ∃ co, s'.heap.get? a = some co ∧ OR c.prog c.w o co ∧ g.get? a = none ∧ a ≠ sysModules) : Conc c h₀ { loc := σ.loc, H := H' } s' := by
  have up : h₀.StaysIn g := fun b o e => hg b o (C.keep b o e) (by
    cases q : σ.H b with
    | none => rfl
    | some ao => obtain ⟨_, _, _, hn, _⟩ := C.heap b ao q; rw [hn] at e; cases e) (.inl e)
  have Ln : σ.H c.env.locals = none := by
    cases q : σ.H c.env.locals with
    | none => rfl
    | some ao => obtain ⟨_, _, _, _, hn, _⟩ := C.heap _ ao q; exact absurd rfl hn
  refine ⟨same, fun b o e => keep b o (up b o e), ?_, ?_, ?_, ?_, C.lfree⟩
  · obtain ⟨m, ⟨o, es, ep, ho, r⟩, hm⟩ := C.ns
    exact ⟨m, ⟨o, es, ep, keep _ _ (hg _ _ ho Ln (.inr (.inl rfl))), r⟩, hm⟩
  · intro x v hx hv
    obtain ⟨a, u, h1, ⟨o, ho, hd⟩, h3⟩ := C.cell x v hx hv
    exact ⟨a, u, h1, ⟨o, keep _ _ (hg _ _ ho (C.capart x a (mem_of_lookup h1)).1 (.inr (.inr ⟨x, mem_of_lookup h1⟩))), hd⟩, h3⟩
  · intro x a hx
    obtain ⟨h1, h2, ⟨u, o, ho, hd⟩, h4⟩ := C.capart x a hx
    have hk := hg _ _ ho h1 (.inr (.inr ⟨x, hx⟩))
    refine ⟨?_, h2, ⟨u, o, keep _ _ hk, hd⟩, h4⟩
    show H' a = none
    cases q : H' a with
    | none => rfl
    | some ao => obtain ⟨_, _, _, hn, _⟩ := heap a ao q; rw [hn] at hk; cases hk
  · intro a o ho
    obtain ⟨co, h1, h2, h3, h4⟩ := heap a o ho
    refine ⟨co, h1, h2, ?_, ?_, h4⟩
    · cases q : h₀.get? a with
      | none => rfl
      | some ob => rw [up _ _ q] at h3; cases h3
    · rintro rfl
      obtain ⟨m, ⟨o', es, ep, ho', r⟩, hm⟩ := C.ns
      rw [hg _ _ ho' Ln (.inr (.inl rfl))] at h3; cases h3

theorem Conc.adopt (C : Conc c h₀ σ s) {D : Addr} (X : Junk c h₀ σ D) {co : Obj} {o : AO} (hg : s.heap.get? D = some co) (hr : OR c.prog c.w o co) (hD : D ≠ sysModules) : Conc c h₀ (σ.put D o) s := by
  refine ⟨C.same, C.keep, C.ns, C.cell, fun x a hx => ?_, fun a ob ho => ?_, C.lfree⟩
  · obtain ⟨h1, h2⟩ := C.capart x a hx
    refine ⟨?_, h2⟩
    show (if a = D then some o else σ.H a) = none
    rw [if_neg (X.cell x a hx)]; exact h1
  · by_cases ha : a = D
    · subst ha
      have : o = ob := by simpa [St.put] using ho
      subst this
      exact ⟨co, hg, hr, X.held, X.loc, hD⟩
    · exact C.heap a ob (by simpa [St.put, ha] using ho)

noncomputable def WT (c : Cx) (ifs : List Expr) (P : Bool → St → Prop) (σ : St) : Prop :=
  WB c (forIn ifs true fun t r => if r = true then do let ok ← isTrue t c.env (eval t c.env); pure (ForInStep.yield ok) else pure (ForInStep.yield r)) P σ
theorem wt_nil {P : Bool → St → Prop} (h : P true σ) : WT c [] P σ := WG.pure rfl h
theorem wt_one {t : Expr} {P : Bool → St → Prop} (h : WB c (isTrue t c.env (eval t c.env)) P σ) : WT c [t] P σ :=
  fun h₀ s hb C => wpAny_tests_one (h h₀ s hb C)

/-- the turns of a list comprehension -/
structure CompT {Y : Type} (c : Cx) (h₀ : Heap) (σ' : St) (I L D : Addr) (Sx : Nat → Heap → Prop) (J : Nat → List Y → AH → Prop) (dep : AH → Prop) (X : Heap → Prop) (Z : Prop) (i : Nat) (ys : List Y) (m : Str → Option Value) (s' : Shared) : Prop where
  conc : Conc c h₀ σ' s'
  jI : Junk c h₀ σ' I
  jL : Junk c h₀ σ' L
  jD : Junk c h₀ σ' D
  ns : s'.heap.Ns D m
  hL : X s'.heap
  hys : Z
  hyl : ys.length ≤ i
  sx : Sx i s'.heap
  j : J i ys σ'.H
  d : dep σ'.H
structure OutT (c : Cx) (h₀ : Heap) (σ' : St) (I L D : Addr) (X S : Heap → Prop) (s' : Shared) : Prop where
  conc : Conc c h₀ σ' s'
  jI : Junk c h₀ σ' I
  jL : Junk c h₀ σ' L
  jD : Junk c h₀ σ' D
  ns : ∃ m, s'.heap.Ns D m
  hL : X s'.heap
  sx : S s'.heap
noncomputable abbrev CompInv (c : Cx) (h₀ : Heap) (σ : St) (I L D : Addr) (Sx : Nat → Heap → Prop) (J : Nat → List AV → AH → Prop) (dep : AH → Prop) (n : Nat) (k : Nat) (s' : Shared) : Prop :=
  ∃ (i : Nat) (ys : List AV) (H1 : AH) (m : Str → Option Value) (xs : Array Value), k = n - i ∧ i ≤ n ∧ CompT c h₀ { loc := σ.loc, H := H1 } I L D Sx J dep (fun h => h.PlainList L xs) (All₂ VR ys xs.toList) i ys m s'
theorem comp_list_block (O : Ok K c n) {elt iter : Expr} {x : Str} {px : Pos} {ifs : List Expr} {scope : Scope} {pos : Pos} {items : List AV} {dep : AH → Prop} (J : Nat → List AV → AH → Prop)
    {I : Addr} {Sx : Nat → Heap → Prop} {o : Obj} {RR : Value → Addr → Result → Shared → Prop}
    (hb : c.base.StaysIn h₀) (C : Conc c h₀ σ s) (XI : Junk c h₀ σ I) (hI : It c.prog c.w c.A dep items I Sx) (hS : Sx 0 s.heap) (hoI : s.heap.get? I = some o) (hdep : dep σ.H) (hJ : J 0 [] σ.H) (hlow : sysModules < s.heap.objs.size) (hlen : items.length ≤ 100000)
    (hcell : ∀ y ∈ scope.names, y.2 ≠ .cell) (hfree : ∀ x, (x, NameKind.free) ∈ scope.names → (c.env.cells.lookup x).isSome = true) (hkind : scope.kind = .function) (hx : scope.names.lookup x = some .local)
    (hturn : ∀ D i v ys H1, items[i]? = some v → J i ys H1 → dep H1 → ys.length ≤ i → WT (inComp c scope D) ifs (fun ok σ2 =>
        if ok then WE (inComp c scope D) (eval elt (inComp c scope D).env) (fun y σ3 => J (i + 1) (ys ++ [y]) σ3.H ∧ dep σ3.H) σ2 else J (i + 1) ys σ2.H ∧ dep σ2.H) { loc := fun y => if y = x then some v else cloc scope σ.loc y, H := H1 })
    (hRR : ∀ L D s' ys H1 m, Conc c h₀ { loc := σ.loc, H := fun b => if b = L then some (.list ys) else H1 b } s' → s'.heap.Ns D m → Junk c h₀ { loc := σ.loc, H := fun b => if b = L then some (.list ys) else H1 b } D →
      J items.length ys H1 → dep H1 → H1 L = none → RR (.ref L) D (.ok .next) s')
    (ht : ∀ it v, letOwnedTupleGo (.Name x px) it v = pure ()) :
    wpAny (model c.prog c.w) c.A (newList []) (fun acc s₃ => wpAny (model c.prog c.w) c.A (newFunctionEnv scope c.env.globals (closL c.env.cells scope.names []) [] c.env.qual none .none (some c.env)) (fun cenv s₄ =>
      codeAny (model c.prog c.w) c.A (.compStart (.ListComp elt [⟨.Name x px, iter, ifs, 0⟩] scope pos) 0 (.ref I) acc { cenv with scope := relabel scope c.env }) (RR acc cenv.locals) s₄) (fun _ _ => False) s₃) (fun _ _ => False) s := by
  refine wpAny_newObj_type (wpAny_newFunctionEnv hcell (by intro y hy; simp at hy) (fun h₁ hns₁ hsb₁ => ?_) hkind)
  dsimp only at hns₁ hsb₁ ⊢
  have XL : Junk c h₀ σ s.heap.objs.size := C.junk (Nat.le_refl _)
  have C1 : Conc c h₀ σ { s with heap := s.heap.push { cls := .type "list", dict := none, data := .seq ([] : List Value).toArray } } := C.grow s.toks fun b o' e => Heap.get?_push_of_some _ e
  have hLh : (s.heap.push { cls := .type "list", dict := none, data := .seq ([] : List Value).toArray }).get? s.heap.objs.size = some { cls := .type "list", dict := none, data := .seq ([] : List Value).toArray } := Heap.get?_push_size _ rfl
  have hILt := Heap.lt_size hoI
  have hIh : (s.heap.push { cls := .type "list", dict := none, data := .seq ([] : List Value).toArray }).get? I = some o := Heap.get?_push_of_some _ hoI
  have hS1 : Sx 0 (s.heap.push { cls := .type "list", dict := none, data := .seq ([] : List Value).toArray }) := hI.frame _ _ _ hS fun o e => Heap.get?_push_of_some _ e
  have hIL : I ≠ s.heap.objs.size := Nat.ne_of_lt hILt
  have hDsz : (s.heap.push { cls := .type "list", dict := none, data := .seq ([] : List Value).toArray }).objs.size = s.heap.objs.size + 1 := Heap.size_push _ _
  generalize hH2 : s.heap.push { cls := .type "list", dict := none, data := .seq ([] : List Value).toArray } = H2 at hns₁ hsb₁ C1 hLh hIh hS1 hDsz ⊢
  generalize hLa : s.heap.objs.size = L at *
  have XD : Junk c h₀ σ H2.objs.size := C1.junk (Nat.le_refl _)
  have hDL : H2.objs.size ≠ L := by rw [hDsz]; exact Nat.ne_of_gt (Nat.lt_succ_self _)
  have hDI : H2.objs.size ≠ I := by rw [hDsz]; exact Nat.ne_of_gt (Nat.lt_succ_of_lt hILt)
  have hDlow : H2.objs.size ≠ sysModules := Nat.ne_of_gt (by rw [hDsz]; exact Nat.lt_succ_of_lt hlow)
  have hLlow : L ≠ sysModules := Nat.ne_of_gt hlow
  have hext : ∀ b o, b ≠ H2.objs.size → H2.get? b = some o → h₁.get? b = some o := fun b o hb e => hsb₁.extBut b o hb (Heap.get?_push_of_some _ e)
  generalize H2.objs.size = D at *
  have C2 : Conc c h₀ σ { s with heap := h₁, toks := s.toks + ([] : List (Str × Value)).length } := C1.turn (I := D) XD _ hext
  have hL1 : h₁.PlainList L #[] := ⟨_, hext _ _ (Ne.symm hDL) hLh⟩
  have hS2 : Sx 0 h₁ := hI.frame _ _ _ hS1 fun o e => hext _ _ (Ne.symm hDI) e
  have hI2 : h₁.get? I = some o := hext _ _ (Ne.symm hDI) hIh
  have O' := O.inComp (C := D) hkind
  have loop : ∀ s₃ : Shared, s₃ = { s with heap := h₁, toks := s.toks + ([] : List (Str × Value)).length } →
      codeAny (model c.prog c.w) c.A (.compLoop (.ListComp elt [⟨.Name x px, iter, ifs, 0⟩] scope pos) 0 (.ref I) (.ref L) (compEnvC scope (closL c.env.cells scope.names []) D c.env)) (RR (.ref L) D) s₃ := by
    rintro s₃ rfl
    refine codeAny_compLoop_tests (CompInv c h₀ σ I L D Sx J dep items.length) ?_ items.length
      ⟨0, [], σ.H, _, #[], rfl, Nat.zero_le _, ⟨C2, XI, XL, XD, hns₁, hL1, .nil, Nat.le_refl _, hS2, hJ, hdep⟩⟩ (fun v => ht _ v)
    rintro k s' ⟨i, ys, H1, m, xs, rfl, hi, C', XI', XL', XD', hn', hL', hys, hyl, hS', hJ', hd'⟩
    by_cases hlt : i < items.length
    · obtain ⟨v, hv⟩ : ∃ v, items[i]? = some v := ⟨items[i], by simp [hlt]⟩
      refine hI.item i H1 s' _ _ v C'.ok hd' hS' hv fun u h' tk hu hS'' hk => ?_
      have C4 := C'.turn XI' tk hk
      have hn4 : h'.Ns D m := hn'.at' fun o e => hk _ o hDI e
      have hL4 : h'.PlainList L xs := hL'.at fun o e => hk _ o (Ne.symm hIL) e
      have C5 := C4.enterComp (scope := scope) XD' hn4 hDlow hcell hfree
      have hg : ∀ b o, h'.get? b = some o → H1 b = none → b ≠ D → (hideP h' fun a => (H1 a).isSome || a == D).get? b = some o := fun b o e h1 h2 => hideP_get e (by simp [h1, h2])
      generalize hgg : (hideP ({ s' with heap := h', toks := tk } : Shared).heap fun a => (({ loc := σ.loc, H := H1 } : St).H a).isSome || a == D) = g at C5
      have hg' : ∀ b o, h'.get? b = some o → H1 b = none → b ≠ D → g.get? b = some o := fun b o e h1 h2 => by rw [← hgg]; exact hg b o e h1 h2
      have up : h₀.StaysIn g := fun b o e => hg' b o (C4.keep b o e) (by
          cases q : H1 b with
          | none => rfl
          | some ao => obtain ⟨_, _, _, hn, _⟩ := C4.heap b ao q; rw [hn] at e; cases e) (by rintro rfl; rw [XD'.held] at e; cases e)
      have hb5 : c.base.StaysIn g := fun b o e => up b o (hb b o e)
      refine wpAny_assign_Name ?_
      refine wpAny_mono (wu_storeName O' hu (P := fun σ2 => σ2 = St.set { loc := cloc scope σ.loc, H := H1 } x v) rfl (by rw [show (inComp c scope D).env.kindOf x = some .local from lookup_relabel_local hx]; rfl) g _ hb5 C5) (fun _ s₂ ⟨_, σ2, _, C6, e⟩ => ?_) fun _ _ x => x.elim
      subst e
      refine wpAny_mono (hturn D i v ys H1 hv hJ' hd' hyl g s₂ hb5 C6) (fun ok s₃ ⟨ok', σ3, e, C7, hP⟩ => ?_) fun _ _ x => x.elim
      subst e
      -- the outer state behind a turn
      have out : ∀ {s₄ : Shared} {σ4 : St}, Conc (inComp c scope D) g σ4 s₄ → OutT c h₀ { loc := σ.loc, H := σ4.H } I L D (fun h => h.PlainList L xs) (Sx (i + 1)) s₄ := fun {s₄ σ4} C8 => by
        have a1 : Conc c h₀ { loc := σ.loc, H := σ4.H } s₄ := C4.leave' (g := g) C8.same C8.keep (fun b o e h1 h2 => hg' b o e h1 (by
          rintro rfl
          rcases h2 with h2 | h2 | ⟨y, h2⟩
          · rw [XD'.held] at h2; cases h2
          · exact XD'.loc h2
          · exact XD'.cell y _ h2 rfl)) fun a o ho => let ⟨co, h1, h2, h3, _, h5⟩ := C8.heap a o ho; ⟨co, h1, h2, h3, h5⟩
        have held : ∀ a o, h'.get? a = some o → H1 a = none → a ≠ D → g.get? a = some o := hg'
        obtain ⟨oI, hoI⟩ := hI.live _ _ hS''
        obtain ⟨nL, hoL⟩ := hL4
        have gI := held I oI hoI XI'.heap (Ne.symm hDI)
        have gL := held L _ hoL XL'.heap (Ne.symm hDL)
        have no : ∀ a o, g.get? a = some o → σ4.H a = none := fun a o e => by
          cases q : σ4.H a with
          | none => rfl
          | some ao => obtain ⟨_, _, _, hn, _⟩ := C8.heap a ao q; rw [hn] at e; cases e
        obtain ⟨m8, hn8, _⟩ := C8.ns
        refine ⟨a1, ⟨XI'.held, no _ _ gI, XI'.loc, XI'.cell⟩, ⟨XL'.held, no _ _ gL, XL'.loc, XL'.cell⟩, ⟨XD'.held, ?_, XD'.loc, XD'.cell⟩, ⟨m8, hn8⟩, ⟨nL, C8.keep _ _ gL⟩, hI.frame _ _ _ hS'' fun o e => C8.keep _ _ (held I o e XI'.heap (Ne.symm hDI))⟩
        show σ4.H D = none
        cases q : σ4.H D with
        | none => rfl
        | some ao => obtain ⟨_, _, _, _, hn, _⟩ := C8.heap D ao q; exact absurd rfl hn
      cases ok' with
      | false =>
        simp only [Bool.false_eq_true, if_false] at hP ⊢
        obtain ⟨a1, a2, a3, a4, ⟨m8, a5⟩, a6, a7⟩ := out C7
        exact ⟨items.length - (i + 1), by omega, i + 1, ys, σ3.H, m8, xs, rfl, hlt, a1, a2, a3, a4, a5, a6, hys, by omega, a7, hP.1, hP.2⟩
      | true =>
        simp only [if_true] at hP ⊢
        refine wpAny_mono (hP g s₃ hb5 C7) (fun y s₄ ⟨av, σ4, hy, C8, hJ8, hd8⟩ => ?_) fun _ _ x => x.elim
        obtain ⟨a1, a2, a3, a4, ⟨m8, a5⟩, a6, a7⟩ := out C8
        have hxs : xs.size ≤ sizeLine := by
          have := hys.length
          have e4 : xs.toList.length = xs.size := by simp
          rw [sizeLine_eq]; omega
        refine wpAny_list_append_plain (hsz := hxs) a6 fun h5 hl5 hs5 => ?_
        refine ⟨items.length - (i + 1), by omega, i + 1, ys ++ [av], σ4.H, m8, xs.push y, rfl, hlt, a1.turn a3 s₄.toks fun b o hb e => hs5.extBut b o hb e, a2, a3, a4, a5.sameBut hs5 hDL, hl5, ?_, by simp; omega,
          hI.frame _ _ _ a7 fun o e => hs5.extBut _ o hIL e, hJ8, hd8⟩
        rw [Array.toList_push]
        exact hys.append (.cons hy .nil)
    · have hin : i = items.length := by omega
      subst hin
      refine hI.done H1 s' _ _ C'.ok hd' hS' fun h' tk hk => ?_
      have C4 := C'.turn XI' tk hk
      have hn4 : h'.Ns D m := hn'.at' fun o e => hk _ o hDI e
      obtain ⟨nL, hoL⟩ : h'.PlainList L xs := hL'.at fun o e => hk _ o (Ne.symm hIL) e
      have hr : OR c.prog c.w (.list ys) { cls := .type "list", data := .seq xs nL } := by
        have := OR.list (prog := c.prog) (w := c.w) (n := nL) hys (by omega)
        simpa using this
      exact hRR L D _ ys H1 m (C4.adopt XL' hoL hr hLlow) hn4 (XD'.put hDL (.list ys)) hJ' hd' XL'.heap
  exact codeAny_compStart_list (loop _ rfl) (hI.self 0 _ _ _ hS2 (loop _ rfl))

end

/-! Core6 -/
section
variable {K : Frag} {n : Nat} {c : Cx} {σ : St} {h₀ g : Heap} {s s' : Shared}

theorem comp_core (O : Ok K c n) {elt iter : Expr} {x : Str} {px : Pos} {ifs : List Expr} {scope : Scope} {pos ppos : Pos} {items : List AV} {dep : AH → Prop} (J : Nat → List AV → AH → Prop) {use : Option (Value → Sem Unit)} {Q : Value → Shared → Prop}
    (hb : c.base.StaysIn h₀) (C : Conc c h₀ σ s)
    (hev : WE c (eval iter c.env) (fun v σ1 => (∃ pre, Itbl c.prog c.w c.A pre dep items v ∧ pre σ1.H) ∧ dep σ1.H ∧ σ1.loc = σ.loc ∧ J 0 [] σ1.H) σ)
    (hlen : items.length ≤ 100000)
    (hcell : ∀ y ∈ scope.names, y.2 ≠ .cell) (hfree : ∀ x, (x, NameKind.free) ∈ scope.names → (c.env.cells.lookup x).isSome = true) (hkind : scope.kind = .function) (hx : scope.names.lookup x = some .local)
    (hnames : ∀ y ∈ scope.names, y.2 = .local → scope.names.lookup y.1 = some .local)
    (hturn : ∀ D i v ys H1, items[i]? = some v → J i ys H1 → dep H1 → ys.length ≤ i → WT (inComp c scope D) ifs (fun ok σ2 =>
        if ok then WE (inComp c scope D) (eval elt (inComp c scope D).env) (fun y σ3 => J (i + 1) (ys ++ [y]) σ3.H ∧ dep σ3.H) σ2 else J (i + 1) ys σ2.H ∧ dep σ2.H) { loc := fun y => if y = x then some v else cloc scope σ.loc y, H := H1 })
    (hQ : ∀ L D s' ys H1 m, Conc c h₀ { loc := σ.loc, H := fun b => if b = L then some (.list ys) else H1 b } s' → s'.heap.Ns D m → Junk c h₀ { loc := σ.loc, H := fun b => if b = L then some (.list ys) else H1 b } D →
      J items.length ys H1 → dep H1 → H1 L = none → compPost (model c.prog c.w) c.A (fun _ _ => False) use Q (.ref L) D (.ok .next) s')
    (hs : ∀ u, foldedSetIterable iter c.env u = pure u) (ht : ∀ it v, letOwnedTupleGo (.Name x px) it v = pure ()) :
    wpAny (model c.prog c.w) c.A (comprehension (.ListComp elt [⟨.Name x px, iter, ifs, 0⟩] scope pos) scope c.env ppos (newList []) false (eval iter c.env) use) Q (fun _ _ => False) s := by
  refine wpAny_comprehension_free rfl hs (closure_eq hfree) hkind hnames ?_
  refine wpAny_mono (hev h₀ s hb C) (fun u s₁ ⟨v, σ1, hr, C₁, ⟨_, hit, hpre⟩, hdep, hl, hJ⟩ => ?_) fun _ _ x => x
  refine hit u σ1.H s₁ _ _ hr C₁.ok hpre fun Sx o hI hS ho => ?_
  have X₁ : Junk c h₀ σ1 s₁.heap.objs.size := C₁.junk (Nat.le_refl _)
  have C₂ : Conc c h₀ σ1 { s₁ with heap := s₁.heap.push o } := C₁.grow s₁.toks fun b o' e => Heap.get?_push_of_some _ e
  have hlow := O.low hb C₂
  obtain ⟨l1, H1⟩ := σ1
  have hl' : l1 = σ.loc := hl
  subst hl'
  exact comp_list_block O J (RR := fun acc D r s' => compPost (model c.prog c.w) c.A (fun _ _ => False) use Q acc D r s') hb C₂ X₁ hI hS (Heap.get?_push_size _ ho) hdep hJ hlow hlen hcell hfree hkind hx hturn hQ ht

theorem we_ListComp (O : Ok K c n) {elt iter : Expr} {x : Str} {px : Pos} {ifs : List Expr} {scope : Scope} {pos : Pos} {P : AV → St → Prop} (items : List AV) (dep : AH → Prop) (J : Nat → List AV → AH → Prop)
    (hev : WE c (eval iter c.env) (fun v σ1 => (∃ pre, Itbl c.prog c.w c.A pre dep items v ∧ pre σ1.H) ∧ dep σ1.H ∧ σ1.loc = σ.loc ∧ J 0 [] σ1.H) σ)
    (hlen : items.length ≤ 100000)
    (hcell : ∀ y ∈ scope.names, y.2 ≠ .cell) (hfree : ∀ x, (x, NameKind.free) ∈ scope.names → (c.env.cells.lookup x).isSome = true) (hkind : scope.kind = .function) (hx : scope.names.lookup x = some .local)
    (hnames : ∀ y ∈ scope.names, y.2 = .local → scope.names.lookup y.1 = some .local)
    (hturn : ∀ D i v ys H1, items[i]? = some v → J i ys H1 → dep H1 → ys.length ≤ i → WT (inComp c scope D) ifs (fun ok σ2 =>
        if ok then WE (inComp c scope D) (eval elt (inComp c scope D).env) (fun y σ3 => J (i + 1) (ys ++ [y]) σ3.H ∧ dep σ3.H) σ2 else J (i + 1) ys σ2.H ∧ dep σ2.H) { loc := fun y => if y = x then some v else cloc scope σ.loc y, H := H1 })
    (hend : ∀ L ys H1, J items.length ys H1 → dep H1 → H1 L = none → P (.ref L) { loc := σ.loc, H := fun b => if b = L then some (.list ys) else H1 b })
    (hs : ∀ u, foldedSetIterable iter c.env u = pure u) (ht : ∀ it v, letOwnedTupleGo (.Name x px) it v = pure ()) :
    WE c (eval (.ListComp elt [⟨.Name x px, iter, ifs, 0⟩] scope pos) c.env) P σ := by
  intro h₀ s hb C
  rw [eval_ListComp]
  refine comp_core (use := none) O J hb C hev hlen hcell hfree hkind hx hnames hturn ?_ hs ht
  intro L D s' ys H1 m C' hn X hJ hd hL
  exact ⟨m, hn, fun h' hs' => ⟨.ref L, _, .ref _, C'.turn X s'.toks fun b o hb e => hs'.extBut b o hb e, hend L ys H1 hJ hd hL⟩⟩

/-- the list is bound to a name at once -/
theorem wf_Assign_ListComp (O : Ok K c n) {elt iter : Expr} {x y : Str} {px py : Pos} {ifs : List Expr} {scope : Scope} {pos spos : Pos} {P : AF → St → Prop} (items : List AV) (dep : AH → Prop) (J : Nat → List AV → AH → Prop)
    (hev : WE c (eval iter c.env) (fun v σ1 => (∃ pre, Itbl c.prog c.w c.A pre dep items v ∧ pre σ1.H) ∧ dep σ1.H ∧ σ1.loc = σ.loc ∧ J 0 [] σ1.H) σ)
    (hlen : items.length ≤ 100000)
    (hcell : ∀ y ∈ scope.names, y.2 ≠ .cell) (hfree : ∀ x, (x, NameKind.free) ∈ scope.names → (c.env.cells.lookup x).isSome = true) (hkind : scope.kind = .function) (hx : scope.names.lookup x = some .local)
    (hnames : ∀ y ∈ scope.names, y.2 = .local → scope.names.lookup y.1 = some .local)
    (hturn : ∀ D i v ys H1, items[i]? = some v → J i ys H1 → dep H1 → ys.length ≤ i → WT (inComp c scope D) ifs (fun ok σ2 =>
        if ok then WE (inComp c scope D) (eval elt (inComp c scope D).env) (fun y σ3 => J (i + 1) (ys ++ [y]) σ3.H ∧ dep σ3.H) σ2 else J (i + 1) ys σ2.H ∧ dep σ2.H) { loc := fun y => if y = x then some v else cloc scope σ.loc y, H := H1 })
    (hend : ∀ L ys H1, J items.length ys H1 → dep H1 → H1 L = none → P .next (St.set { loc := σ.loc, H := fun b => if b = L then some (.list ys) else H1 b } y (.ref L)))
    (hy : c.env.kindOf y = some .local)
    (hsw : swapsWith (.ListComp elt [⟨.Name x px, iter, ifs, 0⟩] scope pos) (some (.Name y py)) spos.line c.env = pure true)
    (hs : ∀ u, foldedSetIterable iter c.env u = pure u) (ht : ∀ it v, letOwnedTupleGo (.Name x px) it v = pure ()) :
    WF c (exec (.Assign [.Name y py] (.ListComp elt [⟨.Name x px, iter, ifs, 0⟩] scope pos) spos) c.env) P σ := by
  intro h₀ s hb C
  rw [exec_Assign_Name_used _ _ _ _ hsw]
  refine wpAny_bind (wpAny_standAt (wpAny_bind ?_))
  show wpAny _ c.A (do let _ ← comprehension (.ListComp elt [⟨.Name x px, iter, ifs, 0⟩] scope pos) scope c.env _ (newList []) false (eval iter c.env) (some (assign (.Name y py) c.env))) _ _ s
  refine wpAny_bind (wpAny_mono (comp_core (use := some (assign (.Name y py) c.env)) (Q := fun _ s' => ∃ av σ', FR av .next ∧ Conc c h₀ σ' s' ∧ P av σ') O J hb C hev hlen hcell hfree hkind hx hnames hturn ?_ hs ht) (fun _ s' hq => wpAny_pure (wpAny_pure hq)) fun _ _ e => e)
  intro L D s' ys H1 m C' hn X hJ hd hL
  show wpAny _ c.A (assign (.Name y py) c.env (.ref L)) _ _ s'
  refine wpAny_assign_Name ?_
  -- what is not ours is held, so that the comprehension's names stand
  obtain ⟨up, C5⟩ := C'.hold
  obtain ⟨o, es, ep, ho, r⟩ := id hn
  have hD5 : (hideP s'.heap (c.mine { loc := σ.loc, H := fun b => if b = L then some (.list ys) else H1 b })).get? D = some o := hideP_get ho X.notMine
  refine wpAny_mono (wu_storeName O (.ref L) (P := fun σ2 => σ2 = St.set { loc := σ.loc, H := fun b => if b = L then some (.list ys) else H1 b } y (.ref L)) rfl (by rw [hy]; rfl) _ _ (fun b o e => up b o (hb b o e)) C5) (fun _ s₂ ⟨_, σ2, _, C6, e⟩ => ?_) fun _ _ x => x
  subst e
  exact ⟨m, ⟨o, es, ep, C6.keep _ _ hD5, r⟩, fun h' hs' => ⟨.next, _, .next, (C6.weaken up).turn (X.set y _) s₂.toks fun b o hb e => hs'.extBut b o hb e, hend L ys H1 hJ hd hL⟩⟩
end

/-! Core7 -/
noncomputable def storedA {Kt : Type} [DecidableEq Kt] (kvs : List (Kt × AV)) (k : Kt) (v : AV) : List (Kt × AV) :=
  if kvs.any (fun kv => kv.1 = k) then kvs.map (fun kv => if kv.1 = k then (kv.1, v) else kv) else kvs ++ [(k, v)]
theorem storedA_length_le {Kt : Type} [DecidableEq Kt] (kvs : List (Kt × AV)) (k : Kt) (v : AV) : (storedA kvs k v).length ≤ kvs.length + 1 := by
  unfold storedA; split <;> simp
noncomputable abbrev KV {Kt : Type} (a : Kt × AV) (b : Kt × Value) : Prop := a.1 = b.1 ∧ VR a.2 b.2
theorem All₂.anyKey {Kt : Type} [DecidableEq Kt] : ∀ {as : List (Kt × AV)} {bs : List (Kt × Value)} (_ : All₂ KV as bs) (k : Kt), as.any (fun kv => kv.1 = k) = bs.any (fun kv => kv.1 = k)
  | _, _, .nil, k => rfl
  | _, _, .cons h hs, k => by simp only [List.any_cons, hs.anyKey k, h.1]
theorem All₂.mapKey {Kt : Type} [DecidableEq Kt] {v : AV} {u : Value} (hv : VR v u) : ∀ {as : List (Kt × AV)} {bs : List (Kt × Value)} (_ : All₂ KV as bs) (k : Kt),
    All₂ KV (as.map fun kv => if kv.1 = k then (kv.1, v) else kv) (bs.map fun kv => if kv.1 = k then (kv.1, u) else kv)
  | _, _, .nil, k => .nil
  | _, _, .cons (a := a) (b := b) h hs, k => by
    refine .cons ?_ (hs.mapKey hv k)
    obtain ⟨a1, a2⟩ := a
    obtain ⟨b1, b2⟩ := b
    obtain ⟨e, hr⟩ := h
    have e' : a1 = b1 := e
    subst e'
    dsimp only
    split
    · exact ⟨rfl, hv⟩
    · exact ⟨rfl, hr⟩
theorem All₂.stored {Kt : Type} [DecidableEq Kt] {as : List (Kt × AV)} {bs : List (Kt × Value)} (h : All₂ KV as bs) (k : Kt) {v : AV} {u : Value} (hv : VR v u) : All₂ KV (storedA as k v) (PySem.stored bs k u) := by
  unfold storedA PySem.stored
  rw [h.anyKey k]
  split
  · exact h.mapKey hv k
  · exact h.append (.cons ⟨rfl, hv⟩ .nil)

section
variable {K : Frag} {n : Nat} {c : Cx} {σ : St} {h₀ g : Heap} {s s' : Shared}

/-- the turns of a dict comprehension, its keys texts -/
noncomputable abbrev CompInvD (c : Cx) (h₀ : Heap) (σ : St) (I L D : Addr) (Sx : Nat → Heap → Prop) (J : Nat → List (Str × AV) → AH → Prop) (dep : AH → Prop) (n : Nat) (k : Nat) (s' : Shared) : Prop :=
  ∃ (i : Nat) (ys : List (Str × AV)) (H1 : AH) (m : Str → Option Value) (xs : List (Str × Value)), k = n - i ∧ i ≤ n ∧ CompT c h₀ { loc := σ.loc, H := H1 } I L D Sx J dep (fun h => h.DictOf (strKind c.prog c.w) L xs) (All₂ KV ys xs) i ys m s'
theorem comp_dict_block (O : Ok K c n) {kx vx iter : Expr} {x : Str} {px : Pos} {ifs : List Expr} {scope : Scope} {pos : Pos} {items : List AV} {dep : AH → Prop} (J : Nat → List (Str × AV) → AH → Prop)
    {I : Addr} {Sx : Nat → Heap → Prop} {o : Obj} {RR : Value → Addr → Result → Shared → Prop}
    (hb : c.base.StaysIn h₀) (C : Conc c h₀ σ s) (XI : Junk c h₀ σ I) (hI : It c.prog c.w c.A dep items I Sx) (hS : Sx 0 s.heap) (hoI : s.heap.get? I = some o) (hdep : dep σ.H) (hJ : J 0 [] σ.H) (hlow : sysModules < s.heap.objs.size) (hlen : items.length ≤ 100000)
    (hcell : ∀ y ∈ scope.names, y.2 ≠ .cell) (hfree : ∀ x, (x, NameKind.free) ∈ scope.names → (c.env.cells.lookup x).isSome = true) (hkind : scope.kind = .function) (hx : scope.names.lookup x = some .local)
    (hturn : ∀ D i v ys H1, items[i]? = some v → J i ys H1 → dep H1 → ys.length ≤ i → WT (inComp c scope D) ifs (fun ok σ2 =>
        if ok then WE (inComp c scope D) (eval kx (inComp c scope D).env) (fun k σ3 => ∃ kk, k = .str kk ∧ WE (inComp c scope D) (eval vx (inComp c scope D).env) (fun y σ4 => J (i + 1) (storedA ys kk y) σ4.H ∧ dep σ4.H) σ3) σ2 else J (i + 1) ys σ2.H ∧ dep σ2.H) { loc := fun y => if y = x then some v else cloc scope σ.loc y, H := H1 })
    (hRR : ∀ L D s' ys H1 m, Conc c h₀ { loc := σ.loc, H := fun b => if b = L then some (.sdict ys) else H1 b } s' → s'.heap.Ns D m → Junk c h₀ { loc := σ.loc, H := fun b => if b = L then some (.sdict ys) else H1 b } D →
      J items.length ys H1 → dep H1 → H1 L = none → RR (.ref L) D (.ok .next) s')
    (ht : ∀ it v, letOwnedTupleGo (.Name x px) it v = pure ()) :
    wpAny (model c.prog c.w) c.A newDict (fun acc s₃ => wpAny (model c.prog c.w) c.A (newFunctionEnv scope c.env.globals (closL c.env.cells scope.names []) [] c.env.qual none .none (some c.env)) (fun cenv s₄ =>
      codeAny (model c.prog c.w) c.A (.compStart (.DictComp kx vx [⟨.Name x px, iter, ifs, 0⟩] scope pos) 0 (.ref I) acc { cenv with scope := relabel scope c.env }) (RR acc cenv.locals) s₄) (fun _ _ => False) s₃) (fun _ _ => False) s := by
  refine wpAny_newObj_type (wpAny_newFunctionEnv hcell (by intro y hy; simp at hy) (fun h₁ hns₁ hsb₁ => ?_) hkind)
  dsimp only at hns₁ hsb₁ ⊢
  have XL : Junk c h₀ σ s.heap.objs.size := C.junk (Nat.le_refl _)
  have C1 : Conc c h₀ σ { s with heap := s.heap.push { cls := .type "dict", dict := none, data := .dict #[] } } := C.grow s.toks fun b o' e => Heap.get?_push_of_some _ e
  have hLh : (s.heap.push { cls := .type "dict", dict := none, data := .dict #[] }).get? s.heap.objs.size = some { cls := .type "dict", dict := none, data := .dict #[] } := Heap.get?_push_size _ rfl
  have hILt := Heap.lt_size hoI
  have hIh : (s.heap.push { cls := .type "dict", dict := none, data := .dict #[] }).get? I = some o := Heap.get?_push_of_some _ hoI
  have hS1 : Sx 0 (s.heap.push { cls := .type "dict", dict := none, data := .dict #[] }) := hI.frame _ _ _ hS fun o e => Heap.get?_push_of_some _ e
  have hIL : I ≠ s.heap.objs.size := Nat.ne_of_lt hILt
  have hDsz : (s.heap.push { cls := .type "dict", dict := none, data := .dict #[] }).objs.size = s.heap.objs.size + 1 := Heap.size_push _ _
  have hLd : (s.heap.push { cls := .type "dict", dict := none, data := .dict #[] }).DictOf (strKind c.prog c.w) s.heap.objs.size [] := Heap.DictOf.new s.heap
  generalize hH2 : s.heap.push { cls := .type "dict", dict := none, data := .dict #[] } = H2 at hns₁ hsb₁ C1 hLh hLd hIh hS1 hDsz ⊢
  generalize hLa : s.heap.objs.size = L at *
  have XD : Junk c h₀ σ H2.objs.size := C1.junk (Nat.le_refl _)
  have hDL : H2.objs.size ≠ L := by rw [hDsz]; exact Nat.ne_of_gt (Nat.lt_succ_self _)
  have hDI : H2.objs.size ≠ I := by rw [hDsz]; exact Nat.ne_of_gt (Nat.lt_succ_of_lt hILt)
  have hDlow : H2.objs.size ≠ sysModules := Nat.ne_of_gt (by rw [hDsz]; exact Nat.lt_succ_of_lt hlow)
  have hLlow : L ≠ sysModules := Nat.ne_of_gt hlow
  have hext : ∀ b o, b ≠ H2.objs.size → H2.get? b = some o → h₁.get? b = some o := fun b o hb e => hsb₁.extBut b o hb (Heap.get?_push_of_some _ e)
  generalize H2.objs.size = D at *
  have C2 : Conc c h₀ σ { s with heap := h₁, toks := s.toks + ([] : List (Str × Value)).length } := C1.turn (I := D) XD _ hext
  have hL1 : h₁.DictOf (strKind c.prog c.w) L [] := hLd.at fun o e => hext _ _ (Ne.symm hDL) e
  have hS2 : Sx 0 h₁ := hI.frame _ _ _ hS1 fun o e => hext _ _ (Ne.symm hDI) e
  have hI2 : h₁.get? I = some o := hext _ _ (Ne.symm hDI) hIh
  have O' := O.inComp (C := D) hkind
  have loop : ∀ s₃ : Shared, s₃ = { s with heap := h₁, toks := s.toks + ([] : List (Str × Value)).length } →
      codeAny (model c.prog c.w) c.A (.compLoop (.DictComp kx vx [⟨.Name x px, iter, ifs, 0⟩] scope pos) 0 (.ref I) (.ref L) (compEnvC scope (closL c.env.cells scope.names []) D c.env)) (RR (.ref L) D) s₃ := by
    rintro s₃ rfl
    refine codeAny_compLoop_testsD (CompInvD c h₀ σ I L D Sx J dep items.length) ?_ items.length
      ⟨0, [], σ.H, _, [], rfl, Nat.zero_le _, ⟨C2, XI, XL, XD, hns₁, hL1, .nil, Nat.le_refl _, hS2, hJ, hdep⟩⟩ (fun v => ht _ v)
    rintro k s' ⟨i, ys, H1, m, xs, rfl, hi, C', XI', XL', XD', hn', hL', hys, hyl, hS', hJ', hd'⟩
    by_cases hlt : i < items.length
    · obtain ⟨v, hv⟩ : ∃ v, items[i]? = some v := ⟨items[i], by simp [hlt]⟩
      refine hI.item i H1 s' _ _ v C'.ok hd' hS' hv fun u h' tk hu hS'' hk => ?_
      have C4 := C'.turn XI' tk hk
      have hn4 : h'.Ns D m := hn'.at' fun o e => hk _ o hDI e
      have hL4 : h'.DictOf (strKind c.prog c.w) L xs := hL'.at fun o e => hk _ o (Ne.symm hIL) e
      have C5 := C4.enterComp (scope := scope) XD' hn4 hDlow hcell hfree
      have hg : ∀ b o, h'.get? b = some o → H1 b = none → b ≠ D → (hideP h' fun a => (H1 a).isSome || a == D).get? b = some o := fun b o e h1 h2 => hideP_get e (by simp [h1, h2])
      generalize hgg : (hideP ({ s' with heap := h', toks := tk } : Shared).heap fun a => (({ loc := σ.loc, H := H1 } : St).H a).isSome || a == D) = g at C5
      have hg' : ∀ b o, h'.get? b = some o → H1 b = none → b ≠ D → g.get? b = some o := fun b o e h1 h2 => by rw [← hgg]; exact hg b o e h1 h2
      have up : h₀.StaysIn g := fun b o e => hg' b o (C4.keep b o e) (by
          cases q : H1 b with
          | none => rfl
          | some ao => obtain ⟨_, _, _, hn, _⟩ := C4.heap b ao q; rw [hn] at e; cases e) (by rintro rfl; rw [XD'.held] at e; cases e)
      have hb5 : c.base.StaysIn g := fun b o e => up b o (hb b o e)
      refine wpAny_assign_Name ?_
      refine wpAny_mono (wu_storeName O' hu (P := fun σ2 => σ2 = St.set { loc := cloc scope σ.loc, H := H1 } x v) rfl (by rw [show (inComp c scope D).env.kindOf x = some .local from lookup_relabel_local hx]; rfl) g _ hb5 C5) (fun _ s₂ ⟨_, σ2, _, C6, e⟩ => ?_) fun _ _ x => x.elim
      subst e
      refine wpAny_mono (hturn D i v ys H1 hv hJ' hd' hyl g s₂ hb5 C6) (fun ok s₃ ⟨ok', σ3, e, C7, hP⟩ => ?_) fun _ _ x => x.elim
      subst e
      -- the outer state behind a turn
      have out : ∀ {s₄ : Shared} {σ4 : St}, Conc (inComp c scope D) g σ4 s₄ → OutT c h₀ { loc := σ.loc, H := σ4.H } I L D (fun h => h.DictOf (strKind c.prog c.w) L xs) (Sx (i + 1)) s₄ := fun {s₄ σ4} C8 => by
        have a1 : Conc c h₀ { loc := σ.loc, H := σ4.H } s₄ := C4.leave' (g := g) C8.same C8.keep (fun b o e h1 h2 => hg' b o e h1 (by
          rintro rfl
          rcases h2 with h2 | h2 | ⟨y, h2⟩
          · rw [XD'.held] at h2; cases h2
          · exact XD'.loc h2
          · exact XD'.cell y _ h2 rfl)) fun a o ho => let ⟨co, h1, h2, h3, _, h5⟩ := C8.heap a o ho; ⟨co, h1, h2, h3, h5⟩
        have held : ∀ a o, h'.get? a = some o → H1 a = none → a ≠ D → g.get? a = some o := hg'
        obtain ⟨oI, hoI⟩ := hI.live _ _ hS''
        obtain ⟨oL, hoL, hdL⟩ := Heap.dictOf_iff.mp hL4
        have gI := held I oI hoI XI'.heap (Ne.symm hDI)
        have gL := held L _ hoL XL'.heap (Ne.symm hDL)
        have no : ∀ a o, g.get? a = some o → σ4.H a = none := fun a o e => by
          cases q : σ4.H a with
          | none => rfl
          | some ao => obtain ⟨_, _, _, hn, _⟩ := C8.heap a ao q; rw [hn] at e; cases e
        obtain ⟨m8, hn8, _⟩ := C8.ns
        refine ⟨a1, ⟨XI'.held, no _ _ gI, XI'.loc, XI'.cell⟩, ⟨XL'.held, no _ _ gL, XL'.loc, XL'.cell⟩, ⟨XD'.held, ?_, XD'.loc, XD'.cell⟩, ⟨m8, hn8⟩, Heap.dictOf_iff.mpr ⟨oL, C8.keep _ _ gL, hdL⟩, hI.frame _ _ _ hS'' fun o e => C8.keep _ _ (held I o e XI'.heap (Ne.symm hDI))⟩
        show σ4.H D = none
        cases q : σ4.H D with
        | none => rfl
        | some ao => obtain ⟨_, _, _, _, hn, _⟩ := C8.heap D ao q; exact absurd rfl hn
      cases ok' with
      | false =>
        simp only [Bool.false_eq_true, if_false] at hP ⊢
        obtain ⟨a1, a2, a3, a4, ⟨m8, a5⟩, a6, a7⟩ := out C7
        exact ⟨items.length - (i + 1), by omega, i + 1, ys, σ3.H, m8, xs, rfl, hlt, a1, a2, a3, a4, a5, a6, hys, by omega, a7, hP.1, hP.2⟩
      | true =>
        simp only [if_true] at hP ⊢
        refine wpAny_mono (hP g s₃ hb5 C7) (fun kv s₄ ⟨ka, σ4, hk4, C8, kk, hkk, hP4⟩ => ?_) fun _ _ x => x.elim
        subst hkk
        cases hk4 with
        | str _ tk4 =>
        refine wpAny_mono (hP4 g s₄ hb5 C8) (fun y s₅ ⟨av, σ5, hy, C9, hJ8, hd8⟩ => ?_) fun _ _ x => x.elim
        obtain ⟨a1, a2, a3, a4, ⟨m8, a5⟩, a6, a7⟩ := out C9
        have hxs : xs.length ≤ sizeLine := by
          have := hys.length
          rw [sizeLine_eq]; omega
        refine wpAny_dictSet_pairs (hsz := hxs) (strKind_is c.prog c.w kk tk4) a6 fun h5 hl5 hs5 => ?_
        refine ⟨items.length - (i + 1), by omega, i + 1, storedA ys kk av, σ5.H, m8, stored xs kk y, rfl, hlt, a1.turn a3 _ fun b o hb e => hs5.extBut b o hb e, a2, a3, a4, a5.sameBut hs5 hDL, hl5, All₂.stored hys kk hy, by have := storedA_length_le ys kk av; omega,
          hI.frame _ _ _ a7 fun o e => hs5.extBut _ o hIL e, hJ8, hd8⟩
    · have hin : i = items.length := by omega
      subst hin
      refine hI.done H1 s' _ _ C'.ok hd' hS' fun h' tk hk => ?_
      have C4 := C'.turn XI' tk hk
      have hn4 : h'.Ns D m := hn'.at' fun o e => hk _ o hDI e
      have hL4 : h'.DictOf (strKind c.prog c.w) L xs := hL'.at fun o e => hk _ o (Ne.symm hIL) e
      obtain ⟨oL, hoL, hdL⟩ := Heap.dictOf_iff.mp hL4
      have hr : OR c.prog c.w (.sdict ys) oL := .sdict hys hdL (by omega)
      exact hRR L D _ ys H1 m (C4.adopt XL' hoL hr hLlow) hn4 (XD'.put hDL (.sdict ys)) hJ' hd' XL'.heap
  exact codeAny_compStart_dict (loop _ rfl) (hI.self 0 _ _ _ hS2 (loop _ rfl))


theorem comp_coreD (O : Ok K c n) {kx vx iter : Expr} {x : Str} {px : Pos} {ifs : List Expr} {scope : Scope} {pos ppos : Pos} {items : List AV} {dep : AH → Prop} (J : Nat → List (Str × AV) → AH → Prop) {use : Option (Value → Sem Unit)} {Q : Value → Shared → Prop}
    (hb : c.base.StaysIn h₀) (C : Conc c h₀ σ s)
    (hev : WE c (eval iter c.env) (fun v σ1 => (∃ pre, Itbl c.prog c.w c.A pre dep items v ∧ pre σ1.H) ∧ dep σ1.H ∧ σ1.loc = σ.loc ∧ J 0 [] σ1.H) σ)
    (hlen : items.length ≤ 100000)
    (hcell : ∀ y ∈ scope.names, y.2 ≠ .cell) (hfree : ∀ x, (x, NameKind.free) ∈ scope.names → (c.env.cells.lookup x).isSome = true) (hkind : scope.kind = .function) (hx : scope.names.lookup x = some .local)
    (hnames : ∀ y ∈ scope.names, y.2 = .local → scope.names.lookup y.1 = some .local)
    (hturn : ∀ D i v ys H1, items[i]? = some v → J i ys H1 → dep H1 → ys.length ≤ i → WT (inComp c scope D) ifs (fun ok σ2 =>
        if ok then WE (inComp c scope D) (eval kx (inComp c scope D).env) (fun k σ3 => ∃ kk, k = .str kk ∧ WE (inComp c scope D) (eval vx (inComp c scope D).env) (fun y σ4 => J (i + 1) (storedA ys kk y) σ4.H ∧ dep σ4.H) σ3) σ2 else J (i + 1) ys σ2.H ∧ dep σ2.H) { loc := fun y => if y = x then some v else cloc scope σ.loc y, H := H1 })
    (hQ : ∀ L D s' ys H1 m, Conc c h₀ { loc := σ.loc, H := fun b => if b = L then some (.sdict ys) else H1 b } s' → s'.heap.Ns D m → Junk c h₀ { loc := σ.loc, H := fun b => if b = L then some (.sdict ys) else H1 b } D →
      J items.length ys H1 → dep H1 → H1 L = none → compPost (model c.prog c.w) c.A (fun _ _ => False) use Q (.ref L) D (.ok .next) s')
    (hs : ∀ u, foldedSetIterable iter c.env u = pure u) (ht : ∀ it v, letOwnedTupleGo (.Name x px) it v = pure ()) :
    wpAny (model c.prog c.w) c.A (comprehension (.DictComp kx vx [⟨.Name x px, iter, ifs, 0⟩] scope pos) scope c.env ppos newDict false (eval iter c.env) use) Q (fun _ _ => False) s := by
  refine wpAny_comprehension_free rfl hs (closure_eq hfree) hkind hnames ?_
  refine wpAny_mono (hev h₀ s hb C) (fun u s₁ ⟨v, σ1, hr, C₁, ⟨_, hit, hpre⟩, hdep, hl, hJ⟩ => ?_) fun _ _ x => x
  refine hit u σ1.H s₁ _ _ hr C₁.ok hpre fun Sx o hI hS ho => ?_
  have X₁ : Junk c h₀ σ1 s₁.heap.objs.size := C₁.junk (Nat.le_refl _)
  have C₂ : Conc c h₀ σ1 { s₁ with heap := s₁.heap.push o } := C₁.grow s₁.toks fun b o' e => Heap.get?_push_of_some _ e
  have hlow := O.low hb C₂
  obtain ⟨l1, H1⟩ := σ1
  have hl' : l1 = σ.loc := hl
  subst hl'
  exact comp_dict_block O J (RR := fun acc D r s' => compPost (model c.prog c.w) c.A (fun _ _ => False) use Q acc D r s') hb C₂ X₁ hI hS (Heap.get?_push_size _ ho) hdep hJ hlow hlen hcell hfree hkind hx hturn hQ ht

theorem we_DictComp (O : Ok K c n) {kx vx iter : Expr} {x : Str} {px : Pos} {ifs : List Expr} {scope : Scope} {pos : Pos} {P : AV → St → Prop} (items : List AV) (dep : AH → Prop) (J : Nat → List (Str × AV) → AH → Prop)
    (hev : WE c (eval iter c.env) (fun v σ1 => (∃ pre, Itbl c.prog c.w c.A pre dep items v ∧ pre σ1.H) ∧ dep σ1.H ∧ σ1.loc = σ.loc ∧ J 0 [] σ1.H) σ)
    (hlen : items.length ≤ 100000)
    (hcell : ∀ y ∈ scope.names, y.2 ≠ .cell) (hfree : ∀ x, (x, NameKind.free) ∈ scope.names → (c.env.cells.lookup x).isSome = true) (hkind : scope.kind = .function) (hx : scope.names.lookup x = some .local)
    (hnames : ∀ y ∈ scope.names, y.2 = .local → scope.names.lookup y.1 = some .local)
    (hturn : ∀ D i v ys H1, items[i]? = some v → J i ys H1 → dep H1 → ys.length ≤ i → WT (inComp c scope D) ifs (fun ok σ2 =>
        if ok then WE (inComp c scope D) (eval kx (inComp c scope D).env) (fun k σ3 => ∃ kk, k = .str kk ∧ WE (inComp c scope D) (eval vx (inComp c scope D).env) (fun y σ4 => J (i + 1) (storedA ys kk y) σ4.H ∧ dep σ4.H) σ3) σ2 else J (i + 1) ys σ2.H ∧ dep σ2.H) { loc := fun y => if y = x then some v else cloc scope σ.loc y, H := H1 })
    (hend : ∀ L ys H1, J items.length ys H1 → dep H1 → H1 L = none → P (.ref L) { loc := σ.loc, H := fun b => if b = L then some (.sdict ys) else H1 b })
    (hs : ∀ u, foldedSetIterable iter c.env u = pure u) (ht : ∀ it v, letOwnedTupleGo (.Name x px) it v = pure ()) :
    WE c (eval (.DictComp kx vx [⟨.Name x px, iter, ifs, 0⟩] scope pos) c.env) P σ := by
  intro h₀ s hb C
  rw [arm_eval_DictComp]
  refine comp_coreD (use := none) O J hb C hev hlen hcell hfree hkind hx hnames hturn ?_ hs ht
  intro L D s' ys H1 m C' hn X hJ hd hL
  exact ⟨m, hn, fun h' hs' => ⟨.ref L, _, .ref _, C'.turn X s'.toks fun b o hb e => hs'.extBut b o hb e, hend L ys H1 hJ hd hL⟩⟩

/-- the dict is bound to a name at once -/
theorem wf_Assign_DictComp (O : Ok K c n) {kx vx iter : Expr} {x y : Str} {px py : Pos} {ifs : List Expr} {scope : Scope} {pos spos : Pos} {P : AF → St → Prop} (items : List AV) (dep : AH → Prop) (J : Nat → List (Str × AV) → AH → Prop)
    (hev : WE c (eval iter c.env) (fun v σ1 => (∃ pre, Itbl c.prog c.w c.A pre dep items v ∧ pre σ1.H) ∧ dep σ1.H ∧ σ1.loc = σ.loc ∧ J 0 [] σ1.H) σ)
    (hlen : items.length ≤ 100000)
    (hcell : ∀ y ∈ scope.names, y.2 ≠ .cell) (hfree : ∀ x, (x, NameKind.free) ∈ scope.names → (c.env.cells.lookup x).isSome = true) (hkind : scope.kind = .function) (hx : scope.names.lookup x = some .local)
    (hnames : ∀ y ∈ scope.names, y.2 = .local → scope.names.lookup y.1 = some .local)
    (hturn : ∀ D i v ys H1, items[i]? = some v → J i ys H1 → dep H1 → ys.length ≤ i → WT (inComp c scope D) ifs (fun ok σ2 =>
        if ok then WE (inComp c scope D) (eval kx (inComp c scope D).env) (fun k σ3 => ∃ kk, k = .str kk ∧ WE (inComp c scope D) (eval vx (inComp c scope D).env) (fun y σ4 => J (i + 1) (storedA ys kk y) σ4.H ∧ dep σ4.H) σ3) σ2 else J (i + 1) ys σ2.H ∧ dep σ2.H) { loc := fun y => if y = x then some v else cloc scope σ.loc y, H := H1 })
    (hend : ∀ L ys H1, J items.length ys H1 → dep H1 → H1 L = none → P .next (St.set { loc := σ.loc, H := fun b => if b = L then some (.sdict ys) else H1 b } y (.ref L)))
    (hy : c.env.kindOf y = some .local)
    (hsw : swapsWith (.DictComp kx vx [⟨.Name x px, iter, ifs, 0⟩] scope pos) (some (.Name y py)) spos.line c.env = pure true)
    (hs : ∀ u, foldedSetIterable iter c.env u = pure u) (ht : ∀ it v, letOwnedTupleGo (.Name x px) it v = pure ()) :
    WF c (exec (.Assign [.Name y py] (.DictComp kx vx [⟨.Name x px, iter, ifs, 0⟩] scope pos) spos) c.env) P σ := by
  intro h₀ s hb C
  rw [exec_Assign_Name_used _ _ _ _ hsw]
  refine wpAny_bind (wpAny_standAt (wpAny_bind ?_))
  show wpAny _ c.A (do let _ ← comprehension (.DictComp kx vx [⟨.Name x px, iter, ifs, 0⟩] scope pos) scope c.env _ newDict false (eval iter c.env) (some (assign (.Name y py) c.env))) _ _ s
  refine wpAny_bind (wpAny_mono (comp_coreD (use := some (assign (.Name y py) c.env)) (Q := fun _ s' => ∃ av σ', FR av .next ∧ Conc c h₀ σ' s' ∧ P av σ') O J hb C hev hlen hcell hfree hkind hx hnames hturn ?_ hs ht) (fun _ s' hq => wpAny_pure (wpAny_pure hq)) fun _ _ e => e)
  intro L D s' ys H1 m C' hn X hJ hd hL
  show wpAny _ c.A (assign (.Name y py) c.env (.ref L)) _ _ s'
  refine wpAny_assign_Name ?_
  -- what is not ours is held, so that the comprehension's names stand
  obtain ⟨up, C5⟩ := C'.hold
  obtain ⟨o, es, ep, ho, r⟩ := id hn
  have hD5 : (hideP s'.heap (c.mine { loc := σ.loc, H := fun b => if b = L then some (.sdict ys) else H1 b })).get? D = some o := hideP_get ho X.notMine
  refine wpAny_mono (wu_storeName O (.ref L) (P := fun σ2 => σ2 = St.set { loc := σ.loc, H := fun b => if b = L then some (.sdict ys) else H1 b } y (.ref L)) rfl (by rw [hy]; rfl) _ _ (fun b o e => up b o (hb b o e)) C5) (fun _ s₂ ⟨_, σ2, _, C6, e⟩ => ?_) fun _ _ x => x
  subst e
  exact ⟨m, ⟨o, es, ep, C6.keep _ _ hD5, r⟩, fun h' hs' => ⟨.next, _, .next, (C6.weaken up).turn (X.set y _) s₂.toks fun b o hb e => hs'.extBut b o hb e, hend L ys H1 hJ hd hL⟩⟩
end

/-! Core8 -/
section
variable {K : Frag} {n : Nat} {c : Cx} {σ : St} {P : AV → St → Prop} {PB : Bool → St → Prop}

/-! ### numbers -/
theorem wb_add {i j : Int} (h : P (.int (i + j)) σ) : WBin c .Add (.int i) (.int j) P σ := fun u v hu hv => by
  cases hu; cases hv; exact fun h₀ s hb C => PyProof.Rows.add_int ⟨_, _, .int _ _, C.toks _, h⟩
theorem wb_sub {i j : Int} (h : P (.int (i - j)) σ) : WBin c .Sub (.int i) (.int j) P σ := fun u v hu hv => by
  cases hu; cases hv; exact fun h₀ s hb C => PyProof.Rows.sub_int' ⟨_, _, .int _ _, C.toks _, h⟩
theorem wb_mul {i j : Int} (hm : IntMulOk i j) (h : P (.int (i * j)) σ) : WBin c .Mult (.int i) (.int j) P σ := fun u v hu hv => by
  cases hu; cases hv; exact fun h₀ s hb C => PyProof.Rows.mul_int (hm := hm) ⟨_, _, .int _ _, C.toks _, h⟩
theorem wb_mod {i j : Int} (hj : j ≠ 0) (h : P (.int (i.fmod j)) σ) : WBin c .Mod (.int i) (.int j) P σ := fun u v hu hv => by
  cases hu; cases hv; exact fun h₀ s hb C => PyProof.Rows.mod_int' hj ⟨_, _, .int _ _, C.toks _, h⟩
theorem wb_div {i j : Int} (hj : j ≠ 0) (hp : j.natAbs < 1073741824) (h : P (.int (i.fdiv j)) σ) : WBin c .FloorDiv (.int i) (.int j) P σ := fun u v hu hv => by
  cases hu; cases hv; exact fun h₀ s hb C => AutoIntOps.floordiv_1 (by simpa using hj) (by rw [PyProof.noPylong_small hp]; exact Bool.false_ne_true) ⟨_, _, .int _ _, C.toks _, h⟩
theorem wb_and {i j : Int} (h : P (.int (Builtin.bitAnd i j)) σ) : WBin c .BitAnd (.int i) (.int j) P σ := fun u v hu hv => by
  cases hu; cases hv; exact fun h₀ s hb C => PyProof.Rows.and_int ⟨_, _, .int _ _, C.toks _, h⟩
theorem wb_or {i j : Int} (h : P (.int (Builtin.bitOr i j)) σ) : WBin c .BitOr (.int i) (.int j) P σ := fun u v hu hv => by
  cases hu; cases hv; exact fun h₀ s hb C => PyProof.Rows.or_int ⟨_, _, .int _ _, C.toks _, h⟩
theorem wb_pow {i : Int} {k : Nat} (hi : 2 ≤ i) (hk : ¬ Builtin.Int.intTooBig (((Builtin.Int.intBits i : Nat) : Int) * (k : Int)) = true) (h : P (.int (i ^ k)) σ) : WBin c .Pow (.int i) (.int k) P σ := fun u v hu hv => by
  cases hu; cases hv
  intro h₀ s hb C
  by_cases h0 : k = 0
  · subst h0
    exact AutoIntOps.pow_0 (by omega) (by rfl) ⟨_, _, .int _ _, C.toks _, (by simpa using h)⟩
  · exact AutoIntOps.pow_4 (by omega) (by simp; omega) (by simp; omega) (by simp; omega) hk ⟨_, _, .int _ _, C.toks _, (by simpa using h)⟩
theorem wi_add {i j : Int} {u v : Value} (hu : VR (.int i) u) (hv : VR (.int j) v) (h : P (.int (i + j)) σ) : WE c (inplaceOp .Add u v) P σ := by
  cases hu; cases hv; exact fun h₀ s hb C => PySem.P.iadd_int ⟨_, _, .int _ _, C.toks _, h⟩
theorem wi_sub {i j : Int} {u v : Value} (hu : VR (.int i) u) (hv : VR (.int j) v) (h : P (.int (i - j)) σ) : WE c (inplaceOp .Sub u v) P σ := by
  cases hu; cases hv; exact fun h₀ s hb C => PySem.P.isub_int ⟨_, _, .int _ _, C.toks _, h⟩
theorem wun_neg {i : Int} {u : Value} (hu : VR (.int i) u) (h : P (.int (-i)) σ) : WE c (unaryOp .USub u) P σ := by
  cases hu; exact fun h₀ s hb C => PyProof.Rows.neg_int ⟨_, _, .int _ _, C.toks _, h⟩
theorem wun_not {a : AV} {u : Value} (hu : VR a u) (h : WTr c a (fun b => P (.bool (!b))) σ) : WE c (unaryOp .Not u) P σ :=
  fun h₀ s hb C => not_value (wpAny_mono (h u hu h₀ s hb C) (fun b s' ⟨b', σ', e, C', hp⟩ => ⟨_, _, .bool _, C', by subst e; exact hp⟩) fun _ _ x => x)

theorem wc_lt {i j : Int} (h : P (.bool (decide (i < j))) σ) : WCmp c .Lt (.int i) (.int j) P σ := fun u v hu hv => by
  cases hu; cases hv; exact fun h₀ s hb C => PyProof.Rows.lt_int ⟨_, _, .bool _, C, h⟩
theorem wc_gt {i j : Int} (h : P (.bool (decide (j < i))) σ) : WCmp c .Gt (.int i) (.int j) P σ := fun u v hu hv => by
  cases hu; cases hv; exact fun h₀ s hb C => PyProof.Rows.gt_int ⟨_, _, .bool _, C, h⟩
theorem wc_le {i j : Int} (h : P (.bool (decide (i ≤ j))) σ) : WCmp c .LtE (.int i) (.int j) P σ := fun u v hu hv => by
  cases hu; cases hv; exact fun h₀ s hb C => PyProof.Rows.le_int ⟨_, _, .bool _, C, h⟩
theorem wc_ge {i j : Int} (h : P (.bool (decide (j ≤ i))) σ) : WCmp c .GtE (.int i) (.int j) P σ := fun u v hu hv => by
  cases hu; cases hv; exact fun h₀ s hb C => PyProof.Rows.ge_int ⟨_, _, .bool _, C, h⟩
theorem wc_eq {i j : Int} (h : P (.bool (decide (i = j))) σ) : WCmp c .Eq (.int i) (.int j) P σ := fun u v hu hv => by
  cases hu; cases hv; exact fun h₀ s hb C => PyProof.Rows.eq_int ⟨_, _, .bool _, C, h⟩
theorem wt_int {i : Int} (h : PB (decide (i ≠ 0)) σ) : WTr c (.int i) PB σ := fun u hu => by
  cases hu
  have e : (i != 0) = decide (i ≠ 0) := by rw [Bool.eq_iff_iff]; simp
  exact fun h₀ s hb C => PyProof.Rows.truthy_int ⟨_, _, rfl, C, by rw [e]; exact h⟩

/-! ### texts -/
theorem wc_eqS {x y : Str} (h : P (.bool (decide (x = y))) σ) : WCmp c .Eq (.str x) (.str y) P σ := fun u v hu hv => by
  cases hu; cases hv; exact fun h₀ s hb C => PyProof.Rows.eq_str ⟨_, _, .bool _, C, by rw [Bool.beq_eq_decide_eq]; exact h⟩
theorem wc_neS {x y : Str} (h : P (.bool (!decide (x = y))) σ) : WCmp c .NotEq (.str x) (.str y) P σ := fun u v hu hv => by
  cases hu; cases hv; exact fun h₀ s hb C => PyProof.Rows.ne_str ⟨_, _, .bool _, C, by rw [bne, Bool.beq_eq_decide_eq]; exact h⟩
theorem wc_inS {x y : Str} (h : P (.bool (Txt.contains y x)) σ) : WCmp c .In (.str x) (.str y) P σ := fun u v hu hv => by
  cases hu; cases hv; exact fun h₀ s hb C => SB.contains ⟨_, _, .bool _, C, h⟩
theorem wc_notinS {x y : Str} (h : P (.bool (!Txt.contains y x)) σ) : WCmp c .NotIn (.str x) (.str y) P σ := fun u v hu hv => by
  cases hu; cases hv; exact fun h₀ s hb C => SB.notContains ⟨_, _, .bool _, C, h⟩
theorem wb_addS {x y : Str} (hl : x.length + y.length ≤ 100000) (h : P (.str (x ++ y)) σ) : WBin c .Add (.str x) (.str y) P σ := fun u v hu hv => by
  cases hu; cases hv; exact fun h₀ s hb C => SB.add (hsz := by rw [sizeLine_eq]; omega) fun t' k => ⟨_, _, .str _ _, C.toks _, h⟩
theorem wt_str {x : Str} (hl : x.length ≤ 100000) (h : PB (decide (x.length ≠ 0)) σ) : WTr c (.str x) PB σ := fun u hu => by
  cases hu
  refine fun h₀ s hb C => PySem.P.truthy_str (by omega) ⟨_, _, rfl, C.toks _, ?_⟩
  have e : ((x.length : Int) != 0) = decide (x.length ≠ 0) := by
    rw [Bool.eq_iff_iff]; simp
  rw [e]; exact h

/-! ### is -/
theorem wc_isNotB {a b : Bool} (h : P (.bool (decide (a ≠ b))) σ) : WCmp c .IsNot (.bool a) (.bool b) P σ := fun u v hu hv => by
  cases hu; cases hv
  refine fun h₀ s hb C => wpAny_isNot_plain rfl ⟨_, _, .bool _, C, ?_⟩
  have e : (!(Value.bool a == Value.bool b)) = decide (a ≠ b) := by cases a <;> cases b <;> rfl
  rw [e]; exact h
end

/-! Core9 -/
section
variable {K : Frag} {n : Nat} {c : Cx} {σ : St} {P : AV → St → Prop} {PB : Bool → St → Prop} {h₀ : Heap} {s : Shared}

/-! ### reading our objects -/
theorem Conc.list (C : Conc c h₀ σ s) {a : Addr} {xs : List AV} (h : σ.H a = some (.list xs)) : ∃ (items : List Value) (k : Nat), s.heap.get? a = some { cls := .type "list", data := .seq items.toArray k } ∧ All₂ VR xs items ∧ xs.length ≤ 100000 := by
  obtain ⟨co, h1, h2, _⟩ := C.heap a _ h
  cases h2 with
  | list hr hl => exact ⟨_, _, h1, hr, hl⟩
theorem Conc.isList (C : Conc c h₀ σ s) {a : Addr} {xs : List AV} (h : σ.H a = some (.list xs)) : ∃ items : List Value, s.heap.IsList a items.toArray ∧ All₂ VR xs items ∧ xs.length ≤ 100000 := by
  obtain ⟨items, k, h1, h2, h3⟩ := C.list h
  exact ⟨items, ⟨_, h1, rfl, _, rfl⟩, h2, h3⟩
theorem Conc.sdict (C : Conc c h₀ σ s) {a : Addr} {kvs : List (Str × AV)} (h : σ.H a = some (.sdict kvs)) : ∃ cvs, s.heap.DictOf (strKind c.prog c.w) a cvs ∧ All₂ KV kvs cvs ∧ kvs.length ≤ 100000 ∧ (a == sysModules) = false := by
  obtain ⟨co, h1, h2, _, _, h5⟩ := C.heap a _ h
  cases h2 with
  | sdict hr ho hl => exact ⟨_, Heap.dictOf_iff.mpr ⟨_, h1, ho⟩, hr, hl, by simpa using h5⟩
theorem Conc.idict (C : Conc c h₀ σ s) {a : Addr} {kvs : List (Int × AV)} (h : σ.H a = some (.idict kvs)) : ∃ cvs, s.heap.DictOf (intKind c.prog c.w) a cvs ∧ All₂ KV kvs cvs ∧ kvs.length ≤ 100000 ∧ (a == sysModules) = false := by
  obtain ⟨co, h1, h2, _, _, h5⟩ := C.heap a _ h
  cases h2 with
  | idict hr ho hl => exact ⟨_, Heap.dictOf_iff.mpr ⟨_, h1, ho⟩, hr, hl, by simpa using h5⟩

noncomputable def lookA {Kt : Type} [DecidableEq Kt] (kvs : List (Kt × AV)) (k : Kt) : Option AV := (kvs.find? fun kv => kv.1 = k).map (·.2)
theorem All₂.look {Kt : Type} [DecidableEq Kt] : ∀ {as : List (Kt × AV)} {bs : List (Kt × Value)} (_ : All₂ KV as bs) (k : Kt),
    (lookA as k = none ∧ valueAt bs k = none) ∨ ∃ v u, lookA as k = some v ∧ valueAt bs k = some u ∧ VR v u
  | _, _, .nil, k => .inl ⟨rfl, rfl⟩
  | _, _, .cons (a := a) (b := b) h hs, k => by
    obtain ⟨a1, a2⟩ := a
    obtain ⟨b1, b2⟩ := b
    obtain ⟨e, hr⟩ := h
    have e' : a1 = b1 := e
    subst e'
    by_cases hk : a1 = k
    · exact .inr ⟨a2, b2, by simp [lookA, hk], by simp [valueAt, hk], hr⟩
    · have := hs.look k
      simpa [lookA, valueAt, hk] using this

inductive IsA (σ : St) : AV → String → Prop
  | str (x) : IsA σ (.str x) "str"
  | list {a xs} (h : σ.H a = some (.list xs)) : IsA σ (.ref a) "list"
  | sdict {a xs} (h : σ.H a = some (.sdict xs)) : IsA σ (.ref a) "dict"
  | idict {a xs} (h : σ.H a = some (.idict xs)) : IsA σ (.ref a) "dict"
theorem IsA.typeIs (C : Conc c h₀ σ s) {v : AV} {u : Value} {T : String} (h : IsA σ v T) (hu : VR v u) : s.TypeIs u T ∧ ∀ a, u = .ref a → ∃ ob, s.heap.get? a = some ob ∧ ob.dict = none := by
  cases h with
  | str x => cases hu; exact ⟨typeIs_str _ _ _, fun a e => by cases e⟩
  | list h =>
    cases hu
    obtain ⟨items, k, h1, _⟩ := C.list h
    exact ⟨⟨_, h1, rfl⟩, fun a e => by cases e; exact ⟨_, h1, rfl⟩⟩
  | sdict h =>
    cases hu
    obtain ⟨cvs, h1, _⟩ := C.sdict h
    exact ⟨h1.typeIs, h1.mapOf.noDict⟩
  | idict h =>
    cases hu
    obtain ⟨cvs, h1, _⟩ := C.idict h
    exact ⟨h1.typeIs, h1.mapOf.noDict⟩

/-! ### calls of methods and of built-in functions -/
theorem we_Method {o e : Expr} {rest : List Expr} {name : Str} {apos pos : Pos} {T id : String}
    (pa : PlainAttrs T) (slot : Slot T name id) (hty : typeOf (.builtin id) = pure (.type "method_descriptor"))
    (h : WE c (eval o c.env) (fun ov σ1 => IsA σ1 ov T ∧ WL c (spliced (backTo pos (starEach (e :: rest) c.env))) (fun vs σ2 => ∀ u us, VR ov u → All₂ VR vs us → WE c (call (.builtin id) (u :: us)) P σ2) σ1) σ)
    (hbase : attributeBase o name c.env (eval o c.env) = eval o c.env)
    (hfew : ((backTo pos (starEach (e :: rest) c.env)).all (fun x => !x.1) && (backToKw pos (keywordEach [] c.env)).all (fun x => x.1.isSome)
      && decide ((e :: rest).length + ([] : List Keyword).length + (if ([] : List Keyword).isEmpty then 0 else 1) < 30)) = true)
    (hline : (apos.endLine == pos.line) = true)
    (he : starEach (e :: rest) c.env = (false, eval e c.env) :: starEach rest c.env) (hplain : (backTo pos (starEach rest c.env)).any (·.1) = false) :
    WE c (eval (.Call (.Attribute o name apos) (e :: rest) [] pos) c.env) P σ := by
  intro h₀ s hb C
  refine wpAny_Call_method_late (trees := backTo pos (starEach (e :: rest) c.env)) hbase hfew hline rfl (wpAny_mono (h h₀ s hb C) (fun u s₁ ⟨ov, σ1, hr, C₁, hA, hW⟩ => ?_) fun _ _ x => x)
  obtain ⟨hT, hd⟩ := hA.typeIs C₁ hr
  refine ⟨T, id, pa, slot, hty, hT, hd, ?_⟩
  refine callWith_builtin (by rw [he]; exact hplain) ?_
  rw [he]
  refine evalArgs_plain ?_
  have hW' := hW h₀ s₁ hb C₁
  rw [he] at hW'
  exact wpAny_mono hW' (fun us s₂ ⟨vs, σ2, h1, C₂, h3⟩ => h3 u us hr h1 h₀ s₂ hb C₂) fun _ _ x => x

theorem we_CallB (O : Ok K c n) {x : Str} {px pos : Pos} {id : String} {e : Expr} {rest : List Expr} (hg : nsIn K mainGlobals x = some none) (hv : bootBuiltins x = some (.builtin id)) (hn : x ≠ "__name__")
    (h : WL c (spliced (backTo pos (starEach (e :: rest) c.env))) (fun vs σ1 => ∀ us, All₂ VR vs us → WE c (call (.builtin id) us) P σ1) σ)
    (hx : c.env.kindOf x = some .globalImplicit) (hd : (x == ("__debug__" : Str)) = false)
    (he : starEach (e :: rest) c.env = (false, eval e c.env) :: starEach rest c.env) (hplain : (backTo pos (starEach rest c.env)).any (·.1) = false) :
    WE c (eval (.Call (.Name x px) (e :: rest) [] pos) c.env) P σ := by
  rw [arm_eval_Call_Name']
  refine we_builtin O hg hv hn ?_ hx hd
  intro h₀ s hb C
  refine callWith_builtin (first := []) (by rw [he]; exact hplain) ?_
  rw [he]
  refine evalArgs_plain ?_
  have hW' := h h₀ s hb C
  rw [he] at hW'
  exact wpAny_mono hW' (fun us s₂ ⟨vs, σ2, h1, C₂, h3⟩ => h3 us h1 h₀ s₂ hb C₂) fun _ _ x => x

theorem we_CallT (O : Ok K c n) {x : Str} {px pos : Pos} {T : String} {e : Expr} {rest : List Expr} (hg : nsIn K mainGlobals x = some none) (hv : bootBuiltins x = some (.type T)) (hn : x ≠ "__name__")
    (h : WL c (spliced (backTo pos (starEach (e :: rest) c.env))) (fun vs σ1 => ∀ us, All₂ VR vs us → WE c (call (.type T) us) P σ1) σ)
    (hx : c.env.kindOf x = some .globalImplicit) (hd : (x == ("__debug__" : Str)) = false)
    (he : starEach (e :: rest) c.env = (false, eval e c.env) :: starEach rest c.env) (hplain : (backTo pos (starEach rest c.env)).any (·.1) = false) :
    WE c (eval (.Call (.Name x px) (e :: rest) [] pos) c.env) P σ := by
  rw [arm_eval_Call_Name']
  refine we_builtin O hg hv hn ?_ hx hd
  intro h₀ s hb C
  refine PyProof.Rows.callWith_type (first := []) (by rw [he]; exact hplain) ?_
  rw [he]
  refine evalArgs_plain ?_
  have hW' := h h₀ s hb C
  rw [he] at hW'
  exact wpAny_mono hW' (fun us s₂ ⟨vs, σ2, h1, C₂, h3⟩ => h3 us h1 h₀ s₂ hb C₂) fun _ _ x => x

/-! ### items -/
noncomputable def WItem (c : Cx) (value slice : Expr) (o i : AV) (P : AV → St → Prop) (σ : St) : Prop := ∀ u v, VR o u → VR i v → WE c (subscriptTail value slice u v) P σ
theorem we_Sub {value slice : Expr} {pos : Pos} (h : WE c (eval value c.env) (fun o => WE c (eval slice c.env) (fun i => WItem c value slice o i P)) σ) : WE c (eval (.Subscript value slice pos) c.env) P σ := by
  intro h₀ s hb C
  refine Subscript_ (wpAny_mono (h h₀ s hb C) (fun u s₁ ⟨o, σ1, h1, C₁, h2⟩ => wpAny_mono (h2 h₀ s₁ hb C₁) (fun v s₂ ⟨i, σ2, h3, C₂, h4⟩ => h4 u v h1 h3 h₀ s₂ hb C₂) fun _ _ x => x) fun _ _ x => x)

theorem wi_list {value slice : Expr} {a : Addr} {xs : List AV} {i : Int} {v : AV} (hH : σ.H a = some (.list xs)) (h0 : 0 ≤ i) (hi : i < 2 ^ 63) (hx : xs[i.toNat]? = some v) (h : P v σ)
    (hs : ∀ o i, subscripted slice false o i = operate [o, i] (getItem o i)) : WItem c value slice (.ref a) (.int i) P σ := by
  intro u w hu hw h₀ s hb C
  cases hu; cases hw
  obtain ⟨items, hl, hr, _⟩ := C.isList hH
  obtain ⟨x, hx', hv⟩ := hr.get hx
  exact tail_any hl.typeIs slot_list_getitem.lookup (wpAny_getItem_list hl h0 hi (by simpa using hx') ⟨v, σ, hv, C, h⟩) (hs _ _)
theorem wi_list_neg {value slice : Expr} {a : Addr} {xs : List AV} {i : Int} {v : AV} (hH : σ.H a = some (.list xs)) (h0 : i < 0) (hi : -(xs.length : Int) ≤ i) (hx : xs[(i + xs.length).toNat]? = some v) (h : P v σ)
    (hs : ∀ o i, subscripted slice false o i = operate [o, i] (getItem o i)) : WItem c value slice (.ref a) (.int i) P σ := by
  intro u w hu hw h₀ s hb C
  cases hu; cases hw
  obtain ⟨items, hl, hr, hle⟩ := C.isList hH
  obtain ⟨x, hx', hv⟩ := hr.get hx
  have hlen := hr.length
  exact tail_any hl.typeIs slot_list_getitem.lookup (wpAny_getItem_list_neg hl h0 (by simpa [← hlen] using hi) (by omega) (by simpa [← hlen] using hx') ⟨v, σ, hv, C, h⟩) (hs _ _)
theorem wi_str {value slice : Expr} {x : Str} {i : Int} (hi : (Txt.charAt x i).isSome = true) (hf : fitsSsize i = true) (h : P (.str (Txt.item x i)) σ)
    (hs : ∀ o i, subscripted slice false o i = operate [o, i] (getItem o i)) : WItem c value slice (.str x) (.int i) P σ := by
  intro u w hu hw h₀ s hb C
  cases hu; cases hw
  exact tail_any (typeIs_str _ _ _) F.slot_str_getitem.lookup (SB.getItem hf hi ⟨_, σ, .str _ _, C.toks _, h⟩) (hs _ _)
theorem wi_sdict {value slice : Expr} {a : Addr} {kvs : List (Str × AV)} {k : Str} {v : AV} (hH : σ.H a = some (.sdict kvs)) (hk : lookA kvs k = some v) (h : P v σ)
    (hs : ∀ o i, subscripted slice false o i = operate [o, i] (getItem o i)) : WItem c value slice (.ref a) (.str k) P σ := by
  intro u w hu hw h₀ s hb C
  cases hu
  cases hw with
  | str _ t =>
  obtain ⟨cvs, hd, hr, _, _⟩ := C.sdict hH
  rcases hr.look k with ⟨h1, _⟩ | ⟨v', u', h1, h2, h3⟩
  · rw [h1] at hk; cases hk
  · rw [h1] at hk; cases hk
    exact tail_any hd.typeIs slot_dict_getitem.lookup (wpAny_getItem_of (strKind_is _ _ k t) hd.mapOf h2 ⟨v, σ, h3, C.toks _, h⟩) (hs _ _)
theorem wi_idict {value slice : Expr} {a : Addr} {kvs : List (Int × AV)} {k : Int} {v : AV} (hH : σ.H a = some (.idict kvs)) (hk : lookA kvs k = some v) (h : P v σ)
    (hs : ∀ o i, subscripted slice false o i = operate [o, i] (getItem o i)) : WItem c value slice (.ref a) (.int k) P σ := by
  intro u w hu hw h₀ s hb C
  cases hu
  cases hw with
  | int _ t =>
  obtain ⟨cvs, hd, hr, _, _⟩ := C.idict hH
  rcases hr.look k with ⟨h1, _⟩ | ⟨v', u', h1, h2, h3⟩
  · rw [h1] at hk; cases hk
  · rw [h1] at hk; cases hk
    exact tail_any hd.typeIs slot_dict_getitem.lookup (wpAny_getItem_of (intKind_is _ _ k t) hd.mapOf h2 ⟨v, σ, h3, C.toks _, h⟩) (hs _ _)
end

/-! Core10 -/
section
variable {K : Frag} {n : Nat} {c : Cx} {σ : St} {P : AV → St → Prop} {PB : Bool → St → Prop} {h₀ : Heap} {s : Shared}

/-! ### slices -/
noncomputable abbrev WPart (c : Cx) (x : Option Expr) (P : Option Int → St → Prop) (σ : St) : Prop := WG c (fun (k : Option Int) (v : Value) => IsPart v k) (evalPart x c.env) P σ
theorem wp_none {Q : Option Int → St → Prop} (h : Q none σ) : WPart c none Q σ := WG.pure .none h
theorem wp_some {e : Expr} {Q : Option Int → St → Prop} (h : WE c (eval e c.env) (fun v σ' => ∃ i, v = .int i ∧ Q (some i) σ') σ) : WPart c (some e) Q σ :=
  fun h₀ s hb C => wpAny_mono (h h₀ s hb C) (fun u s' ⟨v, σ', hr, C', i, e, hq⟩ => by subst e; cases hr; exact ⟨some i, σ', .int _ _, C', hq⟩) fun _ _ x => x

noncomputable def sliceObj (l u st : Value) : Obj := { cls := .type "slice", data := .fields #[l, u, st] }
noncomputable def WSl (c : Cx) (value slice : Expr) (o : AV) (l u st : Option Int) (P : AV → St → Prop) (σ : St) : Prop := ∀ uo ul uu us h₀ s, VR o uo → IsPart ul l → IsPart uu u → IsPart us st → c.base.StaysIn h₀ → Conc c h₀ σ s →
  wpAny (model c.prog c.w) c.A (subscriptTail value slice uo (.ref s.heap.objs.size)) (fun v s' => ∃ av σ', VR av v ∧ Conc c h₀ σ' s' ∧ P av σ') (fun _ _ => False) { s with heap := s.heap.push (sliceObj ul uu us) }
theorem we_SubSlice {value : Expr} {lower upper step : Option Expr} {p pos : Pos}
    (h : WE c (eval value c.env) (fun o => WPart c lower (fun l => WPart c upper (fun u => WPart c step (fun st => WSl c value (.Slice lower upper step p) o l u st P)))) σ) :
    WE c (eval (.Subscript value (.Slice lower upper step p) pos) c.env) P σ := by
  intro h₀ s hb C
  refine Subscript_ (wpAny_mono (h h₀ s hb C) (fun uo s₁ ⟨o, σ1, h1, C₁, h2⟩ => wpAny_Slice (wpAny_mono (h2 h₀ s₁ hb C₁) (fun ul s₂ ⟨l, σ2, h3, C₂, h4⟩ => wpAny_mono (h4 h₀ s₂ hb C₂) (fun uu s₃ ⟨u, σ3, h5, C₃, h6⟩ => wpAny_mono (h6 h₀ s₃ hb C₃) (fun us s₄ ⟨st, σ4, h7, C₄, h8⟩ => ?_) fun _ _ x => x) fun _ _ x => x) fun _ _ x => x)) fun _ _ x => x)
  exact h8 uo ul uu us h₀ s₄ h1 h3 h5 h7 hb C₄

/-- a list that can be read: ours, or one that stands from the start -/
noncomputable def LA (c : Cx) (σ : St) (a : Addr) (xs : List AV) : Prop := ∀ h₀ s, c.base.StaysIn h₀ → Conc c h₀ σ s → ∃ items : List Value, s.heap.IsList a items.toArray ∧ All₂ VR xs items ∧ xs.length ≤ 100000
theorem LA.ours {a : Addr} {xs : List AV} (h : σ.H a = some (.list xs)) : LA c σ a xs := fun _ _ _ C => C.isList h
theorem LA.base {a : Addr} {xs : List AV} {items : List Value} (hl : c.base.IsList a items.toArray) (hr : All₂ VR xs items) (hle : xs.length ≤ 100000) : LA c σ a xs := fun h₀ s hb C => by
  obtain ⟨o, ho, r⟩ := hl
  exact ⟨items, ⟨o, C.keep _ _ (hb _ _ ho), r⟩, hr, hle⟩

noncomputable def pickA (xs : List AV) (lo hi st : Option Int) : List AV :=
  (sliceRange (sliceBounds lo hi st xs.length).1 (sliceBounds lo hi st xs.length).2.1 (sliceBounds lo hi st xs.length).2.2).filterMap (xs[·]?)
theorem All₂.pick {xs : List AV} {items : List Value} (h : All₂ VR xs items) : ∀ idx : List Nat, All₂ VR (idx.filterMap (xs[·]?)) (idx.filterMap (items[·]?))
  | [] => .nil
  | i :: r => by
    simp only [List.filterMap_cons]
    cases hx : xs[i]? with
    | some v =>
      obtain ⟨u, hu, hr⟩ := h.get hx
      rw [hu]; exact .cons hr (h.pick r)
    | none =>
      have : items[i]? = none := by
        have h1 := List.getElem?_eq_none_iff.mp hx
        exact List.getElem?_eq_none_iff.mpr (h.length ▸ h1)
      rw [this]; exact h.pick r
theorem All₂.pickA {xs : List AV} {items : List Value} (h : All₂ VR xs items) (lo hi st : Option Int) : All₂ VR (pickA xs lo hi st) (slicePick items.toArray lo hi st).toList := by
  unfold Mine.pickA slicePick
  rw [h.length]
  simpa using h.pick _
theorem pickA_length_le (xs : List AV) (lo hi st : Option Int) : (pickA xs lo hi st).length ≤ xs.length := by
  have h : All₂ (fun _ _ => True) xs (xs.map fun _ => Value.none) := All₂.of_map (fun _ => trivial) xs
  have hs := slicePick_size_le (xs.map fun _ => Value.none).toArray lo hi st
  unfold Mine.pickA
  unfold slicePick at hs
  simp only [List.size_toArray, List.length_map] at hs
  refine Nat.le_trans (Nat.le_of_eq ?_) hs
  generalize sliceRange (sliceBounds lo hi st xs.length).1 (sliceBounds lo hi st xs.length).2.1 (sliceBounds lo hi st xs.length).2.2 = idx
  induction idx with
  | nil => rfl
  | cons i r ih =>
    simp only [List.filterMap_cons]
    cases hx : xs[i]? with
    | none => simp [hx]; simpa using ih
    | some v => simp [hx]; simpa using ih

theorem wsl_list (O : Ok K c n) {value slice : Expr} {a : Addr} {xs : List AV} {lo hi st : Option Int} (hH : LA c σ a xs) (h0 : st ≠ some 0) (h : ∀ b, σ.H b = none → P (.ref b) (σ.put b (.list (pickA xs lo hi st))))
    (hs : ∀ o i, ∃ ops, subscripted slice false o i = operate ops (getItem o i)) : WSl c value slice (.ref a) lo hi st P σ := by
  intro uo ul uu us h₀ s ho pl pu ps hb C
  cases ho
  obtain ⟨items, hl, hr, hle⟩ := hH h₀ s hb C
  have C1 : Conc c h₀ σ { s with heap := s.heap.push (sliceObj ul uu us) } := C.grow s.toks fun b o e => Heap.get?_push_of_some _ e
  obtain ⟨ops, hops⟩ := hs (.ref a) (.ref s.heap.objs.size)
  have hlen := hr.length
  refine tail_any (hl.push _).typeIs slot_list_getitem.lookup (wpAny_getItem_list_slice (hl.push _) (Heap.IsSliceOf.new s.heap ul uu us) pl pu ps h0 ?_ (by rw [sizeLine_eq]; simp; omega)) hops
  have hor : OR c.prog c.w (.list (pickA xs lo hi st)) { cls := .type "list", data := .seq (slicePick items.toArray lo hi st) } := by
    have := OR.list (prog := c.prog) (w := c.w) (n := 0) (hr.pickA lo hi st) (Nat.le_trans (pickA_length_le _ _ _ _) hle)
    simpa using this
  exact ⟨_, _, .ref _, C1.new hor rfl (O.low hb C1) s.toks, h _ C1.fresh⟩

theorem wsl_str {value slice : Expr} {x : Str} {lo hi : Option Int} (hx : x.length ≤ 100000) (h : P (.str (Txt.slice x lo hi)) σ)
    (hs : ∀ o i, ∃ ops, subscripted slice false o i = operate ops (getItem o i)) : WSl c value slice (.str x) lo hi none P σ := by
  intro uo ul uu us h₀ s ho pl pu ps hb C
  cases ho with
  | str _ t =>
  cases ps
  obtain ⟨ops, hops⟩ := hs (.str x t) (.ref s.heap.objs.size)
  have part : ∀ {v : Value} {k : Option Int}, IsPart v k → ∃ p : Option (Int × Tok), v = partValue p ∧ p.map (·.1) = k := fun h => by
    cases h with
    | none => exact ⟨none, rfl, rfl⟩
    | int i t => exact ⟨some (i, t), rfl, rfl⟩
  obtain ⟨p, rfl, rfl⟩ := part pl
  obtain ⟨q, rfl, rfl⟩ := part pu
  have C1 : Conc c h₀ σ { s with heap := s.heap.push (sliceObj (partValue p) (partValue q) .none) } := C.grow s.toks fun b o e => Heap.get?_push_of_some _ e
  refine tail_any (typeIs_str _ _ _) F.slot_str_getitem.lookup (wpAny_getItem_str_slice (l := p) (u := q) (st := none) ⟨_, Heap.get?_push_size _ rfl, rfl, rfl⟩ rfl ?_) hops
  refine post_val_or_str ⟨Nat.le_trans (Txt.slice_le x _ _) (by rw [sizeLine_eq]; omega), fun t' k => ⟨_, σ, .str _ _, C1.toks k, h⟩⟩

/-! ### displays -/
theorem we_List (O : Ok K c n) {elts : List Expr} {pos : Pos} (h : WL c (spliced (backTo pos (starEach elts c.env))) (fun vs σ1 => vs.length ≤ 100000 ∧ ∀ a, σ1.H a = none → P (.ref a) (σ1.put a (.list vs))) σ) : WE c (eval (.List elts pos) c.env) P σ := by
  intro h₀ s hb C
  refine List_ (wpAny_mono (h h₀ s hb C) (fun us s₁ ⟨vs, σ1, hr, C₁, hle, hp⟩ => ?_) fun _ _ x => x)
  have hlen := hr.length
  refine wpAny_newObj_type ⟨_, _, .ref _, C₁.new (.list (n := 0) hr hle) rfl (O.low hb C₁) s₁.toks, hp _ C₁.fresh⟩ (by show us.toArray.size ≤ sizeLine; rw [List.size_toArray, sizeLine_eq]; omega)
theorem emptyDict {Kt : Type} [DecidableEq Kt] {prog : Program} {w : World} (knd : KeyKind prog w Kt) : ({ cls := .type "dict", data := .dict #[] } : Obj).IsDictOf knd [] := by
  obtain ⟨o, ho, hd⟩ := Heap.dictOf_iff.mp (Heap.DictOf.new (knd := knd) ({} : Heap))
  rw [Heap.get?_push_size _ rfl] at ho
  cases ho; exact hd
theorem we_Dict0 (O : Ok K c n) {pos : Pos} (h : ∀ a, σ.H a = none → P (.ref a) (σ.put a (.idict []))) : WE c (eval (.Dict [] [] pos) c.env) P σ := by
  intro h₀ s hb C
  rw [eval_Dict_empty]
  refine wpAny_bind (wpAny_standAt ?_)
  have hor : OR c.prog c.w (.idict []) { cls := .type "dict", data := .dict #[] } := .idict .nil (emptyDict _) (Nat.zero_le _)
  exact wpAny_newObj_type ⟨_, _, .ref _, C.new hor rfl (O.low hb C) s.toks, h _ C.fresh⟩

noncomputable abbrev WPairs (c : Cx) (keys : List (Option Expr)) (values : List Expr) (pos : Pos) (P : List (AV × AV) → St → Prop) (σ : St) : Prop :=
  WG c (All₂ fun (p : AV × AV) (q : Value × Value) => VR p.1 q.1 ∧ VR p.2 q.2) (evalPairs (pairTrees keys values c.env pos)) P σ
theorem wps_nil {pos : Pos} {Q : List (AV × AV) → St → Prop} (h : Q [] σ) : WPairs c [] [] pos Q σ := fun _ _ _ C => pairTrees_nil_walk ⟨_, _, .nil, C, h⟩
theorem wps_cons {k v : Expr} {ks : List (Option Expr)} {vs : List Expr} {pos : Pos} {Q : List (AV × AV) → St → Prop}
    (h : WE c (eval k c.env) (fun ka => WE c (eval v c.env) (fun va => WPairs c ks vs pos (fun r => Q ((ka, va) :: r)))) σ) : WPairs c (some k :: ks) (v :: vs) pos Q σ :=
  fun h₀ s hb C => pairTrees_cons_walk (wpAny_mono (h h₀ s hb C) (fun ku s₁ ⟨ka, σ1, h1, C₁, h2⟩ => wpAny_mono (h2 h₀ s₁ hb C₁) (fun vu s₂ ⟨va, σ2, h3, C₂, h4⟩ => wpAny_mono (h4 h₀ s₂ hb C₂) (fun r s₃ ⟨ra, σ3, h5, C₃, h6⟩ => ⟨_, σ3, .cons ⟨h1, h3⟩ h5, C₃, h6⟩) fun _ _ x => x) fun _ _ x => x) fun _ _ x => x)

theorem carries_of {Kt : Type} [DecidableEq Kt] {knd : KeyKind c.prog c.w Kt} (mk : Kt → AV) (hk : ∀ k u, VR (mk k) u → knd.is k u = true) : ∀ (kvs : List (Kt × AV)) {qs : List (Value × Value)},
    All₂ (fun (p : AV × AV) (q : Value × Value) => VR p.1 q.1 ∧ VR p.2 q.2) (kvs.map fun p => (mk p.1, p.2)) qs → ∃ cvs, Carries knd qs cvs ∧ All₂ KV kvs cvs
  | [], _, .nil => ⟨[], trivial, .nil⟩
  | (k, v) :: r, (ku, vu) :: qs, .cons h hs => by
    obtain ⟨cvs, h1, h2⟩ := carries_of mk hk r hs
    exact ⟨(k, vu) :: cvs, ⟨hk k ku h.1, rfl, h1⟩, .cons ⟨rfl, h.2⟩ h2⟩
theorem All₂.keys {Kt : Type} : ∀ {as : List (Kt × AV)} {bs : List (Kt × Value)}, All₂ KV as bs → as.map (·.1) = bs.map (·.1)
  | _, _, .nil => rfl
  | _, _, .cons h hs => by rw [List.map_cons, List.map_cons, h.1, hs.keys]

theorem we_DictS (O : Ok K c n) {keys : List (Option Expr)} {values : List Expr} {pos : Pos} (hall : keys.all (·.isSome) = true) (hl : keys.length = values.length) (hne : keys ≠ []) (hle : keys.length ≤ 15)
    (h : WPairs c keys values pos (fun ps σ1 => ∃ kvs : List (Str × AV), ps = kvs.map (fun p => (.str p.1, p.2)) ∧ kvs.length ≤ 100000 ∧ (kvs.map (·.1)).Nodup ∧ ∀ a, σ1.H a = none → P (.ref a) (σ1.put a (.sdict kvs))) σ) :
    WE c (eval (.Dict keys values pos) c.env) P σ := by
  intro h₀ s hb C
  refine wpAny_Dict_walk (knd := strKind c.prog c.w) hall hl hne hle ?_
  have C1 : Conc c h₀ σ { s with heap := s.heap.push { cls := .type "dict", data := .dict #[] } } := C.grow s.toks fun b o e => Heap.get?_push_of_some _ e
  have X : Junk c h₀ σ s.heap.objs.size := C.junk (Nat.le_refl _)
  have hlow : s.heap.objs.size ≠ sysModules := Nat.ne_of_gt (O.low hb C)
  obtain ⟨up, C2⟩ := C1.hold
  have hd2 := hideP_get (p := c.mine σ) (Heap.get?_push_size s.heap (o := { cls := .type "dict", data := .dict #[] }) rfl) X.notMine
  generalize s.heap.objs.size = D at *
  refine wpAny_mono (h _ _ (fun b o e => up b o (hb b o e)) C2) (fun qs s₁ ⟨ps, σ1, hr, C3, kvs, e, hle', hnd, hp⟩ => ?_) fun _ _ x => x
  subst e
  obtain ⟨cvs, hc, hkv⟩ := carries_of (knd := strKind c.prog c.w) AV.str (fun k u hu => by cases hu; exact strKind_is _ _ _ _) kvs hr
  have hg1 := C3.keep _ _ hd2
  have X1 := X.after C3 hd2
  refine ⟨cvs, hc, Heap.dictOf_iff.mpr ⟨_, hg1, emptyDict _⟩, fun h' hm hs' => ?_⟩
  rw [merged_nil_of_nodup _ (by rw [← hkv.keys]; exact hnd)] at hm
  obtain ⟨o, ho, hd⟩ := Heap.dictOf_iff.mp hm
  have C4 := (C3.weaken up).turn X1 (s₁.toks + qs.length) fun b o hb e => hs'.extBut b o hb e
  exact ⟨_, _, .ref _, C4.adopt X1 ho (.sdict hkv hd hle') hlow, hp _ X1.heap⟩

theorem we_DictI (O : Ok K c n) {keys : List (Option Expr)} {values : List Expr} {pos : Pos} (hall : keys.all (·.isSome) = true) (hl : keys.length = values.length) (hne : keys ≠ []) (hle : keys.length ≤ 15)
    (h : WPairs c keys values pos (fun ps σ1 => ∃ kvs : List (Int × AV), ps = kvs.map (fun p => (.int p.1, p.2)) ∧ kvs.length ≤ 100000 ∧ (kvs.map (·.1)).Nodup ∧ ∀ a, σ1.H a = none → P (.ref a) (σ1.put a (.idict kvs))) σ) :
    WE c (eval (.Dict keys values pos) c.env) P σ := by
  intro h₀ s hb C
  refine wpAny_Dict_walk (knd := intKind c.prog c.w) hall hl hne hle ?_
  have C1 : Conc c h₀ σ { s with heap := s.heap.push { cls := .type "dict", data := .dict #[] } } := C.grow s.toks fun b o e => Heap.get?_push_of_some _ e
  have X : Junk c h₀ σ s.heap.objs.size := C.junk (Nat.le_refl _)
  have hlow : s.heap.objs.size ≠ sysModules := Nat.ne_of_gt (O.low hb C)
  obtain ⟨up, C2⟩ := C1.hold
  have hd2 := hideP_get (p := c.mine σ) (Heap.get?_push_size s.heap (o := { cls := .type "dict", data := .dict #[] }) rfl) X.notMine
  generalize s.heap.objs.size = D at *
  refine wpAny_mono (h _ _ (fun b o e => up b o (hb b o e)) C2) (fun qs s₁ ⟨ps, σ1, hr, C3, kvs, e, hle', hnd, hp⟩ => ?_) fun _ _ x => x
  subst e
  obtain ⟨cvs, hc, hkv⟩ := carries_of (knd := intKind c.prog c.w) AV.int (fun k u hu => by cases hu; exact intKind_is _ _ _ _) kvs hr
  have hg1 := C3.keep _ _ hd2
  have X1 := X.after C3 hd2
  refine ⟨cvs, hc, Heap.dictOf_iff.mpr ⟨_, hg1, emptyDict _⟩, fun h' hm hs' => ?_⟩
  rw [merged_nil_of_nodup _ (by rw [← hkv.keys]; exact hnd)] at hm
  obtain ⟨o, ho, hd⟩ := Heap.dictOf_iff.mp hm
  have C4 := (C3.weaken up).turn X1 (s₁.toks + qs.length) fun b o hb e => hs'.extBut b o hb e
  exact ⟨_, _, .ref _, C4.adopt X1 ho (.idict hkv hd hle') hlow, hp _ X1.heap⟩
end

/-! Core11 -/
theorem strsOf : ∀ {ys : List Str} {items : List Value}, All₂ VR (ys.map AV.str) items → StrsAre items ys
  | [], _, .nil => .nil
  | y :: ys, u :: us, .cons h hs => by cases h; exact .cons y _ (strsOf hs)
theorem intsOf : ∀ {ys : List Int} {items : List Value}, All₂ VR (ys.map AV.int) items → IntsAre items ys
  | [], _, .nil => .nil
  | y :: ys, u :: us, .cons h hs => by cases h; exact .cons y _ (intsOf hs)
theorem ofStrs : ∀ (l : List (Str × Tok)), All₂ VR ((l.map (·.1)).map AV.str) (strValues l)
  | [] => .nil
  | (x, t) :: r => .cons (.str x t) (ofStrs r)
theorem ofInts : ∀ {vs : List Value} {ns : List Int}, IntsAre vs ns → All₂ VR (ns.map AV.int) vs
  | _, _, .nil => .nil
  | _, _, .cons n t h => .cons (.int n t) (ofInts h)
theorem strValues_of : ∀ {ys : List Str} {items : List Value}, All₂ VR (ys.map AV.str) items → ∃ l : List (Str × Tok), items = strValues l ∧ l.map (·.1) = ys
  | [], _, .nil => ⟨[], rfl, rfl⟩
  | y :: ys, u :: us, .cons h hs => by
    cases h with
    | str _ t =>
    obtain ⟨l, h1, h2⟩ := strValues_of hs
    exact ⟨(y, t) :: l, by rw [h1]; rfl, by rw [List.map_cons, h2]⟩

section
variable {K : Frag} {n : Nat} {c : Cx} {σ : St} {P : AV → St → Prop} {PB : Bool → St → Prop} {h₀ : Heap} {s : Shared}

/-! ### built-in functions (the arguments as they stand) -/
theorem wk_len_list {a : Addr} {xs : List AV} {us : List Value} (hus : All₂ VR [.ref a] us) (hH : LA c σ a xs) (h : P (.int xs.length) σ) : WE c (call (.builtin "len") us) P σ := by
  cases hus with
  | cons h1 h2 =>
  cases h1; cases h2
  intro h₀ s hb C
  obtain ⟨items, hl, hr, hle⟩ := hH h₀ s hb C
  have hlen := hr.length
  refine call_len_list hl (by simp; omega) ⟨_, σ, .int _ _, C.toks _, ?_⟩
  simpa [← hlen] using h
theorem wk_len_str {x : Str} {us : List Value} (hus : All₂ VR [.str x] us) (hx : x.length ≤ 100000) (h : P (.int x.length) σ) : WE c (call (.builtin "len") us) P σ := by
  cases hus with
  | cons h1 h2 =>
  cases h1; cases h2
  exact fun h₀ s hb C => PyProof.Rows.len_str (by omega) ⟨_, σ, .int _ _, C.toks _, h⟩
theorem wk_sum (O : Ok K c n) {a : Addr} {ns : List Int} {us : List Value} (hus : All₂ VR [.ref a] us) (hH : LA c σ a (ns.map .int)) (h : P (.int ns.sum) σ) : WE c (call (.builtin "sum") us) P σ := by
  cases hus with
  | cons h1 h2 =>
  cases h1; cases h2
  intro h₀ s hb C
  obtain ⟨items, hl, hr, hle⟩ := hH h₀ s hb C
  have hi := intsOf hr
  obtain ⟨xs, hx⟩ := hi.allInts.items
  have hn : numsOf items.toArray.toList = ns := by rw [show items.toArray.toList = items from rfl, hi.numsOf]
  rw [hx] at hl hn
  rw [nums_intItems] at hn
  refine sum_intListG O.handled hl fun h' tk t' hk => ⟨_, σ, .int _ _, C.grow tk hk, ?_⟩
  rw [preSum_eq, List.take_of_length_le (by simp), hn]
  exact h
theorem wk_range1 (O : Ok K c n) {i : Int} {us : List Value} (hus : All₂ VR [.int i] us) (h : ∀ r, σ.H r = none → P (.ref r) (σ.put r (.range 0 i 1))) : WE c (call (.type "range") us) P σ := by
  cases hus with
  | cons h1 h2 =>
  cases h1; cases h2
  exact fun h₀ s hb C => call_range_1 ⟨_, _, .ref _, C.new .range rfl (O.low hb C) _, h _ C.fresh⟩
theorem wk_range2 (O : Ok K c n) {i j : Int} {us : List Value} (hus : All₂ VR [.int i, .int j] us) (h : ∀ r, σ.H r = none → P (.ref r) (σ.put r (.range i j 1))) : WE c (call (.type "range") us) P σ := by
  cases hus with
  | cons h1 h2 =>
  cases h2 with
  | cons h2 h3 =>
  cases h1; cases h2; cases h3
  exact fun h₀ s hb C => call_range_2 ⟨_, _, .ref _, C.new .range rfl (O.low hb C) _, h _ C.fresh⟩
theorem wk_range3 (O : Ok K c n) {i j k : Int} {us : List Value} (hus : All₂ VR [.int i, .int j, .int k] us) (hk : k ≠ 0) (hk' : k.natAbs < 1073741824) (h : ∀ r, σ.H r = none → P (.ref r) (σ.put r (.range i j k))) : WE c (call (.type "range") us) P σ := by
  cases hus with
  | cons h1 h2 =>
  cases h2 with
  | cons h2 h3 =>
  cases h3 with
  | cons h3 h4 =>
  cases h1; cases h2; cases h3; cases h4
  exact fun h₀ s hb C => call_range_3 hk ⟨_, _, .ref _, C.new .range rfl (O.low hb C) _, h _ C.fresh⟩ (.inl (PyProof.noPylong_small hk'))
theorem wk_list (O : Ok K c n) {a : Addr} {xs : List AV} {us : List Value} (hus : All₂ VR [.ref a] us) (hH : LA c σ a xs) (h : ∀ b, σ.H b = none → P (.ref b) (σ.put b (.list xs))) : WE c (call (.type "list") us) P σ := by
  cases hus with
  | cons h1 h2 =>
  cases h1; cases h2
  intro h₀ s hb C
  obtain ⟨items, hl, hr, hle⟩ := hH h₀ s hb C
  have hlen := hr.length
  obtain ⟨o, ho, hc, k, hd⟩ := hl
  refine call_list_seq (hsz := by rw [sizeLine_eq]; simp; omega) a (.inl rfl) ho hc hd fun h' c' hk hD => ?_
  have C1 := C.grow s.toks hk
  exact ⟨_, _, .ref _, C1.adopt (C.junk (Nat.le_refl _)) hD (.list hr hle) (Nat.ne_of_gt (O.low hb C)), h _ C.fresh⟩

/-! ### methods -/
theorem wm_append {a : Addr} {xs : List AV} {v : AV} {u : Value} {us : List Value} (hu : VR (.ref a) u) (hus : All₂ VR [v] us) (hH : σ.H a = some (.list xs)) (hle : xs.length < 100000) (h : P .none (σ.put a (.list (xs ++ [v])))) :
    WE c (call (.builtin "list.append") (u :: us)) P σ := by
  cases hu
  cases hus with
  | cons h1 h2 =>
  cases h2
  intro h₀ s hb C
  obtain ⟨items, k, hg, hr, _⟩ := C.list hH
  have hlen := hr.length
  refine wpAny_list_append_plain (hsz := by rw [sizeLine_eq]; simp; omega) ⟨k, hg⟩ fun h' ⟨k', hg'⟩ hs => ?_
  refine ⟨.none, _, .none, C.write hH s.toks hs hg' ?_, h⟩
  have := OR.list (prog := c.prog) (w := c.w) (n := k') (hr.append (.cons h1 .nil)) (by simp; omega)
  simpa using this
theorem wm_index {a : Addr} {ys : List Str} {y : Str} {j : Nat} {u : Value} {us : List Value} (hu : VR (.ref a) u) (hus : All₂ VR [.str y] us) (hH : σ.H a = some (.list (ys.map .str))) (hj : ys[j]? = some y) (hno : ∀ m, m < j → ys[m]? ≠ some y)
    (h : P (.int j) σ) : WE c (call (.builtin "list.index") (u :: us)) P σ := by
  cases hu
  cases hus with
  | cons h1 h2 =>
  cases h2
  cases h1 with
  | str _ t =>
  intro h₀ s hb C
  obtain ⟨items, k, hg, hr, hle⟩ := C.list hH
  have hlen := hr.length
  have hlt : j < ys.length := (List.getElem?_eq_some_iff.mp hj).1
  simp only [List.length_map] at hlen hle
  have he := eq_isStrOf y t (strsOf hr)
  have at_ : ∀ m (hm : m < items.toArray.size), isStrOf y items.toArray[m] = decide (ys[m]? = some y) := fun m hm => by
    have hm' : m < ys.length := by simpa [hlen] using hm
    obtain ⟨u, h1, h2⟩ := hr.get (i := m) (a := .str ys[m]) (by simp [hm'])
    have : items.toArray[m] = u := by
      have := (List.getElem?_eq_some_iff.mp h1).2
      simpa using this
    rw [this]
    cases h2
    have e : ys[m]? = some ys[m] := by simp [hm']
    rw [e]
    simp only [isStrOf, Option.some.injEq]
    exact Bool.beq_eq_decide_eq _ _
  refine call_meets F.slot_list_index ⟨_, hg, rfl⟩ F.entry_list_index (F.args_list_index_2 _ _) (MeetsSeq.list_index a items.toArray k _ (isStrOf y) (fun z hz => he z (by simpa using hz)) j (by simp; omega) (by omega) ?_ ?_) ⟨hg, ⟨_, σ, .int _ _, C.toks _, h⟩⟩
  · rw [at_ j (by simp; omega), hj]; simp
  · intro m hm hmj
    rw [at_ m hm]
    simpa using hno m hmj
theorem wm_get {a : Addr} {kvs : List (Int × AV)} {k : Int} {d : AV} {u : Value} {us : List Value} (hu : VR (.ref a) u) (hus : All₂ VR [.int k, d] us) (hH : σ.H a = some (.idict kvs)) (h : P ((lookA kvs k).getD d) σ) :
    WE c (call (.builtin "dict.get") (u :: us)) P σ := by
  cases hu
  cases hus with
  | cons h1 h2 =>
  cases h2 with
  | @cons _ dv _ _ h2 h3 =>
  cases h3
  cases h1 with
  | int _ t =>
  intro h₀ s hb C
  obtain ⟨cvs, hd, hr, _, lo⟩ := C.idict hH
  have hv : VR ((lookA kvs k).getD d) ((valueAt cvs k).getD dv) := by
    rcases hr.look k with ⟨h1, h2'⟩ | ⟨v, u, h1, h2', h3⟩
    · rw [h1, h2']; exact h2
    · rw [h1, h2']; exact h3
  exact call_meetsIn PySem.F.slot_dict_get hd.typeIs PySem.F.entry_dict_get (PySem.F.args_dict_get_3 _ _ _) (meets_dict_get_default (intKind c.prog c.w) a (intKind_is c.prog c.w k t) lo _) ⟨_, hd.mapOf, ⟨_, σ, hv, C.toks _, h⟩⟩
theorem wm_startswith {x y : Str} {u : Value} {us : List Value} (hu : VR (.str x) u) (hus : All₂ VR [.str y] us) (h : P (.bool (Txt.startswith x y)) σ) : WE c (call (.builtin "str.startswith") (u :: us)) P σ := by
  cases hu
  cases hus with
  | cons h1 h2 =>
  cases h2; cases h1
  exact fun h₀ s hb C => SC.startswith ⟨_, σ, .bool _, C, h⟩
theorem wm_endswith {x y : Str} {u : Value} {us : List Value} (hu : VR (.str x) u) (hus : All₂ VR [.str y] us) (h : P (.bool (Txt.endswith x y)) σ) : WE c (call (.builtin "str.endswith") (u :: us)) P σ := by
  cases hu
  cases hus with
  | cons h1 h2 =>
  cases h2; cases h1
  exact fun h₀ s hb C => SC.endswith ⟨_, σ, .bool _, C, h⟩

open Builtin Builtin.Str in
noncomputable def find4 (x y : Str) (i j : Int) : Int := match occurrences x y (fromIndex x.length i) (min (max 0 (if j < 0 then j + x.length else j)).toNat x.length) 1 with | k :: _ => (k : Int) | [] => -1
open Builtin Builtin.Str in
theorem gives_find4 (x y : Str) (i j : Int) (t u v w : Tok) : Gives («str.find» ⟨[.str x t, .str y u, .int i v, .int j w], []⟩) (.int (find4 x y i j)) := by
  unfold find4
  show Gives (match occurrences x y (fromIndex x.length i) (min (max 0 (if j < 0 then j + x.length else j)).toNat x.length) 1 with | k :: _ => retInt k | [] => (do rule "str.find.not-found"; retInt (-1))) _
  cases occurrences x y (fromIndex x.length i) (min (max 0 (if j < 0 then j + x.length else j)).toNat x.length) 1 with
  | nil => exact .rule (.of_eq rfl)
  | cons k _ => exact .of_eq rfl
theorem wm_find {x y : Str} {i j : Int} {u : Value} {us : List Value} (hu : VR (.str x) u) (hus : All₂ VR [.str y, .int i, .int j] us) (h : P (.int (find4 x y i j)) σ) : WE c (call (.builtin "str.find") (u :: us)) P σ := by
  cases hu
  cases hus with
  | cons h1 h2 =>
  cases h2 with
  | cons h2 h3 =>
  cases h3 with
  | cons h3 h4 =>
  cases h1; cases h2; cases h3; cases h4
  exact fun h₀ s hb C => call_gives F.slot_str_find (typeIs_str _ _ _) F.entry_str_find (F.args_str_find_4 _ _ _ _) (gives_find4 x y i j _ _ _ _) ⟨_, σ, .int _ _, C.toks _, h⟩

theorem wm_join {x : Str} {a : Addr} {ys : List Str} {u : Value} {us : List Value} (hu : VR (.str x) u) (hus : All₂ VR [.ref a] us) (hH : σ.H a = some (.list (ys.map .str))) (hok : JoinOk x ys = true) (h : P (.str (Txt.join x ys)) σ) :
    WE c (call (.builtin "str.join") (u :: us)) P σ := by
  cases hu
  cases hus with
  | cons h1 h2 =>
  cases h2; cases h1
  intro h₀ s hb C
  obtain ⟨items, hl, hr, hle⟩ := C.isList hH
  obtain ⟨l, rfl, hl2⟩ := strValues_of hr
  exact SC.join hl hl2 hok fun t' k => ⟨_, σ, .str _ _, C.toks k, h⟩

open Builtin Builtin.Str in
theorem wm_split (O : Ok K c n) {x y : Str} {u : Value} {us : List Value} (hu : VR (.str x) u) (hus : All₂ VR [.str y] us) (hy : (y.length == 0) = false) (hx : x.length ≤ 50000)
    (h : ∀ a, σ.H a = none → P (.ref a) (σ.put a (.list ((Txt.split x y).map .str)))) : WE c (call (.builtin "str.split") (u :: us)) P σ := by
  cases hu with
  | str _ t =>
  cases hus with
  | cons h1 h2 =>
  cases h2
  cases h1 with
  | str _ tu =>
  intro h₀ s hb C
  have hnp : (partsBetween x (occurrences x y 0 x.length (x.length + 1)) y.length).length ≤ x.length + 2 := by
    have h1 := StrLaws.occ_length_le x y 0 x.length (x.length + 1)
    unfold partsBetween
    simp only [List.length_map, List.length_zip, List.length_cons, List.length_append, List.length_nil]
    omega
  have new : ∀ (l : List (Str × Tok)) (k : Nat), l.map (·.1) = Txt.split x y → l.length ≤ 100000 → ∃ av σ', VR av (.ref s.heap.objs.size) ∧ Conc c h₀ σ' { s with heap := s.heap.push { cls := .type "list", data := .seq (strValues l).toArray }, toks := k } ∧ P av σ' := fun l k hl hle => by
    have hor : OR c.prog c.w (.list ((Txt.split x y).map .str)) { cls := .type "list", data := .seq (strValues l).toArray } := by
      rw [← hl]; exact .list (ofStrs l) (by simpa using hle)
    exact ⟨_, _, .ref _, C.new hor rfl (O.low hb C) k, h _ C.fresh⟩
  have hsz : x.length ≤ sizeLine := by rw [sizeLine_eq]; omega
  have hsz2 : (partsBetween x (occurrences x y 0 x.length (x.length + 1)) y.length).length ≤ sizeLine := by rw [sizeLine_eq]; omega
  cases h1 : (decide (x.length < y.length) || decide (strKind x < strKind y))
  · cases hf : (occurrences x y 0 x.length (x.length + 1)).isEmpty
    · refine call_meets F.slot_str_split (typeIs_str _ _ _) F.entry_str_split (F.args_str_split_2 _ _) (meets_str_split_sep x y t tu h1 hy hf hsz hsz2) ?_
      have := new (numbered s.toks (partsBetween x (occurrences x y 0 x.length (x.length + 1)) y.length)) (s.toks + (partsBetween x (occurrences x y 0 x.length (x.length + 1)) y.length).length) ((numbered_texts _ _).trans ((if_neg (ne_true_of_eq_false h1)).trans (if_neg (ne_true_of_eq_false hf))).symm) (by
        have := congrArg List.length (numbered_texts s.toks (partsBetween x (occurrences x y 0 x.length (x.length + 1)) y.length))
        rw [List.length_map] at this; omega)
      rw [← strsFrom_eq] at this
      exact this
    · exact call_meets F.slot_str_split (typeIs_str _ _ _) F.entry_str_split (F.args_str_split_2 _ _) (meets_str_split_not_found x y t tu h1 hy hf) (new [(x, t)] s.toks ((if_neg (ne_true_of_eq_false h1)).trans (if_pos hf)).symm (by simp))
  · exact call_meets F.slot_str_split (typeIs_str _ _ _) F.entry_str_split (F.args_str_split_2 _ _) (meets_str_split_cannot_occur x y t tu h1) (new [(x, t)] s.toks (if_pos h1).symm (by simp))
end

/-! Core12 -/
section
variable {K : Frag} {n : Nat} {c : Cx} {σ : St} {P : AV → St → Prop} {PB : Bool → St → Prop} {h₀ : Heap} {s : Shared}

/-! ### statements, more -/
theorem wf_Try {body : List Stmt} {h₁ : ExceptHandler} {hs : List ExceptHandler} {pos : Pos} {P : AF → St → Prop}
    (h : WF c (execs body c.env) (fun f σ1 => P f σ1) σ) : WF c (exec (.Try body (h₁ :: hs) [] [] pos) c.env) P σ := by
  intro h₀ s hb C
  refine wpAny_Try_except (wpAny_mono (h h₀ s hb C) (fun f s₁ ⟨af, σ1, hf, C1, hp⟩ => ?_) fun _ _ x => x.elim)
  cases hf with
  | next => exact wpAny_execs_nil ⟨_, _, .next, C1, hp⟩
  | brk => exact ⟨_, _, .brk, C1, hp⟩
  | cont => exact ⟨_, _, .cont, C1, hp⟩
  | ret hv => exact ⟨_, _, .ret hv, C1, hp⟩

theorem wf_DelItem {o i : Expr} {p pos : Pos} {P : AF → St → Prop}
    (h : WE c (eval o c.env) (fun ov => WE c (eval i c.env) (fun iv σ1 => ∃ a xs k j, ov = .ref a ∧ iv = .int k ∧ σ1.H a = some (.list xs) ∧ Builtin.List.listFitsIndex k = true ∧ seqIndex? k xs.length = some j ∧ j < xs.length ∧ P .next (σ1.put a (.list (xs.eraseIdx j))))) σ) :
    WF c (exec (.Delete [.Subscript o i p] pos) c.env) P σ := by
  intro h₀ s hb C
  refine wpAny_Delete (wpAny_deleteEach_cons (wpAny_delete_Subscript (wpAny_mono (h h₀ s hb C) (fun u s₁ ⟨ov, σ1, hr, C1, h1⟩ => wpAny_mono (h1 h₀ s₁ hb C1) (fun v s₂ ⟨iv, σ2, hr2, C2, h2⟩ => ?_) fun _ _ x => x) fun _ _ x => x)))
  obtain ⟨a, xs, k, j, rfl, rfl, hH, hfit, hk, hj, hp⟩ := h2
  cases hr; cases hr2
  obtain ⟨items, m, hg, hx, hle⟩ := C2.list hH
  have hlen := hx.length
  refine wpAny_delItem_plain (k := j) (hsz := by rw [sizeLine_eq]; simp; omega) ⟨m, hg⟩ hfit (by simpa [← hlen] using hk) fun h' hgg hs => ?_
  obtain ⟨m', hg'⟩ := hgg
  refine wpAny_deleteEach_nil ⟨_, _, .next, C2.write hH s₂.toks hs hg' ?_, hp⟩
  have er : ∀ {as : List AV} {bs : List Value}, All₂ VR as bs → ∀ j, All₂ VR (as.eraseIdx j) (bs.eraseIdx j) := by
    intro as bs hh
    induction hh with
    | nil => intro j; exact .nil
    | cons h1 h2 ih => intro j; cases j with
      | zero => exact h2
      | succ j => exact .cons h1 (ih j)
  have e : items.toArray.eraseIdxIfInBounds j = (items.eraseIdx j).toArray := by
    rw [Array.eraseIdxIfInBounds_eq]
    rw [dif_pos (by simp; omega)]
    simp
  rw [e]
  exact .list (er hx j) (by rw [List.length_eraseIdx]; split <;> omega)

theorem wf_AssignSubI {o i value : Expr} {p pos : Pos} {P : AF → St → Prop}
    (h : WE c (eval value c.env) (fun v => WE c (eval o c.env) (fun ov => WE c (eval i c.env) (fun iv σ1 => ∃ a kvs k, ov = .ref a ∧ iv = .int k ∧ σ1.H a = some (.idict kvs) ∧ kvs.length < 100000 ∧ P .next (σ1.put a (.idict (storedA kvs k v)))))) σ)
    (hs : swapsWith value (some (.Subscript o i p)) pos.line c.env = pure false) : WF c (exec (.Assign [.Subscript o i p] value pos) c.env) P σ := by
  intro h₀ s hb C
  refine wpAny_Assign_Subscript (hs := hs) (wpAny_mono (h h₀ s hb C) (fun w s₁ ⟨v, σ1, hr, C1, h1⟩ => wpAny_mono (h1 h₀ s₁ hb C1) (fun u s₂ ⟨ov, σ2, hr2, C2, h2⟩ => wpAny_mono (h2 h₀ s₂ hb C2) (fun x s₃ ⟨iv, σ3, hr3, C3, h3⟩ => ?_) fun _ _ x => x) fun _ _ x => x) fun _ _ x => x)
  obtain ⟨a, kvs, k, rfl, rfl, hH, hle, hp⟩ := h3
  cases hr2
  cases hr3 with
  | int _ t =>
  obtain ⟨cvs, hd, hkv, _, _⟩ := C3.idict hH
  have hlen := hkv.length
  refine wpAny_setItem_pairs (hsz := by rw [sizeLine_eq]; omega) (intKind_is _ _ k t) hd fun h' hd' hs' => ?_
  obtain ⟨o', ho', hdo⟩ := Heap.dictOf_iff.mp hd'
  refine ⟨_, _, .next, C3.write hH _ hs' ho' (.idict (hkv.stored k hr) hdo ?_), hp⟩
  have := storedA_length_le kvs k v
  omega

/-- x, y = (e1, e2): the stores swapped -/
theorem wf_AssignTwo (O : Ok K c n) {x y : Str} {px py : Pos} {e1 e2 : Expr} {k1 k2 : Nat} {p1 p2 pos : Pos} {P : AF → St → Prop}
    (h : WE c (eval e1 c.env) (fun v1 => WE c (eval e2 c.env) (fun v2 σ1 => P .next ((σ1.set y v2).set x v1))) σ)
    (hx : c.env.kindOf x = some .local) (hy : c.env.kindOf y = some .local)
    (hs : swapsWithSole [.Tuple [.Name x px, .Name y py] k1 p1] (.Tuple [e1, e2] k2 p2) pos.line c.env = pure false)
    (hw : swappedStores [.Tuple [.Name x px, .Name y py] k1 p1] (.Tuple [e1, e2] k2 p2) c.env = pure (some [x, y]))
    (he1 : starEach (e1 :: [e2]) c.env = (false, eval e1 c.env) :: starEach [e2] c.env) (he2 : starEach (e2 :: []) c.env = (false, eval e2 c.env) :: starEach [] c.env) :
    WF c (exec (.Assign [.Tuple [.Name x px, .Name y py] k1 p1] (.Tuple [e1, e2] k2 p2) pos) c.env) P σ := by
  intro h₀ s hb C
  have hl : WL c (spliced (backTo p2 (starEach [e1, e2] c.env))) (fun vs σ1 => ∃ v1 v2, vs = [v1, v2] ∧ P .next ((σ1.set y v2).set x v1)) σ :=
    wl_cons (h.mono fun v1 σ1 h1 => wl_cons (h1.mono fun v2 σ2 h2 => wl_nil ⟨v1, v2, rfl, h2⟩) he2) he1
  refine Assign_Tuple_swapped (hs := hs) (hw := hw) (Tuple_ (wpAny_mono (hl h₀ s hb C) (fun us s₁ ⟨vs, σ1, hr, C1, v1, v2, e, hp⟩ => ?_) fun _ _ x => x))
  subst e
  obtain ⟨u1, u2, rfl, r1, r2⟩ : ∃ u1 u2, us = [u1, u2] ∧ VR v1 u1 ∧ VR v2 u2 := by
    cases hr with
    | cons r1 hr =>
    cases hr with
    | cons r2 hr =>
    cases hr
    exact ⟨_, _, rfl, r1, r2⟩
  refine wpAny_newObj_type ?_ (by show 2 ≤ sizeLine; rw [sizeLine_eq]; decide)
  have C2 : Conc c h₀ σ1 { s₁ with heap := s₁.heap.push { cls := .type "tuple", data := .seq [u1, u2].toArray } } := C1.grow s₁.toks fun b o e => Heap.get?_push_of_some _ e
  refine unpackItems_tuple (items := [u1, u2].toArray) O.handled ⟨_, Heap.get?_push_size _ rfl, rfl, _, rfl⟩ fun h' he' => ?_
  have X := C2.junk (Nat.le_refl _)
  have C3 := C2.turn X s₁.toks fun b o hb e => he' b o hb e
  show wpAny _ c.A (do holding [u1] (bindName c.env y u2); assignInOrder [fun v => bindName c.env x v] [u1]) _ _ _
  refine wpAny_bind (wpAny_holding (wpAny_mono (wu_bindName O r2 (P := fun σ2 => σ2 = σ1.set y v2) rfl (by rw [hy]; rfl) h₀ _ hb C3) (fun _ s₂ ⟨_, σ2, _, C4, e⟩ => ?_) fun _ _ x => x))
  subst e
  show wpAny _ c.A (do holding [] (bindName c.env x u1); pure ()) _ _ _
  refine wpAny_bind (wpAny_holding (wpAny_mono (wu_bindName O r1 (P := fun σ2 => σ2 = (σ1.set y v2).set x v1) rfl (by rw [hx]; rfl) h₀ _ hb C4) (fun _ s₃ ⟨_, σ3, _, C5, e⟩ => wpAny_pure ?_) fun _ _ x => x))
  subst e
  exact ⟨_, _, .next, C5, hp⟩

/-! ### one replacing statement of an escape -/
theorem wf_esc (O : Ok K c n) {x : Str} {y y' z text : Str} {k1 k2 k3 : Nat} {p1 p2 p3 p4 p5 p6 p7 p8 p9 p10 : Pos} {P : AF → St → Prop}
    (hv : σ.loc text = some (.str x)) (hx : x.length ≤ 1000) (hz : z.length ≤ 14) (hyz : (y' == z) = false)
    (h : P .next (if Txt.contains x y then σ.set text (.str (Txt.replace x y' z)) else σ))
    (hkl : c.env.kindOf text = some .local) (hd : (text == ("__debug__" : Str)) = false)
    (hs : swapsWith (.Call (.Attribute (.Name text p5) (Str.ofString "replace") p6) [.Constant (.str y') k2 p7, .Constant (.str z) k3 p8] [] p9) (some (.Name text p4)) p10.line c.env = pure false)
    (hbase : attributeBase (.Name text p5) (Str.ofString "replace") c.env (eval (.Name text p5) c.env) = eval (.Name text p5) c.env)
    (hfew : ((backTo p9 (starEach [.Constant (.str y') k2 p7, .Constant (.str z) k3 p8] c.env)).all (fun x => !x.1) && (backToKw p9 (keywordEach [] c.env)).all (fun x => x.1.isSome)
      && decide (([.Constant (.str y') k2 p7, .Constant (.str z) k3 p8] : List Expr).length + ([] : List Keyword).length + (if ([] : List Keyword).isEmpty then 0 else 1) < 30)) = true)
    (hline : (p6.endLine == p9.line) = true) {p11 : Pos} :
    WF c (exec (.If (.Compare (.Constant (.str y) k1 p1) [.In] [.Name text p2] p3) [.Assign [.Name text p4] (.Call (.Attribute (.Name text p5) (Str.ofString "replace") p6) [.Constant (.str y') k2 p7, .Constant (.str z) k3 p8] [] p9) p10] [] p11) c.env) P σ := by
  intro h₀ s hb C
  rw [exec_If, isTrue_Compare1, markedBehindIn_of_false rfl]
  refine wpAny_bind (wpAny_standAt (wpAny_bind (wpAny_bind (wpAny_Constant_str ?_))))
  have C1 := C.toks (s.toks + 1)
  obtain ⟨m, hn, hm⟩ := C1.ns
  obtain ⟨u, hu, hr⟩ := hm text _ hkl hv
  cases hr with
  | str _ t =>
  refine wpAny_bind (wpAny_holding (wpAny_Name (hd := hd) (wpAny_loadName_local O.kind hkl hn hu ?_)))
  refine wpAny_bind (wpAny_standAt (wpAny_bind (wpAny_operateT (SB.contains (wpAny_holding (wpAny_truthy_bool ?_))))))
  cases hc : Txt.contains x y with
  | false =>
    rw [hc] at h
    simp only [Bool.false_eq_true, if_false] at h ⊢
    exact wpAny_execs_nil ⟨_, _, .next, C1, h⟩
  | true =>
    rw [hc] at h
    simp only [if_true] at h ⊢
    rw [execs_cons, exec_Assign_Name _ _ _ _ _ hs]
    refine wpAny_bind (wpAny_bind (wpAny_standAt (wpAny_bind ?_)))
    refine wpAny_Call_method_late (trees := backTo p9 (starEach [.Constant (.str y') k2 p7, .Constant (.str z) k3 p8] c.env)) hbase hfew hline rfl (wpAny_Name (hd := hd) (wpAny_loadName_local O.kind hkl hn hu ?_))
    refine ⟨"str", "str.replace", PySem.F.plainAttrs_str, PySem.F.slot_str_replace, PySem.F.type_str_replace, typeIs_str _ _ _, (fun a e => nomatch e), ?_⟩
    refine callWith_builtin (first := [.str x t]) rfl (evalArgs_plain (spliced_cons (wpAny_Constant_str (pos := p7) (k := k2) (spliced_cons (wpAny_Constant_str (pos := p8) (k := k3) (spliced_nil ?_))))))
    refine SC.replace (by show s.toks + 1 ≠ 0; omega) (by show s.toks + 1 + 1 ≠ 0; omega) (by show s.toks + 1 ≠ s.toks + 1 + 1; omega) hyz ?_ (fun t' k => ?_)
    · have h1 : (x.length + 1) * z.length ≤ (x.length + 1) * 14 := Nat.mul_le_mul_left _ hz
      omega
    · have C2 := C1.toks k
      refine wpAny_bind (wpAny_standAt (wpAny_bind (wpAny_mono (wu_bindName O (.str _ t') (P := fun σ2 => σ2 = σ.set text (.str (Txt.replace x y' z))) rfl (by rw [hkl]; rfl) h₀ _ hb C2) (fun _ s₂ ⟨_, σ2, _, C3, e⟩ => ?_) fun _ _ x => x)))
      subst e
      exact wpAny_pure (wpAny_execs_nil ⟨_, _, .next, C3, h⟩)

/-! ### lists, texts, dicts, more -/
theorem wc_inL {x : Str} {a : Addr} {ys : List Str} (hH : LA c σ a (ys.map .str)) (h : P (.bool (decide (x ∈ ys))) σ) : WCmp c .In (.str x) (.ref a) P σ := fun u v hu hv => by
  cases hu; cases hv
  intro h₀ s hb C
  obtain ⟨items, hl, hr, _⟩ := hH h₀ s hb C
  refine in_list_strs hl (strsOf hr) ⟨_, _, .bool _, C, ?_⟩
  have e : (ys.any (· == x)) = decide (x ∈ ys) := by rw [Bool.eq_iff_iff]; simp
  rw [e]; exact h
theorem wc_notinL {x : Str} {a : Addr} {ys : List Str} (hH : LA c σ a (ys.map .str)) (h : P (.bool (decide (x ∉ ys))) σ) : WCmp c .NotIn (.str x) (.ref a) P σ := fun u v hu hv => by
  cases hu; cases hv
  intro h₀ s hb C
  obtain ⟨items, hl, hr, _⟩ := hH h₀ s hb C
  refine notin_list_strs hl (strsOf hr) ⟨_, _, .bool _, C, ?_⟩
  have e1 : (ys.any (· == x)) = decide (x ∈ ys) := by rw [Bool.eq_iff_iff]; simp
  have e : (!(ys.any (· == x))) = decide (x ∉ ys) := by rw [e1, decide_not]
  rw [e]; exact h
theorem wb_addL (O : Ok K c n) {a b : Addr} {xs ys : List AV} (ha : LA c σ a xs) (hb' : LA c σ b ys) (hle : xs.length + ys.length ≤ 100000) (h : ∀ r, σ.H r = none → P (.ref r) (σ.put r (.list (xs ++ ys)))) : WBin c .Add (.ref a) (.ref b) P σ := fun u v hu hv => by
  cases hu; cases hv
  intro h₀ s hb C
  obtain ⟨items, hl, hr, _⟩ := ha h₀ s hb C
  obtain ⟨items2, hl2, hr2, _⟩ := hb' h₀ s hb C
  have e1 := hr.length
  have e2 := hr2.length
  obtain ⟨⟨cls, dd, data, sl⟩, ho, hc, n, hd⟩ := id hl
  obtain ⟨⟨cls2, dd2, data2, sl2⟩, ho2, hc2, n2, hd2⟩ := id hl2
  simp only at hc hd hc2 hd2
  subst hc hd hc2 hd2
  have e : items.toArray ++ items2.toArray = (items ++ items2).toArray := by simp
  refine concat_meets ⟨_, ho, rfl⟩ ⟨_, ho2, rfl⟩ noFill_list_add seq_list_add PySem.F.slot_list_add PySem.F.entry_list_add (PySem.F.args_list_add_2 _ _) (list_addW a b items.toArray items2.toArray n n2 dd dd2 sl sl2 (by rw [sizeLine_eq]; simp; omega)) ⟨ho, ho2, ?_⟩
  rw [e]
  exact ⟨_, _, .ref _, C.new (.list (hr.append hr2) (by simp; omega)) rfl (O.low hb C) s.toks, h _ C.fresh⟩
theorem wb_mulS {x : Str} {i : Int} (h0 : 0 ≤ i) (hi : i ≤ 1000) (hx : x.length ≤ 1000) (h : P (.str (Txt.mul x i)) σ) : WBin c .Mult (.str x) (.int i) P σ := fun u v hu hv => by
  cases hu; cases hv
  refine fun h₀ s hb C => SB.mul ⟨?_, fun h1 _ => ?_, fun h1 _ => ?_⟩ fun t' k => ⟨_, _, .str _ _, C.toks k, h⟩
  · simp; omega
  · have h2 : (2 ^ 63 - 1 : Int) / 1000 ≤ (2 ^ 63 - 1) / i := by
      apply Int.le_ediv_of_mul_le (by omega)
      have : (2 ^ 63 - 1 : Int) / 1000 * i ≤ (2 ^ 63 - 1 : Int) / 1000 * 1000 := Int.mul_le_mul_of_nonneg_left hi (by decide)
      exact Int.le_trans this (by decide)
    have h3 : (1000 : Int) ≤ (2 ^ 63 - 1 : Int) / 1000 := by decide
    omega
  · have h2 : x.length * i.toNat ≤ 1000 * 1000 := Nat.mul_le_mul hx (by omega)
    unfold Builtin.Str.tooLong sizeLine
    exact decide_eq_false (by omega)
theorem wc_eqL (O : Ok K c n) (hn : 7 ≤ n) {a b : Addr} {xs ys : List Int} (ha : LA c σ a (xs.map .int)) (hb' : LA c σ b (ys.map .int)) (h : P (.bool (decide (xs = ys))) σ) : WCmp c .Eq (.ref a) (.ref b) P σ := fun u v hu hv => by
  cases hu; cases hv
  intro h₀ s hb C
  obtain ⟨items, hl, hr, _⟩ := ha h₀ s hb C
  obtain ⟨items2, hl2, hr2, _⟩ := hb' h₀ s hb C
  exact ke_eq_ints hl hl2 (intsOf hr) (intsOf hr2) (by have := O.units; omega) ⟨_, _, .bool _, C, h⟩
theorem wc_neL (O : Ok K c n) (hn : 7 ≤ n) {a b : Addr} {xs ys : List Int} (ha : LA c σ a (xs.map .int)) (hb' : LA c σ b (ys.map .int)) (h : P (.bool (!decide (xs = ys))) σ) : WCmp c .NotEq (.ref a) (.ref b) P σ := fun u v hu hv => by
  cases hu; cases hv
  intro h₀ s hb C
  obtain ⟨items, hl, hr, _⟩ := ha h₀ s hb C
  obtain ⟨items2, hl2, hr2, _⟩ := hb' h₀ s hb C
  exact ke_ne_ints hl hl2 (intsOf hr) (intsOf hr2) (by have := O.units; omega) ⟨_, _, .bool _, C, h⟩

/-- the same dict of texts, twice -/
theorem wc_neD (O : Ok K c n) {a b : Addr} {kvs : List (Str × Str)} (hnd : (kvs.map (·.1)).Nodup) (ha : σ.H a = some (.sdict (kvs.map fun p => (p.1, .str p.2)))) (hb' : σ.H b = some (.sdict (kvs.map fun p => (p.1, .str p.2)))) (h : P (.bool false) σ) : WCmp c .NotEq (.ref a) (.ref b) P σ := fun u v hu hv => by
  cases hu; cases hv
  intro h₀ s hb C
  obtain ⟨ca, da, ka, qa, la⟩ := C.sdict ha
  obtain ⟨cb, db, kb, qb, lb⟩ := C.sdict hb'
  clear qa qb
  have hl : ca.length = cb.length := ka.length.symm.trans kb.length
  have hits : ∀ (l : List (Str × Str)) (cs : List (Str × Value)), All₂ KV (l.map fun p => (p.1, AV.str p.2)) cs → (∀ p ∈ l, ∃ t, valueAt cb p.1 = some (.str p.2 t)) → KeqHits c.A.in1 s cb cs true := by
    intro l
    induction l with
    | nil => intro cs h1 _; cases h1; exact .nil
    | cons p l ih =>
      intro cs h1 h2
      rw [List.map_cons] at h1
      cases h1 with
      | @cons _ q _ qs h1 h3 =>
      obtain ⟨q1, q2⟩ := q
      obtain ⟨e, hr⟩ := h1
      have e' : p.1 = q1 := e
      subst e'
      have hr' : VR (.str p.2) q2 := hr
      cases hr' with
      | str _ t =>
      obtain ⟨t', ht'⟩ := h2 p List.mem_cons_self
      have := KeqHits.hit (A := c.A.in1) (s := s) (kb := cb) (k := p.1) (v := .str p.2 t) (y := .str p.2 t') (r := qs) (e := (p.2 == p.2)) (b := true) ht' ((eqGives_str p.2 p.2 t t').at _ _) (ih _ h3 fun q hq => h2 q (List.mem_cons_of_mem _ hq))
      simpa using this
  refine keq_ne (r := true) la lb da db (by have := O.units; omega) (fun _ => hits kvs ca ka fun p hp => ?_) ⟨_, _, .bool _, C, ?_⟩
  · rcases kb.look p.1 with ⟨h1, _⟩ | ⟨v, u, h1, h2, h3⟩
    · exfalso
      unfold lookA at h1
      rw [Option.map_eq_none_iff, List.find?_eq_none] at h1
      exact h1 (p.1, .str p.2) (List.mem_map.mpr ⟨p, hp, rfl⟩) (by simp)
    · have : lookA (kvs.map fun p => (p.1, AV.str p.2)) p.1 = some (.str p.2) := by
        unfold lookA
        clear h1 ha hb' ka kb hits h2 h3
        induction kvs with
        | nil => cases hp
        | cons q r ih =>
          rw [List.map_cons, List.find?_cons]
          rw [List.map_cons, List.nodup_cons] at hnd
          rcases List.mem_cons.mp hp with rfl | hp
          · simp
          · have : q.1 ≠ p.1 := fun e => hnd.1 (List.mem_map.mpr ⟨p, hp, e.symm⟩)
            simpa [this] using ih hnd.2 hp
      rw [this] at h1
      cases h1
      cases h3 with
      | str _ t => exact ⟨t, h2⟩
  · simpa [hl] using h
theorem we_GlobalStr (O : Ok K c n) {x y : Str} {t : Tok} {pos : Pos} (e : nsIn K mainGlobals x = some (some (.str y t))) (h : P (.str y) σ)
    (hx : c.env.kindOf x = some .globalImplicit) (hd : (x == ("__debug__" : Str)) = false) : WE c (eval (.Name x pos) c.env) P σ := by
  have := we_global (pos := pos) (f := fun v => (Pure.pure v : Sem Value)) (R := VR) (P := P) O e (WG.pure (.str y t) h) hx hd
  simpa using this
end

/-! Hd -/
noncomputable def nthS : Nat → List Stmt → Stmt
  | _, [] => .Pass ⟨0, 0, 0, 0⟩
  | 0, s :: _ => s
  | n + 1, _ :: r => nthS n r
noncomputable abbrev bodyL : List Stmt := PySem.Challenge.pw_xp0020_01.main.body
noncomputable def fnO (st : Stmt) (m : String) (t : Nat) (c : Addr) : Obj := match st with
  | .FunctionDef name args body _ _ _ scope _ _ _ => { cls := .type "function", data := .func { name := name, qualname := name, params := args, body := .stmts body, scope := scope, globals := 3, closure := [], defaults := .none, kwdefaults := .none, pyModule := .str (Str.ofString m) t, code := .ref c } }
  | _ => { cls := .none }
noncomputable def cdO (nm : String) (t line argc : Nat) (a b : Addr) (u v : Value) (e : Addr) (k k2 : Nat) : Obj :=
  { cls := .type "code", data := .fields #[.str (Str.ofString nm) t, .str (Str.ofString nm) (t + 1), .str (Str.ofString "/claim/cut.py") (t + 2), .int line 0, .int argc 0, .int 0 0, .int 0 0, .int 3 0, .ref a, .bool true, .int 181 0, .ref b, .none, u, v, .ref e, .int k 0, .int line 0, .str (Str.ofString "/claim/cut.py") k2] }
noncomputable def ent (P : Params) (nm : String) (t : Nat) (v : Value) : DictEntry := { hash := PyData.keyHash P (Str.ofString nm), key := .str (Str.ofString nm) t, val := v }
noncomputable def globO (P : Params) : Obj :=
 { cls := .type "dict", data := Data.dict (#[
  ent P "__name__" 165 (.str (Str.ofString "law_xp0020_01") 295),
  ent P "__doc__" 166 (.none),
  ent P "__package__" 167 (.none),
  ent P "__loader__" 168 (.builtin "__main__.__loader__#opaque"),
  ent P "__spec__" 169 (.none),
  ent P "__annotations__" 170 (.ref 6),
  ent P "__builtins__" 171 (.ref 4),
  ent P "__file__" 173 (.str (Str.ofString "/claim/cut.py") 172),
  ent P "__cached__" 174 (.none),
  ent P "ELLIPSIS_MARKER" 190 (.str (Str.ofString "...") 189),
  ent P "_ellipsis_match" 202 (.ref 21),
  ent P "not_" 211 (.ref 28),
  ent P "add" 219 (.ref 35),
  ent P "and_" 227 (.ref 42),
  ent P "mul" 235 (.ref 49),
  ent P "neg" 242 (.ref 56),
  ent P "or_" 250 (.ref 63),
  ent P "_raise_serialization_error" 259 (.ref 70),
  ent P "_escape_cdata" 266 (.ref 77),
  ent P "_escape_attrib" 273 (.ref 84),
  ent P "_escape_attrib_html" 280 (.ref 91),
  ent P "_escape_cdata_c14n" 287 (.ref 98),
  ent P "_escape_attrib_c14n" 294 (.ref 105),
  ent P "_law_cells" 302 (.ref 110),
  ent P "_law_write" 310 (.ref 117),
  ent P "_law_spelled" 318 (.ref 124),
  ent P "_law_ask" 329 (.ref 131),
  ent P "_law_kinds" 335 (.ref 136),
  ent P "_law_numbers" 341 (.ref 141),
  ent P "_law_pieces" 351 (.ref 148),
  ent P "_law_within" 366 (.ref 155),
  ent P "_law_edge" 379 (.ref 162),
  ent P "_law_twice" 391 (.ref 169),
  ent P "_law_set" 397 (.ref 174),
  ent P "_law_signs" 403 (.ref 179),
  ent P "_law_undone" 418 (.ref 186),
  ent P "law" 424 (.ref 191)]) 37 }
noncomputable def heapK (P : Params) : Frag := [(3, globO P),
  (20, cdO "_ellipsis_match" 191 3 2 15 16 (.ref 17) (.ref 18) 19 200 201),
  (21, fnO (nthS 2 bodyL) "cpy313.doctest" 187 20),
  (27, cdO "not_" 205 32 1 22 23 (.ref 24) (.ref 25) 26 209 210),
  (28, fnO (nthS 4 bodyL) "cpy313.operator" 203 27),
  (34, cdO "add" 212 34 2 29 30 (.ref 31) (.ref 32) 33 217 218),
  (35, fnO (nthS 5 bodyL) "cpy313.operator" 203 34),
  (41, cdO "and_" 220 36 2 36 37 (.ref 38) (.ref 39) 40 225 226),
  (42, fnO (nthS 6 bodyL) "cpy313.operator" 203 41),
  (48, cdO "mul" 228 38 2 43 44 (.ref 45) (.ref 46) 47 233 234),
  (49, fnO (nthS 7 bodyL) "cpy313.operator" 203 48),
  (55, cdO "neg" 236 40 1 50 51 (.ref 52) (.ref 53) 54 240 241),
  (56, fnO (nthS 8 bodyL) "cpy313.operator" 203 55),
  (62, cdO "or_" 243 42 2 57 58 (.ref 59) (.ref 60) 61 248 249),
  (63, fnO (nthS 9 bodyL) "cpy313.operator" 203 62),
  (69, cdO "_raise_serialization_error" 253 45 1 64 65 (.ref 66) (.ref 67) 68 257 258),
  (70, fnO (nthS 11 bodyL) "cpy313.xml.etree.ElementTree" 251 69),
  (76, cdO "_escape_cdata" 260 47 1 71 72 (.ref 73) (.ref 74) 75 264 265),
  (77, fnO (nthS 12 bodyL) "cpy313.xml.etree.ElementTree" 251 76),
  (83, cdO "_escape_attrib" 267 58 1 78 79 (.ref 80) (.ref 81) 82 271 272),
  (84, fnO (nthS 13 bodyL) "cpy313.xml.etree.ElementTree" 251 83),
  (90, cdO "_escape_attrib_html" 274 77 1 85 86 (.ref 87) (.ref 88) 89 278 279),
  (91, fnO (nthS 14 bodyL) "cpy313.xml.etree.ElementTree" 251 90),
  (97, cdO "_escape_cdata_c14n" 281 88 1 92 93 (.ref 94) (.ref 95) 96 285 286),
  (98, fnO (nthS 15 bodyL) "cpy313.xml.etree.ElementTree" 251 97),
  (104, cdO "_escape_attrib_c14n" 288 101 1 99 100 (.ref 101) (.ref 102) 103 292 293),
  (105, fnO (nthS 16 bodyL) "cpy313.xml.etree.ElementTree" 251 104),
  (109, cdO "_law_cells" 297 119 2 106 107 .none .none 108 300 301),
  (110, fnO (nthS 18 bodyL) "law_xp0020_01" 295 109),
  (116, cdO "_law_write" 303 121 2 111 112 (.ref 113) (.ref 114) 115 308 309),
  (117, fnO (nthS 19 bodyL) "law_xp0020_01" 295 116),
  (123, cdO "_law_spelled" 311 131 2 118 119 (.ref 120) (.ref 121) 122 316 317),
  (124, fnO (nthS 20 bodyL) "law_xp0020_01" 295 123),
  (130, cdO "_law_ask" 319 137 4 125 126 (.ref 127) (.ref 128) 129 327 328),
  (131, fnO (nthS 21 bodyL) "law_xp0020_01" 295 130),
  (135, cdO "_law_kinds" 330 142 2 132 133 .none .none 134 333 334),
  (136, fnO (nthS 22 bodyL) "law_xp0020_01" 295 135),
  (140, cdO "_law_numbers" 336 144 1 137 138 .none .none 139 339 340),
  (141, fnO (nthS 23 bodyL) "law_xp0020_01" 295 140),
  (147, cdO "_law_pieces" 342 149 1 142 143 (.ref 144) (.ref 145) 146 349 350),
  (148, fnO (nthS 24 bodyL) "law_xp0020_01" 295 147),
  (154, cdO "_law_within" 352 156 3 149 150 (.ref 151) (.ref 152) 153 364 365),
  (155, fnO (nthS 25 bodyL) "law_xp0020_01" 295 154),
  (161, cdO "_law_edge" 367 167 3 156 157 (.ref 158) (.ref 159) 160 377 378),
  (162, fnO (nthS 26 bodyL) "law_xp0020_01" 295 161),
  (168, cdO "_law_twice" 380 175 6 163 164 (.ref 165) (.ref 166) 167 389 390),
  (169, fnO (nthS 27 bodyL) "law_xp0020_01" 295 168),
  (173, cdO "_law_set" 392 181 1 170 171 .none .none 172 395 396),
  (174, fnO (nthS 28 bodyL) "law_xp0020_01" 295 173),
  (178, cdO "_law_signs" 398 183 4 175 176 .none .none 177 401 402),
  (179, fnO (nthS 29 bodyL) "law_xp0020_01" 295 178),
  (185, cdO "_law_undone" 404 217 3 180 181 (.ref 182) (.ref 183) 184 416 417),
  (186, fnO (nthS 30 bodyL) "law_xp0020_01" 295 185),
  (190, cdO "law" 419 230 1 187 188 .none .none 189 422 423),
  (191, fnO (nthS 31 bodyL) "law_xp0020_01" 295 190)]
noncomputable def addrsK : List Addr := [3, 20, 21, 27, 28, 34, 35, 41, 42, 48, 49, 55, 56, 62, 63, 69, 70, 76, 77, 83, 84, 90, 91, 97, 98, 104, 105, 109, 110, 116, 117, 123, 124, 130, 131, 135, 136, 140, 141, 147, 148, 154, 155, 161, 162, 168, 169, 173, 174, 178, 179, 185, 186, 190, 191]
noncomputable abbrev qv : Program := PySem.W.view PySem.Challenge.pw_xp0020_01 [1, 2, 4, 5, 6, 7, 8, 9, 11, 12, 13, 14, 15, 16, 18, 19, 20, 21, 22, 23, 24, 25, 26, 27, 28, 29, 30, 31]
noncomputable abbrev rowK : RowW := PySem.Challenge.rw_xp0020_01.row.toRowW
noncomputable abbrev HK : Hook := kHook heapK addrsK (fun _ => by kernel_rfl)
theorem leftK : LeftO PySem.Challenge.pw_xp0020_01 qv [] (fun s => xlAt qv [] s && recOk (RowW.records rowK) s) (Hook.obs HK) (Hook.val HK) 1836 := by
  intro w
  kernel_rfl
theorem headK {d : DefRec} {kwd : List (Str × Expr)} (hd : defOf qv (Str.ofString "law") = some (d, kwd)) (hp : rowK.prog.theDef (Str.ofString "law") = some (d.params, d.body, d.scope)) (hk : kwWritten? d.params.kwonlyargs d.params.kw_defaults = some kwd)
    (walk : WalkO qv [] (XL qv []) (Hook.says HK) rowK d kwd fun f vs => call f vs) : PySem.Challenge.rw_xp0020_01.Holds := by
  o_law
  refine holds_open (q := qv) (loose := []) (Xt := fun s => xlAt qv [] s && recOk (RowW.records rowK) s) (XP := XL qv []) (Yf := Hook.obs HK) (Ya := Hook.val HK) (YP := Hook.says HK) (N := 1836) leftK (Hook.of HK) (Hook.keeps HK) (fun s e => xl_of s (Bool.and_eq_true_iff.mp e).1) XL.keeps hd hp hk (fun s e => recFacts_of (Bool.and_eq_true_iff.mp e).2) (by rfl) (by assumption) (by decide +kernel) ⟨rfl, rfl, rfl, rfl, rfl, by decide +kernel⟩ ?_ walk
  w_witness2

/-! Loc -/
noncomputable abbrev KP (P : Params) : Frag := heapK P

section
variable {σ : St} {x y : Str} {v w : AV} {a b : Addr} {o o' : AO} {l : Str → Option AV} {H : AH}
theorem loc_same : (σ.set x v).loc x = some v := by simp [St.set]
theorem loc_other (hne : (x == y) = false) (h : σ.loc x = some v) : (σ.set y w).loc x = some v := by
  have : x ≠ y := by simpa using hne
  simpa [St.set, this] using h
theorem loc_put (h : σ.loc x = some v) : (σ.put a o).loc x = some v := h
theorem loc_mk (h : l x = some v) : ({ loc := l, H := H } : St).loc x = some v := h
theorem loc_mk_eq (l : Str → Option AV) (H : AH) (x : Str) : ({ loc := l, H := H } : St).loc x = l x := rfl
theorem loc_if_same : ({ loc := fun y => if y = x then some v else l y, H := H } : St).loc x = some v := by simp
theorem loc_if_free {scope : Scope} (hne : (x == y) = false) (hs : scope.names.lookup x = some .free) (h : l x = some v) : ({ loc := fun z => if z = y then some w else cloc scope l z, H := H } : St).loc x = some v := by
  have : x ≠ y := by simpa using hne
  simpa [cloc, this, hs] using h
theorem loc_if_free' {scope : Scope} (hne : (x == y) = false) (hs : scope.names.lookup x = some .free) (h : l x = some v) : (fun z => if z = y then some w else cloc scope l z) x = some v := by
  have : x ≠ y := by simpa using hne
  simpa [cloc, this, hs] using h
theorem loc_if_same' : (fun z => if z = x then some v else l z) x = some v := by simp
theorem H_same : (σ.put a o).H a = some o := by simp [St.put]
theorem H_fresh (hb : σ.H b = none) (h : σ.H a = some o) : (σ.put b o').H a = some o := by
  have : a ≠ b := by rintro rfl; rw [hb] at h; cases h
  simpa [St.put, this] using h
theorem H_other (hne : a ≠ b) (h : σ.H a = some o) : (σ.put b o').H a = some o := by simpa [St.put, hne] using h
theorem H_set (h : σ.H a = some o) : (σ.set x v).H a = some o := h
theorem H_mk (h : H a = some o) : ({ loc := l, H := H } : St).H a = some o := h
theorem HL_same : ({ loc := l, H := fun c => if c = a then some o else H c } : St).H a = some o := by simp
theorem HL_fresh (hb : H b = none) (h : H a = some o) : ({ loc := l, H := fun c => if c = b then some o' else H c } : St).H a = some o := by
  have : a ≠ b := by rintro rfl; rw [hb] at h; cases h
  simpa [this] using h
/-- what was there stays -/
noncomputable def Ext (H H' : AH) : Prop := ∀ a o, H a = some o → H' a = some o
theorem Ext.refl (H : AH) : Ext H H := fun _ _ h => h
theorem Ext.trans {H1 H2 H3 : AH} (h : Ext H1 H2) (h' : Ext H2 H3) : Ext H1 H3 := fun a o e => h' a o (h a o e)
theorem Ext.put (σ : St) (hb : σ.H b = none) : Ext σ.H (σ.put b o).H := fun _ _ e => H_fresh hb e
theorem Ext.app {A B : AH} (h : Ext A B) (e : A a = some o) : B a = some o := h _ _ e
theorem Ext.to_put {A : AH} (hb : σ.H b = none) (h : Ext A σ.H) : Ext A (σ.put b o).H := h.trans (Ext.put σ hb)
theorem Ext.to_set {A : AH} (h : Ext A σ.H) : Ext A (σ.set x v).H := h
theorem Ext.to_HL {A : AH} (hb : H b = none) (h : Ext A H) : Ext A ({ loc := l, H := fun c => if c = b then some o else H c } : St).H := fun a ob e => by
  have := h a ob e
  have hne : a ≠ b := by rintro rfl; rw [hb] at this; cases this
  simpa [hne] using this
theorem Ext.to_own {A : AH} (ha : A a = none) (hE : Ext A σ.H) : Ext A (σ.put a o).H := fun b ob e => by
  have : b ≠ a := by rintro rfl; rw [ha] at e; cases e
  simpa [St.put, this] using hE b ob e
theorem len1 {α : Type} {l : List α} (h : l.length = 1) : ∃ a, l = [a] := List.length_eq_one_iff.mp h
theorem len2 {α : Type} {l : List α} (h : l.length = 2) : ∃ a b, l = [a, b] := by
  match l, h with | [a, b], _ => exact ⟨a, b, rfl⟩
theorem len3 {α : Type} {l : List α} (h : l.length = 3) : ∃ a b c, l = [a, b, c] := by
  match l, h with | [a, b, c], _ => exact ⟨a, b, c, rfl⟩
theorem len4 {α : Type} {l : List α} (h : l.length = 4) : ∃ a b c d, l = [a, b, c, d] := by
  match l, h with | [a, b, c, d], _ => exact ⟨a, b, c, d, rfl⟩
theorem len6 {α : Type} {l : List α} (h : l.length = 6) : ∃ a b c d e f, l = [a, b, c, d, e, f] := by
  match l, h with | [a, b, c, d, e, f], _ => exact ⟨a, b, c, d, e, f, rfl⟩
end
theorem wc_neI {c : Cx} {σ : St} {P : AV → St → Prop} {i j : Int} (h : P (.bool (!decide (i = j))) σ) : WCmp c .NotEq (.int i) (.int j) P σ := fun u v hu hv => by
  cases hu; cases hv
  exact fun h₀ s hb C => PyProof.Rows.ne_int ⟨_, _, .bool _, C, by rw [bne, Bool.beq_eq_decide_eq]; exact h⟩
theorem wf_cut {c : Cx} {σ : St} {t : Sem Flow} {P : AF → St → Prop} (F : St → Prop) (hF : F σ) (h : ∀ σ', F σ' → WF c t P σ') : WF c t P σ := h σ hF
theorem intMul_small {i j : Int} (h : i.natAbs < 2 ^ 62) : IntMulOk i j := by
  refine IntMulOk.of_left ?_
  unfold Builtin.Int.intBits
  split
  · omega
  · rename_i h0
    have : i.natAbs ≠ 0 := by simpa using h0
    have := (Nat.log2_lt this).mpr h
    omega
theorem wb_mulI {c : Cx} {σ : St} {P : AV → St → Prop} {i j : Int} (hm : i.natAbs < 2 ^ 62) (h : P (.int (i * j)) σ) : WBin c .Mult (.int i) (.int j) P σ := wb_mul (intMul_small hm) h
theorem wb_powC {c : Cx} {σ : St} {P : AV → St → Prop} {i : Int} {k : Nat} (hi : 2 ≤ i) (hk : Builtin.Int.intBits i * k ≤ 1000) (h : P (.int (i ^ k)) σ) : WBin c .Pow (.int i) (.int (k : Int)) P σ :=
  wb_pow hi (by unfold Builtin.Int.intTooBig bitsLine; have : ((Builtin.Int.intBits i * k : Nat) : Int) ≤ 1000 := by exact_mod_cast hk
                simp at this ⊢; omega) h
theorem WG.post {c : Cx} {α β : Type} {R : α → β → Prop} {t : Sem β} {P : α → St → Prop} {σ : St} (h : ∀ Q : α → St → Prop, (∀ a σ', P a σ' → Q a σ') → WG c R t Q σ) : WG c R t P σ := h P fun _ _ x => x

/-! Comp -/
theorem ite_of {b : Bool} {A B : Prop} (h1 : b = true → A) (h2 : b = false → B) : (if b = true then A else B) := by
  cases b
  · simpa using h2 rfl
  · simpa using h1 rfl
theorem ite_T {b : Bool} {A B : Prop} (hb : b = true) (h : A) : (if b = true then A else B) := by rw [if_pos hb]; exact h
theorem ite_F {b : Bool} {A B : Prop} (hb : b = false) (h : B) : (if b = true then A else B) := by rw [if_neg (by rw [hb]; decide)]; exact h
section
variable {K : Frag} {n : Nat} {c : Cx} {σ : St} {h₀ g : Heap} {s s' : Shared}

theorem wt_nil' {Q R : St → Prop} (h : Q σ) : WT c [] (fun ok σ2 => if ok = true then Q σ2 else R σ2) σ := wt_nil (by simpa using h)

/-- list comprehension, no test -/
theorem comp_map (O : Ok K c n) {elt iter : Expr} {x : Str} {px : Pos} {scope : Scope} {pos : Pos} {P : AV → St → Prop} (items g : List AV) (dep : AH → Prop)
    (hlg : g.length = items.length) (hdep : ∀ H, Ext σ.H H → dep H)
    (hev : WE c (eval iter c.env) (fun v σ1 => (∃ pre, Itbl c.prog c.w c.A pre dep items v ∧ pre σ1.H) ∧ σ1.loc = σ.loc ∧ Ext σ.H σ1.H) σ)
    (hlen : items.length ≤ 100000)
    (hcell : ∀ y ∈ scope.names, y.2 ≠ .cell) (hfree : ∀ x, (x, NameKind.free) ∈ scope.names → (c.env.cells.lookup x).isSome = true) (hkind : scope.kind = .function) (hx : scope.names.lookup x = some .local)
    (hnames : ∀ y ∈ scope.names, y.2 = .local → scope.names.lookup y.1 = some .local)
    (hturn : ∀ (D : Addr) (i : Nat) (v w : AV) (H1 : AH), Ok K (inComp c scope D) n → items[i]? = some v → g[i]? = some w → Ext σ.H H1 →
        WE (inComp c scope D) (eval elt (inComp c scope D).env) (fun y σ3 => y = w ∧ Ext σ.H σ3.H) { loc := fun y => if y = x then some v else cloc scope σ.loc y, H := H1 })
    (hend : ∀ r H', Ext σ.H H' → σ.H r = none → H' r = some (.list g) → P (.ref r) { loc := σ.loc, H := H' })
    (hs : ∀ u, foldedSetIterable iter c.env u = pure u) (ht : ∀ it v, letOwnedTupleGo (.Name x px) it v = pure ()) :
    WE c (eval (.ListComp elt [⟨.Name x px, iter, [], 0⟩] scope pos) c.env) P σ := by
  refine we_ListComp O items dep (fun i ys H1 => ys = g.take i ∧ Ext σ.H H1) ?_ hlen hcell hfree hkind hx hnames ?_ ?_ hs ht
  · exact hev.mono fun v σ1 ⟨h1, h3, h4⟩ => ⟨h1, hdep _ h4, h3, by simp, h4⟩
  · rintro D i v ys H1 hv ⟨rfl, hE⟩ _ _
    have hi : i < g.length := by rw [hlg]; exact (List.getElem?_eq_some_iff.mp hv).1
    refine wt_nil' ((hturn D i v g[i] H1 (O.inComp hkind) hv (by simp [hi]) hE).mono fun y σ3 ⟨h1, h2⟩ => ⟨⟨?_, h2⟩, hdep _ h2⟩)
    rw [h1, List.take_add_one, List.getElem?_eq_getElem hi]; rfl
  · rintro L ys H1 ⟨rfl, hE⟩ _ hL
    have hL0 : σ.H L = none := by
      cases q : σ.H L with
      | none => rfl
      | some o => rw [hE _ _ q] at hL; cases hL
    refine hend L _ (fun a o e => ?_) hL0 ?_
    · have : a ≠ L := by rintro rfl; rw [hL0] at e; cases e
      simp only [this, if_false]; exact hE _ _ e
    · simp [List.take_of_length_le (Nat.le_of_eq hlg)]

noncomputable def keepB : List Bool → List AV → List AV
  | true :: q, v :: r => v :: keepB q r
  | false :: q, _ :: r => keepB q r
  | _, _ => []
theorem keepB_take_succ : ∀ (q : List Bool) (l : List AV) (i : Nat) {b : Bool} {v : AV}, q[i]? = some b → l[i]? = some v →
    keepB (q.take (i + 1)) (l.take (i + 1)) = keepB (q.take i) (l.take i) ++ (if b then [v] else [])
  | [], _, i, _, _, h, _ => by simp at h
  | _ :: _, [], i, _, _, _, h => by simp at h
  | b :: q, v :: l, 0, _, _, h, h' => by
    simp at h h'; subst h h'
    cases b <;> simp [keepB]
  | b :: q, v :: l, i + 1, _, _, h, h' => by
    have := keepB_take_succ q l i (by simpa using h) (by simpa using h')
    cases b <;> simp [keepB, this]

/-- list comprehension, one test, bound to a name at once -/
theorem comp_filter_bound (O : Ok K c n) {elt iter t : Expr} {x y : Str} {px py : Pos} {scope : Scope} {pos spos : Pos} {P : AF → St → Prop} (items g : List AV) (q : List Bool) (dep : AH → Prop)
    (hlg : g.length = items.length) (hlq : q.length = items.length) (hdep : ∀ H, Ext σ.H H → dep H)
    (hev : WE c (eval iter c.env) (fun v σ1 => (∃ pre, Itbl c.prog c.w c.A pre dep items v ∧ pre σ1.H) ∧ σ1.loc = σ.loc ∧ Ext σ.H σ1.H) σ)
    (hlen : items.length ≤ 100000)
    (hcell : ∀ y ∈ scope.names, y.2 ≠ .cell) (hfree : ∀ x, (x, NameKind.free) ∈ scope.names → (c.env.cells.lookup x).isSome = true) (hkind : scope.kind = .function) (hx : scope.names.lookup x = some .local)
    (hnames : ∀ y ∈ scope.names, y.2 = .local → scope.names.lookup y.1 = some .local)
    (hturn : ∀ (D : Addr) (i : Nat) (v w : AV) (b : Bool) (H1 : AH), Ok K (inComp c scope D) n → items[i]? = some v → g[i]? = some w → q[i]? = some b → Ext σ.H H1 →
        WB (inComp c scope D) (isTrue t (inComp c scope D).env (eval t (inComp c scope D).env)) (fun ok σ2 => ok = b ∧ Ext σ.H σ2.H ∧ (b = true → WE (inComp c scope D) (eval elt (inComp c scope D).env) (fun y σ3 => y = w ∧ Ext σ.H σ3.H) σ2)) { loc := fun y => if y = x then some v else cloc scope σ.loc y, H := H1 })
    (hend : ∀ r H', Ext σ.H H' → σ.H r = none → H' r = some (.list (keepB q g)) → P .next (St.set { loc := σ.loc, H := H' } y (.ref r)))
    (hy : c.env.kindOf y = some .local)
    (hsw : swapsWith (.ListComp elt [⟨.Name x px, iter, [t], 0⟩] scope pos) (some (.Name y py)) spos.line c.env = pure true)
    (hs : ∀ u, foldedSetIterable iter c.env u = pure u) (ht : ∀ it v, letOwnedTupleGo (.Name x px) it v = pure ()) :
    WF c (exec (.Assign [.Name y py] (.ListComp elt [⟨.Name x px, iter, [t], 0⟩] scope pos) spos) c.env) P σ := by
  refine wf_Assign_ListComp O items dep (fun i ys H1 => ys = keepB (q.take i) (g.take i) ∧ Ext σ.H H1) ?_ hlen hcell hfree hkind hx hnames ?_ ?_ hy hsw hs ht
  · exact hev.mono fun v σ1 ⟨h1, h3, h4⟩ => ⟨h1, hdep _ h4, h3, by simp [keepB], h4⟩
  · rintro D i v ys H1 hv ⟨rfl, hE⟩ _ _
    have hi : i < items.length := (List.getElem?_eq_some_iff.mp hv).1
    have hg : g[i]? = some (g[i]'(by omega)) := by simp [hlg, hi]
    have hq : q[i]? = some (q[i]'(by omega)) := by simp [hlq, hi]
    refine wt_one ((hturn D i v _ _ H1 (O.inComp hkind) hv hg hq hE).mono fun ok σ2 ⟨h1, h2, h3⟩ => ?_)
    have hk := keepB_take_succ q g i hq hg
    rw [← h1] at hk h3
    cases ok with
    | false =>
      simp only [Bool.false_eq_true, if_false] at hk ⊢
      exact ⟨⟨by rw [hk]; simp, h2⟩, hdep _ h2⟩
    | true =>
      simp only [if_true] at hk ⊢
      exact (h3 rfl).mono fun y σ3 ⟨h4, h5⟩ => ⟨⟨by rw [hk, h4], h5⟩, hdep _ h5⟩
  · rintro L ys H1 ⟨rfl, hE⟩ _ hL
    have hL0 : σ.H L = none := by
      cases q : σ.H L with
      | none => rfl
      | some o => rw [hE _ _ q] at hL; cases hL
    refine hend L _ (fun a o e => ?_) hL0 ?_
    · have : a ≠ L := by rintro rfl; rw [hL0] at e; cases e
      simp only [this, if_false]; exact hE _ _ e
    · simp [List.take_of_length_le (Nat.le_of_eq hlg), List.take_of_length_le (Nat.le_of_eq hlq)]

/-- the same, its value handed on -/
theorem comp_filter (O : Ok K c n) {elt iter t : Expr} {x : Str} {px : Pos} {scope : Scope} {pos : Pos} {P : AV → St → Prop} (items g : List AV) (q : List Bool) (dep : AH → Prop)
    (hlg : g.length = items.length) (hlq : q.length = items.length) (hdep : ∀ H, Ext σ.H H → dep H)
    (hev : WE c (eval iter c.env) (fun v σ1 => (∃ pre, Itbl c.prog c.w c.A pre dep items v ∧ pre σ1.H) ∧ σ1.loc = σ.loc ∧ Ext σ.H σ1.H) σ)
    (hlen : items.length ≤ 100000)
    (hcell : ∀ y ∈ scope.names, y.2 ≠ .cell) (hfree : ∀ x, (x, NameKind.free) ∈ scope.names → (c.env.cells.lookup x).isSome = true) (hkind : scope.kind = .function) (hx : scope.names.lookup x = some .local)
    (hnames : ∀ y ∈ scope.names, y.2 = .local → scope.names.lookup y.1 = some .local)
    (hturn : ∀ (D : Addr) (i : Nat) (v w : AV) (b : Bool) (H1 : AH), Ok K (inComp c scope D) n → items[i]? = some v → g[i]? = some w → q[i]? = some b → Ext σ.H H1 →
        WB (inComp c scope D) (isTrue t (inComp c scope D).env (eval t (inComp c scope D).env)) (fun ok σ2 => ok = b ∧ Ext σ.H σ2.H ∧ (b = true → WE (inComp c scope D) (eval elt (inComp c scope D).env) (fun y σ3 => y = w ∧ Ext σ.H σ3.H) σ2)) { loc := fun y => if y = x then some v else cloc scope σ.loc y, H := H1 })
    (hend : ∀ r H', Ext σ.H H' → σ.H r = none → H' r = some (.list (keepB q g)) → P (.ref r) { loc := σ.loc, H := H' })
    (hs : ∀ u, foldedSetIterable iter c.env u = pure u) (ht : ∀ it v, letOwnedTupleGo (.Name x px) it v = pure ()) :
    WE c (eval (.ListComp elt [⟨.Name x px, iter, [t], 0⟩] scope pos) c.env) P σ := by
  refine we_ListComp O items dep (fun i ys H1 => ys = keepB (q.take i) (g.take i) ∧ Ext σ.H H1) ?_ hlen hcell hfree hkind hx hnames ?_ ?_ hs ht
  · exact hev.mono fun v σ1 ⟨h1, h3, h4⟩ => ⟨h1, hdep _ h4, h3, by simp [keepB], h4⟩
  · rintro D i v ys H1 hv ⟨rfl, hE⟩ _ _
    have hi : i < items.length := (List.getElem?_eq_some_iff.mp hv).1
    have hg : g[i]? = some (g[i]'(by omega)) := by simp [hlg, hi]
    have hq : q[i]? = some (q[i]'(by omega)) := by simp [hlq, hi]
    refine wt_one ((hturn D i v _ _ H1 (O.inComp hkind) hv hg hq hE).mono fun ok σ2 ⟨h1, h2, h3⟩ => ?_)
    have hk := keepB_take_succ q g i hq hg
    rw [← h1] at hk h3
    cases ok with
    | false =>
      simp only [Bool.false_eq_true, if_false] at hk ⊢
      exact ⟨⟨by rw [hk]; simp, h2⟩, hdep _ h2⟩
    | true =>
      simp only [if_true] at hk ⊢
      exact (h3 rfl).mono fun y σ3 ⟨h4, h5⟩ => ⟨⟨by rw [hk, h4], h5⟩, hdep _ h5⟩
  · rintro L ys H1 ⟨rfl, hE⟩ _ hL
    have hL0 : σ.H L = none := by
      cases q : σ.H L with
      | none => rfl
      | some o => rw [hE _ _ q] at hL; cases hL
    refine hend L _ (fun a o e => ?_) hL0 ?_
    · have : a ≠ L := by rintro rfl; rw [hL0] at e; cases e
      simp only [this, if_false]; exact hE _ _ e
    · simp [List.take_of_length_le (Nat.le_of_eq hlg), List.take_of_length_le (Nat.le_of_eq hlq)]

theorem storedA_new {kvs : List (Str × AV)} {k : Str} {v : AV} (h : k ∉ kvs.map (·.1)) : storedA kvs k v = kvs ++ [(k, v)] := by
  unfold storedA
  rw [if_neg]
  intro hh
  obtain ⟨kv, h1, h2⟩ := List.any_eq_true.mp hh
  exact h (List.mem_map.mpr ⟨kv, h1, by simpa using h2⟩)

theorem dict_turn {keys : List Str} {g : List (Str × AV)} (hg : g.map (·.1) = keys) (hnd : keys.Nodup) {i : Nat} {k : Str} {v : AV} (hi : g[i]? = some (k, v)) : storedA (g.take i) k v = g.take (i + 1) := by
  obtain ⟨hlt, he⟩ := List.getElem?_eq_some_iff.mp hi
  rw [storedA_new, List.take_add_one, hi]
  · rfl
  · intro hm
    rw [List.map_take, hg] at hm
    obtain ⟨j, hj, hjk⟩ := List.mem_take_iff_getElem.mp hm
    have hk : keys[i]? = some k := by rw [← hg, List.getElem?_map, hi]; rfl
    obtain ⟨hlt2, hk'⟩ := List.getElem?_eq_some_iff.mp hk
    have := (List.getElem_inj hnd).mp (hjk.trans hk'.symm)
    omega

/-- dict comprehension over distinct texts -/
theorem comp_dict (O : Ok K c n) {kx vx iter : Expr} {x : Str} {px : Pos} {scope : Scope} {pos : Pos} {P : AV → St → Prop} (keys : List Str) (items : List AV) (g : List (Str × AV)) (dep : AH → Prop)
    (hg : g.map (·.1) = keys) (hnd : keys.Nodup) (hli : items.length = keys.length) (hdep : ∀ H, Ext σ.H H → dep H)
    (hev : WE c (eval iter c.env) (fun v σ1 => (∃ pre, Itbl c.prog c.w c.A pre dep items v ∧ pre σ1.H) ∧ σ1.loc = σ.loc ∧ Ext σ.H σ1.H) σ)
    (hlen : items.length ≤ 100000)
    (hcell : ∀ y ∈ scope.names, y.2 ≠ .cell) (hfree : ∀ x, (x, NameKind.free) ∈ scope.names → (c.env.cells.lookup x).isSome = true) (hkind : scope.kind = .function) (hx : scope.names.lookup x = some .local)
    (hnames : ∀ y ∈ scope.names, y.2 = .local → scope.names.lookup y.1 = some .local)
    (hturn : ∀ (D : Addr) (i : Nat) (v : AV) (k : Str) (w : AV) (H1 : AH), Ok K (inComp c scope D) n → items[i]? = some v → g[i]? = some (k, w) → Ext σ.H H1 →
        WE (inComp c scope D) (eval kx (inComp c scope D).env) (fun y σ2 => y = .str k ∧ WE (inComp c scope D) (eval vx (inComp c scope D).env) (fun y σ3 => y = w ∧ Ext σ.H σ3.H) σ2) { loc := fun y => if y = x then some v else cloc scope σ.loc y, H := H1 })
    (hend : ∀ r H', Ext σ.H H' → σ.H r = none → H' r = some (.sdict g) → P (.ref r) { loc := σ.loc, H := H' })
    (hs : ∀ u, foldedSetIterable iter c.env u = pure u) (ht : ∀ it v, letOwnedTupleGo (.Name x px) it v = pure ()) :
    WE c (eval (.DictComp kx vx [⟨.Name x px, iter, [], 0⟩] scope pos) c.env) P σ := by
  have hlg : g.length = items.length := by rw [hli, ← hg, List.length_map]
  refine we_DictComp O items dep (fun i ys H1 => ys = g.take i ∧ Ext σ.H H1) ?_ hlen hcell hfree hkind hx hnames ?_ ?_ hs ht
  · exact hev.mono fun v σ1 ⟨h1, h3, h4⟩ => ⟨h1, hdep _ h4, h3, by simp, h4⟩
  · rintro D i v ys H1 hv ⟨rfl, hE⟩ _ _
    have hi : i < g.length := by rw [hlg]; exact (List.getElem?_eq_some_iff.mp hv).1
    have hgi : g[i]? = some (g[i].1, g[i].2) := by simp [hi]
    refine wt_nil' ((hturn D i v _ _ H1 (O.inComp hkind) hv hgi hE).mono fun y σ2 ⟨h1, h2⟩ => ⟨_, h1, h2.mono fun y σ3 ⟨h3, h4⟩ => ⟨⟨?_, h4⟩, hdep _ h4⟩⟩)
    rw [h3, dict_turn hg hnd hgi]
  · rintro L ys H1 ⟨rfl, hE⟩ _ hL
    have hL0 : σ.H L = none := by
      cases q : σ.H L with
      | none => rfl
      | some o => rw [hE _ _ q] at hL; cases hL
    refine hend L _ (fun a o e => ?_) hL0 ?_
    · have : a ≠ L := by rintro rfl; rw [hL0] at e; cases e
      simp only [this, if_false]; exact hE _ _ e
    · simp [List.take_of_length_le (Nat.le_of_eq hlg)]
theorem comp_dict_bound (O : Ok K c n) {kx vx iter : Expr} {x y : Str} {px py : Pos} {scope : Scope} {pos spos : Pos} {P : AF → St → Prop} (keys : List Str) (items : List AV) (g : List (Str × AV)) (dep : AH → Prop)
    (hg : g.map (·.1) = keys) (hnd : keys.Nodup) (hli : items.length = keys.length) (hdep : ∀ H, Ext σ.H H → dep H)
    (hev : WE c (eval iter c.env) (fun v σ1 => (∃ pre, Itbl c.prog c.w c.A pre dep items v ∧ pre σ1.H) ∧ σ1.loc = σ.loc ∧ Ext σ.H σ1.H) σ)
    (hlen : items.length ≤ 100000)
    (hcell : ∀ y ∈ scope.names, y.2 ≠ .cell) (hfree : ∀ x, (x, NameKind.free) ∈ scope.names → (c.env.cells.lookup x).isSome = true) (hkind : scope.kind = .function) (hx : scope.names.lookup x = some .local)
    (hnames : ∀ y ∈ scope.names, y.2 = .local → scope.names.lookup y.1 = some .local)
    (hturn : ∀ (D : Addr) (i : Nat) (v : AV) (k : Str) (w : AV) (H1 : AH), Ok K (inComp c scope D) n → items[i]? = some v → g[i]? = some (k, w) → Ext σ.H H1 →
        WE (inComp c scope D) (eval kx (inComp c scope D).env) (fun y σ2 => y = .str k ∧ WE (inComp c scope D) (eval vx (inComp c scope D).env) (fun y σ3 => y = w ∧ Ext σ.H σ3.H) σ2) { loc := fun y => if y = x then some v else cloc scope σ.loc y, H := H1 })
    (hend : ∀ r H', Ext σ.H H' → σ.H r = none → H' r = some (.sdict g) → P .next (St.set { loc := σ.loc, H := H' } y (.ref r)))
    (hy : c.env.kindOf y = some .local)
    (hsw : swapsWith (.DictComp kx vx [⟨.Name x px, iter, [], 0⟩] scope pos) (some (.Name y py)) spos.line c.env = pure true)
    (hs : ∀ u, foldedSetIterable iter c.env u = pure u) (ht : ∀ it v, letOwnedTupleGo (.Name x px) it v = pure ()) :
    WF c (exec (.Assign [.Name y py] (.DictComp kx vx [⟨.Name x px, iter, [], 0⟩] scope pos) spos) c.env) P σ := by
  have hlg : g.length = items.length := by rw [hli, ← hg, List.length_map]
  refine wf_Assign_DictComp O items dep (fun i ys H1 => ys = g.take i ∧ Ext σ.H H1) ?_ hlen hcell hfree hkind hx hnames ?_ ?_ hy hsw hs ht
  · exact hev.mono fun v σ1 ⟨h1, h3, h4⟩ => ⟨h1, hdep _ h4, h3, by simp, h4⟩
  · rintro D i v ys H1 hv ⟨rfl, hE⟩ _ _
    have hi : i < g.length := by rw [hlg]; exact (List.getElem?_eq_some_iff.mp hv).1
    have hgi : g[i]? = some (g[i].1, g[i].2) := by simp [hi]
    refine wt_nil' ((hturn D i v _ _ H1 (O.inComp hkind) hv hgi hE).mono fun y σ2 ⟨h1, h2⟩ => ⟨_, h1, h2.mono fun y σ3 ⟨h3, h4⟩ => ⟨⟨?_, h4⟩, hdep _ h4⟩⟩)
    rw [h3, dict_turn hg hnd hgi]
  · rintro L ys H1 ⟨rfl, hE⟩ _ hL
    have hL0 : σ.H L = none := by
      cases q : σ.H L with
      | none => rfl
      | some o => rw [hE _ _ q] at hL; cases hL
    refine hend L _ (fun a o e => ?_) hL0 ?_
    · have : a ≠ L := by rintro rfl; rw [hL0] at e; cases e
      simp only [this, if_false]; exact hE _ _ e
    · simp [List.take_of_length_le (Nat.le_of_eq hlg)]
end

-- the walk's own words
local macro_rules | `(tactic| walk_at "r1") => `(tactic| ((all_goals skip); rotate_left; rfl))
local macro_rules | `(tactic| walk_at "r2") => `(tactic| ((all_goals skip); rotate_left; rfl; rfl))
local macro_rules | `(tactic| walk_at "r4") => `(tactic| ((all_goals skip); rotate_left; rfl; rfl; rfl; rfl))
local macro_rules | `(tactic| walk_at "r5") => `(tactic| (rotate_left; rfl; rfl; rfl; rfl; rfl))
local macro_rules | `(tactic| walk_at "m_u") => `(tactic| with_unfolding_all rfl)
local macro_rules | `(tactic| walk_at "m_dn") => `(tactic| first | decide | omega)
local macro_rules | `(tactic| walk_at "m_num") => `(tactic| first | assumption | decide | omega)
local macro_rules | `(tactic| walk_at "m_loc") => `(tactic| first
  | (with_reducible first | assumption | exact loc_same | exact loc_if_same | exact loc_if_same')
  | ((with_reducible apply loc_other); rfl; walk_at "m_loc")
  | ((with_reducible apply loc_put); walk_at "m_loc")
  | ((with_reducible first | apply loc_if_free | apply loc_if_free'); rfl; rfl; walk_at "m_loc")
  | rfl
  | (dsimp only; walk_at "m_loc"))
local macro_rules | `(tactic| walk_at "m_H") => `(tactic| first
  | (with_reducible first | assumption | exact H_same | exact HL_same)
  | ((with_reducible apply H_set); walk_at "m_H")
  | ((with_reducible first | (apply H_fresh; assumption) | (apply H_other; assumption) | (apply HL_fresh; assumption)); walk_at "m_H")
  | (with_reducible (apply Ext.app; assumption; assumption))
  | (dsimp only; walk_at "m_H"))
local macro_rules | `(tactic| walk_at "m_ext") => `(tactic| with_reducible first
  | assumption
  | exact Ext.refl _
  | (apply Ext.to_set; walk_at "m_ext")
  | (apply Ext.to_put; assumption; walk_at "m_ext")
  | (apply Ext.to_own; assumption; walk_at "m_ext")
  | (apply Ext.to_HL; assumption; walk_at "m_ext"))
local macro_rules | `(tactic| walk_at "m_free") => `(tactic| (intro x hx; repeat' (first | (cases hx; done) | (rcases List.mem_cons.mp hx with hx | hx; focus (first | (cases hx; done) | (cases hx; rfl))))))
local macro_rules | `(tactic| walk_at "m_call") => `(tactic| (
  (case ho => walk_at "m_u")
  (case hcd => walk_at "m_u")
  (case hb => intro vals hv; first
    | (obtain ⟨_, ee⟩ := len1 hv; subst ee; walk_at "m_u")
    | (obtain ⟨_, _, ee⟩ := len2 hv; subst ee; walk_at "m_u")
    | (obtain ⟨_, _, _, ee⟩ := len3 hv; subst ee; walk_at "m_u")
    | (obtain ⟨_, _, _, _, ee⟩ := len4 hv; subst ee; walk_at "m_u")
    | (obtain ⟨_, _, _, _, _, _, ee⟩ := len6 hv; subst ee; walk_at "m_u"))
  (case hk => intro k x hx; repeat' (first | (cases hx; done) | (rcases List.mem_cons.mp hx with hx | hx; focus (subst hx; first | exact .inl rfl | exact .inr ⟨rfl, rfl⟩))))
  (case hnd => decide)
  (case hkk => rfl)
  (case hco => rfl)
  (case hg => rfl)))
local macro_rules | `(tactic| walk_at "m_for") => `(tactic| (
  (with_reducible refine' wf_For (by with_reducible assumption) ?f1 ?f2 ?f3 ?f4)
  (case f2 => rfl)
  (case f3 => intro u; rfl)
  (case f4 => intro it v; rfl)))
local macro_rules | `(tactic| walk_at "m_comp") => `(tactic| (
  (case hcell => decide)
  (case hfree => walk_at "m_free")
  (case hkind => rfl)
  (case hx => rfl)
  (case hnames => decide)
  (case hs => intro u; rfl)
  (case ht => intro it v; rfl)))
local macro_rules | `(tactic| walk_at "m_DictS") => `(tactic| focus (
  (with_reducible refine' we_DictS (by with_reducible assumption) ?_ ?_ ?_ ?_ ?_); rfl; rfl; exact List.cons_ne_nil _ _; decide))
local macro_rules | `(tactic| walk_at "m_DictI") => `(tactic| focus (
  (with_reducible refine' we_DictI (by with_reducible assumption) ?_ ?_ ?_ ?_ ?_); rfl; rfl; exact List.cons_ne_nil _ _; decide))
local macro_rules | `(tactic| walk_at "m") => `(tactic| focus (first
  | (with_reducible first
    | refine wf_nil ?_ | refine wf_cons ?_ | refine wf_Return ?_ | refine wf_If ?_ | refine wf_Assert ?_ | refine wf_Try ?_ | refine wf_DelItem ?_
    | refine wb_Not ?_ | refine wb_BoolOp ?_ | refine wb_And_nil ?_ | refine wb_Or_nil ?_ | refine wb_And_cons ?_ | refine wb_Or_cons ?_ | refine wt_bool ?_
    | refine we_int ?_ | refine we_str ?_ | refine we_bool ?_ | refine we_BinOp ?_ | refine we_UnaryOp ?_ | refine we_IfExp ?_ | refine we_Or2 ?_
    | refine we_List (by assumption) ?_ | refine we_Dict0 (by assumption) ?_
    | refine wps_nil ?_ | refine wps_cons ?_)
  | ((with_reducible refine' wf_Assign (by assumption) ?_ ?_ ?_); walk_at "r2")
  | ((with_reducible refine' wf_AugAssign (by assumption) ?k0 ?_ ?_ ?_); (case k0 => walk_at "m_loc"); walk_at "r2")
  | ((with_reducible refine' wf_Expr ?_ ?_ ?_); walk_at "r2")
  | ((with_reducible refine' wf_AssignSubI ?_ ?_); walk_at "r1")
  | ((with_reducible refine' wf_AssignTwo (by assumption) ?_ ?_ ?_ ?_ ?_ ?_ ?_); walk_at "r5"; rfl)
  | ((with_reducible first | refine' wb_Compare ?_ ?_ | refine' we_Compare ?_ ?_ | refine' wl_cons ?_ ?_); walk_at "r1")
  | ((with_reducible refine' wb_value ?_ ?_); walk_at "r1")
  | ((with_reducible refine' we_Name (by assumption) ?k0 ?_ ?_ ?_); (case k0 => walk_at "m_loc"); walk_at "r2")
  | ((with_reducible refine' we_GlobalStr (by assumption) ?k0 ?_ ?_ ?_); (case k0 => walk_at "m_u"); walk_at "r2")
  | ((with_reducible refine' we_CallFn (by assumption) ?k0 ?k1 ?_ ?_ ?_ ?_ ?_); (case k0 => walk_at "m_u"); (case k1 => walk_at "m_u"); walk_at "r4")
  | ((with_reducible refine' we_CallB (by assumption) ?k0 ?k1 ?kn ?_ ?_ ?_ ?_ ?_); (case k0 => walk_at "m_u"); (case k1 => walk_at "m_u"); (case kn => decide); walk_at "r4")
  | ((with_reducible refine' we_CallT (by assumption) ?k0 ?k1 ?kn ?_ ?_ ?_ ?_ ?_); (case k0 => walk_at "m_u"); (case k1 => walk_at "m_u"); (case kn => decide); walk_at "r4")
  | ((with_reducible first
      | refine' we_Method PySem.F.plainAttrs_list PySem.F.slot_list_append PySem.F.type_list_append ?_ ?_ ?_ ?_ ?_ ?_
      | refine' we_Method PySem.F.plainAttrs_list PySem.F.slot_list_index PySem.F.type_list_index ?_ ?_ ?_ ?_ ?_ ?_
      | refine' we_Method PySem.F.plainAttrs_dict PySem.F.slot_dict_get PySem.F.type_dict_get ?_ ?_ ?_ ?_ ?_ ?_
      | refine' we_Method PySem.F.plainAttrs_str PySem.F.slot_str_split PySem.F.type_str_split ?_ ?_ ?_ ?_ ?_ ?_
      | refine' we_Method PySem.F.plainAttrs_str PySem.F.slot_str_startswith PySem.F.type_str_startswith ?_ ?_ ?_ ?_ ?_ ?_
      | refine' we_Method PySem.F.plainAttrs_str PySem.F.slot_str_endswith PySem.F.type_str_endswith ?_ ?_ ?_ ?_ ?_ ?_
      | refine' we_Method PySem.F.plainAttrs_str PySem.F.slot_str_find PySem.F.type_str_find ?_ ?_ ?_ ?_ ?_ ?_
      | refine' we_Method PySem.F.plainAttrs_str PySem.F.slot_str_join PySem.F.type_str_join ?_ ?_ ?_ ?_ ?_ ?_); walk_at "r5")
  | (with_reducible first | refine ⟨_, rfl, ?_⟩ | refine ⟨IsA.str _, ?_⟩)
  | ((with_reducible refine' ⟨IsA.list ?k0, ?_⟩); (case k0 => walk_at "m_H"); (all_goals skip))
  | ((with_reducible refine' ⟨IsA.idict ?k0, ?_⟩); (case k0 => walk_at "m_H"); (all_goals skip))
  | ((with_reducible refine' ⟨IsA.sdict ?k0, ?_⟩); (case k0 => walk_at "m_H"); (all_goals skip))
  | (with_reducible first
    | refine we_SubSlice ?_ | refine we_Sub ?_ | refine wp_none ?_ | refine wp_some ?_ | refine wl_nil ?_
    | refine wb_add ?_ | refine wb_sub ?_ | refine wb_and ?_ | refine wb_or ?_
    | refine wc_lt ?_ | refine wc_gt ?_ | refine wc_le ?_ | refine wc_ge ?_ | refine wc_eq ?_ | refine wc_neI ?_ | refine wt_int ?_ | refine wc_eqS ?_ | refine wc_neS ?_ | refine wc_inS ?_ | refine wc_notinS ?_ | refine wc_isNotB ?_)
  | ((with_reducible first | refine' wb_mod ?_ ?_ | refine' wb_mulI ?_ ?_); walk_at "m_dn")
  | ((with_reducible refine' wb_div ?_ ?_ ?_); walk_at "m_dn"; walk_at "m_dn")
  | ((with_reducible refine' ite_T ?_ ?_); first | decide | decide +kernel)
  | ((with_reducible refine' ite_F ?_ ?_); first | decide | decide +kernel)
  | fail "m: no rule"))

/-! Pl1 -/
/-! plain: one sign replaced -/
noncomputable def gOne (c : Nat) (z : List Nat) (d : Nat) : List Nat := if d = c then z else [d]
theorem gOne_free (c : Nat) (z : List Nat) : ∀ l : List Nat, c ∉ l → l.flatMap (gOne c z) = l
  | [], _ => rfl
  | k :: r, h => by
    have h1 : ¬ k = c := fun e => h (e ▸ List.mem_cons_self)
    rw [List.flatMap_cons, gOne_free c z r fun h' => h (List.mem_cons_of_mem _ h')]
    simp [gOne, h1]
theorem gOne_join (c : Nat) (z : List Nat) : ∀ parts : List Str, (∀ p ∈ parts, c ∉ p.cps.toList) → (Str.join ⟨#[c]⟩ parts).cps.toList.flatMap (gOne c z) = (Str.join ⟨z.toArray⟩ parts).cps.toList
  | [], _ => rfl
  | [p], h => gOne_free c z _ (h p (List.mem_singleton.mpr rfl))
  | p :: q :: r, h => by
    have e1 : ∀ s : Str, (Str.join s (p :: q :: r)).cps.toList = p.cps.toList ++ s.cps.toList ++ (Str.join s (q :: r)).cps.toList := fun s => by
      show (p ++ s ++ Str.join s (q :: r)).cps.toList = _
      simp [Str.cps_append]
    rw [e1, e1, List.flatMap_append, List.flatMap_append, gOne_free c z _ (h p List.mem_cons_self), gOne_join c z (q :: r) fun p' hp => h p' (List.mem_cons_of_mem _ hp)]
    simp [gOne]
theorem rep_eq (x : List Nat) (c : Nat) (z : List Nat) :
    (if Txt.contains ⟨x.toArray⟩ ⟨#[c]⟩ then Txt.replace ⟨x.toArray⟩ ⟨#[c]⟩ ⟨z.toArray⟩ else ⟨x.toArray⟩ : Str) = ⟨(x.flatMap (gOne c z)).toArray⟩ := by
  have hc : Txt.contains ⟨x.toArray⟩ ⟨#[c]⟩ = decide (c ∈ x) := StrLaws.found_one ⟨x.toArray⟩ c
  rw [hc]
  by_cases h : c ∈ x
  · simp only [h, decide_true, if_true]
    rw [StrLaws.replace_one]
    have h2 := gOne_join c z _ (StrLaws.split_free ⟨x.toArray⟩ c)
    rw [StrLaws.join_split] at h2
    refine Str.ext' ?_
    apply Array.toList_inj.mp
    rw [← h2]
  · simp only [h, decide_false, Bool.false_eq_true, if_false]
    rw [gOne_free c z x h]

/-- the nine signs, by their numbers -/
noncomputable def nine : List Nat := [38, 60, 62, 34, 13, 10, 9, 98, 101]
noncomputable def esc (h d : Nat) : List Nat :=
  let amp := [38, 97, 109, 112, 59]
  let lt := [38, 108, 116, 59]
  let gt := [38, 103, 116, 59]
  let quot := [38, 113, 117, 111, 116, 59]
  match h with
  | 0 => if d = 38 then amp else if d = 60 then lt else if d = 62 then gt else [d]
  | 1 => if d = 38 then amp else if d = 60 then lt else if d = 62 then gt else if d = 34 then quot else if d = 13 then [38, 35, 49, 51, 59] else if d = 10 then [38, 35, 49, 48, 59] else if d = 9 then [38, 35, 48, 57, 59] else [d]
  | 2 => if d = 38 then amp else if d = 62 then gt else if d = 34 then quot else [d]
  | 3 => if d = 38 then amp else if d = 60 then lt else if d = 62 then gt else if d = 13 then [38, 35, 120, 68, 59] else [d]
  | _ => if d = 38 then amp else if d = 60 then lt else if d = 34 then quot else if d = 9 then [38, 35, 120, 57, 59] else if d = 10 then [38, 35, 120, 65, 59] else if d = 13 then [38, 35, 120, 68, 59] else [d]
noncomputable def escS (h : Nat) (l : List Nat) : Str := ⟨(l.flatMap (esc h)).toArray⟩
noncomputable def stg (f : Nat → List Nat) (c : Nat) (z : List Nat) (d : Nat) : List Nat := (f d).flatMap (gOne c z)
theorem flatMap_stg (l : List Nat) (f : Nat → List Nat) (c : Nat) (z : List Nat) : (l.flatMap f).flatMap (gOne c z) = l.flatMap (stg f c z) := by
  rw [List.flatMap_assoc]; rfl
theorem flatMap_nine {f g : Nat → List Nat} (h : ∀ d ∈ nine, f d = g d) {l : List Nat} (hl : ∀ d ∈ l, d ∈ nine) : l.flatMap f = l.flatMap g := by
  induction l with
  | nil => rfl
  | cons a l ih => rw [List.flatMap_cons, List.flatMap_cons, h a (hl a List.mem_cons_self), ih fun d hd => hl d (List.mem_cons_of_mem _ hd)]
theorem flatMap_len {f : Nat → List Nat} (h : ∀ d ∈ nine, (f d).length ≤ 6) {l : List Nat} (hl : ∀ d ∈ l, d ∈ nine) : (l.flatMap f).length ≤ 6 * l.length := by
  induction l with
  | nil => simp
  | cons a l ih =>
    rw [List.flatMap_cons, List.length_append, List.length_cons]
    have := h a (hl a List.mem_cons_self)
    have := ih fun d hd => hl d (List.mem_cons_of_mem _ hd)
    omega

/-! Pl2 -/
/-! words: letters are numbers, ch gives each its sign -/
noncomputable def T (ch : Nat → Nat) (u : List Nat) : Str := ⟨(u.map ch).toArray⟩
theorem T_list (ch : Nat → Nat) (u : List Nat) : (T ch u).cps.toList = u.map ch := rfl
theorem T_len (ch : Nat → Nat) (u : List Nat) : (T ch u).length = u.length := by simp [T, Str.length]
theorem T_inj {ch : Nat → Nat} (hc : ∀ i j, ch i = ch j → i = j) {u v : List Nat} (h : T ch u = T ch v) : u = v := by
  have := congrArg (fun s : Str => s.cps.toList) h
  simp only [T_list] at this
  exact List.map_inj_right hc |>.mp this
theorem T_eq {ch : Nat → Nat} {x : Str} {u : List Nat} (h : x.cps.toList = u.map ch) : x = T ch u := Str.ext' (Array.toList_inj.mp (by rw [h]; rfl))
theorem T_slice (ch : Nat → Nat) (u : List Nat) {i j : Int} (h : 0 ≤ i ∧ i ≤ j ∧ j ≤ u.length) : Txt.slice (T ch u) (some i) (some j) = T ch ((u.drop i.toNat).take (j - i).toNat) := by
  show StrLaws.sliceText _ _ _ = _
  rw [StrLaws.sliceText_plain (by rw [T_list, List.length_map]; exact h)]
  refine T_eq ?_
  simp [T_list]
theorem T_to (ch : Nat → Nat) (u : List Nat) {j : Int} (h : 0 ≤ j ∧ j ≤ u.length) : Txt.slice (T ch u) none (some j) = T ch (u.take j.toNat) := by
  show StrLaws.sliceText _ _ _ = _
  rw [StrLaws.sliceText_to (by rw [T_list, List.length_map]; exact h)]
  refine T_eq ?_
  simp [T_list]
theorem T_from (ch : Nat → Nat) (u : List Nat) {i : Int} (h : 0 ≤ i ∧ i ≤ u.length) : Txt.slice (T ch u) (some i) none = T ch (u.drop i.toNat) := by
  show StrLaws.sliceText _ _ _ = _
  rw [StrLaws.sliceText_from (by rw [T_list, List.length_map]; exact h)]
  refine T_eq ?_
  simp only [T_list, List.length_map, List.map_drop]
  rw [List.take_of_length_le (by simp; omega)]
theorem T_last (ch : Nat → Nat) (u : List Nat) (h : u ≠ []) : Txt.slice (T ch u) (some (-1)) none = T ch (u.drop (u.length - 1)) := by
  have hl : 0 < u.length := List.length_pos_iff.mpr h
  show StrLaws.sliceText _ _ _ = _
  rw [StrLaws.sliceText_neg_lo _ _ (by decide) (by rw [T_len]; omega)]
  have := T_from ch u (i := -1 + (T ch u).length) (by rw [T_len]; omega)
  rw [show Txt.slice (T ch u) (some (-1 + ((T ch u).length : Int))) none = StrLaws.sliceText (T ch u) (some (-1 + ((T ch u).length : Int))) none from rfl] at this
  rw [this, T_len]
  congr 2
  omega
theorem T_butlast (ch : Nat → Nat) (u : List Nat) (h : u ≠ []) : Txt.slice (T ch u) none (some (-1)) = T ch (u.take (u.length - 1)) := by
  have hl : 0 < u.length := List.length_pos_iff.mpr h
  show StrLaws.sliceText _ _ _ = _
  rw [StrLaws.sliceText_neg_hi _ _ (by decide) (by rw [T_len]; omega)]
  have := T_to ch u (j := -1 + (T ch u).length) (by rw [T_len]; omega)
  rw [show Txt.slice (T ch u) none (some (-1 + ((T ch u).length : Int))) = StrLaws.sliceText (T ch u) none (some (-1 + ((T ch u).length : Int))) from rfl] at this
  rw [this, T_len]
  congr 2
  omega
theorem T_inside (ch : Nat → Nat) (u : List Nat) (h : u ≠ []) : Txt.slice (T ch u) (some 1) (some (-1)) = T ch ((u.drop 1).take (u.length - 2)) := by
  have hl : 0 < u.length := List.length_pos_iff.mpr h
  show StrLaws.sliceText _ _ _ = _
  rw [StrLaws.sliceText_neg_hi _ _ (by decide) (by rw [T_len]; omega)]
  by_cases h2 : 2 ≤ u.length
  · have := T_slice ch u (i := 1) (j := -1 + (T ch u).length) (by rw [T_len]; omega)
    rw [show Txt.slice (T ch u) (some 1) (some (-1 + ((T ch u).length : Int))) = StrLaws.sliceText (T ch u) (some 1) (some (-1 + ((T ch u).length : Int))) from rfl] at this
    rw [this, T_len]
    congr 2
    omega
  · obtain ⟨a, rfl⟩ : ∃ a, u = [a] := len1 (by omega)
    rfl

noncomputable def addW (acc : List (List Nat)) (u : List Nat) : List (List Nat) := if u ∈ acc then acc else acc ++ [u]
noncomputable def rowW (w : List Nat) (size n : Nat) (acc : List (List Nat)) : List (List Nat) := (List.range n).foldl (fun acc at_ => addW acc ((w.drop at_).take size)) acc
noncomputable def piecesTo (w : List Nat) (k : Nat) : List (List Nat) := (List.range k).foldl (fun acc size => rowW w size (6 - size) acc) []
noncomputable def piecesW (w : List Nat) : List (List Nat) := piecesTo w 6
theorem rowW_succ (w : List Nat) (size n : Nat) (acc : List (List Nat)) : rowW w size (n + 1) acc = addW (rowW w size n acc) ((w.drop n).take size) := by
  unfold rowW; rw [List.range_succ, List.foldl_append]; rfl
theorem piecesTo_succ (w : List Nat) (k : Nat) : piecesTo w (k + 1) = rowW w k (6 - k) (piecesTo w k) := by
  unfold piecesTo; rw [List.range_succ, List.foldl_append]; rfl
theorem addW_len (acc : List (List Nat)) (u : List Nat) : (addW acc u).length ≤ acc.length + 1 := by
  unfold addW; split <;> simp
theorem rowW_len (w : List Nat) (size n : Nat) (acc : List (List Nat)) : (rowW w size n acc).length ≤ acc.length + n := by
  induction n with
  | zero => exact Nat.le_refl _
  | succ n ih => rw [rowW_succ]; have := addW_len (rowW w size n acc) ((w.drop n).take size); omega
theorem piecesTo_len (w : List Nat) (k : Nat) : (piecesTo w k).length ≤ 6 * k := by
  induction k with
  | zero => exact Nat.le_refl _
  | succ k ih => rw [piecesTo_succ]; have := rowW_len w k (6 - k) (piecesTo w k); omega

/-! Fn0 -/
theorem Ok.le {K : Frag} {c : Cx} {n m : Nat} (O : Ok K c n) (h : m ≤ n) : Ok K c m where
  kin := O.kin
  top := O.top
  handled := O.handled
  depth := by have := O.depth; omega
  units := by have := O.units; omega
  kind := O.kind
  glob := O.glob
  blt := O.blt
  capair := O.capair
section
variable {p : Params} {n : Nat} {c : Cx} {σ : St} {P : AV → St → Prop}

theorem sp_neg (O : Ok (KP p) c n) (hn : 1 ≤ n) {us : List Value} {i : Int} (hus : All₂ VR [.int i] us) (h : P (.int (-i)) σ) : WE c (call (.ref 56) us) P σ := by
  obtain ⟨m, rfl⟩ : ∃ m, n = m + 1 := ⟨n - 1, by omega⟩
  refine' call_fn (names := [Str.ofString "a"]) O hus ?ho ?hcd rfl ?hb ?hk ?hnd ?hkk ?hco ?hg ?h
  walk_at "m_call"
  case h =>
    intro L cc O
    walk_at "m"
    walk_at "m"
    walk_at "m"
    walk_at "m"
    intro u hu
    exact wun_neg hu h
theorem sp_add (O : Ok (KP p) c n) (hn : 1 ≤ n) {us : List Value} {i j : Int} (hus : All₂ VR [.int i, .int j] us) (h : P (.int (i + j)) σ) : WE c (call (.ref 35) us) P σ := by
  obtain ⟨m, rfl⟩ : ∃ m, n = m + 1 := ⟨n - 1, by omega⟩
  refine' call_fn (names := [Str.ofString "a", Str.ofString "b"]) O hus ?ho ?hcd rfl ?hb ?hk ?hnd ?hkk ?hco ?hg ?h
  walk_at "m_call"
  case h =>
    intro L cc O
    iterate 6 walk_at "m"
    exact h
theorem sp_mul (O : Ok (KP p) c n) (hn : 1 ≤ n) {us : List Value} {i j : Int} (hus : All₂ VR [.int i, .int j] us) (hij : IntMulOk i j) (h : P (.int (i * j)) σ) : WE c (call (.ref 49) us) P σ := by
  obtain ⟨m, rfl⟩ : ∃ m, n = m + 1 := ⟨n - 1, by omega⟩
  refine' call_fn (names := [Str.ofString "a", Str.ofString "b"]) O hus ?ho ?hcd rfl ?hb ?hk ?hnd ?hkk ?hco ?hg ?h
  walk_at "m_call"
  case h =>
    intro L cc O
    iterate 5 walk_at "m"
    exact wb_mul hij h
theorem sp_and (O : Ok (KP p) c n) (hn : 1 ≤ n) {us : List Value} {i j : Int} (hus : All₂ VR [.int i, .int j] us) (h : P (.int (Builtin.bitAnd i j)) σ) : WE c (call (.ref 42) us) P σ := by
  obtain ⟨m, rfl⟩ : ∃ m, n = m + 1 := ⟨n - 1, by omega⟩
  refine' call_fn (names := [Str.ofString "a", Str.ofString "b"]) O hus ?ho ?hcd rfl ?hb ?hk ?hnd ?hkk ?hco ?hg ?h
  walk_at "m_call"
  case h =>
    intro L cc O
    iterate 6 walk_at "m"
    exact h
theorem sp_or (O : Ok (KP p) c n) (hn : 1 ≤ n) {us : List Value} {i j : Int} (hus : All₂ VR [.int i, .int j] us) (h : P (.int (Builtin.bitOr i j)) σ) : WE c (call (.ref 63) us) P σ := by
  obtain ⟨m, rfl⟩ : ∃ m, n = m + 1 := ⟨n - 1, by omega⟩
  refine' call_fn (names := [Str.ofString "a", Str.ofString "b"]) O hus ?ho ?hcd rfl ?hb ?hk ?hnd ?hkk ?hco ?hg ?h
  walk_at "m_call"
  case h =>
    intro L cc O
    iterate 6 walk_at "m"
    exact h
theorem sp_notB (O : Ok (KP p) c n) (hn : 1 ≤ n) {us : List Value} {b : Bool} (hus : All₂ VR [.bool b] us) (h : P (.bool (!b)) σ) : WE c (call (.ref 28) us) P σ := by
  obtain ⟨m, rfl⟩ : ∃ m, n = m + 1 := ⟨n - 1, by omega⟩
  refine' call_fn (names := [Str.ofString "a"]) O hus ?ho ?hcd rfl ?hb ?hk ?hnd ?hkk ?hco ?hg ?h
  walk_at "m_call"
  case h =>
    intro L cc O
    iterate 4 walk_at "m"
    intro u hu
    exact wun_not hu (wt_bool h)
theorem sp_notS (O : Ok (KP p) c n) (hn : 1 ≤ n) {us : List Value} {x : Str} (hus : All₂ VR [.str x] us) (hx : x.length ≤ 100000) (h : P (.bool (!decide (x.length ≠ 0))) σ) : WE c (call (.ref 28) us) P σ := by
  obtain ⟨m, rfl⟩ : ∃ m, n = m + 1 := ⟨n - 1, by omega⟩
  refine' call_fn (names := [Str.ofString "a"]) O hus ?ho ?hcd rfl ?hb ?hk ?hnd ?hkk ?hco ?hg ?h
  walk_at "m_call"
  case h =>
    intro L cc O
    iterate 4 walk_at "m"
    intro u hu
    exact wun_not hu (wt_str hx h)

noncomputable def setN (ks : List Nat) : Nat := (ks.map (2 ^ ·)).sum
theorem setN_int (ks : List Nat) : (ks.map fun k => ((2 : Int) ^ k)).sum = (setN ks : Int) := by
  induction ks with
  | nil => rfl
  | cons k r ih =>
    simp only [List.map_cons, List.sum_cons, setN] at ih ⊢
    rw [ih]; simp
noncomputable def natAV (k : Nat) : AV := .int (k : Int)

theorem sp_set (O : Ok (KP p) c n) (hn : 1 ≤ n) {us : List Value} {a : Addr} {ks : List Nat} (hus : All₂ VR [.ref a] us) (ha : σ.H a = some (.list (ks.map natAV))) (hk : ∀ k ∈ ks, k < 100) (hkl : ks.length ≤ 1000)
    (h : ∀ H', Ext σ.H H' → P (.int (setN ks)) { loc := σ.loc, H := H' }) : WE c (call (.ref 174) us) P σ := by
  obtain ⟨m, rfl⟩ : ∃ m, n = m + 1 := ⟨n - 1, by omega⟩
  refine' call_fn (names := [Str.ofString "places"]) O hus ?ho ?hcd rfl ?hb ?hk ?hnd ?hkk ?hco ?hg ?h
  walk_at "m_call"
  case h =>
    intro L cc O
    iterate 4 walk_at "m"
    refine' comp_map O (ks.map natAV) (ks.map fun k => AV.int ((2 : Int) ^ k)) (fun H => H a = some (.list (ks.map natAV))) (by simp) ?hdep ?hev ?hlen ?hcell ?hfree ?hkind ?hx ?hnames ?hturn ?hend ?hs ?ht
    walk_at "m_comp"
    case hdep => exact fun H e => e _ _ ha
    case hev =>
      walk_at "m"
      exact ⟨⟨_, itbl_list O.handled a _, ha⟩, rfl, Ext.refl _⟩
    case hlen => simp; omega
    case hturn =>
      intro D i v w H1 O hv hw hE
      simp only [List.getElem?_map, Option.map_eq_some_iff] at hv hw
      obtain ⟨k, hk1, rfl⟩ := hv
      obtain ⟨k', hk2, rfl⟩ := hw
      rw [hk1] at hk2; cases hk2
      iterate 3 walk_at "m"
      have := hk k (List.mem_of_getElem? hk1)
      exact wb_pow (by omega) (by rw [show Builtin.Int.intBits 2 = 2 from by decide +kernel]; unfold Builtin.Int.intTooBig bitsLine; simp; omega) ⟨rfl, hE⟩
    case hend =>
      intro r H' hE hr hH
      walk_at "m"
      intro us hus
      have e : (ks.map fun k => AV.int ((2 : Int) ^ k)) = (ks.map fun k => (2 : Int) ^ k).map AV.int := by simp
      rw [e] at hH
      refine wk_sum O hus (LA.ours hH) ?_
      rw [setN_int]
      exact h H' hE

/-- the nine signs -/
noncomputable def sgn : Str := Str.ofString "&<>\"\r\n\tbe"
theorem sgn_len : sgn.length = 9 := by decide +kernel
theorem charAt_some {x : Str} {i : Int} (h0 : 0 ≤ i) (h : i < x.length) : (Txt.charAt x i).isSome = true := by
  unfold Txt.charAt seqIndex?
  have h2 : ¬ i < 0 := by omega
  have h3 : i.toNat < x.cps.size := by have : x.length = x.cps.size := rfl; omega
  simp only [h2, if_false]
  rw [if_pos (by simp; exact ⟨h0, h⟩)]
  simp [h3]
noncomputable def kindS (cell step : Int) (k : Nat) : Str := Txt.item sgn ((cell.fdiv 243 + step * (k : Int)).fmod 9)

theorem sp_kinds (O : Ok (KP p) c n) (hn : 1 ≤ n) {us : List Value} {cell step : Int} (hus : All₂ VR [.int cell, .int step] us) (hst : step.natAbs ≤ 1000)
    (h : ∀ r H', Ext σ.H H' → σ.H r = none → H' r = some (.list ([kindS cell step 0, kindS cell step 1, kindS cell step 2].map .str)) → P (.ref r) { loc := σ.loc, H := H' }) : WE c (call (.ref 136) us) P σ := by
  obtain ⟨m, rfl⟩ : ∃ m, n = m + 1 := ⟨n - 1, by omega⟩
  refine' call_fn (names := [Str.ofString "cell", Str.ofString "step"]) O hus ?ho ?hcd rfl ?hb ?hk ?hnd ?hkk ?hco ?hg ?h
  walk_at "m_call"
  case h =>
    intro L cc O
    iterate 2 walk_at "m"
    refine' comp_map O (rangeItems 0 1 3) ([kindS cell step 0, kindS cell step 1, kindS cell step 2].map .str) (fun _ => True) (by rfl) (fun _ _ => trivial) ?hev ?hlen ?hcell ?hfree ?hkind ?hx ?hnames ?hturn ?hend ?hs ?ht
    walk_at "m_comp"
    case hev =>
      iterate 4 walk_at "m"
      intro us hus
      refine wk_range1 O hus fun r hr => ?_
      exact ⟨⟨_, itbl_range O.handled r (n := 3) rfl rfl, H_same⟩, rfl, Ext.put _ hr⟩
    case hlen => decide
    case hturn =>
      intro D i v w H1 O hv hw hE
      have hi : i < 3 := (List.getElem?_eq_some_iff.mp hv).1
      obtain rfl : v = .int (i : Int) := by
        have : (rangeItems 0 1 3)[i]? = some (.int (0 + (i : Int) * 1)) := by simp [rangeItems, hi]
        rw [this] at hv; simpa using hv.symm
      obtain rfl : w = .str (kindS cell step i) := by
        match i, hi with
        | 0, _ => simpa using hw.symm
        | 1, _ => simpa using hw.symm
        | 2, _ => simpa using hw.symm
      iterate 3 walk_at "m"
      repeat walk_at "m"
      have h1 := Int.fmod_nonneg_of_pos (cell.fdiv 243 + step * (i : Int)) (show (0 : Int) < 9 by decide)
      have h2 := Int.fmod_lt_of_pos (cell.fdiv 243 + step * (i : Int)) (show (0 : Int) < 9 by decide)
      exact wi_str (charAt_some h1 (by rw [show (Str.ofString "&<>\"\r\n\tbe").length = 9 from sgn_len]; exact h2)) (by unfold fitsSsize; simp; omega) ⟨rfl, hE⟩ (fun _ _ => rfl)
    case hend =>
      intro r H' hE hr hH
      exact h r H' hE hr hH
end

/-! Fn1 -/
noncomputable abbrev dots : Str := Str.ofString "..."
noncomputable def findAll (got : Str) : List Str → Int → Int → Bool
  | [], _, _ => true
  | w :: ws, sp, ep => let k := find4 got w sp ep; if k < 0 then false else findAll got ws (k + w.length) ep
noncomputable def ell3 (ws : List Str) (got : Str) (sp ep : Int) : Bool := if ep < sp then false else findAll got ws sp ep
noncomputable def ell2 (ws : List Str) (got : Str) (sp : Int) : Bool :=
  let w := ws.getLast?.getD dots
  if w.length ≠ 0 then (if Txt.endswith got w then ell3 ws.dropLast got sp ((got.length : Int) - w.length) else false) else ell3 ws got sp got.length
noncomputable def ell1 (ws : List Str) (got : Str) : Bool :=
  let w := ws.head?.getD dots
  if w.length ≠ 0 then (if Txt.startswith got w then ell2 ws.tail got w.length else false) else ell2 ws got 0
noncomputable def ellM (want got : Str) : Bool := if Txt.contains want dots then ell1 (Txt.split want dots) got else decide (want = got)
section
variable {p : Params} {n : Nat} {c : Cx} {σ : St} {P : AV → St → Prop}


theorem Ext.put' {H : AH} {σ : St} {a : Addr} {o : AO} (hE : Ext H σ.H) (ha : H a = none) : Ext H (σ.put a o).H := fun b ob e => by
  have : b ≠ a := by rintro rfl; rw [ha] at e; cases e
  simpa [St.put, this] using hE b ob e
theorem map_get {α β : Type} {f : α → β} {l : List α} {i : Nat} {a : α} (h : l[i]? = some a) : (l.map f)[i]? = some (f a) := by simp [h]
theorem eraseIdx_map {α β : Type} (f : α → β) (l : List α) (i : Nat) : (l.map f).eraseIdx i = (l.eraseIdx i).map f := by
  induction l generalizing i with
  | nil => rfl
  | cons a l ih => cases i with
    | zero => rfl
    | succ i => simp [ih]

theorem sp_ell (O : Ok (KP p) c n) (hn : 1 ≤ n) {us : List Value} {want got : Str} (hus : All₂ VR [.str want, .str got] us) (hw : want.length ≤ 1000) (hg : got.length ≤ 1000)
    (hl : Txt.contains want dots = true → 2 ≤ (Txt.split want dots).length ∧ (Txt.split want dots).length ≤ 1000 ∧ ∀ w ∈ Txt.split want dots, w.length ≤ 1000)
    (h : ∀ H', Ext σ.H H' → P (.bool (ellM want got)) { loc := σ.loc, H := H' }) : WE c (call (.ref 21) us) P σ := by
  obtain ⟨m, rfl⟩ : ∃ m, n = m + 1 := ⟨n - 1, by omega⟩
  refine' call_fn (names := [Str.ofString "want", Str.ofString "got"]) O hus ?ho ?hcd rfl ?hb ?hk ?hnd ?hkk ?hco ?hg ?h
  walk_at "m_call"
  case h =>
    intro L cc O
    repeat walk_at "m"
    refine ite_of (fun hc => ?_) (fun hc => ?_)
    · have hc' : Txt.contains want dots = false := by simpa using hc
      repeat walk_at "m"
      have := h σ.H (Ext.refl _)
      rw [ellM, hc'] at this
      exact (by simpa using this : P (.bool (decide (want = got))) _)
    have hc' : Txt.contains want dots = true := by simpa using hc
    obtain ⟨hl2, hlen, hl3⟩ := hl hc'
    rw [ellM, if_pos hc'] at h
    repeat walk_at "m"
    intro u us hu hus
    refine wm_split O hu hus (by decide) (by omega) (fun a ha => ?_)
    generalize Txt.split want dots = ws at *
    obtain ⟨w0, w1, rest, rfl⟩ : ∃ w0 w1 rest, ws = w0 :: w1 :: rest := by
      match ws, hl2 with | a :: b :: r, _ => exact ⟨a, b, r, rfl⟩
    repeat walk_at "m"
    intro us hus
    refine wk_len_list hus (LA.ours (by walk_at "m_H")) ?_
    repeat walk_at "m"
    refine ⟨by simp; omega, ?_⟩
    repeat walk_at "m"
    intro us hus
    refine wk_len_str hus (by omega) ?_
    repeat walk_at "m"
    refine wi_list (by walk_at "m_H") (by decide) (by decide) (v := .str w0) rfl ?_ (fun _ _ => rfl)
    refine wf_cons ?_
    refine WG.mono (P := fun f σ1 => (f = .next ∧ ∃ (sp : Int) (ws1 : List Str), ell1 (w0 :: w1 :: rest) got = ell2 ws1 got sp ∧ ws1 ≠ [] ∧ (∀ w ∈ ws1, w.length ≤ 1000) ∧ ws1.length ≤ 100000 ∧
      σ1.loc (Str.ofString "startpos") = some (.int sp) ∧ σ1.loc (Str.ofString "endpos") = some (.int got.length) ∧ σ1.loc (Str.ofString "ws") = some (.ref a) ∧ σ1.loc (Str.ofString "got") = some (.str got) ∧ σ1.H a = some (.list (ws1.map .str)) ∧ Ext σ.H σ1.H) ∨
      (f = .ret (.bool (ell1 (w0 :: w1 :: rest) got)) ∧ Ext σ.H σ1.H)) ?_ ?_
    · refine WG.post fun Q hQ => ?_
      repeat walk_at "m"
      refine wt_str (by have := hl3 w0 (by simp); omega) ?_
      refine ite_of (fun h0 => ?_) (fun h0 => ?_)
      · have h0' : w0.length ≠ 0 := by simpa using h0
        repeat walk_at "m"
        intro u us hu hus
        refine wm_startswith hu hus ?_
        repeat walk_at "m"
        refine ite_of (fun h1 => ?_) (fun h1 => ?_)
        · repeat walk_at "m"
          intro us hus
          refine wk_len_str hus (by have := hl3 w0 (by simp); omega) ?_
          repeat walk_at "m"
          refine ⟨a, _, 0, 0, rfl, rfl, (by walk_at "m_H"), by decide, by simp [seqIndex?]; omega, by simp, ?_⟩
          repeat walk_at "m"
          refine hQ _ _ (.inl ⟨rfl, w0.length, w1 :: rest, ?_, by simp, fun w hw => hl3 w (List.mem_cons_of_mem _ hw), ?_, (by walk_at "m_loc"), (by walk_at "m_loc"), (by walk_at "m_loc"), (by walk_at "m_loc"), H_same, ?_⟩)
          · simp [ell1, h0', h1]
          · have := hlen; simp at this ⊢; omega
          · exact Ext.put' (Ext.put _ ha) ha
        · repeat walk_at "m"
          refine hQ _ _ (.inr ⟨?_, Ext.put _ ha⟩)
          simp [ell1, h0', h1]
      · have h0' : w0.length = 0 := by simpa using h0
        repeat walk_at "m"
        refine hQ _ _ (.inl ⟨rfl, 0, w0 :: w1 :: rest, ?_, by simp, hl3, by omega, (by walk_at "m_loc"), (by walk_at "m_loc"), (by walk_at "m_loc"), (by walk_at "m_loc"), (by walk_at "m_H"), Ext.put _ ha⟩)
        simp [ell1, h0']
    rintro f σ1 (⟨rfl, sp, ws1, he1, hne, hl4, hll, q1, q2, q3, q4, q5, q6⟩ | ⟨rfl, hE⟩)
    case inr => exact h _ hE
    rw [he1] at h
    clear he1 hl3 hl2 hlen
    repeat walk_at "m"
    intro u hu
    refine wun_neg hu ?_
    obtain ⟨wl, hwl⟩ : ∃ wl, ws1.getLast? = some wl := by
      cases e : ws1.getLast? with
      | none => exact absurd (List.getLast?_eq_none_iff.mp e) hne
      | some w => exact ⟨w, rfl⟩
    have hwm : wl ∈ ws1 := List.mem_of_getLast? hwl
    have hpos : 0 < ws1.length := List.length_pos_iff.mpr hne
    have hgl : ws1[ws1.length - 1]? = some wl := by rw [← hwl, List.getLast?_eq_getElem?]
    refine wi_list_neg (by walk_at "m_H") (by decide) (by simp; omega) (v := .str wl) (map_get (by rw [← hgl]; congr 1; simp; omega)) ?_ (fun _ _ => rfl)
    refine wf_cons ?_
    refine WG.mono (P := fun f σ1 => (f = .next ∧ ∃ (ep : Int) (ws2 : List Str), ell2 ws1 got sp = ell3 ws2 got sp ep ∧ (∀ w ∈ ws2, w.length ≤ 1000) ∧ ws2.length ≤ 100000 ∧
      σ1.loc (Str.ofString "startpos") = some (.int sp) ∧ σ1.loc (Str.ofString "endpos") = some (.int ep) ∧ σ1.loc (Str.ofString "ws") = some (.ref a) ∧ σ1.loc (Str.ofString "got") = some (.str got) ∧ σ1.H a = some (.list (ws2.map .str)) ∧ Ext σ.H σ1.H) ∨
      (f = .ret (.bool (ell2 ws1 got sp)) ∧ Ext σ.H σ1.H)) ?_ ?_
    · refine WG.post fun Q hQ => ?_
      repeat walk_at "m"
      refine wt_str (by have := hl4 wl hwm; omega) ?_
      refine ite_of (fun h0 => ?_) (fun h0 => ?_)
      · have h0' : wl.length ≠ 0 := by simpa using h0
        repeat walk_at "m"
        intro u us hu hus
        refine wm_endswith hu hus ?_
        repeat walk_at "m"
        refine ite_of (fun h1 => ?_) (fun h1 => ?_)
        · repeat walk_at "m"
          intro us hus
          refine wk_len_str hus (by have := hl4 wl hwm; omega) ?_
          intro u w hu hw
          refine wi_sub hu hw ?_
          repeat walk_at "m"
          intro u hu
          refine wun_neg hu ?_
          refine ⟨a, _, -1, ws1.length - 1, rfl, rfl, (by walk_at "m_H"), by decide, by simp [seqIndex?]; omega, by simp; omega, ?_⟩
          repeat walk_at "m"
          refine hQ _ _ (.inl ⟨rfl, (got.length : Int) - wl.length, ws1.dropLast, ?_, fun w hw => hl4 w (List.dropLast_subset _ hw), by simp; omega, (by walk_at "m_loc"), (by walk_at "m_loc"), (by walk_at "m_loc"), (by walk_at "m_loc"), ?_, ?_⟩)
          · simp [ell2, hwl, h0', h1]
          · rw [eraseIdx_map, List.eraseIdx_length_sub_one]; exact H_same
          · exact Ext.put' q6 ha
        · repeat walk_at "m"
          refine hQ _ _ (.inr ⟨?_, q6⟩)
          simp [ell2, hwl, h0', h1]
      · have h0' : wl.length = 0 := by simpa using h0
        repeat walk_at "m"
        refine hQ _ _ (.inl ⟨rfl, got.length, ws1, ?_, hl4, hll, (by walk_at "m_loc"), (by walk_at "m_loc"), (by walk_at "m_loc"), (by walk_at "m_loc"), (by walk_at "m_H"), q6⟩)
        simp [ell2, hwl, h0']
    rintro f σ2 (⟨rfl, ep, ws2, he2, hl5, hll2, q1, q2, q3, q4, q5, q6⟩ | ⟨rfl, hE⟩)
    case inr => exact h _ hE
    rw [he2] at h
    clear he2 hl4 hgl hwl hwm
    repeat walk_at "m"
    refine ite_of (fun h0 => ?_) (fun h0 => ?_)
    · repeat walk_at "m"
      have := h _ q6
      rw [ell3, if_pos (by simpa using h0)] at this
      exact this
    rw [ell3, if_neg (by simpa using h0)] at h
    repeat walk_at "m"
    refine' wf_For O ?hev ?hx ?hs ?ht
    case hx => rfl
    case hs => intro u; rfl
    case ht => intro it v; rfl
    walk_at "m"
    refine ⟨ws2.map .str, fun H => H a = some (.list (ws2.map .str)), fun i σ' => ∃ sp' : Int, findAll got ws2 sp ep = findAll got (ws2.drop i) sp' ep ∧
      σ'.loc (Str.ofString "startpos") = some (.int sp') ∧ σ'.loc (Str.ofString "endpos") = some (.int ep) ∧ σ'.loc (Str.ofString "got") = some (.str got) ∧ Ext σ.H σ'.H,
      ⟨_, itbl_list O.handled a _, q5⟩, q5, ⟨sp, rfl, q1, q2, q4, q6⟩, ?_, ?_⟩
    · clear q1 q2 q3 q4 q5 q6
      refine fun i v σ3 hv hJ q5 => WG.post fun Q hQ => ?_
      obtain ⟨sp', he3, q1, q2, q4, q6⟩ := hJ
      simp only [List.getElem?_map, Option.map_eq_some_iff] at hv
      obtain ⟨w, hw1, rfl⟩ := hv
      have hwl := hl5 w (List.mem_of_getElem? hw1)
      have hdr : ws2.drop i = w :: ws2.drop (i + 1) := by
        obtain ⟨hlt, hge⟩ := List.getElem?_eq_some_iff.mp hw1
        rw [← hge]; exact List.drop_eq_getElem_cons hlt
      rw [hdr, findAll] at he3
      repeat walk_at "m"
      intro u us hu hus
      refine wm_find hu hus ?_
      repeat walk_at "m"
      refine ite_of (fun h0 => ?_) (fun h0 => ?_)
      · have h0' : find4 got w sp' ep < 0 := by simpa using h0
        repeat walk_at "m"
        have := h _ q6
        rw [he3] at this
        simp only [h0', if_true] at this
        exact hQ _ _ this
      · have h0' : ¬ find4 got w sp' ep < 0 := by simpa using h0
        repeat walk_at "m"
        intro us hus
        refine wk_len_str hus (by omega) ?_
        intro u w' hu hw
        refine wi_add hu hw ?_
        repeat walk_at "m"
        refine hQ _ _ ⟨⟨find4 got w sp' ep + w.length, ?_, (by walk_at "m_loc"), (by walk_at "m_loc"), (by walk_at "m_loc"), q6⟩, q5⟩
        rw [he3]
        simp only [h0', if_false]
    · rintro σ3 ⟨sp', he3, q1', q2', q4', q6'⟩ q5'
      repeat walk_at "m"
      have := h _ q6'
      rw [he3] at this
      simp only [List.length_map, List.drop_length, findAll] at this
      exact this
end

/-! Fn2 -/
section
variable {p : Params} {n : Nat} {c : Cx} {σ : St} {P : AV → St → Prop}

theorem sp_ask (O : Ok (KP p) c n) (hn : 2 ≤ n) {us : List Value} {a : Addr} {want got : Str} {due : Bool} (hus : All₂ VR [.ref a, .str want, .str got, .bool due] us) (hw : want.length ≤ 1000) (hg : got.length ≤ 1000)
    (hl : Txt.contains want dots = true → 2 ≤ (Txt.split want dots).length ∧ (Txt.split want dots).length ≤ 1000 ∧ ∀ w ∈ Txt.split want dots, w.length ≤ 1000)
    (hdue : ellM want got = due)
    (h : ∀ H', Ext σ.H H' → P (.bool due) { loc := σ.loc, H := H' }) : WE c (call (.ref 131) us) P σ := by
  obtain ⟨m, rfl⟩ : ∃ m, n = m + 1 := ⟨n - 1, by omega⟩
  refine' call_fn (names := [Str.ofString "wrong", Str.ofString "want", Str.ofString "got", Str.ofString "due"]) O hus ?ho ?hcd rfl ?hb ?hk ?hnd ?hkk ?hco ?hg ?h
  walk_at "m_call"
  case h =>
    intro L cc O
    repeat walk_at "m"
    intro us hus
    refine sp_ell O (by omega) hus hw hg hl fun H' hE => ?_
    rw [hdue]
    repeat walk_at "m"
    repeat walk_at "m"
    simp only [ne_eq, not_true_eq_false, decide_false, Bool.false_eq_true, if_false]
    repeat walk_at "m"
    exact h H' hE

theorem St.set_same {σ : St} {x : Str} {v : AV} (h : σ.loc x = some v) : σ.set x v = σ := by
  unfold St.set
  have : (fun y => if y = x then some v else σ.loc y) = σ.loc := by
    funext y
    by_cases e : y = x
    · subst e; simp [h]
    · simp [e]
  rw [this]
theorem wf_escF {K : Frag} {n : Nat} {c : Cx} {σ : St} {l : List Nat} (O : Ok K c n) (f : Nat → List Nat) (d : Nat) (zz : List Nat) {y y' z text : Str} {k1 k2 k3 : Nat} {p1 p2 p3 p4 p5 p6 p7 p8 p9 p10 : Pos} {P : AF → St → Prop}
    (hv : σ.loc text = some (.str ⟨(l.flatMap f).toArray⟩)) (hl : l.length ≤ 100) (hnine : ∀ d ∈ l, d ∈ nine)
    (hf : ∀ d ∈ nine, (f d).length ≤ 6) (hy : y = ⟨#[d]⟩) (hy' : y' = ⟨#[d]⟩) (hz : z = ⟨zz.toArray⟩) (hzl : 2 ≤ zz.length ∧ zz.length ≤ 14)
    (h : P .next (σ.set text (.str ⟨(l.flatMap (stg f d zz)).toArray⟩)))
    (hkl : c.env.kindOf text = some .local) (hd : (text == ("__debug__" : Str)) = false)
    (hs : swapsWith (.Call (.Attribute (.Name text p5) (Str.ofString "replace") p6) [.Constant (.str y') k2 p7, .Constant (.str z) k3 p8] [] p9) (some (.Name text p4)) p10.line c.env = pure false)
    (hbase : attributeBase (.Name text p5) (Str.ofString "replace") c.env (eval (.Name text p5) c.env) = eval (.Name text p5) c.env)
    (hfew : ((backTo p9 (starEach [.Constant (.str y') k2 p7, .Constant (.str z) k3 p8] c.env)).all (fun x => !x.1) && (backToKw p9 (keywordEach [] c.env)).all (fun x => x.1.isSome)
      && decide (([.Constant (.str y') k2 p7, .Constant (.str z) k3 p8] : List Expr).length + ([] : List Keyword).length + (if ([] : List Keyword).isEmpty then 0 else 1) < 30)) = true)
    (hline : (p6.endLine == p9.line) = true) {p11 : Pos} :
    WF c (exec (.If (.Compare (.Constant (.str y) k1 p1) [.In] [.Name text p2] p3) [.Assign [.Name text p4] (.Call (.Attribute (.Name text p5) (Str.ofString "replace") p6) [.Constant (.str y') k2 p7, .Constant (.str z) k3 p8] [] p9) p10] [] p11) c.env) P σ := by
  have hlen := flatMap_len hf hnine
  refine wf_esc O hv (by show (l.flatMap f).length ≤ 1000; omega) (by rw [hz]; exact hzl.2) ?_ ?_ hkl hd hs hbase hfew hline
  · rw [hy', hz]
    have : ¬ ((⟨#[d]⟩ : Str) = ⟨zz.toArray⟩) := fun e => by
      have := congrArg (fun s => s.cps.size) e
      simp at this; omega
    simpa using this
  · have e := rep_eq (l.flatMap f) d zz
    rw [flatMap_stg] at e
    rw [hy, hy', hz]
    cases hc : Txt.contains ⟨(l.flatMap f).toArray⟩ ⟨#[d]⟩ with
    | true =>
      rw [hc] at e
      simp only [if_true] at e ⊢
      rw [e]; exact h
    | false =>
      rw [hc] at e
      simp only [Bool.false_eq_true, if_false] at e ⊢
      rw [← e, St.set_same hv] at h
      exact h

theorem sp_esc0 (O : Ok (KP p) c n) (hn : 1 ≤ n) {us : List Value} {l : List Nat} (hus : All₂ VR [.str ⟨l.toArray⟩] us) (hl : l.length ≤ 100) (hnine : ∀ d ∈ l, d ∈ nine)
    (h : P (.str (escS 0 l)) σ) : WE c (call (.ref 77) us) P σ := by
  obtain ⟨m, rfl⟩ : ∃ m, n = m + 1 := ⟨n - 1, by omega⟩
  refine' call_fn (names := [Str.ofString "text"]) O hus ?ho ?hcd rfl ?hb ?hk ?hnd ?hkk ?hco ?hg ?h
  walk_at "m_call"
  case h =>
    intro L cc O
    have hpure : l.flatMap (fun d => [d]) = l := by simp
    walk_at "m"
    refine wf_Try ?_
    refine wf_cons ?_
    refine' wf_escF (l := l) O (fun d => [d]) 38 [38, 97, 109, 112, 59] ?hv hl hnine (by decide) (by decide +kernel) (by decide +kernel) (by decide +kernel) (by decide) ?_ ?k1 ?k2 ?k3 ?k4 ?k5 ?k6
    case hv => first | walk_at "m_loc" | (rw [hpure]; walk_at "m_loc")
    case k1 => rfl
    case k2 => rfl
    case k3 => rfl
    case k4 => rfl
    case k5 => rfl
    case k6 => rfl
    refine wf_cons ?_
    refine' wf_escF (l := l) O (stg (fun d => [d]) 38 [38, 97, 109, 112, 59]) 60 [38, 108, 116, 59] ?hv hl hnine (by decide) (by decide +kernel) (by decide +kernel) (by decide +kernel) (by decide) ?_ ?k1 ?k2 ?k3 ?k4 ?k5 ?k6
    case hv => first | walk_at "m_loc" | (rw [hpure]; walk_at "m_loc")
    case k1 => rfl
    case k2 => rfl
    case k3 => rfl
    case k4 => rfl
    case k5 => rfl
    case k6 => rfl
    refine wf_cons ?_
    refine' wf_escF (l := l) O (stg (stg (fun d => [d]) 38 [38, 97, 109, 112, 59]) 60 [38, 108, 116, 59]) 62 [38, 103, 116, 59] ?hv hl hnine (by decide) (by decide +kernel) (by decide +kernel) (by decide +kernel) (by decide) ?_ ?k1 ?k2 ?k3 ?k4 ?k5 ?k6
    case hv => first | walk_at "m_loc" | (rw [hpure]; walk_at "m_loc")
    case k1 => rfl
    case k2 => rfl
    case k3 => rfl
    case k4 => rfl
    case k5 => rfl
    case k6 => rfl
    repeat walk_at "m"
    rw [flatMap_nine (g := esc 0) (by decide) hnine]
    exact h

theorem sp_esc1 (O : Ok (KP p) c n) (hn : 1 ≤ n) {us : List Value} {l : List Nat} (hus : All₂ VR [.str ⟨l.toArray⟩] us) (hl : l.length ≤ 100) (hnine : ∀ d ∈ l, d ∈ nine)
    (h : P (.str (escS 1 l)) σ) : WE c (call (.ref 84) us) P σ := by
  obtain ⟨m, rfl⟩ : ∃ m, n = m + 1 := ⟨n - 1, by omega⟩
  refine' call_fn (names := [Str.ofString "text"]) O hus ?ho ?hcd rfl ?hb ?hk ?hnd ?hkk ?hco ?hg ?h
  walk_at "m_call"
  case h =>
    intro L cc O
    have hpure : l.flatMap (fun d => [d]) = l := by simp
    walk_at "m"
    refine wf_Try ?_
    refine wf_cons ?_
    refine' wf_escF (l := l) O (fun d => [d]) 38 [38, 97, 109, 112, 59] ?hv hl hnine (by decide) (by decide +kernel) (by decide +kernel) (by decide +kernel) (by decide) ?_ ?k1 ?k2 ?k3 ?k4 ?k5 ?k6
    case hv => first | walk_at "m_loc" | (rw [hpure]; walk_at "m_loc")
    case k1 => rfl
    case k2 => rfl
    case k3 => rfl
    case k4 => rfl
    case k5 => rfl
    case k6 => rfl
    refine wf_cons ?_
    refine' wf_escF (l := l) O (stg (fun d => [d]) 38 [38, 97, 109, 112, 59]) 60 [38, 108, 116, 59] ?hv hl hnine (by decide) (by decide +kernel) (by decide +kernel) (by decide +kernel) (by decide) ?_ ?k1 ?k2 ?k3 ?k4 ?k5 ?k6
    case hv => first | walk_at "m_loc" | (rw [hpure]; walk_at "m_loc")
    case k1 => rfl
    case k2 => rfl
    case k3 => rfl
    case k4 => rfl
    case k5 => rfl
    case k6 => rfl
    refine wf_cons ?_
    refine' wf_escF (l := l) O (stg (stg (fun d => [d]) 38 [38, 97, 109, 112, 59]) 60 [38, 108, 116, 59]) 62 [38, 103, 116, 59] ?hv hl hnine (by decide) (by decide +kernel) (by decide +kernel) (by decide +kernel) (by decide) ?_ ?k1 ?k2 ?k3 ?k4 ?k5 ?k6
    case hv => first | walk_at "m_loc" | (rw [hpure]; walk_at "m_loc")
    case k1 => rfl
    case k2 => rfl
    case k3 => rfl
    case k4 => rfl
    case k5 => rfl
    case k6 => rfl
    refine wf_cons ?_
    refine' wf_escF (l := l) O (stg (stg (stg (fun d => [d]) 38 [38, 97, 109, 112, 59]) 60 [38, 108, 116, 59]) 62 [38, 103, 116, 59]) 34 [38, 113, 117, 111, 116, 59] ?hv hl hnine (by decide) (by decide +kernel) (by decide +kernel) (by decide +kernel) (by decide) ?_ ?k1 ?k2 ?k3 ?k4 ?k5 ?k6
    case hv => first | walk_at "m_loc" | (rw [hpure]; walk_at "m_loc")
    case k1 => rfl
    case k2 => rfl
    case k3 => rfl
    case k4 => rfl
    case k5 => rfl
    case k6 => rfl
    refine wf_cons ?_
    refine' wf_escF (l := l) O (stg (stg (stg (stg (fun d => [d]) 38 [38, 97, 109, 112, 59]) 60 [38, 108, 116, 59]) 62 [38, 103, 116, 59]) 34 [38, 113, 117, 111, 116, 59]) 13 [38, 35, 49, 51, 59] ?hv hl hnine (by decide) (by decide +kernel) (by decide +kernel) (by decide +kernel) (by decide) ?_ ?k1 ?k2 ?k3 ?k4 ?k5 ?k6
    case hv => first | walk_at "m_loc" | (rw [hpure]; walk_at "m_loc")
    case k1 => rfl
    case k2 => rfl
    case k3 => rfl
    case k4 => rfl
    case k5 => rfl
    case k6 => rfl
    refine wf_cons ?_
    refine' wf_escF (l := l) O (stg (stg (stg (stg (stg (fun d => [d]) 38 [38, 97, 109, 112, 59]) 60 [38, 108, 116, 59]) 62 [38, 103, 116, 59]) 34 [38, 113, 117, 111, 116, 59]) 13 [38, 35, 49, 51, 59]) 10 [38, 35, 49, 48, 59] ?hv hl hnine (by decide) (by decide +kernel) (by decide +kernel) (by decide +kernel) (by decide) ?_ ?k1 ?k2 ?k3 ?k4 ?k5 ?k6
    case hv => first | walk_at "m_loc" | (rw [hpure]; walk_at "m_loc")
    case k1 => rfl
    case k2 => rfl
    case k3 => rfl
    case k4 => rfl
    case k5 => rfl
    case k6 => rfl
    refine wf_cons ?_
    refine' wf_escF (l := l) O (stg (stg (stg (stg (stg (stg (fun d => [d]) 38 [38, 97, 109, 112, 59]) 60 [38, 108, 116, 59]) 62 [38, 103, 116, 59]) 34 [38, 113, 117, 111, 116, 59]) 13 [38, 35, 49, 51, 59]) 10 [38, 35, 49, 48, 59]) 9 [38, 35, 48, 57, 59] ?hv hl hnine (by decide) (by decide +kernel) (by decide +kernel) (by decide +kernel) (by decide) ?_ ?k1 ?k2 ?k3 ?k4 ?k5 ?k6
    case hv => first | walk_at "m_loc" | (rw [hpure]; walk_at "m_loc")
    case k1 => rfl
    case k2 => rfl
    case k3 => rfl
    case k4 => rfl
    case k5 => rfl
    case k6 => rfl
    repeat walk_at "m"
    rw [flatMap_nine (g := esc 1) (by decide) hnine]
    exact h

theorem sp_esc2 (O : Ok (KP p) c n) (hn : 1 ≤ n) {us : List Value} {l : List Nat} (hus : All₂ VR [.str ⟨l.toArray⟩] us) (hl : l.length ≤ 100) (hnine : ∀ d ∈ l, d ∈ nine)
    (h : P (.str (escS 2 l)) σ) : WE c (call (.ref 91) us) P σ := by
  obtain ⟨m, rfl⟩ : ∃ m, n = m + 1 := ⟨n - 1, by omega⟩
  refine' call_fn (names := [Str.ofString "text"]) O hus ?ho ?hcd rfl ?hb ?hk ?hnd ?hkk ?hco ?hg ?h
  walk_at "m_call"
  case h =>
    intro L cc O
    have hpure : l.flatMap (fun d => [d]) = l := by simp
    walk_at "m"
    refine wf_Try ?_
    refine wf_cons ?_
    refine' wf_escF (l := l) O (fun d => [d]) 38 [38, 97, 109, 112, 59] ?hv hl hnine (by decide) (by decide +kernel) (by decide +kernel) (by decide +kernel) (by decide) ?_ ?k1 ?k2 ?k3 ?k4 ?k5 ?k6
    case hv => first | walk_at "m_loc" | (rw [hpure]; walk_at "m_loc")
    case k1 => rfl
    case k2 => rfl
    case k3 => rfl
    case k4 => rfl
    case k5 => rfl
    case k6 => rfl
    refine wf_cons ?_
    refine' wf_escF (l := l) O (stg (fun d => [d]) 38 [38, 97, 109, 112, 59]) 62 [38, 103, 116, 59] ?hv hl hnine (by decide) (by decide +kernel) (by decide +kernel) (by decide +kernel) (by decide) ?_ ?k1 ?k2 ?k3 ?k4 ?k5 ?k6
    case hv => first | walk_at "m_loc" | (rw [hpure]; walk_at "m_loc")
    case k1 => rfl
    case k2 => rfl
    case k3 => rfl
    case k4 => rfl
    case k5 => rfl
    case k6 => rfl
    refine wf_cons ?_
    refine' wf_escF (l := l) O (stg (stg (fun d => [d]) 38 [38, 97, 109, 112, 59]) 62 [38, 103, 116, 59]) 34 [38, 113, 117, 111, 116, 59] ?hv hl hnine (by decide) (by decide +kernel) (by decide +kernel) (by decide +kernel) (by decide) ?_ ?k1 ?k2 ?k3 ?k4 ?k5 ?k6
    case hv => first | walk_at "m_loc" | (rw [hpure]; walk_at "m_loc")
    case k1 => rfl
    case k2 => rfl
    case k3 => rfl
    case k4 => rfl
    case k5 => rfl
    case k6 => rfl
    repeat walk_at "m"
    rw [flatMap_nine (g := esc 2) (by decide) hnine]
    exact h

theorem sp_esc3 (O : Ok (KP p) c n) (hn : 1 ≤ n) {us : List Value} {l : List Nat} (hus : All₂ VR [.str ⟨l.toArray⟩] us) (hl : l.length ≤ 100) (hnine : ∀ d ∈ l, d ∈ nine)
    (h : P (.str (escS 3 l)) σ) : WE c (call (.ref 98) us) P σ := by
  obtain ⟨m, rfl⟩ : ∃ m, n = m + 1 := ⟨n - 1, by omega⟩
  refine' call_fn (names := [Str.ofString "text"]) O hus ?ho ?hcd rfl ?hb ?hk ?hnd ?hkk ?hco ?hg ?h
  walk_at "m_call"
  case h =>
    intro L cc O
    have hpure : l.flatMap (fun d => [d]) = l := by simp
    walk_at "m"
    refine wf_Try ?_
    refine wf_cons ?_
    refine' wf_escF (l := l) O (fun d => [d]) 38 [38, 97, 109, 112, 59] ?hv hl hnine (by decide) (by decide +kernel) (by decide +kernel) (by decide +kernel) (by decide) ?_ ?k1 ?k2 ?k3 ?k4 ?k5 ?k6
    case hv => first | walk_at "m_loc" | (rw [hpure]; walk_at "m_loc")
    case k1 => rfl
    case k2 => rfl
    case k3 => rfl
    case k4 => rfl
    case k5 => rfl
    case k6 => rfl
    refine wf_cons ?_
    refine' wf_escF (l := l) O (stg (fun d => [d]) 38 [38, 97, 109, 112, 59]) 60 [38, 108, 116, 59] ?hv hl hnine (by decide) (by decide +kernel) (by decide +kernel) (by decide +kernel) (by decide) ?_ ?k1 ?k2 ?k3 ?k4 ?k5 ?k6
    case hv => first | walk_at "m_loc" | (rw [hpure]; walk_at "m_loc")
    case k1 => rfl
    case k2 => rfl
    case k3 => rfl
    case k4 => rfl
    case k5 => rfl
    case k6 => rfl
    refine wf_cons ?_
    refine' wf_escF (l := l) O (stg (stg (fun d => [d]) 38 [38, 97, 109, 112, 59]) 60 [38, 108, 116, 59]) 62 [38, 103, 116, 59] ?hv hl hnine (by decide) (by decide +kernel) (by decide +kernel) (by decide +kernel) (by decide) ?_ ?k1 ?k2 ?k3 ?k4 ?k5 ?k6
    case hv => first | walk_at "m_loc" | (rw [hpure]; walk_at "m_loc")
    case k1 => rfl
    case k2 => rfl
    case k3 => rfl
    case k4 => rfl
    case k5 => rfl
    case k6 => rfl
    refine wf_cons ?_
    refine' wf_escF (l := l) O (stg (stg (stg (fun d => [d]) 38 [38, 97, 109, 112, 59]) 60 [38, 108, 116, 59]) 62 [38, 103, 116, 59]) 13 [38, 35, 120, 68, 59] ?hv hl hnine (by decide) (by decide +kernel) (by decide +kernel) (by decide +kernel) (by decide) ?_ ?k1 ?k2 ?k3 ?k4 ?k5 ?k6
    case hv => first | walk_at "m_loc" | (rw [hpure]; walk_at "m_loc")
    case k1 => rfl
    case k2 => rfl
    case k3 => rfl
    case k4 => rfl
    case k5 => rfl
    case k6 => rfl
    repeat walk_at "m"
    rw [flatMap_nine (g := esc 3) (by decide) hnine]
    exact h

theorem sp_esc4 (O : Ok (KP p) c n) (hn : 1 ≤ n) {us : List Value} {l : List Nat} (hus : All₂ VR [.str ⟨l.toArray⟩] us) (hl : l.length ≤ 100) (hnine : ∀ d ∈ l, d ∈ nine)
    (h : P (.str (escS 4 l)) σ) : WE c (call (.ref 105) us) P σ := by
  obtain ⟨m, rfl⟩ : ∃ m, n = m + 1 := ⟨n - 1, by omega⟩
  refine' call_fn (names := [Str.ofString "text"]) O hus ?ho ?hcd rfl ?hb ?hk ?hnd ?hkk ?hco ?hg ?h
  walk_at "m_call"
  case h =>
    intro L cc O
    have hpure : l.flatMap (fun d => [d]) = l := by simp
    walk_at "m"
    refine wf_Try ?_
    refine wf_cons ?_
    refine' wf_escF (l := l) O (fun d => [d]) 38 [38, 97, 109, 112, 59] ?hv hl hnine (by decide) (by decide +kernel) (by decide +kernel) (by decide +kernel) (by decide) ?_ ?k1 ?k2 ?k3 ?k4 ?k5 ?k6
    case hv => first | walk_at "m_loc" | (rw [hpure]; walk_at "m_loc")
    case k1 => rfl
    case k2 => rfl
    case k3 => rfl
    case k4 => rfl
    case k5 => rfl
    case k6 => rfl
    refine wf_cons ?_
    refine' wf_escF (l := l) O (stg (fun d => [d]) 38 [38, 97, 109, 112, 59]) 60 [38, 108, 116, 59] ?hv hl hnine (by decide) (by decide +kernel) (by decide +kernel) (by decide +kernel) (by decide) ?_ ?k1 ?k2 ?k3 ?k4 ?k5 ?k6
    case hv => first | walk_at "m_loc" | (rw [hpure]; walk_at "m_loc")
    case k1 => rfl
    case k2 => rfl
    case k3 => rfl
    case k4 => rfl
    case k5 => rfl
    case k6 => rfl
    refine wf_cons ?_
    refine' wf_escF (l := l) O (stg (stg (fun d => [d]) 38 [38, 97, 109, 112, 59]) 60 [38, 108, 116, 59]) 34 [38, 113, 117, 111, 116, 59] ?hv hl hnine (by decide) (by decide +kernel) (by decide +kernel) (by decide +kernel) (by decide) ?_ ?k1 ?k2 ?k3 ?k4 ?k5 ?k6
    case hv => first | walk_at "m_loc" | (rw [hpure]; walk_at "m_loc")
    case k1 => rfl
    case k2 => rfl
    case k3 => rfl
    case k4 => rfl
    case k5 => rfl
    case k6 => rfl
    refine wf_cons ?_
    refine' wf_escF (l := l) O (stg (stg (stg (fun d => [d]) 38 [38, 97, 109, 112, 59]) 60 [38, 108, 116, 59]) 34 [38, 113, 117, 111, 116, 59]) 9 [38, 35, 120, 57, 59] ?hv hl hnine (by decide) (by decide +kernel) (by decide +kernel) (by decide +kernel) (by decide) ?_ ?k1 ?k2 ?k3 ?k4 ?k5 ?k6
    case hv => first | walk_at "m_loc" | (rw [hpure]; walk_at "m_loc")
    case k1 => rfl
    case k2 => rfl
    case k3 => rfl
    case k4 => rfl
    case k5 => rfl
    case k6 => rfl
    refine wf_cons ?_
    refine' wf_escF (l := l) O (stg (stg (stg (stg (fun d => [d]) 38 [38, 97, 109, 112, 59]) 60 [38, 108, 116, 59]) 34 [38, 113, 117, 111, 116, 59]) 9 [38, 35, 120, 57, 59]) 10 [38, 35, 120, 65, 59] ?hv hl hnine (by decide) (by decide +kernel) (by decide +kernel) (by decide +kernel) (by decide) ?_ ?k1 ?k2 ?k3 ?k4 ?k5 ?k6
    case hv => first | walk_at "m_loc" | (rw [hpure]; walk_at "m_loc")
    case k1 => rfl
    case k2 => rfl
    case k3 => rfl
    case k4 => rfl
    case k5 => rfl
    case k6 => rfl
    refine wf_cons ?_
    refine' wf_escF (l := l) O (stg (stg (stg (stg (stg (fun d => [d]) 38 [38, 97, 109, 112, 59]) 60 [38, 108, 116, 59]) 34 [38, 113, 117, 111, 116, 59]) 9 [38, 35, 120, 57, 59]) 10 [38, 35, 120, 65, 59]) 13 [38, 35, 120, 68, 59] ?hv hl hnine (by decide) (by decide +kernel) (by decide +kernel) (by decide +kernel) (by decide) ?_ ?k1 ?k2 ?k3 ?k4 ?k5 ?k6
    case hv => first | walk_at "m_loc" | (rw [hpure]; walk_at "m_loc")
    case k1 => rfl
    case k2 => rfl
    case k3 => rfl
    case k4 => rfl
    case k5 => rfl
    case k6 => rfl
    repeat walk_at "m"
    rw [flatMap_nine (g := esc 4) (by decide) hnine]
    exact h
end

/-! Fn3 -/
section
variable {p : Params} {n : Nat} {c : Cx} {σ : St} {P : AV → St → Prop}

theorem sp_write (O : Ok (KP p) c n) (hn : 2 ≤ n) {us : List Value} {l : List Nat} {h : Nat} (hus : All₂ VR [.int (h : Int), .str ⟨l.toArray⟩] us) (hh : h < 5) (hl : l.length ≤ 100) (hnine : ∀ d ∈ l, d ∈ nine)
    (hp : P (.str (escS h l)) σ) : WE c (call (.ref 117) us) P σ := by
  obtain ⟨m, rfl⟩ : ∃ m, n = m + 1 := ⟨n - 1, by omega⟩
  refine' call_fn (names := [Str.ofString "hand", Str.ofString "text"]) O hus ?ho ?hcd rfl ?hb ?hk ?hnd ?hkk ?hco ?hg ?h
  walk_at "m_call"
  case h =>
    intro L cc O
    match h, hh with
    | 0, _ =>
      repeat walk_at "m"
      intro us hus
      exact sp_esc0 O (by omega) hus hl hnine hp
    | 1, _ =>
      repeat walk_at "m"
      intro us hus
      exact sp_esc1 O (by omega) hus hl hnine hp
    | 2, _ =>
      repeat walk_at "m"
      intro us hus
      exact sp_esc2 O (by omega) hus hl hnine hp
    | 3, _ =>
      repeat walk_at "m"
      intro us hus
      exact sp_esc3 O (by omega) hus hl hnine hp
    | 4, _ =>
      repeat walk_at "m"
      intro us hus
      exact sp_esc4 O (by omega) hus hl hnine hp

noncomputable def kvsA : List (Str × AV) := [(Str.ofString "&", .str (Str.ofString "&amp;")), (Str.ofString "<", .str (Str.ofString "&lt;")), (Str.ofString ">", .str (Str.ofString "&gt;")), (Str.ofString "\"", .str (Str.ofString "&quot;")), (Str.ofString "\r", .str (Str.ofString "&#xD;")), (Str.ofString "\n", .str (Str.ofString "&#xA;")), (Str.ofString "\t", .str (Str.ofString "&#x9;"))]
noncomputable def kvsB : List (Str × AV) := [(Str.ofString "\r", .str (Str.ofString "&#13;")), (Str.ofString "\n", .str (Str.ofString "&#10;")), (Str.ofString "\t", .str (Str.ofString "&#09;"))]

theorem sp_spelled (O : Ok (KP p) c n) (hn : 1 ≤ n) {us : List Value} {h d : Nat} (hus : All₂ VR [.int (h : Int), .str ⟨#[d]⟩] us) (hh : h < 5) (hd : d ∈ nine)
    (hp : ∀ H', Ext σ.H H' → P (.str ⟨(esc h d).toArray⟩) { loc := σ.loc, H := H' }) : WE c (call (.ref 124) us) P σ := by
  obtain ⟨m, rfl⟩ : ∃ m, n = m + 1 := ⟨n - 1, by omega⟩
  refine' call_fn (names := [Str.ofString "hand", Str.ofString "sign"]) O hus ?ho ?hcd rfl ?hb ?hk ?hnd ?hkk ?hco ?hg ?h
  walk_at "m_call"
  case h =>
    intro L cc O
    simp only [nine, List.mem_cons, List.not_mem_nil, or_false] at hd
    match h, hh with
    | 0, _ =>
      repeat walk_at "m"
      refine ⟨by decide, fun a ha => ?_⟩
      repeat walk_at "m"
      refine wi_list (v := .str (Str.ofString "&<>")) H_same (by decide) (by decide) rfl ?_ (fun _ _ => rfl)
      repeat walk_at "m"
      rcases hd with rfl | rfl | rfl | rfl | rfl | rfl | rfl | rfl | rfl
      · repeat walk_at "m"
        walk_at "m_DictS"
        repeat walk_at "m"
        refine ⟨kvsA, rfl, by decide, by decide +kernel, fun b hb => ?_⟩
        repeat walk_at "m"
        refine wi_sdict (v := AV.str ⟨(esc 0 38).toArray⟩) H_same (by kernel_rfl) ?_ (fun _ _ => rfl)
        exact hp _ (Ext.trans (Ext.put _ ha) (Ext.put _ hb))
      · repeat walk_at "m"
        walk_at "m_DictS"
        repeat walk_at "m"
        refine ⟨kvsA, rfl, by decide, by decide +kernel, fun b hb => ?_⟩
        repeat walk_at "m"
        refine wi_sdict (v := AV.str ⟨(esc 0 60).toArray⟩) H_same (by kernel_rfl) ?_ (fun _ _ => rfl)
        exact hp _ (Ext.trans (Ext.put _ ha) (Ext.put _ hb))
      · repeat walk_at "m"
        walk_at "m_DictS"
        repeat walk_at "m"
        refine ⟨kvsA, rfl, by decide, by decide +kernel, fun b hb => ?_⟩
        repeat walk_at "m"
        refine wi_sdict (v := AV.str ⟨(esc 0 62).toArray⟩) H_same (by kernel_rfl) ?_ (fun _ _ => rfl)
        exact hp _ (Ext.trans (Ext.put _ ha) (Ext.put _ hb))
      · repeat walk_at "m"
        exact hp _ (Ext.put _ ha)
      · repeat walk_at "m"
        exact hp _ (Ext.put _ ha)
      · repeat walk_at "m"
        exact hp _ (Ext.put _ ha)
      · repeat walk_at "m"
        exact hp _ (Ext.put _ ha)
      · repeat walk_at "m"
        exact hp _ (Ext.put _ ha)
      · repeat walk_at "m"
        exact hp _ (Ext.put _ ha)
    | 1, _ =>
      repeat walk_at "m"
      refine ⟨by decide, fun a ha => ?_⟩
      repeat walk_at "m"
      refine wi_list (v := .str (Str.ofString "&<>\"\r\n\t")) H_same (by decide) (by decide) rfl ?_ (fun _ _ => rfl)
      repeat walk_at "m"
      rcases hd with rfl | rfl | rfl | rfl | rfl | rfl | rfl | rfl | rfl
      · repeat walk_at "m"
        walk_at "m_DictS"
        repeat walk_at "m"
        refine ⟨kvsA, rfl, by decide, by decide +kernel, fun b hb => ?_⟩
        repeat walk_at "m"
        refine wi_sdict (v := AV.str ⟨(esc 1 38).toArray⟩) H_same (by kernel_rfl) ?_ (fun _ _ => rfl)
        exact hp _ (Ext.trans (Ext.put _ ha) (Ext.put _ hb))
      · repeat walk_at "m"
        walk_at "m_DictS"
        repeat walk_at "m"
        refine ⟨kvsA, rfl, by decide, by decide +kernel, fun b hb => ?_⟩
        repeat walk_at "m"
        refine wi_sdict (v := AV.str ⟨(esc 1 60).toArray⟩) H_same (by kernel_rfl) ?_ (fun _ _ => rfl)
        exact hp _ (Ext.trans (Ext.put _ ha) (Ext.put _ hb))
      · repeat walk_at "m"
        walk_at "m_DictS"
        repeat walk_at "m"
        refine ⟨kvsA, rfl, by decide, by decide +kernel, fun b hb => ?_⟩
        repeat walk_at "m"
        refine wi_sdict (v := AV.str ⟨(esc 1 62).toArray⟩) H_same (by kernel_rfl) ?_ (fun _ _ => rfl)
        exact hp _ (Ext.trans (Ext.put _ ha) (Ext.put _ hb))
      · repeat walk_at "m"
        walk_at "m_DictS"
        repeat walk_at "m"
        refine ⟨kvsA, rfl, by decide, by decide +kernel, fun b hb => ?_⟩
        repeat walk_at "m"
        refine wi_sdict (v := AV.str ⟨(esc 1 34).toArray⟩) H_same (by kernel_rfl) ?_ (fun _ _ => rfl)
        exact hp _ (Ext.trans (Ext.put _ ha) (Ext.put _ hb))
      · repeat walk_at "m"
        walk_at "m_DictS"
        repeat walk_at "m"
        refine ⟨kvsB, rfl, by decide, by decide +kernel, fun b hb => ?_⟩
        repeat walk_at "m"
        refine wi_sdict (v := AV.str ⟨(esc 1 13).toArray⟩) H_same (by kernel_rfl) ?_ (fun _ _ => rfl)
        exact hp _ (Ext.trans (Ext.put _ ha) (Ext.put _ hb))
      · repeat walk_at "m"
        walk_at "m_DictS"
        repeat walk_at "m"
        refine ⟨kvsB, rfl, by decide, by decide +kernel, fun b hb => ?_⟩
        repeat walk_at "m"
        refine wi_sdict (v := AV.str ⟨(esc 1 10).toArray⟩) H_same (by kernel_rfl) ?_ (fun _ _ => rfl)
        exact hp _ (Ext.trans (Ext.put _ ha) (Ext.put _ hb))
      · repeat walk_at "m"
        walk_at "m_DictS"
        repeat walk_at "m"
        refine ⟨kvsB, rfl, by decide, by decide +kernel, fun b hb => ?_⟩
        repeat walk_at "m"
        refine wi_sdict (v := AV.str ⟨(esc 1 9).toArray⟩) H_same (by kernel_rfl) ?_ (fun _ _ => rfl)
        exact hp _ (Ext.trans (Ext.put _ ha) (Ext.put _ hb))
      · repeat walk_at "m"
        exact hp _ (Ext.put _ ha)
      · repeat walk_at "m"
        exact hp _ (Ext.put _ ha)
    | 2, _ =>
      repeat walk_at "m"
      refine ⟨by decide, fun a ha => ?_⟩
      repeat walk_at "m"
      refine wi_list (v := .str (Str.ofString "&>\"")) H_same (by decide) (by decide) rfl ?_ (fun _ _ => rfl)
      repeat walk_at "m"
      rcases hd with rfl | rfl | rfl | rfl | rfl | rfl | rfl | rfl | rfl
      · repeat walk_at "m"
        walk_at "m_DictS"
        repeat walk_at "m"
        refine ⟨kvsA, rfl, by decide, by decide +kernel, fun b hb => ?_⟩
        repeat walk_at "m"
        refine wi_sdict (v := AV.str ⟨(esc 2 38).toArray⟩) H_same (by kernel_rfl) ?_ (fun _ _ => rfl)
        exact hp _ (Ext.trans (Ext.put _ ha) (Ext.put _ hb))
      · repeat walk_at "m"
        exact hp _ (Ext.put _ ha)
      · repeat walk_at "m"
        walk_at "m_DictS"
        repeat walk_at "m"
        refine ⟨kvsA, rfl, by decide, by decide +kernel, fun b hb => ?_⟩
        repeat walk_at "m"
        refine wi_sdict (v := AV.str ⟨(esc 2 62).toArray⟩) H_same (by kernel_rfl) ?_ (fun _ _ => rfl)
        exact hp _ (Ext.trans (Ext.put _ ha) (Ext.put _ hb))
      · repeat walk_at "m"
        walk_at "m_DictS"
        repeat walk_at "m"
        refine ⟨kvsA, rfl, by decide, by decide +kernel, fun b hb => ?_⟩
        repeat walk_at "m"
        refine wi_sdict (v := AV.str ⟨(esc 2 34).toArray⟩) H_same (by kernel_rfl) ?_ (fun _ _ => rfl)
        exact hp _ (Ext.trans (Ext.put _ ha) (Ext.put _ hb))
      · repeat walk_at "m"
        exact hp _ (Ext.put _ ha)
      · repeat walk_at "m"
        exact hp _ (Ext.put _ ha)
      · repeat walk_at "m"
        exact hp _ (Ext.put _ ha)
      · repeat walk_at "m"
        exact hp _ (Ext.put _ ha)
      · repeat walk_at "m"
        exact hp _ (Ext.put _ ha)
    | 3, _ =>
      repeat walk_at "m"
      refine ⟨by decide, fun a ha => ?_⟩
      repeat walk_at "m"
      refine wi_list (v := .str (Str.ofString "&<>\r")) H_same (by decide) (by decide) rfl ?_ (fun _ _ => rfl)
      repeat walk_at "m"
      rcases hd with rfl | rfl | rfl | rfl | rfl | rfl | rfl | rfl | rfl
      · repeat walk_at "m"
        walk_at "m_DictS"
        repeat walk_at "m"
        refine ⟨kvsA, rfl, by decide, by decide +kernel, fun b hb => ?_⟩
        repeat walk_at "m"
        refine wi_sdict (v := AV.str ⟨(esc 3 38).toArray⟩) H_same (by kernel_rfl) ?_ (fun _ _ => rfl)
        exact hp _ (Ext.trans (Ext.put _ ha) (Ext.put _ hb))
      · repeat walk_at "m"
        walk_at "m_DictS"
        repeat walk_at "m"
        refine ⟨kvsA, rfl, by decide, by decide +kernel, fun b hb => ?_⟩
        repeat walk_at "m"
        refine wi_sdict (v := AV.str ⟨(esc 3 60).toArray⟩) H_same (by kernel_rfl) ?_ (fun _ _ => rfl)
        exact hp _ (Ext.trans (Ext.put _ ha) (Ext.put _ hb))
      · repeat walk_at "m"
        walk_at "m_DictS"
        repeat walk_at "m"
        refine ⟨kvsA, rfl, by decide, by decide +kernel, fun b hb => ?_⟩
        repeat walk_at "m"
        refine wi_sdict (v := AV.str ⟨(esc 3 62).toArray⟩) H_same (by kernel_rfl) ?_ (fun _ _ => rfl)
        exact hp _ (Ext.trans (Ext.put _ ha) (Ext.put _ hb))
      · repeat walk_at "m"
        exact hp _ (Ext.put _ ha)
      · repeat walk_at "m"
        walk_at "m_DictS"
        repeat walk_at "m"
        refine ⟨kvsA, rfl, by decide, by decide +kernel, fun b hb => ?_⟩
        repeat walk_at "m"
        refine wi_sdict (v := AV.str ⟨(esc 3 13).toArray⟩) H_same (by kernel_rfl) ?_ (fun _ _ => rfl)
        exact hp _ (Ext.trans (Ext.put _ ha) (Ext.put _ hb))
      · repeat walk_at "m"
        exact hp _ (Ext.put _ ha)
      · repeat walk_at "m"
        exact hp _ (Ext.put _ ha)
      · repeat walk_at "m"
        exact hp _ (Ext.put _ ha)
      · repeat walk_at "m"
        exact hp _ (Ext.put _ ha)
    | 4, _ =>
      repeat walk_at "m"
      refine ⟨by decide, fun a ha => ?_⟩
      repeat walk_at "m"
      refine wi_list (v := .str (Str.ofString "&<\"\t\n\r")) H_same (by decide) (by decide) rfl ?_ (fun _ _ => rfl)
      repeat walk_at "m"
      rcases hd with rfl | rfl | rfl | rfl | rfl | rfl | rfl | rfl | rfl
      · repeat walk_at "m"
        walk_at "m_DictS"
        repeat walk_at "m"
        refine ⟨kvsA, rfl, by decide, by decide +kernel, fun b hb => ?_⟩
        repeat walk_at "m"
        refine wi_sdict (v := AV.str ⟨(esc 4 38).toArray⟩) H_same (by kernel_rfl) ?_ (fun _ _ => rfl)
        exact hp _ (Ext.trans (Ext.put _ ha) (Ext.put _ hb))
      · repeat walk_at "m"
        walk_at "m_DictS"
        repeat walk_at "m"
        refine ⟨kvsA, rfl, by decide, by decide +kernel, fun b hb => ?_⟩
        repeat walk_at "m"
        refine wi_sdict (v := AV.str ⟨(esc 4 60).toArray⟩) H_same (by kernel_rfl) ?_ (fun _ _ => rfl)
        exact hp _ (Ext.trans (Ext.put _ ha) (Ext.put _ hb))
      · repeat walk_at "m"
        exact hp _ (Ext.put _ ha)
      · repeat walk_at "m"
        walk_at "m_DictS"
        repeat walk_at "m"
        refine ⟨kvsA, rfl, by decide, by decide +kernel, fun b hb => ?_⟩
        repeat walk_at "m"
        refine wi_sdict (v := AV.str ⟨(esc 4 34).toArray⟩) H_same (by kernel_rfl) ?_ (fun _ _ => rfl)
        exact hp _ (Ext.trans (Ext.put _ ha) (Ext.put _ hb))
      · repeat walk_at "m"
        walk_at "m_DictS"
        repeat walk_at "m"
        refine ⟨kvsA, rfl, by decide, by decide +kernel, fun b hb => ?_⟩
        repeat walk_at "m"
        refine wi_sdict (v := AV.str ⟨(esc 4 13).toArray⟩) H_same (by kernel_rfl) ?_ (fun _ _ => rfl)
        exact hp _ (Ext.trans (Ext.put _ ha) (Ext.put _ hb))
      · repeat walk_at "m"
        walk_at "m_DictS"
        repeat walk_at "m"
        refine ⟨kvsA, rfl, by decide, by decide +kernel, fun b hb => ?_⟩
        repeat walk_at "m"
        refine wi_sdict (v := AV.str ⟨(esc 4 10).toArray⟩) H_same (by kernel_rfl) ?_ (fun _ _ => rfl)
        exact hp _ (Ext.trans (Ext.put _ ha) (Ext.put _ hb))
      · repeat walk_at "m"
        walk_at "m_DictS"
        repeat walk_at "m"
        refine ⟨kvsA, rfl, by decide, by decide +kernel, fun b hb => ?_⟩
        repeat walk_at "m"
        refine wi_sdict (v := AV.str ⟨(esc 4 9).toArray⟩) H_same (by kernel_rfl) ?_ (fun _ _ => rfl)
        exact hp _ (Ext.trans (Ext.put _ ha) (Ext.put _ hb))
      · repeat walk_at "m"
        exact hp _ (Ext.put _ ha)
      · repeat walk_at "m"
        exact hp _ (Ext.put _ ha)
end

/-! Fn4 -/
section
variable {p : Params} {n : Nat} {c : Cx} {σ : St} {P : AV → St → Prop}

theorem rangeSize_up {a b : Int} (h : a ≤ b) : Builtin.Range.rangeSize a b 1 = ((b - a).toNat : Nat) := by
  rw [rangeSize_one]; split <;> omega
theorem rangeSize_down {a b : Int} (h : b ≤ a) : Builtin.Range.rangeSize a b (-1) = ((a - b).toNat : Nat) := by
  unfold Builtin.Range.rangeSize
  simp only [show ¬ ((-1 : Int) > 0) by decide, if_false, show (- (-1 : Int)) = 1 from rfl, Int.ediv_one]
  split <;> omega
theorem range_small1 {a b : Int} (ha : a.natAbs ≤ 100000) (hb : b.natAbs ≤ 100000) : Builtin.Range.small a b 1 = true :=
  small_one (by omega) (by omega) (by omega) (by omega)
theorem range_smallD {a b : Int} (h : b ≤ a) (ha : a.natAbs ≤ 100000) (hb : b.natAbs ≤ 100000) : Builtin.Range.small a b (-1) = true := by
  unfold Builtin.Range.small
  rw [rangeSize_down h]
  simp only [Builtin.Range.rangeFitsLong, Bool.and_eq_true, Bool.or_eq_true, decide_eq_true_eq, beq_iff_eq, show ¬ ((-1 : Int) > 0) by decide, if_false]
  omega
theorem rangeItems_get {a c : Int} {n i : Nat} {v : AV} (h : (rangeItems a c n)[i]? = some v) : i < n ∧ v = .int (a + (i : Int) * c) := by
  have hi : i < n := by have := (List.getElem?_eq_some_iff.mp h).1; simpa [rangeItems] using this
  refine ⟨hi, ?_⟩
  have : (rangeItems a c n)[i]? = some (.int (a + (i : Int) * c)) := by simp [rangeItems, hi]
  rw [this] at h; simpa using h.symm
theorem rangeItems_length (a c : Int) (n : Nat) : (rangeItems a c n).length = n := by simp [rangeItems]

noncomputable def pickZ (ns : List Int) (lo hi st : Option Int) : List Int :=
  (sliceRange (sliceBounds lo hi st ns.length).1 (sliceBounds lo hi st ns.length).2.1 (sliceBounds lo hi st ns.length).2.2).filterMap (ns[·]?)
theorem pickA_map (ns : List Int) (lo hi st : Option Int) : pickA (ns.map .int) lo hi st = (pickZ ns lo hi st).map .int := by
  unfold pickA pickZ
  rw [List.length_map, List.map_filterMap]
  congr 1
  funext i
  simp
noncomputable def cellV (ns : List Int) (b : Int) (k : Nat) : Int := (b + (pickZ ns (some (k : Int)) none (some 2)).sum).fmod (10 ^ 6)
theorem pickA_plain (xs : List AV) (lo hi : Option Int) : pickA xs lo hi none = (xs.drop (lo.elim 0 (clipAt xs.length))).take (hi.elim xs.length (clipAt xs.length) - lo.elim 0 (clipAt xs.length)) := by
  unfold pickA
  rw [sliceBounds_plain]
  generalize ha : lo.elim 0 (clipAt xs.length) = a
  generalize hb : hi.elim xs.length (clipAt xs.length) = b
  have hb' : b ≤ xs.length := by
    subst hb
    cases hi with
    | none => exact Nat.le_refl _
    | some i => show clipAt _ _ ≤ _; have := clipAt_cast xs.length i; omega
  show (sliceRange (a : Int) (b : Int) 1).filterMap (xs[·]?) = _
  rcases Nat.lt_or_ge a b with h | h
  · have e : sliceRange (a : Int) (b : Int) 1 = (List.range (b - a)).map fun k => a + k := by
      unfold sliceRange
      simp only [show (1 : Int) > 0 by decide, if_true, Int.ediv_one]
      rw [if_pos (by omega)]
      have : ((b : Int) - a + 1 - 1).toNat = b - a := by omega
      rw [this]
      refine List.map_congr_left fun k _ => ?_
      omega
    rw [e, StrLaws.picks xs (b - a) a (by omega)]
  · have e : sliceRange (a : Int) (b : Int) 1 = [] := by
      unfold sliceRange
      simp only [show (1 : Int) > 0 by decide, if_true]
      rw [if_neg (by omega)]; rfl
    rw [e]
    have : b - a = 0 := by omega
    simp [this]
theorem pickA_upto (xs : List AV) (b : Nat) : pickA xs none (some (b : Int)) none = xs.take b := by
  rw [pickA_plain]
  simp only [Option.elim, clipAt_nat, List.drop_zero, Nat.sub_zero]
  rcases Nat.le_total b xs.length with h | h
  · rw [Nat.min_eq_left h]
  · rw [Nat.min_eq_right h, List.take_of_length_le (Nat.le_refl _), List.take_of_length_le h]
theorem pickA_butLast (xs : List AV) : pickA xs none (some (-1)) none = xs.dropLast := by
  rw [pickA_plain]
  have : clipAt xs.length (-1) = xs.length - 1 := clipAt_neg xs.length 1 (Nat.le_refl _)
  simp only [Option.elim, this, List.drop_zero, Nat.sub_zero]
  rw [List.dropLast_eq_take]

theorem sp_cells (O : Ok (KP p) c n) (hn : 1 ≤ n) {us : List Value} {S B : Addr} {items : List Value} {ns : List Int} (hus : All₂ VR [.ref S, .ref B] us)
    (hS : c.base.IsList S items.toArray) (hI : All₂ VR (ns.map .int) items) (hle : ns.length ≤ 100000) (hB : σ.H B = some (.list [.int 30, .int 41]))
    (h : ∀ r H', Ext σ.H H' → σ.H r = none → H' r = some (.list [.int (cellV ns 30 0), .int (cellV ns 41 1)]) → P (.ref r) { loc := σ.loc, H := H' }) : WE c (call (.ref 110) us) P σ := by
  obtain ⟨m, rfl⟩ : ∃ m, n = m + 1 := ⟨n - 1, by omega⟩
  refine' call_fn (names := [Str.ofString "script", Str.ofString "plain"]) O hus ?ho ?hcd rfl ?hb ?hk ?hnd ?hkk ?hco ?hg ?h
  walk_at "m_call"
  case h =>
    intro L cc O
    repeat walk_at "m"
    refine' comp_map O (rangeItems 0 1 2) [.int (cellV ns 30 0), .int (cellV ns 41 1)] (fun _ => True) (by rfl) (fun _ _ => trivial) ?hev ?hlen ?hcell ?hfree ?hkind ?hx ?hnames ?hturn ?hend ?hs ?ht
    walk_at "m_comp"
    case hlen => decide
    case hev =>
      repeat walk_at "m"
      intro us hus
      refine wk_len_list hus (LA.ours (by walk_at "m_H")) ?_
      repeat walk_at "m"
      intro us hus
      refine wk_range1 O hus fun r hr => ?_
      exact ⟨⟨_, itbl_range O.handled r (n := 2) rfl rfl, H_same⟩, rfl, Ext.put _ hr⟩
    case hend =>
      intro r H' hE hr hH
      exact h r H' hE hr hH
    case hturn =>
      intro D i v w H1 O hv hw hE
      obtain ⟨hi, rfl⟩ := rangeItems_get hv
      have hB1 := hE _ _ hB
      obtain ⟨b, hb, rfl⟩ : ∃ b : Int, [AV.int 30, AV.int 41][i]? = some (.int b) ∧ w = .int (cellV ns b i) := by
        match i, hi with
        | 0, _ => exact ⟨30, rfl, by simpa using hw.symm⟩
        | 1, _ => exact ⟨41, rfl, by simpa using hw.symm⟩
      have e : (0 : Int) + (i : Int) * 1 = (i : Int) := by omega
      rw [e]
      repeat walk_at "m"
      refine wi_list (v := .int b) (by walk_at "m_H") (by omega) (by omega) (by simpa using hb) ?_ (fun _ _ => rfl)
      repeat walk_at "m"
      intro us hus
      refine wk_len_list hus (LA.ours (by walk_at "m_H")) ?_
      repeat walk_at "m"
      refine wsl_list O (LA.base hS hI (by simpa using hle)) (by decide) (fun q hq => ?_) (fun _ _ => ⟨_, rfl⟩)
      rw [pickA_map]
      repeat walk_at "m"
      intro us hus
      refine wk_sum O hus (LA.ours H_same) ?_
      repeat walk_at "m"
      refine wb_powC (k := 6) (by decide) (by decide +kernel) ?_
      repeat walk_at "m"
      exact ⟨rfl, Ext.trans hE (Ext.put _ hq)⟩


noncomputable def bounded (xs : List Int) : Prop := ∀ x ∈ xs, x.natAbs ≤ 10 ^ 9
theorem sp_numbers (O : Ok (KP p) c n) (hn : 1 ≤ n) {us : List Value} {S : Addr} {items : List Value} {ns : List Int} (hus : All₂ VR [.ref S] us)
    (hS : c.base.IsList S items.toArray) (hI : All₂ VR (ns.map .int) items) (hle : ns.length ≤ 100000)
    (h : ∀ r H' xs, Ext σ.H H' → σ.H r = none → H' r = some (.list (xs.map .int)) → xs.length = 14 → bounded xs → P (.ref r) { loc := σ.loc, H := H' }) : WE c (call (.ref 141) us) P σ := by
  obtain ⟨m, rfl⟩ : ∃ m, n = m + 1 := ⟨n - 1, by omega⟩
  refine' call_fn (names := [Str.ofString "script"]) O hus ?ho ?hcd rfl ?hb ?hk ?hnd ?hkk ?hco ?hg ?h
  walk_at "m_call"
  case h =>
    intro L cc O
    repeat walk_at "m"
    refine wsl_list O (LA.base hS hI (by simpa using hle)) (by decide) (fun q hq => ?_) (fun _ _ => ⟨_, rfl⟩)
    rw [show pickA (ns.map AV.int) none (some 14) none = (ns.take 14).map AV.int from by rw [List.map_take]; exact pickA_upto _ 14]
    have hlen : (ns.take 14).length ≤ 14 := by simp; omega
    generalize ns.take 14 = xs0 at *
    repeat walk_at "m"
    intro us hus
    refine wk_list O hus (LA.ours H_same) (fun r hr => ?_)
    repeat walk_at "m"
    walk_at "m_for"
    repeat walk_at "m"
    intro us hus
    refine wk_len_list hus (LA.ours (by walk_at "m_H")) ?_
    repeat walk_at "m"
    intro us hus
    refine wk_range2 O hus fun r2 hr2 => ?_
    have hsz : Builtin.Range.rangeSize (xs0.map AV.int).length 14 1 = ((14 - xs0.length : Nat) : Int) := by
      rw [rangeSize_up (by simp; omega)]; simp
    have hsm : Builtin.Range.small (xs0.map AV.int).length 14 1 = true := range_small1 (by simp; omega) (by decide)
    have hr0 : σ.H r = none := by
      cases e : σ.H r with
      | none => rfl
      | some o => have := H_fresh (o' := .list (xs0.map .int)) hq e; rw [hr] at this; cases this
    refine ⟨_, fun _ => True, fun i σ' => ∃ xs : List Int, xs.length = xs0.length + i ∧ σ'.loc (Str.ofString "row") = some (.ref r) ∧ σ'.H r = some (.list (xs.map .int)) ∧ Ext σ.H σ'.H,
      ⟨_, itbl_range O.handled r2 hsm hsz, H_same⟩, trivial, ⟨xs0, rfl, by walk_at "m_loc", by walk_at "m_H", ?_⟩, ?_, ?_⟩
    · exact Ext.trans (Ext.put _ hq) (Ext.trans (Ext.put _ hr) (Ext.put _ hr2))
    · refine fun i v σ3 hv hJ _ => WG.post fun Q hQ => ?_
      obtain ⟨xs, hx1, q1, q2, q3⟩ := hJ
      obtain ⟨hi, rfl⟩ := rangeItems_get hv
      repeat walk_at "m"
      intro u us hu hus
      refine wm_append hu hus (by walk_at "m_H") (by simp; omega) ?_
      repeat walk_at "m"
      refine ⟨by simp, ?_⟩
      repeat walk_at "m"
      refine hQ _ _ ⟨⟨xs ++ [700 * ((xs0.map AV.int).length + (i : Int) * 1) + 5], by simp; omega, by walk_at "m_loc", ?_, Ext.put' q3 hr0⟩, trivial⟩
      rw [List.map_append]; exact H_same
    · rintro σ3 ⟨xs, hx1, q1, q2, q3⟩ _
      rw [rangeItems_length] at hx1
      repeat walk_at "m"
      refine' comp_map O (xs.map .int) ((xs.map fun x => (x + 10 ^ 9).fmod (2 * 10 ^ 9 + 1) - 10 ^ 9).map .int) (fun H => H r = some (.list (xs.map .int))) (by simp) (fun H e => e _ _ q2) ?hev ?hlen ?hcell ?hfree ?hkind ?hx ?hnames ?hturn ?hend ?hs ?ht
      walk_at "m_comp"
      case hlen => simp; omega
      case hev =>
        repeat walk_at "m"
        exact ⟨⟨_, itbl_list O.handled r _, q2⟩, rfl, Ext.refl _⟩
      case hturn =>
        intro D i v w H1 O hv hw hE
        simp only [List.getElem?_map, Option.map_eq_some_iff] at hv hw
        obtain ⟨x, hx1, rfl⟩ := hv
        obtain ⟨y, ⟨x', hx2, rfl⟩, rfl⟩ := hw
        rw [hx1] at hx2; cases hx2
        repeat walk_at "m"
        refine wb_powC (k := 9) (by decide) (by decide +kernel) ?_
        repeat walk_at "m"
        refine wb_powC (k := 9) (by decide) (by decide +kernel) ?_
        repeat walk_at "m"
        refine wb_powC (k := 9) (by decide) (by decide +kernel) ?_
        repeat walk_at "m"
        exact ⟨rfl, hE⟩
      case hend =>
        intro r' H' hE hr' hH
        refine h r' H' _ (Ext.trans q3 hE) ?_ hH (by simp; omega) ?_
        · cases e : σ.H r' with
          | none => rfl
          | some o => rw [q3 _ _ e] at hr'; cases hr'
        · intro x hx
          obtain ⟨y, _, rfl⟩ := List.mem_map.mp hx
          have h1 := Int.fmod_nonneg_of_pos (y + 10 ^ 9) (show (0 : Int) < 2 * 10 ^ 9 + 1 by decide)
          have h2 := Int.fmod_lt_of_pos (y + 10 ^ 9) (show (0 : Int) < 2 * 10 ^ 9 + 1 by decide)
          omega
end

/-! Fn5 -/
section
variable {p : Params} {n : Nat} {c : Cx} {σ : St} {P : AV → St → Prop}

noncomputable abbrev tAV (ch : Nat → Nat) (u : List Nat) : AV := .str (T ch u)
theorem fresh_of_ext {H H' : AH} (hE : Ext H H') {r : Addr} (h : H' r = none) : H r = none := by
  cases e : H r with
  | none => rfl
  | some o => rw [hE _ _ e] at h; cases h

theorem sp_pieces (O : Ok (KP p) c n) (hn : 1 ≤ n) {us : List Value} {ch : Nat → Nat} (hc : ∀ i j, ch i = ch j → i = j) {w : List Nat} (hw : w.length = 5) (hus : All₂ VR [tAV ch w] us)
    (h : ∀ r H', Ext σ.H H' → σ.H r = none → H' r = some (.list ((piecesW w).map (tAV ch))) → P (.ref r) { loc := σ.loc, H := H' }) : WE c (call (.ref 148) us) P σ := by
  obtain ⟨m, rfl⟩ : ∃ m, n = m + 1 := ⟨n - 1, by omega⟩
  refine' call_fn (names := [Str.ofString "text"]) O hus ?ho ?hcd rfl ?hb ?hk ?hnd ?hkk ?hco ?hg ?h
  walk_at "m_call"
  case h =>
    intro L cc O
    repeat walk_at "m"
    refine ⟨by decide, fun r hr => ?_⟩
    repeat walk_at "m"
    walk_at "m_for"
    repeat walk_at "m"
    intro us hus
    refine wk_range1 O hus fun r1 hr1 => ?_
    refine ⟨_, fun _ => True, fun i σ' => σ'.loc (Str.ofString "text") = some (tAV ch w) ∧ σ'.loc (Str.ofString "pieces") = some (.ref r) ∧ σ'.H r = some (.list ((piecesTo w i).map (tAV ch))) ∧ Ext σ.H σ'.H,
      ⟨_, itbl_range O.handled r1 (n := 6) rfl rfl, H_same⟩, trivial, ⟨by walk_at "m_loc", by walk_at "m_loc", by show _ = some (AO.list []); walk_at "m_H", by walk_at "m_ext"⟩, ?_, ?_⟩
    · refine fun i v σ3 hv hJ _ => WG.post fun Q hQ => ?_
      obtain ⟨q1, q2, q3, q4⟩ := hJ
      obtain ⟨hi, rfl⟩ := rangeItems_get hv
      have e0 : (0 : Int) + (i : Int) * 1 = (i : Int) := by omega
      rw [e0]
      repeat walk_at "m"
      walk_at "m_for"
      repeat walk_at "m"
      intro us hus
      refine wk_range1 O hus fun r2 hr2 => ?_
      have hsz : Builtin.Range.rangeSize 0 (6 - (i : Int)) 1 = ((6 - i : Nat) : Int) := by
        rw [rangeSize_up (by omega)]; omega
      refine ⟨_, fun _ => True, fun j σ' => σ'.loc (Str.ofString "text") = some (tAV ch w) ∧ σ'.loc (Str.ofString "pieces") = some (.ref r) ∧ σ'.loc (Str.ofString "size") = some (.int i) ∧ σ'.H r = some (.list ((rowW w i j (piecesTo w i)).map (tAV ch))) ∧ Ext σ.H σ'.H,
        ⟨_, itbl_range O.handled r2 (range_small1 (by decide) (by omega)) hsz, H_same⟩, trivial, ⟨by walk_at "m_loc", by walk_at "m_loc", by walk_at "m_loc", by show _ = some (AO.list ((piecesTo w i).map (tAV ch))); walk_at "m_H", by walk_at "m_ext"⟩, ?_, ?_⟩
      · clear q1 q2 q3 q4
        refine fun j v σ4 hv hJ _ => WG.post fun Q2 hQ2 => ?_
        obtain ⟨q1, q2, q2', q3, q4⟩ := hJ
        obtain ⟨hj, rfl⟩ := rangeItems_get hv
        have e0 : (0 : Int) + (j : Int) * 1 = (j : Int) := by omega
        rw [e0]
        have hsl : Txt.slice (T ch w) (some (j : Int)) (some ((j : Int) + i)) = T ch ((w.drop j).take i) := by
          rw [T_slice ch w (by omega)]
          congr 2
          · omega
        have hrl := rowW_len w i j (piecesTo w i)
        have hpl := piecesTo_len w i
        repeat walk_at "m"
        refine wsl_str (by rw [T_len]; omega) ?_ (fun _ _ => ⟨_, rfl⟩)
        rw [hsl]
        repeat walk_at "m"
        refine wc_notinL (ys := (rowW w i j (piecesTo w i)).map (T ch)) (LA.ours (by rw [List.map_map]; exact q3)) ?_
        repeat walk_at "m"
        have hmem : T ch ((w.drop j).take i) ∈ (rowW w i j (piecesTo w i)).map (T ch) ↔ (w.drop j).take i ∈ rowW w i j (piecesTo w i) := by
          constructor
          · intro hm
            obtain ⟨u, hu, he⟩ := List.mem_map.mp hm
            rw [← T_inj hc he]; exact hu
          · intro hm; exact List.mem_map.mpr ⟨_, hm, rfl⟩
        refine ite_of (fun h0 => ?_) (fun h0 => ?_)
        · have h1 : (w.drop j).take i ∉ rowW w i j (piecesTo w i) := by rw [← hmem]; simpa using h0
          repeat walk_at "m"
          refine wsl_str (by rw [T_len]; omega) ?_ (fun _ _ => ⟨_, rfl⟩)
          rw [hsl]
          repeat walk_at "m"
          intro u us hu hus
          refine wm_append hu hus (by walk_at "m_H") (by simp; omega) ?_
          refine ⟨by simp, ?_⟩
          repeat walk_at "m"
          refine hQ2 _ _ ⟨⟨by walk_at "m_loc", by walk_at "m_loc", by walk_at "m_loc", ?_, by walk_at "m_ext"⟩, trivial⟩
          rw [rowW_succ, addW, if_neg h1, List.map_append]
          exact H_same
        · have h1 : (w.drop j).take i ∈ rowW w i j (piecesTo w i) := by rw [← hmem]; simpa using h0
          repeat walk_at "m"
          refine hQ2 _ _ ⟨⟨by walk_at "m_loc", by walk_at "m_loc", by walk_at "m_loc", ?_, q4⟩, trivial⟩
          rw [rowW_succ, addW, if_pos h1]
          exact q3
      · rintro σ4 ⟨q1, q2, q2', q3, q4⟩ _
        rw [rangeItems_length] at q3
        repeat walk_at "m"
        exact hQ _ _ ⟨⟨q1, q2, by rw [piecesTo_succ]; exact q3, q4⟩, trivial⟩
    · rintro σ3 ⟨q1, q2, q3, q4⟩ _
      repeat walk_at "m"
      exact h r _ q4 hr q3
end

/-! Fn6 -/
noncomputable def infB (u v : List Nat) : Bool := (List.range (v.length + 1)).any fun i => decide (i + u.length ≤ v.length) && decide ((v.drop i).take u.length = u)
theorem T_contains {ch : Nat → Nat} (hc : ∀ i j, ch i = ch j → i = j) (u v : List Nat) : Txt.contains (T ch v) (T ch u) = infB u v := by
  rw [Bool.eq_iff_iff]
  unfold Txt.contains infB
  rw [StrLaws.found_iff]
  simp only [T_len, List.any_eq_true, List.mem_range, Bool.and_eq_true, decide_eq_true_eq]
  constructor
  · rintro ⟨i, h1, h2⟩
    rw [StrLaws.subAt_eq, T_len, T_list, T_list, ← List.map_drop, ← List.map_take, beq_iff_eq] at h2
    exact ⟨i, by omega, h1, List.map_inj_right hc |>.mp h2⟩
  · rintro ⟨i, _, h1, h2⟩
    refine ⟨i, h1, ?_⟩
    rw [StrLaws.subAt_eq, T_len, T_list, T_list, ← List.map_drop, ← List.map_take, h2, beq_iff_eq]

structure Ask (want got : Str) (due : Bool) : Prop where
  wantL : want.length ≤ 1000
  gotL : got.length ≤ 1000
  parts : Txt.contains want dots = true → 2 ≤ (Txt.split want dots).length ∧ (Txt.split want dots).length ≤ 1000 ∧ ∀ w ∈ Txt.split want dots, w.length ≤ 1000
  told : ellM want got = due

noncomputable def Rows (H : AH) (r : Addr) (L : List (List Nat)) : Prop := ∃ rs : List Addr, H r = some (.list (rs.map .ref)) ∧ All₂ (fun a l => a ≠ r ∧ H a = some (.list (l.map natAV))) rs L
theorem All₂.mono' {α β : Type} {R R' : α → β → Prop} (h : ∀ a b, R a b → R' a b) : ∀ {as : List α} {bs : List β}, All₂ R as bs → All₂ R' as bs
  | _, _, .nil => .nil
  | _, _, .cons a hs => .cons (h _ _ a) (hs.mono' h)
theorem Rows.ext {H H' : AH} {r : Addr} {L : List (List Nat)} (R : Rows H r L) (hE : Ext H H') : Rows H' r L := by
  obtain ⟨rs, h1, h2⟩ := R
  exact ⟨rs, hE _ _ h1, h2.mono' fun a l ⟨h3, h4⟩ => ⟨h3, hE _ _ h4⟩⟩
theorem Rows.len {H : AH} {r : Addr} {L : List (List Nat)} (R : Rows H r L) : ∃ rs : List Addr, H r = some (.list (rs.map .ref)) ∧ rs.length = L.length := by
  obtain ⟨rs, h1, h2⟩ := R
  exact ⟨rs, h1, h2.length⟩
theorem Rows.get {H : AH} {r : Addr} {L : List (List Nat)} (R : Rows H r L) {j : Nat} {l : List Nat} (h : L[j]? = some l) : ∃ rs : List Addr, ∃ a, H r = some (.list (rs.map .ref)) ∧ (rs.map AV.ref)[j]? = some (.ref a) ∧ H a = some (.list (l.map natAV)) ∧ rs.length = L.length := by
  obtain ⟨rs, h1, h2⟩ := R
  obtain ⟨a, h3, h4, h5⟩ := h2.get' h
  exact ⟨rs, a, h1, by simp [h3], h5, h2.length⟩
theorem Rows.push {σ : St} {r : Addr} {L : List (List Nat)} {rs : List Addr} (h1 : σ.H r = some (.list (rs.map .ref))) (h2 : All₂ (fun a l => a ≠ r ∧ σ.H a = some (.list (l.map natAV))) rs L) {a : Addr} {l : List Nat} (ha : a ≠ r) (hl : σ.H a = some (.list (l.map natAV))) :
    Rows (σ.put r (.list (rs.map .ref ++ [.ref a]))).H r (L ++ [l]) := by
  refine ⟨rs ++ [a], by rw [List.map_append]; exact H_same, ?_⟩
  refine All₂.append (h2.mono' fun b m ⟨h3, h4⟩ => ⟨h3, H_other h3 h4⟩) (.cons ⟨ha, H_other ha hl⟩ .nil)

noncomputable def insB (ps : List (List Nat)) (j k : Nat) : Bool := decide ((ps.getD k []).length < (ps.getD j []).length) && infB (ps.getD k []) (ps.getD j [])
noncomputable def innerW (ps : List (List Nat)) (j i : Nat) : List Nat := 0 :: (List.range' 1 i).filter (insB ps j)
noncomputable def withinW (ps : List (List Nat)) (j : Nat) : List Nat := if j = 0 then [0] else innerW ps j (j - 1) ++ [j]
theorem innerW_succ (ps : List (List Nat)) (j i : Nat) : innerW ps j (i + 1) = innerW ps j i ++ (if insB ps j (1 + i) then [1 + i] else []) := by
  unfold innerW
  rw [List.range'_1_concat, List.filter_append, List.cons_append]
  congr 2
  cases h : insB ps j (1 + i) <;> simp [h]
theorem innerW_len (ps : List (List Nat)) (j i : Nat) : (innerW ps j i).length ≤ i + 1 := by
  unfold innerW
  have := List.length_filter_le (insB ps j) (List.range' 1 i)
  simp at this ⊢; omega

/-- what is written of the words -/
structure Book (ch : Nat → Nat) (W : List Nat → Str) (ps : List (List Nat)) : Prop where
  inj : ∀ i j, ch i = ch j → i = j
  nodup : ps.Nodup
  small : ps.length ≤ 20
  short : ∀ u ∈ ps, u.length ≤ 5
  wlen : ∀ u ∈ ps, (W u).length ≤ 100
noncomputable abbrev bookKV (ch : Nat → Nat) (W : List Nat → Str) (ps : List (List Nat)) : List (Str × AV) := ps.map fun u => (T ch u, AV.str (W u))
theorem look_book {ch : Nat → Nat} {W : List Nat → Str} (hc : ∀ i j, ch i = ch j → i = j) : ∀ {ps : List (List Nat)} {u : List Nat}, u ∈ ps → lookA (bookKV ch W ps) (T ch u) = some (.str (W u))
  | v :: ps, u, h => by
    unfold bookKV lookA
    rw [List.map_cons, List.find?_cons]
    by_cases e : v = u
    · subst e; simp
    · have h1 : T ch v ≠ T ch u := fun q => e (T_inj hc q)
      have h2 : u ∈ ps := by rcases List.mem_cons.mp h with rfl | h; exact absurd rfl e; exact h
      have := look_book (W := W) hc h2
      unfold bookKV lookA at this
      simpa [h1] using this

section
variable {p : Params} {n : Nat} {c : Cx} {σ : St} {P : AV → St → Prop} {ch : Nat → Nat} {W : List Nat → Str} {ps : List (List Nat)}

theorem sp_askA (O : Ok (KP p) c n) (hn : 2 ≤ n) {us : List Value} {a : Addr} {want got : Str} {due : Bool} (hus : All₂ VR [.ref a, .str want, .str got, .bool due] us) (hA : Ask want got due)
    (h : ∀ H', Ext σ.H H' → P (.bool due) { loc := σ.loc, H := H' }) : WE c (call (.ref 131) us) P σ := sp_ask O hn hus hA.wantL hA.gotL hA.parts hA.told h

theorem sp_within (O : Ok (KP p) c n) (hn : 3 ≤ n) {us : List Value} {wr bk pc : Addr} (hus : All₂ VR [.ref wr, .ref bk, .ref pc] us) (B : Book ch W ps) (hps : 1 ≤ ps.length)
    (hbk : σ.H bk = some (.sdict (bookKV ch W ps))) (hpc : σ.H pc = some (.list (ps.map (tAV ch))))
    (hA : ∀ u ∈ ps, ∀ v ∈ ps, u.length < v.length → Ask (dots ++ W u ++ dots) (W v) (infB u v))
    (h : ∀ r H', Ext σ.H H' → σ.H r = none → Rows H' r ((List.range ps.length).map (withinW ps)) → P (.ref r) { loc := σ.loc, H := H' }) : WE c (call (.ref 155) us) P σ := by
  obtain ⟨m, rfl⟩ : ∃ m, n = m + 1 := ⟨n - 1, by omega⟩
  refine' call_fn (names := [Str.ofString "wrong", Str.ofString "book", Str.ofString "pieces"]) O hus ?ho ?hcd rfl ?hb ?hk ?hnd ?hkk ?hco ?hg ?h
  walk_at "m_call"
  case h =>
    intro L cc O
    have hsm := B.small
    repeat walk_at "m"
    refine ⟨by decide, fun a0 ha0 => ?_⟩
    repeat walk_at "m"
    refine ⟨by simp, fun r hr => ?_⟩
    have har : a0 ≠ r := by rintro rfl; rw [H_same] at hr; cases hr
    have hr0 : σ.H r = none := fresh_of_ext (by walk_at "m_ext") hr
    repeat walk_at "m"
    walk_at "m_for"
    repeat walk_at "m"
    intro us hus
    refine wk_len_list hus (LA.ours (by walk_at "m_H")) ?_
    repeat walk_at "m"
    intro us hus
    refine wk_range2 O hus fun r1 hr1 => ?_
    have hsz : Builtin.Range.rangeSize 1 ((ps.map (tAV ch)).length : Int) 1 = ((ps.length - 1 : Nat) : Int) := by
      rw [rangeSize_up (by simp; omega)]; simp
    refine ⟨_, fun _ => True, fun i σ' => σ'.loc (Str.ofString "within") = some (.ref r) ∧ σ'.loc (Str.ofString "wrong") = some (.ref wr) ∧ σ'.loc (Str.ofString "book") = some (.ref bk) ∧ σ'.loc (Str.ofString "pieces") = some (.ref pc) ∧
      Rows σ'.H r ((List.range (i + 1)).map (withinW ps)) ∧ Ext σ.H σ'.H,
      ⟨_, itbl_range O.handled r1 (range_small1 (by decide) (by simp; omega)) hsz, H_same⟩, trivial, ⟨by walk_at "m_loc", by walk_at "m_loc", by walk_at "m_loc", by walk_at "m_loc", ⟨[a0], ?_, .cons ⟨har, ?_⟩ .nil⟩, by walk_at "m_ext"⟩, ?_, ?_⟩
    · show _ = some (AO.list [.ref a0]); walk_at "m_H"
    · show _ = some (AO.list [.int 0]); walk_at "m_H"
    · refine fun i v σ3 hv hJ _ => WG.post fun Q hQ => ?_
      obtain ⟨q1, q2, q3, q4, qR, qE⟩ := hJ
      obtain ⟨hi, rfl⟩ := rangeItems_get hv
      have e0 : (1 : Int) + (i : Int) * 1 = ((1 + i : Nat) : Int) := by omega
      rw [e0]
      have hbk3 := qE _ _ hbk
      have hpc3 := qE _ _ hpc
      obtain ⟨v, hv⟩ : ∃ v, ps[1 + i]? = some v := ⟨ps[1 + i]'(by omega), by simp⟩
      have hvm := List.mem_of_getElem? hv
      have hvD : ps.getD (1 + i) [] = v := by simp [List.getD, hv]
      repeat walk_at "m"
      refine wi_list (v := tAV ch v) (by walk_at "m_H") (by omega) (by omega) (map_get hv) ?_ (fun _ _ => rfl)
      repeat walk_at "m"
      refine ⟨by decide, fun rr hrr => ?_⟩
      have hrr0 : σ.H rr = none := fresh_of_ext qE hrr
      have hrrr : rr ≠ r := by
        rintro rfl
        obtain ⟨rs, h1, _⟩ := qR
        have : σ3.H rr = none := hrr
        rw [h1] at this; cases this
      repeat walk_at "m"
      walk_at "m_for"
      repeat walk_at "m"
      intro us hus
      refine wk_range2 O hus fun r2 hr2 => ?_
      have hsz2 : Builtin.Range.rangeSize 1 ((1 + i : Nat) : Int) 1 = (i : Nat) := by
        rw [rangeSize_up (by omega)]; omega
      refine ⟨_, fun _ => True, fun k σ' => σ'.loc (Str.ofString "within") = some (.ref r) ∧ σ'.loc (Str.ofString "wrong") = some (.ref wr) ∧ σ'.loc (Str.ofString "book") = some (.ref bk) ∧ σ'.loc (Str.ofString "pieces") = some (.ref pc) ∧
        σ'.loc (Str.ofString "v") = some (tAV ch v) ∧ σ'.loc (Str.ofString "row") = some (.ref rr) ∧ σ'.loc (Str.ofString "j") = some (.int ((1 + i : Nat) : Int)) ∧ σ'.H rr = some (.list ((innerW ps (1 + i) k).map natAV)) ∧ Ext σ3.H σ'.H,
        ⟨_, itbl_range O.handled r2 (range_small1 (by decide) (by omega)) hsz2, H_same⟩, trivial, ⟨by walk_at "m_loc", by walk_at "m_loc", by walk_at "m_loc", by walk_at "m_loc", by walk_at "m_loc", by walk_at "m_loc", by walk_at "m_loc", ?_, by walk_at "m_ext"⟩, ?_, ?_⟩
      · show _ = some (AO.list [.int 0]); walk_at "m_H"
      · clear q1 q2 q3 q4
        refine fun k x σ4 hx hJ _ => WG.post fun Q2 hQ2 => ?_
        obtain ⟨q1, q2, q3, q4, q5, q6, q7, q8, qF⟩ := hJ
        obtain ⟨hk, rfl⟩ := rangeItems_get hx
        have e0 : (1 : Int) + (k : Int) * 1 = ((1 + k : Nat) : Int) := by omega
        rw [e0]
        have hbk4 := qF _ _ hbk3
        have hpc4 := qF _ _ hpc3
        obtain ⟨u, hu⟩ : ∃ u, ps[1 + k]? = some u := ⟨ps[1 + k]'(by omega), by simp⟩
        have hum := List.mem_of_getElem? hu
        have huD : ps.getD (1 + k) [] = u := by simp [List.getD, hu]
        have hul := B.short u hum
        have hvl := B.short v hvm
        have huw := B.wlen u hum
        have hvw := B.wlen v hvm
        have hil := innerW_len ps (1 + i) k
        have hin := innerW_succ ps (1 + i) k
        have hins : insB ps (1 + i) (1 + k) = (decide (u.length < v.length) && infB u v) := by rw [insB, huD, hvD]
        repeat walk_at "m"
        refine wi_list (v := tAV ch u) (by walk_at "m_H") (by omega) (by omega) (map_get hu) ?_ (fun _ _ => rfl)
        repeat walk_at "m"
        intro us hus
        refine wk_len_str hus (by rw [T_len]; omega) ?_
        repeat walk_at "m"
        intro us hus
        refine wk_len_str hus (by rw [T_len]; omega) ?_
        repeat walk_at "m"
        rw [T_len, T_len]
        have skip : insB ps (1 + i) (1 + k) = false → ∀ H', Ext σ4.H H' → H' rr = some (.list ((innerW ps (1 + i) (k + 1)).map natAV)) ∧ Ext σ3.H H' := fun hf H' hE => by
          rw [hin, hf]
          simp only [Bool.false_eq_true, if_false, List.append_nil]
          exact ⟨hE _ _ q8, qF.trans hE⟩
        refine ite_of (fun h0 => ?_) (fun h0 => ?_)
        · have h0' : u.length < v.length := by simpa using h0
          have hins' : insB ps (1 + i) (1 + k) = infB u v := by rw [hins]; simp [h0']
          repeat walk_at "m"
          refine wi_sdict (by walk_at "m_H") (look_book B.inj hum) ?_ (fun _ _ => rfl)
          refine wb_addS (by show 3 + _ ≤ _; omega) ?_
          repeat walk_at "m"
          refine wb_addS (by rw [Str.length_append]; show 3 + _ + 3 ≤ _; omega) ?_
          repeat walk_at "m"
          refine wi_sdict (by walk_at "m_H") (look_book B.inj hvm) ?_ (fun _ _ => rfl)
          repeat walk_at "m"
          rw [T_contains B.inj]
          repeat walk_at "m"
          intro us hus
          refine sp_askA O (by omega) hus (hA u hum v hvm h0') fun H' hE => ?_
          repeat walk_at "m"
          have q8' := hE _ _ q8
          refine ite_of (fun h1 => ?_) (fun h1 => ?_)
          · repeat walk_at "m"
            intro u us hu hus
            refine wm_append hu hus (by walk_at "m_H") (by simp; omega) ?_
            refine ⟨by simp, ?_⟩
            repeat walk_at "m"
            refine hQ2 _ _ ⟨⟨by walk_at "m_loc", by walk_at "m_loc", by walk_at "m_loc", by walk_at "m_loc", by walk_at "m_loc", by walk_at "m_loc", by walk_at "m_loc", ?_, ?_⟩, trivial⟩
            · rw [hin, hins', h1, List.map_append]; exact H_same
            · exact Ext.to_own hrr (qF.trans hE)
          · repeat walk_at "m"
            refine hQ2 _ _ ⟨⟨by walk_at "m_loc", by walk_at "m_loc", by walk_at "m_loc", by walk_at "m_loc", by walk_at "m_loc", by walk_at "m_loc", by walk_at "m_loc", ?_⟩, trivial⟩
            exact skip (hins'.trans h1) _ hE
        · have h0' : ¬ u.length < v.length := by simpa using h0
          repeat walk_at "m"
          refine hQ2 _ _ ⟨⟨by walk_at "m_loc", by walk_at "m_loc", by walk_at "m_loc", by walk_at "m_loc", by walk_at "m_loc", by walk_at "m_loc", by walk_at "m_loc", ?_⟩, trivial⟩
          exact skip (by rw [hins]; simp [h0']) _ (Ext.refl _)
      · clear q1 q2 q3 q4
        rintro σ4 ⟨q1, q2, q3, q4, q5, q6, q7, q8, qF⟩ _
        rw [rangeItems_length] at q8
        obtain ⟨rs, g1, g2⟩ := qR.ext qF
        have hil := innerW_len ps (1 + i) i
        have hrsl := g2.length
        simp at hrsl
        repeat walk_at "m"
        refine ⟨by simp, fun rj hrj => ?_⟩
        refine wb_addL O (LA.ours (by walk_at "m_H")) (LA.ours H_same) (by simp; omega) (fun ra hra => ?_)
        have hra4 : σ4.H ra = none := fresh_of_ext (by walk_at "m_ext") hra
        have hrar : ra ≠ r := by rintro rfl; rw [g1] at hra4; cases hra4
        repeat walk_at "m"
        intro u us hu hus
        refine wm_append hu hus (by walk_at "m_H") (by simp; omega) ?_
        refine ⟨by simp, ?_⟩
        repeat walk_at "m"
        refine hQ _ _ ⟨⟨by walk_at "m_loc", by walk_at "m_loc", by walk_at "m_loc", by walk_at "m_loc", ?_, ?_⟩, trivial⟩
        · rw [List.range_succ, List.map_append]
          refine Rows.push (by walk_at "m_H") (g2.mono' fun a l ⟨h3, h4⟩ => ⟨h3, H_fresh hra (H_fresh hrj h4)⟩) hrar ?_
          rw [withinW, if_neg (by omega), List.map_append, show i + 1 - 1 = i from rfl, show 1 + i = i + 1 from Nat.add_comm 1 i]
          have e1 : innerW ps (1 + i) i = innerW ps (i + 1) i := by rw [Nat.add_comm 1 i]
          rw [← e1]
          exact H_same
        · refine Ext.to_own hr0 ?_
          have := qE.trans qF
          walk_at "m_ext"
    · rintro σ3 ⟨q1, q2, q3, q4, qR, qE⟩ _
      rw [rangeItems_length, show ps.length - 1 + 1 = ps.length by omega] at qR
      repeat walk_at "m"
      exact h r _ qE hr0 qR
end

/-! Fn7 -/
noncomputable def edgeFrom (v : List Nat) : Nat → List Nat
  | 0 => []
  | s + 1 => if v.take (s + 1) = v.drop (v.length - (s + 1)) then v.take (s + 1) else edgeFrom v s
noncomputable def edgeW (v : List Nat) : List Nat := edgeFrom v (v.length - 1)

section
variable {p : Params} {n : Nat} {c : Cx} {σ : St} {P : AV → St → Prop} {ch : Nat → Nat} {W : List Nat → Str} {ps : List (List Nat)}

theorem sp_edge (O : Ok (KP p) c n) (hn : 3 ≤ n) {us : List Value} {wr bk : Addr} {v : List Nat} (hus : All₂ VR [.ref wr, .ref bk, tAV ch v] us) (B : Book ch W ps) (hv : v ∈ ps) (hv0 : v ≠ [])
    (hbk : σ.H bk = some (.sdict (bookKV ch W ps))) (hcl : ∀ s, s ≤ v.length → v.take s ∈ ps ∧ v.drop s ∈ ps)
    (hA : ∀ s, 0 < s → s < v.length → Ask (dots ++ W (v.take s)) (W v) (decide (v.take s = v.drop (v.length - s))) ∧ Ask (W (v.drop (v.length - s)) ++ dots) (W v) (decide (v.take s = v.drop (v.length - s))))
    (h : ∀ H', Ext σ.H H' → P (tAV ch (edgeW v)) { loc := σ.loc, H := H' }) : WE c (call (.ref 162) us) P σ := by
  obtain ⟨m, rfl⟩ : ∃ m, n = m + 1 := ⟨n - 1, by omega⟩
  refine' call_fn (names := [Str.ofString "wrong", Str.ofString "book", Str.ofString "v"]) O hus ?ho ?hcd rfl ?hb ?hk ?hnd ?hkk ?hco ?hg ?h
  walk_at "m_call"
  case h =>
    intro L cc O
    have hvl := B.short v hv
    have hvp : 0 < v.length := List.length_pos_iff.mpr hv0
    repeat walk_at "m"
    walk_at "m_for"
    repeat walk_at "m"
    intro us hus
    refine wk_len_str hus (by rw [T_len]; omega) ?_
    rw [T_len]
    repeat walk_at "m"
    intro u hu
    refine wun_neg hu ?_
    repeat walk_at "m"
    intro us hus
    refine wk_range3 O hus (by decide) (by decide) fun r1 hr1 => ?_
    have hsz : Builtin.Range.rangeSize ((v.length : Int) - 1) 0 (-1) = ((v.length - 1 : Nat) : Int) := by
      rw [rangeSize_down (by omega)]; omega
    refine ⟨_, fun _ => True, fun i σ' => σ'.loc (Str.ofString "wrong") = some (.ref wr) ∧ σ'.loc (Str.ofString "book") = some (.ref bk) ∧ σ'.loc (Str.ofString "v") = some (tAV ch v) ∧
      edgeW v = edgeFrom v (v.length - 1 - i) ∧ Ext σ.H σ'.H,
      ⟨_, itbl_range O.handled r1 (range_smallD (by omega) (by omega) (by decide)) hsz, H_same⟩, trivial, ⟨by walk_at "m_loc", by walk_at "m_loc", by walk_at "m_loc", rfl, by walk_at "m_ext"⟩, ?_, ?_⟩
    · refine fun i x σ3 hx hJ _ => WG.post fun Q hQ => ?_
      obtain ⟨q1, q2, q3, qe, qE⟩ := hJ
      obtain ⟨hi, rfl⟩ := rangeItems_get hx
      obtain ⟨s, hs⟩ : ∃ s, v.length - 1 - i = s + 1 := ⟨v.length - 1 - i - 1, by omega⟩
      have e0 : (v.length : Int) - 1 + (i : Int) * (-1) = ((s + 1 : Nat) : Int) := by omega
      rw [e0]
      have hbk3 := qE _ _ hbk
      rw [hs, edgeFrom] at qe
      obtain ⟨hA1, hA2⟩ := hA (s + 1) (by omega) (by omega)
      have hf := (hcl (s + 1) (by omega)).1
      have hd := (hcl (v.length - (s + 1)) (by omega)).2
      have hfw := B.wlen _ hf
      have hdw := B.wlen _ hd
      repeat walk_at "m"
      refine wsl_str (by rw [T_len]; omega) ?_ (fun _ _ => ⟨_, rfl⟩)
      rw [T_to ch v (by omega), Int.toNat_natCast]
      repeat walk_at "m"
      intro us hus
      refine wk_len_str hus (by rw [T_len]; omega) ?_
      repeat walk_at "m"
      refine wsl_str (by rw [T_len]; omega) ?_ (fun _ _ => ⟨_, rfl⟩)
      rw [T_len, T_from ch v (by omega), show ((v.length : Int) - ((s + 1 : Nat) : Int)).toNat = v.length - (s + 1) by omega]
      repeat walk_at "m"
      intro us hus
      refine wk_len_str hus (by rw [T_len]; omega) ?_
      repeat walk_at "m"
      refine ite_of (fun h0 => ?_) (fun h0 => ?_)
      · repeat walk_at "m"
        refine wi_sdict (by walk_at "m_H") (look_book B.inj hf) ?_ (fun _ _ => rfl)
        refine wb_addS (by show 3 + _ ≤ _; omega) ?_
        repeat walk_at "m"
        refine wi_sdict (by walk_at "m_H") (look_book B.inj hv) ?_ (fun _ _ => rfl)
        repeat walk_at "m"
        have hdue : decide (T ch (v.take (s + 1)) = T ch (v.drop (v.length - (s + 1)))) = decide (v.take (s + 1) = v.drop (v.length - (s + 1))) :=
          decide_eq_decide.mpr ⟨fun e => T_inj B.inj e, fun e => by rw [e]⟩
        rw [hdue]
        intro us hus
        refine sp_askA O (by omega) hus hA1 fun H' hE => ?_
        repeat walk_at "m"
        refine ite_of (fun h1 => ?_) (fun h1 => ?_)
        · rw [if_pos (by simpa using h1)] at qe
          repeat walk_at "m"
          rw [← qe]
          exact hQ _ _ (h _ (qE.trans hE))
        · rw [if_neg (by simpa using h1)] at qe
          repeat walk_at "m"
          exact hQ _ _ ⟨⟨by walk_at "m_loc", by walk_at "m_loc", by walk_at "m_loc", by rw [qe]; congr 1; omega, qE.trans hE⟩, trivial⟩
      · repeat walk_at "m"
        refine wi_sdict (by walk_at "m_H") (look_book B.inj hd) ?_ (fun _ _ => rfl)
        repeat walk_at "m"
        refine wb_addS (by show _ + 3 ≤ _; omega) ?_
        repeat walk_at "m"
        refine wi_sdict (by walk_at "m_H") (look_book B.inj hv) ?_ (fun _ _ => rfl)
        repeat walk_at "m"
        have hdue : decide (T ch (v.take (s + 1)) = T ch (v.drop (v.length - (s + 1)))) = decide (v.take (s + 1) = v.drop (v.length - (s + 1))) :=
          decide_eq_decide.mpr ⟨fun e => T_inj B.inj e, fun e => by rw [e]⟩
        rw [hdue]
        intro us hus
        refine sp_askA O (by omega) hus hA2 fun H' hE => ?_
        repeat walk_at "m"
        refine ite_of (fun h1 => ?_) (fun h1 => ?_)
        · rw [if_pos (by simpa using h1)] at qe
          repeat walk_at "m"
          rw [← qe]
          exact hQ _ _ (h _ (qE.trans hE))
        · rw [if_neg (by simpa using h1)] at qe
          repeat walk_at "m"
          exact hQ _ _ ⟨⟨by walk_at "m_loc", by walk_at "m_loc", by walk_at "m_loc", by rw [qe]; congr 1; omega, qE.trans hE⟩, trivial⟩
    · rintro σ3 ⟨q1, q2, q3, qe, qE⟩ _
      rw [rangeItems_length, Nat.sub_self, edgeFrom] at qe
      rw [qe] at h
      repeat walk_at "m"
      exact h _ qE

theorem sp_twice (O : Ok (KP p) c n) (hn : 3 ≤ n) {us : List Value} {wr : Addr} {edge rest page : Str} {room alike : Bool} (hus : All₂ VR [.ref wr, .str edge, .str rest, .str page, .bool room, .bool alike] us)
    (l1 : edge.length ≤ 100) (l2 : rest.length ≤ 100) (hA1 : Ask edge page false) (hA2 : Ask page edge false) (hA3 : Ask (rest ++ dots) page alike) (hA4 : Ask (edge ++ dots ++ edge) page room) (hA5 : Ask (dots ++ edge ++ dots ++ edge ++ dots) page room)
    (h : ∀ H', Ext σ.H H' → P .none { loc := σ.loc, H := H' }) : WE c (call (.ref 169) us) P σ := by
  obtain ⟨m, rfl⟩ : ∃ m, n = m + 1 := ⟨n - 1, by omega⟩
  refine' call_fn (names := [Str.ofString "wrong", Str.ofString "edge", Str.ofString "rest", Str.ofString "page", Str.ofString "room", Str.ofString "alike"]) O hus ?ho ?hcd rfl ?hb ?hk ?hnd ?hkk ?hco ?hg ?h
  walk_at "m_call"
  case h =>
    intro L cc O
    repeat walk_at "m"
    intro us hus
    refine sp_askA O (by omega) hus hA1 fun H1 hE1 => ?_
    refine ⟨by simp, ?_⟩
    repeat walk_at "m"
    intro us hus
    refine sp_askA O (by omega) hus hA2 fun H2 hE2 => ?_
    refine ⟨by simp, ?_⟩
    repeat walk_at "m"
    refine wb_addS (by show _ + 3 ≤ _; omega) ?_
    repeat walk_at "m"
    intro us hus
    refine sp_askA O (by omega) hus hA3 fun H3 hE3 => ?_
    refine ⟨by simp, ?_⟩
    repeat walk_at "m"
    refine wb_addS (by show _ + 3 ≤ _; omega) ?_
    repeat walk_at "m"
    refine wb_addS (by rw [Str.length_append]; show _ + 3 + _ ≤ _; omega) ?_
    repeat walk_at "m"
    intro us hus
    refine sp_askA O (by omega) hus hA4 fun H4 hE4 => ?_
    refine ⟨by simp, ?_⟩
    repeat walk_at "m"
    refine wb_addS (by show 3 + _ ≤ _; omega) ?_
    repeat walk_at "m"
    refine wb_addS (by rw [Str.length_append]; show 3 + _ + 3 ≤ _; omega) ?_
    repeat walk_at "m"
    refine wb_addS (by simp only [Str.length_append]; show 3 + _ + 3 + _ ≤ _; omega) ?_
    repeat walk_at "m"
    refine wb_addS (by simp only [Str.length_append]; show 3 + _ + 3 + _ + 3 ≤ _; omega) ?_
    repeat walk_at "m"
    intro us hus
    refine sp_askA O (by omega) hus hA5 fun H5 hE5 => ?_
    refine ⟨by simp, ?_⟩
    repeat walk_at "m"
    exact h _ (Ext.trans hE1 (Ext.trans hE2 (Ext.trans hE3 (Ext.trans hE4 hE5))))
end

/-! Fn8 -/
/-! the edges' row: what is reckoned -/
noncomputable abbrev kvI (p : Nat × Int) : Int × AV := ((p.1 : Int), AV.int p.2)
noncomputable def lookZ (l : List (Nat × Int)) (k : Nat) : Int := ((l.find? fun p => p.1 == k).map (·.2)).getD 0
theorem lookA_kvI (l : List (Nat × Int)) (k : Nat) : (lookA (l.map kvI) (k : Int)).getD (.int 0) = .int (lookZ l k) := by
  induction l with
  | nil => rfl
  | cons p r ih =>
    unfold lookA lookZ at *
    rw [List.map_cons, List.find?_cons, List.find?_cons]
    by_cases h : p.1 = k
    · simp [h]
    · have h' : ¬ ((p.1 : Int) = k) := by omega
      simp only [kvI, h', decide_false, beq_iff_eq, h, beq_eq_false_iff_ne.mpr h]
      exact ih
noncomputable def RowsD (H : AH) (r : Addr) (L : List (List (Nat × Int))) : Prop := ∃ rs : List Addr, H r = some (.list (rs.map .ref)) ∧ All₂ (fun a l => a ≠ r ∧ H a = some (.idict (l.map kvI))) rs L
theorem RowsD.ext {H H' : AH} {r : Addr} {L : List (List (Nat × Int))} (R : RowsD H r L) (hE : Ext H H') : RowsD H' r L := by
  obtain ⟨rs, h1, h2⟩ := R
  exact ⟨rs, hE _ _ h1, h2.mono' fun a l ⟨h3, h4⟩ => ⟨h3, hE _ _ h4⟩⟩
theorem RowsD.get {H : AH} {r : Addr} {L : List (List (Nat × Int))} (R : RowsD H r L) {j : Nat} {l : List (Nat × Int)} (h : L[j]? = some l) : ∃ rs : List Addr, ∃ a, H r = some (.list (rs.map .ref)) ∧ (rs.map AV.ref)[j]? = some (.ref a) ∧ H a = some (.idict (l.map kvI)) ∧ rs.length = L.length := by
  obtain ⟨rs, h1, h2⟩ := R
  obtain ⟨a, h3, h4, h5⟩ := h2.get' h
  exact ⟨rs, a, h1, by simp [h3], h5, h2.length⟩
theorem RowsD.push {σ : St} {r : Addr} {L : List (List (Nat × Int))} {rs : List Addr} (h1 : σ.H r = some (.list (rs.map .ref))) (h2 : All₂ (fun a l => a ≠ r ∧ σ.H a = some (.idict (l.map kvI))) rs L) {a : Addr} {l : List (Nat × Int)} (ha : a ≠ r) (hl : σ.H a = some (.idict (l.map kvI))) :
    RowsD (σ.put r (.list (rs.map .ref ++ [.ref a]))).H r (L ++ [l]) := by
  refine ⟨rs ++ [a], by rw [List.map_append]; exact H_same, ?_⟩
  refine All₂.append (h2.mono' fun b m ⟨h3, h4⟩ => ⟨h3, H_other h3 h4⟩) (.cons ⟨ha, H_other ha hl⟩ .nil)

noncomputable def at_ (ps : List (List Nat)) (k : Nat) : List Nat := ps.getD k []
noncomputable def insideW (v : List Nat) : List Nat := (v.drop 1).take (v.length - 2)
noncomputable def looseW (v : List Nat) : Bool := decide (v.length < 2) || !infB (edgeW v) (insideW v)
noncomputable def mixedW (v : List Nat) : Bool := decide (v ≠ (List.replicate v.length (v.take 1)).flatten)
noncomputable def twoB (ps : List (List Nat)) (j k : Nat) : Bool := decide ((at_ ps j).length = (at_ ps k).length + 2)
noncomputable def twoW (ps : List (List Nat)) (j : Nat) : List Nat := (withinW ps j).filter (twoB ps j)
noncomputable def wholeB (ps : List (List Nat)) (j k : Nat) : Bool := decide (at_ ps k = insideW (at_ ps j))
noncomputable def wholeW (ps : List (List Nat)) (j : Nat) : List Nat := (twoW ps j).filter (wholeB ps j)
noncomputable def chosenB (ps : List (List Nat)) (j k : Nat) : Bool := decide (at_ ps k = insideW (at_ ps j)) || decide (at_ ps k = edgeW (at_ ps j))
noncomputable def chosenW (ps : List (List Nat)) (j : Nat) : List Nat := (twoW ps j).filter (chosenB ps j)
noncomputable def spotW (ps : List (List Nat)) (j : Nat) : Nat := ps.idxOf (edgeW (at_ ps j))
noncomputable def valW (ps : List (List Nat)) (prev : List (List (Nat × Int))) (j k : Nat) : Int :=
  if (at_ ps j).length = (at_ ps k).length + 1 then -1
  else if (at_ ps j).length = (at_ ps k).length + 2 then (if mixedW (at_ ps j) then (((setN (chosenW ps j) : Nat) : Int).fdiv (2 ^ k)).fmod 2 else 0)
  else lookZ (if looseW (at_ ps j) then prev.getD (spotW ps j) [] else []) k
noncomputable def rowS (ps : List (List Nat)) (prev : List (List (Nat × Int))) (j : Nat) : List (Nat × Int) := (j, 1) :: (withinW ps j).dropLast.map fun k => (k, valW ps prev j k)
noncomputable def signsTo (ps : List (List Nat)) : Nat → List (List (Nat × Int))
  | 0 => []
  | 1 => [[(0, 1)]]
  | j + 2 => signsTo ps (j + 1) ++ [rowS ps (signsTo ps (j + 1)) (j + 1)]
theorem signsTo_len (ps : List (List Nat)) : ∀ j, (signsTo ps j).length = j
  | 0 => rfl
  | 1 => rfl
  | j + 2 => by rw [signsTo, List.length_append, signsTo_len ps (j + 1)]; rfl
theorem signsTo_succ (ps : List (List Nat)) {j : Nat} (h : 1 ≤ j) : signsTo ps (j + 1) = signsTo ps j ++ [rowS ps (signsTo ps j) j] := by
  cases j with
  | zero => omega
  | succ j => rw [signsTo]

theorem withinW_lt (ps : List (List Nat)) (j : Nat) : ∀ k ∈ withinW ps j, k ≤ j := by
  intro k hk
  unfold withinW at hk
  split at hk
  · simp at hk; omega
  · rcases List.mem_append.mp hk with h | h
    · unfold innerW at h
      rcases List.mem_cons.mp h with rfl | h
      · omega
      · have := (List.mem_filter.mp h).1
        have := List.mem_range'_1.mp this
        omega
    · simp at h; omega
theorem withinW_dropLast (ps : List (List Nat)) {j : Nat} (hj : 1 ≤ j) : (withinW ps j).dropLast = innerW ps j (j - 1) := by
  unfold withinW
  rw [if_neg (by omega), List.dropLast_concat]
theorem innerW_nodup (ps : List (List Nat)) {j : Nat} (hj : 1 ≤ j) : (j :: innerW ps j (j - 1)).Nodup := by
  unfold innerW
  have h1 : ((List.range' 1 (j - 1)).filter (insB ps j)).Nodup := (List.nodup_range').sublist List.filter_sublist
  have h2 : ∀ k ∈ (List.range' 1 (j - 1)).filter (insB ps j), 1 ≤ k ∧ k < j := fun k hk => by
    have := List.mem_range'_1.mp (List.mem_filter.mp hk).1
    omega
  rw [List.nodup_cons, List.nodup_cons]
  refine ⟨?_, ?_, h1⟩
  · intro h
    rcases List.mem_cons.mp h with h | h
    · omega
    · have := h2 _ h; omega
  · intro h; have := h2 _ h; omega
theorem withinW_len (ps : List (List Nat)) (j : Nat) : (withinW ps j).length ≤ j + 1 := by
  unfold withinW
  split
  · simp
  · rw [List.length_append]
    have := innerW_len ps j (j - 1)
    simp; omega

theorem idx_first {l : List (List Nat)} {e : List Nat} (h : e ∈ l) : l[l.idxOf e]? = some e ∧ ∀ m, m < l.idxOf e → l[m]? ≠ some e := by
  have hlt := List.idxOf_lt_length_of_mem h
  refine ⟨by rw [List.getElem?_eq_getElem hlt, List.getElem_idxOf hlt], ?_⟩
  clear hlt h
  induction l with
  | nil => intro m hm; simp at hm
  | cons a l ih =>
    intro m hm he
    by_cases ha : a = e
    · subst ha; simp at hm
    · have e1 : (a :: l).idxOf e = l.idxOf e + 1 := by rw [List.idxOf_cons, beq_eq_false_iff_ne.mpr ha]; rfl
      rw [e1] at hm
      cases m with
      | zero => simp at he; exact ha he
      | succ m => exact ih m (by omega) (by simpa using he)

theorem T_mul (ch : Nat → Nat) (u : List Nat) (m : Nat) (hm : 1 ≤ m) : Txt.mul (T ch u) (m : Int) = T ch (List.replicate m u).flatten := by
  have fold : ∀ (k : Nat) (acc : Array Nat), (List.replicate k (T ch u).cps).foldl (· ++ ·) acc = acc ++ ((List.replicate k u).flatten.map ch).toArray := by
    intro k
    induction k with
    | zero => intro acc; simp
    | succ k ih =>
      intro acc
      rw [List.replicate_succ, List.foldl_cons, ih, List.replicate_succ, List.flatten_cons, List.map_append]
      simp [T, Array.append_assoc]
  unfold Txt.mul
  rw [if_neg (by omega)]
  split
  · rename_i h
    rcases Bool.or_eq_true_iff.mp h with h | h
    · have : m = 1 := by have := beq_iff_eq.mp h; omega
      subst this; simp
    · have : u = [] := by rw [T_len] at h; simpa using h
      subst this
      refine T_eq ?_
      simp [T]
  · rw [Int.toNat_natCast, fold]
    refine Str.ext' ?_
    simp [T]

theorem storedA_newI {kvs : List (Int × AV)} {k : Int} {v : AV} (h : k ∉ kvs.map (·.1)) : storedA kvs k v = kvs ++ [(k, v)] := by
  unfold storedA
  rw [if_neg]
  intro hh
  obtain ⟨kv, h1, h2⟩ := List.any_eq_true.mp hh
  exact h (List.mem_map.mpr ⟨kv, h1, by simpa using h2⟩)

theorem keepB_filter (f : Nat → Bool) (l : List Nat) : keepB (l.map f) (l.map natAV) = (l.filter f).map natAV := by
  induction l with
  | nil => rfl
  | cons a l ih => cases h : f a <;> simp [keepB, h, ih]
theorem keepB_filter' (f : Nat → Bool) (l : List Nat) : keepB (l.map f) (l.map (natAV)) = ((l.filter f)).map natAV := keepB_filter f l

/-- what must hold of the words and of their writings, for the signs -/
structure Sg (W : List Nat → Str) (ps : List (List Nat)) : Prop where
  first : 1 ≤ ps.length
  ne : ∀ j, 1 ≤ j → j < ps.length → at_ ps j ≠ []
  cut : ∀ v ∈ ps, ∀ s, s ≤ v.length → v.take s ∈ ps ∧ v.drop s ∈ ps
  edge : ∀ j, 1 ≤ j → j < ps.length → edgeW (at_ ps j) ∈ ps ∧ spotW ps j < j
  chosen : ∀ j, 1 ≤ j → j < ps.length → Builtin.bitAnd (setN (twoW ps j) : Nat) (Builtin.bitOr (setN (wholeW ps j) : Nat) (2 ^ spotW ps j)) = (setN (chosenW ps j) : Nat)
  aEdge : ∀ v ∈ ps, ∀ s, 0 < s → s < v.length → Ask (dots ++ W (v.take s)) (W v) (decide (v.take s = v.drop (v.length - s))) ∧ Ask (W (v.drop (v.length - s)) ++ dots) (W v) (decide (v.take s = v.drop (v.length - s)))
  aLoose : ∀ v ∈ ps, v ≠ [] → Ask (W (v.take 1) ++ dots ++ W (edgeW v) ++ dots ++ W (v.drop (v.length - 1))) (W v) (!looseW v)
  aMixed : ∀ v ∈ ps, v ≠ [] → Ask (W (v.drop 1)) (W (v.take (v.length - 1))) (!mixedW v)
  aTwice : ∀ v ∈ ps, 3 < v.length → Ask (W (edgeW v)) (W v) false ∧ Ask (W v) (W (edgeW v)) false ∧ Ask (W (v.drop 1) ++ dots) (W v) (!mixedW v) ∧
    Ask (W (edgeW v) ++ dots ++ W (edgeW v)) (W v) (decide (2 * (edgeW v).length ≤ v.length)) ∧ Ask (dots ++ W (edgeW v) ++ dots ++ W (edgeW v) ++ dots) (W v) (decide (2 * (edgeW v).length ≤ v.length))
  aWhole : ∀ v ∈ ps, ∀ u ∈ ps, v.length = u.length + 2 → Ask (W (v.take 1) ++ W u ++ W (v.drop (v.length - 1))) (W v) (decide (u = insideW v))

/-! Fn9 -/
structure LocA (ch : Nat → Nat) (W : List Nat → Str) (ps : List (List Nat)) (r wr bk pc wi : Addr) (j : Nat) (v : List Nat) (σ' : St) : Prop where
  f_signs : σ'.loc (Str.ofString "signs") = some (.ref r)
  f_wrong : σ'.loc (Str.ofString "wrong") = some (.ref wr)
  f_book : σ'.loc (Str.ofString "book") = some (.ref bk)
  f_pieces : σ'.loc (Str.ofString "pieces") = some (.ref pc)
  f_within : σ'.loc (Str.ofString "within") = some (.ref wi)
  f_j : σ'.loc (Str.ofString "j") = some (.int (j : Int))
  f_v : σ'.loc (Str.ofString "v") = some (tAV ch v)
  f_first : σ'.loc (Str.ofString "first") = some (.str (W (v.take 1)))
  f_last : σ'.loc (Str.ofString "last") = some (.str (W (v.drop (v.length - 1))))
  f_inside : σ'.loc (Str.ofString "inside") = some (tAV ch (insideW v))
  f_edge : σ'.loc (Str.ofString "edge") = some (tAV ch (edgeW v))
  f_spot : σ'.loc (Str.ofString "spot") = some (.int ((ps.idxOf (edgeW v) : Nat) : Int))
  f_loose : σ'.loc (Str.ofString "loose") = some (.bool (looseW v))
structure LocB (ch : Nat → Nat) (W : List Nat → Str) (ps : List (List Nat)) (r wr bk pc wi : Addr) (j : Nat) (v : List Nat) (σ' : St) : Prop extends LocA ch W ps r wr bk pc wi j v σ' where
  f_mixed : σ'.loc (Str.ofString "mixed") = some (.bool (mixedW v))
  f_free : σ'.loc (Str.ofString "free") = some (.bool (looseW v))
  f_varied : σ'.loc (Str.ofString "varied") = some (.bool (mixedW v))
structure LocC (ch : Nat → Nat) (r wr bk pc wi bl : Addr) (j : Nat) (v : List Nat) (cz : Int) (σ' : St) : Prop where
  f_signs : σ'.loc (Str.ofString "signs") = some (.ref r)
  f_wrong : σ'.loc (Str.ofString "wrong") = some (.ref wr)
  f_book : σ'.loc (Str.ofString "book") = some (.ref bk)
  f_pieces : σ'.loc (Str.ofString "pieces") = some (.ref pc)
  f_within : σ'.loc (Str.ofString "within") = some (.ref wi)
  f_j : σ'.loc (Str.ofString "j") = some (.int (j : Int))
  f_v : σ'.loc (Str.ofString "v") = some (tAV ch v)
  f_varied : σ'.loc (Str.ofString "varied") = some (.bool (mixedW v))
  f_chosen : σ'.loc (Str.ofString "chosen") = some (.int cz)
  f_below : σ'.loc (Str.ofString "below") = some (.ref bl)
noncomputable def lstW (ps : List (List Nat)) (j i : Nat) : List (Nat × Int) := (j, 1) :: ((withinW ps j).dropLast.take i).map fun k => (k, valW ps (signsTo ps j) j k)
theorem lstW_succ (ps : List (List Nat)) (j i k : Nat) (h : (withinW ps j).dropLast[i]? = some k) : lstW ps j (i + 1) = lstW ps j i ++ [(k, valW ps (signsTo ps j) j k)] := by
  unfold lstW
  rw [List.take_add_one, h, List.map_append]; rfl
theorem lstW_new (ps : List (List Nat)) {j i k : Nat} (hj : 1 ≤ j) (h : (withinW ps j).dropLast[i]? = some k) (v : AV) :
    storedA ((lstW ps j i).map kvI) (k : Int) v = (lstW ps j i).map kvI ++ [((k : Int), v)] := by
  refine storedA_newI ?_
  intro hm
  have hnd := innerW_nodup ps hj
  rw [← withinW_dropLast ps hj] at hnd
  rw [List.nodup_cons] at hnd
  have hkm := List.mem_of_getElem? h
  simp only [lstW, List.map_cons, List.map_map, List.mem_cons, List.mem_map, Function.comp] at hm
  rcases hm with e | ⟨k', hk', e⟩
  · have : k = j := by have e' : (k : Int) = (j : Int) := e; omega
    subst this; exact hnd.1 hkm
  · have : k' = k := by have e' : (k' : Int) = (k : Int) := e; omega
    subst this
    obtain ⟨hlt, he⟩ := List.getElem?_eq_some_iff.mp h
    obtain ⟨m, hm, he'⟩ := List.mem_take_iff_getElem.mp hk'
    have := (List.getElem_inj hnd.2).mp (he'.trans he.symm)
    omega
section
variable {p : Params} {n : Nat} {c : Cx} {σ : St} {P : AV → St → Prop} {ch : Nat → Nat} {W : List Nat → Str} {ps : List (List Nat)}

theorem sp_signs (O : Ok (KP p) c n) (hn : 5 ≤ n) {us : List Value} {wr bk pc wi : Addr} (hus : All₂ VR [.ref wr, .ref bk, .ref pc, .ref wi] us) (B : Book ch W ps) (G : Sg W ps)
    (hbk : σ.H bk = some (.sdict (bookKV ch W ps))) (hpc : σ.H pc = some (.list (ps.map (tAV ch)))) (hwi : Rows σ.H wi ((List.range ps.length).map (withinW ps)))
    (h : ∀ r H', Ext σ.H H' → σ.H r = none → RowsD H' r (signsTo ps ps.length) → P (.ref r) { loc := σ.loc, H := H' }) : WE c (call (.ref 179) us) P σ := by
  obtain ⟨m, rfl⟩ : ∃ m, n = m + 1 := ⟨n - 1, by omega⟩
  refine' call_fn (names := [Str.ofString "wrong", Str.ofString "book", Str.ofString "pieces", Str.ofString "within"]) O hus ?ho ?hcd rfl ?hb ?hk ?hnd ?hkk ?hco ?hg ?h
  walk_at "m_call"
  case h =>
    intro L cc O
    have hsm := B.small
    have hps := G.first
    repeat walk_at "m"
    walk_at "m_DictI"
    repeat walk_at "m"
    refine ⟨[(0, .int 1)], rfl, by decide, by decide, fun d0 hd0 => ?_⟩
    repeat walk_at "m"
    refine ⟨by simp, fun r hr => ?_⟩
    have hdr : d0 ≠ r := by rintro rfl; rw [H_same] at hr; cases hr
    have hr0 : σ.H r = none := fresh_of_ext (by walk_at "m_ext") hr
    repeat walk_at "m"
    walk_at "m_for"
    repeat walk_at "m"
    intro us hus
    refine wk_len_list hus (LA.ours (by walk_at "m_H")) ?_
    repeat walk_at "m"
    intro us hus
    refine wk_range2 O hus fun r1 hr1 => ?_
    have hsz : Builtin.Range.rangeSize 1 ((ps.map (tAV ch)).length : Int) 1 = ((ps.length - 1 : Nat) : Int) := by
      rw [rangeSize_up (by simp; omega)]; simp
    refine ⟨_, fun _ => True, fun i σ' => σ'.loc (Str.ofString "signs") = some (.ref r) ∧ σ'.loc (Str.ofString "wrong") = some (.ref wr) ∧ σ'.loc (Str.ofString "book") = some (.ref bk) ∧ σ'.loc (Str.ofString "pieces") = some (.ref pc) ∧ σ'.loc (Str.ofString "within") = some (.ref wi) ∧
      RowsD σ'.H r (signsTo ps (1 + i)) ∧ Ext σ.H σ'.H,
      ⟨_, itbl_range O.handled r1 (range_small1 (by decide) (by simp; omega)) hsz, H_same⟩, trivial, ⟨by walk_at "m_loc", by walk_at "m_loc", by walk_at "m_loc", by walk_at "m_loc", by walk_at "m_loc", ⟨[d0], ?_, .cons ⟨hdr, ?_⟩ .nil⟩, by walk_at "m_ext"⟩, ?_, ?_⟩
    · show _ = some (AO.list [.ref d0]); walk_at "m_H"
    · show _ = some (AO.idict [(0, .int 1)]); walk_at "m_H"
    · refine fun i x σ3 hx hJ _ => WG.post fun Q hQ => ?_
      obtain ⟨q1, q2, q3, q4, q5, qR, qE⟩ := hJ
      obtain ⟨hi, rfl⟩ := rangeItems_get hx
      have e0 : (1 : Int) + (i : Int) * 1 = ((1 + i : Nat) : Int) := by omega
      rw [e0]
      have hi' : 1 + i < ps.length := by omega
      have hi1 : 1 ≤ 1 + i := by omega
      generalize hj : 1 + i = j at *
      obtain ⟨v, hv⟩ : ∃ v, ps[j]? = some v := ⟨ps[j]'(by omega), by simp [hi']⟩
      have hvm := List.mem_of_getElem? hv
      have hvD : at_ ps j = v := by simp [at_, List.getD, hv]
      have hvne : v ≠ [] := by rw [← hvD]; exact G.ne j hi1 hi'
      have hvl := B.short v hvm
      have hvp : 0 < v.length := List.length_pos_iff.mpr hvne
      obtain ⟨hem, hspot⟩ := G.edge j hi1 hi'
      have hspot' : ps.idxOf (edgeW v) < j := by rw [← hvD]; exact hspot
      rw [hvD] at hem
      have hf1 := (G.cut v hvm 1 (by omega)).1
      have hl1 := (G.cut v hvm (v.length - 1) (by omega)).2
      have hd1 := (G.cut v hvm 1 (by omega)).2
      have ht1 := (G.cut v hvm (v.length - 1) (by omega)).1
      have hf1w := B.wlen _ hf1
      have hl1w := B.wlen _ hl1
      have hd1w := B.wlen _ hd1
      have ht1w := B.wlen _ ht1
      have hew := B.wlen _ hem
      have hel := B.short _ hem
      have hbk3 := qE _ _ hbk
      have hpc3 := qE _ _ hpc
      have hwi3 := hwi.ext qE
      -- v, first, last, inside
      repeat walk_at "m"
      refine wi_list (v := tAV ch v) (by walk_at "m_H") (by omega) (by omega) (map_get hv) ?_ (fun _ _ => rfl)
      repeat walk_at "m"
      refine wsl_str (by rw [T_len]; omega) ?_ (fun _ _ => ⟨_, rfl⟩)
      rw [T_to ch v (j := 1) (by omega), show (1 : Int).toNat = 1 from rfl]
      refine wi_sdict (by walk_at "m_H") (look_book B.inj hf1) ?_ (fun _ _ => rfl)
      repeat walk_at "m"
      intro u hu
      refine wun_neg hu ?_
      repeat walk_at "m"
      refine wsl_str (by rw [T_len]; omega) ?_ (fun _ _ => ⟨_, rfl⟩)
      rw [T_last ch v hvne]
      refine wi_sdict (by walk_at "m_H") (look_book B.inj hl1) ?_ (fun _ _ => rfl)
      repeat walk_at "m"
      intro u hu
      refine wun_neg hu ?_
      repeat walk_at "m"
      refine wsl_str (by rw [T_len]; omega) ?_ (fun _ _ => ⟨_, rfl⟩)
      rw [T_inside ch v hvne, show (v.drop 1).take (v.length - 2) = insideW v from rfl]
      -- edge, spot
      repeat walk_at "m"
      intro us hus
      refine sp_edge O (by omega) hus B hvm hvne (by walk_at "m_H") (G.cut v hvm) (fun s h0 h1 => G.aEdge v hvm s h0 h1) fun H1 hE1 => ?_
      have E : Ext σ3.H H1 := hE1
      repeat walk_at "m"
      intro u us hu hus
      obtain ⟨hix1, hix2⟩ := idx_first hem
      refine wm_index (ys := ps.map (T ch)) (j := ps.idxOf (edgeW v)) hu hus (by rw [List.map_map]; show _ = some (AO.list (ps.map (tAV ch))); walk_at "m_H") (map_get hix1) (fun m' hm' he' => ?_) ?_
      · rw [List.getElem?_map, Option.map_eq_some_iff] at he'
        obtain ⟨x, h1, h2⟩ := he'
        exact hix2 m' hm' (by rw [h1, T_inj B.inj h2])
      -- loose
      refine wf_cons ?_
      refine WG.mono (P := fun f σ' => f = .next ∧ LocA ch W ps r wr bk pc wi j v σ' ∧ Ext σ3.H σ'.H) ?_ ?_
      · refine WG.post fun Q3 hQ3 => ?_
        repeat walk_at "m"
        intro us hus
        refine wk_len_str hus (by rw [T_len]; omega) ?_
        rw [T_len]
        repeat walk_at "m"
        refine ite_of (fun h0 => ?_) (fun h0 => ?_)
        · have hlo : looseW v = decide ((v.length : Int) < 2) := by
            unfold looseW; have : v.length < 2 := by have := of_decide_eq_true h0; omega
            simp [this]; omega
          rw [← hlo]
          exact hQ3 _ _ ⟨rfl, ⟨by walk_at "m_loc", by walk_at "m_loc", by walk_at "m_loc", by walk_at "m_loc", by walk_at "m_loc", by walk_at "m_loc", by walk_at "m_loc", by walk_at "m_loc", by walk_at "m_loc", by walk_at "m_loc", by walk_at "m_loc", by walk_at "m_loc", by walk_at "m_loc"⟩, E⟩
        · repeat walk_at "m"
          rw [T_contains B.inj]
          have hlo : looseW v = !infB (edgeW v) (insideW v) := by
            unfold looseW; have : ¬ v.length < 2 := by have := of_decide_eq_false h0; omega
            simp [this]
          rw [← hlo]
          exact hQ3 _ _ ⟨rfl, ⟨by walk_at "m_loc", by walk_at "m_loc", by walk_at "m_loc", by walk_at "m_loc", by walk_at "m_loc", by walk_at "m_loc", by walk_at "m_loc", by walk_at "m_loc", by walk_at "m_loc", by walk_at "m_loc", by walk_at "m_loc", by walk_at "m_loc", by walk_at "m_loc"⟩, E⟩
      clear q1 q2 q3 q4 q5 E hE1 H1 hus hu us u
      rintro f σ4 ⟨rfl, ⟨a1, a2, a3, a4, a5, a6, a7, a8, a9, a10, a11, a12, a13⟩, E⟩
      have hbk4 := E _ _ hbk3
      have hpc4 := E _ _ hpc3
      -- mixed
      repeat walk_at "m"
      refine wsl_str (by rw [T_len]; omega) ?_ (fun _ _ => ⟨_, rfl⟩)
      rw [T_to ch v (j := 1) (by omega), show (1 : Int).toNat = 1 from rfl]
      repeat walk_at "m"
      intro us hus
      refine wk_len_str hus (by rw [T_len]; omega) ?_
      rw [T_len]
      refine wb_mulS (by omega) (by omega) (by rw [T_len]; simp; omega) ?_
      rw [T_mul ch (v.take 1) v.length hvp]
      repeat walk_at "m"
      have hmx : (!decide (T ch v = T ch (List.replicate v.length (v.take 1)).flatten)) = mixedW v := by
        unfold mixedW
        rw [decide_not]
        congr 1
        exact decide_eq_decide.mpr ⟨fun e => T_inj B.inj e, fun e => by rw [← e]⟩
      rw [hmx]
      -- free
      repeat walk_at "m"
      refine wb_addS (by show _ + 3 ≤ _; omega) ?_
      repeat walk_at "m"
      refine wi_sdict (by walk_at "m_H") (look_book B.inj hem) ?_ (fun _ _ => rfl)
      refine wb_addS (by rw [Str.length_append]; show _ + 3 + _ ≤ _; omega) ?_
      repeat walk_at "m"
      refine wb_addS (by simp only [Str.length_append]; show _ + 3 + _ + 3 ≤ _; omega) ?_
      repeat walk_at "m"
      refine wb_addS (by simp only [Str.length_append]; show _ + 3 + _ + 3 + _ ≤ _; omega) ?_
      repeat walk_at "m"
      refine wi_sdict (by walk_at "m_H") (look_book B.inj hvm) ?_ (fun _ _ => rfl)
      repeat walk_at "m"
      intro u hu
      refine wun_not hu (wt_bool ?_)
      repeat walk_at "m"
      intro us hus
      refine sp_askA O (by omega) hus (G.aLoose v hvm hvne) fun H2 hE2 => ?_
      have E2 : Ext σ3.H H2 := E.trans hE2
      have hbk5 := E2 _ _ hbk3
      repeat walk_at "m"
      intro us hus
      refine sp_notB O (by omega) hus ?_
      rw [Bool.not_not]
      -- varied
      repeat walk_at "m"
      refine wsl_str (by rw [T_len]; omega) ?_ (fun _ _ => ⟨_, rfl⟩)
      rw [T_from ch v (i := 1) (by omega), show (1 : Int).toNat = 1 from rfl]
      refine wi_sdict (by walk_at "m_H") (look_book B.inj hd1) ?_ (fun _ _ => rfl)
      repeat walk_at "m"
      intro u hu
      refine wun_neg hu ?_
      repeat walk_at "m"
      refine wsl_str (by rw [T_len]; omega) ?_ (fun _ _ => ⟨_, rfl⟩)
      rw [T_butlast ch v hvne]
      refine wi_sdict (by walk_at "m_H") (look_book B.inj ht1) ?_ (fun _ _ => rfl)
      repeat walk_at "m"
      intro u hu
      refine wun_not hu (wt_bool ?_)
      repeat walk_at "m"
      intro us hus
      refine sp_askA O (by omega) hus (G.aMixed v hvm hvne) fun H3 hE3 => ?_
      have E3 : Ext σ3.H H3 := E2.trans hE3
      have hbk6 := E3 _ _ hbk3
      repeat walk_at "m"
      intro us hus
      refine sp_notB O (by omega) hus ?_
      rw [Bool.not_not]
      refine wf_cons ?_
      refine WG.mono (P := fun f σ' => f = .next ∧ LocB ch W ps r wr bk pc wi j v σ' ∧ Ext σ3.H σ'.H) ?_ ?_
      · refine WG.post fun Q3 hQ3 => ?_
        repeat walk_at "m"
        intro us hus
        refine wk_len_str hus (by rw [T_len]; omega) ?_
        rw [T_len]
        repeat walk_at "m"
        refine ite_of (fun h0 => ?_) (fun h0 => ?_)
        · have h3 : 3 < v.length := by have := of_decide_eq_true h0; omega
          obtain ⟨t1, t2, t3, t4, t5⟩ := G.aTwice v hvm h3
          repeat walk_at "m"
          refine wi_sdict (by walk_at "m_H") (look_book B.inj hem) ?_ (fun _ _ => rfl)
          repeat walk_at "m"
          refine wsl_str (by rw [T_len]; omega) ?_ (fun _ _ => ⟨_, rfl⟩)
          rw [T_from ch v (i := 1) (by omega), show (1 : Int).toNat = 1 from rfl]
          refine wi_sdict (by walk_at "m_H") (look_book B.inj hd1) ?_ (fun _ _ => rfl)
          repeat walk_at "m"
          refine wi_sdict (by walk_at "m_H") (look_book B.inj hvm) ?_ (fun _ _ => rfl)
          repeat walk_at "m"
          intro us hus
          refine wk_len_str hus (by rw [T_len]; omega) ?_
          rw [T_len]
          repeat walk_at "m"
          intro us hus
          refine wk_len_str hus (by rw [T_len]; omega) ?_
          rw [T_len]
          repeat walk_at "m"
          intro u hu
          refine wun_not hu (wt_bool ?_)
          repeat walk_at "m"
          intro us hus
          have hroom : decide (2 * ((edgeW v).length : Int) ≤ (v.length : Int)) = decide (2 * (edgeW v).length ≤ v.length) := decide_eq_decide.mpr (by omega)
          rw [hroom] at hus
          refine sp_twice O (by omega) hus hew hd1w t1 t2 t3 t4 t5 fun H4 hE4 => ?_
          have E4 : Ext σ3.H H4 := E3.trans hE4
          refine ⟨by simp, ?_⟩
          repeat walk_at "m"
          exact hQ3 _ _ ⟨rfl, ⟨⟨by walk_at "m_loc", by walk_at "m_loc", by walk_at "m_loc", by walk_at "m_loc", by walk_at "m_loc", by walk_at "m_loc", by walk_at "m_loc", by walk_at "m_loc", by walk_at "m_loc", by walk_at "m_loc", by walk_at "m_loc", by walk_at "m_loc", by walk_at "m_loc"⟩, by walk_at "m_loc", by walk_at "m_loc", by walk_at "m_loc"⟩, E4⟩
        · repeat walk_at "m"
          exact hQ3 _ _ ⟨rfl, ⟨⟨by walk_at "m_loc", by walk_at "m_loc", by walk_at "m_loc", by walk_at "m_loc", by walk_at "m_loc", by walk_at "m_loc", by walk_at "m_loc", by walk_at "m_loc", by walk_at "m_loc", by walk_at "m_loc", by walk_at "m_loc", by walk_at "m_loc", by walk_at "m_loc"⟩, by walk_at "m_loc", by walk_at "m_loc", by walk_at "m_loc"⟩, E3⟩
      clear a1 a2 a3 a4 a5 a6 a7 a8 a9 a10 a11 a12 a13 E3 hE3 hbk6 H3 E2 hE2 hbk5 H2 hbk4 hpc4 E σ4
      rintro f σ4 ⟨rfl, ⟨⟨a1, a2, a3, a4, a5, a6, a7, a8, a9, a10, a11, a12, a13⟩, a14, a15, a16⟩, E⟩
      have hbk4 := E _ _ hbk3
      have hpc4 := E _ _ hpc3
      have hwi4 := hwi3.ext E
      have hWj : ((List.range ps.length).map (withinW ps))[j]? = some (withinW ps j) := by simp [hi']
      obtain ⟨rsW, aj, hw1, hw2, hw3, hw4⟩ := hwi4.get hWj
      have hwlt : ∀ k ∈ withinW ps j, k < ps.length := fun k hk => by have := withinW_lt ps j k hk; omega
      have hwl := withinW_len ps j
      -- two
      walk_at "m"
      refine comp_filter_bound O ((withinW ps j).map natAV) ((withinW ps j).map natAV) ((withinW ps j).map (twoB ps j)) (fun H => H aj = some (.list ((withinW ps j).map natAV))) rfl (by simp) (fun H e => e _ _ hw3) ?_ (by simp; omega)
        (by decide) (by walk_at "m_free") (by rfl) (by rfl) (by decide) ?_ ?_ (by rfl) (by rfl) (by intro _; rfl) (by intro _ _; rfl)
      · repeat walk_at "m"
        refine wi_list (v := .ref aj) hw1 (by omega) (by omega) hw2 ?_ (fun _ _ => rfl)
        exact ⟨⟨_, itbl_list O.handled aj _, hw3⟩, rfl, Ext.refl _⟩
      · intro D i' x w b H5 O hx hw hb hE5
        simp only [List.getElem?_map, Option.map_eq_some_iff] at hx hw hb
        obtain ⟨k, hk1, rfl⟩ := hx
        obtain ⟨k', hk2, rfl⟩ := hw
        obtain ⟨k'', hk3, rfl⟩ := hb
        rw [hk1] at hk2 hk3; cases hk2; cases hk3
        have hkl := hwlt k (List.mem_of_getElem? hk1)
        have hpk : ps[k]? = some (at_ ps k) := by simp [at_, List.getD, hkl]
        have hkm := B.short _ (List.mem_of_getElem? hpk)
        have hpc5 := hE5 _ _ hpc4
        repeat walk_at "m"
        intro us hus
        refine wk_len_str hus (by rw [T_len]; omega) ?_
        rw [T_len]
        repeat walk_at "m"
        refine wi_list (v := tAV ch (at_ ps k)) (by walk_at "m_H") (by omega) (by omega) (map_get hpk) ?_ (fun _ _ => rfl)
        repeat walk_at "m"
        intro us hus
        refine wk_len_str hus (by rw [T_len]; omega) ?_
        rw [T_len]
        repeat walk_at "m"
        refine ⟨?_, hE5, fun _ => ?_⟩
        · unfold twoB; rw [hvD]; exact decide_eq_decide.mpr (by omega)
        · repeat walk_at "m"
          exact ⟨rfl, hE5⟩
      · intro tw H5 hE5 htw0 htw
        have E5 : Ext σ3.H H5 := E.trans hE5
        have hbk5 := E5 _ _ hbk3
        have hpc5 := E5 _ _ hpc3
        rw [keepB_filter, show (withinW ps j).filter (twoB ps j) = twoW ps j from rfl] at htw
        have htlt : ∀ k ∈ twoW ps j, k < ps.length := fun k hk => hwlt k (List.mem_filter.mp hk).1
        have ht2 : ∀ k ∈ twoW ps j, v.length = (at_ ps k).length + 2 := fun k hk => by
          have := (List.mem_filter.mp hk).2
          unfold twoB at this; rw [hvD] at this; exact of_decide_eq_true this
        have htl : (twoW ps j).length ≤ j + 1 := Nat.le_trans (List.length_filter_le _ _) hwl
        -- whole
        walk_at "m"
        refine comp_filter_bound O ((twoW ps j).map natAV) ((twoW ps j).map natAV) ((twoW ps j).map (wholeB ps j)) (fun H => H tw = some (.list ((twoW ps j).map natAV))) rfl (by simp) (fun H e => e _ _ htw) ?_ (by simp; omega)
          (by decide) (by walk_at "m_free") (by rfl) (by rfl) (by decide) ?_ ?_ (by rfl) (by rfl) (by intro _; rfl) (by intro _ _; rfl)
        · repeat walk_at "m"
          exact ⟨⟨_, itbl_list O.handled tw _, htw⟩, rfl, Ext.refl _⟩
        · intro D i' x w b H6 O hx hw hb hE6
          simp only [List.getElem?_map, Option.map_eq_some_iff] at hx hw hb
          obtain ⟨k, hk1, rfl⟩ := hx
          obtain ⟨k', hk2, rfl⟩ := hw
          obtain ⟨k'', hk3, rfl⟩ := hb
          rw [hk1] at hk2 hk3; cases hk2; cases hk3
          have hkm' := List.mem_of_getElem? hk1
          have hkl := htlt k hkm'
          have hpk : ps[k]? = some (at_ ps k) := by simp [at_, List.getD, hkl]
          have hpm := List.mem_of_getElem? hpk
          have hkm := B.short _ hpm
          have hkw := B.wlen _ hpm
          have hpc6 := hE6 _ _ hpc5
          have hbk6 := hE6 _ _ hbk5
          repeat walk_at "m"
          refine wi_list (v := tAV ch (at_ ps k)) (by walk_at "m_H") (by omega) (by omega) (map_get hpk) ?_ (fun _ _ => rfl)
          refine wi_sdict (by walk_at "m_H") (look_book B.inj hpm) ?_ (fun _ _ => rfl)
          refine wb_addS (by omega) ?_
          repeat walk_at "m"
          refine wb_addS (by rw [Str.length_append]; omega) ?_
          repeat walk_at "m"
          refine wi_sdict (by walk_at "m_H") (look_book B.inj hvm) ?_ (fun _ _ => rfl)
          repeat walk_at "m"
          refine wi_list (v := tAV ch (at_ ps k)) (by walk_at "m_H") (by omega) (by omega) (map_get hpk) ?_ (fun _ _ => rfl)
          repeat walk_at "m"
          have hdue : decide (T ch (at_ ps k) = T ch (insideW v)) = decide (at_ ps k = insideW v) := decide_eq_decide.mpr ⟨fun e => T_inj B.inj e, fun e => by rw [e]⟩
          rw [hdue]
          intro us hus
          refine sp_askA O (by omega) hus (G.aWhole v hvm _ hpm (ht2 k hkm')) fun H7 hE7 => ?_
          repeat walk_at "m"
          refine ⟨?_, hE6.trans hE7, fun _ => ?_⟩
          · unfold wholeB; rw [hvD]
          · repeat walk_at "m"
            exact ⟨rfl, hE6.trans hE7⟩
        · intro wh H6 hE6 hwh0 hwh
          have E6 : Ext σ3.H H6 := E5.trans hE6
          have hbk6 := E6 _ _ hbk3
          have hpc6 := E6 _ _ hpc3
          have htw6 := hE6 _ _ htw
          rw [keepB_filter, show (twoW ps j).filter (wholeB ps j) = wholeW ps j from rfl] at hwh
          -- chosen
          repeat walk_at "m"
          intro us hus
          refine sp_set O (by omega) hus (by walk_at "m_H") (fun k hk => by have := htlt k hk; omega) (by omega) fun H7 hE7 => ?_
          have E7 : Ext σ3.H H7 := E6.trans hE7
          have hwh7 := hE7 _ _ hwh
          have htw7 := hE7 _ _ htw6
          have hwhl : (wholeW ps j).length ≤ j + 1 := Nat.le_trans (List.length_filter_le _ _) htl
          have hidx : ps.idxOf (edgeW v) < j := hspot'
          repeat walk_at "m"
          intro us hus
          refine sp_set O (by omega) hus (by walk_at "m_H") (fun k hk => by have := htlt k (List.mem_filter.mp hk).1; omega) (by omega) fun H8 hE8 => ?_
          have E8 : Ext σ3.H H8 := E7.trans hE8
          have htw8 := hE8 _ _ htw7
          have hpc8 := E8 _ _ hpc3
          repeat walk_at "m"
          refine wb_powC (by decide) (by rw [show Builtin.Int.intBits 2 = 2 from by decide +kernel]; omega) ?_
          repeat walk_at "m"
          intro us hus
          refine sp_or O (by omega) hus ?_
          repeat walk_at "m"
          intro us hus
          refine sp_and O (by omega) hus ?_
          have hch := G.chosen j hi1 hi'
          rw [show spotW ps j = ps.idxOf (edgeW v) by rw [spotW, hvD]] at hch
          rw [hch]
          -- the check of chosen
          repeat walk_at "m"
          have hpcS : (List.map (tAV ch) ps)[0]? = (List.map (tAV ch) ps)[0]? := rfl
          refine comp_filter O ((twoW ps j).map natAV) ((twoW ps j).map natAV) ((twoW ps j).map (chosenB ps j)) (fun H => H tw = some (.list ((twoW ps j).map natAV))) rfl (by simp) (fun H e => e _ _ htw8) ?_ (by simp; omega)
            (by decide) (by walk_at "m_free") (by rfl) (by rfl) (by decide) ?_ ?_ (by intro _; rfl) (by intro _ _; rfl)
          · repeat walk_at "m"
            exact ⟨⟨_, itbl_list O.handled tw _, htw8⟩, rfl, Ext.refl _⟩
          · intro D i' x w b H9 O hx hw hb hE9
            simp only [List.getElem?_map, Option.map_eq_some_iff] at hx hw hb
            obtain ⟨k, hk1, rfl⟩ := hx
            obtain ⟨k', hk2, rfl⟩ := hw
            obtain ⟨k'', hk3, rfl⟩ := hb
            rw [hk1] at hk2 hk3; cases hk2; cases hk3
            have hkl := htlt k (List.mem_of_getElem? hk1)
            have hpk : ps[k]? = some (at_ ps k) := by simp [at_, List.getD, hkl]
            have hpc9 := hE9 _ _ hpc8
            repeat walk_at "m"
            refine wi_list (v := tAV ch (at_ ps k)) (by walk_at "m_H") (by omega) (by omega) (map_get hpk) ?_ (fun _ _ => rfl)
            repeat walk_at "m"
            refine ⟨by simp, fun q hq => ?_⟩
            refine wc_inL (ys := [T ch (insideW v), T ch (edgeW v)]) (LA.ours H_same) ?_
            repeat walk_at "m"
            refine ⟨?_, Ext.to_put hq hE9, fun _ => ?_⟩
            · unfold chosenB
              rw [hvD]
              have : T ch (at_ ps k) ∈ [T ch (insideW v), T ch (edgeW v)] ↔ (at_ ps k = insideW v ∨ at_ ps k = edgeW v) := by
                simp only [List.mem_cons, List.not_mem_nil, or_false]
                constructor
                · rintro (e | e)
                  · exact .inl (T_inj B.inj e)
                  · exact .inr (T_inj B.inj e)
                · rintro (e | e)
                  · exact .inl (by rw [e])
                  · exact .inr (by rw [e])
              rw [decide_eq_decide.mpr this, Bool.decide_or]
            · repeat walk_at "m"
              exact ⟨rfl, Ext.to_put hq hE9⟩
          · intro rc H9 hE9 hrc0 hrc
            have E9 : Ext σ3.H H9 := E8.trans hE9
            rw [keepB_filter, show (twoW ps j).filter (chosenB ps j) = chosenW ps j from rfl] at hrc
            repeat walk_at "m"
            intro us hus
            refine sp_set O (by omega) hus (by walk_at "m_H") (fun k hk => by have := htlt k (List.mem_filter.mp hk).1; omega) (by have := List.length_filter_le (chosenB ps j) (twoW ps j); have : (chosenW ps j).length ≤ (twoW ps j).length := this; omega) fun H10 hE10 => ?_
            have E10 : Ext σ3.H H10 := E9.trans hE10
            repeat walk_at "m"
            refine ite_F (by simp) ?_
            repeat walk_at "m"
            refine ite_F (by simp) ?_
            repeat walk_at "m"
            refine ite_F (by simp) ?_
            repeat walk_at "m"
            intro us hus
            refine sp_notS O (by omega) hus (by rw [T_len]; omega) ?_
            repeat walk_at "m"
            have hemp : (!decide ((T ch (edgeW v)).length ≠ 0)) = decide (T ch (edgeW v) = Str.ofString "") := by
              rw [T_len]
              cases edgeW v with
              | nil => rfl
              | cons a t =>
                have : T ch (a :: t) ≠ Str.ofString "" := fun e => by
                  have := congrArg Str.length e
                  rw [T_len] at this
                  have h0 : (Str.ofString "").length = 0 := by decide
                  rw [h0] at this; simp at this
                simp [this]
            refine ite_F (by rw [hemp]; simp) ?_
            iterate 3 walk_at "m"
            -- below
            refine wf_cons ?_
            refine WG.mono (P := fun f σ' => f = .next ∧ ∃ bl, LocC ch r wr bk pc wi bl j v (setN (chosenW ps j) : Nat) σ' ∧ Ext σ3.H σ'.H ∧
              σ'.H bl = some (.idict ((if looseW v then (signsTo ps j).getD (ps.idxOf (edgeW v)) [] else []).map kvI))) ?_ ?_
            · refine WG.post fun Q3 hQ3 => ?_
              repeat walk_at "m"
              refine ite_of (fun h0 => ?_) (fun h0 => ?_)
              · have hsl : (signsTo ps j)[ps.idxOf (edgeW v)]? = some ((signsTo ps j).getD (ps.idxOf (edgeW v)) []) := by
                  have := signsTo_len ps j
                  simp [List.getD, this, hidx]
                obtain ⟨rsS, aS, hs1, hs2, hs3, hs4⟩ := (qR.ext E10).get hsl
                repeat walk_at "m"
                refine wi_list (v := .ref aS) hs1 (by omega) (by omega) hs2 ?_ (fun _ _ => rfl)
                refine hQ3 _ _ ⟨rfl, aS, ⟨by walk_at "m_loc", by walk_at "m_loc", by walk_at "m_loc", by walk_at "m_loc", by walk_at "m_loc", by walk_at "m_loc", by walk_at "m_loc", by walk_at "m_loc", by walk_at "m_loc", by walk_at "m_loc"⟩, E10, ?_⟩
                rw [if_pos h0]; exact hs3
              · walk_at "m"
                intro bl hbl
                refine hQ3 _ _ ⟨rfl, bl, ⟨by walk_at "m_loc", by walk_at "m_loc", by walk_at "m_loc", by walk_at "m_loc", by walk_at "m_loc", by walk_at "m_loc", by walk_at "m_loc", by walk_at "m_loc", by walk_at "m_loc", by walk_at "m_loc"⟩, by walk_at "m_ext", ?_⟩
                rw [h0]
                show _ = some (AO.idict [])
                walk_at "m_H"
            rintro f σ5 ⟨rfl, bl, ⟨b1, b2, b3, b4, b5, b6, b7, b8, b9, b10⟩, F, hbl⟩
            have hpc11 := F _ _ hpc3
            have qR5 := qR.ext F
            obtain ⟨rs5, g1, g2⟩ := id qR5
            obtain ⟨rsV, av, hv1, hv2, hv3, hv4⟩ := (hwi3.ext F).get hWj
            -- row
            walk_at "m"
            walk_at "m"
            walk_at "m_DictI"
            repeat walk_at "m"
            refine ⟨[((j : Int), .int 1)], rfl, by simp, by simp, fun rw_ hrw => ?_⟩
            have hrwr : rw_ ≠ r := by
              rintro rfl
              rw [g1] at hrw; cases hrw
            repeat walk_at "m"
            walk_at "m_for"
            repeat walk_at "m"
            refine wi_list (v := .ref av) (by walk_at "m_H") (by omega) (by omega) hv2 ?_ (fun _ _ => rfl)
            repeat walk_at "m"
            intro u hu
            refine wun_neg hu ?_
            repeat walk_at "m"
            refine wsl_list O (LA.ours (by walk_at "m_H")) (by decide) (fun q hq => ?_) (fun _ _ => ⟨_, rfl⟩)
            rw [pickA_butLast, show ((withinW ps j).map natAV).dropLast = (withinW ps j).dropLast.map natAV from by rw [List.dropLast_eq_take, List.dropLast_eq_take, List.map_take, List.length_map]] at *
            have hqrw : q ≠ rw_ := by
              rintro rfl
              have : (σ5.put q (.idict [((j : Int), .int 1)])).H q = none := hq
              rw [H_same] at this; cases this
            refine ⟨(withinW ps j).dropLast.map natAV, fun H => H q = some (.list ((withinW ps j).dropLast.map natAV)), fun i' σ' => LocC ch r wr bk pc wi bl j v (setN (chosenW ps j) : Nat) σ' ∧ σ'.loc (Str.ofString "row") = some (.ref rw_) ∧
              σ'.H rw_ = some (.idict ((lstW ps j i').map kvI)) ∧ Ext σ5.H σ'.H,
              ⟨_, itbl_list O.handled q _, H_same⟩, H_same, ⟨⟨by walk_at "m_loc", by walk_at "m_loc", by walk_at "m_loc", by walk_at "m_loc", by walk_at "m_loc", by walk_at "m_loc", by walk_at "m_loc", by walk_at "m_loc", by walk_at "m_loc", by walk_at "m_loc"⟩, by walk_at "m_loc", ?_, by walk_at "m_ext"⟩, ?_, ?_⟩
            · show _ = some (AO.idict [((j : Int), .int 1)]); walk_at "m_H"
            · clear b1 b2 b3 b4 b5 b6 b7 b8 b9 b10
              refine fun i' x σ6 hx hJ hq6 => WG.post fun Q2 hQ2 => ?_
              obtain ⟨⟨b1, b2, b3, b4, b5, b6, b7, b8, b9, b10⟩, b11, hrow, E⟩ := hJ
              simp only [List.getElem?_map, Option.map_eq_some_iff] at hx
              obtain ⟨k, hk1, rfl⟩ := hx
              have hkw := List.dropLast_subset _ (List.mem_of_getElem? hk1)
              have hkl := hwlt k hkw
              have hpk : ps[k]? = some (at_ ps k) := by simp [at_, List.getD, hkl]
              have hkm := B.short _ (List.mem_of_getElem? hpk)
              have hpc6 := E _ _ hpc11
              have hbl6 := E _ _ hbl
              have hnew := fun v => lstW_new ps hi1 hk1 v
              have hsucc := lstW_succ ps j i' k hk1
              have hll : (lstW ps j i').length ≤ j + 2 := by
                unfold lstW
                simp only [List.length_cons, List.length_map, List.length_take, List.length_dropLast]; omega
              have hval : valW ps (signsTo ps j) j k = if v.length = (at_ ps k).length + 1 then -1 else if v.length = (at_ ps k).length + 2 then (if mixedW v then (((setN (chosenW ps j) : Nat) : Int).fdiv (2 ^ k)).fmod 2 else 0)
                  else lookZ (if looseW v then (signsTo ps j).getD (ps.idxOf (edgeW v)) [] else []) k := by
                unfold valW spotW; rw [hvD]
              have store : ∀ (z : Int), z = valW ps (signsTo ps j) j k → (lstW ps j i').map kvI ++ [((k : Int), AV.int z)] = (lstW ps j (i' + 1)).map kvI := fun z hz => by
                rw [hsucc, List.map_append, hz]; rfl
              repeat walk_at "m"
              intro us hus
              refine wk_len_str hus (by rw [T_len]; omega) ?_
              rw [T_len]
              repeat walk_at "m"
              refine wi_list (v := tAV ch (at_ ps k)) (by walk_at "m_H") (by omega) (by omega) (map_get hpk) ?_ (fun _ _ => rfl)
              repeat walk_at "m"
              intro us hus
              refine wk_len_str hus (by rw [T_len]; omega) ?_
              rw [T_len]
              repeat walk_at "m"
              refine ite_of (fun h0 => ?_) (fun h0 => ?_)
              · have h1 : v.length = (at_ ps k).length + 1 := by have := of_decide_eq_true h0; omega
                repeat walk_at "m"
                intro us hus
                refine sp_neg O (by omega) hus ?_
                repeat walk_at "m"
                refine ⟨rw_, _, _, rfl, rfl, (by walk_at "m_H"), by simp; omega, ?_⟩
                rw [hnew, store (-((v.length : Int) - ((at_ ps k).length : Int))) (by rw [hval, if_pos h1]; omega)]
                repeat walk_at "m"
                exact hQ2 _ _ ⟨⟨⟨by walk_at "m_loc", by walk_at "m_loc", by walk_at "m_loc", by walk_at "m_loc", by walk_at "m_loc", by walk_at "m_loc", by walk_at "m_loc", by walk_at "m_loc", by walk_at "m_loc", by walk_at "m_loc"⟩, by walk_at "m_loc", H_same, Ext.to_own hrw E⟩, H_other hqrw hq6⟩
              · have h1 : ¬ v.length = (at_ ps k).length + 1 := by have := of_decide_eq_false h0; omega
                repeat walk_at "m"
                refine ite_of (fun h2 => ?_) (fun h2 => ?_)
                · have h2' : v.length = (at_ ps k).length + 2 := by have := of_decide_eq_true h2; omega
                  repeat walk_at "m"
                  refine ite_of (fun h3 => ?_) (fun h3 => ?_)
                  · repeat walk_at "m"
                    have hp1 : ((2 : Int) ^ k).natAbs = 2 ^ k := by rw [Int.natAbs_pow]; rfl
                    have hp2 : 2 ^ k ≤ 2 ^ 20 := Nat.pow_le_pow_right (by decide) (by omega)
                    have hp3 : (2 : Int) ^ k ≠ 0 := Int.ne_of_gt (Int.pow_pos (by decide))
                    refine wb_powC (by decide) (by rw [show Builtin.Int.intBits 2 = 2 from by decide +kernel]; omega) ?_
                    refine wb_div hp3 (by rw [hp1]; omega) ?_
                    repeat walk_at "m"
                    refine ⟨rw_, _, _, rfl, rfl, (by walk_at "m_H"), by simp; omega, ?_⟩
                    rw [hnew, store ((((setN (chosenW ps j) : Nat) : Int).fdiv (2 ^ k)).fmod 2) (by rw [hval, if_neg h1, if_pos h2', if_pos h3])]
                    repeat walk_at "m"
                    exact hQ2 _ _ ⟨⟨⟨by walk_at "m_loc", by walk_at "m_loc", by walk_at "m_loc", by walk_at "m_loc", by walk_at "m_loc", by walk_at "m_loc", by walk_at "m_loc", by walk_at "m_loc", by walk_at "m_loc", by walk_at "m_loc"⟩, by walk_at "m_loc", H_same, Ext.to_own hrw E⟩, H_other hqrw hq6⟩
                  · repeat walk_at "m"
                    refine ⟨rw_, _, _, rfl, rfl, (by walk_at "m_H"), by simp; omega, ?_⟩
                    rw [hnew, store 0 (by rw [hval, if_neg h1, if_pos h2', h3]; rfl)]
                    repeat walk_at "m"
                    exact hQ2 _ _ ⟨⟨⟨by walk_at "m_loc", by walk_at "m_loc", by walk_at "m_loc", by walk_at "m_loc", by walk_at "m_loc", by walk_at "m_loc", by walk_at "m_loc", by walk_at "m_loc", by walk_at "m_loc", by walk_at "m_loc"⟩, by walk_at "m_loc", H_same, Ext.to_own hrw E⟩, H_other hqrw hq6⟩
                · have h2' : ¬ v.length = (at_ ps k).length + 2 := by have := of_decide_eq_false h2; omega
                  repeat walk_at "m"
                  intro u us hu hus
                  refine wm_get hu hus (by walk_at "m_H") ?_
                  rw [lookA_kvI]
                  repeat walk_at "m"
                  refine ⟨rw_, _, _, rfl, rfl, (by walk_at "m_H"), by simp; omega, ?_⟩
                  rw [hnew, store (lookZ (if looseW v then (signsTo ps j).getD (ps.idxOf (edgeW v)) [] else []) k) (by rw [hval, if_neg h1, if_neg h2'])]
                  repeat walk_at "m"
                  exact hQ2 _ _ ⟨⟨⟨by walk_at "m_loc", by walk_at "m_loc", by walk_at "m_loc", by walk_at "m_loc", by walk_at "m_loc", by walk_at "m_loc", by walk_at "m_loc", by walk_at "m_loc", by walk_at "m_loc", by walk_at "m_loc"⟩, by walk_at "m_loc", H_same, Ext.to_own hrw E⟩, H_other hqrw hq6⟩
            · clear b1 b2 b3 b4 b5 b6 b7 b8 b9 b10
              rintro σ6 ⟨⟨b1, b2, b3, b4, b5, b6, b7, b8, b9, b10⟩, b11, hrow, E⟩ hq6
              rw [List.length_map] at hrow
              have g1' := E _ _ g1
              have hfull : lstW ps j (withinW ps j).dropLast.length = rowS ps (signsTo ps j) j := by
                unfold lstW rowS; rw [List.take_length]
              have hrsl := g2.length
              rw [signsTo_len] at hrsl
              repeat walk_at "m"
              intro u us hu hus
              refine wm_append hu hus (by walk_at "m_H") (by simp; omega) ?_
              refine ⟨by simp, ?_⟩
              repeat walk_at "m"
              refine hQ _ _ ⟨⟨by walk_at "m_loc", by walk_at "m_loc", by walk_at "m_loc", by walk_at "m_loc", by walk_at "m_loc", ?_, ?_⟩, trivial⟩
              · rw [show 1 + (i + 1) = j + 1 by omega, signsTo_succ ps hi1]
                refine RowsD.push g1' (g2.mono' fun a l ⟨h3, h4⟩ => ⟨h3, E _ _ h4⟩) hrwr ?_
                rw [← hfull]; exact hrow
              · exact Ext.to_own hr0 (qE.trans (F.trans E))
    · rintro σ3 ⟨q1, q2, q3, q4, q5, qR, qE⟩ _
      rw [rangeItems_length, show 1 + (ps.length - 1) = ps.length by omega] at qR
      repeat walk_at "m"
      exact h r _ qE hr0 qR
end

/-! Pl3 -/
open Builtin Builtin.Str StrLaws
noncomputable def S (l : List Nat) : Str := ⟨l.toArray⟩
theorem S_list (l : List Nat) : (S l).cps.toList = l := rfl
theorem S_len (l : List Nat) : (S l).length = l.length := by simp [S, Str.length]
theorem S_app (a b : List Nat) : S a ++ S b = S (a ++ b) := Str.ext' (by simp [S, Str.cps_append])
theorem S_inj {a b : List Nat} (h : S a = S b) : a = b := by
  have := congrArg (fun s : Str => s.cps.toList) h
  exact this
noncomputable def d3 : List Nat := [46, 46, 46]
theorem dots_eq : dots = S d3 := by decide +kernel
theorem at_S (x y : List Nat) (hi k : Nat) : At (S x) (S y) hi k ↔ k + y.length ≤ hi ∧ (x.drop k).take y.length = y := by
  unfold At
  rw [StrLaws.subAt_eq, S_len, S_list, S_list, beq_iff_eq]

/-- the parts joined by dots -/
noncomputable def jd : List (List Nat) → List Nat
  | [] => []
  | [p] => p
  | p :: q :: r => p ++ d3 ++ jd (q :: r)
theorem strSub_S (x : List Nat) (a b : Nat) : strSub (S x) a b = S ((x.drop a).take (b - a)) := Str.ext' (Array.toList_inj.mp (by rw [StrLaws.strSub_toList]; rfl))
theorem split_step (x : List Nat) : ∀ (parts : List (List Nat)) (a f : Nat) (cuts : List Nat), parts ≠ [] → (∀ p ∈ parts, 46 ∉ p) → x.drop a = jd parts → a ≤ x.length → ChainG (S x) (S d3) (S x).length a cuts f → (∀ k, f ≤ k → ¬ At (S x) (S d3) (S x).length k) →
    partsFrom (S x) 3 a cuts = parts.map S
  | [], _, _, _, h, _, _, _, _, _ => absurd rfl h
  | [p], a, f, cuts, _, hp, hd, ha, hc, hn => by
    have hpa : x.drop a = p := hd
    have hno : ∀ k, a ≤ k → ¬ At (S x) (S d3) (S x).length k := by
      intro k hk hA
      rw [at_S] at hA
      have h1 : (46 : Nat) ∈ (x.drop k).take 3 := by
        have : (x.drop k).take 3 = d3 := hA.2
        rw [this]; simp [d3]
      have h2 : x.drop k = (x.drop a).drop (k - a) := by rw [List.drop_drop]; congr 1; omega
      rw [h2, hpa] at h1
      exact hp p (by simp) (List.mem_of_mem_drop (List.mem_of_mem_take h1))
    cases cuts with
    | nil =>
      show [strSub (S x) a (S x).length] = [S p]
      rw [strSub_S, S_len, ← hpa, List.take_of_length_le (by simp)]
    | cons c r => exact absurd hc.2.1 (hno c hc.1)
  | p :: q :: r, a, f, cuts, _, hp, hd, ha, hc, hn => by
    have hpa : x.drop a = p ++ d3 ++ jd (q :: r) := hd
    have hlen : a + p.length + 3 ≤ x.length := by
      have := congrArg List.length hpa
      simp [d3] at this; omega
    have hA : At (S x) (S d3) (S x).length (a + p.length) := by
      rw [at_S, S_len]
      refine ⟨by simp [d3]; omega, ?_⟩
      rw [← List.drop_drop, hpa]
      simp [d3]
    cases cuts with
    | nil =>
      have e : f = a := hc
      subst e
      exact absurd hA (hn _ (by omega))
    | cons c rr =>
      obtain ⟨h1, h2, h3, h4⟩ := hc
      have hca : c = a + p.length := by
        rcases Nat.lt_trichotomy c (a + p.length) with h | h | h
        · exfalso
          rw [at_S] at h2
          have h5 : (x.drop c)[0]? = some 46 := by
            have : ((x.drop c).take 3)[0]? = some 46 := by
              have : (x.drop c).take 3 = d3 := h2.2
              rw [this]; rfl
            rwa [List.getElem?_take_of_lt (by omega)] at this
          have h6 : x.drop c = (x.drop a).drop (c - a) := by rw [List.drop_drop]; congr 1; omega
          rw [h6, hpa, List.getElem?_drop, List.append_assoc, List.getElem?_append_left (by omega)] at h5
          exact hp p (by simp) (List.mem_of_getElem? h5)
        · exact h
        · exact absurd hA (h3 _ (by omega) h)
      subst hca
      show strSub (S x) a (a + p.length) :: partsFrom (S x) 3 (a + p.length + 3) rr = S p :: (q :: r).map S
      rw [split_step x (q :: r) (a + p.length + 3) f rr (by simp) (fun p' hp' => hp p' (List.mem_cons_of_mem _ hp')) ?_ hlen h4 hn, strSub_S, hpa]
      · congr 2
        rw [Nat.add_sub_cancel_left, List.append_assoc, List.take_left']
        rfl
      · rw [Nat.add_assoc, ← List.drop_drop, hpa, ← List.drop_drop]
        simp [d3]
theorem jd_dot : ∀ (p q : List Nat) (r : List (List Nat)), 46 ∈ jd (p :: q :: r) := fun p q r => by simp [jd, d3]
theorem split_jd (parts : List (List Nat)) (h2 : 2 ≤ parts.length) (hp : ∀ p ∈ parts, 46 ∉ p) : Txt.contains (S (jd parts)) dots = true ∧ Txt.split (S (jd parts)) dots = parts.map S := by
  rw [dots_eq]
  obtain ⟨p, q, r, rfl⟩ : ∃ p q r, parts = p :: q :: r := by
    match parts, h2 with | a :: b :: r, _ => exact ⟨a, b, r, rfl⟩
  have hA : At (S (jd (p :: q :: r))) (S d3) (S (jd (p :: q :: r))).length p.length := by
    rw [at_S, S_len]
    refine ⟨by simp [jd, d3], ?_⟩
    simp [jd, d3]
  have hfound : Txt.contains (S (jd (p :: q :: r))) (S d3) = true := by
    unfold Txt.contains
    rw [StrLaws.found_iff]
    exact ⟨p.length, hA.1, hA.2⟩
  refine ⟨hfound, ?_⟩
  obtain ⟨f, hG, hn⟩ := StrLaws.occ_tight (S (jd (p :: q :: r))) (S d3) (by decide)
  have key := split_step (jd (p :: q :: r)) (p :: q :: r) 0 f _ (by simp) hp rfl (Nat.zero_le _) hG hn
  unfold Txt.split
  rw [if_neg, if_neg]
  · rw [StrLaws.partsBetween_eq]; exact key
  · intro he
    have h0 : occurrences (S (jd (p :: q :: r))) (S d3) 0 (S (jd (p :: q :: r))).length ((S (jd (p :: q :: r))).length + 1) = [] := List.isEmpty_iff.mp he
    rw [h0] at hG
    have e : f = 0 := hG
    exact hn _ (by omega) hA
  · intro he
    rcases Bool.or_eq_true_iff.mp he with h | h
    · have := of_decide_eq_true h
      have h1 := hA.1
      omega
    · have := of_decide_eq_true h
      have h0 : Str.strKind (S d3) = 1 := by decide +kernel
      have h1 : 1 ≤ Str.strKind (S (jd (p :: q :: r))) := by unfold Str.strKind; split; exact Nat.le_refl _; split <;> omega
      omega

theorem nodots {x : List Nat} (h : 46 ∉ x) : Txt.contains (S x) dots = false := by
  rw [dots_eq]
  cases hc : Txt.contains (S x) (S d3) with
  | false => rfl
  | true =>
    unfold Txt.contains at hc
    rw [StrLaws.found_iff] at hc
    obtain ⟨i, h1, h2⟩ := hc
    have hA : At (S x) (S d3) (S x).length i := ⟨h1, h2⟩
    rw [at_S] at hA
    have : (46 : Nat) ∈ (x.drop i).take 3 := by
      have e : (x.drop i).take 3 = d3 := hA.2
      rw [e]; simp [d3]
    exact absurd (List.mem_of_mem_drop (List.mem_of_mem_take this)) h
theorem starts_S (x y : List Nat) : Txt.startswith (S x) (S y) = decide (y <+: x) := by
  unfold Txt.startswith
  rw [StrLaws.subAt_eq, S_len, S_len, S_list, S_list, List.drop_zero, Bool.eq_iff_iff]
  simp only [Bool.and_eq_true, decide_eq_true_eq, beq_iff_eq, Nat.zero_add]
  rw [List.prefix_iff_eq_take]
  constructor
  · rintro ⟨h1, h2⟩; exact h2.symm
  · intro h
    refine ⟨?_, h.symm⟩
    have := congrArg List.length h
    simp at this; omega
theorem ends_S (x y : List Nat) : Txt.endswith (S x) (S y) = decide (y <:+ x) := by
  unfold Txt.endswith
  rw [StrLaws.subAt_eq, S_len, S_len, S_list, S_list, Bool.eq_iff_iff]
  simp only [Bool.and_eq_true, decide_eq_true_eq, beq_iff_eq, Nat.zero_add]
  rw [List.suffix_iff_eq_drop]
  constructor
  · rintro ⟨h1, h2⟩
    rw [List.take_of_length_le (by simp; omega)] at h2
    exact h2.symm
  · intro h
    have h1 : y.length ≤ x.length := by
      have := congrArg List.length h
      simp at this; omega
    refine ⟨h1, ?_⟩
    rw [List.take_of_length_le (by simp; omega)]
    exact h.symm

theorem find4_S (x y : List Nat) (i j : Nat) (hij : i ≤ j) (hj : j ≤ x.length) :
    (find4 (S x) (S y) i j = -1 ∧ ∀ k, i ≤ k → ¬ (k + y.length ≤ j ∧ (x.drop k).take y.length = y)) ∨
    ∃ k : Nat, find4 (S x) (S y) i j = (k : Int) ∧ i ≤ k ∧ k + y.length ≤ j ∧ (x.drop k).take y.length = y ∧ ∀ m, i ≤ m → m < k → ¬ (m + y.length ≤ j ∧ (x.drop m).take y.length = y) := by
  have e1 : fromIndex (S x).length (i : Int) = i := by
    unfold fromIndex; rw [if_neg (by omega)]; omega
  have e2 : (min (max 0 (if (j : Int) < 0 then (j : Int) + (S x).length else (j : Int))).toNat (S x).length) = j := by
    rw [if_neg (by omega), S_len]; omega
  unfold find4
  rw [e1, e2, StrLaws.occ_eq]
  rcases StrLaws.occ_first (S x) (S y) j 1 (Nat.le_refl _) (List.range' i (j + 1 - i)) i (fun k hk => by have := List.mem_range'_1.mp hk; omega) with ⟨h0, hn⟩ | ⟨pre, a, post, e, h0, ha, hn⟩
  · left
    rw [h0]
    refine ⟨rfl, fun k hk hA => ?_⟩
    have := hn k (List.mem_range'_1.mpr ⟨hk, by omega⟩)
    rw [at_S] at this
    exact this hA
  · right
    obtain ⟨h1, h2⟩ := StrLaws.range'_split_from e
    rw [at_S] at ha
    refine ⟨a, ?_, h1, ha.1, ha.2, fun m hm1 hm2 hA => ?_⟩
    · generalize (forIn (List.range' i (j + 1 - i)) ((#[] : Array Nat), i) (StrLaws.occBody (S x) (S y) j 1)).run.fst = arr at h0 ⊢
      have : arr.toList[0]? = some a := by simpa using h0
      match hh : arr.toList with
      | [] => rw [hh] at this; cases this
      | b :: t => rw [hh] at this; simp at this; simp [this]
    · have := hn m (h2 m hm1 hm2)
      rw [at_S] at this
      exact this hA

theorem infB_iff (u v : List Nat) : infB u v = true ↔ ∃ k, k + u.length ≤ v.length ∧ (v.drop k).take u.length = u := by
  unfold infB
  simp only [List.any_eq_true, List.mem_range, Bool.and_eq_true, decide_eq_true_eq]
  constructor
  · rintro ⟨k, _, h1, h2⟩; exact ⟨k, h1, h2⟩
  · rintro ⟨k, h1, h2⟩; exact ⟨k, by omega, h1, h2⟩

theorem fa_empty (y : List Nat) (ws : List Str) (i j : Nat) (hij : i ≤ j) (hj : j ≤ y.length) : findAll (S y) (S [] :: ws) i j = findAll (S y) ws i j := by
  rw [findAll]
  rcases find4_S y [] i j hij hj with ⟨_, hn⟩ | ⟨k, h1, h2, h3, h4, h5⟩
  · exact absurd ⟨by simpa using hij, by simp⟩ (hn i (Nat.le_refl _))
  · have : k = i := by
      rcases Nat.lt_or_ge i k with h | h
      · exact absurd ⟨by simpa using hij, by simp⟩ (h5 i (Nat.le_refl _) h)
      · omega
    subst this
    rw [h1]
    simp only [S_len, List.length_nil]
    rw [if_neg (by omega)]
    simp
/-- one part sought, what is behind it always found -/
theorem fa_one (y x : List Nat) (i j : Nat) (hij : i ≤ j) (hj : j ≤ y.length) (ws : List Str) (hws : ∀ k : Nat, k ≤ j → i ≤ k → findAll (S y) ws k j = true) :
    findAll (S y) (S x :: ws) i j = infB x ((y.drop i).take (j - i)) := by
  rw [findAll, Bool.eq_iff_iff, infB_iff]
  rcases find4_S y x i j hij hj with ⟨h1, hn⟩ | ⟨k, h1, h2, h3, h4, h5⟩
  · rw [h1]
    simp only [show ((-1 : Int) < 0) = True by decide, if_true]
    constructor
    · intro h; cases h
    · rintro ⟨m, hm1, hm2⟩
      simp only [List.length_take, List.length_drop] at hm1
      refine absurd ⟨?_, ?_⟩ (hn (i + m) (by omega))
      · omega
      · rw [List.drop_take, List.drop_drop, List.take_take, Nat.min_eq_left (by omega)] at hm2
        exact hm2
  · rw [h1]
    simp only [show ¬ ((k : Int) < 0) by omega, if_false, S_len]
    constructor
    · intro _
      refine ⟨k - i, by simp; omega, ?_⟩
      rw [List.drop_take, List.drop_drop, List.take_take, Nat.min_eq_left (by omega), show i + (k - i) = k by omega]
      exact h4
    · intro _
      have := hws (k + x.length) h3 (by omega)
      simpa using this

theorem ell_plain {x : List Nat} (y : List Nat) (hx : 46 ∉ x) : ellM (S x) (S y) = decide (x = y) := by
  unfold ellM
  rw [nodots hx]
  simp only [Bool.false_eq_true, if_false]
  exact decide_eq_decide.mpr ⟨S_inj, fun h => by rw [h]⟩
theorem ell_jd (parts : List (List Nat)) (y : List Nat) (h2 : 2 ≤ parts.length) (hp : ∀ p ∈ parts, 46 ∉ p) : ellM (S (jd parts)) (S y) = ell1 (parts.map S) (S y) := by
  obtain ⟨h1, h3⟩ := split_jd parts h2 hp
  unfold ellM
  rw [h1, h3]; rfl
theorem ell_in {x : List Nat} (y : List Nat) (hx : 46 ∉ x) : ellM (dots ++ S x ++ dots) (S y) = infB x y := by
  have e : dots ++ S x ++ dots = S (jd [[], x, []]) := by rw [dots_eq, S_app, S_app]; simp [jd]
  rw [e, ell_jd _ y (by simp) (by simpa using hx)]
  simp only [List.map_cons, List.map_nil, ell1, ell2, ell3, List.head?_cons, Option.getD_some, S_len, List.length_nil, ne_eq, not_true_eq_false, if_false, List.getLast?_cons_cons, List.getLast?_singleton]
  rw [if_neg (by omega)]
  have h1 := fa_empty y [S x, S []] 0 y.length (Nat.zero_le _) (Nat.le_refl _)
  have h2 := fa_one y x 0 y.length (Nat.zero_le _) (Nat.le_refl _) [S []] fun k hk _ => by rw [fa_empty y [] k y.length hk (Nat.le_refl _)]; rfl
  rw [show ((0 : Nat) : Int) = 0 from rfl] at h1 h2
  rw [h1, h2]
  simp
theorem ell_end {x : List Nat} (y : List Nat) (hx : 46 ∉ x) (hne : x ≠ []) : ellM (dots ++ S x) (S y) = decide (x <:+ y) := by
  have hl : x.length ≠ 0 := by simpa using hne
  have e : dots ++ S x = S (jd [[], x]) := by rw [dots_eq, S_app]; simp [jd]
  rw [e, ell_jd _ y (by simp) (by simpa using hx)]
  simp only [List.map_cons, List.map_nil, ell1, ell2, ell3, List.head?_cons, Option.getD_some, S_len, List.length_nil, ne_eq, not_true_eq_false, if_false, List.getLast?_cons_cons, List.getLast?_singleton, hl, not_false_eq_true, if_true, ends_S]
  by_cases h : x <:+ y
  · have hle := h.length_le
    have h1 := fa_empty y [] 0 (y.length - x.length) (Nat.zero_le _) (by omega)
    rw [show ((0 : Nat) : Int) = 0 from rfl, show (((y.length - x.length : Nat)) : Int) = (y.length : Int) - x.length by omega] at h1
    simp only [h, decide_true, if_true, List.dropLast]
    rw [if_neg (by omega), h1]; rfl
  · simp only [h, decide_false, Bool.false_eq_true, if_false]
theorem ell_front {x : List Nat} (y : List Nat) (hx : 46 ∉ x) (hne : x ≠ []) : ellM (S x ++ dots) (S y) = decide (x <+: y) := by
  have hl : x.length ≠ 0 := by simpa using hne
  have e : S x ++ dots = S (jd [x, []]) := by rw [dots_eq, S_app]; simp [jd]
  rw [e, ell_jd _ y (by simp) (by simpa using hx)]
  simp only [List.map_cons, List.map_nil, ell1, ell2, ell3, List.head?_cons, Option.getD_some, S_len, List.length_nil, ne_eq, not_true_eq_false, if_false, List.tail_cons, List.getLast?_singleton, hl, not_false_eq_true, if_true, starts_S]
  by_cases h : x <+: y
  · have hle := h.length_le
    have h1 := fa_empty y [] x.length y.length hle (Nat.le_refl _)
    simp only [h, decide_true, if_true]
    rw [if_neg (by omega), h1]; rfl
  · simp only [h, decide_false, Bool.false_eq_true, if_false]
theorem ell_mid {a b e : List Nat} (m : List Nat) (ha : 46 ∉ a) (hb : 46 ∉ b) (he : 46 ∉ e) (hane : a ≠ []) (hbne : b ≠ []) : ellM (S a ++ dots ++ S e ++ dots ++ S b) (S (a ++ m ++ b)) = infB e m := by
  have hla : a.length ≠ 0 := by simpa using hane
  have hlb : b.length ≠ 0 := by simpa using hbne
  have ej : S a ++ dots ++ S e ++ dots ++ S b = S (jd [a, e, b]) := by rw [dots_eq, S_app, S_app, S_app, S_app]; simp [jd]
  rw [ej, ell_jd _ _ (by simp) (by simp [ha, hb, he])]
  have h1 : a <+: a ++ m ++ b := ⟨m ++ b, by simp⟩
  have h2 : b <:+ a ++ m ++ b := ⟨a ++ m, rfl⟩
  simp only [List.map_cons, List.map_nil, ell1, ell2, ell3, List.head?_cons, Option.getD_some, S_len, ne_eq, List.tail_cons, List.getLast?_cons_cons, List.getLast?_singleton, hla, hlb, not_false_eq_true, if_true, starts_S, ends_S, h1, h2, decide_true, List.dropLast]
  have h3 := fa_one (a ++ m ++ b) e a.length (a.length + m.length) (by omega) (by simp) [] fun _ _ _ => rfl
  rw [if_neg (by simp; omega)]
  rw [show ((a ++ m ++ b).length : Int) - (b.length : Int) = ((a.length + m.length : Nat) : Int) by simp; omega, h3]
  congr 1
  rw [List.append_assoc, List.drop_left', List.take_left']
  · omega
  · rfl
theorem ell_mid_short {a b e : List Nat} (y : List Nat) (ha : 46 ∉ a) (hb : 46 ∉ b) (he : 46 ∉ e) (hane : a ≠ []) (hbne : b ≠ []) (hy : y.length < a.length + b.length) : ellM (S a ++ dots ++ S e ++ dots ++ S b) (S y) = false := by
  have hla : a.length ≠ 0 := by simpa using hane
  have hlb : b.length ≠ 0 := by simpa using hbne
  have ej : S a ++ dots ++ S e ++ dots ++ S b = S (jd [a, e, b]) := by rw [dots_eq, S_app, S_app, S_app, S_app]; simp [jd]
  rw [ej, ell_jd _ _ (by simp) (by simp [ha, hb, he])]
  simp only [List.map_cons, List.map_nil, ell1, ell2, ell3, List.head?_cons, Option.getD_some, S_len, ne_eq, List.tail_cons, List.getLast?_cons_cons, List.getLast?_singleton, hla, hlb, not_false_eq_true, if_true]
  rw [if_pos (show (y.length : Int) - (b.length : Int) < a.length by omega)]
  simp
theorem ell_two {e : List Nat} (y : List Nat) (he : 46 ∉ e) (hne : e ≠ []) (h1 : e <+: y) (h2 : e <:+ y) : ellM (S e ++ dots ++ S e) (S y) = decide (2 * e.length ≤ y.length) := by
  have hl : e.length ≠ 0 := by simpa using hne
  have ej : S e ++ dots ++ S e = S (jd [e, e]) := by rw [dots_eq, S_app, S_app]; simp [jd]
  rw [ej, ell_jd _ _ (by simp) (by simp [he])]
  simp only [List.map_cons, List.map_nil, ell1, ell2, ell3, List.head?_cons, Option.getD_some, S_len, ne_eq, List.tail_cons, List.getLast?_singleton, hl, not_false_eq_true, if_true, starts_S, ends_S, h1, h2, decide_true, List.dropLast, findAll]
  have hle := h1.length_le
  by_cases h : 2 * e.length ≤ y.length
  · rw [if_neg (by omega)]; simp [h]
  · rw [if_pos (by omega)]; simp [h]
theorem ell_two_nil (y : List Nat) : ellM (S [] ++ dots ++ S []) (S y) = true := by
  have ej : S [] ++ dots ++ S [] = S (jd [[], []]) := by rw [dots_eq, S_app, S_app]; simp [jd]
  rw [ej, ell_jd _ _ (by simp) (by simp)]
  simp only [List.map_cons, List.map_nil, ell1, ell2, ell3, List.head?_cons, Option.getD_some, S_len, List.length_nil, ne_eq, not_true_eq_false, if_false, List.getLast?_cons_cons, List.getLast?_singleton]
  rw [if_neg (by omega)]
  have h1 := fa_empty y [S []] 0 y.length (Nat.zero_le _) (Nat.le_refl _)
  have h2 := fa_empty y [] 0 y.length (Nat.zero_le _) (Nat.le_refl _)
  rw [show ((0 : Nat) : Int) = 0 from rfl] at h1 h2
  rw [h1, h2]; rfl
theorem ell_twice {e : List Nat} (y : List Nat) (he : 46 ∉ e) (h1 : e <+: y) : ellM (dots ++ S e ++ dots ++ S e ++ dots) (S y) = infB e (y.drop e.length) := by
  have ej : dots ++ S e ++ dots ++ S e ++ dots = S (jd [[], e, e, []]) := by rw [dots_eq, S_app, S_app, S_app, S_app]; simp [jd]
  rw [ej, ell_jd _ _ (by simp) (by simp [he])]
  simp only [List.map_cons, List.map_nil, ell1, ell2, ell3, List.head?_cons, Option.getD_some, S_len, List.length_nil, ne_eq, not_true_eq_false, if_false, List.getLast?_cons_cons, List.getLast?_singleton]
  rw [if_neg (by omega)]
  have h2 := fa_empty y [S e, S e, S []] 0 y.length (Nat.zero_le _) (Nat.le_refl _)
  have hle := h1.length_le
  have h3 := fa_one y e e.length y.length hle (Nat.le_refl _) [S []] fun k hk _ => by rw [fa_empty y [] k y.length hk (Nat.le_refl _)]; rfl
  rw [show ((0 : Nat) : Int) = 0 from rfl] at h2
  rw [h2, findAll]
  have htk : (y.drop 0).take e.length = e := by rw [List.drop_zero]; exact (List.prefix_iff_eq_take.mp h1).symm
  rcases find4_S y e 0 y.length (Nat.zero_le _) (Nat.le_refl _) with ⟨_, hn⟩ | ⟨k, q1, q2, q3, q4, q5⟩
  · exact absurd ⟨by omega, htk⟩ (hn 0 (Nat.le_refl _))
  · have : k = 0 := by
      rcases Nat.eq_zero_or_pos k with h | h
      · exact h
      · exact absurd ⟨by omega, htk⟩ (q5 0 (Nat.le_refl _) h)
    subst this
    rw [show ((0 : Nat) : Int) = 0 from rfl] at q1
    rw [q1]
    simp only [Int.lt_irrefl, if_false, Int.zero_add, S_len]
    rw [h3, List.take_of_length_le (by simp)]

/-! Pl4 -/
/-- a code: what is written of each letter -/
structure Code (mk : Nat → List Nat) : Prop where
  ne : ∀ i, mk i ≠ []
  hd : ∀ i j a t, (mk i).head? = some a → (mk j)[t]? = some a → t = 0
  pre : ∀ i j, mk i <+: mk j → i = j
  dot : ∀ i, 46 ∉ mk i
  len : ∀ i, (mk i).length ≤ 6

section
variable {mk : Nat → List Nat} (C : Code mk)
include C
theorem Code.pos (i : Nat) : 0 < (mk i).length := List.length_pos_iff.mpr (C.ne i)
theorem Code.prefix {u v : List Nat} : u.flatMap mk <+: v.flatMap mk ↔ u <+: v := by
  constructor
  · intro h
    induction u generalizing v with
    | nil => exact List.nil_prefix
    | cons a u ih =>
      cases v with
      | nil =>
        have h1 := h.length_le
        have h2 := C.pos a
        rw [List.flatMap_cons, List.length_append, List.flatMap_nil, List.length_nil] at h1
        omega
      | cons b v =>
        rw [List.flatMap_cons, List.flatMap_cons] at h
        have h1 : mk a <+: mk b ++ v.flatMap mk := (List.prefix_append _ _).trans h
        have h2 : mk b <+: mk b ++ v.flatMap mk := List.prefix_append _ _
        have hab : a = b := by
          rcases Nat.le_total (mk a).length (mk b).length with hl | hl
          · exact C.pre a b (List.prefix_of_prefix_length_le h1 h2 hl)
          · exact (C.pre b a (List.prefix_of_prefix_length_le h2 h1 hl)).symm
        subst hab
        rw [List.prefix_append_right_inj] at h
        exact (List.cons_prefix_cons).mpr ⟨rfl, ih h⟩
  · rintro ⟨t, rfl⟩
    rw [List.flatMap_append]
    exact List.prefix_append _ _
theorem Code.eq {u v : List Nat} : u.flatMap mk = v.flatMap mk ↔ u = v := by
  constructor
  · intro h
    have h1 : u <+: v := C.prefix.mp (h ▸ List.prefix_rfl)
    have h2 : v <+: u := C.prefix.mp (h ▸ List.prefix_rfl)
    exact h1.eq_of_length (Nat.le_antisymm h1.length_le h2.length_le)
  · intro h; rw [h]
/-- where the front of what is written of u stands in what is written of b and v -/
theorem Code.shift {a b : Nat} {u v s t : List Nat} (h : s ++ ((a :: u).flatMap mk ++ t) = mk b ++ v.flatMap mk) : s = [] ∨ ∃ s', s = mk b ++ s' ∧ s' ++ ((a :: u).flatMap mk ++ t) = v.flatMap mk := by
  rcases Nat.lt_or_ge s.length (mk b).length with hl | hl
  · left
    obtain ⟨x, hx⟩ : ∃ x, (mk a).head? = some x := by
      cases e : mk a with
      | nil => exact absurd e (C.ne a)
      | cons x _ => exact ⟨x, rfl⟩
    have h1 : (s ++ ((a :: u).flatMap mk ++ t))[s.length]? = some x := by
      rw [List.getElem?_append_right (Nat.le_refl _), Nat.sub_self, List.flatMap_cons, List.append_assoc]
      rw [List.getElem?_append_left (C.pos a), ← List.head?_eq_getElem?]; exact hx
    rw [h, List.getElem?_append_left hl] at h1
    exact List.length_eq_zero_iff.mp (C.hd a b x _ hx h1)
  · right
    have h1 : mk b <+: s ++ ((a :: u).flatMap mk ++ t) := by rw [h]; exact List.prefix_append _ _
    have h2 : s <+: s ++ ((a :: u).flatMap mk ++ t) := List.prefix_append _ _
    obtain ⟨s', rfl⟩ := List.prefix_of_prefix_length_le h1 h2 hl
    refine ⟨s', rfl, ?_⟩
    rw [List.append_assoc] at h
    exact List.append_cancel_left h
theorem Code.suffix {u v : List Nat} : u.flatMap mk <:+ v.flatMap mk ↔ u <:+ v := by
  constructor
  · intro h
    cases u with
    | nil => exact List.nil_suffix
    | cons a u =>
      induction v with
      | nil =>
        have h1 := h.length_le
        have h2 := C.pos a
        rw [List.flatMap_cons, List.length_append, List.flatMap_nil, List.length_nil] at h1
        omega
      | cons b v ih =>
        obtain ⟨s, hs⟩ := h
        rw [List.flatMap_cons (x := b)] at hs
        rcases C.shift (a := a) (b := b) (u := u) (v := v) (s := s) (t := []) (by rw [List.append_nil]; exact hs) with rfl | ⟨s', rfl, hs'⟩
        · rw [List.nil_append, ← List.flatMap_cons] at hs
          rw [C.eq.mp hs]; exact List.suffix_rfl
        · rw [List.append_nil] at hs'
          exact (ih ⟨s', hs'⟩).trans (List.suffix_cons _ _)
  · rintro ⟨t, rfl⟩
    rw [List.flatMap_append]
    exact List.suffix_append _ _
theorem Code.infix {u v : List Nat} : u.flatMap mk <:+: v.flatMap mk ↔ u <:+: v := by
  constructor
  · intro h
    cases u with
    | nil => exact List.nil_infix
    | cons a u =>
      induction v with
      | nil =>
        have h1 := h.length_le
        have h2 := C.pos a
        rw [List.flatMap_cons, List.length_append, List.flatMap_nil, List.length_nil] at h1
        omega
      | cons b v ih =>
        obtain ⟨s, t, hs⟩ := h
        rw [List.flatMap_cons (x := b), List.append_assoc] at hs
        rcases C.shift hs with rfl | ⟨s', rfl, hs'⟩
        · rw [List.nil_append, ← List.flatMap_cons] at hs
          exact (C.prefix.mp ⟨t, hs⟩).isInfix
        · exact (ih ⟨s', t, by rw [List.append_assoc]; exact hs'⟩).trans (List.suffix_cons _ _).isInfix
  · rintro ⟨s, t, rfl⟩
    rw [List.flatMap_append, List.flatMap_append]
    exact ⟨_, _, rfl⟩
end
theorem infB_infix (u v : List Nat) : infB u v = decide (u <:+: v) := by
  rw [Bool.eq_iff_iff, infB_iff, decide_eq_true_eq]
  constructor
  · rintro ⟨k, h1, h2⟩
    refine ⟨v.take k, (v.drop k).drop u.length, ?_⟩
    conv => lhs; rw [← h2]
    rw [List.length_take, Nat.min_eq_left (by simp; omega), List.append_assoc, List.take_append_drop, List.take_append_drop]
  · rintro ⟨s, t, rfl⟩
    refine ⟨s.length, by simp, ?_⟩
    simp

structure Chr (h : Nat) (ch : Nat → Nat) : Prop where
  hand : h < 5
  lo : ∀ i, i < 3 → ch i ∈ nine
  hi : ∀ i, 3 ≤ i → ch i = 1000 + i
  inj : ∀ i j, ch i = ch j → i = j
theorem esc_hi (h d : Nat) (hd : 1000 ≤ d) : esc h d = [d] := by
  unfold esc
  have h1 : ∀ k, k < 1000 → d ≠ k := fun k hk => by omega
  split <;> simp [h1]
theorem esc_ok : ∀ h, h < 5 → ∀ d ∈ nine, esc h d ≠ [] ∧ 46 ∉ esc h d ∧ (esc h d).length ≤ 6 ∧ (∀ x ∈ esc h d, x < 1000) ∧ ∀ e ∈ nine, (esc h d <+: esc h e → d = e) ∧ ∀ t, t < (esc h e).length → (esc h d).head? = (esc h e)[t]? → t = 0 := by decide +kernel
noncomputable abbrev mkOf (h : Nat) (ch : Nat → Nat) (i : Nat) : List Nat := esc h (ch i)
theorem Chr.code0 {h : Nat} {ch : Nat → Nat} (X : Chr h ch) : Code (fun i => esc h (ch i)) := by
  have lo := fun i (hi : i < 3) => esc_ok h X.hand (ch i) (X.lo i hi)
  have hi := fun i (hi : ¬ i < 3) => esc_hi h (ch i) (by rw [X.hi i (by omega)]; omega)
  refine ⟨fun i => ?_, fun i j a t h1 h2 => ?_, fun i j h1 => ?_, fun i => ?_, fun i => ?_⟩
  · by_cases h1 : i < 3
    · exact (lo i h1).1
    · rw [hi i h1]; simp
  · have ht : t < (esc h (ch j)).length := (List.getElem?_eq_some_iff.mp h2).1
    by_cases hj : j < 3
    · by_cases hi3 : i < 3
      · exact ((lo i hi3).2.2.2.2 (ch j) (X.lo j hj)).2 t ht (h1.trans h2.symm)
      · rw [hi i hi3] at h1
        simp at h1
        have := (lo j hj).2.2.2.1 a (List.mem_of_getElem? h2)
        have := X.hi i (by omega)
        omega
    · rw [hi j hj] at ht; simpa using ht
  · by_cases hj : j < 3
    · by_cases hi3 : i < 3
      · exact X.inj _ _ (((lo i hi3).2.2.2.2 (ch j) (X.lo j hj)).1 h1)
      · rw [hi i hi3] at h1
        have := (lo j hj).2.2.2.1 (ch i) (h1.subset (by simp))
        have := X.hi i (by omega)
        omega
    · by_cases hi3 : i < 3
      · exfalso
        rw [hi j hj] at h1
        obtain ⟨x, hx⟩ : ∃ x, x ∈ esc h (ch i) := List.exists_mem_of_ne_nil _ (lo i hi3).1
        have h2 := (lo i hi3).2.2.2.1 x hx
        have h3 := h1.subset hx
        simp at h3
        have := X.hi j (by omega)
        omega
      · rw [hi i hi3, hi j hj] at h1
        have := h1.subset (List.mem_singleton.mpr rfl)
        exact X.inj _ _ (by simpa using this)
  · by_cases h1 : i < 3
    · exact (lo i h1).2.1
    · rw [hi i h1]; have := X.hi i (by omega); simp; omega
  · by_cases h1 : i < 3
    · exact (lo i h1).2.2.1
    · rw [hi i h1]; simp
theorem Chr.code {h : Nat} {ch : Nat → Nat} (X : Chr h ch) : Code (mkOf h ch) := X.code0

/-! Fa -/
noncomputable def sumL (xs : List Int) (l : List Nat) : Int := (l.map fun k => xs.getD k 0).sum
noncomputable def leftL (d : List (Nat × Int)) (s : Nat → Int) (l : List Nat) : Int := (l.map fun k => lookZ d k * s k).sum
noncomputable def backZ (L : Nat → List Nat) (D : Nat → List (Nat × Int)) (xs : List Int) (j : Nat) : Int := ((j : Int) + 2) * -(leftL (D j) (fun k => sumL xs (L k)) (L j))
theorem sum_take (f : Nat → Int) (l : List Nat) (i k : Nat) (h : l[i]? = some k) : ((l.take (i + 1)).map f).sum = ((l.take i).map f).sum + f k := by
  rw [List.take_add_one, h, List.map_append, List.sum_append]; simp

section
variable {p : Params} {n : Nat} {c : Cx} {σ : St} {P : AV → St → Prop}

theorem sp_undone (O : Ok (KP p) c n) (hn : 2 ≤ n) {us : List Value} {wi sg nb : Addr} {N : Nat} {L : Nat → List Nat} {D : Nat → List (Nat × Int)} {xs : List Int} (hus : All₂ VR [.ref wi, .ref sg, .ref nb] us)
    (hN : N ≤ 20) (hwi : Rows σ.H wi ((List.range N).map L)) (hsg : RowsD σ.H sg ((List.range N).map D)) (hnb : σ.H nb = some (.list (xs.map .int))) (hx : xs.length = N)
    (hL : ∀ j, j < N → ∀ k ∈ L j, k ≤ j) (hLl : ∀ j, j < N → (L j).length ≤ 100) (hD : ∀ j, j < N → ∀ k ∈ L j, lookA ((D j).map kvI) (k : Int) = some (.int (lookZ (D j) k)) ∧ (lookZ (D j) k).natAbs ≤ 100)
    (h : ∀ r H', Ext σ.H H' → σ.H r = none → H' r = some (.list (((List.range N).map (backZ L D xs)).map .int)) → P (.ref r) { loc := σ.loc, H := H' }) : WE c (call (.ref 186) us) P σ := by
  obtain ⟨m, rfl⟩ : ∃ m, n = m + 1 := ⟨n - 1, by omega⟩
  refine' call_fn (names := [Str.ofString "within", Str.ofString "signs", Str.ofString "numbers"]) O hus ?ho ?hcd rfl ?hb ?hk ?hnd ?hkk ?hco ?hg ?h
  walk_at "m_call"
  case h =>
    intro L0 cc O
    obtain ⟨rsw, hw0, hwl⟩ := hwi.len
    simp at hwl
    repeat walk_at "m"
    refine ⟨by decide, fun sa hsa => ?_⟩
    have hsa0 : σ.H sa = none := hsa
    repeat walk_at "m"
    refine ⟨by decide, fun ba hba => ?_⟩
    have hba0 : σ.H ba = none := fresh_of_ext (by walk_at "m_ext") hba
    have hsb : sa ≠ ba := fun e => by
      have hh := hba
      rw [← e] at hh
      have h2 : some (AO.list []) = none := (H_same (o := AO.list [])).symm.trans hh
      cases h2
    repeat walk_at "m"
    walk_at "m_for"
    repeat walk_at "m"
    intro us hus
    refine wk_len_list hus (LA.ours (by walk_at "m_H")) ?_
    repeat walk_at "m"
    intro us hus
    refine wk_range1 O hus fun r1 hr1 => ?_
    have hsz : Builtin.Range.rangeSize 0 ((rsw.map AV.ref).length : Int) 1 = (N : Nat) := by
      rw [rangeSize_up (by simp)]; simp [hwl]
    refine ⟨_, fun _ => True, fun i σ' => σ'.loc (Str.ofString "within") = some (.ref wi) ∧ σ'.loc (Str.ofString "signs") = some (.ref sg) ∧ σ'.loc (Str.ofString "numbers") = some (.ref nb) ∧ σ'.loc (Str.ofString "sums") = some (.ref sa) ∧ σ'.loc (Str.ofString "back") = some (.ref ba) ∧
      σ'.H sa = some (.list (((List.range i).map fun j => sumL xs (L j)).map .int)) ∧ σ'.H ba = some (.list (((List.range i).map (backZ L D xs)).map .int)) ∧ Ext σ.H σ'.H,
      ⟨_, itbl_range O.handled r1 (range_small1 (by decide) (by simp; omega)) hsz, H_same⟩, trivial, ⟨by walk_at "m_loc", by walk_at "m_loc", by walk_at "m_loc", by walk_at "m_loc", by walk_at "m_loc", ?_, ?_, by walk_at "m_ext"⟩, ?_, ?_⟩
    · show _ = some (AO.list []); walk_at "m_H"
    · show _ = some (AO.list []); walk_at "m_H"
    · refine fun j x σ3 hxx hJ _ => WG.post fun Q hQ => ?_
      obtain ⟨q1, q2, q3, q4, q5, qs, qb, qE⟩ := hJ
      obtain ⟨hj, rfl⟩ := rangeItems_get hxx
      have e0 : (0 : Int) + (j : Int) * 1 = (j : Int) := by omega
      rw [e0]
      have hLj : ((List.range N).map L)[j]? = some (L j) := by simp [hj]
      have hDj : ((List.range N).map D)[j]? = some (D j) := by simp [hj]
      obtain ⟨rw1, av, hw1b, hw2, hw3b, hw4⟩ := hwi.get hLj
      obtain ⟨rs1, ad, hs1b, hs2, hs3b, hs4⟩ := hsg.get hDj
      have hw1 := qE _ _ hw1b
      have hw3 := qE _ _ hw3b
      have hnb3 := qE _ _ hnb
      have hLl' := hLl j hj
      repeat walk_at "m"
      walk_at "m_for"
      repeat walk_at "m"
      refine wi_list (v := .ref av) hw1 (by omega) (by omega) hw2 ?_ (fun _ _ => rfl)
      refine ⟨(L j).map natAV, fun H => H av = some (.list ((L j).map natAV)), fun i σ' => σ'.loc (Str.ofString "within") = some (.ref wi) ∧ σ'.loc (Str.ofString "signs") = some (.ref sg) ∧ σ'.loc (Str.ofString "numbers") = some (.ref nb) ∧ σ'.loc (Str.ofString "sums") = some (.ref sa) ∧ σ'.loc (Str.ofString "back") = some (.ref ba) ∧
        σ'.loc (Str.ofString "j") = some (.int (j : Int)) ∧ σ'.loc (Str.ofString "whole") = some (.int (sumL xs ((L j).take i))) ∧ σ'.H = σ3.H,
        ⟨_, itbl_list O.handled av _, hw3⟩, hw3, ⟨by walk_at "m_loc", by walk_at "m_loc", by walk_at "m_loc", by walk_at "m_loc", by walk_at "m_loc", by walk_at "m_loc", by walk_at "m_loc", rfl⟩, ?_, ?_⟩
      · clear q1 q2 q3 q4 q5
        refine fun i x σ4 hx4 hJ _ => WG.post fun Q2 hQ2 => ?_
        obtain ⟨q1, q2, q3, q4, q5, q6, q7, q8⟩ := hJ
        simp only [List.getElem?_map, Option.map_eq_some_iff] at hx4
        obtain ⟨k, hk1, rfl⟩ := hx4
        have hk := hL j hj k (List.mem_of_getElem? hk1)
        have hxk : (xs.map AV.int)[((k : Nat) : Int).toNat]? = some (.int (xs.getD k 0)) := by
          have : k < xs.length := by omega
          show (xs.map AV.int)[k]? = _
          simp [List.getD, this]
        rw [← q8] at hnb3
        repeat walk_at "m"
        refine wi_list (by walk_at "m_H") (by omega) (by omega) hxk ?_ (fun _ _ => rfl)
        repeat walk_at "m"
        intro us hus
        refine sp_add O (by omega) hus ?_
        repeat walk_at "m"
        refine hQ2 _ _ ⟨⟨by walk_at "m_loc", by walk_at "m_loc", by walk_at "m_loc", by walk_at "m_loc", by walk_at "m_loc", by walk_at "m_loc", ?_, q8⟩, by rw [← q8] at hw3; exact hw3⟩
        unfold sumL
        rw [sum_take _ _ _ _ hk1]
        exact loc_same
      · clear q1 q2 q3 q4 q5
        rintro σ4 ⟨q1, q2, q3, q4, q5, q6, q7, q8⟩ _
        rw [List.length_map, List.take_length] at q7
        have qs4 : σ4.H sa = some (.list (((List.range j).map fun j => sumL xs (L j)).map .int)) := by rw [q8]; exact qs
        have qE4 : Ext σ.H σ4.H := by rw [q8]; exact qE
        have qb4 : σ4.H ba = some (.list (((List.range j).map (backZ L D xs)).map .int)) := by rw [q8]; exact qb
        repeat walk_at "m"
        intro u us hu hus
        refine wm_append hu hus (by walk_at "m_H") (by simp; omega) ?_
        refine ⟨by simp, ?_⟩
        refine wf_cut (fun σ' => σ'.loc (Str.ofString "within") = some (.ref wi) ∧ σ'.loc (Str.ofString "signs") = some (.ref sg) ∧ σ'.loc (Str.ofString "numbers") = some (.ref nb) ∧ σ'.loc (Str.ofString "sums") = some (.ref sa) ∧ σ'.loc (Str.ofString "back") = some (.ref ba) ∧ σ'.loc (Str.ofString "j") = some (.int (j : Int)) ∧
          σ'.H sa = some (.list (((List.range (j + 1)).map fun j => sumL xs (L j)).map .int)) ∧ σ'.H ba = some (.list (((List.range j).map (backZ L D xs)).map .int)) ∧ Ext σ.H σ'.H)
          ⟨by walk_at "m_loc", by walk_at "m_loc", by walk_at "m_loc", by walk_at "m_loc", by walk_at "m_loc", by walk_at "m_loc", ?_, H_other (Ne.symm hsb) qb4, Ext.to_own hsa0 qE4⟩ ?_
        · rw [List.range_succ, List.map_append, List.map_append]; exact H_same
        clear qs4 qb4 qE4 q1 q2 q3 q4 q5 q6 q7 q8 qs qb
        rintro σ5 ⟨q1, q2, q3, q4, q5, q6, qs, qb, qF⟩
        have hw15 := qF _ _ hw1b
        have hw35 := qF _ _ hw3b
        have hs15 := qF _ _ hs1b
        have hs35 := qF _ _ hs3b
        repeat walk_at "m"
        walk_at "m_for"
        repeat walk_at "m"
        refine wi_list (v := .ref av) hw15 (by omega) (by omega) hw2 ?_ (fun _ _ => rfl)
        refine ⟨(L j).map natAV, fun H => H av = some (.list ((L j).map natAV)), fun i σ' => σ'.loc (Str.ofString "within") = some (.ref wi) ∧ σ'.loc (Str.ofString "signs") = some (.ref sg) ∧ σ'.loc (Str.ofString "numbers") = some (.ref nb) ∧ σ'.loc (Str.ofString "sums") = some (.ref sa) ∧ σ'.loc (Str.ofString "back") = some (.ref ba) ∧
          σ'.loc (Str.ofString "j") = some (.int (j : Int)) ∧ σ'.loc (Str.ofString "left") = some (.int (leftL (D j) (fun k => sumL xs (L k)) ((L j).take i))) ∧ σ'.H = σ5.H,
          ⟨_, itbl_list O.handled av _, hw35⟩, hw35, ⟨by walk_at "m_loc", by walk_at "m_loc", by walk_at "m_loc", by walk_at "m_loc", by walk_at "m_loc", by walk_at "m_loc", by walk_at "m_loc", rfl⟩, ?_, ?_⟩
        · clear q1 q2 q3 q4 q5 q6
          refine fun i x σ4 hx4 hJ _ => WG.post fun Q2 hQ2 => ?_
          obtain ⟨q1, q2, q3, q4, q5, q6, q7, q8⟩ := hJ
          simp only [List.getElem?_map, Option.map_eq_some_iff] at hx4
          obtain ⟨k, hk1, rfl⟩ := hx4
          have hkm := List.mem_of_getElem? hk1
          have hk := hL j hj k hkm
          obtain ⟨hd1, hd2⟩ := hD j hj k hkm
          rw [← q8] at hs15 hs35 qs
          have hsk : (((List.range (j + 1)).map fun j => sumL xs (L j)).map AV.int)[((k : Nat) : Int).toNat]? = some (.int (sumL xs (L k))) := by
            show (((List.range (j + 1)).map fun j => sumL xs (L j)).map AV.int)[k]? = _
            have : k < j + 1 := by omega
            simp [this]
          repeat walk_at "m"
          refine wi_list (v := .ref ad) hs15 (by omega) (by omega) hs2 ?_ (fun _ _ => rfl)
          repeat walk_at "m"
          refine wi_idict (by walk_at "m_H") hd1 ?_ (fun _ _ => rfl)
          repeat walk_at "m"
          refine wi_list (by walk_at "m_H") (by omega) (by omega) hsk ?_ (fun _ _ => rfl)
          repeat walk_at "m"
          intro us hus
          refine sp_mul O (by omega) hus (intMul_small (by omega)) ?_
          repeat walk_at "m"
          intro us hus
          refine sp_add O (by omega) hus ?_
          repeat walk_at "m"
          refine hQ2 _ _ ⟨⟨by walk_at "m_loc", by walk_at "m_loc", by walk_at "m_loc", by walk_at "m_loc", by walk_at "m_loc", by walk_at "m_loc", ?_, q8⟩, by rw [← q8] at hw35; exact hw35⟩
          unfold leftL
          rw [sum_take _ _ _ _ hk1]
          exact loc_same
        · clear q1 q2 q3 q4 q5 q6
          rintro σ4 ⟨q1, q2, q3, q4, q5, q6, q7, q8⟩ _
          rw [List.length_map, List.take_length] at q7
          have qs4 : σ4.H sa = some (.list (((List.range (j + 1)).map fun j => sumL xs (L j)).map .int)) := by rw [q8]; exact qs
          have qE4 : Ext σ.H σ4.H := by rw [q8]; exact qF
          have qb4 : σ4.H ba = some (.list (((List.range j).map (backZ L D xs)).map .int)) := by rw [q8]; exact qb
          repeat walk_at "m"
          intro us hus
          refine sp_neg O (by omega) hus ?_
          repeat walk_at "m"
          intro us hus
          refine sp_mul O (by omega) hus (intMul_small (by omega)) ?_
          repeat walk_at "m"
          intro u us hu hus
          refine wm_append hu hus (by walk_at "m_H") (by simp; omega) ?_
          refine ⟨by simp, ?_⟩
          repeat walk_at "m"
          refine hQ _ _ ⟨⟨by walk_at "m_loc", by walk_at "m_loc", by walk_at "m_loc", by walk_at "m_loc", by walk_at "m_loc", H_other hsb qs4, ?_, Ext.to_own hba0 qE4⟩, trivial⟩
          rw [List.range_succ, List.map_append, List.map_append]; exact H_same
    · rintro σ3 ⟨q1, q2, q3, q4, q5, qs, qb, qE⟩ _
      rw [rangeItems_length] at qb
      repeat walk_at "m"
      exact h ba _ qE hba0 qb
end

/-! Pl5 -/
noncomputable def wordOf (t : Nat) : List Nat := [t % 3, t / 3 % 3, t / 9 % 3, t / 27 % 3, t / 81 % 3]
/-- the coefficient of number i in what comes back for j -/
noncomputable def coefZ (L : Nat → List Nat) (d : List (Nat × Int)) (j i : Nat) : Int := ((L j).map fun k => if i ∈ L k then lookZ d k else 0).sum
noncomputable def chkJ (ps : List (List Nat)) (j : Nat) : Bool :=
  let v := at_ ps j
  let e := edgeW v
  decide (j = 0) || (
    decide (v ≠ []) && decide (e ∈ ps) && decide (spotW ps j < j) &&
    decide (Builtin.bitAnd (setN (twoW ps j) : Nat) (Builtin.bitOr (setN (wholeW ps j) : Nat) (2 ^ spotW ps j)) = (setN (chosenW ps j) : Nat)))
noncomputable def chkV (ps : List (List Nat)) (v : List Nat) : Bool :=
  let e := edgeW v
  decide (v.length ≤ 5) && v.all (fun i => decide (i < 3)) && (List.range (v.length + 1)).all (fun s => decide (v.take s ∈ ps) && decide (v.drop s ∈ ps)) &&
  (decide (v = []) || (decide (e ≠ v) && decide (e = v.take e.length) && decide (e = v.drop (v.length - e.length)) && decide ((decide (v.drop 1 = v.take (v.length - 1))) = !mixedW v) && decide (infB e (v.drop e.length) = decide (2 * e.length ≤ v.length))))
noncomputable def chkD (ps : List (List Nat)) (D : List (List (Nat × Int))) (j : Nat) : Bool :=
  (withinW ps j).all (fun k => decide ((D.getD j []).any (fun p => p.1 == k)) && decide ((lookZ (D.getD j []) k).natAbs ≤ 100)) &&
  (List.range ps.length).all (fun i => decide (coefZ (withinW ps) (D.getD j []) j i = if i = j then 1 else 0))
noncomputable def chk (w : List Nat) : Bool :=
  let ps := piecesW w
  decide (1 ≤ ps.length) && decide (ps.length ≤ 14) && decide ps.Nodup && ps.all (chkV ps) && (List.range ps.length).all (chkJ ps) && (List.range ps.length).all (chkD ps (signsTo ps ps.length))
theorem chk_0 : chk [0, 0, 0, 0, 0] = true := by decide +kernel
theorem chk_1 : chk [0, 0, 0, 0, 1] = true := by decide +kernel
theorem chk_2 : chk [0, 0, 0, 1, 0] = true := by decide +kernel
theorem chk_3 : chk [0, 0, 0, 1, 1] = true := by decide +kernel
theorem chk_4 : chk [0, 0, 0, 1, 2] = true := by decide +kernel
theorem chk_5 : chk [0, 0, 1, 0, 0] = true := by decide +kernel
theorem chk_6 : chk [0, 0, 1, 0, 1] = true := by decide +kernel
theorem chk_7 : chk [0, 0, 1, 0, 2] = true := by decide +kernel
theorem chk_8 : chk [0, 0, 1, 1, 0] = true := by decide +kernel
theorem chk_9 : chk [0, 0, 1, 1, 1] = true := by decide +kernel
theorem chk_10 : chk [0, 0, 1, 1, 2] = true := by decide +kernel
theorem chk_11 : chk [0, 0, 1, 2, 0] = true := by decide +kernel
theorem chk_12 : chk [0, 0, 1, 2, 1] = true := by decide +kernel
theorem chk_13 : chk [0, 0, 1, 2, 2] = true := by decide +kernel
theorem chk_14 : chk [0, 1, 0, 0, 0] = true := by decide +kernel
theorem chk_15 : chk [0, 1, 0, 0, 1] = true := by decide +kernel
theorem chk_16 : chk [0, 1, 0, 0, 2] = true := by decide +kernel
theorem chk_17 : chk [0, 1, 0, 1, 0] = true := by decide +kernel
theorem chk_18 : chk [0, 1, 0, 1, 1] = true := by decide +kernel
theorem chk_19 : chk [0, 1, 0, 1, 2] = true := by decide +kernel
theorem chk_20 : chk [0, 1, 0, 2, 0] = true := by decide +kernel
theorem chk_21 : chk [0, 1, 0, 2, 1] = true := by decide +kernel
theorem chk_22 : chk [0, 1, 0, 2, 2] = true := by decide +kernel
theorem chk_23 : chk [0, 1, 1, 0, 0] = true := by decide +kernel
theorem chk_24 : chk [0, 1, 1, 0, 1] = true := by decide +kernel
theorem chk_25 : chk [0, 1, 1, 0, 2] = true := by decide +kernel
theorem chk_26 : chk [0, 1, 1, 1, 0] = true := by decide +kernel
theorem chk_27 : chk [0, 1, 1, 1, 1] = true := by decide +kernel
theorem chk_28 : chk [0, 1, 1, 1, 2] = true := by decide +kernel
theorem chk_29 : chk [0, 1, 1, 2, 0] = true := by decide +kernel
theorem chk_30 : chk [0, 1, 1, 2, 1] = true := by decide +kernel
theorem chk_31 : chk [0, 1, 1, 2, 2] = true := by decide +kernel
theorem chk_32 : chk [0, 1, 2, 0, 0] = true := by decide +kernel
theorem chk_33 : chk [0, 1, 2, 0, 1] = true := by decide +kernel
theorem chk_34 : chk [0, 1, 2, 0, 2] = true := by decide +kernel
theorem chk_35 : chk [0, 1, 2, 1, 0] = true := by decide +kernel
theorem chk_36 : chk [0, 1, 2, 1, 1] = true := by decide +kernel
theorem chk_37 : chk [0, 1, 2, 1, 2] = true := by decide +kernel
theorem chk_38 : chk [0, 1, 2, 2, 0] = true := by decide +kernel
theorem chk_39 : chk [0, 1, 2, 2, 1] = true := by decide +kernel
theorem chk_40 : chk [0, 1, 2, 2, 2] = true := by decide +kernel
noncomputable def canon : List (List Nat) := [[0, 0, 0, 0, 0], [0, 0, 0, 0, 1], [0, 0, 0, 1, 0], [0, 0, 0, 1, 1], [0, 0, 0, 1, 2], [0, 0, 1, 0, 0], [0, 0, 1, 0, 1], [0, 0, 1, 0, 2], [0, 0, 1, 1, 0], [0, 0, 1, 1, 1], [0, 0, 1, 1, 2], [0, 0, 1, 2, 0], [0, 0, 1, 2, 1], [0, 0, 1, 2, 2], [0, 1, 0, 0, 0], [0, 1, 0, 0, 1], [0, 1, 0, 0, 2], [0, 1, 0, 1, 0], [0, 1, 0, 1, 1], [0, 1, 0, 1, 2], [0, 1, 0, 2, 0], [0, 1, 0, 2, 1], [0, 1, 0, 2, 2], [0, 1, 1, 0, 0], [0, 1, 1, 0, 1], [0, 1, 1, 0, 2], [0, 1, 1, 1, 0], [0, 1, 1, 1, 1], [0, 1, 1, 1, 2], [0, 1, 1, 2, 0], [0, 1, 1, 2, 1], [0, 1, 1, 2, 2], [0, 1, 2, 0, 0], [0, 1, 2, 0, 1], [0, 1, 2, 0, 2], [0, 1, 2, 1, 0], [0, 1, 2, 1, 1], [0, 1, 2, 1, 2], [0, 1, 2, 2, 0], [0, 1, 2, 2, 1], [0, 1, 2, 2, 2]]
theorem chk_all : ∀ w ∈ canon, chk w = true := by
  unfold canon
  simp only [List.forall_mem_cons]
  exact ⟨chk_0, chk_1, chk_2, chk_3, chk_4, chk_5, chk_6, chk_7, chk_8, chk_9, chk_10, chk_11, chk_12, chk_13, chk_14, chk_15, chk_16, chk_17, chk_18, chk_19, chk_20, chk_21, chk_22, chk_23, chk_24, chk_25, chk_26, chk_27, chk_28, chk_29, chk_30, chk_31, chk_32, chk_33, chk_34, chk_35, chk_36, chk_37, chk_38, chk_39, chk_40, fun _ h => nomatch h⟩

noncomputable def orderOf (w : List Nat) : List Nat := (w ++ [0, 1, 2]).foldl (fun acc x => if x ∈ acc then acc else acc ++ [x]) []
noncomputable def piOf (o : List Nat) (i : Nat) : Nat := o.getD i i
noncomputable def perms : List (List Nat) := [[0, 1, 2], [0, 2, 1], [1, 0, 2], [1, 2, 0], [2, 0, 1], [2, 1, 0]]
noncomputable def canonOf (w : List Nat) : List Nat := w.map fun x => (orderOf w).idxOf x
theorem canon_ok : (List.range 243).all (fun t => decide (orderOf (wordOf t) ∈ perms) && decide (canonOf (wordOf t) ∈ canon) && decide ((canonOf (wordOf t)).map (piOf (orderOf (wordOf t))) = wordOf t)) = true := by decide +kernel

theorem sum_addZ (f g : Nat → Int) (l : List Nat) : (l.map fun i => f i + g i).sum = (l.map f).sum + (l.map g).sum := by
  induction l with
  | nil => rfl
  | cons a l ih => simp only [List.map_cons, List.sum_cons, ih]; omega
theorem sum_mulZ (c : Int) (f : Nat → Int) (l : List Nat) : (l.map fun i => c * f i).sum = c * (l.map f).sum := by
  induction l with
  | nil => simp
  | cons a l ih => simp only [List.map_cons, List.sum_cons, ih, Int.mul_add]
theorem sum_zeroZ (l : List Nat) : (l.map fun _ => (0 : Int)).sum = 0 := by
  induction l with
  | nil => rfl
  | cons a l ih => simpa using ih
theorem sum_single (f : Nat → Int) (a : Nat) : ∀ N, a < N → ((List.range N).map fun i => if i = a then f i else 0).sum = f a := by
  intro N
  induction N with
  | zero => intro h; omega
  | succ N ih =>
    intro h
    rw [List.range_succ, List.map_append, List.sum_append]
    simp only [List.map_cons, List.map_nil, List.sum_cons, List.sum_nil, Int.add_zero]
    by_cases ha : a = N
    · subst ha
      have : ((List.range a).map fun i => if i = a then f i else 0) = (List.range a).map fun _ => (0 : Int) := by
        refine List.map_congr_left fun i hi => ?_
        have := List.mem_range.mp hi
        rw [if_neg (by omega)]
      rw [this, sum_zeroZ]; simp
    · rw [ih (by omega), if_neg (by omega)]; omega
theorem sumL_ind (xs : List Int) (N : Nat) : ∀ l : List Nat, l.Nodup → (∀ i ∈ l, i < N) → sumL xs l = ((List.range N).map fun i => if i ∈ l then xs.getD i 0 else 0).sum
  | [], _, _ => by simp only [List.not_mem_nil, if_false]; rw [sum_zeroZ]; rfl
  | a :: l, hn, hl => by
    have h1 := sumL_ind xs N l (List.nodup_cons.mp hn).2 fun i hi => hl i (List.mem_cons_of_mem _ hi)
    have h2 := sum_single (fun i => xs.getD i 0) a N (hl a List.mem_cons_self)
    have e : ((List.range N).map fun i => if i ∈ a :: l then xs.getD i 0 else 0) = (List.range N).map fun i => (if i = a then xs.getD i 0 else 0) + (if i ∈ l then xs.getD i 0 else 0) := by
      refine List.map_congr_left fun i _ => ?_
      by_cases hia : i = a
      · subst hia
        have : i ∉ l := (List.nodup_cons.mp hn).1
        simp [this]
      · simp [hia]
    rw [e, sum_addZ, h2, ← h1]
    simp [sumL]
theorem left_coef (L : Nat → List Nat) (d : List (Nat × Int)) (xs : List Int) (N : Nat) (j : Nat) (hn : ∀ k ∈ L j, (L k).Nodup ∧ ∀ i ∈ L k, i < N) :
    leftL d (fun k => sumL xs (L k)) (L j) = ((List.range N).map fun i => coefZ L d j i * xs.getD i 0).sum := by
  unfold leftL coefZ
  generalize L j = l at hn ⊢
  induction l with
  | nil => simp only [List.map_nil, List.sum_nil, Int.zero_mul]; rw [sum_zeroZ]
  | cons k l ih =>
    have h1 := ih fun k hk => hn k (List.mem_cons_of_mem _ hk)
    obtain ⟨h2, h3⟩ := hn k List.mem_cons_self
    rw [List.map_cons, List.sum_cons, h1]
    show lookZ d k * sumL xs (L k) + _ = _
    rw [sumL_ind xs N _ h2 h3, ← sum_mulZ, ← sum_addZ]
    congr 1
    refine List.map_congr_left fun i _ => ?_
    rw [List.map_cons, List.sum_cons, Int.add_mul]
    by_cases hi : i ∈ L k <;> simp [hi]

theorem withinW_nodup (ps : List (List Nat)) (j : Nat) : (withinW ps j).Nodup := by
  unfold withinW
  split
  · simp
  · rename_i h
    have := innerW_nodup ps (j := j) (by omega)
    rw [List.nodup_append]
    refine ⟨(List.nodup_cons.mp this).2, by simp, ?_⟩
    intro a ha b hb e
    simp at hb
    subst hb e
    exact (List.nodup_cons.mp this).1 ha

/-- what the check gives -/
structure Ck (ps : List (List Nat)) : Prop where
  one : 1 ≤ ps.length
  few : ps.length ≤ 14
  nodup : ps.Nodup
  v : ∀ v ∈ ps, chkV ps v = true
  j : ∀ j, j < ps.length → chkJ ps j = true
  d : ∀ j, j < ps.length → chkD ps (signsTo ps ps.length) j = true
theorem ck_of {w : List Nat} (h : chk w = true) : Ck (piecesW w) := by
  unfold chk at h
  simp only [Bool.and_eq_true, decide_eq_true_eq, List.all_eq_true, List.mem_range] at h
  obtain ⟨⟨⟨⟨⟨h1, h2⟩, h3⟩, h4⟩, h5⟩, h6⟩ := h
  exact ⟨h1, h2, h3, h4, h5, h6⟩

theorem back_ok {ps : List (List Nat)} (C : Ck ps) (xs : List Int) (j : Nat) (hj : j < ps.length) :
    backZ (withinW ps) (fun j => (signsTo ps ps.length).getD j []) xs j = -((j : Int) + 2) * xs.getD j 0 := by
  unfold backZ
  have hd := C.d j hj
  unfold chkD at hd
  simp only [Bool.and_eq_true, decide_eq_true_eq, List.all_eq_true, List.mem_range] at hd
  rw [left_coef (withinW ps) _ xs ps.length j (fun k hk => ⟨withinW_nodup ps k, fun i hi => by have := withinW_lt ps k i hi; have := withinW_lt ps j k hk; omega⟩)]
  have e : ((List.range ps.length).map fun i => coefZ (withinW ps) ((signsTo ps ps.length).getD j []) j i * xs.getD i 0) = (List.range ps.length).map fun i => if i = j then xs.getD i 0 else 0 := by
    refine List.map_congr_left fun i hi => ?_
    rw [hd.2 i (List.mem_range.mp hi)]
    by_cases h : i = j <;> simp [h]
  rw [e, sum_single _ _ _ hj]
  rw [Int.mul_neg, Int.neg_mul]

/-! Pl6 -/
theorem jd_len : ∀ (parts : List (List Nat)), (∀ p ∈ parts, p.length ≤ 60) → (jd parts).length ≤ parts.length * 63
  | [], _ => by simp [jd]
  | [p], h => by have := h p (by simp); simp [jd]; omega
  | p :: q :: r, h => by
    have h1 := h p (by simp)
    have h2 := jd_len (q :: r) fun x hx => h x (List.mem_cons_of_mem _ hx)
    simp only [jd, List.length_append, List.length_cons] at h2 ⊢
    simp only [d3, List.length_cons, List.length_nil]
    omega
theorem ask_jd (parts : List (List Nat)) (y : List Nat) {due : Bool} {want : Str} (hw : want = S (jd parts)) (h2 : 2 ≤ parts.length) (h10 : parts.length ≤ 10) (hp : ∀ p ∈ parts, 46 ∉ p) (hl : ∀ p ∈ parts, p.length ≤ 60) (hy : y.length ≤ 60) (he : ellM want (S y) = due) : Ask want (S y) due := by
  subst hw
  have h3 := jd_len parts hl
  obtain ⟨h4, h5⟩ := split_jd parts h2 hp
  refine ⟨by rw [S_len]; omega, by rw [S_len]; omega, fun _ => ?_, he⟩
  rw [h5]
  refine ⟨by simpa using h2, by simp; omega, fun w hw => ?_⟩
  obtain ⟨p, hp', rfl⟩ := List.mem_map.mp hw
  rw [S_len]
  have := hl p hp'
  omega
theorem ask_plain (x y : List Nat) {due : Bool} (hx : 46 ∉ x) (hl : x.length ≤ 100) (hy : y.length ≤ 60) (he : decide (x = y) = due) : Ask (S x) (S y) due := by
  refine ⟨by rw [S_len]; omega, by rw [S_len]; omega, fun h => ?_, by rw [ell_plain y hx]; exact he⟩
  rw [nodots hx] at h; cases h

section
variable {h : Nat} {ch : Nat → Nat} {ps : List (List Nat)}
noncomputable abbrev Wd (h : Nat) (ch : Nat → Nat) (u : List Nat) : Str := escS h (u.map ch)
theorem Wd_eq (u : List Nat) : Wd h ch u = S (u.flatMap (mkOf h ch)) := by
  show S ((u.map ch).flatMap (esc h)) = _
  rw [List.flatMap_map]
theorem ph_dot (X : Chr h ch) (u : List Nat) : 46 ∉ u.flatMap (mkOf h ch) := by
  intro hm
  obtain ⟨i, _, h2⟩ := List.mem_flatMap.mp hm
  exact X.code.dot i h2
theorem ph_len (X : Chr h ch) (u : List Nat) : (u.flatMap (mkOf h ch)).length ≤ 6 * u.length := by
  induction u with
  | nil => simp
  | cons a u ih =>
    have := X.code.len a
    rw [List.flatMap_cons, List.length_append, List.length_cons]
    omega
theorem ph_pos (X : Chr h ch) {u : List Nat} (hu : u ≠ []) : u.flatMap (mkOf h ch) ≠ [] := by
  cases u with
  | nil => exact absurd rfl hu
  | cons a u =>
    intro e
    have h1 := congrArg List.length e
    have h2 := X.code.pos a
    rw [List.flatMap_cons, List.length_append, List.length_nil] at h1
    omega
theorem ph_inf (X : Chr h ch) (u v : List Nat) : infB (u.flatMap (mkOf h ch)) (v.flatMap (mkOf h ch)) = infB u v := by
  rw [infB_infix, infB_infix]
  exact decide_eq_decide.mpr X.code.infix

theorem ask_within (X : Chr h ch) (u v : List Nat) (hu : u.length ≤ 5) (hv : v.length ≤ 5) : Ask (dots ++ Wd h ch u ++ dots) (Wd h ch v) (infB u v) := by
  have l1 := ph_len X u
  have l2 := ph_len X v
  rw [Wd_eq, Wd_eq]
  refine ask_jd [[], u.flatMap (mkOf h ch), []] _ (by rw [dots_eq, S_app, S_app]; simp [jd]) (by simp) (by simp) (by simpa using ph_dot X u) (by simp only [List.mem_cons, List.not_mem_nil, or_false]; rintro p (rfl | rfl | rfl); exact Nat.zero_le _; omega; exact Nat.zero_le _) (by omega) ?_
  rw [ell_in _ (ph_dot X u), ph_inf X]
theorem ask_edge (X : Chr h ch) (v : List Nat) (hv : v.length ≤ 5) (s : Nat) (h0 : 0 < s) (h1 : s < v.length) :
    Ask (dots ++ Wd h ch (v.take s)) (Wd h ch v) (decide (v.take s = v.drop (v.length - s))) ∧ Ask (Wd h ch (v.drop (v.length - s)) ++ dots) (Wd h ch v) (decide (v.take s = v.drop (v.length - s))) := by
  have l1 := ph_len X (v.take s)
  have l2 := ph_len X v
  have l3 := ph_len X (v.drop (v.length - s))
  simp only [List.length_take, List.length_drop] at l1 l3
  have n1 : v.take s ≠ [] := by intro e; have := congrArg List.length e; rw [List.length_take, List.length_nil] at this; omega
  have n2 : v.drop (v.length - s) ≠ [] := by intro e; have := congrArg List.length e; rw [List.length_drop, List.length_nil] at this; omega
  rw [Wd_eq, Wd_eq, Wd_eq]
  constructor
  · refine ask_jd [[], (v.take s).flatMap (mkOf h ch)] _ (by rw [dots_eq, S_app]; simp [jd]) (by simp) (by simp) (by simpa using ph_dot X _) (by simp only [List.mem_cons, List.not_mem_nil, or_false]; rintro p (rfl | rfl); exact Nat.zero_le _; omega) (by omega) ?_
    rw [ell_end _ (ph_dot X _) (ph_pos X n1)]
    refine decide_eq_decide.mpr (X.code.suffix.trans ?_)
    rw [List.suffix_iff_eq_drop, List.length_take, Nat.min_eq_left (by omega)]
  · refine ask_jd [(v.drop (v.length - s)).flatMap (mkOf h ch), []] _ (by rw [dots_eq, S_app]; simp [jd]) (by simp) (by simp) (by simpa using ph_dot X _) (by simp only [List.mem_cons, List.not_mem_nil, or_false]; rintro p (rfl | rfl); omega; exact Nat.zero_le _) (by omega) ?_
    rw [ell_front _ (ph_dot X _) (ph_pos X n2)]
    refine decide_eq_decide.mpr (X.code.prefix.trans ?_)
    rw [List.prefix_iff_eq_take, List.length_drop, show v.length - (v.length - s) = s by omega]
    exact eq_comm
theorem v_split {v : List Nat} (h2 : 2 ≤ v.length) : v = v.take 1 ++ insideW v ++ v.drop (v.length - 1) := by
  unfold insideW
  have e : v.drop (v.length - 1) = (v.drop 1).drop (v.length - 2) := by rw [List.drop_drop]; congr 1; omega
  rw [e, List.append_assoc, List.take_append_drop, List.take_append_drop]
theorem ask_loose (X : Chr h ch) (v : List Nat) (hv : v.length ≤ 5) (hne : v ≠ []) (he : (edgeW v).length ≤ 5) :
    Ask (Wd h ch (v.take 1) ++ dots ++ Wd h ch (edgeW v) ++ dots ++ Wd h ch (v.drop (v.length - 1))) (Wd h ch v) (!looseW v) := by
  have hp := List.length_pos_iff.mpr hne
  have l0 := ph_len X v
  have l1 := ph_len X (v.take 1)
  have l2 := ph_len X (edgeW v)
  have l3 := ph_len X (v.drop (v.length - 1))
  simp only [List.length_take, List.length_drop] at l1 l3
  have n1 : v.take 1 ≠ [] := by intro e; have := congrArg List.length e; rw [List.length_take, List.length_nil] at this; omega
  have n2 : v.drop (v.length - 1) ≠ [] := by intro e; have := congrArg List.length e; rw [List.length_drop, List.length_nil] at this; omega
  rw [Wd_eq, Wd_eq, Wd_eq, Wd_eq]
  refine ask_jd [(v.take 1).flatMap (mkOf h ch), (edgeW v).flatMap (mkOf h ch), (v.drop (v.length - 1)).flatMap (mkOf h ch)] _ (by rw [dots_eq, S_app, S_app, S_app, S_app]; simp [jd]) (by simp) (by simp)
    (by simp only [List.mem_cons, List.not_mem_nil, or_false]; rintro p (rfl | rfl | rfl) <;> exact ph_dot X _) (by simp only [List.mem_cons, List.not_mem_nil, or_false]; rintro p (rfl | rfl | rfl) <;> omega) (by omega) ?_
  by_cases h2 : 2 ≤ v.length
  · have hl : (!looseW v) = infB (edgeW v) (insideW v) := by
      unfold looseW
      have : ¬ v.length < 2 := by omega
      simp [this]
    rw [hl]
    conv => lhs; rw [show v.flatMap (mkOf h ch) = (v.take 1).flatMap (mkOf h ch) ++ (insideW v).flatMap (mkOf h ch) ++ (v.drop (v.length - 1)).flatMap (mkOf h ch) by rw [← List.flatMap_append, ← List.flatMap_append, ← v_split h2]]
    rw [ell_mid _ (ph_dot X _) (ph_dot X _) (ph_dot X _) (ph_pos X n1) (ph_pos X n2), ph_inf X]
  · have hl : (!looseW v) = false := by
      unfold looseW
      have : v.length < 2 := by omega
      simp [this]
    rw [hl]
    have h1 : v.length = 1 := by omega
    have e1 : v.take 1 = v := List.take_of_length_le (by omega)
    have e2 : v.drop (v.length - 1) = v := by rw [h1]; rfl
    rw [e1, e2]
    refine ell_mid_short _ (ph_dot X _) (ph_dot X _) (ph_dot X _) (ph_pos X hne) (ph_pos X hne) ?_
    have := List.length_pos_iff.mpr (ph_pos X hne)
    omega
theorem room_ok (X : Chr h ch) {v e : List Nat} (h1 : e = v.take e.length) (h2 : e = v.drop (v.length - e.length)) (hle : e.length ≤ v.length) :
    decide (2 * (e.flatMap (mkOf h ch)).length ≤ (v.flatMap (mkOf h ch)).length) = decide (2 * e.length ≤ v.length) := by
  refine decide_eq_decide.mpr ?_
  have hv : (v.flatMap (mkOf h ch)).length = (e.flatMap (mkOf h ch)).length + ((v.drop e.length).flatMap (mkOf h ch)).length := by
    conv => lhs; rw [← List.take_append_drop e.length v, ← h1]
    rw [List.flatMap_append, List.length_append]
  rw [hv]
  by_cases h3 : 2 * e.length ≤ v.length
  · have h4 : e = (v.drop e.length).drop (v.length - 2 * e.length) := by
      rw [List.drop_drop, show e.length + (v.length - 2 * e.length) = v.length - e.length by omega]; exact h2
    have h5 : ((v.drop e.length).flatMap (mkOf h ch)).length = (((v.drop e.length).take (v.length - 2 * e.length)).flatMap (mkOf h ch)).length + (e.flatMap (mkOf h ch)).length := by
      conv => lhs; rw [← List.take_append_drop (v.length - 2 * e.length) (v.drop e.length), ← h4]
      rw [List.flatMap_append, List.length_append]
    constructor
    · intro _; exact h3
    · intro _; omega
  · have h4 : v.drop e.length = e.drop (2 * e.length - v.length) := by
      conv => rhs; rw [h2]
      rw [List.drop_drop, ← h2]; congr 1; omega
    have h5 : (e.flatMap (mkOf h ch)).length = ((e.take (2 * e.length - v.length)).flatMap (mkOf h ch)).length + ((e.drop (2 * e.length - v.length)).flatMap (mkOf h ch)).length := by
      conv => lhs; rw [← List.take_append_drop (2 * e.length - v.length) e]
      rw [List.flatMap_append, List.length_append]
    have h6 : e.take (2 * e.length - v.length) ≠ [] := by intro q; have := congrArg List.length q; rw [List.length_take, List.length_nil] at this; omega
    have := List.length_pos_iff.mpr (ph_pos X h6)
    rw [h4]
    constructor
    · intro q; omega
    · intro q; exact absurd q h3
end
section
variable {h : Nat} {ch : Nat → Nat} {ps : List (List Nat)}
structure Vk (ps : List (List Nat)) (v : List Nat) : Prop where
  len : v.length ≤ 5
  low : ∀ i ∈ v, i < 3
  cut : ∀ s, s ≤ v.length → v.take s ∈ ps ∧ v.drop s ∈ ps
  more : v ≠ [] → edgeW v ≠ v ∧ edgeW v = v.take (edgeW v).length ∧ edgeW v = v.drop (v.length - (edgeW v).length) ∧ decide (v.drop 1 = v.take (v.length - 1)) = (!mixedW v) ∧ infB (edgeW v) (v.drop (edgeW v).length) = decide (2 * (edgeW v).length ≤ v.length)
theorem vk_of {v : List Nat} (hc : chkV ps v = true) : Vk ps v := by
  unfold chkV at hc
  simp only [Bool.and_eq_true, Bool.or_eq_true, decide_eq_true_eq, List.all_eq_true, List.mem_range] at hc
  obtain ⟨⟨⟨h1, h2⟩, h3⟩, h4⟩ := hc
  refine ⟨h1, h2, fun s hs => h3 s (by omega), fun hne => ?_⟩
  rcases h4 with h4 | h4
  · exact absurd h4 hne
  · obtain ⟨⟨⟨⟨a, b⟩, c⟩, d⟩, e⟩ := h4
    exact ⟨a, b, c, d, e⟩
theorem Vk.edgeLen {v : List Nat} (V : Vk ps v) (hne : v ≠ []) : (edgeW v).length ≤ v.length := by
  have := congrArg List.length (V.more hne).2.1
  rw [List.length_take] at this
  omega
theorem ask_mixed (X : Chr h ch) {v : List Nat} (V : Vk ps v) (hne : v ≠ []) : Ask (Wd h ch (v.drop 1)) (Wd h ch (v.take (v.length - 1))) (!mixedW v) := by
  have l1 := ph_len X (v.drop 1)
  have l2 := ph_len X (v.take (v.length - 1))
  have := V.len
  simp only [List.length_take, List.length_drop] at l1 l2
  rw [Wd_eq, Wd_eq]
  refine ask_plain _ _ (ph_dot X _) (by omega) (by omega) ?_
  rw [← (V.more hne).2.2.2.1]
  exact decide_eq_decide.mpr X.code.eq
theorem ask_whole (X : Chr h ch) {v u : List Nat} (hv : v.length ≤ 5) (hu : v.length = u.length + 2) : Ask (Wd h ch (v.take 1) ++ Wd h ch u ++ Wd h ch (v.drop (v.length - 1))) (Wd h ch v) (decide (u = insideW v)) := by
  have l0 := ph_len X v
  have l1 := ph_len X (v.take 1)
  have l2 := ph_len X u
  have l3 := ph_len X (v.drop (v.length - 1))
  simp only [List.length_take, List.length_drop] at l1 l3
  rw [Wd_eq, Wd_eq, Wd_eq, Wd_eq, S_app, S_app]
  refine ask_plain _ _ (by rw [← List.flatMap_append, ← List.flatMap_append]; exact ph_dot X _) (by rw [List.length_append, List.length_append]; omega) (by omega) ?_
  rw [← List.flatMap_append, ← List.flatMap_append]
  refine decide_eq_decide.mpr (X.code.eq.trans ?_)
  constructor
  · intro e
    have e2 := v_split (v := v) (by omega)
    have e3 : v.take 1 ++ u ++ v.drop (v.length - 1) = v.take 1 ++ insideW v ++ v.drop (v.length - 1) := e.trans e2
    rw [List.append_assoc, List.append_assoc] at e3
    exact List.append_cancel_right (List.append_cancel_left e3)
  · intro e
    rw [e]; exact (v_split (by omega)).symm
theorem ask_twice (X : Chr h ch) {v : List Nat} (V : Vk ps v) (h3 : 3 < v.length) : Ask (Wd h ch (edgeW v)) (Wd h ch v) false ∧ Ask (Wd h ch v) (Wd h ch (edgeW v)) false ∧ Ask (Wd h ch (v.drop 1) ++ dots) (Wd h ch v) (!mixedW v) ∧
    Ask (Wd h ch (edgeW v) ++ dots ++ Wd h ch (edgeW v)) (Wd h ch v) (decide (2 * (edgeW v).length ≤ v.length)) ∧ Ask (dots ++ Wd h ch (edgeW v) ++ dots ++ Wd h ch (edgeW v) ++ dots) (Wd h ch v) (decide (2 * (edgeW v).length ≤ v.length)) := by
  have hne : v ≠ [] := by rintro rfl; simp at h3
  have hl := V.len
  have hel := V.edgeLen hne
  obtain ⟨m1, m2, m3, m4, m5⟩ := V.more hne
  have l0 := ph_len X v
  have l1 := ph_len X (edgeW v)
  have l2 := ph_len X (v.drop 1)
  rw [List.length_drop] at l2
  have p1 : edgeW v <+: v := by rw [m2]; exact List.take_prefix _ _
  have p2 : edgeW v <:+ v := by rw [m3]; exact List.drop_suffix _ _
  have q1 := X.code.prefix.mpr p1
  have q2 := X.code.suffix.mpr p2
  rw [Wd_eq, Wd_eq, Wd_eq]
  refine ⟨?_, ?_, ?_, ?_, ?_⟩
  · exact ask_plain _ _ (ph_dot X _) (by omega) (by omega) (decide_eq_false fun e => m1 (X.code.eq.mp e))
  · exact ask_plain _ _ (ph_dot X _) (by omega) (by omega) (decide_eq_false fun e => m1 (X.code.eq.mp e).symm)
  · have n1 : v.drop 1 ≠ [] := by intro e; have := congrArg List.length e; rw [List.length_drop, List.length_nil] at this; omega
    refine ask_jd [(v.drop 1).flatMap (mkOf h ch), []] _ (by rw [dots_eq, S_app]; simp [jd]) (by simp) (by simp) (by simpa using ph_dot X _) (by simp only [List.mem_cons, List.not_mem_nil, or_false]; rintro p (rfl | rfl); omega; exact Nat.zero_le _) (by omega) ?_
    rw [ell_front _ (ph_dot X _) (ph_pos X n1), ← m4]
    refine decide_eq_decide.mpr (X.code.prefix.trans ?_)
    rw [List.prefix_iff_eq_take, List.length_drop]
  · by_cases he : edgeW v = []
    · rw [he]
      refine ask_jd [[], []] _ (by rw [dots_eq, List.flatMap_nil, S_app, S_app]; simp [jd]) (by simp) (by simp) (by simp) (by simp) (by omega) ?_
      rw [List.flatMap_nil, ell_two_nil]; simp
    · refine ask_jd [(edgeW v).flatMap (mkOf h ch), (edgeW v).flatMap (mkOf h ch)] _ (by rw [dots_eq, S_app, S_app]; simp [jd]) (by simp) (by simp) (by simpa using ph_dot X _) (by simp only [List.mem_cons, List.not_mem_nil, or_false]; rintro p (rfl | rfl) <;> omega) (by omega) ?_
      rw [ell_two _ (ph_dot X _) (ph_pos X he) q1 q2, room_ok X m2 m3 hel]
  · refine ask_jd [[], (edgeW v).flatMap (mkOf h ch), (edgeW v).flatMap (mkOf h ch), []] _ (by rw [dots_eq, S_app, S_app, S_app, S_app]; simp [jd]) (by simp) (by simp) (by simpa using ph_dot X _) (by simp only [List.mem_cons, List.not_mem_nil, or_false]; rintro p (rfl | rfl | rfl | rfl); exact Nat.zero_le _; omega; omega; exact Nat.zero_le _) (by omega) ?_
    have e1 : v.flatMap (mkOf h ch) = (edgeW v).flatMap (mkOf h ch) ++ (v.drop (edgeW v).length).flatMap (mkOf h ch) := by
      conv => lhs; rw [← List.take_append_drop (edgeW v).length v, ← m2]
      rw [List.flatMap_append]
    have e2 : (v.flatMap (mkOf h ch)).drop ((edgeW v).flatMap (mkOf h ch)).length = (v.drop (edgeW v).length).flatMap (mkOf h ch) := by
      rw [e1]; exact List.drop_left' rfl
    rw [ell_twice _ (ph_dot X _) q1, e2, ph_inf X, m5]

theorem book_of (X : Chr h ch) (C : Ck ps) : Book ch (Wd h ch) ps where
  inj := X.inj
  nodup := C.nodup
  small := by have := C.few; omega
  short := fun u hu => (vk_of (C.v u hu)).len
  wlen := fun u hu => by
    have := (vk_of (C.v u hu)).len
    have := ph_len X u
    rw [Wd_eq, S_len]; omega
theorem sg_of (X : Chr h ch) (C : Ck ps) : Sg (Wd h ch) ps where
  first := C.one
  ne := fun j h1 h2 => by
    have := C.j j h2
    unfold chkJ at this
    simp only [Bool.and_eq_true, Bool.or_eq_true, decide_eq_true_eq] at this
    rcases this with h | h
    · omega
    · exact h.1.1.1
  cut := fun v hv => (vk_of (C.v v hv)).cut
  edge := fun j h1 h2 => by
    have := C.j j h2
    unfold chkJ at this
    simp only [Bool.and_eq_true, Bool.or_eq_true, decide_eq_true_eq] at this
    rcases this with h | h
    · omega
    · exact ⟨h.1.1.2, h.1.2⟩
  chosen := fun j h1 h2 => by
    have := C.j j h2
    unfold chkJ at this
    simp only [Bool.and_eq_true, Bool.or_eq_true, decide_eq_true_eq] at this
    rcases this with h | h
    · omega
    · exact h.2
  aEdge := fun v hv s h0 h1 => ask_edge X v (vk_of (C.v v hv)).len s h0 h1
  aLoose := fun v hv hne => ask_loose X v (vk_of (C.v v hv)).len hne (by have := (vk_of (C.v v hv)).edgeLen hne; have := (vk_of (C.v v hv)).len; omega)
  aMixed := fun v hv hne => ask_mixed X (vk_of (C.v v hv)) hne
  aTwice := fun v hv h3 => ask_twice X (vk_of (C.v v hv)) h3
  aWhole := fun v hv u hu h2 => ask_whole X (vk_of (C.v v hv)).len h2
theorem lookA_any : ∀ (l : List (Nat × Int)) (k : Nat), l.any (fun p => p.1 == k) = true → lookA (l.map kvI) (k : Int) = some (.int (lookZ l k))
  | [], k, h => by simp at h
  | p :: r, k, h => by
    unfold lookA lookZ
    rw [List.map_cons, List.find?_cons, List.find?_cons]
    by_cases hk : p.1 = k
    · simp [hk]
    · have h' : ¬ ((p.1 : Int) = k) := by omega
      have := lookA_any r k (by simpa [hk] using h)
      unfold lookA lookZ at this
      simp only [kvI, h', decide_false, beq_eq_false_iff_ne.mpr hk]
      exact this
theorem dk_of (C : Ck ps) (j : Nat) (hj : j < ps.length) : ∀ k ∈ withinW ps j, lookA (((signsTo ps ps.length).getD j []).map kvI) (k : Int) = some (.int (lookZ ((signsTo ps ps.length).getD j []) k)) ∧ (lookZ ((signsTo ps ps.length).getD j []) k).natAbs ≤ 100 := by
  intro k hk
  have := C.d j hj
  unfold chkD at this
  simp only [Bool.and_eq_true, decide_eq_true_eq, List.all_eq_true] at this
  have := this.1 k hk
  exact ⟨lookA_any _ k this.1, this.2⟩
theorem getD_range {α : Type} (l : List α) (d : α) {n : Nat} (hn : l.length = n) : (List.range n).map (fun j => l.getD j d) = l := by
  subst hn
  refine List.ext_getElem (by simp) fun i h1 h2 => ?_
  simp [List.getD, h2]
end

/-! Fb -/
noncomputable def dummyEnv (qual : Str) (scope : Scope) (f : Addr) (cdv : Value) : Env := envX qual scope 0 f cdv []

theorem enter {K : Frag} {prog : Program} {w : World} {s : Shared} {p : Program} {loose : List Str} {mg mb : Str → Option Value} {n : Nat} (hK : K.In s.heap) (T : TopRead p loose mg mb s.heap) (hnd : callerA.depth + 1 + n < recursionLimit) (hnu : callerA.units + 3 + 10 * n < cLine) (hh : callerA.handled = none)
    {f : Addr} {args : List AV} {us : List Value}
    {oc : Value} {od : Option Addr} {name qual : Str} {params : Arguments} {body : List Stmt} {scope : Scope} {dV kV doc pm cdv ct : Value} {an : Option Addr} {osl : Array (Option Value)}
    (hus : All₂ VR args us)
    (ho : K.lookup f = some ⟨oc, od, .func (fnOf name qual params body scope dV kV doc pm an cdv ct), osl⟩) (hcd : codeIn K cdv qual = true)
    (names : List Str) (hlen : args.length = names.length) (hbind : ∀ vals : List Value, vals.length = names.length → bindArgs (fnOf name qual params body scope dV kV doc pm an cdv ct) ⟨vals, []⟩ = pure (names.zip vals))
    (hkind : ∀ k, ∀ x ∈ names, scope.names.lookup x = some .local ∨ (scope.names.lookup x = some .cell ∧ ((cellsFrom k scope.names []).lookup x).isSome = true))
    (hnd' : ((cellsFrom 0 scope.names []).map (·.1)).Nodup) (hk : scope.kind = .function) (hco : scope.isCoroutine = false) (hgen : scope.isGenerator = false)
    (h : ∀ L, let c := inFn { prog := prog, w := w, base := s.heap, st := s, A := callerA, env := dummyEnv qual scope f cdv, own := false } qual scope L f cdv (cellsFrom (L + 1) scope.names []); Ok K c n →
      WF c (execs body c.env) (fun fl _ => fl.val = .bool true) { loc := bindS (names.zip args) fun _ => none, H := fun _ => none }) :
    wpAny (model prog w) callerA (call (.ref f) us) (fun v s' => v = .bool true ∧ s.heap.StaysIn s'.heap ∧ s'.os = s.os ∧ s'.gens = s.gens) (fun _ _ => False) s := by
  have hul : us.length = names.length := hus.length ▸ hlen
  refine wpAny_call ?_
  refine codeAny_call_function (fd := fnOf name qual params body scope dV kV doc pm an cdv ct) (by omega) (hK _ _ ho) rfl hco hgen rfl (codeRec_of hK hcd) ?_
  rw [hbind us hul]
  refine wpAny_pure (wpAny_newFunctionEnv_cells hk (fun x hx => hkind _ x.1 (List.of_mem_zip hx).1) fun env' he s₁ x => ?_)
  subst he
  refine ⟨(T.nolimit).keeps x.toInCall.keep, codeAny_func ?_⟩
  obtain ⟨hs₁, tk₁, es₁⟩ := x.toInCall.same
  have hnd2 : ((cellsFrom (s.heap.objs.size + 1) scope.names []).map (·.1)).Nodup := by
    rw [← cellsFrom_names scope.names 0 (s.heap.objs.size + 1) [] [] rfl]; exact hnd'
  have O' : Ok K (inFn { prog := prog, w := w, base := s.heap, st := s, A := callerA, env := dummyEnv qual scope f cdv, own := false } qual scope s.heap.objs.size f cdv (cellsFrom (s.heap.objs.size + 1) scope.names [])) n :=
    { kin := hK, top := ⟨p, loose, mg, mb, T⟩, handled := hh, depth := hnd, units := hnu, kind := hk, glob := rfl, blt := rfl, capair := fun _ => x.apart }
  have C' : Conc (inFn { prog := prog, w := w, base := s.heap, st := s, A := callerA, env := dummyEnv qual scope f cdv, own := false } qual scope s.heap.objs.size f cdv (cellsFrom (s.heap.objs.size + 1) scope.names [])) s.heap { loc := bindS (names.zip args) fun _ => none, H := fun _ => none } s₁ := by
    have fresh : ∀ a, s.heap.objs.size ≤ a → s.heap.get? a = none := fun a ha => by
      cases q : s.heap.get? a with
      | none => rfl
      | some o => exact absurd (Heap.lt_size q) (Nat.not_lt.mpr ha)
    refine ⟨⟨hs₁, tk₁, es₁⟩, fun b o e => x.toInCall.keep _ _ e, ⟨_, x.toInCall.ns, fun y v hy hv => ?_⟩, fun y v hy hv => ?_, fun y a hy => ?_, fun a o ho => (by cases ho), ?_⟩
    · exact bindL_rel _ hus names _ (fun _ => none) (fun _ _ _ q => by cases q) y v hy hv
    · obtain ⟨u, h1, h2⟩ := bindC_rel (newEnv scope s.heap.objs.size mainGlobals (cellsFrom (s.heap.objs.size + 1) scope.names []) (qual ++ ".<locals>.") (some f) cdv none builtinsNs).kindOf hus names (fun _ => none) (fun _ => none) (fun _ _ _ q => by cases q) y v hy hv
      have hl : ∃ a, (cellsFrom (s.heap.objs.size + 1) scope.names []).lookup y = some a := by
        cases hq : (cellsFrom (s.heap.objs.size + 1) scope.names []).lookup y with
        | some a => exact ⟨a, rfl⟩
        | none =>
          exfalso
          have hs := cellsFrom_some (x := y) scope.names (s.heap.objs.size + 1) [] (.inl hy)
          rw [hq] at hs; cases hs
      obtain ⟨a, ha⟩ := hl
      have hc := x.cell y a ha
      rw [h1] at hc
      exact ⟨a, u, ha, hc, h2⟩
    · have hab := x.above y a hy
      have hlt : s.heap.objs.size ≤ a := Nat.le_of_lt hab
      exact ⟨rfl, Nat.ne_of_gt hab, ⟨_, x.cell y a (lookup_of_mem_nodup hnd2 hy)⟩, fun _ => fresh a hlt⟩
    · exact fresh _ (Nat.le_refl _)
  refine wpAny_mono (h _ O' s.heap s₁ (fun _ _ e => e) C') (fun fl s₂ ⟨af, σ₂, hr, C₂, hp⟩ => ?_) fun _ _ x => x.elim
  obtain ⟨h2, tk2, e2⟩ := C₂.same
  refine ⟨?_, C₂.keep, by rw [e2], by rw [e2]⟩
  have hp' : af.val = .bool true := hp
  cases hr with
  | ret hv =>
    simp only [AF.val] at hp'
    subst hp'
    cases hv; rfl
  | _ => simp only [AF.val] at hp'; cases hp'

/-! Fc -/
/-- the letters' signs, as the cells tell them -/
noncomputable def ch0 (c0 st : Int) (i : Nat) : Nat := if i < 3 then nine.getD ((c0.fdiv 243 + st * (i : Int)).fmod 9).toNat 0 else 1000 + i
theorem nine_inj : ∀ a, a < 9 → ∀ b, b < 9 → nine.getD a 0 = nine.getD b 0 → a = b := by decide
theorem nine_mem : ∀ a, a < 9 → nine.getD a 0 ∈ nine := by decide
theorem nine_lt : ∀ a, a < 9 → nine.getD a 0 < 1000 := by decide
theorem fmod_pos {a b : Int} (hb : 0 < b) : a.fmod b = a % b := Int.fmod_eq_emod_of_nonneg a (Int.le_of_lt hb)
theorem apart9 {a st d : Int} (hst : 1 ≤ st ∧ st ≤ 8) (hd : d = 1 ∨ d = 2) : (a + st * d) % 9 ≠ a % 9 := by
  intro h
  have h1 := Int.emod_emod_of_dvd (a + st * d) (show (9 : Int) ∣ 9 from ⟨1, rfl⟩)
  have h2 : (st * d) % 9 = 0 := by
    have := Int.emod_eq_emod_iff_emod_sub_eq_zero.mp h
    rwa [Int.add_comm, Int.add_sub_cancel] at this
  rcases hd with rfl | rfl <;> omega
theorem three_apart {a st : Int} (hst : 1 ≤ st ∧ st ≤ 8) {i j : Nat} (h : (a + st * (i : Int)) % 9 = (a + st * (j : Int)) % 9) (hi : i < 3) (hj : j < 3) : i = j := by
  have key : ∀ (k d : Nat), d = 1 ∨ d = 2 → (a + st * ((k + d : Nat) : Int)) % 9 ≠ (a + st * (k : Int)) % 9 := fun k d hd => by
    have := apart9 (a := a + st * k) (d := (d : Int)) hst (hd.imp (fun e => by rw [e]; rfl) fun e => by rw [e]; rfl)
    rwa [Int.add_assoc, ← Int.mul_add, ← Int.natCast_add] at this
  rcases Nat.lt_trichotomy i j with hlt | he | hgt
  · obtain ⟨d, rfl⟩ := Nat.exists_eq_add_of_lt hlt
    exact absurd h.symm (key i (d + 1) (by omega))
  · exact he
  · obtain ⟨d, rfl⟩ := Nat.exists_eq_add_of_lt hgt
    exact absurd h (key j (d + 1) (by omega))
theorem ch0_chr {c0 st : Int} (hst : 1 ≤ st ∧ st ≤ 8) {h : Nat} (hh : h < 5) : Chr h (ch0 c0 st) := by
  have idx : ∀ i : Nat, ((c0.fdiv 243 + st * (i : Int)).fmod 9).toNat < 9 := fun i => by
    rw [fmod_pos (by decide)]
    have := Int.emod_lt_of_pos (c0.fdiv 243 + st * (i : Int)) (show (0 : Int) < 9 by decide)
    have := Int.emod_nonneg (c0.fdiv 243 + st * (i : Int)) (show (9 : Int) ≠ 0 by decide)
    omega
  refine ⟨hh, fun i hi => ?_, fun i hi => ?_, fun i j e => ?_⟩
  · unfold ch0; rw [if_pos hi]; exact nine_mem _ (idx i)
  · unfold ch0; rw [if_neg (by omega)]
  · unfold ch0 at e
    by_cases hi : i < 3
    · by_cases hj : j < 3
      · rw [if_pos hi, if_pos hj] at e
        have h1 := nine_inj _ (idx i) _ (idx j) e
        rw [fmod_pos (by decide), fmod_pos (by decide)] at h1
        generalize c0.fdiv 243 = a at h1
        have h2 := Int.emod_nonneg (a + st * (i : Int)) (show (9 : Int) ≠ 0 by decide)
        have h3 := Int.emod_nonneg (a + st * (j : Int)) (show (9 : Int) ≠ 0 by decide)
        have h4 : (a + st * (i : Int)) % 9 = (a + st * (j : Int)) % 9 := by omega
        exact three_apart hst h4 hi hj
      · rw [if_pos hi, if_neg hj] at e
        have := nine_lt _ (idx i)
        omega
    · by_cases hj : j < 3
      · rw [if_neg hi, if_pos hj] at e
        have := nine_lt _ (idx j)
        omega
      · rw [if_neg hi, if_neg hj] at e; omega
theorem pi_ok : ∀ o ∈ perms, (∀ i, i < 3 → piOf o i < 3) ∧ (∀ i, i < 3 → ∀ j, j < 3 → piOf o i = piOf o j → i = j) ∧ o.length = 3 := by decide
theorem pi_hi {o : List Nat} (ho : o.length = 3) {i : Nat} (hi : 3 ≤ i) : piOf o i = i := by
  unfold piOf
  simp [List.getD, ho, hi]
theorem Chr.pi {h : Nat} {ch : Nat → Nat} (X : Chr h ch) {o : List Nat} (ho : o ∈ perms) : Chr h (fun i => ch (piOf o i)) := by
  obtain ⟨h1, h2, h3⟩ := pi_ok o ho
  refine ⟨X.hand, fun i hi => X.lo _ (h1 i hi), fun i hi => by rw [pi_hi h3 hi]; exact X.hi i hi, fun i j e => ?_⟩
  have e' := X.inj _ _ e
  by_cases hi : i < 3
  · by_cases hj : j < 3
    · exact h2 i hi j hj e'
    · rw [pi_hi h3 (by omega : 3 ≤ j)] at e'; have := h1 i hi; omega
  · by_cases hj : j < 3
    · rw [pi_hi h3 (by omega : 3 ≤ i)] at e'; have := h1 j hj; omega
    · rw [pi_hi h3 (by omega : 3 ≤ i), pi_hi h3 (by omega : 3 ≤ j)] at e'; exact e'
theorem word_at (c0 : Int) (h0 : 0 ≤ c0) (i : Nat) (hi : i < 5) : ∃ a, (wordOf (c0.fmod 243).toNat)[i]? = some a ∧ (c0.fdiv (3 ^ i)).fmod 3 = (a : Int) ∧ a < 3 := by
  obtain ⟨c, rfl⟩ := Int.eq_ofNat_of_zero_le h0
  have e1 : ((c : Int).fmod 243).toNat = c % 243 := by
    rw [fmod_pos (by decide)]; omega
  have e2 : ∀ k : Nat, ((c : Int).fdiv (3 ^ k)).fmod 3 = ((c / 3 ^ k % 3 : Nat) : Int) := fun k => by
    rw [fmod_pos (by decide), Int.fdiv_eq_ediv_of_nonneg _ (Int.pow_nonneg (by decide))]
    norm_cast
  rw [e1, e2]
  have e3 : ∀ n k : Nat, c % (n * (3 * k)) / n % 3 = c / n % 3 := fun n k => by
    rw [Nat.mod_mul_right_div_self, Nat.mod_mul_right_mod]
  have e4 : ∀ x : Nat, x % 3 < 3 := fun x => Nat.mod_lt _ (by decide)
  unfold wordOf
  match i, hi with
  | 0, _ => exact ⟨_, rfl, congrArg Int.ofNat (by rw [Nat.pow_zero, Nat.div_one]; exact (Nat.mod_mul_right_mod c 3 81).symm), e4 _⟩
  | 1, _ => exact ⟨_, rfl, congrArg Int.ofNat (e3 3 27).symm, e4 _⟩
  | 2, _ => exact ⟨_, rfl, congrArg Int.ofNat (e3 9 9).symm, e4 _⟩
  | 3, _ => exact ⟨_, rfl, congrArg Int.ofNat (e3 27 3).symm, e4 _⟩
  | 4, _ => exact ⟨_, rfl, congrArg Int.ofNat (e3 81 1).symm, e4 _⟩
theorem word_canon (c0 : Int) : ∃ o w, o ∈ perms ∧ w.length = 5 ∧ Ck (piecesW w) ∧ wordOf (c0.fmod 243).toNat = w.map (piOf o) := by
  have ht : (c0.fmod 243).toNat < 243 := by
    rw [fmod_pos (by decide)]
    have := Int.emod_lt_of_pos c0 (show (0 : Int) < 243 by decide)
    omega
  have := List.all_eq_true.mp canon_ok _ (List.mem_range.mpr ht)
  simp only [Bool.and_eq_true, decide_eq_true_eq] at this
  obtain ⟨⟨h1, h2⟩, h3⟩ := this
  exact ⟨_, _, h1, by rw [canonOf, List.length_map]; rfl, ck_of (chk_all _ h2), h3.symm⟩
theorem kindS_eq (c0 st : Int) (k : Nat) (hk : k < 3) : kindS c0 st k = ⟨#[ch0 c0 st k]⟩ := by
  unfold kindS ch0
  rw [if_pos hk]
  have h1 := Int.fmod_nonneg_of_pos (c0.fdiv 243 + st * (k : Int)) (show (0 : Int) < 9 by decide)
  have h2 := Int.fmod_lt_of_pos (c0.fdiv 243 + st * (k : Int)) (show (0 : Int) < 9 by decide)
  generalize (c0.fdiv 243 + st * (k : Int)).fmod 9 = m at h1 h2
  obtain ⟨a, rfl⟩ := Int.eq_ofNat_of_zero_le h1
  have ha : a < 9 := by omega
  have : ∀ a : Nat, a < 9 → Txt.item sgn (a : Int) = ⟨#[nine.getD a 0]⟩ := by decide +kernel
  exact this a ha
theorem join_flat : ∀ l : List (List Nat), Txt.join (Str.ofString "") (l.map S) = S l.flatten := by
  have e0 : Str.ofString "" = S [] := by decide
  intro l
  show Builtin.Str.glued _ _ = _
  rw [StrLaws.glued_eq_join, e0]
  induction l with
  | nil => rfl
  | cons x l ih =>
    cases l with
    | nil => show S x = _; simp
    | cons y r =>
      show S x ++ S [] ++ Str.join (S []) ((y :: r).map S) = _
      rw [ih, S_app, S_app]; simp
theorem join_T (ch : Nat → Nat) (u : List Nat) : Txt.join (Str.ofString "") (u.map fun i => ⟨#[ch i]⟩) = T ch u := by
  have e : (u.map fun i => (⟨#[ch i]⟩ : Str)) = (u.map fun i => [ch i]).map S := by rw [List.map_map]; rfl
  rw [e, join_flat]
  show S _ = S (u.map ch)
  congr 1
  clear e
  induction u with
  | nil => rfl
  | cons a u ih => simpa using ih
theorem join_W (h : Nat) (ch : Nat → Nat) (u : List Nat) : Txt.join (Str.ofString "") (u.map fun i => ⟨(esc h (ch i)).toArray⟩) = Wd h ch u := by
  have e : (u.map fun i => (⟨(esc h (ch i)).toArray⟩ : Str)) = (u.map fun i => esc h (ch i)).map S := by rw [List.map_map]; rfl
  rw [e, join_flat, Wd_eq]
  rw [List.flatMap_def]
theorem joinOk {ys : List Str} (hl : ys.length ≤ 100) (hy : ∀ y ∈ ys, y.length ≤ 100) : JoinOk (Str.ofString "") ys = true := by
  unfold JoinOk
  have e0 : (Str.ofString "").length = 0 := by decide
  have h := StrLaws.joinFits (sep := Str.ofString "") (texts := ys) (B := 100) hy (by rw [e0]; omega)
  rw [h]; rfl

/-! Fd -/
theorem nodup_map {α β : Type} {f : α → β} (hf : ∀ a b, f a = f b → a = b) : ∀ {l : List α}, l.Nodup → (l.map f).Nodup
  | [], _ => List.nodup_nil
  | a :: l, h => by
    obtain ⟨h1, h2⟩ := List.nodup_cons.mp h
    rw [List.map_cons, List.nodup_cons]
    refine ⟨fun hm => ?_, nodup_map hf h2⟩
    obtain ⟨b, hb, e⟩ := List.mem_map.mp hm
    rw [hf _ _ e] at hb
    exact h1 hb
section
variable {p : Params}
theorem cellV_range (ns : List Int) (b : Int) (k : Nat) : 0 ≤ cellV ns b k ∧ cellV ns b k < 10 ^ 6 :=
  ⟨Int.fmod_nonneg_of_pos _ (by decide), Int.fmod_lt_of_pos _ (by decide)⟩

set_option maxHeartbeats 16000000 in
theorem law_walk {prog : Program} {w0 : World} {s : Shared} {q : Program} {loose : List Str} {mg mb : Str → Option Value} (hK : (KP p).In s.heap) (T0 : TopRead q loose mg mb s.heap)
    {Sa : Addr} {items : List Value} {ns : List Int} (hL : s.heap.IsList Sa items.toArray) (hI : All₂ VR (ns.map .int) items) (hle : ns.length ≤ 100000) :
    wpAny (model prog w0) callerA (call (.ref 191) [.ref Sa]) (fun v s' => v = .bool true ∧ s.heap.StaysIn s'.heap ∧ s'.os = s.os ∧ s'.gens = s.gens) (fun _ _ => False) s := by
  refine' enter (n := 20) (names := [Str.ofString "script"]) hK T0 (by decide +kernel) (by decide +kernel) rfl (args := [.ref Sa]) (.cons (.ref Sa) .nil) ?ho ?hcd rfl ?hb ?hk ?hnd ?hkk ?hco ?hg ?h
  walk_at "m_call"
  case h =>
    intro L cc O
    obtain ⟨hc00, hc01⟩ := cellV_range ns 30 0
    obtain ⟨hc10, hc11⟩ := cellV_range ns 41 1
    -- cells
    repeat walk_at "m"
    refine ⟨by decide, fun pl hpl => ?_⟩
    repeat walk_at "m"
    intro us hus
    refine sp_cells O (by omega) hus hL hI hle (by walk_at "m_H") fun ce H1 hE1 hce0 hce => ?_
    generalize cellV ns 30 0 = c0 at *
    generalize cellV ns 41 1 = c1 at *
    -- hand
    repeat walk_at "m"
    refine wi_list (v := .int c1) (by walk_at "m_H") (by decide) (by decide) rfl ?_ (fun _ _ => rfl)
    repeat walk_at "m"
    obtain ⟨h, hh, hh5⟩ : ∃ h : Nat, c1.fmod 5 = (h : Int) ∧ h < 5 := by
      have h1 := Int.fmod_nonneg_of_pos c1 (show (0 : Int) < 5 by decide)
      have h2 := Int.fmod_lt_of_pos c1 (show (0 : Int) < 5 by decide)
      exact ⟨(c1.fmod 5).toNat, by omega, by omega⟩
    rw [hh]
    -- kinds
    repeat walk_at "m"
    refine wi_list (v := .int c0) (by walk_at "m_H") (by decide) (by decide) rfl ?_ (fun _ _ => rfl)
    repeat walk_at "m"
    refine wi_list (v := .int c1) (by walk_at "m_H") (by decide) (by decide) rfl ?_ (fun _ _ => rfl)
    repeat walk_at "m"
    have hst : 1 ≤ 1 + (c1.fdiv 5).fmod 8 ∧ 1 + (c1.fdiv 5).fmod 8 ≤ 8 := by
      have h1 := Int.fmod_nonneg_of_pos (c1.fdiv 5) (show (0 : Int) < 8 by decide)
      have h2 := Int.fmod_lt_of_pos (c1.fdiv 5) (show (0 : Int) < 8 by decide)
      omega
    generalize 1 + (c1.fdiv 5).fmod 8 = st at *
    intro us hus
    refine sp_kinds O (by omega) hus (by omega) fun ki H2 hE2 hki0 hki => ?_
    rw [kindS_eq c0 st 0 (by decide), kindS_eq c0 st 1 (by decide), kindS_eq c0 st 2 (by decide)] at hki
    replace hki : H2 ki = some (.list [.str ⟨#[ch0 c0 st 0]⟩, .str ⟨#[ch0 c0 st 1]⟩, .str ⟨#[ch0 c0 st 2]⟩]) := hki
    have X0 := ch0_chr (c0 := c0) hst hh5
    obtain ⟨o, w, ho, hw5, hC, hword⟩ := word_canon c0
    have hword_at := word_at c0 hc00
    generalize ch0 c0 st = ch at *
    have X := X0.pi ho
    have hce2 := hE2 _ _ hce
    -- marks
    iterate 2 walk_at "m"
    have hks : ∀ i, i < 3 → [AV.str ⟨#[ch 0]⟩, AV.str ⟨#[ch 1]⟩, AV.str ⟨#[ch 2]⟩][i]? = some (.str ⟨#[ch i]⟩) := fun i hi => by
      match i, hi with
      | 0, _ => rfl
      | 1, _ => rfl
      | 2, _ => rfl
    have hsig : ∀ i j, (⟨#[ch i]⟩ : Str) = ⟨#[ch j]⟩ → i = j := fun i j e => by
      have := congrArg (fun s : Str => s.cps.toList) e
      exact X0.inj _ _ (by simpa using this)
    refine comp_dict O [⟨#[ch 0]⟩, ⟨#[ch 1]⟩, ⟨#[ch 2]⟩] [.str ⟨#[ch 0]⟩, .str ⟨#[ch 1]⟩, .str ⟨#[ch 2]⟩]
      [(⟨#[ch 0]⟩, .str ⟨(esc h (ch 0)).toArray⟩), (⟨#[ch 1]⟩, .str ⟨(esc h (ch 1)).toArray⟩), (⟨#[ch 2]⟩, .str ⟨(esc h (ch 2)).toArray⟩)]
      (fun H => H ki = some (.list [.str ⟨#[ch 0]⟩, .str ⟨#[ch 1]⟩, .str ⟨#[ch 2]⟩])) rfl ?_ rfl (fun H e => e _ _ hki) ?_ (by simp)
      (by decide) (by walk_at "m_free") (by rfl) (by rfl) (by decide) ?_ ?_ (by intro _; rfl) (by intro _ _; rfl)
    · simp only [List.nodup_cons, List.mem_cons, List.not_mem_nil, or_false, not_or, List.nodup_nil, and_true, not_false_eq_true]
      exact ⟨⟨fun e => absurd (hsig _ _ e) (by decide), fun e => absurd (hsig _ _ e) (by decide)⟩, fun e => absurd (hsig _ _ e) (by decide)⟩
    · repeat walk_at "m"
      exact ⟨⟨_, itbl_list O.handled ki _, hki⟩, rfl, Ext.refl _⟩
    · intro D i v k x H3 O hv hg hE3
      have hi : i < 3 := (List.getElem?_eq_some_iff.mp hv).1
      rw [hks i hi] at hv; cases hv
      obtain ⟨rfl, rfl⟩ : k = ⟨#[ch i]⟩ ∧ x = .str ⟨(esc h (ch i)).toArray⟩ := by
        match i, hi with
        | 0, _ => cases hg; exact ⟨rfl, rfl⟩
        | 1, _ => cases hg; exact ⟨rfl, rfl⟩
        | 2, _ => cases hg; exact ⟨rfl, rfl⟩
      repeat walk_at "m"
      refine ⟨rfl, ?_⟩
      repeat walk_at "m"
      intro us hus
      refine sp_spelled O (by omega) hus hh5 (X0.lo i hi) fun H4 hE4 => ?_
      exact ⟨rfl, hE3.trans hE4⟩
    intro ma H3 hE3 hma0 hma
    have hki3 := hE3 _ _ hki
    have hce3 := hE3 _ _ hce2
    -- the text
    repeat walk_at "m"
    have hT : T ch (wordOf (c0.fmod 243).toNat) = T (fun i => ch (piOf o i)) w := by
      unfold T; rw [hword, List.map_map]; rfl
    have hwl : (wordOf (c0.fmod 243).toNat).length = 5 := rfl
    refine comp_map O (rangeItems 0 1 5) (((wordOf (c0.fmod 243).toNat).map fun i => (⟨#[ch i]⟩ : Str)).map AV.str) (fun _ => True) rfl (fun _ _ => trivial) ?_ (by decide)
      (by decide) (by walk_at "m_free") (by rfl) (by rfl) (by decide) ?_ ?_ (by intro _; rfl) (by intro _ _; rfl)
    · repeat walk_at "m"
      intro us hus
      refine wk_range1 O hus fun r hr => ?_
      exact ⟨⟨_, itbl_range O.handled r (n := 5) rfl rfl, H_same⟩, rfl, Ext.put _ hr⟩
    · intro D i v x H4 O hv hx hE4
      obtain ⟨hi, rfl⟩ := rangeItems_get hv
      have e0 : (0 : Int) + (i : Int) * 1 = (i : Int) := by omega
      rw [e0]
      obtain ⟨a, ha1, ha2, ha3⟩ := hword_at i hi
      obtain rfl : x = .str ⟨#[ch a]⟩ := by
        simp only [List.getElem?_map, ha1, Option.map_some, Option.some.injEq] at hx
        exact hx.symm
      have hki4 := hE4 _ _ hki3
      have hce4 := hE4 _ _ hce3
      repeat walk_at "m"
      refine wi_list (v := .int c0) (by walk_at "m_H") (by decide) (by decide) rfl ?_ (fun _ _ => rfl)
      repeat walk_at "m"
      have hp1 : ((3 : Int) ^ i).natAbs = 3 ^ i := by rw [Int.natAbs_pow]; rfl
      have hp2 : 3 ^ i ≤ 3 ^ 5 := Nat.pow_le_pow_right (by decide) (by omega)
      have hp3 : (3 : Int) ^ i ≠ 0 := Int.ne_of_gt (Int.pow_pos (by decide))
      refine wb_powC (by decide) (by rw [show Builtin.Int.intBits 3 = 2 from by decide +kernel]; omega) ?_
      refine wb_div hp3 (by rw [hp1]; omega) ?_
      repeat walk_at "m"
      rw [ha2]
      refine wi_list (v := .str ⟨#[ch a]⟩) (by walk_at "m_H") (by omega) (by omega) (hks a ha3) ?_ (fun _ _ => rfl)
      exact ⟨rfl, hE4⟩
    intro tx H4 hE4 htx0 htx
    repeat walk_at "m"
    intro u us hu hus
    refine wm_join (ys := (wordOf (c0.fmod 243).toNat).map fun i => (⟨#[ch i]⟩ : Str)) hu hus (by walk_at "m_H") (joinOk (by simp [hwl]) (fun y hy => ?_)) ?_
    · obtain ⟨i, _, rfl⟩ := List.mem_map.mp hy
      show 1 ≤ 100; decide
    rw [join_T, hT]
    have E4 := hE3.trans hE4
    repeat walk_at "m"
    intro us hus
    have hki4 := E4 _ _ hki
    have hce4 := E4 _ _ hce2
    have hma4 := hE4 _ _ hma
    refine sp_pieces O (by omega) X.inj hw5 hus fun pc H5 hE5 hpc0 hpc => ?_
    have hma5 := hE5 _ _ hma4
    generalize piecesW w = ps at hC hpc
    have hBk := book_of X hC
    have hSg := sg_of X hC
    have hsm := hC.few
    have hvk := fun u hu => vk_of (hC.v u hu)
    have hps1 := hC.one
    -- book
    walk_at "m"
    have hkn : (ps.map (T fun i => ch (piOf o i))).Nodup := by
      exact nodup_map (fun a b e => T_inj X.inj e) hC.nodup
    have hnine : ∀ u ∈ ps, ∀ d ∈ u.map (fun i => ch (piOf o i)), d ∈ nine := fun u hu d hd => by
      obtain ⟨i, hi, rfl⟩ := List.mem_map.mp hd
      exact X.lo i ((hvk u hu).low i hi)
    refine comp_dict_bound O (ps.map (T fun i => ch (piOf o i))) (ps.map (tAV fun i => ch (piOf o i))) (bookKV (fun i => ch (piOf o i)) (Wd h fun i => ch (piOf o i)) ps)
      (fun H => H pc = some (.list (ps.map (tAV fun i => ch (piOf o i))))) (by rw [List.map_map]; rfl) hkn (by simp) (fun H e => e _ _ hpc) ?_ (by simp; omega)
      (by decide) (by walk_at "m_free") (by rfl) (by rfl) (by decide) ?_ ?_ (by rfl) (by rfl) (by intro _; rfl) (by intro _ _; rfl)
    · repeat walk_at "m"
      exact ⟨⟨_, itbl_list O.handled pc _, hpc⟩, rfl, Ext.refl _⟩
    · intro D i v k x H6 O hv hg hE6
      simp only [List.getElem?_map, Option.map_eq_some_iff] at hv hg
      obtain ⟨u, hu1, rfl⟩ := hv
      obtain ⟨u', hu2, hkx⟩ := hg
      rw [hu1] at hu2; cases hu2
      cases hkx
      have hum := List.mem_of_getElem? hu1
      have hul := (hvk u hum).len
      repeat walk_at "m"
      refine ⟨rfl, ?_⟩
      repeat walk_at "m"
      intro us hus
      exact sp_write O (by omega) hus hh5 (by simp; omega) (hnine u hum) ⟨rfl, hE6⟩
    intro bk H6 hE6 hbk0 hbk
    have hma6 := hE6 _ _ hma5
    have hpc6 := hE6 _ _ hpc
    -- the other way of writing
    repeat walk_at "m"
    refine comp_dict O (ps.map (T fun i => ch (piOf o i))) (ps.map (tAV fun i => ch (piOf o i))) (bookKV (fun i => ch (piOf o i)) (Wd h fun i => ch (piOf o i)) ps)
      (fun H => H pc = some (.list (ps.map (tAV fun i => ch (piOf o i))))) (by rw [List.map_map]; rfl) hkn (by simp) (fun H e => e _ _ hpc6) ?_ (by simp; omega)
      (by decide) (by walk_at "m_free") (by rfl) (by rfl) (by decide) ?_ ?_ (by intro _; rfl) (by intro _ _; rfl)
    · repeat walk_at "m"
      exact ⟨⟨_, itbl_list O.handled pc _, hpc6⟩, rfl, Ext.refl _⟩
    · intro D i v k x H7 O hv hg hE7
      simp only [List.getElem?_map, Option.map_eq_some_iff] at hv hg
      obtain ⟨u, hu1, rfl⟩ := hv
      obtain ⟨u', hu2, hkx⟩ := hg
      rw [hu1] at hu2; cases hu2
      cases hkx
      have hum := List.mem_of_getElem? hu1
      have hul := (hvk u hum).len
      have hlow := (hvk u hum).low
      have hma7 := hE7 _ _ hma6
      repeat walk_at "m"
      refine ⟨rfl, ?_⟩
      repeat walk_at "m"
      have hlk : ∀ k, k < 3 → lookA [((⟨#[ch 0]⟩ : Str), AV.str ⟨(esc h (ch 0)).toArray⟩), (⟨#[ch 1]⟩, .str ⟨(esc h (ch 1)).toArray⟩), (⟨#[ch 2]⟩, .str ⟨(esc h (ch 2)).toArray⟩)] ⟨#[ch k]⟩ = some (.str ⟨(esc h (ch k)).toArray⟩) := fun k hk => by
        have n01 : ¬ ((⟨#[ch 0]⟩ : Str) = ⟨#[ch 1]⟩) := fun e => absurd (hsig _ _ e) (by decide)
        have n02 : ¬ ((⟨#[ch 0]⟩ : Str) = ⟨#[ch 2]⟩) := fun e => absurd (hsig _ _ e) (by decide)
        have n12 : ¬ ((⟨#[ch 1]⟩ : Str) = ⟨#[ch 2]⟩) := fun e => absurd (hsig _ _ e) (by decide)
        match k, hk with
        | 0, _ => simp only [lookA, List.find?_cons, decide_true, Option.map_some]
        | 1, _ => simp only [lookA, List.find?_cons, decide_true, n01, decide_false, Option.map_some]
        | 2, _ => simp only [lookA, List.find?_cons, decide_true, n02, n12, decide_false, Option.map_some]
      refine comp_map O (signItems (T (fun i => ch (piOf o i)) u)) ((u.map fun i => (⟨(esc h (ch (piOf o i))).toArray⟩ : Str)).map AV.str) (fun _ => True) (by simp [signItems, T_list]) (fun _ _ => trivial) ?_ (by simp [signItems, T_list]; omega)
        (by decide) (by walk_at "m_free") (by rfl) (by rfl) (by decide) ?_ ?_ (by intro _; rfl) (by intro _ _; rfl)
      · repeat walk_at "m"
        exact ⟨⟨_, itbl_str O.handled _, trivial⟩, rfl, Ext.refl _⟩
      · intro D2 i2 v2 x2 H8 O hv2 hx2 hE8
        simp only [signItems, T_list, List.map_map, List.getElem?_map, Option.map_eq_some_iff] at hv2 hx2
        obtain ⟨a, ha1, rfl⟩ := hv2
        obtain ⟨a', ha2, rfl⟩ := hx2
        rw [ha1] at ha2; cases ha2
        have ha3 := hlow a (List.mem_of_getElem? ha1)
        have hma8 := hE8 _ _ hma7
        repeat walk_at "m"
        refine wi_sdict (by walk_at "m_H") (hlk _ ((pi_ok o ho).1 a ha3)) ?_ (fun _ _ => rfl)
        exact ⟨rfl, hE8⟩
      intro jl H8 hE8 hjl0 hjl
      repeat walk_at "m"
      intro u2 us hu2 hus
      refine wm_join (ys := u.map fun i => (⟨(esc h (ch (piOf o i))).toArray⟩ : Str)) hu2 hus (by walk_at "m_H") (joinOk (by simp; omega) (fun y hy => ?_)) ?_
      · obtain ⟨i, hi, rfl⟩ := List.mem_map.mp hy
        have := (esc_ok h hh5 _ (X.lo i (hlow i hi))).2.2.1
        show (esc h (ch (piOf o i))).toArray.size ≤ 100
        rw [List.size_toArray]; omega
      exact ⟨by rw [← join_W h (fun i => ch (piOf o i)) u], hE7.trans hE8⟩
    intro b2 H7 hE7 hb20 hb2
    have hbk7 := hE7 _ _ hbk
    have hpc7 := hE7 _ _ hpc6
    repeat walk_at "m"
    have hkv : bookKV (fun i => ch (piOf o i)) (Wd h fun i => ch (piOf o i)) ps = (ps.map fun u => (T (fun i => ch (piOf o i)) u, Wd h (fun i => ch (piOf o i)) u)).map fun p => (p.1, AV.str p.2) := by rw [List.map_map]; rfl
    refine wc_neD O (kvs := ps.map fun u => (T (fun i => ch (piOf o i)) u, Wd h (fun i => ch (piOf o i)) u)) (by rw [List.map_map]; exact hkn) (by rw [← hkv]; walk_at "m_H") (by rw [← hkv]; walk_at "m_H") ?_
    -- within, signs
    repeat walk_at "m"
    refine ⟨by decide, fun wr hwr => ?_⟩
    repeat walk_at "m"
    intro us hus
    refine sp_within O (by omega) hus hBk hps1 (by walk_at "m_H") (by walk_at "m_H") (fun u hu v hv _ => ask_within X u v (hvk u hu).len (hvk v hv).len) fun wi H8 hE8 hwi0 hwi => ?_
    have hwr8 : H8 wr = some (.list []) := hE8 _ _ (by walk_at "m_H")
    have hbk8 : H8 bk = _ := hE8 _ _ (by walk_at "m_H")
    have hpc8 : H8 pc = _ := hE8 _ _ (by walk_at "m_H")
    repeat walk_at "m"
    intro us hus
    refine sp_signs O (by omega) hus hBk hSg (by walk_at "m_H") (by walk_at "m_H") hwi fun sg H9 hE9 hsg0 hsg => ?_
    have hwr9 := hE9 _ _ hwr8
    have hpc9 := hE9 _ _ hpc8
    have hwi9 := hwi.ext hE9
    repeat walk_at "m"
    refine ⟨by decide, fun em hem => ?_⟩
    refine wc_neL O (by decide) (xs := []) (ys := []) (LA.ours (by show _ = some (AO.list []); walk_at "m_H")) (LA.ours (by show _ = some (AO.list []); walk_at "m_H")) ?_
    -- numbers
    repeat walk_at "m"
    intro us hus
    refine sp_numbers O (by omega) hus hL hI hle fun nu H10 xs hE10 hnu0 hnu hx14 hxb => ?_
    have F10 : Ext H9 H10 := fun a o e => hE10 _ _ (H_fresh hem e)
    have hpc10 := F10 _ _ hpc9
    repeat walk_at "m"
    intro us hus
    refine wk_len_list hus (LA.ours (by walk_at "m_H")) ?_
    repeat walk_at "m"
    refine wsl_list O (LA.ours (by walk_at "m_H")) (by decide) (fun nb hnb => ?_) (fun _ _ => ⟨_, rfl⟩)
    rw [show pickA (xs.map AV.int) none (some (((ps.map (tAV fun i => ch (piOf o i))).length : Nat) : Int)) none = (xs.take ps.length).map AV.int from by rw [pickA_upto, List.length_map, List.map_take]]
    have hxl : (xs.take ps.length).length = ps.length := by rw [List.length_take, hx14]; omega
    generalize xs.take ps.length = ys at hxl
    -- the end
    have hwi11 := (hwi9.ext F10).ext (Ext.put (o := .list (ys.map .int)) _ hnb)
    have hsg11 := (hsg.ext F10).ext (Ext.put (o := .list (ys.map .int)) _ hnb)
    repeat walk_at "m"
    intro us hus
    refine sp_undone O (by omega) (N := ps.length) (L := withinW ps) (D := fun j => (signsTo ps ps.length).getD j []) (xs := ys) hus (by omega) hwi11 (by rw [getD_range _ _ (signsTo_len ps _)]; exact hsg11) H_same hxl
      (fun j _ k hk => withinW_lt ps j k hk) (fun j hj => by have := withinW_len ps j; omega) (fun j hj => dk_of hC j hj) fun ba H11 hE11 hba0 hba => ?_
    have hnb11 : H11 nb = some (.list (ys.map .int)) := hE11 _ _ H_same
    repeat walk_at "m"
    refine comp_map O (rangeItems 0 1 ps.length) (((List.range ps.length).map fun (j : Nat) => -((j : Int) + 2) * ys.getD j 0).map AV.int) (fun _ => True) (by simp [rangeItems]) (fun _ _ => trivial) ?_ (by rw [rangeItems_length]; omega)
      (by decide) (by walk_at "m_free") (by rfl) (by rfl) (by decide) ?_ ?_ (by intro _; rfl) (by intro _ _; rfl)
    · repeat walk_at "m"
      intro us hus
      refine wk_len_list hus (LA.ours (by walk_at "m_H")) ?_
      repeat walk_at "m"
      intro us hus
      refine wk_range1 O hus fun r hr => ?_
      have hsz : Builtin.Range.rangeSize 0 ((ys.map AV.int).length : Int) 1 = (ps.length : Nat) := by
        rw [rangeSize_up (by simp)]; simp [hxl]
      exact ⟨⟨_, itbl_range O.handled r (range_small1 (by decide) (by simp; omega)) hsz, H_same⟩, rfl, Ext.put _ hr⟩
    · intro D j v x H12 O hv hx hE12
      obtain ⟨hj, rfl⟩ := rangeItems_get hv
      have e0 : (0 : Int) + (j : Int) * 1 = (j : Int) := by omega
      rw [e0]
      obtain rfl : x = .int (-((j : Int) + 2) * ys.getD j 0) := by
        simp only [List.getElem?_map, List.getElem?_range hj, Option.map_some, Option.some.injEq] at hx
        exact hx.symm
      have hnb12 := hE12 _ _ hnb11
      have hyj : (ys.map AV.int)[((j : Nat) : Int).toNat]? = some (.int (ys.getD j 0)) := by
        have : j < ys.length := by omega
        show (ys.map AV.int)[j]? = _
        simp [List.getD, this]
      repeat walk_at "m"
      intro u hu
      refine wun_neg hu ?_
      repeat walk_at "m"
      refine wi_list (by walk_at "m_H") (by omega) (by omega) hyj ?_ (fun _ _ => rfl)
      refine wb_mulI (by omega) ?_
      exact ⟨rfl, hE12⟩
    intro en H12 hE12 hen0 hen
    have hba12 := hE12 _ _ hba
    refine wc_eqL O (by decide) (LA.ours (by walk_at "m_H")) (LA.ours (by walk_at "m_H")) ?_
    have hfin : (List.range ps.length).map (backZ (withinW ps) (fun j => (signsTo ps ps.length).getD j []) ys) = (List.range ps.length).map fun (j : Nat) => -((j : Int) + 2) * ys.getD j 0 :=
      List.map_congr_left fun j hj => back_ok hC ys j (List.mem_range.mp hj)
    rw [hfin]
    repeat walk_at "m"
    show AV.bool (decide (_ = _)) = .bool true
    rw [decide_eq_true rfl]
end

/-! Fe -/
set_option maxHeartbeats 8000000 in
theorem whole : PySem.Challenge.rw_xp0020_01.Holds := headK (by rfl) (by rfl) (by rfl) (by
  intro w s₀ s₁ mg mb G Y fa o pm cd doc dV kV ho hdd hcd hD hmg hg args vals as hpre hlay hrd hwl hlo
  have KX := kIn_of Y
  have T := topRead_of G.T
  have e1 : mg (Str.ofString "law") = some (.ref 191) := mg_of KX T.g (by with_unfolding_all rfl)
  have e2 : fa = 191 := by
    have := hmg.symm.trans e1
    simpa using this
  subst e2
  wrow_args hpre hlay hrd hwl hlo
  rename Heap.IsList _ _ _ => hL
  rename IntsAre _ _ => hI
  rename ¬ (_ < _) => hc
  refine wpAny_mono (law_walk KX T hL (ofInts hI) (by omega)) (fun v s' h => ?_) (fun _ _ h => h.elim)
  obtain ⟨h1, h2, h3, h4⟩ := h
  subst h1
  refine GoodW.toG ⟨.inl ⟨_, .bool true, [], rfl, ?_, .bool true, ?_, ?_⟩, h2, h3, h4.trans hg⟩
  · intro cls
    rfl
  · first
      | with_unfolding_all rfl
      | kernel_rfl
  · intro _
    exact ⟨List.nodup_nil, fun a ha => nomatch ha⟩)

end Mine

theorem PySem.Challenge.cw_xp0020_01_holds : PySem.Challenge.rw_xp0020_01.Holds :=
  Mine.whole
#print axioms PySem.Challenge.cw_xp0020_01_holds
