import PyProof.Rows.All
import Wide.All
import OpenK.AllK
import Wide.FinOn
import PySem.Challenge.RW_mq0174_01
open PySem PySem.W PyProof.Rows
set_option Elab.async false
section
set_option maxRecDepth 100000
set_option maxHeartbeats 8000000
namespace Mine
open_top hd for PySem.Challenge.rw_mq0174_01
end Mine
end
section
namespace Mine

/-! ### by-value data over a frozen part of the heap -/
abbrev Frz := Addr → Option Obj

inductive All2 {α β : Type} (P : α → β → Prop) : List α → List β → Prop
  | nil : All2 P [] []
  | cons {a as b bs} : P a b → All2 P as bs → All2 P (a :: as) (b :: bs)

inductive Is (ρ : Frz) : Value → PyData → Prop
  | none : Is ρ .none .none
  | bool (b) : Is ρ (.bool b) (.bool b)
  | int (i t) : Is ρ (.int i t) (.int i)
  | str (x t) : Is ρ (.str x t) (.str x)
  | list {a vs n xs} : ρ a = some { cls := .type "list", data := .seq vs n } → All2 (Is ρ) vs.toList xs → Is ρ (.ref a) (.list xs)
  | tuple {a vs n xs} : ρ a = some { cls := .type "tuple", data := .seq vs n } → All2 (Is ρ) vs.toList xs → Is ρ (.ref a) (.tuple xs)
abbrev IsAll (ρ : Frz) := All2 (Is ρ)

theorem Is.mono {ρ ρ' : Frz} (hs : ∀ a o, ρ a = some o → ρ' a = some o) {v d} (h : Is ρ v d) : Is ρ' v d :=
  Is.rec (motive_1 := fun v d _ => Is ρ' v d) (motive_2 := fun vs ds _ => All2 (Is ρ') vs ds) .none .bool .int .str (fun h _ r => .list (hs _ _ h) r) (fun h _ r => .tuple (hs _ _ h) r) .nil (fun _ _ a b => .cons a b) h
theorem Is.reads {ρ : Frz} {h : Heap} (hs : ∀ a o, ρ a = some o → h.get? a = some o) {v d} (i : Is ρ v d) : ∃ as, Reads h v d as :=
  Is.rec (motive_1 := fun v d _ => ∃ as, Reads h v d as) (motive_2 := fun vs ds _ => ∃ as, ReadsAll h vs ds as) ⟨_, .none⟩ (fun b => ⟨_, .bool b⟩) (fun i t => ⟨_, .int i t⟩) (fun x t => ⟨_, .str x t⟩)
    (fun h _ r => r.elim fun _ k => ⟨_, .list (hs _ _ h) rfl rfl k⟩) (fun h _ r => r.elim fun _ k => ⟨_, .tuple (hs _ _ h) rfl rfl k⟩) ⟨_, .nil⟩ (fun _ _ a b => a.elim fun _ k => b.elim fun _ l => ⟨_, .cons k l⟩) i

section
variable {α β : Type} {P Q : α → β → Prop} {vs : List α} {ds : List β}
theorem All2.mp (f : ∀ v d, P v d → Q v d) (h : All2 P vs ds) : All2 Q vs ds := by
  induction h with
  | nil => exact .nil
  | cons a _ ih => exact .cons (f _ _ a) ih
theorem All2.length (h : All2 P vs ds) : vs.length = ds.length := by
  induction h with
  | nil => rfl
  | cons _ _ ih => exact congrArg Nat.succ ih
theorem All2.append {ws : List α} {es : List β} (h : All2 P vs ds) (k : All2 P ws es) : All2 P (vs ++ ws) (ds ++ es) := by
  induction h with
  | nil => exact k
  | cons a _ ih => exact .cons a ih
theorem All2.get (h : All2 P vs ds) {k : Nat} {d} (e : ds[k]? = some d) : ∃ v, vs[k]? = some v ∧ P v d := by
  induction h generalizing k with
  | nil => cases e
  | cons a _ ih => cases k with
    | zero => cases e; exact ⟨_, rfl, a⟩
    | succ k => exact ih e
theorem All2.get' (h : All2 P vs ds) {k : Nat} {v} (e : vs[k]? = some v) : ∃ d, ds[k]? = some d ∧ P v d := by
  induction h generalizing k with
  | nil => cases e
  | cons a _ ih => cases k with
    | zero => cases e; exact ⟨_, rfl, a⟩
    | succ k => exact ih e
theorem All2.set (h : All2 P vs ds) (k : Nat) {v d} (i : P v d) : All2 P (vs.set k v) (ds.set k d) := by
  induction h generalizing k with
  | nil => exact .nil
  | cons a r ih => cases k with
    | zero => exact .cons i r
    | succ k => exact .cons a (ih k)
theorem All2.take (h : All2 P vs ds) (k : Nat) : All2 P (vs.take k) (ds.take k) := by
  induction h generalizing k with
  | nil => cases k <;> exact .nil
  | cons a r ih => cases k with
    | zero => exact .nil
    | succ k => exact .cons a (ih k)
theorem All2.one {v d} (h : P v d) : All2 P [v] [d] := .cons h .nil
theorem All2.dropLast (h : All2 P vs ds) : All2 P vs.dropLast ds.dropLast := by
  rw [List.dropLast_eq_take, List.dropLast_eq_take, h.length]; exact h.take _
theorem All2.eraseIdx (h : All2 P vs ds) (k : Nat) : All2 P (vs.eraseIdx k) (ds.eraseIdx k) := by
  induction h generalizing k with
  | nil => exact .nil
  | cons a r ih => cases k with
    | zero => exact r
    | succ k => exact .cons a (ih k)
end
theorem All2.mono {ρ ρ' : Frz} (hs : ∀ a o, ρ a = some o → ρ' a = some o) {vs ds} (h : IsAll ρ vs ds) : IsAll ρ' vs ds := h.mp fun _ _ => .mono hs
theorem All2.reads {ρ : Frz} {h : Heap} (hs : ∀ a o, ρ a = some o → h.get? a = some o) {vs ds} (i : IsAll ρ vs ds) : ∃ as, ReadsAll h vs ds as := by
  induction i with
  | nil => exact ⟨_, .nil⟩
  | cons a _ ih => exact a.reads hs |>.elim fun _ k => ih.elim fun _ l => ⟨_, .cons k l⟩

/-! ### abstract values, the mutable store -/
inductive AV where
  | d (x : PyData)
  | h (k : Nat)
inductive MO where
  | lst (xs : List PyData)
  | set (xs : List Int)
  | dead
  | tab (l c : Nat)
abbrev Mem := List MO

/-- the frozen objects and the handles' places -/
structure Mp where
  f : Frz
  l : List Addr

def IsV (ρ : Mp) (v : Value) : AV → Prop
  | .d x => Is ρ.f v x
  | .h k => ∃ a, ρ.l[k]? = some a ∧ v = .ref a
abbrev IsVs (ρ : Mp) := All2 (IsV ρ)

/-- a set of ints -/
def SetIs (h : Heap) (a : Addr) (xs : List Int) : Prop := ∃ (prog : Program) (w : World), h.SetOf (intKind prog w) a (fun k => xs.contains k) xs.length

/-! where the one lambda of law 1 is made: its def's code, that code's table of inner codes, the lambda's full name -/
def lamCode : Addr := 65
def lamTab : Addr := 63
def lamQual : Str := "_law_least.<locals>.<lambda>"
def lamScope (sc : Scope) : Bool := sc.names.lookup ("ways" : Str) == some .local
def LamEnv (env : Env) : Prop := env.qual = ("_law_least.<locals>." : Str) ∧ env.code = .ref lamCode

inductive MIs (ρ : Frz) (h : Heap) (a : Addr) : MO → Prop
  | lst {xs} (n vs) : h.get? a = some { cls := .type "list", data := .seq vs n } → IsAll ρ vs.toList xs → MIs ρ h a (.lst xs)
  | set {xs} : SetIs h a xs → MIs ρ h a (.set xs)
  | dead (o) : h.get? a = some o → MIs ρ h a .dead
  | tab {l c : Nat} (ps) : a = lamTab → h.get? a = some { cls := .none, data := .fields ps } →
      (ps = #[] ∨ ∃ c' oc vs t, ps = #[rawInt l, rawInt c, .ref c'] ∧ ρ c' = some oc ∧ oc.data = .fields vs ∧ vs[1]? = some (.str lamQual t)) → MIs ρ h a (.tab l c)
theorem MIs.live {ρ : Frz} {h : Heap} {a : Addr} {m : MO} (x : MIs ρ h a m) : ∃ o, h.get? a = some o := by
  cases x with
  | lst n vs e _ => exact ⟨_, e⟩
  | set e => obtain ⟨_, _, _, _, _, _, e, _⟩ := e; exact ⟨_, e⟩
  | dead o e => exact ⟨_, e⟩
  | tab ps _ e _ => exact ⟨_, e⟩
theorem MIs.list {ρ : Frz} {h : Heap} {a : Addr} {xs : List PyData} (x : MIs ρ h a (.lst xs)) : ∃ n vs, h.get? a = some { cls := .type "list", data := .seq vs n } ∧ IsAll ρ vs.toList xs := by
  cases x with
  | lst n vs e i => exact ⟨n, vs, e, i⟩
theorem MIs.setIs {ρ : Frz} {h : Heap} {a : Addr} {xs : List Int} (x : MIs ρ h a (.set xs)) : SetIs h a xs := by
  cases x with
  | set e => exact e

structure St (h₀ : Heap) (ρ : Mp) (μ : Mem) (h : Heap) : Prop where
  fz : ∀ a o, ρ.f a = some o → h.get? a = some o
  base : ∀ a o, h₀.get? a = some o → ρ.f a = some o
  len : ρ.l.length = μ.length
  ob : ∀ (k : Nat) a m, ρ.l[k]? = some a → μ[k]? = some m → MIs ρ.f h a m
  nd : ρ.l.Nodup
  dis : ∀ (k : Nat) a m, ρ.l[k]? = some a → μ[k]? = some m → m ≠ .dead → ρ.f a = none

structure Grow (X : List Addr) (ρ : Mp) (h : Heap) (ρ' : Mp) (h' : Heap) : Prop where
  rho : ∀ a o, ρ.f a = some o → ρ'.f a = some o
  fz : ∀ a o, ρ'.f a = some o → ρ.f a = some o ∨ h.get? a = none ∨ a ∈ ρ.l
  eta : ρ.l <+: ρ'.l
  new : ∀ a ∈ ρ'.l, a ∈ ρ.l ∨ h.get? a = none
  keep : ∀ b o, h.get? b = some o → b ∉ ρ.l → b ∉ X → h'.get? b = some o
  live : ∀ b o, h.get? b = some o → ∃ o', h'.get? b = some o'

theorem Grow.refl {X ρ h} : Grow X ρ h ρ h :=
  ⟨fun _ _ e => e, fun _ _ e => .inl e, List.prefix_refl _, fun _ m => .inl m, fun _ _ e _ _ => e, fun _ _ e => ⟨_, e⟩⟩

theorem none_of {f : Addr → Option Obj} {g : Addr → Option Obj} {a : Addr} (h : ∀ o, f a = some o → ∃ o', g a = some o') (e : g a = none) : f a = none := by
  cases e' : f a with
  | none => rfl
  | some o => obtain ⟨o', e2⟩ := h o e'; rw [e] at e2; cases e2
theorem Grow.back {X ρ h ρ' h'} (g : Grow X ρ h ρ' h') {a : Addr} (e : h'.get? a = none) : h.get? a = none := none_of (f := h.get?) (g := h'.get?) (g.live a) e

theorem Grow.trans {X ρ h ρ₁ h₁ ρ₂ h₂} (g : Grow X ρ h ρ₁ h₁) (g' : Grow X ρ₁ h₁ ρ₂ h₂) : Grow X ρ h ρ₂ h₂ where
  rho := fun a o e => g'.rho a o (g.rho a o e)
  fz := fun a o e => (g'.fz a o e).elim (g.fz a o) fun e => e.elim (fun e => .inr (.inl (g.back e))) fun e => (g.new a e).elim (fun m => .inr (.inr m)) fun m => .inr (.inl m)
  eta := g.eta.trans g'.eta
  new := fun a m => (g'.new a m).elim (g.new a) fun m => .inr (g.back m)
  keep := fun b o e n1 n2 => g'.keep b o (g.keep b o e n1 n2) (fun m => (g.new b m).elim n1 fun m1 => by rw [e] at m1; cases m1) n2
  live := fun b o e => let ⟨o1, e1⟩ := g.live b o e; g'.live b o1 e1

theorem Grow.weaken {X Y ρ h ρ' h'} (g : Grow X ρ h ρ' h') (hs : ∀ a ∈ X, a ∈ Y) : Grow Y ρ h ρ' h' :=
  { g with keep := fun b o e n1 n2 => g.keep b o e n1 fun m => n2 (hs _ m) }
theorem Grow.up {Y ρ h ρ' h'} (g : Grow [] ρ h ρ' h') : Grow Y ρ h ρ' h' := g.weaken fun _ m => nomatch m
theorem Grow.drop {X ρ h ρ' h'} (g : Grow X ρ h ρ' h') (hX : ∀ a ∈ X, h.get? a = none) : Grow [] ρ h ρ' h' :=
  { g with keep := fun b o e n1 _ => g.keep b o e n1 fun m => by rw [hX b m] at e; cases e }

theorem prefix_get {l l' : List Addr} (p : l <+: l') {k : Nat} {a : Addr} (e : l[k]? = some a) : l'[k]? = some a := by
  obtain ⟨t, rfl⟩ := p
  rw [List.getElem?_append_left (List.getElem?_eq_some_iff.mp e).1]; exact e

theorem IsV.mono {ρ ρ' : Mp} (hs : ∀ a o, ρ.f a = some o → ρ'.f a = some o) (p : ρ.l <+: ρ'.l) {v : Value} {a : AV} (i : IsV ρ v a) : IsV ρ' v a := by
  cases a with
  | d x => exact Is.mono hs i
  | h k => exact i.elim fun a h => ⟨a, prefix_get p h.1, h.2⟩
theorem IsV.grow {X ρ h ρ' h' v a} (i : IsV ρ v a) (g : Grow X ρ h ρ' h') : IsV ρ' v a := i.mono g.rho g.eta
theorem All2.grow {X ρ h ρ' h' v a} (i : IsVs ρ v a) (g : Grow X ρ h ρ' h') : IsVs ρ' v a := i.mp fun _ _ i => i.grow g

theorem MIs.mono {ρ ρ' : Frz} {h h' : Heap} (hs : ∀ a o, ρ a = some o → ρ' a = some o) {a : Addr} (e : ∀ o, h.get? a = some o → h'.get? a = some o) {m : MO} (x : MIs ρ h a m) : MIs ρ' h' a m := by
  cases x with
  | lst n vs h1 h2 => exact .lst n vs (e _ h1) (h2.mono hs)
  | set h1 => obtain ⟨p, w, o, es, n, t, h1, h2⟩ := h1; exact .set ⟨p, w, o, es, n, t, e _ h1, h2⟩
  | dead o h1 => exact .dead o (e _ h1)
  | tab ps h0 h1 h2 => exact .tab ps h0 (e _ h1) (h2.imp id fun ⟨c', oc, vs, t, h3, h4, h5⟩ => ⟨c', oc, vs, t, h3, hs _ _ h4, h5⟩)

/-! ### steps over the state -/
/-- one object more, frozen -/
def Mp.put (ρ : Mp) (a : Addr) (o : Obj) : Mp := ⟨fun b => if b = a then some o else ρ.f b, ρ.l⟩
theorem Mp.put_self {ρ : Mp} {a : Addr} {o : Obj} : (ρ.put a o).f a = some o := if_pos rfl
theorem Mp.put_ne {ρ : Mp} {a b : Addr} {o : Obj} (h : b ≠ a) : (ρ.put a o).f b = ρ.f b := if_neg h
theorem Mp.put_mono {ρ : Mp} {a : Addr} {o : Obj} (h : ρ.f a = none) (b : Addr) (p : Obj) (e : ρ.f b = some p) : (ρ.put a o).f b = some p := by
  rw [Mp.put_ne (fun e' => by rw [e', h] at e; cases e)]; exact e
theorem Mp.put_inv {ρ : Mp} {a b : Addr} {o p : Obj} (e : (ρ.put a o).f b = some p) : (b = a ∧ p = o) ∨ ρ.f b = some p := by
  by_cases h : b = a
  · rw [h, Mp.put_self] at e; exact .inl ⟨h, (Option.some.inj e).symm⟩
  · rw [Mp.put_ne h] at e; exact .inr e

section
variable {h₀ : Heap} {ρ : Mp} {μ : Mem} {h h' : Heap}

theorem St.keepAll (S : St h₀ ρ μ h) (hk : ∀ b o, h.get? b = some o → h'.get? b = some o) : St h₀ ρ μ h' :=
  { S with fz := fun a o e => hk _ _ (S.fz a o e), ob := fun k a m e1 e2 => (S.ob k a m e1 e2).mono (fun _ _ e => e) (hk a) }
theorem Grow.keepAll {X : List Addr} (hk : ∀ b o, h.get? b = some o → h'.get? b = some o) : Grow X ρ h ρ h' :=
  { (Grow.refl : Grow X ρ h ρ h) with keep := fun b o e _ _ => hk b o e, live := fun b o e => ⟨o, hk b o e⟩ }

/-- a change at an address that is neither frozen nor a handle's -/
theorem St.but (S : St h₀ ρ μ h) {L : Addr} (n1 : ρ.f L = none) (n2 : L ∉ ρ.l) (hk : ∀ b o, b ≠ L → h.get? b = some o → h'.get? b = some o) : St h₀ ρ μ h' :=
  { S with
    fz := fun a o e => hk _ _ (fun e' => by rw [e', n1] at e; cases e) (S.fz a o e)
    ob := fun k a m e1 e2 => (S.ob k a m e1 e2).mono (fun _ _ e => e) fun o => hk a o fun e' => n2 (e' ▸ List.mem_of_getElem? e1) }
theorem Grow.but {L : Addr} (hk : ∀ b o, b ≠ L → h.get? b = some o → h'.get? b = some o) (hl : ∃ o', h'.get? L = some o') : Grow [L] ρ h ρ h' :=
  { (Grow.refl : Grow [L] ρ h ρ h) with
    keep := fun b o e _ n => hk b o (fun e' => n (e' ▸ List.mem_singleton.mpr rfl)) e
    live := fun b o e => if hb : b = L then hb ▸ hl else ⟨o, hk b o hb e⟩ }

theorem St.none_of_fresh (S : St h₀ ρ μ h) {a : Addr} (hn : h.get? a = none) : ρ.f a = none := none_of (g := h.get?) (fun o e => ⟨o, S.fz _ _ e⟩) hn
theorem St.mem_get (S : St h₀ ρ μ h) {a : Addr} (m : a ∈ ρ.l) : ∃ (k : Nat) (m : MO), ρ.l[k]? = some a ∧ μ[k]? = some m := by
  obtain ⟨k, hk⟩ := List.mem_iff_getElem?.mp m
  exact ⟨k, _, hk, List.getElem?_eq_getElem (S.len ▸ (List.getElem?_eq_some_iff.mp hk).1)⟩
theorem St.notin_of_fresh (S : St h₀ ρ μ h) {a : Addr} (hn : h.get? a = none) : a ∉ ρ.l := fun m => by
  obtain ⟨k, m, hk, hm⟩ := S.mem_get m
  obtain ⟨o, h1⟩ := (S.ob k a m hk hm).live
  rw [hn] at h1; cases h1

theorem fresh_at {h : Heap} {a : Addr} (ha : h.objs.size ≤ a) : h.get? a = none := by
  cases e : h.get? a with
  | none => rfl
  | some o => exact absurd (Heap.lt_size e) (Nat.not_lt.mpr ha)

/-- an object that no one else knows, frozen -/
theorem St.adopt {D : Addr} {o : Obj} (S : St h₀ ρ μ h) (ho : h.get? D = some o) (hf : ρ.f D = none) (hn : D ∉ ρ.l) : St h₀ (ρ.put D o) μ h where
  fz := fun b p e => (Mp.put_inv e).elim (fun ⟨e1, e2⟩ => e1 ▸ e2 ▸ ho) (S.fz b p)
  base := fun b p e => Mp.put_mono hf b p (S.base b p e)
  len := S.len
  ob := fun k b m e1 e2 => (S.ob k b m e1 e2).mono (Mp.put_mono hf) fun _ e => e
  nd := S.nd
  dis := fun k b m e1 e2 e3 => by rw [Mp.put_ne (fun (e : b = D) => hn (e ▸ List.mem_of_getElem? e1))]; exact S.dis k b m e1 e2 e3
theorem Grow.adopt {X : List Addr} {ρ' : Mp} {D : Addr} {o : Obj} (g : Grow X ρ h ρ' h') (hf : ρ'.f D = none) (hD : h.get? D = none) : Grow X ρ h (ρ'.put D o) h' :=
  { g with
    rho := fun a o e => Mp.put_mono hf _ _ (g.rho a o e)
    fz := fun a o e => (Mp.put_inv e).elim (fun ⟨e1, _⟩ => .inr (.inl (e1 ▸ hD))) (g.fz a o) }

theorem St.freeze (S : St h₀ ρ μ h) {a : Addr} {o : Obj} (hn : h.get? a = none) (ho : h'.get? a = some o) (hk : ∀ b o, h.get? b = some o → h'.get? b = some o) : St h₀ (ρ.put a o) μ h' ∧ ∀ X, Grow X ρ h (ρ.put a o) h' :=
  ⟨(S.keepAll hk).adopt ho (S.none_of_fresh hn) (S.notin_of_fresh hn), fun X => (Grow.keepAll (X := X) hk).adopt (S.none_of_fresh hn) hn⟩

theorem get_append {α : Type} {l : List α} {x y : α} {k : Nat} (e : (l ++ [x])[k]? = some y) : l[k]? = some y ∨ (k = l.length ∧ y = x) := by
  rcases Nat.lt_trichotomy k l.length with hk | hk | hk
  · rw [List.getElem?_append_left hk] at e; exact .inl e
  · subst hk; rw [List.getElem?_concat_length] at e; exact .inr ⟨rfl, (Option.some.inj e).symm⟩
  · rw [List.getElem?_eq_none (by rw [List.length_append]; exact hk)] at e; cases e

/-- one object more, mutable -/
theorem St.handle (S : St h₀ ρ μ h) {a : Addr} {m : MO} (hn : h.get? a = none) (hm : MIs ρ.f h' a m) (hk : ∀ b o, h.get? b = some o → h'.get? b = some o) :
    St h₀ ⟨ρ.f, ρ.l ++ [a]⟩ (μ ++ [m]) h' ∧ ∀ X, Grow X ρ h ⟨ρ.f, ρ.l ++ [a]⟩ h' := by
  have hρ := S.none_of_fresh hn
  have hη := S.notin_of_fresh hn
  have two : ∀ (k : Nat) b m', (ρ.l ++ [a])[k]? = some b → (μ ++ [m])[k]? = some m' → (ρ.l[k]? = some b ∧ μ[k]? = some m') ∨ (b = a ∧ m' = m) := fun k b m' e1 e2 => by
    rcases get_append e1 with e1' | ⟨rfl, e1'⟩
    · rcases get_append e2 with e2 | ⟨rfl, _⟩
      · exact .inl ⟨e1', e2⟩
      · have := (List.getElem?_eq_some_iff.mp e1').1
        rw [S.len] at this; exact absurd this (Nat.lt_irrefl _)
    · rcases get_append e2 with e2 | ⟨_, e2⟩
      · have := (List.getElem?_eq_some_iff.mp e2).1
        rw [S.len] at this; exact absurd this (Nat.lt_irrefl _)
      · exact .inr ⟨e1', e2⟩
  refine ⟨⟨fun b p e => hk _ _ (S.fz b p e), S.base, by simp only [List.length_append, S.len]; rfl, fun k b m' e1 e2 => ?_, ?_, fun k b m' e1 e2 e3 => ?_⟩, fun X => ⟨fun _ _ e => e, fun _ _ e => .inl e, List.prefix_append _ _, fun b hb => ?_, fun b o e _ _ => hk b o e, fun b o e => ⟨o, hk b o e⟩⟩⟩
  · rcases two k b m' e1 e2 with ⟨e1, e2⟩ | ⟨rfl, rfl⟩
    · exact (S.ob k b m' e1 e2).mono (fun _ _ e => e) (hk b)
    · exact hm
  · exact List.nodup_append.mpr ⟨S.nd, List.pairwise_singleton _ _, fun x hx y hy e => hη (List.mem_singleton.mp hy ▸ e ▸ hx)⟩
  · rcases two k b m' e1 e2 with ⟨e1, e2⟩ | ⟨rfl, rfl⟩
    · exact S.dis k b m' e1 e2 e3
    · exact hρ
  · exact (List.mem_append.mp hb).imp id fun hb => (List.mem_singleton.mp hb : b = a) ▸ hn

theorem get_set {α : Type} {l : List α} {x y : α} {k j : Nat} (e : (l.set k x)[j]? = some y) : (j = k ∧ y = x) ∨ (j ≠ k ∧ l[j]? = some y) := by
  by_cases hj : k = j
  · subst hj
    have : k < l.length := by have := (List.getElem?_eq_some_iff.mp e).1; rwa [List.length_set] at this
    rw [List.getElem?_set_self this] at e; exact .inl ⟨rfl, (Option.some.inj e).symm⟩
  · rw [List.getElem?_set_ne hj] at e; exact .inr ⟨Ne.symm hj, e⟩
theorem St.inj (S : St h₀ ρ μ h) {j k : Nat} {a : Addr} (h1 : ρ.l[j]? = some a) (h2 : ρ.l[k]? = some a) : j = k :=
  (List.getElem?_inj (List.getElem?_eq_some_iff.mp h1).1 S.nd).mp (h1.trans h2.symm)

/-- a handle's object turned -/
theorem St.turnU (S : St h₀ ρ μ h) {k : Nat} {a : Addr} {m : MO} (hk : ρ.l[k]? = some a) (hρa : ρ.f a = none) (hm : MIs ρ.f h' a m) (hs : ∀ b o, b ≠ a → h.get? b = some o → h'.get? b = some o) :
    St h₀ ρ (μ.set k m) h' ∧ ∀ X, Grow X ρ h ρ h' := by
  have ha : a ∈ ρ.l := List.mem_of_getElem? hk
  refine ⟨⟨fun b p e => hs b p (fun e' => ?_) (S.fz b p e), S.base, by rw [List.length_set]; exact S.len, fun j b m' e1 e2 => ?_, S.nd, fun j b m' e1 e2 e3 => ?_⟩, fun X => ⟨fun _ _ e => e, fun _ _ e => .inl e, List.prefix_refl _, fun _ m => .inl m, fun b o e n _ => hs b o (fun e' => n (e' ▸ ha)) e, fun b o e => ?_⟩⟩
  · rw [e', hρa] at e; cases e
  · rcases get_set e2 with ⟨rfl, rfl⟩ | ⟨hj, e2⟩
    · rw [hk] at e1; cases e1; exact hm
    · exact (S.ob j b m' e1 e2).mono (fun _ _ e => e) fun o => hs b o fun e' => hj (S.inj (e' ▸ e1) hk)
  · rcases get_set e2 with ⟨rfl, rfl⟩ | ⟨_, e2⟩
    · rw [hk] at e1; cases e1; exact hρa
    · exact S.dis j b m' e1 e2 e3
  · exact if hb : b = a then hb ▸ hm.live else ⟨o, hs b o hb e⟩

theorem St.turn (S : St h₀ ρ μ h) {k : Nat} {a : Addr} {m m₀ : MO} (hk : ρ.l[k]? = some a) (hk0 : μ[k]? = some m₀) (hd : m₀ ≠ .dead) (hm : MIs ρ.f h' a m) (hs : ∀ b o, b ≠ a → h.get? b = some o → h'.get? b = some o) :
    St h₀ ρ (μ.set k m) h' ∧ ∀ X, Grow X ρ h ρ h' := S.turnU hk (S.dis k a m₀ hk hk0 hd) hm hs
/-- one object more, frozen, and a handle's object turned -/
theorem St.turnNew (S : St h₀ ρ μ h) {k : Nat} {a b : Addr} {m m₀ : MO} {o : Obj} (hk : ρ.l[k]? = some a) (hk0 : μ[k]? = some m₀) (hd : m₀ ≠ .dead) (hn : h.get? b = none) (ho : h'.get? b = some o) (hm : MIs (ρ.put b o).f h' a m)
    (hs : ∀ x p, x ≠ a → h.get? x = some p → h'.get? x = some p) : St h₀ (ρ.put b o) (μ.set k m) h' ∧ ∀ X, Grow X ρ h (ρ.put b o) h' := by
  have hρb := S.none_of_fresh hn
  have hbη := S.notin_of_fresh hn
  have hab : a ≠ b := fun e => hbη (e ▸ List.mem_of_getElem? hk)
  have hρa := S.dis k a m₀ hk hk0 hd
  obtain ⟨S1, g1⟩ := S.turnU (m := .dead) hk hρa (hm.live.elim fun p e => .dead p e) hs
  have S2 := S1.adopt ho hρb hbη
  have S3 := (S2.turnU (k := k) (a := a) hk ((Mp.put_ne hab).trans hρa) hm fun _ _ _ e => e).1
  rw [List.set_set] at S3
  exact ⟨S3, fun X => (g1 X).adopt hρb hn⟩

theorem St.take (S : St h₀ ρ μ h) (k : Nat) : St h₀ ⟨ρ.f, ρ.l.take k⟩ (μ.take k) h :=
  have get : ∀ {α : Type} {l : List α} {j : Nat} {x : α}, (l.take k)[j]? = some x → l[j]? = some x := fun {α l j x} e => by
    rw [List.getElem?_take] at e
    split at e
    · exact e
    · cases e
  { S with
    len := by show (ρ.l.take k).length = _; rw [List.length_take, List.length_take, S.len]
    ob := fun j a m e1 e2 => S.ob j a m (get e1) (get e2)
    nd := S.nd.sublist (List.take_sublist _ _)
    dis := fun j a m e1 e2 => S.dis j a m (get e1) (get e2) }

/-- a handle's list, frozen where it lies -/
theorem St.freezeH (S : St h₀ ρ μ h) {k : Nat} {a : Addr} {xs : List PyData} (hk : ρ.l[k]? = some a) (hm : μ[k]? = some (.lst xs)) :
    ∃ ρ', St h₀ ρ' (μ.set k .dead) h ∧ Is ρ'.f (.ref a) (.list xs) ∧ (∀ X, Grow X ρ h ρ' h) ∧ ρ'.l = ρ.l := by
  obtain ⟨n, vs, ho, hi⟩ := (S.ob k a _ hk hm).list
  have hρ : ρ.f a = none := S.dis k a _ hk hm (fun e => by cases e)
  have mono := Mp.put_mono (o := { cls := .type "list", data := .seq vs n }) hρ
  refine ⟨ρ.put a { cls := .type "list", data := .seq vs n }, ⟨fun b p e => ?_, fun b p e => mono _ _ (S.base b p e), by rw [List.length_set]; exact S.len, fun j b m e1 e2 => ?_, S.nd, fun j b m e1 e2 e3 => ?_⟩, .list Mp.put_self (hi.mono mono),
    fun X => ⟨mono, fun b p e => ?_, List.prefix_refl _, fun _ m => .inl m, fun b o e _ _ => e, fun b o e => ⟨o, e⟩⟩, rfl⟩
  · rcases Mp.put_inv e with ⟨rfl, rfl⟩ | e
    · exact ho
    · exact S.fz _ _ e
  · rcases get_set e2 with ⟨rfl, rfl⟩ | ⟨hj, e2⟩
    · exact .dead _ (hk.symm.trans e1 |> Option.some.inj |> fun e => e ▸ ho)
    · exact (S.ob j b m e1 e2).mono mono fun _ e => e
  · rcases get_set e2 with ⟨rfl, rfl⟩ | ⟨hj, e2⟩
    · exact absurd rfl e3
    · rw [Mp.put_ne (fun (e : b = a) => hj (S.inj e1 (e ▸ hk)))]; exact S.dis j b m e1 e2 e3
  · rcases Mp.put_inv e with ⟨rfl, rfl⟩ | e
    · exact .inr (.inr (List.mem_of_getElem? hk))
    · exact .inl e
end
end Mine
end
section
namespace Mine

/-! ### contexts -/
abbrev KE := AV → Mem → Prop
/-- what the defs mean (each a road from what must hold behind it to what must hold ahead), the constants, what else is at hand -/
structure Cx where
  fns : Str → Option (List AV → Mem → KE → Prop)
  cst : Str → Option PyData
  lam : Bool
structure Mc where
  prog : Program
  w : World
  A : Around
  h₀ : Heap
  c : Cx
  K : Nat
  mg : Str → Option Value
  mb : Str → Option Value
  env : Env
def Mc.in1 (M : Mc) : Mc := { M with A := M.A.in1 }
abbrev Sto := Str → Option AV

/-! ### the logic: heap to heap, nothing raised -/
def Ev {α : Type} (M : Mc) (t : Sem α) (Q : α → Heap → Prop) (h : Heap) : Prop :=
  ∀ s : Shared, s.heap = h → 1 ≤ s.toks → wpAny (model M.prog M.w) M.A t (fun a s' => s'.gens = s.gens ∧ s'.os = s.os ∧ Q a s'.heap) (fun _ _ => False) s

section
variable {M : Mc} {α β : Type} {h : Heap}


theorem Ev.mono {t : Sem α} {Q Q' : α → Heap → Prop} (x : Ev M t Q h) (f : ∀ a h', Q a h' → Q' a h') : Ev M t Q' h :=
  fun s hs ht => wpAny_mono (x s hs ht) (fun _ _ q => ⟨q.1, q.2.1, f _ _ q.2.2⟩) fun _ _ e => e
theorem Ev.pure {a : α} {Q : α → Heap → Prop} (q : Q a h) : Ev M (pure a) Q h :=
  fun _ hs _ => wpAny_pure ⟨rfl, rfl, hs ▸ q⟩
theorem Ev.bind {t : Sem α} {f : α → Sem β} {Q : β → Heap → Prop} (x : Ev M t (fun a h' => Ev M (f a) Q h') h) : Ev M (t >>= f) Q h :=
  fun s hs ht => wpAny_bind (wpAny_mono (wpAny_toks_of ht (x s hs ht)) (fun _ s' q => wpAny_mono (q.2.2.2 s' rfl q.1) (fun _ _ q' => ⟨q'.1.trans q.2.1, q'.2.1.trans q.2.2.1, q'.2.2⟩) fun _ _ e => e) fun _ _ e => e.2)
theorem Ev.standAt {p : Pos} {Q : Unit → Heap → Prop} (q : Q () h) : Ev M (standAt p) Q h := fun _ hs _ => wpAny_standAt ⟨rfl, rfl, hs ▸ q⟩
theorem Ev.rule {tag : String} {Q : Unit → Heap → Prop} (q : Q () h) : Ev M (rule tag) Q h := fun _ hs _ => wpAny_rule ⟨rfl, rfl, hs ▸ q⟩
theorem Ev.point {Q : Unit → Heap → Prop} (q : Q () h) : Ev M point Q h := fun _ hs _ => wpAny_point ⟨rfl, rfl, hs ▸ q⟩
theorem Ev.holding {vs : List Value} {t : Sem α} {Q : α → Heap → Prop} (x : Ev M t Q h) : Ev M (holding vs t) Q h := fun s hs ht => wpAny_holding (x s hs ht)
theorem Ev.keep {vs : List Value} {t : Sem α} {Q : α → Heap → Prop} (x : Ev M t Q h) : Ev M (t.keep vs) Q h := fun s hs ht => Calls.wpAny_keep (x s hs ht)
theorem Ev.of_eq {t t' : Sem α} {Q : α → Heap → Prop} (e : t = t') (x : Ev M t' Q h) : Ev M t Q h := e ▸ x
theorem Ev.in1 {t : Sem α} {Q : α → Heap → Prop} (x : Ev M.in1 t Q h) : Ev M t Q h := fun s hs ht => wpAny_of_in1 (x s hs ht)
theorem Ev.release {vs ks : List Value} {Q : Unit → Heap → Prop} (q : Q () h) : Ev M (release vs ks) Q h := fun s hs _ Γ p _ => by
  rw [Sem.wp_release]; exact ⟨rfl, rfl, hs ▸ q⟩
theorem Ev.operate {vs : List Value} {t : Sem Value} {Q : Value → Heap → Prop} (x : Ev M t Q h) : Ev M (operate vs t) Q h := fun s hs ht Γ p hΓ => by
  rw [Sem.wp_operate]; exact x s hs ht Γ p hΓ
/-- a rule of the library, lifted -/
theorem Ev.lift {t : Sem α} {Q : α → Heap → Prop}
    (x : ∀ s : Shared, s.heap = h → 1 ≤ s.toks → ∀ Q' : α → Shared → Prop, (∀ a h' tk, Q a h' → Q' a { s with heap := h', toks := tk }) → wpAny (model M.prog M.w) M.A t Q' (fun _ _ => False) s) : Ev M t Q h :=
  fun s hs ht => x s hs ht _ fun _ _ _ q => ⟨rfl, rfl, q⟩
end

/-! ### the frame of a def or of a comprehension -/
def owned (env : Env) : List Addr := env.locals :: env.cells.map (·.2)

structure FrS (ρ : Mp) (env : Env) (σ : Sto) (h : Heap) : Prop where
  fn : env.scope.kind = .function
  gl : env.globals = mainGlobals
  bi : env.builtins = builtinsNs
  ns : ∃ m, h.Ns env.locals m ∧ ∀ x a, σ x = some a → env.kindOf x = some .local → ∃ v, m x = some v ∧ IsV ρ v a
  kd : ∀ x a, σ x = some a → env.kindOf x = some .local ∨ env.kindOf x = some .cell
  cl : ∀ x a, σ x = some a → env.kindOf x = some .cell → ∃ c v, env.cells.lookup x = some c ∧ h.IsCell c (some v) ∧ IsV ρ v a
  cm : ∀ p ∈ env.cells, (∃ v, h.IsCell p.2 v) ∧ p.2 ≠ env.locals ∧ p.2 ∉ ρ.l ∧ ρ.f p.2 = none
  cx : ∀ x, env.kindOf x = some .cell → ∃ c, env.cells.lookup x = some c
  ap : env.cells.Pairwise fun x y => x.2 ≠ y.2
  lo : env.locals ∉ ρ.l ∧ ρ.f env.locals = none
  lm : lamScope env.scope = true → LamEnv env

theorem FrS.ce {ρ env σ h} (F : FrS ρ env σ h) (x : Str) (c : Addr) (e : env.cells.lookup x = some c) : (∃ v, h.IsCell c v) ∧ c ≠ env.locals ∧ c ∉ ρ.l ∧ ρ.f c = none := F.cm (x, c) (mem_of_lookup e)

def upd (σ : Sto) (x : Str) (a : AV) : Sto := fun y => if y = x then some a else σ y

theorem mem_owned_cell {env : Env} {x : Str} {c : Addr} (e : env.cells.lookup x = some c) : c ∈ owned env :=
  List.mem_cons_of_mem _ (List.mem_map.mpr ⟨_, mem_of_lookup e, rfl⟩)

theorem mem_owned {env : Env} {p : Str × Addr} (e : p ∈ env.cells) : p.2 ∈ owned env := List.mem_cons_of_mem _ (List.mem_map.mpr ⟨_, e, rfl⟩)

theorem Grow.lone {X ρ h ρ' h'} (g : Grow X ρ h ρ' h') {I : Addr} {o : Obj} (ho : h.get? I = some o) (h1 : ρ.f I = none) (h2 : I ∉ ρ.l) : I ∉ ρ'.l ∧ ρ'.f I = none := by
  have ne : h.get? I ≠ none := fun e => by rw [ho] at e; cases e
  refine ⟨fun m => (g.new _ m).elim h2 ne, ?_⟩
  cases e : ρ'.f I with
  | none => rfl
  | some o' =>
    rcases g.fz I o' e with e1 | e1 | e1
    · rw [h1] at e1; cases e1
    · exact absurd e1 ne
    · exact absurd e1 h2

theorem FrS.grow {X ρ env σ h ρ' h'} (F : FrS ρ env σ h) (g : Grow X ρ h ρ' h') (hX : ∀ a ∈ owned env, a ∉ X) : FrS ρ' env σ h' :=
  { F with
    ns := let ⟨m, h1, h2⟩ := F.ns
      ⟨m, h1.at' fun o e => g.keep _ o e F.lo.1 (hX _ (List.mem_cons_self ..)), fun x a e1 e2 => let ⟨v, e3, i⟩ := h2 x a e1 e2; ⟨v, e3, i.grow g⟩⟩
    cl := fun x a e1 e2 => let ⟨c, v, e3, ⟨o, ho, hd⟩, i⟩ := F.cl x a e1 e2; ⟨c, v, e3, ⟨o, g.keep _ o ho (F.ce x c e3).2.2.1 (hX _ (mem_owned_cell e3)), hd⟩, i.grow g⟩
    cm := fun p e => let ⟨⟨v, o, ho, hd⟩, h2, h3, h4⟩ := F.cm p e; ⟨⟨v, o, g.keep _ o ho h3 (hX _ (mem_owned e)), hd⟩, h2, g.lone ho h4 h3⟩
    lo := let ⟨_, ⟨_, _, _, ho, _⟩, _⟩ := F.ns; g.lone ho F.lo.2 F.lo.1 }
theorem FrS.grow0 {ρ env σ h ρ' h'} (F : FrS ρ env σ h) (g : Grow [] ρ h ρ' h') : FrS ρ' env σ h' := F.grow g fun _ _ m => nomatch m
theorem FrS.weaken {ρ env σ σ' h} (F : FrS ρ env σ' h) (hs : ∀ x a, σ x = some a → σ' x = some a) : FrS ρ env σ h :=
  { F with
    ns := let ⟨m, h1, h2⟩ := F.ns; ⟨m, h1, fun x a e => h2 x a (hs x a e)⟩
    kd := fun x a e => F.kd x a (hs x a e)
    cl := fun x a e => F.cl x a (hs x a e) }
theorem FrS.off {ρ env σ h h₁} {I : Addr} (F : FrS ρ env σ h) (no : I ∉ owned env) (hk : ∀ b o, b ≠ I → h.get? b = some o → h₁.get? b = some o) : FrS ρ env σ h₁ :=
  { F with
    ns := let ⟨m, h1, h2⟩ := F.ns; ⟨m, h1.at' fun o e => hk _ o (fun e' => no (e' ▸ List.mem_cons_self ..)) e, h2⟩
    cl := fun x a e1 e2 => let ⟨c, v, e3, ⟨o, ho, hd⟩, i⟩ := F.cl x a e1 e2; ⟨c, v, e3, ⟨o, hk _ o (fun e' => no (e' ▸ mem_owned_cell e3)) ho, hd⟩, i⟩
    cm := fun p e => let ⟨⟨v, o, ho, hd⟩, r⟩ := F.cm p e; ⟨⟨v, o, hk _ o (fun e' => no (e' ▸ mem_owned e)) ho, hd⟩, r⟩ }
theorem FrS.old {ρ env σ h} (F : FrS ρ env σ h) {I : Addr} (m : I ∈ owned env) : ∃ o, h.get? I = some o := by
  rcases List.mem_cons.mp m with rfl | m
  · obtain ⟨_, ⟨o', _, _, ho, _⟩, _⟩ := F.ns; exact ⟨o', ho⟩
  · obtain ⟨p', hp', rfl⟩ := List.mem_map.mp m
    obtain ⟨⟨_, o', ho, _⟩, _⟩ := F.cm p' hp'
    exact ⟨o', ho⟩
theorem FrS.notown {ρ env σ h} (F : FrS ρ env σ h) {I : Addr} (e : h.get? I = none) : I ∉ owned env := fun m => by
  obtain ⟨o, ho⟩ := F.old m; rw [e] at ho; cases ho

section
variable {M : Mc} {ρ : Mp} {μ : Mem} {h : Heap} {env : Env} {σ : Sto}

theorem Ev.loadVar {x : Str} {a : AV} {Q : Value → Heap → Prop} (F : FrS ρ env σ h) (e : σ x = some a) (q : ∀ v, IsV ρ v a → Q v h) : Ev M (loadName env x) Q h := by
  refine Ev.lift fun s hs _ Q' k => ?_
  subst hs
  rcases F.kd x a e with e1 | e1
  · obtain ⟨m, h1, h2⟩ := F.ns
    obtain ⟨v, e3, i⟩ := h2 x a e e1
    exact wpAny_loadName_local F.fn e1 h1 e3 (k v s.heap s.toks (q v i))
  · obtain ⟨c, v, e3, hc, i⟩ := F.cl x a e e1
    exact wpAny_loadName_cell F.fn e1 e3 hc (k v s.heap s.toks (q v i))

theorem Ev.Name {x : Str} {p : Pos} {a : AV} {Q : Value → Heap → Prop} (hd : (x == ("__debug__" : Str)) = false) (F : FrS ρ env σ h) (e : σ x = some a) (q : ∀ v, IsV ρ v a → Q v h) : Ev M (eval (.Name x p) env) Q h := by
  rw [eval_Name env x p hd]
  exact Ev.bind (Ev.standAt (Ev.loadVar F e q))

theorem Ev.storeLocal {x : Str} {a : AV} {v : Value} {Q : Unit → Heap → Prop} (S : St M.h₀ ρ μ h) (F : FrS ρ env σ h) (hk : env.kindOf x = some .local) (i : IsV ρ v a)
    (q : ∀ h', St M.h₀ ρ μ h' → FrS ρ env (upd σ x a) h' → Grow [env.locals] ρ h ρ h' → Q () h') : Ev M (storeName env x v) Q h := by
  refine Ev.lift fun s hs _ Q' k => ?_
  subst hs
  obtain ⟨m, h1, h2⟩ := F.ns
  refine wpAny_storeName_local hk h1 (fun h' hn hs' => k () h' _ (q h' ?_ ?_ ?_)) (by rw [F.fn]; rfl)
  · exact S.but F.lo.2 F.lo.1 fun b o hb e => hs'.extBut b o hb e
  · refine ⟨F.fn, F.gl, F.bi, ⟨_, hn, fun y b e1 e2 => ?_⟩, fun y b e1 => ?_, fun y b e1 e2 => ?_, fun p e1 => ?_, F.cx, F.ap, F.lo, F.lm⟩
    · unfold upd at e1
      by_cases hy : y = x
      · rw [if_pos hy] at e1; cases e1; exact ⟨v, by rw [if_pos hy], i⟩
      · rw [if_neg hy] at e1
        obtain ⟨u, e3, j⟩ := h2 y b e1 e2
        exact ⟨u, by rw [if_neg hy]; exact e3, j⟩
    · unfold upd at e1
      by_cases hy : y = x
      · subst hy; exact .inl hk
      · rw [if_neg hy] at e1; exact F.kd y b e1
    · unfold upd at e1
      by_cases hy : y = x
      · subst hy; rw [hk] at e2; cases e2
      · rw [if_neg hy] at e1
        obtain ⟨c, u, e3, hc, j⟩ := F.cl y b e1 e2
        exact ⟨c, u, e3, hc.sameBut hs' (F.ce y c e3).2.1, j⟩
    · obtain ⟨⟨u, hc⟩, r⟩ := F.cm p e1
      exact ⟨⟨u, hc.sameBut hs' r.1⟩, r⟩
  · obtain ⟨oL, _, _, hoL, _⟩ := hn
    exact Grow.but (L := env.locals) (fun b o hb e => hs'.extBut b o hb e) ⟨_, hoL⟩

theorem Ev.storeVar {x : Str} {a : AV} {v : Value} {Q : Unit → Heap → Prop} (S : St M.h₀ ρ μ h) (F : FrS ρ env σ h) (hk : env.kindOf x = some .local ∨ env.kindOf x = some .cell) (i : IsV ρ v a)
    (q : ∀ h', St M.h₀ ρ μ h' → FrS ρ env (upd σ x a) h' → Grow (owned env) ρ h ρ h' → Q () h') : Ev M (storeName env x v) Q h := by
  rcases hk with hk | hk
  · exact Ev.storeLocal S F hk i fun h' s' f' g' => q h' s' f' (g'.weaken fun a m => by simp at m; subst m; exact List.mem_cons_self ..)
  refine Ev.lift fun s hs _ Q' k => ?_
  subst hs
  · obtain ⟨c, hc⟩ := F.cx x hk
    obtain ⟨⟨v0, hcell⟩, hcl, hcn, hcr⟩ := F.ce x c hc
    refine wpAny_storeName_cell F.fn hk hc hcell fun h' hc' hs' => k () h' _ (q h' ?_ ?_ ?_)
    · exact S.but hcr hcn fun b o hb e => hs'.extBut b o hb e
    · obtain ⟨m, h1, h2⟩ := F.ns
      refine ⟨F.fn, F.gl, F.bi, ⟨m, h1.sameBut hs' (Ne.symm hcl), fun y b e1 e2 => ?_⟩, fun y b e1 => ?_, fun y b e1 e2 => ?_, fun p e1 => ?_, F.cx, F.ap, F.lo, F.lm⟩
      · unfold upd at e1
        by_cases hy : y = x
        · subst hy; rw [hk] at e2; cases e2
        · rw [if_neg hy] at e1; exact h2 y b e1 e2
      · unfold upd at e1
        by_cases hy : y = x
        · subst hy; exact .inr hk
        · rw [if_neg hy] at e1; exact F.kd y b e1
      · unfold upd at e1
        by_cases hy : y = x
        · subst hy; rw [if_pos rfl] at e1; cases e1; exact ⟨c, v, hc, hc', i⟩
        · rw [if_neg hy] at e1
          obtain ⟨c2, u, e3, hc2, j⟩ := F.cl y b e1 e2
          exact ⟨c2, u, e3, hc2.sameBut hs' fun e => hy (name_of_addr F.ap (mem_of_lookup e3) (e ▸ mem_of_lookup hc)), j⟩
      · obtain ⟨⟨u, hc2⟩, r⟩ := F.cm p e1
        by_cases he : p.2 = c
        · refine ⟨⟨_, by rw [he]; exact hc'⟩, r⟩
        · exact ⟨⟨u, hc2.sameBut hs' he⟩, r⟩
    · obtain ⟨o', ho', _⟩ := hc'
      exact (Grow.but (L := c) (fun b o hb e => hs'.extBut b o hb e) ⟨_, ho'⟩).weaken fun a m => by simp at m; subst m; exact mem_owned_cell hc

theorem Ev.bindLocal {x : Str} {a : AV} {v : Value} {Q : Unit → Heap → Prop} (S : St M.h₀ ρ μ h) (F : FrS ρ env σ h) (hk : env.kindOf x = some .local) (i : IsV ρ v a)
    (q : ∀ h', St M.h₀ ρ μ h' → FrS ρ env (upd σ x a) h' → Grow [env.locals] ρ h ρ h' → Q () h') : Ev M (bindName env x v) Q h := by
  unfold bindName
  exact Ev.bind (Ev.holding (Ev.point (Ev.bind (Ev.storeLocal S F hk i fun h' s f g => Ev.point (q h' s f g)))))

theorem Ev.bindVar {x : Str} {a : AV} {v : Value} {Q : Unit → Heap → Prop} (S : St M.h₀ ρ μ h) (F : FrS ρ env σ h) (hk : env.kindOf x = some .local ∨ env.kindOf x = some .cell) (i : IsV ρ v a)
    (q : ∀ h', St M.h₀ ρ μ h' → FrS ρ env (upd σ x a) h' → Grow (owned env) ρ h ρ h' → Q () h') : Ev M (bindName env x v) Q h := by
  unfold bindName
  exact Ev.bind (Ev.holding (Ev.point (Ev.bind (Ev.storeVar S F hk i fun h' s f g => Ev.point (q h' s f g)))))
end
end Mine
end
section
namespace Mine

def OkA (n : Nat) (A : Around) : Prop := A.handled = none ∧ A.depth + n < recursionLimit ∧ A.units + 10 * n + 200 < cLine
theorem OkA.in1 {n A} (x : OkA (n + 1) A) : OkA n A.in1 := ⟨x.1, by have := x.2.1; show A.depth + n < _; omega, by have := x.2.2; show A.units + 1 + 10 * n + 200 < _; omega⟩
theorem OkA.deeper {n A env} (x : OkA (n + 1) A) : OkA n (A.deeper env) := ⟨x.1, by have := x.2.1; show A.depth + 1 + n < _; omega, by have := x.2.2; show A.units + 3 + 10 * n + 200 < _; omega⟩
theorem OkA.le {n m A} (x : OkA n A) (h : m ≤ n) : OkA m A := ⟨x.1, by have := x.2.1; omega, by have := x.2.2; omega⟩

def Res (M : Mc) (ρ : Mp) (h : Heap) (a : AV) (μ' : Mem) (v : Value) (h' : Heap) : Prop :=
  ∃ ρ', Grow [] ρ h ρ' h' ∧ St M.h₀ ρ' μ' h' ∧ IsV ρ' v a
/-- a result for which the road's end holds -/
def PE (M : Mc) (ρ : Mp) (h : Heap) (k : KE) (v : Value) (h' : Heap) : Prop := ∃ a ρ' μ', Grow [] ρ h ρ' h' ∧ St M.h₀ ρ' μ' h' ∧ IsV ρ' v a ∧ k a μ'

/-! ### what a value must be -/
def intP : AV → (Int → Prop) → Prop
  | .d (.int i), k => k i
  | _, _ => False
def strP : AV → (Str → Prop) → Prop
  | .d (.str i), k => k i
  | _, _ => False
def boolP : AV → (Bool → Prop) → Prop
  | .d (.bool i), k => k i
  | _, _ => False
def tupP : AV → (List PyData → Prop) → Prop
  | .d (.tuple i), k => k i
  | _, _ => False
def lstD : AV → (List PyData → Prop) → Prop
  | .d (.list i), k => k i
  | _, _ => False
def datP : AV → (PyData → Prop) → Prop
  | .d i, k => k i
  | .h _, _ => False
def hndP (a : AV) (k : Nat → Prop) : Prop := match a with
  | .h j => k j
  | .d _ => False
/-- a handle's list -/
def mutP (a : AV) (μ : Mem) (k : Nat → List PyData → Prop) : Prop := hndP a fun j => ∃ xs, μ[j]? = some (.lst xs) ∧ k j xs
def setP (a : AV) (μ : Mem) (k : Nat → List Int → Prop) : Prop := hndP a fun j => ∃ xs, μ[j]? = some (.set xs) ∧ k j xs
/-- a list, by value or a handle's -/
def lstP (a : AV) (μ : Mem) (k : List PyData → Prop) : Prop := match a with
  | .h j => ∃ xs, μ[j]? = some (.lst xs) ∧ k xs
  | a => lstD a k
def valP (a : AV) (μ : Mem) (k : PyData → Prop) : Prop := match a with
  | .h j => ∃ xs, μ[j]? = some (.lst xs) ∧ k (.list xs)
  | .d x => k x

section
variable {M : Mc} {ρ : Mp} {μ : Mem} {h : Heap} {v : Value} {a : AV}
theorem intP.inv {k} (x : intP a k) : ∃ i, a = .d (.int i) ∧ k i := by
  rcases a with (_ | _ | i | _ | _ | _ | _) | _ <;> first | exact ⟨_, rfl, x⟩ | exact x.elim
theorem strP.inv {k} (x : strP a k) : ∃ i, a = .d (.str i) ∧ k i := by
  rcases a with (_ | _ | i | _ | _ | _ | _) | _ <;> first | exact ⟨_, rfl, x⟩ | exact x.elim
theorem boolP.inv {k} (x : boolP a k) : ∃ i, a = .d (.bool i) ∧ k i := by
  rcases a with (_ | _ | i | _ | _ | _ | _) | _ <;> first | exact ⟨_, rfl, x⟩ | exact x.elim
theorem tupP.inv {k} (x : tupP a k) : ∃ i, a = .d (.tuple i) ∧ k i := by
  rcases a with (_ | _ | i | _ | _ | _ | _) | _ <;> first | exact ⟨_, rfl, x⟩ | exact x.elim
theorem lstD.inv {k} (x : lstD a k) : ∃ i, a = .d (.list i) ∧ k i := by
  rcases a with (_ | _ | i | _ | _ | _ | _) | _ <;> first | exact ⟨_, rfl, x⟩ | exact x.elim
theorem datP.inv {k} (x : datP a k) : ∃ i, a = .d i ∧ k i := by
  cases a with
  | d i => exact ⟨_, rfl, x⟩
  | h _ => exact x.elim
theorem hndP.inv {k} (x : hndP a k) : ∃ i, a = .h i ∧ k i := by
  cases a with
  | h i => exact ⟨_, rfl, x⟩
  | d _ => exact x.elim

theorem Res.same (S : St M.h₀ ρ μ h) (i : IsV ρ v a) : Res M ρ h a μ v h := ⟨ρ, .refl, S, i⟩
theorem Res.trans {ρ' h' μ' h''} (g : Grow [] ρ h ρ' h') (r : Res M ρ' h' a μ' v h'') : Res M ρ h a μ' v h'' :=
  r.elim fun ρ2 q => ⟨ρ2, g.trans q.1, q.2⟩
theorem PE.same {k : KE} (S : St M.h₀ ρ μ h) (i : IsV ρ v a) (q : k a μ) : PE M ρ h k v h := ⟨a, ρ, μ, .refl, S, i, q⟩
theorem PE.el {h'} {k : KE} {P : Prop} (r : PE M ρ h k v h') (f : ∀ a ρ' μ', Grow [] ρ h ρ' h' → St M.h₀ ρ' μ' h' → IsV ρ' v a → k a μ' → P) : P := by
  obtain ⟨a, ρ2, μ, g, S, i, q⟩ := r
  exact f a ρ2 μ g S i q
theorem Res.el {h' μ'} {P : Prop} (r : Res M ρ h a μ' v h') (f : ∀ ρ', Grow [] ρ h ρ' h' → St M.h₀ ρ' μ' h' → IsV ρ' v a → P) : P := by
  obtain ⟨ρ2, g, S, i⟩ := r
  exact f ρ2 g S i
theorem PE.mk {h' ρ' μ'} {k : KE} (g : Grow [] ρ h ρ' h') (S : St M.h₀ ρ' μ' h') (i : IsV ρ' v a) (q : k a μ') : PE M ρ h k v h' := ⟨a, ρ', μ', g, S, i, q⟩
theorem PE.trans {ρ' h' h''} {k : KE} (g : Grow [] ρ h ρ' h') (r : PE M ρ' h' k v h'') : PE M ρ h k v h'' := r.el fun _ _ _ g2 S i q => .mk (g.trans g2) S i q
theorem Res.pe {μ' h'} {k : KE} (r : Res M ρ h a μ' v h') (q : k a μ') : PE M ρ h k v h' := r.elim fun ρ' r => ⟨a, ρ', μ', r.1, r.2.1, r.2.2, q⟩
/-- a part's results, used -/
theorem Ev.useE {t : Sem Value} {k : KE} {Q : Value → Heap → Prop} (x : Ev M t (PE M ρ h k) h) (f : ∀ v h' a ρ' μ', Grow [] ρ h ρ' h' → St M.h₀ ρ' μ' h' → IsV ρ' v a → k a μ' → Q v h') : Ev M t Q h := x.mono fun v h' r => r.el (f v h')
theorem Ev.useR {t : Sem Value} {μ' : Mem} {Q : Value → Heap → Prop} (x : Ev M t (Res M ρ h a μ') h) (f : ∀ v h' ρ', Grow [] ρ h ρ' h' → St M.h₀ ρ' μ' h' → IsV ρ' v a → Q v h') : Ev M t Q h := x.mono fun v h' r => r.el (f v h')
theorem Ev.pe {t : Sem Value} {ρ' h' μ'} {k : KE} (x : Ev M t (Res M ρ' h' a μ') h') (g : Grow [] ρ h ρ' h') (q : k a μ') : Ev M t (PE M ρ h k) h' := x.mono fun _ _ r => (r.trans g).pe q

/-- a new list or tuple, frozen -/
theorem Res.new {o : Obj} {h' : Heap} {a : Addr} {d : PyData} (S : St M.h₀ ρ μ h) (hn : h.get? a = none) (ho : h'.get? a = some o) (hk : ∀ b o, h.get? b = some o → h'.get? b = some o)
    (i : ∀ ρ' : Frz, (∀ b p, ρ.f b = some p → ρ' b = some p) → ρ' a = some o → Is ρ' (.ref a) d) : Res M ρ h (.d d) μ (.ref a) h' :=
  let ⟨s', g⟩ := S.freeze hn ho hk
  ⟨_, g [], s', i _ (g []).rho Mp.put_self⟩

theorem get_push_new (h : Heap) (o : Obj) (hf : o.isFreed = false := by rfl) : (h.push o).get? h.objs.size = some o := Heap.get?_push_size _ hf
theorem kept (h : Heap) (o : Obj) (b : Addr) (p : Obj) (e : h.get? b = some p) : (h.push o).get? b = some p := Heap.get?_push_of_some _ e

theorem Ev.newList {vs : List Value} {ds : List PyData} (S : St M.h₀ ρ μ h) (i : IsAll ρ.f vs ds) (hz : vs.length ≤ sizeLine) : Ev M (newList vs) (Res M ρ h (.d (.list ds)) μ) h := by
  refine Ev.lift fun s hs _ Q' k => ?_
  subst hs
  exact wpAny_newObj_type (k _ _ s.toks (Res.new S (fresh_at (Nat.le_refl _)) (get_push_new _ _) (kept _ _) fun ρ' m e => .list e (i.mono m))) hz
theorem Ev.newTuple {vs : List Value} {ds : List PyData} (S : St M.h₀ ρ μ h) (i : IsAll ρ.f vs ds) (hz : vs.length ≤ sizeLine) : Ev M (newTuple vs) (Res M ρ h (.d (.tuple ds)) μ) h := by
  refine Ev.lift fun s hs _ Q' k => ?_
  subst hs
  exact wpAny_newObj_type (k _ _ s.toks (Res.new S (fresh_at (Nat.le_refl _)) (get_push_new _ _) (kept _ _) fun ρ' m e => .tuple e (i.mono m))) hz

theorem is_int {v : Value} {i : Int} {ρ : Frz} (x : Is ρ v (.int i)) : ∃ t, v = .int i t := by cases x; exact ⟨_, rfl⟩
theorem is_str {v : Value} {s : Str} {ρ : Frz} (x : Is ρ v (.str s)) : ∃ t, v = .str s t := by cases x; exact ⟨_, rfl⟩
theorem is_bool {v : Value} {b : Bool} {ρ : Frz} (x : Is ρ v (.bool b)) : v = .bool b := by cases x; rfl
theorem is_none {v : Value} {ρ : Frz} (x : Is ρ v .none) : v = .none := by cases x; rfl
theorem is_list {v : Value} {xs : List PyData} {ρ : Frz} (x : Is ρ v (.list xs)) : ∃ a vs n, v = .ref a ∧ ρ a = some { cls := .type "list", data := .seq vs n } ∧ IsAll ρ vs.toList xs ∧ vs.size = xs.length := by
  cases x with
  | list e r => exact ⟨_, _, _, rfl, e, r, by rw [← r.length, Array.length_toList]⟩
theorem is_tuple {v : Value} {xs : List PyData} {ρ : Frz} (x : Is ρ v (.tuple xs)) : ∃ a vs n, v = .ref a ∧ ρ a = some { cls := .type "tuple", data := .seq vs n } ∧ IsAll ρ vs.toList xs ∧ vs.size = xs.length := by
  cases x with
  | tuple e r => exact ⟨_, _, _, rfl, e, r, by rw [← r.length, Array.length_toList]⟩
theorem St.lst {k : Nat} {xs : List PyData} (S : St M.h₀ ρ μ h) (i : IsV ρ v (.h k)) (hm : μ[k]? = some (.lst xs)) :
    ∃ l vs n, v = .ref l ∧ ρ.l[k]? = some l ∧ h.get? l = some { cls := .type "list", data := .seq vs n } ∧ IsAll ρ.f vs.toList xs ∧ vs.size = xs.length := by
  obtain ⟨l, hl, rfl⟩ := i
  obtain ⟨n, vs, ho, r⟩ := (S.ob k l _ hl hm).list
  exact ⟨l, vs, n, rfl, hl, ho, r, by rw [← r.length, Array.length_toList]⟩

/-- a list, by value or behind a handle, in the heap -/
def ListAt (ρ : Mp) (h : Heap) (v : Value) (xs : List PyData) : Prop := ∃ l vs n, v = .ref l ∧ h.get? l = some { cls := .type "list", data := .seq vs n } ∧ IsAll ρ.f vs.toList xs ∧ vs.size = xs.length
theorem lstD.at {k} (x : lstD a k) (S : St M.h₀ ρ μ h) (i : IsV ρ v a) : ∃ xs, ListAt ρ h v xs ∧ k xs := by
  obtain ⟨xs, rfl, q⟩ := x.inv
  obtain ⟨l, vs, n, rfl, hl, r, hz⟩ := is_list i
  exact ⟨xs, ⟨l, vs, n, rfl, S.fz _ _ hl, r, hz⟩, q⟩
theorem lstP.at {k} (x : lstP a μ k) (S : St M.h₀ ρ μ h) (i : IsV ρ v a) : ∃ xs, ListAt ρ h v xs ∧ k xs := by
  cases a with
  | d y => exact lstD.at (a := .d y) x S i
  | h j =>
    obtain ⟨xs, hm, q⟩ := x
    obtain ⟨l, vs, n, rfl, _, ho, r, hz⟩ := S.lst i hm
    exact ⟨xs, ⟨l, vs, n, rfl, ho, r, hz⟩, q⟩
theorem valP.at {k} (x : valP a μ k) (S : St M.h₀ ρ μ h) (i : IsV ρ v a) : ∃ d, (∃ as, Reads h v d as) ∧ k d := by
  cases a with
  | d y => exact ⟨y, Is.reads S.fz i, x⟩
  | h j =>
    obtain ⟨xs, hm, q⟩ := x
    obtain ⟨l, vs, n, rfl, _, ho, r, _⟩ := S.lst i hm
    obtain ⟨as, ra⟩ := r.reads S.fz
    exact ⟨.list xs, ⟨_, .list ho rfl rfl ra⟩, q⟩

/-! ### operators -/
def addI (a b : AV) (k : PyData → Prop) : Prop := intP a fun x => intP b fun y => k (.int (x + y))
def subI (a b : AV) (k : PyData → Prop) : Prop := intP a fun x => intP b fun y => k (.int (x - y))
def mulI (a b : AV) (k : PyData → Prop) : Prop := intP a fun x => intP b fun y => x.natAbs < 2 ^ 32 ∧ k (.int (x * y))
def modI (a b : AV) (k : PyData → Prop) : Prop := intP a fun x => intP b fun y => y ≠ 0 ∧ k (.int (x.fmod y))
def shrI (a b : AV) (k : PyData → Prop) : Prop := intP a fun x => intP b fun y => 0 ≤ y ∧ k (.int (x.fdiv (2 ^ y.toNat)))
def addS (a b : AV) (k : PyData → Prop) : Prop := strP a fun x => strP b fun y => x.length + y.length ≤ sizeLine ∧ k (.str (x ++ y))
def addL (a b : AV) (k : PyData → Prop) : Prop := lstD a fun x => lstD b fun y => x.length + y.length ≤ sizeLine ∧ k (.list (x ++ y))

theorem bits_le {a : Int} (ha : a.natAbs < 2 ^ 32) : Builtin.Int.intBits a ≤ 64 := by
  unfold Builtin.Int.intBits
  split
  · omega
  · have : a.natAbs.log2 < 32 := by
      rcases Nat.eq_zero_or_pos a.natAbs with h | h
      · rw [h]; decide
      · exact (Nat.log2_lt (by omega)).mpr ha
    omega

def BinOk (op : Operator) (P : AV → AV → (PyData → Prop) → Prop) : Prop := ∀ {M : Mc} {ρ : Mp} {μ : Mem} {h : Heap} {va vb : Value} {a b : AV} {k : PyData → Prop}, St M.h₀ ρ μ h → IsV ρ va a → IsV ρ vb b → P a b k →
  ∃ d, k d ∧ Ev M (binaryOp op va vb) (Res M ρ h (.d d) μ) h
theorem intP.two {b : AV} {va vb : Value} {k : Int → Int → Prop} {P : Prop} (x : intP a fun x => intP b fun y => k x y) (ia : IsV ρ va a) (ib : IsV ρ vb b) (f : ∀ x y t u, va = .int x t → vb = .int y u → k x y → P) : P := by
  obtain ⟨x, rfl, q⟩ := x.inv
  obtain ⟨y, rfl, q⟩ := q.inv
  obtain ⟨t, rfl⟩ := is_int ia; obtain ⟨u, rfl⟩ := is_int ib
  exact f _ _ _ _ rfl rfl q
theorem Ev.ofInt {t : Sem Value} {z : Int} (S : St M.h₀ ρ μ h) (x : ∀ s : Shared, ∀ Q' : Value → Shared → Prop, Q' (.int z s.toks) { s with toks := s.toks + 1 } → wpAny (model M.prog M.w) M.A t Q' (fun _ _ => False) s) : Ev M t (Res M ρ h (.d (.int z)) μ) h :=
  Ev.lift fun s hs _ Q' k => x s Q' (by subst hs; exact k _ s.heap (s.toks + 1) (.same S (.int z s.toks)))

theorem addI.ok : BinOk .Add addI := fun S ia ib e => intP.two e ia ib fun _ _ _ _ e1 e2 q => ⟨_, q, e1 ▸ e2 ▸ Ev.ofInt S fun _ _ => add_int⟩
theorem subI.ok : BinOk .Sub subI := fun S ia ib e => intP.two e ia ib fun _ _ _ _ e1 e2 q => ⟨_, q, e1 ▸ e2 ▸ Ev.ofInt S fun _ _ => sub_int⟩
theorem mulI.ok : BinOk .Mult mulI := fun S ia ib e => intP.two e ia ib fun _ _ _ _ e1 e2 q => ⟨_, q.2, e1 ▸ e2 ▸ Ev.ofInt S fun _ _ k => mul_int k (IntMulOk.of_left (bits_le q.1))⟩
theorem modI.ok : BinOk .Mod modI := fun S ia ib e => intP.two e ia ib fun _ _ _ _ e1 e2 q => ⟨_, q.2, e1 ▸ e2 ▸ Ev.ofInt S fun _ _ k => mod_int q.1 k⟩
theorem shrI.ok : BinOk .RShift shrI := fun S ia ib e => intP.two e ia ib fun _ _ _ _ e1 e2 q => ⟨_, q.2, e1 ▸ e2 ▸ Ev.ofInt S fun _ _ k => rshift_int q.1 k⟩
theorem addS.ok : BinOk .Add addS := by
  intro M ρ μ h va vb a b k S ia ib e
  obtain ⟨x, rfl, q⟩ := e.inv
  obtain ⟨y, rfl, hz, q⟩ := q.inv
  obtain ⟨t, rfl⟩ := is_str ia; obtain ⟨u, rfl⟩ := is_str ib
  exact ⟨_, q, Ev.lift fun s hs _ Q' k => PyProof.Rows.add_str (fun t' tk => by subst hs; exact k _ s.heap tk (.same S (.str _ t'))) hz⟩
theorem addL.ok : BinOk .Add addL := by
  intro M ρ μ h va vb a b k S ia ib e
  obtain ⟨x, rfl, q⟩ := e.inv
  obtain ⟨y, rfl, hz, q⟩ := q.inv
  obtain ⟨la, xs, n, rfl, ha, ra, za⟩ := is_list ia
  obtain ⟨lb, ys, m, rfl, hb, rb, zb⟩ := is_list ib
  refine ⟨_, q, Ev.lift fun s hs _ Q' k => ?_⟩
  subst hs
  refine P.add_list (S.fz _ _ ha) (S.fz _ _ hb) (k _ _ s.toks (Res.new S (fresh_at (Nat.le_refl _)) (get_push_new _ _) (kept _ _) fun ρ' m e => .list e ?_)) (by rw [za, zb]; exact hz)
  rw [Array.toList_append]; exact (ra.append rb).mono m
end

/-! ### comparisons -/
def intOf : PyData → Option Int
  | .int a => some a
  | _ => none
def strOf : PyData → Option Str
  | .str a => some a
  | _ => none
theorem intOf_inv {x : PyData} {a : Int} (h : intOf x = some a) : x = .int a := by cases x <;> first | (cases h; rfl) | cases h
theorem strOf_inv {x : PyData} {a : Str} (h : strOf x = some a) : x = .str a := by cases x <;> first | (cases h; rfl) | cases h
def ltStr (a b : Str) : Bool := decide (a.cps.toList < b.cps.toList)
/-- two items of tuples: alike, or the one is less -/
def eltLt (x y : PyData) : Option (Option Bool) := match intOf x, intOf y with
  | some a, some b => some (if a = b then none else some (decide (a < b)))
  | _, _ => match strOf x, strOf y with
    | some a, some b => some (if a = b then none else some (ltStr a b))
    | _, _ => none
def tupLt : List PyData → List PyData → Option Bool
  | [], [] => some false
  | [], _ :: _ => some true
  | _ :: _, [] => some false
  | x :: xs, y :: ys => match eltLt x y with
    | some (some b) => some b
    | some none => tupLt xs ys
    | none => none

section
variable {prog : Program} {w : World} {A : Around} {s : Shared} {ρ : Frz} {v u : Value} {x y : PyData} {o : Option Bool}
theorem elt_inv (h : eltLt x y = some o) : (∃ a b, x = .int a ∧ y = .int b ∧ o = if a = b then none else some (decide (a < b))) ∨ ∃ a b, x = .str a ∧ y = .str b ∧ o = if a = b then none else some (ltStr a b) := by
  unfold eltLt at h
  split at h
  · next h1 h2 => exact .inl ⟨_, _, intOf_inv h1, intOf_inv h2, (Option.some.inj h).symm⟩
  · split at h
    · next h1 h2 => exact .inr ⟨_, _, strOf_inv h1, strOf_inv h2, (Option.some.inj h).symm⟩
    · cases h
theorem elt_eq {Q : Bool → Shared → Prop} {E : Value → Shared → Prop} (i : Is ρ v x) (j : Is ρ u y) (h : eltLt x y = some o) (q : Q o.isNone s) : wpAny (model prog w) A (eqBool v u) Q E s := by
  rcases elt_inv h with ⟨a, b, rfl, rfl, rfl⟩ | ⟨a, b, rfl, rfl, rfl⟩
  · obtain ⟨t, rfl⟩ := is_int i; obtain ⟨z, rfl⟩ := is_int j
    refine SeqAt.EqAt.int_int a t b z _ _ _ _ ?_
    by_cases hab : a = b
    · rw [if_pos hab] at q; rw [hab, beq_self_eq_true]; exact q
    · rw [if_neg hab] at q; rw [beq_eq_false_iff_ne.mpr hab]; exact q
  · obtain ⟨t, rfl⟩ := is_str i; obtain ⟨z, rfl⟩ := is_str j
    refine SeqAt.EqAt.str_str a t b z _ _ _ _ ?_
    by_cases hab : a = b
    · rw [if_pos hab] at q; rw [hab, beq_self_eq_true]; exact q
    · rw [if_neg hab] at q; rw [beq_eq_false_iff_ne.mpr hab]; exact q
theorem elt_lt {b : Bool} {Q : Value → Shared → Prop} {E : Value → Shared → Prop} (i : Is ρ v x) (j : Is ρ u y) (h : eltLt x y = some (some b)) (q : Q (.bool b) s) : wpAny (model prog w) A (richCompare .Lt v u) Q E s := by
  rcases elt_inv h with ⟨a, c, rfl, rfl, e⟩ | ⟨a, c, rfl, rfl, e⟩
  · obtain ⟨t, rfl⟩ := is_int i; obtain ⟨z, rfl⟩ := is_int j
    split at e
    · cases e
    · cases e; exact lt_int q
  · obtain ⟨t, rfl⟩ := is_str i; obtain ⟨z, rfl⟩ := is_str j
    split at e
    · cases e
    · cases e; exact PyProof.Rows.lt_str q

/-- what is left of two tuples -/
def TR (ρ : Frz) (n m : Nat) (r : Bool) (rest : List (Value × Value)) : Prop := ∃ us ts xs ys, rest = us.zip ts ∧ IsAll ρ us xs ∧ IsAll ρ ts ys ∧ tupLt xs ys = some r ∧ (n < m ↔ us.length < ts.length)
theorem TR.nil {n m : Nat} {r : Bool} (h : TR ρ n m r []) : decide (n < m) = r := by
  obtain ⟨us, ts, xs, ys, hz, iu, it, hlt, hl⟩ := h
  rw [decide_eq_decide.mpr hl]
  cases iu with
  | nil => cases it with
    | nil => exact Option.some.inj hlt
    | cons _ _ => exact (decide_eq_true (Nat.succ_pos _)).trans (Option.some.inj hlt)
  | cons _ _ => cases it with
    | nil => exact Option.some.inj hlt
    | cons _ _ => cases hz
theorem TR.cons {n m : Nat} {r : Bool} {p : Value × Value} {rest : List (Value × Value)} (h : TR ρ n m r (p :: rest)) : ∃ d e o, Is ρ p.1 d ∧ Is ρ p.2 e ∧ eltLt d e = some o ∧ (o = none → TR ρ n m r rest) ∧ ∀ b, o = some b → b = r := by
  obtain ⟨us, ts, xs, ys, hz, iu, it, hlt, hl⟩ := h
  cases iu with
  | nil => cases hz
  | cons i1 i2 => cases it with
    | nil => cases hz
    | cons j1 j2 =>
      cases hz
      rename_i d ds e es
      unfold tupLt at hlt
      split at hlt
      · next b he => exact ⟨_, _, _, i1, j1, he, (fun e => by cases e), fun b e => by cases e; exact Option.some.inj hlt⟩
      · next he => exact ⟨_, _, _, i1, j1, he, fun _ => ⟨_, _, _, _, rfl, i2, j2, hlt, hl.trans Nat.succ_lt_succ_iff⟩, fun b e => by cases e⟩
      · cases hlt
end

theorem tuple_lt (l m : Addr) {ρ : Frz} (vs ws : Array Value) (n k : Nat) (r : Bool) (T : TR ρ vs.size ws.size r (vs.toList.zip ws.toList)) :
    Meets (Builtin.«tuple.__lt__» ⟨[.ref l, .ref m], []⟩)
      (fun A R s => s.heap.get? l = some { cls := .type "tuple", data := .seq vs n } ∧ s.heap.get? m = some { cls := .type "tuple", data := .seq ws k } ∧ R (.ok (.ret (.bool r))) s) :=
  .of_wp fun prog w A R s h => by
    obtain ⟨hp, g, d, tk, os⟩ := s; obtain ⟨hl, hb, h⟩ := h
    have f2 := AutoSeq1.sub_tuple_tuple
    wp_walk using wpAny_loadPart' hl, wpAny_loadPart' hb, wpAny_forIn_list _ (fun rest b s' => b.1 = none ∧ s' = ⟨hp, g, d, tk, os⟩ ∧ TR ρ vs.size ws.size r rest) _
    case turn =>
      rintro p rest b s' ⟨hb', rfl, T⟩
      obtain ⟨x, y, o, i, j, he, h1, h2⟩ := T.cons
      refine wpAny_bind (elt_eq i j he ?_)
      cases o with
      | none => exact wpAny_pure ⟨rfl, rfl, h1 rfl⟩
      | some b =>
        cases h2 b rfl
        exact wpAny_bind (wpAny_rule (wpAny_bind (elt_lt i j he (wpAny_bind (wpAny_pure (wpAny_pure (wpAny_pure ⟨_, rfl, h⟩)))))))
    case fin =>
      rintro ⟨b1, b2⟩ s' ⟨hb', rfl, T⟩
      cases hb'
      exact wpAny_pure ⟨_, rfl, by rw [show Builtin.Tuple.tupleCompareSizes CmpOp.Lt vs.size ws.size = .bool (decide (vs.size < ws.size)) from rfl, T.nil]; exact h⟩
    case h =>
      exact ⟨rfl, rfl, T⟩
end Mine
end
section
namespace Mine

def okEq (x y : PyData) : Bool := x.canLay0 && y.canLay0 && decide (x.depth ≤ 64)
theorem okEq.inv {x y : PyData} (h : okEq x y = true) : x.canLay0 = true ∧ y.canLay0 = true ∧ x.depth ≤ 64 := by
  unfold okEq at h
  rw [Bool.and_eq_true, Bool.and_eq_true, decide_eq_true_eq] at h
  exact ⟨h.1.1, h.1.2, h.2⟩

def ltI (a b : AV) (_ : Mem) (k : Bool → Prop) : Prop := intP a fun x => intP b fun y => k (decide (x < y))
def gtI (a b : AV) (_ : Mem) (k : Bool → Prop) : Prop := intP a fun x => intP b fun y => k (decide (y < x))
def geI (a b : AV) (_ : Mem) (k : Bool → Prop) : Prop := intP a fun x => intP b fun y => k (decide (y ≤ x))
def ltT (a b : AV) (_ : Mem) (k : Bool → Prop) : Prop := tupP a fun x => tupP b fun y => ∃ r, tupLt x y = some r ∧ k r
def niSet (a b : AV) (μ : Mem) (k : Bool → Prop) : Prop := intP a fun i => setP b μ fun _ xs => xs.length < 4000 ∧ k (!xs.contains i)
def niStr (a b : AV) (_ : Mem) (k : Bool → Prop) : Prop := strP a fun y => strP b fun x => k (Builtin.Str.occurrences x y 0 x.length 1).isEmpty
def niL (a b : AV) (_ : Mem) (k : Bool → Prop) : Prop := datP a fun x => lstD b fun ys => okEq (.list ys) x = true ∧ x.depth ≤ 64 ∧ k (!(ys.any fun y => PyData.eqv y x))
def eqV (a b : AV) (μ : Mem) (k : Bool → Prop) : Prop := valP a μ fun x => valP b μ fun y => okEq x y = true ∧ k (PyData.eqv x y)
def neV (a b : AV) (μ : Mem) (k : Bool → Prop) : Prop := valP a μ fun x => valP b μ fun y => okEq x y = true ∧ k (!PyData.eqv x y)

def CmpOk (op : CmpOp) (P : AV → AV → Mem → (Bool → Prop) → Prop) : Prop := ∀ {M : Mc} {ρ : Mp} {μ : Mem} {h : Heap} {va vb : Value} {a b : AV} {k : Bool → Prop}, M.A.units + 65 < cLine → St M.h₀ ρ μ h → IsV ρ va a → IsV ρ vb b → P a b μ k →
  ∃ r, k r ∧ Ev M (compareOp op va vb) (Res M ρ h (.d (.bool r)) μ) h

section
variable {M : Mc} {ρ : Mp} {μ : Mem} {h : Heap}
theorem Ev.ofBool {t : Sem Value} {b : Bool} (S : St M.h₀ ρ μ h)
    (x : ∀ s : Shared, s.heap = h → ∀ Q' : Value → Shared → Prop, (∀ tk, Q' (.bool b) { s with toks := tk }) → wpAny (model M.prog M.w) M.A t Q' (fun _ _ => False) s) : Ev M t (Res M ρ h (.d (.bool b)) μ) h :=
  Ev.lift fun s hs _ Q' k => x s hs Q' fun tk => by subst hs; exact k _ s.heap tk (.same S (.bool b))

theorem ltI.ok : CmpOk .Lt ltI := fun _ S ia ib e => intP.two e ia ib fun _ _ _ _ e1 e2 q => ⟨_, q, e1 ▸ e2 ▸ Ev.ofBool S fun s _ Q' k => lt_int (k s.toks)⟩
theorem gtI.ok : CmpOk .Gt gtI := fun _ S ia ib e => intP.two e ia ib fun _ _ _ _ e1 e2 q => ⟨_, q, e1 ▸ e2 ▸ Ev.ofBool S fun s _ Q' k => gt_int (k s.toks)⟩
theorem geI.ok : CmpOk .GtE geI := fun _ S ia ib e => intP.two e ia ib fun _ _ _ _ e1 e2 q => ⟨_, q, e1 ▸ e2 ▸ Ev.ofBool S fun s _ Q' k => ge_int (k s.toks)⟩

theorem slot_tuple_lt_call {A : Around} {prog : Program} {w : World} {l m : Addr} {ρ : Frz} {vs ws : Array Value} {n k : Nat} {r : Bool} {s : Shared} {E : Value → Shared → Prop} {Q : Value → Shared → Prop} (hu : A.units < cLine)
    (hl : s.heap.get? l = some { cls := .type "tuple", data := .seq vs n }) (hm : s.heap.get? m = some { cls := .type "tuple", data := .seq ws k }) (T : TR ρ vs.size ws.size r (vs.toList.zip ws.toList))
    (h : Q (.bool r) s) : wpAny (model prog w) A (compareOp .Lt (.ref l) (.ref m)) Q E s :=
  richCompare_meets_room (op := .Lt) ⟨_, hl, rfl⟩ ⟨_, hm, rfl⟩ F.slot_tuple_lt F.entry_tuple_lt (F.args_tuple_lt_2 _ _) (tuple_lt l m vs ws n k r T)
    ⟨hl, hm, show Value.bool r ≠ Value.notImplemented ∧ Q (.bool r) s from ⟨(fun x => nomatch x), h⟩⟩ hu

theorem ltT.ok : CmpOk .Lt ltT := by
  intro M ρ μ h va vb a b k hu S ia ib e
  obtain ⟨x, rfl, q⟩ := e.inv
  obtain ⟨y, rfl, r, hr, q⟩ := q.inv
  obtain ⟨la, vs, n, rfl, ha, ra, za⟩ := is_tuple ia
  obtain ⟨lb, ws, m, rfl, hb, rb, zb⟩ := is_tuple ib
  exact ⟨r, q, Ev.ofBool S fun s hs Q' k => slot_tuple_lt_call (by omega) (hs ▸ S.fz _ _ ha) (hs ▸ S.fz _ _ hb) ⟨_, _, _, _, rfl, ra, rb, hr, by rw [Array.length_toList, Array.length_toList]⟩ (k s.toks)⟩

theorem niSet.ok : CmpOk .NotIn niSet := by
  intro M ρ μ h va vb a b k hu S ia ib e
  obtain ⟨i, rfl, q⟩ := e.inv
  obtain ⟨j, rfl, xs, hm, hlen, q⟩ := q.inv
  obtain ⟨t, rfl⟩ := is_int ia
  obtain ⟨l, hl, rfl⟩ := ib
  obtain ⟨p', w', hS⟩ := (S.ob j l _ hl hm).setIs
  exact ⟨_, q, Ev.ofBool S fun s hs Q' k => wpAny_notInSet_of (knd := intKind M.prog M.w) (k := i) (show Value.isInt i (.int i t) = true from beq_self_eq_true i) rfl (hs ▸ hS) (k _)⟩

theorem niStr.ok : CmpOk .NotIn niStr := by
  intro M ρ μ h va vb a b k hu S ia ib e
  obtain ⟨x, rfl, q⟩ := e.inv
  obtain ⟨y, rfl, q⟩ := q.inv
  obtain ⟨t, rfl⟩ := is_str ia; obtain ⟨u, rfl⟩ := is_str ib
  exact ⟨_, q, Ev.ofBool S fun s _ Q' k => PyProof.Rows.notIn_str (by rw [Bool.not_not]; exact k s.toks)⟩

theorem niL.ok : CmpOk .NotIn niL := by
  intro M ρ μ h va vb a b k hu S ia ib e
  obtain ⟨x, rfl, q⟩ := e.inv
  obtain ⟨ys, rfl, hc, hd, q⟩ := q.inv
  obtain ⟨as, ra⟩ := Is.reads S.fz ia
  obtain ⟨bs, rb⟩ := Is.reads S.fz ib
  have hc := okEq.inv hc
  refine ⟨_, q, Ev.ofBool S fun s hs Q' k => SeqAt.notIn_list_reads (hs ▸ rb) (hs ▸ ra) hc.1 hc.2.1 ?_ (k s.toks)⟩
  have := Nat.min_le_right (PyData.depthAll ys) x.depth
  omega

theorem min_le64 {a b c : Nat} (h : a ≤ 64) (hu : c + 65 < cLine) : c + min a b < cLine := by
  have := Nat.min_le_left a b; omega

theorem eqV.ok : CmpOk .Eq eqV := by
  intro M ρ μ h va vb a b k hu S ia ib e
  obtain ⟨x, ⟨as, ra⟩, q⟩ := valP.at e S ia
  obtain ⟨y, ⟨bs, rb⟩, hc, q⟩ := valP.at q S ib
  have hc := okEq.inv hc
  exact ⟨_, q, Ev.ofBool S fun s hs Q' k => SeqAt.compareEq_reads (hs ▸ ra) (hs ▸ rb) hc.1 hc.2.1 (min_le64 hc.2.2 hu) (k s.toks)⟩
theorem neV.ok : CmpOk .NotEq neV := by
  intro M ρ μ h va vb a b k hu S ia ib e
  obtain ⟨x, ⟨as, ra⟩, q⟩ := valP.at e S ia
  obtain ⟨y, ⟨bs, rb⟩, hc, q⟩ := valP.at q S ib
  have hc := okEq.inv hc
  exact ⟨_, q, Ev.ofBool S fun s hs Q' k => SeqAt.compareNe_reads (hs ▸ ra) (hs ▸ rb) hc.1 hc.2.1 (min_le64 hc.2.2 hu) (k s.toks)⟩

/-! ### truth -/
def trB (a : AV) (_ : Mem) (k : Bool → Prop) : Prop := boolP a k
def trS (a : AV) (_ : Mem) (k : Bool → Prop) : Prop := strP a fun s => s.length < 2 ^ 31 ∧ k (s.length != 0)
def trL (a : AV) (μ : Mem) (k : Bool → Prop) : Prop := mutP a μ fun _ xs => xs.length < 2 ^ 31 ∧ k (xs.length != 0)
def TruOk (P : AV → Mem → (Bool → Prop) → Prop) : Prop := ∀ {M : Mc} {ρ : Mp} {μ : Mem} {h : Heap} {v : Value} {a : AV} {k : Bool → Prop}, St M.h₀ ρ μ h → IsV ρ v a → P a μ k → Ev M (truthy v) (fun b h' => k b ∧ h' = h) h
theorem trB.ok : TruOk trB := by
  intro M ρ μ h v a k S i e
  obtain ⟨b, rfl, q⟩ := e.inv
  rw [is_bool i]; exact Ev.lift fun s hs _ Q' k => wpAny_truthy_bool (by subst hs; exact k _ s.heap s.toks ⟨q, rfl⟩)
theorem int_ne0 (n : Nat) : ((n : Int) != 0) = (n != 0) := by
  cases n with
  | zero => rfl
  | succ n => rfl
theorem trS.ok : TruOk trS := by
  intro M ρ μ h v a k S i e
  obtain ⟨x, rfl, hl, q⟩ := e.inv
  obtain ⟨t, rfl⟩ := is_str i
  refine Ev.lift fun s hs _ Q' k => P.truthy_str (by omega) ?_
  subst hs
  exact k _ s.heap _ ⟨by rw [int_ne0]; exact q, rfl⟩
theorem trL.ok : TruOk trL := by
  intro M ρ μ h v a k S i e
  obtain ⟨j, rfl, xs, hm, hz, q⟩ := e.inv
  obtain ⟨l, vs, n, rfl, _, ho, _, hs⟩ := S.lst i hm
  refine Ev.lift fun s hs' _ Q' k => wpAny_truthy_list (items := vs) (hs' ▸ ⟨_, ho, rfl, n, rfl⟩) (by omega) ?_
  subst hs'
  refine k _ s.heap _ ⟨?_, rfl⟩
  rw [← hs] at q
  exact q
end
end Mine
end
section
namespace Mine

def idxOf (i : Int) (n : Nat) : Option Nat :=
  if n < 2 ^ 31 then (if 0 ≤ i then (if i < n then some i.toNat else none) else (if -(n : Int) ≤ i then some (i + n).toNat else none)) else none
def pickL {α : Type} (xs : List α) (lo hi st : Option Int) : List α :=
  (sliceRange (sliceBounds lo hi st xs.length).1 (sliceBounds lo hi st xs.length).2.1 (sliceBounds lo hi st xs.length).2.2).filterMap (xs[·]?)
def cutS (x : Str) (lo hi : Option Int) : Str := ⟨((Builtin.Str.strSliceIndices lo hi 1 x.length).filterMap (x.cps[·]?)).toArray⟩

section
variable {M : Mc} {ρ : Mp} {μ : Mem} {h : Heap}

theorem subscripted_ops (slice : Expr) (o i : Value) : ∃ ops, subscripted slice false o i = operate ops (getItem o i) := by
  cases slice with
  | Slice lo hi st p => cases st <;> exact ⟨_, rfl⟩
  | _ => exact ⟨_, rfl⟩

theorem evTail {value slice : Expr} {o i : Value} {T id : String} {Q : Value → Heap → Prop} (hT : ∀ s : Shared, s.heap = h → s.TypeIs o T) (hl : typeLookup (.type T) "__getitem__" = pure (some (.builtin id)))
    (x : Ev M (getItem o i) Q h) : Ev M (subscriptTail value slice o i) Q h := by
  obtain ⟨ops, e⟩ := subscripted_ops slice o i
  exact fun s hs ht => tail_any (hT s hs) hl (x s hs ht) e

theorem Ev.Subscript {value slice : Expr} {pos : Pos} {env : Env} {Q : Value → Heap → Prop} (x : Ev M (eval value env) (fun o h₁ => Ev M (eval slice env) (fun i h₂ => Ev M (subscriptTail value slice o i) Q h₂) h₁) h) :
    Ev M (eval (.Subscript value slice pos) env) Q h := by
  rw [eval_Subscript]
  exact Ev.bind (x.mono fun o h₁ x₁ => Ev.bind (Ev.holding (x₁.mono fun i h₂ x₂ => Ev.bind (Ev.standAt x₂))))

theorem idx_facts {k : Int} {n j : Nat} (e : idxOf k n = some j) : seqIndex? k n = some j ∧ Builtin.List.listFitsIndex k = true ∧ j < n := by
  unfold idxOf at e
  split at e
  · next hc =>
    split at e
    · next h0 =>
      split at e
      · next hn => cases e; exact ⟨seqIndex_of h0 hn, fitsIndex_of h0 (by omega), by omega⟩
      · cases e
    · next h0 =>
      split at e
      · next hn => cases e; exact ⟨seqIndex_neg (by omega) hn, fitsIndex_neg (by omega) (by omega), by omega⟩
      · cases e
  · cases e


theorem idx_nat {k : Int} {n j : Nat} (e : idxOf k n = some j) : (0 ≤ k ∧ k < 2 ^ 63 ∧ k.toNat = j) ∨ (k < 0 ∧ -(n : Int) ≤ k ∧ j = (k + n).toNat ∧ n < 2 ^ 31) := by
  unfold idxOf at e
  split at e
  · split at e
    · split at e
      · cases e; exact .inl ⟨by assumption, by omega, rfl⟩
      · cases e
    · split at e
      · cases e; exact .inr ⟨by omega, by assumption, rfl, by assumption⟩
      · cases e
  · cases e

theorem Ev.getIdx {v : Value} {xs : List PyData} {k : Int} {t : Tok} {x : PyData} {j : Nat} (S : St M.h₀ ρ μ h) (L : ListAt ρ h v xs)
    (e1 : idxOf k xs.length = some j) (e2 : xs[j]? = some x) : Ev M (getItem v (.int k t)) (Res M ρ h (.d x) μ) h := by
  obtain ⟨l, vs, n, rfl, hl, r, hz⟩ := L
  obtain ⟨v, hv, iv⟩ := r.get e2
  refine Ev.lift fun s hs _ Q' kk => ?_
  subst hs
  have hL : s.heap.IsList l vs := ⟨_, hl, rfl, n, rfl⟩
  have fin := kk v s.heap s.toks (.same S iv)
  rw [Array.getElem?_toList] at hv
  rcases idx_nat e1 with ⟨h0, h1, rfl⟩ | ⟨h0, h1, rfl, h2⟩
  · exact wpAny_getItem_list hL h0 h1 hv fin
  · rw [← hz] at h1 h2 hv
    exact wpAny_getItem_list_neg hL (by omega) h1 (by omega) hv fin

theorem All2.pick {P : Value → PyData → Prop} {vs : List Value} {xs : List PyData} (r : All2 P vs xs) (is : List Nat) : All2 P (is.filterMap (vs[·]?)) (is.filterMap (xs[·]?)) := by
  induction is with
  | nil => exact .nil
  | cons i is ih =>
    rw [List.filterMap_cons, List.filterMap_cons]
    cases hx : xs[i]? with
    | none =>
      rw [List.getElem?_eq_none (by rw [r.length]; exact List.getElem?_eq_none_iff.mp hx)]; exact ih
    | some d =>
      obtain ⟨v, hv, iv⟩ := r.get hx
      rw [hv]; exact .cons iv ih

theorem Ev.getSlice {v : Value} {sl : Addr} {xs : List PyData} {vl vu vt : Value} {lo hi st : Option Int} (S : St M.h₀ ρ μ h) (L : ListAt ρ h v xs)
    (hs : h.IsSliceOf sl vl vu vt) (pl : IsPart vl lo) (pu : IsPart vu hi) (pt : IsPart vt st) (h0 : st ≠ some 0) (hz : xs.length ≤ sizeLine) :
    Ev M (getItem v (.ref sl)) (Res M ρ h (.d (.list (pickL xs lo hi st))) μ) h := by
  obtain ⟨l, vs, n, rfl, hl, r, hz'⟩ := L
  refine Ev.lift fun s hs' _ Q' kk => ?_
  subst hs'
  refine wpAny_getItem_list_slice (items := vs) ⟨_, hl, rfl, n, rfl⟩ hs pl pu pt h0 (kk _ _ s.toks (Res.new S (fresh_at (Nat.le_refl _)) (get_push_new _ _) (kept _ _) fun ρ' m e => .list e ?_)) (by rw [hz']; exact hz)
  unfold slicePick pickL
  rw [hz']
  have := (r.mono m).pick (sliceRange (sliceBounds lo hi st xs.length).1 (sliceBounds lo hi st xs.length).2.1 (sliceBounds lo hi st xs.length).2.2)
  simpa using this

theorem part_shape {v : Value} {k : Option Int} (p : IsPart v k) : ∃ q : Option (Int × Tok), v = partValue q ∧ q.map (·.1) = k := by
  cases p with
  | none => exact ⟨none, rfl, rfl⟩
  | int i t => exact ⟨some (i, t), rfl, rfl⟩

theorem sliceIdx_eq (lo hi : Option Int) (n : Nat) : Builtin.Str.strSliceIndices lo hi 1 n = (List.range (hi.elim n (clipAt n) - lo.elim 0 (clipAt n))).map (lo.elim 0 (clipAt n) + ·) := by
  have : Builtin.Str.strSliceIndices lo hi 1 n = sliceRange (sliceBounds lo hi none n).1 (sliceBounds lo hi none n).2.1 (sliceBounds lo hi none n).2.2 := rfl
  rw [this, sliceBounds_plain]
  exact sliceRange_one _ _
theorem cutS_eq (x : Str) (lo hi : Option Int) :
    cutS x lo hi = ⟨((x.cps.toList.drop (lo.elim 0 (clipAt x.length))).take (hi.elim x.length (clipAt x.length) - lo.elim 0 (clipAt x.length))).toArray⟩ := by
  unfold cutS
  rw [sliceIdx_eq, pick_run]
theorem clipAt_le (n : Nat) (i : Int) : clipAt n i ≤ n := by
  have := clipAt_cast n i
  omega

theorem cut_all {α : Type} {l : List α} {a b : Nat} (hb : b ≤ l.length) (h : b - a = l.length) : (l.drop a).take (b - a) = l := by
  rw [h]
  rcases Nat.eq_zero_or_pos a with rfl | ha
  · exact List.take_of_length_le (Nat.le_refl _)
  · have : l = [] := List.eq_nil_of_length_eq_zero (by omega)
    subst this; rw [List.drop_nil, List.take_nil]
theorem hi_le (x : Str) (hi : Option Int) : hi.elim x.length (clipAt x.length) ≤ x.cps.toList.length := by
  cases hi with
  | none => exact Nat.le_refl _
  | some q => exact clipAt_le _ _
theorem cutS_all {x : Str} {lo hi : Option Int} (h : (Builtin.Str.strSliceIndices lo hi 1 x.length).length = x.length) : cutS x lo hi = x := by
  rw [sliceIdx_eq, List.length_map, List.length_range] at h
  rw [cutS_eq, cut_all (hi_le x hi) h]
theorem cutS_len (x : Str) (lo hi : Option Int) : (cutS x lo hi).length ≤ x.length := by
  rw [cutS_eq]
  show (List.toArray _).size ≤ x.cps.toList.length
  rw [List.size_toArray, List.length_take, List.length_drop]
  exact Nat.le_trans (Nat.min_le_right _ _) (Nat.sub_le _ _)

theorem Ev.getSliceS {sl : Addr} {x : Str} {t : Tok} {vl vu : Value} {lo hi : Option Int} (S : St M.h₀ ρ μ h) (hs : h.IsSliceOf sl vl vu .none) (pl : IsPart vl lo) (pu : IsPart vu hi) (hz : x.length ≤ sizeLine) :
    Ev M (getItem (.str x t) (.ref sl)) (Res M ρ h (.d (.str (cutS x lo hi))) μ) h := by
  obtain ⟨ql, rfl, rfl⟩ := part_shape pl
  obtain ⟨qu, rfl, rfl⟩ := part_shape pu
  refine Ev.lift fun s hs' _ Q' kk => ?_
  subst hs'
  refine wpAny_getItem_str_slice (l := ql) (u := qu) (st := none) hs rfl ?_
  unfold sliceMade
  split
  · next hc =>
    rw [Bool.and_eq_true, beq_iff_eq, beq_iff_eq] at hc
    have := kk (.str x t) s.heap s.toks
    rw [cutS_all hc.2] at this
    exact this (.same S (.str x t))
  · exact ⟨Nat.le_trans (cutS_len _ _ _) hz, kk _ s.heap _ (.same S (.str _ _))⟩
end
end Mine
end
section
namespace Mine

/-! ### roads: what must hold ahead so that an end holds behind -/
/-- the names' values, by their numbers -/
abbrev Lo := List (Option AV)
abbrev WE := Cx → Lo → Mem → KE → Prop
abbrev WT := Cx → Lo → Mem → (Bool → Mem → Prop) → Prop

def sto : List Str → Lo → Sto
  | x :: ns, a :: σ, y => if y = x then a else sto ns σ y
  | _, _, _ => none

def CallSound (prog : Program) (w : World) (h₀ : Heap) (K : Nat) (fa : Addr) (F : List AV → Mem → KE → Prop) : Prop :=
  ∀ M : Mc, M.prog = prog → M.w = w → M.h₀ = h₀ → OkA K M.A → ∀ as vs ρ μ h k, F as μ k → St h₀ ρ μ h → IsVs ρ vs as → Ev M (call (.ref fa) vs) (PE M ρ h k) h

structure Gl (prog : Program) (w : World) (h₀ : Heap) (c : Cx) (K : Nat) (mg mb : Str → Option Value) : Prop where
  g : h₀.Ns mainGlobals mg
  b : h₀.Ns builtinsNs mb
  lim : h₀.NoLimit
  fns : ∀ f F, c.fns f = some F → ∃ fa o fd, mg f = some (.ref fa) ∧ h₀.get? fa = some o ∧ o.data = .func fd ∧ CallSound prog w h₀ K fa F
  cst : ∀ x d, c.cst x = some d → ∃ v, mg x = some v ∧ ∀ ρ, Is ρ v d
  len : mg "len" = none ∧ mb "len" = some (.builtin "len")
  sum : mg "sum" = none ∧ mb "sum" = some (.builtin "sum")
  sorted : mg "sorted" = none ∧ mb "sorted" = some (.builtin "sorted")
  set : mg "set" = none ∧ mb "set" = some (.type "set")
  range : mg "range" = none ∧ mb "range" = some (.type "range")
  bmod : ∃ bm ob, mg "__builtins__" = some (.ref bm) ∧ h₀.get? bm = some ob ∧ ob.cls = .type "module" ∧ ob.dict = some builtinsNs ∧ ob.data = .plain

/-- a place in a block of code -/
structure Wk (ns : List Str) (sc : Scope) (M : Mc) : Prop where
  hA : OkA M.K M.A
  G : Gl M.prog M.w M.h₀ M.c M.K M.mg M.mb
  C : M.c.lam = true → OkA 16 M.A ∧ CodeHd M.h₀ lamCode lamTab
  sc : M.env.scope = sc
  nd : ns.Nodup
  db : ∀ x ∈ ns, (x == ("__debug__" : Str)) = false
theorem Wk.hh {ns sc M} (X : Wk ns sc M) : M.A.handled = none := X.hA.1
theorem Wk.units {ns sc M} (X : Wk ns sc M) : M.A.units + 65 < cLine := by have := X.hA.2.2; omega

structure SndE (ns : List Str) (sc : Scope) (e : Expr) (W : WE) : Prop where
  st : ∀ es env, starEach (e :: es) env = (false, eval e env) :: starEach es env
  go : ∀ {M : Mc} {ρ : Mp} {σ : Lo} {μ : Mem} {h : Heap} {k : KE}, Wk ns sc M → St M.h₀ ρ μ h → FrS ρ M.env (sto ns σ) h → W M.c σ μ k → Ev M (eval e M.env) (PE M ρ h k) h
abbrev SndL (ns : List Str) (sc : Scope) := All2 (SndE ns sc)

def wArgs : List WE → Cx → Lo → Mem → (List AV → Mem → Prop) → Prop
  | [], _, _, μ, k => k [] μ
  | W :: Ws, c, σ, μ, k => W c σ μ fun a μ => wArgs Ws c σ μ fun as μ => k (a :: as) μ

section
variable {M : Mc} {ρ : Mp} {μ : Mem} {h : Heap} {ns : List Str} {sc : Scope} {σ : Lo} {env : Env}

def trees (args : List Expr) (env : Env) : List (Bool × Sem Value) := args.map fun e => (false, eval e env)

theorem SndL.star {es Ws} (H : SndL ns sc es Ws) (env : Env) : starEach es env = trees es env := by
  induction H with
  | nil => rfl
  | cons a _ ih => rw [a.st, ih]; rfl
theorem backTo_trees (pos : Pos) (args : List Expr) (env : Env) : backTo pos (trees args env) = trees args env := by
  unfold backTo trees
  rw [List.map_map]
  rfl
theorem trees_plain (args : List Expr) (env : Env) : (trees args env).any (·.1) = false := by
  unfold trees
  rw [List.any_map]
  exact List.any_eq_false.mpr fun _ _ e => by cases e
theorem trees_all (args : List Expr) (env : Env) : (trees args env).all (fun x => !x.1) = true := by
  unfold trees
  rw [List.all_map]
  exact List.all_eq_true.mpr fun _ _ => rfl

theorem Ev.spliced {es : List Expr} {Ws : List WE} (H : SndL ns sc es Ws) (X : Wk ns sc M) : ∀ {ρ : Mp} {μ : Mem} {h : Heap} {k : List AV → Mem → Prop} {Q : List Value → Heap → Prop}, St M.h₀ ρ μ h → FrS ρ M.env (sto ns σ) h → wArgs Ws M.c σ μ k →
    (∀ vs h' as ρ' μ', Grow [] ρ h ρ' h' → St M.h₀ ρ' μ' h' → IsVs ρ' vs as → vs.length = es.length → k as μ' → Q vs h') → Ev M (spliced (trees es M.env)) Q h := by
  induction H with
  | nil => exact fun S F w q s hs ht => Calls.spliced_nil ⟨rfl, rfl, hs ▸ q _ _ _ _ _ .refl S .nil rfl w⟩
  | cons a _ ih =>
    intro ρ μ h k Q S F w q s hs ht
    have step := (a.go X S F w).useE (Q := fun v h₁ => Ev M (PySem.spliced (trees _ M.env)) (fun vs h₂ => Q (v :: vs) h₂) h₁) fun v h₁ b ρ1 μ1 g1 S1 i1 w1 =>
      ih S1 (F.grow0 g1) w1 fun vs h₂ as ρ2 μ2 g2 S2 i2 l2 k2 => q _ _ _ _ _ (g1.trans g2) S2 (.cons (i1.grow g2) i2) (congrArg Nat.succ l2) k2
    refine Calls.spliced_cons (wpAny_mono (wpAny_toks_of ht (step s hs ht)) (fun v s₁ q => ?_) fun _ _ e => e.2)
    exact wpAny_mono (q.2.2.2 s₁ rfl q.1) (fun vs s₂ q' => ⟨q'.1.trans q.2.1, q'.2.1.trans q.2.2.1, q'.2.2⟩) fun _ _ e => e

/-- a call's arguments, then the call -/
theorem Ev.argsOf {f : Value} {args : List Expr} {Q : Args → Heap → Prop} (x : Ev M (PySem.spliced (trees args env)) (fun vs h' => Q ⟨vs, []⟩ h') h) : Ev M (evalArgs f true (trees args env) []) Q h := by
  intro s hs ht
  cases args with
  | nil =>
    show wpAny _ _ (evalArgs f true [] []) _ _ s
    unfold evalArgs
    show wpAny _ _ (PySem.spliced [] >>= _) _ _ s
    refine wpAny_bind (wpAny_mono (x s hs ht) (fun vs s' h' => ?_) fun _ _ x => x)
    refine wpAny_bind (wpAny_pure ?_)
    refine wpAny_holding ?_
    exact wpAny_bind (wpAny_pure (wpAny_bind (wpAny_pure (wpAny_pure h'))))
  | cons e es => exact Calls.evalArgs_plain (x s hs ht)

theorem Ev.callWith {pos : Pos} {f : Value} {first : List Value} {args : List Expr} {Q : Value → Heap → Prop} (hk : keeperOf f = Pure.pure .machine)
    (x : Ev M (PySem.spliced (trees args env)) (fun vs h' => Ev M (call f (first ++ vs)) Q h') h) : Ev M (PySem.callWith pos f first (trees args env) []) Q h := by
  unfold PySem.callWith
  refine Ev.bind (Ev.holding (Ev.argsOf (x.mono fun vs h' y => ?_)))
  refine Ev.bind (Ev.standAt ?_)
  rw [trees_plain, hk]
  refine Ev.bind (Ev.pure ?_)
  exact Ev.bind (y.mono fun r h₂ hr => Ev.bind (Ev.holding (Ev.point (Ev.pure hr))))

theorem callWithF {pos : Pos} {a : Addr} {o : Obj} {fd : FuncData} {args : List Expr} {Q : Value → Heap → Prop}
    (x : Ev M (PySem.spliced (trees args env)) (fun vs h' => (h'.get? a = some o ∧ o.data = .func fd) ∧ Ev M (call (.ref a) vs) Q h') h) : Ev M (PySem.callWith pos (.ref a) [] (trees args env) []) Q h := by
  intro s hs ht
  have y := Ev.argsOf (f := .ref a) (Q := fun X h' => (h'.get? a = some o ∧ o.data = .func fd) ∧ X.kw = [] ∧ Ev M (call (.ref a) X.pos) Q h') (x.mono fun vs h' z => ⟨z.1, rfl, z.2⟩)
  refine Calls.callWith_function (o := o) (fd := fd) (wpAny_mono (wpAny_toks_of ht (y s hs ht)) (fun X s₁ q => ?_) fun _ _ e => e.2)
  refine ⟨q.2.2.2.1, ?_⟩
  rw [q.2.2.2.2.1]
  exact wpAny_mono (q.2.2.2.2.2 s₁ rfl q.1) (fun v s₂ q' => ⟨q'.1.trans q.2.1, q'.2.1.trans q.2.2.1, q'.2.2⟩) fun _ _ e => e

structure OnType (id : String) (name : Str) (v : Value) (h : Heap) (T : String) : Prop where
  pa : PlainAttrs T
  sl : Slot T name id
  ty : typeOf (.builtin id) = Pure.pure (.type "method_descriptor")
  is : ∀ s : Shared, s.heap = h → s.TypeIs v T
  nd : ∀ a, v = .ref a → ∃ ob, h.get? a = some ob ∧ ob.dict = none

theorem evMethod {o : Expr} {name : Str} {apos pos : Pos} {args : List Expr} {Ws : List WE} {Q : Value → Heap → Prop} (hn : attributeBase o name M.env (eval o M.env) = eval o M.env) (hp : apos.endLine = pos.line) (hlen : args.length < 29) (H : SndL ns sc args Ws)
    (x : Ev M (eval o M.env) (fun ov h₁ => ∃ id T, OnType id name ov h₁ T ∧ Ev M (PySem.spliced (trees args M.env)) (fun vs h' => Ev M (call (.builtin id) (ov :: vs)) Q h') h₁) h) :
    Ev M (eval (.Call (.Attribute o name apos) args [] pos) M.env) Q h := by
  intro s hs ht
  refine wpAny_Call_method_lateS hn ?_ (beq_iff_eq.mpr hp) (wpAny_mono (wpAny_toks_of ht (x s hs ht)) (fun ov s₁ q => ?_) fun _ _ e => e.2)
  · rw [H.star, backTo_trees, trees_all]
    show (true && decide (args.length + 0 < 30)) = true
    rw [decide_eq_true (by omega)]; rfl
  · obtain ⟨q1, q2, q3, id, T, o, q6⟩ := q
    refine ⟨T, id, o.pa, o.sl, o.ty, o.is s₁ rfl, o.nd, ?_⟩
    rw [H.star, backTo_trees]
    exact wpAny_mono (Ev.callWith (first := [ov]) rfl q6 s₁ rfl q1) (fun v s₂ q' => ⟨q'.1.trans q2, q'.2.1.trans q3, q'.2.2⟩) fun _ _ e => e

theorem on_str {name : Str} {id : String} {v : Value} {x : Str} (i : IsV ρ v (.d (.str x))) (slot : Slot "str" name id) (ty : typeOf (.builtin id) = Pure.pure (.type "method_descriptor")) : OnType id name v h "str" := by
  obtain ⟨t, rfl⟩ := is_str i
  exact ⟨F.plainAttrs_str, slot, ty, fun s _ => typeIs_str s x t, fun _ e => nomatch e⟩
theorem on_list {name : Str} {id : String} {v : Value} {k : Nat} {xs : List PyData} (S : St M.h₀ ρ μ h) (i : IsV ρ v (.h k)) (hm : μ[k]? = some (.lst xs)) (slot : Slot "list" name id) (ty : typeOf (.builtin id) = Pure.pure (.type "method_descriptor")) : OnType id name v h "list" := by
  obtain ⟨l, vs, n, rfl, _, hl, _⟩ := S.lst i hm
  exact ⟨F.plainAttrs_list, slot, ty, fun s hs => ⟨_, hs ▸ hl, rfl⟩, fun a e => by cases e; exact ⟨_, hl, rfl⟩⟩
theorem on_set {name : Str} {id : String} {v : Value} {k : Nat} {xs : List Int} (S : St M.h₀ ρ μ h) (i : IsV ρ v (.h k)) (hm : μ[k]? = some (.set xs)) (slot : Slot "set" name id) (ty : typeOf (.builtin id) = Pure.pure (.type "method_descriptor")) : OnType id name v h "set" := by
  obtain ⟨l, hl, rfl⟩ := i
  obtain ⟨p', w', hS⟩ := (S.ob k l _ hl hm).setIs
  exact ⟨F.plainAttrs_set, slot, ty, fun s hs => Heap.SetOf.typeIs (s := s) (hs ▸ hS), fun a e => by
    cases e
    exact Heap.SetOf.noDict (s := { heap := h }) hS l rfl⟩
end
end Mine
end
section
namespace Mine

theorem All2.inv1 {α β : Type} {P : α → β → Prop} {vs b} (h : All2 P vs [b]) : ∃ v, vs = [v] ∧ P v b := by
  cases h with
  | cons a r => cases r; exact ⟨_, rfl, a⟩
theorem All2.uncons {α β : Type} {P : α → β → Prop} {vs b bs} (h : All2 P vs (b :: bs)) : ∃ v ws, vs = v :: ws ∧ P v b ∧ All2 P ws bs := by
  cases h with
  | cons a r => exact ⟨_, _, rfl, a, r⟩
theorem All2.inv3 {α β : Type} {P : α → β → Prop} {vs b c d} (h : All2 P vs [b, c, d]) : ∃ v u w, vs = [v, u, w] ∧ P v b ∧ P u c ∧ P w d := by
  obtain ⟨v, _, rfl, h1, h⟩ := h.uncons
  obtain ⟨u, _, rfl, h2, h⟩ := h.uncons
  obtain ⟨w, rfl, h3⟩ := h.inv1
  exact ⟨_, _, _, rfl, h1, h2, h3⟩
def oneP (as : List AV) (k : AV → Prop) : Prop := match as with
  | [a] => k a
  | _ => False
theorem oneP.inv {as k} (x : oneP as k) : ∃ a, as = [a] ∧ k a := by
  rcases as with _ | ⟨a, _ | _⟩
  · exact x.elim
  · exact ⟨a, rfl, x⟩
  · exact x.elim
def noneP (as : List AV) (k : Prop) : Prop := match as with
  | [] => k
  | _ => False

def kStr (a : AV) (_ : Mem) : Prop := strP a fun _ => True
def kLst (a : AV) (μ : Mem) : Prop := mutP a μ fun _ _ => True
def kSet (a : AV) (μ : Mem) : Prop := setP a μ fun _ _ => True

structure MethOk (id : String) (name : Str) (K : AV → Mem → Prop) (P : AV → List AV → Mem → KE → Prop) : Prop where
  on : ∀ {M : Mc} {ρ : Mp} {μ : Mem} {h : Heap} {v : Value} {a : AV}, St M.h₀ ρ μ h → IsV ρ v a → K a μ → ∃ T, OnType id name v h T
  ok : ∀ {M : Mc} {ρ : Mp} {μ : Mem} {h : Heap} {v : Value} {a : AV} {vs : List Value} {as : List AV} {k : KE}, St M.h₀ ρ μ h → IsV ρ v a → IsVs ρ vs as → P a as μ k → Ev M (call (.builtin id) (v :: vs)) (PE M ρ h k) h

def pAppend (a : AV) (as : List AV) (μ : Mem) (k : KE) : Prop := mutP a μ fun j xs => oneP as fun b => datP b fun x => xs.length < sizeLine ∧ k (.d .none) (μ.set j (.lst (xs ++ [x])))
def pExtend (a : AV) (as : List AV) (μ : Mem) (k : KE) : Prop := mutP a μ fun j xs => oneP as fun b => lstD b fun ys => xs.length + ys.length < sizeLine ∧ k (.d .none) (μ.set j (.lst (xs ++ ys)))
def pPop (a : AV) (as : List AV) (μ : Mem) (k : KE) : Prop := mutP a μ fun j xs => noneP as (∃ x, xs.getLast? = some x ∧ xs.length < sizeLine ∧ k (.d x) (μ.set j (.lst xs.dropLast)))
def insI (xs : List Int) (i : Int) : List Int := if xs.contains i then xs else xs ++ [i]
def pAdd (a : AV) (as : List AV) (μ : Mem) (k : KE) : Prop := setP a μ fun j xs => oneP as fun b => intP b fun i => xs.length < 4000 ∧ k (.d .none) (μ.set j (.set (insI xs i)))
def pStarts (a : AV) (as : List AV) (μ : Mem) (k : KE) : Prop := strP a fun x => oneP as fun b => strP b fun y => k (.d (.bool (Txt.startswith x y))) μ
def pEnds (a : AV) (as : List AV) (μ : Mem) (k : KE) : Prop := strP a fun x => oneP as fun b => strP b fun y => k (.d (.bool (Txt.endswith x y))) μ
def find4 (x y : Str) (i j : Int) : Int :=
  match Builtin.Str.occurrences x y (fromIndex x.length i) (min (fromIndex x.length j) x.length) 1 with
  | k :: _ => (k : Int)
  | [] => -1
def threeP (as : List AV) (k : AV → AV → AV → Prop) : Prop := match as with
  | [a, b, c] => k a b c
  | _ => False
theorem threeP.inv {as k} (x : threeP as k) : ∃ a b c, as = [a, b, c] ∧ k a b c := by
  rcases as with _ | ⟨a, _ | ⟨b, _ | ⟨c, _ | _⟩⟩⟩
  · exact x.elim
  · exact x.elim
  · exact x.elim
  · exact ⟨a, b, c, rfl, x⟩
  · exact x.elim
def pFind (a : AV) (as : List AV) (μ : Mem) (k : KE) : Prop := strP a fun x => threeP as fun b c d => strP b fun y => intP c fun i => intP d fun j => k (.d (.int (find4 x y i j))) μ
def pJoin (a : AV) (as : List AV) (μ : Mem) (k : KE) : Prop := strP a fun x => oneP as fun b => lstD b fun ys => ∃ ss : List Str, ys = ss.map .str ∧ JoinOk x ss ∧ k (.d (.str (Txt.join x ss))) μ

theorem strs_values {ρ : Frz} {vs : List Value} {ss : List Str} (h : IsAll ρ vs (ss.map .str)) : ∃ l : List (Str × Tok), vs = strValues l ∧ l.map (·.1) = ss := by
  induction ss generalizing vs with
  | nil => cases h; exact ⟨[], rfl, rfl⟩
  | cons s ss ih =>
    cases h with
    | cons i r =>
      obtain ⟨t, rfl⟩ := is_str i
      obtain ⟨l, rfl, rfl⟩ := ih r
      exact ⟨(s, t) :: l, rfl, rfl⟩
theorem strs_is {ρ : Frz} (l : List (Str × Tok)) : IsAll ρ (strValues l) ((l.map (·.1)).map .str) := by
  induction l with
  | nil => exact .nil
  | cons p l ih => exact .cons (.str p.1 p.2) ih

section
variable {M : Mc} {ρ : Mp} {μ : Mem} {h : Heap}
theorem upd_other {h : Heap} {l : Addr} {f : Obj → Obj} (b o) (hb : b ≠ l) (e : h.get? b = some o) : (h.update l f).get? b = some o := (Heap.get?_update_other h f (Ne.symm hb)).trans e

/-- a handle's list, turned -/
theorem Res.turn {k : Nat} {l : Addr} {vs : Array Value} {n : Nat} {xs ys : List PyData} {f : Array Value → Array Value} {v : Value} {d : PyData} (S : St M.h₀ ρ μ h) (hk : ρ.l[k]? = some l) (hm : μ[k]? = some (.lst xs))
    (ho : h.get? l = some { cls := .type "list", data := .seq vs n }) (r : IsAll ρ.f (f vs).toList ys) (i : Is ρ.f v d) :
    Res M ρ h (.d d) (μ.set k (.lst ys)) v (h.update l (Obj.mapSeq f)) := by
  have ho' := IsL.update (h := h) (l := l) (items := vs) (n := n) ho f
  obtain ⟨s', g⟩ := S.turn (m := .lst ys) (h' := h.update l (Obj.mapSeq f)) hk hm (fun e => by cases e) (.lst _ _ ho' r) upd_other
  exact ⟨ρ, g [], s', i⟩

theorem kStr.inv {a} (x : kStr a μ) : ∃ s, a = .d (.str s) := by
  obtain ⟨s, rfl, _⟩ := strP.inv x
  exact ⟨s, rfl⟩
theorem kLst.inv {a} (x : kLst a μ) : ∃ j xs, a = .h j ∧ μ[j]? = some (.lst xs) := by
  obtain ⟨j, rfl, xs, hm, _⟩ := hndP.inv x
  exact ⟨j, xs, rfl, hm⟩
theorem kSet.inv {a} (x : kSet a μ) : ∃ j xs, a = .h j ∧ μ[j]? = some (.set xs) := by
  obtain ⟨j, rfl, xs, hm, _⟩ := hndP.inv x
  exact ⟨j, xs, rfl, hm⟩
theorem kStr.on {id : String} {name : Str} (slot : Slot "str" name id) (ty : typeOf (.builtin id) = pure (.type "method_descriptor")) {v : Value} {a : AV} (_ : St M.h₀ ρ μ h) (i : IsV ρ v a) (x : kStr a μ) : ∃ T, OnType id name v h T := by
  obtain ⟨s, rfl⟩ := x.inv
  exact ⟨_, on_str i slot ty⟩
theorem kLst.on {id : String} {name : Str} (slot : Slot "list" name id) (ty : typeOf (.builtin id) = pure (.type "method_descriptor")) {v : Value} {a : AV} (S : St M.h₀ ρ μ h) (i : IsV ρ v a) (x : kLst a μ) : ∃ T, OnType id name v h T := by
  obtain ⟨j, xs, rfl, hm⟩ := x.inv
  exact ⟨_, on_list S i hm slot ty⟩

theorem meth_append : MethOk "list.append" "append" kLst pAppend := by
  refine ⟨kLst.on F.slot_list_append F.type_list_append, ?_⟩
  intro M ρ μ h v a vs as k S i is e
  obtain ⟨j, rfl, xs, hm, e1⟩ := e.inv
  obtain ⟨b, rfl, e2⟩ := e1.inv
  obtain ⟨x, rfl, hz, q⟩ := e2.inv
  obtain ⟨l, ws, n, rfl, hl, ho, r, hs⟩ := S.lst i hm
  obtain ⟨_, rfl, i1⟩ := is.inv1
  refine Ev.lift fun s hs' _ Q' kk => ?_
  subst hs'
  exact call_meets F.slot_list_append ⟨_, ho, rfl⟩ F.entry_list_append (F.args_list_append_2 _ _) (list_append l ws n _ (by rw [hs]; exact Nat.le_of_lt hz)) ⟨ho, kk _ _ _ ((Res.turn S hl hm ho (by rw [Array.toList_push]; exact r.append (.one i1)) .none).pe q)⟩
theorem meth_extend : MethOk "list.extend" "extend" kLst pExtend := by
  refine ⟨kLst.on F.slot_list_extend F.type_list_extend, ?_⟩
  intro M ρ μ h v a vs as k S i is e
  obtain ⟨j, rfl, xs, hm, e1⟩ := e.inv
  obtain ⟨b, rfl, e2⟩ := e1.inv
  obtain ⟨x, rfl, hz, q⟩ := e2.inv
  obtain ⟨l, ws, n, rfl, hl, ho, r, hs⟩ := S.lst i hm
  obtain ⟨_, rfl, i1⟩ := is.inv1
  obtain ⟨b, us, n2, rfl, hb, rb, hsz2⟩ := is_list i1
  refine Ev.lift fun s hs' _ Q' kk => ?_
  subst hs'
  refine call_meets F.slot_list_extend ⟨_, ho, rfl⟩ F.entry_list_extend (F.args_list_extend_2 _ _) (AutoSeq1.list_extend_list_list_0 l ws n b us n2 ?_ (by omega) (by omega)) ⟨ho, S.fz _ _ hb, kk _ _ _ ((Res.turn S hl hm ho (by rw [Array.toList_append]; exact r.append rb) .none).pe q)⟩
  rw [Bool.and_eq_true]
  intro hh
  have := hh.2
  unfold Builtin.List.listTooLong at this
  have hh := of_decide_eq_true this
  have : sizeLine = 2 ^ 24 := rfl
  omega
theorem meth_pop : MethOk "list.pop" "pop" kLst pPop := by
  refine ⟨kLst.on F.slot_list_pop F.type_list_pop, ?_⟩
  intro M ρ μ h v a vs as k S i is e
  obtain ⟨j, rfl, xs, hm, e1⟩ := e.inv
  cases is with
  | cons _ _ => exact e1.elim
  | nil =>
    obtain ⟨x, hy, hz, q⟩ := e1
    obtain ⟨l, ws, n, rfl, hl, ho, r, hs⟩ := S.lst i hm
    rw [List.getLast?_eq_getElem?] at hy
    obtain ⟨yv, hyv, iy⟩ := r.get hy
    refine Ev.lift fun s hs' _ Q' kk => ?_
    subst hs'
    refine call_meets F.slot_list_pop ⟨_, ho, rfl⟩ F.entry_list_pop (F.args_list_pop_1 _) (MeetsSeq.list_pop_last l ws n yv (by rw [hs, ← Array.getElem?_toList]; exact hyv) (by rw [hs]; exact Nat.le_of_lt hz)) ⟨ho, kk _ _ _ ((Res.turn S hl hm ho ?_ iy).pe q)⟩
    rw [Array.toList_eraseIdxIfInBounds, ← Array.length_toList, List.eraseIdx_length_sub_one]; exact r.dropLast
theorem meth_add : MethOk "set.add" "add" kSet pAdd := by
  refine ⟨fun S i x => ?_, ?_⟩
  · obtain ⟨j, xs, rfl, hm⟩ := x.inv
    exact ⟨_, on_set S i hm F.slot_set_add F.type_set_add⟩
  intro M ρ μ h v a vs as k S i is e
  obtain ⟨j, rfl, xs, hm, e1⟩ := e.inv
  obtain ⟨b, rfl, e2⟩ := e1.inv
  obtain ⟨z, rfl, hz, q⟩ := e2.inv
  obtain ⟨l, hl, rfl⟩ := i
  obtain ⟨_, rfl, i1⟩ := is.inv1
  obtain ⟨p', w', hS⟩ := (S.ob j l _ hl hm).setIs
  obtain ⟨t, rfl⟩ := is_int i1
  refine Ev.lift fun s hs _ Q' kk => ?_
  subst hs
  refine call_set_add (knd := intKind M.prog M.w) (k := z) (a := l) (show Value.isInt z (.int z t) = true from beq_self_eq_true z) rfl hS (by unfold scanBound; omega) fun h' hsb hS' => kk _ h' _ ?_
  have hm' : MIs ρ.f h' l (.set (insI xs z)) := by
    refine .set ⟨M.prog, M.w, ?_⟩
    have e1 : (fun k' => xs.contains k' || decide (k' = z)) = fun k' => (insI xs z).contains k' := by
      funext k'
      unfold insI
      by_cases hc : xs.contains z = true
      · rw [if_pos hc]
        by_cases hk : k' = z
        · subst hk; rw [hc]; rfl
        · rw [decide_eq_false hk, Bool.or_false]
      · rw [if_neg hc]
        simp
    have e2 : (if xs.contains z = true then xs.length else xs.length + 1) = (insI xs z).length := by
      unfold insI; split <;> simp
    rw [← e1, ← e2]; exact hS'
  obtain ⟨s', g⟩ := S.turn hl hm (fun e => by cases e) hm' (fun b o hb e => hsb.extBut b o hb e)
  exact PE.mk (a := .d .none) (g []) s' Is.none q
theorem strP.two {as : List AV} {a : AV} {v : Value} {vs : List Value} {k : Str → Str → Prop} {P : Prop} (x : strP a fun x => oneP as fun b => strP b fun y => k x y) (i : IsV ρ v a) (is : IsVs ρ vs as) (f : ∀ x y t u, v = .str x t → vs = [.str y u] → k x y → P) : P := by
  obtain ⟨x, rfl, e⟩ := x.inv
  obtain ⟨b, rfl, e1⟩ := e.inv
  obtain ⟨y, rfl, q⟩ := e1.inv
  obtain ⟨t, rfl⟩ := is_str i
  obtain ⟨_, rfl, i1⟩ := is.inv1
  obtain ⟨u, rfl⟩ := is_str i1
  exact f _ _ _ _ rfl rfl q
theorem meth_starts : MethOk "str.startswith" "startswith" kStr pStarts :=
  ⟨kStr.on F.slot_str_startswith F.type_str_startswith, fun S i is e => strP.two e i is fun _ _ _ _ e1 e2 q => e1 ▸ e2 ▸ (Ev.ofBool S fun s _ Q' k => SC.startswith (k s.toks)).pe .refl q⟩
theorem meth_ends : MethOk "str.endswith" "endswith" kStr pEnds :=
  ⟨kStr.on F.slot_str_endswith F.type_str_endswith, fun S i is e => strP.two e i is fun _ _ _ _ e1 e2 q => e1 ▸ e2 ▸ (Ev.ofBool S fun s _ Q' k => SC.endswith (k s.toks)).pe .refl q⟩
theorem gives_find4 (x y : Str) (i j : Int) (t u v z : Tok) : Gives (Builtin.«str.find» ⟨[.str x t, .str y u, .int i v, .int j z], []⟩) (.int (find4 x y i j)) := by
  unfold find4
  show Gives (match Builtin.Str.occurrences x y (fromIndex x.length i) (min (fromIndex x.length j) x.length) 1 with | k :: _ => retInt k | [] => (do rule "str.find.not-found"; retInt (-1))) _
  cases Builtin.Str.occurrences x y (fromIndex x.length i) (min (fromIndex x.length j) x.length) 1 with
  | nil => exact .rule (.of_eq rfl)
  | cons k _ => exact .of_eq rfl
theorem meth_find : MethOk "str.find" "find" kStr pFind := by
  refine ⟨kStr.on F.slot_str_find F.type_str_find, ?_⟩
  intro M ρ μ h v a vs as k S i is e
  obtain ⟨x, rfl, e1⟩ := e.inv
  obtain ⟨b, c, d, rfl, e2⟩ := e1.inv
  obtain ⟨y, rfl, e3⟩ := e2.inv
  obtain ⟨n, rfl, e4⟩ := e3.inv
  obtain ⟨m, rfl, q⟩ := e4.inv
  obtain ⟨t, rfl⟩ := is_str i
  obtain ⟨_, _, _, rfl, i1, i2, i3⟩ := is.inv3
  cases is
  obtain ⟨u, rfl⟩ := is_str i1
  obtain ⟨u2, rfl⟩ := is_int i2
  obtain ⟨u3, rfl⟩ := is_int i3
  refine Ev.lift fun s hs _ Q' kk => ?_
  subst hs
  exact call_gives F.slot_str_find (typeIs_str _ _ _) F.entry_str_find (F.args_str_find_4 _ _ _ _) (gives_find4 _ _ _ _ t u u2 u3) (kk _ s.heap _ (PE.same (a := .d (.int _)) S (Is.int _ _) q))
theorem meth_join : MethOk "str.join" "join" kStr pJoin := by
  refine ⟨kStr.on F.slot_str_join F.type_str_join, ?_⟩
  intro M ρ μ h v a vs as k S i is e
  obtain ⟨x, rfl, e1⟩ := e.inv
  obtain ⟨b, rfl, e2⟩ := e1.inv
  obtain ⟨ys, rfl, ss, rfl, hj, q⟩ := e2.inv
  obtain ⟨t, rfl⟩ := is_str i
  obtain ⟨_, rfl, i1⟩ := is.inv1
  obtain ⟨b, us, n2, rfl, hb, rb, _⟩ := is_list i1
  obtain ⟨L, hL, hmap⟩ := strs_values rb
  refine Ev.lift fun s hs _ Q' kk => ?_
  subst hs
  refine SC.join (l := L) (texts := ss) ⟨_, S.fz _ _ hb, rfl, n2, ?_⟩ hmap hj (fun t' k => kk _ s.heap _ (PE.same (a := .d (.str _)) S (Is.str _ _) q))
  rw [← hL]
end
end Mine
end
section
namespace Mine

def condP (b : Bool) (p q : Prop) : Prop := (b = true → p) ∧ (b = false → q)
theorem condP.t {b p q} (h : b = true) (x : p) : condP b p q := ⟨fun _ => x, fun e => Bool.noConfusion (h.symm.trans e)⟩
theorem condP.f {b p q} (h : b = false) (x : q) : condP b p q := ⟨fun e => Bool.noConfusion (h.symm.trans e), fun _ => x⟩

/-! ### the roads of expressions -/
def varP : Option AV → (AV → Prop) → Prop
  | some a, k => k a
  | none, _ => False
def wVar (n : Nat) : WE := fun _ σ μ k => varP (σ.getD n none) fun a => k a μ
def wDat (d : PyData) : WE := fun _ _ μ k => k (.d d) μ
abbrev wInt (i : Int) : WE := wDat (.int i)
abbrev wStr (s : Str) : WE := wDat (.str s)
def wCst (x : Str) : WE := fun c _ μ k => ∃ d, c.cst x = some d ∧ k (.d d) μ
def wNeg (W : WE) : WE := fun c σ μ k => W c σ μ fun a μ => intP a fun i => k (.d (.int (-i))) μ
def wBin (P : AV → AV → (PyData → Prop) → Prop) (l r : WE) : WE := fun c σ μ k => l c σ μ fun a μ => r c σ μ fun b μ => P a b fun d => k (.d d) μ
def wCmp (P : AV → AV → Mem → (Bool → Prop) → Prop) (l r : WE) : WE := fun c σ μ k => l c σ μ fun a μ => r c σ μ fun b μ => P a b μ fun d => k (.d (.bool d)) μ
def wAnd (l r : WE) : WE := fun c σ μ k => l c σ μ fun a μ => boolP a fun b => condP b (r c σ μ k) (k (.d (.bool false)) μ)
def wIte (t : WT) (l r : WE) : WE := fun c σ μ k => t c σ μ fun b μ => condP b (l c σ μ k) (r c σ μ k)
def datsP : List AV → (List PyData → Prop) → Prop
  | [], k => k []
  | a :: as, k => datP a fun d => datsP as fun ds => k (d :: ds)
def wList (Ws : List WE) : WE := fun c σ μ k => wArgs Ws c σ μ fun as μ => datsP as fun ds => k (.d (.list ds)) μ
def wTup (Ws : List WE) : WE := fun c σ μ k => wArgs Ws c σ μ fun as μ => datsP as fun ds => k (.d (.tuple ds)) μ
def idxP (a b : AV) (μ : Mem) (k : PyData → Prop) : Prop := lstP a μ fun xs => intP b fun i => ∃ j x, idxOf i xs.length = some j ∧ xs[j]? = some x ∧ k x
def wIdx (v i : WE) : WE := fun c σ μ k => v c σ μ fun a μ => i c σ μ fun b μ => idxP a b μ fun d => k (.d d) μ
def wOpt : Option WE → Cx → Lo → Mem → (Option Int → Mem → Prop) → Prop
  | none, _, _, μ, k => k none μ
  | some W, c, σ, μ, k => W c σ μ fun a μ => intP a fun i => k (some i) μ
def cutL (a : AV) (l u s : Option Int) (μ : Mem) (k : PyData → Prop) : Prop := lstP a μ fun xs => s ≠ some 0 ∧ xs.length ≤ sizeLine ∧ k (.list (pickL xs l u s))
def cutT (a : AV) (l u s : Option Int) (_ : Mem) (k : PyData → Prop) : Prop := strP a fun x => s = none ∧ x.length ≤ sizeLine ∧ k (.str (cutS x l u))
def wCut (P : AV → Option Int → Option Int → Option Int → Mem → (PyData → Prop) → Prop) (v : WE) (lo hi st : Option WE) : WE := fun c σ μ k =>
  v c σ μ fun a μ => wOpt lo c σ μ fun l μ => wOpt hi c σ μ fun u μ => wOpt st c σ μ fun s μ => P a l u s μ fun d => k (.d d) μ
def wMeth (K : AV → Mem → Prop) (P : AV → List AV → Mem → KE → Prop) (o : WE) (args : List WE) : WE := fun c σ μ k => o c σ μ fun a μ => K a μ ∧ wArgs args c σ μ fun as μ => P a as μ k
def wRepl (o : WE) (y z : Str) : WE := fun c σ μ k => o c σ μ fun a μ => strP a fun x => x.length + (x.length + 1) * z.length ≤ 16777216 ∧ k (.d (.str (Txt.replace x y z))) μ
def wFn (f : Str) (args : List WE) : WE := fun c σ μ k => ∃ F, c.fns f = some F ∧ wArgs args c σ μ fun as μ => F as μ k
def lenS (a : AV) (μ : Mem) (k : KE) : Prop := strP a fun s => s.length < 2 ^ 31 ∧ k (.d (.int s.length)) μ
def lenL (a : AV) (μ : Mem) (k : KE) : Prop := lstP a μ fun s => s.length < 2 ^ 31 ∧ k (.d (.int s.length)) μ
def sumL (a : AV) (μ : Mem) (k : KE) : Prop := lstD a fun xs => ∃ is : List Int, xs = is.map .int ∧ k (.d (.int is.sum)) μ
/-- a built-in of one argument -/
def wB1 (P : AV → Mem → KE → Prop) (e : WE) : WE := fun c σ μ k => e c σ μ fun a μ => P a μ k
def tCmp (w : WE) : WT := fun c σ μ k => w c σ μ fun a μ => boolP a fun b => k b μ
def tTru (P : AV → Mem → (Bool → Prop) → Prop) (w : WE) : WT := fun c σ μ k => w c σ μ fun a μ => P a μ fun b => k b μ
def tNot (t : WT) : WT := fun c σ μ k => t c σ μ fun b μ => k (!b) μ
def tAnd (l r : WT) : WT := fun c σ μ k => l c σ μ fun b μ => condP b (r c σ μ k) (k false μ)

structure SndT (ns : List Str) (sc : Scope) (e : Expr) (W : WT) : Prop where
  go : ∀ {M : Mc} {ρ : Mp} {σ : Lo} {μ : Mem} {h : Heap} {k : Bool → Mem → Prop} {Q : Bool → Heap → Prop}, Wk ns sc M → St M.h₀ ρ μ h → FrS ρ M.env (sto ns σ) h → W M.c σ μ k →
    (∀ b h' ρ' μ', Grow [] ρ h ρ' h' → St M.h₀ ρ' μ' h' → k b μ' → Q b h') → Ev M (isTrue e M.env (eval e M.env)) Q h

section
variable {M : Mc} {ρ : Mp} {μ : Mem} {h : Heap} {ns : List Str} {sc : Scope} {σ : Lo} {x y : Expr} {L R : WE} {p : Pos}

theorem sto_get : ∀ {ns : List Str} {σ : Lo} {n : Nat} {x : Str} {a : AV}, ns.Nodup → ns[n]? = some x → σ.getD n none = some a → sto ns σ x = some a := by
  intro ns
  induction ns with
  | nil => intro σ n x a _ h _; cases h
  | cons y ns ih =>
    intro σ n x a hn h1 h2
    cases σ with
    | nil => cases h2
    | cons b σ => cases n with
      | zero => cases h1; exact (if_pos rfl).trans h2
      | succ n =>
        obtain ⟨hy, hn⟩ := List.nodup_cons.mp hn
        exact (if_neg fun (e : x = y) => hy (e ▸ List.mem_of_getElem? h1)).trans (ih hn h1 h2)
theorem varP.inv {o : Option AV} {k} (w : varP o k) : ∃ a, o = some a ∧ k a := by
  cases o with
  | none => exact w.elim
  | some a => exact ⟨a, rfl, w⟩

theorem SndE.var {n : Nat} {z : Str} (hn : ns[n]? = some z) : SndE ns sc (.Name z p) (wVar n) := ⟨fun _ _ => rfl, fun X S F w => by
  obtain ⟨a, h1, q⟩ := varP.inv w
  exact Ev.Name (X.db _ (List.mem_of_getElem? hn)) F (sto_get X.nd hn h1) fun _ i => .same S i q⟩

theorem SndE.int {i : Int} {j : Nat} : SndE ns sc (.Constant (.int i) j p) (wDat (.int i)) := ⟨fun _ _ => rfl, fun X S F w => Ev.lift fun s hs _ Q' kk => by
  subst hs; exact wpAny_Constant_int (kk (.int i s.toks) s.heap (s.toks + 1) (PE.same (a := .d (.int i)) S (Is.int i _) w))⟩
theorem SndE.str {i : Str} {j : Nat} : SndE ns sc (.Constant (.str i) j p) (wDat (.str i)) := ⟨fun _ _ => rfl, fun X S F w => Ev.lift fun s hs _ Q' kk => by
  subst hs; rw [arm_eval_Constant]; exact wpAny_mkText (kk (.str i s.toks) s.heap (s.toks + 1) (PE.same (a := .d (.str i)) S (Is.str i _) w))⟩
theorem SndE.bool {i : Bool} {j : Nat} : SndE ns sc (.Constant (.bool i) j p) (wDat (.bool i)) := ⟨fun _ _ => rfl, fun X S F w => by
  rw [arm_eval_Constant]
  exact Ev.pure (PE.same (a := .d (.bool i)) S (Is.bool i) w)⟩
theorem SndE.neg (H : SndE ns sc x L) : SndE ns sc (.UnaryOp .USub x p) (wNeg L) := ⟨fun _ _ => rfl, fun X S F w => by
  rw [arm_eval_UnaryOp]
  refine Ev.bind ((H.go X S F w).useE fun v h₁ a ρ₁ μ₁ g₁ S₁ i₁ q => ?_)
  obtain ⟨i, rfl, q⟩ := intP.inv q
  obtain ⟨t, rfl⟩ := is_int i₁
  refine Ev.bind (Ev.standAt (Ev.holding (Ev.lift fun s hs _ Q' kk => ?_)))
  subst hs
  exact neg_int (kk (.int (-i) s.toks) s.heap (s.toks + 1) (PE.mk (a := .d (.int (-i))) g₁ S₁ (Is.int _ _) q))⟩

/-- two values, one after the other -/
theorem SndE.two {k : AV → AV → Mem → Prop} {Q : Value → Value → Heap → Prop} (hl : SndE ns sc x L) (hr : SndE ns sc y R) (X : Wk ns sc M) (S : St M.h₀ ρ μ h) (F : FrS ρ M.env (sto ns σ) h) (w : L M.c σ μ fun a μ => R M.c σ μ fun b μ => k a b μ)
    (q : ∀ va vb h' a b ρ' μ', Grow [] ρ h ρ' h' → St M.h₀ ρ' μ' h' → IsV ρ' va a → IsV ρ' vb b → k a b μ' → Q va vb h') :
    Ev M (eval x M.env) (fun va h₁ => Ev M (eval y M.env) (fun vb h₂ => Q va vb h₂) h₁) h :=
  (hl.go X S F w).useE fun _ _ _ _ _ g₁ S₁ i₁ w₁ => (hr.go X S₁ (F.grow0 g₁) w₁).useE fun _ _ _ _ _ g₂ S₂ i₂ w₂ => q _ _ _ _ _ _ _ (g₁.trans g₂) S₂ (i₁.grow g₂) i₂ w₂

theorem SndE.bin {op : Operator} {P} (O : BinOk op P) (hl : SndE ns sc x L) (hr : SndE ns sc y R) : SndE ns sc (.BinOp x op y p) (wBin P L R) := ⟨fun _ _ => rfl, fun {M ρ σ μ h k} X S F w => by
  rw [arm_eval_BinOp]
  refine Ev.bind ((hl.two (Q := fun va vb h' => Ev M (binaryOp op va vb) (PE M ρ h k) h') hr X S F w fun va vb h' a b ρ' μ' g S' ia ib w => (O S' ia ib w).elim fun d q => q.2.pe g q.1).mono fun va h₁ x => ?_)
  exact Ev.bind (Ev.holding (x.mono fun vb h₂ x => Ev.bind (Ev.standAt (Ev.operate x))))⟩

theorem SndE.cmp {op : CmpOp} {P} (O : CmpOk op P) (hm : behindInMarks op y = false) (hl : SndE ns sc x L) (hr : SndE ns sc y R) : SndE ns sc (.Compare x [op] [y] p) (wCmp P L R) := ⟨fun _ _ => rfl, fun {M ρ σ μ h k} X S F w => by
  rw [arm_eval_Compare]
  refine Ev.bind ((hl.two (Q := fun va vb h' => Ev M (compareOp op va vb) (PE M ρ h k) h') hr X S F w fun va vb h' a b ρ' μ' g S' ia ib w => (O X.units S' ia ib w).elim fun d q => q.2.pe g q.1).mono fun va h₁ x => ?_)
  show Ev M (do let rv ← holding [va] (markedBehindIn op y (eval y M.env)); standAt p; operate [va, rv] (compareOp op va rv)) _ _
  exact Ev.bind (Ev.holding (Ev.of_eq (t' := eval y M.env) (by unfold markedBehindIn; rw [hm]) (x.mono fun vb h₂ x => Ev.bind (Ev.standAt (Ev.operate x)))))⟩

theorem SndT.cmp {op : CmpOp} {P} (O : CmpOk op P) (hm : behindInMarks op y = false) (hl : SndE ns sc x L) (hr : SndE ns sc y R) : SndT ns sc (.Compare x [op] [y] p) (tCmp (wCmp P L R)) := ⟨fun {M ρ σ μ h k Q} X S F w q => by
  rw [arm_isTrue_Compare]
  refine Ev.bind ((hl.two (Q := fun va vb h' => Ev M (compareOp op va vb) (fun v h'' => ∃ b, v = .bool b ∧ Q b h'') h') hr X S F w fun va vb h' a b ρ' μ' g S' ia ib w => (O X.units S' ia ib w).elim fun d o => o.2.useR fun v h₂ ρ₂ g₂ S₂ i => ⟨d, is_bool i, q _ _ _ _ (g.trans g₂) S₂ o.1⟩).mono fun va h₁ x => ?_)
  show Ev M (do let rv ← holding [va] (markedBehindIn op y (eval y M.env)); standAt p; let c ← operate [va, rv] (compareOp op va rv); holding [c] (truthy c)) _ _
  refine Ev.bind (Ev.holding (Ev.of_eq (t' := eval y M.env) (by unfold markedBehindIn; rw [hm]) (x.mono fun vb h₂ x => Ev.bind (Ev.standAt (Ev.bind (Ev.operate (x.mono fun v h₃ r => ?_)))))))
  obtain ⟨b, rfl, r⟩ := r
  exact Ev.holding fun s hs ht => wpAny_truthy_bool ⟨rfl, rfl, hs ▸ r⟩⟩

theorem SndT.tru {P} (O : TruOk P) (hp : ∀ env, isTrue x env (eval x env) = (do let v ← eval x env; standAt x.pos; holding [v] (truthy v))) (H : SndE ns sc x L) : SndT ns sc x (tTru P L) := ⟨fun {M ρ σ μ h k Q} X S F w q => by
  rw [hp]
  exact Ev.bind ((H.go X S F w).useE fun v h₁ a ρ₁ μ₁ g₁ S₁ i₁ w₁ => Ev.bind (Ev.standAt (Ev.holding ((O S₁ i₁ w₁).mono fun b h' r => r.2 ▸ q _ _ _ _ g₁ S₁ r.1))))⟩
theorem SndT.not {t : WT} (H : SndT ns sc x t) : SndT ns sc (.UnaryOp .Not x p) (tNot t) := ⟨fun X S F w q => by
  rw [arm_isTrue_UnaryOp]
  exact Ev.bind (H.go X S F w fun b h' ρ' μ' g S' k => Ev.pure (q _ _ _ _ g S' k))⟩
theorem SndT.and {l r : WT} {es : List Expr} (hl : SndT ns sc x l) (hr : SndT ns sc (.BoolOp .And (y :: es) p) r) : SndT ns sc (.BoolOp .And (x :: y :: es) p) (tAnd l r) := ⟨fun {M ρ σ μ h k Q} X S F w q => by
  rw [arm_isTrue_BoolOp]
  show Ev M (do match BoolOp.And, ← isTrue x M.env (eval x M.env) with
    | .And, false => pure false
    | .Or, true => pure true
    | _, _ => allTrue .And (y :: es) M.env) _ _
  refine Ev.bind (hl.go X S F w fun b h' ρ' μ' g S' c => ?_)
  cases b with
  | true => exact hr.go X S' (F.grow0 g) (c.1 rfl) fun b h' ρ' μ' g' S' k => q _ _ _ _ (g.trans g') S' k
  | false => exact Ev.pure (q _ _ _ _ g S' (c.2 rfl))⟩
theorem SndT.and1 {l : WT} (hl : SndT ns sc x l) : SndT ns sc (.BoolOp .And [x] p) l := ⟨fun {M ρ σ μ h k Q} X S F w q => by
  rw [arm_isTrue_BoolOp]
  show Ev M (do match BoolOp.And, ← isTrue x M.env (eval x M.env) with
    | .And, false => pure false
    | .Or, true => pure true
    | _, _ => allTrue .And [] M.env) _ _
  refine Ev.bind (hl.go X S F w fun b h' ρ' μ' g S' c => ?_)
  cases b <;> exact Ev.pure (q _ _ _ _ g S' c)⟩

theorem SndE.and1 (hl : SndE ns sc x L) : SndE ns sc (.BoolOp .And [x] p) L := ⟨fun _ _ => rfl, hl.go⟩
theorem SndE.and {es : List Expr} (hl : SndE ns sc x L) (hr : SndE ns sc (.BoolOp .And (y :: es) p) R) : SndE ns sc (.BoolOp .And (x :: y :: es) p) (wAnd L R) := ⟨fun _ _ => rfl, fun {M ρ σ μ h k} X S F w => by
  show Ev M (do
    let v ← eval x M.env
    standAt p
    let t ← holding [v] (truthy v)
    match BoolOp.And, t with
    | .And, false | .Or, true => pure v
    | _, _ => boolOp p .And (evalEach (y :: es) M.env)) _ _
  refine Ev.bind ((hl.go X S F w).useE fun v h₁ a ρ₁ μ₁ g₁ S₁ i₁ w₁ => ?_)
  obtain ⟨b, rfl, c⟩ := boolP.inv w₁
  rw [is_bool i₁]
  refine Ev.bind (Ev.standAt (Ev.bind (Ev.holding fun s hs ht => wpAny_truthy_bool ⟨rfl, rfl, ?_⟩)))
  subst hs
  cases b with
  | false => exact Ev.pure (PE.mk (a := .d (.bool false)) g₁ S₁ (Is.bool false) (c.2 rfl))
  | true => exact (hr.go X S₁ (F.grow0 g₁) (c.1 rfl)).mono fun v h2 q => PE.trans g₁ q⟩
theorem SndE.ite {t : Expr} {T : WT} (ht : SndT ns sc t T) (hl : SndE ns sc x L) (hr : SndE ns sc y R) : SndE ns sc (.IfExp t x y p) (wIte T L R) := ⟨fun _ _ => rfl, fun {M ρ σ μ h k} X S F w => by
  rw [arm_eval_IfExp]
  refine Ev.bind (ht.go X S F w fun b h' ρ' μ' g S' c => ?_)
  cases b with
  | true => exact (hl.go X S' (F.grow0 g) (c.1 rfl)).mono fun v h2 q => PE.trans g q
  | false => exact (hr.go X S' (F.grow0 g) (c.2 rfl)).mono fun v h2 q => PE.trans g q⟩

theorem datsP.is {vs : List Value} {as : List AV} {k} (i : IsVs ρ vs as) (w : datsP as k) : ∃ ds, IsAll ρ.f vs ds ∧ k ds := by
  induction i generalizing k with
  | nil => exact ⟨[], .nil, w⟩
  | cons a _ ih =>
    obtain ⟨d, rfl, w⟩ := datP.inv w
    obtain ⟨ds, i2, q⟩ := ih w
    exact ⟨_, .cons a i2, q⟩
theorem small_line {n : Nat} (hz : Nat.ble n 1000 = true) : n ≤ sizeLine := Nat.le_trans (Nat.le_of_ble_eq_true hz) (by decide)

theorem SndE.list {es : List Expr} {Ws : List WE} (hz : Nat.ble es.length 1000 = true) (H : SndL ns sc es Ws) : SndE ns sc (.List es p) (wList Ws) := ⟨fun _ _ => rfl, fun {M ρ σ μ h k} X S F w => by
  rw [arm_eval_List, H.star, backTo_trees]
  refine Ev.bind (Ev.standAt (Ev.bind (Ev.spliced H X S F w fun vs h' as ρ' μ' g S' i hl w => ?_)))
  obtain ⟨ds, ia, q⟩ := datsP.is i w
  exact (Ev.newList S' ia (hl ▸ small_line hz)).pe g q⟩
theorem SndE.tup {es : List Expr} {Ws : List WE} {j : Nat} (hz : Nat.ble es.length 1000 = true) (H : SndL ns sc es Ws) : SndE ns sc (.Tuple es j p) (wTup Ws) := ⟨fun _ _ => rfl, fun {M ρ σ μ h k} X S F w => by
  rw [arm_eval_Tuple, H.star, backTo_trees]
  refine Ev.bind (Ev.standAt (Ev.bind (Ev.spliced H X S F w fun vs h' as ρ' μ' g S' i hl w => ?_)))
  obtain ⟨ds, ia, q⟩ := datsP.is i w
  exact (Ev.newTuple S' ia (hl ▸ small_line hz)).pe g q⟩

theorem SndE.idx (hl : SndE ns sc x L) (hr : SndE ns sc y R) : SndE ns sc (.Subscript x y p) (wIdx L R) := ⟨fun _ _ => rfl, fun {M ρ σ μ h k} X S F w => by
  refine Ev.Subscript (hl.two hr X S F w fun va vb h' a b ρ' μ' g S' ia ib w => ?_)
  obtain ⟨xs, La, w⟩ := lstP.at w S' ia
  obtain ⟨i, rfl, j, d, e1, e2, q⟩ := intP.inv w
  obtain ⟨t, rfl⟩ := is_int ib
  exact evTail (T := "list") (id := "list.__getitem__") (fun s hs => let ⟨_, _, _, e, ho, _⟩ := La; e ▸ ⟨_, hs ▸ ho, rfl⟩) list_getitem_lookup ((Ev.getIdx S' La e1 e2).pe g q)⟩

inductive SndO (ns : List Str) (sc : Scope) : Option Expr → Option WE → Prop
  | none : SndO ns sc none none
  | some {x W} : SndE ns sc x W → SndO ns sc (some x) (some W)
theorem SndO.go {x : Option Expr} {W : Option WE} {k : Option Int → Mem → Prop} {Q : Value → Heap → Prop} (H : SndO ns sc x W) (X : Wk ns sc M) (S : St M.h₀ ρ μ h) (F : FrS ρ M.env (sto ns σ) h) (w : wOpt W M.c σ μ k)
    (q : ∀ v h' l ρ' μ', Grow [] ρ h ρ' h' → St M.h₀ ρ' μ' h' → IsPart v l → k l μ' → Q v h') : Ev M (valueOrNone (evalOpt x M.env)) Q h := by
  cases H with
  | none => exact Ev.pure (q _ _ _ _ _ .refl S .none w)
  | some H =>
    refine (H.go X S F w).useE fun v h₁ a ρ₁ μ₁ g₁ S₁ i₁ w₁ => ?_
    obtain ⟨i, rfl, w₁⟩ := intP.inv w₁
    obtain ⟨t, rfl⟩ := is_int i₁
    exact q _ _ _ _ _ g₁ S₁ (.int _ _) w₁

def CutOk (P : AV → Option Int → Option Int → Option Int → Mem → (PyData → Prop) → Prop) : Prop := ∀ {M : Mc} {ρ : Mp} {μ : Mem} {h : Heap} {v vl vu vt : Value} {a : AV} {l u s : Option Int} {sl : Addr} {k : PyData → Prop} {x y : Expr}, St M.h₀ ρ μ h → IsV ρ v a → h.IsSliceOf sl vl vu vt → IsPart vl l → IsPart vu u → IsPart vt s → P a l u s μ k →
  ∃ d, k d ∧ Ev M (subscriptTail x y v (.ref sl)) (Res M ρ h (.d d) μ) h
theorem cutL.ok : CutOk cutL := by
  intro M ρ μ h v vl vu vt a l u s sl k x y S i hs pl pu pt w
  obtain ⟨xs, La, h0, hz, q⟩ := lstP.at w S i
  exact ⟨_, q, evTail (T := "list") (id := "list.__getitem__") (fun s hs => let ⟨_, _, _, e, ho, _⟩ := La; e ▸ ⟨_, hs ▸ ho, rfl⟩) list_getitem_lookup (Ev.getSlice S La hs pl pu pt h0 hz)⟩
theorem cutT.ok : CutOk cutT := by
  intro M ρ μ h v vl vu vt a l u s sl k x y S i hs pl pu pt w
  obtain ⟨z, rfl, rfl, hz, q⟩ := strP.inv w
  obtain ⟨t, rfl⟩ := is_str i
  cases pt
  exact ⟨_, q, evTail (T := "str") (id := "str.__getitem__") (fun s hs => typeIs_str s z t) PySem.F.slot_str_getitem.lookup (Ev.getSliceS S hs pl pu hz)⟩

theorem SndE.cut {P} {lo hi st : Option Expr} {wl wh ws : Option WE} {p' : Pos} (O : CutOk P) (H : SndE ns sc x L) (hl : SndO ns sc lo wl) (hh : SndO ns sc hi wh) (hs : SndO ns sc st ws) : SndE ns sc (.Subscript x (.Slice lo hi st p') p) (wCut P L wl wh ws) := ⟨fun _ _ => rfl, fun {M ρ σ μ h k} X S F w => by
  refine Ev.Subscript ((H.go X S F w).useE fun v h₁ a ρ₁ μ₁ g₁ S₁ i₁ w => ?_)
  rw [arm_eval_Slice]
  have F₁ := F.grow0 g₁
  refine Ev.bind (hl.go X S₁ F₁ w fun vl h₂ l ρ₂ μ₂ g₂ S₂ pl w => ?_)
  have F₂ := F₁.grow0 g₂
  refine Ev.bind (Ev.holding (hh.go X S₂ F₂ w fun vu h₃ u ρ₃ μ₃ g₃ S₃ pu w => ?_))
  have F₃ := F₂.grow0 g₃
  refine Ev.bind (Ev.holding (hs.go X S₃ F₃ w fun vt h₄ s ρ₄ μ₄ g₄ S₄ pt w => ?_))
  refine Ev.lift fun st hs _ Q' kk => ?_
  subst hs
  have hk := kept st.heap { cls := .type "slice", data := .fields #[vl, vu, vt] }
  obtain ⟨d, q, r⟩ := O (x := x) (y := .Slice lo hi _ p') (S₄.keepAll hk) (i₁.grow (g₂.trans (g₃.trans g₄))) (.new ..) pl pu pt w
  exact wpAny_newObj_type (kk _ _ _ (r.pe ((g₁.trans (g₂.trans (g₃.trans g₄))).trans (.keepAll hk)) q))⟩

theorem SndE.meth {id : String} {name : Str} {K P} {o : Expr} {args : List Expr} {Ws : List WE} {apos pos : Pos} (O : MethOk id name K P) (hn : ∀ env, attributeBase o name env (eval o env) = eval o env) (hp : apos.endLine = pos.line) (hz : Nat.ble args.length 28 = true) (H : SndE ns sc o L) (Hs : SndL ns sc args Ws) :
    SndE ns sc (.Call (.Attribute o name apos) args [] pos) (wMeth K P L Ws) := ⟨fun _ _ => rfl, fun {M ρ σ μ h k} X S F w => by
  refine evMethod (hn _) hp (Nat.lt_succ_of_le (Nat.le_of_ble_eq_true hz)) Hs ((H.go X S F w).useE fun v h₁ a ρ₁ μ₁ g₁ S₁ i₁ w => ?_)
  obtain ⟨T, on⟩ := O.on S₁ i₁ w.1
  exact ⟨id, T, on, Ev.spliced Hs X S₁ (F.grow0 g₁) w.2 fun vs h₂ as ρ₂ μ₂ g₂ S₂ i₂ _ w => (O.ok S₂ (i₁.grow g₂) i₂ w).mono fun v h2 q => PE.trans (g₁.trans g₂) q⟩⟩

/-- `x.replace('..', '..')`: the two texts are two objects of their own -/
theorem SndE.repl {o : Expr} {y z : Str} {k1 k2 : Nat} {apos pos p1 p2 : Pos} (hn : ∀ env, attributeBase o "replace" env (eval o env) = eval o env) (hp : apos.endLine = pos.line) (hyz : y ≠ z) (H : SndE ns sc o L) :
    SndE ns sc (.Call (.Attribute o "replace" apos) [.Constant (.str y) k1 p1, .Constant (.str z) k2 p2] [] pos) (wRepl L y z) := ⟨fun _ _ => rfl, fun {M ρ σ μ h k} X S F w => by
  refine evMethod (hn _) hp (Nat.lt_of_succ_le (Nat.le_of_ble_eq_true rfl)) (All2.cons (SndE.str (ns := ns) (sc := sc)) (.cons SndE.str .nil)) ((H.go X S F w).useE fun v h₁ a ρ₁ μ₁ g₁ S₁ i₁ w => ?_)
  obtain ⟨x, rfl, hb, q⟩ := strP.inv w
  refine ⟨"str.replace", _, on_str i₁ PySem.F.slot_str_replace PySem.F.type_str_replace, ?_⟩
  obtain ⟨t, rfl⟩ := is_str i₁
  intro s hs ht
  subst hs
  refine Calls.spliced_cons (Calls.Constant_str (Calls.spliced_cons (Calls.Constant_str (Calls.spliced_nil ⟨rfl, rfl, ?_⟩))))
  have n1 : @Ne Nat s.toks 0 := by omega
  have n2 : @Ne Nat (s.toks + 1) 0 := by omega
  have n3 : @Ne Nat s.toks (s.toks + 1) := by omega
  refine Ev.lift fun s2 hs2 _ Q' kk => SC.replace (u := s.toks) (v := s.toks + 1) n1 n2 n3 (beq_eq_false_iff_ne.mpr hyz) hb fun t' k => ?_
  have := kk (.str (Txt.replace x y z) t') s.heap k (PE.mk (a := .d (.str _)) g₁ S₁ (Is.str _ _) q)
  rw [← (show s2.heap = s.heap from hs2)] at this
  exact this⟩
end
end Mine
end
section
namespace Mine

def isGlob (sc : Scope) (x : Str) : Bool := sc.names.lookup x == some .globalImplicit && !(x == ("__debug__" : Str))

section
variable {M : Mc} {ρ : Mp} {μ : Mem} {h : Heap} {ns : List Str} {sc : Scope} {σ : Lo} {x y : Expr} {L R : WE} {p : Pos}

theorem St.keeps0 (S : St M.h₀ ρ μ h) : ∀ b o, M.h₀.get? b = some o → h.get? b = some o := fun b o e => S.fz _ _ (S.base _ _ e)

theorem Ev.global {σ : Sto} {x : Str} {v : Value} {Q : Value → Heap → Prop} (X : Wk ns sc M) (S : St M.h₀ ρ μ h) (F : FrS ρ M.env σ h)
    (hx : isGlob sc x = true) (hv : M.mg x = some v ∨ (M.mg x = none ∧ M.mb x = some v)) (q : Q v h) : Ev M (eval (.Name x p) M.env) Q h := by
  refine Ev.lift fun s hs _ Q' k => ?_
  subst hs
  unfold isGlob at hx
  rw [Bool.and_eq_true, Bool.not_eq_true'] at hx
  have hk : M.env.kindOf x = some .globalImplicit := by unfold Env.kindOf; rw [X.sc]; exact beq_iff_eq.mp hx.1
  refine Calls.Name_function_global F.fn hk ?_ hx.2
  have g1 : s.heap.Ns M.env.globals M.mg := by rw [F.gl]; exact X.G.g.keeps S.keeps0
  have b1 : s.heap.Ns M.env.builtins M.mb := by rw [F.bi]; exact X.G.b.keeps S.keeps0
  rcases hv with hv | ⟨h1, h2⟩
  · exact Calls.loadGlobal_global g1 hv (k v s.heap s.toks q)
  · exact Calls.loadGlobal_builtin g1 h1 b1 h2 (k v s.heap s.toks q)

theorem SndE.cst {z : Str} (hx : isGlob sc z = true) : SndE ns sc (.Name z p) (wCst z) := ⟨fun _ _ => rfl, fun X S F w => by
  obtain ⟨d, e, q⟩ := w
  obtain ⟨v, hv, i⟩ := X.G.cst z d e
  exact Ev.global X S F hx (.inl hv) (PE.same (a := .d d) S (i _) q)⟩

/-- a call of a built-in type or function by its name -/
theorem Ev.CallName {f : Str} {fp pos : Pos} {args : List Expr} {Ws : List WE} {v : Value} {k : List AV → Mem → Prop} {Q : Value → Heap → Prop} (X : Wk ns sc M) (S : St M.h₀ ρ μ h) (F : FrS ρ M.env (sto ns σ) h)
    (hx : isGlob sc f = true) (hv : M.mg f = some v ∨ (M.mg f = none ∧ M.mb f = some v)) (H : SndL ns sc args Ws)
    (c : Ev M (PySem.callWith pos v [] (trees args M.env) []) Q h) : Ev M (eval (.Call (.Name f fp) args [] pos) M.env) Q h := by
  rw [arm_eval_Call_Name']
  refine Ev.bind (Ev.global X S F hx hv ?_)
  rw [H.star, backTo_trees]
  exact c

theorem SndE.fn {f : Str} {fp : Pos} {args : List Expr} {Ws : List WE} (hx : isGlob sc f = true) (H : SndL ns sc args Ws) : SndE ns sc (.Call (.Name f fp) args [] p) (wFn f Ws) := ⟨fun _ _ => rfl, fun {M ρ σ μ h k} X S F w => by
  obtain ⟨Fn, ef, w⟩ := w
  obtain ⟨fa, o, fd, hv, ho, hd, cs⟩ := X.G.fns f Fn ef
  exact Ev.CallName (k := fun _ _ => True) X S F hx (.inl hv) H (callWithF (Ev.spliced H X S F w fun vs h₁ as ρ₁ μ₁ g₁ S₁ i₁ _ w => ⟨⟨S₁.keeps0 _ _ ho, hd⟩, (cs M rfl rfl rfl X.hA as vs ρ₁ μ₁ h₁ k w S₁ i₁).mono fun v h2 q => PE.trans g₁ q⟩))⟩

def B1Ok (id : String) (P : AV → Mem → KE → Prop) : Prop := ∀ {M : Mc} {ρ : Mp} {μ : Mem} {h : Heap} {v : Value} {a : AV} {k : KE}, M.A.handled = none → St M.h₀ ρ μ h → IsV ρ v a → P a μ k → Ev M (call (.builtin id) [v]) (PE M ρ h k) h
theorem SndE.b1 {id : String} {P} {fp : Pos} (O : B1Ok id P) (hg : ∀ {M : Mc}, Wk ns sc M → M.mg (Str.ofString id) = none ∧ M.mb (Str.ofString id) = some (.builtin id)) (hx : isGlob sc (Str.ofString id) = true) (H : SndE ns sc x L) : SndE ns sc (.Call (.Name (Str.ofString id) fp) [x] [] p) (wB1 P L) := ⟨fun _ _ => rfl, fun {M ρ σ μ h k} X S F w =>
  Ev.CallName (Ws := [L]) (k := fun _ _ => True) X S F hx (.inr (hg X)) (.one H) (Ev.callWith (first := []) rfl (Ev.spliced (.one H) X S F (k := fun as μ => oneP as fun a => P a μ k) w fun vs h₁ as ρ₁ μ₁ g₁ S₁ i₁ _ w => by
    obtain ⟨a, rfl, w⟩ := oneP.inv w
    obtain ⟨v, rfl, i⟩ := i₁.inv1
    exact (O X.hh S₁ i w).mono fun v h2 q => PE.trans g₁ q))⟩
theorem lenS.ok : B1Ok "len" lenS := by
  intro M ρ μ h v a k _ S i w
  obtain ⟨s, rfl, hz, q⟩ := strP.inv w
  obtain ⟨t, rfl⟩ := is_str i
  refine Ev.lift fun s hs _ Q' kk => PyProof.Rows.len_str (by omega) ?_
  subst hs
  exact kk _ s.heap _ (PE.same (a := .d (.int _)) S (Is.int _ _) q)
theorem lenL.ok : B1Ok "len" lenL := by
  intro M ρ μ h v a k _ S i w
  obtain ⟨xs, ⟨l, vs, n, rfl, hl, r, hs⟩, hz, q⟩ := lstP.at w S i
  refine Ev.lift fun s hs' _ Q' kk => len_list (items := vs) (hs' ▸ ⟨_, hl, rfl, n, rfl⟩) (by omega) ?_
  subst hs'
  rw [hs]
  exact kk _ s.heap _ (PE.same (a := .d (.int _)) S (Is.int _ _) q)
theorem ints_nums {ρ : Frz} {vs : List Value} {is : List Int} (h : IsAll ρ vs (is.map .int)) : (∀ v ∈ vs, ∃ a t, v = Value.int a t) ∧ numsOf vs = is := by
  induction is generalizing vs with
  | nil => cases h; exact ⟨fun v m => (by cases m), rfl⟩
  | cons i is ih =>
    obtain ⟨v, ws, rfl, i1, r⟩ := h.uncons
    obtain ⟨t, rfl⟩ := is_int i1
    obtain ⟨h1, h2⟩ := ih r
    exact ⟨fun v m => (List.mem_cons.mp m).elim (fun e => ⟨i, t, e⟩) (h1 v), congrArg (i :: ·) h2⟩
theorem sumL.ok : B1Ok "sum" sumL := by
  intro M ρ μ h v a k hh S i w
  obtain ⟨xs, rfl, is, rfl, q⟩ := lstD.inv w
  obtain ⟨l, vs, n, rfl, hl, r, _⟩ := is_list i
  obtain ⟨h1, h2⟩ := ints_nums r
  have hall : AllInts vs := fun v m => h1 v (Array.mem_toList_iff.mpr m)
  obtain ⟨ys, rfl⟩ := hall.items
  refine Ev.lift fun s hs _ Q' kk => ?_
  subst hs
  refine sum_intListG hh ⟨_, S.fz _ _ hl, rfl, n, rfl⟩ fun h' tk t' hk => ?_
  have e1 : preSum (numAt ys) ys.size = is.sum := by
    rw [nums_intItems] at h2
    rw [preSum_eq, List.take_of_length_le (by simp), h2]
  rw [e1]
  exact kk _ h' tk (PE.mk (a := .d (.int _)) (.keepAll hk) (S.keepAll hk) (Is.int _ _) q)

open Builtin.Str in
theorem split_call {x y : Str} {t u : Tok} {s : Shared} {Q : Value → Shared → Prop} {E : Value → Shared → Prop} (hy : (y.length == 0) = false) (hx : x.length ≤ 1048576)
    (k : ∀ (l : List (Str × Tok)) tk, l.map (·.1) = Txt.split x y → Q (.ref s.heap.objs.size) { s with heap := s.heap.push { cls := .type "list", data := .seq (strValues l).toArray }, toks := tk }) :
    wpAny (model M.prog M.w) M.A (call (.builtin "str.split") [.str x t, .str y u]) Q E s := by
  have hs : sizeLine = 16777216 := rfl
  cases h1 : (decide (x.length < y.length) || decide (strKind x < strKind y))
  · cases hf : (occurrences x y 0 x.length (x.length + 1)).isEmpty
    · refine call_meets F.slot_str_split (typeIs_str _ _ _) F.entry_str_split (F.args_str_split_2 _ _) (meets_str_split_sep x y t u h1 hy hf (by omega) ?_) ?_
      · unfold partsBetween
        have := StrLaws.occ_length_le x y 0 x.length (x.length + 1)
        simp only [List.length_map, List.length_zip, List.length_cons, List.length_append, List.length_nil]
        omega
      · show wants Q E _ { s with toks := _, heap := s.heap.push { cls := .type "list", data := .seq (strsFrom s.toks (partsBetween x (occurrences x y 0 x.length (x.length + 1)) y.length)).toArray } }
        rw [strsFrom_eq]
        exact k (numbered s.toks _) _ ((numbered_texts _ _).trans ((if_neg (ne_true_of_eq_false h1)).trans (if_neg (ne_true_of_eq_false hf))).symm)
    · exact call_meets F.slot_str_split (typeIs_str _ _ _) F.entry_str_split (F.args_str_split_2 _ _) (meets_str_split_not_found x y t u h1 hy hf)
        (k [(x, t)] s.toks ((if_neg (ne_true_of_eq_false h1)).trans (if_pos hf)).symm)
  · exact call_meets F.slot_str_split (typeIs_str _ _ _) F.entry_str_split (F.args_str_split_2 _ _) (meets_str_split_cannot_occur x y t u h1)
      (k [(x, t)] s.toks (if_pos h1).symm)

/-! ### where loops take their items -/
abbrev WI := Cx → Lo → Mem → (List PyData → Mem → Prop) → Prop
def itemsP (a : AV) (μ : Mem) (k : List PyData → Mem → Prop) : Prop := match a with
  | .h j => ∃ xs, μ[j]? = some (.lst xs) ∧ k xs (μ.set j .dead)
  | .d x => lstD (.d x) fun xs => k xs μ
def iItems (W : WE) : WI := fun c σ μ k => W c σ μ fun a μ => itemsP a μ k
def upTo (n : Nat) : List PyData := (List.range n).map fun (i : Nat) => .int (i : Int)
def downFrom (n : Nat) : List PyData := (List.range (n + 1)).map fun (i : Nat) => .int ((n : Int) - (i : Int))
def iUp (W : WE) : WI := fun c σ μ k => W c σ μ fun a μ => intP a fun i => ∃ n : Nat, i = n ∧ n < 2 ^ 31 ∧ k (upTo n) μ
def iDown (W V U : WE) : WI := fun c σ μ k => wArgs [W, V, U] c σ μ fun as μ => threeP as fun a b c => intP a fun i => intP b fun j => intP c fun l => ∃ n : Nat, i = n ∧ j = -1 ∧ l = -1 ∧ n < 2 ^ 30 ∧ k (downFrom n) μ

structure IterOf (M : Mc) (ρ : Mp) (h : Heap) (items : List PyData) (μ₁ : Mem) (h₂ : Heap) (I : Addr) (fp : List Addr) (P : Nat → Value → Prop) (It : Nat → Heap → Prop) (ρ₁ : Mp) : Prop where
  new : h.get? I = none
  gr : Grow [] ρ h ρ₁ h₂
  st : St M.h₀ ρ₁ μ₁ h₂
  fz : ρ₁.f I = none
  nh : I ∉ ρ₁.l
  wk : Walks M.prog M.w M.A I fp [I] items.length P It
  hP : ∀ ρ' : Frz, (∀ a o, ρ₁.f a = some o → ρ' a = some o) → ∀ i v, P i v → ∃ d, items[i]? = some d ∧ Is ρ' v d
  hfp : ∀ a ∈ fp, a = I ∨ ∃ o, ρ₁.f a = some o
  hob : ∀ i h, It i h → ∃ o, h.get? I = some o
  it0 : It 0 h₂

def IterAt (M : Mc) (ρ : Mp) (h : Heap) (items : List PyData) (μ₁ : Mem) (it : Value) (h₂ : Heap) : Prop :=
  ∃ I fp P It ρ₁, it = .ref I ∧ IterOf M ρ h items μ₁ h₂ I fp P It ρ₁

theorem IterAt.trans {ρ' h' items μ₁ it h₂} (g : Grow [] ρ h ρ' h') (x : IterAt M ρ' h' items μ₁ it h₂) : IterAt M ρ h items μ₁ it h₂ := by
  obtain ⟨I, fp, P, It, ρ₁, e, o⟩ := x
  exact ⟨I, fp, P, It, ρ₁, e, { o with new := g.back o.new, gr := g.trans o.gr }⟩

theorem Ev.iterList {v : Value} {xs : List PyData} (hh : M.A.handled = none) (S : St M.h₀ ρ μ h) (i : Is ρ.f v (.list xs)) : Ev M (pyIter v) (IterAt M ρ h xs μ) h := by
  obtain ⟨l, vs, n, rfl, hl, r, hz⟩ := is_list i
  refine Ev.lift fun s hs _ Q' kk => ?_
  subst hs
  have hlh := S.fz _ _ hl
  refine wpAny_pyIter_list (items := vs) ⟨_, hlh, rfl, n, rfl⟩ (kk _ _ s.toks ?_)
  have hk := kept s.heap { cls := .type "list_iterator", data := .fields #[.ref l, .int 0 0] }
  have hne : l ≠ s.heap.objs.size := Nat.ne_of_lt (Heap.lt_size hlh)
  have hnew : s.heap.get? s.heap.objs.size = none := fresh_at (Nat.le_refl _)
  refine ⟨s.heap.objs.size, [s.heap.objs.size, l], fun i v => vs[i]? = some v, fun i h => h.IsListIter s.heap.objs.size l i ∧ h.IsList l vs, ρ, rfl, ?_⟩
  refine ⟨hnew, .keepAll hk, S.keepAll hk, S.none_of_fresh hnew, S.notin_of_fresh hnew, ?_, fun ρ' m i v e => ?_, fun a ha => ?_, fun i h x => ?_, ?_⟩
  · rw [← hz]; exact Walks.list hh _ l hne vs
  · obtain ⟨d, e1, i1⟩ := r.get' (k := i) (v := v) (by rw [Array.getElem?_toList]; exact e)
    exact ⟨d, e1, i1.mono m⟩
  · rcases List.mem_cons.mp ha with rfl | ha
    · exact .inl rfl
    · exact .inr ⟨_, List.mem_singleton.mp ha ▸ hl⟩
  · obtain ⟨⟨o, ho, _⟩, _⟩ := x; exact ⟨o, ho⟩
  · exact ⟨⟨_, Heap.get?_push_size _ rfl, rfl, rfl⟩, ⟨_, hk _ _ hlh, rfl, n, rfl⟩⟩

theorem Ev.iterRange {a b c : Int} {r : Addr} {n : Nat} {t u v : Tok} {items : List PyData} (hh : M.A.handled = none) (S : St M.h₀ ρ μ h) (hr : IsRange h r a b c t u v) (hsm : Builtin.Range.small a b c = true) (hsz : Builtin.Range.rangeSize a b c = n) (hlen : items.length = n)
    (hit : ∀ i, i < n → items[i]? = some (.int (a + i * c))) : Ev M (pyIter (.ref r)) (IterAt M ρ h items μ) h := by
  refine Ev.lift fun s hs _ Q' kk => ?_
  subst hs
  refine wpAny_pyIter_range hr hsm (kk _ _ s.toks ?_)
  have hk := kept s.heap { cls := .type "range_iterator", data := .fields #[rawInt a, rawInt (Builtin.Range.rangeSize a b c), rawInt c] }
  have hnew : s.heap.get? s.heap.objs.size = none := fresh_at (Nat.le_refl _)
  have W := (Walks.range (prog := M.prog) (w := M.w) hh s.heap.objs.size a c n).bound
  refine ⟨s.heap.objs.size, [s.heap.objs.size], (fun i v => i < n ∧ ∃ t, v = Value.int (a + i * c) t), (fun i h => IsRangeIter h s.heap.objs.size (a + (i : Nat) * c) ((n : Int) - (i : Nat)) c), ρ, rfl, ?_⟩
  refine ⟨hnew, .keepAll hk, S.keepAll hk, S.none_of_fresh hnew, S.notin_of_fresh hnew, hlen ▸ W, fun ρ' m i v e => ?_, fun a ha => .inl (List.mem_singleton.mp ha), fun i h x => ⟨_, x⟩, ?_⟩
  · obtain ⟨e1, t', rfl⟩ := e
    exact ⟨_, hit i e1, .int _ _⟩
  · show IsRangeIter _ _ _ _ _
    rw [hsz]
    simpa using Heap.get?_push_size _ rfl

structure SndI (ns : List Str) (sc : Scope) (e : Expr) (W : WI) : Prop where
  fs : ∀ env v, foldedSetIterable e env v = pure v
  go : ∀ {M : Mc} {ρ : Mp} {σ : Lo} {μ : Mem} {h : Heap} {k : List PyData → Mem → Prop} {Q : Value → Heap → Prop}, Wk ns sc M → St M.h₀ ρ μ h → FrS ρ M.env (sto ns σ) h → W M.c σ μ k →
    (∀ it h₂ items μ₁, IterAt M ρ h items μ₁ it h₂ → k items μ₁ → Q it h₂) → Ev M (eval e M.env) (fun v h₁ => Ev M (pyIter v) Q h₁) h

theorem SndI.items (hf : ∀ env v, foldedSetIterable x env v = pure v) (H : SndE ns sc x L) : SndI ns sc x (iItems L) := ⟨hf, fun {M ρ σ μ h k Q} X S F w q => by
  refine (H.go X S F w).useE fun v h₁ a ρ₁ μ₁ g₁ S₁ i₁ w => ?_
  cases a with
  | d d =>
    obtain ⟨xs, e, w⟩ := lstD.inv w
    cases e
    exact (Ev.iterList X.hh S₁ i₁).mono fun it h₂ x => q _ _ _ _ (x.trans g₁) w
  | h j =>
    obtain ⟨xs, hm, w⟩ := w
    obtain ⟨l, hl, rfl⟩ := i₁
    obtain ⟨ρ2, S2, i2, g2, _⟩ := S₁.freezeH hl hm
    exact (Ev.iterList X.hh S2 i2).mono fun it h₂ x => q _ _ _ _ (x.trans (g₁.trans (g2 []))) w⟩

theorem small_down {a : Int} (ha : 0 ≤ a) (ha' : a < 2 ^ 30) : Builtin.Range.small a (-1) (-1) = true := by
  unfold Builtin.Range.small Builtin.Range.rangeFitsLong Builtin.Range.rangeSize
  simp only [show ¬ ((-1 : Int) > 0) by decide, if_false, Bool.and_eq_true, Bool.or_eq_true, decide_eq_true_eq, show -(-1 : Int) = 1 from rfl, Int.ediv_one]
  split <;> (refine ⟨⟨⟨⟨?_, ?_⟩, ?_⟩, ?_⟩, .inr ?_⟩ <;> (constructor <;> omega))
theorem size_up {n : Nat} : Builtin.Range.rangeSize 0 n 1 = (n : Int) := by
  unfold Builtin.Range.rangeSize
  simp only [show ((1 : Int) > 0) by decide, if_true, Int.ediv_one]
  split <;> omega
theorem size_down {n : Nat} : Builtin.Range.rangeSize n (-1) (-1) = ((n + 1 : Nat) : Int) := by
  unfold Builtin.Range.rangeSize
  simp only [show ¬ ((-1 : Int) > 0) by decide, if_false, show -(-1 : Int) = 1 from rfl, Int.ediv_one]
  split <;> omega

theorem SndI.up {fp : Pos} (hx : isGlob sc "range" = true) (H : SndE ns sc x L) : SndI ns sc (.Call (.Name "range" fp) [x] [] p) (iUp L) := ⟨fun _ _ => rfl, fun {M ρ σ μ h k Q} X S F w q =>
  Ev.CallName (Ws := [L]) (k := fun _ _ => True) X S F hx (.inr X.G.range) (.one H) (Ev.callWith (first := []) rfl (Ev.spliced (.one H) X S F (k := fun as μ => oneP as fun a => intP a fun i => ∃ n : Nat, i = n ∧ n < 2 ^ 31 ∧ k (upTo n) μ) w fun vs h₁ as ρ₁ μ₁ g₁ S₁ i₁ _ w => by
    obtain ⟨a, rfl, w⟩ := oneP.inv w
    obtain ⟨v, rfl, i⟩ := i₁.inv1
    obtain ⟨_, rfl, n, rfl, hn, w⟩ := intP.inv w
    obtain ⟨t, rfl⟩ := is_int i
    refine Ev.lift fun s hs _ Q' kk => ?_
    subst hs
    have hk := fun o => kept s.heap o
    refine call_range_1 (kk _ _ (s.toks + 1 + 1) ?_)
    refine (Ev.iterRange (items := upTo n) (n := n) (a := 0) (b := n) (c := 1) X.hh (S₁.keepAll (hk _)) (Heap.get?_push_size _ rfl) (small_one (by decide) (by decide) (by omega) (by omega)) size_up (by simp [upTo]) ?_).mono fun it h₂ x => q _ _ _ _ (x.trans (g₁.trans (.keepAll (hk _)))) w
    intro i hi; simp [upTo, hi]))⟩
theorem SndI.down {fp : Pos} {y z : Expr} {V U : WE} (hx : isGlob sc "range" = true) (H : SndE ns sc x L) (H2 : SndE ns sc y V) (H3 : SndE ns sc z U) : SndI ns sc (.Call (.Name "range" fp) [x, y, z] [] p) (iDown L V U) := ⟨fun _ _ => rfl, fun {M ρ σ μ h k Q} X S F w q =>
  Ev.CallName (Ws := [L, V, U]) (k := fun _ _ => True) X S F hx (.inr X.G.range) (.cons H (.cons H2 (.one H3))) (Ev.callWith (first := []) rfl (Ev.spliced (.cons H (.cons H2 (.one H3))) X S F w fun vs h₁ as ρ₁ μ₁ g₁ S₁ i₁ _ w => by
    obtain ⟨a, b, c, rfl, w⟩ := threeP.inv w
    obtain ⟨_, _, _, rfl, i, j1, j2⟩ := i₁.inv3
    obtain ⟨_, rfl, w⟩ := intP.inv w
    obtain ⟨_, rfl, w⟩ := intP.inv w
    obtain ⟨_, rfl, n, rfl, rfl, rfl, hn, w⟩ := intP.inv w
    obtain ⟨t, rfl⟩ := is_int i
    obtain ⟨t, rfl⟩ := is_int j1
    obtain ⟨t, rfl⟩ := is_int j2
    refine Ev.lift fun s hs _ Q' kk => ?_
    subst hs
    have hk := fun o => kept s.heap o
    refine call_range_3 (by decide) (kk _ _ s.toks ?_) (.inl (PyProof.noPylong_small (by decide)))
    refine (Ev.iterRange (items := downFrom n) (n := n + 1) (a := n) (b := -1) (c := -1) X.hh (S₁.keepAll (hk _)) (Heap.get?_push_size _ rfl) (small_down (by omega) (by omega)) size_down (by simp [downFrom]) ?_).mono fun it h₂ x => q _ _ _ _ (x.trans (g₁.trans (.keepAll (hk _)))) w
    intro i hi; simp [downFrom, hi]; omega))⟩
end
end Mine
end
section
namespace Mine

inductive AFlow where
  | next | brk | cont
  | ret (a : AV)
abbrev KS := AFlow → Lo → Mem → Prop
abbrev WS := Cx → Lo → Mem → KS → Prop

inductive FlowIs (ρ : Mp) : Flow → AFlow → Prop
  | next : FlowIs ρ .next .next
  | brk : FlowIs ρ .brk .brk
  | cont : FlowIs ρ .cont .cont
  | ret {v a} : IsV ρ v a → FlowIs ρ (.ret v) (.ret a)

/-- how a statement or a block ends -/
def PX (M : Mc) (ns : List Str) (ρ : Mp) (h : Heap) (k : KS) (f : Flow) (h' : Heap) : Prop :=
  ∃ fl ρ' σ' μ', Grow (owned M.env) ρ h ρ' h' ∧ St M.h₀ ρ' μ' h' ∧ FrS ρ' M.env (sto ns σ') h' ∧ FlowIs ρ' f fl ∧ k fl σ' μ'

structure SndS (ns : List Str) (sc : Scope) (s : Stmt) (W : WS) : Prop where
  go : ∀ {M : Mc} {ρ : Mp} {σ : Lo} {μ : Mem} {h : Heap} {k : KS}, Wk ns sc M → St M.h₀ ρ μ h → FrS ρ M.env (sto ns σ) h → W M.c σ μ k → Ev M (exec s M.env) (PX M ns ρ h k) h
structure SndB (ns : List Str) (sc : Scope) (s : List Stmt) (W : WS) : Prop where
  go : ∀ {M : Mc} {ρ : Mp} {σ : Lo} {μ : Mem} {h : Heap} {k : KS}, Wk ns sc M → St M.h₀ ρ μ h → FrS ρ M.env (sto ns σ) h → W M.c σ μ k → Ev M (execs s M.env) (PX M ns ρ h k) h

def frzP (a : AV) (μ : Mem) (k : PyData → Mem → Prop) : Prop := match a with
  | .h j => ∃ xs, μ[j]? = some (.lst xs) ∧ k (.list xs) (μ.set j .dead)
  | .d x => k x μ
def seqP (W : WS) (c : Cx) (Q : KS) : KS
  | .next, σ, μ => W c σ μ Q
  | f, σ, μ => Q f σ μ
def sNil : WS := fun _ σ μ Q => Q .next σ μ
def sSeq (A B : WS) : WS := fun c σ μ Q => A c σ μ (seqP B c Q)
def sBlk : List WS → WS
  | [] => sNil
  | s :: r => sSeq s (sBlk r)
def unitP (a : AV) (k : Prop) : Prop := match a with
  | .d .none => k
  | _ => False
def sExpr (e : WE) : WS := fun c σ μ Q => e c σ μ fun a μ => unitP a (Q .next σ μ)
def sAsg (n : Nat) (e : WE) : WS := fun c σ μ Q => e c σ μ fun a μ => frzP a μ fun d μ => Q .next (σ.set n (some (.d d))) μ
def newP (n : Nat) (σ : Lo) (μ : Mem) (m : MO) (Q : KS) : Prop := Q .next (σ.set n (some (.h μ.length))) (μ ++ [m])
def sNewL (n : Nat) (es : List WE) : WS := fun c σ μ Q => wArgs es c σ μ fun as μ => datsP as fun ds => newP n σ μ (.lst ds) Q
def sNewS (n : Nat) : WS := fun _ σ μ Q => newP n σ μ (.set []) Q
def sSplit (n : Nat) (o : WE) (y : WE) : WS := fun c σ μ Q => o c σ μ fun a μ => strP a fun x => y c σ μ fun b μ => strP b fun z => z.length ≠ 0 ∧ x.length ≤ 1048576 ∧ newP n σ μ (.lst ((Txt.split x z).map .str)) Q
def sTwo (n m : Nat) (e f : WE) : WS := fun c σ μ Q => e c σ μ fun a μ => f c σ μ fun b μ => datP a fun x => datP b fun y => Q .next ((σ.set m (some (.d y))).set n (some (.d x))) μ
def setAll : List Nat → List PyData → Lo → Lo
  | n :: ns, d :: ds, σ => setAll ns ds (σ.set n (some (.d d)))
  | _, _, σ => σ
def sUnpk (ns : List Nat) (e : WE) : WS := fun c σ μ Q => e c σ μ fun a μ => tupP a fun ds => ds.length = ns.length ∧ Q .next (setAll ns ds σ) μ
def storP (o i : AV) (x : PyData) (μ : Mem) (k : Mem → Prop) : Prop := mutP o μ fun j xs => intP i fun z => ∃ q : Nat, z = q ∧ q < xs.length ∧ xs.length < 2 ^ 31 ∧ k (μ.set j (.lst (xs.set q x)))
def sStore (o i e : WE) : WS := fun c σ μ Q => e c σ μ fun a μ => datP a fun x => o c σ μ fun b μ => i c σ μ fun j μ => storP b j x μ fun μ => Q .next σ μ
def delP (o i : AV) (μ : Mem) (k : Mem → Prop) : Prop := mutP o μ fun j xs => intP i fun z => ∃ q : Nat, idxOf z xs.length = some q ∧ xs.length ≤ sizeLine ∧ k (μ.set j (.lst (xs.eraseIdx q)))
def sDel (o i : WE) : WS := fun c σ μ Q => o c σ μ fun b μ => i c σ μ fun j μ => delP b j μ fun μ => Q .next σ μ
def sAug (f : Int → Int → Int) (n : Nat) (e : WE) : WS := fun c σ μ Q => varP (σ.getD n none) fun a => intP a fun x => e c σ μ fun b μ => intP b fun y => Q .next (σ.set n (some (.d (.int (f x y))))) μ
def sIf (t : WT) (a b : WS) : WS := fun c σ μ Q => t c σ μ fun v μ => condP v (a c σ μ Q) (b c σ μ Q)
def sRet (e : WE) : WS := fun c σ μ Q => e c σ μ fun a μ => Q (.ret a) σ μ
def sAssert (t : WT) : WS := fun c σ μ Q => t c σ μ fun v μ => v = true ∧ Q .next σ μ
def sCont : WS := fun _ σ μ Q => Q .cont σ μ
def sBrk : WS := fun _ σ μ Q => Q .brk σ μ
/-- a loop's turn -/
def turnP (I : Lo → Mem → Prop) (Q : KS) : KS
  | .next, σ, μ => I σ μ
  | .cont, σ, μ => I σ μ
  | .brk, σ, μ => Q .next σ μ
  | .ret a, σ, μ => Q (.ret a) σ μ
def sWhile (t : WT) (b : WS) : WS := fun c σ μ Q => ∃ I : Nat → Lo → Mem → Prop, (∃ n, I n σ μ) ∧ ∀ n σ μ, I n σ μ → t c σ μ fun v μ => condP v (b c σ μ (turnP (fun σ μ => ∃ j, j < n ∧ I j σ μ) Q)) (Q .next σ μ)
def forP (n : Nat) (b : WS) (c : Cx) (items : List PyData) (σ : Lo) (μ : Mem) (Q : KS) : Prop := ∃ I : List PyData → Lo → Mem → Prop, I items σ μ ∧
  (∀ d ds σ μ, I (d :: ds) σ μ → b c (σ.set n (some (.d d))) μ (turnP (I ds) Q)) ∧ ∀ σ μ, I [] σ μ → Q .next σ μ
def sFor (n : Nat) (e : WI) (b : WS) : WS := fun c σ μ Q => e c σ μ fun items μ => forP n b c items σ μ Q

def isVar (sc : Scope) (x : Str) : Bool := sc.names.lookup x == some .local || sc.names.lookup x == some .cell

section
variable {M : Mc} {ρ : Mp} {μ : Mem} {h : Heap} {ns : List Str} {sc : Scope} {σ : Lo} {x y : Expr} {L R : WE} {A B : WS} {p : Pos} {s : Stmt} {r : List Stmt} {k : KS} {T : WT} {n : Nat} {z : Str}

theorem sto_set {a : AV} {y : Str} {b : AV} : ∀ {ns : List Str} {σ : Lo} {n : Nat}, ns.Nodup → ns[n]? = some z → sto ns (σ.set n (some a)) y = some b → upd (sto ns σ) z a y = some b := by
  intro ns
  induction ns with
  | nil => intro σ n _ h _; cases h
  | cons w ns ih =>
    intro σ n hn h1 h2
    unfold upd
    by_cases hy : y = z
    · rw [if_pos hy]
      cases σ with
      | nil => cases h2
      | cons c σ => cases n with
        | zero => cases h1; rw [List.set_cons_zero] at h2; exact ((if_pos hy).symm.trans h2 : _)
        | succ n =>
          obtain ⟨hw, hn⟩ := List.nodup_cons.mp hn
          rw [List.set_cons_succ] at h2
          have h3 := (if_neg fun (e : y = w) => hw (e ▸ hy ▸ List.mem_of_getElem? h1)).symm.trans h2
          have h4 := ih hn h1 h3
          unfold upd at h4
          rw [if_pos hy] at h4; exact h4
    · rw [if_neg hy]
      cases σ with
      | nil => cases h2
      | cons c σ => cases n with
        | zero =>
          cases h1
          rw [List.set_cons_zero] at h2
          exact (if_neg hy).trans ((if_neg hy).symm.trans h2)
        | succ n =>
          rw [List.set_cons_succ] at h2
          show (if y = w then c else sto ns σ y) = _
          have h2 : (if y = w then c else sto ns (σ.set n (some a)) y) = some b := h2
          by_cases hw : y = w
          · rw [if_pos hw] at h2 ⊢; exact h2
          · rw [if_neg hw] at h2 ⊢
            have h4 := ih (List.nodup_cons.mp hn).2 h1 h2
            unfold upd at h4
            rw [if_neg hy] at h4; exact h4

theorem isVar_kind (hx : isVar sc z = true) (e : M.env.scope = sc) : M.env.kindOf z = some .local ∨ M.env.kindOf z = some .cell := by
  unfold Env.kindOf
  rw [e]
  unfold isVar at hx
  rw [Bool.or_eq_true, beq_iff_eq, beq_iff_eq] at hx
  exact hx
theorem Ev.storeN {a : AV} {v : Value} {Q : Unit → Heap → Prop} (X : Wk ns sc M) (S : St M.h₀ ρ μ h) (F : FrS ρ M.env (sto ns σ) h) (hn : ns[n]? = some z) (hx : isVar sc z = true) (i : IsV ρ v a)
    (q : ∀ h', St M.h₀ ρ μ h' → FrS ρ M.env (sto ns (σ.set n (some a))) h' → Grow (owned M.env) ρ h ρ h' → Q () h') : Ev M (storeName M.env z v) Q h :=
  Ev.storeVar S F (isVar_kind hx X.sc) i fun h' S' F' g => q h' S' (F'.weaken fun _ _ => sto_set X.nd hn) g
theorem Ev.bindN {a : AV} {v : Value} {Q : Unit → Heap → Prop} (X : Wk ns sc M) (S : St M.h₀ ρ μ h) (F : FrS ρ M.env (sto ns σ) h) (hn : ns[n]? = some z) (hx : isVar sc z = true) (i : IsV ρ v a)
    (q : ∀ h', St M.h₀ ρ μ h' → FrS ρ M.env (sto ns (σ.set n (some a))) h' → Grow (owned M.env) ρ h ρ h' → Q () h') : Ev M (bindName M.env z v) Q h :=
  Ev.bindVar S F (isVar_kind hx X.sc) i fun h' S' F' g => q h' S' (F'.weaken fun _ _ => sto_set X.nd hn) g

theorem PX.mk {f fl ρ' h' σ' μ'} (g : Grow (owned M.env) ρ h ρ' h') (S : St M.h₀ ρ' μ' h') (F : FrS ρ' M.env (sto ns σ') h') (i : FlowIs ρ' f fl) (q : k fl σ' μ') : PX M ns ρ h k f h' := ⟨fl, ρ', σ', μ', g, S, F, i, q⟩
theorem PX.el {f h'} {P : Prop} (r : PX M ns ρ h k f h') (q : ∀ fl ρ' σ' μ', Grow (owned M.env) ρ h ρ' h' → St M.h₀ ρ' μ' h' → FrS ρ' M.env (sto ns σ') h' → FlowIs ρ' f fl → k fl σ' μ' → P) : P := by
  obtain ⟨fl, ρ', σ', μ', g, S, F, i, r⟩ := r
  exact q fl ρ' σ' μ' g S F i r
theorem PX.trans {f ρ₁ h₁ h'} (g : Grow (owned M.env) ρ h ρ₁ h₁) (r : PX M ns ρ₁ h₁ k f h') : PX M ns ρ h k f h' := r.el fun _ _ _ _ g' S F i q => .mk (g.trans g') S F i q
/-- behind a part that binds no name -/
theorem PX.of0 {f fl ρ' h' μ'} (F : FrS ρ M.env (sto ns σ) h) (g : Grow [] ρ h ρ' h') (S : St M.h₀ ρ' μ' h') (i : FlowIs ρ' f fl) (q : k fl σ μ') : PX M ns ρ h k f h' := .mk g.up S (F.grow0 g) i q

theorem SndB.nil : SndB ns sc [] (sBlk []) := ⟨fun _ S F w => by
  rw [arm_execs_nil]
  exact Ev.pure (.mk .refl S F .next w)⟩
theorem SndB.cons {Ws : List WS} (H : SndS ns sc s A) (Hr : SndB ns sc r (sBlk Ws)) : SndB ns sc (s :: r) (sBlk (A :: Ws)) := ⟨fun {M ρ σ μ h k} X S F w => by
  rw [arm_execs_cons]
  refine Ev.bind ((H.go X S F w).mono fun f h₁ q => q.el fun fl ρ' σ' μ' g S' F' i w' => ?_)
  cases i with
  | next => exact (Hr.go X S' F' w').mono fun f h' q => PX.trans g q
  | brk => exact Ev.pure (.mk g S' F' .brk w')
  | cont => exact Ev.pure (.mk g S' F' .cont w')
  | ret i => exact Ev.pure (.mk g S' F' (.ret i) w')⟩

theorem not_interactive {σ : Sto} (F : FrS ρ M.env σ h) : interactive M.env = false := by
  unfold interactive; rw [F.fn]; rfl

theorem SndS.expr (hc : ∀ t l env, swapsWith x t l env = pure false) (H : SndE ns sc x L) : SndS ns sc (.Expr x p) (sExpr L) := ⟨fun {M ρ σ μ h k} X S F w => by
  rw [exec_Expr M.env x p (not_interactive F) (hc _ _ _)]
  refine Ev.bind (Ev.standAt (Ev.bind ((H.go X S F w).useE fun v h₁ a ρ₁ μ₁ g₁ S₁ i₁ w => ?_)))
  have : a = .d .none ∧ k .next σ μ₁ := by
    rcases a with (_ | _ | _ | _ | _ | _ | _) | _ <;> first | exact ⟨rfl, w⟩ | exact w.elim
  obtain ⟨rfl, w⟩ := this
  cases is_none i₁
  rw [dropValue_plain (fun a e => by cases e)]
  exact Ev.pure (.of0 F g₁ S₁ .next w)⟩

theorem Ev.bindPX {a : AV} {v : Value} {ρ₁ h₁} (X : Wk ns sc M) (F : FrS ρ M.env (sto ns σ) h) (g : Grow [] ρ h ρ₁ h₁) (S : St M.h₀ ρ₁ μ h₁) (hn : ns[n]? = some z) (hx : isVar sc z = true) (i : IsV ρ₁ v a) (q : k .next (σ.set n (some a)) μ) :
    Ev M (bindName M.env z v >>= fun _ => Pure.pure Flow.next) (PX M ns ρ h k) h₁ :=
  Ev.bind (Ev.bindN X S (F.grow0 g) hn hx i fun _ S₂ F₂ g₂ => Ev.pure (.mk (g.up.trans g₂) S₂ F₂ .next q))

theorem Ev.asg {t : KE} {pz : Pos} (hc : ∀ t l env, swapsWith x t l env = Pure.pure false) (X : Wk ns sc M) (F : FrS ρ M.env (sto ns σ) h) (hn : ns[n]? = some z) (hx : isVar sc z = true) (H : Ev M (eval x M.env) (PE M ρ h t) h) (q : ∀ a μ, t a μ → k .next (σ.set n (some a)) μ) :
    Ev M (exec (.Assign [.Name z pz] x p) M.env) (PX M ns ρ h k) h := by
  rw [exec_Assign_Name M.env z pz x p (hc _ _ _)]
  exact Ev.bind (Ev.standAt (Ev.bind (H.useE fun v h₁ a ρ₁ μ₁ g₁ S₁ i₁ w => Ev.bind (Ev.standAt (Ev.bindPX X F g₁ S₁ hn hx i₁ (q _ _ w))))))

theorem PE.frz {v h'} {k : PyData → Mem → Prop} (r : PE M ρ h (fun a μ => frzP a μ k) v h') : PE M ρ h (fun a μ => ∃ d, a = .d d ∧ k d μ) v h' := r.el fun a ρ' μ' g S i w => by
  cases a with
  | d d => exact .mk g S i ⟨d, rfl, w⟩
  | h j =>
    obtain ⟨xs, hm, w⟩ := w
    obtain ⟨l, hl, rfl⟩ := i
    obtain ⟨ρ2, S2, i2, g2, _⟩ := S.freezeH hl hm
    exact .mk (a := .d (.list xs)) (g.trans (g2 [])) S2 i2 ⟨_, rfl, w⟩
theorem SndS.asg {pz : Pos} (hc : ∀ t l env, swapsWith x t l env = pure false) (hn : ns[n]? = some z) (hx : isVar sc z = true) (H : SndE ns sc x L) : SndS ns sc (.Assign [.Name z pz] x p) (sAsg n L) := ⟨fun {M ρ σ μ h k} X S F w =>
  Ev.asg hc X F hn hx ((H.go X S F w).mono fun v h' r => r.frz) fun a μ ⟨d, e, q⟩ => e ▸ q⟩
end
end Mine
end
section
namespace Mine
section
variable {M : Mc} {ρ : Mp} {μ : Mem} {h : Heap} {ns : List Str} {sc : Scope} {σ : Lo} {x y : Expr} {L R : WE} {A B : WS} {p : Pos} {s : Stmt} {r : List Stmt} {k : KS} {T : WT} {n : Nat} {z : Str}

/-! what a mutable name is bound to -/
theorem Res.handle {m : MO} {h' : Heap} (S : St M.h₀ ρ μ h) (hm : MIs ρ.f h' h.objs.size m) (hk : ∀ b o, h.get? b = some o → h'.get? b = some o) : Res M ρ h (.h μ.length) (μ ++ [m]) (.ref h.objs.size) h' := by
  obtain ⟨S', g⟩ := S.handle (m := m) (fresh_at (Nat.le_refl h.objs.size)) hm hk
  exact ⟨_, g [], S', h.objs.size, by rw [← S.len]; exact List.getElem?_concat_length, rfl⟩
theorem Ev.newListH {vs : List Value} {ds : List PyData} (S : St M.h₀ ρ μ h) (i : IsAll ρ.f vs ds) (hz : vs.length ≤ sizeLine) : Ev M (PySem.newList vs) (Res M ρ h (.h μ.length) (μ ++ [.lst ds])) h := by
  refine Ev.lift fun s hs _ Q' k => ?_
  subst hs
  exact wpAny_newObj_type (k _ _ s.toks (.handle S (.lst 0 vs.toArray (get_push_new _ _) i) (kept _ _))) hz
theorem Ev.newSetH (S : St M.h₀ ρ μ h) : Ev M (call (.type "set") []) (Res M ρ h (.h μ.length) (μ ++ [.set []])) h := by
  refine Ev.lift fun s hs _ Q' k => ?_
  subst hs
  refine call_set_0 fun led => ?_
  refine k _ _ s.toks (.handle S (.set ⟨M.prog, M.w, _, #[], 0, _, Heap.get?_push_size _ rfl, ⟨rfl, rfl, rfl⟩, rfl, fun e he => by simp at he, fun k => by simp, by decide, by rfl, rfl⟩) (kept _ _))

/-- a name bound to a new object -/
theorem SndS.new {W : Cx → Lo → Mem → (MO → Mem → Prop) → Prop} {pz : Pos} (hc : ∀ t l env, swapsWith x t l env = pure false) (hn : ns[n]? = some z) (hx : isVar sc z = true)
    (H : ∀ {M : Mc} {ρ : Mp} {σ : Lo} {μ : Mem} {h : Heap} {k : MO → Mem → Prop}, Wk ns sc M → St M.h₀ ρ μ h → FrS ρ M.env (sto ns σ) h → W M.c σ μ k → Ev M (eval x M.env) (PE M ρ h fun a μ' => ∃ μ m, a = .h μ.length ∧ μ' = μ ++ [m] ∧ k m μ) h) :
    SndS ns sc (.Assign [.Name z pz] x p) fun c σ μ Q => W c σ μ fun m μ => newP n σ μ m Q := ⟨fun {M ρ σ μ h k} X S F w =>
  Ev.asg hc X F hn hx (H X S F w) fun a μ' ⟨μ, m, e1, e2, q⟩ => by rw [e1, e2]; exact q⟩
theorem SndS.newL {es : List Expr} {Ws : List WE} {pz pl : Pos} (hz : Nat.ble es.length 1000 = true) (hn : ns[n]? = some z) (hx : isVar sc z = true) (H : SndL ns sc es Ws) : SndS ns sc (.Assign [.Name z pz] (.List es pl) p) (sNewL n Ws) :=
  .new (W := fun c σ μ k => wArgs Ws c σ μ fun as μ => datsP as fun ds => k (.lst ds) μ) (fun _ _ _ => rfl) hn hx fun {M ρ σ μ h k} X S F w => by
    rw [arm_eval_List, H.star, backTo_trees]
    refine Ev.bind (Ev.standAt (Ev.bind (Ev.spliced H X S F w fun vs h' as ρ' μ' g S' i hl w => ?_)))
    obtain ⟨ds, ia, q⟩ := datsP.is i w
    exact (Ev.newListH S' ia (hl ▸ small_line hz)).pe g ⟨_, _, rfl, rfl, q⟩
theorem SndS.newS {pz pf pl : Pos} (hg : isGlob sc "set" = true) (hn : ns[n]? = some z) (hx : isVar sc z = true) : SndS ns sc (.Assign [.Name z pz] (.Call (.Name "set" pf) [] [] pl) p) (sNewS n) :=
  .new (W := fun _ _ μ k => k (.set []) μ) (fun _ _ _ => rfl) hn hx fun {M ρ σ μ h k} X S F w =>
    Ev.CallName (k := fun _ _ => True) X S F hg (.inr X.G.set) .nil (Ev.callWith (first := []) rfl fun s hs ht => Calls.spliced_nil ⟨rfl, rfl, hs ▸ (Ev.newSetH S).pe .refl ⟨_, _, rfl, rfl, w⟩⟩)
theorem SndS.split {o : Expr} {pz apos pos : Pos} (ho : ∀ env, attributeBase o "split" env (eval o env) = eval o env) (hp : apos.endLine = pos.line) (hn : ns[n]? = some z) (hx : isVar sc z = true) (H : SndE ns sc o L) (H2 : SndE ns sc y R) :
    SndS ns sc (.Assign [.Name z pz] (.Call (.Attribute o "split" apos) [y] [] pos) p) (sSplit n L R) :=
  .new (W := fun c σ μ k => L c σ μ fun a μ => strP a fun x => R c σ μ fun b μ => strP b fun z => z.length ≠ 0 ∧ x.length ≤ 1048576 ∧ k (.lst ((Txt.split x z).map .str)) μ) (fun _ _ _ => rfl) hn hx fun {M ρ σ μ h k} X S F w => by
    refine evMethod (ho _) hp (Nat.lt_of_succ_le (Nat.le_of_ble_eq_true rfl)) (.one H2) ((H.go X S F w).useE fun v h₁ a ρ₁ μ₁ g₁ S₁ i₁ w => ?_)
    obtain ⟨x, rfl, w⟩ := strP.inv w
    refine ⟨"str.split", _, on_str i₁ PySem.F.slot_str_split PySem.F.type_str_split, ?_⟩
    refine Ev.spliced (Ws := [R]) (.one H2) X S₁ (F.grow0 g₁) (k := fun as μ => oneP as fun b => strP b fun z => z.length ≠ 0 ∧ x.length ≤ 1048576 ∧ k (.lst ((Txt.split x z).map .str)) μ) w fun vs h₂ as ρ₂ μ₂ g₂ S₂ i₂ _ w => ?_
    obtain ⟨b, rfl, w⟩ := oneP.inv w
    obtain ⟨y, rfl, hy, hz, w⟩ := strP.inv w
    obtain ⟨_, rfl, j⟩ := i₂.inv1
    obtain ⟨t, rfl⟩ := is_str i₁
    obtain ⟨u, rfl⟩ := is_str j
    refine Ev.lift fun s hs _ Q' kk => ?_
    subst hs
    exact split_call (beq_eq_false_iff_ne.mpr hy) hz fun l tk hl => kk _ _ tk ((Res.trans (g₁.trans g₂) (Res.handle S₂ (.lst 0 _ (get_push_new _ _) (hl ▸ strs_is l)) (kept _ _))).pe ⟨_, _, rfl, rfl, w⟩)

/-- a tuple, unpacked -/
theorem Ev.unpackTup {t : Addr} {vs : Array Value} {k n : Nat} (hh : M.A.handled = none) (S : St M.h₀ ρ μ h) (ho : h.get? t = some { cls := .type "tuple", data := .seq vs k }) (hn : vs.size = n) {Q : List Value → Heap → Prop}
    (q : ∀ h', St M.h₀ ρ μ h' → Grow [] ρ h ρ h' → Q vs.toList h') : Ev M (unpackItems (.ref t) n none) Q h := by
  subst hn
  refine Ev.lift fun s hs _ Q' kk => ?_
  subst hs
  refine wpAny_unpackItems_tuple hh ⟨_, ho, rfl, k, rfl⟩ fun h' he => ?_
  have hk : ∀ b o, s.heap.get? b = some o → h'.get? b = some o := fun b o e => he b o (Nat.ne_of_lt (Heap.lt_size e)) e
  exact kk _ h' s.toks (q h' (S.keepAll hk) (.keepAll hk))

/-- names in a row -/
inductive Names (ns : List Str) (sc : Scope) : List Expr → List Nat → Prop
  | nil : Names ns sc [] []
  | cons {z n p ts js} : ns[n]? = some z → isVar sc z = true → Names ns sc ts js → Names ns sc (.Name z p :: ts) (n :: js)
theorem each_Name {x : Str} {p : Pos} {ts : List Expr} (env : Env) : assignEach (.Name x p :: ts) env = (false, assign (.Name x p) env) :: assignEach ts env := rfl
theorem each_Tuple {ts : List Expr} {k : Nat} {p : Pos} (env : Env) : (assignEach [.Tuple ts k p] env).map (·.2) = [assign (.Tuple ts k p) env] := rfl
theorem Names.each {ts js} (H : Names ns sc ts js) (env : Env) : (assignEach ts env).length = js.length ∧ (assignEach ts env).findIdx? (·.1) = none := by
  induction H with
  | nil => exact ⟨rfl, rfl⟩
  | cons _ _ _ ih =>
    rw [each_Name]
    refine ⟨congrArg Nat.succ ih.1, ?_⟩
    rw [List.findIdx?_cons, ih.2]; rfl
theorem Names.go {ts js} (H : Names ns sc ts js) (X : Wk ns sc M) : ∀ {ds : List PyData} {vs : List Value} {ρ : Mp} {h : Heap} {σ : Lo}, IsAll ρ.f vs ds → ds.length = js.length → St M.h₀ ρ μ h → FrS ρ M.env (sto ns σ) h → k .next (setAll js ds σ) μ →
    Ev M (assignInOrder ((assignEach ts M.env).map (·.2)) vs) (fun _ h' => PX M ns ρ h k .next h') h := by
  induction H with
  | nil =>
    intro ds vs ρ h σ i hl S F q
    cases List.eq_nil_of_length_eq_zero hl
    exact Ev.pure (.mk .refl S F .next q)
  | cons hn hx _ ih =>
    intro ds vs ρ h σ i hl S F q
    cases i with
    | nil => cases hl
    | cons i1 i2 =>
      rw [each_Name, List.map_cons]
      unfold assignInOrder
      dsimp only
      rw [arm_assign_Name]
      refine Ev.bind (Ev.holding (Ev.bind (Ev.standAt (Ev.bindN (a := .d _) X S F hn hx i1 fun h₂ S₂ F₂ g₂ => ?_))))
      exact (ih (i2.mono g₂.rho) (Nat.succ.inj hl) S₂ F₂ q).mono fun _ h' r => r.trans g₂

theorem SndS.unpk {ts : List Expr} {js : List Nat} {j : Nat} {tp : Pos} (hs : ∀ t l env, swapsWith x t l env = pure false) (hw : ∀ env, swappedStores [.Tuple ts j tp] x env = pure none) (Hn : Names ns sc ts js) (H : SndE ns sc x L) : SndS ns sc (.Assign [.Tuple ts j tp] x p) (sUnpk js L) := ⟨fun {M ρ σ μ h k} X S F w => by
  have hs' : swapsWithSole [.Tuple ts j tp] x p.line M.env = pure false := by show swapsWith x (some (.Tuple ts j tp)) p.line M.env = pure false; exact hs _ _ _
  rw [PyProof.Rows.exec_Assign, hs']
  refine Ev.bind (Ev.standAt (Ev.bind (Ev.pure ?_)))
  rw [if_neg (by decide)]
  refine Ev.bind ((H.go X S F w).useE fun v h₁ a ρ₁ μ₁ g₁ S₁ i₁ w => ?_)
  rw [hw]
  refine Ev.bind (Ev.pure ?_)
  obtain ⟨ds, rfl, hl, w⟩ := tupP.inv w
  obtain ⟨l, vs, n, rfl, hl', ia, hsz⟩ := is_tuple i₁
  obtain ⟨hz, hf⟩ := Hn.each M.env
  rw [each_Tuple]
  unfold assignStores assignAll
  refine Ev.bind ?_
  rw [arm_assign_Tuple]
  refine Ev.bind (Ev.standAt ?_)
  unfold unpack
  rw [hf, hz]
  refine Ev.bind (Ev.holding (Ev.unpackTup X.hh S₁ (S₁.fz _ _ hl') (hsz.trans hl) fun h₂ S₂ g₂ => ?_))
  exact (Hn.go X ia hl S₂ ((F.grow0 g₁).grow0 g₂) w).mono fun _ h₃ q => Ev.pure (q.trans (g₁.trans g₂).up)⟩

def pairP (ds : List PyData) (k : PyData → PyData → Prop) : Prop := match ds with
  | [x, y] => k x y
  | _ => False
theorem pairP.inv {ds k} (w : pairP ds k) : ∃ x y, ds = [x, y] ∧ k x y := by
  rcases ds with _ | ⟨x, _ | ⟨y, _ | _⟩⟩
  · exact w.elim
  · exact w.elim
  · exact ⟨x, y, rfl, w⟩
  · exact w.elim
theorem SndS.two {e f : Expr} {j j' m : Nat} {u : Str} {tp vp pz pu : Pos} (hw : ∀ env, env.scope = sc → swappedStores [.Tuple [.Name z pz, .Name u pu] j tp] (.Tuple [e, f] j' vp) env = pure (some [z, u]))
    (hn : ns[n]? = some z) (hm : ns[m]? = some u) (hx : sc.names.lookup z = some .local) (hy : sc.names.lookup u = some .local) (H1 : SndE ns sc e L) (H2 : SndE ns sc f R) : SndS ns sc (.Assign [.Tuple [.Name z pz, .Name u pu] j tp] (.Tuple [e, f] j' vp) p) (sTwo n m L R) := ⟨fun {M ρ σ μ h k} X S F w => by
  have ix : isVar sc z = true := by unfold isVar; rw [hx]; rfl
  have iy : isVar sc u = true := by unfold isVar; rw [hy]; rfl
  rw [PyProof.Rows.exec_Assign]
  refine Ev.bind (Ev.standAt (Ev.bind (Ev.pure ?_)))
  rw [if_neg (by decide)]
  refine Ev.bind (((SndE.tup (j := j') (p := vp) rfl (.cons H1 (.one H2))).go (k := fun a μ => tupP a fun ds => pairP ds fun x y => k .next ((σ.set m (some (.d y))).set n (some (.d x))) μ) X S F w).useE fun v h₁ a ρ₁ μ₁ g₁ S₁ i₁ w => ?_)
  rw [hw M.env X.sc]
  refine Ev.bind (Ev.pure ?_)
  obtain ⟨ds, rfl, w2⟩ := tupP.inv w
  obtain ⟨a, b, rfl, w3⟩ := pairP.inv w2
  obtain ⟨l, vs, n, rfl, hl', ia, hsz⟩ := is_tuple i₁
  unfold assignStores
  refine Ev.bind (Ev.rule (Ev.bind (Ev.unpackTup X.hh S₁ (S₁.fz _ _ hl') hsz fun h₂ S₂ g₂ => ?_)))
  have F₂ := (F.grow0 g₁).grow0 g₂
  generalize vs.toList = vl at ia
  obtain ⟨va, _, rfl, ia1, ia⟩ := ia.uncons
  obtain ⟨vb, rfl, ib1⟩ := ia.inv1
  show Ev M (assignInOrder [fun v => bindName M.env u v, fun v => bindName M.env z v] [vb, va] >>= fun _ => pure Flow.next) _ h₂
  unfold assignInOrder
  refine Ev.bind (Ev.bind (Ev.holding (Ev.bindN (a := .d b) X S₂ F₂ hm iy ib1 fun h₃ S₃ F₃ g₃ => ?_)))
  unfold assignInOrder
  refine Ev.bind (Ev.holding (Ev.bindN (a := .d a) X S₃ F₃ hn ix (ia1.mono g₃.rho) fun h₄ S₄ F₄ g₄ => ?_))
  exact Ev.pure (Ev.pure (.mk (((g₁.trans g₂).up.trans g₃).trans g₄) S₄ F₄ .next w3))⟩
end
end Mine
end
section
namespace Mine

def EvC (M : Mc) (c : Code) (Q : Flow → Heap → Prop) (h : Heap) : Prop :=
  ∀ s : Shared, s.heap = h → 1 ≤ s.toks → codeAny (model M.prog M.w) M.A c (fun r s' => match r with
    | .ok f => s'.gens = s.gens ∧ s'.os = s.os ∧ Q f s'.heap
    | .error _ => False) s

theorem Grow.skip {X ρ h ρ₁ h₁ h₂} {I : Addr} (g : Grow X ρ h ρ₁ h₁) (hI : h.get? I = none) (hk : ∀ b o, b ≠ I → h₁.get? b = some o → h₂.get? b = some o) : Grow X ρ h ρ₁ h₂ :=
  { g with
    keep := fun b o e n1 n2 => hk b o (fun e' => by subst e'; rw [hI] at e; cases e) (g.keep b o e n1 n2)
    live := fun b o e => let ⟨o', e'⟩ := g.live b o e; ⟨o', hk b o' (fun e2 => by subst e2; rw [hI] at e; cases e) e'⟩ }

section
variable {M : Mc} {ρ : Mp} {μ : Mem} {h : Heap} {ns : List Str} {sc : Scope} {σ : Lo} {x y : Expr} {L R : WE} {A B : WS} {p : Pos} {s : Stmt} {r : List Stmt} {k : KS} {T : WT} {n : Nat} {z : Str} {env : Env}

theorem setItem_exact {s : Shared} {E : Value → Shared → Prop} {l : Addr} {items : Array Value} {n : Nat} {k : Int} {t : Tok} {v : Value} {Q : Unit → Shared → Prop} (ho : s.heap.get? l = some { cls := .type "list", data := .seq items n })
    (h0 : 0 ≤ k) (hfit : k < 2 ^ 63) (hn : k < items.size) (hQ : Q () { s with heap := s.heap.update l (Obj.mapSeq (·.setIfInBounds k.toNat v)) }) :
    wpAny (model M.prog M.w) M.A (setItem (.ref l) (.int k t) v) Q E s := by
  have hl : s.heap.IsList l items := ⟨_, ho, rfl, n, rfl⟩
  unfold setItem
  try with_reducible refine wpAny_holding ?_
  first | refine wpAny_bind (wpAny_pure ?_) | skip
  refine wpAny_bind (wpAny_sequenceKey hl.typeIs (by decide) ?_)
  refine wpAny_bind (wpAny_callSpecial?_slot (name := Str.ofString "__setitem__") hl.typeIs PySem.slot_list_setitem
    (wpAny_call_entry PySem.slot_list_setitem hl.typeIs PySem.entry_list_setitem ?_ (PySem.args_list_setitem _ _ _)))
  show wpAny _ _ (Builtin.List.listSubscript? (.int k t) >>= _) _ _ s
  refine wpAny_bind (wpAny_listSubscript_int (fitsIndex_of h0 hfit) ?_)
  clear hfit
  obtain ⟨j, rfl⟩ := Int.eq_ofNat_of_zero_le h0
  have hj : j < items.size := by omega
  have hx' : items[j]? = some items[j] := Array.getElem?_eq_getElem hj
  show wpAny _ _ ((seqItemAt l j >>= fun r => pure (r.map (j, ·))) >>= _) _ _ s
  refine wpAny_bind (wpAny_bind (wpAny_seqItemAt ho rfl (wpAny_pure ?_)))
  rw [hx']
  show wpAny _ _ (setSeqItemAt l j v >>= _) _ _ s
  refine wpAny_bind (wpAny_setSeqItemAt ho rfl ?_)
  first
    | exact wpAny_bind (wpAny_pure (wpAny_pure ⟨.none, rfl, wpAny_pure hQ⟩))
    | exact wpAny_pure ⟨.none, rfl, wpAny_pure hQ⟩


theorem Ev.setAt {v : Value} {x : PyData} {b a : AV} {o i : Value} {k : Mem → Prop} {Q : Unit → Heap → Prop} (S : St M.h₀ ρ μ h) (io : IsV ρ o b) (ii : IsV ρ i a) (ix : Is ρ.f v x) (w : storP b a x μ k)
    (q : ∀ h' μ', St M.h₀ ρ μ' h' → Grow [] ρ h ρ h' → k μ' → Q () h') : Ev M (setItem o i v) Q h := by
  obtain ⟨j, rfl, xs, hm, w⟩ := hndP.inv w
  obtain ⟨_, rfl, i, rfl, hi, hz, w⟩ := intP.inv w
  obtain ⟨l, vs, n, rfl, hl, ho, r, hsz⟩ := S.lst io hm
  obtain ⟨t, rfl⟩ := is_int ii
  refine Ev.lift fun s hs _ Q' kk => ?_
  subst hs
  refine setItem_exact ho (Int.natCast_nonneg _) (by omega) (by omega) (kk _ _ s.toks ?_)
  have ho' := IsL.update (h := s.heap) (l := l) (items := vs) (n := n) ho (fun xs => xs.setIfInBounds i v)
  obtain ⟨s', g⟩ := S.turn (m := .lst (xs.set i x)) (h' := s.heap.update l (Obj.mapSeq fun xs => xs.setIfInBounds i v)) hl hm (fun e => by cases e) (.lst _ _ ho' (by rw [Array.toList_setIfInBounds]; exact r.set i ix)) upd_other
  exact q _ _ s' (g []) w

theorem SndS.store {o i : Expr} {W V : WE} {ps : Pos} (hc : ∀ t l env, swapsWith x t l env = pure false) (Ho : SndE ns sc o W) (Hi : SndE ns sc i V) (H : SndE ns sc x L) : SndS ns sc (.Assign [.Subscript o i ps] x p) (sStore W V L) := ⟨fun {M ρ σ μ h k} X S F w => by
  rw [exec_Assign_Subscript _ _ _ _ _ (hc _ _ _)]
  refine Ev.bind (Ev.standAt (Ev.bind ((H.go X S F w).useE fun v h₁ a ρ₁ μ₁ g₁ S₁ i₁ w => ?_)))
  obtain ⟨d, rfl, w⟩ := datP.inv w
  refine Ev.bind ?_
  rw [assign_Subscript]
  refine Ev.bind (Ev.holding ((Ho.go X S₁ (F.grow0 g₁) w).useE fun ov h₂ b ρ₂ μ₂ g₂ S₂ i₂ w => ?_))
  refine Ev.bind (Ev.holding ((Hi.go X S₂ (F.grow0 (g₁.trans g₂)) w).useE fun iv h₃ c ρ₃ μ₃ g₃ S₃ i₃ w => ?_))
  refine Ev.bind (Ev.standAt (Ev.bind (Ev.holding (Ev.setAt S₃ (i₂.grow g₃) i₃ (IsV.grow (a := .d d) i₁ (g₂.trans g₃)) w fun h₄ μ₄ S₄ g₄ w => ?_))))
  exact Ev.release (Ev.pure (.of0 F ((g₁.trans (g₂.trans g₃)).trans g₄) S₄ .next w))⟩

theorem Ev.delAt {b a : AV} {o i : Value} {k : Mem → Prop} {Q : Unit → Heap → Prop} (S : St M.h₀ ρ μ h) (io : IsV ρ o b) (ii : IsV ρ i a) (w : delP b a μ k)
    (q : ∀ h' μ', St M.h₀ ρ μ' h' → Grow [] ρ h ρ h' → k μ' → Q () h') : Ev M (delItem o i) Q h := by
  obtain ⟨j, rfl, xs, hm, w⟩ := hndP.inv w
  obtain ⟨z, rfl, i, hi, hz, w⟩ := intP.inv w
  obtain ⟨l, vs, n, rfl, hl, ho, r, hsz⟩ := S.lst io hm
  obtain ⟨t, rfl⟩ := is_int ii
  obtain ⟨h1, h2, h3⟩ := idx_facts hi
  refine Ev.lift fun s hs _ Q' kk => ?_
  subst hs
  have ho' := IsL.update (h := s.heap) (l := l) (items := vs) (n := n) ho (fun xs => xs.eraseIdxIfInBounds i)
  obtain ⟨s', g⟩ := S.turn (m := .lst (xs.eraseIdx i)) (h' := s.heap.update l (Obj.mapSeq fun xs => xs.eraseIdxIfInBounds i)) hl hm (fun e => by cases e) (.lst _ _ ho' (by rw [Array.toList_eraseIdxIfInBounds]; exact r.eraseIdx i)) upd_other
  exact P.delItem_list ho h2 (by rw [hsz]; exact h1) (kk _ _ s.toks (q _ _ s' (g []) w)) (by rw [hsz]; exact hz)

theorem SndS.del {o i : Expr} {W V : WE} {ps : Pos} (Ho : SndE ns sc o W) (Hi : SndE ns sc i V) : SndS ns sc (.Delete [.Subscript o i ps] p) (sDel W V) := ⟨fun {M ρ σ μ h k} X S F w => by
  rw [arm_exec_Delete, arm_deleteEach_cons, arm_deleteEach_nil, arm_delete_Subscript]
  refine Ev.bind (Ev.standAt (Ev.bind (Ev.bind (Ev.bind ((Ho.go X S F w).useE fun ov h₂ b ρ₂ μ₂ g₂ S₂ i₂ w => ?_)))))
  refine Ev.bind (Ev.holding ((Hi.go X S₂ (F.grow0 g₂) w).useE fun iv h₃ c ρ₃ μ₃ g₃ S₃ i₃ w => ?_))
  refine Ev.bind (Ev.standAt (Ev.bind (Ev.holding (Ev.delAt S₃ (i₂.grow g₃) i₃ w fun h₄ μ₄ S₄ g₄ w => ?_))))
  exact Ev.release (Ev.pure (Ev.pure (.of0 F ((g₂.trans g₃).trans g₄) S₄ .next w)))⟩

def AugOk (op : Operator) (f : Int → Int → Int) : Prop := ∀ {M : Mc} {ρ : Mp} {μ : Mem} {h : Heap} {a b : Int} {t u : Tok}, St M.h₀ ρ μ h → Ev M (inplaceOp op (.int a t) (.int b u)) (Res M ρ h (.d (.int (f a b))) μ) h
theorem aug_add : AugOk .Add (fun a b => a + b) := fun S => Ev.ofInt S fun _ _ q => wpAny_iadd_int q
theorem aug_sub : AugOk .Sub (fun a b => a - b) := fun S => Ev.ofInt S fun _ _ q => PySem.AutoIntOps.isub_0 q
theorem SndS.aug {op : Operator} {f : Int → Int → Int} {pz : Pos} (O : AugOk op f) (hn : ns[n]? = some z) (hx : isVar sc z = true) (H : SndE ns sc x L) : SndS ns sc (.AugAssign (.Name z pz) op x p) (sAug f n L) := ⟨fun {M ρ σ μ h k} X S F w => by
  rw [exec_AugAssign_Name]
  obtain ⟨a, h1, w⟩ := varP.inv w
  obtain ⟨a, rfl, w⟩ := intP.inv w
  refine Ev.bind (Ev.standAt (Ev.bind (Ev.loadVar F (sto_get X.nd hn h1) fun v i => ?_)))
  obtain ⟨t, rfl⟩ := is_int i
  refine Ev.bind (Ev.holding ((H.go X S F w).useE fun v h₁ b ρ₁ μ₁ g₁ S₁ i₁ w => ?_))
  obtain ⟨b, rfl, w⟩ := intP.inv w
  obtain ⟨u, rfl⟩ := is_int i₁
  refine Ev.bind (Ev.standAt ?_)
  refine Ev.bind ?_
  refine Ev.operate ?_
  refine (O S₁).useR fun v h₂ ρ₂ g₂ S₂ i₂ => ?_
  refine Ev.bind (Ev.standAt ?_)
  exact Ev.bindPX X F (g₁.trans g₂) S₂ hn hx i₂ w⟩

theorem SndS.ite {t : Expr} {body orelse : List Stmt} (H : SndT ns sc t T) (Ha : SndB ns sc body A) (Hb : SndB ns sc orelse B) : SndS ns sc (.If t body orelse p) (sIf T A B) := ⟨fun {M ρ σ μ h k} X S F w => by
  rw [arm_exec_If]
  refine Ev.bind (Ev.standAt (Ev.bind (H.go X S F w fun b h' ρ' μ' g S' c => ?_)))
  cases b with
  | true => exact (Ha.go X S' (F.grow0 g) (c.1 rfl)).mono fun f h' q => q.trans g.up
  | false => exact (Hb.go X S' (F.grow0 g) (c.2 rfl)).mono fun f h' q => q.trans g.up⟩
theorem SndS.ret (H : SndE ns sc x L) : SndS ns sc (.Return (some x) p) (sRet L) := ⟨fun {M ρ σ μ h k} X S F w => by
  rw [exec_Return_some]
  exact Ev.bind (Ev.standAt (Ev.bind ((H.go X S F w).useE fun v h₁ a ρ₁ μ₁ g₁ S₁ i₁ w => Ev.pure (.of0 F g₁ S₁ (.ret i₁) w))))⟩
theorem SndS.assert {t : Expr} (H : SndT ns sc t T) : SndS ns sc (.Assert t none p) (sAssert T) := ⟨fun {M ρ σ μ h k} X S F w => by
  rw [arm_exec_Assert]
  refine Ev.bind (Ev.standAt (Ev.bind (H.go X S F w fun b h' ρ' μ' g S' c => ?_)))
  obtain ⟨rfl, c⟩ := c
  exact Ev.pure (.of0 F g S' .next c)⟩
theorem SndS.cont : SndS ns sc (.Continue p) sCont := ⟨fun X S F w => by
  rw [arm_exec_Continue]; exact Ev.bind (Ev.standAt (Ev.pure (.mk .refl S F .cont w)))⟩
theorem SndS.brk : SndS ns sc (.Break p) sBrk := ⟨fun X S F w => by
  rw [arm_exec_Break]; exact Ev.bind (Ev.standAt (Ev.pure (.mk .refl S F .brk w)))⟩

theorem EvC.runOwn {c : Code} {Q : Flow → Heap → Prop} (x : EvC M c Q h) : Ev M (PySem.runOwn c env) Q h := by
  intro s hs ht
  refine wpAny_runOwn (codeAny_mono (x s hs ht) fun r s' q => ?_)
  cases r with
  | ok f => exact q
  | error e => exact q.elim

theorem SndS.while {t : Expr} {body : List Stmt} (H : SndT ns sc t T) (Hb : SndB ns sc body B) : SndS ns sc (.While t body [] p) (sWhile T B) := ⟨fun {M ρ σ μ h k} X S F w => by
  rw [exec_While]
  obtain ⟨I, ⟨n, h0⟩, st⟩ := w
  refine Ev.bind (Ev.standAt (EvC.runOwn fun s₀ hs htk => ?_))
  subst hs
  refine codeAny_whileLoop (fun n s => ∃ ρ₁ σ₁ μ₁, I n σ₁ μ₁ ∧ St M.h₀ ρ₁ μ₁ s.heap ∧ FrS ρ₁ M.env (sto ns σ₁) s.heap ∧ Grow (owned M.env) ρ s₀.heap ρ₁ s.heap ∧ 1 ≤ s.toks ∧ s.gens = s₀.gens ∧ s.os = s₀.os) ?_ n ⟨ρ, σ, μ, h0, S, F, .refl, htk, rfl, rfl⟩
  rintro n s ⟨ρ₁, σ₁, μ₁, hI, S₁, F₁, g₁, htk₁, hg₁, hos₁⟩
  refine wpAny_mono (wpAny_toks_of htk₁ (H.go X S₁ F₁ (st _ _ _ hI) (Q := fun b h' => ∃ ρ' μ', Grow [] ρ₁ s.heap ρ' h' ∧ St M.h₀ ρ' μ' h' ∧ condP b (B M.c σ₁ μ' (turnP (fun σ μ => ∃ j, j < n ∧ I j σ μ) k)) (k .next σ₁ μ')) (fun b h' ρ' μ' g S' c => ⟨ρ', μ', g, S', c⟩) s rfl htk₁)) (fun b s₂ q => ?_) fun _ _ q => q.2.elim
  obtain ⟨htk₂, hg₂, hos₂, ρ₂, μ₂, g₂, S₂, c⟩ := q
  have F₂ := F₁.grow0 g₂
  have g₁₂ := g₁.trans g₂.up
  cases b with
  | false => exact wpAny_execs_nil ⟨hg₂.trans hg₁, hos₂.trans hos₁, .mk g₁₂ S₂ F₂ .next (c.2 rfl)⟩
  | true =>
    refine wpAny_mono (wpAny_toks_of htk₂ (Hb.go X S₂ F₂ (c.1 rfl) s₂ rfl htk₂)) (fun f s₃ q => ?_) fun _ _ q => q.2.elim
    obtain ⟨htk₃, hg₃, hos₃, q⟩ := q
    have eg := hg₃.trans (hg₂.trans hg₁)
    have eo := hos₃.trans (hos₂.trans hos₁)
    refine q.el fun fl ρ₃ σ₃ μ₃ g₃ S₃ F₃ i w => ?_
    have g := g₁₂.trans g₃
    cases i with
    | next => exact w.elim fun j w => ⟨j, w.1, ρ₃, σ₃, μ₃, w.2, S₃, F₃, g, htk₃, eg, eo⟩
    | cont => exact w.elim fun j w => ⟨j, w.1, ρ₃, σ₃, μ₃, w.2, S₃, F₃, g, htk₃, eg, eo⟩
    | brk => exact ⟨eg, eo, .mk g S₃ F₃ .next w⟩
    | ret i => exact ⟨eg, eo, .mk g S₃ F₃ (.ret i) w⟩⟩

/-- what holds of an iterator's place: it is no one else's -/
structure Lone (I : Addr) (ρ : Mp) (env : Env) : Prop where
  fz : ρ.f I = none
  nh : I ∉ ρ.l
  no : I ∉ owned env
theorem Lone.grow {I : Addr} {o : Obj} {ρ h ρ' h' X} (x : Lone I ρ env) (g : Grow X ρ h ρ' h') (ho : h.get? I = some o) : Lone I ρ' env := ⟨(g.lone ho x.fz x.nh).2, (g.lone ho x.fz x.nh).1, x.no⟩

theorem IterOf.frame {ρ h items μ₁ h₂ I fp P It ρw} (o : IterOf M ρ h items μ₁ h₂ I fp P It ρw) {X ρa μa ha ρb μb hb i} (hρ : ∀ a o, ρw.f a = some o → ρa.f a = some o) (Sa : St M.h₀ ρa μa ha) (Sb : St M.h₀ ρb μb hb) (g : Grow X ρa ha ρb hb) (nh : I ∉ ρa.l) (no : I ∉ X) (st : It i ha) : It i hb :=
  o.wk.frame _ _ _ st fun a hm ob eo => by
    rcases o.hfp a hm with rfl | ⟨o', ho'⟩
    · exact g.keep _ ob eo nh no
    · have e := Sa.fz a o' (hρ _ _ ho')
      rw [e] at eo; cases eo
      exact Sb.fz a _ (g.rho _ _ (hρ _ _ ho'))

theorem SndS.for {e : Expr} {W : WI} {body : List Stmt} {pz : Pos} (hn : ns[n]? = some z) (hx : isVar sc z = true) (H : SndI ns sc e W) (Hb : SndB ns sc body B) : SndS ns sc (.For (.Name z pz) e body [] p) (sFor n W B) := ⟨fun {M ρ σ μ h k} X S F w => by
  rw [arm_exec_For]
  refine Ev.bind (Ev.standAt (Ev.bind ((H.go (Q := fun it h₂ => Ev M (PySem.runOwn (.forLoop (.Name z pz) it body [] M.env) M.env) (PX M ns ρ h k) h₂) X S F w fun it h₂ items μ₁ a w => ?_).mono fun v h₁ q => ?_)))
  rotate_left
  · rw [H.fs]
    exact Ev.bind (Ev.pure (Ev.bind (Ev.standAt (Ev.bind (Ev.holding q)))))
  obtain ⟨I, fp, P, It, ρw, rfl, o⟩ := a
  obtain ⟨J, h0, hs, hf⟩ := w
  refine EvC.runOwn fun s₀ hs₀ ht => ?_
  subst hs₀
  have no := F.notown o.new
  refine codeAny_forLoop (fun n s' => ∃ i ρ₁ σ₁ μ₁, n = items.length - i ∧ i ≤ items.length ∧ J (items.drop i) σ₁ μ₁ ∧ (∀ a o, ρw.f a = some o → ρ₁.f a = some o) ∧ St M.h₀ ρ₁ μ₁ s'.heap ∧ FrS ρ₁ M.env (sto ns σ₁) s'.heap ∧ Grow (owned M.env) ρ h ρ₁ s'.heap ∧ Lone I ρ₁ M.env ∧ It i s'.heap ∧ 1 ≤ s'.toks ∧ s'.gens = s₀.gens ∧ s'.os = s₀.os) ?_ items.length
    ⟨0, ρw, σ, μ₁, rfl, Nat.zero_le _, h0, (fun _ _ e => e), o.st, F.grow0 o.gr, o.gr.up, ⟨o.fz, o.nh, no⟩, o.it0, ht, rfl, rfl⟩
  rintro n s' ⟨i, ρ₁, σ₁, μ₁, rfl, hi, hJ, hρ, S₁, F₁, g₁, lo₁, st₁, ht₁, hg₁, hos₁⟩
  rcases Nat.lt_or_eq_of_le hi with hlt | rfl
  · refine wpAny_with_toks ht₁ (o.wk.item i _ _ _ hlt st₁ fun v h₁ tk₁ hPv st₂ hk₁ htk₁ => ?_)
    obtain ⟨d, hd, iv⟩ := o.hP ρ₁.f hρ i v hPv
    have hk₁' : ∀ b o, b ≠ I → s'.heap.get? b = some o → h₁.get? b = some o := fun b o hb e => hk₁ b o (fun m => hb (List.mem_singleton.mp m)) e
    have S₂ := S₁.but lo₁.fz lo₁.nh hk₁'
    have F₂ := F₁.off no hk₁'
    have g₂ := g₁.skip o.new hk₁'
    rw [List.drop_eq_getElem_cons hlt, (List.getElem?_eq_some_iff.mp hd).2] at hJ
    have hst := Ev.storeN (a := .d d) (v := v) (Q := fun _ h' => St M.h₀ ρ₁ μ₁ h' ∧ FrS ρ₁ M.env (sto ns (σ₁.set _ (some (.d d)))) h' ∧ Grow (owned M.env) ρ₁ h₁ ρ₁ h') X S₂ F₂ hn hx iv (fun h' a b c => ⟨a, b, c⟩)
    refine wpAny_assign_Name (wpAny_mono (wpAny_toks_of htk₁ (hst { s' with heap := h₁, toks := tk₁ } rfl htk₁)) (fun _ s₂ q => ?_) fun _ _ q => q.2.elim)
    obtain ⟨ht₂, hg₂, hos₂, S₃, F₃, g₃⟩ := q
    have st₃ := o.frame hρ S₂ S₃ g₃ lo₁.nh no st₂
    obtain ⟨oI, hoI⟩ := o.hob _ _ st₃
    refine wpAny_mono (wpAny_toks_of ht₂ (Hb.go X S₃ F₃ (hs _ _ _ _ hJ) s₂ rfl ht₂)) (fun f s₃ q => ?_) fun _ _ q => q.2.elim
    obtain ⟨ht₄, hg₄, hos₄, q⟩ := q
    have eg := hg₄.trans (hg₂.trans hg₁)
    have eo := hos₄.trans (hos₂.trans hos₁)
    refine q.el fun fl ρ₂ σ₂ μ₂ g₄ S₄ F₄ fi w => ?_
    have g := (g₂.trans g₃).trans g₄
    have next : J (items.drop (i + 1)) σ₂ μ₂ → ∃ j, j < items.length - i ∧ ∃ i ρ₁ σ₁ μ₁, j = items.length - i ∧ i ≤ items.length ∧ J (items.drop i) σ₁ μ₁ ∧ (∀ a o, ρw.f a = some o → ρ₁.f a = some o) ∧ St M.h₀ ρ₁ μ₁ s₃.heap ∧ FrS ρ₁ M.env (sto ns σ₁) s₃.heap ∧ Grow (owned M.env) ρ h ρ₁ s₃.heap ∧ Lone I ρ₁ M.env ∧ It i s₃.heap ∧ 1 ≤ s₃.toks ∧ s₃.gens = s₀.gens ∧ s₃.os = s₀.os := fun w =>
      ⟨items.length - (i + 1), by omega, i + 1, ρ₂, σ₂, μ₂, rfl, hlt, w, (fun a o e => g₄.rho _ _ (hρ _ _ e)), S₄, F₄, g, lo₁.grow g₄ hoI, o.frame hρ S₃ S₄ g₄ lo₁.nh no st₃, ht₄, eg, eo⟩
    cases fi with
    | next => exact next w
    | cont => exact next w
    | brk => exact ⟨eg, eo, .mk g S₄ F₄ .next w⟩
    | ret fi => exact ⟨eg, eo, .mk g S₄ F₄ (.ret fi) w⟩
  · rw [List.drop_length] at hJ
    refine o.wk.done _ _ _ st₁ fun h₁ tk₁ hk₁ => wpAny_execs_nil ?_
    have hk₁' : ∀ b o, b ≠ I → s'.heap.get? b = some o → h₁.get? b = some o := fun b o hb e => hk₁ b o (fun m => hb (List.mem_singleton.mp m)) e
    exact ⟨hg₁, hos₁, .mk (g₁.skip o.new hk₁') (S₁.but lo₁.fz lo₁.nh hk₁') (F₁.off no hk₁') .next (hf _ _ hJ)⟩⟩
end
end Mine
end
section
namespace Mine

/-! ### comprehensions -/
/-- a clause: the items one after the other -/
def compP (n : Nat) (body : List PyData → Cx → Lo → Mem → (List PyData → Mem → Prop) → Prop) (c : Cx) (items out : List PyData) (σ : Lo) (μ : Mem) (k : List PyData → Mem → Prop) : Prop :=
  σ.getD n none = none ∧ ∃ I : List PyData → List PyData → Mem → Prop, I items out μ ∧ (∀ d ds out μ, I (d :: ds) out μ → body out c (σ.set n (some (.d d))) μ (I ds)) ∧ ∀ out μ, I [] out μ → k out μ
def compOut (elt : WE) : List (Nat × WI) → List PyData → Cx → Lo → Mem → (List PyData → Mem → Prop) → Prop
  | [], out, c, σ, μ, k => elt c σ μ fun a μ => datP a fun d => out.length < sizeLine ∧ k (out ++ [d]) μ
  | (n, W) :: gs, out, c, σ, μ, k => W c σ μ fun items μ => compP n (compOut elt gs) c items out σ μ k
/-- the names that the inner block sees -/
def keep1 : Bool → Option AV → Option AV
  | true, a => a
  | false, _ => none
def keepP : List Bool → Lo → Lo
  | b :: bs, a :: σ => keep1 b a :: keepP bs σ
  | _, _ => []
def wComp (fv : List Bool) (n : Nat) (src : WI) (gs : List (Nat × WI)) (elt : WE) : WE := fun c σ μ k => src c σ μ fun items μ => compP n (compOut elt gs) c items [] (keepP fv σ) μ fun out μ => k (.d (.list out)) μ

section
variable {M : Mc} {ρ : Mp} {μ : Mem} {h : Heap} {ns : List Str} {sc : Scope} {σ : Lo} {x y : Expr} {L R : WE} {p : Pos} {n : Nat} {z : Str} {env : Env}

theorem EvC.loop1 {elt : Expr} {gens : List Comprehension} {scope : Scope} {pos : Pos} {d : Nat} {it acc : Value} {Q : Flow → Heap → Prop}
    (x : Ev M (compTurn (.ListComp elt gens scope pos) d it acc env) (fun fin h' => match fin with
      | .done f => Q f h'
      | .again c => c = .compLoop (.ListComp elt gens scope pos) d it acc env ∧ EvC M c Q h') h) : EvC M (.compLoop (.ListComp elt gens scope pos) d it acc env) Q h := by
  intro s hs ht
  refine codeAny_of_tree ?_
  show wpAny _ M.A ((compTurn (.ListComp elt gens scope pos) d it acc env).onRaise (fun x => do noteFrame x env; theTreesLotGoes x)) _ _ s
  refine wpAny_onRaise (wpAny_mono (wpAny_toks_of ht (x s hs ht)) (fun fin s' q => ?_) fun _ _ q => q.2.elim)
  obtain ⟨q1, q2, q3, q4⟩ := q
  cases fin with
  | done f => exact ⟨q2, q3, q4⟩
  | again c =>
    obtain ⟨rfl, q5⟩ := q4
    refine ⟨rfl, codeAny_mono (q5 s' rfl q1) fun r s2 q' => ?_⟩
    cases r with
    | ok f => exact ⟨q'.1.trans q2, q'.2.1.trans q3, q'.2.2⟩
    | error e => exact q'

theorem EvC.start {elt target iter : Expr} {ifs : List Expr} {gens : List Comprehension} {scope : Scope} {pos : Pos} {d : Nat} {it acc : Value} {Q : Flow → Heap → Prop} (hd : gens[d]? = some ⟨target, iter, ifs, 0⟩)
    (h0 : EvC M (.compLoop (.ListComp elt gens scope pos) d it acc env) Q h)
    (hs : Ev M (pyIter it) (fun it' h' => it' = it ∧ h' = h) h) : EvC M (.compStart (.ListComp elt gens scope pos) d it acc env) Q h := by
  intro s hs' ht
  refine codeAny_of_tree ?_
  show wpAny _ M.A ((compStart (.ListComp elt gens scope pos) d it acc env).onRaise (fun x => do noteFrame x env; standAt theWindowsPlace)) _ _ s
  refine wpAny_onRaise (Q := _) ?_
  unfold compStart
  have hc : (clausesOf (.ListComp elt gens scope pos))[d]? = some ⟨target, iter, ifs, 0⟩ := hd
  rw [hc]
  show wpAny _ _ (ask >>= _) _ _ s
  refine wpAny_bind (wpAny_askSetting (wpAny_ite ?_))
  split
  · exact wpAny_bind (wpAny_pure (wpAny_pure (And.intro rfl (h0 s hs' ht))))
  · refine wpAny_bind (wpAny_rule ?_)
    show wpAny _ _ (standAt iter.pos >>= _) _ _ s
    refine wpAny_bind (wpAny_standAt (wpAny_bind (wpAny_mono (wpAny_toks_of ht (hs s hs' ht)) (fun it' s' q => ?_) fun _ _ q => q.2.elim)))
    obtain ⟨q1, q2, q3, rfl, q5⟩ := q
    refine wpAny_pure (And.intro rfl (codeAny_mono (h0 s' q5 q1) fun r s2 q' => ?_))
    cases r with
    | ok f => exact ⟨q'.1.trans q2, q'.2.1.trans q3, q'.2.2⟩
    | error e => exact q'

theorem compTurn_last {elt target iter : Expr} {gens : List Comprehension} {scope : Scope} {pos : Pos} {d : Nat} (it acc : Value) (env : Env) (hd : gens[d]? = some ⟨target, iter, [], 0⟩) (hd1 : gens[d + 1]? = none) :
    compTurn (.ListComp elt gens scope pos) d it acc env = (standAt iter.pos >>= fun _ => pyNext it >>= fun r => match r with
      | none => pure (.done .next)
      | some v => letOwnedTupleGo target it v >>= fun _ => assign target env v >>= fun _ =>
        (eval elt env >>= fun x => call (.builtin "list.append") [acc, x] >>= fun _ => pure ()) >>= fun _ =>
          again (.compLoop (.ListComp elt gens scope pos) d it acc env)) := by
  unfold compTurn
  simp only [hd, hd1]
  rfl

theorem compTurn_more {elt target iter target' iter' : Expr} {ifs' : List Expr} {gens : List Comprehension} {scope : Scope} {pos : Pos} {d : Nat} (it acc : Value) (env : Env) (hd : gens[d]? = some ⟨target, iter, [], 0⟩) (hd1 : gens[d + 1]? = some ⟨target', iter', ifs', 0⟩) :
    compTurn (.ListComp elt gens scope pos) d it acc env = (standAt iter.pos >>= fun _ => pyNext it >>= fun r => match r with
      | none => pure (.done .next)
      | some v => letOwnedTupleGo target it v >>= fun _ => assign target env v >>= fun _ =>
        eval iter' env >>= fun x => standAt iter'.pos >>= fun _ => foldedSetIterable iter' env x >>= fun x => holding [x] (pyIter x) >>= fun i => runOwn (.compStart (.ListComp elt gens scope pos) (d + 1) i acc env) env >>= fun _ =>
          again (.compLoop (.ListComp elt gens scope pos) d it acc env)) := by
  unfold compTurn
  simp only [hd, hd1]
  rfl


/-- the list that a comprehension fills -/
structure Acc (D : Addr) (ρ : Mp) (env : Env) (h : Heap) (xs : List PyData) : Prop where
  ob : ∃ vs n, h.get? D = some { cls := .type "list", data := .seq vs n } ∧ IsAll ρ.f vs.toList xs
  fz : ρ.f D = none
  nh : D ∉ ρ.l
  no : D ∉ owned env
theorem Acc.grow {D : Addr} {xs : List PyData} {X : List Addr} {ρ' h'} (x : Acc D ρ env h xs) (g : Grow X ρ h ρ' h') (hX : D ∉ X) : Acc D ρ' env h' xs := by
  obtain ⟨vs, n, ho, r⟩ := x.ob
  have := g.lone ho x.fz x.nh
  exact ⟨⟨vs, n, g.keep _ _ ho x.nh hX, r.mono g.rho⟩, this.2, this.1, x.no⟩
theorem Acc.off {D I : Addr} {xs : List PyData} {h' : Heap} (a : Acc D ρ env h xs) (hne : D ≠ I) (hk : ∀ b o, b ≠ I → h.get? b = some o → h'.get? b = some o) : Acc D ρ env h' xs :=
  ⟨a.ob.elim fun vs q => q.elim fun n q => ⟨vs, n, hk _ _ hne q.1, q.2⟩, a.fz, a.nh, a.no⟩

def CRes (M : Mc) (ns : List Str) (D : Addr) (ρ : Mp) (h : Heap) (σ : Lo) (k : List PyData → Mem → Prop) (h' : Heap) : Prop :=
  ∃ ρ' μ' out, Grow [D, M.env.locals] ρ h ρ' h' ∧ St M.h₀ ρ' μ' h' ∧ FrS ρ' M.env (sto ns σ) h' ∧ Acc D ρ' M.env h' out ∧ k out μ'

theorem CRes.base {D : Addr} {ρ' h' h''} {k : List PyData → Mem → Prop} (r : CRes M ns D ρ' h' σ k h'') (g : Grow [D, M.env.locals] ρ h ρ' h') : CRes M ns D ρ h σ k h'' := by
  obtain ⟨ρ3, μ3, out, g3, r⟩ := r
  exact ⟨ρ3, μ3, out, g.trans g3, r⟩

theorem Ev.accAppend {D : Addr} {xs : List PyData} {v : Value} {d : PyData} {k : List PyData → Mem → Prop} (S : St M.h₀ ρ μ h) (F : FrS ρ M.env (sto ns σ) h) (a : Acc D ρ M.env h xs) (i : Is ρ.f v d) (hz : xs.length < sizeLine) (q : k (xs ++ [d]) μ) :
    Ev M (call (.builtin "list.append") [.ref D, v]) (fun _ h' => CRes M ns D ρ h σ k h') h := by
  obtain ⟨vs, n, ho, r⟩ := a.ob
  have hsz : vs.size = xs.length := by rw [← r.length, Array.length_toList]
  refine Ev.lift fun s hs _ Q' kk => ?_
  subst hs
  refine call_meets PySem.F.slot_list_append ⟨_, ho, rfl⟩ PySem.F.entry_list_append (PySem.F.args_list_append_2 _ _) (list_append D vs n _ (by omega)) ⟨ho, kk _ _ _ ?_⟩
  have ho' := IsL.update (h := s.heap) (l := D) (items := vs) (n := n) ho (fun xs => xs.push v)
  have hk : ∀ b o, b ≠ D → s.heap.get? b = some o → (s.heap.update D (Obj.mapSeq fun xs => xs.push v)).get? b = some o := upd_other
  exact ⟨ρ, μ, _, (Grow.but (L := D) hk ⟨_, ho'⟩).weaken (fun a m => List.mem_singleton.mp m ▸ List.mem_cons_self ..), S.but a.fz a.nh hk, F.off a.no hk, ⟨⟨_, _, ho', by rw [Array.toList_push]; exact r.append (.one i)⟩, a.fz, a.nh, a.no⟩, q⟩

theorem Ev.nextItem {I : Addr} {fp : List Addr} {n i : Nat} {P : Nat → Value → Prop} {It : Nat → Heap → Prop} (W : Walks M.prog M.w M.A I fp [I] n P It) (hlt : i < n) (st : It i h) :
    Ev M (pyNext (.ref I)) (fun r h' => ∃ v, r = some v ∧ P i v ∧ It (i + 1) h' ∧ ∀ b o, b ≠ I → h.get? b = some o → h'.get? b = some o) h :=
  Ev.lift fun s hs _ Q' kk => W.item i s _ _ hlt (hs ▸ st) fun v h' tk hP st' hk => kk _ h' tk ⟨v, rfl, hP, st', fun b o hb e => hk b o (fun m => hb (List.mem_singleton.mp m)) (hs ▸ e)⟩
theorem Ev.nextDone {I : Addr} {fp : List Addr} {n : Nat} {P : Nat → Value → Prop} {It : Nat → Heap → Prop} (W : Walks M.prog M.w M.A I fp [I] n P It) (st : It n h) :
    Ev M (pyNext (.ref I)) (fun r h' => r = none ∧ ∀ b o, b ≠ I → h.get? b = some o → h'.get? b = some o) h :=
  Ev.lift fun s hs _ Q' kk => W.done s _ _ (hs ▸ st) fun h' tk hk => kk _ h' tk ⟨rfl, fun b o hb e => hk b o (fun m => hb (List.mem_singleton.mp m)) (hs ▸ e)⟩
theorem Ev.iterSelf {I : Addr} {fp : List Addr} {n i : Nat} {P : Nat → Value → Prop} {It : Nat → Heap → Prop} (W : Walks M.prog M.w M.A I fp [I] n P It) (st : It i h) : Ev M (pyIter (.ref I)) (fun it h' => it = .ref I ∧ h' = h) h :=
  Ev.lift fun s hs _ Q' kk => W.self i s _ _ (hs ▸ st) (kk _ s.heap s.toks ⟨rfl, hs⟩)

/-- what a turn does behind the binding of its name -/
def restOf (elt : Expr) (gens : List Comprehension) (scope : Scope) (pos : Pos) (d : Nat) (it acc : Value) (env : Env) : Sem PySem.Fin :=
  match gens[d + 1]? with
  | none => (eval elt env >>= fun x => call (.builtin "list.append") [acc, x] >>= fun _ => pure ()) >>= fun _ => again (.compLoop (.ListComp elt gens scope pos) d it acc env)
  | some g => eval g.iter env >>= fun x => standAt g.iter.pos >>= fun _ => foldedSetIterable g.iter env x >>= fun x => holding [x] (pyIter x) >>= fun i => runOwn (.compStart (.ListComp elt gens scope pos) (d + 1) i acc env) env >>= fun _ =>
      again (.compLoop (.ListComp elt gens scope pos) d it acc env)

theorem turn_rest {elt target iter : Expr} {gens : List Comprehension} {scope : Scope} {pos : Pos} {d : Nat} (it acc : Value) (env : Env) (hd : gens[d]? = some ⟨target, iter, [], 0⟩) (h0 : ∀ g, gens[d + 1]? = some g → g.is_async = 0) :
    compTurn (.ListComp elt gens scope pos) d it acc env = (standAt iter.pos >>= fun _ => pyNext it >>= fun r => match r with
      | none => pure (.done .next)
      | some v => letOwnedTupleGo target it v >>= fun _ => assign target env v >>= fun _ => restOf elt gens scope pos d it acc env) := by
  unfold restOf
  cases hg : gens[d + 1]? with
  | none => exact compTurn_last it acc env hd hg
  | some g =>
    obtain ⟨t', i', f', a'⟩ := g
    have : a' = 0 := h0 _ hg
    subst this
    exact compTurn_more it acc env hd hg

theorem drop_get {α : Type} {l : List α} {d : Nat} {g : α} {gs : List α} (h : l.drop d = g :: gs) : l[d]? = some g ∧ l.drop (d + 1) = gs := by
  have hlt : d < l.length := by
    rcases Nat.lt_or_ge d l.length with h' | h'
    · exact h'
    · rw [List.drop_of_length_le h'] at h; cases h
  rw [List.drop_eq_getElem_cons hlt] at h
  exact ⟨by rw [List.getElem?_eq_getElem hlt]; exact congrArg some (List.cons.inj h).1, (List.cons.inj h).2⟩
theorem drop_nil {α : Type} {l : List α} {d : Nat} (h : l.drop d = []) : l[d]? = none := by
  rw [List.getElem?_eq_none]; simpa using h


theorem sto_reset {a b : AV} {y : Str} : ∀ {ns : List Str} {σ : Lo} {n : Nat}, σ.getD n none = none → sto ns σ y = some b → sto ns (σ.set n (some a)) y = some b := by
  intro ns
  induction ns with
  | nil => intro σ n _ h; exact h
  | cons w ns ih =>
    intro σ n h1 h2
    cases σ with
    | nil => exact h2
    | cons c σ =>
      have h2 : (if y = w then c else sto ns σ y) = some b := h2
      cases n with
      | zero =>
        show (if y = w then some a else sto ns σ y) = some b
        have hc : c = none := h1
        by_cases hw : y = w
        · rw [if_pos hw, hc] at h2; cases h2
        · rw [if_neg hw] at h2 ⊢; exact h2
      | succ n =>
        show (if y = w then c else sto ns (σ.set n (some a)) y) = some b
        by_cases hw : y = w
        · rw [if_pos hw] at h2 ⊢; exact h2
        · rw [if_neg hw] at h2 ⊢; exact ih h1 h2

theorem not_mem1 {a b : Addr} (h : a ≠ b) : a ∉ [b] := fun m => h (List.mem_singleton.mp m)
theorem not_mem2 {a b c : Addr} (h : a ≠ b) (h2 : a ≠ c) : a ∉ [b, c] := fun m => (List.mem_cons.mp m).elim h fun m => h2 (List.mem_singleton.mp m)
theorem ne_locals {I : Addr} (h : I ∉ owned env) : I ≠ env.locals := fun e => h (e ▸ List.mem_cons_self ..)

theorem comp_loop {h0 hb : Heap} {μ0 : Mem} {ρ0 ρb ρw : Mp} {h₂ : Heap} {I D : Addr} {fp : List Addr} {P : Nat → Value → Prop} {It : Nat → Heap → Prop} {items : List PyData} {px : Pos} {e iter elt : Expr} {d : Nat} {rest : Sem PySem.Fin} {gens : List Comprehension} {scope : Scope} {pos : Pos}
    {body : List PyData → Cx → Lo → Mem → (List PyData → Mem → Prop) → Prop} {J : List PyData → List PyData → Mem → Prop} {k : List PyData → Mem → Prop} (X : Wk ns sc M) (o : IterOf M ρ0 h0 items μ0 h₂ I fp P It ρw)
    (he : e = .ListComp elt gens scope pos)
    (hturn : compTurn e d (.ref I) (.ref D) M.env = (standAt iter.pos >>= fun _ => pyNext (.ref I) >>= fun r => match r with
      | none => pure (.done .next)
      | some v => letOwnedTupleGo (.Name z px) (.ref I) v >>= fun _ => assign (.Name z px) M.env v >>= fun _ => rest))
    (hact : ∀ {σ μ ρ h done k}, body done M.c σ μ k → St M.h₀ ρ μ h → FrS ρ M.env (sto ns σ) h → Acc D ρ M.env h done → Ev M rest (fun fin h' => fin = .again (.compLoop e d (.ref I) (.ref D) M.env) ∧ CRes M ns D ρ h σ k h') h)
    (hn : ns[n]? = some z) (hx : M.env.kindOf z = some .local) (hσ : σ.getD n none = none) (hI : hb.get? I = none) (hDI : D ≠ I)
    (hs : ∀ d ds out μ, J (d :: ds) out μ → body out M.c (σ.set n (some (.d d))) μ (J ds)) (hf : ∀ out μ, J [] out μ → k out μ) :
    ∀ (ds : List PyData) (i : Nat), items.drop i = ds → i ≤ items.length → ∀ {μ₁ ρ₁ h₁ done}, J ds done μ₁ → St M.h₀ ρ₁ μ₁ h₁ → FrS ρ₁ M.env (sto ns σ) h₁ → Acc D ρ₁ M.env h₁ done →
      (∀ a o, ρw.f a = some o → ρ₁.f a = some o) → Grow [D, M.env.locals] ρb hb ρ₁ h₁ → Lone I ρ₁ M.env → It i h₁ → EvC M (.compLoop e d (.ref I) (.ref D) M.env) (fun f h' => f = .next ∧ CRes M ns D ρb hb σ k h') h₁ := by
  subst he
  intro ds
  induction ds with
  | nil =>
    intro i hi hle μ₁ ρ₁ h₁ done hJ S F a hρ g lo st
    have hin : i = items.length := Nat.le_antisymm hle (Nat.le_of_not_lt fun hlt => by rw [List.drop_eq_getElem_cons hlt] at hi; cases hi)
    subst hin
    refine EvC.loop1 ?_
    rw [hturn]
    refine Ev.bind (Ev.standAt (Ev.bind ((Ev.nextDone o.wk st).mono fun r h₂ q => ?_)))
    obtain ⟨hr, hk⟩ := q
    subst hr
    exact Ev.pure ⟨rfl, ρ₁, _, _, g.skip hI hk, S.but lo.fz lo.nh hk, F.off lo.no hk, a.off hDI hk, hf _ _ hJ⟩
  | cons dd ds ih =>
    intro i hi hle μ₁ ρ₁ h₁ done hJ S F a hρ g lo st
    have hlt : i < items.length := Nat.lt_of_not_le fun h' => by rw [List.drop_of_length_le h'] at hi; cases hi
    rw [List.drop_eq_getElem_cons hlt] at hi
    obtain ⟨hdd, hi'⟩ := List.cons.inj hi
    refine EvC.loop1 ?_
    rw [hturn]
    refine Ev.bind (Ev.standAt (Ev.bind ((Ev.nextItem o.wk hlt st).mono fun r h₂ q => ?_)))
    obtain ⟨v, hr, hPv, st₂, hk⟩ := q
    subst hr
    obtain ⟨d', hd', iv⟩ := o.hP ρ₁.f hρ i v hPv
    rw [List.getElem?_eq_getElem hlt, hdd] at hd'; cases hd'
    have S₂ := S.but lo.fz lo.nh hk
    refine Ev.bind (Ev.pure (Ev.bind ?_))
    rw [PySem.assign_Name]
    refine Ev.bind (Ev.standAt (Ev.bindLocal (a := .d dd) S₂ (F.off lo.no hk) hx iv fun h₃ S₃ F₃ g₃ => ?_))
    have nL := ne_locals lo.no
    have st₃ := o.frame hρ S₂ S₃ g₃ lo.nh (not_mem1 nL) st₂
    refine (hact (hs _ _ _ _ hJ) S₃ (F₃.weaken fun _ _ => sto_set X.nd hn) ((a.off hDI hk).grow g₃ (not_mem1 (ne_locals a.no)))).mono fun fin h₄ q => ?_
    obtain ⟨hf', ρ₂, μ₂, out, g₄, S₄, F₄, a₄, w⟩ := q
    subst hf'
    refine ⟨rfl, ?_⟩
    obtain ⟨oI, hoI⟩ := o.hob _ _ st₃
    have nD := not_mem2 (Ne.symm hDI) nL
    exact ih (i + 1) hi' hlt w S₄ (F₄.weaken fun _ _ => sto_reset hσ) a₄ (fun b o eb => g₄.rho _ _ (hρ _ _ eb)) (((g.skip hI hk).trans (g₃.weaken fun _ m => List.mem_cons_of_mem _ m)).trans g₄) (lo.grow g₄ hoI) (o.frame hρ S₃ S₄ g₄ lo.nh nD st₃)

theorem Wk.local (X : Wk ns sc M) (hx : sc.names.lookup z = some .local) : M.env.kindOf z = some .local := by unfold Env.kindOf; rw [X.sc]; exact hx

/-- the clauses behind the first -/
inductive SndG (ns : List Str) (sc : Scope) : List Comprehension → List (Nat × WI) → Prop
  | nil : SndG ns sc [] []
  | cons {z n px it W gs js} : ns[n]? = some z → sc.names.lookup z = some .local → SndI ns sc it W → SndG ns sc gs js → SndG ns sc (⟨.Name z px, it, [], 0⟩ :: gs) ((n, W) :: js)
theorem SndG.asy {gs js} (H : SndG ns sc gs js) : ∀ g ∈ gs, g.is_async = 0 := by
  induction H with
  | nil => intro g m; cases m
  | cons _ _ _ _ ih => exact fun g m => (List.mem_cons.mp m).elim (fun e => e ▸ rfl) (ih g)

theorem comp_act {elt : Expr} {W : WE} {gens : List Comprehension} {scope : Scope} {pos : Pos} {D : Addr} {gs : List Comprehension} {js : List (Nat × WI)} (X : Wk ns sc M) (hasy : ∀ g ∈ gens, g.is_async = 0) (He : SndE ns sc elt W) (H : SndG ns sc gs js) :
    ∀ (d : Nat) (it : Value), gens.drop (d + 1) = gs → ∀ {σ μ ρ h done k}, compOut W js done M.c σ μ k → St M.h₀ ρ μ h → FrS ρ M.env (sto ns σ) h → Acc D ρ M.env h done →
      Ev M (restOf elt gens scope pos d it (.ref D) M.env) (fun fin h' => fin = .again (.compLoop (.ListComp elt gens scope pos) d it (.ref D) M.env) ∧ CRes M ns D ρ h σ k h') h := by
  induction H with
  | nil =>
    intro d it hd σ μ ρ h done k w S F a
    unfold restOf
    rw [drop_nil hd]
    refine Ev.bind (Ev.bind ((He.go X S F w).useE fun v h₂ b ρ2 μ2 g2 s2 i2 w => Ev.bind ?_))
    obtain ⟨d, rfl, hz, w⟩ := datP.inv w
    exact (Ev.accAppend s2 (F.grow0 g2) (a.grow g2 (fun m => nomatch m)) i2 hz w).mono fun _ h₃ q => Ev.pure (Ev.pure ⟨rfl, q.base g2.up⟩)
  | cons hn hx HI _ ih =>
    intro d it hd σ μ ρ h done k w S F a
    obtain ⟨hd1, hd2⟩ := drop_get hd
    unfold restOf
    rw [hd1]
    refine Ev.bind ((HI.go (Q := fun it' h₂ => Ev M (runOwn (.compStart (.ListComp elt gens scope pos) (d + 1) it' (.ref D) M.env) M.env >>= fun _ => again (.compLoop (.ListComp elt gens scope pos) d it (.ref D) M.env)) (fun fin h' => fin = .again (.compLoop (.ListComp elt gens scope pos) d it (.ref D) M.env) ∧ CRes M ns D ρ h σ k h') h₂) X S F w fun it' h₂ items μ₁ hI w => ?_).mono fun xv h₁ q => ?_)
    rotate_left
    · exact Ev.bind (Ev.standAt (Ev.bind (Ev.of_eq (HI.fs M.env xv) (Ev.pure (Ev.bind (Ev.holding q))))))
    obtain ⟨I, fp, P, It, ρ2, rfl, o⟩ := hI
    obtain ⟨hσ, J, hJ, hs, hf⟩ := w
    have hDI : D ≠ I := fun e => by
      obtain ⟨vs, n, ho, _⟩ := a.ob
      rw [e, o.new] at ho; cases ho
    have loop := comp_loop (ρb := ρ) (k := k) X o rfl (turn_rest _ _ M.env hd1 fun g hg => hasy g (List.mem_of_getElem? hg)) (fun {_ _ _ _ _ _} a b c e => ih (d + 1) (.ref I) hd2 a b c e) hn (X.local hx) hσ o.new hDI hs hf items 0 rfl (Nat.zero_le _) hJ o.st (F.grow0 o.gr) (a.grow o.gr (fun m => nomatch m)) (fun _ _ e => e) o.gr.up ⟨o.fz, o.nh, F.notown o.new⟩ o.it0
    exact Ev.bind (EvC.runOwn (Q := fun f h' => f = .next ∧ CRes M ns D ρ h σ k h') (EvC.start hd1 loop (Ev.iterSelf o.wk o.it0)) |>.mono fun f h₄ hf => Ev.pure ⟨rfl, hf.2⟩)
end
end Mine
end
section
namespace Mine
/-- what a comprehension's block must be like: function-like, its own names local, the others global or read from around -/
def compOk (out sc : Scope) : Bool :=
  sc.kind == .function && sc.names.all (fun p => sc.names.lookup p.1 == some p.2 && (p.2 == .local || p.2 == .globalImplicit || (p.2 == .free && out.names.lookup p.1 == some .cell))) &&
  decide ((sc.names.map (·.1)).Nodup) && !lamScope sc
/-- and its block as the comprehension runs it -/
def celled (sc : Scope) : Scope := { sc with names := sc.names.map fun p => if p.2 == .free then (p.1, .cell) else p }
/-- names of the outer block that the comprehension's block sees -/
def seen (sc : Scope) (σ : Sto) : Sto := fun x => if sc.names.lookup x == some .free then σ x else none

def clos (env : Env) : List (Str × NameKind) → List (Str × Addr) → List (Str × Addr)
  | [], acc => acc
  | (n, k) :: r, acc => if k == .free then clos env r ((n, (env.cells.lookup n).getD 0) :: acc) else clos env r acc

theorem clos_mem {env : Env} {p : Str × Addr} : ∀ {names : List (Str × NameKind)} {acc : List (Str × Addr)}, p ∈ clos env names acc → p ∈ acc ∨ ((p.1, NameKind.free) ∈ names ∧ p.2 = (env.cells.lookup p.1).getD 0)
  | [], _, h => .inl h
  | (n, k) :: r, acc, h => by
    unfold clos at h
    split at h
    · next hk =>
      have hk' : k = .free := by simpa using hk
      subst hk'
      rcases clos_mem h with h1 | ⟨h1, h2⟩
      · rcases List.mem_cons.mp h1 with rfl | h1
        · exact .inr ⟨by simp, rfl⟩
        · exact .inl h1
      · exact .inr ⟨List.mem_cons_of_mem _ h1, h2⟩
    · rcases clos_mem h with h1 | ⟨h1, h2⟩
      · exact .inl h1
      · exact .inr ⟨List.mem_cons_of_mem _ h1, h2⟩
theorem clos_has {env : Env} : ∀ {names : List (Str × NameKind)} {acc : List (Str × Addr)}, (∀ p ∈ acc, p ∈ clos env names acc) ∧ ∀ n, (n, NameKind.free) ∈ names → (n, (env.cells.lookup n).getD 0) ∈ clos env names acc
  | [], _ => ⟨fun _ h => h, fun _ h => by cases h⟩
  | (n, k) :: r, acc => by
    unfold clos
    split
    · have ih := @clos_has env r ((n, (env.cells.lookup n).getD 0) :: acc)
      refine ⟨fun p hp => ih.1 p (List.mem_cons_of_mem _ hp), fun m hm => ?_⟩
      rcases List.mem_cons.mp hm with e | hm
      · cases e; exact ih.1 _ List.mem_cons_self
      · exact ih.2 m hm
    · next hk =>
      have ih := @clos_has env r acc
      refine ⟨ih.1, fun m hm => ?_⟩
      rcases List.mem_cons.mp hm with e | hm
      · cases e; exact absurd rfl hk
      · exact ih.2 m hm

theorem lookup_of_mem {α : Type} {x : Str} {c : α} : ∀ {l : List (Str × α)}, (x, c) ∈ l → (∀ c', (x, c') ∈ l → c' = c) → l.lookup x = some c
  | [], h, _ => by cases h
  | (k, v) :: r, h, hu => by
    rw [List.lookup_cons]
    cases hb : x == k with
    | true =>
      have := beq_iff_eq.mp hb
      subst this
      exact congrArg some (hu v (List.mem_cons_self ..))
    | false =>
      rcases List.mem_cons.mp h with e | h
      · cases e; simp at hb
      · exact lookup_of_mem h fun c' hc => hu c' (List.mem_cons_of_mem _ hc)

theorem mem_lookup {α : Type} {x : Str} {c : α} {l : List (Str × α)} (h : l.lookup x = some c) : (x, c) ∈ l := PySem.mem_of_lookup h

theorem closure_eq {scope : Scope} {env : Env} (hc : ∀ p ∈ scope.names, p.2 = NameKind.free → ∃ c, env.cells.lookup p.1 = some c) : closureFor scope env = pure (clos env scope.names []) := by
  have key : ∀ (names : List (Str × NameKind)) (acc : List (Str × Addr)), (∀ p ∈ names, p.2 = NameKind.free → ∃ c, env.cells.lookup p.1 = some c) →
      (forIn names acc fun (p : Str × NameKind) r => (if (p.2 == NameKind.free) = true then (do let a ← cellOf env p.1; pure (ForInStep.yield ((p.1, a) :: r))) else pure (ForInStep.yield r) : Sem (ForInStep (List (Str × Addr))))) = pure (clos env names acc) := by
    intro names
    induction names with
    | nil => intro acc _; rfl
    | cons p r ih =>
      intro acc h
      obtain ⟨n, k⟩ := p
      rw [List.forIn_cons]
      unfold clos
      by_cases hk : (k == NameKind.free) = true
      · simp only [hk, if_true]
        obtain ⟨c, hc⟩ := h (n, k) (List.mem_cons_self ..) (by simpa using hk)
        unfold cellOf
        have hc' : env.cells.lookup n = some c := hc
        simp only [hc', pure_bind, Option.getD_some]
        exact ih _ fun p hp => h p (List.mem_cons_of_mem _ hp)
      · simp only [hk, if_false, pure_bind]
        exact ih _ fun p hp => h p (List.mem_cons_of_mem _ hp)
  unfold closureFor
  have := key scope.names [] hc
  show (forIn scope.names [] _ >>= fun cs => pure cs) = _
  rw [show (forIn scope.names ([] : List (Str × Addr)) fun x r => (if (x.2 == NameKind.free) = true then (do let a ← cellOf env x.1; pure (ForInStep.yield ((x.1, a) :: r))) else pure (ForInStep.yield r) : Sem (ForInStep (List (Str × Addr))))) = pure (clos env scope.names []) from this]
  rfl

section
variable {M : Mc} {ρ : Mp} {μ : Mem} {h : Heap} {env : Env} {σ : Sto} {sc : Scope}
theorem compOk_mem {out sc : Scope} (h : compOk out sc = true) {p : Str × NameKind} (hp : p ∈ sc.names) : sc.names.lookup p.1 = some p.2 ∧ (p.2 = .local ∨ p.2 = .globalImplicit ∨ (p.2 = .free ∧ out.names.lookup p.1 = some .cell)) := by
  simp only [compOk, Bool.and_eq_true, List.all_eq_true] at h
  have := h.1.1.2 p hp
  simp only [Bool.or_eq_true, Bool.and_eq_true, beq_iff_eq] at this
  refine ⟨this.1, ?_⟩
  rcases this.2 with (h1 | h1) | h1
  · exact .inl h1
  · exact .inr (.inl h1)
  · exact .inr (.inr h1)
theorem compOk_kind {out sc : Scope} (h : compOk out sc = true) : sc.kind = .function := by
  simp only [compOk, Bool.and_eq_true, beq_iff_eq] at h; exact h.1.1.1
theorem compOk_nodup {out sc : Scope} (h : compOk out sc = true) : (sc.names.map (·.1)).Nodup := by
  simp only [compOk, Bool.and_eq_true, decide_eq_true_eq] at h; exact h.1.2

theorem compOk_lam {out sc : Scope} (h : compOk out sc = true) : lamScope sc = false := by
  simp only [compOk, Bool.and_eq_true] at h; simpa using h.2

theorem relabel_celled {sc : Scope} {scope : Scope} (henv : env.scope = sc) (hk : env.scope.kind = .function) (hc : compOk sc scope = true) : relabel scope env = celled scope := by
  unfold relabel celled
  have : (scope.names.map fun x => if (x.2 == NameKind.free && env.scope.kind == ScopeKind.function && env.kindOf x.1 == some NameKind.cell) = true then (x.1, NameKind.cell) else (x.1, x.2)) = scope.names.map fun p => if (p.2 == NameKind.free) = true then (p.1, NameKind.cell) else p := by
    refine List.map_congr_left fun p hp => ?_
    obtain ⟨_, h2⟩ := compOk_mem hc hp
    rcases h2 with h2 | h2 | ⟨h2, h3⟩
    · obtain ⟨n, k⟩ := p; simp only at h2; subst h2; rfl
    · obtain ⟨n, k⟩ := p; simp only at h2; subst h2; rfl
    · have : env.kindOf p.1 = some .cell := by unfold Env.kindOf; rw [henv]; exact h3
      simp [h2, hk, this]
  rw [← this]

theorem lookup_celled (scope : Scope) (x : Str) : (celled scope).names.lookup x = (scope.names.lookup x).map fun k => if k == .free then .cell else k := by
  unfold celled
  show List.lookup x (scope.names.map _) = _
  induction scope.names with
  | nil => rfl
  | cons p r ih =>
    obtain ⟨n, k⟩ := p
    rw [List.map_cons]
    by_cases hk : k = NameKind.free
    · subst hk
      show List.lookup x ((n, NameKind.cell) :: _) = _
      rw [List.lookup_cons, List.lookup_cons]
      cases hx : x == n with
      | true => rfl
      | false => exact ih
    · have hk' : (k == NameKind.free) = false := by simpa using hk
      have e : (if ((n, k).2 == NameKind.free) = true then ((n, k).1, NameKind.cell) else (n, k)) = (n, k) := if_neg (by rw [show (n, k).2 = k from rfl, hk']; decide)
      rw [e, List.lookup_cons, List.lookup_cons]
      cases hx : x == n with
      | true => show some k = some (if (k == NameKind.free) = true then _ else k); rw [hk']; rfl
      | false => exact ih

theorem clos_pairwise {sc scope : Scope} (F : FrS ρ env σ h) (henv : env.scope = sc) (hc : compOk sc scope = true) : (clos env scope.names []).Pairwise fun x y => x.2 ≠ y.2 := by
  have key : ∀ (names : List (Str × NameKind)) (acc : List (Str × Addr)), (∀ p ∈ names, p ∈ scope.names) → (names.map (·.1)).Nodup → (∀ q ∈ acc, env.cells.lookup q.1 = some q.2 ∧ q.1 ∉ names.map (·.1)) → (acc.Pairwise fun x y => x.2 ≠ y.2) →
      (clos env names acc).Pairwise fun x y => x.2 ≠ y.2 := by
    intro names
    induction names with
    | nil => intro acc _ _ _ h4; exact h4
    | cons p r ih =>
      intro acc h1 h2 h3 h4
      obtain ⟨n, k⟩ := p
      unfold clos
      simp only [List.map_cons, List.nodup_cons] at h2
      split
      · next hk =>
        have hk' : k = .free := by simpa using hk
        subst hk'
        obtain ⟨_, h5⟩ := compOk_mem hc (h1 _ List.mem_cons_self)
        have h6 : sc.names.lookup n = some .cell := by
          rcases h5 with h5 | h5 | ⟨_, h5⟩
          · cases h5
          · cases h5
          · exact h5
        obtain ⟨c, hcl⟩ := F.cx n (by unfold Env.kindOf; rw [henv]; exact h6)
        rw [hcl]
        refine ih _ (fun q hq => h1 q (List.mem_cons_of_mem _ hq)) h2.2 (fun q hq => ?_) ?_
        · rcases List.mem_cons.mp hq with rfl | hq
          · exact ⟨hcl, h2.1⟩
          · exact ⟨(h3 q hq).1, fun m => (h3 q hq).2 (List.mem_cons_of_mem _ m)⟩
        · refine List.pairwise_cons.mpr ⟨fun q hq e => ?_, h4⟩
          have h7 := (h3 q hq).1
          have : n = q.1 := name_of_addr F.ap (PySem.mem_of_lookup hcl) (by
            have e' : c = q.2 := e
            rw [e']; exact PySem.mem_of_lookup h7)
          exact (h3 q hq).2 (by simp [this])
      · exact ih _ (fun q hq => h1 q (List.mem_cons_of_mem _ hq)) h2.2 (fun q hq => ⟨(h3 q hq).1, fun m => (h3 q hq).2 (List.mem_cons_of_mem _ m)⟩) h4
  exact key scope.names [] (fun _ h => h) (compOk_nodup hc) (fun _ h => by cases h) .nil

/-- the comprehension's own frame -/
theorem comp_frame {sc scope : Scope} {C : Addr} {ρ' : Mp} {h' : Heap} (F : FrS ρ' env σ h') (henv : env.scope = sc) (hc : compOk sc scope = true) (hn : h'.Ns C fun _ => none) (hC1 : C ∉ owned env) (hC2 : C ∉ ρ'.l) (hC3 : ρ'.f C = none) :
    FrS ρ' (compEnvC scope (clos env scope.names []) C env) (seen scope σ) h' := by
  have hrel := relabel_celled henv F.fn hc
  have hkind : ∀ x, (compEnvC scope (clos env scope.names []) C env).kindOf x = (scope.names.lookup x).map fun k => if k == .free then .cell else k := fun x => by
    unfold Env.kindOf compEnvC
    show (relabel scope env).names.lookup x = _
    rw [hrel, lookup_celled]
  have hfree : ∀ x, scope.names.lookup x = some .free → env.kindOf x = some .cell ∧ (x, NameKind.free) ∈ scope.names := fun x hx => by
    have hm := mem_lookup hx
    obtain ⟨_, h5⟩ := compOk_mem hc hm
    refine ⟨?_, hm⟩
    rcases h5 with h5 | h5 | ⟨_, h5⟩
    · cases h5
    · cases h5
    · unfold Env.kindOf; rw [henv]; exact h5
  have hlook : ∀ x, scope.names.lookup x = some .free → ∀ c, env.cells.lookup x = some c → (clos env scope.names []).lookup x = some c := fun x hx c hcl => by
    refine lookup_of_mem ?_ fun c' hm => ?_
    · have := (@clos_has env scope.names []).2 x (hfree x hx).2
      rw [hcl] at this; exact this
    · rcases clos_mem hm with h1 | ⟨_, h2⟩
      · cases h1
      · have h2' : c' = (env.cells.lookup x).getD 0 := h2
        rw [h2', hcl]; rfl
  have hcell : ∀ x, (compEnvC scope (clos env scope.names []) C env).kindOf x = some .cell → scope.names.lookup x = some .free := fun x hx => by
    rw [hkind] at hx
    cases hl : scope.names.lookup x with
    | none => rw [hl] at hx; cases hx
    | some k =>
      rw [hl] at hx
      have hm := compOk_mem hc (mem_lookup hl)
      rcases hm.2 with h1 | h1 | ⟨h1, _⟩
      · have h1' : k = .local := h1
        subst h1'; simp at hx
      · have h1' : k = .globalImplicit := h1
        subst h1'; simp at hx
      · have h1' : k = .free := h1
        rw [h1']
  refine ⟨?_, F.gl, F.bi, ⟨_, hn, fun x a e1 e2 => ?_⟩, fun x a e1 => ?_, fun x a e1 e2 => ?_, fun p hp => ?_, fun x e => ?_, clos_pairwise F henv hc, ⟨hC2, hC3⟩, fun e => ?_⟩
  · show (relabel scope env).kind = _
    rw [hrel]; exact (compOk_kind hc : scope.kind = _)
  · unfold seen at e1
    split at e1
    · next hx =>
      have hx' : scope.names.lookup x = some .free := by simpa using hx
      rw [hkind, hx'] at e2; simp at e2
    · cases e1
  · unfold seen at e1
    split at e1
    · next hx =>
      have hx' : scope.names.lookup x = some .free := by simpa using hx
      exact .inr (by rw [hkind, hx']; rfl)
    · cases e1
  · unfold seen at e1
    split at e1
    · next hx =>
      have hx' : scope.names.lookup x = some .free := by simpa using hx
      obtain ⟨c, v, h1, h2, h3⟩ := F.cl x a e1 (hfree x hx').1
      exact ⟨c, v, hlook x hx' c h1, h2, h3⟩
    · cases e1
  · rcases clos_mem hp with h1 | ⟨h1, h2⟩
    · cases h1
    · obtain ⟨h3, _⟩ := compOk_mem hc h1
      obtain ⟨c, hcl⟩ := F.cx p.1 (hfree p.1 h3).1
      have : p.2 = c := by rw [h2, hcl]; rfl
      rw [this]
      obtain ⟨k1, k2, k3, k4⟩ := F.ce p.1 c hcl
      exact ⟨k1, fun (e : c = C) => hC1 (e ▸ mem_owned_cell hcl), k3, k4⟩
  · have hx' := hcell x e
    obtain ⟨c, hcl⟩ := F.cx x (hfree x hx').1
    exact ⟨c, hlook x hx' c hcl⟩
  · exfalso
    have h1 := compOk_lam hc
    have e' : lamScope (relabel scope env) = true := e
    rw [hrel] at e'
    unfold lamScope at h1 e'
    rw [lookup_celled] at e'
    cases hl : scope.names.lookup ("ways" : Str) with
    | none => rw [hl] at e'; simp at e'
    | some k =>
      rw [hl] at e' h1
      by_cases hk : k = NameKind.free
      · subst hk; simp at e'
      · simp [hk] at e'; simp [e'] at h1

end
end Mine
end
section
namespace Mine

def masked (ns : List Str) (fv : List Bool) (sc : Scope) : Bool := (ns.zip fv).all fun p => !p.2 || sc.names.lookup p.1 == some .free

section
variable {M : Mc} {ρ : Mp} {μ : Mem} {h : Heap} {ns : List Str} {sc scope : Scope} {σ : Lo} {elt it : Expr} {W : WE} {V : WI} {gs : List Comprehension} {js : List (Nat × WI)} {p pos : Pos} {n : Nat} {z : Str} {fv : List Bool}

theorem keep_sub {sc : Scope} {a : AV} {y : Str} : ∀ {ns : List Str} {fv : List Bool} {σ : Lo}, masked ns fv sc = true → sto ns (keepP fv σ) y = some a → seen sc (sto ns σ) y = some a := by
  intro ns
  induction ns with
  | nil => intro fv σ _ h; cases h
  | cons x ns ih =>
    intro fv σ hm h
    cases fv with
    | nil => cases h
    | cons b fv => cases σ with
      | nil => cases h
      | cons c σ =>
        have hm' : (!b || sc.names.lookup x == some .free) = true ∧ masked ns fv sc = true := by
          unfold masked at hm ⊢
          rw [List.zip_cons_cons, List.all_cons, Bool.and_eq_true] at hm; exact hm
        have h : (if y = x then keep1 b c else sto ns (keepP fv σ) y) = some a := h
        show (if sc.names.lookup y == some .free then (if y = x then c else sto ns σ y) else none) = some a
        by_cases hy : y = x
        · rw [if_pos hy] at h
          cases b with
          | false => cases h
          | true => rw [if_pos (hy ▸ hm'.1), if_pos hy]; exact h
        · rw [if_neg hy] at h
          have := ih hm'.2 h
          unfold seen at this
          rw [if_neg hy]; exact this

theorem comp_names (hc : compOk sc scope = true) : ∀ x ∈ scope.names, x.2 = .local → scope.names.lookup x.1 = some .local := fun x hx hl => by
  have := (compOk_mem hc hx).1; rw [hl] at this; exact this
theorem comp_clos {σ : Sto} {env : Env} (F : FrS ρ env σ h) (henv : env.scope = sc) (hc : compOk sc scope = true) : closureFor scope env = pure (clos env scope.names []) :=
  closure_eq fun p hp hf => by
    have := (compOk_mem hc hp).2
    rcases this with h1 | h1 | ⟨_, h1⟩
    · rw [hf] at h1; cases h1
    · rw [hf] at h1; cases h1
    · exact F.cx p.1 (by unfold Env.kindOf; rw [henv]; exact h1)

/-- how the made list and the block's frame lie when the loop is through -/
structure CompEnd (M : Mc) (ns : List Str) (ρ : Mp) (h : Heap) (σ : Lo) (D C : Addr) (h' : Heap) (ρ' : Mp) (μ' : Mem) (out : List PyData) : Prop where
  gr : Grow [] ρ h ρ' h'
  st : St M.h₀ ρ' μ' h'
  fr : FrS ρ' M.env (sto ns σ) h'
  is : Is ρ'.f (.ref D) (.list out)
  cn : ∃ m, h'.Ns C m
  cfz : ρ'.f C = none
  cnh : C ∉ ρ'.l
  cno : C ∉ owned M.env
  cnn : h.get? C = none

theorem comp_own (F : FrS ρ M.env (sto ns σ) h) (henv : M.env.scope = sc) (hc : compOk sc scope = true) {C b : Addr} (m : b ∈ owned (compEnvC scope (clos M.env scope.names []) C M.env)) : b = C ∨ b ∈ owned M.env := by
  rcases List.mem_cons.mp m with e | m
  · exact .inl e
  · obtain ⟨p, hp, rfl⟩ := List.mem_map.mp m
    have hp' : p ∈ clos M.env scope.names [] := hp
    rcases clos_mem hp' with h1 | ⟨h1, h2⟩
    · cases h1
    · obtain ⟨_, h5⟩ := compOk_mem hc h1
      have h6 : sc.names.lookup p.1 = some .cell := by
        rcases h5 with h5 | h5 | ⟨_, h5⟩
        · cases h5
        · cases h5
        · exact h5
      obtain ⟨c', hcl⟩ := F.cx p.1 (by unfold Env.kindOf; rw [henv]; exact h6)
      have : p.2 = c' := by rw [h2, hcl]; rfl
      rw [this]; exact .inr (mem_owned_cell hcl)

theorem comp_core {k : List PyData → Mem → Prop} {s : Shared} {E : Value → Shared → Prop} {Rp : Value → Addr → Result → Shared → Prop} (X : Wk ns sc M) (hs : s.heap = h) (ht : 1 ≤ s.toks) (S : St M.h₀ ρ μ h) (F : FrS ρ M.env (sto ns σ) h) (hc : compOk sc scope = true) (hx : scope.names.lookup z = some .local) (hn : ns[n]? = some z) (hm : masked ns fv scope = true)
    (He : SndE ns (celled scope) elt W) (HI : SndI ns sc it V) (HG : SndG ns (celled scope) gs js) (w : V M.c σ μ fun items μ => compP n (compOut W js) M.c items [] (keepP fv σ) μ k)
    (q : ∀ D C f s' ρ' μ' out, s'.gens = s.gens → s'.os = s.os → 1 ≤ s'.toks → CompEnd M ns ρ h σ D C s'.heap ρ' μ' out → k out μ' → Rp (.ref D) C (.ok f) s') :
    wpAny (model M.prog M.w) M.A (eval it M.env) (fun xv s₁ => wpAny (model M.prog M.w) M.A (pyIter xv) (fun it' s₂ => wpAny (model M.prog M.w) M.A (newList []) (fun acc s₃ =>
      wpAny (model M.prog M.w) M.A (newFunctionEnv scope M.env.globals (clos M.env scope.names []) [] M.env.qual none .none (some M.env)) (fun cenv s₄ =>
        codeAny (model M.prog M.w) M.A (.compStart (.ListComp elt (⟨.Name z p, it, [], 0⟩ :: gs) scope pos) 0 it' acc { cenv with scope := relabel scope M.env }) (Rp acc cenv.locals) s₄) E s₃) E s₂) E s₁) E s := by
  have step := HI.go (Q := fun it' h₂ => ∃ items μ₁, IterAt M ρ h items μ₁ it' h₂ ∧ compP n (compOut W js) M.c items [] (keepP fv σ) μ₁ k) X S F w fun it' h₂ items μ₁ a b => ⟨items, μ₁, a, b⟩
  refine wpAny_mono (wpAny_toks_of ht (step s hs ht)) (fun xv s₁ q₁ => ?_) fun _ _ q => q.2.elim
  obtain ⟨ht₁, hg₁, hos₁, q₁⟩ := q₁
  refine wpAny_mono (wpAny_toks_of ht₁ (q₁ s₁ rfl ht₁)) (fun it' s₂ q₂ => ?_) fun _ _ q => q.2.elim
  obtain ⟨ht₂, hg₂, hos₂, items, μ₁, ⟨I, fp, P, It, ρ₁, rfl, o⟩, hσ, J, hJ, hjs, hf⟩ := q₂
  have hcell : ∀ y ∈ scope.names, y.2 ≠ .cell := fun y hy e => by
    rcases (compOk_mem hc hy).2 with h1 | h1 | ⟨h1, _⟩ <;> (rw [e] at h1; cases h1)
  refine wpAny_newObj_type (wpAny_newFunctionEnv hcell (fun y hy => by cases hy) (fun h₄ hns₄ hsb₄ => ?_) (compOk_kind hc))
  dsimp only at hns₄ hsb₄ ⊢
  generalize hH3 : s₂.heap.push { cls := .type "list", dict := none, data := .seq ([] : List Value).toArray } = h₃ at hns₄ hsb₄ ⊢
  generalize hD : s₂.heap.objs.size = D at *
  have hCsz : h₃.objs.size = D + 1 := by rw [← hH3, Heap.size_push, hD]
  generalize hC : h₃.objs.size = C at *
  have hDC : C ≠ D := by rw [hCsz]; exact Nat.succ_ne_self D
  have hk3 : ∀ b ob, h₃.get? b = some ob → h₄.get? b = some ob := fun b ob e => hsb₄.extBut b ob (by rw [← hC]; exact Nat.ne_of_lt (Heap.lt_size e)) (Heap.get?_push_of_some _ e)
  have kept : ∀ b ob, s₂.heap.get? b = some ob → h₄.get? b = some ob := fun b ob e => hk3 b ob (hH3 ▸ Heap.get?_push_of_some _ e)
  have hDob : h₄.get? D = some { cls := .type "list", data := .seq ([] : List Value).toArray } := hk3 _ _ (by rw [← hH3, ← hD]; exact Heap.get?_push_size _ rfl)
  have hDn2 : s₂.heap.get? D = none := fresh_at (by rw [hD]; exact Nat.le_refl _)
  have hCn2 : s₂.heap.get? C = none := fresh_at (by rw [hD, hCsz]; exact Nat.le_succ _)
  have hDn := o.gr.back hDn2
  have hCn := o.gr.back hCn2
  have S₄ : St M.h₀ ρ₁ μ₁ h₄ := o.st.keepAll kept
  have g₄ : Grow [] ρ h ρ₁ h₄ := o.gr.trans (.keepAll kept)
  have FC := comp_frame (F.grow0 g₄) X.sc hc (by simpa using hns₄) (F.notown hCn) (o.st.notin_of_fresh hCn2) (o.st.none_of_fresh hCn2)
  have ownC := fun b (m : b ∈ owned (compEnvC scope (clos M.env scope.names []) C M.env)) => comp_own F X.sc hc m
  obtain ⟨oI, hoI⟩ := o.hob _ _ o.it0
  have hI2 : D ≠ I := fun e => by rw [← e, hDn2] at hoI; cases hoI
  have hI3 : I ≠ C := fun e => by rw [e, hCn2] at hoI; cases hoI
  have hsc : (compEnvC scope (clos M.env scope.names []) C M.env).scope = celled scope := relabel_celled X.sc F.fn hc
  have o' : IterOf { M with env := compEnvC scope (clos M.env scope.names []) C M.env } ρ h items μ₁ s₂.heap I fp P It ρ₁ := ⟨o.new, o.gr, o.st, o.fz, o.nh, o.wk, o.hP, o.hfp, o.hob, o.it0⟩
  have X' : Wk ns (celled scope) { M with env := compEnvC scope (clos M.env scope.names []) C M.env } := { X with sc := hsc }
  have hasy : ∀ g ∈ (⟨.Name z p, it, [], 0⟩ :: gs : List Comprehension), g.is_async = 0 := fun g hg => (List.mem_cons.mp hg).elim (fun e => e ▸ rfl) (HG.asy g)
  have hloc : (celled scope).names.lookup z = some .local := by rw [lookup_celled, hx]; rfl
  have loop := comp_loop (M := { M with env := compEnvC scope (clos M.env scope.names []) C M.env }) (ρb := ρ) (hb := h) (k := k) (J := J) (pos := pos) X' o' rfl (turn_rest _ _ _ (elt := elt) (gens := ⟨.Name z p, it, [], 0⟩ :: gs) (scope := scope) (d := 0) rfl fun g hg => hasy g (List.mem_of_getElem? hg))
    (fun {_ _ _ _ _ _} a b c e => comp_act (M := { M with env := compEnvC scope (clos M.env scope.names []) C M.env }) X' hasy He HG 0 (.ref I) rfl a b c e) hn (X'.local hloc) hσ o.new hI2 hjs hf items 0 rfl (Nat.zero_le _) hJ S₄ (FC.weaken fun _ _ e => keep_sub hm e)
    ⟨⟨_, _, hDob, .nil⟩, o.st.none_of_fresh hDn2, o.st.notin_of_fresh hDn2, fun m => (ownC D m).elim (Ne.symm hDC) (F.notown hDn)⟩ (fun _ _ e => e) g₄.up ⟨o.fz, o.nh, fun m => (ownC I m).elim hI3 (F.notown o.new)⟩ (o.wk.frame _ _ _ o.it0 fun b hb ob e => kept b ob e)
  have fin := EvC.start (d := 0) (M := { M with env := compEnvC scope (clos M.env scope.names []) C M.env }) rfl loop (Ev.iterSelf o.wk (o.wk.frame _ _ _ o.it0 fun b hb ob e => kept b ob e))
  have ht₄ : 1 ≤ s₂.toks + ([] : List (Str × Value)).length := ht₂
  refine codeAny_mono (codeAny_toks_of ht₄ (fin { s₂ with heap := h₄, toks := s₂.toks + ([] : List (Str × Value)).length } rfl ht₄)) fun rr s' r => ?_
  obtain ⟨q0, r⟩ := r
  cases rr with
  | error e => exact r.elim
  | ok f =>
    obtain ⟨q1, q2, _, ρ', μ', out, g', S', F', a', w'⟩ := r
    have g'' : Grow [] ρ h ρ' s'.heap := g'.drop fun a m => (List.mem_cons.mp m).elim (fun e => e ▸ hDn) fun m => (List.mem_singleton.mp m : a = C) ▸ hCn
    obtain ⟨vs, n, ho, r⟩ := a'.ob
    obtain ⟨m, hm, _⟩ := F'.ns
    have g3 := g''.adopt (o := { cls := .type "list", data := .seq vs n }) a'.fz hDn
    exact q D C f s' _ μ' out (q1.trans (hg₂.trans hg₁)) (q2.trans (hos₂.trans hos₁)) q0 ⟨g3, S'.adopt ho a'.fz a'.nh, F.grow0 g3, .list Mp.put_self (r.mono (Mp.put_mono a'.fz)), ⟨m, hm⟩, (Mp.put_ne hDC).trans F'.lo.2, F'.lo.1, F.notown hCn, hCn⟩ w'

theorem SndE.comp (hc : compOk sc scope = true) (hx : scope.names.lookup z = some .local) (hn : ns[n]? = some z) (hm : masked ns fv scope = true)
    (He : SndE ns (celled scope) elt W) (HI : SndI ns sc it V) (HG : SndG ns (celled scope) gs js) : SndE ns sc (.ListComp elt (⟨.Name z p, it, [], 0⟩ :: gs) scope pos) (wComp fv n V js W) := ⟨fun _ _ => rfl, fun {M ρ σ μ h k} X S F w s hs ht => by
  rw [eval_ListComp]
  refine wpAny_comprehension_free (use := none) rfl (HI.fs M.env) (comp_clos F X.sc hc) (compOk_kind hc) (comp_names hc) ?_
  refine comp_core X hs ht S F hc hx hn hm He HI HG w fun D C f s' ρ' μ' out q1 q2 q3 x w => ?_
  obtain ⟨m, hm⟩ := x.cn
  exact ⟨m, hm, fun h'' hsb => ⟨q1, q2, .mk (a := .d (.list out)) (x.gr.skip x.cnn (fun b o hb e => hsb.extBut b o hb e)) (x.st.but x.cfz x.cnh (fun b o hb e => hsb.extBut b o hb e)) x.is w⟩⟩⟩

theorem SndS.asgComp {m : Nat} {u : Str} {pu spos : Pos} (hnu : ns[m]? = some u) (hu : isVar sc u = true) (hc : compOk sc scope = true) (hx : scope.names.lookup z = some .local) (hn : ns[n]? = some z) (hm : masked ns fv scope = true)
    (He : SndE ns (celled scope) elt W) (HI : SndI ns sc it V) (HG : SndG ns (celled scope) gs js) : SndS ns sc (.Assign [.Name u pu] (.ListComp elt (⟨.Name z p, it, [], 0⟩ :: gs) scope pos) spos) (sAsg m (wComp fv n V js W)) := ⟨fun {M ρ σ μ h k} X S F w => by
  have hsw : ∃ b, swapsWith (.ListComp elt (⟨.Name z p, it, [], 0⟩ :: gs) scope pos) (some (.Name u pu)) spos.line M.env = pure b := ⟨_, rfl⟩
  obtain ⟨b, hsw⟩ := hsw
  cases b with
  | false =>
    rw [exec_Assign_Name M.env u pu _ spos hsw]
    exact Ev.bind (Ev.standAt (Ev.bind (((SndE.comp hc hx hn hm He HI HG).go X S F w).mono fun v h' r => r.frz |>.el fun a ρ' μ' g S i ⟨d, e, q⟩ => Ev.bind (Ev.standAt (Ev.bindPX X F g S hnu hu i (e ▸ q))))))
  | true =>
    rw [exec_Assign_Name_used _ _ _ _ hsw]
    refine Ev.bind (Ev.standAt (Ev.bind ?_))
    intro s hs ht
    show wpAny _ M.A (do let _ ← comprehension (.ListComp elt (⟨.Name z p, it, [], 0⟩ :: gs) scope pos) scope M.env _ (newList []) false (eval it M.env) (some (assign (.Name u pu) M.env))) _ _ s
    refine wpAny_bind (wpAny_mono (wpAny_comprehension_free (use := some (assign (.Name u pu) M.env)) (Q := fun _ s' => s'.gens = s.gens ∧ s'.os = s.os ∧ 1 ≤ s'.toks ∧ PX M ns ρ h k .next s'.heap) rfl (HI.fs M.env) (comp_clos F X.sc hc) (compOk_kind hc) (comp_names hc) ?_) (fun _ s' hq => ?_) fun _ _ e => e)
    · refine comp_core X hs ht S F hc hx hn hm He HI HG w fun D C f s' ρ' μ' out q1 q2 q3 x w => ?_
      obtain ⟨m', hm'⟩ := x.cn
      show wpAny _ M.A (assign (.Name u pu) M.env (.ref D)) _ _ _
      refine wpAny_assign_Name ?_
      refine wpAny_mono (wpAny_toks_of q3 (Ev.storeN (a := .d (.list out)) (Q := fun _ h' => St M.h₀ ρ' μ' h' ∧ FrS ρ' M.env (sto ns (σ.set m (some (.d (.list out))))) h' ∧ Grow (owned M.env) ρ' s'.heap ρ' h') X x.st x.fr hnu hu x.is (fun h' a b c => ⟨a, b, c⟩) s' rfl q3)) (fun _ s'' q => ?_) fun _ _ q => q.2.elim
      obtain ⟨t3, t1, t2, S3, F3, g3⟩ := q
      refine ⟨m', hm'.at' fun o ho => g3.keep _ o ho x.cnh x.cno, fun h3 hsb => ⟨t1.trans q1, t2.trans q2, t3, ?_⟩⟩
      have hk : ∀ b o, b ≠ C → s''.heap.get? b = some o → h3.get? b = some o := fun b o hb e => hsb.extBut b o hb e
      exact .mk ((x.gr.up.trans g3).skip x.cnn hk) (S3.but x.cfz x.cnh hk) (F3.off x.cno hk) .next w
    · exact wpAny_pure ⟨hq.1, hq.2.1, Ev.pure hq.2.2.2⟩⟩
end
end Mine
end
section
namespace Mine

/-- what a call hands back; what it made besides is let go -/
def finP (nb : Nat) (k : KE) : KS
  | .next, _, μ => k (.d .none) (μ.take nb)
  | .ret (.d x), _, μ => k (.d x) (μ.take nb)
  | .ret (.h j), _, μ => ∃ xs, μ[j]? = some (.lst xs) ∧ nb ≤ j ∧ k (.d (.list xs)) (μ.take nb)
  | _, _, _ => False
def initS (n : Nat) (as : List AV) : Lo := as.map some ++ List.replicate (n - as.length) none
/-- a def's meaning: of j parameters and n names -/
def mfun (W : WS) (j n : Nat) (c : Cx) (as : List AV) (μ : Mem) (k : KE) : Prop := as.length = j ∧ W c (initS n as) μ (finP μ.length k)
def bindAll : List Str → List AV → Sto
  | x :: xs, a :: as => upd (bindAll xs as) x a
  | _, _ => fun _ => none

/-! the cells of a call's frame -/
theorem cellsFrom_key : ∀ (names : List (Str × NameKind)) (n : Nat) (acc : List (Str × Addr)) (x : Str), (∃ c, (x, c) ∈ cellsFrom n names acc) → (∃ c, (x, c) ∈ acc) ∨ (x, NameKind.cell) ∈ names
  | [], _, _, _, h => .inl h
  | (y, k) :: r, n, acc, x, h => by
    unfold cellsFrom at h
    split at h
    · next hk =>
      have hk' : k = .cell := by simpa using hk
      subst hk'
      rcases cellsFrom_key r _ _ x h with ⟨c, h1⟩ | h1
      · rcases List.mem_cons.mp h1 with e | h1
        · cases e; exact .inr (by simp)
        · exact .inl ⟨c, h1⟩
      · exact .inr (List.mem_cons_of_mem _ h1)
    · rcases cellsFrom_key r _ _ x h with h1 | h1
      · exact .inl h1
      · exact .inr (List.mem_cons_of_mem _ h1)

theorem cellsFrom_has : ∀ (names : List (Str × NameKind)) (n : Nat) (acc : List (Str × Addr)), (∀ p ∈ acc, p ∈ cellsFrom n names acc) ∧ ∀ x, (x, NameKind.cell) ∈ names → ∃ c, (x, c) ∈ cellsFrom n names acc
  | [], _, _ => ⟨fun _ h => h, fun _ h => by cases h⟩
  | (y, k) :: r, n, acc => by
    unfold cellsFrom
    split
    · obtain ⟨h1, h2⟩ := cellsFrom_has r (n + 1) ((y, n) :: acc)
      refine ⟨fun p hp => h1 p (List.mem_cons_of_mem _ hp), fun x hx => ?_⟩
      rcases List.mem_cons.mp hx with e | hx
      · cases e; exact ⟨n, h1 _ List.mem_cons_self⟩
      · exact h2 x hx
    · next hk =>
      obtain ⟨h1, h2⟩ := cellsFrom_has r n acc
      refine ⟨h1, fun x hx => ?_⟩
      rcases List.mem_cons.mp hx with e | hx
      · cases e; exact absurd rfl hk
      · exact h2 x hx

theorem cellsFrom_nodup : ∀ (names : List (Str × NameKind)) (n : Nat) (acc : List (Str × Addr)), (names.map (·.1)).Nodup → (∀ p ∈ acc, p.1 ∉ names.map (·.1)) → (acc.map (·.1)).Nodup → ((cellsFrom n names acc).map (·.1)).Nodup
  | [], _, _, _, _, h => h
  | (y, k) :: r, n, acc, h1, h2, h3 => by
    simp only [List.map_cons, List.nodup_cons] at h1
    unfold cellsFrom
    split
    · refine cellsFrom_nodup r _ _ h1.2 (fun p hp => ?_) ?_
      · rcases List.mem_cons.mp hp with rfl | hp
        · exact h1.1
        · exact fun m => h2 p hp (by simp only [List.map_cons]; exact List.mem_cons_of_mem _ m)
      · simp only [List.map_cons, List.nodup_cons]
        refine ⟨fun m => ?_, h3⟩
        obtain ⟨p, hp, e⟩ := List.mem_map.mp m
        exact h2 p hp (by simp [e])
    · exact cellsFrom_nodup r _ _ h1.2 (fun p hp m => h2 p hp (by simp only [List.map_cons]; exact List.mem_cons_of_mem _ m)) h3

theorem lookup_nodup {α : Type} {l : List (Str × α)} (hn : (l.map (·.1)).Nodup) {x : Str} {c : α} (h : (x, c) ∈ l) : l.lookup x = some c := by
  refine lookup_of_mem h fun c' h' => ?_
  induction l with
  | nil => cases h
  | cons p r ih =>
    simp only [List.map_cons, List.nodup_cons] at hn
    rcases List.mem_cons.mp h with e | h1 <;> rcases List.mem_cons.mp h' with e' | h2
    · rw [← e] at e'; cases e'; rfl
    · rw [← e] at hn; exact absurd (List.mem_map.mpr ⟨_, h2, rfl⟩) hn.1
    · rw [← e'] at hn; exact absurd (List.mem_map.mpr ⟨_, h1, rfl⟩) hn.1
    · exact ih hn.2 h1 h2

theorem bindL_skip {kd : Str → Option NameKind} : ∀ {binds : List (Str × Value)} {m : Str → Option Value} {x : Str}, x ∉ binds.map (·.1) → bindL kd binds m x = m x
  | [], _, _, _ => rfl
  | (y, v) :: r, m, x, h => by
    simp only [List.map_cons, List.mem_cons, not_or] at h
    unfold bindL
    rw [bindL_skip h.2]
    split
    · show (if x = y then some v else m x) = _
      rw [if_neg h.1]
    · rfl
theorem bindC_skip {kd : Str → Option NameKind} : ∀ {binds : List (Str × Value)} {m : Str → Option Value} {x : Str}, x ∉ binds.map (·.1) → bindC kd binds m x = m x
  | [], _, _, _ => rfl
  | (y, v) :: r, m, x, h => by
    simp only [List.map_cons, List.mem_cons, not_or] at h
    unfold bindC
    rw [bindC_skip h.2]
    split
    · rfl
    · show (if x = y then some v else m x) = _
      rw [if_neg h.1]
theorem bindL_get {kd : Str → Option NameKind} : ∀ {binds : List (Str × Value)} {m : Str → Option Value} {x : Str} {v : Value}, (binds.map (·.1)).Nodup → (x, v) ∈ binds → kd x = some .local → bindL kd binds m x = some v
  | [], _, _, _, _, h, _ => by cases h
  | (y, u) :: r, m, x, v, hn, h, hk => by
    simp only [List.map_cons, List.nodup_cons] at hn
    unfold bindL
    rcases List.mem_cons.mp h with e | h
    · cases e
      rw [bindL_skip hn.1, if_pos hk]
      exact if_pos rfl
    · exact bindL_get hn.2 h hk
theorem bindC_get {kd : Str → Option NameKind} : ∀ {binds : List (Str × Value)} {m : Str → Option Value} {x : Str} {v : Value}, (binds.map (·.1)).Nodup → (x, v) ∈ binds → kd x = some .cell → bindC kd binds m x = some v
  | [], _, _, _, _, h, _ => by cases h
  | (y, u) :: r, m, x, v, hn, h, hk => by
    simp only [List.map_cons, List.nodup_cons] at hn
    unfold bindC
    rcases List.mem_cons.mp h with e | h
    · cases e
      rw [bindC_skip hn.1, if_neg (by rw [hk]; decide)]
      exact if_pos rfl
    · exact bindC_get hn.2 h hk

theorem bindAll_get {ρ : Mp} : ∀ {ps : List Str} {as : List AV} {vs : List Value} {x : Str} {a : AV}, IsVs ρ vs as → bindAll ps as x = some a → ∃ v, (x, v) ∈ ps.zip vs ∧ IsV ρ v a
  | [], _, _, _, _, _, e => by simp [bindAll] at e
  | p :: ps, [], _, _, _, _, e => by simp [bindAll] at e
  | p :: ps, b :: as, _, x, a, .cons i is, e => by
    unfold bindAll upd at e
    split at e
    · next hx => cases e; subst hx; exact ⟨_, by simp, i⟩
    · obtain ⟨v, h1, h2⟩ := bindAll_get is e
      exact ⟨v, List.mem_cons_of_mem _ h1, h2⟩

structure FnAt (h₀ : Heap) (fa : Addr) (o : Obj) (fd : FuncData) (ps : List Str) (sc : Scope) (body : List Stmt) : Prop where
  ho : h₀.get? fa = some o
  hd : o.data = .func fd
  bd : fd.body = .stmts body
  scp : fd.scope = sc
  gl : fd.globals = mainGlobals
  bi : fd.builtins = builtinsNs
  cl : fd.closure = []
  code : h₀.CodeRec fd.code fd.qualname
  bind : ∀ vals : List Value, vals.length = ps.length → bindArgs fd ⟨vals, []⟩ = pure (ps.zip vals)
  kind : sc.kind = .function
  co : sc.isCoroutine = false
  gen : sc.isGenerator = false
  pk : ∀ p ∈ ps, sc.names.lookup p = some .local ∨ sc.names.lookup p = some .cell
  nd : (sc.names.map (·.1)).Nodup
  np : ps.Nodup
  lm : lamScope sc = true → fd.qualname = ("_law_least" : Str) ∧ fd.code = .ref lamCode


theorem IsVs.len {ρ : Mp} {vs as} (i : IsVs ρ vs as) : vs.length = as.length := i.length
theorem sto_none {y : Str} : ∀ {ns : List Str} {n : Nat}, sto ns (List.replicate n none) y = none := by
  intro ns
  induction ns with
  | nil => intro n; rfl
  | cons x ns ih =>
    intro n
    cases n with
    | zero => rfl
    | succ n =>
      show (if y = x then none else sto ns (List.replicate n none) y) = none
      split
      · rfl
      · exact ih
theorem sto_init {y : Str} {a : AV} {n : Nat} {rest : List Str} : ∀ {ps : List Str} {as : List AV}, as.length = ps.length → sto (ps ++ rest) (as.map some ++ List.replicate n none) y = some a → bindAll ps as y = some a := by
  intro ps
  induction ps with
  | nil =>
    intro as hl h
    cases List.eq_nil_of_length_eq_zero hl
    rw [show (([] : List Str) ++ rest) = rest from rfl, List.map_nil, List.nil_append, sto_none] at h
    cases h
  | cons x ps ih =>
    intro as hl h
    cases as with
    | nil => cases hl
    | cons b as =>
      have h : (if y = x then some b else sto (ps ++ rest) (as.map some ++ List.replicate n none) y) = some a := h
      show (if y = x then some b else bindAll ps as y) = some a
      by_cases hy : y = x
      · rw [if_pos hy] at h ⊢; exact h
      · rw [if_neg hy] at h ⊢; exact ih (Nat.succ.inj hl) h

section
variable {M : Mc} {h₀ : Heap} {ρ : Mp} {μ : Mem} {h : Heap} {env : Env} {σ : Sto} {sc : Scope}

theorem call_frame {fa : Addr} {o : Obj} {fd : FuncData} {ps : List Str} {body : List Stmt} {as : List AV} {vs : List Value} {s s₁ : Shared} (Fn : FnAt h₀ fa o fd ps sc body) (S : St M.h₀ ρ μ s.heap) (i : IsVs ρ vs as) (hl : vs.length = ps.length)
    (x : InCallC s (callEnvC fd s.heap.objs.size fa).locals (bindL (callEnvC fd s.heap.objs.size fa).kindOf (ps.zip vs) fun _ => none) (callEnvC fd s.heap.objs.size fa).cells (bindC (callEnvC fd s.heap.objs.size fa).kindOf (ps.zip vs) fun _ => none) s₁) :
    FrS ρ (callEnvC fd s.heap.objs.size fa) (bindAll ps as) s₁.heap := by
  have hkd : ∀ y, (callEnvC fd s.heap.objs.size fa).kindOf y = sc.names.lookup y := fun y => by
    unfold Env.kindOf; show fd.scope.names.lookup y = _; rw [Fn.scp]
  have hkeys : ((ps.zip vs).map (·.1)) = ps := by rw [List.map_fst_zip (by omega)]
  have hcells : (callEnvC fd s.heap.objs.size fa).cells = cellsFrom (s.heap.objs.size + 1) sc.names [] := by
    show cellsFrom _ fd.scope.names [] = _; rw [Fn.scp]
  have hnd := cellsFrom_nodup sc.names (s.heap.objs.size + 1) [] Fn.nd (fun _ h => by cases h) (by simp)
  have hcell : ∀ y, sc.names.lookup y = some .cell → ∃ c, (callEnvC fd s.heap.objs.size fa).cells.lookup y = some c := fun y hy => by
    rw [hcells]
    obtain ⟨c, hc⟩ := (cellsFrom_has sc.names (s.heap.objs.size + 1) []).2 y (mem_lookup hy)
    exact ⟨c, lookup_nodup hnd hc⟩
  have fresh : ∀ c, s.heap.objs.size ≤ c → c ∉ ρ.l ∧ ρ.f c = none := fun c hc => ⟨S.notin_of_fresh (fresh_at hc), S.none_of_fresh (fresh_at hc)⟩
  refine ⟨?_, ?_, ?_, ⟨_, x.toInCall.ns, fun y a e1 e2 => ?_⟩, fun y a e1 => ?_, fun y a e1 e2 => ?_, fun p hp => ?_, fun y e => hcell y (by rw [← hkd]; exact e), x.apart, fresh _ (Nat.le_refl _), fun e => ?_⟩
  · show fd.scope.kind = _; rw [Fn.scp]; exact Fn.kind
  · exact Fn.gl
  · exact Fn.bi
  · obtain ⟨v, h1, h2⟩ := bindAll_get i e1
    exact ⟨v, bindL_get (by rw [hkeys]; exact Fn.np) h1 e2, h2⟩
  · obtain ⟨v, h1, h2⟩ := bindAll_get i e1
    rw [hkd]
    exact Fn.pk y (by have := (List.of_mem_zip h1).1; exact this)
  · obtain ⟨v, h1, h2⟩ := bindAll_get i e1
    obtain ⟨c, hc⟩ := hcell y (by rw [← hkd]; exact e2)
    refine ⟨c, v, hc, ?_, h2⟩
    have := x.cell y c hc
    rw [bindC_get (by rw [hkeys]; exact Fn.np) h1 e2] at this
    exact this
  · have hlk : (callEnvC fd s.heap.objs.size fa).cells.lookup p.1 = some p.2 := by
      rw [hcells] at hp ⊢
      exact lookup_nodup hnd hp
    have hab : s.heap.objs.size < p.2 := x.above p.1 p.2 hp
    exact ⟨⟨_, x.cell p.1 p.2 hlk⟩, Nat.ne_of_gt hab, fresh _ (Nat.le_of_lt hab)⟩
  · have e' : lamScope fd.scope = true := e
    rw [Fn.scp] at e'
    obtain ⟨h1, h2⟩ := Fn.lm e'
    refine ⟨?_, h2⟩
    show fd.qualname ++ ".<locals>." = _
    rw [h1]; rfl


theorem Grow.own {X : List Addr} {ρ' h'} (g : Grow X ρ h ρ' h') (hX : ∀ a ∈ X, h.get? a = none) : Grow [] ρ h ⟨ρ'.f, ρ.l⟩ h' :=
  { g.drop hX with eta := List.prefix_refl _, new := fun a m => .inl m }

/-- a call of a def, the tokens kept in sight -/
theorem codeAny_call_toks {s : Shared} {ρ : Result → Shared → Prop} {a : Addr} {o : Obj} {fd : FuncData} {body : List Stmt} {vals : List Value} {binds : List (Str × Value)}
    (hroom : A.depth < recursionLimit) (ht : 1 ≤ s.toks) (ho : s.heap.get? a = some o) (hdata : o.data = .func fd) (hlim : s.heap.NoLimit) (hcd : s.heap.CodeRec fd.code fd.qualname)
    (hbody : fd.body = .stmts body) (hbind : bindArgs fd ⟨vals, []⟩ = pure binds) (hclo : fd.closure = [])
    (hkind : ∀ x ∈ binds, fd.scope.names.lookup x.1 = some .local ∨ (fd.scope.names.lookup x.1 = some .cell ∧ ((cellsFrom (s.heap.objs.size + 1) fd.scope.names []).lookup x.1).isSome = true))
    (h : ∀ s₁, InCallC s (callEnvC fd s.heap.objs.size a).locals (bindL (callEnvC fd s.heap.objs.size a).kindOf binds fun _ => none) (callEnvC fd s.heap.objs.size a).cells
        (bindC (callEnvC fd s.heap.objs.size a).kindOf binds fun _ => none) s₁ → 1 ≤ s₁.toks →
      wpAny (model M.prog M.w) (A.deeper (callEnvC fd s.heap.objs.size a)) (execs body (callEnvC fd s.heap.objs.size a)) (fun f s' => ρ (.ok (.ret (match f with | .ret v => v | _ => .none))) s')
        (fun _ _ => False) s₁)
    (hco : fd.scope.isCoroutine = false) (hgen : fd.scope.isGenerator = false) (hk : fd.scope.kind = .function) :
    codeAny (model M.prog M.w) A (.call (.ref a) ⟨vals, []⟩) ρ s := by
  refine codeAny_call_function hroom ho hdata hco hgen hbody hcd ?_
  rw [hbind, hclo]
  refine wpAny_pure (wpAny_with_toks ht (wpAny_newFunctionEnv_cells hk hkind fun env he s' x ht' => ?_))
  subst he
  exact ⟨hlim.keeps x.toInCall.keep, codeAny_func (wpAny_mono (h s' x ht') (fun _ _ q => q) fun _ _ q => q.elim)⟩


theorem call_ok {prog : Program} {w : World} {h₀ : Heap} {c : Cx} {K : Nat} {mg mb : Str → Option Value} {fa : Addr} {o : Obj} {fd : FuncData} {ps rest : List Str} {body : List Stmt} {W : WS} {n : Nat} (G : Gl prog w h₀ c K mg mb) (C : c.lam = true → CodeHd h₀ lamCode lamTab) (Fn : FnAt h₀ fa o fd ps sc body)
    (hnd : (ps ++ rest).Nodup) (hdb : ∀ x ∈ ps ++ rest, (x == ("__debug__" : Str)) = false) (H : SndB (ps ++ rest) sc body W) : CallSound prog w h₀ (K + 16 + 1) fa (mfun W ps.length n c) := by
  intro M rfl rfl rfl hA as vs ρ μ h k q S i s hs htk
  subst hs
  obtain ⟨hlen, w⟩ := q
  have hvl : vs.length = ps.length := i.length.trans hlen
  refine wpAny_call ?_
  have hsc : fd.scope = sc := Fn.scp
  have S' : St M.h₀ ρ μ s.heap := S
  refine codeAny_call_toks (a := fa) (o := o) (fd := fd) (body := body) (binds := ps.zip vs) (by have := hA.2.1; omega) htk (S'.keeps0 _ _ Fn.ho) Fn.hd (G.lim.keeps S'.keeps0) (Fn.code.keeps S'.keeps0) Fn.bd (Fn.bind vs hvl) Fn.cl ?_ ?_ (by rw [hsc]; exact Fn.co) (by rw [hsc]; exact Fn.gen) (by rw [hsc]; exact Fn.kind)
  · intro p hp
    rw [hsc]
    have hm : p.1 ∈ ps := (List.of_mem_zip (show (p.1, p.2) ∈ ps.zip vs from hp)).1
    rcases Fn.pk _ hm with h1 | h1
    · exact .inl h1
    · refine .inr ⟨h1, ?_⟩
      have hnd := cellsFrom_nodup sc.names (s.heap.objs.size + 1) [] Fn.nd (fun _ h => by cases h) (by simp)
      obtain ⟨c', hc'⟩ := (cellsFrom_has sc.names (s.heap.objs.size + 1) []).2 p.1 (mem_lookup h1)
      rw [lookup_nodup hnd hc']; rfl
  intro s₁ x htk₁
  have F := call_frame Fn S i hvl x
  have hk := x.toInCall.keep
  obtain ⟨h₁, tk, rfl⟩ := x.toInCall.same
  have S₁ : St M.h₀ ρ μ h₁ := S.keepAll hk
  have X : Wk (ps ++ rest) sc { M with A := M.A.deeper (callEnvC fd s.heap.objs.size fa), env := callEnvC fd s.heap.objs.size fa, c := c, K := K, mg := mg, mb := mb } := ⟨hA.deeper.le (Nat.le_add_right _ _), G, fun e => ⟨hA.deeper.le (Nat.le_add_left _ _), C e⟩, hsc, hnd, hdb⟩
  refine wpAny_mono (H.go (M := { M with A := M.A.deeper (callEnvC fd s.heap.objs.size fa), env := callEnvC fd s.heap.objs.size fa, c := c, K := K, mg := mg, mb := mb }) X S₁ (F.weaken fun _ _ => sto_init hlen) w { s with heap := h₁, toks := tk } rfl htk₁) (fun f' s' q => ?_) fun _ _ q => q
  obtain ⟨hg, hos, fl, ρ', σ', μ₁, g, S', _, fi, w'⟩ := q
  have hX : ∀ b ∈ owned (callEnvC fd s.heap.objs.size fa), s.heap.get? b = none := fun b hb => by
    rcases List.mem_cons.mp hb with rfl | hb
    · exact fresh_at (Nat.le_refl _)
    · obtain ⟨p, hp, rfl⟩ := List.mem_map.mp hb
      exact fresh_at (Nat.le_of_lt (x.above p.1 p.2 hp))
  have g' : Grow (owned (callEnvC fd s.heap.objs.size fa)) ρ s.heap ρ' s'.heap := (Grow.keepAll hk).trans g
  have hη : ρ'.l.take μ.length = ρ.l := by
    obtain ⟨t, ht⟩ := g.eta
    rw [← ht, ← S.len]; exact List.take_left
  have fin : ∀ {v d} {ρ2 : Mp}, ρ2.l = ρ'.l → Grow (owned (callEnvC fd s.heap.objs.size fa)) ρ s.heap ρ2 s'.heap → St M.h₀ ρ2 μ₁ s'.heap ∨ (∃ j, μ.length ≤ j ∧ St M.h₀ ρ2 (μ₁.set j .dead) s'.heap) → Is ρ2.f v d → k (.d d) (μ₁.take μ.length) → PE M ρ s.heap k v s'.heap := fun {v d ρ2} e g2 S2 iv w => by
    have St' : St M.h₀ ⟨ρ2.f, ρ.l⟩ (μ₁.take μ.length) s'.heap := by
      rw [← hη, ← e]
      rcases S2 with S2 | ⟨j, hj, S2⟩
      · exact S2.take _
      · have := S2.take μ.length
        rw [List.take_set_of_le hj] at this; exact this
    exact .mk (a := .d d) (g2.own hX) St' iv w
  refine ⟨hg, hos, ?_⟩
  cases fi with
  | next => exact fin rfl g' (.inl S') .none w'
  | brk => exact w'.elim
  | cont => exact w'.elim
  | ret fi =>
    rename_i v a
    cases a with
    | d d => exact fin rfl g' (.inl S') fi w'
    | h j =>
      obtain ⟨xs, hm, hj, w'⟩ := w'
      obtain ⟨l, hl, rfl⟩ := fi
      obtain ⟨ρ2, S2, i2, g2, e2⟩ := S'.freezeH hl hm
      exact fin e2 (g'.trans (g2 _)) (.inr ⟨j, hj, S2⟩) i2 w'
end
theorem set_same {α : Type} {μ : List α} {k : Nat} {m : α} (h : μ[k]? = some m) : μ.set k m = μ := by
  apply List.ext_getElem?
  intro i
  by_cases hi : k = i
  · subst hi; rw [List.getElem?_set_self (List.getElem?_eq_some_iff.mp h).1, h]
  · rw [List.getElem?_set_ne hi]
end Mine
end
section
namespace Mine

theorem clos_none {env : Env} : ∀ {names : List (Str × NameKind)} {acc : List (Str × Addr)}, (∀ q ∈ names, q.2 = .local ∨ q.2 = .globalImplicit) → clos env names acc = acc
  | [], _, _ => rfl
  | (n, k) :: r, acc, h => by
    unfold clos
    have h1 := h _ List.mem_cons_self
    have : (k == NameKind.free) = false := by rcases h1 with h1 | h1 <;> (have h1' : k = _ := h1; subst h1'; rfl)
    rw [this]
    exact clos_none fun q hq => h q (List.mem_cons_of_mem _ hq)

/-- the function that a lambda makes -/
def lamObj (params : Arguments) (body : Expr) (sc : Scope) (pm : Value) (c' : Addr) (ctv : Value) : Obj := kla_obj "<lambda>" lamQual params body sc [] pm c' ctv

section
variable {M : Mc} {ρ : Mp} {μ : Mem} {h : Heap} {ns : List Str} {sc : Scope} {σ : Sto} {p : Pos}

theorem Gl.bAt {prog : Program} {w : World} {h₀ : Heap} {c : Cx} {K : Nat} {mg mb : Str → Option Value} {P : Addr} {ps : Array Value} (G : Gl prog w h₀ c K mg mb) (hk : ∀ b o, h₀.get? b = some o → h.get? b = some o) (hP : h.get? P = some { cls := .none, data := .fields ps }) : h.BuiltinsAt mg P ∧ mainGlobals ≠ P := by
  obtain ⟨bm, ob, h1, h2, h3, h4, h5⟩ := G.bmod
  have noNs : ∀ {a : Addr} {m : Str → Option Value} {o : Obj}, h₀.Ns a m → h.get? a = some o → (∀ es n, o.data ≠ .dict es n) → False := fun {a m o} hn ho hd => by
    obtain ⟨o', es, ep, e, hd', _⟩ := hn.keeps hk
    rw [ho] at e; cases e; exact hd _ _ hd'
  have e := hk _ _ h2
  refine ⟨⟨bm, ob, h1, fun q => ?_, fun q => ?_, fun q => ?_, e, h3, h4, h5⟩, fun q => noNs G.g (q ▸ hP) fun _ _ e => by cases e⟩
  · exact noNs G.b (q ▸ e) fun _ _ e => by rw [h5] at e; cases e
  · exact noNs G.g (q ▸ e) fun _ _ e => by rw [h5] at e; cases e
  · rw [q, hP] at e; cases e; cases h3

/-- what a key function is like -/
def KeyFn (mg : Str → Option Value) (ρ : Frz) (params : Arguments) (body : Expr) (sc : Scope) (f : Addr) : Prop :=
  ∃ c' ctv oc vs t, ρ f = some (lamObj params body sc ((mg "__name__").getD .none) c' ctv) ∧ ρ c' = some oc ∧ oc.data = .fields vs ∧ vs[1]? = some (.str lamQual t)
theorem KeyFn.mono {mg : Str → Option Value} {ρ ρ' : Frz} {params : Arguments} {body : Expr} {f : Addr} (hs : ∀ a o, ρ a = some o → ρ' a = some o) (x : KeyFn mg ρ params body sc f) : KeyFn mg ρ' params body sc f := by
  obtain ⟨c', ctv, oc, vs, t, h1, h2, h3⟩ := x
  exact ⟨c', ctv, oc, vs, t, hs _ _ h1, hs _ _ h2, h3⟩

/-- the table of inner codes lies at the first handle -/
def isTab (μ : Mem) (l c : Nat) : Prop := μ[(0 : Nat)]? = some (.tab l c)

theorem evLambda {params : Arguments} {body : Expr} {lsc : Scope} {Q : Value → Heap → Prop} (X : Wk ns sc M) (hl : M.c.lam = true) (hsc : lamScope sc = true) (S : St M.h₀ ρ μ h) (F : FrS ρ M.env σ h) (hT : isTab μ p.line p.col)
    (hd : params.defaults = [] ∧ params.kw_defaults = []) (hnf : ∀ q ∈ lsc.names, q.2 = .local ∨ q.2 = .globalImplicit)
    (q : ∀ f h' ρ', KeyFn M.mg ρ'.f params body lsc f → St M.h₀ ρ' μ h' → Grow [] ρ h ρ' h' → Q (.ref f) h') :
    Ev M (eval (.Lambda params body lsc p) M.env) Q h := by
  obtain ⟨P, hη⟩ : ∃ P, ρ.l[0]? = some P := by
    have : 0 < ρ.l.length := by rw [S.len]; exact (List.getElem?_eq_some_iff.mp hT).1
    exact ⟨_, List.getElem?_eq_getElem this⟩
  have C := (X.C hl).2
  have hm := S.ob 0 P _ hη hT
  cases hm with
  | tab ps hPe hP hps =>
    subst hPe
    obtain ⟨hq, hcode⟩ := F.lm (X.sc ▸ hsc)
    have hqual : M.env.qual ++ "<lambda>" = lamQual := by rw [hq]; rfl
    have hcl : closureFor lsc M.env = pure [] := by
      rw [closure_eq (fun q hq' hf => by rcases hnf q hq' with h1 | h1 <;> (rw [h1] at hf; cases hf)), clos_none hnf]
    have hkeep := S.keeps0
    refine Ev.lift fun s hs _ Q' kk => ?_
    subst hs
    refine kla_eval (by obtain ⟨_, _, _, _, _, _, _⟩ := params; obtain ⟨h1, h2⟩ := hd; simp only at h1 h2; subst h1; subst h2; rfl) ?_
    rw [hqual]
    have hg := X.G.g.keeps hkeep
    obtain ⟨hb, hgP⟩ := X.G.bAt hkeep hP
    have fin : ∀ {h' : Heap} {ρ1 : Mp} {c' : Addr} {oc : Obj} {vs : Array Value} {t : Tok} {ctv : Value} (tk : Nat), St M.h₀ ρ1 μ h' → Grow [] ρ s.heap ρ1 h' → ρ1.f c' = some oc → oc.data = .fields vs → vs[1]? = some (.str lamQual t) →
        Q' (.ref h'.objs.size) { s with heap := h'.push (kla_obj "<lambda>" lamQual params body lsc [] ((M.mg "__name__").getD .none) c' ctv), toks := tk } := fun {h' ρ1 c' oc vs t ctv} tk S1 g1 hc' hd1 hd2 => by
      obtain ⟨S2, g2⟩ := S1.freeze (fresh_at (Nat.le_refl h'.objs.size)) (o := kla_obj "<lambda>" lamQual params body lsc [] ((M.mg "__name__").getD .none) c' ctv) (Heap.get?_push_size _ rfl) (kept _ _)
      exact kk _ _ tk (q _ _ _ ⟨c', ctv, oc, vs, t, Mp.put_self, (g2 []).rho _ _ hc', hd1, hd2⟩ S2 (g1.trans (g2 [])))
    rcases hps with rfl | ⟨c', oc, vs, t, rfl, hc', hd1, hd2⟩
    · refine kla_makeFunction (mg := M.mg) hcl F.gl hg hcode (C.keeps hkeep) hP trivial rfl hgP hb fun c' ctv h' tk hx hge hlt hrec htb => ?_
      obtain ⟨c₂, oc, vs, t, e2, hoc, hd1, hd2⟩ := hrec
      cases e2
      obtain ⟨S1, g1⟩ := S.turnNew (k := 0) (m := .tab p.line p.col) (h' := h') hη hT (fun e => by cases e) (fresh_at hge) hoc
        (.tab _ rfl htb (.inr ⟨c', oc, vs, t, rfl, Mp.put_self, hd1, hd2⟩)) hx
      rw [set_same hT] at S1
      exact fin tk S1 (g1 []) Mp.put_self hd1 hd2
    · refine kla_makeFunctionHit (mg := M.mg) (cv := .ref c') hcl F.gl hg hcode (C.keeps hkeep) hP trivial (by simp [codeAmong, rawInt]) hb fun ctv h' tk hk hsz => ?_
      exact fin tk (S.keepAll hk) (Grow.keepAll hk) hc' hd1 hd2
end
end Mine
end
section
namespace Mine
def wayS : Str := "way"
def keyOf (s : Str) : PyData := .tuple [.int s.length, .str s]
def keyArgs (ap : Pos) : Arguments := ⟨[], [⟨"way", none, ap⟩], none, [], [], none, []⟩
def keyBody (p1 p2 p3 p4 tp : Pos) (j : Nat) : Expr := .Tuple [.Call (.Name "len" p1) [.Name "way" p2] [] p3, .Name "way" p4] j tp
/-- the block of `lambda way: (len(way), way)` -/
structure KeySc (lsc : Scope) : Prop where
  kd : lsc.kind = .function
  x : lsc.names.lookup ("way" : Str) = some .local
  len : isGlob lsc "len" = true
  n : ∀ q ∈ lsc.names, q.2 = .local ∨ q.2 = .globalImplicit
  ge : lsc.isGenerator = false
  co : lsc.isCoroutine = false
  lm : lamScope lsc = false

theorem key_binds {ap : Pos} {body : Expr} {lsc : Scope} {pm cd ctv v : Value} : bindArgs (kla_fn "<lambda>" lamQual (keyArgs ap) body lsc [] pm cd ctv) ⟨[v], []⟩ = pure [(("way" : Str), v)] := by rfl

section
variable {M : Mc} {ρ : Mp} {μ : Mem} {h : Heap} {ns : List Str} {sc : Scope} {σ : Sto} {p : Pos}
def c00 : Cx := ⟨fun _ => none, fun _ => none, false⟩
theorem Gl.bare {prog : Program} {w : World} {h₀ : Heap} {c : Cx} {K : Nat} {mg mb : Str → Option Value} (G : Gl prog w h₀ c K mg mb) : Gl prog w h₀ c00 0 mg mb := { G with fns := fun f F e => (by cases e), cst := fun x d e => (by cases e) }
theorem Ev.keyCall {ap p1 p2 p3 p4 tp : Pos} {j : Nat} {lsc : Scope} {f : Addr} {v : Value} {s : Str} (hA : OkA 10 M.A) (G : Gl M.prog M.w M.h₀ M.c M.K M.mg M.mb) (T : KeySc lsc)
    (S : St M.h₀ ρ μ h) (X : KeyFn M.mg ρ.f (keyArgs ap) (keyBody p1 p2 p3 p4 tp j) lsc f) (i : Is ρ.f v (.str s)) (hs : s.length < 2 ^ 31) :
    Ev M (call (.ref f) [v]) (Res M ρ h (.d (keyOf s)) μ) h := by
  obtain ⟨c', ctv, oc, vs, t, h1, h2, h3, h4⟩ := X
  intro st hst htk
  subst hst
  refine wpAny_call ?_
  have hcd : st.heap.CodeRec (.ref c') lamQual := ⟨c', oc, vs, t, rfl, S.fz _ _ h2, h3, h4⟩
  refine kla_callFunE (by have := hA.2.1; omega) (S.fz _ _ h1) (fd := kla_fn "<lambda>" lamQual (keyArgs ap) (keyBody p1 p2 p3 p4 tp j) lsc [] ((M.mg "__name__").getD .none) (.ref c') ctv) rfl T.co T.ge rfl hcd ?_
  rw [key_binds]
  refine wpAny_pure (wpAny_with_toks htk (wpAny_newFunctionEnv (fun q hq e => by rcases T.n q hq with h1 | h1 <;> (rw [h1] at e; cases e)) (fun q hq => ?_) (fun h₁ hns hsb htk₁ => ⟨(G.lim.keeps S.keeps0).fresh _ hsb, kla_codeExpr ?_⟩) T.kd))
  · cases List.mem_singleton.mp hq; exact T.x
  have hk₁ : ∀ b o, st.heap.get? b = some o → h₁.get? b = some o := fun b o e => hsb.extBut b o (Nat.ne_of_lt (Heap.lt_size e)) (Heap.get?_push_of_some _ e)
  have S₁ : St M.h₀ ρ μ h₁ := S.keepAll hk₁
  have hfresh := fresh_at (Nat.le_refl st.heap.objs.size)
  generalize hle : newEnv lsc st.heap.objs.size mainGlobals [] (lamQual ++ ".<locals>.") (some f) (.ref c') none builtinsNs = lenv
  have hls : lenv.scope = lsc := by rw [← hle]; rfl
  have F₁ : FrS ρ lenv (upd (fun _ => none) "way" (.d (.str s))) h₁ := by
    subst hle
    have one : ∀ {y a}, upd (fun _ => none) "way" (AV.d (.str s)) y = some a → y = "way" ∧ a = .d (.str s) := fun {y a} e => by
      unfold upd at e
      split at e
      · next hy => cases e; exact ⟨hy, rfl⟩
      · cases e
    have kx : Env.kindOf (newEnv lsc st.heap.objs.size mainGlobals [] (lamQual ++ ".<locals>.") (some f) (.ref c') none builtinsNs) "way" = some .local := T.x
    refine ⟨T.kd, rfl, rfl, ⟨_, hns, fun y a e1 e2 => ?_⟩, fun y a e1 => ?_, fun y a e1 e2 => ?_, fun p hp => (by cases hp), fun y e => ?_, .nil, ⟨S.notin_of_fresh hfresh, S.none_of_fresh hfresh⟩, fun e => ?_⟩
    · obtain ⟨rfl, rfl⟩ := one e1
      exact ⟨v, by simp, i⟩
    · obtain ⟨rfl, rfl⟩ := one e1
      exact .inl kx
    · obtain ⟨rfl, rfl⟩ := one e1
      rw [kx] at e2; cases e2
    · have e' : lsc.names.lookup y = some .cell := e
      rcases T.n _ (mem_lookup e') with h5 | h5 <;> cases h5
    · have e' : lamScope lsc = true := e
      rw [T.lm] at e'; cases e'
  have X' : Wk [wayS] lsc { M with A := M.A.deeper lenv, env := lenv, c := c00, K := 0 } := ⟨hA.deeper.le (Nat.zero_le _), G.bare, (fun e => by cases e), hls, by simp, fun x hx => by cases List.mem_singleton.mp hx; decide +kernel⟩
  have H : SndE [wayS] lsc (keyBody p1 p2 p3 p4 tp j) (wTup [wB1 lenS (wVar 0), wVar 0]) := .tup rfl (.cons (.b1 lenS.ok (fun X => X.G.len) T.len (.var rfl)) (.one (.var rfl)))
  have F₂ : FrS ρ lenv (sto [wayS] [some (.d (.str s))]) h₁ := F₁
  have B := H.go (M := { M with A := M.A.deeper lenv, env := lenv, c := c00, K := 0 }) (σ := [some (.d (.str s))]) (k := fun a μ' => a = .d (keyOf s) ∧ μ' = μ) X' S₁ F₂ ⟨hs, rfl, rfl⟩
  refine wpAny_mono (B _ rfl htk₁) (fun rv s' q => ?_) fun _ _ q => q.elim
  obtain ⟨hg, hos, q⟩ := q
  refine ⟨hg, hos, q.el fun a ρ' μ' g' S' i' ⟨e1, e2⟩ => ?_⟩
  subst e1; subst e2
  exact ⟨ρ', (Grow.keepAll hk₁).trans g', S', i'⟩
end
end Mine
end
section
namespace Mine
structure Own (D : Addr) (o : Obj) (ρ : Mp) (h : Heap) : Prop where
  ob : h.get? D = some o
  fz : ρ.f D = none
  nh : D ∉ ρ.l

section
variable {M : Mc} {ρ : Mp} {μ : Mem} {h : Heap}
theorem Own.grow {D : Addr} {o : Obj} {X : List Addr} {ρ' h'} (x : Own D o ρ h) (g : Grow X ρ h ρ' h') (hX : D ∉ X) : Own D o ρ' h' :=
  ⟨g.keep _ _ x.ob x.nh hX, (g.lone x.ob x.fz x.nh).2, (g.lone x.ob x.fz x.nh).1⟩
theorem Own.fresh {D : Addr} {o : Obj} {h' : Heap} (S : St M.h₀ ρ μ h) (hn : h.get? D = none) (ho : h'.get? D = some o) : Own D o ρ h' := ⟨ho, S.none_of_fresh hn, S.notin_of_fresh hn⟩

theorem Ev.entry_kw {id : String} {b : Builtin} {args : List Value} {kw : List (Str × Value)} {Q : Value → Heap → Prop} (hk : builtinKind id = none) (hp : plainId id = true) (hb : entryFor table id = some b) (ha : argsOk id ⟨args, kw⟩)
    (x : Ev M.in1 (b ⟨args, kw⟩) (fun fin h' => ∃ v, fin = .done (.ret v) ∧ Q v h') h) : Ev M (call (.builtin id) args kw) Q h := fun s hs ht =>
  call_function_entry_kw hk hp hb ha (wpAny_mono (x s hs ht) (fun fin s' ⟨q1, q2, v, q3, q4⟩ => ⟨v, q3, q1, q2, q4⟩) fun _ _ e => e)
theorem Ev.slot_kw {T : String} {name : Str} {id : String} {b : Builtin} {self : Value} {rest : List Value} {kw : List (Str × Value)} {Q : Value → Heap → Prop} (hs : Slot T name id) (hT : ∀ s : Shared, s.heap = h → s.TypeIs self T) (hb : entryFor table id = some b)
    (ha : argsOk id ⟨self :: rest, kw⟩) (x : Ev M.in1 (b ⟨self :: rest, kw⟩) (fun fin h' => ∃ v, fin = .done (.ret v) ∧ Q v h') h) : Ev M (call (.builtin id) (self :: rest) kw) Q h := fun s hs' ht =>
  wpAny_call_entry_kw hs (hT s hs') hb (wpAny_mono (x s hs' ht) (fun fin s' ⟨q1, q2, v, q3, q4⟩ => ⟨v, q3, q1, q2, q4⟩) fun _ _ e => e) ha
theorem Ev.attempt {α : Type} {t : Sem α} {Q : Except Value α → Heap → Prop} (x : Ev M t (fun a h' => Q (.ok a) h') h) : Ev M t.attempt Q h := fun s hs ht =>
  wpAny_attempt (wpAny_mono (x s hs ht) (fun _ _ q => q) fun _ _ e => e.elim)
theorem Ev.listItems {a : Addr} {o : Obj} {xs : Array Value} {n : Nat} {Q : Array Value → Heap → Prop} (ho : h.get? a = some o) (hd : o.data = .seq xs n) (q : Q xs h) : Ev M (Builtin.List.listItems (.ref a)) Q h := fun s hs _ =>
  listItems_at (hs ▸ ho) hd ⟨rfl, rfl, hs ▸ q⟩
theorem Ev.listUpdate {a : Addr} {o : Obj} {xs : Array Value} {n : Nat} {f : Array Value → Array Value} {Q : Unit → Heap → Prop} (ho : h.get? a = some o) (hd : o.data = .seq xs n) (h1 : xs.size ≤ sizeLine) (h2 : (f xs).size ≤ sizeLine + 1) (q : Q () (h.update a (Obj.mapSeq f))) :
    Ev M (Builtin.List.listUpdate (.ref a) f) Q h := fun s hs _ => by
  subst hs; exact listUpdate_at ho hd ⟨rfl, rfl, q⟩ h1 h2
theorem Ev.seqEpoch {a : Addr} {o : Obj} {xs : Array Value} {n : Nat} {Q : Nat → Heap → Prop} (ho : h.get? a = some o) (hd : o.data = .seq xs n) (q : Q n h) : Ev M (seqEpoch a) Q h := fun s hs _ =>
  seqEpoch_at (hs ▸ ho) hd ⟨rfl, rfl, hs ▸ q⟩
theorem Ev.letGo {as bs : List Value} {Q : Unit → Heap → Prop} (q : Q () h) : Ev M (letGo as bs) Q h := fun s hs _ => wpAny_letGo ⟨rfl, rfl, hs ▸ q⟩

/-- a new list or tuple, no one else's yet -/
def Made (T : String) (vs : Array Value) (h : Heap) (v : Value) (h' : Heap) : Prop := ∃ D, v = .ref D ∧ h.get? D = none ∧ h'.get? D = some { cls := .type T, data := .seq vs 0 } ∧ ∀ b o, h.get? b = some o → h'.get? b = some o
theorem Ev.newListO {vs : List Value} (hz : vs.length ≤ sizeLine) : Ev M (PySem.newList vs) (Made "list" vs.toArray h) h := fun s hs _ => by
  subst hs
  exact wpAny_newObj_type ⟨rfl, rfl, _, rfl, fresh_at (Nat.le_refl _), get_push_new _ _, fun b o e => Heap.get?_push_of_some _ e⟩ (by show vs.toArray.size ≤ sizeLine; simpa using hz)
theorem Ev.newTupleO {vs : List Value} (hz : vs.length ≤ sizeLine) : Ev M (PySem.newTuple vs) (Made "tuple" vs.toArray h) h := fun s hs _ => by
  subst hs
  exact wpAny_newObj_type ⟨rfl, rfl, _, rfl, fresh_at (Nat.le_refl _), get_push_new _ _, fun b o e => Heap.get?_push_of_some _ e⟩ (by show vs.toArray.size ≤ sizeLine; simpa using hz)
theorem Ev.collectList {l : Addr} {vs : List Value} {n : Nat} (hl : h.get? l = some { cls := .type "list", data := .seq vs.toArray n }) (hz : vs.length ≤ sizeLine) : Ev M (collect (.ref l)) (fun xs h' => xs = vs ∧ ∀ b o, h.get? b = some o → h'.get? b = some o) h := fun s hs _ => by
  subst hs
  refine collect_list ⟨_, hl, rfl, n, rfl⟩ ⟨rfl, rfl, rfl, fun b o q => ?_⟩ hz
  have hlt : b < s.heap.objs.size := Heap.lt_size q
  rw [Heap.get?_update_ne _ _ _ _ (Nat.ne_of_lt hlt), Heap.get?_push_ne _ _ _ (Nat.ne_of_lt hlt)]
  exact q


/-- the two lists that a sort with a key works on -/
structure Keys (a kS : Addr) (e1 : Nat) (ks : List PyData) (ρ : Mp) (h : Heap) : Prop where
  ne : kS ≠ a
  la : Own a { cls := .type "list", data := .seq #[] e1 } ρ h
  lk : ∃ kv e, Own kS { cls := .type "list", data := .seq kv e } ρ h ∧ IsAll ρ.f kv.toList ks

theorem Keys.grow {a kS : Addr} {e1 : Nat} {ks : List PyData} {ρ' h'} (x : Keys a kS e1 ks ρ h) (g : Grow [] ρ h ρ' h') : Keys a kS e1 ks ρ' h' := by
  obtain ⟨kv, e, o, i⟩ := x.lk
  exact ⟨x.ne, x.la.grow g (fun m => nomatch m), kv, e, o.grow g (fun m => nomatch m), i.mono g.rho⟩

def KeyCalls (M : Mc) (ρ₀ : Frz) (f : Value) (ss : List Str) : Prop :=
  ∀ s ∈ ss, ∀ v ρ μ h, (∀ a o, ρ₀ a = some o → ρ.f a = some o) → Is ρ.f v (.str s) → St M.h₀ ρ μ h → Ev M (call f [v]) (Res M ρ h (.d (keyOf s)) μ) h

theorem keys_loop {f : Value} {a kS : Addr} {e1 : Nat} {ρ₀ : Frz} {body : Value → PUnit → Sem (ForInStep PUnit)} {W : Value → Value → Sem (ForInStep PUnit)}
    (hb : ∀ x, body x ⟨⟩ = ((call f [x]).attempt >>= fun r => match r with | .ok k => (Builtin.List.listUpdate (.ref kS) (·.push k) >>= fun _ => pure (.yield ⟨⟩)) | .error e => W x e)) :
    ∀ {ss : List Str} {vs : List Value} {done : List PyData} {ρ h}, KeyCalls M ρ₀ f ss → (∀ a o, ρ₀ a = some o → ρ.f a = some o) → IsAll ρ.f vs (ss.map .str) → done.length + ss.length < 64 → St M.h₀ ρ μ h → Keys a kS e1 done ρ h →
      Ev M (forIn vs PUnit.unit body) (fun _ h' => ∃ ρ', Grow [kS] ρ h ρ' h' ∧ St M.h₀ ρ' μ h' ∧ Keys a kS e1 (done ++ ss.map keyOf) ρ' h') h := by
  intro ss
  induction ss with
  | nil =>
    intro vs done ρ h kc hρ i hz S k
    cases i
    rw [List.forIn_nil]
    exact Ev.pure ⟨ρ, .refl, S, by simpa using k⟩
  | cons s ss ih =>
    intro vs done ρ h kc hρ i hz S k
    rw [List.map_cons] at i
    cases i with
    | cons i1 i2 =>
      rename_i v vs
      rw [List.forIn_cons, hb]
      refine Ev.bind (Ev.bind (Ev.attempt ((kc s List.mem_cons_self v ρ μ h hρ i1 S).useR fun kv h₁ ρ₁ g₁ S₁ i₁ => ?_)))
      have k1 := k.grow g₁
      obtain ⟨ka, e, ko, ki⟩ := k1.lk
      have hsz : ka.size = done.length := by rw [← ki.length, Array.length_toList]
      simp only [List.length_cons] at hz
      have hline : (64 : Nat) ≤ sizeLine := by decide
      refine Ev.bind (Ev.listUpdate ko.ob rfl (by omega) (by simp; omega) ?_)
      have ho' := IsL.update (h := h₁) (l := kS) (items := ka) (n := e) ko.ob (fun xs => xs.push kv)
      have hk : ∀ b o, b ≠ kS → h₁.get? b = some o → (h₁.update kS (Obj.mapSeq fun xs => xs.push kv)).get? b = some o := upd_other
      have g₂ : Grow [kS] ρ₁ h₁ ρ₁ (h₁.update kS (Obj.mapSeq fun xs => xs.push kv)) := Grow.but hk ⟨_, ho'⟩
      have S₂ := S₁.but ko.fz ko.nh hk
      have k2 : Keys a kS e1 (done ++ [keyOf s]) ρ₁ (h₁.update kS (Obj.mapSeq fun xs => xs.push kv)) :=
        ⟨k.ne, ⟨hk _ _ (Ne.symm k.ne) k1.la.ob, k1.la.fz, k1.la.nh⟩, _, _, ⟨ho', ko.fz, ko.nh⟩, by simpa using ki.append (.one i₁)⟩
      refine Ev.pure ?_
      have h2 := ih (done := done ++ [keyOf s]) (fun s' hs' => kc s' (List.mem_cons_of_mem _ hs')) (fun a o e => g₁.rho _ _ (hρ a o e)) (i2.mono g₁.rho) (by simp; omega) S₂ k2
      refine h2.mono fun _ h' q => ?_
      obtain ⟨ρ', g', S', k'⟩ := q
      exact ⟨ρ', ((g₁.weaken (by simp)).trans g₂).trans g', S', by simpa using k'⟩
theorem arr1 {ρ : Frz} {kv : Array Value} {d : PyData} (i : IsAll ρ kv.toList [d]) : ∃ k, kv = #[k] ∧ Is ρ k d := by
  obtain ⟨k, e, j⟩ := i.inv1
  exact ⟨k, by rw [← Array.toArray_toList (xs := kv), e], j⟩
theorem arr2 {ρ : Frz} {kv : Array Value} {d e : PyData} (i : IsAll ρ kv.toList [d, e]) : ∃ k l, kv = #[k, l] ∧ Is ρ k d ∧ Is ρ l e := by
  obtain ⟨k, ws, e1, j, i⟩ := i.uncons
  obtain ⟨l, rfl, j2⟩ := i.inv1
  exact ⟨k, l, by rw [← Array.toArray_toList (xs := kv), e1], j, j2⟩
theorem key_tuple {v : Value} {s : Str} (S : St M.h₀ ρ μ h) (i : Is ρ.f v (keyOf s)) : ∃ a n t u, v = .ref a ∧ h.get? a = some { cls := .type "tuple", data := .seq #[.int s.length t, .str s u] n } := by
  obtain ⟨a, vs, n, rfl, ho, ia, _⟩ := is_tuple i
  obtain ⟨x, y, rfl, i1, i2⟩ := arr2 ia
  obtain ⟨t, rfl⟩ := is_int i1
  obtain ⟨u, rfl⟩ := is_str i2
  exact ⟨a, n, t, u, rfl, S.fz _ _ ho⟩

def insBy {α : Type} (le : α → α → Bool) (x : α) : List α → List α
  | [] => [x]
  | y :: ys => if le x y then x :: y :: ys else y :: insBy le x ys
def sortBy {α : Type} (le : α → α → Bool) : List α → List α
  | [] => []
  | x :: xs => insBy le x (sortBy le xs)
def leStr (a b : Str) : Bool := !decide (b.cps.toList < a.cps.toList)
def leKey (a b : Str) : Bool := decide (a.length < b.length) || (a.length == b.length && leStr a b)
def ltKey (a b : Str) : Bool := decide (a.length < b.length) || (a.length == b.length && decide (a.cps.toList < b.cps.toList))

theorem key_lt {k0 k1 : Value} {s0 s1 : Str} {Q : Bool → Heap → Prop} (S : St M.h₀ ρ μ h) (i0 : Is ρ.f k0 (keyOf s0)) (i1 : Is ρ.f k1 (keyOf s1)) (q : Q (ltKey s1 s0) h) : Ev M (keyLt' (tuples' true) k1 k0) Q h := by
  intro s hs ht
  subst hs
  obtain ⟨a0, n0, t0, u0, rfl, h0⟩ := key_tuple S i0
  obtain ⟨a1, n1, t1, u1, rfl, h1⟩ := key_tuple S i1
  refine kat_lt h1 rfl h0 rfl (kat_cons ?_)
  refine SeqAt.EqAt.int_int _ _ _ _ _ _ _ _ ?_
  unfold ltKey at q
  by_cases hl : s1.length = s0.length
  · have e : ((s1.length : Int) == (s0.length : Int)) = true := by rw [hl]; simp
    rw [e]
    refine kat_yes (kat_cons ?_)
    refine SeqAt.EqAt.str_str _ _ _ _ _ _ _ _ ?_
    have h3 : decide (s1.length < s0.length) = false := by simp; omega
    have h4 : (s1.length == s0.length) = true := by simpa using hl
    rw [h3, h4] at q
    simp only [Bool.false_or, Bool.true_and] at q
    by_cases hs : s1 = s0
    · subst hs
      simp only [beq_self_eq_true]
      refine kat_yes (kat_nil ?_)
      have h5 : decide (s1.cps.toList < s1.cps.toList) = false := by simpa using List.lt_irrefl _
      rw [h5] at q
      exact ⟨rfl, rfl, by simpa using q⟩
    · have h5 : (s1 == s0) = false := by simpa using hs
      rw [h5]
      exact kat_no (kat_one _ _ (PyProof.Rows.lt_str ⟨rfl, rfl, q⟩))
  · have e : ((s1.length : Int) == (s0.length : Int)) = false := by simpa using fun e => hl (by omega)
    rw [e]
    have h4 : (s1.length == s0.length) = false := by simpa using hl
    rw [h4] at q
    simp only [Bool.false_and, Bool.or_false] at q
    refine kat_no (oneLt_int ⟨rfl, rfl, ?_⟩)
    have h6 : decide ((s1.length : Int) < (s0.length : Int)) = decide (s1.length < s0.length) := by simp
    rw [h6]; exact q

theorem ltKey_le {a b : Str} : leKey a b = !ltKey b a := by
  unfold leKey ltKey leStr
  rcases Nat.lt_trichotomy a.length b.length with hl | hl | hl
  · have h1 : decide (a.length < b.length) = true := by simpa using hl
    have h2 : decide (b.length < a.length) = false := by simp; omega
    have h3 : (b.length == a.length) = false := by simp; omega
    rw [h1, h2, h3]; rfl
  · have h1 : decide (a.length < b.length) = false := by simp; omega
    have h2 : decide (b.length < a.length) = false := by simp; omega
    have h3 : (b.length == a.length) = true := by simp; omega
    have h4 : (a.length == b.length) = true := by simp; omega
    rw [h1, h2, h3, h4]; simp
  · have h1 : decide (a.length < b.length) = false := by simp; omega
    have h2 : decide (b.length < a.length) = true := by simpa using hl
    have h4 : (a.length == b.length) = false := by simp; omega
    rw [h1, h2, h4]; rfl

/-- the end of a sort with a key: the list is filled again -/
theorem sort_tail {a kS : Addr} {e1 : Nat} {ks out : List PyData} {st : SortSt} (S : St M.h₀ ρ μ h) (k : Keys a kS e1 ks ρ h) (hz : ks.length ≤ sizeLine) (hf : failedOf st = none) (ho : IsAll ρ.f ((arrOf st).map (·.2)).toList out) (hz2 : out.length ≤ sizeLine) :
    Ev M (ksk_tail a false e1 (.ref kS) st) (fun fin h' => fin = .done (.ret .none) ∧ Grow [a, kS] ρ h ρ h' ∧ St M.h₀ ρ μ h' ∧ ∃ vs n, Own a { cls := .type "list", data := .seq vs n } ρ h' ∧ IsAll ρ.f vs.toList out) h := by
  obtain ⟨kv, e, ko, ki⟩ := k.lk
  have hsz : kv.size = ks.length := by rw [← ki.length, Array.length_toList]
  have hsz2 : (arrOf st).size = out.length := by have := ho.length; simpa using this
  unfold ksk_tail
  refine Ev.bind (Ev.listUpdate ko.ob rfl (by omega) (by simp) ?_)
  have ho1 := IsL.update (h := h) (l := kS) (items := kv) (n := e) ko.ob (fun _ => (#[] : Array Value))
  have hk1 : ∀ b o, b ≠ kS → h.get? b = some o → (h.update kS (Obj.mapSeq fun _ => (#[] : Array Value))).get? b = some o := upd_other
  have la1 := hk1 _ _ (Ne.symm k.ne) k.la.ob
  generalize hh1 : h.update kS (Obj.mapSeq fun _ => (#[] : Array Value)) = h1 at *
  refine Ev.bind (Ev.letGo (Ev.bind (Ev.seqEpoch la1 rfl ?_)))
  refine Ev.bind (Ev.listUpdate la1 rfl (by simp) ?_ ?_)
  · simp only [Bool.false_eq_true, if_false, Array.size_map]; omega
  simp only [Bool.false_eq_true, if_false]
  have ho2 := IsL.update (h := h1) (l := a) (items := #[]) (n := e1) la1 (fun _ => (arrOf st).map (·.2))
  have hk2 : ∀ b o, b ≠ a → h1.get? b = some o → (h1.update a (Obj.mapSeq fun _ => (arrOf st).map (·.2))).get? b = some o := upd_other
  generalize hh2 : h1.update a (Obj.mapSeq fun _ => (arrOf st).map (·.2)) = h2 at *
  have g1 : Grow [kS] ρ h ρ h1 := Grow.but hk1 ⟨_, ho1⟩
  have g2 : Grow [a] ρ h1 ρ h2 := Grow.but hk2 ⟨_, ho2⟩
  have S2 := (S.but ko.fz ko.nh hk1).but k.la.fz k.la.nh hk2
  rw [hf]
  simp only [bne_self_eq_false, Bool.false_eq_true, if_false]
  exact Ev.pure ⟨rfl, (g1.weaken (by simp)).trans (g2.weaken (by simp)), S2, _, _, ⟨ho2, k.la.fz, k.la.nh⟩, ho⟩

theorem kas_two : kas_sort 2 = .ask 1 0 fun c => if c = true then .ret #[1, 0] else .ret #[0, 1] := by
  show KasT.ask 1 0 _ = _
  congr 1
  funext c
  cases c <;> rfl

theorem sort_two {k0 k1 v0 v1 : Value} {s0 s1 : Str} {Q : SortSt → Heap → Prop} (S : St M.h₀ ρ μ h) (i0 : Is ρ.f k0 (keyOf s0)) (i1 : Is ρ.f k1 (keyOf s1))
    (q : ∀ st, failedOf st = none → (arrOf st).map (·.2) = (if ltKey s1 s0 then #[v1, v0] else #[v0, v1]) → Q st h) :
    Ev M ((sortRuns').run (SortSt.mk' (tuples' true) (#[k0, k1].zip #[v0, v1]) #[] 7 none)) (fun r h' => Q r.2 h') h := by
  intro s hs ht
  subst hs
  refine kat_run (ks := [k0, k1]) (vs := [v0, v1]) (E := fun _ _ => False) (Q := fun st s' => s'.gens = s.gens ∧ s'.os = s.os ∧ Q st s'.heap) (G := fun p s' => s'.gens = s.gens ∧ s'.os = s.os ∧ s'.heap = s.heap ∧ p = (if ltKey s1 s0 then #[1, 0] else #[0, 1])) rfl (by simp) (by simp) (fun p st' s' hp har hf hG => ?_) ?_
  · obtain ⟨g1, g2, g3, rfl⟩ := hG
    refine ⟨g1, g2, ?_⟩
    rw [g3]
    refine q st' hf ?_
    have := kat_snds (ks := [k0, k1]) (vs := [v0, v1]) rfl har
    rw [this]
    split <;> rfl
  · show (kas_sort 2).kasWp _ _ s
    rw [kas_two]
    have x : Ev M (keyLt' (tuples' true) k1 k0) (fun b h' => h' = s.heap ∧ b = ltKey s1 s0) s.heap := key_lt S i0 i1 ⟨rfl, rfl⟩
    show wpAny (model M.prog M.w) M.A (keyLt' (tuples' true) k1 k0) _ _ s
    refine wpAny_mono (x s rfl ht) (fun b s' q => ?_) fun _ _ e => e
    obtain ⟨g1, g2, g3, rfl⟩ := q
    cases ltKey s1 s0
    · exact ⟨g1, g2, g3, rfl⟩
    · exact ⟨g1, g2, g3, rfl⟩
def SortEnd (M : Mc) (ρ : Mp) (μ : Mem) (h : Heap) (a kS : Addr) (out : List PyData) (fin : PySem.Fin) (h' : Heap) : Prop :=
  fin = .done (.ret .none) ∧ Grow [a, kS] ρ h ρ h' ∧ St M.h₀ ρ μ h' ∧ ∃ vs n, Own a { cls := .type "list", data := .seq vs n } ρ h' ∧ IsAll ρ.f vs.toList out
theorem two_sort (s0 s1 : Str) : sortBy leKey [s0, s1] = if ltKey s1 s0 then [s1, s0] else [s0, s1] := by
  simp only [sortBy, insBy, ltKey_le]
  cases ltKey s1 s0 <;> rfl

theorem sort_end {a kS : Addr} {e1 : Nat} {ss : List Str} {vs : List Value} {kv : Array Value} (S : St M.h₀ ρ μ h) (k : Keys a kS e1 (ss.map keyOf) ρ h) (hkv : IsAll ρ.f kv.toList (ss.map keyOf)) (i : IsAll ρ.f vs (ss.map .str)) (h2 : ss.length ≤ 2) :
    Ev M (ksk_end a false vs.toArray e1 (.ref kS) kv) (SortEnd M ρ μ h a kS ((sortBy leKey ss).map .str)) h := by
  have hline : (2 : Nat) ≤ sizeLine := by decide
  unfold ksk_end
  rcases ss with _ | ⟨s0, _ | ⟨s1, _ | ⟨s2, ss⟩⟩⟩
  · cases i
    have hkv' : kv = #[] := by
      generalize hl : kv.toList = l at hkv
      cases hkv; rw [← Array.toArray_toList (xs := kv), hl]
    subst hkv'
    refine Ev.bind (Ev.pure (Ev.bind (Ev.pure (sort_tail (out := []) S k (Nat.zero_le _) rfl ?_ (Nat.zero_le _)))))
    rw [if_neg Bool.false_ne_true, show ((#[] : Array Value).zip (List.toArray ([] : List Value))) = #[] by simp]
    show IsAll ρ.f ((#[] : Array Keyed).map (·.2)).toList []
    rw [List.map_toArray]; exact .nil
  · obtain ⟨v0, rfl, i1⟩ := i.inv1
    obtain ⟨k0, rfl, j⟩ := arr1 hkv
    refine Ev.bind (Ev.pure (Ev.bind (Ev.pure (sort_tail (out := [.str s0]) S k (Nat.le_trans (Nat.le_succ 1) hline) rfl ?_ (Nat.le_trans (Nat.le_succ 1) hline)))))
    rw [if_neg Bool.false_ne_true, show (#[k0].zip (List.toArray [v0])) = #[(k0, v0)] by simp]
    show IsAll ρ.f ((#[(k0, v0)] : Array Keyed).map (·.2)).toList [.str s0]
    rw [List.map_toArray]; exact .one i1
  · obtain ⟨v0, ws, rfl, i0, i⟩ := i.uncons
    obtain ⟨v1, rfl, i1⟩ := i.inv1
    obtain ⟨k0, k1, rfl, j0, j1⟩ := arr2 hkv
    have hkind : Ev M (keyKind' #[k0, k1]) (fun κ h' => h' = h ∧ κ = tuples' true) h := fun s hs ht => by
      obtain ⟨a0, n0, t0, u0, rfl, h0⟩ := key_tuple S j0
      obtain ⟨a1, n1, t1, u1, rfl, h1⟩ := key_tuple S j1
      subst hs
      refine kat_kind (vs := [.ref a0, .ref a1]) (fs := [.int s0.length t0, .int s1.length t1]) (T := .type "int") (.cons h0 rfl rfl rfl (.cons h1 rfl rfl rfl .nil)) (by simp) (fun v hv => ?_) rfl ⟨rfl, rfl, rfl, rfl⟩
      rcases List.mem_cons.mp hv with rfl | hv
      · exact Looks.of_pure rfl
      · cases List.mem_singleton.mp hv; exact Looks.of_pure rfl
    refine Ev.bind (hkind.mono fun κ h' q => ?_)
    obtain ⟨rfl, rfl⟩ := q
    refine Ev.bind ((sort_two (v0 := v0) (v1 := v1) (Q := fun st h'' => Ev M (ksk_tail a false e1 (.ref kS) st) (SortEnd M ρ μ h' a kS ((sortBy leKey [s0, s1]).map .str)) h'') S j0 j1 fun st hf ho => ?_).mono fun r h' q => by obtain ⟨⟨⟩, st⟩ := r; exact q)
    rw [two_sort]
    refine sort_tail S k hline hf ?_ ?_
    · rw [ho]
      split
      · exact .cons i1 (.cons i0 .nil)
      · exact .cons i0 (.cons i1 .nil)
    · split <;> exact hline
  · exact absurd h2 (by simp)

theorem sort_rest {f : Value} {a kS : Addr} {e1 : Nat} {ρ₀ : Frz} {ss : List Str} {vs : List Value} (kc : KeyCalls M ρ₀ f ss) (hρ : ∀ a o, ρ₀ a = some o → ρ.f a = some o) (S : St M.h₀ ρ μ h) (k : Keys a kS e1 [] ρ h) (i : IsAll ρ.f vs (ss.map .str)) (h2 : ss.length ≤ 2) :
    Ev M (ksk_rest a f false vs.toArray e1 (.ref kS)) (fun fin h' => ∃ ρ', fin = .done (.ret .none) ∧ Grow [a, kS] ρ h ρ' h' ∧ St M.h₀ ρ' μ h' ∧ ∃ vs n, Own a { cls := .type "list", data := .seq vs n } ρ' h' ∧ IsAll ρ'.f vs.toList ((sortBy leKey ss).map .str)) h := by
  unfold ksk_rest
  refine Ev.bind (Ev.rule ?_)
  rw [← Array.forIn_toList]
  refine Ev.bind ((keys_loop (W := fun x e => do
      rule "list.sort.key-raised"
      let made ← Builtin.List.listItems (.ref kS)
      Builtin.List.listUpdate (.ref kS) fun _ => #[]
      PySem.letGo made.toList.reverse [e]
      Builtin.List.listUpdate (.ref a) fun _ => vs.toArray; throw e) ?_ kc hρ (by simpa using i) (by simp; omega) S k).mono fun _ h₁ q => ?_)
  · intro x
    rfl
  · obtain ⟨ρ', g, S', k'⟩ := q
    obtain ⟨kv, e, ko, ki⟩ := k'.lk
    refine Ev.bind (Ev.listItems ko.ob rfl ?_)
    refine (sort_end S' (by simpa using k') (by simpa using ki) (i.mono g.rho) h2).mono fun fin h₂ q => ?_
    obtain ⟨e1, g2, S2, r⟩ := q
    exact ⟨ρ', e1, (g.weaken (by simp)).trans g2, S2, r⟩
end
end Mine
end
section
namespace Mine
section
variable {M : Mc} {ρ : Mp} {μ : Mem} {h : Heap} {env : Env} {ns : List Str} {sc : Scope} {σ : Lo} {p : Pos}
/-- a list that no one else knows, frozen -/
theorem Own.freeze {D : Addr} {vs : Array Value} {n : Nat} {xs : List PyData} {ρ' h'} (x : Own D { cls := .type "list", data := .seq vs n } ρ' h') (i : IsAll ρ'.f vs.toList xs) (S : St M.h₀ ρ' μ h') (g : Grow [] ρ h ρ' h') (hn : h.get? D = none) : Res M ρ h (.d (.list xs)) μ (.ref D) h' :=
  ⟨_, g.adopt x.fz hn, S.adopt x.ob x.fz x.nh, .list Mp.put_self (i.mono (Mp.put_mono x.fz))⟩

theorem sort_tree {f : Value} {a : Addr} {n : Nat} {ρ₀ : Frz} {ss : List Str} {vs : List Value} (kc : KeyCalls M ρ₀ f ss) (hρ : ∀ a o, ρ₀ a = some o → ρ.f a = some o) (S : St M.h₀ ρ μ h) (k : Own a { cls := .type "list", data := .seq vs.toArray n } ρ h) (i : IsAll ρ.f vs (ss.map .str)) (h2 : ss.length ≤ 2) :
    Ev M (ksk_tree a f false) (fun fin h' => fin = .done (.ret .none) ∧ ∃ ρ', Grow [a] ρ h ρ' h' ∧ St M.h₀ ρ' μ h' ∧ ∃ vs n, Own a { cls := .type "list", data := .seq vs n } ρ' h' ∧ IsAll ρ'.f vs.toList ((sortBy leKey ss).map .str)) h := by
  have hline : (64 : Nat) ≤ sizeLine := by decide
  have hsz : vs.length = ss.length := by have := i.length; simpa using this
  unfold ksk_tree
  refine Ev.bind (Ev.listItems k.ob rfl (Ev.bind (Ev.listUpdate k.ob rfl (by simp; omega) (by simp) ?_)))
  have ho1 := IsL.update (h := h) (l := a) (items := vs.toArray) (n := n) k.ob (fun _ => (#[] : Array Value))
  have hk1 : ∀ b o, b ≠ a → h.get? b = some o → (h.update a (Obj.mapSeq fun _ => (#[] : Array Value))).get? b = some o := upd_other
  generalize h.update a (Obj.mapSeq fun _ => (#[] : Array Value)) = h1 at *
  generalize (if ((fun _ => (#[] : Array Value)) vs.toArray).size == vs.toArray.size then n else n + 1) = e1 at *
  have g1 : Grow [a] ρ h ρ h1 := Grow.but hk1 ⟨_, ho1⟩
  have S1 := S.but k.fz k.nh hk1
  refine Ev.bind (Ev.seqEpoch ho1 rfl (Ev.bind ((Ev.newTupleO (by simp; omega)).mono fun tv h2' ⟨T, q1, q2, q3, q4⟩ => ?_)))
  refine Ev.bind ((Ev.newListO (by simp)).mono fun kv h3' ⟨kS, r1, r2, r3, r4⟩ => ?_)
  subst r1
  refine Ev.holding ?_
  have S3 := (S1.keepAll q4).keepAll r4
  have g3 : Grow [a] ρ h ρ h3' := g1.trans ((Grow.keepAll q4).trans (Grow.keepAll r4))
  have la : Own a { cls := .type "list", data := .seq #[] _ } ρ h3' := ⟨r4 _ _ (q4 _ _ ho1), k.fz, k.nh⟩
  have hne : kS ≠ a := fun e => by rw [e] at r2; rw [q4 _ _ ho1] at r2; cases r2
  have lk : Own kS { cls := .type "list", data := .seq #[] 0 } ρ h3' := Own.fresh (S1.keepAll q4) r2 r3
  have hkS : h.get? kS = none := by
    cases e : h.get? kS with
    | none => rfl
    | some o =>
      have := q4 _ _ (hk1 _ _ hne e)
      rw [r2] at this; cases this
  refine (sort_rest kc hρ S3 ⟨hne, la, #[], 0, lk, .nil⟩ i h2).mono fun fin h4 q => ?_
  obtain ⟨ρ', rfl, g4, S4, x4⟩ := q
  refine ⟨rfl, ρ', ?_, S4, x4⟩
  have g5 : Grow [a, kS] ρ h ρ' h4 := (g3.weaken (by simp)).trans g4
  refine { g5 with keep := fun b o e n1 n2 => g5.keep b o e n1 fun m => ?_ }
  simp at m n2
  rcases m with m | m
  · exact n2 m
  · subst m; rw [hkS] at e; cases e

theorem Ev.sortedKey {l f : Addr} {vs : List Value} {n : Nat} {ρ₀ : Frz} {ss : List Str} (kc : KeyCalls M.in1.in1 ρ₀ (.ref f) ss) (hρ : ∀ a o, ρ₀ a = some o → ρ.f a = some o) (S : St M.h₀ ρ μ h) (hl : h.get? l = some { cls := .type "list", data := .seq vs.toArray n }) (i : IsAll ρ.f vs (ss.map .str)) (h2 : ss.length ≤ 2) :
    Ev M (call (.builtin "sorted") [.ref l] [(("key" : Str), .ref f)]) (Res M ρ h (.d (.list ((sortBy leKey ss).map .str))) μ) h := by
  have hline : (64 : Nat) ≤ sizeLine := by decide
  have hsz : vs.length = ss.length := by have := i.length; simpa using this
  refine Ev.entry_kw kind_sorted plain_sorted entry_sorted (ksk_s1 _ _) ?_
  unfold Builtin.«sorted»
  refine Ev.bind (t := checkCount "sorted" 1 1 _) (Ev.pure ?_)
  refine Ev.bind ((Ev.collectList hl (by omega)).mono fun xs h1 ⟨e1, k1⟩ => ?_)
  subst e1
  refine Ev.bind ((Ev.newListO (by omega)).mono fun v h2' ⟨D, r1, r2, r3, r4⟩ => ?_)
  subst r1
  have S2 := (S.keepAll k1).keepAll r4
  have g2 : Grow [] ρ h ρ h2' := (Grow.keepAll k1).trans (Grow.keepAll r4)
  have hD : h.get? D = none := by
    cases e : h.get? D with
    | none => rfl
    | some o => rw [k1 _ _ e] at r2; cases r2
  have own : Own D { cls := .type "list", data := .seq xs.toArray 0 } ρ h2' := Own.fresh (S.keepAll k1) r2 r3
  refine Ev.bind (Ev.holding (Ev.slot_kw slot_list_sort (fun s hs => ⟨_, hs ▸ r3, rfl⟩) entry_list_sort (ksk_l1 _ _) ?_))
  rw [ksk_t1]
  refine (sort_tree kc hρ S2 own i h2).mono fun fin h3 q => ?_
  obtain ⟨rfl, ρ', g3, S3, vs', n', own', i'⟩ := q
  refine ⟨.none, rfl, Ev.pure ⟨_, rfl, ?_⟩⟩
  exact Own.freeze own' i' S3 (((g2.weaken (by simp)).trans g3).drop (by simpa using hD)) hD

theorem Ev.argsKw {f : Value} {e : Expr} {kws : List (Option Str × Sem Value)} {Q : Args → Heap → Prop} (hall : kws.all (·.1.isSome) = true)
    (x : Ev M (PySem.spliced (trees [e] env)) (fun vs h₁ => Ev M (evalAll (kws.map (·.2))) (fun kvs h₂ => Q ⟨vs, (kws.filterMap (·.1)).zip kvs⟩ h₂) h₁) h) : Ev M (evalArgs f true (trees [e] env) kws) Q h := fun s hs ht =>
  evalArgs_kwB hall (wpAny_mono (wpAny_toks_of ht (x s hs ht)) (fun _ s₁ q => wpAny_mono (q.2.2.2 s₁ rfl q.1) (fun _ _ q' => ⟨q'.1.trans q.2.1, q'.2.1.trans q.2.2.1, q'.2.2⟩) fun _ _ e => e) fun _ _ q => q.2)
theorem Ev.callKw {pos : Pos} {id : String} {e : Expr} {kws : List (Option Str × Sem Value)} {Q : Value → Heap → Prop} (hall : kws.all (·.1.isSome) = true) (hnone : kws.any (·.1.isNone) = false)
    (x : Ev M (PySem.spliced (trees [e] env)) (fun vs h₁ => Ev M (evalAll (kws.map (·.2))) (fun kvs h₂ => Ev M (call (.builtin id) vs ((kws.filterMap (·.1)).zip kvs)) Q h₂) h₁) h) :
    Ev M (PySem.callWith pos (.builtin id) [] (trees [e] env) kws) Q h := fun s hs ht =>
  callWith_builtin_kwB (by simp [trees]) hnone (wpAny_mono (wpAny_toks_of ht (Ev.argsKw (f := .builtin id) (Q := fun a h₂ => Ev M (call (.builtin id) a.pos a.kw) Q h₂) hall x s hs ht))
    (fun a s₁ q => wpAny_mono (q.2.2.2 s₁ rfl q.1) (fun _ _ q' => ⟨q'.1.trans q.2.1, q'.2.1.trans q.2.2.1, q'.2.2⟩) fun _ _ e => e) fun _ _ q => q.2)


/-- sorted(xs, key=lambda way: (len(way), way)), of two texts at most -/
def sortKP (l cc : Nat) (a : AV) (μ : Mem) (k : KE) : Prop := lstP a μ fun xs => ∃ ss : List Str, xs = ss.map .str ∧ ss.length ≤ 2 ∧ (∀ s ∈ ss, s.length < 2 ^ 31) ∧ isTab μ l cc ∧ k (.d (.list ((sortBy leKey ss).map .str))) μ
def wSortK (l cc : Nat) (e : WE) : WE := fun c σ μ k => c.lam = true ∧ e c σ μ fun a μ => sortKP l cc a μ k

theorem lstP.at' {a : AV} {v : Value} {k} (x : lstP a μ k) (S : St M.h₀ ρ μ h) (i : IsV ρ v a) : ∃ xs, k xs ∧ ∀ {ρ' h'}, St M.h₀ ρ' μ h' → Grow [] ρ h ρ' h' → ListAt ρ' h' v xs := by
  cases a with
  | d y =>
    obtain ⟨xs, e, q⟩ := lstD.inv x
    cases e
    obtain ⟨l, vs, n, rfl, hl, r, hz⟩ := is_list i
    exact ⟨xs, q, fun S' g => ⟨l, vs, n, rfl, S'.fz _ _ (g.rho _ _ hl), r.mono g.rho, hz⟩⟩
  | h j =>
    obtain ⟨xs, hm, q⟩ := x
    refine ⟨xs, q, fun S' g => ?_⟩
    obtain ⟨l, vs, n, rfl, _, ho, r, hz⟩ := S'.lst (i.grow g) hm
    exact ⟨l, vs, n, rfl, ho, r, hz⟩

theorem SndE.sortK {fp pos kp ap p1 p2 p3 p4 tp lp : Pos} {j : Nat} {lsc : Scope} {e : Expr} {W : WE} (hx : isGlob sc "sorted" = true) (hsc : lamScope sc = true) (T : KeySc lsc) (H : SndE ns sc e W) :
    SndE ns sc (.Call (.Name "sorted" fp) [e] [⟨some "key", .Lambda (keyArgs ap) (keyBody p1 p2 p3 p4 tp j) lsc lp, kp⟩] pos) (wSortK lp.line lp.col W) := ⟨fun _ _ => rfl, fun {M ρ σ μ h k} X S F w => by
  rw [arm_eval_Call_Name']
  refine Ev.bind (Ev.global X S F hx (.inr X.G.sorted) ?_)
  rw [SndL.star (.one H), backTo_trees]
  refine Ev.callKw (kws := backToKw pos (keywordEach [⟨some "key", .Lambda (keyArgs ap) (keyBody p1 p2 p3 p4 tp j) lsc lp, kp⟩] M.env)) rfl rfl ?_
  show Ev M (PySem.spliced (trees [e] M.env)) (fun vs h₁ => Ev M (evalAll [do let v ← eval (.Lambda (keyArgs ap) (keyBody p1 p2 p3 p4 tp j) lsc lp) M.env; standAt pos; pure v])
      (fun kvs h₂ => Ev M (call (.builtin "sorted") vs ([("key" : Str)].zip kvs)) (PE M ρ h k) h₂) h₁) h
  refine Ev.spliced (.one H) X S F (k := fun as μ => oneP as fun a => sortKP lp.line lp.col a μ k) w.2 fun vs h₁ as ρ₁ μ₁ g₁ S₁ i₁ _ w' => ?_
  obtain ⟨a, rfl, w'⟩ := oneP.inv w'
  obtain ⟨v, rfl, j1⟩ := i₁.inv1
  obtain ⟨xs, ⟨ss, rfl, h2, hz, hT, q⟩, la⟩ := lstP.at' w' S₁ j1
  unfold evalAll
  refine Ev.bind (Ev.bind (evLambda X w.1 hsc S₁ (F.grow0 g₁) hT ⟨rfl, rfl⟩ T.n fun f h₂ ρ₂ K S₂ g₂ => ?_))
  refine Ev.bind (Ev.standAt (Ev.pure ?_))
  refine Ev.bind (Ev.holding (Ev.pure ?_))
  refine Ev.pure ?_
  obtain ⟨l, lvs, n, rfl, hlo, hl2, _⟩ := la S₂ g₂
  obtain ⟨sv, rfl⟩ : ∃ sv : List Value, lvs = sv.toArray := ⟨lvs.toList, by simp⟩
  refine (Ev.sortedKey (ρ₀ := ρ₂.f) (fun s hs' v' ρ' μ2 h' hm iv S' => ?_) (fun _ _ e => e) S₂ hlo hl2 h2).pe (g₁.trans g₂) q
  exact Ev.keyCall (M := M.in1.in1) ((X.C w.1).1.le (show 12 ≤ 16 by decide)).in1.in1 X.G T S' (K.mono hm) iv (hz s hs')⟩
end
end Mine
end
section
namespace Mine
-- 0 heap, 1 item
def ns_heappush : List Str := ["heap", "item"]
def w_heappush : WS := sBlk [(sExpr (wMeth kLst pAppend (wVar 0) [(wVar 1)])), (sExpr (wFn "_siftdown" [(wVar 0), (wDat (.int 0)), (wBin subI (wB1 lenL (wVar 0)) (wDat (.int 1)))]))]
abbrev f_heappush (c : Cx) := mfun w_heappush 2 2 c

-- 0 heap, 1 lastelt, 2 returnitem
def ns_heappop : List Str := ["heap", "lastelt", "returnitem"]
def w_heappop : WS := sBlk [(sAsg 1 (wMeth kLst pPop (wVar 0) [])), (sIf (tTru trL (wVar 0)) (sBlk [(sAsg 2 (wIdx (wVar 0) (wDat (.int 0)))), (sStore (wVar 0) (wDat (.int 0)) (wVar 1)), (sExpr (wFn "_siftup" [(wVar 0), (wDat (.int 0))])), (sRet (wVar 2))]) (sBlk [])), (sRet (wVar 1))]
abbrev f_heappop (c : Cx) := mfun w_heappop 1 3 c

-- 0 heap, 1 startpos, 2 pos, 3 newitem, 4 parentpos, 5 parent
def ns_siftdown : List Str := ["heap", "startpos", "pos", "newitem", "parentpos", "parent"]
def w_siftdown : WS := sBlk [(sAsg 3 (wIdx (wVar 0) (wVar 2))), (sWhile (tCmp (wCmp gtI (wVar 2) (wVar 1))) (sBlk [(sAsg 4 (wBin shrI (wBin subI (wVar 2) (wDat (.int 1))) (wDat (.int 1)))), (sAsg 5 (wIdx (wVar 0) (wVar 4))), (sIf (tCmp (wCmp ltT (wVar 3) (wVar 5))) (sBlk [(sStore (wVar 0) (wVar 2) (wVar 5)), (sAsg 2 (wVar 4)), sCont]) (sBlk [])), sBrk])), (sStore (wVar 0) (wVar 2) (wVar 3))]
abbrev f_siftdown (c : Cx) := mfun w_siftdown 3 6 c

-- 0 heap, 1 pos, 2 endpos, 3 startpos, 4 newitem, 5 childpos, 6 rightpos
def ns_siftup : List Str := ["heap", "pos", "endpos", "startpos", "newitem", "childpos", "rightpos"]
def w_siftup : WS := sBlk [(sAsg 2 (wB1 lenL (wVar 0))), (sAsg 3 (wVar 1)), (sAsg 4 (wIdx (wVar 0) (wVar 1))), (sAsg 5 (wBin addI (wBin mulI (wDat (.int 2)) (wVar 1)) (wDat (.int 1)))), (sWhile (tCmp (wCmp ltI (wVar 5) (wVar 2))) (sBlk [(sAsg 6 (wBin addI (wVar 5) (wDat (.int 1)))), (sIf (tAnd (tCmp (wCmp ltI (wVar 6) (wVar 2))) (tNot (tCmp (wCmp ltT (wIdx (wVar 0) (wVar 5)) (wIdx (wVar 0) (wVar 6)))))) (sBlk [(sAsg 5 (wVar 6))]) (sBlk [])), (sStore (wVar 0) (wVar 1) (wIdx (wVar 0) (wVar 5))), (sAsg 1 (wVar 5)), (sAsg 5 (wBin addI (wBin mulI (wDat (.int 2)) (wVar 1)) (wDat (.int 1))))])), (sStore (wVar 0) (wVar 1) (wVar 4)), (sExpr (wFn "_siftdown" [(wVar 0), (wVar 3), (wVar 1)]))]
abbrev f_siftup (c : Cx) := mfun w_siftup 2 7 c

-- 0 want, 1 got, 2 ws, 3 startpos, 4 endpos, 5 w
def ns_ellipsis_match : List Str := ["want", "got", "ws", "startpos", "endpos", "w"]
def w_ellipsis_match : WS := sBlk [(sIf (tCmp (wCmp niStr (wCst "ELLIPSIS_MARKER") (wVar 0))) (sBlk [(sRet (wCmp eqV (wVar 0) (wVar 1)))]) (sBlk [])), (sSplit 2 (wVar 0) (wCst "ELLIPSIS_MARKER")), (sAssert (tCmp (wCmp geI (wB1 lenL (wVar 2)) (wDat (.int 2))))), (sTwo 3 4 (wDat (.int 0)) (wB1 lenS (wVar 1))), (sAsg 5 (wIdx (wVar 2) (wDat (.int 0)))), (sIf (tTru trS (wVar 5)) (sBlk [(sIf (tTru trB (wMeth kStr pStarts (wVar 1) [(wVar 5)])) (sBlk [(sAsg 3 (wB1 lenS (wVar 5))), (sDel (wVar 2) (wDat (.int 0)))]) (sBlk [(sRet (wDat (.bool false)))]))]) (sBlk [])), (sAsg 5 (wIdx (wVar 2) (wNeg (wDat (.int 1))))), (sIf (tTru trS (wVar 5)) (sBlk [(sIf (tTru trB (wMeth kStr pEnds (wVar 1) [(wVar 5)])) (sBlk [(sAug (fun a b => a - b) 4 (wB1 lenS (wVar 5))), (sDel (wVar 2) (wNeg (wDat (.int 1))))]) (sBlk [(sRet (wDat (.bool false)))]))]) (sBlk [])), (sIf (tCmp (wCmp gtI (wVar 3) (wVar 4))) (sBlk [(sRet (wDat (.bool false)))]) (sBlk [])), (sFor 5 (iItems (wVar 2)) (sBlk [(sAsg 3 (wMeth kStr pFind (wVar 1) [(wVar 5), (wVar 3), (wVar 4)])), (sIf (tCmp (wCmp ltI (wVar 3) (wDat (.int 0)))) (sBlk [(sRet (wDat (.bool false)))]) (sBlk [])), (sAug (fun a b => a + b) 3 (wB1 lenS (wVar 5)))])), (sRet (wDat (.bool true)))]
abbrev f_ellipsis_match (c : Cx) := mfun w_ellipsis_match 2 6 c

end Mine
end
section
namespace Mine
-- 0 numbers, 1 x
def ns_law_pieces : List Str := ["numbers", "x"]
def w_law_pieces : WS := sBlk [(sRet (wComp [false, false] 1 (iItems (wVar 0)) [] (wIdx (wList [(wDat (.str "a")), (wDat (.str "b")), (wDat (.str "..."))]) (wBin modI (wVar 1) (wDat (.int 3))))))]
abbrev f_law_pieces (c : Cx) := mfun w_law_pieces 1 2 c

-- 0 one, 1 two, 2 heap, 3 seen, 4 size, 5 text, 6 i, 7 j, 8 a, 9 b
def ns_law_search : List Str := ["one", "two", "heap", "seen", "size", "text", "i", "j", "a", "b"]
def w_law_search : WS := sBlk [(sNewL 2 [(wTup [(wDat (.int 0)), (wDat (.str "")), (wDat (.int 0)), (wDat (.int 0))])]), (sNewS 3), (sWhile (tCmp (wCmp neV (wVar 2) (wList []))) (sBlk [(sUnpk [4, 5, 6, 7] (wFn "heappop" [(wVar 2)])), (sAsg 8 (wCut cutL (wVar 0) (some (wVar 6)) (some (wBin addI (wVar 6) (wDat (.int 1)))) none)), (sAsg 9 (wCut cutL (wVar 1) (some (wVar 7)) (some (wBin addI (wVar 7) (wDat (.int 1)))) none)), (sIf (tAnd (tCmp (wCmp eqV (wVar 8) (wList []))) (tCmp (wCmp eqV (wVar 9) (wList [])))) (sBlk [(sRet (wList [(wVar 5)]))]) (sBlk [])), (sIf (tCmp (wCmp niSet (wBin addI (wBin mulI (wDat (.int 16)) (wVar 6)) (wVar 7)) (wVar 3))) (sBlk [(sExpr (wMeth kSet pAdd (wVar 3) [(wBin addI (wBin mulI (wDat (.int 16)) (wVar 6)) (wVar 7))])), (sIf (tCmp (wCmp eqV (wVar 8) (wList [(wDat (.str "..."))]))) (sBlk [(sExpr (wFn "heappush" [(wVar 2), (wTup [(wVar 4), (wVar 5), (wBin addI (wVar 6) (wDat (.int 1))), (wVar 7)])]))]) (sBlk [])), (sIf (tCmp (wCmp eqV (wVar 9) (wList [(wDat (.str "..."))]))) (sBlk [(sExpr (wFn "heappush" [(wVar 2), (wTup [(wVar 4), (wVar 5), (wVar 6), (wBin addI (wVar 7) (wDat (.int 1)))])]))]) (sBlk [])), (sIf (tAnd (tCmp (wCmp niL (wVar 8) (wList [(wList []), (wList [(wDat (.str "..."))])]))) (tCmp (wCmp eqV (wVar 8) (wVar 9)))) (sBlk [(sExpr (wFn "heappush" [(wVar 2), (wTup [(wBin addI (wVar 4) (wDat (.int 1))), (wBin addS (wVar 5) (wIdx (wVar 8) (wDat (.int 0)))), (wBin addI (wVar 6) (wDat (.int 1))), (wBin addI (wVar 7) (wDat (.int 1)))])]))]) (sBlk [])), (sIf (tAnd (tCmp (wCmp niL (wVar 8) (wList [(wList []), (wList [(wDat (.str "..."))])]))) (tCmp (wCmp eqV (wVar 9) (wList [(wDat (.str "..."))])))) (sBlk [(sExpr (wFn "heappush" [(wVar 2), (wTup [(wBin addI (wVar 4) (wDat (.int 1))), (wBin addS (wVar 5) (wIdx (wVar 8) (wDat (.int 0)))), (wBin addI (wVar 6) (wDat (.int 1))), (wVar 7)])]))]) (sBlk [])), (sIf (tAnd (tCmp (wCmp eqV (wVar 8) (wList [(wDat (.str "..."))]))) (tCmp (wCmp niL (wVar 9) (wList [(wList []), (wList [(wDat (.str "..."))])])))) (sBlk [(sExpr (wFn "heappush" [(wVar 2), (wTup [(wBin addI (wVar 4) (wDat (.int 1))), (wBin addS (wVar 5) (wIdx (wVar 9) (wDat (.int 0)))), (wVar 6), (wBin addI (wVar 7) (wDat (.int 1)))])]))]) (sBlk []))]) (sBlk []))])), (sRet (wList []))]
abbrev f_law_search (c : Cx) := mfun w_law_search 2 10 c

-- 0 one, 1 two, 2 below, 3 i, 4 row, 5 j, 6 a, 7 b, 8 ways, 9 way
def ns_law_least : List Str := ["one", "two", "below", "i", "row", "j", "a", "b", "ways", "way"]
def w_law_least : WS := sBlk [(sAsg 2 (wList [])), (sFor 3 (iDown (wB1 lenL (wVar 0)) (wNeg (wDat (.int 1))) (wNeg (wDat (.int 1)))) (sBlk [(sAsg 4 (wList [])), (sFor 5 (iDown (wB1 lenL (wVar 1)) (wNeg (wDat (.int 1))) (wNeg (wDat (.int 1)))) (sBlk [(sAsg 6 (wCut cutL (wVar 0) (some (wVar 3)) (some (wBin addI (wVar 3) (wDat (.int 1)))) none)), (sAsg 7 (wCut cutL (wVar 1) (some (wVar 5)) (some (wBin addI (wVar 5) (wDat (.int 1)))) none)), (sNewL 8 []), (sIf (tAnd (tCmp (wCmp eqV (wVar 6) (wList []))) (tCmp (wCmp eqV (wVar 7) (wList [])))) (sBlk [(sExpr (wMeth kLst pAppend (wVar 8) [(wDat (.str ""))]))]) (sBlk [])), (sIf (tCmp (wCmp eqV (wVar 6) (wList [(wDat (.str "..."))]))) (sBlk [(sExpr (wMeth kLst pExtend (wVar 8) [(wIdx (wVar 2) (wVar 5))]))]) (sBlk [])), (sIf (tCmp (wCmp eqV (wVar 7) (wList [(wDat (.str "..."))]))) (sBlk [(sExpr (wMeth kLst pExtend (wVar 8) [(wIdx (wVar 4) (wDat (.int 0)))]))]) (sBlk [])), (sIf (tAnd (tCmp (wCmp niL (wVar 6) (wList [(wList []), (wList [(wDat (.str "..."))])]))) (tCmp (wCmp eqV (wVar 6) (wVar 7)))) (sBlk [(sExpr (wMeth kLst pExtend (wVar 8) [(wComp [false, false, false, false, false, false, true, false, false, false] 9 (iItems (wIdx (wVar 2) (wBin addI (wVar 5) (wDat (.int 1))))) [] (wBin addS (wIdx (wVar 6) (wDat (.int 0))) (wVar 9)))]))]) (sBlk [])), (sIf (tAnd (tCmp (wCmp niL (wVar 6) (wList [(wList []), (wList [(wDat (.str "..."))])]))) (tCmp (wCmp eqV (wVar 7) (wList [(wDat (.str "..."))])))) (sBlk [(sExpr (wMeth kLst pExtend (wVar 8) [(wComp [false, false, false, false, false, false, true, false, false, false] 9 (iItems (wIdx (wVar 2) (wVar 5))) [] (wBin addS (wIdx (wVar 6) (wDat (.int 0))) (wVar 9)))]))]) (sBlk [])), (sIf (tAnd (tCmp (wCmp eqV (wVar 6) (wList [(wDat (.str "..."))]))) (tCmp (wCmp niL (wVar 7) (wList [(wList []), (wList [(wDat (.str "..."))])])))) (sBlk [(sExpr (wMeth kLst pExtend (wVar 8) [(wComp [false, false, false, false, false, false, false, true, false, false] 9 (iItems (wIdx (wVar 4) (wDat (.int 0)))) [] (wBin addS (wIdx (wVar 7) (wDat (.int 0))) (wVar 9)))]))]) (sBlk [])), (sAsg 4 (wBin addL (wList [(wCut cutL (wSortK 113 36 (wVar 8)) none (some (wDat (.int 1))) none)]) (wVar 4)))])), (sAsg 2 (wVar 4))])), (sRet (wIdx (wVar 2) (wDat (.int 0))))]
abbrev f_law_least (c : Cx) := mfun w_law_least 2 10 c

-- 0 one, 1 two, 2 text, 3 pieces
def ns_law_both : List Str := ["one", "two", "text", "pieces"]
def w_law_both : WS := sBlk [(sRet (wComp [false, false, true, false] 3 (iItems (wList [(wVar 0), (wVar 1)])) [] (wFn "_ellipsis_match" [(wMeth kStr pJoin (wDat (.str "")) [(wVar 3)]), (wVar 2)])))]
abbrev f_law_both (c : Cx) := mfun w_law_both 3 4 c

-- 0 one, 1 two, 2 told, 3 text, 4 k
def ns_law_none_shorter : List Str := ["one", "two", "told", "text", "k"]
def w_law_none_shorter : WS := sBlk [(sFor 3 (iItems (wVar 2)) (sBlk [(sIf (tCmp (wCmp neV (wFn "_law_both" [(wVar 0), (wVar 1), (wVar 3)]) (wList [(wDat (.bool true)), (wDat (.bool true))]))) (sBlk [(sRet (wDat (.bool false)))]) (sBlk [])), (sFor 4 (iUp (wB1 lenS (wVar 3))) (sBlk [(sIf (tCmp (wCmp eqV (wFn "_law_both" [(wVar 0), (wVar 1), (wBin addS (wCut cutT (wVar 3) none (some (wVar 4)) none) (wCut cutT (wVar 3) (some (wBin addI (wVar 4) (wDat (.int 1)))) none none))]) (wList [(wDat (.bool true)), (wDat (.bool true))]))) (sBlk [(sRet (wDat (.bool false)))]) (sBlk []))]))])), (sRet (wDat (.bool true)))]
abbrev f_law_none_shorter (c : Cx) := mfun w_law_none_shorter 3 5 c

-- 0 pieces, 1 run, 2 piece
def ns_law_filled : List Str := ["pieces", "run", "piece"]
def w_law_filled : WS := sBlk [(sRet (wMeth kStr pJoin (wDat (.str "")) [(wComp [false, true, false] 2 (iItems (wVar 0)) [] (wIte (tCmp (wCmp eqV (wVar 2) (wDat (.str "...")))) (wVar 1) (wVar 2)))]))]
abbrev f_law_filled (c : Cx) := mfun w_law_filled 2 3 c

-- 0 one, 1 two, 2 told, 3 run, 4 answers
def ns_law_own : List Str := ["one", "two", "told", "run", "answers"]
def w_law_own : WS := sBlk [(sFor 3 (iItems (wList [(wDat (.str "")), (wFn "_law_filled" [(wVar 1), (wDat (.str ""))])])) (sBlk [(sAsg 4 (wFn "_law_both" [(wVar 0), (wVar 1), (wFn "_law_filled" [(wVar 0), (wVar 3)])])), (sIf (tCmp (wCmp neV (wIdx (wVar 4) (wDat (.int 0))) (wDat (.bool true)))) (sBlk [(sRet (wDat (.bool false)))]) (sBlk [])), (sIf (tAnd (tCmp (wCmp eqV (wVar 2) (wList []))) (tCmp (wCmp neV (wIdx (wVar 4) (wDat (.int 1))) (wDat (.bool false))))) (sBlk [(sRet (wDat (.bool false)))]) (sBlk []))])), (sRet (wDat (.bool true)))]
abbrev f_law_own (c : Cx) := mfun w_law_own 3 5 c

-- 0 script, 1 draws, 2 one, 3 two, 4 told
def ns_law : List Str := ["script", "draws", "one", "two", "told"]
def w_law : WS := sBlk [(sAsg 1 (wBin addL (wBin addL (wCut cutL (wVar 0) none (some (wDat (.int 5))) none) (wList [(wDat (.int 0)), (wDat (.int 2)), (wDat (.int 1)), (wDat (.int 1))])) (wCut cutL (wVar 0) (some (wDat (.int 5))) (some (wDat (.int 10))) none))), (sAsg 2 (wFn "_law_pieces" [(wCut cutL (wVar 1) (some (wDat (.int 0))) none (some (wDat (.int 2))))])), (sAsg 3 (wFn "_law_pieces" [(wCut cutL (wVar 1) (some (wDat (.int 1))) none (some (wDat (.int 2))))])), (sAsg 4 (wFn "_law_search" [(wVar 2), (wVar 3)])), (sRet (wAnd (wCmp eqV (wVar 4) (wFn "_law_least" [(wVar 2), (wVar 3)])) (wAnd (wFn "_law_none_shorter" [(wVar 2), (wVar 3), (wVar 4)]) (wAnd (wFn "_law_own" [(wVar 2), (wVar 3), (wVar 4)]) (wFn "_law_own" [(wVar 3), (wVar 2), (wVar 4)])))))]
abbrev f_law (c : Cx) := mfun w_law 1 5 c

end Mine
end
section
set_option maxRecDepth 100000
namespace Mine
def stAt1 (i : Nat) : Stmt := PySem.Challenge.pw_mq0174_01.main.body.getD i (.Pass default)
def stDef : Stmt → List Str × Scope × List Stmt
  | .FunctionDef _ a b _ _ _ sc _ _ _ => (a.args.map (·.arg), sc, b)
  | _ => ([], default, [])
def stBody (s : Stmt) : List Stmt := (stDef s).2.2
def stScope (s : Stmt) : Scope := (stDef s).2.1
def stPars (s : Stmt) : List Str := (stDef s).1

theorem snd_heappush : SndB ns_heappush (stScope (stAt1 1)) (stBody (stAt1 1)) w_heappush :=
  (.cons (.expr (fun _ _ _ => rfl) (.meth meth_append (fun _ => rfl) rfl rfl (.var rfl) (.cons (.var rfl) .nil))) (.cons (.expr (fun _ _ _ => rfl) (.fn (by decide +kernel) (.cons (.var rfl) (.cons .int (.cons (.bin subI.ok (.b1 lenL.ok (fun X => X.G.len) (by decide +kernel) (.var rfl)) .int) .nil))))) .nil))

theorem snd_heappop : SndB ns_heappop (stScope (stAt1 2)) (stBody (stAt1 2)) w_heappop :=
  (.cons (.asg (fun _ _ _ => rfl) rfl (by decide +kernel) (.meth meth_pop (fun _ => rfl) rfl rfl (.var rfl) .nil)) (.cons (.ite (.tru trL.ok (fun _ => rfl) (.var rfl)) (.cons (.asg (fun _ _ _ => rfl) rfl (by decide +kernel) (.idx (.var rfl) .int)) (.cons (.store (fun _ _ _ => rfl) (.var rfl) .int (.var rfl)) (.cons (.expr (fun _ _ _ => rfl) (.fn (by decide +kernel) (.cons (.var rfl) (.cons .int .nil)))) (.cons (.ret (.var rfl)) .nil)))) .nil) (.cons (.ret (.var rfl)) .nil)))

theorem snd_siftdown : SndB ns_siftdown (stScope (stAt1 3)) (stBody (stAt1 3)) w_siftdown :=
  (.cons (.asg (fun _ _ _ => rfl) rfl (by decide +kernel) (.idx (.var rfl) (.var rfl))) (.cons (.while (.cmp gtI.ok rfl (.var rfl) (.var rfl)) (.cons (.asg (fun _ _ _ => rfl) rfl (by decide +kernel) (.bin shrI.ok (.bin subI.ok (.var rfl) .int) .int)) (.cons (.asg (fun _ _ _ => rfl) rfl (by decide +kernel) (.idx (.var rfl) (.var rfl))) (.cons (.ite (.cmp ltT.ok rfl (.var rfl) (.var rfl)) (.cons (.store (fun _ _ _ => rfl) (.var rfl) (.var rfl) (.var rfl)) (.cons (.asg (fun _ _ _ => rfl) rfl (by decide +kernel) (.var rfl)) (.cons .cont .nil))) .nil) (.cons .brk .nil))))) (.cons (.store (fun _ _ _ => rfl) (.var rfl) (.var rfl) (.var rfl)) .nil)))

theorem snd_siftup : SndB ns_siftup (stScope (stAt1 4)) (stBody (stAt1 4)) w_siftup :=
  (.cons (.asg (fun _ _ _ => rfl) rfl (by decide +kernel) (.b1 lenL.ok (fun X => X.G.len) (by decide +kernel) (.var rfl))) (.cons (.asg (fun _ _ _ => rfl) rfl (by decide +kernel) (.var rfl)) (.cons (.asg (fun _ _ _ => rfl) rfl (by decide +kernel) (.idx (.var rfl) (.var rfl))) (.cons (.asg (fun _ _ _ => rfl) rfl (by decide +kernel) (.bin addI.ok (.bin mulI.ok .int (.var rfl)) .int)) (.cons (.while (.cmp ltI.ok rfl (.var rfl) (.var rfl)) (.cons (.asg (fun _ _ _ => rfl) rfl (by decide +kernel) (.bin addI.ok (.var rfl) .int)) (.cons (.ite (.and (.cmp ltI.ok rfl (.var rfl) (.var rfl)) (.and1 (.not (.cmp ltT.ok rfl (.idx (.var rfl) (.var rfl)) (.idx (.var rfl) (.var rfl)))))) (.cons (.asg (fun _ _ _ => rfl) rfl (by decide +kernel) (.var rfl)) .nil) .nil) (.cons (.store (fun _ _ _ => rfl) (.var rfl) (.var rfl) (.idx (.var rfl) (.var rfl))) (.cons (.asg (fun _ _ _ => rfl) rfl (by decide +kernel) (.var rfl)) (.cons (.asg (fun _ _ _ => rfl) rfl (by decide +kernel) (.bin addI.ok (.bin mulI.ok .int (.var rfl)) .int)) .nil)))))) (.cons (.store (fun _ _ _ => rfl) (.var rfl) (.var rfl) (.var rfl)) (.cons (.expr (fun _ _ _ => rfl) (.fn (by decide +kernel) (.cons (.var rfl) (.cons (.var rfl) (.cons (.var rfl) .nil))))) .nil)))))))

theorem snd_ellipsis_match : SndB ns_ellipsis_match (stScope (stAt1 7)) (stBody (stAt1 7)) w_ellipsis_match :=
  (.cons (.ite (.cmp niStr.ok rfl (.cst (by decide +kernel)) (.var rfl)) (.cons (.ret (.cmp eqV.ok rfl (.var rfl) (.var rfl))) .nil) .nil) (.cons (.split (fun _ => rfl) rfl rfl (by decide +kernel) (.var rfl) (.cst (by decide +kernel))) (.cons (.assert (.cmp geI.ok rfl (.b1 lenL.ok (fun X => X.G.len) (by decide +kernel) (.var rfl)) .int)) (.cons (.two (fun env h => by cases env; cases h; rfl) rfl rfl (by decide +kernel) (by decide +kernel) .int (.b1 lenS.ok (fun X => X.G.len) (by decide +kernel) (.var rfl))) (.cons (.asg (fun _ _ _ => rfl) rfl (by decide +kernel) (.idx (.var rfl) .int)) (.cons (.ite (.tru trS.ok (fun _ => rfl) (.var rfl)) (.cons (.ite (.tru trB.ok (fun _ => rfl) (.meth meth_starts (fun _ => rfl) rfl rfl (.var rfl) (.cons (.var rfl) .nil))) (.cons (.asg (fun _ _ _ => rfl) rfl (by decide +kernel) (.b1 lenS.ok (fun X => X.G.len) (by decide +kernel) (.var rfl))) (.cons (.del (.var rfl) .int) .nil)) (.cons (.ret .bool) .nil)) .nil) .nil) (.cons (.asg (fun _ _ _ => rfl) rfl (by decide +kernel) (.idx (.var rfl) (.neg .int))) (.cons (.ite (.tru trS.ok (fun _ => rfl) (.var rfl)) (.cons (.ite (.tru trB.ok (fun _ => rfl) (.meth meth_ends (fun _ => rfl) rfl rfl (.var rfl) (.cons (.var rfl) .nil))) (.cons (.aug aug_sub rfl (by decide +kernel) (.b1 lenS.ok (fun X => X.G.len) (by decide +kernel) (.var rfl))) (.cons (.del (.var rfl) (.neg .int)) .nil)) (.cons (.ret .bool) .nil)) .nil) .nil) (.cons (.ite (.cmp gtI.ok rfl (.var rfl) (.var rfl)) (.cons (.ret .bool) .nil) .nil) (.cons (.for rfl (by decide +kernel) (.items (fun _ _ => rfl) (.var rfl)) (.cons (.asg (fun _ _ _ => rfl) rfl (by decide +kernel) (.meth meth_find (fun _ => rfl) rfl rfl (.var rfl) (.cons (.var rfl) (.cons (.var rfl) (.cons (.var rfl) .nil))))) (.cons (.ite (.cmp ltI.ok rfl (.var rfl) .int) (.cons (.ret .bool) .nil) .nil) (.cons (.aug aug_add rfl (by decide +kernel) (.b1 lenS.ok (fun X => X.G.len) (by decide +kernel) (.var rfl))) .nil)))) (.cons (.ret .bool) .nil)))))))))))

theorem snd_law_pieces : SndB ns_law_pieces (stScope (stAt1 9)) (stBody (stAt1 9)) w_law_pieces :=
  (.cons (.ret (.comp (by decide +kernel) (by decide +kernel) rfl (by decide +kernel) (.idx (.list rfl (.cons .str (.cons .str (.cons .str .nil)))) (.bin modI.ok (.var rfl) .int)) (.items (fun _ _ => rfl) (.var rfl)) .nil)) .nil)

theorem snd_law_search : SndB ns_law_search (stScope (stAt1 10)) (stBody (stAt1 10)) w_law_search :=
  (.cons (.newL rfl rfl (by decide +kernel) (.cons (.tup rfl (.cons .int (.cons .str (.cons .int (.cons .int .nil))))) .nil)) (.cons (.newS (by decide +kernel) rfl (by decide +kernel)) (.cons (.while (.cmp neV.ok rfl (.var rfl) (.list rfl .nil)) (.cons (.unpk (fun _ _ _ => rfl) (fun _ => rfl) (.cons rfl (by decide +kernel) (.cons rfl (by decide +kernel) (.cons rfl (by decide +kernel) (.cons rfl (by decide +kernel) .nil)))) (.fn (by decide +kernel) (.cons (.var rfl) .nil))) (.cons (.asg (fun _ _ _ => rfl) rfl (by decide +kernel) (.cut cutL.ok (.var rfl) (.some (.var rfl)) (.some (.bin addI.ok (.var rfl) .int)) .none)) (.cons (.asg (fun _ _ _ => rfl) rfl (by decide +kernel) (.cut cutL.ok (.var rfl) (.some (.var rfl)) (.some (.bin addI.ok (.var rfl) .int)) .none)) (.cons (.ite (.and (.cmp eqV.ok rfl (.var rfl) (.list rfl .nil)) (.and1 (.cmp eqV.ok rfl (.var rfl) (.list rfl .nil)))) (.cons (.ret (.list rfl (.cons (.var rfl) .nil))) .nil) .nil) (.cons (.ite (.cmp niSet.ok rfl (.bin addI.ok (.bin mulI.ok .int (.var rfl)) (.var rfl)) (.var rfl)) (.cons (.expr (fun _ _ _ => rfl) (.meth meth_add (fun _ => rfl) rfl rfl (.var rfl) (.cons (.bin addI.ok (.bin mulI.ok .int (.var rfl)) (.var rfl)) .nil))) (.cons (.ite (.cmp eqV.ok rfl (.var rfl) (.list rfl (.cons .str .nil))) (.cons (.expr (fun _ _ _ => rfl) (.fn (by decide +kernel) (.cons (.var rfl) (.cons (.tup rfl (.cons (.var rfl) (.cons (.var rfl) (.cons (.bin addI.ok (.var rfl) .int) (.cons (.var rfl) .nil))))) .nil)))) .nil) .nil) (.cons (.ite (.cmp eqV.ok rfl (.var rfl) (.list rfl (.cons .str .nil))) (.cons (.expr (fun _ _ _ => rfl) (.fn (by decide +kernel) (.cons (.var rfl) (.cons (.tup rfl (.cons (.var rfl) (.cons (.var rfl) (.cons (.var rfl) (.cons (.bin addI.ok (.var rfl) .int) .nil))))) .nil)))) .nil) .nil) (.cons (.ite (.and (.cmp niL.ok rfl (.var rfl) (.list rfl (.cons (.list rfl .nil) (.cons (.list rfl (.cons .str .nil)) .nil)))) (.and1 (.cmp eqV.ok rfl (.var rfl) (.var rfl)))) (.cons (.expr (fun _ _ _ => rfl) (.fn (by decide +kernel) (.cons (.var rfl) (.cons (.tup rfl (.cons (.bin addI.ok (.var rfl) .int) (.cons (.bin addS.ok (.var rfl) (.idx (.var rfl) .int)) (.cons (.bin addI.ok (.var rfl) .int) (.cons (.bin addI.ok (.var rfl) .int) .nil))))) .nil)))) .nil) .nil) (.cons (.ite (.and (.cmp niL.ok rfl (.var rfl) (.list rfl (.cons (.list rfl .nil) (.cons (.list rfl (.cons .str .nil)) .nil)))) (.and1 (.cmp eqV.ok rfl (.var rfl) (.list rfl (.cons .str .nil))))) (.cons (.expr (fun _ _ _ => rfl) (.fn (by decide +kernel) (.cons (.var rfl) (.cons (.tup rfl (.cons (.bin addI.ok (.var rfl) .int) (.cons (.bin addS.ok (.var rfl) (.idx (.var rfl) .int)) (.cons (.bin addI.ok (.var rfl) .int) (.cons (.var rfl) .nil))))) .nil)))) .nil) .nil) (.cons (.ite (.and (.cmp eqV.ok rfl (.var rfl) (.list rfl (.cons .str .nil))) (.and1 (.cmp niL.ok rfl (.var rfl) (.list rfl (.cons (.list rfl .nil) (.cons (.list rfl (.cons .str .nil)) .nil)))))) (.cons (.expr (fun _ _ _ => rfl) (.fn (by decide +kernel) (.cons (.var rfl) (.cons (.tup rfl (.cons (.bin addI.ok (.var rfl) .int) (.cons (.bin addS.ok (.var rfl) (.idx (.var rfl) .int)) (.cons (.var rfl) (.cons (.bin addI.ok (.var rfl) .int) .nil))))) .nil)))) .nil) .nil) .nil)))))) .nil) .nil)))))) (.cons (.ret (.list rfl .nil)) .nil))))

theorem snd_law_least : SndB ns_law_least (stScope (stAt1 11)) (stBody (stAt1 11)) w_law_least :=
  (.cons (.asg (fun _ _ _ => rfl) rfl (by decide +kernel) (.list rfl .nil)) (.cons (.for rfl (by decide +kernel) (.down (by decide +kernel) (.b1 lenL.ok (fun X => X.G.len) (by decide +kernel) (.var rfl)) (.neg .int) (.neg .int)) (.cons (.asg (fun _ _ _ => rfl) rfl (by decide +kernel) (.list rfl .nil)) (.cons (.for rfl (by decide +kernel) (.down (by decide +kernel) (.b1 lenL.ok (fun X => X.G.len) (by decide +kernel) (.var rfl)) (.neg .int) (.neg .int)) (.cons (.asg (fun _ _ _ => rfl) rfl (by decide +kernel) (.cut cutL.ok (.var rfl) (.some (.var rfl)) (.some (.bin addI.ok (.var rfl) .int)) .none)) (.cons (.asg (fun _ _ _ => rfl) rfl (by decide +kernel) (.cut cutL.ok (.var rfl) (.some (.var rfl)) (.some (.bin addI.ok (.var rfl) .int)) .none)) (.cons (.newL rfl rfl (by decide +kernel) .nil) (.cons (.ite (.and (.cmp eqV.ok rfl (.var rfl) (.list rfl .nil)) (.and1 (.cmp eqV.ok rfl (.var rfl) (.list rfl .nil)))) (.cons (.expr (fun _ _ _ => rfl) (.meth meth_append (fun _ => rfl) rfl rfl (.var rfl) (.cons .str .nil))) .nil) .nil) (.cons (.ite (.cmp eqV.ok rfl (.var rfl) (.list rfl (.cons .str .nil))) (.cons (.expr (fun _ _ _ => rfl) (.meth meth_extend (fun _ => rfl) rfl rfl (.var rfl) (.cons (.idx (.var rfl) (.var rfl)) .nil))) .nil) .nil) (.cons (.ite (.cmp eqV.ok rfl (.var rfl) (.list rfl (.cons .str .nil))) (.cons (.expr (fun _ _ _ => rfl) (.meth meth_extend (fun _ => rfl) rfl rfl (.var rfl) (.cons (.idx (.var rfl) .int) .nil))) .nil) .nil) (.cons (.ite (.and (.cmp niL.ok rfl (.var rfl) (.list rfl (.cons (.list rfl .nil) (.cons (.list rfl (.cons .str .nil)) .nil)))) (.and1 (.cmp eqV.ok rfl (.var rfl) (.var rfl)))) (.cons (.expr (fun _ _ _ => rfl) (.meth meth_extend (fun _ => rfl) rfl rfl (.var rfl) (.cons (.comp (by decide +kernel) (by decide +kernel) rfl (by decide +kernel) (.bin addS.ok (.idx (.var rfl) .int) (.var rfl)) (.items (fun _ _ => rfl) (.idx (.var rfl) (.bin addI.ok (.var rfl) .int))) .nil) .nil))) .nil) .nil) (.cons (.ite (.and (.cmp niL.ok rfl (.var rfl) (.list rfl (.cons (.list rfl .nil) (.cons (.list rfl (.cons .str .nil)) .nil)))) (.and1 (.cmp eqV.ok rfl (.var rfl) (.list rfl (.cons .str .nil))))) (.cons (.expr (fun _ _ _ => rfl) (.meth meth_extend (fun _ => rfl) rfl rfl (.var rfl) (.cons (.comp (by decide +kernel) (by decide +kernel) rfl (by decide +kernel) (.bin addS.ok (.idx (.var rfl) .int) (.var rfl)) (.items (fun _ _ => rfl) (.idx (.var rfl) (.var rfl))) .nil) .nil))) .nil) .nil) (.cons (.ite (.and (.cmp eqV.ok rfl (.var rfl) (.list rfl (.cons .str .nil))) (.and1 (.cmp niL.ok rfl (.var rfl) (.list rfl (.cons (.list rfl .nil) (.cons (.list rfl (.cons .str .nil)) .nil)))))) (.cons (.expr (fun _ _ _ => rfl) (.meth meth_extend (fun _ => rfl) rfl rfl (.var rfl) (.cons (.comp (by decide +kernel) (by decide +kernel) rfl (by decide +kernel) (.bin addS.ok (.idx (.var rfl) .int) (.var rfl)) (.items (fun _ _ => rfl) (.idx (.var rfl) .int)) .nil) .nil))) .nil) .nil) (.cons (.asg (fun _ _ _ => rfl) rfl (by decide +kernel) (.bin addL.ok (.list rfl (.cons (.cut cutL.ok (.sortK (by decide +kernel) (by decide +kernel) ⟨rfl, (by decide +kernel), (by decide +kernel), (by decide +kernel), rfl, rfl, (by decide +kernel)⟩ (.var rfl)) .none (.some .int) .none) .nil)) (.var rfl))) .nil))))))))))) (.cons (.asg (fun _ _ _ => rfl) rfl (by decide +kernel) (.var rfl)) .nil)))) (.cons (.ret (.idx (.var rfl) .int)) .nil)))

theorem snd_law_both : SndB ns_law_both (stScope (stAt1 12)) (stBody (stAt1 12)) w_law_both :=
  (.cons (.ret (.comp (by decide +kernel) (by decide +kernel) rfl (by decide +kernel) (.fn (by decide +kernel) (.cons (.meth meth_join (fun _ => rfl) rfl rfl .str (.cons (.var rfl) .nil)) (.cons (.var rfl) .nil))) (.items (fun _ _ => rfl) (.list rfl (.cons (.var rfl) (.cons (.var rfl) .nil)))) .nil)) .nil)

theorem snd_law_none_shorter : SndB ns_law_none_shorter (stScope (stAt1 13)) (stBody (stAt1 13)) w_law_none_shorter :=
  (.cons (.for rfl (by decide +kernel) (.items (fun _ _ => rfl) (.var rfl)) (.cons (.ite (.cmp neV.ok rfl (.fn (by decide +kernel) (.cons (.var rfl) (.cons (.var rfl) (.cons (.var rfl) .nil)))) (.list rfl (.cons .bool (.cons .bool .nil)))) (.cons (.ret .bool) .nil) .nil) (.cons (.for rfl (by decide +kernel) (.up (by decide +kernel) (.b1 lenS.ok (fun X => X.G.len) (by decide +kernel) (.var rfl))) (.cons (.ite (.cmp eqV.ok rfl (.fn (by decide +kernel) (.cons (.var rfl) (.cons (.var rfl) (.cons (.bin addS.ok (.cut cutT.ok (.var rfl) .none (.some (.var rfl)) .none) (.cut cutT.ok (.var rfl) (.some (.bin addI.ok (.var rfl) .int)) .none .none)) .nil)))) (.list rfl (.cons .bool (.cons .bool .nil)))) (.cons (.ret .bool) .nil) .nil) .nil)) .nil))) (.cons (.ret .bool) .nil))

theorem snd_law_filled : SndB ns_law_filled (stScope (stAt1 14)) (stBody (stAt1 14)) w_law_filled :=
  (.cons (.ret (.meth meth_join (fun _ => rfl) rfl rfl .str (.cons (.comp (by decide +kernel) (by decide +kernel) rfl (by decide +kernel) (.ite (.cmp eqV.ok rfl (.var rfl) .str) (.var rfl) (.var rfl)) (.items (fun _ _ => rfl) (.var rfl)) .nil) .nil))) .nil)

theorem snd_law_own : SndB ns_law_own (stScope (stAt1 15)) (stBody (stAt1 15)) w_law_own :=
  (.cons (.for rfl (by decide +kernel) (.items (fun _ _ => rfl) (.list rfl (.cons .str (.cons (.fn (by decide +kernel) (.cons (.var rfl) (.cons .str .nil))) .nil)))) (.cons (.asg (fun _ _ _ => rfl) rfl (by decide +kernel) (.fn (by decide +kernel) (.cons (.var rfl) (.cons (.var rfl) (.cons (.fn (by decide +kernel) (.cons (.var rfl) (.cons (.var rfl) .nil))) .nil))))) (.cons (.ite (.cmp neV.ok rfl (.idx (.var rfl) .int) .bool) (.cons (.ret .bool) .nil) .nil) (.cons (.ite (.and (.cmp eqV.ok rfl (.var rfl) (.list rfl .nil)) (.and1 (.cmp neV.ok rfl (.idx (.var rfl) .int) .bool))) (.cons (.ret .bool) .nil) .nil) .nil)))) (.cons (.ret .bool) .nil))

theorem snd_law : SndB ns_law (stScope (stAt1 16)) (stBody (stAt1 16)) w_law :=
  (.cons (.asg (fun _ _ _ => rfl) rfl (by decide +kernel) (.bin addL.ok (.bin addL.ok (.cut cutL.ok (.var rfl) .none (.some .int) .none) (.list rfl (.cons .int (.cons .int (.cons .int (.cons .int .nil)))))) (.cut cutL.ok (.var rfl) (.some .int) (.some .int) .none))) (.cons (.asg (fun _ _ _ => rfl) rfl (by decide +kernel) (.fn (by decide +kernel) (.cons (.cut cutL.ok (.var rfl) (.some .int) .none (.some .int)) .nil))) (.cons (.asg (fun _ _ _ => rfl) rfl (by decide +kernel) (.fn (by decide +kernel) (.cons (.cut cutL.ok (.var rfl) (.some .int) .none (.some .int)) .nil))) (.cons (.asg (fun _ _ _ => rfl) rfl (by decide +kernel) (.fn (by decide +kernel) (.cons (.var rfl) (.cons (.var rfl) .nil)))) (.cons (.ret (.and (.cmp eqV.ok rfl (.var rfl) (.fn (by decide +kernel) (.cons (.var rfl) (.cons (.var rfl) .nil)))) (.and (.fn (by decide +kernel) (.cons (.var rfl) (.cons (.var rfl) (.cons (.var rfl) .nil)))) (.and (.fn (by decide +kernel) (.cons (.var rfl) (.cons (.var rfl) (.cons (.var rfl) .nil)))) (.and1 (.fn (by decide +kernel) (.cons (.var rfl) (.cons (.var rfl) (.cons (.var rfl) .nil))))))))) .nil)))))

end Mine
end
section
namespace Mine

/-! ### words for the roads of defs -/
/-- a call hands back this, and leaves that -/
def Says (F : List AV → Mem → KE → Prop) (as : List AV) (μ : Mem) (r : AV) (μ' : Mem) : Prop := ∀ k : KE, k r μ' → F as μ k

section
variable {c : Cx} {σ : Lo} {μ μ' μ₂ : Mem} {W : WS} {j n : Nat} {as : List AV} {T : WT} {B : WS} {Q : KS}
theorem mfun_next (hl : as.length = j) (e : μ'.take μ.length = μ₂) (h : ∀ R : KS, (∀ σ, R .next σ μ') → W c (initS n as) μ R) : Says (mfun W j n c) as μ (.d .none) μ₂ := by subst e; exact fun _ hk => ⟨hl, h _ fun _ => hk⟩
theorem mfun_ret {x : PyData} (hl : as.length = j) (e : μ'.take μ.length = μ₂) (h : ∀ R : KS, (∀ σ, R (.ret (.d x)) σ μ') → W c (initS n as) μ R) : Says (mfun W j n c) as μ (.d x) μ₂ := by subst e; exact fun _ hk => ⟨hl, h _ fun _ => hk⟩
theorem while_mk (I : Nat → Lo → Mem → Prop) (n : Nat) (h0 : I n σ μ) (hs : ∀ n σ μ (R : KS), (∀ j σ μ, j < n → I j σ μ → R .next σ μ) → (∀ j σ μ, j < n → I j σ μ → R .cont σ μ) → (∀ σ μ, Q .next σ μ → R .brk σ μ) → (∀ a σ μ, Q (.ret a) σ μ → R (.ret a) σ μ) → I n σ μ →
    T c σ μ fun v μ => condP v (B c σ μ R) (Q .next σ μ)) : sWhile T B c σ μ Q :=
  ⟨I, ⟨n, h0⟩, fun n σ μ h => hs n σ μ _ (fun j _ _ hj h => ⟨j, hj, h⟩) (fun j _ _ hj h => ⟨j, hj, h⟩) (fun _ _ q => q) (fun _ _ _ q => q) h⟩
theorem for_mk {items : List PyData} (I : List PyData → Lo → Mem → Prop) (h0 : I items σ μ) (hs : ∀ d ds σ μ (R : KS), (∀ σ μ, I ds σ μ → R .next σ μ) → (∀ σ μ, I ds σ μ → R .cont σ μ) → (∀ σ μ, Q .next σ μ → R .brk σ μ) → (∀ a σ μ, Q (.ret a) σ μ → R (.ret a) σ μ) → I (d :: ds) σ μ →
    B c (σ.set n (some (.d d))) μ R) (hf : ∀ σ μ, I [] σ μ → Q .next σ μ) : forP n B c items σ μ Q :=
  ⟨I, h0, fun d ds σ μ h => hs d ds σ μ _ (fun _ _ h => h) (fun _ _ h => h) (fun _ _ q => q) (fun _ _ _ q => q) h, hf⟩
/-- a comprehension's clause whose element is g's -/
theorem comp_map {α : Type} {body : List PyData → Cx → Lo → Mem → (List PyData → Mem → Prop) → Prop} (l : List α) (e g : α → PyData) {out : List PyData} {k : List PyData → Mem → Prop} (h0 : σ.getD n none = none) (hz : out.length + l.length ≤ sizeLine)
    (hs : ∀ a ∈ l, ∀ o k, o.length < sizeLine → k (o ++ [g a]) μ → body o c (σ.set n (some (.d (e a)))) μ k) (q : k (out ++ l.map g) μ) : compP n body c (l.map e) out σ μ k := by
  refine ⟨h0, fun ds o m => ∃ r, ds = r.map e ∧ m = μ ∧ (∀ a ∈ r, a ∈ l) ∧ o ++ r.map g = out ++ l.map g, ⟨l, rfl, rfl, fun _ h => h, rfl⟩, fun d ds o m w => ?_, fun o m w => ?_⟩
  · obtain ⟨r, e1, rfl, hm, h⟩ := w
    cases r with
    | nil => cases e1
    | cons a r =>
      cases e1
      refine hs a (hm a (List.mem_cons_self ..)) o _ ?_ ⟨r, rfl, rfl, fun d' h' => hm d' (List.mem_cons_of_mem _ h'), by rw [← h, List.append_assoc]; rfl⟩
      have := congrArg List.length h
      simp only [List.length_append, List.length_map, List.length_cons] at this
      omega
  · obtain ⟨r, e1, rfl, _, h⟩ := w
    cases r with
    | nil => rw [List.map_nil, List.append_nil] at h; exact h ▸ q
    | cons _ _ => cases e1
end

theorem mem_lt {μ : Mem} {k : Nat} {m : MO} (h : μ[k]? = some m) : k < μ.length := (List.getElem?_eq_some_iff.mp h).1
theorem get_set_self {μ : Mem} {k : Nat} {m m' : MO} (h : μ[k]? = some m) : (μ.set k m')[k]? = some m' := List.getElem?_set_self (mem_lt h)
theorem take_set {μ : Mem} {k : Nat} {m : MO} : (μ.set k m).take μ.length = μ.set k m := List.take_of_length_le (by rw [List.length_set]; exact Nat.le_refl _)
theorem take_all {μ : Mem} : μ.take μ.length = μ := List.take_length

/-! ### elements in order -/
structure Ordy (lt : PyData → PyData → Bool) (E : PyData → Prop) : Prop where
  tup : ∀ x y, E x → E y → ∃ xs ys, x = .tuple xs ∧ y = .tuple ys ∧ tupLt xs ys = some (lt x y)
theorem Ordy.cmp {lt : PyData → PyData → Bool} {E : PyData → Prop} (O : Ordy lt E) {x y : PyData} {μ : Mem} {k : Bool → Prop} (hx : E x) (hy : E y) (q : k (lt x y)) : ltT (.d x) (.d y) μ k := by
  obtain ⟨xs, ys, rfl, rfl, h⟩ := O.tup x y hx hy
  exact ⟨_, h, q⟩

/-- up from a place as long as the parent is greater: the list with a hole, and the hole -/
def sdn (lt : PyData → PyData → Bool) (new : PyData) : Nat → List PyData → Nat → List PyData × Nat
  | 0, xs, pos => (xs, pos)
  | f + 1, xs, pos => if pos = 0 then (xs, 0) else if lt new (xs.getD ((pos - 1) / 2) .none) then sdn lt new f (xs.set pos (xs.getD ((pos - 1) / 2) .none)) ((pos - 1) / 2) else (xs, pos)

theorem half_int {pos : Nat} (h : 0 < pos) : Int.fdiv ((pos : Int) - 1) (2 ^ (1 : Int).toNat) = (((pos - 1) / 2 : Nat) : Int) := by
  have e : ((pos : Int) - 1) = ((pos - 1 : Nat) : Int) := by omega
  rw [e]
  show Int.fdiv _ 2 = _
  rw [Int.fdiv_eq_ediv_of_nonneg _ (by decide)]
  omega

theorem idxOf_nat {i n : Nat} (h : i < n) (hn : n < 2 ^ 31) : idxOf (i : Int) n = some i := by
  unfold idxOf
  rw [if_pos hn, if_pos (by omega), if_pos (by omega)]; simp

theorem idxP.lst {j : Nat} {μ : Mem} {k : PyData → Prop} {xs : List PyData} {n : Nat} (h : μ[j]? = some (MO.lst xs)) (hz : xs.length < 2 ^ 31) (hn : n < xs.length) (q : k (xs.getD n .none)) : idxP (.h j) (.d (.int (n : Nat))) μ k :=
  ⟨xs, h, n, xs.getD n .none, idxOf_nat hn hz, by rw [List.getD_eq_getElem?_getD, List.getElem?_eq_getElem hn]; rfl, q⟩
theorem idxP.dat {μ : Mem} {k : PyData → Prop} {xs : List PyData} {n : Nat} {x : PyData} (hz : xs.length < 2 ^ 31) (hn : xs[n]? = some x) (q : k x) : idxP (.d (.list xs)) (.d (.int (n : Nat))) μ k :=
  ⟨n, x, idxOf_nat (List.getElem?_eq_some_iff.mp hn).1 hz, hn, q⟩
theorem storP.lst {n q : Nat} {xs : List PyData} {x : PyData} {μ : Mem} {k : Mem → Prop} (h : μ[n]? = some (.lst xs)) (h2 : xs.length < 2 ^ 31) (h1 : q < xs.length) (r : k (μ.set n (.lst (xs.set q x)))) : storP (.h n) (.d (.int (q : Nat))) x μ k := ⟨xs, h, q, rfl, h1, h2, r⟩

section
variable {c : Cx} {k : Nat} {x : PyData} {μ : Mem} {lt : PyData → PyData → Bool} {E : PyData → Prop}
theorem getD_all {xs : List PyData} (h : ∀ y ∈ xs, E y) {i : Nat} (hi : i < xs.length) : E (xs.getD i .none) := by
  simp only [List.getD_eq_getElem?_getD, List.getElem?_eq_getElem hi, Option.getD_some]; exact h _ (List.getElem_mem hi)
theorem set_all {xs : List PyData} (h : ∀ y ∈ xs, E y) {i : Nat} {x : PyData} (hx : E x) : ∀ y ∈ xs.set i x, E y := fun y hy => by
  rcases List.mem_or_eq_of_mem_set hy with hy | rfl
  · exact h y hy
  · exact hx

theorem sdn_all (new : PyData) : ∀ f pos (xs : List PyData), (∀ y ∈ xs, E y) → pos < xs.length → (∀ y ∈ (sdn lt new f xs pos).1, E y) ∧ (sdn lt new f xs pos).1.length = xs.length ∧ (sdn lt new f xs pos).2 < xs.length
  | 0, pos, xs, h, hp => ⟨h, rfl, hp⟩
  | f + 1, pos, xs, h, hp => by
    unfold sdn
    split
    · exact ⟨h, rfl, by show 0 < _; omega⟩
    · split
      · have hq : (pos - 1) / 2 < xs.length := by omega
        have := sdn_all new f ((pos - 1) / 2) (xs.set pos (xs.getD ((pos - 1) / 2) .none)) (fun y hy => by
          rcases List.mem_or_eq_of_mem_set hy with hy | rfl
          · exact h y hy
          · simp only [List.getD_eq_getElem?_getD, List.getElem?_eq_getElem hq, Option.getD_some]; exact h _ (List.getElem_mem hq)) (by simpa using hq)
        simpa using this
      · exact ⟨h, rfl, hp⟩

/-- what _siftdown leaves: the new item goes up from pos -/
def siftdown (lt : PyData → PyData → Bool) (xs : List PyData) (pos : Nat) : List PyData :=
  let r := sdn lt (xs.getD pos .none) pos xs pos
  r.1.set r.2 (xs.getD pos .none)


theorem sdn_stop {new : PyData} {xs : List PyData} {f p : Nat} (h : p = 0 ∨ lt new (xs.getD ((p - 1) / 2) .none) = false) : sdn lt new f xs p = (xs, p) := by
  cases f with
  | zero => rfl
  | succ f =>
    unfold sdn
    rcases h with rfl | h
    · exact if_pos rfl
    · by_cases hp : p = 0
      · rw [if_pos hp, hp]
      · rw [if_neg hp, h]; rfl
theorem sem_siftdown {xs : List PyData} {pos : Nat} (O : Ordy lt E) (hE : ∀ y ∈ xs, E y) (hp : pos < xs.length) (hz : xs.length < 2 ^ 31) (hμ : μ[k]? = some (.lst xs)) :
    Says (f_siftdown c) [.h k, .d (.int 0), .d (.int pos)] μ (.d .none) (μ.set k (.lst (siftdown lt xs pos))) := by
  refine mfun_next rfl take_set fun R hR => ?_
  refine idxP.lst hμ hz hp ?_
  have hnew := getD_all hE hp
  unfold siftdown at hR
  generalize xs.getD pos .none = new at hnew hR ⊢
  refine while_mk (fun n σ μ' => ∃ ys p x4 x5, σ = [some (.h k), some (.d (.int 0)), some (.d (.int (p : Nat))), some (.d new), x4, x5] ∧ μ' = μ.set k (.lst ys) ∧ (∀ y ∈ ys, E y) ∧ ys.length = xs.length ∧ p ≤ n ∧ p < ys.length ∧
    sdn lt new pos xs pos = sdn lt new n ys p) pos ⟨xs, pos, _, _, rfl, (set_same hμ).symm, hE, rfl, Nat.le_refl _, hp, rfl⟩ ?_
  rintro n _ _ Z - hc hb - ⟨ys, p, x4, x5, rfl, rfl, hE', hl, hpn, hp', hr⟩
  have hμ' := get_set_self (m' := .lst ys) hμ
  have fin : ∀ x4 x5, p = 0 ∨ lt new (ys.getD ((p - 1) / 2) .none) = false → storP (.h k) (.d (.int (p : Nat))) new (μ.set k (.lst ys)) fun μ' => R .next [some (.h k), some (.d (.int 0)), some (.d (.int (p : Nat))), some (.d new), x4, x5] μ' := fun x4 x5 e => by
    rw [sdn_stop e] at hr
    rw [hr] at hR
    refine storP.lst hμ' (hl ▸ hz) hp' ?_
    rw [List.set_set]
    exact hR _
  refine ⟨fun h0 => ?_, fun h0 => fin _ _ (.inl (by have := of_decide_eq_false h0; omega))⟩
  have h0' : 0 < p := Int.natCast_pos.mp (of_decide_eq_true h0)
  refine And.intro (by decide) ?_
  rw [half_int h0']
  have hq : (p - 1) / 2 < ys.length := by omega
  refine idxP.lst hμ' (hl ▸ hz) hq ?_
  refine O.cmp (μ := μ) hnew (getD_all hE' hq) ⟨fun hlt => ?_, fun hlt => hb _ _ (fin _ _ (.inr hlt))⟩
  refine storP.lst hμ' (hl ▸ hz) hp' ?_
  obtain ⟨m, rfl⟩ : ∃ m, n = m + 1 := ⟨n - 1, by omega⟩
  refine hc m _ _ (Nat.lt_succ_self m) ⟨ys.set p (ys.getD ((p - 1) / 2) .none), (p - 1) / 2, _, _, rfl, List.set_set .., set_all hE' (getD_all hE' hq), by rw [List.length_set]; exact hl, by omega, by rw [List.length_set]; exact hq, ?_⟩
  exact hr.trans ((if_neg (Nat.ne_of_gt h0')).trans (if_pos hlt))
end
end Mine
end
section
namespace Mine
/-- down from a place, along the smaller child, to a leaf: the list with a hole, and the hole -/
def sup (lt : PyData → PyData → Bool) : Nat → List PyData → Nat → List PyData × Nat
  | 0, xs, pos => (xs, pos)
  | f + 1, xs, pos => if 2 * pos + 1 < xs.length then
      (let c := if 2 * pos + 2 < xs.length ∧ lt (xs.getD (2 * pos + 1) .none) (xs.getD (2 * pos + 2) .none) = false then 2 * pos + 2 else 2 * pos + 1
       sup lt f (xs.set pos (xs.getD c .none)) c)
    else (xs, pos)
def child (lt : PyData → PyData → Bool) (xs : List PyData) (pos : Nat) : Nat :=
  if 2 * pos + 2 < xs.length ∧ lt (xs.getD (2 * pos + 1) .none) (xs.getD (2 * pos + 2) .none) = false then 2 * pos + 2 else 2 * pos + 1
theorem sup_succ {lt : PyData → PyData → Bool} {f : Nat} {xs : List PyData} {pos : Nat} : sup lt (f + 1) xs pos = if 2 * pos + 1 < xs.length then sup lt f (xs.set pos (xs.getD (child lt xs pos) .none)) (child lt xs pos) else (xs, pos) := rfl
theorem child_lt {lt : PyData → PyData → Bool} {xs : List PyData} {pos : Nat} (h : 2 * pos + 1 < xs.length) : child lt xs pos < xs.length := by
  unfold child; split
  · next h => exact h.1
  · exact h
theorem child_gt {lt : PyData → PyData → Bool} {xs : List PyData} {pos : Nat} : pos < child lt xs pos := by
  unfold child; split <;> omega


section
variable {c : Cx} {k : Nat} {x : PyData} {μ : Mem} {lt : PyData → PyData → Bool} {E : PyData → Prop}
theorem sup_all : ∀ f pos (xs : List PyData), (∀ y ∈ xs, E y) → pos < xs.length → (∀ y ∈ (sup lt f xs pos).1, E y) ∧ (sup lt f xs pos).1.length = xs.length ∧ (sup lt f xs pos).2 < xs.length
  | 0, pos, xs, h, hp => ⟨h, rfl, hp⟩
  | f + 1, pos, xs, h, hp => by
    rw [sup_succ]
    split
    · next hc =>
      have hq := child_lt (lt := lt) hc
      have := sup_all f (child lt xs pos) (xs.set pos (xs.getD (child lt xs pos) .none)) (set_all h (getD_all h hq)) (by simpa using hq)
      simpa using this
    · exact ⟨h, rfl, hp⟩

/-- what _siftup leaves from the front on -/
def siftup (lt : PyData → PyData → Bool) (xs : List PyData) : List PyData :=
  let r := sup lt xs.length xs 0
  siftdown lt (r.1.set r.2 (xs.getD 0 .none)) r.2

theorem twice {p : Nat} : (2 : Int) * (p : Int) + 1 = ((2 * p + 1 : Nat) : Int) := by omega
theorem twice2 {p : Nat} : ((2 * p + 1 : Nat) : Int) + 1 = ((2 * p + 2 : Nat) : Int) := by omega

/-- what a call of _siftdown does -/
def DownOk (lt : PyData → PyData → Bool) (E : PyData → Prop) (F : List AV → Mem → KE → Prop) : Prop := ∀ {k : Nat} {μ : Mem} {ys : List PyData} {p : Nat}, (∀ y ∈ ys, E y) → p < ys.length → ys.length < 2 ^ 31 → μ[k]? = some (.lst ys) → Says F [.h k, .d (.int 0), .d (.int (p : Nat))] μ (.d .none) (μ.set k (.lst (siftdown lt ys p)))

theorem sem_siftup {F : List AV → Mem → KE → Prop} {xs : List PyData} (O : Ordy lt E) (hE : ∀ y ∈ xs, E y) (hp : 0 < xs.length) (hz : xs.length < 2 ^ 31) (hμ : μ[k]? = some (.lst xs)) (hF : c.fns "_siftdown" = some F) (D : DownOk lt E F) :
    Says (f_siftup c) [.h k, .d (.int 0)] μ (.d .none) (μ.set k (.lst (siftup lt xs))) := by
  refine mfun_next rfl take_set fun R hR => ?_
  refine ⟨xs, hμ, hz, ?_⟩
  refine idxP.lst (n := 0) hμ hz hp ?_
  have hnew := getD_all hE hp
  unfold siftup at hR
  generalize xs.getD 0 .none = new at hnew hR ⊢
  refine And.intro (by decide) ?_
  refine while_mk (fun n σ μ' => ∃ ys p x6, σ = [some (.h k), some (.d (.int (p : Nat))), some (.d (.int (xs.length : Nat))), some (.d (.int 0)), some (.d new), some (.d (.int ((2 * p + 1 : Nat) : Int))), x6] ∧ μ' = μ.set k (.lst ys) ∧ (∀ y ∈ ys, E y) ∧ ys.length = xs.length ∧ xs.length ≤ p + n ∧ p < ys.length ∧
    sup lt xs.length xs 0 = sup lt n ys p) xs.length ⟨xs, 0, _, rfl, (set_same hμ).symm, hE, rfl, by omega, hp, rfl⟩ ?_
  rintro n _ _ Z hn - - - ⟨ys, p, x6, rfl, rfl, hE', hl, hpn, hp', hr⟩
  have hμ' := get_set_self (m' := .lst ys) hμ
  have hz' : ys.length < 2 ^ 31 := hl ▸ hz
  refine ⟨fun h0 => ?_, fun h0 => ?_⟩
  · have hc : 2 * p + 1 < ys.length := by have := of_decide_eq_true h0; omega
    have hq := child_lt (lt := lt) hc
    have next : ∀ σ6, ((idxP (.h k) (.d (.int (child lt ys p : Nat))) (μ.set k (.lst ys)) fun d => storP (.h k) (.d (.int (p : Nat))) d (μ.set k (.lst ys)) fun μ' => intP (.d (.int 2)) fun x => intP (.d (.int (child lt ys p : Nat))) fun y => x.natAbs < 2 ^ 32 ∧
        Z .next [some (.h k), some (.d (.int (child lt ys p : Nat))), some (.d (.int (xs.length : Nat))), some (.d (.int 0)), some (.d new), some (.d (.int (x * y + 1))), σ6] μ')) := fun σ6 => by
      refine idxP.lst hμ' hz' hq ?_
      refine storP.lst hμ' hz' hp' ⟨by decide, ?_⟩
      obtain ⟨m, rfl⟩ : ∃ m, n = m + 1 := ⟨n - 1, by omega⟩
      have hg := child_gt (lt := lt) (xs := ys) (pos := p)
      rw [twice]
      refine hn m _ _ (Nat.lt_succ_self m) ⟨ys.set p (ys.getD (child lt ys p) .none), child lt ys p, _, rfl, List.set_set .., set_all hE' (getD_all hE' hq), by rw [List.length_set]; exact hl, by omega, by rw [List.length_set]; exact hq, ?_⟩
      exact hr.trans (sup_succ.trans (if_pos hc))
    refine ⟨fun h1 => ?_, fun h1 => ?_⟩
    · have hr2 : 2 * p + 2 < ys.length := by have := of_decide_eq_true h1; omega
      refine idxP.lst hμ' hz' hc ?_
      rw [twice2]
      refine idxP.lst hμ' hz' hr2 ?_
      refine O.cmp (μ := μ) (getD_all hE' hc) (getD_all hE' hr2) ⟨fun hlt => ?_, fun hlt => ?_⟩
      · have e2 : child lt ys p = 2 * p + 2 := if_pos ⟨hr2, (Bool.not_eq_true' _).mp hlt⟩
        rw [e2] at next; exact next _
      · have e2 : child lt ys p = 2 * p + 1 := if_neg fun h => by rw [h.2] at hlt; cases hlt
        rw [e2] at next; exact next _
    · have e2 : child lt ys p = 2 * p + 1 := if_neg fun h => by have := of_decide_eq_false h1; omega
      rw [e2] at next; exact condP.f rfl (next _)
  · have e : sup lt n ys p = (ys, p) := by
      cases n with
      | zero => rfl
      | succ n => exact if_neg fun h => by have := of_decide_eq_false h0; omega
    rw [hr, e] at hR
    refine storP.lst hμ' hz' hp' ?_
    rw [List.set_set]
    refine ⟨F, hF, D (set_all hE' hnew) (by rw [List.length_set]; exact hp') (by rw [List.length_set]; exact hz') (get_set_self hμ) _ ?_⟩
    rw [List.set_set]
    exact hR _

def hpush (lt : PyData → PyData → Bool) (xs : List PyData) (x : PyData) : List PyData := siftdown lt (xs ++ [x]) xs.length
def hpopL (lt : PyData → PyData → Bool) (xs : List PyData) : List PyData := if xs.length ≤ 1 then [] else siftup lt (xs.dropLast.set 0 (xs.getLastD .none))


theorem sem_heappush {F : List AV → Mem → KE → Prop} {xs : List PyData} (hE : ∀ y ∈ xs, E y) (hx : E x) (hz : xs.length < 4000) (hμ : μ[k]? = some (.lst xs)) (hF : c.fns "_siftdown" = some F) (D : DownOk lt E F) :
    Says (f_heappush c) [.h k, .d x] μ (.d .none) (μ.set k (.lst (hpush lt xs x))) := by
  have hs : sizeLine = 2 ^ 24 := rfl
  refine mfun_next rfl take_set fun R hR => ?_
  refine ⟨⟨xs, hμ, trivial⟩, xs, hμ, by omega, ?_⟩
  have hset := get_set_self (m' := .lst (xs ++ [x])) hμ
  have hl : (xs ++ [x]).length = xs.length + 1 := List.length_append
  refine ⟨F, hF, xs ++ [x], hset, by omega, ?_⟩
  have e1 : (((xs ++ [x]).length : Nat) : Int) - 1 = (xs.length : Int) := by omega
  show F [.h k, .d (.int 0), .d (.int (((xs ++ [x]).length : Nat) - 1))] _ _
  rw [e1]
  refine D (fun y hy => ?_) (by omega) (by omega) hset _ ?_
  · rcases List.mem_append.mp hy with hy | hy
    · exact hE y hy
    · exact List.mem_singleton.mp hy ▸ hx
  · rw [List.set_set]; exact hR _

theorem sem_heappop1 {z : PyData} (hμ : μ[k]? = some (.lst [z])) : Says (f_heappop c) [.h k] μ (.d z) (μ.set k (.lst [])) :=
  mfun_ret rfl take_set fun R hR => ⟨⟨_, hμ, trivial⟩, [z], hμ, z, rfl, by show 1 < sizeLine; decide, [], get_set_self hμ, by decide, condP.f rfl (hR _)⟩

/-- what a call of _siftup does -/
def UpOkF (lt : PyData → PyData → Bool) (E : PyData → Prop) (F : List AV → Mem → KE → Prop) : Prop := ∀ {k : Nat} {μ : Mem} {ys : List PyData}, (∀ y ∈ ys, E y) → 0 < ys.length → ys.length < 2 ^ 31 → μ[k]? = some (.lst ys) → Says F [.h k, .d (.int 0)] μ (.d .none) (μ.set k (.lst (siftup lt ys)))
theorem sem_heappop2 {F : List AV → Mem → KE → Prop} {ys : List PyData} {z : PyData} (hE : ∀ y ∈ ys, E y) (hx : E z) (h0 : 0 < ys.length) (hz : ys.length < 4000) (hμ : μ[k]? = some (.lst (ys ++ [z]))) (hF : c.fns "_siftup" = some F) (D : UpOkF lt E F) :
    Says (f_heappop c) [.h k] μ (.d (ys.getD 0 .none)) (μ.set k (.lst (siftup lt (ys.set 0 z)))) := by
  have hs : sizeLine = 2 ^ 24 := rfl
  have hset := get_set_self (m' := .lst ys) hμ
  have hl : (ys ++ [z]).length = ys.length + 1 := List.length_append
  refine mfun_ret rfl take_set fun R hR => ?_
  refine ⟨⟨_, hμ, trivial⟩, ys ++ [z], hμ, z, List.getLast?_concat, by omega, ?_⟩
  rw [List.dropLast_concat]
  refine ⟨ys, hset, by omega, fun _ => ?_, fun h => absurd (beq_iff_eq.mp ((Bool.not_eq_false' _).mp h)) (Nat.ne_of_gt h0)⟩
  refine idxP.lst (n := 0) hset (by omega) h0 ?_
  refine storP.lst (q := 0) hset (by omega) h0 ?_
  rw [List.set_set]
  refine ⟨F, hF, D (set_all hE hx) (by rw [List.length_set]; exact h0) (by rw [List.length_set]; omega) (get_set_self hμ) _ ?_⟩
  rw [List.set_set]; exact hR _
end
end Mine
end
section
open PySem
namespace Mine

/-! plain: what the heap's functions leave is a heap of the same items -/
structure Lin (lt : PyData → PyData → Bool) : Prop where
  asymm : ∀ x y, lt x y = true → lt y x = false
  trans : ∀ x y z, lt y x = false → lt z y = false → lt z x = false

abbrev gt' (xs : List PyData) (i : Nat) : PyData := xs.getD i .none
theorem gt_set {xs : List PyData} {i j : Nat} {a : PyData} (h : i < xs.length) : gt' (xs.set i a) j = if j = i then a else gt' xs j := by
  unfold gt'
  simp only [List.getD_eq_getElem?_getD]
  by_cases hj : j = i
  · subst hj; rw [List.getElem?_set_self h, if_pos rfl]; rfl
  · rw [List.getElem?_set_ne (Ne.symm hj), if_neg hj]

section
variable {lt : PyData → PyData → Bool}

def IsHeap (lt : PyData → PyData → Bool) (xs : List PyData) : Prop := ∀ i, 0 < i → i < xs.length → lt (gt' xs i) (gt' xs ((i - 1) / 2)) = false

theorem swap_cons {a b : PyData} : ∀ {xs : List PyData} {j : Nat}, j < xs.length → (a :: xs.set j b).Perm (b :: xs.set j a)
  | [], _, h => by simp at h
  | y :: ys, 0, _ => by simp only [List.set_cons_zero]; exact List.Perm.swap _ _ _
  | y :: ys, j + 1, h => by
    simp only [List.set_cons_succ]
    exact (List.Perm.swap _ _ _).trans (((swap_cons (xs := ys) (j := j) (by simpa using h)).cons y).trans (List.Perm.swap _ _ _))
/-- two places' items changed over -/
theorem swap_perm : ∀ {xs : List PyData} {i j : Nat} {a b : PyData}, i < xs.length → j < xs.length → i ≠ j → ((xs.set i a).set j b).Perm ((xs.set i b).set j a)
  | [], _, _, _, _, h, _, _ => by simp at h
  | x :: xs, 0, j + 1, a, b, _, hj, _ => by
    simp only [List.set_cons_zero, List.set_cons_succ]
    exact swap_cons (by simpa using hj)
  | x :: xs, i + 1, 0, a, b, hi, _, _ => by
    simp only [List.set_cons_zero, List.set_cons_succ]
    exact swap_cons (by simpa using hi)
  | x :: xs, 0, 0, _, _, _, _, h => absurd rfl h
  | x :: xs, i + 1, j + 1, a, b, hi, hj, h => by
    simp only [List.set_cons_succ]
    exact (swap_perm (by simpa using hi) (by simpa using hj) (by omega)).cons x

theorem set_same' {xs : List PyData} {i : Nat} (h : i < xs.length) : xs.set i (gt' xs i) = xs := by
  apply List.ext_getElem?
  intro j
  by_cases hj : i = j
  · subst hj; rw [List.getElem?_set_self h]; simp [gt', h]
  · rw [List.getElem?_set_ne hj]

theorem hole_perm {xs : List PyData} {i j : Nat} {new : PyData} (hi : i < xs.length) (hj : j < xs.length) (h : i ≠ j) : ((xs.set i (gt' xs j)).set j new).Perm (xs.set i new) := by
  have e : xs.set i new = (xs.set i new).set j (gt' xs j) := by
    apply List.ext_getElem?
    intro m
    by_cases hm : j = m
    · subst hm; rw [List.getElem?_set_self (by simpa using hj), List.getElem?_set_ne h]; simp [gt', hj]
    · rw [List.getElem?_set_ne hm]
  rw [e]
  exact swap_perm hi hj h

/-- all in order but at the hole: above it and below it the order holds -/
structure UpOk (lt : PyData → PyData → Bool) (new : PyData) (xs : List PyData) (pos : Nat) : Prop where
  ord : ∀ i, 0 < i → i < xs.length → i ≠ pos → lt (gt' (xs.set pos new) i) (gt' (xs.set pos new) ((i - 1) / 2)) = false
  kid : ∀ i, 0 < i → i < xs.length → (i - 1) / 2 = pos → 0 < pos → lt (gt' (xs.set pos new) i) (gt' (xs.set pos new) ((pos - 1) / 2)) = false

theorem sdn_heap (L : Lin lt) (new : PyData) : ∀ f pos (xs : List PyData), pos ≤ f → pos < xs.length → UpOk lt new xs pos →
    IsHeap lt ((sdn lt new f xs pos).1.set (sdn lt new f xs pos).2 new) ∧ ((sdn lt new f xs pos).1.set (sdn lt new f xs pos).2 new).Perm (xs.set pos new)
  | 0, pos, xs, h, hp, U => by
    have : pos = 0 := by omega
    subst this
    exact ⟨fun i h0 hi => U.ord i h0 (by simpa [sdn] using hi) (by omega), .refl _⟩
  | f + 1, pos, xs, h, hp, U => by
    unfold sdn
    by_cases h0 : pos = 0
    · subst h0
      rw [if_pos rfl]
      exact ⟨fun i h0 hi => U.ord i h0 (by simpa using hi) (by omega), .refl _⟩
    · rw [if_neg h0]
      have hq : (pos - 1) / 2 < xs.length := by omega
      have hne : (pos - 1) / 2 ≠ pos := by omega
      cases hl : lt new (xs.getD ((pos - 1) / 2) .none)
      · simp only [Bool.false_eq_true, if_false]
        refine ⟨fun i hi0 hi => ?_, .refl _⟩
        by_cases hip : i = pos
        · subst hip
          rw [gt_set hp, gt_set hp, if_pos rfl, if_neg hne]; exact hl
        · exact U.ord i hi0 (by simpa using hi) hip
      · simp only [if_true]
        have U' : UpOk lt new (xs.set pos (gt' xs ((pos - 1) / 2))) ((pos - 1) / 2) := by
          have hlen : (xs.set pos (gt' xs ((pos - 1) / 2))).length = xs.length := by simp
          have key : ∀ j, gt' ((xs.set pos (gt' xs ((pos - 1) / 2))).set ((pos - 1) / 2) new) j = if j = (pos - 1) / 2 then new else if j = pos then gt' xs ((pos - 1) / 2) else gt' xs j := fun j => by
            rw [gt_set (by simpa using hq), gt_set hp]
          have key0 : ∀ j, gt' (xs.set pos new) j = if j = pos then new else gt' xs j := fun j => gt_set hp
          have hpn : lt (gt' xs ((pos - 1) / 2)) new = false := L.asymm _ _ hl
          refine ⟨fun i hi0 hi hne' => ?_, fun i hi0 hi hpar hpos => ?_⟩
          · rw [hlen] at hi
            rw [key, key, if_neg hne']
            by_cases hip : i = pos
            · subst hip
              rw [if_pos rfl, if_pos rfl]; exact hpn
            · rw [if_neg hip]
              have o := U.ord i hi0 hi hip
              rw [key0, key0, if_neg hip] at o
              by_cases h1 : (i - 1) / 2 = (pos - 1) / 2
              · rw [if_pos h1]
                rw [h1, if_neg hne] at o
                exact L.trans _ _ _ hpn o
              · rw [if_neg h1]
                by_cases h2 : (i - 1) / 2 = pos
                · rw [if_pos h2]
                  have k := U.kid i hi0 hi h2 (by omega)
                  rw [key0, key0, if_neg hip, if_neg hne] at k
                  exact k
                · rw [if_neg h2]
                  rw [if_neg h2] at o
                  exact o
          · rw [hlen] at hi
            have hpp : ((pos - 1) / 2 - 1) / 2 ≠ (pos - 1) / 2 := by omega
            have hpp2 : ((pos - 1) / 2 - 1) / 2 ≠ pos := by omega
            have o1 := U.ord ((pos - 1) / 2) hpos hq hne
            rw [key0, key0, if_neg hne, if_neg hpp2] at o1
            rw [key, key, if_neg hpp, if_neg hpp2]
            have hii : i ≠ (pos - 1) / 2 := by omega
            rw [if_neg hii]
            by_cases hip : i = pos
            · rw [if_pos hip]; exact o1
            · rw [if_neg hip]
              have o := U.ord i hi0 hi hip
              rw [key0, key0, if_neg hip, hpar, if_neg hne] at o
              exact L.trans _ _ _ o1 o
        obtain ⟨a1, a2⟩ := sdn_heap L new f ((pos - 1) / 2) (xs.set pos (gt' xs ((pos - 1) / 2))) (by omega) (by simpa using hq) U'
        exact ⟨a1, a2.trans (hole_perm hp hq (Ne.symm hne))⟩

theorem hpush_heap (L : Lin lt) {xs : List PyData} {x : PyData} (h : IsHeap lt xs) : IsHeap lt (hpush lt xs x) ∧ (hpush lt xs x).Perm (x :: xs) := by
  have hx : (xs ++ [x]).getD xs.length .none = x := by simp
  have hs : (xs ++ [x]).set xs.length x = xs ++ [x] := by
    have := set_same' (xs := xs ++ [x]) (i := xs.length) (by simp)
    unfold gt' at this; rw [hx] at this; exact this
  have hlow : ∀ i, i < xs.length → gt' (xs ++ [x]) i = gt' xs i := fun i hi => by
    unfold gt'; simp only [List.getD_eq_getElem?_getD, List.getElem?_append_left hi]
  have U : UpOk lt x (xs ++ [x]) xs.length := by
    refine ⟨fun i h0 hi hne => ?_, fun i h0 hi hp hpos => ?_⟩
    · rw [hs]
      have hi' : i < xs.length := by simp at hi; omega
      rw [hlow i hi', hlow _ (by omega)]
      exact h i h0 hi'
    · simp at hi; omega
  have := sdn_heap L x xs.length xs.length (xs ++ [x]) (Nat.le_refl _) (by simp) U
  unfold hpush siftdown
  simp only [hx]
  rw [hs] at this
  exact ⟨this.1, this.2.trans (List.perm_append_singleton _ _)⟩

/-- a heap with a hole: the order holds where the hole has no part -/
structure DnOk (lt : PyData → PyData → Bool) (xs : List PyData) (pos : Nat) : Prop where
  ord : ∀ i, 0 < i → i < xs.length → i ≠ pos → (i - 1) / 2 ≠ pos → lt (gt' xs i) (gt' xs ((i - 1) / 2)) = false
  kid : ∀ i, 0 < i → i < xs.length → (i - 1) / 2 = pos → 0 < pos → lt (gt' xs i) (gt' xs ((pos - 1) / 2)) = false

theorem sup_heap (L : Lin lt) (new : PyData) : ∀ f pos (xs : List PyData), xs.length ≤ pos + f → pos < xs.length → DnOk lt xs pos →
    DnOk lt (sup lt f xs pos).1 (sup lt f xs pos).2 ∧ (sup lt f xs pos).1.length = xs.length ∧ (sup lt f xs pos).2 < xs.length ∧ xs.length ≤ 2 * (sup lt f xs pos).2 + 1 ∧ ((sup lt f xs pos).1.set (sup lt f xs pos).2 new).Perm (xs.set pos new)
  | 0, pos, xs, h, hp, D => by omega
  | f + 1, pos, xs, h, hp, D => by
    rw [sup_succ]
    by_cases hc : 2 * pos + 1 < xs.length
    · rw [if_pos hc]
      have hq := child_lt (lt := lt) hc
      have hg := child_gt (lt := lt) (xs := xs) (pos := pos)
      have hpar : (child lt xs pos - 1) / 2 = pos := by unfold child; split <;> omega
      have key : ∀ j, gt' (xs.set pos (gt' xs (child lt xs pos))) j = if j = pos then gt' xs (child lt xs pos) else gt' xs j := fun j => gt_set hp
      have least : ∀ i, 0 < i → i < xs.length → (i - 1) / 2 = pos → i ≠ child lt xs pos → lt (gt' xs i) (gt' xs (child lt xs pos)) = false := fun i h0 hi hpi hne => by
        unfold child at hne ⊢
        split at hne
        · next hh =>
          rw [if_pos hh]
          have : i = 2 * pos + 1 := by omega
          rw [this]; exact hh.2
        · next hh =>
          rw [if_neg hh]
          have e2 : i = 2 * pos + 2 := by omega
          cases hlt : lt (xs.getD (2 * pos + 1) .none) (xs.getD (2 * pos + 2) .none)
          · exact absurd ⟨by omega, hlt⟩ hh
          · rw [e2]; exact L.asymm _ _ hlt
      have D' : DnOk lt (xs.set pos (gt' xs (child lt xs pos))) (child lt xs pos) := by
        refine ⟨fun i h0 hi h1 h2 => ?_, fun i h0 hi h1 h2 => ?_⟩
        · simp only [List.length_set] at hi
          rw [key, key]
          by_cases hip : i = pos
          · subst hip
            rw [if_pos rfl, if_neg (by omega)]
            exact D.kid (child lt xs i) (by omega) hq hpar h0
          · rw [if_neg hip]
            by_cases hpp : (i - 1) / 2 = pos
            · rw [if_pos hpp]; exact least i h0 hi hpp h1
            · rw [if_neg hpp]; exact D.ord i h0 hi hip hpp
        · simp only [List.length_set] at hi
          rw [key, key, hpar, if_pos rfl, if_neg (by omega)]
          have := D.ord i h0 hi (by omega) (by omega)
          rw [h1] at this; exact this
      obtain ⟨a1, a2, a3, a4, a5⟩ := sup_heap L new f (child lt xs pos) (xs.set pos (gt' xs (child lt xs pos))) (by simp; omega) (by simpa using hq) D'
      simp only [List.length_set] at a2 a3 a4
      exact ⟨a1, a2, a3, a4, a5.trans (hole_perm hp hq (by omega))⟩
    · rw [if_neg hc]
      exact ⟨D, rfl, hp, by show xs.length ≤ 2 * pos + 1; omega, .refl _⟩

theorem siftup_heap (L : Lin lt) {xs : List PyData} (hn : 0 < xs.length) (D : DnOk lt xs 0) : IsHeap lt (siftup lt xs) ∧ (siftup lt xs).Perm xs := by
  obtain ⟨a1, a2, a3, a4, a5⟩ := sup_heap L (gt' xs 0) xs.length 0 xs (by omega) hn D
  unfold siftup siftdown
  simp only
  generalize hr : sup lt xs.length xs 0 = r at *
  have hv : (r.1.set r.2 (xs.getD 0 .none)).getD r.2 .none = xs.getD 0 .none := by
    have := gt_set (xs := r.1) (i := r.2) (j := r.2) (a := xs.getD 0 .none) (by omega)
    rw [if_pos rfl] at this; exact this
  have hss : (r.1.set r.2 (xs.getD 0 .none)).set r.2 (xs.getD 0 .none) = r.1.set r.2 (xs.getD 0 .none) := by rw [List.set_set]
  have U : UpOk lt (xs.getD 0 .none) (r.1.set r.2 (xs.getD 0 .none)) r.2 := by
    rw [show xs.getD 0 .none = gt' xs 0 from rfl]
    refine ⟨fun i h0 hi hne => ?_, fun i h0 hi hp hpos => ?_⟩
    · simp only [List.length_set] at hi
      rw [List.set_set, gt_set (by omega), gt_set (by omega), if_neg hne, if_neg (by omega)]
      exact a1.ord i h0 hi hne (by omega)
    · simp only [List.length_set] at hi; omega
  have := sdn_heap L (xs.getD 0 .none) r.2 r.2 (r.1.set r.2 (xs.getD 0 .none)) (Nat.le_refl _) (by simp; omega) U
  rw [hss] at this
  rw [hv]
  refine ⟨this.1, this.2.trans (a5.trans ?_)⟩
  rw [set_same' hn]

theorem heap_least (L : Lin lt) {xs : List PyData} (h : IsHeap lt xs) : ∀ i, i < xs.length → lt (gt' xs i) (gt' xs 0) = false := by
  intro i
  induction i using Nat.strongRecOn with
  | _ i ih =>
    intro hi
    by_cases h0 : i = 0
    · subst h0
      cases hl : lt (gt' xs 0) (gt' xs 0)
      · rfl
      · have := L.asymm _ _ hl; rw [hl] at this; cases this
    · exact L.trans _ _ _ (ih ((i - 1) / 2) (by omega) (by omega)) (h i (by omega) hi)

/-- what heappop takes and leaves -/
theorem pop_heap (L : Lin lt) {ys : List PyData} {z : PyData} (h0 : 0 < ys.length) (h : IsHeap lt (ys ++ [z])) :
    IsHeap lt (siftup lt (ys.set 0 z)) ∧ (siftup lt (ys.set 0 z) ++ [gt' ys 0]).Perm (ys ++ [z]) ∧ ∀ x ∈ ys ++ [z], lt x (gt' ys 0) = false := by
  have hlow : ∀ i, i < ys.length → gt' (ys ++ [z]) i = gt' ys i := fun i hi => by
    unfold gt'; simp only [List.getD_eq_getElem?_getD, List.getElem?_append_left hi]
  have D : DnOk lt (ys.set 0 z) 0 := by
    refine ⟨fun i hi0 hi hne hpar => ?_, fun i hi0 hi hp hpos => by omega⟩
    simp only [List.length_set] at hi
    rw [gt_set h0, gt_set h0, if_neg hne, if_neg hpar]
    have := h i hi0 (by simp; omega)
    rw [hlow i hi, hlow _ (by omega)] at this
    exact this
  obtain ⟨a1, a2⟩ := siftup_heap L (by simpa using h0) D
  refine ⟨a1, ?_, fun x hx => ?_⟩
  · refine (a2.append_right _).trans ?_
    have e : ys = ys.set 0 (gt' ys 0) := (set_same' h0).symm
    have p1 : (ys.set 0 z ++ [gt' ys 0]).Perm (ys.set 0 (gt' ys 0) ++ [z]) := by
      cases ys with
      | nil => simp at h0
      | cons y ys =>
        simp only [List.set_cons_zero, List.cons_append]
        exact (List.perm_append_singleton _ _).cons _ |>.trans ((List.Perm.swap _ _ _).trans ((List.perm_append_singleton _ _).symm.cons _))
    rw [← e] at p1
    exact p1
  · obtain ⟨i, hi, rfl⟩ := List.getElem_of_mem hx
    have := heap_least L h i hi
    rw [hlow 0 h0] at this
    have e : gt' (ys ++ [z]) i = (ys ++ [z])[i] := by
      unfold gt'
      rw [List.getD_eq_getElem?_getD, List.getElem?_eq_getElem hi]; rfl
    rw [e] at this; exact this
end
end Mine
end
section
namespace Mine
def emFor (got : Str) (e : Int) : List Str → Int → Bool
  | [], _ => true
  | w :: ws, s => if find4 got w s e < 0 then false else emFor got e ws (find4 got w s e + (w.length : Int))

/-- the pieces' words are sought one after the other -/
def emIn (got : Str) (ws : List Str) (s e : Int) : Bool := if e < s then false else emFor got e ws s
def emEnd (got : Str) (ws : List Str) (s : Int) : Bool :=
  let w := ws.getLastD ⟨#[]⟩
  if w.length = 0 then emIn got ws s got.length
  else if Txt.endswith got w then emIn got ws.dropLast s (got.length - w.length) else false
def emAll (got : Str) (ws : List Str) : Bool :=
  let w := ws.headD ⟨#[]⟩
  if w.length = 0 then emEnd got ws 0
  else if Txt.startswith got w then emEnd got ws.tail w.length else false
def dots : Str := Str.ofString "..."
def emB (want got : Str) : Bool := if (Builtin.Str.occurrences want dots 0 want.length 1).isEmpty then PyData.eqv (.str want) (.str got) else emAll got (Txt.split want dots)


theorem mfun_retQ {c : Cx} {μ : Mem} {W : WS} {j n : Nat} {as : List AV} {x : PyData} (hl : as.length = j) (h : ∀ R : KS, (∀ σ μ', μ'.take μ.length = μ → R (.ret (.d x)) σ μ') → W c (initS n as) μ R) : Says (mfun W j n c) as μ (.d x) μ := fun k hk => ⟨hl, h _ fun _ μ' e => by
  show k _ (μ'.take μ.length)
  rw [e]; exact hk⟩
theorem lst_new {μ : Mem} {m : MO} : (μ ++ [m])[μ.length]? = some m := List.getElem?_concat_length
theorem set_new {μ : Mem} {m m' : MO} : (μ ++ [m]).set μ.length m' = μ ++ [m'] := by simp
theorem take_new {μ : Mem} {m : MO} : (μ ++ [m]).take μ.length = μ := by simp

section
variable {c : Cx} {μ : Mem}
theorem idx_last {V : List Str} (h : 0 < V.length) (hz : V.length < 2 ^ 31) : ((idxOf (-1) (V.map PyData.str).length).bind fun x => (V.map PyData.str)[x]?) = some (.str (V.getLastD ⟨#[]⟩)) := by
  have e : idxOf (-1) (V.map PyData.str).length = some (V.length - 1) := by
    unfold idxOf
    rw [if_pos (by simpa using hz), if_neg (by decide), if_pos (by simp; omega)]
    simp; omega
  rw [e]
  show (V.map PyData.str)[V.length - 1]? = _
  rw [List.getElem?_map, List.getLastD_eq_getLast?, List.getLast?_eq_getElem?]
  have : V.length - 1 < V.length := by omega
  rw [List.getElem?_eq_getElem this]; rfl
theorem idx_last' {V : List Str} (h : 0 < V.length) (hz : V.length < 2 ^ 31) : idxOf (-1) V.length = some (V.length - 1) := by
  unfold idxOf
  rw [if_pos hz, if_neg (by decide), if_pos (by omega)]
  simp; omega
theorem last_mem {V : List Str} {d : Str} (h : 0 < V.length) : V.getLastD d ∈ V := by
  have hne : V ≠ [] := fun e => by rw [e] at h; simp at h
  rw [List.getLastD_eq_getLast?, List.getLast?_eq_some_getLast hne]
  exact List.getLast_mem hne
theorem erase_last {V : List Str} : (V.map PyData.str).eraseIdx (V.length - 1) = V.dropLast.map .str := by
  rw [show V.length - 1 = (V.map PyData.str).length - 1 by simp, List.eraseIdx_length_sub_one, List.map_dropLast]


theorem dots_len : dots.length = 3 := by decide
theorem len_map {V : List Str} : (V.map PyData.str).length = V.length := List.length_map ..

def w_em2 : WS := sBlk [(sAsg 5 (wIdx (wVar 2) (wNeg (wDat (.int 1))))), (sIf (tTru trS (wVar 5)) (sBlk [(sIf (tTru trB (wMeth kStr pEnds (wVar 1) [(wVar 5)])) (sBlk [(sAug (fun a b => a - b) 4 (wB1 lenS (wVar 5))), (sDel (wVar 2) (wNeg (wDat (.int 1))))]) (sBlk [(sRet (wDat (.bool false)))]))]) (sBlk [])), (sIf (tCmp (wCmp gtI (wVar 3) (wVar 4))) (sBlk [(sRet (wDat (.bool false)))]) (sBlk [])), (sFor 5 (iItems (wVar 2)) (sBlk [(sAsg 3 (wMeth kStr pFind (wVar 1) [(wVar 5), (wVar 3), (wVar 4)])), (sIf (tCmp (wCmp ltI (wVar 3) (wDat (.int 0)))) (sBlk [(sRet (wDat (.bool false)))]) (sBlk [])), (sAug (fun a b => a + b) 3 (wB1 lenS (wVar 5)))])), (sRet (wDat (.bool true)))]
def w_em3 : WS := sBlk [(sIf (tCmp (wCmp gtI (wVar 3) (wVar 4))) (sBlk [(sRet (wDat (.bool false)))]) (sBlk [])), (sFor 5 (iItems (wVar 2)) (sBlk [(sAsg 3 (wMeth kStr pFind (wVar 1) [(wVar 5), (wVar 3), (wVar 4)])), (sIf (tCmp (wCmp ltI (wVar 3) (wDat (.int 0)))) (sBlk [(sRet (wDat (.bool false)))]) (sBlk [])), (sAug (fun a b => a + b) 3 (wB1 lenS (wVar 5)))])), (sRet (wDat (.bool true)))]

theorem em3_ok {R : KS} {want got x5 : AV} {g : Str} {s e : Int} {V : List Str} (eg : got = .d (.str g)) (hv : ∀ w ∈ V, w.length < 2 ^ 31) (hR : ∀ σ μ', μ'.take μ.length = μ → R (.ret (.d (.bool (emIn g V s e)))) σ μ') :
    w_em3 c [some want, some got, some (.h μ.length), some (.d (.int s)), some (.d (.int e)), some x5] (μ ++ [.lst (V.map .str)]) R := by
  subst eg
  unfold emIn at hR
  refine ⟨fun h => ?_, fun h => ?_⟩
  · rw [if_pos (of_decide_eq_true h)] at hR
    exact hR _ _ take_new
  rw [if_neg (of_decide_eq_false h)] at hR
  refine ⟨_, lst_new, ?_⟩
  rw [set_new]
  refine for_mk (fun ds σ μ' => ∃ U s x, ds = U.map .str ∧ (∀ w ∈ U, w.length < 2 ^ 31) ∧ σ = [some want, some (.d (.str g)), some (.h μ.length), some (.d (.int s)), some (.d (.int e)), some x] ∧ μ' = μ ++ [.dead] ∧ ∀ σ μ', μ'.take μ.length = μ → R (.ret (.d (.bool (emFor g e U s)))) σ μ') ⟨V, s, x5, rfl, hv, rfl, rfl, hR⟩ ?_ ?_
  · rintro d ds _ _ Z hn - - hr ⟨U, s, x, e1, hU, rfl, rfl, hR⟩
    cases U with
    | nil => cases e1
    | cons w U =>
      cases e1
      unfold emFor at hR
      refine ⟨trivial, ⟨fun h => ?_, fun h => ?_⟩⟩
      · rw [if_pos (of_decide_eq_true h)] at hR
        exact hr _ _ _ (hR _ _ take_new)
      · rw [if_neg (of_decide_eq_false h)] at hR
        exact ⟨hU w List.mem_cons_self, hn _ _ ⟨U, _, _, rfl, fun w hw => hU w (List.mem_cons_of_mem _ hw), rfl, rfl, hR⟩⟩
  · rintro _ _ ⟨U, s, x, e1, _, rfl, rfl, hR⟩
    cases U with
    | nil => exact hR _ _ take_new
    | cons _ _ => cases e1

theorem em2_ok {R : KS} {want got x5 : AV} {g : Str} {s : Nat} {V : List Str} (eg : got = .d (.str g)) (hg : g.length < 2 ^ 31) (h0 : 0 < V.length) (hz : V.length < 2 ^ 20) (hv : ∀ w ∈ V, w.length < 2 ^ 31) (hR : ∀ σ μ', μ'.take μ.length = μ → R (.ret (.d (.bool (emEnd g V s)))) σ μ') :
    w_em2 c [some want, some got, some (.h μ.length), some (.d (.int (s : Nat))), some (.d (.int (g.length : Nat))), some x5] (μ ++ [.lst (V.map .str)]) R := by
  subst eg
  have hline : sizeLine = 2 ^ 24 := rfl
  have hz' : V.length < 2 ^ 31 := by omega
  have e1 := Option.bind_eq_some_iff.mp (idx_last h0 hz')
  obtain ⟨j, e1, e2⟩ := e1
  have hl0 : (V.getLastD ⟨#[]⟩).length < 2 ^ 31 := hv _ (last_mem h0)
  unfold emEnd at hR
  refine ⟨_, lst_new, j, _, e1, e2, ?_⟩
  generalize V.getLastD ⟨#[]⟩ = w at hR hl0 ⊢
  refine And.intro hl0 ⟨fun h => ?_, fun h => ?_⟩
  · have hb : w.length ≠ 0 := bne_iff_ne.mp h
    simp only [if_neg hb] at hR
    refine ⟨trivial, ⟨fun h => ?_, fun h => ?_⟩⟩
    · rw [if_pos h] at hR
      refine ⟨hl0, _, lst_new, V.length - 1, ?_, ?_, ?_⟩
      · rw [len_map]; exact idx_last' h0 hz'
      · rw [len_map]; omega
      · rw [set_new, erase_last]
        exact em3_ok (V := V.dropLast) rfl (fun w hw => hv w (List.dropLast_subset V hw)) hR
    · rw [if_neg (by rw [h]; decide)] at hR
      exact hR _ _ take_new
  · have hb : w.length = 0 := by simpa using h
    simp only [if_pos hb] at hR
    exact em3_ok rfl hv hR

theorem sem_ellipsis {want got : Str} {w0 w1 : Str} {ws : List Str} (hc : c.cst "ELLIPSIS_MARKER" = some (.str dots)) (hwant : want.length ≤ 1048576) (hgot : got.length < 2 ^ 31) (ok1 : PyData.strOk want = true) (ok2 : PyData.strOk got = true)
    (hs : (Builtin.Str.occurrences want dots 0 want.length 1).isEmpty = false → Txt.split want dots = w0 :: w1 :: ws) (hwl : ∀ w ∈ w0 :: w1 :: ws, w.length < 2 ^ 31) (hwn : ws.length < 4000) :
    Says (f_ellipsis_match c) [.d (.str want), .d (.str got)] μ (.d (.bool (emB want got))) μ := by
  have hline : sizeLine = 2 ^ 24 := rfl
  have hok : okEq (.str want) (.str got) = true := by simp [okEq, PyData.canLay0, ok1, ok2, PyData.depth]
  refine mfun_retQ rfl fun R hR => ?_
  unfold emB at hR
  refine ⟨_, hc, ⟨fun h => ?_, fun h => ?_⟩⟩
  · rw [if_pos h] at hR
    exact ⟨hok, hR _ _ take_all⟩
  rw [if_neg (by rw [h]; decide), hs h] at hR
  refine ⟨_, hc, by decide, hwant, ?_⟩
  rw [hs h]
  have hlen : ((w0 :: w1 :: ws).map PyData.str).length = ws.length + 2 := len_map
  refine ⟨_, lst_new, by omega, ?_⟩
  refine ⟨decide_eq_true (by omega), hgot, ?_⟩
  refine idxP.lst (n := 0) lst_new (by omega) (by omega) ?_
  have hv1 : ∀ w ∈ w1 :: ws, w.length < 2 ^ 31 := fun w hw => hwl w (List.mem_cons_of_mem _ hw)
  have hhead : emAll got (w0 :: w1 :: ws) = if w0.length = 0 then emEnd got (w0 :: w1 :: ws) 0 else if Txt.startswith got w0 then emEnd got (w1 :: ws) w0.length else false := rfl
  rw [hhead] at hR
  refine And.intro (hwl w0 List.mem_cons_self) ⟨fun h => ?_, fun h => ?_⟩
  · have hb : w0.length ≠ 0 := bne_iff_ne.mp h
    simp only [if_neg hb] at hR
    refine ⟨trivial, ⟨fun h => ?_, fun h => ?_⟩⟩
    · rw [if_pos h] at hR
      refine ⟨hwl w0 List.mem_cons_self, _, lst_new, 0, idxOf_nat (i := 0) (by omega) (by omega), by omega, ?_⟩
      rw [set_new]
      exact em2_ok (V := w1 :: ws) (s := w0.length) rfl hgot (Nat.succ_pos _) (by simp only [List.length_cons]; omega) hv1 hR
    · rw [if_neg (by rw [h]; decide)] at hR
      exact hR _ _ take_new
  · have hb : w0.length = 0 := by simpa using h
    simp only [if_pos hb] at hR
    exact em2_ok (V := w0 :: w1 :: ws) (s := 0) rfl hgot (Nat.succ_pos _) (by simp only [List.length_cons]; omega) hwl hR
end
end Mine
end
section
open PySem
namespace Mine

/-! plain: patterns over numbers of signs; none stands for three dots -/
def tx (l : List Nat) : Str := ⟨l.toArray⟩
theorem tx_len {l : List Nat} : (tx l).length = l.length := by simp [tx, Str.length]
theorem tx_inj {a b : List Nat} : tx a = tx b ↔ a = b := by
  refine ⟨fun h => ?_, fun h => h ▸ rfl⟩
  have := congrArg (fun s : Str => s.cps.toList) h
  simpa [tx] using this
theorem tx_cps (s : Str) : tx s.cps.toList = s := by cases s; simp [tx]

abbrev Pat := List (Option Nat)
def unit : Option Nat → List Nat
  | some c => [c]
  | none => [46, 46, 46]
def flat (ps : Pat) : List Nat := ps.flatMap unit
def SOk (ps : Pat) : Prop := ∀ c, some c ∈ ps → c ≠ 46 ∧ c < 0x110000

def gm : Pat → List Nat → Prop
  | [], t => t = []
  | some c :: ps, t => ∃ u, t = c :: u ∧ gm ps u
  | none :: ps, t => ∃ k, k ≤ t.length ∧ gm ps (t.drop k)

def At (t w : List Nat) (i : Nat) : Prop := (t.drop i).take w.length = w
def atB (t w : List Nat) (i : Nat) : Bool := (t.drop i).take w.length == w
theorem atB_iff {t w : List Nat} {i : Nat} : atB t w i = true ↔ At t w i := beq_iff_eq
theorem atB_no {t w : List Nat} {i : Nat} (h : ¬ At t w i) : atB t w i = false := beq_eq_false_iff_ne.mpr h

theorem subAt_tx {t w : List Nat} {i : Nat} : Builtin.Str.subAt (tx t) (tx w) i = atB t w i := by
  unfold Builtin.Str.subAt
  rw [tx_len]
  have e : (tx t).cps.extract i (i + w.length) = ((t.drop i).take w.length).toArray := by
    apply Array.toList_inj.mp
    simp only [tx, List.extract_toArray, List.extract_eq_take_drop]
    rw [show i + w.length - i = w.length by omega]
  rw [e]
  show (((t.drop i).take w.length).toArray == w.toArray) = atB t w i
  by_cases h : At t w i
  · rw [atB_iff.mpr h]
    have h' : (t.drop i).take w.length = w := h
    rw [h']; simp
  · rw [atB_no h]
    exact beq_eq_false_iff_ne.mpr fun e => h (show (t.drop i).take w.length = w by simpa using congrArg Array.toList e)

/-! occurrences -/
def occF (p : Nat → Bool) (w limit : Nat) : List Nat → Nat → Nat → List Nat
  | [], _, _ => []
  | i :: l, n, free => if n < limit ∧ free ≤ i ∧ p i = true then i :: occF p w limit l (n + 1) (i + w) else occF p w limit l n free

theorem occ_F (s sub : Str) (hi limit : Nat) : ∀ (l : List Nat) (st : Array Nat × Nat), (forIn l st (StrLaws.occBody s sub hi limit)).run.fst.toList = st.fst.toList ++ occF (fun i => decide (i + sub.length ≤ hi) && Builtin.Str.subAt s sub i) sub.length limit l st.fst.size st.snd
  | [], st => by simp [occF]
  | a :: l, st => by
    rw [List.forIn_cons]
    unfold StrLaws.occBody occF
    by_cases h : ((st.fst.size < limit ∧ st.snd ≤ a) ∧ a + sub.length ≤ hi) ∧ Builtin.Str.subAt s sub a = true
    · rw [if_pos h, if_pos (by simp [h.1.1.1, h.1.1.2, h.1.2, h.2])]
      have := occ_F s sub hi limit l (st.fst.push a, a + sub.length)
      simp only [Array.toList_push, Array.size_push, List.append_assoc, List.cons_append, List.nil_append] at this
      exact this
    · rw [if_neg h, if_neg (by simp only [Bool.and_eq_true, decide_eq_true_eq]; exact fun hh => h ⟨⟨⟨hh.1, hh.2.1⟩, hh.2.2.1⟩, hh.2.2.2⟩)]
      exact occ_F s sub hi limit l st
theorem occ_tx (t w : List Nat) (lo hi limit : Nat) : Builtin.Str.occurrences (tx t) (tx w) lo hi limit = occF (fun i => decide (i + w.length ≤ hi) && atB t w i) w.length limit (List.range' lo (hi + 1 - lo)) 0 lo := by
  rw [StrLaws.occ_eq, occ_F]
  simp only [List.nil_append, List.size_toArray, List.length_nil, tx_len, subAt_tx]

/-! the first place -/
theorem occF_full {p : Nat → Bool} {w : Nat} : ∀ (l : List Nat) (n free : Nat), 1 ≤ n → occF p w 1 l n free = []
  | [], _, _, _ => rfl
  | i :: l, n, free, h => by
    unfold occF
    rw [if_neg (by omega)]
    exact occF_full l n free h
theorem occF_one {p : Nat → Bool} {w : Nat} : ∀ (l : List Nat) (free : Nat), (∀ i ∈ l, free ≤ i) → occF p w 1 l 0 free = (match l.find? p with | some k => [k] | none => [])
  | [], _, _ => rfl
  | i :: l, free, h => by
    unfold occF
    have h1 := h i List.mem_cons_self
    cases hp : p i
    · rw [if_neg (by simp), List.find?_cons, hp]
      exact occF_one l free fun j hj => h j (List.mem_cons_of_mem _ hj)
    · rw [if_pos ⟨by omega, h1, rfl⟩, List.find?_cons, hp, occF_full _ _ _ (by omega)]

theorem fromIndex_nat {n k : Nat} : fromIndex n (k : Int) = k := by
  unfold fromIndex
  rw [if_neg (by omega)]; omega

theorem find4_tx {t w : List Nat} {s e : Nat} (he : e ≤ t.length) : find4 (tx t) (tx w) s e = (match (List.range' s (e + 1 - s)).find? (fun i => decide (i + w.length ≤ e) && atB t w i) with | some k => (k : Int) | none => -1) := by
  unfold find4
  rw [tx_len, fromIndex_nat, fromIndex_nat, Nat.min_eq_left he, occ_tx, occF_one _ _ (fun i hi => by simp [List.mem_range'_1] at hi; omega)]
  cases (List.range' s (e + 1 - s)).find? (fun i => decide (i + w.length ≤ e) && atB t w i) <;> rfl

/-! words sought one after the other -/
def midE (t : List Nat) : List (List Nat) → Nat → Nat → Prop
  | [], s, e => s ≤ e
  | w :: ws, s, e => ∃ k, s ≤ k ∧ k + w.length ≤ e ∧ At t w k ∧ midE t ws (k + w.length) e

theorem midE_le {t : List Nat} : ∀ {ws : List (List Nat)} {s e : Nat}, midE t ws s e → s ≤ e
  | [], _, _, h => h
  | w :: ws, s, e, ⟨k, h1, h2, _, _⟩ => by omega
theorem midE_anti {t : List Nat} : ∀ {ws : List (List Nat)} {s s' e : Nat}, s ≤ s' → midE t ws s' e → midE t ws s e
  | [], _, _, _, h, m => Nat.le_trans h m
  | w :: ws, s, s', e, h, ⟨k, h1, h2, h3, h4⟩ => ⟨k, by omega, h2, h3, h4⟩

theorem emFor_tx {t : List Nat} {e : Nat} (he : e ≤ t.length) : ∀ (ws : List (List Nat)) (s : Nat), s ≤ e → (emFor (tx t) e (ws.map tx) s = true ↔ midE t ws s e)
  | [], s, h => by simp [emFor, midE, h]
  | w :: ws, s, h => by
    simp only [List.map_cons, emFor]
    rw [find4_tx he]
    cases hf : (List.range' s (e + 1 - s)).find? (fun i => decide (i + w.length ≤ e) && atB t w i) with
    | none =>
      simp only [show (-1 : Int) < 0 by decide, if_true]
      refine ⟨fun h => (by cases h), fun ⟨k, h1, h2, h3, _⟩ => ?_⟩
      have := List.find?_eq_none.mp hf k (by simp [List.mem_range'_1]; omega)
      simp [h2, atB_iff.mpr h3] at this
    | some k =>
      have hk := List.find?_some hf
      have hm := List.mem_of_find?_eq_some hf
      simp only [Bool.and_eq_true, decide_eq_true_eq, atB_iff] at hk
      simp only [List.mem_range'_1] at hm
      simp only
      rw [if_neg (by omega), tx_len, show (k : Int) + (w.length : Int) = ((k + w.length : Nat) : Int) by omega]
      rw [emFor_tx he ws (k + w.length) hk.1]
      refine ⟨fun m => ⟨k, hm.1, hk.1, hk.2, m⟩, fun ⟨j, h1, h2, h3, h4⟩ => ?_⟩
      refine midE_anti ?_ h4
      rcases Nat.lt_or_ge j k with hlt | hge
      · exfalso
        have hsplit := List.find?_range'_eq_some.mp hf
        have := hsplit.2.2 j h1 hlt
        simp [h2, atB_iff.mpr h3] at this
      · omega
end Mine
end
section
open PySem
namespace Mine

/-! the words between the dots -/
def segs : Pat → List (List Nat)
  | [] => [[]]
  | some c :: ps => match segs ps with
    | s :: r => (c :: s) :: r
    | [] => [[c]]
  | none :: ps => [] :: segs ps

theorem segs_ne : ∀ ps, segs ps ≠ []
  | [] => by simp [segs]
  | some c :: ps => by simp only [segs]; split <;> simp
  | none :: ps => by simp [segs]
theorem segs_some {c : Nat} {ps : Pat} : ∃ s r, segs ps = s :: r ∧ segs (some c :: ps) = (c :: s) :: r := by
  cases h : segs ps with
  | nil => exact absurd h (segs_ne ps)
  | cons s r => exact ⟨s, r, rfl, by simp only [segs, h]⟩

def hasDots (ps : Pat) : Prop := none ∈ ps
theorem segs_two : ∀ {ps : Pat}, none ∈ ps → 2 ≤ (segs ps).length
  | [], h => by simp at h
  | some c :: ps, h => by
    obtain ⟨s, r, h1, h2⟩ := segs_some (c := c) (ps := ps)
    have := segs_two (ps := ps) (by simpa using h)
    rw [h1] at this; rw [h2]; simpa using this
  | none :: ps, h => by
    simp only [segs, List.length_cons]
    have := List.length_pos_iff.mpr (segs_ne ps)
    omega
theorem segs_count : ∀ (ps : Pat), (segs ps).length ≤ ps.length + 1
  | [] => by simp [segs]
  | some c :: ps => by
    obtain ⟨s, r, h1, h2⟩ := segs_some (c := c) (ps := ps)
    have := segs_count ps
    rw [h1] at this; rw [h2]; simp at this ⊢; omega
  | none :: ps => by
    simp only [segs, List.length_cons]
    have := segs_count ps
    omega
theorem segs_len : ∀ (ps : Pat), ∀ s ∈ segs ps, s.length ≤ ps.length
  | [], s, h => by simp [segs] at h; subst h; simp
  | some c :: ps, s, h => by
    obtain ⟨s', r, h1, h2⟩ := segs_some (c := c) (ps := ps)
    have ih := segs_len ps
    rw [h1] at ih; rw [h2] at h
    rcases List.mem_cons.mp h with rfl | h
    · have := ih s' List.mem_cons_self
      simp; exact this
    · have := ih s (List.mem_cons_of_mem _ h)
      simp; omega
  | none :: ps, s, h => by
    simp only [segs] at h
    rcases List.mem_cons.mp h with rfl | h
    · simp
    · have := segs_len ps s h
      simp; omega

theorem flat_cons {u : Option Nat} {ps : Pat} : flat (u :: ps) = unit u ++ flat ps := by simp [flat]
theorem flat_nil : flat [] = [] := rfl

/-- where the dots begin, counted from a place -/
def cuts : Nat → Pat → List Nat
  | _, [] => []
  | i, some _ :: ps => cuts (i + 1) ps
  | i, none :: ps => i :: cuts (i + 3) ps

theorem at_dots_none {pre : List Nat} {ps : Pat} : At (pre ++ flat (none :: ps)) [46, 46, 46] pre.length := by
  unfold At
  rw [List.drop_left, flat_cons]
  simp [unit]
theorem at_dots_some {pre : List Nat} {c : Nat} {ps : Pat} (h : c ≠ 46) : ¬ At (pre ++ flat (some c :: ps)) [46, 46, 46] pre.length := by
  unfold At
  rw [List.drop_left, flat_cons]
  simp [unit, h]
theorem range_step {a n : Nat} : List.range' a (n + 1) = a :: List.range' (a + 1) n := List.range'_succ ..

theorem occ_free (p : Nat → Bool) (w limit : Nat) : ∀ (l : List Nat) (n free free' : Nat), (∀ i ∈ l, free ≤ i) → (∀ i ∈ l, free' ≤ i) → occF p w limit l n free = occF p w limit l n free'
  | [], _, _, _, _, _ => rfl
  | i :: l, n, free, free', h, h' => by
    have h1 := h i List.mem_cons_self
    have h2 := h' i List.mem_cons_self
    unfold occF
    by_cases hc : n < limit ∧ p i = true
    · rw [if_pos ⟨hc.1, h1, hc.2⟩, if_pos ⟨hc.1, h2, hc.2⟩]
    · rw [if_neg fun x => hc ⟨x.1, x.2.2⟩, if_neg fun x => hc ⟨x.1, x.2.2⟩]
      exact occ_free p w limit l n free free' (fun j hj => h j (List.mem_cons_of_mem _ hj)) fun j hj => h' j (List.mem_cons_of_mem _ hj)

theorem occ_cuts {t : List Nat} {limit : Nat} : ∀ (ps : Pat) (pre : List Nat) (n : Nat), SOk ps → t = pre ++ flat ps → n + (flat ps).length < limit →
    occF (fun i => decide (i + 3 ≤ t.length) && atB t [46, 46, 46] i) 3 limit (List.range' pre.length ((flat ps).length + 1)) n pre.length = cuts pre.length ps
  | [], pre, n, _, ht, hn => by
    simp only [flat_nil, List.length_nil, Nat.zero_add, cuts]
    subst ht
    simp only [List.range'_one, occF]
    rw [if_neg]
    simp [flat_nil]
    intro _ h; omega
  | some c :: ps, pre, n, hs, ht, hn => by
    have hc := (hs c (by simp)).1
    have hp : (decide (pre.length + 3 ≤ t.length) && atB t [46, 46, 46] pre.length) = false := by
      rw [ht, atB_no (at_dots_some hc), Bool.and_false]
    have hl : (flat (some c :: ps)).length = (flat ps).length + 1 := by rw [flat_cons]; simp [unit]
    rw [hl, range_step]
    simp only [occF, hp, cuts]
    rw [if_neg (by simp)]
    have ih := occ_cuts (t := t) (limit := limit) ps (pre ++ [c]) n (fun d hd => hs d (List.mem_cons_of_mem _ hd)) (by rw [ht, flat_cons]; simp [unit]) (by omega)
    simp only [List.length_append, List.length_cons, List.length_nil, Nat.zero_add] at ih
    rw [← ih]
    exact occ_free _ _ _ _ _ _ _ (fun i hi => by simp [List.mem_range'_1] at hi; omega) (fun i hi => by simp [List.mem_range'_1] at hi; omega)
  | none :: ps, pre, n, hs, ht, hn => by
    have hl : (flat (none :: ps)).length = (flat ps).length + 3 := by rw [flat_cons]; simp [unit]
    have hp : (decide (pre.length + 3 ≤ t.length) && atB t [46, 46, 46] pre.length) = true := by
      rw [ht, atB_iff.mpr at_dots_none, Bool.and_true]
      exact decide_eq_true (by simp [hl])
    rw [hl, range_step, range_step, range_step]
    simp only [occF, hp, cuts]
    rw [if_pos (by simp; omega), if_neg (by omega), if_neg (by omega)]
    congr 1
    have ih := occ_cuts (t := t) (limit := limit) ps (pre ++ [46, 46, 46]) (n + 1) (fun d hd => hs d (List.mem_cons_of_mem _ hd)) (by rw [ht, flat_cons]; simp [unit]) (by omega)
    simp only [List.length_append, List.length_cons, List.length_nil, Nat.zero_add, Nat.reduceAdd] at ih
    exact ih
end Mine
end
section
open PySem
namespace Mine

theorem dots_tx : dots = tx [46, 46, 46] := by decide
theorem sub_tx {t : List Nat} {i j : Nat} : Builtin.Str.strSub (tx t) i j = tx ((t.drop i).take (j - i)) := by
  unfold Builtin.Str.strSub tx
  congr 1
  apply Array.toList_inj.mp
  simp only [List.extract_toArray, List.extract_eq_take_drop]

theorem parts_segs {t : List Nat} : ∀ (ps : Pat) (pre : List Nat) (a : Nat), t = pre ++ flat ps → a ≤ pre.length →
    ∃ s r, segs ps = s :: r ∧ (((a :: (cuts pre.length ps).map (· + 3)).zip (cuts pre.length ps ++ [t.length])).map fun x => Builtin.Str.strSub (tx t) x.1 x.2) = ((pre.drop a ++ s) :: r).map tx
  | [], pre, a, ht, ha => by
    refine ⟨[], [], rfl, ?_⟩
    subst ht
    simp [cuts, sub_tx, flat_nil]
    congr 1
    rw [List.take_of_length_le (by simp)]
  | some c :: ps, pre, a, ht, ha => by
    obtain ⟨s, r, h1, h2⟩ := segs_some (c := c) (ps := ps)
    obtain ⟨s', r', h3, h4⟩ := parts_segs (t := t) ps (pre ++ [c]) a (by rw [ht, flat_cons]; simp [unit]) (by simp; omega)
    rw [h1] at h3; cases h3
    refine ⟨c :: s, r, h2, ?_⟩
    simp only [List.length_append, List.length_cons, List.length_nil, Nat.zero_add] at h4
    simp only [cuts]
    rw [h4, List.drop_append_of_le_length ha]
    simp
  | none :: ps, pre, a, ht, ha => by
    obtain ⟨s', r', h3, h4⟩ := parts_segs (t := t) ps (pre ++ [46, 46, 46]) (pre.length + 3) (by rw [ht, flat_cons]; simp [unit]) (by simp)
    refine ⟨[], segs ps, rfl, ?_⟩
    simp only [List.length_append, List.length_cons, List.length_nil, Nat.zero_add, Nat.reduceAdd] at h4
    simp only [cuts, List.map_cons, List.cons_append, List.zip_cons_cons]
    rw [h4, h3]
    have e1 : (pre ++ [46, 46, 46]).drop (pre.length + 3) = [] := by rw [List.drop_of_length_le (by simp)]
    rw [e1]
    simp only [List.nil_append, List.map_cons, List.append_nil]
    congr 1
    rw [sub_tx, ht, List.drop_append_of_le_length ha, List.take_append_of_le_length (by simp), List.take_of_length_le (by simp)]

theorem cuts_some : ∀ {ps : Pat} {i : Nat}, none ∈ ps → cuts i ps ≠ []
  | [], _, h => by simp at h
  | some c :: ps, i, h => by simp only [cuts]; exact cuts_some (by simpa using h)
  | none :: ps, i, h => by simp [cuts]

theorem flat_len_dots : ∀ {ps : Pat}, none ∈ ps → 3 ≤ (flat ps).length
  | [], h => by simp at h
  | some c :: ps, h => by
    rw [flat_cons]
    have := flat_len_dots (ps := ps) (by simpa using h)
    simp [unit]; omega
  | none :: ps, h => by rw [flat_cons]; simp [unit]

theorem kind_pos {x : Str} : ¬ Builtin.Str.strKind x < Builtin.Str.strKind dots := by
  have e : Builtin.Str.strKind dots = 1 := by decide +kernel
  rw [e]
  unfold Builtin.Str.strKind
  split
  · omega
  · split <;> omega

theorem split_segs {ps : Pat} (hs : SOk ps) (hd : none ∈ ps) : Txt.split (tx (flat ps)) dots = (segs ps).map tx := by
  have hocc : Builtin.Str.occurrences (tx (flat ps)) dots 0 (tx (flat ps)).length ((tx (flat ps)).length + 1) = cuts 0 ps := by
    rw [dots_tx, tx_len, occ_tx]
    have := occ_cuts (t := flat ps) (limit := (flat ps).length + 1) ps [] 0 hs rfl (by omega)
    simpa using this
  unfold Txt.split
  have h3 := flat_len_dots hd
  rw [if_neg (by simp only [Bool.or_eq_true, decide_eq_true_eq, not_or]; exact ⟨by rw [tx_len, dots_len]; omega, kind_pos⟩), hocc, if_neg (by simpa using cuts_some hd)]
  obtain ⟨s, r, h1, h2⟩ := parts_segs (t := flat ps) ps [] 0 rfl (Nat.zero_le _)
  unfold Builtin.Str.partsBetween
  rw [dots_len, tx_len, h1]
  simpa using h2

theorem no_dots : ∀ {ps : Pat}, SOk ps → none ∉ ps → 46 ∉ flat ps
  | [], _, _ => by simp [flat]
  | some c :: ps, hs, hn => by
    rw [flat_cons]
    simp only [unit, List.cons_append, List.nil_append, List.mem_cons, not_or]
    exact ⟨fun e => (hs c (by simp)).1 e.symm, no_dots (fun d hd => hs d (List.mem_cons_of_mem _ hd)) (by simpa using hn)⟩
  | none :: ps, _, hn => by simp at hn

theorem has_at : ∀ {ps : Pat} {pre : List Nat}, none ∈ ps → ∃ i, i + 3 ≤ (pre ++ flat ps).length ∧ At (pre ++ flat ps) [46, 46, 46] i
  | [], _, h => by simp at h
  | some c :: ps, pre, h => by
    have := has_at (ps := ps) (pre := pre ++ [c]) (by simpa using h)
    rw [flat_cons]
    simpa [unit] using this
  | none :: ps, pre, h => ⟨pre.length, by rw [flat_cons]; simp [unit], at_dots_none⟩

theorem occ_none_iff {ps : Pat} (hs : SOk ps) : (Builtin.Str.occurrences (tx (flat ps)) dots 0 (tx (flat ps)).length 1).isEmpty = true ↔ none ∉ ps := by
  have f := StrLaws.found_iff (tx (flat ps)) dots
  constructor
  · intro h hd
    obtain ⟨i, h1, h2⟩ := has_at (pre := []) hd
    have : (!(Builtin.Str.occurrences (tx (flat ps)) dots 0 (tx (flat ps)).length 1).isEmpty) = true := f.mpr ⟨i, by rw [dots_len, tx_len]; simpa using h1, by rw [dots_tx, subAt_tx]; exact atB_iff.mpr (by simpa using h2)⟩
    rw [h] at this; cases this
  · intro hn
    cases h : (Builtin.Str.occurrences (tx (flat ps)) dots 0 (tx (flat ps)).length 1).isEmpty
    · exfalso
      obtain ⟨i, h1, h2⟩ := f.mp (by rw [h]; rfl)
      rw [dots_tx, subAt_tx] at h2
      have h2' : At (flat ps) [46, 46, 46] i := atB_iff.mp h2
      have : (46 : Nat) ∈ (flat ps).drop i := by
        have h5 : ((flat ps).drop i).take 3 = [46, 46, 46] := h2'
        exact List.mem_of_mem_take (by rw [h5]; simp)
      exact no_dots hs hn (List.mem_of_mem_drop this)
    · rfl

/-! glob by words -/
def gmT : List (List Nat) → List Nat → Prop
  | [], _ => False
  | [s], u => s <:+ u
  | s :: r, u => ∃ k, k + s.length ≤ u.length ∧ At u s k ∧ gmT r (u.drop (k + s.length))
def gmS : List (List Nat) → List Nat → Prop
  | [], _ => False
  | [s], t => t = s
  | s :: r, t => s <+: t ∧ gmT r (t.drop s.length)

theorem at_prefix {t w : List Nat} {k : Nat} (h : k + w.length ≤ t.length) : At t w k ↔ w <+: t.drop k := by
  unfold At
  constructor
  · intro e; rw [← e]; exact List.take_prefix _ _
  · rintro ⟨u, e⟩; rw [← e]; simp

theorem gmT_iff : ∀ {L : List (List Nat)} {t : List Nat}, gmT L t ↔ ∃ k, k ≤ t.length ∧ gmS L (t.drop k)
  | [], t => by simp [gmT, gmS]
  | [s], t => by
    simp only [gmT, gmS]
    constructor
    · rintro ⟨u, rfl⟩; exact ⟨u.length, by simp, by simp⟩
    · rintro ⟨k, _, rfl⟩; exact List.drop_suffix _ _
  | s :: r :: rs, t => by
    simp only [gmT, gmS]
    constructor
    · rintro ⟨k, h1, h2, h3⟩
      exact ⟨k, by omega, (at_prefix h1).mp h2, by rw [List.drop_drop]; exact h3⟩
    · rintro ⟨k, h1, h2, h3⟩
      have hl := h2.length_le
      simp only [List.length_drop] at hl
      rw [List.drop_drop] at h3
      exact ⟨k, by omega, (at_prefix (by omega)).mpr h2, h3⟩

theorem gm_gmS : ∀ {ps : Pat} {t : List Nat}, gm ps t ↔ gmS (segs ps) t
  | [], t => by simp [gm, segs, gmS]
  | some c :: ps, t => by
    obtain ⟨s, r, h1, h2⟩ := segs_some (c := c) (ps := ps)
    rw [h2]
    simp only [gm]
    have ih := fun u => gm_gmS (ps := ps) (t := u)
    rw [h1] at ih
    cases r with
    | nil =>
      simp only [gmS] at ih ⊢
      constructor
      · rintro ⟨u, rfl, hu⟩; rw [(ih u).mp hu]
      · rintro rfl; exact ⟨s, rfl, (ih s).mpr rfl⟩
    | cons a l =>
      simp only [gmS] at ih ⊢
      constructor
      · rintro ⟨u, rfl, hu⟩
        obtain ⟨k1, k2⟩ := (ih u).mp hu
        exact ⟨List.cons_prefix_cons.mpr ⟨rfl, k1⟩, by simpa using k2⟩
      · rintro ⟨k1, k2⟩
        cases t with
        | nil => simp at k1
        | cons x u =>
          obtain ⟨rfl, k3⟩ := List.cons_prefix_cons.mp k1
          exact ⟨u, rfl, (ih u).mpr ⟨k3, by simpa using k2⟩⟩
  | none :: ps, t => by
    simp only [gm, segs]
    have h1 : gmS ([] :: segs ps) t ↔ gmT (segs ps) t := by
      cases h : segs ps with
      | nil => exact absurd h (segs_ne ps)
      | cons s r => simp [gmS]
    rw [h1, gmT_iff]
    constructor
    · rintro ⟨k, hk, h⟩; exact ⟨k, hk, gm_gmS.mp h⟩
    · rintro ⟨k, hk, h⟩; exact ⟨k, hk, gm_gmS.mpr h⟩
end Mine
end
section
open PySem
namespace Mine

theorem starts_tx {t w : List Nat} : Txt.startswith (tx t) (tx w) = decide (w <+: t) := by
  unfold Txt.startswith
  rw [tx_len, tx_len, subAt_tx]
  by_cases h : w <+: t
  · have hl := h.length_le
    have : At t w 0 := (at_prefix (by omega)).mpr (by simpa using h)
    simp [h, atB_iff.mpr this, hl]
  · rw [decide_eq_false h]
    by_cases hl : w.length ≤ t.length
    · have : ¬ At t w 0 := fun a => h (by simpa using (at_prefix (by omega)).mp a)
      simp [atB_no this]
    · simp [hl]
theorem ends_tx {t w : List Nat} : Txt.endswith (tx t) (tx w) = (decide (w.length ≤ t.length) && atB t w (t.length - w.length)) := by
  unfold Txt.endswith
  rw [tx_len, tx_len, subAt_tx, Nat.zero_add]

def endE (t : List Nat) (V : List (List Nat)) (s : Nat) : Prop :=
  (V.getLastD []).length ≤ t.length ∧ At t (V.getLastD []) (t.length - (V.getLastD []).length) ∧ midE t V.dropLast s (t.length - (V.getLastD []).length)

theorem at_nil {t : List Nat} {k : Nat} : At t [] k := by simp [At]

theorem midE_last_nil {t : List Nat} : ∀ {ws : List (List Nat)} {s e : Nat}, midE t (ws ++ [[]]) s e ↔ midE t ws s e
  | [], s, e => by
    simp only [List.nil_append, midE, List.length_nil, Nat.add_zero]
    constructor
    · rintro ⟨k, h1, h2, _, h3⟩; omega
    · intro h; exact ⟨e, h, Nat.le_refl _, at_nil, Nat.le_refl _⟩
  | w :: ws, s, e => by
    simp only [List.cons_append, midE]
    constructor
    · rintro ⟨k, h1, h2, h3, h4⟩; exact ⟨k, h1, h2, h3, midE_last_nil.mp h4⟩
    · rintro ⟨k, h1, h2, h3, h4⟩; exact ⟨k, h1, h2, h3, midE_last_nil.mpr h4⟩
theorem midE_nil {t : List Nat} {ws : List (List Nat)} {s e : Nat} : midE t ([] :: ws) s e ↔ midE t ws s e := by
  simp only [midE, List.length_nil, Nat.add_zero]
  constructor
  · rintro ⟨k, h1, h2, _, h3⟩; exact midE_anti h1 h3
  · intro h; exact ⟨s, Nat.le_refl _, midE_le h, at_nil, h⟩

theorem emIn_tx {t : List Nat} {ws : List (List Nat)} {s e : Nat} (he : e ≤ t.length) : emIn (tx t) (ws.map tx) s e = true ↔ midE t ws s e := by
  unfold emIn
  by_cases h : (e : Int) < (s : Int)
  · rw [if_pos h]
    exact ⟨fun x => (by cases x), fun m => by have := midE_le m; omega⟩
  · rw [if_neg h]
    exact emFor_tx he ws s (by omega)

theorem last_tx {V : List (List Nat)} : (V.map tx).getLastD ⟨#[]⟩ = tx (V.getLastD []) := by
  rw [List.getLastD_eq_getLast?, List.getLastD_eq_getLast?, List.getLast?_map]
  cases V.getLast? <;> rfl
theorem dropLast_tx {V : List (List Nat)} : (V.map tx).dropLast = V.dropLast.map tx := by rw [List.map_dropLast]

theorem emEnd_tx {t : List Nat} {V : List (List Nat)} {s : Nat} (hV : V ≠ []) : emEnd (tx t) (V.map tx) s = true ↔ endE t V s := by
  unfold emEnd endE
  rw [last_tx]
  simp only [tx_len]
  by_cases h0 : (V.getLastD []).length = 0
  · rw [if_pos h0]
    have hnil : V.getLastD [] = [] := List.length_eq_zero_iff.mp h0
    have e1 : V = V.dropLast ++ [[]] := by
      have := List.dropLast_concat_getLast hV
      rw [List.getLastD_eq_getLast?, List.getLast?_eq_some_getLast hV] at hnil
      have hnil' : V.getLast hV = [] := hnil
      rw [hnil'] at this; exact this.symm
    rw [show ((t.length : Nat) : Int) = (t.length : Nat) from rfl, emIn_tx (Nat.le_refl _), hnil]
    simp only [List.length_nil, Nat.sub_zero, Nat.zero_le, true_and]
    conv => lhs; rw [e1]
    rw [midE_last_nil]
    exact ⟨fun h => ⟨at_nil, h⟩, fun h => h.2⟩
  · rw [if_neg h0, ends_tx]
    rcases Classical.em ((V.getLastD []).length ≤ t.length ∧ At t (V.getLastD []) (t.length - (V.getLastD []).length)) with h1 | h1
    · rw [decide_eq_true h1.1, atB_iff.mpr h1.2, Bool.and_true]
      simp only [if_true]
      rw [show ((t.length : Int) - ((V.getLastD []).length : Int)) = ((t.length - (V.getLastD []).length : Nat) : Int) by omega, dropLast_tx, emIn_tx (by omega)]
      exact ⟨fun m => ⟨h1.1, h1.2, m⟩, fun m => m.2.2⟩
    · have e : (decide ((V.getLastD []).length ≤ t.length) && atB t (V.getLastD []) (t.length - (V.getLastD []).length)) = false := by
        rw [← Bool.not_eq_true, Bool.and_eq_true, decide_eq_true_eq, atB_iff]; exact h1
      rw [e]
      simp only [Bool.false_eq_true, if_false, false_iff]
      exact fun m => h1 ⟨m.1, m.2.1⟩

theorem endE_cons {t : List Nat} {w : List Nat} {V : List (List Nat)} {s : Nat} (hV : V ≠ []) (hs : s ≤ t.length) : endE t (w :: V) s ↔ ∃ k, s ≤ k ∧ k + w.length ≤ t.length ∧ At t w k ∧ endE t V (k + w.length) := by
  unfold endE
  have e1 : (w :: V).getLastD [] = V.getLastD [] := by
    cases V with
    | nil => exact absurd rfl hV
    | cons a l => simp [List.getLastD_cons]
  have e2 : (w :: V).dropLast = w :: V.dropLast := by
    cases V with
    | nil => exact absurd rfl hV
    | cons a l => rfl
  rw [e1, e2]
  simp only [midE]
  constructor
  · rintro ⟨h1, h2, k, h3, h4, h5, h6⟩; exact ⟨k, h3, by omega, h5, h1, h2, h6⟩
  · rintro ⟨k, h3, h4, h5, h1, h2, h6⟩; exact ⟨h1, h2, k, h3, midE_le h6, h5, h6⟩

theorem gmT_endE {t : List Nat} : ∀ {V : List (List Nat)} {s : Nat}, V ≠ [] → s ≤ t.length → (gmT V (t.drop s) ↔ endE t V s)
  | [], _, h, _ => absurd rfl h
  | [w], s, _, hs => by
    unfold endE
    simp only [gmT, List.getLastD_cons, List.getLastD_nil, List.dropLast_singleton, midE]
    constructor
    · intro h
      have hl := h.length_le
      simp only [List.length_drop] at hl
      have h2 : w <:+ t := h.trans (List.drop_suffix _ _)
      have h3 : w = t.drop (t.length - w.length) := List.suffix_iff_eq_drop.mp h2
      exact ⟨by omega, (at_prefix (by omega)).mpr (by rw [← h3]; exact List.prefix_refl _), by omega⟩
    · rintro ⟨h1, h2, h3⟩
      have h4 := (at_prefix (by omega)).mp h2
      have h5 : w = t.drop (t.length - w.length) := by
        have := h4.eq_of_length (by simp; omega)
        exact this
      rw [h5, show t.length - w.length = s + (t.length - w.length - s) by omega, ← List.drop_drop]
      exact List.drop_suffix _ _
  | w :: a :: V, s, _, hs => by
    rw [endE_cons (by simp) hs]
    simp only [gmT]
    constructor
    · rintro ⟨k, h1, h2, h3⟩
      simp only [List.length_drop] at h1
      rw [List.drop_drop] at h3
      refine ⟨s + k, by omega, by omega, ?_, ?_⟩
      · have := (at_prefix (t := t.drop s) (by simp; omega)).mp h2
        rw [List.drop_drop] at this
        exact (at_prefix (by omega)).mpr this
      · have := (gmT_endE (V := a :: V) (s := s + (k + w.length)) (by simp) (by omega)).mp h3
        rw [show s + k + w.length = s + (k + w.length) by omega]; exact this
    · rintro ⟨k, h0, h1, h2, h3⟩
      refine ⟨k - s, by simp; omega, ?_, ?_⟩
      · refine (at_prefix (by simp; omega)).mpr ?_
        rw [List.drop_drop, show s + (k - s) = k by omega]
        exact (at_prefix h1).mp h2
      · rw [List.drop_drop, show s + (k - s + w.length) = k + w.length by omega]
        exact (gmT_endE (V := a :: V) (s := k + w.length) (by simp) h1).mpr h3

theorem emAll_tx {t w : List Nat} {V : List (List Nat)} (hV : V ≠ []) : emAll (tx t) ((w :: V).map tx) = true ↔ gmS (w :: V) t := by
  have hg : gmS (w :: V) t ↔ w <+: t ∧ endE t V w.length := by
    have e : gmS (w :: V) t ↔ w <+: t ∧ gmT V (t.drop w.length) := by
      cases V with
      | nil => exact absurd rfl hV
      | cons a l => exact Iff.rfl
    rw [e]
    constructor
    · rintro ⟨h1, h2⟩; exact ⟨h1, (gmT_endE hV h1.length_le).mp h2⟩
    · rintro ⟨h1, h2⟩; exact ⟨h1, (gmT_endE hV h1.length_le).mpr h2⟩
  rw [hg]
  unfold emAll
  simp only [List.map_cons, List.headD_cons, List.tail_cons, tx_len]
  by_cases h0 : w.length = 0
  · rw [if_pos h0]
    have : w = [] := List.length_eq_zero_iff.mp h0
    subst this
    have h1 := emEnd_tx (t := t) (V := [] :: V) (s := 0) (by simp)
    simp only [List.map_cons] at h1
    rw [show (0 : Int) = ((0 : Nat) : Int) from rfl, h1, endE_cons hV (Nat.zero_le _)]
    simp only [List.length_nil, Nat.add_zero, List.nil_prefix, true_and]
    constructor
    · rintro ⟨k, _, _, _, h2⟩
      exact ⟨h2.1, h2.2.1, midE_anti (Nat.zero_le _) h2.2.2⟩
    · intro h; exact ⟨0, Nat.le_refl _, Nat.zero_le _, at_nil, h⟩
  · rw [if_neg h0, starts_tx]
    by_cases h1 : w <+: t
    · rw [decide_eq_true h1]
      simp only [if_true]
      rw [emEnd_tx hV]
      exact ⟨fun h => ⟨h1, h⟩, fun h => h.2⟩
    · rw [decide_eq_false h1]
      simp only [Bool.false_eq_true, if_false, false_iff]
      exact fun h => h1 h.1

theorem gm_plain : ∀ {ps : Pat} {t : List Nat}, none ∉ ps → (gm ps t ↔ flat ps = t)
  | [], t, _ => by simp [gm, flat_nil, eq_comm]
  | some c :: ps, t, h => by
    rw [flat_cons]
    simp only [gm, unit, List.cons_append, List.nil_append]
    have ih := fun u => gm_plain (ps := ps) (t := u) (by simpa using h)
    constructor
    · rintro ⟨u, rfl, hu⟩; rw [(ih u).mp hu]
    · rintro rfl; exact ⟨flat ps, rfl, (ih _).mpr rfl⟩
  | none :: ps, t, h => by simp at h

/-- what _ellipsis_match says -/
theorem emB_gm {ps : Pat} {t : List Nat} (hs : SOk ps) : emB (tx (flat ps)) (tx t) = true ↔ gm ps t := by
  unfold emB
  by_cases hd : none ∈ ps
  · have ho : (Builtin.Str.occurrences (tx (flat ps)) dots 0 (tx (flat ps)).length 1).isEmpty = false := by
      cases h : (Builtin.Str.occurrences (tx (flat ps)) dots 0 (tx (flat ps)).length 1).isEmpty
      · rfl
      · exact absurd hd ((occ_none_iff hs).mp h)
    rw [ho]
    simp only [Bool.false_eq_true, if_false]
    rw [split_segs hs hd, gm_gmS]
    have h2 := segs_two hd
    cases h : segs ps with
    | nil => rw [h] at h2; simp at h2
    | cons w V =>
      cases V with
      | nil => rw [h] at h2; simp at h2
      | cons a l => exact emAll_tx (by simp)
  · rw [(occ_none_iff hs).mpr hd]
    simp only [if_true]
    rw [gm_plain hd]
    show (tx (flat ps) == tx t) = true ↔ _
    rw [beq_iff_eq, tx_inj]
end Mine
end
section
open PySem
namespace Mine

/-! the order of the heap's entries -/
structure Key where
  s : Int
  t : List Nat
  i : Int
  j : Int
def keyE : PyData → Key
  | .tuple [.int s, .str t, .int i, .int j] => ⟨s, t.cps.toList, i, j⟩
  | .tuple [.int s, .str t] => ⟨s, t.cps.toList, 0, 0⟩
  | _ => ⟨0, [], 0, 0⟩
def kle (a b : Key) : Prop := a.s < b.s ∨ (a.s = b.s ∧ (a.t < b.t ∨ (a.t = b.t ∧ (a.i < b.i ∨ (a.i = b.i ∧ a.j ≤ b.j)))))
def klt (a b : Key) : Prop := a.s < b.s ∨ (a.s = b.s ∧ (a.t < b.t ∨ (a.t = b.t ∧ (a.i < b.i ∨ (a.i = b.i ∧ a.j < b.j)))))
def kltB (a b : Key) : Bool := decide (a.s < b.s ∨ (a.s = b.s ∧ (a.t < b.t ∨ (a.t = b.t ∧ (a.i < b.i ∨ (a.i = b.i ∧ a.j < b.j))))))
theorem kltB_iff {a b : Key} : kltB a b = true ↔ klt a b := decide_eq_true_iff
def ltE (x y : PyData) : Bool := kltB (keyE x) (keyE y)

theorem lt_tri (a b : List Nat) : a < b ∨ a = b ∨ b < a := by
  by_cases h1 : a < b
  · exact .inl h1
  · by_cases h2 : b < a
    · exact .inr (.inr h2)
    · exact .inr (.inl (List.le_antisymm (List.not_lt.mp h2) (List.not_lt.mp h1)))
theorem not_klt {a b : Key} : ¬ klt b a ↔ kle a b := by
  unfold klt kle
  rcases lt_tri a.t b.t with h | h | h
  · have h1 : ¬ b.t < a.t := List.lt_asymm h
    have h2 : b.t ≠ a.t := fun e => by rw [e] at h; exact List.lt_irrefl _ h
    have h3 : a.t ≠ b.t := fun e => h2 e.symm
    simp only [h, h1, h2, h3, false_and, or_false, or_true, and_false, true_or, and_true]
    omega
  · rw [h]
    have h2 := List.lt_irrefl b.t
    simp only [h2, false_or, true_and]
    omega
  · have h1 : ¬ a.t < b.t := List.lt_asymm h
    have h2 : a.t ≠ b.t := fun e => by rw [e] at h; exact List.lt_irrefl _ h
    have h3 : b.t ≠ a.t := fun e => h2 e.symm
    simp only [h, h1, h2, h3, false_and, or_false, or_true, and_false, true_or, false_or, and_true]
    omega
theorem kle_trans {a b c : Key} (h1 : kle a b) (h2 : kle b c) : kle a c := by
  unfold kle at *
  rcases h1 with h1 | ⟨e1, h1⟩
  · rcases h2 with h2 | ⟨e2, h2⟩
    · exact .inl (by omega)
    · exact .inl (by omega)
  · rcases h2 with h2 | ⟨e2, h2⟩
    · exact .inl (by omega)
    · refine .inr ⟨by omega, ?_⟩
      rcases h1 with h1 | ⟨f1, h1⟩
      · rcases h2 with h2 | ⟨f2, h2⟩
        · exact .inl (List.lt_trans h1 h2)
        · exact .inl (f2 ▸ h1)
      · rcases h2 with h2 | ⟨f2, h2⟩
        · exact .inl (f1 ▸ h2)
        · exact .inr ⟨f1.trans f2, by omega⟩
theorem klt_kle {a b : Key} (h : klt a b) : kle a b := by
  unfold klt at h; unfold kle
  rcases h with h | ⟨e, h | ⟨f, h | ⟨g, h⟩⟩⟩
  · exact .inl h
  · exact .inr ⟨e, .inl h⟩
  · exact .inr ⟨e, .inr ⟨f, .inl h⟩⟩
  · exact .inr ⟨e, .inr ⟨f, .inr ⟨g, by omega⟩⟩⟩

theorem ltE_false {x y : PyData} : ltE y x = false ↔ kle (keyE x) (keyE y) := by
  unfold ltE
  rw [← not_klt, ← kltB_iff, Bool.not_eq_true]
theorem ltE_true {x y : PyData} : ltE x y = true ↔ klt (keyE x) (keyE y) := by
  unfold ltE; exact kltB_iff
theorem linE : Lin ltE where
  asymm := fun x y h => ltE_false.mpr (klt_kle (ltE_true.mp h))
  trans := fun x y z h1 h2 => ltE_false.mpr (kle_trans (ltE_false.mp h1) (ltE_false.mp h2))

def E4 (x : PyData) : Prop := ∃ s t i j, x = .tuple [.int s, .str t, .int i, .int j]
def E2 (x : PyData) : Prop := ∃ s t, x = .tuple [.int s, .str t]

theorem str_ne {a b : Str} (h : a ≠ b) : a.cps.toList ≠ b.cps.toList := fun e => h (by
  cases a; cases b; simp only [Str.mk.injEq]; exact Array.toList_inj.mp e)

theorem lexI {a b : Int} {xs ys : List PyData} {P : Prop} [Decidable P] (h : tupLt xs ys = some (decide P)) : tupLt (.int a :: xs) (.int b :: ys) = some (decide (a < b ∨ (a = b ∧ P))) := by
  show (match (some (if a = b then none else some (decide (a < b))) : Option (Option Bool)) with
    | some (some b) => some b
    | some none => tupLt xs ys
    | none => none) = _
  by_cases e : a = b
  · rw [if_pos e]; exact h.trans (congrArg some (decide_eq_decide.mpr ⟨fun p => .inr ⟨e, p⟩, fun p => p.elim (fun l => absurd (e ▸ l) (Int.lt_irrefl b)) (·.2)⟩))
  · rw [if_neg e]; exact congrArg some (decide_eq_decide.mpr ⟨.inl, fun p => p.elim id fun p => absurd p.1 e⟩)
theorem lexS {a b : Str} {xs ys : List PyData} {P : Prop} [Decidable P] (h : tupLt xs ys = some (decide P)) : tupLt (.str a :: xs) (.str b :: ys) = some (decide (a.cps.toList < b.cps.toList ∨ (a.cps.toList = b.cps.toList ∧ P))) := by
  show (match (some (if a = b then none else some (ltStr a b)) : Option (Option Bool)) with
    | some (some b) => some b
    | some none => tupLt xs ys
    | none => none) = _
  by_cases e : a = b
  · rw [if_pos e]; exact h.trans (congrArg some (decide_eq_decide.mpr ⟨fun p => .inr ⟨e ▸ rfl, p⟩, fun p => p.elim (fun l => absurd (e ▸ l) (List.lt_irrefl b.cps.toList)) (·.2)⟩))
  · rw [if_neg e]; exact congrArg some (decide_eq_decide.mpr ⟨.inl, fun p => p.elim id fun p => absurd p.1 (str_ne e)⟩)
theorem lex0 : tupLt [] [] = some (decide False) := rfl
theorem drop_false {a : Prop} {p : Prop} : (p ∨ (a ∧ False)) ↔ p := ⟨fun h => h.elim id fun h => h.2.elim, .inl⟩

theorem ordE4 : Ordy ltE E4 := by
  refine ⟨?_⟩
  rintro _ _ ⟨s, t, i, j, rfl⟩ ⟨s', t', i', j', rfl⟩
  exact ⟨_, _, rfl, rfl, (lexI (lexS (lexI (lexI lex0)))).trans (congrArg some (decide_eq_decide.mpr (or_congr Iff.rfl (and_congr Iff.rfl (or_congr Iff.rfl (and_congr Iff.rfl (or_congr Iff.rfl (and_congr Iff.rfl drop_false))))))))⟩
theorem ordE2 : Ordy ltE E2 := by
  refine ⟨?_⟩
  rintro _ _ ⟨s, t, rfl⟩ ⟨s', t', rfl⟩
  exact ⟨_, _, rfl, rfl, (lexI (lexS lex0)).trans (congrArg some (decide_eq_decide.mpr (or_congr Iff.rfl (and_congr Iff.rfl (or_congr Iff.rfl (and_congr Iff.rfl ⟨False.elim, fun h => h.elim (Int.lt_irrefl 0) fun h => Int.lt_irrefl 0 h.2⟩))))))⟩
end Mine
end
section
open PySem
namespace Mine

/-! plain: texts that both patterns stand for, no sign within dots of both -/
inductive R : Pat → Pat → List Nat → Prop
  | nil : R [] [] []
  | da {p q t} : R p q t → R (none :: p) q t
  | db {p q t} : R p q t → R p (none :: q) t
  | ss {p q c t} : R p q t → R (some c :: p) (some c :: q) (c :: t)
  | sd {p q c t} : R p (none :: q) t → R (some c :: p) (none :: q) (c :: t)
  | ds {p q c t} : R (none :: p) q t → R (none :: p) (some c :: q) (c :: t)

theorem R.symm {p q t} (h : R p q t) : R q p t := by
  induction h with
  | nil => exact .nil
  | da _ ih => exact .db ih
  | db _ ih => exact .da ih
  | ss _ ih => exact .ss ih
  | sd _ ih => exact .ds ih
  | ds _ ih => exact .sd ih

/-- shorter first, like ones by their signs -/
def sle (a b : List Nat) : Prop := a.length < b.length ∨ (a.length = b.length ∧ ¬ b < a)
theorem sle_refl (a : List Nat) : sle a a := .inr ⟨rfl, List.lt_irrefl _⟩
theorem sle_trans {a b c : List Nat} (h1 : sle a b) (h2 : sle b c) : sle a c := by
  unfold sle at *
  rcases h1 with h1 | ⟨e1, h1⟩
  · rcases h2 with h2 | ⟨e2, h2⟩ <;> exact .inl (by omega)
  · rcases h2 with h2 | ⟨e2, h2⟩
    · exact .inl (by omega)
    · refine .inr ⟨by omega, fun h => ?_⟩
      rcases lt_tri a b with h3 | h3 | h3
      · rcases lt_tri b c with h4 | h4 | h4
        · exact List.lt_irrefl _ (List.lt_trans (List.lt_trans h h3) h4)
        · subst h4; exact List.lt_irrefl _ (List.lt_trans h h3)
        · exact h2 h4
      · subst h3; exact h2 h
      · exact h1 h3
theorem sle_antisymm {a b : List Nat} (h1 : sle a b) (h2 : sle b a) : a = b := by
  unfold sle at *
  rcases h1 with h1 | ⟨e1, h1⟩
  · rcases h2 with h2 | ⟨e2, h2⟩ <;> omega
  · rcases h2 with h2 | ⟨e2, h2⟩
    · omega
    · rcases lt_tri a b with h3 | h3 | h3
      · exact absurd h3 h2
      · exact h3
      · exact absurd h3 h1
theorem sle_total (a b : List Nat) : sle a b ∨ sle b a := by
  unfold sle
  rcases Nat.lt_trichotomy a.length b.length with h | h | h
  · exact .inl (.inl h)
  · rcases lt_tri a b with h3 | h3 | h3
    · exact .inl (.inr ⟨h, List.lt_asymm h3⟩)
    · exact .inl (.inr ⟨h, by rw [h3]; exact List.lt_irrefl _⟩)
    · exact .inr (.inr ⟨h.symm, List.lt_asymm h3⟩)
  · exact .inr (.inl h)
theorem sle_prefix {u v : List Nat} : sle u (u ++ v) := by
  cases v with
  | nil => rw [List.append_nil]; exact sle_refl _
  | cons a v => exact .inl (by simp)
theorem lt_append_eq : ∀ {u u' v : List Nat}, u.length = u'.length → (u ++ v < u' ++ v ↔ u < u')
  | [], [], v, _ => by simp [List.lt_irrefl]
  | a :: u, b :: u', v, h => by
    simp only [List.cons_append, List.cons_lt_cons_iff]
    rw [lt_append_eq (by simpa using h)]
  | [], _ :: _, _, h => by simp at h
  | _ :: _, [], _, h => by simp at h
theorem sle_append {u u' v : List Nat} (h : sle u u') : sle (u ++ v) (u' ++ v) := by
  unfold sle at *
  rcases h with h | ⟨e, h⟩
  · exact .inl (by simp; omega)
  · exact .inr ⟨by simp; omega, fun x => h ((lt_append_eq e.symm).mp x)⟩
theorem sle_cons {c : Nat} {u v : List Nat} : sle (c :: u) (c :: v) ↔ sle u v := by
  have e : (c :: v < c :: u) ↔ v < u := by rw [List.cons_lt_cons_iff]; simp
  unfold sle
  rw [e]
  simp

/-! the search -/
structure En where
  t : List Nat
  i : Nat
  j : Nat
deriving DecidableEq

def sA (a : Option (Option Nat)) (e : En) : List En := if a = some none then [⟨e.t, e.i + 1, e.j⟩] else []
def sB (b : Option (Option Nat)) (e : En) : List En := if b = some none then [⟨e.t, e.i, e.j + 1⟩] else []
def sC (a b : Option (Option Nat)) (e : En) : List En := match a with
  | some (some c) => if a = b then [⟨e.t ++ [c], e.i + 1, e.j + 1⟩] else []
  | _ => []
def sD (a b : Option (Option Nat)) (e : En) : List En := match a with
  | some (some c) => if b = some none then [⟨e.t ++ [c], e.i + 1, e.j⟩] else []
  | _ => []
def sE (a b : Option (Option Nat)) (e : En) : List En := match b with
  | some (some c) => if a = some none then [⟨e.t ++ [c], e.i, e.j + 1⟩] else []
  | _ => []
def succs (one two : Pat) (e : En) : List En :=
  sE one[e.i]? two[e.j]? e ++ (sD one[e.i]? two[e.j]? e ++ (sC one[e.i]? two[e.j]? e ++ (sB two[e.j]? e ++ sA one[e.i]? e)))

theorem drop_some {ps : Pat} {i : Nat} {u : Option Nat} (h : ps[i]? = some u) : ps.drop i = u :: ps.drop (i + 1) := by
  obtain ⟨hi, e⟩ := List.getElem?_eq_some_iff.mp h
  rw [List.drop_eq_getElem_cons hi, e]
theorem drop_none {ps : Pat} {i : Nat} (h : ps[i]? = none) : ps.drop i = [] := List.drop_of_length_le (List.getElem?_eq_none_iff.mp h)

def Rest (one two : Pat) (e : En) (v : List Nat) : Prop := R (one.drop e.i) (two.drop e.j) v

theorem step_on {one two : Pat} {e : En} {v : List Nat} (h : Rest one two e v) (hn : ¬ (one[e.i]? = none ∧ two[e.j]? = none)) :
    ∃ e' ∈ succs one two e, ∃ v', Rest one two e' v' ∧ e'.t ++ v' = e.t ++ v ∧ e.i + e.j < e'.i + e'.j := by
  unfold Rest at h
  cases ha : one[e.i]? with
  | none =>
    rw [drop_none ha] at h
    cases hb : two[e.j]? with
    | none => exact absurd ⟨ha, hb⟩ hn
    | some u =>
      rw [drop_some hb] at h
      generalize hw : two.drop (e.j + 1) = w at h
      cases h with
      | db h' => exact ⟨⟨e.t, e.i, e.j + 1⟩, by simp [succs, ha, hb, sA, sB, sC, sD, sE], v, by unfold Rest; simp only; rw [drop_none ha, hw]; exact h', rfl, by simp only; omega⟩
  | some u =>
    rw [drop_some ha] at h
    cases hb : two[e.j]? with
    | none =>
      rw [drop_none hb] at h
      generalize hw : one.drop (e.i + 1) = w at h
      cases h with
      | da h' => exact ⟨⟨e.t, e.i + 1, e.j⟩, by simp [succs, ha, hb, sA, sB, sC, sD, sE], v, by unfold Rest; simp only; rw [drop_none hb, hw]; exact h', rfl, by simp only; omega⟩
    | some u' =>
      rw [drop_some hb] at h
      generalize hw : one.drop (e.i + 1) = w at h
      generalize hw' : two.drop (e.j + 1) = w' at h
      cases h with
      | da h' => exact ⟨⟨e.t, e.i + 1, e.j⟩, by simp [succs, ha, hb, sA, sB, sC, sD, sE], v, by unfold Rest; simp only; rw [drop_some hb, hw, hw']; exact h', rfl, by simp only; omega⟩
      | db h' => exact ⟨⟨e.t, e.i, e.j + 1⟩, by simp [succs, ha, hb, sA, sB, sC, sD, sE], v, by unfold Rest; simp only; rw [drop_some ha, hw, hw']; exact h', rfl, by simp only; omega⟩
      | @ss _ _ c t h' => exact ⟨⟨e.t ++ [c], e.i + 1, e.j + 1⟩, by simp [succs, ha, hb, sA, sB, sC, sD, sE], t, by unfold Rest; simp only; rw [hw, hw']; exact h', by simp, by simp only; omega⟩
      | @sd _ _ c t h' => exact ⟨⟨e.t ++ [c], e.i + 1, e.j⟩, by simp [succs, ha, hb, sA, sB, sC, sD, sE], t, by unfold Rest; simp only; rw [drop_some hb, hw, hw']; exact h', by simp, by simp only; omega⟩
      | @ds _ _ c t h' => exact ⟨⟨e.t ++ [c], e.i, e.j + 1⟩, by simp [succs, ha, hb, sA, sB, sC, sD, sE], t, by unfold Rest; simp only; rw [drop_some ha, hw, hw']; exact h', by simp, by simp only; omega⟩

structure EnOk (one two : Pat) (e : En) : Prop where
  bi : e.i ≤ one.length
  bj : e.j ≤ two.length
  bt : e.t.length ≤ e.i + e.j
  sg : ∀ c ∈ e.t, c < 0x110000
  sound : ∀ v, Rest one two e v → R one two (e.t ++ v)

theorem succ_ok {one two : Pat} {e e' : En} (h1 : SOk one) (h2 : SOk two) (h : EnOk one two e) (hm : e' ∈ succs one two e) : EnOk one two e' ∧ sle e.t e'.t := by
  unfold succs at hm
  simp only [List.mem_append] at hm
  have bi : ∀ u, one[e.i]? = some u → e.i + 1 ≤ one.length := fun u hu => (List.getElem?_eq_some_iff.mp hu).1
  have bj : ∀ u, two[e.j]? = some u → e.j + 1 ≤ two.length := fun u hu => (List.getElem?_eq_some_iff.mp hu).1
  have gi : ∀ c, one[e.i]? = some (some c) → c < 0x110000 := fun c hc => (h1 c (List.mem_of_getElem? hc)).2
  have gj : ∀ c, two[e.j]? = some (some c) → c < 0x110000 := fun c hc => (h2 c (List.mem_of_getElem? hc)).2
  have snoc : ∀ c, c < 0x110000 → ∀ d ∈ e.t ++ [c], d < 0x110000 := fun c hc d hd => by
    rcases List.mem_append.mp hd with hd | hd
    · exact h.sg d hd
    · rw [List.mem_singleton.mp hd]; exact hc
  rcases hm with hm | hm | hm | hm | hm
  · unfold sE at hm
    split at hm
    · next c hb =>
      split at hm
      · next ha =>
        rw [List.mem_singleton.mp hm]
        refine ⟨⟨h.bi, bj _ hb, by have := h.bt; simp; omega, snoc c (gj c hb), fun v hv => ?_⟩, sle_prefix⟩
        have := h.sound (c :: v) (by unfold Rest at hv ⊢; simp only at hv; rw [drop_some ha, drop_some hb]; rw [drop_some ha] at hv; exact .ds hv)
        simpa using this
      · simp at hm
    · simp at hm
  · unfold sD at hm
    split at hm
    · next c ha =>
      split at hm
      · next hb =>
        rw [List.mem_singleton.mp hm]
        refine ⟨⟨bi _ ha, h.bj, by have := h.bt; simp; omega, snoc c (gi c ha), fun v hv => ?_⟩, sle_prefix⟩
        have := h.sound (c :: v) (by unfold Rest at hv ⊢; simp only at hv; rw [drop_some ha, drop_some hb]; rw [drop_some hb] at hv; exact .sd hv)
        simpa using this
      · simp at hm
    · simp at hm
  · unfold sC at hm
    split at hm
    · next c ha =>
      split at hm
      · next hab =>
        have hb : two[e.j]? = some (some c) := hab ▸ ha
        rw [List.mem_singleton.mp hm]
        refine ⟨⟨bi _ ha, bj _ hb, by have := h.bt; simp; omega, snoc c (gi c ha), fun v hv => ?_⟩, sle_prefix⟩
        have := h.sound (c :: v) (by unfold Rest at hv ⊢; simp only at hv; rw [drop_some ha, drop_some hb]; exact .ss hv)
        simpa using this
      · simp at hm
    · simp at hm
  · unfold sB at hm
    split at hm
    · next hb =>
      rw [List.mem_singleton.mp hm]
      exact ⟨⟨h.bi, bj _ hb, by have := h.bt; simp; omega, h.sg, fun v hv => h.sound v (by unfold Rest at hv ⊢; rw [drop_some hb]; exact .db hv)⟩, sle_refl _⟩
    · simp at hm
  · unfold sA at hm
    split at hm
    · next ha =>
      rw [List.mem_singleton.mp hm]
      exact ⟨⟨bi _ ha, h.bj, by have := h.bt; simp; omega, h.sg, fun v hv => h.sound v (by unfold Rest at hv ⊢; rw [drop_some ha]; exact .da hv)⟩, sle_refl _⟩
    · simp at hm

theorem succs_len {one two : Pat} {e : En} : (succs one two e).length ≤ 2 := by
  unfold succs sA sB sC sD sE
  cases ha : one[e.i]? with
  | none => cases hb : two[e.j]? with
    | none => simp
    | some u => cases u <;> simp
  | some u => cases u with
    | none => cases hb : two[e.j]? with
      | none => simp
      | some u => cases u <;> simp
    | some c => cases hb : two[e.j]? with
      | none => simp
      | some u => cases u with
        | none => simp
        | some d =>
          simp only [Option.some.injEq, reduceCtorEq, if_false, List.nil_append, List.append_nil]
          split <;> simp

structure Inv (one two : Pat) (es : List En) (sn : List En) : Prop where
  ok : ∀ e ∈ es, EnOk one two e
  cov : ∀ t, R one two t → ∃ e ∈ es, ∃ v, Rest one two e v ∧ sle (e.t ++ v) t
  seen : ∀ d ∈ sn, ∀ v, Rest one two d v → ∃ e ∈ es, d.i + d.j < e.i + e.j ∧ ∃ v', Rest one two e v' ∧ sle (e.t ++ v') (d.t ++ v)
  old : ∀ d ∈ sn, ∀ e ∈ es, sle d.t e.t

theorem Inv.start {one two : Pat} : Inv one two [⟨[], 0, 0⟩] [] where
  ok := fun e he => by rw [List.mem_singleton.mp he]; exact ⟨Nat.zero_le _, Nat.zero_le _, by simp, by simp, fun v hv => by simpa [Rest] using hv⟩
  cov := fun t ht => ⟨_, List.mem_singleton.mpr rfl, t, by simpa [Rest] using ht, sle_refl _⟩
  seen := fun d hd => by simp at hd
  old := fun d hd => by simp at hd

theorem Inv.perm {one two : Pat} {es es' sn : List En} (h : Inv one two es sn) (p : es.Perm es') : Inv one two es' sn where
  ok := fun e he => h.ok e (p.mem_iff.mpr he)
  cov := fun t ht => let ⟨e, he, r⟩ := h.cov t ht; ⟨e, p.mem_iff.mp he, r⟩
  seen := fun d hd v hv => let ⟨e, he, r⟩ := h.seen d hd v hv; ⟨e, p.mem_iff.mp he, r⟩
  old := fun d hd e he => h.old d hd e (p.mem_iff.mpr he)

theorem Inv.final {one two : Pat} {es sn : List En} {e : En} (h : Inv one two (e :: es) sn) (least : ∀ e' ∈ e :: es, sle e.t e'.t) (ha : one[e.i]? = none) (hb : two[e.j]? = none) : R one two e.t ∧ ∀ t, R one two t → sle e.t t := by
  refine ⟨?_, fun t ht => ?_⟩
  · have := (h.ok e List.mem_cons_self).sound [] (by unfold Rest; rw [drop_none ha, drop_none hb]; exact .nil)
    simpa using this
  · obtain ⟨e', he', v, _, h2⟩ := h.cov t ht
    exact sle_trans (least e' he') (sle_trans sle_prefix h2)

theorem Inv.skip {one two : Pat} {es sn : List En} {e d : En} (h : Inv one two (e :: es) sn) (hd : d ∈ sn) (hi : d.i = e.i) (hj : d.j = e.j) : Inv one two es sn := by
  have key : ∀ v, Rest one two e v → ∃ e2 ∈ es, e.i + e.j < e2.i + e2.j ∧ ∃ v', Rest one two e2 v' ∧ sle (e2.t ++ v') (e.t ++ v) := fun v hv => by
    obtain ⟨e2, he2, hs, v', hv', hl⟩ := h.seen d hd v (by unfold Rest at hv ⊢; rw [hi, hj]; exact hv)
    refine ⟨e2, ?_, by omega, v', hv', sle_trans hl (sle_append (h.old d hd e List.mem_cons_self))⟩
    rcases List.mem_cons.mp he2 with rfl | he2
    · omega
    · exact he2
  refine ⟨fun x hx => h.ok x (List.mem_cons_of_mem _ hx), fun t ht => ?_, fun a ha v hv => ?_, fun a ha x hx => h.old a ha x (List.mem_cons_of_mem _ hx)⟩
  · obtain ⟨x, hx, v, hv, hl⟩ := h.cov t ht
    rcases List.mem_cons.mp hx with rfl | hx
    · obtain ⟨e2, he2, _, v', hv', hl'⟩ := key v hv
      exact ⟨e2, he2, v', hv', sle_trans hl' hl⟩
    · exact ⟨x, hx, v, hv, hl⟩
  · obtain ⟨x, hx, hs, v1, hv1, hl⟩ := h.seen a ha v hv
    rcases List.mem_cons.mp hx with rfl | hx
    · obtain ⟨e2, he2, hs2, v', hv', hl'⟩ := key v1 hv1
      exact ⟨e2, he2, by omega, v', hv', sle_trans hl' hl⟩
    · exact ⟨x, hx, hs, v1, hv1, hl⟩

theorem Inv.expand {one two : Pat} {es sn : List En} {e : En} (h1 : SOk one) (h2 : SOk two) (h : Inv one two (e :: es) sn) (least : ∀ e' ∈ e :: es, sle e.t e'.t) (hn : ¬ (one[e.i]? = none ∧ two[e.j]? = none)) : Inv one two (succs one two e ++ es) (e :: sn) := by
  have hok := h.ok e List.mem_cons_self
  have mem : ∀ x ∈ es, x ∈ succs one two e ++ es := fun x hx => List.mem_append_right _ hx
  refine ⟨fun x hx => ?_, fun t ht => ?_, fun a ha v hv => ?_, fun a ha x hx => ?_⟩
  · rcases List.mem_append.mp hx with hx | hx
    · exact (succ_ok h1 h2 hok hx).1
    · exact h.ok x (List.mem_cons_of_mem _ hx)
  · obtain ⟨x, hx, v, hv, hl⟩ := h.cov t ht
    rcases List.mem_cons.mp hx with rfl | hx
    · obtain ⟨e', he', v', hv', e1, _⟩ := step_on hv hn
      exact ⟨e', List.mem_append_left _ he', v', hv', e1 ▸ hl⟩
    · exact ⟨x, mem x hx, v, hv, hl⟩
  · rcases List.mem_cons.mp ha with rfl | ha
    · obtain ⟨e', he', v', hv', e1, hs⟩ := step_on hv hn
      exact ⟨e', List.mem_append_left _ he', hs, v', hv', e1 ▸ sle_refl _⟩
    · obtain ⟨x, hx, hs, v1, hv1, hl⟩ := h.seen a ha v hv
      rcases List.mem_cons.mp hx with rfl | hx
      · obtain ⟨e', he', v', hv', e1, hs2⟩ := step_on hv1 hn
        exact ⟨e', List.mem_append_left _ he', by omega, v', hv', e1 ▸ hl⟩
      · exact ⟨x, mem x hx, hs, v1, hv1, hl⟩
  · have he : sle a.t e.t := by
      rcases List.mem_cons.mp ha with rfl | ha
      · exact sle_refl _
      · exact h.old a ha e List.mem_cons_self
    rcases List.mem_append.mp hx with hx | hx
    · exact sle_trans he (succ_ok h1 h2 hok hx).2
    · exact sle_trans he (least x (List.mem_cons_of_mem _ hx))
end Mine
end
section
namespace Mine
def enc : Option Nat → PyData
  | some c => .str (tx [c])
  | none => .str dots
def encP (ps : Pat) : PyData := .list (ps.map enc)

def pc1 (x : Int) : Option Nat := if Int.fmod x 3 = 0 then some 97 else if Int.fmod x 3 = 1 then some 98 else none

theorem fmod3 (x : Int) : Int.fmod x 3 = 0 ∨ Int.fmod x 3 = 1 ∨ Int.fmod x 3 = 2 := by
  rw [Int.fmod_eq_emod_of_nonneg _ (by decide)]; omega
theorem a_tx : Str.ofString "a" = tx [97] := by decide
theorem b_tx : Str.ofString "b" = tx [98] := by decide
theorem n_tx : Str.ofString "\n" = tx [10] := by decide
theorem e_tx : Str.ofString "" = tx [] := by decide

def encL : Option Nat → List Nat := unit
theorem enc_unit (u : Option Nat) : enc u = .str (tx (unit u)) := by
  cases u with
  | none => simp [enc, unit, dots_tx]
  | some c => rfl
theorem enc_map (ps : Pat) : ps.map enc = (ps.map unit).map fun l => .str (tx l) := by
  rw [List.map_map]; exact List.map_congr_left fun u _ => enc_unit u

theorem tx_append {a b : List Nat} : tx a ++ tx b = tx (a ++ b) := by
  show Str.append _ _ = _
  unfold Str.append tx; simp

theorem glue_fold : ∀ (ls : List (List Nat)) (acc : List Nat), (ls.map tx).foldl (fun acc p => acc ++ (tx []).cps ++ p.cps) acc.toArray = (acc ++ ls.flatten).toArray
  | [], acc => by simp
  | l :: ls, acc => by
    simp only [List.map_cons, List.foldl_cons]
    have : acc.toArray ++ (tx []).cps ++ (tx l).cps = (acc ++ l).toArray := by simp [tx]
    rw [this, glue_fold ls (acc ++ l)]
    simp
theorem join_tx (ls : List (List Nat)) : Txt.join (tx []) (ls.map tx) = tx ls.flatten := by
  unfold Txt.join Builtin.Str.glued
  cases ls with
  | nil => rfl
  | cons l ls =>
    simp only [List.map_cons, List.drop_succ_cons, List.drop_zero, List.headD_cons]
    have := glue_fold ls l
    rw [show (tx l).cps = l.toArray from rfl, this]; rfl
theorem joinOk_tx (ls : List (List Nat)) (h : ls.flatten.length ≤ 2 ^ 20) : JoinOk (tx []) (ls.map tx) = true := by
  unfold JoinOk
  have key : ∀ (ls : List (List Nat)) (n : Nat), (ls.map tx).foldl (fun acc p => acc + p.length + (tx []).length) n = n + ls.flatten.length := by
    intro ls
    induction ls with
    | nil => intro n; simp
    | cons l ls ih => intro n; simp only [List.map_cons, List.foldl_cons, List.flatten_cons, List.length_append]; rw [ih]; simp [tx_len]; omega
  have e : (ls.map tx).toArray.foldl (fun acc p => acc + p.length + (tx []).length) 0 = ls.flatten.length := by
    rw [List.foldl_toArray]; have := key ls 0; simpa using this
  rw [e]
  have hs : ls.flatten.length ≤ sizeLine := Nat.le_trans h (by decide)
  unfold Builtin.Str.tooLong
  rw [decide_eq_false (Nat.not_lt.mpr hs)]; rfl
theorem flat_flatten (ps : Pat) : (ps.map unit).flatten = flat ps := by rw [flat, List.flatMap_def]
theorem flat_len (ps : Pat) : (flat ps).length ≤ 3 * ps.length := by
  induction ps with
  | nil => simp [flat]
  | cons u ps ih => rw [flat_cons]; cases u <;> simp [unit] <;> omega

/-- with a run in the place of the dots -/
def fillU (run : List Nat) : Option Nat → List Nat
  | some c => [c]
  | none => run
def fill (ps : Pat) (run : List Nat) : List Nat := ps.flatMap (fillU run)
theorem fill_cons {u : Option Nat} {ps : Pat} {run : List Nat} : fill (u :: ps) run = fillU run u ++ fill ps run := by simp [fill]
theorem fill_len {run : List Nat} (h2 : run.length ≤ 1000) : ∀ ps : Pat, (fill ps run).length ≤ 1000 * ps.length
  | [] => by simp [fill]
  | u :: ps => by
    have := fill_len h2 ps
    rw [fill_cons, List.length_append, List.length_cons]
    cases u <;> simp [fillU] <;> omega

theorem strOk_tx {l : List Nat} (h : ∀ c ∈ l, c < 0x110000) : PyData.strOk (tx l) = true := by
  unfold PyData.strOk tx
  simpa using h
theorem okEq_str {a b : Str} (ha : PyData.strOk a = true) (hb : PyData.strOk b = true) : okEq (.str a) (.str b) = true := by
  simp [okEq, PyData.canLay0, ha, hb, PyData.depth]
theorem strOk_dots : PyData.strOk dots = true := by decide +kernel


theorem line20 {n : Nat} (h : n ≤ 2 ^ 20) : n ≤ sizeLine := Nat.le_trans h (by decide)
theorem three_tx : Str.ofString "..." = dots := rfl
section
variable {c : Cx} {μ : Mem}

theorem sem_pieces1 {ns : List Int} (hz : ns.length ≤ 4096) : Says (f_law_pieces c) [.d (.list (ns.map .int))] μ (.d (encP (ns.map pc1))) μ := by
  refine mfun_ret rfl take_all fun R hR => ?_
  refine comp_map ns .int (fun n => enc (pc1 n)) rfl (by show 0 + _ ≤ _; exact (Nat.zero_add _).symm ▸ line20 (by omega)) (fun n _ o k ho hk => ?_) ?_
  · refine And.intro (by decide) ?_
    unfold pc1 at hk
    rcases fmod3 n with h | h | h
    · rw [h] at hk ⊢
      exact idxP.dat (n := 0) (by show 3 < 2 ^ 31; decide) rfl ⟨ho, hk⟩
    · rw [h] at hk ⊢
      exact idxP.dat (n := 1) (by show 3 < 2 ^ 31; decide) rfl ⟨ho, hk⟩
    · rw [h] at hk ⊢
      exact idxP.dat (n := 2) (by show 3 < 2 ^ 31; decide) rfl ⟨ho, hk⟩
  · have := hR [some (.d (.list (ns.map .int))), none]
    rw [encP, List.map_map] at this
    exact this

theorem str_map {α : Type} (l : List α) (f : α → List Nat) : (l.map fun a => PyData.str (tx (f a))) = ((l.map f).map tx).map .str := by
  rw [List.map_map, List.map_map]; rfl
theorem enc_strs (ps : Pat) : ps.map enc = ((ps.map unit).map tx).map .str := by rw [enc_map, List.map_map, List.map_map, List.map_map]; rfl
theorem joinOk_pat {ps : Pat} (h : ps.length ≤ 1000) : JoinOk (Str.ofString "") ((ps.map unit).map tx) = true := by
  rw [e_tx]; exact joinOk_tx _ (by rw [flat_flatten]; have := flat_len ps; omega)
theorem join_pat (ps : Pat) : Txt.join (Str.ofString "") ((ps.map unit).map tx) = tx (flat ps) := by rw [e_tx, join_tx, flat_flatten]

def bothD (one two : Pat) (t : List Nat) : PyData := .list [.bool (emB (tx (flat one)) (tx t)), .bool (emB (tx (flat two)) (tx t))]

theorem sem_both1 {F : List AV → Mem → KE → Prop} {one two : Pat} {t : List Nat} (hF : c.fns "_ellipsis_match" = some F) (h1 : one.length ≤ 1000) (h2 : two.length ≤ 1000)
    (h : ∀ ps, ps = one ∨ ps = two → Says F [.d (.str (tx (flat ps))), .d (.str (tx t))] μ (.d (.bool (emB (tx (flat ps)) (tx t)))) μ) :
    Says (f_law_both c) [.d (encP one), .d (encP two), .d (.str (tx t))] μ (.d (bothD one two t)) μ := by
  refine mfun_ret rfl take_all fun R hR => ?_
  refine comp_map [one, two] encP (fun ps => .bool (emB (tx (flat ps)) (tx t))) rfl (line20 (by show 2 ≤ 2 ^ 20; decide)) (fun ps hps o k ho hk => ?_) (hR _)
  have hps : ps = one ∨ ps = two := by
    rcases List.mem_cons.mp hps with h | h
    · exact .inl h
    · exact .inr (List.mem_singleton.mp h)
  refine ⟨F, hF, trivial, (ps.map unit).map tx, enc_strs ps, joinOk_pat (by rcases hps with rfl | rfl <;> assumption), ?_⟩
  rw [join_pat]
  exact h ps hps _ ⟨ho, hk⟩

theorem enc_ok {u : Option Nat} (h : ∀ d, u = some d → d ≠ 46 ∧ d < 0x110000) : okEq (enc u) (.str (Str.ofString "...")) = true := by
  cases u with
  | none => exact okEq_str strOk_dots strOk_dots
  | some d => exact okEq_str (strOk_tx (fun c hc => by rw [List.mem_singleton.mp hc]; exact (h d rfl).2)) strOk_dots
theorem enc_eqv {u : Option Nat} : PyData.eqv (enc u) (.str (Str.ofString "...")) = decide (u = none) := by
  cases u with
  | none => decide +kernel
  | some d =>
    show (tx [d] == dots) = _
    rw [dots_tx, beq_eq_false_iff_ne.mpr (fun e => by have := tx_inj.mp e; simp at this)]; rfl

theorem sem_filled1 {ps : Pat} {run : List Nat} (hs : SOk ps) (h1 : ps.length ≤ 1000) (h2 : run.length ≤ 1000) :
    Says (f_law_filled c) [.d (encP ps), .d (.str (tx run))] μ (.d (.str (tx (fill ps run)))) μ := by
  refine mfun_ret rfl take_all fun R hR => ?_
  have hfl : (ps.map (fillU run)).flatten = fill ps run := by rw [fill, List.flatMap_def]
  refine And.intro trivial ?_
  refine comp_map ps enc (fun u => .str (tx (fillU run u))) rfl (line20 (by show 0 + _ ≤ _; omega)) (fun u hu o k ho hk => ?_) ?_
  · refine And.intro (enc_ok fun d hd => hs d (hd ▸ hu)) ?_
    rw [enc_eqv]
    refine And.intro (fun h => ?_) (fun h => ?_)
    · cases of_decide_eq_true h; exact ⟨ho, hk⟩
    · cases u with
      | none => cases h
      | some d => exact ⟨ho, hk⟩
  · refine ⟨(ps.map (fillU run)).map tx, str_map ps (fillU run), ?_, ?_⟩
    · rw [e_tx]; exact joinOk_tx _ (by rw [hfl]; have := fill_len h2 ps; omega)
    · rw [e_tx, join_tx, hfl]; exact hR _
end
end Mine
end
section
namespace Mine
theorem clip_nat {n k : Nat} : clipAt n (k : Int) = min k n := by
  have := clipAt_cast n (k : Int)
  simp only [show ¬ ((k : Int) < 0) by omega, if_false] at this
  omega
theorem cut_to {t : List Nat} {k : Nat} (h : k ≤ t.length) : cutS (tx t) none (some (k : Int)) = tx (t.take k) := by
  rw [cutS_eq]
  simp only [tx_len, Option.elim_none, Option.elim_some, clip_nat, List.drop_zero, Nat.sub_zero, Nat.min_eq_left h]
  rfl
theorem cut_from {t : List Nat} {k : Nat} : cutS (tx t) (some (k : Int)) none = tx (t.drop k) := by
  rw [cutS_eq]
  simp only [tx_len, Option.elim_none, Option.elim_some, clip_nat]
  show tx ((t.drop (min k t.length)).take (t.length - min k t.length)) = _
  rcases Nat.le_total k t.length with h | h
  · rw [Nat.min_eq_left h, List.take_of_length_le (by simp)]
  · rw [Nat.min_eq_right h, List.drop_of_length_le h]; simp


theorem both_ok {one two : Pat} {t : List Nat} : okEq (bothD one two t) (.list [.bool true, .bool true]) = true := by
  unfold bothD
  cases emB (tx (flat one)) (tx t) <;> cases emB (tx (flat two)) (tx t) <;> decide +kernel
theorem both_eqv {one two : Pat} {t : List Nat} : PyData.eqv (bothD one two t) (.list [.bool true, .bool true]) = (emB (tx (flat one)) (tx t) && emB (tx (flat two)) (tx t)) := by
  unfold bothD
  cases emB (tx (flat one)) (tx t) <;> cases emB (tx (flat two)) (tx t) <;> decide +kernel

def NoneShorter (one two : Pat) (t : List Nat) : Prop :=
  (emB (tx (flat one)) (tx t) && emB (tx (flat two)) (tx t)) = true ∧ ∀ k, k < t.length → (emB (tx (flat one)) (tx (t.take k ++ t.drop (k + 1))) && emB (tx (flat two)) (tx (t.take k ++ t.drop (k + 1)))) = false

def Small (t : List Nat) : Prop := t.length ≤ 100 ∧ ∀ c ∈ t, c < 0x110000
theorem Small.cut {t : List Nat} (h : Small t) (k : Nat) : Small (t.take k ++ t.drop (k + 1)) := by
  refine ⟨?_, fun c hc => ?_⟩
  · have := h.1; simp only [List.length_append, List.length_take, List.length_drop]; omega
  · rcases List.mem_append.mp hc with hc | hc
    · exact h.2 c (List.mem_of_mem_take hc)
    · exact h.2 c (List.mem_of_mem_drop hc)


def encC (tl : List (List Nat)) : PyData := .list (tl.map fun t => .str (tx t))
section
variable {c : Cx} {μ : Mem}
theorem sem_none_shorter {F : List AV → Mem → KE → Prop} {one two : Pat} {tl : List (List Nat)} (hF : c.fns "_law_both" = some F)
    (h : ∀ t, Small t → Says F [.d (encP one), .d (encP two), .d (.str (tx t))] μ (.d (bothD one two t)) μ) (ht : ∀ t ∈ tl, Small t ∧ NoneShorter one two t) :
    Says (f_law_none_shorter c) [.d (encP one), .d (encP two), .d (encC tl)] μ (.d (.bool true)) μ := by
  refine mfun_ret rfl take_all fun R hR => ?_
  refine for_mk (fun ds σ m => ∃ tl' x3 x4, ds = (tl'.map fun t => .str (tx t)) ∧ (∀ t ∈ tl', t ∈ tl) ∧ μ = m ∧ σ = [some (.d (encP one)), some (.d (encP two)), some (.d (encC tl)), x3, x4]) ⟨tl, _, _, rfl, fun _ h => h, rfl, rfl⟩ ?_ ?_
  · rintro d ds _ _ Z hn - - - ⟨tl', x3, x4, e, hm, rfl, rfl⟩
    cases tl' with
    | nil => cases e
    | cons t tl' =>
      cases e
      obtain ⟨hts, ht2, ht3⟩ := ht t (hm t List.mem_cons_self)
      have ht1 := hts.1
      refine ⟨F, hF, h t hts _ ⟨both_ok, ?_⟩⟩
      rw [both_eqv, ht2]
      refine condP.f rfl ?_
      refine And.intro (by rw [tx_len]; omega) ⟨t.length, by rw [tx_len], by omega, ?_⟩
      refine for_mk (fun ds σ m => ∃ (ks : List Nat) (x4 : Option AV), ds = (ks.map fun (i : Nat) => .int (i : Int)) ∧ (∀ k ∈ ks, k < t.length) ∧ μ = m ∧ σ = [some (.d (encP one)), some (.d (encP two)), some (.d (encC tl)), some (.d (.str (tx t))), x4]) ⟨List.range t.length, _, rfl, fun k hk => List.mem_range.mp hk, rfl, rfl⟩ ?_ ?_
      · rintro d ds _ _ Y hy - - - ⟨ks, x4, e, hk, rfl, rfl⟩
        cases ks with
        | nil => cases e
        | cons k ks =>
          cases e
          have hkt := hk k List.mem_cons_self
          have c1 := cut_to (t := t) (k := k) (by omega)
          have c2 : cutS (tx t) (some ((k : Int) + 1)) none = tx (t.drop (k + 1)) := cut_from (k := k + 1)
          have hline : (tx t).length ≤ sizeLine := by rw [tx_len]; exact Nat.le_trans ht1 (by decide)
          have hap : (tx (t.take k)).length + (tx (t.drop (k + 1))).length ≤ sizeLine := by
            rw [tx_len] at hline
            rw [tx_len, tx_len, List.length_take, List.length_drop]; omega
          refine ⟨F, hF, rfl, hline, rfl, hline, ?_⟩
          rw [c1, c2]
          refine And.intro hap ?_
          rw [tx_append]
          refine h _ (hts.cut k) _ ⟨both_ok, ?_⟩
          rw [both_eqv, ht3 k hkt]
          exact condP.f rfl (hy _ _ ⟨ks, _, rfl, fun j hj => hk j (List.mem_cons_of_mem _ hj), rfl, rfl⟩)
      · rintro _ _ ⟨ks, x4, -, -, rfl, rfl⟩
        exact hn _ _ ⟨tl', _, _, rfl, fun t' ht' => hm t' (List.mem_cons_of_mem _ ht'), rfl, rfl⟩
  · rintro _ _ ⟨_, _, _, _, _, rfl, rfl⟩
    exact hR _

theorem emB_true {ps : Pat} {t : List Nat} (hs : SOk ps) (h : gm ps t) : emB (tx (flat ps)) (tx t) = true := (emB_gm hs).mpr h
theorem emB_false {ps : Pat} {t : List Nat} (hs : SOk ps) (h : ¬ gm ps t) : emB (tx (flat ps)) (tx t) = false := by
  cases e : emB (tx (flat ps)) (tx t)
  · rfl
  · exact absurd ((emB_gm hs).mp e) h


theorem bool_ok {a b : Bool} : okEq (.bool a) (.bool b) = true := by cases a <;> cases b <;> decide +kernel
theorem bool_eqv {a b : Bool} : PyData.eqv (.bool a) (.bool b) = (a == b) := by cases a <;> cases b <;> decide +kernel
theorem texts_lay {tl : List (List Nat)} (h : ∀ t ∈ tl, ∀ c ∈ t, c < 0x110000) : PyData.canLayAll0 (tl.map fun t => .str (tx t)) = true ∧ PyData.depthAll (tl.map fun t => .str (tx t)) ≤ 1 := by
  induction tl with
  | nil => exact ⟨rfl, by decide⟩
  | cons t tl ih =>
    obtain ⟨i1, i2⟩ := ih fun t ht => h t (List.mem_cons_of_mem _ ht)
    refine ⟨?_, ?_⟩
    · simp only [List.map_cons, PyData.canLayAll0, PyData.canLay0, i1, Bool.and_true]; exact strOk_tx (h t List.mem_cons_self)
    · simp only [List.map_cons, PyData.depthAll, PyData.depth]; omega
theorem texts_ok {tl : List (List Nat)} (h : ∀ t ∈ tl, ∀ c ∈ t, c < 0x110000) : okEq (encC tl) (.list []) = true := by
  obtain ⟨i1, i2⟩ := texts_lay h
  simp only [okEq, encC, PyData.canLay0, i1, Bool.true_and, PyData.canLayAll0, PyData.depth]; exact decide_eq_true (by omega)
theorem texts_eqv {tl : List (List Nat)} : PyData.eqv (encC tl) (.list []) = tl.isEmpty := by
  unfold encC
  cases tl <;> simp [PyData.eqv, PyData.eqvAll]

def OwnOk (one two : Pat) (tl : List (List Nat)) (run : List Nat) : Prop :=
  emB (tx (flat one)) (tx (fill one run)) = true ∧ (tl = [] → emB (tx (flat two)) (tx (fill one run)) = false)


theorem sem_own {F H : List AV → Mem → KE → Prop} {one two : Pat} {tl : List (List Nat)} (hF : c.fns "_law_both" = some F) (hH : c.fns "_law_filled" = some H)
    (hr : ∀ run, Small run → Says H [.d (encP one), .d (.str (tx run))] μ (.d (.str (tx (fill one run)))) μ) (hr2 : Says H [.d (encP two), .d (.str (tx []))] μ (.d (.str (tx (fill two [])))) μ) (h1 : Small (fill two []))
    (h : ∀ run, Small run → Says F [.d (encP one), .d (encP two), .d (.str (tx (fill one run)))] μ (.d (bothD one two (fill one run))) μ) (ht : ∀ t ∈ tl, ∀ c ∈ t, c < 0x110000) (ho : OwnOk one two tl []) (ho2 : OwnOk one two tl (fill two [])) :
    Says (f_law_own c) [.d (encP one), .d (encP two), .d (encC tl)] μ (.d (.bool true)) μ := by
  refine mfun_ret rfl take_all fun R hR => ?_
  refine ⟨H, hH, ?_⟩
  show H [.d (encP two), .d (.str (Str.ofString ""))] μ _
  rw [e_tx]
  refine hr2 _ ?_
  refine for_mk (fun ds σ m => ∃ (rs : List (List Nat)) (x3 x4 : Option AV), ds = (rs.map fun t => .str (tx t)) ∧ (∀ run ∈ rs, Small run ∧ OwnOk one two tl run) ∧ μ = m ∧ σ = [some (.d (encP one)), some (.d (encP two)), some (.d (encC tl)), x3, x4]) ⟨[[], fill two []], _, _, by rw [← e_tx]; rfl, fun run hm => ?_, rfl, rfl⟩ ?_ ?_
  · rcases List.mem_cons.mp hm with rfl | hm
    · exact ⟨⟨by simp, by simp⟩, ho⟩
    · cases List.mem_singleton.mp hm; exact ⟨h1, ho2⟩
  · rintro d ds _ _ Z hn - - - ⟨rs, x3, x4, e, hm, rfl, rfl⟩
    cases rs with
    | nil => cases e
    | cons run rs =>
      cases e
      obtain ⟨hl, hb1, hb2⟩ := hm run List.mem_cons_self
      have fin : ∀ x, Z .next [some (.d (encP one)), some (.d (encP two)), some (.d (encC tl)), some (.d (.str (tx run))), x] μ := fun x => hn _ _ ⟨rs, _, _, rfl, fun r hr => hm r (List.mem_cons_of_mem _ hr), rfl, rfl⟩
      refine ⟨F, hF, H, hH, hr run hl _ (h run hl _ ?_)⟩
      refine idxP.dat (μ := μ) (n := 0) (xs := [.bool (emB (tx (flat one)) (tx (fill one run))), .bool (emB (tx (flat two)) (tx (fill one run)))]) (by show 2 < 2 ^ 31; decide) rfl ⟨bool_ok, ?_⟩
      rw [bool_eqv, hb1]
      refine condP.f rfl ⟨texts_ok ht, ?_⟩
      rw [texts_eqv]
      refine And.intro (fun htl => ?_) (fun _ => condP.f rfl (fin _))
      refine idxP.dat (μ := μ) (n := 1) (xs := [.bool (emB (tx (flat one)) (tx (fill one run))), .bool (emB (tx (flat two)) (tx (fill one run)))]) (by show 2 < 2 ^ 31; decide) rfl ⟨bool_ok, ?_⟩
      rw [bool_eqv, hb2 (List.isEmpty_iff.mp htl)]
      exact condP.f rfl (fin _)
  · rintro _ _ ⟨_, _, _, _, _, rfl, rfl⟩
    exact hR _
end
end Mine
end
section
namespace Mine

def encE (e : En) : PyData := .tuple [.int e.t.length, .str (tx e.t), .int e.i, .int e.j]
theorem encE_E4 (e : En) : E4 (encE e) := ⟨_, _, _, _, rfl⟩
theorem keyE_enc (e : En) : keyE (encE e) = ⟨e.t.length, e.t, e.i, e.j⟩ := rfl
theorem sle_of_le {e e' : En} (h : ltE (encE e') (encE e) = false) : sle e.t e'.t := by
  have h := ltE_false.mp h
  rw [keyE_enc, keyE_enc] at h
  rcases h with h | ⟨h1, h⟩
  · exact .inl (Int.ofNat_lt.mp h)
  · refine .inr ⟨Int.ofNat_inj.mp h1, ?_⟩
    rcases h with h | ⟨h, _⟩
    · exact List.lt_asymm h
    · show ¬ e'.t < e.t
      rw [show e.t = e'.t from h]; exact List.lt_irrefl _

/-! heap calls as the laws use them -/
def PopOk (E : PyData → Prop) (F : List AV → Mem → KE → Prop) : Prop :=
  ∀ (H : List PyData) (k : Nat) (m : Mem), m[k]? = some (.lst H) → IsHeap ltE H → (∀ y ∈ H, E y) → H ≠ [] → H.length < 2990 → ∃ x H', IsHeap ltE H' ∧ (x :: H').Perm H ∧ (∀ y ∈ H, ltE y x = false) ∧ Says F [.h k] m (.d x) (m.set k (.lst H'))
def PushOk (E : PyData → Prop) (F : List AV → Mem → KE → Prop) : Prop :=
  ∀ (H : List PyData) (k : Nat) (m : Mem) (x : PyData), m[k]? = some (.lst H) → IsHeap ltE H → (∀ y ∈ H, E y) → E x → H.length < 2990 → ∃ H', IsHeap ltE H' ∧ H'.Perm (x :: H) ∧ Says F [.h k, .d x] m (.d .none) (m.set k (.lst H'))

/-! slices of one -/
def la : Option (Option Nat) → PyData
  | none => .list []
  | some u => .list [enc u]
theorem pick_one {α : Type} {xs : List α} {i : Nat} : pickL xs (some (i : Int)) (some ((i : Int) + 1)) none = xs[i]?.toList := by
  unfold pickL
  rw [sliceBounds_plain]
  simp only [Option.elim_some]
  rw [sliceRange_one, show ((i : Int) + 1) = ((i + 1 : Nat) : Int) from rfl, clip_nat, clip_nat]
  rcases Nat.lt_or_ge i xs.length with h | h
  · rw [Nat.min_eq_left (by omega), Nat.min_eq_left h, show i + 1 - i = 1 by omega]
    simp [h]
  · rw [Nat.min_eq_right h, Nat.min_eq_right (by omega), Nat.sub_self]
    simp [h]
theorem slice_one {ps : Pat} {i : Nat} : PyData.list (pickL (ps.map enc) (some (i : Int)) (some ((i : Int) + 1)) none) = la ps[i]? := by
  rw [pick_one, List.getElem?_map]
  cases ps[i]? <;> rfl

def UOk (x : Option (Option Nat)) : Prop := ∀ d, x = some (some d) → d ≠ 46 ∧ d < 0x110000
theorem uok_at {ps : Pat} {i : Nat} (h : SOk ps) : UOk ps[i]? := fun d hd => h d (List.mem_of_getElem? hd)
theorem encs_ok {u : Option Nat} (h : ∀ d, u = some d → d ≠ 46 ∧ d < 0x110000) : (enc u).canLay0 = true ∧ (enc u).depth = 0 := by
  cases u with
  | none => exact ⟨strOk_dots, rfl⟩
  | some d => exact ⟨strOk_tx fun c hc => by rw [List.mem_singleton.mp hc]; exact (h d rfl).2, rfl⟩
theorem la_lay {x : Option (Option Nat)} (h : UOk x) : (la x).canLay0 = true ∧ (la x).depth ≤ 2 := by
  cases x with
  | none => exact ⟨rfl, by decide⟩
  | some u =>
    obtain ⟨h1, h2⟩ := encs_ok (u := u) (fun d hd => h d (by rw [hd]))
    refine ⟨?_, ?_⟩
    · show ((enc u).canLay0 && true) = true
      rw [h1]; rfl
    · show Nat.max (enc u).depth 0 + 1 ≤ 2
      rw [h2]; decide
theorem enc_eqv2 {u u' : Option Nat} (h : ∀ d, u = some d → d ≠ 46 ∧ d < 0x110000) (h' : ∀ d, u' = some d → d ≠ 46 ∧ d < 0x110000) : PyData.eqv (enc u) (enc u') = decide (u = u') := by
  have e3 : ∀ d, tx [d] ≠ tx [46, 46, 46] := fun d e => by have := tx_inj.mp e; simp at this
  cases u with
  | none => cases u' with
    | none => exact beq_self_eq_true dots
    | some d => show (dots == tx [d]) = _; rw [dots_tx, beq_eq_false_iff_ne.mpr (Ne.symm (e3 d))]; rfl
  | some d => cases u' with
    | none => show (tx [d] == dots) = _; rw [dots_tx, beq_eq_false_iff_ne.mpr (e3 d)]; rfl
    | some d' =>
      show (tx [d] == tx [d']) = _
      by_cases hd : d = d'
      · subst hd; simp
      · rw [beq_eq_false_iff_ne.mpr (fun e => hd (by have := tx_inj.mp e; simpa using this))]; simp [hd]
theorem la_eqv {x y : Option (Option Nat)} (h : UOk x) (h' : UOk y) : PyData.eqv (la x) (la y) = decide (x = y) := by
  cases x with
  | none => cases y <;> rfl
  | some u => cases y with
    | none => rfl
    | some u' =>
      have := enc_eqv2 (u := u) (u' := u') (fun d hd => h d (by rw [hd])) (fun d hd => h' d (by rw [hd]))
      show (PyData.eqv (enc u) (enc u') && true) = _
      rw [this, Bool.and_true]
      exact decide_eq_decide.mpr ⟨fun e => e ▸ rfl, fun e => Option.some.inj e⟩
theorem la_ok {x y : Option (Option Nat)} (h : UOk x) (h' : UOk y) : okEq (la x) (la y) = true := by
  have h1 := la_lay h; have h2 := la_lay h'
  unfold okEq
  rw [h1.1, h2.1]; exact decide_eq_true (Nat.le_trans h1.2 (by decide))
theorem uok_none : UOk none := fun d hd => by cases hd
theorem uok_dots : UOk (some none) := fun d hd => by cases hd
def signB (x : Option (Option Nat)) : Bool := decide (x ≠ none ∧ x ≠ some none)
theorem la_not_ok {x : Option (Option Nat)} (h : UOk x) : okEq (.list [la none, la (some none)]) (la x) = true := by
  have h1 := la_lay h
  unfold okEq
  rw [h1.1, Bool.and_true]
  decide +kernel
theorem la_not {x : Option (Option Nat)} (h : UOk x) : (!([la none, la (some none)].any fun y => PyData.eqv y (la x))) = signB x := by
  rw [List.any_cons, List.any_cons, la_eqv uok_none h, la_eqv uok_dots h]
  unfold signB
  rcases x with _ | _ | u <;> rfl

theorem heap_lay : ∀ {es : List En}, (∀ e ∈ es, ∀ c ∈ e.t, c < 0x110000) → PyData.canLayAll0 (es.map encE) = true ∧ PyData.depthAll (es.map encE) ≤ 1
  | [], _ => ⟨rfl, by decide⟩
  | e :: es, h => by
    obtain ⟨i1, i2⟩ := heap_lay (es := es) fun x hx => h x (List.mem_cons_of_mem _ hx)
    refine ⟨?_, ?_⟩
    · simp only [List.map_cons, PyData.canLayAll0, i1, Bool.and_true, encE, PyData.canLay0, strOk_tx (h e List.mem_cons_self)]
    · simp only [List.map_cons, PyData.depthAll, encE, PyData.depth]; omega
theorem lay_perm {xs ys : List PyData} (p : xs.Perm ys) : PyData.canLayAll0 xs = PyData.canLayAll0 ys ∧ PyData.depthAll xs = PyData.depthAll ys := by
  induction p with
  | nil => exact ⟨rfl, rfl⟩
  | cons x _ ih => simp only [PyData.canLayAll0, PyData.depthAll, ih.1, ih.2, and_self]
  | swap x y l =>
    simp only [PyData.canLayAll0, PyData.depthAll]
    exact ⟨Bool.and_left_comm .., Nat.max_left_comm ..⟩
  | trans _ _ i1 i2 => exact ⟨i1.1.trans i2.1, i1.2.trans i2.2⟩
theorem heap_ok {H : List PyData} (h1 : PyData.canLayAll0 H = true) (h2 : PyData.depthAll H ≤ 1) : okEq (.list H) (.list []) = true := by
  unfold okEq
  rw [show (PyData.list H).canLay0 = true from h1]
  exact decide_eq_true (Nat.le_trans (Nat.succ_le_succ h2) (by decide))
theorem heap_eqv {H : List PyData} : PyData.eqv (.list H) (.list []) = H.isEmpty := by cases H <;> rfl

/-! the heap calls -/
section
variable {c c1 c0 : Cx} {E : PyData → Prop}
theorem down_ok (O : Ordy ltE E) : DownOk ltE E (f_siftdown c) := fun hE hp hz hμ => sem_siftdown O hE hp hz hμ
theorem up_ok (O : Ordy ltE E) (hF : c.fns "_siftdown" = some (f_siftdown c0)) : UpOkF ltE E (f_siftup c) := fun hE hp hz hμ => sem_siftup O hE hp hz hμ hF (down_ok O)

theorem pop_ok (O : Ordy ltE E) (hF : c.fns "_siftup" = some (f_siftup c1)) (hF1 : c1.fns "_siftdown" = some (f_siftdown c0)) : PopOk E (f_heappop c) := by
  intro H k m hm hH hE hne hz
  rcases List.eq_nil_or_concat H with rfl | ⟨ys, z, rfl⟩
  · exact absurd rfl hne
  rw [List.concat_eq_append] at *
  cases ys with
  | nil =>
    refine ⟨z, [], fun i _ hi => (by cases hi), List.Perm.refl _, fun y hy => ?_, sem_heappop1 hm⟩
    rw [List.mem_singleton.mp hy]
    rcases h : ltE z z with _ | _
    · rfl
    · have := linE.asymm _ _ h; rw [h] at this; exact this
  | cons y0 ys =>
    have h0 : 0 < (y0 :: ys).length := Nat.succ_pos _
    obtain ⟨q1, q2, q3⟩ := pop_heap linE h0 hH
    rw [List.length_append] at hz
    refine ⟨y0, _, q1, List.perm_append_comm (l₁ := [y0]) |>.trans q2, q3, ?_⟩
    exact sem_heappop2 (c := c) (lt := ltE) (μ := m) (k := k) (ys := y0 :: ys) (z := z) (fun y hy => hE y (List.mem_append_left _ hy)) (hE z (List.mem_append_right _ (List.mem_singleton_self z))) h0 (by omega) hm hF (up_ok O hF1)
theorem push_ok (O : Ordy ltE E) (hF : c.fns "_siftdown" = some (f_siftdown c1)) : PushOk E (f_heappush c) := by
  intro H k m x hm hH hE hx hz
  obtain ⟨q1, q2⟩ := hpush_heap linE (x := x) hH
  exact ⟨_, q1, q2, sem_heappush hE hx (by omega) hm hF (down_ok O)⟩
end
end Mine
end
section
namespace Mine

/-! ### tests that say -/
def TSays (T : WT) (c : Cx) (σ : Lo) (μ : Mem) (b : Bool) : Prop := ∀ k : Bool → Mem → Prop, k b μ → T c σ μ k
def ASays (Ws : List WE) (c : Cx) (σ : Lo) (μ : Mem) (as : List AV) : Prop := ∀ k : List AV → Mem → Prop, k as μ → wArgs Ws c σ μ k
theorem TSays.and {T U : WT} {c σ μ a b} (h1 : TSays T c σ μ a) (h2 : a = true → TSays U c σ μ b) : TSays (tAnd T U) c σ μ (a && b) := fun k hk => h1 _ (by
  cases a with
  | false => exact condP.f rfl hk
  | true => exact condP.t rfl (h2 rfl _ hk))

section
variable {c : Cx} {μ : Mem} {σ : Lo} {n : Nat} {x : Option (Option Nat)}
/-- x == y on slices of one -/
theorem la_tst {y : Option (Option Nat)} {W : WE} (h : UOk x) (h' : UOk y) (hx : σ.getD n none = some (.d (la x))) (hW : ∀ k : KE, k (.d (la y)) μ → W c σ μ k) : TSays (tCmp (wCmp eqV (wVar n) W)) c σ μ (decide (x = y)) := fun k hk => by
  show varP (σ.getD n none) _
  rw [hx]
  exact hW _ ⟨la_ok h h', (la_eqv h h').symm ▸ hk⟩
def wDots : WE := wList [wDat (.str "...")]
def wNils : WE := wList []
def wNot : WE := wList [wNils, wDots]
theorem dots_tst (h : UOk x) (hx : σ.getD n none = some (.d (la x))) : TSays (tCmp (wCmp eqV (wVar n) wDots)) c σ μ (decide (x = some none)) := la_tst h uok_dots hx fun _ hk => hk
theorem nil_tst (h : UOk x) (hx : σ.getD n none = some (.d (la x))) : TSays (tCmp (wCmp eqV (wVar n) wNils)) c σ μ (decide (x = none)) := la_tst h uok_none hx fun _ hk => hk
theorem var_tst {m : Nat} {y : Option (Option Nat)} (h : UOk x) (h' : UOk y) (hx : σ.getD n none = some (.d (la x))) (hy : σ.getD m none = some (.d (la y))) : TSays (tCmp (wCmp eqV (wVar n) (wVar m))) c σ μ (decide (x = y)) := la_tst h h' hx fun k hk => by
  show varP (σ.getD m none) _
  rw [hy]; exact hk
theorem sign_tst (h : UOk x) (hx : σ.getD n none = some (.d (la x))) : TSays (tCmp (wCmp niL (wVar n) wNot)) c σ μ (signB x) := fun k hk => by
  show varP (σ.getD n none) _
  rw [hx]
  exact ⟨la_not_ok h, Nat.le_trans (la_lay h).2 (by decide), (la_not h).symm ▸ hk⟩

theorem sign_of (h : signB x = true) : ∃ d, x = some (some d) := by
  rcases x with _ | _ | d
  · cases h
  · cases h
  · exact ⟨d, rfl⟩

/-! ### a push, if -/
theorem pif {F : List AV → Mem → KE → Prop} (hF : c.fns "heappush" = some F) (hP : PushOk E4 F) {T : WT} {tup : WE} {B : WS} {R : KS} {S : MO} {H : List PyData} {acc L : List En} {b : Bool} (hh : IsHeap ltE H) (hp : H.Perm (acc.map encE)) (hz : acc.length < 2900)
    (hT : TSays T c σ (μ ++ [.lst H, S]) b) (hb : b = true → ∃ e, L = [e] ∧ ASays [wVar 2, tup] c σ (μ ++ [.lst H, S]) [.h μ.length, .d (encE e)]) (hL : b = false → L = [])
    (next : ∀ H', IsHeap ltE H' → H'.Perm ((L ++ acc).map encE) → B c σ (μ ++ [.lst H', S]) R) :
    sSeq (sIf T (sBlk [sExpr (wFn "heappush" [wVar 2, tup])]) (sBlk [])) B c σ (μ ++ [.lst H, S]) R := by
  refine hT _ ⟨fun e => ?_, fun e => ?_⟩
  · obtain ⟨x, rfl, ha⟩ := hb e
    obtain ⟨H', h1, h2, h3⟩ := hP H μ.length (μ ++ [.lst H, S]) (encE x) (by simp) hh (fun y hy => by
      obtain ⟨z, _, rfl⟩ := List.mem_map.mp (hp.mem_iff.mp hy); exact encE_E4 z) (encE_E4 x) (by rw [hp.length_eq, List.length_map]; omega)
    refine ⟨F, hF, ha _ (h3 _ ?_)⟩
    rw [show (μ ++ [.lst H, S]).set μ.length (.lst H') = μ ++ [.lst H', S] by simp]
    exact next H' h1 (h2.trans (hp.cons _))
  · cases hL e
    exact next H hh hp
end

/-- the codes of the states that were seen -/
def codes (sn : List En) : List Int := sn.reverse.map fun d => 16 * (d.i : Int) + (d.j : Int)
theorem code_iff {sn : List En} {e : En} (hb : ∀ d ∈ sn, d.j < 16) (he : e.j < 16) : (codes sn).contains (16 * (e.i : Int) + (e.j : Int)) = true ↔ ∃ d ∈ sn, d.i = e.i ∧ d.j = e.j := by
  unfold codes
  rw [List.contains_iff_mem, List.mem_map]
  constructor
  · rintro ⟨d, hd, h⟩
    have hd' := List.mem_reverse.mp hd
    have := hb d hd'
    exact ⟨d, hd', by omega⟩
  · rintro ⟨d, hd, h1, h2⟩
    exact ⟨d, List.mem_reverse.mpr hd, by rw [h1, h2]⟩

theorem nodup_le {α : Type} [DecidableEq α] : ∀ {l l' : List α}, l.Nodup → (∀ x ∈ l, x ∈ l') → l.length ≤ l'.length
  | [], _, _, _ => Nat.zero_le _
  | a :: t, l', h, hs => by
    have h1 := List.nodup_cons.mp h
    have ha := hs a List.mem_cons_self
    have := nodup_le (l := t) (l' := l'.erase a) h1.2 fun x hx => by
      refine (List.mem_erase_of_ne (fun e => ?_)).mpr (hs x (List.mem_cons_of_mem _ hx))
      subst e; exact h1.1 hx
    rw [List.length_erase_of_mem ha] at this
    have := List.length_pos_of_mem ha
    rw [List.length_cons]; omega

theorem nodup_bound {l : List (Nat × Nat)} (h : l.Nodup) (hb : ∀ p ∈ l, p.1 ≤ 7 ∧ p.2 ≤ 7) : l.length ≤ 64 := by
  have hn : (l.map fun p => 8 * p.1 + p.2).Nodup := by
    refine List.Pairwise.map _ (fun a b hab e => ?_) (List.Pairwise.imp_of_mem (fun {a b} ha hb' hab => (⟨hab, hb a ha, hb b hb'⟩ : a ≠ b ∧ (a.1 ≤ 7 ∧ a.2 ≤ 7) ∧ (b.1 ≤ 7 ∧ b.2 ≤ 7))) h)
    obtain ⟨h1, h2, h3⟩ := hab
    exact h1 (Prod.ext (by omega) (by omega))
  have := nodup_le (l' := List.range 64) hn fun x hx => by
    obtain ⟨p, hp, rfl⟩ := List.mem_map.mp hx
    have := hb p hp
    exact List.mem_range.mpr (by omega)
  rwa [List.length_map, List.length_range] at this

theorem pop_es {H H' : List PyData} {x : PyData} {es : List En} (p : H.Perm (es.map encE)) (q : (x :: H').Perm H) : ∃ e es', x = encE e ∧ es.Perm (e :: es') ∧ H'.Perm (es'.map encE) := by
  have hx : x ∈ es.map encE := p.mem_iff.mp (q.mem_iff.mp List.mem_cons_self)
  obtain ⟨e, he, rfl⟩ := List.mem_map.mp hx
  have pe := List.perm_cons_erase he
  refine ⟨e, es.erase e, rfl, pe, ?_⟩
  have := (q.trans p).trans (pe.map encE)
  rw [List.map_cons] at this
  exact this.cons_inv

/-- the search's state between two turns -/
structure SI (one two : Pat) (es sn : List En) (H : List PyData) : Prop where
  heap : IsHeap ltE H
  perm : H.Perm (es.map encE)
  inv : Inv one two es sn
  nodup : (sn.map fun d => (d.i, d.j)).Nodup
  bnd : ∀ d ∈ sn, d.i ≤ one.length ∧ d.j ≤ two.length
  size : es.length + 2 * (128 - sn.length) ≤ 257
end Mine
end
section
namespace Mine

def pT (tup : WE) : WS := sBlk [sExpr (wFn "heappush" [wVar 2, tup])]
def up (n : Nat) : WE := wBin addI (wVar n) (wDat (.int 1))
def ap (n : Nat) : WE := wBin addS (wVar 5) (wIdx (wVar n) (wDat (.int 0)))
def tDots (n : Nat) : WT := tCmp (wCmp eqV (wVar n) wDots)
def tSign (n : Nat) : WT := tCmp (wCmp niL (wVar n) wNot)
def w_pushes : WS := sBlk [sIf (tDots 8) (pT (wTup [wVar 4, wVar 5, up 6, wVar 7])) (sBlk []), sIf (tDots 9) (pT (wTup [wVar 4, wVar 5, wVar 6, up 7])) (sBlk []),
  sIf (tAnd (tSign 8) (tCmp (wCmp eqV (wVar 8) (wVar 9)))) (pT (wTup [up 4, ap 8, up 6, up 7])) (sBlk []), sIf (tAnd (tSign 8) (tDots 9)) (pT (wTup [up 4, ap 8, up 6, wVar 7])) (sBlk []),
  sIf (tAnd (tDots 8) (tSign 9)) (pT (wTup [up 4, ap 9, wVar 6, up 7])) (sBlk [])]

section
variable {c : Cx} {μ : Mem} {one two : Pat} {R : KS} {S : MO}
/-- the text with one sign more -/
theorem ap_says {m : Mem} {t : List Nat} {d : Nat} {K : PyData → Prop} (hz : t.length ≤ 14) (hk : K (.str (tx (t ++ [d])))) :
    idxP (.d (la (some (some d)))) (.d (.int 0)) m fun x => addS (.d (.str (tx t))) (.d x) K := by
  refine idxP.dat (n := 0) (xs := [enc (some d)]) (by show 1 < 2 ^ 31; decide) rfl ⟨?_, ?_⟩
  · rw [tx_len, tx_len]; exact line20 (by show t.length + 1 ≤ _; omega)
  · rw [tx_append]; exact hk
theorem enc_more {t : List Nat} {d i j : Nat} : encE ⟨t ++ [d], i, j⟩ = .tuple [.int ((t.length : Int) + 1), .str (tx (t ++ [d])), .int i, .int j] := by
  unfold encE
  rw [List.length_append]; rfl

theorem dec_or {p : Prop} [Decidable p] {L : En} : (decide p = true → (if p then [L] else []) = [L]) ∧ (decide p = false → (if p then [L] else []) = []) :=
  ⟨fun h => if_pos (of_decide_eq_true h), fun h => if_neg (of_decide_eq_false h)⟩
theorem sC_no {a b : Option (Option Nat)} {e : En} (h : (signB a && decide (a = b)) = false) : sC a b e = [] := by
  rcases a with _ | _ | d
  · rfl
  · rfl
  · exact if_neg (of_decide_eq_false h)
theorem sD_no {a b : Option (Option Nat)} {e : En} (h : (signB a && decide (b = some none)) = false) : sD a b e = [] := by
  rcases a with _ | _ | d
  · rfl
  · rfl
  · exact if_neg (of_decide_eq_false h)
theorem sE_no {a b : Option (Option Nat)} {e : En} (h : (decide (a = some none) && signB b) = false) : sE a b e = [] := by
  rcases b with _ | _ | d
  · rfl
  · rfl
  · exact if_neg (of_decide_eq_false (by rwa [show signB (some (some d)) = true from rfl, Bool.and_true] at h))
theorem pushes {F : List AV → Mem → KE → Prop} (hF : c.fns "heappush" = some F) (hP : PushOk E4 F) {e : En} {es : List En} {H : List PyData} {x0 x1 x3 : Option AV} (h1 : SOk one) (h2 : SOk two) (hh : IsHeap ltE H) (hp : H.Perm (es.map encE)) (hz : es.length < 2000) (ht : e.t.length ≤ 14)
    (next : ∀ H', IsHeap ltE H' → H'.Perm ((succs one two e ++ es).map encE) → R .next [x0, x1, some (.h μ.length), x3, some (.d (.int e.t.length)), some (.d (.str (tx e.t))), some (.d (.int e.i)), some (.d (.int e.j)), some (.d (la one[e.i]?)), some (.d (la two[e.j]?))] (μ ++ [.lst H', S])) :
    w_pushes c [x0, x1, some (.h μ.length), x3, some (.d (.int e.t.length)), some (.d (.str (tx e.t))), some (.d (.int e.i)), some (.d (.int e.j)), some (.d (la one[e.i]?)), some (.d (la two[e.j]?))] (μ ++ [.lst H, S]) R := by
  have uo1 : UOk one[e.i]? := uok_at h1
  have uo2 : UOk two[e.j]? := uok_at h2
  have hl := succs_len (one := one) (two := two) (e := e)
  unfold succs at next hl
  generalize one[e.i]? = a at *
  generalize two[e.j]? = b at *
  simp only [List.length_append] at hl
  simp only [List.append_assoc] at next
  refine pif hF hP hh hp (by omega) (L := sA a e) (dots_tst uo1 rfl) (fun h => ⟨_, dec_or.1 h, fun k hk => hk⟩) dec_or.2 fun H g1 p1 => ?_
  refine pif hF hP g1 p1 (by rw [List.length_append]; omega) (L := sB b e) (dots_tst uo2 rfl) (fun h => ⟨_, dec_or.1 h, fun k hk => hk⟩) dec_or.2 fun H g2 p2 => ?_
  refine pif hF hP g2 p2 (by simp only [List.length_append]; omega) (L := sC a b e) ((sign_tst uo1 rfl).and fun _ => var_tst uo1 uo2 rfl rfl) (fun h => ?_) sC_no fun H g3 p3 => ?_
  · obtain ⟨q1, q2⟩ := (Bool.and_eq_true _ _).mp h
    obtain ⟨d, rfl⟩ := sign_of q1
    exact ⟨_, if_pos (of_decide_eq_true q2), fun k hk => by rw [enc_more] at hk; exact ap_says (m := μ) ht hk⟩
  refine pif hF hP g3 p3 (by simp only [List.length_append]; omega) (L := sD a b e) ((sign_tst uo1 rfl).and fun _ => dots_tst uo2 rfl) (fun h => ?_) sD_no fun H g4 p4 => ?_
  · obtain ⟨q1, q2⟩ := (Bool.and_eq_true _ _).mp h
    obtain ⟨d, rfl⟩ := sign_of q1
    exact ⟨_, if_pos (of_decide_eq_true q2), fun k hk => by rw [enc_more] at hk; exact ap_says (m := μ) ht hk⟩
  refine pif hF hP g4 p4 (by simp only [List.length_append]; omega) (L := sE a b e) ((dots_tst uo1 rfl).and fun _ => sign_tst uo2 rfl) (fun h => ?_) sE_no fun H g5 p5 => next H g5 p5
  obtain ⟨q1, q2⟩ := (Bool.and_eq_true _ _).mp h
  obtain ⟨d, rfl⟩ := sign_of q2
  exact ⟨_, if_pos (of_decide_eq_true q1), fun k hk => by rw [enc_more] at hk; exact ap_says (m := μ) ht hk⟩
end
end Mine
end
section
namespace Mine

/-- the told text: the first that both stand for -/
def Told (one two : Pat) (tl : List (List Nat)) : Prop :=
  (∃ t, tl = [t] ∧ (R one two t ∧ ∀ t', R one two t' → sle t t') ∧ t.length ≤ 14 ∧ ∀ c ∈ t, c < 0x110000) ∨ (tl = [] ∧ ∀ t, ¬ R one two t)

section
variable {c : Cx} {μ : Mem} {one two : Pat}
theorem m2_fst {a b : MO} : (μ ++ [a, b])[List.length μ]? = some a := by simp
theorem m2_snd {a b : MO} : (μ ++ [a, b])[List.length μ + 1]? = some b := by
  rw [List.getElem?_append_right (by omega)]; simp
theorem m2_set1 {a b a' : MO} : (μ ++ [a, b]).set (List.length μ) a' = μ ++ [a', b] := by simp
theorem m2_set2 {a b b' : MO} : (μ ++ [a, b]).set (List.length μ + 1) b' = μ ++ [a, b'] := by
  rw [List.set_append_right _ _ (by omega)]; simp
theorem m2_take {a b : MO} : List.take (List.length μ) (μ ++ [a, b]) = μ := by simp

theorem sem_search {Fpop Fpush : List AV → Mem → KE → Prop} (hpop : PopOk E4 Fpop) (hpush : PushOk E4 Fpush) (hf1 : c.fns "heappop" = some Fpop) (hf2 : c.fns "heappush" = some Fpush) (h1 : SOk one) (h2 : SOk two) (hl1 : one.length ≤ 7) (hl2 : two.length ≤ 7)
    {k : KE} (hk : ∀ tl, Told one two tl → k (.d (encC tl)) μ) : f_law_search c [.d (encP one), .d (encP two)] μ k := by
  refine ⟨rfl, ?_⟩
  have hR : ∀ tl, Told one two tl → ∀ σ μ', μ'.take μ.length = μ → finP μ.length k (.ret (.d (encC tl))) σ μ' := fun tl ht σ μ' e => by
    show k _ (μ'.take μ.length)
    rw [e]; exact hk tl ht
  generalize finP μ.length k = Q at hR ⊢
  refine while_mk (fun n σ m => ∃ es sn H x4 x5 x6 x7 x8 x9, σ = [some (.d (encP one)), some (.d (encP two)), some (.h μ.length), some (.h (μ.length + 1)), x4, x5, x6, x7, x8, x9] ∧ m = μ ++ [.lst H, .set (codes sn)] ∧ SI one two es sn H ∧ n = es.length + 2 * (128 - sn.length))
    257 ⟨[⟨[], 0, 0⟩], [], [encE ⟨[], 0, 0⟩], none, none, none, none, none, none, ?_, ?_, ⟨?_, List.Perm.refl _, Inv.start, List.nodup_nil, fun d hd => (by cases hd), by decide⟩, rfl⟩ ?_
  · have : (μ ++ [MO.lst [.tuple [.int 0, .str (Str.ofString ""), .int 0, .int 0]]]).length = μ.length + 1 := List.length_append
    rw [← this]; rfl
  · rw [← List.append_cons]; rfl
  · intro i h h'; rw [List.length_singleton] at h'; omega
  rintro n _ _ Z hn - - hret ⟨es, sn, H, x4, x5, x6, x7, x8, x9, rfl, rfl, I, rfl⟩
  have hl := heap_lay (es := es) fun e he => (I.inv.ok e he).sg
  rw [← (lay_perm I.perm).1, ← (lay_perm I.perm).2] at hl
  refine ⟨H, m2_fst, heap_ok hl.1 hl.2, ?_⟩
  rw [heap_eqv]
  have hHl : H.length = es.length := by rw [I.perm.length_eq, List.length_map]
  have hsz := I.size
  refine And.intro (fun hb => ?_) (fun hb => ?_)
  · have hne : H ≠ [] := fun e => by subst e; cases hb
    obtain ⟨x, H', p1, p2, p3, p4⟩ := hpop H μ.length _ m2_fst I.heap (fun y hy => by
      obtain ⟨x, _, rfl⟩ := List.mem_map.mp (I.perm.mem_iff.mp hy); exact encE_E4 x) hne (by omega)
    obtain ⟨e, es', rfl, pe, pH⟩ := pop_es I.perm p2
    rw [m2_set1] at p4
    have inv := I.inv.perm pe
    have least : ∀ e' ∈ e :: es', sle e.t e'.t := fun e' he' => sle_of_le (p3 _ (I.perm.mem_iff.mpr (List.mem_map.mpr ⟨e', pe.mem_iff.mpr he', rfl⟩)))
    have eok := inv.ok e List.mem_cons_self
    have bi := eok.bi
    have bj := eok.bj
    have ht := eok.bt
    have hel : es.length = es'.length + 1 := pe.length_eq
    refine ⟨Fpop, hf1, p4 _ ⟨rfl, ?_⟩⟩
    refine And.intro (fun h => by cases h) (And.intro (by rw [List.length_map]; exact line20 (by omega)) ?_)
    rw [slice_one]
    refine And.intro (fun h => by cases h) (And.intro (by rw [List.length_map]; exact line20 (by omega)) ?_)
    rw [slice_one]
    have uo1 : UOk one[e.i]? := uok_at h1
    have uo2 : UOk two[e.j]? := uok_at h2
    have hnil : TSays (tAnd (tCmp (wCmp eqV (wVar 8) wNils)) (tCmp (wCmp eqV (wVar 9) wNils))) c [some (.d (encP one)), some (.d (encP two)), some (.h μ.length), some (.h (μ.length + 1)), some (.d (.int e.t.length)), some (.d (.str (tx e.t))), some (.d (.int e.i)), some (.d (.int e.j)), some (.d (la one[e.i]?)), some (.d (la two[e.j]?))] (μ ++ [.lst H', .set (codes sn)]) _ := (nil_tst uo1 rfl).and fun _ => nil_tst uo2 rfl
    refine hnil _ ⟨fun hfin => ?_, fun hfin => ?_⟩
    · obtain ⟨q1, q2⟩ := (Bool.and_eq_true _ _).mp hfin
      exact hret _ _ _ (hR [e.t] (.inl ⟨e.t, rfl, inv.final least (of_decide_eq_true q1) (of_decide_eq_true q2), by omega, eok.sg⟩) _ _ m2_take)
    have hfin' : ¬ (one[e.i]? = none ∧ two[e.j]? = none) := fun h => by
      rw [decide_eq_true h.1, decide_eq_true h.2] at hfin; cases hfin
    have hej : e.j < 16 := by omega
    have ci := code_iff (sn := sn) (e := e) (fun d hd => by have := (I.bnd d hd).2; omega) hej
    have hsl : (codes sn).length ≤ 64 := by
      have := nodup_bound I.nodup fun p hp => by
        obtain ⟨d, hd, rfl⟩ := List.mem_map.mp hp
        have := I.bnd d hd
        exact ⟨by show d.i ≤ 7; omega, by show d.j ≤ 7; omega⟩
      rw [codes, List.length_map, List.length_reverse]
      rwa [List.length_map] at this
    have hsn : (codes sn).length < 4000 := by omega
    have hsl' : sn.length ≤ 64 := by rwa [codes, List.length_map, List.length_reverse] at hsl
    refine And.intro (by decide) ?_
    refine ⟨codes sn, m2_snd, hsn, ⟨fun hs => ?_, fun hs => ?_⟩⟩
    · have hs := (Bool.not_eq_true' _).mp hs
      have hnc : ∀ d ∈ sn, ¬ (d.i = e.i ∧ d.j = e.j) := fun d hd h => by rw [ci.mpr ⟨d, hd, h⟩] at hs; cases hs
      refine ⟨⟨codes sn, m2_snd, trivial⟩, ?_⟩
      refine And.intro (by decide) ?_
      refine ⟨codes sn, m2_snd, hsn, ?_⟩
      have hin : insI (codes sn) (16 * (e.i : Int) + e.j) = codes (e :: sn) := by
        unfold insI
        rw [hs]
        unfold codes
        rw [List.reverse_cons, List.map_append]; rfl
      rw [hin, m2_set2]
      have hsl := succs_len (one := one) (two := two) (e := e)
      refine pushes hf2 hpush h1 h2 p1 pH (by omega) (by omega) fun H₂ q1 q2 => hn _ _ _ ?_ ⟨succs one two e ++ es', e :: sn, H₂, _, _, _, _, _, _, rfl, rfl, ⟨q1, q2, inv.expand h1 h2 least hfin', ?_, ?_, ?_⟩, rfl⟩
      · rw [List.length_append, List.length_cons]; omega
      · rw [List.map_cons, List.nodup_cons]
        refine ⟨fun h => ?_, I.nodup⟩
        obtain ⟨d, hd, e1⟩ := List.mem_map.mp h
        exact hnc d hd ⟨congrArg Prod.fst e1, congrArg Prod.snd e1⟩
      · intro d hd
        rcases List.mem_cons.mp hd with rfl | hd
        · exact ⟨bi, bj⟩
        · exact I.bnd d hd
      · rw [List.length_append, List.length_cons]; omega
    · obtain ⟨d, hd, e1, e2⟩ := ci.mp ((Bool.not_eq_false' _).mp hs)
      exact hn _ _ _ (by omega) ⟨es', sn, H', _, _, _, _, _, _, rfl, rfl, ⟨p1, pH, inv.skip hd e1 e2, I.nodup, I.bnd, by omega⟩, rfl⟩
  · have hH : H = [] := List.isEmpty_iff.mp ((Bool.not_eq_false' _).mp hb)
    have he : es = [] := List.eq_nil_of_length_eq_zero (by rw [← hHl, hH]; rfl)
    exact hR [] (.inr ⟨rfl, fun t' ht' => by
      obtain ⟨e, h, _⟩ := I.inv.cov t' ht'
      rw [he] at h; cases h⟩) _ _ m2_take
end
end Mine
end
section
open PySem
namespace Mine

/-- none, or the first of what both stand for -/
def Cell (p q : Pat) (L : List (List Nat)) : Prop := (L = [] ∧ ∀ t, ¬ R p q t) ∨ (∃ t, L = [t] ∧ R p q t ∧ ∀ t', R p q t' → sle t t')
theorem Cell.len {p q : Pat} {L : List (List Nat)} (h : Cell p q L) : L.length ≤ 1 := by
  rcases h with ⟨rfl, _⟩ | ⟨t, rfl, _⟩ <;> simp
theorem Cell.sound {p q : Pat} {L : List (List Nat)} (h : Cell p q L) : ∀ w ∈ L, R p q w := by
  rcases h with ⟨rfl, _⟩ | ⟨t, rfl, h, _⟩
  · simp
  · intro w hw; rw [List.mem_singleton.mp hw]; exact h
theorem Cell.cov {p q : Pat} {L : List (List Nat)} (h : Cell p q L) {t : List Nat} (ht : R p q t) : ∃ w ∈ L, sle w t := by
  rcases h with ⟨rfl, h⟩ | ⟨w, rfl, _, h⟩
  · exact absurd ht (h t)
  · exact ⟨w, List.mem_singleton.mpr rfl, h t ht⟩
theorem Cell.uniq {p q : Pat} {L L' : List (List Nat)} (h : Cell p q L) (h' : Cell p q L') : L = L' := by
  rcases h with ⟨rfl, h⟩ | ⟨w, rfl, hw, h⟩
  · rcases h' with ⟨rfl, h'⟩ | ⟨w', rfl, hw', h'⟩
    · rfl
    · exact absurd hw' (h _)
  · rcases h' with ⟨rfl, h'⟩ | ⟨w', rfl, hw', h'⟩
    · exact absurd hw (h' _)
    · rw [sle_antisymm (h _ hw') (h' _ hw)]

theorem R.len {p q : Pat} {t : List Nat} (h : R p q t) : t.length ≤ p.length + q.length := by
  induction h <;> simp_all <;> omega
theorem R.sg {p q : Pat} {t : List Nat} (h : R p q t) (h1 : SOk p) (h2 : SOk q) : ∀ c ∈ t, c < 0x110000 := by
  induction h with
  | nil => simp
  | da _ ih => exact ih (fun d hd => h1 d (List.mem_cons_of_mem _ hd)) h2
  | db _ ih => exact ih h1 (fun d hd => h2 d (List.mem_cons_of_mem _ hd))
  | @ss p q c t _ ih =>
    intro d hd
    rcases List.mem_cons.mp hd with rfl | hd
    · exact (h1 _ List.mem_cons_self).2
    · exact ih (fun d hd => h1 d (List.mem_cons_of_mem _ hd)) (fun d hd => h2 d (List.mem_cons_of_mem _ hd)) d hd
  | @sd p q c t _ ih =>
    intro d hd
    rcases List.mem_cons.mp hd with rfl | hd
    · exact (h1 _ List.mem_cons_self).2
    · exact ih (fun d hd => h1 d (List.mem_cons_of_mem _ hd)) h2 d hd
  | @ds p q c t _ ih =>
    intro d hd
    rcases List.mem_cons.mp hd with rfl | hd
    · exact (h2 _ List.mem_cons_self).2
    · exact ih h1 (fun d hd => h2 d (List.mem_cons_of_mem _ hd)) d hd

def w0 (a b : Option (Option Nat)) : List (List Nat) := if a = none ∧ b = none then [[]] else []
def wA (a : Option (Option Nat)) (L : List (List Nat)) : List (List Nat) := if a = some none then L else []
def wC (a b : Option (Option Nat)) (L : List (List Nat)) : List (List Nat) := match a with
  | some (some c) => if a = b then L.map (c :: ·) else []
  | _ => []
def wD (a b : Option (Option Nat)) (L : List (List Nat)) : List (List Nat) := match a with
  | some (some c) => if b = some none then L.map (c :: ·) else []
  | _ => []
/-- L1: one further in the first, L2: in the second, L3: in both -/
def ways (a b : Option (Option Nat)) (L1 L2 L3 : List (List Nat)) : List (List Nat) :=
  w0 a b ++ (wA a L1 ++ (wA b L2 ++ (wC a b L3 ++ (wD a b L1 ++ wD b a L2))))

theorem R.inv {p q : Pat} {t : List Nat} (h : R p q t) : (p = [] ∧ q = [] ∧ t = []) ∨ (∃ p', p = none :: p' ∧ R p' q t) ∨ (∃ q', q = none :: q' ∧ R p q' t) ∨ (∃ p' q' c t', p = some c :: p' ∧ q = some c :: q' ∧ t = c :: t' ∧ R p' q' t')
    ∨ (∃ p' q' c t', p = some c :: p' ∧ q = none :: q' ∧ t = c :: t' ∧ R p' q t') ∨ (∃ p' q' c t', p = none :: p' ∧ q = some c :: q' ∧ t = c :: t' ∧ R p q' t') := by
  cases h with
  | nil => exact .inl ⟨rfl, rfl, rfl⟩
  | da h => exact .inr (.inl ⟨_, rfl, h⟩)
  | db h => exact .inr (.inr (.inl ⟨_, rfl, h⟩))
  | ss h => exact .inr (.inr (.inr (.inl ⟨_, _, _, _, rfl, rfl, rfl, h⟩)))
  | sd h => exact .inr (.inr (.inr (.inr (.inl ⟨_, _, _, _, rfl, rfl, rfl, h⟩))))
  | ds h => exact .inr (.inr (.inr (.inr (.inr ⟨_, _, _, _, rfl, rfl, rfl, h⟩))))

theorem ways_ok {p q : Pat} {L1 L2 L3 : List (List Nat)} (c1 : p ≠ [] → Cell p.tail q L1) (c2 : q ≠ [] → Cell p q.tail L2) (c3 : p ≠ [] → q ≠ [] → Cell p.tail q.tail L3) :
    (∀ w ∈ ways p.head? q.head? L1 L2 L3, R p q w) ∧ (∀ t, R p q t → ∃ w ∈ ways p.head? q.head? L1 L2 L3, sle w t) ∧ (ways p.head? q.head? L1 L2 L3).length ≤ 2 := by
  refine ⟨fun w hw => ?_, fun t ht => ?_, ?_⟩
  · unfold ways at hw
    simp only [List.mem_append] at hw
    rcases hw with hw | hw | hw | hw | hw | hw
    · unfold w0 at hw
      split at hw
      · next h =>
        rw [List.mem_singleton.mp hw, List.head?_eq_none_iff.mp h.1, List.head?_eq_none_iff.mp h.2]; exact .nil
      · simp at hw
    · unfold wA at hw
      split at hw
      · next h =>
        cases p with
        | nil => simp at h
        | cons u p => simp only [List.head?_cons, Option.some.injEq] at h; subst h; exact .da ((c1 (by simp)).sound w hw)
      · simp at hw
    · unfold wA at hw
      split at hw
      · next h =>
        cases q with
        | nil => simp at h
        | cons u q => simp only [List.head?_cons, Option.some.injEq] at h; subst h; exact .db ((c2 (by simp)).sound w hw)
      · simp at hw
    · unfold wC at hw
      split at hw
      · next c h =>
        split at hw
        · next h2 =>
          rw [h] at h2
          cases p with
          | nil => simp at h
          | cons u p => cases q with
            | nil => simp at h2
            | cons v q =>
              simp only [List.head?_cons, Option.some.injEq] at h h2; subst h; subst h2
              obtain ⟨w', hw', rfl⟩ := List.mem_map.mp hw
              exact .ss ((c3 (by simp) (by simp)).sound w' hw')
        · simp at hw
      · simp at hw
    · unfold wD at hw
      split at hw
      · next c h =>
        split at hw
        · next h2 =>
          cases p with
          | nil => simp at h
          | cons u p => cases q with
            | nil => simp at h2
            | cons v q =>
              simp only [List.head?_cons, Option.some.injEq] at h h2; subst h; subst h2
              obtain ⟨w', hw', rfl⟩ := List.mem_map.mp hw
              exact .sd ((c1 (by simp)).sound w' hw')
        · simp at hw
      · simp at hw
    · unfold wD at hw
      split at hw
      · next c h =>
        split at hw
        · next h2 =>
          cases p with
          | nil => simp at h2
          | cons u p => cases q with
            | nil => simp at h
            | cons v q =>
              simp only [List.head?_cons, Option.some.injEq] at h h2; subst h; subst h2
              obtain ⟨w', hw', rfl⟩ := List.mem_map.mp hw
              exact .ds ((c2 (by simp)).sound w' hw')
        · simp at hw
      · simp at hw
  · rcases ht.inv with ⟨rfl, rfl, rfl⟩ | ⟨p', rfl, h⟩ | ⟨q', rfl, h⟩ | ⟨p', q', c, t', rfl, rfl, rfl, h⟩ | ⟨p', q', c, t', rfl, rfl, rfl, h⟩ | ⟨p', q', c, t', rfl, rfl, rfl, h⟩
    · exact ⟨[], by simp [ways, w0], sle_refl _⟩
    · obtain ⟨w, hw, hl⟩ := (c1 (by simp)).cov h
      exact ⟨w, by simp [ways, wA, hw], hl⟩
    · obtain ⟨w, hw, hl⟩ := (c2 (by simp)).cov h
      exact ⟨w, by simp [ways, wA, hw], hl⟩
    · obtain ⟨w, hw, hl⟩ := (c3 (by simp) (by simp)).cov h
      exact ⟨c :: w, by simp [ways, wC, hw], sle_cons.mpr hl⟩
    · obtain ⟨w, hw, hl⟩ := (c1 (by simp)).cov h
      exact ⟨c :: w, by simp [ways, wD, hw], sle_cons.mpr hl⟩
    · obtain ⟨w, hw, hl⟩ := (c2 (by simp)).cov h
      exact ⟨c :: w, by simp [ways, wD, hw], sle_cons.mpr hl⟩
  · cases p with
    | nil => cases q with
      | nil => simp [ways, w0, wA, wC, wD]
      | cons v q =>
        have := (c2 (by simp)).len
        cases v <;> simp [ways, w0, wA, wC, wD] <;> omega
    | cons u p =>
      have h1 := (c1 (by simp)).len
      cases q with
      | nil => cases u <;> simp [ways, w0, wA, wC, wD] <;> omega
      | cons v q =>
        have h2 := (c2 (by simp)).len
        have h3 := (c3 (by simp) (by simp)).len
        cases u with
        | none => cases v <;> simp [ways, w0, wA, wC, wD] <;> omega
        | some c => cases v with
          | none => simp [ways, w0, wA, wC, wD]; omega
          | some d =>
            simp only [ways, w0, wA, wC, wD, List.head?_cons]
            simp
            split <;> simp <;> omega

theorem leKey_tx {a b : List Nat} : leKey (tx a) (tx b) = true ↔ sle a b := by
  unfold leKey leStr sle
  simp only [Bool.or_eq_true, Bool.and_eq_true, decide_eq_true_eq, Bool.not_eq_true', decide_eq_false_iff_not, beq_iff_eq, tx_len]
  rfl

/-- the first of at most two -/
def pick2 (W : List (List Nat)) : List (List Nat) := match W with
  | [] => []
  | [w] => [w]
  | w :: v :: _ => if leKey (tx w) (tx v) then [w] else [v]
theorem sort_pick {W : List (List Nat)} (h : W.length ≤ 2) : (sortBy leKey (W.map tx)).take 1 = (pick2 W).map tx := by
  match W, h with
  | [], _ => rfl
  | [w], _ => rfl
  | [w, v], _ =>
    simp only [List.map_cons, List.map_nil, sortBy, insBy, pick2]
    split <;> rfl
  | _ :: _ :: _ :: _, h => simp at h
theorem pick_cell {p q : Pat} {W : List (List Nat)} (hl : W.length ≤ 2) (h1 : ∀ w ∈ W, R p q w) (h2 : ∀ t, R p q t → ∃ w ∈ W, sle w t) : Cell p q (pick2 W) := by
  match W, hl with
  | [], _ => exact .inl ⟨rfl, fun t ht => by obtain ⟨w, hw, _⟩ := h2 t ht; simp at hw⟩
  | [w], _ =>
    refine .inr ⟨w, rfl, h1 w (by simp), fun t ht => ?_⟩
    obtain ⟨w', hw, hl⟩ := h2 t ht
    rw [List.mem_singleton.mp hw] at hl; exact hl
  | [w, v], _ =>
    by_cases hc : leKey (tx w) (tx v) = true
    · refine .inr ⟨w, by simp [pick2, hc], h1 w (by simp), fun t ht => ?_⟩
      obtain ⟨w', hw, hl⟩ := h2 t ht
      rcases List.mem_cons.mp hw with rfl | hw
      · exact hl
      · rw [List.mem_singleton.mp hw] at hl; exact sle_trans (leKey_tx.mp hc) hl
    · refine .inr ⟨v, by simp [pick2, hc], h1 v (by simp), fun t ht => ?_⟩
      obtain ⟨w', hw, hl⟩ := h2 t ht
      rcases List.mem_cons.mp hw with rfl | hw
      · rcases sle_total w' v with h | h
        · exact absurd (leKey_tx.mpr h) hc
        · exact sle_trans h hl
      · rw [List.mem_singleton.mp hw] at hl; exact hl
  | _ :: _ :: _ :: _, h => simp at h
end Mine
end
section
namespace Mine

abbrev encT (t : List Nat) : PyData := .str (tx t)
def encR (rows : List (List (List Nat))) : PyData := .list (rows.map encC)

theorem pick_take1 {α : Type} {xs : List α} : pickL xs none (some 1) none = xs.take 1 := by
  unfold pickL
  rw [sliceBounds_plain]
  simp only [Option.elim_some, Option.elim_none]
  rw [sliceRange_one, show (1 : Int) = ((1 : Nat) : Int) from rfl, clip_nat]
  cases xs with
  | nil => rfl
  | cons x xs => rw [List.length_cons, Nat.min_eq_left (by omega)]; rfl

def xT (src : WE) : WS := sBlk [sExpr (wMeth kLst pExtend (wVar 8) [src])]
def addC (m : List Bool) (n : Nat) (src : WE) : WE := wComp m 9 (iItems src) [] (wBin addS (wIdx (wVar n) (wDat (.int 0))) (wVar 9))
def m6 : List Bool := [false, false, false, false, false, false, true, false, false, false]
def m7 : List Bool := [false, false, false, false, false, false, false, true, false, false]
def tNil (n : Nat) : WT := tCmp (wCmp eqV (wVar n) wNils)
def w_ways : WS := sBlk [sIf (tAnd (tNil 6) (tNil 7)) (sBlk [sExpr (wMeth kLst pAppend (wVar 8) [wDat (.str "")])]) (sBlk []),
  sIf (tDots 6) (xT (wIdx (wVar 2) (wVar 5))) (sBlk []), sIf (tDots 7) (xT (wIdx (wVar 4) (wDat (.int 0)))) (sBlk []),
  sIf (tAnd (tSign 6) (tCmp (wCmp eqV (wVar 6) (wVar 7)))) (xT (addC m6 6 (wIdx (wVar 2) (up 5)))) (sBlk []),
  sIf (tAnd (tSign 6) (tDots 7)) (xT (addC m6 6 (wIdx (wVar 2) (wVar 5)))) (sBlk []),
  sIf (tAnd (tDots 6) (tSign 7)) (xT (addC m7 7 (wIdx (wVar 4) (wDat (.int 0))))) (sBlk []),
  sAsg 4 (wBin addL (wList [wCut cutL (wSortK 113 36 (wVar 8)) none (some (wDat (.int 1))) none]) (wVar 4))]

section
variable {c : Cx} {m : Mem} {σ : Lo} {one two : Pat} {Z : KS}
theorem m1_get {a : MO} : (m ++ [a])[List.length m]? = some a := lst_new
theorem xif {T : WT} {src : WE} {B : WS} {W L : List (List Nat)} {b : Bool} (h8 : σ.getD 8 none = some (.h m.length)) (hT : TSays T c σ (m ++ [.lst (W.map encT)]) b) (hb : b = true → ∀ k : KE, k (.d (encC L)) (m ++ [.lst (W.map encT)]) → src c σ (m ++ [.lst (W.map encT)]) k) (hL : b = false → L = [])
    (hz : W.length + L.length ≤ 100) (next : B c σ (m ++ [.lst ((W ++ L).map encT)]) Z) : sSeq (sIf T (xT src) (sBlk [])) B c σ (m ++ [.lst (W.map encT)]) Z := by
  refine hT _ ⟨fun e => ?_, fun e => ?_⟩
  · show varP (σ.getD 8 none) _
    rw [h8]
    refine ⟨⟨_, m1_get, trivial⟩, hb e _ ⟨_, m1_get, ?_⟩⟩
    refine And.intro (by rw [List.length_map, List.length_map]; exact Nat.lt_of_le_of_lt hz (by decide)) ?_
    rw [set_new, ← List.map_append]; exact next
  · cases hL e
    rw [List.append_nil] at next
    exact next

/-- each with one sign ahead -/
theorem add_says {x0 x1 x2 x3 x4 x5 a b x8 x9 : Option AV} {n d : Nat} {L : List (List Nat)} {src : WE} {k : KE} (hn : n = 6 ∧ a = some (.d (la (some (some d)))) ∨ n = 7 ∧ b = some (.d (la (some (some d))))) (hl : L.length ≤ 1) (ht : ∀ t ∈ L, t.length ≤ 14)
    (hs : ∀ k : KE, k (.d (encC L)) m → src c [x0, x1, x2, x3, x4, x5, a, b, x8, x9] m k) (hk : k (.d (encC (L.map (d :: ·)))) m) : addC (if n = 6 then m6 else m7) n src c [x0, x1, x2, x3, x4, x5, a, b, x8, x9] m k := by
  refine hs _ ?_
  have goal : ∀ (y6 y7 : Option AV), ([none, none, none, none, none, none, y6, y7, none, none] : Lo).getD n none = some (.d (la (some (some d)))) → n = 6 ∨ n = 7 →
    compP 9 (compOut (wBin addS (wIdx (wVar n) (wDat (.int 0))) (wVar 9)) []) c (L.map encT) [] [none, none, none, none, none, none, y6, y7, none, none] m fun out μ => k (.d (.list out)) μ := fun y6 y7 hy hn => by
    refine comp_map L encT (fun t => encT (d :: t)) rfl (by show 0 + _ ≤ _; exact line20 (by omega)) (fun t hm o kk ho hkk => ?_) ?_
    · show varP (List.getD _ n none) _
      have e : ([none, none, none, none, none, none, y6, y7, none, some (AV.d (encT t))] : Lo).getD n none = some (.d (la (some (some d)))) := by
        rcases hn with rfl | rfl <;> exact hy
      show varP (([none, none, none, none, none, none, y6, y7, none, some (AV.d (encT t))] : Lo).getD n none) _
      rw [e]
      refine idxP.dat (μ := m) (n := 0) (xs := [enc (some d)]) (by show 1 < 2 ^ 31; decide) rfl ⟨?_, ?_⟩
      · rw [tx_len, tx_len]; exact line20 (by have := ht t hm; show 1 + _ ≤ _; omega)
      · rw [tx_append]; exact ⟨ho, hkk⟩
    · rw [encC, List.map_map] at hk; exact hk
  rcases hn with ⟨rfl, rfl⟩ | ⟨rfl, rfl⟩
  · exact goal _ none rfl (.inl rfl)
  · exact goal none _ rfl (.inr rfl)
end
end Mine
end
section
namespace Mine
theorem sort_len {α : Type} {le : α → α → Bool} : ∀ {l : List α}, (sortBy le l).length = l.length
  | [] => rfl
  | x :: l => by
    have ins : ∀ {l : List α}, (insBy le x l).length = l.length + 1 := fun {l} => by
      induction l with
      | nil => rfl
      | cons y l ih => unfold insBy; split <;> simp only [List.length_cons, ih]
    unfold sortBy; rw [ins, sort_len]; rfl

theorem wC_no {a b : Option (Option Nat)} {L} (h : (signB a && decide (a = b)) = false) : wC a b L = [] := by
  rcases a with _ | _ | d
  · rfl
  · rfl
  · exact if_neg (of_decide_eq_false h)
theorem wD_no {a b : Option (Option Nat)} {L} (h : (signB a && decide (b = some none)) = false) : wD a b L = [] := by
  rcases a with _ | _ | d
  · rfl
  · rfl
  · exact if_neg (of_decide_eq_false h)
theorem wE_no {a b : Option (Option Nat)} {L} (h : (decide (a = some none) && signB b) = false) : wD b a L = [] := wD_no (by rw [Bool.and_comm]; exact h)
theorem wA_len {a : Option (Option Nat)} {L : List (List Nat)} : (wA a L).length ≤ L.length := by unfold wA; split <;> simp
theorem wC_len {a b : Option (Option Nat)} {L : List (List Nat)} : (wC a b L).length ≤ L.length := by
  unfold wC; split
  · split <;> simp
  · simp
theorem wD_len {a b : Option (Option Nat)} {L : List (List Nat)} : (wD a b L).length ≤ L.length := by
  unfold wD; split
  · split <;> simp
  · simp
theorem w0_len {a b : Option (Option Nat)} : (w0 a b).length ≤ 1 := by unfold w0; split <;> simp

section
variable {c : Cx} {m : Mem} {one two : Pat} {Z : KS}
theorem row_at {rows : List (List (List Nat))} {j : Nat} {σ : Lo} {W V : WE} (h : j < rows.length) (hz : rows.length < 2 ^ 31) (hW : ∀ k : KE, k (.d (encR rows)) m → W c σ m k) (hV : ∀ k : KE, k (.d (.int j)) m → V c σ m k) (k : KE) (hk : k (.d (encC (rows.getD j []))) m) : wIdx W V c σ m k :=
  hW _ (hV _ (idxP.dat (by rw [List.length_map]; exact hz) (by rw [List.getElem?_map, List.getElem?_eq_getElem h]; rfl) (by
    rw [List.getD_eq_getElem?_getD, List.getElem?_eq_getElem h] at hk; exact hk)))

/-- the ways of one cell, and the cell -/
theorem ways_turn (hlam : c.lam = true) {p q : Pat} {i j : Nat} {below rows : List (List (List Nat))} {a b : Option (Option Nat)} {x0 x1 x9 : Option AV} {L1 L2 L3 : List (List Nat)} (htab : isTab m 113 36) (uo1 : UOk a) (uo2 : UOk b)
    (e1 : a ≠ none → j < below.length ∧ below.getD j [] = L1) (e2 : b ≠ none → 0 < rows.length ∧ rows.getD 0 [] = L2) (e3 : a ≠ none → b ≠ none → j + 1 < below.length ∧ below.getD (j + 1) [] = L3) (hz : below.length ≤ 100 ∧ rows.length ≤ 100)
    (n1 : L1.length ≤ 1 ∧ ∀ t ∈ L1, t.length ≤ 14) (n2 : L2.length ≤ 1 ∧ ∀ t ∈ L2, t.length ≤ 14) (n3 : L3.length ≤ 1 ∧ ∀ t ∈ L3, t.length ≤ 14)
    (hw : (ways a b L1 L2 L3).length ≤ 2 ∧ ∀ t ∈ ways a b L1 L2 L3, t.length ≤ 100)
    (next : ∀ W, Z .next [x0, x1, some (.d (encR below)), some (.d (.int i)), some (.d (encR (pick2 (ways a b L1 L2 L3) :: rows))), some (.d (.int j)), some (.d (la a)), some (.d (la b)), some (.h m.length), x9] (m ++ [W])) :
    w_ways c [x0, x1, some (.d (encR below)), some (.d (.int i)), some (.d (encR rows)), some (.d (.int j)), some (.d (la a)), some (.d (la b)), some (.h m.length), x9] (m ++ [.lst []]) Z := by
  have lw0 := w0_len (a := a) (b := b)
  have l1 := wA_len (a := a) (L := L1)
  have l2 := wA_len (a := b) (L := L2)
  have l3 := wC_len (a := a) (b := b) (L := L3)
  have l4 := wD_len (a := a) (b := b) (L := L1)
  have l5 := wD_len (a := b) (b := a) (L := L2)
  have h1 := n1.1
  have h2 := n2.1
  have h3 := n3.1
  have hz1 : below.length < 2 ^ 31 := by omega
  have hz2 : rows.length < 2 ^ 31 := by omega
  have hnil : TSays (tAnd (tNil 6) (tNil 7)) c [x0, x1, some (.d (encR below)), some (.d (.int i)), some (.d (encR rows)), some (.d (.int j)), some (.d (la a)), some (.d (la b)), some (.h m.length), x9] (m ++ [.lst []]) _ := (nil_tst uo1 rfl).and fun _ => nil_tst uo2 rfl
  have go : (sBlk (List.tail [sNil, sIf (tDots 6) (xT (wIdx (wVar 2) (wVar 5))) (sBlk []), sIf (tDots 7) (xT (wIdx (wVar 4) (wDat (.int 0)))) (sBlk []),
  sIf (tAnd (tSign 6) (tCmp (wCmp eqV (wVar 6) (wVar 7)))) (xT (addC m6 6 (wIdx (wVar 2) (up 5)))) (sBlk []),
  sIf (tAnd (tSign 6) (tDots 7)) (xT (addC m6 6 (wIdx (wVar 2) (wVar 5)))) (sBlk []),
  sIf (tAnd (tDots 6) (tSign 7)) (xT (addC m7 7 (wIdx (wVar 4) (wDat (.int 0))))) (sBlk []),
  sAsg 4 (wBin addL (wList [wCut cutL (wSortK 113 36 (wVar 8)) none (some (wDat (.int 1))) none]) (wVar 4))])) c [x0, x1, some (.d (encR below)), some (.d (.int i)), some (.d (encR rows)), some (.d (.int j)), some (.d (la a)), some (.d (la b)), some (.h m.length), x9] (m ++ [.lst ((w0 a b).map encT)]) Z := by
    refine xif (L := wA a L1) rfl (dots_tst uo1 rfl) (fun h => ?_) (fun h => if_neg (of_decide_eq_false h)) (by omega) ?_
    · have ha := of_decide_eq_true h
      obtain ⟨q1, q2⟩ := e1 (by rw [ha]; exact nofun)
      rw [wA, if_pos ha, ← q2]
      exact row_at q1 hz1 (fun k hk => hk) fun k hk => hk
    refine xif (L := wA b L2) rfl (dots_tst uo2 rfl) (fun h => ?_) (fun h => if_neg (of_decide_eq_false h)) (by rw [List.length_append]; omega) ?_
    · have ha := of_decide_eq_true h
      obtain ⟨q1, q2⟩ := e2 (by rw [ha]; exact nofun)
      rw [wA, if_pos ha, ← q2]
      exact row_at q1 hz2 (fun k hk => hk) fun k hk => hk
    refine xif (L := wC a b L3) rfl ((sign_tst uo1 rfl).and fun _ => var_tst uo1 uo2 rfl rfl) (fun h => ?_) wC_no (by simp only [List.length_append]; omega) ?_
    · obtain ⟨q1, q2⟩ := (Bool.and_eq_true _ _).mp h
      obtain ⟨d, rfl⟩ := sign_of q1
      have q2 := of_decide_eq_true q2
      obtain ⟨q3, q4⟩ := e3 nofun (q2 ▸ nofun)
      rw [show wC (some (some d)) b L3 = L3.map (d :: ·) from if_pos q2]
      exact fun k hk => add_says (n := 6) (.inl ⟨rfl, rfl⟩) n3.1 n3.2 (q4 ▸ row_at (j := j + 1) q3 hz1 (fun k hk => hk) fun k hk => hk) hk
    refine xif (L := wD a b L1) rfl ((sign_tst uo1 rfl).and fun _ => dots_tst uo2 rfl) (fun h => ?_) wD_no (by simp only [List.length_append]; omega) ?_
    · obtain ⟨q1, q2⟩ := (Bool.and_eq_true _ _).mp h
      obtain ⟨d, rfl⟩ := sign_of q1
      have q2 := of_decide_eq_true q2
      obtain ⟨q3, q4⟩ := e1 nofun
      rw [show wD (some (some d)) b L1 = L1.map (d :: ·) from if_pos q2]
      exact fun k hk => add_says (n := 6) (.inl ⟨rfl, rfl⟩) n1.1 n1.2 (q4 ▸ row_at q3 hz1 (fun k hk => hk) fun k hk => hk) hk
    refine xif (L := wD b a L2) rfl ((dots_tst uo1 rfl).and fun _ => sign_tst uo2 rfl) (fun h => ?_) wE_no (by simp only [List.length_append]; omega) ?_
    · obtain ⟨q1, q2⟩ := (Bool.and_eq_true _ _).mp h
      obtain ⟨d, rfl⟩ := sign_of q2
      have q1 := of_decide_eq_true q1
      obtain ⟨q3, q4⟩ := e2 nofun
      rw [show wD (some (some d)) a L2 = L2.map (d :: ·) from if_pos q1]
      exact fun k hk => add_says (n := 7) (.inr ⟨rfl, rfl⟩) n2.1 n2.2 (q4 ▸ row_at q3 hz2 (fun k hk => hk) fun k hk => hk) hk
    have ea : w0 a b ++ wA a L1 ++ wA b L2 ++ wC a b L3 ++ wD a b L1 ++ wD b a L2 = ways a b L1 L2 L3 := by simp only [ways, List.append_assoc]
    rw [ea]
    generalize ways a b L1 L2 L3 = W at *
    refine ⟨hlam, ⟨W.map encT, m1_get, W.map tx, by rw [List.map_map]; rfl, by rw [List.length_map]; exact hw.1, fun s hs => ?_, ?_, ?_⟩⟩
    · obtain ⟨t, ht, rfl⟩ := List.mem_map.mp hs
      rw [tx_len]; have := hw.2 t ht; omega
    · exact (List.getElem?_append_left (mem_lt htab)).trans htab
    refine And.intro nofun (And.intro (by rw [List.length_map, sort_len, List.length_map]; exact line20 (by omega)) ?_)
    rw [pick_take1, ← List.map_take, sort_pick hw.1, List.map_map]
    exact And.intro (by rw [List.length_map]; exact line20 (by show 1 + _ ≤ _; omega)) (next _)
  refine hnil _ ⟨fun h => ?_, fun h => ?_⟩
  · obtain ⟨q1, q2⟩ := (Bool.and_eq_true _ _).mp h
    rw [w0, if_pos ⟨of_decide_eq_true q1, of_decide_eq_true q2⟩] at go
    refine ⟨⟨_, m1_get, trivial⟩, ⟨_, m1_get, by decide, ?_⟩⟩
    rw [set_new]
    exact go
  · rw [w0, if_neg fun q => by rw [decide_eq_true q.1, decide_eq_true q.2] at h; cases h] at go
    exact go
end
end Mine
end
section
namespace Mine

def dn : Nat → List PyData
  | 0 => []
  | r + 1 => .int r :: dn r
theorem dn_range : ∀ n : Nat, downFrom n = dn (n + 1)
  | 0 => rfl
  | n + 1 => by
    have ih := dn_range n
    unfold downFrom at ih ⊢
    rw [List.range_succ_eq_map, List.map_cons, List.map_map, dn, ← ih]
    congr 1
    refine List.map_congr_left fun i _ => ?_
    show PyData.int _ = _
    congr 1
    show ((n + 1 : Nat) : Int) - ((i + 1 : Nat) : Int) = _
    omega

section
variable {c : Cx} {μ : Mem} {one two : Pat}
theorem sem_least (hlam : c.lam = true) (h1 : SOk one) (h2 : SOk two) (hl1 : one.length ≤ 7) (hl2 : two.length ≤ 7) (htab : isTab μ 113 36)
    {k : KE} (hk : ∀ L, Cell one two L → k (.d (encC L)) μ) : f_law_least c [.d (encP one), .d (encP two)] μ k := by
  refine ⟨rfl, ?_⟩
  have hR : ∀ L, Cell one two L → ∀ σ ex, finP μ.length k (.ret (.d (encC L))) σ (μ ++ ex) := fun L ht σ ex => by
    show k _ ((μ ++ ex).take μ.length)
    rw [List.take_left]; exact hk L ht
  generalize finP μ.length k = Q at hR ⊢
  refine ⟨by rw [List.length_map]; omega, one.length, by rw [List.length_map], rfl, rfl, by omega, ?_⟩
  rw [dn_range]
  refine for_mk (fun ds σ m => ∃ (r : Nat) (below : List (List (List Nat))) (ex : Mem) (x3 x4 x5 x6 x7 x8 x9 : Option AV), ds = dn r ∧ r ≤ one.length + 1 ∧ (r ≤ one.length → below.length = two.length + 1 ∧ ∀ k, k ≤ two.length → Cell (one.drop r) (two.drop k) (below.getD k [])) ∧ below.length ≤ 8 ∧
    σ = [some (.d (encP one)), some (.d (encP two)), some (.d (encR below)), x3, x4, x5, x6, x7, x8, x9] ∧ m = μ ++ ex) ⟨one.length + 1, [], [], _, _, _, _, _, _, _, rfl, Nat.le_refl _, fun h => absurd h (Nat.not_succ_le_self _), Nat.zero_le _, rfl, (List.append_nil _).symm⟩ ?_ ?_
  · rintro d ds _ _ Z hn - - - ⟨r, below, ex, x3, x4, x5, x6, x7, x8, x9, hd, hr, hb, hbl, rfl, rfl⟩
    cases r with
    | zero => cases hd
    | succ r =>
      cases hd
      refine ⟨by rw [List.length_map]; omega, two.length, by rw [List.length_map], rfl, rfl, by omega, ?_⟩
      rw [dn_range]
      refine for_mk (fun ds σ m => ∃ (s : Nat) (row : List (List (List Nat))) (ex : Mem) (x5 x6 x7 x8 x9 : Option AV), ds = dn s ∧ s ≤ two.length + 1 ∧ row.length = two.length + 1 - s ∧ (∀ k, k < row.length → Cell (one.drop r) (two.drop (s + k)) (row.getD k [])) ∧
        σ = [some (.d (encP one)), some (.d (encP two)), some (.d (encR below)), some (.d (.int r)), some (.d (encR row)), x5, x6, x7, x8, x9] ∧ m = μ ++ ex) ⟨two.length + 1, [], ex, _, _, _, _, _, rfl, Nat.le_refl _, (Nat.sub_self _).symm, fun k hk => absurd hk (Nat.not_lt_zero _), rfl, rfl⟩ ?_ ?_
      · rintro d ds _ _ Y hy - - - ⟨s, row, ex, x5, x6, x7, x8, x9, hd, hs, hl, hc, rfl, rfl⟩
        cases s with
        | zero => cases hd
        | succ s =>
          cases hd
          have uo1 : UOk one[r]? := uok_at h1
          have uo2 : UOk two[s]? := uok_at h2
          refine And.intro nofun (And.intro (by rw [List.length_map]; exact line20 (by omega)) ?_)
          rw [slice_one]
          refine And.intro nofun (And.intro (by rw [List.length_map]; exact line20 (by omega)) ?_)
          rw [slice_one]
          have ai : one[r]? ≠ none → r < one.length := fun h => Nat.lt_of_not_le fun h' => h (List.getElem?_eq_none_iff.mpr h')
          have aj : two[s]? ≠ none → s < two.length := fun h => Nat.lt_of_not_le fun h' => h (List.getElem?_eq_none_iff.mpr h')
          have c1 : one[r]? ≠ none → Cell (one.drop (r + 1)) (two.drop s) (below.getD s []) := fun h => (hb (ai h)).2 s (by omega)
          have c2 : two[s]? ≠ none → Cell (one.drop r) (two.drop (s + 1)) (row.getD 0 []) := fun h => hc 0 (by have := aj h; omega)
          have c3 : one[r]? ≠ none → two[s]? ≠ none → Cell (one.drop (r + 1)) (two.drop (s + 1)) (below.getD (s + 1) []) := fun h h' => (hb (ai h)).2 (s + 1) (aj h')
          -- what is not there counts as empty
          have pick : ∀ (p : Prop) (i' j' : Nat) (x : List (List Nat)), (p → Cell (one.drop i') (two.drop j') x) → ∃ L, (p → x = L) ∧ (p → Cell (one.drop i') (two.drop j') L) ∧ L.length ≤ 1 ∧ ∀ t ∈ L, t.length ≤ 14 := fun p i' j' x hx => by
            by_cases hp : p
            · refine ⟨x, fun _ => rfl, hx, (hx hp).len, fun t ht => ?_⟩
              have := ((hx hp).sound t ht).len
              rw [List.length_drop, List.length_drop] at this; omega
            · exact ⟨[], fun h => absurd h hp, fun h => absurd h hp, Nat.zero_le _, fun t ht => by cases ht⟩
          obtain ⟨L1, p1, d1, n1⟩ := pick _ _ _ _ c1
          obtain ⟨L2, p2, d2, n2⟩ := pick _ _ _ _ c2
          obtain ⟨L3, p3, d3, n3⟩ := pick (one[r]? ≠ none ∧ two[s]? ≠ none) _ _ _ fun h => c3 h.1 h.2
          obtain ⟨w1, w2, w3⟩ := ways_ok (p := one.drop r) (q := two.drop s) (L1 := L1) (L2 := L2) (L3 := L3)
            (fun h => by rw [List.tail_drop]; exact d1 fun e => h (drop_none e)) (fun h => by rw [List.tail_drop]; exact d2 fun e => h (drop_none e))
            (fun h h' => by rw [List.tail_drop, List.tail_drop]; exact d3 ⟨fun e => h (drop_none e), fun e => h' (drop_none e)⟩)
          rw [List.head?_drop, List.head?_drop] at w1 w2 w3
          refine ways_turn (m := μ ++ ex) (p := one) (q := two) (L1 := L1) (L2 := L2) (L3 := L3) hlam ((List.getElem?_append_left (mem_lt htab)).trans htab) uo1 uo2 (fun h => ⟨by have := (hb (ai h)).1; omega, p1 h⟩) (fun h => ⟨by have := aj h; omega, p2 h⟩)
            (fun h h' => ⟨by have := (hb (ai h)).1; have := aj h'; omega, p3 ⟨h, h'⟩⟩) ⟨by omega, by omega⟩ n1 n2 n3 ⟨w3, fun t ht => ?_⟩ fun W => hy _ _ ⟨s, pick2 (ways one[r]? two[s]? L1 L2 L3) :: row, ex ++ [W], _, _, _, _, _, rfl, by omega, by rw [List.length_cons]; omega, fun k hk => ?_, rfl, List.append_assoc ..⟩
          · have := (w1 t ht).len
            rw [List.length_drop, List.length_drop] at this; omega
          · cases k with
            | zero => exact pick_cell w3 w1 w2
            | succ k => rw [List.length_cons] at hk; have := hc k (by omega); rw [show s + (k + 1) = s + 1 + k by omega]; exact this
      · rintro _ _ ⟨s, row, ex, x5, x6, x7, x8, x9, hd, hs, hl, hc, rfl, rfl⟩
        cases s with
        | succ s => cases hd
        | zero => exact hn _ _ ⟨r, row, ex, _, _, _, _, _, _, _, rfl, by omega, fun _ => ⟨hl, fun k hk => by have := hc k (by omega); rwa [Nat.zero_add] at this⟩, by omega, rfl, rfl⟩
  · rintro _ _ ⟨r, below, ex, x3, x4, x5, x6, x7, x8, x9, hd, hr, hb, hbl, rfl, rfl⟩
    cases r with
    | succ r => cases hd
    | zero =>
      obtain ⟨b1, b2⟩ := hb (Nat.zero_le _)
      refine idxP.dat (μ := μ ++ ex) (n := 0) (xs := below.map encC) (x := encC (below.getD 0 [])) (by rw [List.length_map]; omega) ?_ ?_
      · rw [List.getElem?_map, List.getD_eq_getElem?_getD, List.getElem?_eq_getElem (show 0 < below.length by omega)]; rfl
      · exact hR _ (b2 0 (Nat.zero_le _)) _ _
end
end Mine
end
section
open PySem
namespace Mine

theorem gm_dots {ps : Pat} {t : List Nat} : gm (none :: ps) t ↔ gm ps t ∨ ∃ c t', t = c :: t' ∧ gm (none :: ps) t' := by
  constructor
  · rintro ⟨k, hk, h⟩
    cases k with
    | zero => exact .inl (by simpa using h)
    | succ k => cases t with
      | nil => simp at hk
      | cons c t' => exact .inr ⟨c, t', rfl, k, by simpa using hk, by simpa using h⟩
  · rintro (h | ⟨c, t', rfl, k, hk, h⟩)
    · exact ⟨0, Nat.zero_le _, by simpa using h⟩
    · exact ⟨k + 1, by simpa using hk, by simpa using h⟩

theorem R.gm1 {p q : Pat} {t : List Nat} (h : R p q t) : gm p t := by
  induction h with
  | nil => rfl
  | da _ ih => exact gm_dots.mpr (.inl ih)
  | db _ ih => exact ih
  | ss _ ih => exact ⟨_, rfl, ih⟩
  | sd _ ih => exact ⟨_, rfl, ih⟩
  | ds _ ih => exact gm_dots.mpr (.inr ⟨_, _, rfl, ih⟩)
theorem R.gm2 {p q : Pat} {t : List Nat} (h : R p q t) : gm q t := h.symm.gm1

theorem R.full : ∀ (n : Nat) (p q : Pat) (t : List Nat), p.length + q.length + t.length ≤ n → gm p t → gm q t → ∃ r, R p q r ∧ r.length ≤ t.length := by
  intro n
  induction n with
  | zero =>
    intro p q t h hp hq
    have h1 : p = [] := List.eq_nil_of_length_eq_zero (by omega)
    have h2 : q = [] := List.eq_nil_of_length_eq_zero (by omega)
    subst h1; subst h2
    exact ⟨[], .nil, Nat.zero_le _⟩
  | succ n ih =>
    intro p q t h hp hq
    cases p with
    | nil =>
      have ht : t = [] := hp
      subst ht
      cases q with
      | nil => exact ⟨[], .nil, Nat.zero_le _⟩
      | cons u q => cases u with
        | some c => obtain ⟨u, hu, _⟩ := hq; simp at hu
        | none =>
          rcases gm_dots.mp hq with hq | ⟨c, t', hc, _⟩
          · obtain ⟨r, hr, hl⟩ := ih [] q [] (by simp only [List.length_cons] at h; omega) hp hq
            exact ⟨r, .db hr, hl⟩
          · simp at hc
    | cons u p => cases u with
      | some c =>
        obtain ⟨t', rfl, hp⟩ := hp
        cases q with
        | nil => have : c :: t' = [] := hq; simp at this
        | cons v q => cases v with
          | some d =>
            obtain ⟨t2, e, hq⟩ := hq
            obtain ⟨rfl, rfl⟩ := List.cons.inj e
            obtain ⟨r, hr, hl⟩ := ih p q t' (by simp only [List.length_cons] at h; omega) hp hq
            exact ⟨c :: r, .ss hr, by simpa using hl⟩
          | none =>
            rcases gm_dots.mp hq with hq | ⟨d, t2, e, hq⟩
            · obtain ⟨r, hr, hl⟩ := ih (some c :: p) q (c :: t') (by simp only [List.length_cons] at h ⊢; omega) ⟨t', rfl, hp⟩ hq
              exact ⟨r, .db hr, hl⟩
            · obtain ⟨rfl, rfl⟩ := List.cons.inj e
              obtain ⟨r, hr, hl⟩ := ih p (none :: q) t' (by simp only [List.length_cons] at h ⊢; omega) hp hq
              exact ⟨c :: r, .sd hr, by simpa using hl⟩
      | none =>
        rcases gm_dots.mp hp with hp' | ⟨c, t', rfl, hp'⟩
        · obtain ⟨r, hr, hl⟩ := ih p q t (by simp only [List.length_cons] at h; omega) hp' hq
          exact ⟨r, .da hr, hl⟩
        · cases q with
          | nil => have : c :: t' = [] := hq; simp at this
          | cons v q => cases v with
            | some d =>
              obtain ⟨t2, e, hq⟩ := hq
              obtain ⟨rfl, rfl⟩ := List.cons.inj e
              obtain ⟨r, hr, hl⟩ := ih (none :: p) q t' (by simp only [List.length_cons] at h ⊢; omega) hp' hq
              exact ⟨c :: r, .ds hr, by simpa using hl⟩
            | none =>
              rcases gm_dots.mp hq with hq | ⟨d, t2, e, hq⟩
              · obtain ⟨r, hr, hl⟩ := ih (none :: p) q (c :: t') (by simp only [List.length_cons] at h ⊢; omega) hp hq
                exact ⟨r, .db hr, hl⟩
              · obtain ⟨rfl, rfl⟩ := List.cons.inj e
                obtain ⟨r, hr, hl⟩ := ih (none :: p) (none :: q) t' (by simp only [List.length_cons] at h ⊢; omega) hp' hq
                exact ⟨r, hr, by simp; omega⟩

theorem emB_ng {ps : Pat} {t : List Nat} (hs : SOk ps) : emB (tx (flat ps)) (tx t) = false ↔ ¬ gm ps t := by
  rw [← emB_gm hs]; simp

theorem least_none_shorter {one two : Pat} {t : List Nat} (h1 : SOk one) (h2 : SOk two) (hr : R one two t) (hl : ∀ t', R one two t' → sle t t') : NoneShorter one two t := by
  refine ⟨by rw [(emB_gm h1).mpr hr.gm1, (emB_gm h2).mpr hr.gm2]; rfl, fun k hk => ?_⟩
  cases e1 : emB (tx (flat one)) (tx (t.take k ++ t.drop (k + 1))) with
  | false => rfl
  | true => cases e2 : emB (tx (flat two)) (tx (t.take k ++ t.drop (k + 1))) with
    | false => rfl
    | true =>
      exfalso
      obtain ⟨r, hr', hle⟩ := R.full _ one two _ (Nat.le_refl _) ((emB_gm h1).mp e1) ((emB_gm h2).mp e2)
      have := hl r hr'
      simp only [List.length_append, List.length_take, List.length_drop] at hle
      unfold sle at this
      omega

theorem gm_run {ps : Pat} {run t : List Nat} : ∀ k : List Nat, gm ps t → gm (none :: ps) (k ++ t)
  | [], h => gm_dots.mpr (.inl h)
  | c :: k, h => gm_dots.mpr (.inr ⟨c, k ++ t, rfl, gm_run (run := run) k h⟩)
theorem gm_fill : ∀ (ps : Pat) (run : List Nat), gm ps (fill ps run)
  | [], _ => rfl
  | some c :: ps, run => by rw [fill_cons]; exact ⟨_, rfl, gm_fill ps run⟩
  | none :: ps, run => by rw [fill_cons]; exact gm_run (run := run) run (gm_fill ps run)

theorem own_ok {one two : Pat} {tl : List (List Nat)} {run : List Nat} (h1 : SOk one) (h2 : SOk two) (h : tl = [] → ∀ t, ¬ R one two t) : OwnOk one two tl run := by
  refine ⟨(emB_gm h1).mpr (gm_fill one run), fun e => (emB_ng h2).mpr fun g => ?_⟩
  obtain ⟨r, hr, _⟩ := R.full _ one two _ (Nat.le_refl _) (gm_fill one run) g
  exact h e r hr
end Mine
end
section
namespace Mine

theorem pick_map {α β : Type} {f : α → β} {xs : List α} {lo hi st : Option Int} : pickL (xs.map f) lo hi st = (pickL xs lo hi st).map f := by
  unfold pickL
  rw [List.length_map, List.map_filterMap]
  congr 1
  funext i
  rw [List.getElem?_map]
theorem pick2_len {α : Type} {xs : List α} {s : Int} (h : xs.length ≤ 14) (hs : s = 0 ∨ s = 1) : (pickL xs (some s) none (some 2)).length ≤ 7 := by
  unfold pickL
  refine Nat.le_trans (List.length_filterMap_le _ _) ?_
  have : ∀ n : Nat, n ≤ 14 → ∀ s : Int, (s = 0 ∨ s = 1) → (sliceRange (sliceBounds (some s) none (some 2) n).1 (sliceBounds (some s) none (some 2) n).2.1 (sliceBounds (some s) none (some 2) n).2.2).length ≤ 7 := by
    intro n hn s hs
    rcases hs with rfl | rfl
    · revert n; decide +kernel
    · revert n; decide +kernel
  exact this _ h _ hs
theorem pick_run5 {α : Type} {xs : List α} {lo : Option Int} {a b : Nat} (h : lo = none ∧ a = 0 ∨ lo = some (a : Int)) (hb : b ≤ a + 5) : (pickL xs lo (some (b : Int)) none).length ≤ 5 := by
  unfold pickL
  refine Nat.le_trans (List.length_filterMap_le _ _) ?_
  rw [sliceBounds_plain, sliceRange_one, List.length_map, List.length_range]
  rcases h with ⟨rfl, rfl⟩ | rfl
  · show clipAt _ (b : Int) - 0 ≤ 5
    rw [clip_nat]; omega
  · show clipAt _ (b : Int) - clipAt _ (a : Int) ≤ 5
    rw [clip_nat, clip_nat]; omega
theorem pc1_ok (ns : List Int) : SOk (ns.map pc1) := by
  intro c hc
  obtain ⟨n, _, h⟩ := List.mem_map.mp hc
  unfold pc1 at h
  split at h
  · cases h; decide
  · split at h
    · cases h; decide
    · cases h

theorem texts_self {tl : List (List Nat)} (h : ∀ t ∈ tl, ∀ c ∈ t, c < 0x110000) : okEq (encC tl) (encC tl) = true ∧ PyData.eqv (encC tl) (encC tl) = true := by
  obtain ⟨i1, i2⟩ := texts_lay h
  refine ⟨?_, ?_⟩
  · unfold okEq
    rw [show (encC tl).canLay0 = true from i1]
    exact decide_eq_true (Nat.le_trans (Nat.succ_le_succ i2) (by decide))
  · clear i1 i2 h
    show PyData.eqvAll _ _ = true
    induction tl with
    | nil => rfl
    | cons t tl ih =>
      show (tx t == tx t && PyData.eqvAll _ _) = true
      rw [beq_self_eq_true, ih]; rfl
/-- an expression is worth that -/
def ESays (W : WE) (c : Cx) (σ : Lo) (μ : Mem) (a : AV) : Prop := ∀ k : KE, k a μ → W c σ μ k
theorem ESays.addL {W V : WE} {c : Cx} {σ : Lo} {μ : Mem} {x y z : List PyData} (h1 : ESays W c σ μ (.d (.list x))) (h2 : ESays V c σ μ (.d (.list y))) (e : x ++ y = z) (h : x.length + y.length ≤ sizeLine) : ESays (wBin addL W V) c σ μ (.d (.list z)) := fun k hk => h1 _ (h2 _ ⟨h, e.symm ▸ hk⟩)
theorem asg_says {W : WE} {B : WS} {c : Cx} {σ : Lo} {μ : Mem} {Q : KS} {x : PyData} {n : Nat} (h : ESays W c σ μ (.d x)) (q : B c (σ.set n (some (.d x))) μ Q) : sSeq (sAsg n W) B c σ μ Q := h _ q

section
variable {c : Cx} {μ : Mem}
theorem sem_law1 {l : List Int} {P S T N O : List AV → Mem → KE → Prop} {Q : KS} (hl : l.length ≤ 63) (hP : c.fns "_law_pieces" = some P) (hS : c.fns "_law_search" = some S) (hT : c.fns "_law_least" = some T) (hN : c.fns "_law_none_shorter" = some N) (hO : c.fns "_law_own" = some O)
    (kP : ∀ ns : List Int, ns.length ≤ 4096 → Says P [.d (.list (ns.map .int))] μ (.d (encP (ns.map pc1))) μ)
    (kk : ∀ one two : Pat, SOk one → SOk two → one.length ≤ 7 → two.length ≤ 7 → (∀ k : KE, (∀ L, Cell one two L → k (.d (encC L)) μ) → S [.d (encP one), .d (encP two)] μ k) ∧ (∀ k : KE, (∀ L, Cell one two L → k (.d (encC L)) μ) → T [.d (encP one), .d (encP two)] μ k) ∧
      ∀ L, Cell one two L → Says N [.d (encP one), .d (encP two), .d (encC L)] μ (.d (.bool true)) μ ∧ Says O [.d (encP one), .d (encP two), .d (encC L)] μ (.d (.bool true)) μ ∧ Says O [.d (encP two), .d (encP one), .d (encC L)] μ (.d (.bool true)) μ)
    (hQ : ∀ σ, Q (.ret (.d (.bool true))) σ μ) : w_law c (initS 5 [.d (.list (l.map .int))]) μ Q := by
  have hA : (pickL l none (some 5) none).length ≤ 5 := pick_run5 (a := 0) (b := 5) (.inl ⟨rfl, rfl⟩) (by omega)
  have hB : (pickL l (some 5) (some 10) none).length ≤ 5 := pick_run5 (a := 5) (b := 10) (.inr rfl) (by omega)
  have hll : (l.map PyData.int).length ≤ sizeLine := by rw [List.length_map]; exact line20 (by omega)
  have hd : (pickL l none (some 5) none ++ [0, 2, 1, 1] ++ pickL l (some 5) (some 10) none).length ≤ 14 := by
    rw [List.length_append, List.length_append]; show _ + 4 + _ ≤ 14; omega
  have e1 : ESays (wCut cutL (wVar 0) none (some (wDat (.int 5))) none) c (initS 5 [.d (.list (l.map .int))]) μ (.d (.list ((pickL l none (some 5) none).map .int))) := fun k hk => And.intro nofun (And.intro hll (by rw [pick_map]; exact hk))
  have e2 : ESays (wList [(wDat (.int 0)), (wDat (.int 2)), (wDat (.int 1)), (wDat (.int 1))]) c (initS 5 [.d (.list (l.map .int))]) μ (.d (.list ([0, 2, 1, 1].map .int))) := fun k hk => hk
  have e3 : ESays (wCut cutL (wVar 0) (some (wDat (.int 5))) (some (wDat (.int 10))) none) c (initS 5 [.d (.list (l.map .int))]) μ (.d (.list ((pickL l (some 5) (some 10) none).map .int))) := fun k hk => And.intro nofun (And.intro hll (by rw [pick_map]; exact hk))
  have hdr := (e1.addL e2 List.map_append.symm (by rw [List.length_map]; exact line20 (by show _ + 4 ≤ _; omega))).addL e3 List.map_append.symm (by rw [List.length_map, List.length_map, List.length_append]; exact line20 (by show _ + 4 + _ ≤ _; omega))
  refine asg_says (n := 1) hdr ?_
  generalize pickL l none (some 5) none ++ [0, 2, 1, 1] ++ pickL l (some 5) (some 10) none = draws at hd ⊢
  have z1 : (pickL draws (some 0) none (some 2)).length ≤ 7 := pick2_len hd (.inl rfl)
  have z2 : (pickL draws (some 1) none (some 2)).length ≤ 7 := pick2_len hd (.inr rfl)
  have hdl : (draws.map PyData.int).length ≤ sizeLine := by rw [List.length_map]; exact line20 (by omega)
  refine ⟨P, hP, by decide, hdl, ?_⟩
  rw [pick_map]
  refine kP _ (by omega) _ ?_
  refine ⟨P, hP, by decide, hdl, ?_⟩
  rw [pick_map]
  refine kP _ (by omega) _ ?_
  obtain ⟨k1, k2, k3⟩ := kk ((pickL draws (some 0) none (some 2)).map pc1) ((pickL draws (some 1) none (some 2)).map pc1) (pc1_ok _) (pc1_ok _) (by rw [List.length_map]; exact z1) (by rw [List.length_map]; exact z2)
  refine ⟨S, hS, k1 _ fun L hL => ⟨T, hT, k2 _ fun L' hL' => ?_⟩⟩
  cases hL.uniq hL'
  obtain ⟨q1, q2, q3⟩ := k3 L hL
  obtain ⟨t1, t2⟩ := texts_self fun t ht => (hL.sound t ht).sg (pc1_ok _) (pc1_ok _)
  refine And.intro t1 ?_
  rw [t2]
  exact condP.t rfl ⟨N, hN, q1 _ (condP.t rfl ⟨O, hO, q2 _ (condP.t rfl ⟨O, hO, q3 _ (hQ _)⟩)⟩)⟩
end
end Mine
end
section
namespace Mine

def names1 : List Str := ["heappush", "heappop", "_siftdown", "_siftup", "_ellipsis_match", "_law_pieces", "_law_search", "_law_least", "_law_both", "_law_none_shorter", "_law_filled", "_law_own"]
def defs1 : List (WS × Nat × Nat) := [(w_heappush, 2, 2), (w_heappop, 1, 3), (w_siftdown, 3, 6), (w_siftup, 2, 7), (w_ellipsis_match, 2, 6), (w_law_pieces, 1, 2), (w_law_search, 2, 10), (w_law_least, 2, 10), (w_law_both, 3, 4), (w_law_none_shorter, 3, 5), (w_law_filled, 2, 3), (w_law_own, 3, 5)]
def cst1 (x : Str) : Option PyData := if x = "ELLIPSIS_MARKER" then some (.str dots) else none
def cxs1 : Nat → Cx
  | 0 => ⟨fun _ => none, cst1, true⟩
  | n + 1 => ⟨fun f => defs1[names1.idxOf f]?.map fun p => mfun p.1 p.2.1 p.2.2 (cxs1 n), cst1, true⟩
theorem cxs1_lam (n : Nat) : (cxs1 n).lam = true := by cases n <;> rfl
theorem cxs1_cst (n : Nat) : (cxs1 n).cst = cst1 := by cases n <;> rfl
theorem cx1 {n : Nat} {f : Str} (i : Nat) {p : WS × Nat × Nat} (h : names1.idxOf f = i) (hp : defs1[i]? = some p) : (cxs1 (n + 1)).fns f = some (mfun p.1 p.2.1 p.2.2 (cxs1 n)) := by
  show (defs1[names1.idxOf f]?).map _ = _
  rw [h, hp]; rfl

section
variable {n : Nat}
theorem c_push : (cxs1 (n + 1)).fns "heappush" = some (f_heappush (cxs1 n)) := cx1 0 (by decide +kernel) rfl
theorem c_pop : (cxs1 (n + 1)).fns "heappop" = some (f_heappop (cxs1 n)) := cx1 1 (by decide +kernel) rfl
theorem c_sd : (cxs1 (n + 1)).fns "_siftdown" = some (f_siftdown (cxs1 n)) := cx1 2 (by decide +kernel) rfl
theorem c_su : (cxs1 (n + 1)).fns "_siftup" = some (f_siftup (cxs1 n)) := cx1 3 (by decide +kernel) rfl
theorem c_em : (cxs1 (n + 1)).fns "_ellipsis_match" = some (f_ellipsis_match (cxs1 n)) := cx1 4 (by decide +kernel) rfl
theorem c_pc : (cxs1 (n + 1)).fns "_law_pieces" = some (f_law_pieces (cxs1 n)) := cx1 5 (by decide +kernel) rfl
theorem c_se : (cxs1 (n + 1)).fns "_law_search" = some (f_law_search (cxs1 n)) := cx1 6 (by decide +kernel) rfl
theorem c_le : (cxs1 (n + 1)).fns "_law_least" = some (f_law_least (cxs1 n)) := cx1 7 (by decide +kernel) rfl
theorem c_bo : (cxs1 (n + 1)).fns "_law_both" = some (f_law_both (cxs1 n)) := cx1 8 (by decide +kernel) rfl
theorem c_ns : (cxs1 (n + 1)).fns "_law_none_shorter" = some (f_law_none_shorter (cxs1 n)) := cx1 9 (by decide +kernel) rfl
theorem c_fi : (cxs1 (n + 1)).fns "_law_filled" = some (f_law_filled (cxs1 n)) := cx1 10 (by decide +kernel) rfl
theorem c_ow : (cxs1 (n + 1)).fns "_law_own" = some (f_law_own (cxs1 n)) := cx1 11 (by decide +kernel) rfl
end

theorem flat_sg {ps : Pat} (h : SOk ps) : ∀ c ∈ flat ps, c < 0x110000 := by
  intro c hc
  obtain ⟨u, hu, hcu⟩ := List.mem_flatMap.mp hc
  cases u with
  | none => simp [unit] at hcu; omega
  | some d => rw [unit, List.mem_singleton] at hcu; subst hcu; exact (h _ hu).2

/-- _ellipsis_match on a pattern and a text -/
theorem ell_ok {c : Cx} {μ : Mem} {ps : Pat} {t : List Nat} (hc : c.cst "ELLIPSIS_MARKER" = some (.str dots)) (hs : SOk ps) (hp : ps.length ≤ 1000) (ht : t.length ≤ 100000) (hsg : ∀ c ∈ t, c < 0x110000) :
    Says (f_ellipsis_match c) [.d (.str (tx (flat ps))), .d (.str (tx t))] μ (.d (.bool (emB (tx (flat ps)) (tx t)))) μ := by
  have hfl := flat_len ps
  by_cases hd : none ∈ ps
  · have h2 := segs_two hd
    have h3 := segs_count ps
    have h4 := segs_len ps
    have hsp := split_segs hs hd
    generalize segs ps = V at *
    rcases V with _ | ⟨w, _ | ⟨a, l⟩⟩
    · exact absurd h2 (Nat.not_succ_le_zero 1)
    · exact absurd h2 (Nat.not_succ_le_self 1)
    refine sem_ellipsis (w0 := tx w) (w1 := tx a) (ws := l.map tx) hc (by rw [tx_len]; omega) (by rw [tx_len]; omega) (strOk_tx (flat_sg hs)) (strOk_tx hsg) (fun _ => hsp) (fun s hm => ?_) ?_
    · rw [← List.map_cons, ← List.map_cons] at hm
      obtain ⟨s', hs', rfl⟩ := List.mem_map.mp hm
      have := h4 s' hs'
      rw [tx_len]; omega
    · rw [List.length_cons, List.length_cons] at h3
      rw [List.length_map]; omega
  · refine sem_ellipsis (w0 := tx []) (w1 := tx []) (ws := []) hc (by rw [tx_len]; omega) (by rw [tx_len]; omega) (strOk_tx (flat_sg hs)) (strOk_tx hsg) (fun e => ?_) (fun s hm => ?_) (by decide)
    · rw [(occ_none_iff hs).mpr hd] at e; cases e
    · have : s = tx [] := by
        rcases List.mem_cons.mp hm with h | h
        · exact h
        · exact List.mem_singleton.mp h
      rw [this]; decide

theorem fill_sg {ps : Pat} {run : List Nat} (h : SOk ps) (hr : ∀ c ∈ run, c < 0x110000) : ∀ c ∈ fill ps run, c < 0x110000 := by
  intro c hc
  obtain ⟨u, hu, hcu⟩ := List.mem_flatMap.mp hc
  cases u with
  | none => exact hr c hcu
  | some d => rw [fillU, List.mem_singleton] at hcu; subst hcu; exact (h _ hu).2
theorem fill_nil_len : ∀ ps : Pat, (fill ps []).length ≤ ps.length
  | [] => Nat.le_refl _
  | u :: ps => by
    have := fill_nil_len ps
    rw [fill_cons, List.length_append, List.length_cons]
    cases u
    · show 0 + _ ≤ _; omega
    · show 1 + _ ≤ _; omega
end Mine
end
section
namespace Mine
theorem law1_means {μ : Mem} {l : List Int} {Q : KS} (hl : l.length ≤ 63) (htab : isTab μ 113 36) (hQ : ∀ σ, Q (.ret (.d (.bool true))) σ μ) : w_law (cxs1 4) (initS 5 [.d (.list (l.map .int))]) μ Q := by
  refine sem_law1 hl c_pc c_se c_le c_ns c_ow (fun ns hn => sem_pieces1 hn) (fun one two h1 h2 hl1 hl2 => ?_) hQ
  have hcst : ∀ n, (cxs1 n).cst "ELLIPSIS_MARKER" = some (.str dots) := fun n => by rw [cxs1_cst]; exact if_pos rfl
  have hboth : ∀ {n : Nat} {p q : Pat} {t : List Nat}, SOk p → SOk q → p.length ≤ 7 → q.length ≤ 7 → t.length ≤ 100000 → (∀ c ∈ t, c < 0x110000) → Says (f_law_both (cxs1 (n + 1))) [.d (encP p), .d (encP q), .d (.str (tx t))] μ (.d (bothD p q t)) μ := fun hp hq lp lq ht hsg =>
    sem_both1 c_em (by omega) (by omega) fun ps hps => by
      rcases hps with rfl | rfl
      · exact ell_ok (hcst _) hp (by omega) ht hsg
      · exact ell_ok (hcst _) hq (by omega) ht hsg
  refine ⟨fun k hk => ?_, fun k hk => sem_least (cxs1_lam 3) h1 h2 hl1 hl2 htab hk, fun L hL => ?_⟩
  · refine sem_search (c := cxs1 3) (pop_ok ordE4 c_su c_sd) (push_ok ordE4 c_sd) c_pop c_push h1 h2 hl1 hl2 fun tl ht => hk tl ?_
    rcases ht with ⟨t, rfl, hr, _⟩ | ⟨rfl, hr⟩
    · exact .inr ⟨t, rfl, hr⟩
    · exact .inl ⟨rfl, hr⟩
  have hLsg : ∀ t ∈ L, ∀ c ∈ t, c < 0x110000 := fun t ht => (hL.sound t ht).sg h1 h2
  have hLlen : ∀ t ∈ L, t.length ≤ 14 := fun t ht => by have := (hL.sound t ht).len; omega
  have hown : ∀ p q : Pat, SOk p → SOk q → p.length ≤ 7 → q.length ≤ 7 → (L = [] → ∀ t, ¬ R p q t) → Says (f_law_own (cxs1 3)) [.d (encP p), .d (encP q), .d (encC L)] μ (.d (.bool true)) μ := fun p q hp hq lp lq hno => by
    refine sem_own (tl := L) c_bo c_fi (fun run hr => sem_filled1 hp (by omega) (by have := hr.1; omega)) (sem_filled1 hq (by omega) (Nat.zero_le _)) ⟨?_, fill_sg hq (fun c hc => by cases hc)⟩ (fun run hr => ?_) hLsg (own_ok hp hq hno) (own_ok hp hq hno)
    · have := fill_nil_len q; omega
    · refine hboth hp hq lp lq ?_ (fill_sg hp hr.2)
      have := fill_len (run := run) (by have := hr.1; omega) p; omega
  have none : L = [] → ∀ t, ¬ R one two t := fun e t ht => by
    obtain ⟨w, hw, _⟩ := hL.cov ht
    rw [e] at hw; cases hw
  refine ⟨?_, hown one two h1 h2 hl1 hl2 none, hown two one h2 h1 hl2 hl1 fun e t ht => none e t ht.symm⟩
  refine sem_none_shorter (tl := L) c_bo (fun t ht => hboth h1 h2 hl1 hl2 (by have := ht.1; omega) ht.2) fun t ht => ⟨⟨by have := hLlen t ht; omega, hLsg t ht⟩, ?_⟩
  rcases hL with ⟨rfl, _⟩ | ⟨w, rfl, hw, hl⟩
  · cases ht
  · rw [List.mem_singleton.mp ht]; exact least_none_shorter h1 h2 hw hl
end Mine
end
section
set_option maxRecDepth 100000
namespace Mine
theorem len1 {vs : List Value} (h : vs.length = 1) : ∃ a, vs = [a] := by
  rcases vs with _ | ⟨a, _ | ⟨b, vs⟩⟩
  · cases h
  · exact ⟨a, rfl⟩
  · cases h
theorem len2 {vs : List Value} (h : vs.length = 2) : ∃ a b, vs = [a, b] := by
  rcases vs with _ | ⟨a, vs⟩
  · cases h
  · obtain ⟨b, rfl⟩ := len1 (Nat.succ.inj h); exact ⟨a, b, rfl⟩
theorem len3 {vs : List Value} (h : vs.length = 3) : ∃ a b c, vs = [a, b, c] := by
  rcases vs with _ | ⟨a, vs⟩
  · cases h
  · obtain ⟨b, c, rfl⟩ := len2 (Nat.succ.inj h); exact ⟨a, b, c, rfl⟩

theorem f1_1 {h : Heap} {P : Params} (X : (hd.heap_39 P).In h) : ∃ o fd, FnAt h 21 o fd (ns_heappush.take 2) (stScope (stAt1 1)) (stBody (stAt1 1)) :=
  ⟨_, _, ⟨X 21 _ (by rfl), by rfl, by rfl, by rfl, by rfl, by rfl, by rfl, codeRec_of X (by rfl), fun vals hv => by obtain ⟨a, b, rfl⟩ := len2 hv; rfl, by rfl, by rfl, by rfl, by decide +kernel, by decide +kernel, by decide +kernel, fun e => absurd e (by decide +kernel)⟩⟩
theorem f1_2 {h : Heap} {P : Params} (X : (hd.heap_39 P).In h) : ∃ o fd, FnAt h 28 o fd (ns_heappop.take 1) (stScope (stAt1 2)) (stBody (stAt1 2)) :=
  ⟨_, _, ⟨X 28 _ (by rfl), by rfl, by rfl, by rfl, by rfl, by rfl, by rfl, codeRec_of X (by rfl), fun vals hv => by obtain ⟨a, rfl⟩ := len1 hv; rfl, by rfl, by rfl, by rfl, by decide +kernel, by decide +kernel, by decide +kernel, fun e => absurd e (by decide +kernel)⟩⟩
theorem f1_3 {h : Heap} {P : Params} (X : (hd.heap_39 P).In h) : ∃ o fd, FnAt h 35 o fd (ns_siftdown.take 3) (stScope (stAt1 3)) (stBody (stAt1 3)) :=
  ⟨_, _, ⟨X 35 _ (by rfl), by rfl, by rfl, by rfl, by rfl, by rfl, by rfl, codeRec_of X (by rfl), fun vals hv => by obtain ⟨a, b, c, rfl⟩ := len3 hv; rfl, by rfl, by rfl, by rfl, by decide +kernel, by decide +kernel, by decide +kernel, fun e => absurd e (by decide +kernel)⟩⟩
theorem f1_4 {h : Heap} {P : Params} (X : (hd.heap_39 P).In h) : ∃ o fd, FnAt h 42 o fd (ns_siftup.take 2) (stScope (stAt1 4)) (stBody (stAt1 4)) :=
  ⟨_, _, ⟨X 42 _ (by rfl), by rfl, by rfl, by rfl, by rfl, by rfl, by rfl, codeRec_of X (by rfl), fun vals hv => by obtain ⟨a, b, rfl⟩ := len2 hv; rfl, by rfl, by rfl, by rfl, by decide +kernel, by decide +kernel, by decide +kernel, fun e => absurd e (by decide +kernel)⟩⟩
theorem f1_7 {h : Heap} {P : Params} (X : (hd.heap_39 P).In h) : ∃ o fd, FnAt h 49 o fd (ns_ellipsis_match.take 2) (stScope (stAt1 7)) (stBody (stAt1 7)) :=
  ⟨_, _, ⟨X 49 _ (by rfl), by rfl, by rfl, by rfl, by rfl, by rfl, by rfl, codeRec_of X (by rfl), fun vals hv => by obtain ⟨a, b, rfl⟩ := len2 hv; rfl, by rfl, by rfl, by rfl, by decide +kernel, by decide +kernel, by decide +kernel, fun e => absurd e (by decide +kernel)⟩⟩
theorem f1_9 {h : Heap} {P : Params} (X : (hd.heap_39 P).In h) : ∃ o fd, FnAt h 54 o fd (ns_law_pieces.take 1) (stScope (stAt1 9)) (stBody (stAt1 9)) :=
  ⟨_, _, ⟨X 54 _ (by rfl), by rfl, by rfl, by rfl, by rfl, by rfl, by rfl, codeRec_of X (by rfl), fun vals hv => by obtain ⟨a, rfl⟩ := len1 hv; rfl, by rfl, by rfl, by rfl, by decide +kernel, by decide +kernel, by decide +kernel, fun e => absurd e (by decide +kernel)⟩⟩
theorem f1_10 {h : Heap} {P : Params} (X : (hd.heap_39 P).In h) : ∃ o fd, FnAt h 61 o fd (ns_law_search.take 2) (stScope (stAt1 10)) (stBody (stAt1 10)) :=
  ⟨_, _, ⟨X 61 _ (by rfl), by rfl, by rfl, by rfl, by rfl, by rfl, by rfl, codeRec_of X (by rfl), fun vals hv => by obtain ⟨a, b, rfl⟩ := len2 hv; rfl, by rfl, by rfl, by rfl, by decide +kernel, by decide +kernel, by decide +kernel, fun e => absurd e (by decide +kernel)⟩⟩
theorem f1_11 {h : Heap} {P : Params} (X : (hd.heap_39 P).In h) : ∃ o fd, FnAt h 66 o fd (ns_law_least.take 2) (stScope (stAt1 11)) (stBody (stAt1 11)) :=
  ⟨_, _, ⟨X 66 _ (by rfl), by rfl, by rfl, by rfl, by rfl, by rfl, by rfl, codeRec_of X (by rfl), fun vals hv => by obtain ⟨a, b, rfl⟩ := len2 hv; rfl, by rfl, by rfl, by rfl, by decide +kernel, by decide +kernel, by decide +kernel, fun _ => ⟨by rfl, by rfl⟩⟩⟩
theorem f1_12 {h : Heap} {P : Params} (X : (hd.heap_39 P).In h) : ∃ o fd, FnAt h 71 o fd (ns_law_both.take 3) (stScope (stAt1 12)) (stBody (stAt1 12)) :=
  ⟨_, _, ⟨X 71 _ (by rfl), by rfl, by rfl, by rfl, by rfl, by rfl, by rfl, codeRec_of X (by rfl), fun vals hv => by obtain ⟨a, b, c, rfl⟩ := len3 hv; rfl, by rfl, by rfl, by rfl, by decide +kernel, by decide +kernel, by decide +kernel, fun e => absurd e (by decide +kernel)⟩⟩
theorem f1_13 {h : Heap} {P : Params} (X : (hd.heap_39 P).In h) : ∃ o fd, FnAt h 78 o fd (ns_law_none_shorter.take 3) (stScope (stAt1 13)) (stBody (stAt1 13)) :=
  ⟨_, _, ⟨X 78 _ (by rfl), by rfl, by rfl, by rfl, by rfl, by rfl, by rfl, codeRec_of X (by rfl), fun vals hv => by obtain ⟨a, b, c, rfl⟩ := len3 hv; rfl, by rfl, by rfl, by rfl, by decide +kernel, by decide +kernel, by decide +kernel, fun e => absurd e (by decide +kernel)⟩⟩
theorem f1_14 {h : Heap} {P : Params} (X : (hd.heap_39 P).In h) : ∃ o fd, FnAt h 83 o fd (ns_law_filled.take 2) (stScope (stAt1 14)) (stBody (stAt1 14)) :=
  ⟨_, _, ⟨X 83 _ (by rfl), by rfl, by rfl, by rfl, by rfl, by rfl, by rfl, codeRec_of X (by rfl), fun vals hv => by obtain ⟨a, b, rfl⟩ := len2 hv; rfl, by rfl, by rfl, by rfl, by decide +kernel, by decide +kernel, by decide +kernel, fun e => absurd e (by decide +kernel)⟩⟩
theorem f1_15 {h : Heap} {P : Params} (X : (hd.heap_39 P).In h) : ∃ o fd, FnAt h 90 o fd (ns_law_own.take 3) (stScope (stAt1 15)) (stBody (stAt1 15)) :=
  ⟨_, _, ⟨X 90 _ (by rfl), by rfl, by rfl, by rfl, by rfl, by rfl, by rfl, codeRec_of X (by rfl), fun vals hv => by obtain ⟨a, b, c, rfl⟩ := len3 hv; rfl, by rfl, by rfl, by rfl, by decide +kernel, by decide +kernel, by decide +kernel, fun e => absurd e (by decide +kernel)⟩⟩

section
variable {prog : Program} {w : World} {h₀ : Heap} {mg mb : Str → Option Value}
theorem CallSound.mono {K K' : Nat} {fa : Addr} {F : List AV → Mem → KE → Prop} (h : CallSound prog w h₀ K fa F) (hk : K ≤ K') : CallSound prog w h₀ K' fa F := fun M e1 e2 e3 hA => h M e1 e2 e3 (hA.le hk)
/-- a def that lies at an address of the globals, and is sound -/
def DefOk (prog : Program) (w : World) (h₀ : Heap) (mg : Str → Option Value) (c : Cx) (K : Nat) (q : Str × WS × Nat × Nat) : Prop := ∃ fa o fd, mg q.1 = some (.ref fa) ∧ h₀.get? fa = some o ∧ o.data = .func fd ∧ CallSound prog w h₀ K fa (mfun q.2.1 q.2.2.1 q.2.2.2 c)
theorem DefOk.of {c : Cx} {K : Nat} {fa : Addr} {f : Str} {j n : Nat} {ns : List Str} {sc : Scope} {body : List Stmt} {W : WS} (G : Gl prog w h₀ c K mg mb) (C : CodeHd h₀ lamCode lamTab) (hm : mg f = some (.ref fa)) (Fn : ∃ o fd, FnAt h₀ fa o fd (ns.take j) sc body)
    (hj : (ns.take j).length = j) (hnd : ns.Nodup) (hdb : ∀ x ∈ ns, (x == ("__debug__" : Str)) = false) (H : SndB ns sc body W) : DefOk prog w h₀ mg c (K + 17) (f, W, j, n) := by
  obtain ⟨o, fd, Fn⟩ := Fn
  refine ⟨fa, o, fd, hm, Fn.ho, Fn.hd, ?_⟩
  have e : ns.take j ++ ns.drop j = ns := List.take_append_drop j ns
  have := call_ok (rest := ns.drop j) (n := n) G (fun _ => C) Fn (e.symm ▸ hnd) (e.symm ▸ hdb) (e.symm ▸ H)
  rw [hj] at this
  exact this

theorem defs1_ok {P : Params} {c : Cx} {K : Nat} (X : (hd.heap_39 P).In h₀) (g : h₀.Ns mainGlobals mg) (C : CodeHd h₀ lamCode lamTab) (G : Gl prog w h₀ c K mg mb) : ∀ q ∈ names1.zip defs1, DefOk prog w h₀ mg c (K + 17) q :=
  List.forall_mem_cons.mpr ⟨.of G C (mg_of X g (by rfl)) (f1_1 X) rfl (by decide +kernel) (by decide +kernel) snd_heappush,
  List.forall_mem_cons.mpr ⟨.of G C (mg_of X g (by rfl)) (f1_2 X) rfl (by decide +kernel) (by decide +kernel) snd_heappop,
  List.forall_mem_cons.mpr ⟨.of G C (mg_of X g (by rfl)) (f1_3 X) rfl (by decide +kernel) (by decide +kernel) snd_siftdown,
  List.forall_mem_cons.mpr ⟨.of G C (mg_of X g (by rfl)) (f1_4 X) rfl (by decide +kernel) (by decide +kernel) snd_siftup,
  List.forall_mem_cons.mpr ⟨.of G C (mg_of X g (by rfl)) (f1_7 X) rfl (by decide +kernel) (by decide +kernel) snd_ellipsis_match,
  List.forall_mem_cons.mpr ⟨.of G C (mg_of X g (by rfl)) (f1_9 X) rfl (by decide +kernel) (by decide +kernel) snd_law_pieces,
  List.forall_mem_cons.mpr ⟨.of G C (mg_of X g (by rfl)) (f1_10 X) rfl (by decide +kernel) (by decide +kernel) snd_law_search,
  List.forall_mem_cons.mpr ⟨.of G C (mg_of X g (by rfl)) (f1_11 X) rfl (by decide +kernel) (by decide +kernel) snd_law_least,
  List.forall_mem_cons.mpr ⟨.of G C (mg_of X g (by rfl)) (f1_12 X) rfl (by decide +kernel) (by decide +kernel) snd_law_both,
  List.forall_mem_cons.mpr ⟨.of G C (mg_of X g (by rfl)) (f1_13 X) rfl (by decide +kernel) (by decide +kernel) snd_law_none_shorter,
  List.forall_mem_cons.mpr ⟨.of G C (mg_of X g (by rfl)) (f1_14 X) rfl (by decide +kernel) (by decide +kernel) snd_law_filled,
  List.forall_mem_cons.mpr ⟨.of G C (mg_of X g (by rfl)) (f1_15 X) rfl (by decide +kernel) (by decide +kernel) snd_law_own,
  fun _ h => by cases h⟩⟩⟩⟩⟩⟩⟩⟩⟩⟩⟩⟩

theorem gl1 {P : Params} {loose : List Str} {mean : ExcName → Option Value} {p : Program} (X : (hd.heap_39 P).In h₀) (T : Top p loose mean mg mb h₀) (C : CodeHd h₀ lamCode lamTab) : ∀ n, Gl prog w h₀ (cxs1 n) (17 * n) mg mb := by
  have base : ∀ c : Cx, c.cst = cst1 → ∀ K, (∀ f F, c.fns f = some F → ∃ fa o fd, mg f = some (.ref fa) ∧ h₀.get? fa = some o ∧ o.data = .func fd ∧ CallSound prog w h₀ K fa F) → Gl prog w h₀ c K mg mb := fun c hc K hf => {
    g := T.g
    b := T.b
    lim := T.nolimit
    fns := hf
    cst := fun x d e => by
      rw [hc] at e
      unfold cst1 at e
      split at e
      · next hx => cases e; subst hx; exact ⟨_, mg_of X T.g (by rfl), fun ρ => .str _ _⟩
      · cases e
    len := ⟨mg_none_of X T.g (by rfl), (T.builtins "len" (by decide +kernel)).trans (by rfl)⟩
    sum := ⟨mg_none_of X T.g (by rfl), (T.builtins "sum" (by decide +kernel)).trans (by rfl)⟩
    sorted := ⟨mg_none_of X T.g (by rfl), (T.builtins "sorted" (by decide +kernel)).trans (by rfl)⟩
    set := ⟨mg_none_of X T.g (by rfl), (T.builtins "set" (by decide +kernel)).trans (by rfl)⟩
    range := ⟨mg_none_of X T.g (by rfl), (T.builtins "range" (by decide +kernel)).trans (by rfl)⟩
    bmod := let ⟨bm, ob, h1, _, h2, h3, h4, h5⟩ := T.bmain; ⟨bm, ob, h1, h2, h3, h4, h5⟩ }
  intro n
  induction n with
  | zero => exact base _ rfl _ fun f F e => by cases e
  | succ n ih =>
    refine base _ rfl _ fun f F e => ?_
    have e' : (defs1[names1.idxOf f]?).map (fun p => mfun p.1 p.2.1 p.2.2 (cxs1 n)) = some F := e
    cases hi : defs1[names1.idxOf f]? with
    | none => rw [hi] at e'; cases e'
    | some p =>
      rw [hi] at e'
      cases e'
      have hlt : names1.idxOf f < names1.length := (List.getElem?_eq_some_iff.mp hi).1
      have hf : names1[names1.idxOf f]? = some f := by rw [List.getElem?_eq_getElem hlt, List.getElem_idxOf]
      exact defs1_ok X T.g C ih (f, p) (List.mem_of_getElem? (List.getElem?_zip_eq_some.mpr ⟨hf, hi⟩))
end
end Mine
end
section
set_option maxRecDepth 100000
set_option maxHeartbeats 8000000
namespace Mine

theorem well_ints {P : Params} {h : Heap} {ρ : Frz} : ∀ {vs : List Value} {l : List Int}, WellAll P h vs (ofPys (l.map .int)) → IsAll ρ vs (l.map .int)
  | [], [], _ => .nil
  | [], _ :: _, k => by simp only [List.map_cons, ofPys] at k; cases k
  | _ :: _, [], k => by simp only [List.map_nil, ofPys] at k; cases k
  | v :: vs, i :: l, k => by
    simp only [List.map_cons, ofPys, ofPy] at k
    cases k with
    | cons a b => cases a with
      | int i t => exact .cons (.int _ _) (well_ints b)
theorem well_list {P : Params} {h : Heap} {v : Value} {l : List Int} (k : Well P h v (ofPy (.list (l.map .int)))) : ∃ la vs, v = .ref la ∧ h.get? la = some { cls := .type "list", data := .seq vs.toArray 0 } ∧ ∀ ρ, IsAll ρ vs (l.map .int) := by
  simp only [ofPy] at k
  cases k with
  | list e a => exact ⟨_, _, rfl, e, fun ρ => well_ints a⟩

theorem law1_end {w : World} {s₁ : Shared} {mg mb : Str → Option Value} {fa L : Addr} {v : Value} {l : List Int} {h₁ : Heap} {cd : Value} {loose : List Str} {mean : ExcName → Option Value} {E : Value → Shared → Prop} {cl : Str → Option Addr} {mean' : ExcName → Option Value}
    (X : (hd.heap_39 w.params).In (ghostOf s₁.heap [(65, 63)])) (T : Top topProg loose mean mg mb (ghostOf s₁.heap [(65, 63)])) (F : Fr (ghostOf s₁.heap [(65, 63)]) L h₁ (fun x => List.lookup x [(Str.ofString "script", v)].reverse))
    (W : Well w.params s₁.heap v (ofPy (.list (l.map .int)))) (hT : s₁.heap.get? 63 = some (tabObj #[])) (C : CodeHd (ghostOf s₁.heap [(65, 63)]) 65 63) (hl : l.length ≤ 63) (N : News (ghostOf s₁.heap [(65, 63)]) L h₁ [(63, tabObj #[])]) (hg : s₁.gens = #[]) :
    wpAny (model PySem.Challenge.rw_mq0174_01.row.prog w) (callerA.deeper (envOf (Str.ofString "law") (stScope (stAt1 16)) L fa cd)) (execs (stBody (stAt1 16)) (envOf (Str.ofString "law") (stScope (stAt1 16)) L fa cd))
      (fun f s' => GoodW PySem.Challenge.rw_mq0174_01.row.claim cl mean' [ofPy (.list (l.map .int))] { heap := ghostOf s₁.heap [(65, 63)], gens := s₁.gens, drawn := s₁.drawn, toks := s₁.toks, os := s₁.os } (Except.ok (Flow.ret (match f with | .ret v => v | _ => Value.none))) s' ∧ GrownAll [(65, 63)] s'.heap) E
      { heap := h₁, gens := s₁.gens, drawn := s₁.drawn, toks := s₁.toks + 1, os := s₁.os } := by
  obtain ⟨la, vs, rfl, hla, hints⟩ := well_list W
  have hne : la ≠ 63 := fun e => by rw [e, hT] at hla; simp [tabObj] at hla
  have hla' : (ghostOf s₁.heap [(65, 63)]).get? la = some { cls := .type "list", data := .seq vs.toArray 0 } := ghost_ne hla (by simpa using hne)
  have hnone : (ghostOf s₁.heap [(65, 63)]).get? 63 = none := hideAll_none _ (by simp)
  have hN := N (63, tabObj #[]) (by simp)
  generalize hgh : ghostOf s₁.heap [(65, 63)] = h₀ at *
  have S : St h₀ ⟨fun a => h₀.get? a, [63]⟩ [.tab 113 36] h₁ := {
    fz := fun a o e => F.keep a o e
    base := fun a o e => e
    len := rfl
    ob := fun k a m e1 e2 => by
      cases k with
      | zero => cases e1; cases e2; exact .tab #[] rfl hN.1 (.inl rfl)
      | succ k => cases e1
    nd := by simp
    dis := fun k a m e1 e2 _ => by
      cases k with
      | zero => cases e1; exact hnone
      | succ k => cases e1 }
  have hfresh : h₀.get? L = none := fresh_at F.above
  have hcf : ∀ x, (x, NameKind.cell) ∉ (stScope (stAt1 16)).names := fun x hx => by
    have ha : ((stScope (stAt1 16)).names.all fun p => p.2 != .cell) = true := by decide +kernel
    have := List.all_eq_true.mp ha _ hx
    simp at this
  have one : ∀ {x : Str} {a : AV}, bindAll ["script"] [.d (.list (l.map .int))] x = some a → x = Str.ofString "script" ∧ a = .d (.list (l.map .int)) := fun {x a} e => by
    have e : (if x = Str.ofString "script" then some (AV.d (.list (l.map .int))) else none) = some a := e
    split at e
    · next hx => cases e; exact ⟨hx, rfl⟩
    · cases e
  have FS : FrS ⟨fun a => h₀.get? a, [63]⟩ (envOf (Str.ofString "law") (stScope (stAt1 16)) L fa cd) (bindAll ["script"] [.d (.list (l.map .int))]) h₁ := {
    fn := by rfl
    gl := rfl
    bi := rfl
    ns := ⟨_, F.ns, fun x a e1 e2 => by
      obtain ⟨rfl, rfl⟩ := one e1
      exact ⟨_, by rfl, .list hla' (by simpa using hints _)⟩⟩
    kd := fun x a e1 => by
      obtain ⟨rfl, rfl⟩ := one e1
      exact .inl (by rfl)
    cl := fun x a e1 e2 => by
      obtain ⟨rfl, rfl⟩ := one e1
      rw [show (envOf (Str.ofString "law") (stScope (stAt1 16)) L fa cd).kindOf (Str.ofString "script") = some .local by rfl] at e2; cases e2
    cm := fun p hp => by cases hp
    cx := fun x e => absurd (mem_lookup e) (hcf x)
    ap := List.Pairwise.nil
    lo := ⟨fun m => hN.2.1 (List.mem_singleton.mp m).symm, hfresh⟩
    lm := fun e => absurd (show lamScope (stScope (stAt1 16)) = true from e) (by decide +kernel) }
  have hA : OkA 68 (callerA.deeper (envOf (Str.ofString "law") (stScope (stAt1 16)) L fa cd)) := ⟨rfl, by show (1 + 300) + 1 + 68 < 1000; decide, by show 4 + 3 + 10 * 68 + 200 < 9900; decide⟩
  have G := gl1 (prog := PySem.Challenge.rw_mq0174_01.row.prog) (w := w) X T C 4
  have hE := law1_means (μ := [.tab 113 36]) (l := l) (Q := fun fl _ m => fl = .ret (.d (.bool true)) ∧ m = [.tab 113 36]) hl rfl fun _ => ⟨rfl, rfl⟩
  have B := snd_law.go (M := { prog := PySem.Challenge.rw_mq0174_01.row.prog, w := w, A := callerA.deeper (envOf (Str.ofString "law") (stScope (stAt1 16)) L fa cd), h₀ := h₀, c := cxs1 4, K := 68, mg := mg, mb := mb, env := envOf (Str.ofString "law") (stScope (stAt1 16)) L fa cd })
    ⟨hA, G, fun _ => ⟨hA.le (by decide), C⟩, rfl, by decide +kernel, by decide +kernel⟩ S (FS.weaken fun _ _ => sto_init (ps := ["script"]) (rest := ["draws", "one", "two", "told"]) rfl) hE
    { heap := h₁, gens := s₁.gens, drawn := s₁.drawn, toks := s₁.toks + 1, os := s₁.os } rfl (Nat.succ_pos _)
  refine wpAny_mono B (fun f s' q => ?_) fun _ _ q => q.elim
  obtain ⟨q1, q2, fl, ρ', σ', μ', g, S', _, fi, rfl, rfl⟩ := q
  cases fi with
  | ret fi =>
    cases (show Is _ _ (.bool true) from fi)
    have hk : ∀ b o, h₀.get? b = some o → s'.heap.get? b = some o := fun b o e => S'.fz _ _ (S'.base _ _ e)
    refine ⟨⟨.inl ⟨_, .bool true, [], rfl, fun _ => by rfl, .bool true, ?_, fun _ => ⟨List.nodup_nil, fun a ha => by cases ha⟩⟩, hk, q2, q1.trans hg⟩, ?_, trivial⟩
    · exact postW_of (X := true == true) (by wrow_shape) (w_eq_bool (w_res rfl) w_lit) rfl
    obtain ⟨a, ha⟩ : ∃ a, ρ'.l[0]? = some a := by
      have h1 := S'.len
      generalize ρ'.l = l' at h1
      cases l' with
      | nil => cases h1
      | cons a _ => exact ⟨a, rfl⟩
    cases S'.ob 0 a (.tab 113 36) ha rfl with
    | tab ps e1 e2 _ => subst e1; exact ⟨ps, e2⟩

theorem law1_holds : PySem.Challenge.rw_mq0174_01.Holds := by
  refine Mine.hd (by
    k_go0
    refine law1_end (by assumption) (by assumption) (by assumption) (by assumption) (hT8 63 (by simp)) codeHd (by omega) (by assumption) (by assumption))
end Mine
end

set_option maxRecDepth 100000 in
theorem PySem.Challenge.cw_mq0174_01_holds : PySem.Challenge.rw_mq0174_01.Holds := by
  exact Mine.law1_holds
