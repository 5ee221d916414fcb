import PyProof.Rows.All
import Wide.All
import OpenK.AllK
import Wide.FinOn
import PySem.Challenge.RW_mq0174_02
open PySem PySem.W PyProof.Rows
set_option Elab.async false
section
set_option maxRecDepth 100000
set_option maxHeartbeats 8000000
namespace Mine
open_top hd for PySem.Challenge.rw_mq0174_02
end Mine
end
section
namespace Mine

/-! ### by-value data over a frozen part of the heap -/
abbrev Frz := Addr → Option Obj

inductive All2 {α β : Type} (P : α → β → Prop) : List α → List β → Prop
  | nil : All2 P [] []
  | cons {a as b bs} : P a b → All2 P as bs → All2 P (a :: as) (b :: bs)

inductive Is (ρ : Frz) : Value → PyData → Prop
  | none : Is ρ .none .none
  | bool (b) : Is ρ (.bool b) (.bool b)
  | int (i t) : Is ρ (.int i t) (.int i)
  | str (x t) : Is ρ (.str x t) (.str x)
  | list {a vs n xs} : ρ a = some { cls := .type "list", data := .seq vs n } → All2 (Is ρ) vs.toList xs → Is ρ (.ref a) (.list xs)
  | tuple {a vs n xs} : ρ a = some { cls := .type "tuple", data := .seq vs n } → All2 (Is ρ) vs.toList xs → Is ρ (.ref a) (.tuple xs)
abbrev IsAll (ρ : Frz) := All2 (Is ρ)

theorem Is.mono {ρ ρ' : Frz} (hs : ∀ a o, ρ a = some o → ρ' a = some o) {v d} (h : Is ρ v d) : Is ρ' v d :=
  Is.rec (motive_1 := fun v d _ => Is ρ' v d) (motive_2 := fun vs ds _ => All2 (Is ρ') vs ds) .none .bool .int .str (fun h _ r => .list (hs _ _ h) r) (fun h _ r => .tuple (hs _ _ h) r) .nil (fun _ _ a b => .cons a b) h
theorem Is.reads {ρ : Frz} {h : Heap} (hs : ∀ a o, ρ a = some o → h.get? a = some o) {v d} (i : Is ρ v d) : ∃ as, Reads h v d as :=
  Is.rec (motive_1 := fun v d _ => ∃ as, Reads h v d as) (motive_2 := fun vs ds _ => ∃ as, ReadsAll h vs ds as) ⟨_, .none⟩ (fun b => ⟨_, .bool b⟩) (fun i t => ⟨_, .int i t⟩) (fun x t => ⟨_, .str x t⟩)
    (fun h _ r => r.elim fun _ k => ⟨_, .list (hs _ _ h) rfl rfl k⟩) (fun h _ r => r.elim fun _ k => ⟨_, .tuple (hs _ _ h) rfl rfl k⟩) ⟨_, .nil⟩ (fun _ _ a b => a.elim fun _ k => b.elim fun _ l => ⟨_, .cons k l⟩) i

section
variable {α β : Type} {P Q : α → β → Prop} {vs : List α} {ds : List β}
theorem All2.mp (f : ∀ v d, P v d → Q v d) (h : All2 P vs ds) : All2 Q vs ds := by
  induction h with
  | nil => exact .nil
  | cons a _ ih => exact .cons (f _ _ a) ih
theorem All2.length (h : All2 P vs ds) : vs.length = ds.length := by
  induction h with
  | nil => rfl
  | cons _ _ ih => exact congrArg Nat.succ ih
theorem All2.append {ws : List α} {es : List β} (h : All2 P vs ds) (k : All2 P ws es) : All2 P (vs ++ ws) (ds ++ es) := by
  induction h with
  | nil => exact k
  | cons a _ ih => exact .cons a ih
theorem All2.get (h : All2 P vs ds) {k : Nat} {d} (e : ds[k]? = some d) : ∃ v, vs[k]? = some v ∧ P v d := by
  induction h generalizing k with
  | nil => cases e
  | cons a _ ih => cases k with
    | zero => cases e; exact ⟨_, rfl, a⟩
    | succ k => exact ih e
theorem All2.get' (h : All2 P vs ds) {k : Nat} {v} (e : vs[k]? = some v) : ∃ d, ds[k]? = some d ∧ P v d := by
  induction h generalizing k with
  | nil => cases e
  | cons a _ ih => cases k with
    | zero => cases e; exact ⟨_, rfl, a⟩
    | succ k => exact ih e
theorem All2.set (h : All2 P vs ds) (k : Nat) {v d} (i : P v d) : All2 P (vs.set k v) (ds.set k d) := by
  induction h generalizing k with
  | nil => exact .nil
  | cons a r ih => cases k with
    | zero => exact .cons i r
    | succ k => exact .cons a (ih k)
theorem All2.take (h : All2 P vs ds) (k : Nat) : All2 P (vs.take k) (ds.take k) := by
  induction h generalizing k with
  | nil => cases k <;> exact .nil
  | cons a r ih => cases k with
    | zero => exact .nil
    | succ k => exact .cons a (ih k)
theorem All2.one {v d} (h : P v d) : All2 P [v] [d] := .cons h .nil
theorem All2.dropLast (h : All2 P vs ds) : All2 P vs.dropLast ds.dropLast := by
  rw [List.dropLast_eq_take, List.dropLast_eq_take, h.length]; exact h.take _
theorem All2.eraseIdx (h : All2 P vs ds) (k : Nat) : All2 P (vs.eraseIdx k) (ds.eraseIdx k) := by
  induction h generalizing k with
  | nil => exact .nil
  | cons a r ih => cases k with
    | zero => exact r
    | succ k => exact .cons a (ih k)
end
theorem All2.mono {ρ ρ' : Frz} (hs : ∀ a o, ρ a = some o → ρ' a = some o) {vs ds} (h : IsAll ρ vs ds) : IsAll ρ' vs ds := h.mp fun _ _ => .mono hs
theorem All2.reads {ρ : Frz} {h : Heap} (hs : ∀ a o, ρ a = some o → h.get? a = some o) {vs ds} (i : IsAll ρ vs ds) : ∃ as, ReadsAll h vs ds as := by
  induction i with
  | nil => exact ⟨_, .nil⟩
  | cons a _ ih => exact a.reads hs |>.elim fun _ k => ih.elim fun _ l => ⟨_, .cons k l⟩

/-! ### abstract values, the mutable store -/
inductive AV where
  | d (x : PyData)
  | h (k : Nat)
inductive MO where
  | lst (xs : List PyData)
  | set (xs : List Int)
  | dead
  | tab (l c : Nat)
abbrev Mem := List MO

/-- the frozen objects and the handles' places -/
structure Mp where
  f : Frz
  l : List Addr

def IsV (ρ : Mp) (v : Value) : AV → Prop
  | .d x => Is ρ.f v x
  | .h k => ∃ a, ρ.l[k]? = some a ∧ v = .ref a
abbrev IsVs (ρ : Mp) := All2 (IsV ρ)

/-- a set of ints -/
def SetIs (h : Heap) (a : Addr) (xs : List Int) : Prop := ∃ (prog : Program) (w : World), h.SetOf (intKind prog w) a (fun k => xs.contains k) xs.length

/-! where the one lambda of law 1 is made: its def's code, that code's table of inner codes, the lambda's full name -/
def lamCode : Addr := 65
def lamTab : Addr := 63
def lamQual : Str := "_law_least.<locals>.<lambda>"
def lamScope (sc : Scope) : Bool := sc.names.lookup ("ways" : Str) == some .local
def LamEnv (env : Env) : Prop := env.qual = ("_law_least.<locals>." : Str) ∧ env.code = .ref lamCode

inductive MIs (ρ : Frz) (h : Heap) (a : Addr) : MO → Prop
  | lst {xs} (n vs) : h.get? a = some { cls := .type "list", data := .seq vs n } → IsAll ρ vs.toList xs → MIs ρ h a (.lst xs)
  | set {xs} : SetIs h a xs → MIs ρ h a (.set xs)
  | dead (o) : h.get? a = some o → MIs ρ h a .dead
  | tab {l c : Nat} (ps) : a = lamTab → h.get? a = some { cls := .none, data := .fields ps } →
      (ps = #[] ∨ ∃ c' oc vs t, ps = #[rawInt l, rawInt c, .ref c'] ∧ ρ c' = some oc ∧ oc.data = .fields vs ∧ vs[1]? = some (.str lamQual t)) → MIs ρ h a (.tab l c)
theorem MIs.live {ρ : Frz} {h : Heap} {a : Addr} {m : MO} (x : MIs ρ h a m) : ∃ o, h.get? a = some o := by
  cases x with
  | lst n vs e _ => exact ⟨_, e⟩
  | set e => obtain ⟨_, _, _, _, _, _, e, _⟩ := e; exact ⟨_, e⟩
  | dead o e => exact ⟨_, e⟩
  | tab ps _ e _ => exact ⟨_, e⟩
theorem MIs.list {ρ : Frz} {h : Heap} {a : Addr} {xs : List PyData} (x : MIs ρ h a (.lst xs)) : ∃ n vs, h.get? a = some { cls := .type "list", data := .seq vs n } ∧ IsAll ρ vs.toList xs := by
  cases x with
  | lst n vs e i => exact ⟨n, vs, e, i⟩
theorem MIs.setIs {ρ : Frz} {h : Heap} {a : Addr} {xs : List Int} (x : MIs ρ h a (.set xs)) : SetIs h a xs := by
  cases x with
  | set e => exact e

structure St (h₀ : Heap) (ρ : Mp) (μ : Mem) (h : Heap) : Prop where
  fz : ∀ a o, ρ.f a = some o → h.get? a = some o
  base : ∀ a o, h₀.get? a = some o → ρ.f a = some o
  len : ρ.l.length = μ.length
  ob : ∀ (k : Nat) a m, ρ.l[k]? = some a → μ[k]? = some m → MIs ρ.f h a m
  nd : ρ.l.Nodup
  dis : ∀ (k : Nat) a m, ρ.l[k]? = some a → μ[k]? = some m → m ≠ .dead → ρ.f a = none

structure Grow (X : List Addr) (ρ : Mp) (h : Heap) (ρ' : Mp) (h' : Heap) : Prop where
  rho : ∀ a o, ρ.f a = some o → ρ'.f a = some o
  fz : ∀ a o, ρ'.f a = some o → ρ.f a = some o ∨ h.get? a = none ∨ a ∈ ρ.l
  eta : ρ.l <+: ρ'.l
  new : ∀ a ∈ ρ'.l, a ∈ ρ.l ∨ h.get? a = none
  keep : ∀ b o, h.get? b = some o → b ∉ ρ.l → b ∉ X → h'.get? b = some o
  live : ∀ b o, h.get? b = some o → ∃ o', h'.get? b = some o'

theorem Grow.refl {X ρ h} : Grow X ρ h ρ h :=
  ⟨fun _ _ e => e, fun _ _ e => .inl e, List.prefix_refl _, fun _ m => .inl m, fun _ _ e _ _ => e, fun _ _ e => ⟨_, e⟩⟩

theorem none_of {f : Addr → Option Obj} {g : Addr → Option Obj} {a : Addr} (h : ∀ o, f a = some o → ∃ o', g a = some o') (e : g a = none) : f a = none := by
  cases e' : f a with
  | none => rfl
  | some o => obtain ⟨o', e2⟩ := h o e'; rw [e] at e2; cases e2
theorem Grow.back {X ρ h ρ' h'} (g : Grow X ρ h ρ' h') {a : Addr} (e : h'.get? a = none) : h.get? a = none := none_of (f := h.get?) (g := h'.get?) (g.live a) e

theorem Grow.trans {X ρ h ρ₁ h₁ ρ₂ h₂} (g : Grow X ρ h ρ₁ h₁) (g' : Grow X ρ₁ h₁ ρ₂ h₂) : Grow X ρ h ρ₂ h₂ where
  rho := fun a o e => g'.rho a o (g.rho a o e)
  fz := fun a o e => (g'.fz a o e).elim (g.fz a o) fun e => e.elim (fun e => .inr (.inl (g.back e))) fun e => (g.new a e).elim (fun m => .inr (.inr m)) fun m => .inr (.inl m)
  eta := g.eta.trans g'.eta
  new := fun a m => (g'.new a m).elim (g.new a) fun m => .inr (g.back m)
  keep := fun b o e n1 n2 => g'.keep b o (g.keep b o e n1 n2) (fun m => (g.new b m).elim n1 fun m1 => by rw [e] at m1; cases m1) n2
  live := fun b o e => let ⟨o1, e1⟩ := g.live b o e; g'.live b o1 e1

theorem Grow.weaken {X Y ρ h ρ' h'} (g : Grow X ρ h ρ' h') (hs : ∀ a ∈ X, a ∈ Y) : Grow Y ρ h ρ' h' :=
  { g with keep := fun b o e n1 n2 => g.keep b o e n1 fun m => n2 (hs _ m) }
theorem Grow.up {Y ρ h ρ' h'} (g : Grow [] ρ h ρ' h') : Grow Y ρ h ρ' h' := g.weaken fun _ m => nomatch m
theorem Grow.drop {X ρ h ρ' h'} (g : Grow X ρ h ρ' h') (hX : ∀ a ∈ X, h.get? a = none) : Grow [] ρ h ρ' h' :=
  { g with keep := fun b o e n1 _ => g.keep b o e n1 fun m => by rw [hX b m] at e; cases e }

theorem prefix_get {l l' : List Addr} (p : l <+: l') {k : Nat} {a : Addr} (e : l[k]? = some a) : l'[k]? = some a := by
  obtain ⟨t, rfl⟩ := p
  rw [List.getElem?_append_left (List.getElem?_eq_some_iff.mp e).1]; exact e

theorem IsV.mono {ρ ρ' : Mp} (hs : ∀ a o, ρ.f a = some o → ρ'.f a = some o) (p : ρ.l <+: ρ'.l) {v : Value} {a : AV} (i : IsV ρ v a) : IsV ρ' v a := by
  cases a with
  | d x => exact Is.mono hs i
  | h k => exact i.elim fun a h => ⟨a, prefix_get p h.1, h.2⟩
theorem IsV.grow {X ρ h ρ' h' v a} (i : IsV ρ v a) (g : Grow X ρ h ρ' h') : IsV ρ' v a := i.mono g.rho g.eta
theorem All2.grow {X ρ h ρ' h' v a} (i : IsVs ρ v a) (g : Grow X ρ h ρ' h') : IsVs ρ' v a := i.mp fun _ _ i => i.grow g

theorem MIs.mono {ρ ρ' : Frz} {h h' : Heap} (hs : ∀ a o, ρ a = some o → ρ' a = some o) {a : Addr} (e : ∀ o, h.get? a = some o → h'.get? a = some o) {m : MO} (x : MIs ρ h a m) : MIs ρ' h' a m := by
  cases x with
  | lst n vs h1 h2 => exact .lst n vs (e _ h1) (h2.mono hs)
  | set h1 => obtain ⟨p, w, o, es, n, t, h1, h2⟩ := h1; exact .set ⟨p, w, o, es, n, t, e _ h1, h2⟩
  | dead o h1 => exact .dead o (e _ h1)
  | tab ps h0 h1 h2 => exact .tab ps h0 (e _ h1) (h2.imp id fun ⟨c', oc, vs, t, h3, h4, h5⟩ => ⟨c', oc, vs, t, h3, hs _ _ h4, h5⟩)

/-! ### steps over the state -/
/-- one object more, frozen -/
def Mp.put (ρ : Mp) (a : Addr) (o : Obj) : Mp := ⟨fun b => if b = a then some o else ρ.f b, ρ.l⟩
theorem Mp.put_self {ρ : Mp} {a : Addr} {o : Obj} : (ρ.put a o).f a = some o := if_pos rfl
theorem Mp.put_ne {ρ : Mp} {a b : Addr} {o : Obj} (h : b ≠ a) : (ρ.put a o).f b = ρ.f b := if_neg h
theorem Mp.put_mono {ρ : Mp} {a : Addr} {o : Obj} (h : ρ.f a = none) (b : Addr) (p : Obj) (e : ρ.f b = some p) : (ρ.put a o).f b = some p := by
  rw [Mp.put_ne (fun e' => by rw [e', h] at e; cases e)]; exact e
theorem Mp.put_inv {ρ : Mp} {a b : Addr} {o p : Obj} (e : (ρ.put a o).f b = some p) : (b = a ∧ p = o) ∨ ρ.f b = some p := by
  by_cases h : b = a
  · rw [h, Mp.put_self] at e; exact .inl ⟨h, (Option.some.inj e).symm⟩
  · rw [Mp.put_ne h] at e; exact .inr e

section
variable {h₀ : Heap} {ρ : Mp} {μ : Mem} {h h' : Heap}

theorem St.keepAll (S : St h₀ ρ μ h) (hk : ∀ b o, h.get? b = some o → h'.get? b = some o) : St h₀ ρ μ h' :=
  { S with fz := fun a o e => hk _ _ (S.fz a o e), ob := fun k a m e1 e2 => (S.ob k a m e1 e2).mono (fun _ _ e => e) (hk a) }
theorem Grow.keepAll {X : List Addr} (hk : ∀ b o, h.get? b = some o → h'.get? b = some o) : Grow X ρ h ρ h' :=
  { (Grow.refl : Grow X ρ h ρ h) with keep := fun b o e _ _ => hk b o e, live := fun b o e => ⟨o, hk b o e⟩ }

/-- a change at an address that is neither frozen nor a handle's -/
theorem St.but (S : St h₀ ρ μ h) {L : Addr} (n1 : ρ.f L = none) (n2 : L ∉ ρ.l) (hk : ∀ b o, b ≠ L → h.get? b = some o → h'.get? b = some o) : St h₀ ρ μ h' :=
  { S with
    fz := fun a o e => hk _ _ (fun e' => by rw [e', n1] at e; cases e) (S.fz a o e)
    ob := fun k a m e1 e2 => (S.ob k a m e1 e2).mono (fun _ _ e => e) fun o => hk a o fun e' => n2 (e' ▸ List.mem_of_getElem? e1) }
theorem Grow.but {L : Addr} (hk : ∀ b o, b ≠ L → h.get? b = some o → h'.get? b = some o) (hl : ∃ o', h'.get? L = some o') : Grow [L] ρ h ρ h' :=
  { (Grow.refl : Grow [L] ρ h ρ h) with
    keep := fun b o e _ n => hk b o (fun e' => n (e' ▸ List.mem_singleton.mpr rfl)) e
    live := fun b o e => if hb : b = L then hb ▸ hl else ⟨o, hk b o hb e⟩ }

theorem St.none_of_fresh (S : St h₀ ρ μ h) {a : Addr} (hn : h.get? a = none) : ρ.f a = none := none_of (g := h.get?) (fun o e => ⟨o, S.fz _ _ e⟩) hn
theorem St.mem_get (S : St h₀ ρ μ h) {a : Addr} (m : a ∈ ρ.l) : ∃ (k : Nat) (m : MO), ρ.l[k]? = some a ∧ μ[k]? = some m := by
  obtain ⟨k, hk⟩ := List.mem_iff_getElem?.mp m
  exact ⟨k, _, hk, List.getElem?_eq_getElem (S.len ▸ (List.getElem?_eq_some_iff.mp hk).1)⟩
theorem St.notin_of_fresh (S : St h₀ ρ μ h) {a : Addr} (hn : h.get? a = none) : a ∉ ρ.l := fun m => by
  obtain ⟨k, m, hk, hm⟩ := S.mem_get m
  obtain ⟨o, h1⟩ := (S.ob k a m hk hm).live
  rw [hn] at h1; cases h1

theorem fresh_at {h : Heap} {a : Addr} (ha : h.objs.size ≤ a) : h.get? a = none := by
  cases e : h.get? a with
  | none => rfl
  | some o => exact absurd (Heap.lt_size e) (Nat.not_lt.mpr ha)

/-- an object that no one else knows, frozen -/
theorem St.adopt {D : Addr} {o : Obj} (S : St h₀ ρ μ h) (ho : h.get? D = some o) (hf : ρ.f D = none) (hn : D ∉ ρ.l) : St h₀ (ρ.put D o) μ h where
  fz := fun b p e => (Mp.put_inv e).elim (fun ⟨e1, e2⟩ => e1 ▸ e2 ▸ ho) (S.fz b p)
  base := fun b p e => Mp.put_mono hf b p (S.base b p e)
  len := S.len
  ob := fun k b m e1 e2 => (S.ob k b m e1 e2).mono (Mp.put_mono hf) fun _ e => e
  nd := S.nd
  dis := fun k b m e1 e2 e3 => by rw [Mp.put_ne (fun (e : b = D) => hn (e ▸ List.mem_of_getElem? e1))]; exact S.dis k b m e1 e2 e3
theorem Grow.adopt {X : List Addr} {ρ' : Mp} {D : Addr} {o : Obj} (g : Grow X ρ h ρ' h') (hf : ρ'.f D = none) (hD : h.get? D = none) : Grow X ρ h (ρ'.put D o) h' :=
  { g with
    rho := fun a o e => Mp.put_mono hf _ _ (g.rho a o e)
    fz := fun a o e => (Mp.put_inv e).elim (fun ⟨e1, _⟩ => .inr (.inl (e1 ▸ hD))) (g.fz a o) }

theorem St.freeze (S : St h₀ ρ μ h) {a : Addr} {o : Obj} (hn : h.get? a = none) (ho : h'.get? a = some o) (hk : ∀ b o, h.get? b = some o → h'.get? b = some o) : St h₀ (ρ.put a o) μ h' ∧ ∀ X, Grow X ρ h (ρ.put a o) h' :=
  ⟨(S.keepAll hk).adopt ho (S.none_of_fresh hn) (S.notin_of_fresh hn), fun X => (Grow.keepAll (X := X) hk).adopt (S.none_of_fresh hn) hn⟩

theorem get_append {α : Type} {l : List α} {x y : α} {k : Nat} (e : (l ++ [x])[k]? = some y) : l[k]? = some y ∨ (k = l.length ∧ y = x) := by
  rcases Nat.lt_trichotomy k l.length with hk | hk | hk
  · rw [List.getElem?_append_left hk] at e; exact .inl e
  · subst hk; rw [List.getElem?_concat_length] at e; exact .inr ⟨rfl, (Option.some.inj e).symm⟩
  · rw [List.getElem?_eq_none (by rw [List.length_append]; exact hk)] at e; cases e

/-- one object more, mutable -/
theorem St.handle (S : St h₀ ρ μ h) {a : Addr} {m : MO} (hn : h.get? a = none) (hm : MIs ρ.f h' a m) (hk : ∀ b o, h.get? b = some o → h'.get? b = some o) :
    St h₀ ⟨ρ.f, ρ.l ++ [a]⟩ (μ ++ [m]) h' ∧ ∀ X, Grow X ρ h ⟨ρ.f, ρ.l ++ [a]⟩ h' := by
  have hρ := S.none_of_fresh hn
  have hη := S.notin_of_fresh hn
  have two : ∀ (k : Nat) b m', (ρ.l ++ [a])[k]? = some b → (μ ++ [m])[k]? = some m' → (ρ.l[k]? = some b ∧ μ[k]? = some m') ∨ (b = a ∧ m' = m) := fun k b m' e1 e2 => by
    rcases get_append e1 with e1' | ⟨rfl, e1'⟩
    · rcases get_append e2 with e2 | ⟨rfl, _⟩
      · exact .inl ⟨e1', e2⟩
      · have := (List.getElem?_eq_some_iff.mp e1').1
        rw [S.len] at this; exact absurd this (Nat.lt_irrefl _)
    · rcases get_append e2 with e2 | ⟨_, e2⟩
      · have := (List.getElem?_eq_some_iff.mp e2).1
        rw [S.len] at this; exact absurd this (Nat.lt_irrefl _)
      · exact .inr ⟨e1', e2⟩
  refine ⟨⟨fun b p e => hk _ _ (S.fz b p e), S.base, by simp only [List.length_append, S.len]; rfl, fun k b m' e1 e2 => ?_, ?_, fun k b m' e1 e2 e3 => ?_⟩, fun X => ⟨fun _ _ e => e, fun _ _ e => .inl e, List.prefix_append _ _, fun b hb => ?_, fun b o e _ _ => hk b o e, fun b o e => ⟨o, hk b o e⟩⟩⟩
  · rcases two k b m' e1 e2 with ⟨e1, e2⟩ | ⟨rfl, rfl⟩
    · exact (S.ob k b m' e1 e2).mono (fun _ _ e => e) (hk b)
    · exact hm
  · exact List.nodup_append.mpr ⟨S.nd, List.pairwise_singleton _ _, fun x hx y hy e => hη (List.mem_singleton.mp hy ▸ e ▸ hx)⟩
  · rcases two k b m' e1 e2 with ⟨e1, e2⟩ | ⟨rfl, rfl⟩
    · exact S.dis k b m' e1 e2 e3
    · exact hρ
  · exact (List.mem_append.mp hb).imp id fun hb => (List.mem_singleton.mp hb : b = a) ▸ hn

theorem get_set {α : Type} {l : List α} {x y : α} {k j : Nat} (e : (l.set k x)[j]? = some y) : (j = k ∧ y = x) ∨ (j ≠ k ∧ l[j]? = some y) := by
  by_cases hj : k = j
  · subst hj
    have : k < l.length := by have := (List.getElem?_eq_some_iff.mp e).1; rwa [List.length_set] at this
    rw [List.getElem?_set_self this] at e; exact .inl ⟨rfl, (Option.some.inj e).symm⟩
  · rw [List.getElem?_set_ne hj] at e; exact .inr ⟨Ne.symm hj, e⟩
theorem St.inj (S : St h₀ ρ μ h) {j k : Nat} {a : Addr} (h1 : ρ.l[j]? = some a) (h2 : ρ.l[k]? = some a) : j = k :=
  (List.getElem?_inj (List.getElem?_eq_some_iff.mp h1).1 S.nd).mp (h1.trans h2.symm)

/-- a handle's object turned -/
theorem St.turnU (S : St h₀ ρ μ h) {k : Nat} {a : Addr} {m : MO} (hk : ρ.l[k]? = some a) (hρa : ρ.f a = none) (hm : MIs ρ.f h' a m) (hs : ∀ b o, b ≠ a → h.get? b = some o → h'.get? b = some o) :
    St h₀ ρ (μ.set k m) h' ∧ ∀ X, Grow X ρ h ρ h' := by
  have ha : a ∈ ρ.l := List.mem_of_getElem? hk
  refine ⟨⟨fun b p e => hs b p (fun e' => ?_) (S.fz b p e), S.base, by rw [List.length_set]; exact S.len, fun j b m' e1 e2 => ?_, S.nd, fun j b m' e1 e2 e3 => ?_⟩, fun X => ⟨fun _ _ e => e, fun _ _ e => .inl e, List.prefix_refl _, fun _ m => .inl m, fun b o e n _ => hs b o (fun e' => n (e' ▸ ha)) e, fun b o e => ?_⟩⟩
  · rw [e', hρa] at e; cases e
  · rcases get_set e2 with ⟨rfl, rfl⟩ | ⟨hj, e2⟩
    · rw [hk] at e1; cases e1; exact hm
    · exact (S.ob j b m' e1 e2).mono (fun _ _ e => e) fun o => hs b o fun e' => hj (S.inj (e' ▸ e1) hk)
  · rcases get_set e2 with ⟨rfl, rfl⟩ | ⟨_, e2⟩
    · rw [hk] at e1; cases e1; exact hρa
    · exact S.dis j b m' e1 e2 e3
  · exact if hb : b = a then hb ▸ hm.live else ⟨o, hs b o hb e⟩

theorem St.turn (S : St h₀ ρ μ h) {k : Nat} {a : Addr} {m m₀ : MO} (hk : ρ.l[k]? = some a) (hk0 : μ[k]? = some m₀) (hd : m₀ ≠ .dead) (hm : MIs ρ.f h' a m) (hs : ∀ b o, b ≠ a → h.get? b = some o → h'.get? b = some o) :
    St h₀ ρ (μ.set k m) h' ∧ ∀ X, Grow X ρ h ρ h' := S.turnU hk (S.dis k a m₀ hk hk0 hd) hm hs
/-- one object more, frozen, and a handle's object turned -/
theorem St.turnNew (S : St h₀ ρ μ h) {k : Nat} {a b : Addr} {m m₀ : MO} {o : Obj} (hk : ρ.l[k]? = some a) (hk0 : μ[k]? = some m₀) (hd : m₀ ≠ .dead) (hn : h.get? b = none) (ho : h'.get? b = some o) (hm : MIs (ρ.put b o).f h' a m)
    (hs : ∀ x p, x ≠ a → h.get? x = some p → h'.get? x = some p) : St h₀ (ρ.put b o) (μ.set k m) h' ∧ ∀ X, Grow X ρ h (ρ.put b o) h' := by
  have hρb := S.none_of_fresh hn
  have hbη := S.notin_of_fresh hn
  have hab : a ≠ b := fun e => hbη (e ▸ List.mem_of_getElem? hk)
  have hρa := S.dis k a m₀ hk hk0 hd
  obtain ⟨S1, g1⟩ := S.turnU (m := .dead) hk hρa (hm.live.elim fun p e => .dead p e) hs
  have S2 := S1.adopt ho hρb hbη
  have S3 := (S2.turnU (k := k) (a := a) hk ((Mp.put_ne hab).trans hρa) hm fun _ _ _ e => e).1
  rw [List.set_set] at S3
  exact ⟨S3, fun X => (g1 X).adopt hρb hn⟩

theorem St.take (S : St h₀ ρ μ h) (k : Nat) : St h₀ ⟨ρ.f, ρ.l.take k⟩ (μ.take k) h :=
  have get : ∀ {α : Type} {l : List α} {j : Nat} {x : α}, (l.take k)[j]? = some x → l[j]? = some x := fun {α l j x} e => by
    rw [List.getElem?_take] at e
    split at e
    · exact e
    · cases e
  { S with
    len := by show (ρ.l.take k).length = _; rw [List.length_take, List.length_take, S.len]
    ob := fun j a m e1 e2 => S.ob j a m (get e1) (get e2)
    nd := S.nd.sublist (List.take_sublist _ _)
    dis := fun j a m e1 e2 => S.dis j a m (get e1) (get e2) }

/-- a handle's list, frozen where it lies -/
theorem St.freezeH (S : St h₀ ρ μ h) {k : Nat} {a : Addr} {xs : List PyData} (hk : ρ.l[k]? = some a) (hm : μ[k]? = some (.lst xs)) :
    ∃ ρ', St h₀ ρ' (μ.set k .dead) h ∧ Is ρ'.f (.ref a) (.list xs) ∧ (∀ X, Grow X ρ h ρ' h) ∧ ρ'.l = ρ.l := by
  obtain ⟨n, vs, ho, hi⟩ := (S.ob k a _ hk hm).list
  have hρ : ρ.f a = none := S.dis k a _ hk hm (fun e => by cases e)
  have mono := Mp.put_mono (o := { cls := .type "list", data := .seq vs n }) hρ
  refine ⟨ρ.put a { cls := .type "list", data := .seq vs n }, ⟨fun b p e => ?_, fun b p e => mono _ _ (S.base b p e), by rw [List.length_set]; exact S.len, fun j b m e1 e2 => ?_, S.nd, fun j b m e1 e2 e3 => ?_⟩, .list Mp.put_self (hi.mono mono),
    fun X => ⟨mono, fun b p e => ?_, List.prefix_refl _, fun _ m => .inl m, fun b o e _ _ => e, fun b o e => ⟨o, e⟩⟩, rfl⟩
  · rcases Mp.put_inv e with ⟨rfl, rfl⟩ | e
    · exact ho
    · exact S.fz _ _ e
  · rcases get_set e2 with ⟨rfl, rfl⟩ | ⟨hj, e2⟩
    · exact .dead _ (hk.symm.trans e1 |> Option.some.inj |> fun e => e ▸ ho)
    · exact (S.ob j b m e1 e2).mono mono fun _ e => e
  · rcases get_set e2 with ⟨rfl, rfl⟩ | ⟨hj, e2⟩
    · exact absurd rfl e3
    · rw [Mp.put_ne (fun (e : b = a) => hj (S.inj e1 (e ▸ hk)))]; exact S.dis j b m e1 e2 e3
  · rcases Mp.put_inv e with ⟨rfl, rfl⟩ | e
    · exact .inr (.inr (List.mem_of_getElem? hk))
    · exact .inl e
end
end Mine
end
section
namespace Mine

/-! ### contexts -/
abbrev KE := AV → Mem → Prop
/-- what the defs mean (each a road from what must hold behind it to what must hold ahead), the constants, what else is at hand -/
structure Cx where
  fns : Str → Option (List AV → Mem → KE → Prop)
  cst : Str → Option PyData
  lam : Bool
structure Mc where
  prog : Program
  w : World
  A : Around
  h₀ : Heap
  c : Cx
  K : Nat
  mg : Str → Option Value
  mb : Str → Option Value
  env : Env
def Mc.in1 (M : Mc) : Mc := { M with A := M.A.in1 }
abbrev Sto := Str → Option AV

/-! ### the logic: heap to heap, nothing raised -/
def Ev {α : Type} (M : Mc) (t : Sem α) (Q : α → Heap → Prop) (h : Heap) : Prop :=
  ∀ s : Shared, s.heap = h → 1 ≤ s.toks → wpAny (model M.prog M.w) M.A t (fun a s' => s'.gens = s.gens ∧ s'.os = s.os ∧ Q a s'.heap) (fun _ _ => False) s

section
variable {M : Mc} {α β : Type} {h : Heap}


theorem Ev.mono {t : Sem α} {Q Q' : α → Heap → Prop} (x : Ev M t Q h) (f : ∀ a h', Q a h' → Q' a h') : Ev M t Q' h :=
  fun s hs ht => wpAny_mono (x s hs ht) (fun _ _ q => ⟨q.1, q.2.1, f _ _ q.2.2⟩) fun _ _ e => e
theorem Ev.pure {a : α} {Q : α → Heap → Prop} (q : Q a h) : Ev M (pure a) Q h :=
  fun _ hs _ => wpAny_pure ⟨rfl, rfl, hs ▸ q⟩
theorem Ev.bind {t : Sem α} {f : α → Sem β} {Q : β → Heap → Prop} (x : Ev M t (fun a h' => Ev M (f a) Q h') h) : Ev M (t >>= f) Q h :=
  fun s hs ht => wpAny_bind (wpAny_mono (wpAny_toks_of ht (x s hs ht)) (fun _ s' q => wpAny_mono (q.2.2.2 s' rfl q.1) (fun _ _ q' => ⟨q'.1.trans q.2.1, q'.2.1.trans q.2.2.1, q'.2.2⟩) fun _ _ e => e) fun _ _ e => e.2)
theorem Ev.standAt {p : Pos} {Q : Unit → Heap → Prop} (q : Q () h) : Ev M (standAt p) Q h := fun _ hs _ => wpAny_standAt ⟨rfl, rfl, hs ▸ q⟩
theorem Ev.rule {tag : String} {Q : Unit → Heap → Prop} (q : Q () h) : Ev M (rule tag) Q h := fun _ hs _ => wpAny_rule ⟨rfl, rfl, hs ▸ q⟩
theorem Ev.point {Q : Unit → Heap → Prop} (q : Q () h) : Ev M point Q h := fun _ hs _ => wpAny_point ⟨rfl, rfl, hs ▸ q⟩
theorem Ev.holding {vs : List Value} {t : Sem α} {Q : α → Heap → Prop} (x : Ev M t Q h) : Ev M (holding vs t) Q h := fun s hs ht => wpAny_holding (x s hs ht)
theorem Ev.keep {vs : List Value} {t : Sem α} {Q : α → Heap → Prop} (x : Ev M t Q h) : Ev M (t.keep vs) Q h := fun s hs ht => Calls.wpAny_keep (x s hs ht)
theorem Ev.of_eq {t t' : Sem α} {Q : α → Heap → Prop} (e : t = t') (x : Ev M t' Q h) : Ev M t Q h := e ▸ x
theorem Ev.in1 {t : Sem α} {Q : α → Heap → Prop} (x : Ev M.in1 t Q h) : Ev M t Q h := fun s hs ht => wpAny_of_in1 (x s hs ht)
theorem Ev.release {vs ks : List Value} {Q : Unit → Heap → Prop} (q : Q () h) : Ev M (release vs ks) Q h := fun s hs _ Γ p _ => by
  rw [Sem.wp_release]; exact ⟨rfl, rfl, hs ▸ q⟩
theorem Ev.operate {vs : List Value} {t : Sem Value} {Q : Value → Heap → Prop} (x : Ev M t Q h) : Ev M (operate vs t) Q h := fun s hs ht Γ p hΓ => by
  rw [Sem.wp_operate]; exact x s hs ht Γ p hΓ
/-- a rule of the library, lifted -/
theorem Ev.lift {t : Sem α} {Q : α → Heap → Prop}
    (x : ∀ s : Shared, s.heap = h → 1 ≤ s.toks → ∀ Q' : α → Shared → Prop, (∀ a h' tk, Q a h' → Q' a { s with heap := h', toks := tk }) → wpAny (model M.prog M.w) M.A t Q' (fun _ _ => False) s) : Ev M t Q h :=
  fun s hs ht => x s hs ht _ fun _ _ _ q => ⟨rfl, rfl, q⟩
end

/-! ### the frame of a def or of a comprehension -/
def owned (env : Env) : List Addr := env.locals :: env.cells.map (·.2)

structure FrS (ρ : Mp) (env : Env) (σ : Sto) (h : Heap) : Prop where
  fn : env.scope.kind = .function
  gl : env.globals = mainGlobals
  bi : env.builtins = builtinsNs
  ns : ∃ m, h.Ns env.locals m ∧ ∀ x a, σ x = some a → env.kindOf x = some .local → ∃ v, m x = some v ∧ IsV ρ v a
  kd : ∀ x a, σ x = some a → env.kindOf x = some .local ∨ env.kindOf x = some .cell
  cl : ∀ x a, σ x = some a → env.kindOf x = some .cell → ∃ c v, env.cells.lookup x = some c ∧ h.IsCell c (some v) ∧ IsV ρ v a
  cm : ∀ p ∈ env.cells, (∃ v, h.IsCell p.2 v) ∧ p.2 ≠ env.locals ∧ p.2 ∉ ρ.l ∧ ρ.f p.2 = none
  cx : ∀ x, env.kindOf x = some .cell → ∃ c, env.cells.lookup x = some c
  ap : env.cells.Pairwise fun x y => x.2 ≠ y.2
  lo : env.locals ∉ ρ.l ∧ ρ.f env.locals = none
  lm : lamScope env.scope = true → LamEnv env

theorem FrS.ce {ρ env σ h} (F : FrS ρ env σ h) (x : Str) (c : Addr) (e : env.cells.lookup x = some c) : (∃ v, h.IsCell c v) ∧ c ≠ env.locals ∧ c ∉ ρ.l ∧ ρ.f c = none := F.cm (x, c) (mem_of_lookup e)

def upd (σ : Sto) (x : Str) (a : AV) : Sto := fun y => if y = x then some a else σ y

theorem mem_owned_cell {env : Env} {x : Str} {c : Addr} (e : env.cells.lookup x = some c) : c ∈ owned env :=
  List.mem_cons_of_mem _ (List.mem_map.mpr ⟨_, mem_of_lookup e, rfl⟩)

theorem mem_owned {env : Env} {p : Str × Addr} (e : p ∈ env.cells) : p.2 ∈ owned env := List.mem_cons_of_mem _ (List.mem_map.mpr ⟨_, e, rfl⟩)

theorem Grow.lone {X ρ h ρ' h'} (g : Grow X ρ h ρ' h') {I : Addr} {o : Obj} (ho : h.get? I = some o) (h1 : ρ.f I = none) (h2 : I ∉ ρ.l) : I ∉ ρ'.l ∧ ρ'.f I = none := by
  have ne : h.get? I ≠ none := fun e => by rw [ho] at e; cases e
  refine ⟨fun m => (g.new _ m).elim h2 ne, ?_⟩
  cases e : ρ'.f I with
  | none => rfl
  | some o' =>
    rcases g.fz I o' e with e1 | e1 | e1
    · rw [h1] at e1; cases e1
    · exact absurd e1 ne
    · exact absurd e1 h2

theorem FrS.grow {X ρ env σ h ρ' h'} (F : FrS ρ env σ h) (g : Grow X ρ h ρ' h') (hX : ∀ a ∈ owned env, a ∉ X) : FrS ρ' env σ h' :=
  { F with
    ns := let ⟨m, h1, h2⟩ := F.ns
      ⟨m, h1.at' fun o e => g.keep _ o e F.lo.1 (hX _ (List.mem_cons_self ..)), fun x a e1 e2 => let ⟨v, e3, i⟩ := h2 x a e1 e2; ⟨v, e3, i.grow g⟩⟩
    cl := fun x a e1 e2 => let ⟨c, v, e3, ⟨o, ho, hd⟩, i⟩ := F.cl x a e1 e2; ⟨c, v, e3, ⟨o, g.keep _ o ho (F.ce x c e3).2.2.1 (hX _ (mem_owned_cell e3)), hd⟩, i.grow g⟩
    cm := fun p e => let ⟨⟨v, o, ho, hd⟩, h2, h3, h4⟩ := F.cm p e; ⟨⟨v, o, g.keep _ o ho h3 (hX _ (mem_owned e)), hd⟩, h2, g.lone ho h4 h3⟩
    lo := let ⟨_, ⟨_, _, _, ho, _⟩, _⟩ := F.ns; g.lone ho F.lo.2 F.lo.1 }
theorem FrS.grow0 {ρ env σ h ρ' h'} (F : FrS ρ env σ h) (g : Grow [] ρ h ρ' h') : FrS ρ' env σ h' := F.grow g fun _ _ m => nomatch m
theorem FrS.weaken {ρ env σ σ' h} (F : FrS ρ env σ' h) (hs : ∀ x a, σ x = some a → σ' x = some a) : FrS ρ env σ h :=
  { F with
    ns := let ⟨m, h1, h2⟩ := F.ns; ⟨m, h1, fun x a e => h2 x a (hs x a e)⟩
    kd := fun x a e => F.kd x a (hs x a e)
    cl := fun x a e => F.cl x a (hs x a e) }
theorem FrS.off {ρ env σ h h₁} {I : Addr} (F : FrS ρ env σ h) (no : I ∉ owned env) (hk : ∀ b o, b ≠ I → h.get? b = some o → h₁.get? b = some o) : FrS ρ env σ h₁ :=
  { F with
    ns := let ⟨m, h1, h2⟩ := F.ns; ⟨m, h1.at' fun o e => hk _ o (fun e' => no (e' ▸ List.mem_cons_self ..)) e, h2⟩
    cl := fun x a e1 e2 => let ⟨c, v, e3, ⟨o, ho, hd⟩, i⟩ := F.cl x a e1 e2; ⟨c, v, e3, ⟨o, hk _ o (fun e' => no (e' ▸ mem_owned_cell e3)) ho, hd⟩, i⟩
    cm := fun p e => let ⟨⟨v, o, ho, hd⟩, r⟩ := F.cm p e; ⟨⟨v, o, hk _ o (fun e' => no (e' ▸ mem_owned e)) ho, hd⟩, r⟩ }
theorem FrS.old {ρ env σ h} (F : FrS ρ env σ h) {I : Addr} (m : I ∈ owned env) : ∃ o, h.get? I = some o := by
  rcases List.mem_cons.mp m with rfl | m
  · obtain ⟨_, ⟨o', _, _, ho, _⟩, _⟩ := F.ns; exact ⟨o', ho⟩
  · obtain ⟨p', hp', rfl⟩ := List.mem_map.mp m
    obtain ⟨⟨_, o', ho, _⟩, _⟩ := F.cm p' hp'
    exact ⟨o', ho⟩
theorem FrS.notown {ρ env σ h} (F : FrS ρ env σ h) {I : Addr} (e : h.get? I = none) : I ∉ owned env := fun m => by
  obtain ⟨o, ho⟩ := F.old m; rw [e] at ho; cases ho

section
variable {M : Mc} {ρ : Mp} {μ : Mem} {h : Heap} {env : Env} {σ : Sto}

theorem Ev.loadVar {x : Str} {a : AV} {Q : Value → Heap → Prop} (F : FrS ρ env σ h) (e : σ x = some a) (q : ∀ v, IsV ρ v a → Q v h) : Ev M (loadName env x) Q h := by
  refine Ev.lift fun s hs _ Q' k => ?_
  subst hs
  rcases F.kd x a e with e1 | e1
  · obtain ⟨m, h1, h2⟩ := F.ns
    obtain ⟨v, e3, i⟩ := h2 x a e e1
    exact wpAny_loadName_local F.fn e1 h1 e3 (k v s.heap s.toks (q v i))
  · obtain ⟨c, v, e3, hc, i⟩ := F.cl x a e e1
    exact wpAny_loadName_cell F.fn e1 e3 hc (k v s.heap s.toks (q v i))

theorem Ev.Name {x : Str} {p : Pos} {a : AV} {Q : Value → Heap → Prop} (hd : (x == ("__debug__" : Str)) = false) (F : FrS ρ env σ h) (e : σ x = some a) (q : ∀ v, IsV ρ v a → Q v h) : Ev M (eval (.Name x p) env) Q h := by
  rw [eval_Name env x p hd]
  exact Ev.bind (Ev.standAt (Ev.loadVar F e q))

theorem Ev.storeLocal {x : Str} {a : AV} {v : Value} {Q : Unit → Heap → Prop} (S : St M.h₀ ρ μ h) (F : FrS ρ env σ h) (hk : env.kindOf x = some .local) (i : IsV ρ v a)
    (q : ∀ h', St M.h₀ ρ μ h' → FrS ρ env (upd σ x a) h' → Grow [env.locals] ρ h ρ h' → Q () h') : Ev M (storeName env x v) Q h := by
  refine Ev.lift fun s hs _ Q' k => ?_
  subst hs
  obtain ⟨m, h1, h2⟩ := F.ns
  refine wpAny_storeName_local hk h1 (fun h' hn hs' => k () h' _ (q h' ?_ ?_ ?_)) (by rw [F.fn]; rfl)
  · exact S.but F.lo.2 F.lo.1 fun b o hb e => hs'.extBut b o hb e
  · refine ⟨F.fn, F.gl, F.bi, ⟨_, hn, fun y b e1 e2 => ?_⟩, fun y b e1 => ?_, fun y b e1 e2 => ?_, fun p e1 => ?_, F.cx, F.ap, F.lo, F.lm⟩
    · unfold upd at e1
      by_cases hy : y = x
      · rw [if_pos hy] at e1; cases e1; exact ⟨v, by rw [if_pos hy], i⟩
      · rw [if_neg hy] at e1
        obtain ⟨u, e3, j⟩ := h2 y b e1 e2
        exact ⟨u, by rw [if_neg hy]; exact e3, j⟩
    · unfold upd at e1
      by_cases hy : y = x
      · subst hy; exact .inl hk
      · rw [if_neg hy] at e1; exact F.kd y b e1
    · unfold upd at e1
      by_cases hy : y = x
      · subst hy; rw [hk] at e2; cases e2
      · rw [if_neg hy] at e1
        obtain ⟨c, u, e3, hc, j⟩ := F.cl y b e1 e2
        exact ⟨c, u, e3, hc.sameBut hs' (F.ce y c e3).2.1, j⟩
    · obtain ⟨⟨u, hc⟩, r⟩ := F.cm p e1
      exact ⟨⟨u, hc.sameBut hs' r.1⟩, r⟩
  · obtain ⟨oL, _, _, hoL, _⟩ := hn
    exact Grow.but (L := env.locals) (fun b o hb e => hs'.extBut b o hb e) ⟨_, hoL⟩

theorem Ev.storeVar {x : Str} {a : AV} {v : Value} {Q : Unit → Heap → Prop} (S : St M.h₀ ρ μ h) (F : FrS ρ env σ h) (hk : env.kindOf x = some .local ∨ env.kindOf x = some .cell) (i : IsV ρ v a)
    (q : ∀ h', St M.h₀ ρ μ h' → FrS ρ env (upd σ x a) h' → Grow (owned env) ρ h ρ h' → Q () h') : Ev M (storeName env x v) Q h := by
  rcases hk with hk | hk
  · exact Ev.storeLocal S F hk i fun h' s' f' g' => q h' s' f' (g'.weaken fun a m => by simp at m; subst m; exact List.mem_cons_self ..)
  refine Ev.lift fun s hs _ Q' k => ?_
  subst hs
  · obtain ⟨c, hc⟩ := F.cx x hk
    obtain ⟨⟨v0, hcell⟩, hcl, hcn, hcr⟩ := F.ce x c hc
    refine wpAny_storeName_cell F.fn hk hc hcell fun h' hc' hs' => k () h' _ (q h' ?_ ?_ ?_)
    · exact S.but hcr hcn fun b o hb e => hs'.extBut b o hb e
    · obtain ⟨m, h1, h2⟩ := F.ns
      refine ⟨F.fn, F.gl, F.bi, ⟨m, h1.sameBut hs' (Ne.symm hcl), fun y b e1 e2 => ?_⟩, fun y b e1 => ?_, fun y b e1 e2 => ?_, fun p e1 => ?_, F.cx, F.ap, F.lo, F.lm⟩
      · unfold upd at e1
        by_cases hy : y = x
        · subst hy; rw [hk] at e2; cases e2
        · rw [if_neg hy] at e1; exact h2 y b e1 e2
      · unfold upd at e1
        by_cases hy : y = x
        · subst hy; exact .inr hk
        · rw [if_neg hy] at e1; exact F.kd y b e1
      · unfold upd at e1
        by_cases hy : y = x
        · subst hy; rw [if_pos rfl] at e1; cases e1; exact ⟨c, v, hc, hc', i⟩
        · rw [if_neg hy] at e1
          obtain ⟨c2, u, e3, hc2, j⟩ := F.cl y b e1 e2
          exact ⟨c2, u, e3, hc2.sameBut hs' fun e => hy (name_of_addr F.ap (mem_of_lookup e3) (e ▸ mem_of_lookup hc)), j⟩
      · obtain ⟨⟨u, hc2⟩, r⟩ := F.cm p e1
        by_cases he : p.2 = c
        · refine ⟨⟨_, by rw [he]; exact hc'⟩, r⟩
        · exact ⟨⟨u, hc2.sameBut hs' he⟩, r⟩
    · obtain ⟨o', ho', _⟩ := hc'
      exact (Grow.but (L := c) (fun b o hb e => hs'.extBut b o hb e) ⟨_, ho'⟩).weaken fun a m => by simp at m; subst m; exact mem_owned_cell hc

theorem Ev.bindLocal {x : Str} {a : AV} {v : Value} {Q : Unit → Heap → Prop} (S : St M.h₀ ρ μ h) (F : FrS ρ env σ h) (hk : env.kindOf x = some .local) (i : IsV ρ v a)
    (q : ∀ h', St M.h₀ ρ μ h' → FrS ρ env (upd σ x a) h' → Grow [env.locals] ρ h ρ h' → Q () h') : Ev M (bindName env x v) Q h := by
  unfold bindName
  exact Ev.bind (Ev.holding (Ev.point (Ev.bind (Ev.storeLocal S F hk i fun h' s f g => Ev.point (q h' s f g)))))

theorem Ev.bindVar {x : Str} {a : AV} {v : Value} {Q : Unit → Heap → Prop} (S : St M.h₀ ρ μ h) (F : FrS ρ env σ h) (hk : env.kindOf x = some .local ∨ env.kindOf x = some .cell) (i : IsV ρ v a)
    (q : ∀ h', St M.h₀ ρ μ h' → FrS ρ env (upd σ x a) h' → Grow (owned env) ρ h ρ h' → Q () h') : Ev M (bindName env x v) Q h := by
  unfold bindName
  exact Ev.bind (Ev.holding (Ev.point (Ev.bind (Ev.storeVar S F hk i fun h' s f g => Ev.point (q h' s f g)))))
end
end Mine
end
section
namespace Mine

def OkA (n : Nat) (A : Around) : Prop := A.handled = none ∧ A.depth + n < recursionLimit ∧ A.units + 10 * n + 200 < cLine
theorem OkA.in1 {n A} (x : OkA (n + 1) A) : OkA n A.in1 := ⟨x.1, by have := x.2.1; show A.depth + n < _; omega, by have := x.2.2; show A.units + 1 + 10 * n + 200 < _; omega⟩
theorem OkA.deeper {n A env} (x : OkA (n + 1) A) : OkA n (A.deeper env) := ⟨x.1, by have := x.2.1; show A.depth + 1 + n < _; omega, by have := x.2.2; show A.units + 3 + 10 * n + 200 < _; omega⟩
theorem OkA.le {n m A} (x : OkA n A) (h : m ≤ n) : OkA m A := ⟨x.1, by have := x.2.1; omega, by have := x.2.2; omega⟩

def Res (M : Mc) (ρ : Mp) (h : Heap) (a : AV) (μ' : Mem) (v : Value) (h' : Heap) : Prop :=
  ∃ ρ', Grow [] ρ h ρ' h' ∧ St M.h₀ ρ' μ' h' ∧ IsV ρ' v a
/-- a result for which the road's end holds -/
def PE (M : Mc) (ρ : Mp) (h : Heap) (k : KE) (v : Value) (h' : Heap) : Prop := ∃ a ρ' μ', Grow [] ρ h ρ' h' ∧ St M.h₀ ρ' μ' h' ∧ IsV ρ' v a ∧ k a μ'

/-! ### what a value must be -/
def intP : AV → (Int → Prop) → Prop
  | .d (.int i), k => k i
  | _, _ => False
def strP : AV → (Str → Prop) → Prop
  | .d (.str i), k => k i
  | _, _ => False
def boolP : AV → (Bool → Prop) → Prop
  | .d (.bool i), k => k i
  | _, _ => False
def tupP : AV → (List PyData → Prop) → Prop
  | .d (.tuple i), k => k i
  | _, _ => False
def lstD : AV → (List PyData → Prop) → Prop
  | .d (.list i), k => k i
  | _, _ => False
def datP : AV → (PyData → Prop) → Prop
  | .d i, k => k i
  | .h _, _ => False
def hndP (a : AV) (k : Nat → Prop) : Prop := match a with
  | .h j => k j
  | .d _ => False
/-- a handle's list -/
def mutP (a : AV) (μ : Mem) (k : Nat → List PyData → Prop) : Prop := hndP a fun j => ∃ xs, μ[j]? = some (.lst xs) ∧ k j xs
def setP (a : AV) (μ : Mem) (k : Nat → List Int → Prop) : Prop := hndP a fun j => ∃ xs, μ[j]? = some (.set xs) ∧ k j xs
/-- a list, by value or a handle's -/
def lstP (a : AV) (μ : Mem) (k : List PyData → Prop) : Prop := match a with
  | .h j => ∃ xs, μ[j]? = some (.lst xs) ∧ k xs
  | a => lstD a k
def valP (a : AV) (μ : Mem) (k : PyData → Prop) : Prop := match a with
  | .h j => ∃ xs, μ[j]? = some (.lst xs) ∧ k (.list xs)
  | .d x => k x

section
variable {M : Mc} {ρ : Mp} {μ : Mem} {h : Heap} {v : Value} {a : AV}
theorem intP.inv {k} (x : intP a k) : ∃ i, a = .d (.int i) ∧ k i := by
  rcases a with (_ | _ | i | _ | _ | _ | _) | _ <;> first | exact ⟨_, rfl, x⟩ | exact x.elim
theorem strP.inv {k} (x : strP a k) : ∃ i, a = .d (.str i) ∧ k i := by
  rcases a with (_ | _ | i | _ | _ | _ | _) | _ <;> first | exact ⟨_, rfl, x⟩ | exact x.elim
theorem boolP.inv {k} (x : boolP a k) : ∃ i, a = .d (.bool i) ∧ k i := by
  rcases a with (_ | _ | i | _ | _ | _ | _) | _ <;> first | exact ⟨_, rfl, x⟩ | exact x.elim
theorem tupP.inv {k} (x : tupP a k) : ∃ i, a = .d (.tuple i) ∧ k i := by
  rcases a with (_ | _ | i | _ | _ | _ | _) | _ <;> first | exact ⟨_, rfl, x⟩ | exact x.elim
theorem lstD.inv {k} (x : lstD a k) : ∃ i, a = .d (.list i) ∧ k i := by
  rcases a with (_ | _ | i | _ | _ | _ | _) | _ <;> first | exact ⟨_, rfl, x⟩ | exact x.elim
theorem datP.inv {k} (x : datP a k) : ∃ i, a = .d i ∧ k i := by
  cases a with
  | d i => exact ⟨_, rfl, x⟩
  | h _ => exact x.elim
theorem hndP.inv {k} (x : hndP a k) : ∃ i, a = .h i ∧ k i := by
  cases a with
  | h i => exact ⟨_, rfl, x⟩
  | d _ => exact x.elim

theorem Res.same (S : St M.h₀ ρ μ h) (i : IsV ρ v a) : Res M ρ h a μ v h := ⟨ρ, .refl, S, i⟩
theorem Res.trans {ρ' h' μ' h''} (g : Grow [] ρ h ρ' h') (r : Res M ρ' h' a μ' v h'') : Res M ρ h a μ' v h'' :=
  r.elim fun ρ2 q => ⟨ρ2, g.trans q.1, q.2⟩
theorem PE.same {k : KE} (S : St M.h₀ ρ μ h) (i : IsV ρ v a) (q : k a μ) : PE M ρ h k v h := ⟨a, ρ, μ, .refl, S, i, q⟩
theorem PE.el {h'} {k : KE} {P : Prop} (r : PE M ρ h k v h') (f : ∀ a ρ' μ', Grow [] ρ h ρ' h' → St M.h₀ ρ' μ' h' → IsV ρ' v a → k a μ' → P) : P := by
  obtain ⟨a, ρ2, μ, g, S, i, q⟩ := r
  exact f a ρ2 μ g S i q
theorem Res.el {h' μ'} {P : Prop} (r : Res M ρ h a μ' v h') (f : ∀ ρ', Grow [] ρ h ρ' h' → St M.h₀ ρ' μ' h' → IsV ρ' v a → P) : P := by
  obtain ⟨ρ2, g, S, i⟩ := r
  exact f ρ2 g S i
theorem PE.mk {h' ρ' μ'} {k : KE} (g : Grow [] ρ h ρ' h') (S : St M.h₀ ρ' μ' h') (i : IsV ρ' v a) (q : k a μ') : PE M ρ h k v h' := ⟨a, ρ', μ', g, S, i, q⟩
theorem PE.trans {ρ' h' h''} {k : KE} (g : Grow [] ρ h ρ' h') (r : PE M ρ' h' k v h'') : PE M ρ h k v h'' := r.el fun _ _ _ g2 S i q => .mk (g.trans g2) S i q
theorem Res.pe {μ' h'} {k : KE} (r : Res M ρ h a μ' v h') (q : k a μ') : PE M ρ h k v h' := r.elim fun ρ' r => ⟨a, ρ', μ', r.1, r.2.1, r.2.2, q⟩
/-- a part's results, used -/
theorem Ev.useE {t : Sem Value} {k : KE} {Q : Value → Heap → Prop} (x : Ev M t (PE M ρ h k) h) (f : ∀ v h' a ρ' μ', Grow [] ρ h ρ' h' → St M.h₀ ρ' μ' h' → IsV ρ' v a → k a μ' → Q v h') : Ev M t Q h := x.mono fun v h' r => r.el (f v h')
theorem Ev.useR {t : Sem Value} {μ' : Mem} {Q : Value → Heap → Prop} (x : Ev M t (Res M ρ h a μ') h) (f : ∀ v h' ρ', Grow [] ρ h ρ' h' → St M.h₀ ρ' μ' h' → IsV ρ' v a → Q v h') : Ev M t Q h := x.mono fun v h' r => r.el (f v h')
theorem Ev.pe {t : Sem Value} {ρ' h' μ'} {k : KE} (x : Ev M t (Res M ρ' h' a μ') h') (g : Grow [] ρ h ρ' h') (q : k a μ') : Ev M t (PE M ρ h k) h' := x.mono fun _ _ r => (r.trans g).pe q

/-- a new list or tuple, frozen -/
theorem Res.new {o : Obj} {h' : Heap} {a : Addr} {d : PyData} (S : St M.h₀ ρ μ h) (hn : h.get? a = none) (ho : h'.get? a = some o) (hk : ∀ b o, h.get? b = some o → h'.get? b = some o)
    (i : ∀ ρ' : Frz, (∀ b p, ρ.f b = some p → ρ' b = some p) → ρ' a = some o → Is ρ' (.ref a) d) : Res M ρ h (.d d) μ (.ref a) h' :=
  let ⟨s', g⟩ := S.freeze hn ho hk
  ⟨_, g [], s', i _ (g []).rho Mp.put_self⟩

theorem get_push_new (h : Heap) (o : Obj) (hf : o.isFreed = false := by rfl) : (h.push o).get? h.objs.size = some o := Heap.get?_push_size _ hf
theorem kept (h : Heap) (o : Obj) (b : Addr) (p : Obj) (e : h.get? b = some p) : (h.push o).get? b = some p := Heap.get?_push_of_some _ e

theorem Ev.newList {vs : List Value} {ds : List PyData} (S : St M.h₀ ρ μ h) (i : IsAll ρ.f vs ds) (hz : vs.length ≤ sizeLine) : Ev M (newList vs) (Res M ρ h (.d (.list ds)) μ) h := by
  refine Ev.lift fun s hs _ Q' k => ?_
  subst hs
  exact wpAny_newObj_type (k _ _ s.toks (Res.new S (fresh_at (Nat.le_refl _)) (get_push_new _ _) (kept _ _) fun ρ' m e => .list e (i.mono m))) hz
theorem Ev.newTuple {vs : List Value} {ds : List PyData} (S : St M.h₀ ρ μ h) (i : IsAll ρ.f vs ds) (hz : vs.length ≤ sizeLine) : Ev M (newTuple vs) (Res M ρ h (.d (.tuple ds)) μ) h := by
  refine Ev.lift fun s hs _ Q' k => ?_
  subst hs
  exact wpAny_newObj_type (k _ _ s.toks (Res.new S (fresh_at (Nat.le_refl _)) (get_push_new _ _) (kept _ _) fun ρ' m e => .tuple e (i.mono m))) hz

theorem is_int {v : Value} {i : Int} {ρ : Frz} (x : Is ρ v (.int i)) : ∃ t, v = .int i t := by cases x; exact ⟨_, rfl⟩
theorem is_str {v : Value} {s : Str} {ρ : Frz} (x : Is ρ v (.str s)) : ∃ t, v = .str s t := by cases x; exact ⟨_, rfl⟩
theorem is_bool {v : Value} {b : Bool} {ρ : Frz} (x : Is ρ v (.bool b)) : v = .bool b := by cases x; rfl
theorem is_none {v : Value} {ρ : Frz} (x : Is ρ v .none) : v = .none := by cases x; rfl
theorem is_list {v : Value} {xs : List PyData} {ρ : Frz} (x : Is ρ v (.list xs)) : ∃ a vs n, v = .ref a ∧ ρ a = some { cls := .type "list", data := .seq vs n } ∧ IsAll ρ vs.toList xs ∧ vs.size = xs.length := by
  cases x with
  | list e r => exact ⟨_, _, _, rfl, e, r, by rw [← r.length, Array.length_toList]⟩
theorem is_tuple {v : Value} {xs : List PyData} {ρ : Frz} (x : Is ρ v (.tuple xs)) : ∃ a vs n, v = .ref a ∧ ρ a = some { cls := .type "tuple", data := .seq vs n } ∧ IsAll ρ vs.toList xs ∧ vs.size = xs.length := by
  cases x with
  | tuple e r => exact ⟨_, _, _, rfl, e, r, by rw [← r.length, Array.length_toList]⟩
theorem St.lst {k : Nat} {xs : List PyData} (S : St M.h₀ ρ μ h) (i : IsV ρ v (.h k)) (hm : μ[k]? = some (.lst xs)) :
    ∃ l vs n, v = .ref l ∧ ρ.l[k]? = some l ∧ h.get? l = some { cls := .type "list", data := .seq vs n } ∧ IsAll ρ.f vs.toList xs ∧ vs.size = xs.length := by
  obtain ⟨l, hl, rfl⟩ := i
  obtain ⟨n, vs, ho, r⟩ := (S.ob k l _ hl hm).list
  exact ⟨l, vs, n, rfl, hl, ho, r, by rw [← r.length, Array.length_toList]⟩

/-- a list, by value or behind a handle, in the heap -/
def ListAt (ρ : Mp) (h : Heap) (v : Value) (xs : List PyData) : Prop := ∃ l vs n, v = .ref l ∧ h.get? l = some { cls := .type "list", data := .seq vs n } ∧ IsAll ρ.f vs.toList xs ∧ vs.size = xs.length
theorem lstD.at {k} (x : lstD a k) (S : St M.h₀ ρ μ h) (i : IsV ρ v a) : ∃ xs, ListAt ρ h v xs ∧ k xs := by
  obtain ⟨xs, rfl, q⟩ := x.inv
  obtain ⟨l, vs, n, rfl, hl, r, hz⟩ := is_list i
  exact ⟨xs, ⟨l, vs, n, rfl, S.fz _ _ hl, r, hz⟩, q⟩
theorem lstP.at {k} (x : lstP a μ k) (S : St M.h₀ ρ μ h) (i : IsV ρ v a) : ∃ xs, ListAt ρ h v xs ∧ k xs := by
  cases a with
  | d y => exact lstD.at (a := .d y) x S i
  | h j =>
    obtain ⟨xs, hm, q⟩ := x
    obtain ⟨l, vs, n, rfl, _, ho, r, hz⟩ := S.lst i hm
    exact ⟨xs, ⟨l, vs, n, rfl, ho, r, hz⟩, q⟩
theorem valP.at {k} (x : valP a μ k) (S : St M.h₀ ρ μ h) (i : IsV ρ v a) : ∃ d, (∃ as, Reads h v d as) ∧ k d := by
  cases a with
  | d y => exact ⟨y, Is.reads S.fz i, x⟩
  | h j =>
    obtain ⟨xs, hm, q⟩ := x
    obtain ⟨l, vs, n, rfl, _, ho, r, _⟩ := S.lst i hm
    obtain ⟨as, ra⟩ := r.reads S.fz
    exact ⟨.list xs, ⟨_, .list ho rfl rfl ra⟩, q⟩

/-! ### operators -/
def addI (a b : AV) (k : PyData → Prop) : Prop := intP a fun x => intP b fun y => k (.int (x + y))
def subI (a b : AV) (k : PyData → Prop) : Prop := intP a fun x => intP b fun y => k (.int (x - y))
def mulI (a b : AV) (k : PyData → Prop) : Prop := intP a fun x => intP b fun y => x.natAbs < 2 ^ 32 ∧ k (.int (x * y))
def modI (a b : AV) (k : PyData → Prop) : Prop := intP a fun x => intP b fun y => y ≠ 0 ∧ k (.int (x.fmod y))
def shrI (a b : AV) (k : PyData → Prop) : Prop := intP a fun x => intP b fun y => 0 ≤ y ∧ k (.int (x.fdiv (2 ^ y.toNat)))
def addS (a b : AV) (k : PyData → Prop) : Prop := strP a fun x => strP b fun y => x.length + y.length ≤ sizeLine ∧ k (.str (x ++ y))
def addL (a b : AV) (k : PyData → Prop) : Prop := lstD a fun x => lstD b fun y => x.length + y.length ≤ sizeLine ∧ k (.list (x ++ y))

theorem bits_le {a : Int} (ha : a.natAbs < 2 ^ 32) : Builtin.Int.intBits a ≤ 64 := by
  unfold Builtin.Int.intBits
  split
  · omega
  · have : a.natAbs.log2 < 32 := by
      rcases Nat.eq_zero_or_pos a.natAbs with h | h
      · rw [h]; decide
      · exact (Nat.log2_lt (by omega)).mpr ha
    omega

def BinOk (op : Operator) (P : AV → AV → (PyData → Prop) → Prop) : Prop := ∀ {M : Mc} {ρ : Mp} {μ : Mem} {h : Heap} {va vb : Value} {a b : AV} {k : PyData → Prop}, St M.h₀ ρ μ h → IsV ρ va a → IsV ρ vb b → P a b k →
  ∃ d, k d ∧ Ev M (binaryOp op va vb) (Res M ρ h (.d d) μ) h
theorem intP.two {b : AV} {va vb : Value} {k : Int → Int → Prop} {P : Prop} (x : intP a fun x => intP b fun y => k x y) (ia : IsV ρ va a) (ib : IsV ρ vb b) (f : ∀ x y t u, va = .int x t → vb = .int y u → k x y → P) : P := by
  obtain ⟨x, rfl, q⟩ := x.inv
  obtain ⟨y, rfl, q⟩ := q.inv
  obtain ⟨t, rfl⟩ := is_int ia; obtain ⟨u, rfl⟩ := is_int ib
  exact f _ _ _ _ rfl rfl q
theorem Ev.ofInt {t : Sem Value} {z : Int} (S : St M.h₀ ρ μ h) (x : ∀ s : Shared, ∀ Q' : Value → Shared → Prop, Q' (.int z s.toks) { s with toks := s.toks + 1 } → wpAny (model M.prog M.w) M.A t Q' (fun _ _ => False) s) : Ev M t (Res M ρ h (.d (.int z)) μ) h :=
  Ev.lift fun s hs _ Q' k => x s Q' (by subst hs; exact k _ s.heap (s.toks + 1) (.same S (.int z s.toks)))

theorem addI.ok : BinOk .Add addI := fun S ia ib e => intP.two e ia ib fun _ _ _ _ e1 e2 q => ⟨_, q, e1 ▸ e2 ▸ Ev.ofInt S fun _ _ => add_int⟩
theorem subI.ok : BinOk .Sub subI := fun S ia ib e => intP.two e ia ib fun _ _ _ _ e1 e2 q => ⟨_, q, e1 ▸ e2 ▸ Ev.ofInt S fun _ _ => sub_int⟩
theorem mulI.ok : BinOk .Mult mulI := fun S ia ib e => intP.two e ia ib fun _ _ _ _ e1 e2 q => ⟨_, q.2, e1 ▸ e2 ▸ Ev.ofInt S fun _ _ k => mul_int k (IntMulOk.of_left (bits_le q.1))⟩
theorem modI.ok : BinOk .Mod modI := fun S ia ib e => intP.two e ia ib fun _ _ _ _ e1 e2 q => ⟨_, q.2, e1 ▸ e2 ▸ Ev.ofInt S fun _ _ k => mod_int q.1 k⟩
theorem shrI.ok : BinOk .RShift shrI := fun S ia ib e => intP.two e ia ib fun _ _ _ _ e1 e2 q => ⟨_, q.2, e1 ▸ e2 ▸ Ev.ofInt S fun _ _ k => rshift_int q.1 k⟩
theorem addS.ok : BinOk .Add addS := by
  intro M ρ μ h va vb a b k S ia ib e
  obtain ⟨x, rfl, q⟩ := e.inv
  obtain ⟨y, rfl, hz, q⟩ := q.inv
  obtain ⟨t, rfl⟩ := is_str ia; obtain ⟨u, rfl⟩ := is_str ib
  exact ⟨_, q, Ev.lift fun s hs _ Q' k => PyProof.Rows.add_str (fun t' tk => by subst hs; exact k _ s.heap tk (.same S (.str _ t'))) hz⟩
theorem addL.ok : BinOk .Add addL := by
  intro M ρ μ h va vb a b k S ia ib e
  obtain ⟨x, rfl, q⟩ := e.inv
  obtain ⟨y, rfl, hz, q⟩ := q.inv
  obtain ⟨la, xs, n, rfl, ha, ra, za⟩ := is_list ia
  obtain ⟨lb, ys, m, rfl, hb, rb, zb⟩ := is_list ib
  refine ⟨_, q, Ev.lift fun s hs _ Q' k => ?_⟩
  subst hs
  refine P.add_list (S.fz _ _ ha) (S.fz _ _ hb) (k _ _ s.toks (Res.new S (fresh_at (Nat.le_refl _)) (get_push_new _ _) (kept _ _) fun ρ' m e => .list e ?_)) (by rw [za, zb]; exact hz)
  rw [Array.toList_append]; exact (ra.append rb).mono m
end

/-! ### comparisons -/
def intOf : PyData → Option Int
  | .int a => some a
  | _ => none
def strOf : PyData → Option Str
  | .str a => some a
  | _ => none
theorem intOf_inv {x : PyData} {a : Int} (h : intOf x = some a) : x = .int a := by cases x <;> first | (cases h; rfl) | cases h
theorem strOf_inv {x : PyData} {a : Str} (h : strOf x = some a) : x = .str a := by cases x <;> first | (cases h; rfl) | cases h
def ltStr (a b : Str) : Bool := decide (a.cps.toList < b.cps.toList)
/-- two items of tuples: alike, or the one is less -/
def eltLt (x y : PyData) : Option (Option Bool) := match intOf x, intOf y with
  | some a, some b => some (if a = b then none else some (decide (a < b)))
  | _, _ => match strOf x, strOf y with
    | some a, some b => some (if a = b then none else some (ltStr a b))
    | _, _ => none
def tupLt : List PyData → List PyData → Option Bool
  | [], [] => some false
  | [], _ :: _ => some true
  | _ :: _, [] => some false
  | x :: xs, y :: ys => match eltLt x y with
    | some (some b) => some b
    | some none => tupLt xs ys
    | none => none

section
variable {prog : Program} {w : World} {A : Around} {s : Shared} {ρ : Frz} {v u : Value} {x y : PyData} {o : Option Bool}
theorem elt_inv (h : eltLt x y = some o) : (∃ a b, x = .int a ∧ y = .int b ∧ o = if a = b then none else some (decide (a < b))) ∨ ∃ a b, x = .str a ∧ y = .str b ∧ o = if a = b then none else some (ltStr a b) := by
  unfold eltLt at h
  split at h
  · next h1 h2 => exact .inl ⟨_, _, intOf_inv h1, intOf_inv h2, (Option.some.inj h).symm⟩
  · split at h
    · next h1 h2 => exact .inr ⟨_, _, strOf_inv h1, strOf_inv h2, (Option.some.inj h).symm⟩
    · cases h
theorem elt_eq {Q : Bool → Shared → Prop} {E : Value → Shared → Prop} (i : Is ρ v x) (j : Is ρ u y) (h : eltLt x y = some o) (q : Q o.isNone s) : wpAny (model prog w) A (eqBool v u) Q E s := by
  rcases elt_inv h with ⟨a, b, rfl, rfl, rfl⟩ | ⟨a, b, rfl, rfl, rfl⟩
  · obtain ⟨t, rfl⟩ := is_int i; obtain ⟨z, rfl⟩ := is_int j
    refine SeqAt.EqAt.int_int a t b z _ _ _ _ ?_
    by_cases hab : a = b
    · rw [if_pos hab] at q; rw [hab, beq_self_eq_true]; exact q
    · rw [if_neg hab] at q; rw [beq_eq_false_iff_ne.mpr hab]; exact q
  · obtain ⟨t, rfl⟩ := is_str i; obtain ⟨z, rfl⟩ := is_str j
    refine SeqAt.EqAt.str_str a t b z _ _ _ _ ?_
    by_cases hab : a = b
    · rw [if_pos hab] at q; rw [hab, beq_self_eq_true]; exact q
    · rw [if_neg hab] at q; rw [beq_eq_false_iff_ne.mpr hab]; exact q
theorem elt_lt {b : Bool} {Q : Value → Shared → Prop} {E : Value → Shared → Prop} (i : Is ρ v x) (j : Is ρ u y) (h : eltLt x y = some (some b)) (q : Q (.bool b) s) : wpAny (model prog w) A (richCompare .Lt v u) Q E s := by
  rcases elt_inv h with ⟨a, c, rfl, rfl, e⟩ | ⟨a, c, rfl, rfl, e⟩
  · obtain ⟨t, rfl⟩ := is_int i; obtain ⟨z, rfl⟩ := is_int j
    split at e
    · cases e
    · cases e; exact lt_int q
  · obtain ⟨t, rfl⟩ := is_str i; obtain ⟨z, rfl⟩ := is_str j
    split at e
    · cases e
    · cases e; exact PyProof.Rows.lt_str q

/-- what is left of two tuples -/
def TR (ρ : Frz) (n m : Nat) (r : Bool) (rest : List (Value × Value)) : Prop := ∃ us ts xs ys, rest = us.zip ts ∧ IsAll ρ us xs ∧ IsAll ρ ts ys ∧ tupLt xs ys = some r ∧ (n < m ↔ us.length < ts.length)
theorem TR.nil {n m : Nat} {r : Bool} (h : TR ρ n m r []) : decide (n < m) = r := by
  obtain ⟨us, ts, xs, ys, hz, iu, it, hlt, hl⟩ := h
  rw [decide_eq_decide.mpr hl]
  cases iu with
  | nil => cases it with
    | nil => exact Option.some.inj hlt
    | cons _ _ => exact (decide_eq_true (Nat.succ_pos _)).trans (Option.some.inj hlt)
  | cons _ _ => cases it with
    | nil => exact Option.some.inj hlt
    | cons _ _ => cases hz
theorem TR.cons {n m : Nat} {r : Bool} {p : Value × Value} {rest : List (Value × Value)} (h : TR ρ n m r (p :: rest)) : ∃ d e o, Is ρ p.1 d ∧ Is ρ p.2 e ∧ eltLt d e = some o ∧ (o = none → TR ρ n m r rest) ∧ ∀ b, o = some b → b = r := by
  obtain ⟨us, ts, xs, ys, hz, iu, it, hlt, hl⟩ := h
  cases iu with
  | nil => cases hz
  | cons i1 i2 => cases it with
    | nil => cases hz
    | cons j1 j2 =>
      cases hz
      rename_i d ds e es
      unfold tupLt at hlt
      split at hlt
      · next b he => exact ⟨_, _, _, i1, j1, he, (fun e => by cases e), fun b e => by cases e; exact Option.some.inj hlt⟩
      · next he => exact ⟨_, _, _, i1, j1, he, fun _ => ⟨_, _, _, _, rfl, i2, j2, hlt, hl.trans Nat.succ_lt_succ_iff⟩, fun b e => by cases e⟩
      · cases hlt
end

theorem tuple_lt (l m : Addr) {ρ : Frz} (vs ws : Array Value) (n k : Nat) (r : Bool) (T : TR ρ vs.size ws.size r (vs.toList.zip ws.toList)) :
    Meets (Builtin.«tuple.__lt__» ⟨[.ref l, .ref m], []⟩)
      (fun A R s => s.heap.get? l = some { cls := .type "tuple", data := .seq vs n } ∧ s.heap.get? m = some { cls := .type "tuple", data := .seq ws k } ∧ R (.ok (.ret (.bool r))) s) :=
  .of_wp fun prog w A R s h => by
    obtain ⟨hp, g, d, tk, os⟩ := s; obtain ⟨hl, hb, h⟩ := h
    have f2 := AutoSeq1.sub_tuple_tuple
    wp_walk using wpAny_loadPart' hl, wpAny_loadPart' hb, wpAny_forIn_list _ (fun rest b s' => b.1 = none ∧ s' = ⟨hp, g, d, tk, os⟩ ∧ TR ρ vs.size ws.size r rest) _
    case turn =>
      rintro p rest b s' ⟨hb', rfl, T⟩
      obtain ⟨x, y, o, i, j, he, h1, h2⟩ := T.cons
      refine wpAny_bind (elt_eq i j he ?_)
      cases o with
      | none => exact wpAny_pure ⟨rfl, rfl, h1 rfl⟩
      | some b =>
        cases h2 b rfl
        exact wpAny_bind (wpAny_rule (wpAny_bind (elt_lt i j he (wpAny_bind (wpAny_pure (wpAny_pure (wpAny_pure ⟨_, rfl, h⟩)))))))
    case fin =>
      rintro ⟨b1, b2⟩ s' ⟨hb', rfl, T⟩
      cases hb'
      exact wpAny_pure ⟨_, rfl, by rw [show Builtin.Tuple.tupleCompareSizes CmpOp.Lt vs.size ws.size = .bool (decide (vs.size < ws.size)) from rfl, T.nil]; exact h⟩
    case h =>
      exact ⟨rfl, rfl, T⟩
end Mine
end
section
namespace Mine

def okEq (x y : PyData) : Bool := x.canLay0 && y.canLay0 && decide (x.depth ≤ 64)
theorem okEq.inv {x y : PyData} (h : okEq x y = true) : x.canLay0 = true ∧ y.canLay0 = true ∧ x.depth ≤ 64 := by
  unfold okEq at h
  rw [Bool.and_eq_true, Bool.and_eq_true, decide_eq_true_eq] at h
  exact ⟨h.1.1, h.1.2, h.2⟩

def ltI (a b : AV) (_ : Mem) (k : Bool → Prop) : Prop := intP a fun x => intP b fun y => k (decide (x < y))
def gtI (a b : AV) (_ : Mem) (k : Bool → Prop) : Prop := intP a fun x => intP b fun y => k (decide (y < x))
def geI (a b : AV) (_ : Mem) (k : Bool → Prop) : Prop := intP a fun x => intP b fun y => k (decide (y ≤ x))
def ltT (a b : AV) (_ : Mem) (k : Bool → Prop) : Prop := tupP a fun x => tupP b fun y => ∃ r, tupLt x y = some r ∧ k r
def niSet (a b : AV) (μ : Mem) (k : Bool → Prop) : Prop := intP a fun i => setP b μ fun _ xs => xs.length < 4000 ∧ k (!xs.contains i)
def niStr (a b : AV) (_ : Mem) (k : Bool → Prop) : Prop := strP a fun y => strP b fun x => k (Builtin.Str.occurrences x y 0 x.length 1).isEmpty
def niL (a b : AV) (_ : Mem) (k : Bool → Prop) : Prop := datP a fun x => lstD b fun ys => okEq (.list ys) x = true ∧ x.depth ≤ 64 ∧ k (!(ys.any fun y => PyData.eqv y x))
def eqV (a b : AV) (μ : Mem) (k : Bool → Prop) : Prop := valP a μ fun x => valP b μ fun y => okEq x y = true ∧ k (PyData.eqv x y)
def neV (a b : AV) (μ : Mem) (k : Bool → Prop) : Prop := valP a μ fun x => valP b μ fun y => okEq x y = true ∧ k (!PyData.eqv x y)

def CmpOk (op : CmpOp) (P : AV → AV → Mem → (Bool → Prop) → Prop) : Prop := ∀ {M : Mc} {ρ : Mp} {μ : Mem} {h : Heap} {va vb : Value} {a b : AV} {k : Bool → Prop}, M.A.units + 65 < cLine → St M.h₀ ρ μ h → IsV ρ va a → IsV ρ vb b → P a b μ k →
  ∃ r, k r ∧ Ev M (compareOp op va vb) (Res M ρ h (.d (.bool r)) μ) h

section
variable {M : Mc} {ρ : Mp} {μ : Mem} {h : Heap}
theorem Ev.ofBool {t : Sem Value} {b : Bool} (S : St M.h₀ ρ μ h)
    (x : ∀ s : Shared, s.heap = h → ∀ Q' : Value → Shared → Prop, (∀ tk, Q' (.bool b) { s with toks := tk }) → wpAny (model M.prog M.w) M.A t Q' (fun _ _ => False) s) : Ev M t (Res M ρ h (.d (.bool b)) μ) h :=
  Ev.lift fun s hs _ Q' k => x s hs Q' fun tk => by subst hs; exact k _ s.heap tk (.same S (.bool b))

theorem ltI.ok : CmpOk .Lt ltI := fun _ S ia ib e => intP.two e ia ib fun _ _ _ _ e1 e2 q => ⟨_, q, e1 ▸ e2 ▸ Ev.ofBool S fun s _ Q' k => lt_int (k s.toks)⟩
theorem gtI.ok : CmpOk .Gt gtI := fun _ S ia ib e => intP.two e ia ib fun _ _ _ _ e1 e2 q => ⟨_, q, e1 ▸ e2 ▸ Ev.ofBool S fun s _ Q' k => gt_int (k s.toks)⟩
theorem geI.ok : CmpOk .GtE geI := fun _ S ia ib e => intP.two e ia ib fun _ _ _ _ e1 e2 q => ⟨_, q, e1 ▸ e2 ▸ Ev.ofBool S fun s _ Q' k => ge_int (k s.toks)⟩

theorem slot_tuple_lt_call {A : Around} {prog : Program} {w : World} {l m : Addr} {ρ : Frz} {vs ws : Array Value} {n k : Nat} {r : Bool} {s : Shared} {E : Value → Shared → Prop} {Q : Value → Shared → Prop} (hu : A.units < cLine)
    (hl : s.heap.get? l = some { cls := .type "tuple", data := .seq vs n }) (hm : s.heap.get? m = some { cls := .type "tuple", data := .seq ws k }) (T : TR ρ vs.size ws.size r (vs.toList.zip ws.toList))
    (h : Q (.bool r) s) : wpAny (model prog w) A (compareOp .Lt (.ref l) (.ref m)) Q E s :=
  richCompare_meets_room (op := .Lt) ⟨_, hl, rfl⟩ ⟨_, hm, rfl⟩ F.slot_tuple_lt F.entry_tuple_lt (F.args_tuple_lt_2 _ _) (tuple_lt l m vs ws n k r T)
    ⟨hl, hm, show Value.bool r ≠ Value.notImplemented ∧ Q (.bool r) s from ⟨(fun x => nomatch x), h⟩⟩ hu

theorem ltT.ok : CmpOk .Lt ltT := by
  intro M ρ μ h va vb a b k hu S ia ib e
  obtain ⟨x, rfl, q⟩ := e.inv
  obtain ⟨y, rfl, r, hr, q⟩ := q.inv
  obtain ⟨la, vs, n, rfl, ha, ra, za⟩ := is_tuple ia
  obtain ⟨lb, ws, m, rfl, hb, rb, zb⟩ := is_tuple ib
  exact ⟨r, q, Ev.ofBool S fun s hs Q' k => slot_tuple_lt_call (by omega) (hs ▸ S.fz _ _ ha) (hs ▸ S.fz _ _ hb) ⟨_, _, _, _, rfl, ra, rb, hr, by rw [Array.length_toList, Array.length_toList]⟩ (k s.toks)⟩

theorem niSet.ok : CmpOk .NotIn niSet := by
  intro M ρ μ h va vb a b k hu S ia ib e
  obtain ⟨i, rfl, q⟩ := e.inv
  obtain ⟨j, rfl, xs, hm, hlen, q⟩ := q.inv
  obtain ⟨t, rfl⟩ := is_int ia
  obtain ⟨l, hl, rfl⟩ := ib
  obtain ⟨p', w', hS⟩ := (S.ob j l _ hl hm).setIs
  exact ⟨_, q, Ev.ofBool S fun s hs Q' k => wpAny_notInSet_of (knd := intKind M.prog M.w) (k := i) (show Value.isInt i (.int i t) = true from beq_self_eq_true i) rfl (hs ▸ hS) (k _)⟩

theorem niStr.ok : CmpOk .NotIn niStr := by
  intro M ρ μ h va vb a b k hu S ia ib e
  obtain ⟨x, rfl, q⟩ := e.inv
  obtain ⟨y, rfl, q⟩ := q.inv
  obtain ⟨t, rfl⟩ := is_str ia; obtain ⟨u, rfl⟩ := is_str ib
  exact ⟨_, q, Ev.ofBool S fun s _ Q' k => PyProof.Rows.notIn_str (by rw [Bool.not_not]; exact k s.toks)⟩

theorem niL.ok : CmpOk .NotIn niL := by
  intro M ρ μ h va vb a b k hu S ia ib e
  obtain ⟨x, rfl, q⟩ := e.inv
  obtain ⟨ys, rfl, hc, hd, q⟩ := q.inv
  obtain ⟨as, ra⟩ := Is.reads S.fz ia
  obtain ⟨bs, rb⟩ := Is.reads S.fz ib
  have hc := okEq.inv hc
  refine ⟨_, q, Ev.ofBool S fun s hs Q' k => SeqAt.notIn_list_reads (hs ▸ rb) (hs ▸ ra) hc.1 hc.2.1 ?_ (k s.toks)⟩
  have := Nat.min_le_right (PyData.depthAll ys) x.depth
  omega

theorem min_le64 {a b c : Nat} (h : a ≤ 64) (hu : c + 65 < cLine) : c + min a b < cLine := by
  have := Nat.min_le_left a b; omega

theorem eqV.ok : CmpOk .Eq eqV := by
  intro M ρ μ h va vb a b k hu S ia ib e
  obtain ⟨x, ⟨as, ra⟩, q⟩ := valP.at e S ia
  obtain ⟨y, ⟨bs, rb⟩, hc, q⟩ := valP.at q S ib
  have hc := okEq.inv hc
  exact ⟨_, q, Ev.ofBool S fun s hs Q' k => SeqAt.compareEq_reads (hs ▸ ra) (hs ▸ rb) hc.1 hc.2.1 (min_le64 hc.2.2 hu) (k s.toks)⟩
theorem neV.ok : CmpOk .NotEq neV := by
  intro M ρ μ h va vb a b k hu S ia ib e
  obtain ⟨x, ⟨as, ra⟩, q⟩ := valP.at e S ia
  obtain ⟨y, ⟨bs, rb⟩, hc, q⟩ := valP.at q S ib
  have hc := okEq.inv hc
  exact ⟨_, q, Ev.ofBool S fun s hs Q' k => SeqAt.compareNe_reads (hs ▸ ra) (hs ▸ rb) hc.1 hc.2.1 (min_le64 hc.2.2 hu) (k s.toks)⟩

/-! ### truth -/
def trB (a : AV) (_ : Mem) (k : Bool → Prop) : Prop := boolP a k
def trS (a : AV) (_ : Mem) (k : Bool → Prop) : Prop := strP a fun s => s.length < 2 ^ 31 ∧ k (s.length != 0)
def trL (a : AV) (μ : Mem) (k : Bool → Prop) : Prop := mutP a μ fun _ xs => xs.length < 2 ^ 31 ∧ k (xs.length != 0)
def TruOk (P : AV → Mem → (Bool → Prop) → Prop) : Prop := ∀ {M : Mc} {ρ : Mp} {μ : Mem} {h : Heap} {v : Value} {a : AV} {k : Bool → Prop}, St M.h₀ ρ μ h → IsV ρ v a → P a μ k → Ev M (truthy v) (fun b h' => k b ∧ h' = h) h
theorem trB.ok : TruOk trB := by
  intro M ρ μ h v a k S i e
  obtain ⟨b, rfl, q⟩ := e.inv
  rw [is_bool i]; exact Ev.lift fun s hs _ Q' k => wpAny_truthy_bool (by subst hs; exact k _ s.heap s.toks ⟨q, rfl⟩)
theorem int_ne0 (n : Nat) : ((n : Int) != 0) = (n != 0) := by
  cases n with
  | zero => rfl
  | succ n => rfl
theorem trS.ok : TruOk trS := by
  intro M ρ μ h v a k S i e
  obtain ⟨x, rfl, hl, q⟩ := e.inv
  obtain ⟨t, rfl⟩ := is_str i
  refine Ev.lift fun s hs _ Q' k => P.truthy_str (by omega) ?_
  subst hs
  exact k _ s.heap _ ⟨by rw [int_ne0]; exact q, rfl⟩
theorem trL.ok : TruOk trL := by
  intro M ρ μ h v a k S i e
  obtain ⟨j, rfl, xs, hm, hz, q⟩ := e.inv
  obtain ⟨l, vs, n, rfl, _, ho, _, hs⟩ := S.lst i hm
  refine Ev.lift fun s hs' _ Q' k => wpAny_truthy_list (items := vs) (hs' ▸ ⟨_, ho, rfl, n, rfl⟩) (by omega) ?_
  subst hs'
  refine k _ s.heap _ ⟨?_, rfl⟩
  rw [← hs] at q
  exact q
end
end Mine
end
section
namespace Mine

def idxOf (i : Int) (n : Nat) : Option Nat :=
  if n < 2 ^ 31 then (if 0 ≤ i then (if i < n then some i.toNat else none) else (if -(n : Int) ≤ i then some (i + n).toNat else none)) else none
def pickL {α : Type} (xs : List α) (lo hi st : Option Int) : List α :=
  (sliceRange (sliceBounds lo hi st xs.length).1 (sliceBounds lo hi st xs.length).2.1 (sliceBounds lo hi st xs.length).2.2).filterMap (xs[·]?)
def cutS (x : Str) (lo hi : Option Int) : Str := ⟨((Builtin.Str.strSliceIndices lo hi 1 x.length).filterMap (x.cps[·]?)).toArray⟩

section
variable {M : Mc} {ρ : Mp} {μ : Mem} {h : Heap}

theorem subscripted_ops (slice : Expr) (o i : Value) : ∃ ops, subscripted slice false o i = operate ops (getItem o i) := by
  cases slice with
  | Slice lo hi st p => cases st <;> exact ⟨_, rfl⟩
  | _ => exact ⟨_, rfl⟩

theorem evTail {value slice : Expr} {o i : Value} {T id : String} {Q : Value → Heap → Prop} (hT : ∀ s : Shared, s.heap = h → s.TypeIs o T) (hl : typeLookup (.type T) "__getitem__" = pure (some (.builtin id)))
    (x : Ev M (getItem o i) Q h) : Ev M (subscriptTail value slice o i) Q h := by
  obtain ⟨ops, e⟩ := subscripted_ops slice o i
  exact fun s hs ht => tail_any (hT s hs) hl (x s hs ht) e

theorem Ev.Subscript {value slice : Expr} {pos : Pos} {env : Env} {Q : Value → Heap → Prop} (x : Ev M (eval value env) (fun o h₁ => Ev M (eval slice env) (fun i h₂ => Ev M (subscriptTail value slice o i) Q h₂) h₁) h) :
    Ev M (eval (.Subscript value slice pos) env) Q h := by
  rw [eval_Subscript]
  exact Ev.bind (x.mono fun o h₁ x₁ => Ev.bind (Ev.holding (x₁.mono fun i h₂ x₂ => Ev.bind (Ev.standAt x₂))))

theorem idx_facts {k : Int} {n j : Nat} (e : idxOf k n = some j) : seqIndex? k n = some j ∧ Builtin.List.listFitsIndex k = true ∧ j < n := by
  unfold idxOf at e
  split at e
  · next hc =>
    split at e
    · next h0 =>
      split at e
      · next hn => cases e; exact ⟨seqIndex_of h0 hn, fitsIndex_of h0 (by omega), by omega⟩
      · cases e
    · next h0 =>
      split at e
      · next hn => cases e; exact ⟨seqIndex_neg (by omega) hn, fitsIndex_neg (by omega) (by omega), by omega⟩
      · cases e
  · cases e


theorem idx_nat {k : Int} {n j : Nat} (e : idxOf k n = some j) : (0 ≤ k ∧ k < 2 ^ 63 ∧ k.toNat = j) ∨ (k < 0 ∧ -(n : Int) ≤ k ∧ j = (k + n).toNat ∧ n < 2 ^ 31) := by
  unfold idxOf at e
  split at e
  · split at e
    · split at e
      · cases e; exact .inl ⟨by assumption, by omega, rfl⟩
      · cases e
    · split at e
      · cases e; exact .inr ⟨by omega, by assumption, rfl, by assumption⟩
      · cases e
  · cases e

theorem Ev.getIdx {v : Value} {xs : List PyData} {k : Int} {t : Tok} {x : PyData} {j : Nat} (S : St M.h₀ ρ μ h) (L : ListAt ρ h v xs)
    (e1 : idxOf k xs.length = some j) (e2 : xs[j]? = some x) : Ev M (getItem v (.int k t)) (Res M ρ h (.d x) μ) h := by
  obtain ⟨l, vs, n, rfl, hl, r, hz⟩ := L
  obtain ⟨v, hv, iv⟩ := r.get e2
  refine Ev.lift fun s hs _ Q' kk => ?_
  subst hs
  have hL : s.heap.IsList l vs := ⟨_, hl, rfl, n, rfl⟩
  have fin := kk v s.heap s.toks (.same S iv)
  rw [Array.getElem?_toList] at hv
  rcases idx_nat e1 with ⟨h0, h1, rfl⟩ | ⟨h0, h1, rfl, h2⟩
  · exact wpAny_getItem_list hL h0 h1 hv fin
  · rw [← hz] at h1 h2 hv
    exact wpAny_getItem_list_neg hL (by omega) h1 (by omega) hv fin

theorem All2.pick {P : Value → PyData → Prop} {vs : List Value} {xs : List PyData} (r : All2 P vs xs) (is : List Nat) : All2 P (is.filterMap (vs[·]?)) (is.filterMap (xs[·]?)) := by
  induction is with
  | nil => exact .nil
  | cons i is ih =>
    rw [List.filterMap_cons, List.filterMap_cons]
    cases hx : xs[i]? with
    | none =>
      rw [List.getElem?_eq_none (by rw [r.length]; exact List.getElem?_eq_none_iff.mp hx)]; exact ih
    | some d =>
      obtain ⟨v, hv, iv⟩ := r.get hx
      rw [hv]; exact .cons iv ih

theorem Ev.getSlice {v : Value} {sl : Addr} {xs : List PyData} {vl vu vt : Value} {lo hi st : Option Int} (S : St M.h₀ ρ μ h) (L : ListAt ρ h v xs)
    (hs : h.IsSliceOf sl vl vu vt) (pl : IsPart vl lo) (pu : IsPart vu hi) (pt : IsPart vt st) (h0 : st ≠ some 0) (hz : xs.length ≤ sizeLine) :
    Ev M (getItem v (.ref sl)) (Res M ρ h (.d (.list (pickL xs lo hi st))) μ) h := by
  obtain ⟨l, vs, n, rfl, hl, r, hz'⟩ := L
  refine Ev.lift fun s hs' _ Q' kk => ?_
  subst hs'
  refine wpAny_getItem_list_slice (items := vs) ⟨_, hl, rfl, n, rfl⟩ hs pl pu pt h0 (kk _ _ s.toks (Res.new S (fresh_at (Nat.le_refl _)) (get_push_new _ _) (kept _ _) fun ρ' m e => .list e ?_)) (by rw [hz']; exact hz)
  unfold slicePick pickL
  rw [hz']
  have := (r.mono m).pick (sliceRange (sliceBounds lo hi st xs.length).1 (sliceBounds lo hi st xs.length).2.1 (sliceBounds lo hi st xs.length).2.2)
  simpa using this

theorem part_shape {v : Value} {k : Option Int} (p : IsPart v k) : ∃ q : Option (Int × Tok), v = partValue q ∧ q.map (·.1) = k := by
  cases p with
  | none => exact ⟨none, rfl, rfl⟩
  | int i t => exact ⟨some (i, t), rfl, rfl⟩

theorem sliceIdx_eq (lo hi : Option Int) (n : Nat) : Builtin.Str.strSliceIndices lo hi 1 n = (List.range (hi.elim n (clipAt n) - lo.elim 0 (clipAt n))).map (lo.elim 0 (clipAt n) + ·) := by
  have : Builtin.Str.strSliceIndices lo hi 1 n = sliceRange (sliceBounds lo hi none n).1 (sliceBounds lo hi none n).2.1 (sliceBounds lo hi none n).2.2 := rfl
  rw [this, sliceBounds_plain]
  exact sliceRange_one _ _
theorem cutS_eq (x : Str) (lo hi : Option Int) :
    cutS x lo hi = ⟨((x.cps.toList.drop (lo.elim 0 (clipAt x.length))).take (hi.elim x.length (clipAt x.length) - lo.elim 0 (clipAt x.length))).toArray⟩ := by
  unfold cutS
  rw [sliceIdx_eq, pick_run]
theorem clipAt_le (n : Nat) (i : Int) : clipAt n i ≤ n := by
  have := clipAt_cast n i
  omega

theorem cut_all {α : Type} {l : List α} {a b : Nat} (hb : b ≤ l.length) (h : b - a = l.length) : (l.drop a).take (b - a) = l := by
  rw [h]
  rcases Nat.eq_zero_or_pos a with rfl | ha
  · exact List.take_of_length_le (Nat.le_refl _)
  · have : l = [] := List.eq_nil_of_length_eq_zero (by omega)
    subst this; rw [List.drop_nil, List.take_nil]
theorem hi_le (x : Str) (hi : Option Int) : hi.elim x.length (clipAt x.length) ≤ x.cps.toList.length := by
  cases hi with
  | none => exact Nat.le_refl _
  | some q => exact clipAt_le _ _
theorem cutS_all {x : Str} {lo hi : Option Int} (h : (Builtin.Str.strSliceIndices lo hi 1 x.length).length = x.length) : cutS x lo hi = x := by
  rw [sliceIdx_eq, List.length_map, List.length_range] at h
  rw [cutS_eq, cut_all (hi_le x hi) h]
theorem cutS_len (x : Str) (lo hi : Option Int) : (cutS x lo hi).length ≤ x.length := by
  rw [cutS_eq]
  show (List.toArray _).size ≤ x.cps.toList.length
  rw [List.size_toArray, List.length_take, List.length_drop]
  exact Nat.le_trans (Nat.min_le_right _ _) (Nat.sub_le _ _)

theorem Ev.getSliceS {sl : Addr} {x : Str} {t : Tok} {vl vu : Value} {lo hi : Option Int} (S : St M.h₀ ρ μ h) (hs : h.IsSliceOf sl vl vu .none) (pl : IsPart vl lo) (pu : IsPart vu hi) (hz : x.length ≤ sizeLine) :
    Ev M (getItem (.str x t) (.ref sl)) (Res M ρ h (.d (.str (cutS x lo hi))) μ) h := by
  obtain ⟨ql, rfl, rfl⟩ := part_shape pl
  obtain ⟨qu, rfl, rfl⟩ := part_shape pu
  refine Ev.lift fun s hs' _ Q' kk => ?_
  subst hs'
  refine wpAny_getItem_str_slice (l := ql) (u := qu) (st := none) hs rfl ?_
  unfold sliceMade
  split
  · next hc =>
    rw [Bool.and_eq_true, beq_iff_eq, beq_iff_eq] at hc
    have := kk (.str x t) s.heap s.toks
    rw [cutS_all hc.2] at this
    exact this (.same S (.str x t))
  · exact ⟨Nat.le_trans (cutS_len _ _ _) hz, kk _ s.heap _ (.same S (.str _ _))⟩
end
end Mine
end
section
namespace Mine

/-! ### roads: what must hold ahead so that an end holds behind -/
/-- the names' values, by their numbers -/
abbrev Lo := List (Option AV)
abbrev WE := Cx → Lo → Mem → KE → Prop
abbrev WT := Cx → Lo → Mem → (Bool → Mem → Prop) → Prop

def sto : List Str → Lo → Sto
  | x :: ns, a :: σ, y => if y = x then a else sto ns σ y
  | _, _, _ => none

def CallSound (prog : Program) (w : World) (h₀ : Heap) (K : Nat) (fa : Addr) (F : List AV → Mem → KE → Prop) : Prop :=
  ∀ M : Mc, M.prog = prog → M.w = w → M.h₀ = h₀ → OkA K M.A → ∀ as vs ρ μ h k, F as μ k → St h₀ ρ μ h → IsVs ρ vs as → Ev M (call (.ref fa) vs) (PE M ρ h k) h

structure Gl (prog : Program) (w : World) (h₀ : Heap) (c : Cx) (K : Nat) (mg mb : Str → Option Value) : Prop where
  g : h₀.Ns mainGlobals mg
  b : h₀.Ns builtinsNs mb
  lim : h₀.NoLimit
  fns : ∀ f F, c.fns f = some F → ∃ fa o fd, mg f = some (.ref fa) ∧ h₀.get? fa = some o ∧ o.data = .func fd ∧ CallSound prog w h₀ K fa F
  cst : ∀ x d, c.cst x = some d → ∃ v, mg x = some v ∧ ∀ ρ, Is ρ v d
  len : mg "len" = none ∧ mb "len" = some (.builtin "len")
  sum : mg "sum" = none ∧ mb "sum" = some (.builtin "sum")
  sorted : mg "sorted" = none ∧ mb "sorted" = some (.builtin "sorted")
  set : mg "set" = none ∧ mb "set" = some (.type "set")
  range : mg "range" = none ∧ mb "range" = some (.type "range")
  bmod : ∃ bm ob, mg "__builtins__" = some (.ref bm) ∧ h₀.get? bm = some ob ∧ ob.cls = .type "module" ∧ ob.dict = some builtinsNs ∧ ob.data = .plain

/-- a place in a block of code -/
structure Wk (ns : List Str) (sc : Scope) (M : Mc) : Prop where
  hA : OkA M.K M.A
  G : Gl M.prog M.w M.h₀ M.c M.K M.mg M.mb
  C : M.c.lam = true → OkA 16 M.A ∧ CodeHd M.h₀ lamCode lamTab
  sc : M.env.scope = sc
  nd : ns.Nodup
  db : ∀ x ∈ ns, (x == ("__debug__" : Str)) = false
theorem Wk.hh {ns sc M} (X : Wk ns sc M) : M.A.handled = none := X.hA.1
theorem Wk.units {ns sc M} (X : Wk ns sc M) : M.A.units + 65 < cLine := by have := X.hA.2.2; omega

structure SndE (ns : List Str) (sc : Scope) (e : Expr) (W : WE) : Prop where
  st : ∀ es env, starEach (e :: es) env = (false, eval e env) :: starEach es env
  go : ∀ {M : Mc} {ρ : Mp} {σ : Lo} {μ : Mem} {h : Heap} {k : KE}, Wk ns sc M → St M.h₀ ρ μ h → FrS ρ M.env (sto ns σ) h → W M.c σ μ k → Ev M (eval e M.env) (PE M ρ h k) h
abbrev SndL (ns : List Str) (sc : Scope) := All2 (SndE ns sc)

def wArgs : List WE → Cx → Lo → Mem → (List AV → Mem → Prop) → Prop
  | [], _, _, μ, k => k [] μ
  | W :: Ws, c, σ, μ, k => W c σ μ fun a μ => wArgs Ws c σ μ fun as μ => k (a :: as) μ

section
variable {M : Mc} {ρ : Mp} {μ : Mem} {h : Heap} {ns : List Str} {sc : Scope} {σ : Lo} {env : Env}

def trees (args : List Expr) (env : Env) : List (Bool × Sem Value) := args.map fun e => (false, eval e env)

theorem SndL.star {es Ws} (H : SndL ns sc es Ws) (env : Env) : starEach es env = trees es env := by
  induction H with
  | nil => rfl
  | cons a _ ih => rw [a.st, ih]; rfl
theorem backTo_trees (pos : Pos) (args : List Expr) (env : Env) : backTo pos (trees args env) = trees args env := by
  unfold backTo trees
  rw [List.map_map]
  rfl
theorem trees_plain (args : List Expr) (env : Env) : (trees args env).any (·.1) = false := by
  unfold trees
  rw [List.any_map]
  exact List.any_eq_false.mpr fun _ _ e => by cases e
theorem trees_all (args : List Expr) (env : Env) : (trees args env).all (fun x => !x.1) = true := by
  unfold trees
  rw [List.all_map]
  exact List.all_eq_true.mpr fun _ _ => rfl

theorem Ev.spliced {es : List Expr} {Ws : List WE} (H : SndL ns sc es Ws) (X : Wk ns sc M) : ∀ {ρ : Mp} {μ : Mem} {h : Heap} {k : List AV → Mem → Prop} {Q : List Value → Heap → Prop}, St M.h₀ ρ μ h → FrS ρ M.env (sto ns σ) h → wArgs Ws M.c σ μ k →
    (∀ vs h' as ρ' μ', Grow [] ρ h ρ' h' → St M.h₀ ρ' μ' h' → IsVs ρ' vs as → vs.length = es.length → k as μ' → Q vs h') → Ev M (spliced (trees es M.env)) Q h := by
  induction H with
  | nil => exact fun S F w q s hs ht => Calls.spliced_nil ⟨rfl, rfl, hs ▸ q _ _ _ _ _ .refl S .nil rfl w⟩
  | cons a _ ih =>
    intro ρ μ h k Q S F w q s hs ht
    have step := (a.go X S F w).useE (Q := fun v h₁ => Ev M (PySem.spliced (trees _ M.env)) (fun vs h₂ => Q (v :: vs) h₂) h₁) fun v h₁ b ρ1 μ1 g1 S1 i1 w1 =>
      ih S1 (F.grow0 g1) w1 fun vs h₂ as ρ2 μ2 g2 S2 i2 l2 k2 => q _ _ _ _ _ (g1.trans g2) S2 (.cons (i1.grow g2) i2) (congrArg Nat.succ l2) k2
    refine Calls.spliced_cons (wpAny_mono (wpAny_toks_of ht (step s hs ht)) (fun v s₁ q => ?_) fun _ _ e => e.2)
    exact wpAny_mono (q.2.2.2 s₁ rfl q.1) (fun vs s₂ q' => ⟨q'.1.trans q.2.1, q'.2.1.trans q.2.2.1, q'.2.2⟩) fun _ _ e => e

/-- a call's arguments, then the call -/
theorem Ev.argsOf {f : Value} {args : List Expr} {Q : Args → Heap → Prop} (x : Ev M (PySem.spliced (trees args env)) (fun vs h' => Q ⟨vs, []⟩ h') h) : Ev M (evalArgs f true (trees args env) []) Q h := by
  intro s hs ht
  cases args with
  | nil =>
    show wpAny _ _ (evalArgs f true [] []) _ _ s
    unfold evalArgs
    show wpAny _ _ (PySem.spliced [] >>= _) _ _ s
    refine wpAny_bind (wpAny_mono (x s hs ht) (fun vs s' h' => ?_) fun _ _ x => x)
    refine wpAny_bind (wpAny_pure ?_)
    refine wpAny_holding ?_
    exact wpAny_bind (wpAny_pure (wpAny_bind (wpAny_pure (wpAny_pure h'))))
  | cons e es => exact Calls.evalArgs_plain (x s hs ht)

theorem Ev.callWith {pos : Pos} {f : Value} {first : List Value} {args : List Expr} {Q : Value → Heap → Prop} (hk : keeperOf f = Pure.pure .machine)
    (x : Ev M (PySem.spliced (trees args env)) (fun vs h' => Ev M (call f (first ++ vs)) Q h') h) : Ev M (PySem.callWith pos f first (trees args env) []) Q h := by
  unfold PySem.callWith
  refine Ev.bind (Ev.holding (Ev.argsOf (x.mono fun vs h' y => ?_)))
  refine Ev.bind (Ev.standAt ?_)
  rw [trees_plain, hk]
  refine Ev.bind (Ev.pure ?_)
  exact Ev.bind (y.mono fun r h₂ hr => Ev.bind (Ev.holding (Ev.point (Ev.pure hr))))

theorem callWithF {pos : Pos} {a : Addr} {o : Obj} {fd : FuncData} {args : List Expr} {Q : Value → Heap → Prop}
    (x : Ev M (PySem.spliced (trees args env)) (fun vs h' => (h'.get? a = some o ∧ o.data = .func fd) ∧ Ev M (call (.ref a) vs) Q h') h) : Ev M (PySem.callWith pos (.ref a) [] (trees args env) []) Q h := by
  intro s hs ht
  have y := Ev.argsOf (f := .ref a) (Q := fun X h' => (h'.get? a = some o ∧ o.data = .func fd) ∧ X.kw = [] ∧ Ev M (call (.ref a) X.pos) Q h') (x.mono fun vs h' z => ⟨z.1, rfl, z.2⟩)
  refine Calls.callWith_function (o := o) (fd := fd) (wpAny_mono (wpAny_toks_of ht (y s hs ht)) (fun X s₁ q => ?_) fun _ _ e => e.2)
  refine ⟨q.2.2.2.1, ?_⟩
  rw [q.2.2.2.2.1]
  exact wpAny_mono (q.2.2.2.2.2 s₁ rfl q.1) (fun v s₂ q' => ⟨q'.1.trans q.2.1, q'.2.1.trans q.2.2.1, q'.2.2⟩) fun _ _ e => e

structure OnType (id : String) (name : Str) (v : Value) (h : Heap) (T : String) : Prop where
  pa : PlainAttrs T
  sl : Slot T name id
  ty : typeOf (.builtin id) = Pure.pure (.type "method_descriptor")
  is : ∀ s : Shared, s.heap = h → s.TypeIs v T
  nd : ∀ a, v = .ref a → ∃ ob, h.get? a = some ob ∧ ob.dict = none

theorem evMethod {o : Expr} {name : Str} {apos pos : Pos} {args : List Expr} {Ws : List WE} {Q : Value → Heap → Prop} (hn : attributeBase o name M.env (eval o M.env) = eval o M.env) (hp : apos.endLine = pos.line) (hlen : args.length < 29) (H : SndL ns sc args Ws)
    (x : Ev M (eval o M.env) (fun ov h₁ => ∃ id T, OnType id name ov h₁ T ∧ Ev M (PySem.spliced (trees args M.env)) (fun vs h' => Ev M (call (.builtin id) (ov :: vs)) Q h') h₁) h) :
    Ev M (eval (.Call (.Attribute o name apos) args [] pos) M.env) Q h := by
  intro s hs ht
  refine wpAny_Call_method_lateS hn ?_ (beq_iff_eq.mpr hp) (wpAny_mono (wpAny_toks_of ht (x s hs ht)) (fun ov s₁ q => ?_) fun _ _ e => e.2)
  · rw [H.star, backTo_trees, trees_all]
    show (true && decide (args.length + 0 < 30)) = true
    rw [decide_eq_true (by omega)]; rfl
  · obtain ⟨q1, q2, q3, id, T, o, q6⟩ := q
    refine ⟨T, id, o.pa, o.sl, o.ty, o.is s₁ rfl, o.nd, ?_⟩
    rw [H.star, backTo_trees]
    exact wpAny_mono (Ev.callWith (first := [ov]) rfl q6 s₁ rfl q1) (fun v s₂ q' => ⟨q'.1.trans q2, q'.2.1.trans q3, q'.2.2⟩) fun _ _ e => e

theorem on_str {name : Str} {id : String} {v : Value} {x : Str} (i : IsV ρ v (.d (.str x))) (slot : Slot "str" name id) (ty : typeOf (.builtin id) = Pure.pure (.type "method_descriptor")) : OnType id name v h "str" := by
  obtain ⟨t, rfl⟩ := is_str i
  exact ⟨F.plainAttrs_str, slot, ty, fun s _ => typeIs_str s x t, fun _ e => nomatch e⟩
theorem on_list {name : Str} {id : String} {v : Value} {k : Nat} {xs : List PyData} (S : St M.h₀ ρ μ h) (i : IsV ρ v (.h k)) (hm : μ[k]? = some (.lst xs)) (slot : Slot "list" name id) (ty : typeOf (.builtin id) = Pure.pure (.type "method_descriptor")) : OnType id name v h "list" := by
  obtain ⟨l, vs, n, rfl, _, hl, _⟩ := S.lst i hm
  exact ⟨F.plainAttrs_list, slot, ty, fun s hs => ⟨_, hs ▸ hl, rfl⟩, fun a e => by cases e; exact ⟨_, hl, rfl⟩⟩
theorem on_set {name : Str} {id : String} {v : Value} {k : Nat} {xs : List Int} (S : St M.h₀ ρ μ h) (i : IsV ρ v (.h k)) (hm : μ[k]? = some (.set xs)) (slot : Slot "set" name id) (ty : typeOf (.builtin id) = Pure.pure (.type "method_descriptor")) : OnType id name v h "set" := by
  obtain ⟨l, hl, rfl⟩ := i
  obtain ⟨p', w', hS⟩ := (S.ob k l _ hl hm).setIs
  exact ⟨F.plainAttrs_set, slot, ty, fun s hs => Heap.SetOf.typeIs (s := s) (hs ▸ hS), fun a e => by
    cases e
    exact Heap.SetOf.noDict (s := { heap := h }) hS l rfl⟩
end
end Mine
end
section
namespace Mine

theorem All2.inv1 {α β : Type} {P : α → β → Prop} {vs b} (h : All2 P vs [b]) : ∃ v, vs = [v] ∧ P v b := by
  cases h with
  | cons a r => cases r; exact ⟨_, rfl, a⟩
theorem All2.uncons {α β : Type} {P : α → β → Prop} {vs b bs} (h : All2 P vs (b :: bs)) : ∃ v ws, vs = v :: ws ∧ P v b ∧ All2 P ws bs := by
  cases h with
  | cons a r => exact ⟨_, _, rfl, a, r⟩
theorem All2.inv3 {α β : Type} {P : α → β → Prop} {vs b c d} (h : All2 P vs [b, c, d]) : ∃ v u w, vs = [v, u, w] ∧ P v b ∧ P u c ∧ P w d := by
  obtain ⟨v, _, rfl, h1, h⟩ := h.uncons
  obtain ⟨u, _, rfl, h2, h⟩ := h.uncons
  obtain ⟨w, rfl, h3⟩ := h.inv1
  exact ⟨_, _, _, rfl, h1, h2, h3⟩
def oneP (as : List AV) (k : AV → Prop) : Prop := match as with
  | [a] => k a
  | _ => False
theorem oneP.inv {as k} (x : oneP as k) : ∃ a, as = [a] ∧ k a := by
  rcases as with _ | ⟨a, _ | _⟩
  · exact x.elim
  · exact ⟨a, rfl, x⟩
  · exact x.elim
def noneP (as : List AV) (k : Prop) : Prop := match as with
  | [] => k
  | _ => False

def kStr (a : AV) (_ : Mem) : Prop := strP a fun _ => True
def kLst (a : AV) (μ : Mem) : Prop := mutP a μ fun _ _ => True
def kSet (a : AV) (μ : Mem) : Prop := setP a μ fun _ _ => True

structure MethOk (id : String) (name : Str) (K : AV → Mem → Prop) (P : AV → List AV → Mem → KE → Prop) : Prop where
  on : ∀ {M : Mc} {ρ : Mp} {μ : Mem} {h : Heap} {v : Value} {a : AV}, St M.h₀ ρ μ h → IsV ρ v a → K a μ → ∃ T, OnType id name v h T
  ok : ∀ {M : Mc} {ρ : Mp} {μ : Mem} {h : Heap} {v : Value} {a : AV} {vs : List Value} {as : List AV} {k : KE}, St M.h₀ ρ μ h → IsV ρ v a → IsVs ρ vs as → P a as μ k → Ev M (call (.builtin id) (v :: vs)) (PE M ρ h k) h

def pAppend (a : AV) (as : List AV) (μ : Mem) (k : KE) : Prop := mutP a μ fun j xs => oneP as fun b => datP b fun x => xs.length < sizeLine ∧ k (.d .none) (μ.set j (.lst (xs ++ [x])))
def pExtend (a : AV) (as : List AV) (μ : Mem) (k : KE) : Prop := mutP a μ fun j xs => oneP as fun b => lstD b fun ys => xs.length + ys.length < sizeLine ∧ k (.d .none) (μ.set j (.lst (xs ++ ys)))
def pPop (a : AV) (as : List AV) (μ : Mem) (k : KE) : Prop := mutP a μ fun j xs => noneP as (∃ x, xs.getLast? = some x ∧ xs.length < sizeLine ∧ k (.d x) (μ.set j (.lst xs.dropLast)))
def insI (xs : List Int) (i : Int) : List Int := if xs.contains i then xs else xs ++ [i]
def pAdd (a : AV) (as : List AV) (μ : Mem) (k : KE) : Prop := setP a μ fun j xs => oneP as fun b => intP b fun i => xs.length < 4000 ∧ k (.d .none) (μ.set j (.set (insI xs i)))
def pStarts (a : AV) (as : List AV) (μ : Mem) (k : KE) : Prop := strP a fun x => oneP as fun b => strP b fun y => k (.d (.bool (Txt.startswith x y))) μ
def pEnds (a : AV) (as : List AV) (μ : Mem) (k : KE) : Prop := strP a fun x => oneP as fun b => strP b fun y => k (.d (.bool (Txt.endswith x y))) μ
def find4 (x y : Str) (i j : Int) : Int :=
  match Builtin.Str.occurrences x y (fromIndex x.length i) (min (fromIndex x.length j) x.length) 1 with
  | k :: _ => (k : Int)
  | [] => -1
def threeP (as : List AV) (k : AV → AV → AV → Prop) : Prop := match as with
  | [a, b, c] => k a b c
  | _ => False
theorem threeP.inv {as k} (x : threeP as k) : ∃ a b c, as = [a, b, c] ∧ k a b c := by
  rcases as with _ | ⟨a, _ | ⟨b, _ | ⟨c, _ | _⟩⟩⟩
  · exact x.elim
  · exact x.elim
  · exact x.elim
  · exact ⟨a, b, c, rfl, x⟩
  · exact x.elim
def pFind (a : AV) (as : List AV) (μ : Mem) (k : KE) : Prop := strP a fun x => threeP as fun b c d => strP b fun y => intP c fun i => intP d fun j => k (.d (.int (find4 x y i j))) μ
def pJoin (a : AV) (as : List AV) (μ : Mem) (k : KE) : Prop := strP a fun x => oneP as fun b => lstD b fun ys => ∃ ss : List Str, ys = ss.map .str ∧ JoinOk x ss ∧ k (.d (.str (Txt.join x ss))) μ

theorem strs_values {ρ : Frz} {vs : List Value} {ss : List Str} (h : IsAll ρ vs (ss.map .str)) : ∃ l : List (Str × Tok), vs = strValues l ∧ l.map (·.1) = ss := by
  induction ss generalizing vs with
  | nil => cases h; exact ⟨[], rfl, rfl⟩
  | cons s ss ih =>
    cases h with
    | cons i r =>
      obtain ⟨t, rfl⟩ := is_str i
      obtain ⟨l, rfl, rfl⟩ := ih r
      exact ⟨(s, t) :: l, rfl, rfl⟩
theorem strs_is {ρ : Frz} (l : List (Str × Tok)) : IsAll ρ (strValues l) ((l.map (·.1)).map .str) := by
  induction l with
  | nil => exact .nil
  | cons p l ih => exact .cons (.str p.1 p.2) ih

section
variable {M : Mc} {ρ : Mp} {μ : Mem} {h : Heap}
theorem upd_other {h : Heap} {l : Addr} {f : Obj → Obj} (b o) (hb : b ≠ l) (e : h.get? b = some o) : (h.update l f).get? b = some o := (Heap.get?_update_other h f (Ne.symm hb)).trans e

/-- a handle's list, turned -/
theorem Res.turn {k : Nat} {l : Addr} {vs : Array Value} {n : Nat} {xs ys : List PyData} {f : Array Value → Array Value} {v : Value} {d : PyData} (S : St M.h₀ ρ μ h) (hk : ρ.l[k]? = some l) (hm : μ[k]? = some (.lst xs))
    (ho : h.get? l = some { cls := .type "list", data := .seq vs n }) (r : IsAll ρ.f (f vs).toList ys) (i : Is ρ.f v d) :
    Res M ρ h (.d d) (μ.set k (.lst ys)) v (h.update l (Obj.mapSeq f)) := by
  have ho' := IsL.update (h := h) (l := l) (items := vs) (n := n) ho f
  obtain ⟨s', g⟩ := S.turn (m := .lst ys) (h' := h.update l (Obj.mapSeq f)) hk hm (fun e => by cases e) (.lst _ _ ho' r) upd_other
  exact ⟨ρ, g [], s', i⟩

theorem kStr.inv {a} (x : kStr a μ) : ∃ s, a = .d (.str s) := by
  obtain ⟨s, rfl, _⟩ := strP.inv x
  exact ⟨s, rfl⟩
theorem kLst.inv {a} (x : kLst a μ) : ∃ j xs, a = .h j ∧ μ[j]? = some (.lst xs) := by
  obtain ⟨j, rfl, xs, hm, _⟩ := hndP.inv x
  exact ⟨j, xs, rfl, hm⟩
theorem kSet.inv {a} (x : kSet a μ) : ∃ j xs, a = .h j ∧ μ[j]? = some (.set xs) := by
  obtain ⟨j, rfl, xs, hm, _⟩ := hndP.inv x
  exact ⟨j, xs, rfl, hm⟩
theorem kStr.on {id : String} {name : Str} (slot : Slot "str" name id) (ty : typeOf (.builtin id) = pure (.type "method_descriptor")) {v : Value} {a : AV} (_ : St M.h₀ ρ μ h) (i : IsV ρ v a) (x : kStr a μ) : ∃ T, OnType id name v h T := by
  obtain ⟨s, rfl⟩ := x.inv
  exact ⟨_, on_str i slot ty⟩
theorem kLst.on {id : String} {name : Str} (slot : Slot "list" name id) (ty : typeOf (.builtin id) = pure (.type "method_descriptor")) {v : Value} {a : AV} (S : St M.h₀ ρ μ h) (i : IsV ρ v a) (x : kLst a μ) : ∃ T, OnType id name v h T := by
  obtain ⟨j, xs, rfl, hm⟩ := x.inv
  exact ⟨_, on_list S i hm slot ty⟩

theorem meth_append : MethOk "list.append" "append" kLst pAppend := by
  refine ⟨kLst.on F.slot_list_append F.type_list_append, ?_⟩
  intro M ρ μ h v a vs as k S i is e
  obtain ⟨j, rfl, xs, hm, e1⟩ := e.inv
  obtain ⟨b, rfl, e2⟩ := e1.inv
  obtain ⟨x, rfl, hz, q⟩ := e2.inv
  obtain ⟨l, ws, n, rfl, hl, ho, r, hs⟩ := S.lst i hm
  obtain ⟨_, rfl, i1⟩ := is.inv1
  refine Ev.lift fun s hs' _ Q' kk => ?_
  subst hs'
  exact call_meets F.slot_list_append ⟨_, ho, rfl⟩ F.entry_list_append (F.args_list_append_2 _ _) (list_append l ws n _ (by rw [hs]; exact Nat.le_of_lt hz)) ⟨ho, kk _ _ _ ((Res.turn S hl hm ho (by rw [Array.toList_push]; exact r.append (.one i1)) .none).pe q)⟩
theorem meth_extend : MethOk "list.extend" "extend" kLst pExtend := by
  refine ⟨kLst.on F.slot_list_extend F.type_list_extend, ?_⟩
  intro M ρ μ h v a vs as k S i is e
  obtain ⟨j, rfl, xs, hm, e1⟩ := e.inv
  obtain ⟨b, rfl, e2⟩ := e1.inv
  obtain ⟨x, rfl, hz, q⟩ := e2.inv
  obtain ⟨l, ws, n, rfl, hl, ho, r, hs⟩ := S.lst i hm
  obtain ⟨_, rfl, i1⟩ := is.inv1
  obtain ⟨b, us, n2, rfl, hb, rb, hsz2⟩ := is_list i1
  refine Ev.lift fun s hs' _ Q' kk => ?_
  subst hs'
  refine call_meets F.slot_list_extend ⟨_, ho, rfl⟩ F.entry_list_extend (F.args_list_extend_2 _ _) (AutoSeq1.list_extend_list_list_0 l ws n b us n2 ?_ (by omega) (by omega)) ⟨ho, S.fz _ _ hb, kk _ _ _ ((Res.turn S hl hm ho (by rw [Array.toList_append]; exact r.append rb) .none).pe q)⟩
  rw [Bool.and_eq_true]
  intro hh
  have := hh.2
  unfold Builtin.List.listTooLong at this
  have hh := of_decide_eq_true this
  have : sizeLine = 2 ^ 24 := rfl
  omega
theorem meth_pop : MethOk "list.pop" "pop" kLst pPop := by
  refine ⟨kLst.on F.slot_list_pop F.type_list_pop, ?_⟩
  intro M ρ μ h v a vs as k S i is e
  obtain ⟨j, rfl, xs, hm, e1⟩ := e.inv
  cases is with
  | cons _ _ => exact e1.elim
  | nil =>
    obtain ⟨x, hy, hz, q⟩ := e1
    obtain ⟨l, ws, n, rfl, hl, ho, r, hs⟩ := S.lst i hm
    rw [List.getLast?_eq_getElem?] at hy
    obtain ⟨yv, hyv, iy⟩ := r.get hy
    refine Ev.lift fun s hs' _ Q' kk => ?_
    subst hs'
    refine call_meets F.slot_list_pop ⟨_, ho, rfl⟩ F.entry_list_pop (F.args_list_pop_1 _) (MeetsSeq.list_pop_last l ws n yv (by rw [hs, ← Array.getElem?_toList]; exact hyv) (by rw [hs]; exact Nat.le_of_lt hz)) ⟨ho, kk _ _ _ ((Res.turn S hl hm ho ?_ iy).pe q)⟩
    rw [Array.toList_eraseIdxIfInBounds, ← Array.length_toList, List.eraseIdx_length_sub_one]; exact r.dropLast
theorem meth_add : MethOk "set.add" "add" kSet pAdd := by
  refine ⟨fun S i x => ?_, ?_⟩
  · obtain ⟨j, xs, rfl, hm⟩ := x.inv
    exact ⟨_, on_set S i hm F.slot_set_add F.type_set_add⟩
  intro M ρ μ h v a vs as k S i is e
  obtain ⟨j, rfl, xs, hm, e1⟩ := e.inv
  obtain ⟨b, rfl, e2⟩ := e1.inv
  obtain ⟨z, rfl, hz, q⟩ := e2.inv
  obtain ⟨l, hl, rfl⟩ := i
  obtain ⟨_, rfl, i1⟩ := is.inv1
  obtain ⟨p', w', hS⟩ := (S.ob j l _ hl hm).setIs
  obtain ⟨t, rfl⟩ := is_int i1
  refine Ev.lift fun s hs _ Q' kk => ?_
  subst hs
  refine call_set_add (knd := intKind M.prog M.w) (k := z) (a := l) (show Value.isInt z (.int z t) = true from beq_self_eq_true z) rfl hS (by unfold scanBound; omega) fun h' hsb hS' => kk _ h' _ ?_
  have hm' : MIs ρ.f h' l (.set (insI xs z)) := by
    refine .set ⟨M.prog, M.w, ?_⟩
    have e1 : (fun k' => xs.contains k' || decide (k' = z)) = fun k' => (insI xs z).contains k' := by
      funext k'
      unfold insI
      by_cases hc : xs.contains z = true
      · rw [if_pos hc]
        by_cases hk : k' = z
        · subst hk; rw [hc]; rfl
        · rw [decide_eq_false hk, Bool.or_false]
      · rw [if_neg hc]
        simp
    have e2 : (if xs.contains z = true then xs.length else xs.length + 1) = (insI xs z).length := by
      unfold insI; split <;> simp
    rw [← e1, ← e2]; exact hS'
  obtain ⟨s', g⟩ := S.turn hl hm (fun e => by cases e) hm' (fun b o hb e => hsb.extBut b o hb e)
  exact PE.mk (a := .d .none) (g []) s' Is.none q
theorem strP.two {as : List AV} {a : AV} {v : Value} {vs : List Value} {k : Str → Str → Prop} {P : Prop} (x : strP a fun x => oneP as fun b => strP b fun y => k x y) (i : IsV ρ v a) (is : IsVs ρ vs as) (f : ∀ x y t u, v = .str x t → vs = [.str y u] → k x y → P) : P := by
  obtain ⟨x, rfl, e⟩ := x.inv
  obtain ⟨b, rfl, e1⟩ := e.inv
  obtain ⟨y, rfl, q⟩ := e1.inv
  obtain ⟨t, rfl⟩ := is_str i
  obtain ⟨_, rfl, i1⟩ := is.inv1
  obtain ⟨u, rfl⟩ := is_str i1
  exact f _ _ _ _ rfl rfl q
theorem meth_starts : MethOk "str.startswith" "startswith" kStr pStarts :=
  ⟨kStr.on F.slot_str_startswith F.type_str_startswith, fun S i is e => strP.two e i is fun _ _ _ _ e1 e2 q => e1 ▸ e2 ▸ (Ev.ofBool S fun s _ Q' k => SC.startswith (k s.toks)).pe .refl q⟩
theorem meth_ends : MethOk "str.endswith" "endswith" kStr pEnds :=
  ⟨kStr.on F.slot_str_endswith F.type_str_endswith, fun S i is e => strP.two e i is fun _ _ _ _ e1 e2 q => e1 ▸ e2 ▸ (Ev.ofBool S fun s _ Q' k => SC.endswith (k s.toks)).pe .refl q⟩
theorem gives_find4 (x y : Str) (i j : Int) (t u v z : Tok) : Gives (Builtin.«str.find» ⟨[.str x t, .str y u, .int i v, .int j z], []⟩) (.int (find4 x y i j)) := by
  unfold find4
  show Gives (match Builtin.Str.occurrences x y (fromIndex x.length i) (min (fromIndex x.length j) x.length) 1 with | k :: _ => retInt k | [] => (do rule "str.find.not-found"; retInt (-1))) _
  cases Builtin.Str.occurrences x y (fromIndex x.length i) (min (fromIndex x.length j) x.length) 1 with
  | nil => exact .rule (.of_eq rfl)
  | cons k _ => exact .of_eq rfl
theorem meth_find : MethOk "str.find" "find" kStr pFind := by
  refine ⟨kStr.on F.slot_str_find F.type_str_find, ?_⟩
  intro M ρ μ h v a vs as k S i is e
  obtain ⟨x, rfl, e1⟩ := e.inv
  obtain ⟨b, c, d, rfl, e2⟩ := e1.inv
  obtain ⟨y, rfl, e3⟩ := e2.inv
  obtain ⟨n, rfl, e4⟩ := e3.inv
  obtain ⟨m, rfl, q⟩ := e4.inv
  obtain ⟨t, rfl⟩ := is_str i
  obtain ⟨_, _, _, rfl, i1, i2, i3⟩ := is.inv3
  cases is
  obtain ⟨u, rfl⟩ := is_str i1
  obtain ⟨u2, rfl⟩ := is_int i2
  obtain ⟨u3, rfl⟩ := is_int i3
  refine Ev.lift fun s hs _ Q' kk => ?_
  subst hs
  exact call_gives F.slot_str_find (typeIs_str _ _ _) F.entry_str_find (F.args_str_find_4 _ _ _ _) (gives_find4 _ _ _ _ t u u2 u3) (kk _ s.heap _ (PE.same (a := .d (.int _)) S (Is.int _ _) q))
theorem meth_join : MethOk "str.join" "join" kStr pJoin := by
  refine ⟨kStr.on F.slot_str_join F.type_str_join, ?_⟩
  intro M ρ μ h v a vs as k S i is e
  obtain ⟨x, rfl, e1⟩ := e.inv
  obtain ⟨b, rfl, e2⟩ := e1.inv
  obtain ⟨ys, rfl, ss, rfl, hj, q⟩ := e2.inv
  obtain ⟨t, rfl⟩ := is_str i
  obtain ⟨_, rfl, i1⟩ := is.inv1
  obtain ⟨b, us, n2, rfl, hb, rb, _⟩ := is_list i1
  obtain ⟨L, hL, hmap⟩ := strs_values rb
  refine Ev.lift fun s hs _ Q' kk => ?_
  subst hs
  refine SC.join (l := L) (texts := ss) ⟨_, S.fz _ _ hb, rfl, n2, ?_⟩ hmap hj (fun t' k => kk _ s.heap _ (PE.same (a := .d (.str _)) S (Is.str _ _) q))
  rw [← hL]
end
end Mine
end
section
namespace Mine

def condP (b : Bool) (p q : Prop) : Prop := (b = true → p) ∧ (b = false → q)
theorem condP.t {b p q} (h : b = true) (x : p) : condP b p q := ⟨fun _ => x, fun e => Bool.noConfusion (h.symm.trans e)⟩
theorem condP.f {b p q} (h : b = false) (x : q) : condP b p q := ⟨fun e => Bool.noConfusion (h.symm.trans e), fun _ => x⟩

/-! ### the roads of expressions -/
def varP : Option AV → (AV → Prop) → Prop
  | some a, k => k a
  | none, _ => False
def wVar (n : Nat) : WE := fun _ σ μ k => varP (σ.getD n none) fun a => k a μ
def wDat (d : PyData) : WE := fun _ _ μ k => k (.d d) μ
abbrev wInt (i : Int) : WE := wDat (.int i)
abbrev wStr (s : Str) : WE := wDat (.str s)
def wCst (x : Str) : WE := fun c _ μ k => ∃ d, c.cst x = some d ∧ k (.d d) μ
def wNeg (W : WE) : WE := fun c σ μ k => W c σ μ fun a μ => intP a fun i => k (.d (.int (-i))) μ
def wBin (P : AV → AV → (PyData → Prop) → Prop) (l r : WE) : WE := fun c σ μ k => l c σ μ fun a μ => r c σ μ fun b μ => P a b fun d => k (.d d) μ
def wCmp (P : AV → AV → Mem → (Bool → Prop) → Prop) (l r : WE) : WE := fun c σ μ k => l c σ μ fun a μ => r c σ μ fun b μ => P a b μ fun d => k (.d (.bool d)) μ
def wAnd (l r : WE) : WE := fun c σ μ k => l c σ μ fun a μ => boolP a fun b => condP b (r c σ μ k) (k (.d (.bool false)) μ)
def wIte (t : WT) (l r : WE) : WE := fun c σ μ k => t c σ μ fun b μ => condP b (l c σ μ k) (r c σ μ k)
def datsP : List AV → (List PyData → Prop) → Prop
  | [], k => k []
  | a :: as, k => datP a fun d => datsP as fun ds => k (d :: ds)
def wList (Ws : List WE) : WE := fun c σ μ k => wArgs Ws c σ μ fun as μ => datsP as fun ds => k (.d (.list ds)) μ
def wTup (Ws : List WE) : WE := fun c σ μ k => wArgs Ws c σ μ fun as μ => datsP as fun ds => k (.d (.tuple ds)) μ
def idxP (a b : AV) (μ : Mem) (k : PyData → Prop) : Prop := lstP a μ fun xs => intP b fun i => ∃ j x, idxOf i xs.length = some j ∧ xs[j]? = some x ∧ k x
def wIdx (v i : WE) : WE := fun c σ μ k => v c σ μ fun a μ => i c σ μ fun b μ => idxP a b μ fun d => k (.d d) μ
def wOpt : Option WE → Cx → Lo → Mem → (Option Int → Mem → Prop) → Prop
  | none, _, _, μ, k => k none μ
  | some W, c, σ, μ, k => W c σ μ fun a μ => intP a fun i => k (some i) μ
def cutL (a : AV) (l u s : Option Int) (μ : Mem) (k : PyData → Prop) : Prop := lstP a μ fun xs => s ≠ some 0 ∧ xs.length ≤ sizeLine ∧ k (.list (pickL xs l u s))
def cutT (a : AV) (l u s : Option Int) (_ : Mem) (k : PyData → Prop) : Prop := strP a fun x => s = none ∧ x.length ≤ sizeLine ∧ k (.str (cutS x l u))
def wCut (P : AV → Option Int → Option Int → Option Int → Mem → (PyData → Prop) → Prop) (v : WE) (lo hi st : Option WE) : WE := fun c σ μ k =>
  v c σ μ fun a μ => wOpt lo c σ μ fun l μ => wOpt hi c σ μ fun u μ => wOpt st c σ μ fun s μ => P a l u s μ fun d => k (.d d) μ
def wMeth (K : AV → Mem → Prop) (P : AV → List AV → Mem → KE → Prop) (o : WE) (args : List WE) : WE := fun c σ μ k => o c σ μ fun a μ => K a μ ∧ wArgs args c σ μ fun as μ => P a as μ k
def wRepl (o : WE) (y z : Str) : WE := fun c σ μ k => o c σ μ fun a μ => strP a fun x => x.length + (x.length + 1) * z.length ≤ 16777216 ∧ k (.d (.str (Txt.replace x y z))) μ
def wFn (f : Str) (args : List WE) : WE := fun c σ μ k => ∃ F, c.fns f = some F ∧ wArgs args c σ μ fun as μ => F as μ k
def lenS (a : AV) (μ : Mem) (k : KE) : Prop := strP a fun s => s.length < 2 ^ 31 ∧ k (.d (.int s.length)) μ
def lenL (a : AV) (μ : Mem) (k : KE) : Prop := lstP a μ fun s => s.length < 2 ^ 31 ∧ k (.d (.int s.length)) μ
def sumL (a : AV) (μ : Mem) (k : KE) : Prop := lstD a fun xs => ∃ is : List Int, xs = is.map .int ∧ k (.d (.int is.sum)) μ
/-- a built-in of one argument -/
def wB1 (P : AV → Mem → KE → Prop) (e : WE) : WE := fun c σ μ k => e c σ μ fun a μ => P a μ k
def tCmp (w : WE) : WT := fun c σ μ k => w c σ μ fun a μ => boolP a fun b => k b μ
def tTru (P : AV → Mem → (Bool → Prop) → Prop) (w : WE) : WT := fun c σ μ k => w c σ μ fun a μ => P a μ fun b => k b μ
def tNot (t : WT) : WT := fun c σ μ k => t c σ μ fun b μ => k (!b) μ
def tAnd (l r : WT) : WT := fun c σ μ k => l c σ μ fun b μ => condP b (r c σ μ k) (k false μ)

structure SndT (ns : List Str) (sc : Scope) (e : Expr) (W : WT) : Prop where
  go : ∀ {M : Mc} {ρ : Mp} {σ : Lo} {μ : Mem} {h : Heap} {k : Bool → Mem → Prop} {Q : Bool → Heap → Prop}, Wk ns sc M → St M.h₀ ρ μ h → FrS ρ M.env (sto ns σ) h → W M.c σ μ k →
    (∀ b h' ρ' μ', Grow [] ρ h ρ' h' → St M.h₀ ρ' μ' h' → k b μ' → Q b h') → Ev M (isTrue e M.env (eval e M.env)) Q h

section
variable {M : Mc} {ρ : Mp} {μ : Mem} {h : Heap} {ns : List Str} {sc : Scope} {σ : Lo} {x y : Expr} {L R : WE} {p : Pos}

theorem sto_get : ∀ {ns : List Str} {σ : Lo} {n : Nat} {x : Str} {a : AV}, ns.Nodup → ns[n]? = some x → σ.getD n none = some a → sto ns σ x = some a := by
  intro ns
  induction ns with
  | nil => intro σ n x a _ h _; cases h
  | cons y ns ih =>
    intro σ n x a hn h1 h2
    cases σ with
    | nil => cases h2
    | cons b σ => cases n with
      | zero => cases h1; exact (if_pos rfl).trans h2
      | succ n =>
        obtain ⟨hy, hn⟩ := List.nodup_cons.mp hn
        exact (if_neg fun (e : x = y) => hy (e ▸ List.mem_of_getElem? h1)).trans (ih hn h1 h2)
theorem varP.inv {o : Option AV} {k} (w : varP o k) : ∃ a, o = some a ∧ k a := by
  cases o with
  | none => exact w.elim
  | some a => exact ⟨a, rfl, w⟩

theorem SndE.var {n : Nat} {z : Str} (hn : ns[n]? = some z) : SndE ns sc (.Name z p) (wVar n) := ⟨fun _ _ => rfl, fun X S F w => by
  obtain ⟨a, h1, q⟩ := varP.inv w
  exact Ev.Name (X.db _ (List.mem_of_getElem? hn)) F (sto_get X.nd hn h1) fun _ i => .same S i q⟩

theorem SndE.int {i : Int} {j : Nat} : SndE ns sc (.Constant (.int i) j p) (wDat (.int i)) := ⟨fun _ _ => rfl, fun X S F w => Ev.lift fun s hs _ Q' kk => by
  subst hs; exact wpAny_Constant_int (kk (.int i s.toks) s.heap (s.toks + 1) (PE.same (a := .d (.int i)) S (Is.int i _) w))⟩
theorem SndE.str {i : Str} {j : Nat} : SndE ns sc (.Constant (.str i) j p) (wDat (.str i)) := ⟨fun _ _ => rfl, fun X S F w => Ev.lift fun s hs _ Q' kk => by
  subst hs; rw [arm_eval_Constant]; exact wpAny_mkText (kk (.str i s.toks) s.heap (s.toks + 1) (PE.same (a := .d (.str i)) S (Is.str i _) w))⟩
theorem SndE.bool {i : Bool} {j : Nat} : SndE ns sc (.Constant (.bool i) j p) (wDat (.bool i)) := ⟨fun _ _ => rfl, fun X S F w => by
  rw [arm_eval_Constant]
  exact Ev.pure (PE.same (a := .d (.bool i)) S (Is.bool i) w)⟩
theorem SndE.neg (H : SndE ns sc x L) : SndE ns sc (.UnaryOp .USub x p) (wNeg L) := ⟨fun _ _ => rfl, fun X S F w => by
  rw [arm_eval_UnaryOp]
  refine Ev.bind ((H.go X S F w).useE fun v h₁ a ρ₁ μ₁ g₁ S₁ i₁ q => ?_)
  obtain ⟨i, rfl, q⟩ := intP.inv q
  obtain ⟨t, rfl⟩ := is_int i₁
  refine Ev.bind (Ev.standAt (Ev.holding (Ev.lift fun s hs _ Q' kk => ?_)))
  subst hs
  exact neg_int (kk (.int (-i) s.toks) s.heap (s.toks + 1) (PE.mk (a := .d (.int (-i))) g₁ S₁ (Is.int _ _) q))⟩

/-- two values, one after the other -/
theorem SndE.two {k : AV → AV → Mem → Prop} {Q : Value → Value → Heap → Prop} (hl : SndE ns sc x L) (hr : SndE ns sc y R) (X : Wk ns sc M) (S : St M.h₀ ρ μ h) (F : FrS ρ M.env (sto ns σ) h) (w : L M.c σ μ fun a μ => R M.c σ μ fun b μ => k a b μ)
    (q : ∀ va vb h' a b ρ' μ', Grow [] ρ h ρ' h' → St M.h₀ ρ' μ' h' → IsV ρ' va a → IsV ρ' vb b → k a b μ' → Q va vb h') :
    Ev M (eval x M.env) (fun va h₁ => Ev M (eval y M.env) (fun vb h₂ => Q va vb h₂) h₁) h :=
  (hl.go X S F w).useE fun _ _ _ _ _ g₁ S₁ i₁ w₁ => (hr.go X S₁ (F.grow0 g₁) w₁).useE fun _ _ _ _ _ g₂ S₂ i₂ w₂ => q _ _ _ _ _ _ _ (g₁.trans g₂) S₂ (i₁.grow g₂) i₂ w₂

theorem SndE.bin {op : Operator} {P} (O : BinOk op P) (hl : SndE ns sc x L) (hr : SndE ns sc y R) : SndE ns sc (.BinOp x op y p) (wBin P L R) := ⟨fun _ _ => rfl, fun {M ρ σ μ h k} X S F w => by
  rw [arm_eval_BinOp]
  refine Ev.bind ((hl.two (Q := fun va vb h' => Ev M (binaryOp op va vb) (PE M ρ h k) h') hr X S F w fun va vb h' a b ρ' μ' g S' ia ib w => (O S' ia ib w).elim fun d q => q.2.pe g q.1).mono fun va h₁ x => ?_)
  exact Ev.bind (Ev.holding (x.mono fun vb h₂ x => Ev.bind (Ev.standAt (Ev.operate x))))⟩

theorem SndE.cmp {op : CmpOp} {P} (O : CmpOk op P) (hm : behindInMarks op y = false) (hl : SndE ns sc x L) (hr : SndE ns sc y R) : SndE ns sc (.Compare x [op] [y] p) (wCmp P L R) := ⟨fun _ _ => rfl, fun {M ρ σ μ h k} X S F w => by
  rw [arm_eval_Compare]
  refine Ev.bind ((hl.two (Q := fun va vb h' => Ev M (compareOp op va vb) (PE M ρ h k) h') hr X S F w fun va vb h' a b ρ' μ' g S' ia ib w => (O X.units S' ia ib w).elim fun d q => q.2.pe g q.1).mono fun va h₁ x => ?_)
  show Ev M (do let rv ← holding [va] (markedBehindIn op y (eval y M.env)); standAt p; operate [va, rv] (compareOp op va rv)) _ _
  exact Ev.bind (Ev.holding (Ev.of_eq (t' := eval y M.env) (by unfold markedBehindIn; rw [hm]) (x.mono fun vb h₂ x => Ev.bind (Ev.standAt (Ev.operate x)))))⟩

theorem SndT.cmp {op : CmpOp} {P} (O : CmpOk op P) (hm : behindInMarks op y = false) (hl : SndE ns sc x L) (hr : SndE ns sc y R) : SndT ns sc (.Compare x [op] [y] p) (tCmp (wCmp P L R)) := ⟨fun {M ρ σ μ h k Q} X S F w q => by
  rw [arm_isTrue_Compare]
  refine Ev.bind ((hl.two (Q := fun va vb h' => Ev M (compareOp op va vb) (fun v h'' => ∃ b, v = .bool b ∧ Q b h'') h') hr X S F w fun va vb h' a b ρ' μ' g S' ia ib w => (O X.units S' ia ib w).elim fun d o => o.2.useR fun v h₂ ρ₂ g₂ S₂ i => ⟨d, is_bool i, q _ _ _ _ (g.trans g₂) S₂ o.1⟩).mono fun va h₁ x => ?_)
  show Ev M (do let rv ← holding [va] (markedBehindIn op y (eval y M.env)); standAt p; let c ← operate [va, rv] (compareOp op va rv); holding [c] (truthy c)) _ _
  refine Ev.bind (Ev.holding (Ev.of_eq (t' := eval y M.env) (by unfold markedBehindIn; rw [hm]) (x.mono fun vb h₂ x => Ev.bind (Ev.standAt (Ev.bind (Ev.operate (x.mono fun v h₃ r => ?_)))))))
  obtain ⟨b, rfl, r⟩ := r
  exact Ev.holding fun s hs ht => wpAny_truthy_bool ⟨rfl, rfl, hs ▸ r⟩⟩

theorem SndT.tru {P} (O : TruOk P) (hp : ∀ env, isTrue x env (eval x env) = (do let v ← eval x env; standAt x.pos; holding [v] (truthy v))) (H : SndE ns sc x L) : SndT ns sc x (tTru P L) := ⟨fun {M ρ σ μ h k Q} X S F w q => by
  rw [hp]
  exact Ev.bind ((H.go X S F w).useE fun v h₁ a ρ₁ μ₁ g₁ S₁ i₁ w₁ => Ev.bind (Ev.standAt (Ev.holding ((O S₁ i₁ w₁).mono fun b h' r => r.2 ▸ q _ _ _ _ g₁ S₁ r.1))))⟩
theorem SndT.not {t : WT} (H : SndT ns sc x t) : SndT ns sc (.UnaryOp .Not x p) (tNot t) := ⟨fun X S F w q => by
  rw [arm_isTrue_UnaryOp]
  exact Ev.bind (H.go X S F w fun b h' ρ' μ' g S' k => Ev.pure (q _ _ _ _ g S' k))⟩
theorem SndT.and {l r : WT} {es : List Expr} (hl : SndT ns sc x l) (hr : SndT ns sc (.BoolOp .And (y :: es) p) r) : SndT ns sc (.BoolOp .And (x :: y :: es) p) (tAnd l r) := ⟨fun {M ρ σ μ h k Q} X S F w q => by
  rw [arm_isTrue_BoolOp]
  show Ev M (do match BoolOp.And, ← isTrue x M.env (eval x M.env) with
    | .And, false => pure false
    | .Or, true => pure true
    | _, _ => allTrue .And (y :: es) M.env) _ _
  refine Ev.bind (hl.go X S F w fun b h' ρ' μ' g S' c => ?_)
  cases b with
  | true => exact hr.go X S' (F.grow0 g) (c.1 rfl) fun b h' ρ' μ' g' S' k => q _ _ _ _ (g.trans g') S' k
  | false => exact Ev.pure (q _ _ _ _ g S' (c.2 rfl))⟩
theorem SndT.and1 {l : WT} (hl : SndT ns sc x l) : SndT ns sc (.BoolOp .And [x] p) l := ⟨fun {M ρ σ μ h k Q} X S F w q => by
  rw [arm_isTrue_BoolOp]
  show Ev M (do match BoolOp.And, ← isTrue x M.env (eval x M.env) with
    | .And, false => pure false
    | .Or, true => pure true
    | _, _ => allTrue .And [] M.env) _ _
  refine Ev.bind (hl.go X S F w fun b h' ρ' μ' g S' c => ?_)
  cases b <;> exact Ev.pure (q _ _ _ _ g S' c)⟩

theorem SndE.and1 (hl : SndE ns sc x L) : SndE ns sc (.BoolOp .And [x] p) L := ⟨fun _ _ => rfl, hl.go⟩
theorem SndE.and {es : List Expr} (hl : SndE ns sc x L) (hr : SndE ns sc (.BoolOp .And (y :: es) p) R) : SndE ns sc (.BoolOp .And (x :: y :: es) p) (wAnd L R) := ⟨fun _ _ => rfl, fun {M ρ σ μ h k} X S F w => by
  show Ev M (do
    let v ← eval x M.env
    standAt p
    let t ← holding [v] (truthy v)
    match BoolOp.And, t with
    | .And, false | .Or, true => pure v
    | _, _ => boolOp p .And (evalEach (y :: es) M.env)) _ _
  refine Ev.bind ((hl.go X S F w).useE fun v h₁ a ρ₁ μ₁ g₁ S₁ i₁ w₁ => ?_)
  obtain ⟨b, rfl, c⟩ := boolP.inv w₁
  rw [is_bool i₁]
  refine Ev.bind (Ev.standAt (Ev.bind (Ev.holding fun s hs ht => wpAny_truthy_bool ⟨rfl, rfl, ?_⟩)))
  subst hs
  cases b with
  | false => exact Ev.pure (PE.mk (a := .d (.bool false)) g₁ S₁ (Is.bool false) (c.2 rfl))
  | true => exact (hr.go X S₁ (F.grow0 g₁) (c.1 rfl)).mono fun v h2 q => PE.trans g₁ q⟩
theorem SndE.ite {t : Expr} {T : WT} (ht : SndT ns sc t T) (hl : SndE ns sc x L) (hr : SndE ns sc y R) : SndE ns sc (.IfExp t x y p) (wIte T L R) := ⟨fun _ _ => rfl, fun {M ρ σ μ h k} X S F w => by
  rw [arm_eval_IfExp]
  refine Ev.bind (ht.go X S F w fun b h' ρ' μ' g S' c => ?_)
  cases b with
  | true => exact (hl.go X S' (F.grow0 g) (c.1 rfl)).mono fun v h2 q => PE.trans g q
  | false => exact (hr.go X S' (F.grow0 g) (c.2 rfl)).mono fun v h2 q => PE.trans g q⟩

theorem datsP.is {vs : List Value} {as : List AV} {k} (i : IsVs ρ vs as) (w : datsP as k) : ∃ ds, IsAll ρ.f vs ds ∧ k ds := by
  induction i generalizing k with
  | nil => exact ⟨[], .nil, w⟩
  | cons a _ ih =>
    obtain ⟨d, rfl, w⟩ := datP.inv w
    obtain ⟨ds, i2, q⟩ := ih w
    exact ⟨_, .cons a i2, q⟩
theorem small_line {n : Nat} (hz : Nat.ble n 1000 = true) : n ≤ sizeLine := Nat.le_trans (Nat.le_of_ble_eq_true hz) (by decide)

theorem SndE.list {es : List Expr} {Ws : List WE} (hz : Nat.ble es.length 1000 = true) (H : SndL ns sc es Ws) : SndE ns sc (.List es p) (wList Ws) := ⟨fun _ _ => rfl, fun {M ρ σ μ h k} X S F w => by
  rw [arm_eval_List, H.star, backTo_trees]
  refine Ev.bind (Ev.standAt (Ev.bind (Ev.spliced H X S F w fun vs h' as ρ' μ' g S' i hl w => ?_)))
  obtain ⟨ds, ia, q⟩ := datsP.is i w
  exact (Ev.newList S' ia (hl ▸ small_line hz)).pe g q⟩
theorem SndE.tup {es : List Expr} {Ws : List WE} {j : Nat} (hz : Nat.ble es.length 1000 = true) (H : SndL ns sc es Ws) : SndE ns sc (.Tuple es j p) (wTup Ws) := ⟨fun _ _ => rfl, fun {M ρ σ μ h k} X S F w => by
  rw [arm_eval_Tuple, H.star, backTo_trees]
  refine Ev.bind (Ev.standAt (Ev.bind (Ev.spliced H X S F w fun vs h' as ρ' μ' g S' i hl w => ?_)))
  obtain ⟨ds, ia, q⟩ := datsP.is i w
  exact (Ev.newTuple S' ia (hl ▸ small_line hz)).pe g q⟩

theorem SndE.idx (hl : SndE ns sc x L) (hr : SndE ns sc y R) : SndE ns sc (.Subscript x y p) (wIdx L R) := ⟨fun _ _ => rfl, fun {M ρ σ μ h k} X S F w => by
  refine Ev.Subscript (hl.two hr X S F w fun va vb h' a b ρ' μ' g S' ia ib w => ?_)
  obtain ⟨xs, La, w⟩ := lstP.at w S' ia
  obtain ⟨i, rfl, j, d, e1, e2, q⟩ := intP.inv w
  obtain ⟨t, rfl⟩ := is_int ib
  exact evTail (T := "list") (id := "list.__getitem__") (fun s hs => let ⟨_, _, _, e, ho, _⟩ := La; e ▸ ⟨_, hs ▸ ho, rfl⟩) list_getitem_lookup ((Ev.getIdx S' La e1 e2).pe g q)⟩

inductive SndO (ns : List Str) (sc : Scope) : Option Expr → Option WE → Prop
  | none : SndO ns sc none none
  | some {x W} : SndE ns sc x W → SndO ns sc (some x) (some W)
theorem SndO.go {x : Option Expr} {W : Option WE} {k : Option Int → Mem → Prop} {Q : Value → Heap → Prop} (H : SndO ns sc x W) (X : Wk ns sc M) (S : St M.h₀ ρ μ h) (F : FrS ρ M.env (sto ns σ) h) (w : wOpt W M.c σ μ k)
    (q : ∀ v h' l ρ' μ', Grow [] ρ h ρ' h' → St M.h₀ ρ' μ' h' → IsPart v l → k l μ' → Q v h') : Ev M (valueOrNone (evalOpt x M.env)) Q h := by
  cases H with
  | none => exact Ev.pure (q _ _ _ _ _ .refl S .none w)
  | some H =>
    refine (H.go X S F w).useE fun v h₁ a ρ₁ μ₁ g₁ S₁ i₁ w₁ => ?_
    obtain ⟨i, rfl, w₁⟩ := intP.inv w₁
    obtain ⟨t, rfl⟩ := is_int i₁
    exact q _ _ _ _ _ g₁ S₁ (.int _ _) w₁

def CutOk (P : AV → Option Int → Option Int → Option Int → Mem → (PyData → Prop) → Prop) : Prop := ∀ {M : Mc} {ρ : Mp} {μ : Mem} {h : Heap} {v vl vu vt : Value} {a : AV} {l u s : Option Int} {sl : Addr} {k : PyData → Prop} {x y : Expr}, St M.h₀ ρ μ h → IsV ρ v a → h.IsSliceOf sl vl vu vt → IsPart vl l → IsPart vu u → IsPart vt s → P a l u s μ k →
  ∃ d, k d ∧ Ev M (subscriptTail x y v (.ref sl)) (Res M ρ h (.d d) μ) h
theorem cutL.ok : CutOk cutL := by
  intro M ρ μ h v vl vu vt a l u s sl k x y S i hs pl pu pt w
  obtain ⟨xs, La, h0, hz, q⟩ := lstP.at w S i
  exact ⟨_, q, evTail (T := "list") (id := "list.__getitem__") (fun s hs => let ⟨_, _, _, e, ho, _⟩ := La; e ▸ ⟨_, hs ▸ ho, rfl⟩) list_getitem_lookup (Ev.getSlice S La hs pl pu pt h0 hz)⟩
theorem cutT.ok : CutOk cutT := by
  intro M ρ μ h v vl vu vt a l u s sl k x y S i hs pl pu pt w
  obtain ⟨z, rfl, rfl, hz, q⟩ := strP.inv w
  obtain ⟨t, rfl⟩ := is_str i
  cases pt
  exact ⟨_, q, evTail (T := "str") (id := "str.__getitem__") (fun s hs => typeIs_str s z t) PySem.F.slot_str_getitem.lookup (Ev.getSliceS S hs pl pu hz)⟩

theorem SndE.cut {P} {lo hi st : Option Expr} {wl wh ws : Option WE} {p' : Pos} (O : CutOk P) (H : SndE ns sc x L) (hl : SndO ns sc lo wl) (hh : SndO ns sc hi wh) (hs : SndO ns sc st ws) : SndE ns sc (.Subscript x (.Slice lo hi st p') p) (wCut P L wl wh ws) := ⟨fun _ _ => rfl, fun {M ρ σ μ h k} X S F w => by
  refine Ev.Subscript ((H.go X S F w).useE fun v h₁ a ρ₁ μ₁ g₁ S₁ i₁ w => ?_)
  rw [arm_eval_Slice]
  have F₁ := F.grow0 g₁
  refine Ev.bind (hl.go X S₁ F₁ w fun vl h₂ l ρ₂ μ₂ g₂ S₂ pl w => ?_)
  have F₂ := F₁.grow0 g₂
  refine Ev.bind (Ev.holding (hh.go X S₂ F₂ w fun vu h₃ u ρ₃ μ₃ g₃ S₃ pu w => ?_))
  have F₃ := F₂.grow0 g₃
  refine Ev.bind (Ev.holding (hs.go X S₃ F₃ w fun vt h₄ s ρ₄ μ₄ g₄ S₄ pt w => ?_))
  refine Ev.lift fun st hs _ Q' kk => ?_
  subst hs
  have hk := kept st.heap { cls := .type "slice", data := .fields #[vl, vu, vt] }
  obtain ⟨d, q, r⟩ := O (x := x) (y := .Slice lo hi _ p') (S₄.keepAll hk) (i₁.grow (g₂.trans (g₃.trans g₄))) (.new ..) pl pu pt w
  exact wpAny_newObj_type (kk _ _ _ (r.pe ((g₁.trans (g₂.trans (g₃.trans g₄))).trans (.keepAll hk)) q))⟩

theorem SndE.meth {id : String} {name : Str} {K P} {o : Expr} {args : List Expr} {Ws : List WE} {apos pos : Pos} (O : MethOk id name K P) (hn : ∀ env, attributeBase o name env (eval o env) = eval o env) (hp : apos.endLine = pos.line) (hz : Nat.ble args.length 28 = true) (H : SndE ns sc o L) (Hs : SndL ns sc args Ws) :
    SndE ns sc (.Call (.Attribute o name apos) args [] pos) (wMeth K P L Ws) := ⟨fun _ _ => rfl, fun {M ρ σ μ h k} X S F w => by
  refine evMethod (hn _) hp (Nat.lt_succ_of_le (Nat.le_of_ble_eq_true hz)) Hs ((H.go X S F w).useE fun v h₁ a ρ₁ μ₁ g₁ S₁ i₁ w => ?_)
  obtain ⟨T, on⟩ := O.on S₁ i₁ w.1
  exact ⟨id, T, on, Ev.spliced Hs X S₁ (F.grow0 g₁) w.2 fun vs h₂ as ρ₂ μ₂ g₂ S₂ i₂ _ w => (O.ok S₂ (i₁.grow g₂) i₂ w).mono fun v h2 q => PE.trans (g₁.trans g₂) q⟩⟩

/-- `x.replace('..', '..')`: the two texts are two objects of their own -/
theorem SndE.repl {o : Expr} {y z : Str} {k1 k2 : Nat} {apos pos p1 p2 : Pos} (hn : ∀ env, attributeBase o "replace" env (eval o env) = eval o env) (hp : apos.endLine = pos.line) (hyz : y ≠ z) (H : SndE ns sc o L) :
    SndE ns sc (.Call (.Attribute o "replace" apos) [.Constant (.str y) k1 p1, .Constant (.str z) k2 p2] [] pos) (wRepl L y z) := ⟨fun _ _ => rfl, fun {M ρ σ μ h k} X S F w => by
  refine evMethod (hn _) hp (Nat.lt_of_succ_le (Nat.le_of_ble_eq_true rfl)) (All2.cons (SndE.str (ns := ns) (sc := sc)) (.cons SndE.str .nil)) ((H.go X S F w).useE fun v h₁ a ρ₁ μ₁ g₁ S₁ i₁ w => ?_)
  obtain ⟨x, rfl, hb, q⟩ := strP.inv w
  refine ⟨"str.replace", _, on_str i₁ PySem.F.slot_str_replace PySem.F.type_str_replace, ?_⟩
  obtain ⟨t, rfl⟩ := is_str i₁
  intro s hs ht
  subst hs
  refine Calls.spliced_cons (Calls.Constant_str (Calls.spliced_cons (Calls.Constant_str (Calls.spliced_nil ⟨rfl, rfl, ?_⟩))))
  have n1 : @Ne Nat s.toks 0 := by omega
  have n2 : @Ne Nat (s.toks + 1) 0 := by omega
  have n3 : @Ne Nat s.toks (s.toks + 1) := by omega
  refine Ev.lift fun s2 hs2 _ Q' kk => SC.replace (u := s.toks) (v := s.toks + 1) n1 n2 n3 (beq_eq_false_iff_ne.mpr hyz) hb fun t' k => ?_
  have := kk (.str (Txt.replace x y z) t') s.heap k (PE.mk (a := .d (.str _)) g₁ S₁ (Is.str _ _) q)
  rw [← (show s2.heap = s.heap from hs2)] at this
  exact this⟩
end
end Mine
end
section
namespace Mine

def isGlob (sc : Scope) (x : Str) : Bool := sc.names.lookup x == some .globalImplicit && !(x == ("__debug__" : Str))

section
variable {M : Mc} {ρ : Mp} {μ : Mem} {h : Heap} {ns : List Str} {sc : Scope} {σ : Lo} {x y : Expr} {L R : WE} {p : Pos}

theorem St.keeps0 (S : St M.h₀ ρ μ h) : ∀ b o, M.h₀.get? b = some o → h.get? b = some o := fun b o e => S.fz _ _ (S.base _ _ e)

theorem Ev.global {σ : Sto} {x : Str} {v : Value} {Q : Value → Heap → Prop} (X : Wk ns sc M) (S : St M.h₀ ρ μ h) (F : FrS ρ M.env σ h)
    (hx : isGlob sc x = true) (hv : M.mg x = some v ∨ (M.mg x = none ∧ M.mb x = some v)) (q : Q v h) : Ev M (eval (.Name x p) M.env) Q h := by
  refine Ev.lift fun s hs _ Q' k => ?_
  subst hs
  unfold isGlob at hx
  rw [Bool.and_eq_true, Bool.not_eq_true'] at hx
  have hk : M.env.kindOf x = some .globalImplicit := by unfold Env.kindOf; rw [X.sc]; exact beq_iff_eq.mp hx.1
  refine Calls.Name_function_global F.fn hk ?_ hx.2
  have g1 : s.heap.Ns M.env.globals M.mg := by rw [F.gl]; exact X.G.g.keeps S.keeps0
  have b1 : s.heap.Ns M.env.builtins M.mb := by rw [F.bi]; exact X.G.b.keeps S.keeps0
  rcases hv with hv | ⟨h1, h2⟩
  · exact Calls.loadGlobal_global g1 hv (k v s.heap s.toks q)
  · exact Calls.loadGlobal_builtin g1 h1 b1 h2 (k v s.heap s.toks q)

theorem SndE.cst {z : Str} (hx : isGlob sc z = true) : SndE ns sc (.Name z p) (wCst z) := ⟨fun _ _ => rfl, fun X S F w => by
  obtain ⟨d, e, q⟩ := w
  obtain ⟨v, hv, i⟩ := X.G.cst z d e
  exact Ev.global X S F hx (.inl hv) (PE.same (a := .d d) S (i _) q)⟩

/-- a call of a built-in type or function by its name -/
theorem Ev.CallName {f : Str} {fp pos : Pos} {args : List Expr} {Ws : List WE} {v : Value} {k : List AV → Mem → Prop} {Q : Value → Heap → Prop} (X : Wk ns sc M) (S : St M.h₀ ρ μ h) (F : FrS ρ M.env (sto ns σ) h)
    (hx : isGlob sc f = true) (hv : M.mg f = some v ∨ (M.mg f = none ∧ M.mb f = some v)) (H : SndL ns sc args Ws)
    (c : Ev M (PySem.callWith pos v [] (trees args M.env) []) Q h) : Ev M (eval (.Call (.Name f fp) args [] pos) M.env) Q h := by
  rw [arm_eval_Call_Name']
  refine Ev.bind (Ev.global X S F hx hv ?_)
  rw [H.star, backTo_trees]
  exact c

theorem SndE.fn {f : Str} {fp : Pos} {args : List Expr} {Ws : List WE} (hx : isGlob sc f = true) (H : SndL ns sc args Ws) : SndE ns sc (.Call (.Name f fp) args [] p) (wFn f Ws) := ⟨fun _ _ => rfl, fun {M ρ σ μ h k} X S F w => by
  obtain ⟨Fn, ef, w⟩ := w
  obtain ⟨fa, o, fd, hv, ho, hd, cs⟩ := X.G.fns f Fn ef
  exact Ev.CallName (k := fun _ _ => True) X S F hx (.inl hv) H (callWithF (Ev.spliced H X S F w fun vs h₁ as ρ₁ μ₁ g₁ S₁ i₁ _ w => ⟨⟨S₁.keeps0 _ _ ho, hd⟩, (cs M rfl rfl rfl X.hA as vs ρ₁ μ₁ h₁ k w S₁ i₁).mono fun v h2 q => PE.trans g₁ q⟩))⟩

def B1Ok (id : String) (P : AV → Mem → KE → Prop) : Prop := ∀ {M : Mc} {ρ : Mp} {μ : Mem} {h : Heap} {v : Value} {a : AV} {k : KE}, M.A.handled = none → St M.h₀ ρ μ h → IsV ρ v a → P a μ k → Ev M (call (.builtin id) [v]) (PE M ρ h k) h
theorem SndE.b1 {id : String} {P} {fp : Pos} (O : B1Ok id P) (hg : ∀ {M : Mc}, Wk ns sc M → M.mg (Str.ofString id) = none ∧ M.mb (Str.ofString id) = some (.builtin id)) (hx : isGlob sc (Str.ofString id) = true) (H : SndE ns sc x L) : SndE ns sc (.Call (.Name (Str.ofString id) fp) [x] [] p) (wB1 P L) := ⟨fun _ _ => rfl, fun {M ρ σ μ h k} X S F w =>
  Ev.CallName (Ws := [L]) (k := fun _ _ => True) X S F hx (.inr (hg X)) (.one H) (Ev.callWith (first := []) rfl (Ev.spliced (.one H) X S F (k := fun as μ => oneP as fun a => P a μ k) w fun vs h₁ as ρ₁ μ₁ g₁ S₁ i₁ _ w => by
    obtain ⟨a, rfl, w⟩ := oneP.inv w
    obtain ⟨v, rfl, i⟩ := i₁.inv1
    exact (O X.hh S₁ i w).mono fun v h2 q => PE.trans g₁ q))⟩
theorem lenS.ok : B1Ok "len" lenS := by
  intro M ρ μ h v a k _ S i w
  obtain ⟨s, rfl, hz, q⟩ := strP.inv w
  obtain ⟨t, rfl⟩ := is_str i
  refine Ev.lift fun s hs _ Q' kk => PyProof.Rows.len_str (by omega) ?_
  subst hs
  exact kk _ s.heap _ (PE.same (a := .d (.int _)) S (Is.int _ _) q)
theorem lenL.ok : B1Ok "len" lenL := by
  intro M ρ μ h v a k _ S i w
  obtain ⟨xs, ⟨l, vs, n, rfl, hl, r, hs⟩, hz, q⟩ := lstP.at w S i
  refine Ev.lift fun s hs' _ Q' kk => len_list (items := vs) (hs' ▸ ⟨_, hl, rfl, n, rfl⟩) (by omega) ?_
  subst hs'
  rw [hs]
  exact kk _ s.heap _ (PE.same (a := .d (.int _)) S (Is.int _ _) q)
theorem ints_nums {ρ : Frz} {vs : List Value} {is : List Int} (h : IsAll ρ vs (is.map .int)) : (∀ v ∈ vs, ∃ a t, v = Value.int a t) ∧ numsOf vs = is := by
  induction is generalizing vs with
  | nil => cases h; exact ⟨fun v m => (by cases m), rfl⟩
  | cons i is ih =>
    obtain ⟨v, ws, rfl, i1, r⟩ := h.uncons
    obtain ⟨t, rfl⟩ := is_int i1
    obtain ⟨h1, h2⟩ := ih r
    exact ⟨fun v m => (List.mem_cons.mp m).elim (fun e => ⟨i, t, e⟩) (h1 v), congrArg (i :: ·) h2⟩
theorem sumL.ok : B1Ok "sum" sumL := by
  intro M ρ μ h v a k hh S i w
  obtain ⟨xs, rfl, is, rfl, q⟩ := lstD.inv w
  obtain ⟨l, vs, n, rfl, hl, r, _⟩ := is_list i
  obtain ⟨h1, h2⟩ := ints_nums r
  have hall : AllInts vs := fun v m => h1 v (Array.mem_toList_iff.mpr m)
  obtain ⟨ys, rfl⟩ := hall.items
  refine Ev.lift fun s hs _ Q' kk => ?_
  subst hs
  refine sum_intListG hh ⟨_, S.fz _ _ hl, rfl, n, rfl⟩ fun h' tk t' hk => ?_
  have e1 : preSum (numAt ys) ys.size = is.sum := by
    rw [nums_intItems] at h2
    rw [preSum_eq, List.take_of_length_le (by simp), h2]
  rw [e1]
  exact kk _ h' tk (PE.mk (a := .d (.int _)) (.keepAll hk) (S.keepAll hk) (Is.int _ _) q)

open Builtin.Str in
theorem split_call {x y : Str} {t u : Tok} {s : Shared} {Q : Value → Shared → Prop} {E : Value → Shared → Prop} (hy : (y.length == 0) = false) (hx : x.length ≤ 1048576)
    (k : ∀ (l : List (Str × Tok)) tk, l.map (·.1) = Txt.split x y → Q (.ref s.heap.objs.size) { s with heap := s.heap.push { cls := .type "list", data := .seq (strValues l).toArray }, toks := tk }) :
    wpAny (model M.prog M.w) M.A (call (.builtin "str.split") [.str x t, .str y u]) Q E s := by
  have hs : sizeLine = 16777216 := rfl
  cases h1 : (decide (x.length < y.length) || decide (strKind x < strKind y))
  · cases hf : (occurrences x y 0 x.length (x.length + 1)).isEmpty
    · refine call_meets F.slot_str_split (typeIs_str _ _ _) F.entry_str_split (F.args_str_split_2 _ _) (meets_str_split_sep x y t u h1 hy hf (by omega) ?_) ?_
      · unfold partsBetween
        have := StrLaws.occ_length_le x y 0 x.length (x.length + 1)
        simp only [List.length_map, List.length_zip, List.length_cons, List.length_append, List.length_nil]
        omega
      · show wants Q E _ { s with toks := _, heap := s.heap.push { cls := .type "list", data := .seq (strsFrom s.toks (partsBetween x (occurrences x y 0 x.length (x.length + 1)) y.length)).toArray } }
        rw [strsFrom_eq]
        exact k (numbered s.toks _) _ ((numbered_texts _ _).trans ((if_neg (ne_true_of_eq_false h1)).trans (if_neg (ne_true_of_eq_false hf))).symm)
    · exact call_meets F.slot_str_split (typeIs_str _ _ _) F.entry_str_split (F.args_str_split_2 _ _) (meets_str_split_not_found x y t u h1 hy hf)
        (k [(x, t)] s.toks ((if_neg (ne_true_of_eq_false h1)).trans (if_pos hf)).symm)
  · exact call_meets F.slot_str_split (typeIs_str _ _ _) F.entry_str_split (F.args_str_split_2 _ _) (meets_str_split_cannot_occur x y t u h1)
      (k [(x, t)] s.toks (if_pos h1).symm)

/-! ### where loops take their items -/
abbrev WI := Cx → Lo → Mem → (List PyData → Mem → Prop) → Prop
def itemsP (a : AV) (μ : Mem) (k : List PyData → Mem → Prop) : Prop := match a with
  | .h j => ∃ xs, μ[j]? = some (.lst xs) ∧ k xs (μ.set j .dead)
  | .d x => lstD (.d x) fun xs => k xs μ
def iItems (W : WE) : WI := fun c σ μ k => W c σ μ fun a μ => itemsP a μ k
def upTo (n : Nat) : List PyData := (List.range n).map fun (i : Nat) => .int (i : Int)
def downFrom (n : Nat) : List PyData := (List.range (n + 1)).map fun (i : Nat) => .int ((n : Int) - (i : Int))
def iUp (W : WE) : WI := fun c σ μ k => W c σ μ fun a μ => intP a fun i => ∃ n : Nat, i = n ∧ n < 2 ^ 31 ∧ k (upTo n) μ
def iDown (W V U : WE) : WI := fun c σ μ k => wArgs [W, V, U] c σ μ fun as μ => threeP as fun a b c => intP a fun i => intP b fun j => intP c fun l => ∃ n : Nat, i = n ∧ j = -1 ∧ l = -1 ∧ n < 2 ^ 30 ∧ k (downFrom n) μ

structure IterOf (M : Mc) (ρ : Mp) (h : Heap) (items : List PyData) (μ₁ : Mem) (h₂ : Heap) (I : Addr) (fp : List Addr) (P : Nat → Value → Prop) (It : Nat → Heap → Prop) (ρ₁ : Mp) : Prop where
  new : h.get? I = none
  gr : Grow [] ρ h ρ₁ h₂
  st : St M.h₀ ρ₁ μ₁ h₂
  fz : ρ₁.f I = none
  nh : I ∉ ρ₁.l
  wk : Walks M.prog M.w M.A I fp [I] items.length P It
  hP : ∀ ρ' : Frz, (∀ a o, ρ₁.f a = some o → ρ' a = some o) → ∀ i v, P i v → ∃ d, items[i]? = some d ∧ Is ρ' v d
  hfp : ∀ a ∈ fp, a = I ∨ ∃ o, ρ₁.f a = some o
  hob : ∀ i h, It i h → ∃ o, h.get? I = some o
  it0 : It 0 h₂

def IterAt (M : Mc) (ρ : Mp) (h : Heap) (items : List PyData) (μ₁ : Mem) (it : Value) (h₂ : Heap) : Prop :=
  ∃ I fp P It ρ₁, it = .ref I ∧ IterOf M ρ h items μ₁ h₂ I fp P It ρ₁

theorem IterAt.trans {ρ' h' items μ₁ it h₂} (g : Grow [] ρ h ρ' h') (x : IterAt M ρ' h' items μ₁ it h₂) : IterAt M ρ h items μ₁ it h₂ := by
  obtain ⟨I, fp, P, It, ρ₁, e, o⟩ := x
  exact ⟨I, fp, P, It, ρ₁, e, { o with new := g.back o.new, gr := g.trans o.gr }⟩

theorem Ev.iterList {v : Value} {xs : List PyData} (hh : M.A.handled = none) (S : St M.h₀ ρ μ h) (i : Is ρ.f v (.list xs)) : Ev M (pyIter v) (IterAt M ρ h xs μ) h := by
  obtain ⟨l, vs, n, rfl, hl, r, hz⟩ := is_list i
  refine Ev.lift fun s hs _ Q' kk => ?_
  subst hs
  have hlh := S.fz _ _ hl
  refine wpAny_pyIter_list (items := vs) ⟨_, hlh, rfl, n, rfl⟩ (kk _ _ s.toks ?_)
  have hk := kept s.heap { cls := .type "list_iterator", data := .fields #[.ref l, .int 0 0] }
  have hne : l ≠ s.heap.objs.size := Nat.ne_of_lt (Heap.lt_size hlh)
  have hnew : s.heap.get? s.heap.objs.size = none := fresh_at (Nat.le_refl _)
  refine ⟨s.heap.objs.size, [s.heap.objs.size, l], fun i v => vs[i]? = some v, fun i h => h.IsListIter s.heap.objs.size l i ∧ h.IsList l vs, ρ, rfl, ?_⟩
  refine ⟨hnew, .keepAll hk, S.keepAll hk, S.none_of_fresh hnew, S.notin_of_fresh hnew, ?_, fun ρ' m i v e => ?_, fun a ha => ?_, fun i h x => ?_, ?_⟩
  · rw [← hz]; exact Walks.list hh _ l hne vs
  · obtain ⟨d, e1, i1⟩ := r.get' (k := i) (v := v) (by rw [Array.getElem?_toList]; exact e)
    exact ⟨d, e1, i1.mono m⟩
  · rcases List.mem_cons.mp ha with rfl | ha
    · exact .inl rfl
    · exact .inr ⟨_, List.mem_singleton.mp ha ▸ hl⟩
  · obtain ⟨⟨o, ho, _⟩, _⟩ := x; exact ⟨o, ho⟩
  · exact ⟨⟨_, Heap.get?_push_size _ rfl, rfl, rfl⟩, ⟨_, hk _ _ hlh, rfl, n, rfl⟩⟩

theorem Ev.iterRange {a b c : Int} {r : Addr} {n : Nat} {t u v : Tok} {items : List PyData} (hh : M.A.handled = none) (S : St M.h₀ ρ μ h) (hr : IsRange h r a b c t u v) (hsm : Builtin.Range.small a b c = true) (hsz : Builtin.Range.rangeSize a b c = n) (hlen : items.length = n)
    (hit : ∀ i, i < n → items[i]? = some (.int (a + i * c))) : Ev M (pyIter (.ref r)) (IterAt M ρ h items μ) h := by
  refine Ev.lift fun s hs _ Q' kk => ?_
  subst hs
  refine wpAny_pyIter_range hr hsm (kk _ _ s.toks ?_)
  have hk := kept s.heap { cls := .type "range_iterator", data := .fields #[rawInt a, rawInt (Builtin.Range.rangeSize a b c), rawInt c] }
  have hnew : s.heap.get? s.heap.objs.size = none := fresh_at (Nat.le_refl _)
  have W := (Walks.range (prog := M.prog) (w := M.w) hh s.heap.objs.size a c n).bound
  refine ⟨s.heap.objs.size, [s.heap.objs.size], (fun i v => i < n ∧ ∃ t, v = Value.int (a + i * c) t), (fun i h => IsRangeIter h s.heap.objs.size (a + (i : Nat) * c) ((n : Int) - (i : Nat)) c), ρ, rfl, ?_⟩
  refine ⟨hnew, .keepAll hk, S.keepAll hk, S.none_of_fresh hnew, S.notin_of_fresh hnew, hlen ▸ W, fun ρ' m i v e => ?_, fun a ha => .inl (List.mem_singleton.mp ha), fun i h x => ⟨_, x⟩, ?_⟩
  · obtain ⟨e1, t', rfl⟩ := e
    exact ⟨_, hit i e1, .int _ _⟩
  · show IsRangeIter _ _ _ _ _
    rw [hsz]
    simpa using Heap.get?_push_size _ rfl

structure SndI (ns : List Str) (sc : Scope) (e : Expr) (W : WI) : Prop where
  fs : ∀ env v, foldedSetIterable e env v = pure v
  go : ∀ {M : Mc} {ρ : Mp} {σ : Lo} {μ : Mem} {h : Heap} {k : List PyData → Mem → Prop} {Q : Value → Heap → Prop}, Wk ns sc M → St M.h₀ ρ μ h → FrS ρ M.env (sto ns σ) h → W M.c σ μ k →
    (∀ it h₂ items μ₁, IterAt M ρ h items μ₁ it h₂ → k items μ₁ → Q it h₂) → Ev M (eval e M.env) (fun v h₁ => Ev M (pyIter v) Q h₁) h

theorem SndI.items (hf : ∀ env v, foldedSetIterable x env v = pure v) (H : SndE ns sc x L) : SndI ns sc x (iItems L) := ⟨hf, fun {M ρ σ μ h k Q} X S F w q => by
  refine (H.go X S F w).useE fun v h₁ a ρ₁ μ₁ g₁ S₁ i₁ w => ?_
  cases a with
  | d d =>
    obtain ⟨xs, e, w⟩ := lstD.inv w
    cases e
    exact (Ev.iterList X.hh S₁ i₁).mono fun it h₂ x => q _ _ _ _ (x.trans g₁) w
  | h j =>
    obtain ⟨xs, hm, w⟩ := w
    obtain ⟨l, hl, rfl⟩ := i₁
    obtain ⟨ρ2, S2, i2, g2, _⟩ := S₁.freezeH hl hm
    exact (Ev.iterList X.hh S2 i2).mono fun it h₂ x => q _ _ _ _ (x.trans (g₁.trans (g2 []))) w⟩

theorem small_down {a : Int} (ha : 0 ≤ a) (ha' : a < 2 ^ 30) : Builtin.Range.small a (-1) (-1) = true := by
  unfold Builtin.Range.small Builtin.Range.rangeFitsLong Builtin.Range.rangeSize
  simp only [show ¬ ((-1 : Int) > 0) by decide, if_false, Bool.and_eq_true, Bool.or_eq_true, decide_eq_true_eq, show -(-1 : Int) = 1 from rfl, Int.ediv_one]
  split <;> (refine ⟨⟨⟨⟨?_, ?_⟩, ?_⟩, ?_⟩, .inr ?_⟩ <;> (constructor <;> omega))
theorem size_up {n : Nat} : Builtin.Range.rangeSize 0 n 1 = (n : Int) := by
  unfold Builtin.Range.rangeSize
  simp only [show ((1 : Int) > 0) by decide, if_true, Int.ediv_one]
  split <;> omega
theorem size_down {n : Nat} : Builtin.Range.rangeSize n (-1) (-1) = ((n + 1 : Nat) : Int) := by
  unfold Builtin.Range.rangeSize
  simp only [show ¬ ((-1 : Int) > 0) by decide, if_false, show -(-1 : Int) = 1 from rfl, Int.ediv_one]
  split <;> omega

theorem SndI.up {fp : Pos} (hx : isGlob sc "range" = true) (H : SndE ns sc x L) : SndI ns sc (.Call (.Name "range" fp) [x] [] p) (iUp L) := ⟨fun _ _ => rfl, fun {M ρ σ μ h k Q} X S F w q =>
  Ev.CallName (Ws := [L]) (k := fun _ _ => True) X S F hx (.inr X.G.range) (.one H) (Ev.callWith (first := []) rfl (Ev.spliced (.one H) X S F (k := fun as μ => oneP as fun a => intP a fun i => ∃ n : Nat, i = n ∧ n < 2 ^ 31 ∧ k (upTo n) μ) w fun vs h₁ as ρ₁ μ₁ g₁ S₁ i₁ _ w => by
    obtain ⟨a, rfl, w⟩ := oneP.inv w
    obtain ⟨v, rfl, i⟩ := i₁.inv1
    obtain ⟨_, rfl, n, rfl, hn, w⟩ := intP.inv w
    obtain ⟨t, rfl⟩ := is_int i
    refine Ev.lift fun s hs _ Q' kk => ?_
    subst hs
    have hk := fun o => kept s.heap o
    refine call_range_1 (kk _ _ (s.toks + 1 + 1) ?_)
    refine (Ev.iterRange (items := upTo n) (n := n) (a := 0) (b := n) (c := 1) X.hh (S₁.keepAll (hk _)) (Heap.get?_push_size _ rfl) (small_one (by decide) (by decide) (by omega) (by omega)) size_up (by simp [upTo]) ?_).mono fun it h₂ x => q _ _ _ _ (x.trans (g₁.trans (.keepAll (hk _)))) w
    intro i hi; simp [upTo, hi]))⟩
theorem SndI.down {fp : Pos} {y z : Expr} {V U : WE} (hx : isGlob sc "range" = true) (H : SndE ns sc x L) (H2 : SndE ns sc y V) (H3 : SndE ns sc z U) : SndI ns sc (.Call (.Name "range" fp) [x, y, z] [] p) (iDown L V U) := ⟨fun _ _ => rfl, fun {M ρ σ μ h k Q} X S F w q =>
  Ev.CallName (Ws := [L, V, U]) (k := fun _ _ => True) X S F hx (.inr X.G.range) (.cons H (.cons H2 (.one H3))) (Ev.callWith (first := []) rfl (Ev.spliced (.cons H (.cons H2 (.one H3))) X S F w fun vs h₁ as ρ₁ μ₁ g₁ S₁ i₁ _ w => by
    obtain ⟨a, b, c, rfl, w⟩ := threeP.inv w
    obtain ⟨_, _, _, rfl, i, j1, j2⟩ := i₁.inv3
    obtain ⟨_, rfl, w⟩ := intP.inv w
    obtain ⟨_, rfl, w⟩ := intP.inv w
    obtain ⟨_, rfl, n, rfl, rfl, rfl, hn, w⟩ := intP.inv w
    obtain ⟨t, rfl⟩ := is_int i
    obtain ⟨t, rfl⟩ := is_int j1
    obtain ⟨t, rfl⟩ := is_int j2
    refine Ev.lift fun s hs _ Q' kk => ?_
    subst hs
    have hk := fun o => kept s.heap o
    refine call_range_3 (by decide) (kk _ _ s.toks ?_) (.inl (PyProof.noPylong_small (by decide)))
    refine (Ev.iterRange (items := downFrom n) (n := n + 1) (a := n) (b := -1) (c := -1) X.hh (S₁.keepAll (hk _)) (Heap.get?_push_size _ rfl) (small_down (by omega) (by omega)) size_down (by simp [downFrom]) ?_).mono fun it h₂ x => q _ _ _ _ (x.trans (g₁.trans (.keepAll (hk _)))) w
    intro i hi; simp [downFrom, hi]; omega))⟩
end
end Mine
end
section
namespace Mine

inductive AFlow where
  | next | brk | cont
  | ret (a : AV)
abbrev KS := AFlow → Lo → Mem → Prop
abbrev WS := Cx → Lo → Mem → KS → Prop

inductive FlowIs (ρ : Mp) : Flow → AFlow → Prop
  | next : FlowIs ρ .next .next
  | brk : FlowIs ρ .brk .brk
  | cont : FlowIs ρ .cont .cont
  | ret {v a} : IsV ρ v a → FlowIs ρ (.ret v) (.ret a)

/-- how a statement or a block ends -/
def PX (M : Mc) (ns : List Str) (ρ : Mp) (h : Heap) (k : KS) (f : Flow) (h' : Heap) : Prop :=
  ∃ fl ρ' σ' μ', Grow (owned M.env) ρ h ρ' h' ∧ St M.h₀ ρ' μ' h' ∧ FrS ρ' M.env (sto ns σ') h' ∧ FlowIs ρ' f fl ∧ k fl σ' μ'

structure SndS (ns : List Str) (sc : Scope) (s : Stmt) (W : WS) : Prop where
  go : ∀ {M : Mc} {ρ : Mp} {σ : Lo} {μ : Mem} {h : Heap} {k : KS}, Wk ns sc M → St M.h₀ ρ μ h → FrS ρ M.env (sto ns σ) h → W M.c σ μ k → Ev M (exec s M.env) (PX M ns ρ h k) h
structure SndB (ns : List Str) (sc : Scope) (s : List Stmt) (W : WS) : Prop where
  go : ∀ {M : Mc} {ρ : Mp} {σ : Lo} {μ : Mem} {h : Heap} {k : KS}, Wk ns sc M → St M.h₀ ρ μ h → FrS ρ M.env (sto ns σ) h → W M.c σ μ k → Ev M (execs s M.env) (PX M ns ρ h k) h

def frzP (a : AV) (μ : Mem) (k : PyData → Mem → Prop) : Prop := match a with
  | .h j => ∃ xs, μ[j]? = some (.lst xs) ∧ k (.list xs) (μ.set j .dead)
  | .d x => k x μ
def seqP (W : WS) (c : Cx) (Q : KS) : KS
  | .next, σ, μ => W c σ μ Q
  | f, σ, μ => Q f σ μ
def sNil : WS := fun _ σ μ Q => Q .next σ μ
def sSeq (A B : WS) : WS := fun c σ μ Q => A c σ μ (seqP B c Q)
def sBlk : List WS → WS
  | [] => sNil
  | s :: r => sSeq s (sBlk r)
def unitP (a : AV) (k : Prop) : Prop := match a with
  | .d .none => k
  | _ => False
def sExpr (e : WE) : WS := fun c σ μ Q => e c σ μ fun a μ => unitP a (Q .next σ μ)
def sAsg (n : Nat) (e : WE) : WS := fun c σ μ Q => e c σ μ fun a μ => frzP a μ fun d μ => Q .next (σ.set n (some (.d d))) μ
def newP (n : Nat) (σ : Lo) (μ : Mem) (m : MO) (Q : KS) : Prop := Q .next (σ.set n (some (.h μ.length))) (μ ++ [m])
def sNewL (n : Nat) (es : List WE) : WS := fun c σ μ Q => wArgs es c σ μ fun as μ => datsP as fun ds => newP n σ μ (.lst ds) Q
def sNewS (n : Nat) : WS := fun _ σ μ Q => newP n σ μ (.set []) Q
def sSplit (n : Nat) (o : WE) (y : WE) : WS := fun c σ μ Q => o c σ μ fun a μ => strP a fun x => y c σ μ fun b μ => strP b fun z => z.length ≠ 0 ∧ x.length ≤ 1048576 ∧ newP n σ μ (.lst ((Txt.split x z).map .str)) Q
def sTwo (n m : Nat) (e f : WE) : WS := fun c σ μ Q => e c σ μ fun a μ => f c σ μ fun b μ => datP a fun x => datP b fun y => Q .next ((σ.set m (some (.d y))).set n (some (.d x))) μ
def setAll : List Nat → List PyData → Lo → Lo
  | n :: ns, d :: ds, σ => setAll ns ds (σ.set n (some (.d d)))
  | _, _, σ => σ
def sUnpk (ns : List Nat) (e : WE) : WS := fun c σ μ Q => e c σ μ fun a μ => tupP a fun ds => ds.length = ns.length ∧ Q .next (setAll ns ds σ) μ
def storP (o i : AV) (x : PyData) (μ : Mem) (k : Mem → Prop) : Prop := mutP o μ fun j xs => intP i fun z => ∃ q : Nat, z = q ∧ q < xs.length ∧ xs.length < 2 ^ 31 ∧ k (μ.set j (.lst (xs.set q x)))
def sStore (o i e : WE) : WS := fun c σ μ Q => e c σ μ fun a μ => datP a fun x => o c σ μ fun b μ => i c σ μ fun j μ => storP b j x μ fun μ => Q .next σ μ
def delP (o i : AV) (μ : Mem) (k : Mem → Prop) : Prop := mutP o μ fun j xs => intP i fun z => ∃ q : Nat, idxOf z xs.length = some q ∧ xs.length ≤ sizeLine ∧ k (μ.set j (.lst (xs.eraseIdx q)))
def sDel (o i : WE) : WS := fun c σ μ Q => o c σ μ fun b μ => i c σ μ fun j μ => delP b j μ fun μ => Q .next σ μ
def sAug (f : Int → Int → Int) (n : Nat) (e : WE) : WS := fun c σ μ Q => varP (σ.getD n none) fun a => intP a fun x => e c σ μ fun b μ => intP b fun y => Q .next (σ.set n (some (.d (.int (f x y))))) μ
def sIf (t : WT) (a b : WS) : WS := fun c σ μ Q => t c σ μ fun v μ => condP v (a c σ μ Q) (b c σ μ Q)
def sRet (e : WE) : WS := fun c σ μ Q => e c σ μ fun a μ => Q (.ret a) σ μ
def sAssert (t : WT) : WS := fun c σ μ Q => t c σ μ fun v μ => v = true ∧ Q .next σ μ
def sCont : WS := fun _ σ μ Q => Q .cont σ μ
def sBrk : WS := fun _ σ μ Q => Q .brk σ μ
/-- a loop's turn -/
def turnP (I : Lo → Mem → Prop) (Q : KS) : KS
  | .next, σ, μ => I σ μ
  | .cont, σ, μ => I σ μ
  | .brk, σ, μ => Q .next σ μ
  | .ret a, σ, μ => Q (.ret a) σ μ
def sWhile (t : WT) (b : WS) : WS := fun c σ μ Q => ∃ I : Nat → Lo → Mem → Prop, (∃ n, I n σ μ) ∧ ∀ n σ μ, I n σ μ → t c σ μ fun v μ => condP v (b c σ μ (turnP (fun σ μ => ∃ j, j < n ∧ I j σ μ) Q)) (Q .next σ μ)
def forP (n : Nat) (b : WS) (c : Cx) (items : List PyData) (σ : Lo) (μ : Mem) (Q : KS) : Prop := ∃ I : List PyData → Lo → Mem → Prop, I items σ μ ∧
  (∀ d ds σ μ, I (d :: ds) σ μ → b c (σ.set n (some (.d d))) μ (turnP (I ds) Q)) ∧ ∀ σ μ, I [] σ μ → Q .next σ μ
def sFor (n : Nat) (e : WI) (b : WS) : WS := fun c σ μ Q => e c σ μ fun items μ => forP n b c items σ μ Q

def isVar (sc : Scope) (x : Str) : Bool := sc.names.lookup x == some .local || sc.names.lookup x == some .cell

section
variable {M : Mc} {ρ : Mp} {μ : Mem} {h : Heap} {ns : List Str} {sc : Scope} {σ : Lo} {x y : Expr} {L R : WE} {A B : WS} {p : Pos} {s : Stmt} {r : List Stmt} {k : KS} {T : WT} {n : Nat} {z : Str}

theorem sto_set {a : AV} {y : Str} {b : AV} : ∀ {ns : List Str} {σ : Lo} {n : Nat}, ns.Nodup → ns[n]? = some z → sto ns (σ.set n (some a)) y = some b → upd (sto ns σ) z a y = some b := by
  intro ns
  induction ns with
  | nil => intro σ n _ h _; cases h
  | cons w ns ih =>
    intro σ n hn h1 h2
    unfold upd
    by_cases hy : y = z
    · rw [if_pos hy]
      cases σ with
      | nil => cases h2
      | cons c σ => cases n with
        | zero => cases h1; rw [List.set_cons_zero] at h2; exact ((if_pos hy).symm.trans h2 : _)
        | succ n =>
          obtain ⟨hw, hn⟩ := List.nodup_cons.mp hn
          rw [List.set_cons_succ] at h2
          have h3 := (if_neg fun (e : y = w) => hw (e ▸ hy ▸ List.mem_of_getElem? h1)).symm.trans h2
          have h4 := ih hn h1 h3
          unfold upd at h4
          rw [if_pos hy] at h4; exact h4
    · rw [if_neg hy]
      cases σ with
      | nil => cases h2
      | cons c σ => cases n with
        | zero =>
          cases h1
          rw [List.set_cons_zero] at h2
          exact (if_neg hy).trans ((if_neg hy).symm.trans h2)
        | succ n =>
          rw [List.set_cons_succ] at h2
          show (if y = w then c else sto ns σ y) = _
          have h2 : (if y = w then c else sto ns (σ.set n (some a)) y) = some b := h2
          by_cases hw : y = w
          · rw [if_pos hw] at h2 ⊢; exact h2
          · rw [if_neg hw] at h2 ⊢
            have h4 := ih (List.nodup_cons.mp hn).2 h1 h2
            unfold upd at h4
            rw [if_neg hy] at h4; exact h4

theorem isVar_kind (hx : isVar sc z = true) (e : M.env.scope = sc) : M.env.kindOf z = some .local ∨ M.env.kindOf z = some .cell := by
  unfold Env.kindOf
  rw [e]
  unfold isVar at hx
  rw [Bool.or_eq_true, beq_iff_eq, beq_iff_eq] at hx
  exact hx
theorem Ev.storeN {a : AV} {v : Value} {Q : Unit → Heap → Prop} (X : Wk ns sc M) (S : St M.h₀ ρ μ h) (F : FrS ρ M.env (sto ns σ) h) (hn : ns[n]? = some z) (hx : isVar sc z = true) (i : IsV ρ v a)
    (q : ∀ h', St M.h₀ ρ μ h' → FrS ρ M.env (sto ns (σ.set n (some a))) h' → Grow (owned M.env) ρ h ρ h' → Q () h') : Ev M (storeName M.env z v) Q h :=
  Ev.storeVar S F (isVar_kind hx X.sc) i fun h' S' F' g => q h' S' (F'.weaken fun _ _ => sto_set X.nd hn) g
theorem Ev.bindN {a : AV} {v : Value} {Q : Unit → Heap → Prop} (X : Wk ns sc M) (S : St M.h₀ ρ μ h) (F : FrS ρ M.env (sto ns σ) h) (hn : ns[n]? = some z) (hx : isVar sc z = true) (i : IsV ρ v a)
    (q : ∀ h', St M.h₀ ρ μ h' → FrS ρ M.env (sto ns (σ.set n (some a))) h' → Grow (owned M.env) ρ h ρ h' → Q () h') : Ev M (bindName M.env z v) Q h :=
  Ev.bindVar S F (isVar_kind hx X.sc) i fun h' S' F' g => q h' S' (F'.weaken fun _ _ => sto_set X.nd hn) g

theorem PX.mk {f fl ρ' h' σ' μ'} (g : Grow (owned M.env) ρ h ρ' h') (S : St M.h₀ ρ' μ' h') (F : FrS ρ' M.env (sto ns σ') h') (i : FlowIs ρ' f fl) (q : k fl σ' μ') : PX M ns ρ h k f h' := ⟨fl, ρ', σ', μ', g, S, F, i, q⟩
theorem PX.el {f h'} {P : Prop} (r : PX M ns ρ h k f h') (q : ∀ fl ρ' σ' μ', Grow (owned M.env) ρ h ρ' h' → St M.h₀ ρ' μ' h' → FrS ρ' M.env (sto ns σ') h' → FlowIs ρ' f fl → k fl σ' μ' → P) : P := by
  obtain ⟨fl, ρ', σ', μ', g, S, F, i, r⟩ := r
  exact q fl ρ' σ' μ' g S F i r
theorem PX.trans {f ρ₁ h₁ h'} (g : Grow (owned M.env) ρ h ρ₁ h₁) (r : PX M ns ρ₁ h₁ k f h') : PX M ns ρ h k f h' := r.el fun _ _ _ _ g' S F i q => .mk (g.trans g') S F i q
/-- behind a part that binds no name -/
theorem PX.of0 {f fl ρ' h' μ'} (F : FrS ρ M.env (sto ns σ) h) (g : Grow [] ρ h ρ' h') (S : St M.h₀ ρ' μ' h') (i : FlowIs ρ' f fl) (q : k fl σ μ') : PX M ns ρ h k f h' := .mk g.up S (F.grow0 g) i q

theorem SndB.nil : SndB ns sc [] (sBlk []) := ⟨fun _ S F w => by
  rw [arm_execs_nil]
  exact Ev.pure (.mk .refl S F .next w)⟩
theorem SndB.cons {Ws : List WS} (H : SndS ns sc s A) (Hr : SndB ns sc r (sBlk Ws)) : SndB ns sc (s :: r) (sBlk (A :: Ws)) := ⟨fun {M ρ σ μ h k} X S F w => by
  rw [arm_execs_cons]
  refine Ev.bind ((H.go X S F w).mono fun f h₁ q => q.el fun fl ρ' σ' μ' g S' F' i w' => ?_)
  cases i with
  | next => exact (Hr.go X S' F' w').mono fun f h' q => PX.trans g q
  | brk => exact Ev.pure (.mk g S' F' .brk w')
  | cont => exact Ev.pure (.mk g S' F' .cont w')
  | ret i => exact Ev.pure (.mk g S' F' (.ret i) w')⟩

theorem not_interactive {σ : Sto} (F : FrS ρ M.env σ h) : interactive M.env = false := by
  unfold interactive; rw [F.fn]; rfl

theorem SndS.expr (hc : ∀ t l env, swapsWith x t l env = pure false) (H : SndE ns sc x L) : SndS ns sc (.Expr x p) (sExpr L) := ⟨fun {M ρ σ μ h k} X S F w => by
  rw [exec_Expr M.env x p (not_interactive F) (hc _ _ _)]
  refine Ev.bind (Ev.standAt (Ev.bind ((H.go X S F w).useE fun v h₁ a ρ₁ μ₁ g₁ S₁ i₁ w => ?_)))
  have : a = .d .none ∧ k .next σ μ₁ := by
    rcases a with (_ | _ | _ | _ | _ | _ | _) | _ <;> first | exact ⟨rfl, w⟩ | exact w.elim
  obtain ⟨rfl, w⟩ := this
  cases is_none i₁
  rw [dropValue_plain (fun a e => by cases e)]
  exact Ev.pure (.of0 F g₁ S₁ .next w)⟩

theorem Ev.bindPX {a : AV} {v : Value} {ρ₁ h₁} (X : Wk ns sc M) (F : FrS ρ M.env (sto ns σ) h) (g : Grow [] ρ h ρ₁ h₁) (S : St M.h₀ ρ₁ μ h₁) (hn : ns[n]? = some z) (hx : isVar sc z = true) (i : IsV ρ₁ v a) (q : k .next (σ.set n (some a)) μ) :
    Ev M (bindName M.env z v >>= fun _ => Pure.pure Flow.next) (PX M ns ρ h k) h₁ :=
  Ev.bind (Ev.bindN X S (F.grow0 g) hn hx i fun _ S₂ F₂ g₂ => Ev.pure (.mk (g.up.trans g₂) S₂ F₂ .next q))

theorem Ev.asg {t : KE} {pz : Pos} (hc : ∀ t l env, swapsWith x t l env = Pure.pure false) (X : Wk ns sc M) (F : FrS ρ M.env (sto ns σ) h) (hn : ns[n]? = some z) (hx : isVar sc z = true) (H : Ev M (eval x M.env) (PE M ρ h t) h) (q : ∀ a μ, t a μ → k .next (σ.set n (some a)) μ) :
    Ev M (exec (.Assign [.Name z pz] x p) M.env) (PX M ns ρ h k) h := by
  rw [exec_Assign_Name M.env z pz x p (hc _ _ _)]
  exact Ev.bind (Ev.standAt (Ev.bind (H.useE fun v h₁ a ρ₁ μ₁ g₁ S₁ i₁ w => Ev.bind (Ev.standAt (Ev.bindPX X F g₁ S₁ hn hx i₁ (q _ _ w))))))

theorem PE.frz {v h'} {k : PyData → Mem → Prop} (r : PE M ρ h (fun a μ => frzP a μ k) v h') : PE M ρ h (fun a μ => ∃ d, a = .d d ∧ k d μ) v h' := r.el fun a ρ' μ' g S i w => by
  cases a with
  | d d => exact .mk g S i ⟨d, rfl, w⟩
  | h j =>
    obtain ⟨xs, hm, w⟩ := w
    obtain ⟨l, hl, rfl⟩ := i
    obtain ⟨ρ2, S2, i2, g2, _⟩ := S.freezeH hl hm
    exact .mk (a := .d (.list xs)) (g.trans (g2 [])) S2 i2 ⟨_, rfl, w⟩
theorem SndS.asg {pz : Pos} (hc : ∀ t l env, swapsWith x t l env = pure false) (hn : ns[n]? = some z) (hx : isVar sc z = true) (H : SndE ns sc x L) : SndS ns sc (.Assign [.Name z pz] x p) (sAsg n L) := ⟨fun {M ρ σ μ h k} X S F w =>
  Ev.asg hc X F hn hx ((H.go X S F w).mono fun v h' r => r.frz) fun a μ ⟨d, e, q⟩ => e ▸ q⟩
end
end Mine
end
section
namespace Mine
section
variable {M : Mc} {ρ : Mp} {μ : Mem} {h : Heap} {ns : List Str} {sc : Scope} {σ : Lo} {x y : Expr} {L R : WE} {A B : WS} {p : Pos} {s : Stmt} {r : List Stmt} {k : KS} {T : WT} {n : Nat} {z : Str}

/-! what a mutable name is bound to -/
theorem Res.handle {m : MO} {h' : Heap} (S : St M.h₀ ρ μ h) (hm : MIs ρ.f h' h.objs.size m) (hk : ∀ b o, h.get? b = some o → h'.get? b = some o) : Res M ρ h (.h μ.length) (μ ++ [m]) (.ref h.objs.size) h' := by
  obtain ⟨S', g⟩ := S.handle (m := m) (fresh_at (Nat.le_refl h.objs.size)) hm hk
  exact ⟨_, g [], S', h.objs.size, by rw [← S.len]; exact List.getElem?_concat_length, rfl⟩
theorem Ev.newListH {vs : List Value} {ds : List PyData} (S : St M.h₀ ρ μ h) (i : IsAll ρ.f vs ds) (hz : vs.length ≤ sizeLine) : Ev M (PySem.newList vs) (Res M ρ h (.h μ.length) (μ ++ [.lst ds])) h := by
  refine Ev.lift fun s hs _ Q' k => ?_
  subst hs
  exact wpAny_newObj_type (k _ _ s.toks (.handle S (.lst 0 vs.toArray (get_push_new _ _) i) (kept _ _))) hz
theorem Ev.newSetH (S : St M.h₀ ρ μ h) : Ev M (call (.type "set") []) (Res M ρ h (.h μ.length) (μ ++ [.set []])) h := by
  refine Ev.lift fun s hs _ Q' k => ?_
  subst hs
  refine call_set_0 fun led => ?_
  refine k _ _ s.toks (.handle S (.set ⟨M.prog, M.w, _, #[], 0, _, Heap.get?_push_size _ rfl, ⟨rfl, rfl, rfl⟩, rfl, fun e he => by simp at he, fun k => by simp, by decide, by rfl, rfl⟩) (kept _ _))

/-- a name bound to a new object -/
theorem SndS.new {W : Cx → Lo → Mem → (MO → Mem → Prop) → Prop} {pz : Pos} (hc : ∀ t l env, swapsWith x t l env = pure false) (hn : ns[n]? = some z) (hx : isVar sc z = true)
    (H : ∀ {M : Mc} {ρ : Mp} {σ : Lo} {μ : Mem} {h : Heap} {k : MO → Mem → Prop}, Wk ns sc M → St M.h₀ ρ μ h → FrS ρ M.env (sto ns σ) h → W M.c σ μ k → Ev M (eval x M.env) (PE M ρ h fun a μ' => ∃ μ m, a = .h μ.length ∧ μ' = μ ++ [m] ∧ k m μ) h) :
    SndS ns sc (.Assign [.Name z pz] x p) fun c σ μ Q => W c σ μ fun m μ => newP n σ μ m Q := ⟨fun {M ρ σ μ h k} X S F w =>
  Ev.asg hc X F hn hx (H X S F w) fun a μ' ⟨μ, m, e1, e2, q⟩ => by rw [e1, e2]; exact q⟩
theorem SndS.newL {es : List Expr} {Ws : List WE} {pz pl : Pos} (hz : Nat.ble es.length 1000 = true) (hn : ns[n]? = some z) (hx : isVar sc z = true) (H : SndL ns sc es Ws) : SndS ns sc (.Assign [.Name z pz] (.List es pl) p) (sNewL n Ws) :=
  .new (W := fun c σ μ k => wArgs Ws c σ μ fun as μ => datsP as fun ds => k (.lst ds) μ) (fun _ _ _ => rfl) hn hx fun {M ρ σ μ h k} X S F w => by
    rw [arm_eval_List, H.star, backTo_trees]
    refine Ev.bind (Ev.standAt (Ev.bind (Ev.spliced H X S F w fun vs h' as ρ' μ' g S' i hl w => ?_)))
    obtain ⟨ds, ia, q⟩ := datsP.is i w
    exact (Ev.newListH S' ia (hl ▸ small_line hz)).pe g ⟨_, _, rfl, rfl, q⟩
theorem SndS.newS {pz pf pl : Pos} (hg : isGlob sc "set" = true) (hn : ns[n]? = some z) (hx : isVar sc z = true) : SndS ns sc (.Assign [.Name z pz] (.Call (.Name "set" pf) [] [] pl) p) (sNewS n) :=
  .new (W := fun _ _ μ k => k (.set []) μ) (fun _ _ _ => rfl) hn hx fun {M ρ σ μ h k} X S F w =>
    Ev.CallName (k := fun _ _ => True) X S F hg (.inr X.G.set) .nil (Ev.callWith (first := []) rfl fun s hs ht => Calls.spliced_nil ⟨rfl, rfl, hs ▸ (Ev.newSetH S).pe .refl ⟨_, _, rfl, rfl, w⟩⟩)
theorem SndS.split {o : Expr} {pz apos pos : Pos} (ho : ∀ env, attributeBase o "split" env (eval o env) = eval o env) (hp : apos.endLine = pos.line) (hn : ns[n]? = some z) (hx : isVar sc z = true) (H : SndE ns sc o L) (H2 : SndE ns sc y R) :
    SndS ns sc (.Assign [.Name z pz] (.Call (.Attribute o "split" apos) [y] [] pos) p) (sSplit n L R) :=
  .new (W := fun c σ μ k => L c σ μ fun a μ => strP a fun x => R c σ μ fun b μ => strP b fun z => z.length ≠ 0 ∧ x.length ≤ 1048576 ∧ k (.lst ((Txt.split x z).map .str)) μ) (fun _ _ _ => rfl) hn hx fun {M ρ σ μ h k} X S F w => by
    refine evMethod (ho _) hp (Nat.lt_of_succ_le (Nat.le_of_ble_eq_true rfl)) (.one H2) ((H.go X S F w).useE fun v h₁ a ρ₁ μ₁ g₁ S₁ i₁ w => ?_)
    obtain ⟨x, rfl, w⟩ := strP.inv w
    refine ⟨"str.split", _, on_str i₁ PySem.F.slot_str_split PySem.F.type_str_split, ?_⟩
    refine Ev.spliced (Ws := [R]) (.one H2) X S₁ (F.grow0 g₁) (k := fun as μ => oneP as fun b => strP b fun z => z.length ≠ 0 ∧ x.length ≤ 1048576 ∧ k (.lst ((Txt.split x z).map .str)) μ) w fun vs h₂ as ρ₂ μ₂ g₂ S₂ i₂ _ w => ?_
    obtain ⟨b, rfl, w⟩ := oneP.inv w
    obtain ⟨y, rfl, hy, hz, w⟩ := strP.inv w
    obtain ⟨_, rfl, j⟩ := i₂.inv1
    obtain ⟨t, rfl⟩ := is_str i₁
    obtain ⟨u, rfl⟩ := is_str j
    refine Ev.lift fun s hs _ Q' kk => ?_
    subst hs
    exact split_call (beq_eq_false_iff_ne.mpr hy) hz fun l tk hl => kk _ _ tk ((Res.trans (g₁.trans g₂) (Res.handle S₂ (.lst 0 _ (get_push_new _ _) (hl ▸ strs_is l)) (kept _ _))).pe ⟨_, _, rfl, rfl, w⟩)

/-- a tuple, unpacked -/
theorem Ev.unpackTup {t : Addr} {vs : Array Value} {k n : Nat} (hh : M.A.handled = none) (S : St M.h₀ ρ μ h) (ho : h.get? t = some { cls := .type "tuple", data := .seq vs k }) (hn : vs.size = n) {Q : List Value → Heap → Prop}
    (q : ∀ h', St M.h₀ ρ μ h' → Grow [] ρ h ρ h' → Q vs.toList h') : Ev M (unpackItems (.ref t) n none) Q h := by
  subst hn
  refine Ev.lift fun s hs _ Q' kk => ?_
  subst hs
  refine wpAny_unpackItems_tuple hh ⟨_, ho, rfl, k, rfl⟩ fun h' he => ?_
  have hk : ∀ b o, s.heap.get? b = some o → h'.get? b = some o := fun b o e => he b o (Nat.ne_of_lt (Heap.lt_size e)) e
  exact kk _ h' s.toks (q h' (S.keepAll hk) (.keepAll hk))

/-- names in a row -/
inductive Names (ns : List Str) (sc : Scope) : List Expr → List Nat → Prop
  | nil : Names ns sc [] []
  | cons {z n p ts js} : ns[n]? = some z → isVar sc z = true → Names ns sc ts js → Names ns sc (.Name z p :: ts) (n :: js)
theorem each_Name {x : Str} {p : Pos} {ts : List Expr} (env : Env) : assignEach (.Name x p :: ts) env = (false, assign (.Name x p) env) :: assignEach ts env := rfl
theorem each_Tuple {ts : List Expr} {k : Nat} {p : Pos} (env : Env) : (assignEach [.Tuple ts k p] env).map (·.2) = [assign (.Tuple ts k p) env] := rfl
theorem Names.each {ts js} (H : Names ns sc ts js) (env : Env) : (assignEach ts env).length = js.length ∧ (assignEach ts env).findIdx? (·.1) = none := by
  induction H with
  | nil => exact ⟨rfl, rfl⟩
  | cons _ _ _ ih =>
    rw [each_Name]
    refine ⟨congrArg Nat.succ ih.1, ?_⟩
    rw [List.findIdx?_cons, ih.2]; rfl
theorem Names.go {ts js} (H : Names ns sc ts js) (X : Wk ns sc M) : ∀ {ds : List PyData} {vs : List Value} {ρ : Mp} {h : Heap} {σ : Lo}, IsAll ρ.f vs ds → ds.length = js.length → St M.h₀ ρ μ h → FrS ρ M.env (sto ns σ) h → k .next (setAll js ds σ) μ →
    Ev M (assignInOrder ((assignEach ts M.env).map (·.2)) vs) (fun _ h' => PX M ns ρ h k .next h') h := by
  induction H with
  | nil =>
    intro ds vs ρ h σ i hl S F q
    cases List.eq_nil_of_length_eq_zero hl
    exact Ev.pure (.mk .refl S F .next q)
  | cons hn hx _ ih =>
    intro ds vs ρ h σ i hl S F q
    cases i with
    | nil => cases hl
    | cons i1 i2 =>
      rw [each_Name, List.map_cons]
      unfold assignInOrder
      dsimp only
      rw [arm_assign_Name]
      refine Ev.bind (Ev.holding (Ev.bind (Ev.standAt (Ev.bindN (a := .d _) X S F hn hx i1 fun h₂ S₂ F₂ g₂ => ?_))))
      exact (ih (i2.mono g₂.rho) (Nat.succ.inj hl) S₂ F₂ q).mono fun _ h' r => r.trans g₂

theorem SndS.unpk {ts : List Expr} {js : List Nat} {j : Nat} {tp : Pos} (hs : ∀ t l env, swapsWith x t l env = pure false) (hw : ∀ env, swappedStores [.Tuple ts j tp] x env = pure none) (Hn : Names ns sc ts js) (H : SndE ns sc x L) : SndS ns sc (.Assign [.Tuple ts j tp] x p) (sUnpk js L) := ⟨fun {M ρ σ μ h k} X S F w => by
  have hs' : swapsWithSole [.Tuple ts j tp] x p.line M.env = pure false := by show swapsWith x (some (.Tuple ts j tp)) p.line M.env = pure false; exact hs _ _ _
  rw [PyProof.Rows.exec_Assign, hs']
  refine Ev.bind (Ev.standAt (Ev.bind (Ev.pure ?_)))
  rw [if_neg (by decide)]
  refine Ev.bind ((H.go X S F w).useE fun v h₁ a ρ₁ μ₁ g₁ S₁ i₁ w => ?_)
  rw [hw]
  refine Ev.bind (Ev.pure ?_)
  obtain ⟨ds, rfl, hl, w⟩ := tupP.inv w
  obtain ⟨l, vs, n, rfl, hl', ia, hsz⟩ := is_tuple i₁
  obtain ⟨hz, hf⟩ := Hn.each M.env
  rw [each_Tuple]
  unfold assignStores assignAll
  refine Ev.bind ?_
  rw [arm_assign_Tuple]
  refine Ev.bind (Ev.standAt ?_)
  unfold unpack
  rw [hf, hz]
  refine Ev.bind (Ev.holding (Ev.unpackTup X.hh S₁ (S₁.fz _ _ hl') (hsz.trans hl) fun h₂ S₂ g₂ => ?_))
  exact (Hn.go X ia hl S₂ ((F.grow0 g₁).grow0 g₂) w).mono fun _ h₃ q => Ev.pure (q.trans (g₁.trans g₂).up)⟩

def pairP (ds : List PyData) (k : PyData → PyData → Prop) : Prop := match ds with
  | [x, y] => k x y
  | _ => False
theorem pairP.inv {ds k} (w : pairP ds k) : ∃ x y, ds = [x, y] ∧ k x y := by
  rcases ds with _ | ⟨x, _ | ⟨y, _ | _⟩⟩
  · exact w.elim
  · exact w.elim
  · exact ⟨x, y, rfl, w⟩
  · exact w.elim
theorem SndS.two {e f : Expr} {j j' m : Nat} {u : Str} {tp vp pz pu : Pos} (hw : ∀ env, env.scope = sc → swappedStores [.Tuple [.Name z pz, .Name u pu] j tp] (.Tuple [e, f] j' vp) env = pure (some [z, u]))
    (hn : ns[n]? = some z) (hm : ns[m]? = some u) (hx : sc.names.lookup z = some .local) (hy : sc.names.lookup u = some .local) (H1 : SndE ns sc e L) (H2 : SndE ns sc f R) : SndS ns sc (.Assign [.Tuple [.Name z pz, .Name u pu] j tp] (.Tuple [e, f] j' vp) p) (sTwo n m L R) := ⟨fun {M ρ σ μ h k} X S F w => by
  have ix : isVar sc z = true := by unfold isVar; rw [hx]; rfl
  have iy : isVar sc u = true := by unfold isVar; rw [hy]; rfl
  rw [PyProof.Rows.exec_Assign]
  refine Ev.bind (Ev.standAt (Ev.bind (Ev.pure ?_)))
  rw [if_neg (by decide)]
  refine Ev.bind (((SndE.tup (j := j') (p := vp) rfl (.cons H1 (.one H2))).go (k := fun a μ => tupP a fun ds => pairP ds fun x y => k .next ((σ.set m (some (.d y))).set n (some (.d x))) μ) X S F w).useE fun v h₁ a ρ₁ μ₁ g₁ S₁ i₁ w => ?_)
  rw [hw M.env X.sc]
  refine Ev.bind (Ev.pure ?_)
  obtain ⟨ds, rfl, w2⟩ := tupP.inv w
  obtain ⟨a, b, rfl, w3⟩ := pairP.inv w2
  obtain ⟨l, vs, n, rfl, hl', ia, hsz⟩ := is_tuple i₁
  unfold assignStores
  refine Ev.bind (Ev.rule (Ev.bind (Ev.unpackTup X.hh S₁ (S₁.fz _ _ hl') hsz fun h₂ S₂ g₂ => ?_)))
  have F₂ := (F.grow0 g₁).grow0 g₂
  generalize vs.toList = vl at ia
  obtain ⟨va, _, rfl, ia1, ia⟩ := ia.uncons
  obtain ⟨vb, rfl, ib1⟩ := ia.inv1
  show Ev M (assignInOrder [fun v => bindName M.env u v, fun v => bindName M.env z v] [vb, va] >>= fun _ => pure Flow.next) _ h₂
  unfold assignInOrder
  refine Ev.bind (Ev.bind (Ev.holding (Ev.bindN (a := .d b) X S₂ F₂ hm iy ib1 fun h₃ S₃ F₃ g₃ => ?_)))
  unfold assignInOrder
  refine Ev.bind (Ev.holding (Ev.bindN (a := .d a) X S₃ F₃ hn ix (ia1.mono g₃.rho) fun h₄ S₄ F₄ g₄ => ?_))
  exact Ev.pure (Ev.pure (.mk (((g₁.trans g₂).up.trans g₃).trans g₄) S₄ F₄ .next w3))⟩
end
end Mine
end
section
namespace Mine

def EvC (M : Mc) (c : Code) (Q : Flow → Heap → Prop) (h : Heap) : Prop :=
  ∀ s : Shared, s.heap = h → 1 ≤ s.toks → codeAny (model M.prog M.w) M.A c (fun r s' => match r with
    | .ok f => s'.gens = s.gens ∧ s'.os = s.os ∧ Q f s'.heap
    | .error _ => False) s

theorem Grow.skip {X ρ h ρ₁ h₁ h₂} {I : Addr} (g : Grow X ρ h ρ₁ h₁) (hI : h.get? I = none) (hk : ∀ b o, b ≠ I → h₁.get? b = some o → h₂.get? b = some o) : Grow X ρ h ρ₁ h₂ :=
  { g with
    keep := fun b o e n1 n2 => hk b o (fun e' => by subst e'; rw [hI] at e; cases e) (g.keep b o e n1 n2)
    live := fun b o e => let ⟨o', e'⟩ := g.live b o e; ⟨o', hk b o' (fun e2 => by subst e2; rw [hI] at e; cases e) e'⟩ }

section
variable {M : Mc} {ρ : Mp} {μ : Mem} {h : Heap} {ns : List Str} {sc : Scope} {σ : Lo} {x y : Expr} {L R : WE} {A B : WS} {p : Pos} {s : Stmt} {r : List Stmt} {k : KS} {T : WT} {n : Nat} {z : Str} {env : Env}

theorem setItem_exact {s : Shared} {E : Value → Shared → Prop} {l : Addr} {items : Array Value} {n : Nat} {k : Int} {t : Tok} {v : Value} {Q : Unit → Shared → Prop} (ho : s.heap.get? l = some { cls := .type "list", data := .seq items n })
    (h0 : 0 ≤ k) (hfit : k < 2 ^ 63) (hn : k < items.size) (hQ : Q () { s with heap := s.heap.update l (Obj.mapSeq (·.setIfInBounds k.toNat v)) }) :
    wpAny (model M.prog M.w) M.A (setItem (.ref l) (.int k t) v) Q E s := by
  have hl : s.heap.IsList l items := ⟨_, ho, rfl, n, rfl⟩
  unfold setItem
  try with_reducible refine wpAny_holding ?_
  first | refine wpAny_bind (wpAny_pure ?_) | skip
  refine wpAny_bind (wpAny_sequenceKey hl.typeIs (by decide) ?_)
  refine wpAny_bind (wpAny_callSpecial?_slot (name := Str.ofString "__setitem__") hl.typeIs PySem.slot_list_setitem
    (wpAny_call_entry PySem.slot_list_setitem hl.typeIs PySem.entry_list_setitem ?_ (PySem.args_list_setitem _ _ _)))
  show wpAny _ _ (Builtin.List.listSubscript? (.int k t) >>= _) _ _ s
  refine wpAny_bind (wpAny_listSubscript_int (fitsIndex_of h0 hfit) ?_)
  clear hfit
  obtain ⟨j, rfl⟩ := Int.eq_ofNat_of_zero_le h0
  have hj : j < items.size := by omega
  have hx' : items[j]? = some items[j] := Array.getElem?_eq_getElem hj
  show wpAny _ _ ((seqItemAt l j >>= fun r => pure (r.map (j, ·))) >>= _) _ _ s
  refine wpAny_bind (wpAny_bind (wpAny_seqItemAt ho rfl (wpAny_pure ?_)))
  rw [hx']
  show wpAny _ _ (setSeqItemAt l j v >>= _) _ _ s
  refine wpAny_bind (wpAny_setSeqItemAt ho rfl ?_)
  first
    | exact wpAny_bind (wpAny_pure (wpAny_pure ⟨.none, rfl, wpAny_pure hQ⟩))
    | exact wpAny_pure ⟨.none, rfl, wpAny_pure hQ⟩


theorem Ev.setAt {v : Value} {x : PyData} {b a : AV} {o i : Value} {k : Mem → Prop} {Q : Unit → Heap → Prop} (S : St M.h₀ ρ μ h) (io : IsV ρ o b) (ii : IsV ρ i a) (ix : Is ρ.f v x) (w : storP b a x μ k)
    (q : ∀ h' μ', St M.h₀ ρ μ' h' → Grow [] ρ h ρ h' → k μ' → Q () h') : Ev M (setItem o i v) Q h := by
  obtain ⟨j, rfl, xs, hm, w⟩ := hndP.inv w
  obtain ⟨_, rfl, i, rfl, hi, hz, w⟩ := intP.inv w
  obtain ⟨l, vs, n, rfl, hl, ho, r, hsz⟩ := S.lst io hm
  obtain ⟨t, rfl⟩ := is_int ii
  refine Ev.lift fun s hs _ Q' kk => ?_
  subst hs
  refine setItem_exact ho (Int.natCast_nonneg _) (by omega) (by omega) (kk _ _ s.toks ?_)
  have ho' := IsL.update (h := s.heap) (l := l) (items := vs) (n := n) ho (fun xs => xs.setIfInBounds i v)
  obtain ⟨s', g⟩ := S.turn (m := .lst (xs.set i x)) (h' := s.heap.update l (Obj.mapSeq fun xs => xs.setIfInBounds i v)) hl hm (fun e => by cases e) (.lst _ _ ho' (by rw [Array.toList_setIfInBounds]; exact r.set i ix)) upd_other
  exact q _ _ s' (g []) w

theorem SndS.store {o i : Expr} {W V : WE} {ps : Pos} (hc : ∀ t l env, swapsWith x t l env = pure false) (Ho : SndE ns sc o W) (Hi : SndE ns sc i V) (H : SndE ns sc x L) : SndS ns sc (.Assign [.Subscript o i ps] x p) (sStore W V L) := ⟨fun {M ρ σ μ h k} X S F w => by
  rw [exec_Assign_Subscript _ _ _ _ _ (hc _ _ _)]
  refine Ev.bind (Ev.standAt (Ev.bind ((H.go X S F w).useE fun v h₁ a ρ₁ μ₁ g₁ S₁ i₁ w => ?_)))
  obtain ⟨d, rfl, w⟩ := datP.inv w
  refine Ev.bind ?_
  rw [assign_Subscript]
  refine Ev.bind (Ev.holding ((Ho.go X S₁ (F.grow0 g₁) w).useE fun ov h₂ b ρ₂ μ₂ g₂ S₂ i₂ w => ?_))
  refine Ev.bind (Ev.holding ((Hi.go X S₂ (F.grow0 (g₁.trans g₂)) w).useE fun iv h₃ c ρ₃ μ₃ g₃ S₃ i₃ w => ?_))
  refine Ev.bind (Ev.standAt (Ev.bind (Ev.holding (Ev.setAt S₃ (i₂.grow g₃) i₃ (IsV.grow (a := .d d) i₁ (g₂.trans g₃)) w fun h₄ μ₄ S₄ g₄ w => ?_))))
  exact Ev.release (Ev.pure (.of0 F ((g₁.trans (g₂.trans g₃)).trans g₄) S₄ .next w))⟩

theorem Ev.delAt {b a : AV} {o i : Value} {k : Mem → Prop} {Q : Unit → Heap → Prop} (S : St M.h₀ ρ μ h) (io : IsV ρ o b) (ii : IsV ρ i a) (w : delP b a μ k)
    (q : ∀ h' μ', St M.h₀ ρ μ' h' → Grow [] ρ h ρ h' → k μ' → Q () h') : Ev M (delItem o i) Q h := by
  obtain ⟨j, rfl, xs, hm, w⟩ := hndP.inv w
  obtain ⟨z, rfl, i, hi, hz, w⟩ := intP.inv w
  obtain ⟨l, vs, n, rfl, hl, ho, r, hsz⟩ := S.lst io hm
  obtain ⟨t, rfl⟩ := is_int ii
  obtain ⟨h1, h2, h3⟩ := idx_facts hi
  refine Ev.lift fun s hs _ Q' kk => ?_
  subst hs
  have ho' := IsL.update (h := s.heap) (l := l) (items := vs) (n := n) ho (fun xs => xs.eraseIdxIfInBounds i)
  obtain ⟨s', g⟩ := S.turn (m := .lst (xs.eraseIdx i)) (h' := s.heap.update l (Obj.mapSeq fun xs => xs.eraseIdxIfInBounds i)) hl hm (fun e => by cases e) (.lst _ _ ho' (by rw [Array.toList_eraseIdxIfInBounds]; exact r.eraseIdx i)) upd_other
  exact P.delItem_list ho h2 (by rw [hsz]; exact h1) (kk _ _ s.toks (q _ _ s' (g []) w)) (by rw [hsz]; exact hz)

theorem SndS.del {o i : Expr} {W V : WE} {ps : Pos} (Ho : SndE ns sc o W) (Hi : SndE ns sc i V) : SndS ns sc (.Delete [.Subscript o i ps] p) (sDel W V) := ⟨fun {M ρ σ μ h k} X S F w => by
  rw [arm_exec_Delete, arm_deleteEach_cons, arm_deleteEach_nil, arm_delete_Subscript]
  refine Ev.bind (Ev.standAt (Ev.bind (Ev.bind (Ev.bind ((Ho.go X S F w).useE fun ov h₂ b ρ₂ μ₂ g₂ S₂ i₂ w => ?_)))))
  refine Ev.bind (Ev.holding ((Hi.go X S₂ (F.grow0 g₂) w).useE fun iv h₃ c ρ₃ μ₃ g₃ S₃ i₃ w => ?_))
  refine Ev.bind (Ev.standAt (Ev.bind (Ev.holding (Ev.delAt S₃ (i₂.grow g₃) i₃ w fun h₄ μ₄ S₄ g₄ w => ?_))))
  exact Ev.release (Ev.pure (Ev.pure (.of0 F ((g₂.trans g₃).trans g₄) S₄ .next w)))⟩

def AugOk (op : Operator) (f : Int → Int → Int) : Prop := ∀ {M : Mc} {ρ : Mp} {μ : Mem} {h : Heap} {a b : Int} {t u : Tok}, St M.h₀ ρ μ h → Ev M (inplaceOp op (.int a t) (.int b u)) (Res M ρ h (.d (.int (f a b))) μ) h
theorem aug_add : AugOk .Add (fun a b => a + b) := fun S => Ev.ofInt S fun _ _ q => wpAny_iadd_int q
theorem aug_sub : AugOk .Sub (fun a b => a - b) := fun S => Ev.ofInt S fun _ _ q => PySem.AutoIntOps.isub_0 q
theorem SndS.aug {op : Operator} {f : Int → Int → Int} {pz : Pos} (O : AugOk op f) (hn : ns[n]? = some z) (hx : isVar sc z = true) (H : SndE ns sc x L) : SndS ns sc (.AugAssign (.Name z pz) op x p) (sAug f n L) := ⟨fun {M ρ σ μ h k} X S F w => by
  rw [exec_AugAssign_Name]
  obtain ⟨a, h1, w⟩ := varP.inv w
  obtain ⟨a, rfl, w⟩ := intP.inv w
  refine Ev.bind (Ev.standAt (Ev.bind (Ev.loadVar F (sto_get X.nd hn h1) fun v i => ?_)))
  obtain ⟨t, rfl⟩ := is_int i
  refine Ev.bind (Ev.holding ((H.go X S F w).useE fun v h₁ b ρ₁ μ₁ g₁ S₁ i₁ w => ?_))
  obtain ⟨b, rfl, w⟩ := intP.inv w
  obtain ⟨u, rfl⟩ := is_int i₁
  refine Ev.bind (Ev.standAt ?_)
  refine Ev.bind ?_
  refine Ev.operate ?_
  refine (O S₁).useR fun v h₂ ρ₂ g₂ S₂ i₂ => ?_
  refine Ev.bind (Ev.standAt ?_)
  exact Ev.bindPX X F (g₁.trans g₂) S₂ hn hx i₂ w⟩

theorem SndS.ite {t : Expr} {body orelse : List Stmt} (H : SndT ns sc t T) (Ha : SndB ns sc body A) (Hb : SndB ns sc orelse B) : SndS ns sc (.If t body orelse p) (sIf T A B) := ⟨fun {M ρ σ μ h k} X S F w => by
  rw [arm_exec_If]
  refine Ev.bind (Ev.standAt (Ev.bind (H.go X S F w fun b h' ρ' μ' g S' c => ?_)))
  cases b with
  | true => exact (Ha.go X S' (F.grow0 g) (c.1 rfl)).mono fun f h' q => q.trans g.up
  | false => exact (Hb.go X S' (F.grow0 g) (c.2 rfl)).mono fun f h' q => q.trans g.up⟩
theorem SndS.ret (H : SndE ns sc x L) : SndS ns sc (.Return (some x) p) (sRet L) := ⟨fun {M ρ σ μ h k} X S F w => by
  rw [exec_Return_some]
  exact Ev.bind (Ev.standAt (Ev.bind ((H.go X S F w).useE fun v h₁ a ρ₁ μ₁ g₁ S₁ i₁ w => Ev.pure (.of0 F g₁ S₁ (.ret i₁) w))))⟩
theorem SndS.assert {t : Expr} (H : SndT ns sc t T) : SndS ns sc (.Assert t none p) (sAssert T) := ⟨fun {M ρ σ μ h k} X S F w => by
  rw [arm_exec_Assert]
  refine Ev.bind (Ev.standAt (Ev.bind (H.go X S F w fun b h' ρ' μ' g S' c => ?_)))
  obtain ⟨rfl, c⟩ := c
  exact Ev.pure (.of0 F g S' .next c)⟩
theorem SndS.cont : SndS ns sc (.Continue p) sCont := ⟨fun X S F w => by
  rw [arm_exec_Continue]; exact Ev.bind (Ev.standAt (Ev.pure (.mk .refl S F .cont w)))⟩
theorem SndS.brk : SndS ns sc (.Break p) sBrk := ⟨fun X S F w => by
  rw [arm_exec_Break]; exact Ev.bind (Ev.standAt (Ev.pure (.mk .refl S F .brk w)))⟩

theorem EvC.runOwn {c : Code} {Q : Flow → Heap → Prop} (x : EvC M c Q h) : Ev M (PySem.runOwn c env) Q h := by
  intro s hs ht
  refine wpAny_runOwn (codeAny_mono (x s hs ht) fun r s' q => ?_)
  cases r with
  | ok f => exact q
  | error e => exact q.elim

theorem SndS.while {t : Expr} {body : List Stmt} (H : SndT ns sc t T) (Hb : SndB ns sc body B) : SndS ns sc (.While t body [] p) (sWhile T B) := ⟨fun {M ρ σ μ h k} X S F w => by
  rw [exec_While]
  obtain ⟨I, ⟨n, h0⟩, st⟩ := w
  refine Ev.bind (Ev.standAt (EvC.runOwn fun s₀ hs htk => ?_))
  subst hs
  refine codeAny_whileLoop (fun n s => ∃ ρ₁ σ₁ μ₁, I n σ₁ μ₁ ∧ St M.h₀ ρ₁ μ₁ s.heap ∧ FrS ρ₁ M.env (sto ns σ₁) s.heap ∧ Grow (owned M.env) ρ s₀.heap ρ₁ s.heap ∧ 1 ≤ s.toks ∧ s.gens = s₀.gens ∧ s.os = s₀.os) ?_ n ⟨ρ, σ, μ, h0, S, F, .refl, htk, rfl, rfl⟩
  rintro n s ⟨ρ₁, σ₁, μ₁, hI, S₁, F₁, g₁, htk₁, hg₁, hos₁⟩
  refine wpAny_mono (wpAny_toks_of htk₁ (H.go X S₁ F₁ (st _ _ _ hI) (Q := fun b h' => ∃ ρ' μ', Grow [] ρ₁ s.heap ρ' h' ∧ St M.h₀ ρ' μ' h' ∧ condP b (B M.c σ₁ μ' (turnP (fun σ μ => ∃ j, j < n ∧ I j σ μ) k)) (k .next σ₁ μ')) (fun b h' ρ' μ' g S' c => ⟨ρ', μ', g, S', c⟩) s rfl htk₁)) (fun b s₂ q => ?_) fun _ _ q => q.2.elim
  obtain ⟨htk₂, hg₂, hos₂, ρ₂, μ₂, g₂, S₂, c⟩ := q
  have F₂ := F₁.grow0 g₂
  have g₁₂ := g₁.trans g₂.up
  cases b with
  | false => exact wpAny_execs_nil ⟨hg₂.trans hg₁, hos₂.trans hos₁, .mk g₁₂ S₂ F₂ .next (c.2 rfl)⟩
  | true =>
    refine wpAny_mono (wpAny_toks_of htk₂ (Hb.go X S₂ F₂ (c.1 rfl) s₂ rfl htk₂)) (fun f s₃ q => ?_) fun _ _ q => q.2.elim
    obtain ⟨htk₃, hg₃, hos₃, q⟩ := q
    have eg := hg₃.trans (hg₂.trans hg₁)
    have eo := hos₃.trans (hos₂.trans hos₁)
    refine q.el fun fl ρ₃ σ₃ μ₃ g₃ S₃ F₃ i w => ?_
    have g := g₁₂.trans g₃
    cases i with
    | next => exact w.elim fun j w => ⟨j, w.1, ρ₃, σ₃, μ₃, w.2, S₃, F₃, g, htk₃, eg, eo⟩
    | cont => exact w.elim fun j w => ⟨j, w.1, ρ₃, σ₃, μ₃, w.2, S₃, F₃, g, htk₃, eg, eo⟩
    | brk => exact ⟨eg, eo, .mk g S₃ F₃ .next w⟩
    | ret i => exact ⟨eg, eo, .mk g S₃ F₃ (.ret i) w⟩⟩

/-- what holds of an iterator's place: it is no one else's -/
structure Lone (I : Addr) (ρ : Mp) (env : Env) : Prop where
  fz : ρ.f I = none
  nh : I ∉ ρ.l
  no : I ∉ owned env
theorem Lone.grow {I : Addr} {o : Obj} {ρ h ρ' h' X} (x : Lone I ρ env) (g : Grow X ρ h ρ' h') (ho : h.get? I = some o) : Lone I ρ' env := ⟨(g.lone ho x.fz x.nh).2, (g.lone ho x.fz x.nh).1, x.no⟩

theorem IterOf.frame {ρ h items μ₁ h₂ I fp P It ρw} (o : IterOf M ρ h items μ₁ h₂ I fp P It ρw) {X ρa μa ha ρb μb hb i} (hρ : ∀ a o, ρw.f a = some o → ρa.f a = some o) (Sa : St M.h₀ ρa μa ha) (Sb : St M.h₀ ρb μb hb) (g : Grow X ρa ha ρb hb) (nh : I ∉ ρa.l) (no : I ∉ X) (st : It i ha) : It i hb :=
  o.wk.frame _ _ _ st fun a hm ob eo => by
    rcases o.hfp a hm with rfl | ⟨o', ho'⟩
    · exact g.keep _ ob eo nh no
    · have e := Sa.fz a o' (hρ _ _ ho')
      rw [e] at eo; cases eo
      exact Sb.fz a _ (g.rho _ _ (hρ _ _ ho'))

theorem SndS.for {e : Expr} {W : WI} {body : List Stmt} {pz : Pos} (hn : ns[n]? = some z) (hx : isVar sc z = true) (H : SndI ns sc e W) (Hb : SndB ns sc body B) : SndS ns sc (.For (.Name z pz) e body [] p) (sFor n W B) := ⟨fun {M ρ σ μ h k} X S F w => by
  rw [arm_exec_For]
  refine Ev.bind (Ev.standAt (Ev.bind ((H.go (Q := fun it h₂ => Ev M (PySem.runOwn (.forLoop (.Name z pz) it body [] M.env) M.env) (PX M ns ρ h k) h₂) X S F w fun it h₂ items μ₁ a w => ?_).mono fun v h₁ q => ?_)))
  rotate_left
  · rw [H.fs]
    exact Ev.bind (Ev.pure (Ev.bind (Ev.standAt (Ev.bind (Ev.holding q)))))
  obtain ⟨I, fp, P, It, ρw, rfl, o⟩ := a
  obtain ⟨J, h0, hs, hf⟩ := w
  refine EvC.runOwn fun s₀ hs₀ ht => ?_
  subst hs₀
  have no := F.notown o.new
  refine codeAny_forLoop (fun n s' => ∃ i ρ₁ σ₁ μ₁, n = items.length - i ∧ i ≤ items.length ∧ J (items.drop i) σ₁ μ₁ ∧ (∀ a o, ρw.f a = some o → ρ₁.f a = some o) ∧ St M.h₀ ρ₁ μ₁ s'.heap ∧ FrS ρ₁ M.env (sto ns σ₁) s'.heap ∧ Grow (owned M.env) ρ h ρ₁ s'.heap ∧ Lone I ρ₁ M.env ∧ It i s'.heap ∧ 1 ≤ s'.toks ∧ s'.gens = s₀.gens ∧ s'.os = s₀.os) ?_ items.length
    ⟨0, ρw, σ, μ₁, rfl, Nat.zero_le _, h0, (fun _ _ e => e), o.st, F.grow0 o.gr, o.gr.up, ⟨o.fz, o.nh, no⟩, o.it0, ht, rfl, rfl⟩
  rintro n s' ⟨i, ρ₁, σ₁, μ₁, rfl, hi, hJ, hρ, S₁, F₁, g₁, lo₁, st₁, ht₁, hg₁, hos₁⟩
  rcases Nat.lt_or_eq_of_le hi with hlt | rfl
  · refine wpAny_with_toks ht₁ (o.wk.item i _ _ _ hlt st₁ fun v h₁ tk₁ hPv st₂ hk₁ htk₁ => ?_)
    obtain ⟨d, hd, iv⟩ := o.hP ρ₁.f hρ i v hPv
    have hk₁' : ∀ b o, b ≠ I → s'.heap.get? b = some o → h₁.get? b = some o := fun b o hb e => hk₁ b o (fun m => hb (List.mem_singleton.mp m)) e
    have S₂ := S₁.but lo₁.fz lo₁.nh hk₁'
    have F₂ := F₁.off no hk₁'
    have g₂ := g₁.skip o.new hk₁'
    rw [List.drop_eq_getElem_cons hlt, (List.getElem?_eq_some_iff.mp hd).2] at hJ
    have hst := Ev.storeN (a := .d d) (v := v) (Q := fun _ h' => St M.h₀ ρ₁ μ₁ h' ∧ FrS ρ₁ M.env (sto ns (σ₁.set _ (some (.d d)))) h' ∧ Grow (owned M.env) ρ₁ h₁ ρ₁ h') X S₂ F₂ hn hx iv (fun h' a b c => ⟨a, b, c⟩)
    refine wpAny_assign_Name (wpAny_mono (wpAny_toks_of htk₁ (hst { s' with heap := h₁, toks := tk₁ } rfl htk₁)) (fun _ s₂ q => ?_) fun _ _ q => q.2.elim)
    obtain ⟨ht₂, hg₂, hos₂, S₃, F₃, g₃⟩ := q
    have st₃ := o.frame hρ S₂ S₃ g₃ lo₁.nh no st₂
    obtain ⟨oI, hoI⟩ := o.hob _ _ st₃
    refine wpAny_mono (wpAny_toks_of ht₂ (Hb.go X S₃ F₃ (hs _ _ _ _ hJ) s₂ rfl ht₂)) (fun f s₃ q => ?_) fun _ _ q => q.2.elim
    obtain ⟨ht₄, hg₄, hos₄, q⟩ := q
    have eg := hg₄.trans (hg₂.trans hg₁)
    have eo := hos₄.trans (hos₂.trans hos₁)
    refine q.el fun fl ρ₂ σ₂ μ₂ g₄ S₄ F₄ fi w => ?_
    have g := (g₂.trans g₃).trans g₄
    have next : J (items.drop (i + 1)) σ₂ μ₂ → ∃ j, j < items.length - i ∧ ∃ i ρ₁ σ₁ μ₁, j = items.length - i ∧ i ≤ items.length ∧ J (items.drop i) σ₁ μ₁ ∧ (∀ a o, ρw.f a = some o → ρ₁.f a = some o) ∧ St M.h₀ ρ₁ μ₁ s₃.heap ∧ FrS ρ₁ M.env (sto ns σ₁) s₃.heap ∧ Grow (owned M.env) ρ h ρ₁ s₃.heap ∧ Lone I ρ₁ M.env ∧ It i s₃.heap ∧ 1 ≤ s₃.toks ∧ s₃.gens = s₀.gens ∧ s₃.os = s₀.os := fun w =>
      ⟨items.length - (i + 1), by omega, i + 1, ρ₂, σ₂, μ₂, rfl, hlt, w, (fun a o e => g₄.rho _ _ (hρ _ _ e)), S₄, F₄, g, lo₁.grow g₄ hoI, o.frame hρ S₃ S₄ g₄ lo₁.nh no st₃, ht₄, eg, eo⟩
    cases fi with
    | next => exact next w
    | cont => exact next w
    | brk => exact ⟨eg, eo, .mk g S₄ F₄ .next w⟩
    | ret fi => exact ⟨eg, eo, .mk g S₄ F₄ (.ret fi) w⟩
  · rw [List.drop_length] at hJ
    refine o.wk.done _ _ _ st₁ fun h₁ tk₁ hk₁ => wpAny_execs_nil ?_
    have hk₁' : ∀ b o, b ≠ I → s'.heap.get? b = some o → h₁.get? b = some o := fun b o hb e => hk₁ b o (fun m => hb (List.mem_singleton.mp m)) e
    exact ⟨hg₁, hos₁, .mk (g₁.skip o.new hk₁') (S₁.but lo₁.fz lo₁.nh hk₁') (F₁.off no hk₁') .next (hf _ _ hJ)⟩⟩
end
end Mine
end
section
namespace Mine

/-! ### comprehensions -/
/-- a clause: the items one after the other -/
def compP (n : Nat) (body : List PyData → Cx → Lo → Mem → (List PyData → Mem → Prop) → Prop) (c : Cx) (items out : List PyData) (σ : Lo) (μ : Mem) (k : List PyData → Mem → Prop) : Prop :=
  σ.getD n none = none ∧ ∃ I : List PyData → List PyData → Mem → Prop, I items out μ ∧ (∀ d ds out μ, I (d :: ds) out μ → body out c (σ.set n (some (.d d))) μ (I ds)) ∧ ∀ out μ, I [] out μ → k out μ
def compOut (elt : WE) : List (Nat × WI) → List PyData → Cx → Lo → Mem → (List PyData → Mem → Prop) → Prop
  | [], out, c, σ, μ, k => elt c σ μ fun a μ => datP a fun d => out.length < sizeLine ∧ k (out ++ [d]) μ
  | (n, W) :: gs, out, c, σ, μ, k => W c σ μ fun items μ => compP n (compOut elt gs) c items out σ μ k
/-- the names that the inner block sees -/
def keep1 : Bool → Option AV → Option AV
  | true, a => a
  | false, _ => none
def keepP : List Bool → Lo → Lo
  | b :: bs, a :: σ => keep1 b a :: keepP bs σ
  | _, _ => []
def wComp (fv : List Bool) (n : Nat) (src : WI) (gs : List (Nat × WI)) (elt : WE) : WE := fun c σ μ k => src c σ μ fun items μ => compP n (compOut elt gs) c items [] (keepP fv σ) μ fun out μ => k (.d (.list out)) μ

section
variable {M : Mc} {ρ : Mp} {μ : Mem} {h : Heap} {ns : List Str} {sc : Scope} {σ : Lo} {x y : Expr} {L R : WE} {p : Pos} {n : Nat} {z : Str} {env : Env}

theorem EvC.loop1 {elt : Expr} {gens : List Comprehension} {scope : Scope} {pos : Pos} {d : Nat} {it acc : Value} {Q : Flow → Heap → Prop}
    (x : Ev M (compTurn (.ListComp elt gens scope pos) d it acc env) (fun fin h' => match fin with
      | .done f => Q f h'
      | .again c => c = .compLoop (.ListComp elt gens scope pos) d it acc env ∧ EvC M c Q h') h) : EvC M (.compLoop (.ListComp elt gens scope pos) d it acc env) Q h := by
  intro s hs ht
  refine codeAny_of_tree ?_
  show wpAny _ M.A ((compTurn (.ListComp elt gens scope pos) d it acc env).onRaise (fun x => do noteFrame x env; theTreesLotGoes x)) _ _ s
  refine wpAny_onRaise (wpAny_mono (wpAny_toks_of ht (x s hs ht)) (fun fin s' q => ?_) fun _ _ q => q.2.elim)
  obtain ⟨q1, q2, q3, q4⟩ := q
  cases fin with
  | done f => exact ⟨q2, q3, q4⟩
  | again c =>
    obtain ⟨rfl, q5⟩ := q4
    refine ⟨rfl, codeAny_mono (q5 s' rfl q1) fun r s2 q' => ?_⟩
    cases r with
    | ok f => exact ⟨q'.1.trans q2, q'.2.1.trans q3, q'.2.2⟩
    | error e => exact q'

theorem EvC.start {elt target iter : Expr} {ifs : List Expr} {gens : List Comprehension} {scope : Scope} {pos : Pos} {d : Nat} {it acc : Value} {Q : Flow → Heap → Prop} (hd : gens[d]? = some ⟨target, iter, ifs, 0⟩)
    (h0 : EvC M (.compLoop (.ListComp elt gens scope pos) d it acc env) Q h)
    (hs : Ev M (pyIter it) (fun it' h' => it' = it ∧ h' = h) h) : EvC M (.compStart (.ListComp elt gens scope pos) d it acc env) Q h := by
  intro s hs' ht
  refine codeAny_of_tree ?_
  show wpAny _ M.A ((compStart (.ListComp elt gens scope pos) d it acc env).onRaise (fun x => do noteFrame x env; standAt theWindowsPlace)) _ _ s
  refine wpAny_onRaise (Q := _) ?_
  unfold compStart
  have hc : (clausesOf (.ListComp elt gens scope pos))[d]? = some ⟨target, iter, ifs, 0⟩ := hd
  rw [hc]
  show wpAny _ _ (ask >>= _) _ _ s
  refine wpAny_bind (wpAny_askSetting (wpAny_ite ?_))
  split
  · exact wpAny_bind (wpAny_pure (wpAny_pure (And.intro rfl (h0 s hs' ht))))
  · refine wpAny_bind (wpAny_rule ?_)
    show wpAny _ _ (standAt iter.pos >>= _) _ _ s
    refine wpAny_bind (wpAny_standAt (wpAny_bind (wpAny_mono (wpAny_toks_of ht (hs s hs' ht)) (fun it' s' q => ?_) fun _ _ q => q.2.elim)))
    obtain ⟨q1, q2, q3, rfl, q5⟩ := q
    refine wpAny_pure (And.intro rfl (codeAny_mono (h0 s' q5 q1) fun r s2 q' => ?_))
    cases r with
    | ok f => exact ⟨q'.1.trans q2, q'.2.1.trans q3, q'.2.2⟩
    | error e => exact q'

theorem compTurn_last {elt target iter : Expr} {gens : List Comprehension} {scope : Scope} {pos : Pos} {d : Nat} (it acc : Value) (env : Env) (hd : gens[d]? = some ⟨target, iter, [], 0⟩) (hd1 : gens[d + 1]? = none) :
    compTurn (.ListComp elt gens scope pos) d it acc env = (standAt iter.pos >>= fun _ => pyNext it >>= fun r => match r with
      | none => pure (.done .next)
      | some v => letOwnedTupleGo target it v >>= fun _ => assign target env v >>= fun _ =>
        (eval elt env >>= fun x => call (.builtin "list.append") [acc, x] >>= fun _ => pure ()) >>= fun _ =>
          again (.compLoop (.ListComp elt gens scope pos) d it acc env)) := by
  unfold compTurn
  simp only [hd, hd1]
  rfl

theorem compTurn_more {elt target iter target' iter' : Expr} {ifs' : List Expr} {gens : List Comprehension} {scope : Scope} {pos : Pos} {d : Nat} (it acc : Value) (env : Env) (hd : gens[d]? = some ⟨target, iter, [], 0⟩) (hd1 : gens[d + 1]? = some ⟨target', iter', ifs', 0⟩) :
    compTurn (.ListComp elt gens scope pos) d it acc env = (standAt iter.pos >>= fun _ => pyNext it >>= fun r => match r with
      | none => pure (.done .next)
      | some v => letOwnedTupleGo target it v >>= fun _ => assign target env v >>= fun _ =>
        eval iter' env >>= fun x => standAt iter'.pos >>= fun _ => foldedSetIterable iter' env x >>= fun x => holding [x] (pyIter x) >>= fun i => runOwn (.compStart (.ListComp elt gens scope pos) (d + 1) i acc env) env >>= fun _ =>
          again (.compLoop (.ListComp elt gens scope pos) d it acc env)) := by
  unfold compTurn
  simp only [hd, hd1]
  rfl


/-- the list that a comprehension fills -/
structure Acc (D : Addr) (ρ : Mp) (env : Env) (h : Heap) (xs : List PyData) : Prop where
  ob : ∃ vs n, h.get? D = some { cls := .type "list", data := .seq vs n } ∧ IsAll ρ.f vs.toList xs
  fz : ρ.f D = none
  nh : D ∉ ρ.l
  no : D ∉ owned env
theorem Acc.grow {D : Addr} {xs : List PyData} {X : List Addr} {ρ' h'} (x : Acc D ρ env h xs) (g : Grow X ρ h ρ' h') (hX : D ∉ X) : Acc D ρ' env h' xs := by
  obtain ⟨vs, n, ho, r⟩ := x.ob
  have := g.lone ho x.fz x.nh
  exact ⟨⟨vs, n, g.keep _ _ ho x.nh hX, r.mono g.rho⟩, this.2, this.1, x.no⟩
theorem Acc.off {D I : Addr} {xs : List PyData} {h' : Heap} (a : Acc D ρ env h xs) (hne : D ≠ I) (hk : ∀ b o, b ≠ I → h.get? b = some o → h'.get? b = some o) : Acc D ρ env h' xs :=
  ⟨a.ob.elim fun vs q => q.elim fun n q => ⟨vs, n, hk _ _ hne q.1, q.2⟩, a.fz, a.nh, a.no⟩

def CRes (M : Mc) (ns : List Str) (D : Addr) (ρ : Mp) (h : Heap) (σ : Lo) (k : List PyData → Mem → Prop) (h' : Heap) : Prop :=
  ∃ ρ' μ' out, Grow [D, M.env.locals] ρ h ρ' h' ∧ St M.h₀ ρ' μ' h' ∧ FrS ρ' M.env (sto ns σ) h' ∧ Acc D ρ' M.env h' out ∧ k out μ'

theorem CRes.base {D : Addr} {ρ' h' h''} {k : List PyData → Mem → Prop} (r : CRes M ns D ρ' h' σ k h'') (g : Grow [D, M.env.locals] ρ h ρ' h') : CRes M ns D ρ h σ k h'' := by
  obtain ⟨ρ3, μ3, out, g3, r⟩ := r
  exact ⟨ρ3, μ3, out, g.trans g3, r⟩

theorem Ev.accAppend {D : Addr} {xs : List PyData} {v : Value} {d : PyData} {k : List PyData → Mem → Prop} (S : St M.h₀ ρ μ h) (F : FrS ρ M.env (sto ns σ) h) (a : Acc D ρ M.env h xs) (i : Is ρ.f v d) (hz : xs.length < sizeLine) (q : k (xs ++ [d]) μ) :
    Ev M (call (.builtin "list.append") [.ref D, v]) (fun _ h' => CRes M ns D ρ h σ k h') h := by
  obtain ⟨vs, n, ho, r⟩ := a.ob
  have hsz : vs.size = xs.length := by rw [← r.length, Array.length_toList]
  refine Ev.lift fun s hs _ Q' kk => ?_
  subst hs
  refine call_meets PySem.F.slot_list_append ⟨_, ho, rfl⟩ PySem.F.entry_list_append (PySem.F.args_list_append_2 _ _) (list_append D vs n _ (by omega)) ⟨ho, kk _ _ _ ?_⟩
  have ho' := IsL.update (h := s.heap) (l := D) (items := vs) (n := n) ho (fun xs => xs.push v)
  have hk : ∀ b o, b ≠ D → s.heap.get? b = some o → (s.heap.update D (Obj.mapSeq fun xs => xs.push v)).get? b = some o := upd_other
  exact ⟨ρ, μ, _, (Grow.but (L := D) hk ⟨_, ho'⟩).weaken (fun a m => List.mem_singleton.mp m ▸ List.mem_cons_self ..), S.but a.fz a.nh hk, F.off a.no hk, ⟨⟨_, _, ho', by rw [Array.toList_push]; exact r.append (.one i)⟩, a.fz, a.nh, a.no⟩, q⟩

theorem Ev.nextItem {I : Addr} {fp : List Addr} {n i : Nat} {P : Nat → Value → Prop} {It : Nat → Heap → Prop} (W : Walks M.prog M.w M.A I fp [I] n P It) (hlt : i < n) (st : It i h) :
    Ev M (pyNext (.ref I)) (fun r h' => ∃ v, r = some v ∧ P i v ∧ It (i + 1) h' ∧ ∀ b o, b ≠ I → h.get? b = some o → h'.get? b = some o) h :=
  Ev.lift fun s hs _ Q' kk => W.item i s _ _ hlt (hs ▸ st) fun v h' tk hP st' hk => kk _ h' tk ⟨v, rfl, hP, st', fun b o hb e => hk b o (fun m => hb (List.mem_singleton.mp m)) (hs ▸ e)⟩
theorem Ev.nextDone {I : Addr} {fp : List Addr} {n : Nat} {P : Nat → Value → Prop} {It : Nat → Heap → Prop} (W : Walks M.prog M.w M.A I fp [I] n P It) (st : It n h) :
    Ev M (pyNext (.ref I)) (fun r h' => r = none ∧ ∀ b o, b ≠ I → h.get? b = some o → h'.get? b = some o) h :=
  Ev.lift fun s hs _ Q' kk => W.done s _ _ (hs ▸ st) fun h' tk hk => kk _ h' tk ⟨rfl, fun b o hb e => hk b o (fun m => hb (List.mem_singleton.mp m)) (hs ▸ e)⟩
theorem Ev.iterSelf {I : Addr} {fp : List Addr} {n i : Nat} {P : Nat → Value → Prop} {It : Nat → Heap → Prop} (W : Walks M.prog M.w M.A I fp [I] n P It) (st : It i h) : Ev M (pyIter (.ref I)) (fun it h' => it = .ref I ∧ h' = h) h :=
  Ev.lift fun s hs _ Q' kk => W.self i s _ _ (hs ▸ st) (kk _ s.heap s.toks ⟨rfl, hs⟩)

/-- what a turn does behind the binding of its name -/
def restOf (elt : Expr) (gens : List Comprehension) (scope : Scope) (pos : Pos) (d : Nat) (it acc : Value) (env : Env) : Sem PySem.Fin :=
  match gens[d + 1]? with
  | none => (eval elt env >>= fun x => call (.builtin "list.append") [acc, x] >>= fun _ => pure ()) >>= fun _ => again (.compLoop (.ListComp elt gens scope pos) d it acc env)
  | some g => eval g.iter env >>= fun x => standAt g.iter.pos >>= fun _ => foldedSetIterable g.iter env x >>= fun x => holding [x] (pyIter x) >>= fun i => runOwn (.compStart (.ListComp elt gens scope pos) (d + 1) i acc env) env >>= fun _ =>
      again (.compLoop (.ListComp elt gens scope pos) d it acc env)

theorem turn_rest {elt target iter : Expr} {gens : List Comprehension} {scope : Scope} {pos : Pos} {d : Nat} (it acc : Value) (env : Env) (hd : gens[d]? = some ⟨target, iter, [], 0⟩) (h0 : ∀ g, gens[d + 1]? = some g → g.is_async = 0) :
    compTurn (.ListComp elt gens scope pos) d it acc env = (standAt iter.pos >>= fun _ => pyNext it >>= fun r => match r with
      | none => pure (.done .next)
      | some v => letOwnedTupleGo target it v >>= fun _ => assign target env v >>= fun _ => restOf elt gens scope pos d it acc env) := by
  unfold restOf
  cases hg : gens[d + 1]? with
  | none => exact compTurn_last it acc env hd hg
  | some g =>
    obtain ⟨t', i', f', a'⟩ := g
    have : a' = 0 := h0 _ hg
    subst this
    exact compTurn_more it acc env hd hg

theorem drop_get {α : Type} {l : List α} {d : Nat} {g : α} {gs : List α} (h : l.drop d = g :: gs) : l[d]? = some g ∧ l.drop (d + 1) = gs := by
  have hlt : d < l.length := by
    rcases Nat.lt_or_ge d l.length with h' | h'
    · exact h'
    · rw [List.drop_of_length_le h'] at h; cases h
  rw [List.drop_eq_getElem_cons hlt] at h
  exact ⟨by rw [List.getElem?_eq_getElem hlt]; exact congrArg some (List.cons.inj h).1, (List.cons.inj h).2⟩
theorem drop_nil {α : Type} {l : List α} {d : Nat} (h : l.drop d = []) : l[d]? = none := by
  rw [List.getElem?_eq_none]; simpa using h


theorem sto_reset {a b : AV} {y : Str} : ∀ {ns : List Str} {σ : Lo} {n : Nat}, σ.getD n none = none → sto ns σ y = some b → sto ns (σ.set n (some a)) y = some b := by
  intro ns
  induction ns with
  | nil => intro σ n _ h; exact h
  | cons w ns ih =>
    intro σ n h1 h2
    cases σ with
    | nil => exact h2
    | cons c σ =>
      have h2 : (if y = w then c else sto ns σ y) = some b := h2
      cases n with
      | zero =>
        show (if y = w then some a else sto ns σ y) = some b
        have hc : c = none := h1
        by_cases hw : y = w
        · rw [if_pos hw, hc] at h2; cases h2
        · rw [if_neg hw] at h2 ⊢; exact h2
      | succ n =>
        show (if y = w then c else sto ns (σ.set n (some a)) y) = some b
        by_cases hw : y = w
        · rw [if_pos hw] at h2 ⊢; exact h2
        · rw [if_neg hw] at h2 ⊢; exact ih h1 h2

theorem not_mem1 {a b : Addr} (h : a ≠ b) : a ∉ [b] := fun m => h (List.mem_singleton.mp m)
theorem not_mem2 {a b c : Addr} (h : a ≠ b) (h2 : a ≠ c) : a ∉ [b, c] := fun m => (List.mem_cons.mp m).elim h fun m => h2 (List.mem_singleton.mp m)
theorem ne_locals {I : Addr} (h : I ∉ owned env) : I ≠ env.locals := fun e => h (e ▸ List.mem_cons_self ..)

theorem comp_loop {h0 hb : Heap} {μ0 : Mem} {ρ0 ρb ρw : Mp} {h₂ : Heap} {I D : Addr} {fp : List Addr} {P : Nat → Value → Prop} {It : Nat → Heap → Prop} {items : List PyData} {px : Pos} {e iter elt : Expr} {d : Nat} {rest : Sem PySem.Fin} {gens : List Comprehension} {scope : Scope} {pos : Pos}
    {body : List PyData → Cx → Lo → Mem → (List PyData → Mem → Prop) → Prop} {J : List PyData → List PyData → Mem → Prop} {k : List PyData → Mem → Prop} (X : Wk ns sc M) (o : IterOf M ρ0 h0 items μ0 h₂ I fp P It ρw)
    (he : e = .ListComp elt gens scope pos)
    (hturn : compTurn e d (.ref I) (.ref D) M.env = (standAt iter.pos >>= fun _ => pyNext (.ref I) >>= fun r => match r with
      | none => pure (.done .next)
      | some v => letOwnedTupleGo (.Name z px) (.ref I) v >>= fun _ => assign (.Name z px) M.env v >>= fun _ => rest))
    (hact : ∀ {σ μ ρ h done k}, body done M.c σ μ k → St M.h₀ ρ μ h → FrS ρ M.env (sto ns σ) h → Acc D ρ M.env h done → Ev M rest (fun fin h' => fin = .again (.compLoop e d (.ref I) (.ref D) M.env) ∧ CRes M ns D ρ h σ k h') h)
    (hn : ns[n]? = some z) (hx : M.env.kindOf z = some .local) (hσ : σ.getD n none = none) (hI : hb.get? I = none) (hDI : D ≠ I)
    (hs : ∀ d ds out μ, J (d :: ds) out μ → body out M.c (σ.set n (some (.d d))) μ (J ds)) (hf : ∀ out μ, J [] out μ → k out μ) :
    ∀ (ds : List PyData) (i : Nat), items.drop i = ds → i ≤ items.length → ∀ {μ₁ ρ₁ h₁ done}, J ds done μ₁ → St M.h₀ ρ₁ μ₁ h₁ → FrS ρ₁ M.env (sto ns σ) h₁ → Acc D ρ₁ M.env h₁ done →
      (∀ a o, ρw.f a = some o → ρ₁.f a = some o) → Grow [D, M.env.locals] ρb hb ρ₁ h₁ → Lone I ρ₁ M.env → It i h₁ → EvC M (.compLoop e d (.ref I) (.ref D) M.env) (fun f h' => f = .next ∧ CRes M ns D ρb hb σ k h') h₁ := by
  subst he
  intro ds
  induction ds with
  | nil =>
    intro i hi hle μ₁ ρ₁ h₁ done hJ S F a hρ g lo st
    have hin : i = items.length := Nat.le_antisymm hle (Nat.le_of_not_lt fun hlt => by rw [List.drop_eq_getElem_cons hlt] at hi; cases hi)
    subst hin
    refine EvC.loop1 ?_
    rw [hturn]
    refine Ev.bind (Ev.standAt (Ev.bind ((Ev.nextDone o.wk st).mono fun r h₂ q => ?_)))
    obtain ⟨hr, hk⟩ := q
    subst hr
    exact Ev.pure ⟨rfl, ρ₁, _, _, g.skip hI hk, S.but lo.fz lo.nh hk, F.off lo.no hk, a.off hDI hk, hf _ _ hJ⟩
  | cons dd ds ih =>
    intro i hi hle μ₁ ρ₁ h₁ done hJ S F a hρ g lo st
    have hlt : i < items.length := Nat.lt_of_not_le fun h' => by rw [List.drop_of_length_le h'] at hi; cases hi
    rw [List.drop_eq_getElem_cons hlt] at hi
    obtain ⟨hdd, hi'⟩ := List.cons.inj hi
    refine EvC.loop1 ?_
    rw [hturn]
    refine Ev.bind (Ev.standAt (Ev.bind ((Ev.nextItem o.wk hlt st).mono fun r h₂ q => ?_)))
    obtain ⟨v, hr, hPv, st₂, hk⟩ := q
    subst hr
    obtain ⟨d', hd', iv⟩ := o.hP ρ₁.f hρ i v hPv
    rw [List.getElem?_eq_getElem hlt, hdd] at hd'; cases hd'
    have S₂ := S.but lo.fz lo.nh hk
    refine Ev.bind (Ev.pure (Ev.bind ?_))
    rw [PySem.assign_Name]
    refine Ev.bind (Ev.standAt (Ev.bindLocal (a := .d dd) S₂ (F.off lo.no hk) hx iv fun h₃ S₃ F₃ g₃ => ?_))
    have nL := ne_locals lo.no
    have st₃ := o.frame hρ S₂ S₃ g₃ lo.nh (not_mem1 nL) st₂
    refine (hact (hs _ _ _ _ hJ) S₃ (F₃.weaken fun _ _ => sto_set X.nd hn) ((a.off hDI hk).grow g₃ (not_mem1 (ne_locals a.no)))).mono fun fin h₄ q => ?_
    obtain ⟨hf', ρ₂, μ₂, out, g₄, S₄, F₄, a₄, w⟩ := q
    subst hf'
    refine ⟨rfl, ?_⟩
    obtain ⟨oI, hoI⟩ := o.hob _ _ st₃
    have nD := not_mem2 (Ne.symm hDI) nL
    exact ih (i + 1) hi' hlt w S₄ (F₄.weaken fun _ _ => sto_reset hσ) a₄ (fun b o eb => g₄.rho _ _ (hρ _ _ eb)) (((g.skip hI hk).trans (g₃.weaken fun _ m => List.mem_cons_of_mem _ m)).trans g₄) (lo.grow g₄ hoI) (o.frame hρ S₃ S₄ g₄ lo.nh nD st₃)

theorem Wk.local (X : Wk ns sc M) (hx : sc.names.lookup z = some .local) : M.env.kindOf z = some .local := by unfold Env.kindOf; rw [X.sc]; exact hx

/-- the clauses behind the first -/
inductive SndG (ns : List Str) (sc : Scope) : List Comprehension → List (Nat × WI) → Prop
  | nil : SndG ns sc [] []
  | cons {z n px it W gs js} : ns[n]? = some z → sc.names.lookup z = some .local → SndI ns sc it W → SndG ns sc gs js → SndG ns sc (⟨.Name z px, it, [], 0⟩ :: gs) ((n, W) :: js)
theorem SndG.asy {gs js} (H : SndG ns sc gs js) : ∀ g ∈ gs, g.is_async = 0 := by
  induction H with
  | nil => intro g m; cases m
  | cons _ _ _ _ ih => exact fun g m => (List.mem_cons.mp m).elim (fun e => e ▸ rfl) (ih g)

theorem comp_act {elt : Expr} {W : WE} {gens : List Comprehension} {scope : Scope} {pos : Pos} {D : Addr} {gs : List Comprehension} {js : List (Nat × WI)} (X : Wk ns sc M) (hasy : ∀ g ∈ gens, g.is_async = 0) (He : SndE ns sc elt W) (H : SndG ns sc gs js) :
    ∀ (d : Nat) (it : Value), gens.drop (d + 1) = gs → ∀ {σ μ ρ h done k}, compOut W js done M.c σ μ k → St M.h₀ ρ μ h → FrS ρ M.env (sto ns σ) h → Acc D ρ M.env h done →
      Ev M (restOf elt gens scope pos d it (.ref D) M.env) (fun fin h' => fin = .again (.compLoop (.ListComp elt gens scope pos) d it (.ref D) M.env) ∧ CRes M ns D ρ h σ k h') h := by
  induction H with
  | nil =>
    intro d it hd σ μ ρ h done k w S F a
    unfold restOf
    rw [drop_nil hd]
    refine Ev.bind (Ev.bind ((He.go X S F w).useE fun v h₂ b ρ2 μ2 g2 s2 i2 w => Ev.bind ?_))
    obtain ⟨d, rfl, hz, w⟩ := datP.inv w
    exact (Ev.accAppend s2 (F.grow0 g2) (a.grow g2 (fun m => nomatch m)) i2 hz w).mono fun _ h₃ q => Ev.pure (Ev.pure ⟨rfl, q.base g2.up⟩)
  | cons hn hx HI _ ih =>
    intro d it hd σ μ ρ h done k w S F a
    obtain ⟨hd1, hd2⟩ := drop_get hd
    unfold restOf
    rw [hd1]
    refine Ev.bind ((HI.go (Q := fun it' h₂ => Ev M (runOwn (.compStart (.ListComp elt gens scope pos) (d + 1) it' (.ref D) M.env) M.env >>= fun _ => again (.compLoop (.ListComp elt gens scope pos) d it (.ref D) M.env)) (fun fin h' => fin = .again (.compLoop (.ListComp elt gens scope pos) d it (.ref D) M.env) ∧ CRes M ns D ρ h σ k h') h₂) X S F w fun it' h₂ items μ₁ hI w => ?_).mono fun xv h₁ q => ?_)
    rotate_left
    · exact Ev.bind (Ev.standAt (Ev.bind (Ev.of_eq (HI.fs M.env xv) (Ev.pure (Ev.bind (Ev.holding q))))))
    obtain ⟨I, fp, P, It, ρ2, rfl, o⟩ := hI
    obtain ⟨hσ, J, hJ, hs, hf⟩ := w
    have hDI : D ≠ I := fun e => by
      obtain ⟨vs, n, ho, _⟩ := a.ob
      rw [e, o.new] at ho; cases ho
    have loop := comp_loop (ρb := ρ) (k := k) X o rfl (turn_rest _ _ M.env hd1 fun g hg => hasy g (List.mem_of_getElem? hg)) (fun {_ _ _ _ _ _} a b c e => ih (d + 1) (.ref I) hd2 a b c e) hn (X.local hx) hσ o.new hDI hs hf items 0 rfl (Nat.zero_le _) hJ o.st (F.grow0 o.gr) (a.grow o.gr (fun m => nomatch m)) (fun _ _ e => e) o.gr.up ⟨o.fz, o.nh, F.notown o.new⟩ o.it0
    exact Ev.bind (EvC.runOwn (Q := fun f h' => f = .next ∧ CRes M ns D ρ h σ k h') (EvC.start hd1 loop (Ev.iterSelf o.wk o.it0)) |>.mono fun f h₄ hf => Ev.pure ⟨rfl, hf.2⟩)
end
end Mine
end
section
namespace Mine
/-- what a comprehension's block must be like: function-like, its own names local, the others global or read from around -/
def compOk (out sc : Scope) : Bool :=
  sc.kind == .function && sc.names.all (fun p => sc.names.lookup p.1 == some p.2 && (p.2 == .local || p.2 == .globalImplicit || (p.2 == .free && out.names.lookup p.1 == some .cell))) &&
  decide ((sc.names.map (·.1)).Nodup) && !lamScope sc
/-- and its block as the comprehension runs it -/
def celled (sc : Scope) : Scope := { sc with names := sc.names.map fun p => if p.2 == .free then (p.1, .cell) else p }
/-- names of the outer block that the comprehension's block sees -/
def seen (sc : Scope) (σ : Sto) : Sto := fun x => if sc.names.lookup x == some .free then σ x else none

def clos (env : Env) : List (Str × NameKind) → List (Str × Addr) → List (Str × Addr)
  | [], acc => acc
  | (n, k) :: r, acc => if k == .free then clos env r ((n, (env.cells.lookup n).getD 0) :: acc) else clos env r acc

theorem clos_mem {env : Env} {p : Str × Addr} : ∀ {names : List (Str × NameKind)} {acc : List (Str × Addr)}, p ∈ clos env names acc → p ∈ acc ∨ ((p.1, NameKind.free) ∈ names ∧ p.2 = (env.cells.lookup p.1).getD 0)
  | [], _, h => .inl h
  | (n, k) :: r, acc, h => by
    unfold clos at h
    split at h
    · next hk =>
      have hk' : k = .free := by simpa using hk
      subst hk'
      rcases clos_mem h with h1 | ⟨h1, h2⟩
      · rcases List.mem_cons.mp h1 with rfl | h1
        · exact .inr ⟨by simp, rfl⟩
        · exact .inl h1
      · exact .inr ⟨List.mem_cons_of_mem _ h1, h2⟩
    · rcases clos_mem h with h1 | ⟨h1, h2⟩
      · exact .inl h1
      · exact .inr ⟨List.mem_cons_of_mem _ h1, h2⟩
theorem clos_has {env : Env} : ∀ {names : List (Str × NameKind)} {acc : List (Str × Addr)}, (∀ p ∈ acc, p ∈ clos env names acc) ∧ ∀ n, (n, NameKind.free) ∈ names → (n, (env.cells.lookup n).getD 0) ∈ clos env names acc
  | [], _ => ⟨fun _ h => h, fun _ h => by cases h⟩
  | (n, k) :: r, acc => by
    unfold clos
    split
    · have ih := @clos_has env r ((n, (env.cells.lookup n).getD 0) :: acc)
      refine ⟨fun p hp => ih.1 p (List.mem_cons_of_mem _ hp), fun m hm => ?_⟩
      rcases List.mem_cons.mp hm with e | hm
      · cases e; exact ih.1 _ List.mem_cons_self
      · exact ih.2 m hm
    · next hk =>
      have ih := @clos_has env r acc
      refine ⟨ih.1, fun m hm => ?_⟩
      rcases List.mem_cons.mp hm with e | hm
      · cases e; exact absurd rfl hk
      · exact ih.2 m hm

theorem lookup_of_mem {α : Type} {x : Str} {c : α} : ∀ {l : List (Str × α)}, (x, c) ∈ l → (∀ c', (x, c') ∈ l → c' = c) → l.lookup x = some c
  | [], h, _ => by cases h
  | (k, v) :: r, h, hu => by
    rw [List.lookup_cons]
    cases hb : x == k with
    | true =>
      have := beq_iff_eq.mp hb
      subst this
      exact congrArg some (hu v (List.mem_cons_self ..))
    | false =>
      rcases List.mem_cons.mp h with e | h
      · cases e; simp at hb
      · exact lookup_of_mem h fun c' hc => hu c' (List.mem_cons_of_mem _ hc)

theorem mem_lookup {α : Type} {x : Str} {c : α} {l : List (Str × α)} (h : l.lookup x = some c) : (x, c) ∈ l := PySem.mem_of_lookup h

theorem closure_eq {scope : Scope} {env : Env} (hc : ∀ p ∈ scope.names, p.2 = NameKind.free → ∃ c, env.cells.lookup p.1 = some c) : closureFor scope env = pure (clos env scope.names []) := by
  have key : ∀ (names : List (Str × NameKind)) (acc : List (Str × Addr)), (∀ p ∈ names, p.2 = NameKind.free → ∃ c, env.cells.lookup p.1 = some c) →
      (forIn names acc fun (p : Str × NameKind) r => (if (p.2 == NameKind.free) = true then (do let a ← cellOf env p.1; pure (ForInStep.yield ((p.1, a) :: r))) else pure (ForInStep.yield r) : Sem (ForInStep (List (Str × Addr))))) = pure (clos env names acc) := by
    intro names
    induction names with
    | nil => intro acc _; rfl
    | cons p r ih =>
      intro acc h
      obtain ⟨n, k⟩ := p
      rw [List.forIn_cons]
      unfold clos
      by_cases hk : (k == NameKind.free) = true
      · simp only [hk, if_true]
        obtain ⟨c, hc⟩ := h (n, k) (List.mem_cons_self ..) (by simpa using hk)
        unfold cellOf
        have hc' : env.cells.lookup n = some c := hc
        simp only [hc', pure_bind, Option.getD_some]
        exact ih _ fun p hp => h p (List.mem_cons_of_mem _ hp)
      · simp only [hk, if_false, pure_bind]
        exact ih _ fun p hp => h p (List.mem_cons_of_mem _ hp)
  unfold closureFor
  have := key scope.names [] hc
  show (forIn scope.names [] _ >>= fun cs => pure cs) = _
  rw [show (forIn scope.names ([] : List (Str × Addr)) fun x r => (if (x.2 == NameKind.free) = true then (do let a ← cellOf env x.1; pure (ForInStep.yield ((x.1, a) :: r))) else pure (ForInStep.yield r) : Sem (ForInStep (List (Str × Addr))))) = pure (clos env scope.names []) from this]
  rfl

section
variable {M : Mc} {ρ : Mp} {μ : Mem} {h : Heap} {env : Env} {σ : Sto} {sc : Scope}
theorem compOk_mem {out sc : Scope} (h : compOk out sc = true) {p : Str × NameKind} (hp : p ∈ sc.names) : sc.names.lookup p.1 = some p.2 ∧ (p.2 = .local ∨ p.2 = .globalImplicit ∨ (p.2 = .free ∧ out.names.lookup p.1 = some .cell)) := by
  simp only [compOk, Bool.and_eq_true, List.all_eq_true] at h
  have := h.1.1.2 p hp
  simp only [Bool.or_eq_true, Bool.and_eq_true, beq_iff_eq] at this
  refine ⟨this.1, ?_⟩
  rcases this.2 with (h1 | h1) | h1
  · exact .inl h1
  · exact .inr (.inl h1)
  · exact .inr (.inr h1)
theorem compOk_kind {out sc : Scope} (h : compOk out sc = true) : sc.kind = .function := by
  simp only [compOk, Bool.and_eq_true, beq_iff_eq] at h; exact h.1.1.1
theorem compOk_nodup {out sc : Scope} (h : compOk out sc = true) : (sc.names.map (·.1)).Nodup := by
  simp only [compOk, Bool.and_eq_true, decide_eq_true_eq] at h; exact h.1.2

theorem compOk_lam {out sc : Scope} (h : compOk out sc = true) : lamScope sc = false := by
  simp only [compOk, Bool.and_eq_true] at h; simpa using h.2

theorem relabel_celled {sc : Scope} {scope : Scope} (henv : env.scope = sc) (hk : env.scope.kind = .function) (hc : compOk sc scope = true) : relabel scope env = celled scope := by
  unfold relabel celled
  have : (scope.names.map fun x => if (x.2 == NameKind.free && env.scope.kind == ScopeKind.function && env.kindOf x.1 == some NameKind.cell) = true then (x.1, NameKind.cell) else (x.1, x.2)) = scope.names.map fun p => if (p.2 == NameKind.free) = true then (p.1, NameKind.cell) else p := by
    refine List.map_congr_left fun p hp => ?_
    obtain ⟨_, h2⟩ := compOk_mem hc hp
    rcases h2 with h2 | h2 | ⟨h2, h3⟩
    · obtain ⟨n, k⟩ := p; simp only at h2; subst h2; rfl
    · obtain ⟨n, k⟩ := p; simp only at h2; subst h2; rfl
    · have : env.kindOf p.1 = some .cell := by unfold Env.kindOf; rw [henv]; exact h3
      simp [h2, hk, this]
  rw [← this]

theorem lookup_celled (scope : Scope) (x : Str) : (celled scope).names.lookup x = (scope.names.lookup x).map fun k => if k == .free then .cell else k := by
  unfold celled
  show List.lookup x (scope.names.map _) = _
  induction scope.names with
  | nil => rfl
  | cons p r ih =>
    obtain ⟨n, k⟩ := p
    rw [List.map_cons]
    by_cases hk : k = NameKind.free
    · subst hk
      show List.lookup x ((n, NameKind.cell) :: _) = _
      rw [List.lookup_cons, List.lookup_cons]
      cases hx : x == n with
      | true => rfl
      | false => exact ih
    · have hk' : (k == NameKind.free) = false := by simpa using hk
      have e : (if ((n, k).2 == NameKind.free) = true then ((n, k).1, NameKind.cell) else (n, k)) = (n, k) := if_neg (by rw [show (n, k).2 = k from rfl, hk']; decide)
      rw [e, List.lookup_cons, List.lookup_cons]
      cases hx : x == n with
      | true => show some k = some (if (k == NameKind.free) = true then _ else k); rw [hk']; rfl
      | false => exact ih

theorem clos_pairwise {sc scope : Scope} (F : FrS ρ env σ h) (henv : env.scope = sc) (hc : compOk sc scope = true) : (clos env scope.names []).Pairwise fun x y => x.2 ≠ y.2 := by
  have key : ∀ (names : List (Str × NameKind)) (acc : List (Str × Addr)), (∀ p ∈ names, p ∈ scope.names) → (names.map (·.1)).Nodup → (∀ q ∈ acc, env.cells.lookup q.1 = some q.2 ∧ q.1 ∉ names.map (·.1)) → (acc.Pairwise fun x y => x.2 ≠ y.2) →
      (clos env names acc).Pairwise fun x y => x.2 ≠ y.2 := by
    intro names
    induction names with
    | nil => intro acc _ _ _ h4; exact h4
    | cons p r ih =>
      intro acc h1 h2 h3 h4
      obtain ⟨n, k⟩ := p
      unfold clos
      simp only [List.map_cons, List.nodup_cons] at h2
      split
      · next hk =>
        have hk' : k = .free := by simpa using hk
        subst hk'
        obtain ⟨_, h5⟩ := compOk_mem hc (h1 _ List.mem_cons_self)
        have h6 : sc.names.lookup n = some .cell := by
          rcases h5 with h5 | h5 | ⟨_, h5⟩
          · cases h5
          · cases h5
          · exact h5
        obtain ⟨c, hcl⟩ := F.cx n (by unfold Env.kindOf; rw [henv]; exact h6)
        rw [hcl]
        refine ih _ (fun q hq => h1 q (List.mem_cons_of_mem _ hq)) h2.2 (fun q hq => ?_) ?_
        · rcases List.mem_cons.mp hq with rfl | hq
          · exact ⟨hcl, h2.1⟩
          · exact ⟨(h3 q hq).1, fun m => (h3 q hq).2 (List.mem_cons_of_mem _ m)⟩
        · refine List.pairwise_cons.mpr ⟨fun q hq e => ?_, h4⟩
          have h7 := (h3 q hq).1
          have : n = q.1 := name_of_addr F.ap (PySem.mem_of_lookup hcl) (by
            have e' : c = q.2 := e
            rw [e']; exact PySem.mem_of_lookup h7)
          exact (h3 q hq).2 (by simp [this])
      · exact ih _ (fun q hq => h1 q (List.mem_cons_of_mem _ hq)) h2.2 (fun q hq => ⟨(h3 q hq).1, fun m => (h3 q hq).2 (List.mem_cons_of_mem _ m)⟩) h4
  exact key scope.names [] (fun _ h => h) (compOk_nodup hc) (fun _ h => by cases h) .nil

/-- the comprehension's own frame -/
theorem comp_frame {sc scope : Scope} {C : Addr} {ρ' : Mp} {h' : Heap} (F : FrS ρ' env σ h') (henv : env.scope = sc) (hc : compOk sc scope = true) (hn : h'.Ns C fun _ => none) (hC1 : C ∉ owned env) (hC2 : C ∉ ρ'.l) (hC3 : ρ'.f C = none) :
    FrS ρ' (compEnvC scope (clos env scope.names []) C env) (seen scope σ) h' := by
  have hrel := relabel_celled henv F.fn hc
  have hkind : ∀ x, (compEnvC scope (clos env scope.names []) C env).kindOf x = (scope.names.lookup x).map fun k => if k == .free then .cell else k := fun x => by
    unfold Env.kindOf compEnvC
    show (relabel scope env).names.lookup x = _
    rw [hrel, lookup_celled]
  have hfree : ∀ x, scope.names.lookup x = some .free → env.kindOf x = some .cell ∧ (x, NameKind.free) ∈ scope.names := fun x hx => by
    have hm := mem_lookup hx
    obtain ⟨_, h5⟩ := compOk_mem hc hm
    refine ⟨?_, hm⟩
    rcases h5 with h5 | h5 | ⟨_, h5⟩
    · cases h5
    · cases h5
    · unfold Env.kindOf; rw [henv]; exact h5
  have hlook : ∀ x, scope.names.lookup x = some .free → ∀ c, env.cells.lookup x = some c → (clos env scope.names []).lookup x = some c := fun x hx c hcl => by
    refine lookup_of_mem ?_ fun c' hm => ?_
    · have := (@clos_has env scope.names []).2 x (hfree x hx).2
      rw [hcl] at this; exact this
    · rcases clos_mem hm with h1 | ⟨_, h2⟩
      · cases h1
      · have h2' : c' = (env.cells.lookup x).getD 0 := h2
        rw [h2', hcl]; rfl
  have hcell : ∀ x, (compEnvC scope (clos env scope.names []) C env).kindOf x = some .cell → scope.names.lookup x = some .free := fun x hx => by
    rw [hkind] at hx
    cases hl : scope.names.lookup x with
    | none => rw [hl] at hx; cases hx
    | some k =>
      rw [hl] at hx
      have hm := compOk_mem hc (mem_lookup hl)
      rcases hm.2 with h1 | h1 | ⟨h1, _⟩
      · have h1' : k = .local := h1
        subst h1'; simp at hx
      · have h1' : k = .globalImplicit := h1
        subst h1'; simp at hx
      · have h1' : k = .free := h1
        rw [h1']
  refine ⟨?_, F.gl, F.bi, ⟨_, hn, fun x a e1 e2 => ?_⟩, fun x a e1 => ?_, fun x a e1 e2 => ?_, fun p hp => ?_, fun x e => ?_, clos_pairwise F henv hc, ⟨hC2, hC3⟩, fun e => ?_⟩
  · show (relabel scope env).kind = _
    rw [hrel]; exact (compOk_kind hc : scope.kind = _)
  · unfold seen at e1
    split at e1
    · next hx =>
      have hx' : scope.names.lookup x = some .free := by simpa using hx
      rw [hkind, hx'] at e2; simp at e2
    · cases e1
  · unfold seen at e1
    split at e1
    · next hx =>
      have hx' : scope.names.lookup x = some .free := by simpa using hx
      exact .inr (by rw [hkind, hx']; rfl)
    · cases e1
  · unfold seen at e1
    split at e1
    · next hx =>
      have hx' : scope.names.lookup x = some .free := by simpa using hx
      obtain ⟨c, v, h1, h2, h3⟩ := F.cl x a e1 (hfree x hx').1
      exact ⟨c, v, hlook x hx' c h1, h2, h3⟩
    · cases e1
  · rcases clos_mem hp with h1 | ⟨h1, h2⟩
    · cases h1
    · obtain ⟨h3, _⟩ := compOk_mem hc h1
      obtain ⟨c, hcl⟩ := F.cx p.1 (hfree p.1 h3).1
      have : p.2 = c := by rw [h2, hcl]; rfl
      rw [this]
      obtain ⟨k1, k2, k3, k4⟩ := F.ce p.1 c hcl
      exact ⟨k1, fun (e : c = C) => hC1 (e ▸ mem_owned_cell hcl), k3, k4⟩
  · have hx' := hcell x e
    obtain ⟨c, hcl⟩ := F.cx x (hfree x hx').1
    exact ⟨c, hlook x hx' c hcl⟩
  · exfalso
    have h1 := compOk_lam hc
    have e' : lamScope (relabel scope env) = true := e
    rw [hrel] at e'
    unfold lamScope at h1 e'
    rw [lookup_celled] at e'
    cases hl : scope.names.lookup ("ways" : Str) with
    | none => rw [hl] at e'; simp at e'
    | some k =>
      rw [hl] at e' h1
      by_cases hk : k = NameKind.free
      · subst hk; simp at e'
      · simp [hk] at e'; simp [e'] at h1

end
end Mine
end
section
namespace Mine

def masked (ns : List Str) (fv : List Bool) (sc : Scope) : Bool := (ns.zip fv).all fun p => !p.2 || sc.names.lookup p.1 == some .free

section
variable {M : Mc} {ρ : Mp} {μ : Mem} {h : Heap} {ns : List Str} {sc scope : Scope} {σ : Lo} {elt it : Expr} {W : WE} {V : WI} {gs : List Comprehension} {js : List (Nat × WI)} {p pos : Pos} {n : Nat} {z : Str} {fv : List Bool}

theorem keep_sub {sc : Scope} {a : AV} {y : Str} : ∀ {ns : List Str} {fv : List Bool} {σ : Lo}, masked ns fv sc = true → sto ns (keepP fv σ) y = some a → seen sc (sto ns σ) y = some a := by
  intro ns
  induction ns with
  | nil => intro fv σ _ h; cases h
  | cons x ns ih =>
    intro fv σ hm h
    cases fv with
    | nil => cases h
    | cons b fv => cases σ with
      | nil => cases h
      | cons c σ =>
        have hm' : (!b || sc.names.lookup x == some .free) = true ∧ masked ns fv sc = true := by
          unfold masked at hm ⊢
          rw [List.zip_cons_cons, List.all_cons, Bool.and_eq_true] at hm; exact hm
        have h : (if y = x then keep1 b c else sto ns (keepP fv σ) y) = some a := h
        show (if sc.names.lookup y == some .free then (if y = x then c else sto ns σ y) else none) = some a
        by_cases hy : y = x
        · rw [if_pos hy] at h
          cases b with
          | false => cases h
          | true => rw [if_pos (hy ▸ hm'.1), if_pos hy]; exact h
        · rw [if_neg hy] at h
          have := ih hm'.2 h
          unfold seen at this
          rw [if_neg hy]; exact this

theorem comp_names (hc : compOk sc scope = true) : ∀ x ∈ scope.names, x.2 = .local → scope.names.lookup x.1 = some .local := fun x hx hl => by
  have := (compOk_mem hc hx).1; rw [hl] at this; exact this
theorem comp_clos {σ : Sto} {env : Env} (F : FrS ρ env σ h) (henv : env.scope = sc) (hc : compOk sc scope = true) : closureFor scope env = pure (clos env scope.names []) :=
  closure_eq fun p hp hf => by
    have := (compOk_mem hc hp).2
    rcases this with h1 | h1 | ⟨_, h1⟩
    · rw [hf] at h1; cases h1
    · rw [hf] at h1; cases h1
    · exact F.cx p.1 (by unfold Env.kindOf; rw [henv]; exact h1)

/-- how the made list and the block's frame lie when the loop is through -/
structure CompEnd (M : Mc) (ns : List Str) (ρ : Mp) (h : Heap) (σ : Lo) (D C : Addr) (h' : Heap) (ρ' : Mp) (μ' : Mem) (out : List PyData) : Prop where
  gr : Grow [] ρ h ρ' h'
  st : St M.h₀ ρ' μ' h'
  fr : FrS ρ' M.env (sto ns σ) h'
  is : Is ρ'.f (.ref D) (.list out)
  cn : ∃ m, h'.Ns C m
  cfz : ρ'.f C = none
  cnh : C ∉ ρ'.l
  cno : C ∉ owned M.env
  cnn : h.get? C = none

theorem comp_own (F : FrS ρ M.env (sto ns σ) h) (henv : M.env.scope = sc) (hc : compOk sc scope = true) {C b : Addr} (m : b ∈ owned (compEnvC scope (clos M.env scope.names []) C M.env)) : b = C ∨ b ∈ owned M.env := by
  rcases List.mem_cons.mp m with e | m
  · exact .inl e
  · obtain ⟨p, hp, rfl⟩ := List.mem_map.mp m
    have hp' : p ∈ clos M.env scope.names [] := hp
    rcases clos_mem hp' with h1 | ⟨h1, h2⟩
    · cases h1
    · obtain ⟨_, h5⟩ := compOk_mem hc h1
      have h6 : sc.names.lookup p.1 = some .cell := by
        rcases h5 with h5 | h5 | ⟨_, h5⟩
        · cases h5
        · cases h5
        · exact h5
      obtain ⟨c', hcl⟩ := F.cx p.1 (by unfold Env.kindOf; rw [henv]; exact h6)
      have : p.2 = c' := by rw [h2, hcl]; rfl
      rw [this]; exact .inr (mem_owned_cell hcl)

theorem comp_core {k : List PyData → Mem → Prop} {s : Shared} {E : Value → Shared → Prop} {Rp : Value → Addr → Result → Shared → Prop} (X : Wk ns sc M) (hs : s.heap = h) (ht : 1 ≤ s.toks) (S : St M.h₀ ρ μ h) (F : FrS ρ M.env (sto ns σ) h) (hc : compOk sc scope = true) (hx : scope.names.lookup z = some .local) (hn : ns[n]? = some z) (hm : masked ns fv scope = true)
    (He : SndE ns (celled scope) elt W) (HI : SndI ns sc it V) (HG : SndG ns (celled scope) gs js) (w : V M.c σ μ fun items μ => compP n (compOut W js) M.c items [] (keepP fv σ) μ k)
    (q : ∀ D C f s' ρ' μ' out, s'.gens = s.gens → s'.os = s.os → 1 ≤ s'.toks → CompEnd M ns ρ h σ D C s'.heap ρ' μ' out → k out μ' → Rp (.ref D) C (.ok f) s') :
    wpAny (model M.prog M.w) M.A (eval it M.env) (fun xv s₁ => wpAny (model M.prog M.w) M.A (pyIter xv) (fun it' s₂ => wpAny (model M.prog M.w) M.A (newList []) (fun acc s₃ =>
      wpAny (model M.prog M.w) M.A (newFunctionEnv scope M.env.globals (clos M.env scope.names []) [] M.env.qual none .none (some M.env)) (fun cenv s₄ =>
        codeAny (model M.prog M.w) M.A (.compStart (.ListComp elt (⟨.Name z p, it, [], 0⟩ :: gs) scope pos) 0 it' acc { cenv with scope := relabel scope M.env }) (Rp acc cenv.locals) s₄) E s₃) E s₂) E s₁) E s := by
  have step := HI.go (Q := fun it' h₂ => ∃ items μ₁, IterAt M ρ h items μ₁ it' h₂ ∧ compP n (compOut W js) M.c items [] (keepP fv σ) μ₁ k) X S F w fun it' h₂ items μ₁ a b => ⟨items, μ₁, a, b⟩
  refine wpAny_mono (wpAny_toks_of ht (step s hs ht)) (fun xv s₁ q₁ => ?_) fun _ _ q => q.2.elim
  obtain ⟨ht₁, hg₁, hos₁, q₁⟩ := q₁
  refine wpAny_mono (wpAny_toks_of ht₁ (q₁ s₁ rfl ht₁)) (fun it' s₂ q₂ => ?_) fun _ _ q => q.2.elim
  obtain ⟨ht₂, hg₂, hos₂, items, μ₁, ⟨I, fp, P, It, ρ₁, rfl, o⟩, hσ, J, hJ, hjs, hf⟩ := q₂
  have hcell : ∀ y ∈ scope.names, y.2 ≠ .cell := fun y hy e => by
    rcases (compOk_mem hc hy).2 with h1 | h1 | ⟨h1, _⟩ <;> (rw [e] at h1; cases h1)
  refine wpAny_newObj_type (wpAny_newFunctionEnv hcell (fun y hy => by cases hy) (fun h₄ hns₄ hsb₄ => ?_) (compOk_kind hc))
  dsimp only at hns₄ hsb₄ ⊢
  generalize hH3 : s₂.heap.push { cls := .type "list", dict := none, data := .seq ([] : List Value).toArray } = h₃ at hns₄ hsb₄ ⊢
  generalize hD : s₂.heap.objs.size = D at *
  have hCsz : h₃.objs.size = D + 1 := by rw [← hH3, Heap.size_push, hD]
  generalize hC : h₃.objs.size = C at *
  have hDC : C ≠ D := by rw [hCsz]; exact Nat.succ_ne_self D
  have hk3 : ∀ b ob, h₃.get? b = some ob → h₄.get? b = some ob := fun b ob e => hsb₄.extBut b ob (by rw [← hC]; exact Nat.ne_of_lt (Heap.lt_size e)) (Heap.get?_push_of_some _ e)
  have kept : ∀ b ob, s₂.heap.get? b = some ob → h₄.get? b = some ob := fun b ob e => hk3 b ob (hH3 ▸ Heap.get?_push_of_some _ e)
  have hDob : h₄.get? D = some { cls := .type "list", data := .seq ([] : List Value).toArray } := hk3 _ _ (by rw [← hH3, ← hD]; exact Heap.get?_push_size _ rfl)
  have hDn2 : s₂.heap.get? D = none := fresh_at (by rw [hD]; exact Nat.le_refl _)
  have hCn2 : s₂.heap.get? C = none := fresh_at (by rw [hD, hCsz]; exact Nat.le_succ _)
  have hDn := o.gr.back hDn2
  have hCn := o.gr.back hCn2
  have S₄ : St M.h₀ ρ₁ μ₁ h₄ := o.st.keepAll kept
  have g₄ : Grow [] ρ h ρ₁ h₄ := o.gr.trans (.keepAll kept)
  have FC := comp_frame (F.grow0 g₄) X.sc hc (by simpa using hns₄) (F.notown hCn) (o.st.notin_of_fresh hCn2) (o.st.none_of_fresh hCn2)
  have ownC := fun b (m : b ∈ owned (compEnvC scope (clos M.env scope.names []) C M.env)) => comp_own F X.sc hc m
  obtain ⟨oI, hoI⟩ := o.hob _ _ o.it0
  have hI2 : D ≠ I := fun e => by rw [← e, hDn2] at hoI; cases hoI
  have hI3 : I ≠ C := fun e => by rw [e, hCn2] at hoI; cases hoI
  have hsc : (compEnvC scope (clos M.env scope.names []) C M.env).scope = celled scope := relabel_celled X.sc F.fn hc
  have o' : IterOf { M with env := compEnvC scope (clos M.env scope.names []) C M.env } ρ h items μ₁ s₂.heap I fp P It ρ₁ := ⟨o.new, o.gr, o.st, o.fz, o.nh, o.wk, o.hP, o.hfp, o.hob, o.it0⟩
  have X' : Wk ns (celled scope) { M with env := compEnvC scope (clos M.env scope.names []) C M.env } := { X with sc := hsc }
  have hasy : ∀ g ∈ (⟨.Name z p, it, [], 0⟩ :: gs : List Comprehension), g.is_async = 0 := fun g hg => (List.mem_cons.mp hg).elim (fun e => e ▸ rfl) (HG.asy g)
  have hloc : (celled scope).names.lookup z = some .local := by rw [lookup_celled, hx]; rfl
  have loop := comp_loop (M := { M with env := compEnvC scope (clos M.env scope.names []) C M.env }) (ρb := ρ) (hb := h) (k := k) (J := J) (pos := pos) X' o' rfl (turn_rest _ _ _ (elt := elt) (gens := ⟨.Name z p, it, [], 0⟩ :: gs) (scope := scope) (d := 0) rfl fun g hg => hasy g (List.mem_of_getElem? hg))
    (fun {_ _ _ _ _ _} a b c e => comp_act (M := { M with env := compEnvC scope (clos M.env scope.names []) C M.env }) X' hasy He HG 0 (.ref I) rfl a b c e) hn (X'.local hloc) hσ o.new hI2 hjs hf items 0 rfl (Nat.zero_le _) hJ S₄ (FC.weaken fun _ _ e => keep_sub hm e)
    ⟨⟨_, _, hDob, .nil⟩, o.st.none_of_fresh hDn2, o.st.notin_of_fresh hDn2, fun m => (ownC D m).elim (Ne.symm hDC) (F.notown hDn)⟩ (fun _ _ e => e) g₄.up ⟨o.fz, o.nh, fun m => (ownC I m).elim hI3 (F.notown o.new)⟩ (o.wk.frame _ _ _ o.it0 fun b hb ob e => kept b ob e)
  have fin := EvC.start (d := 0) (M := { M with env := compEnvC scope (clos M.env scope.names []) C M.env }) rfl loop (Ev.iterSelf o.wk (o.wk.frame _ _ _ o.it0 fun b hb ob e => kept b ob e))
  have ht₄ : 1 ≤ s₂.toks + ([] : List (Str × Value)).length := ht₂
  refine codeAny_mono (codeAny_toks_of ht₄ (fin { s₂ with heap := h₄, toks := s₂.toks + ([] : List (Str × Value)).length } rfl ht₄)) fun rr s' r => ?_
  obtain ⟨q0, r⟩ := r
  cases rr with
  | error e => exact r.elim
  | ok f =>
    obtain ⟨q1, q2, _, ρ', μ', out, g', S', F', a', w'⟩ := r
    have g'' : Grow [] ρ h ρ' s'.heap := g'.drop fun a m => (List.mem_cons.mp m).elim (fun e => e ▸ hDn) fun m => (List.mem_singleton.mp m : a = C) ▸ hCn
    obtain ⟨vs, n, ho, r⟩ := a'.ob
    obtain ⟨m, hm, _⟩ := F'.ns
    have g3 := g''.adopt (o := { cls := .type "list", data := .seq vs n }) a'.fz hDn
    exact q D C f s' _ μ' out (q1.trans (hg₂.trans hg₁)) (q2.trans (hos₂.trans hos₁)) q0 ⟨g3, S'.adopt ho a'.fz a'.nh, F.grow0 g3, .list Mp.put_self (r.mono (Mp.put_mono a'.fz)), ⟨m, hm⟩, (Mp.put_ne hDC).trans F'.lo.2, F'.lo.1, F.notown hCn, hCn⟩ w'

theorem SndE.comp (hc : compOk sc scope = true) (hx : scope.names.lookup z = some .local) (hn : ns[n]? = some z) (hm : masked ns fv scope = true)
    (He : SndE ns (celled scope) elt W) (HI : SndI ns sc it V) (HG : SndG ns (celled scope) gs js) : SndE ns sc (.ListComp elt (⟨.Name z p, it, [], 0⟩ :: gs) scope pos) (wComp fv n V js W) := ⟨fun _ _ => rfl, fun {M ρ σ μ h k} X S F w s hs ht => by
  rw [eval_ListComp]
  refine wpAny_comprehension_free (use := none) rfl (HI.fs M.env) (comp_clos F X.sc hc) (compOk_kind hc) (comp_names hc) ?_
  refine comp_core X hs ht S F hc hx hn hm He HI HG w fun D C f s' ρ' μ' out q1 q2 q3 x w => ?_
  obtain ⟨m, hm⟩ := x.cn
  exact ⟨m, hm, fun h'' hsb => ⟨q1, q2, .mk (a := .d (.list out)) (x.gr.skip x.cnn (fun b o hb e => hsb.extBut b o hb e)) (x.st.but x.cfz x.cnh (fun b o hb e => hsb.extBut b o hb e)) x.is w⟩⟩⟩

theorem SndS.asgComp {m : Nat} {u : Str} {pu spos : Pos} (hnu : ns[m]? = some u) (hu : isVar sc u = true) (hc : compOk sc scope = true) (hx : scope.names.lookup z = some .local) (hn : ns[n]? = some z) (hm : masked ns fv scope = true)
    (He : SndE ns (celled scope) elt W) (HI : SndI ns sc it V) (HG : SndG ns (celled scope) gs js) : SndS ns sc (.Assign [.Name u pu] (.ListComp elt (⟨.Name z p, it, [], 0⟩ :: gs) scope pos) spos) (sAsg m (wComp fv n V js W)) := ⟨fun {M ρ σ μ h k} X S F w => by
  have hsw : ∃ b, swapsWith (.ListComp elt (⟨.Name z p, it, [], 0⟩ :: gs) scope pos) (some (.Name u pu)) spos.line M.env = pure b := ⟨_, rfl⟩
  obtain ⟨b, hsw⟩ := hsw
  cases b with
  | false =>
    rw [exec_Assign_Name M.env u pu _ spos hsw]
    exact Ev.bind (Ev.standAt (Ev.bind (((SndE.comp hc hx hn hm He HI HG).go X S F w).mono fun v h' r => r.frz |>.el fun a ρ' μ' g S i ⟨d, e, q⟩ => Ev.bind (Ev.standAt (Ev.bindPX X F g S hnu hu i (e ▸ q))))))
  | true =>
    rw [exec_Assign_Name_used _ _ _ _ hsw]
    refine Ev.bind (Ev.standAt (Ev.bind ?_))
    intro s hs ht
    show wpAny _ M.A (do let _ ← comprehension (.ListComp elt (⟨.Name z p, it, [], 0⟩ :: gs) scope pos) scope M.env _ (newList []) false (eval it M.env) (some (assign (.Name u pu) M.env))) _ _ s
    refine wpAny_bind (wpAny_mono (wpAny_comprehension_free (use := some (assign (.Name u pu) M.env)) (Q := fun _ s' => s'.gens = s.gens ∧ s'.os = s.os ∧ 1 ≤ s'.toks ∧ PX M ns ρ h k .next s'.heap) rfl (HI.fs M.env) (comp_clos F X.sc hc) (compOk_kind hc) (comp_names hc) ?_) (fun _ s' hq => ?_) fun _ _ e => e)
    · refine comp_core X hs ht S F hc hx hn hm He HI HG w fun D C f s' ρ' μ' out q1 q2 q3 x w => ?_
      obtain ⟨m', hm'⟩ := x.cn
      show wpAny _ M.A (assign (.Name u pu) M.env (.ref D)) _ _ _
      refine wpAny_assign_Name ?_
      refine wpAny_mono (wpAny_toks_of q3 (Ev.storeN (a := .d (.list out)) (Q := fun _ h' => St M.h₀ ρ' μ' h' ∧ FrS ρ' M.env (sto ns (σ.set m (some (.d (.list out))))) h' ∧ Grow (owned M.env) ρ' s'.heap ρ' h') X x.st x.fr hnu hu x.is (fun h' a b c => ⟨a, b, c⟩) s' rfl q3)) (fun _ s'' q => ?_) fun _ _ q => q.2.elim
      obtain ⟨t3, t1, t2, S3, F3, g3⟩ := q
      refine ⟨m', hm'.at' fun o ho => g3.keep _ o ho x.cnh x.cno, fun h3 hsb => ⟨t1.trans q1, t2.trans q2, t3, ?_⟩⟩
      have hk : ∀ b o, b ≠ C → s''.heap.get? b = some o → h3.get? b = some o := fun b o hb e => hsb.extBut b o hb e
      exact .mk ((x.gr.up.trans g3).skip x.cnn hk) (S3.but x.cfz x.cnh hk) (F3.off x.cno hk) .next w
    · exact wpAny_pure ⟨hq.1, hq.2.1, Ev.pure hq.2.2.2⟩⟩
end
end Mine
end
section
namespace Mine

/-- what a call hands back; what it made besides is let go -/
def finP (nb : Nat) (k : KE) : KS
  | .next, _, μ => k (.d .none) (μ.take nb)
  | .ret (.d x), _, μ => k (.d x) (μ.take nb)
  | .ret (.h j), _, μ => ∃ xs, μ[j]? = some (.lst xs) ∧ nb ≤ j ∧ k (.d (.list xs)) (μ.take nb)
  | _, _, _ => False
def initS (n : Nat) (as : List AV) : Lo := as.map some ++ List.replicate (n - as.length) none
/-- a def's meaning: of j parameters and n names -/
def mfun (W : WS) (j n : Nat) (c : Cx) (as : List AV) (μ : Mem) (k : KE) : Prop := as.length = j ∧ W c (initS n as) μ (finP μ.length k)
def bindAll : List Str → List AV → Sto
  | x :: xs, a :: as => upd (bindAll xs as) x a
  | _, _ => fun _ => none

/-! the cells of a call's frame -/
theorem cellsFrom_key : ∀ (names : List (Str × NameKind)) (n : Nat) (acc : List (Str × Addr)) (x : Str), (∃ c, (x, c) ∈ cellsFrom n names acc) → (∃ c, (x, c) ∈ acc) ∨ (x, NameKind.cell) ∈ names
  | [], _, _, _, h => .inl h
  | (y, k) :: r, n, acc, x, h => by
    unfold cellsFrom at h
    split at h
    · next hk =>
      have hk' : k = .cell := by simpa using hk
      subst hk'
      rcases cellsFrom_key r _ _ x h with ⟨c, h1⟩ | h1
      · rcases List.mem_cons.mp h1 with e | h1
        · cases e; exact .inr (by simp)
        · exact .inl ⟨c, h1⟩
      · exact .inr (List.mem_cons_of_mem _ h1)
    · rcases cellsFrom_key r _ _ x h with h1 | h1
      · exact .inl h1
      · exact .inr (List.mem_cons_of_mem _ h1)

theorem cellsFrom_has : ∀ (names : List (Str × NameKind)) (n : Nat) (acc : List (Str × Addr)), (∀ p ∈ acc, p ∈ cellsFrom n names acc) ∧ ∀ x, (x, NameKind.cell) ∈ names → ∃ c, (x, c) ∈ cellsFrom n names acc
  | [], _, _ => ⟨fun _ h => h, fun _ h => by cases h⟩
  | (y, k) :: r, n, acc => by
    unfold cellsFrom
    split
    · obtain ⟨h1, h2⟩ := cellsFrom_has r (n + 1) ((y, n) :: acc)
      refine ⟨fun p hp => h1 p (List.mem_cons_of_mem _ hp), fun x hx => ?_⟩
      rcases List.mem_cons.mp hx with e | hx
      · cases e; exact ⟨n, h1 _ List.mem_cons_self⟩
      · exact h2 x hx
    · next hk =>
      obtain ⟨h1, h2⟩ := cellsFrom_has r n acc
      refine ⟨h1, fun x hx => ?_⟩
      rcases List.mem_cons.mp hx with e | hx
      · cases e; exact absurd rfl hk
      · exact h2 x hx

theorem cellsFrom_nodup : ∀ (names : List (Str × NameKind)) (n : Nat) (acc : List (Str × Addr)), (names.map (·.1)).Nodup → (∀ p ∈ acc, p.1 ∉ names.map (·.1)) → (acc.map (·.1)).Nodup → ((cellsFrom n names acc).map (·.1)).Nodup
  | [], _, _, _, _, h => h
  | (y, k) :: r, n, acc, h1, h2, h3 => by
    simp only [List.map_cons, List.nodup_cons] at h1
    unfold cellsFrom
    split
    · refine cellsFrom_nodup r _ _ h1.2 (fun p hp => ?_) ?_
      · rcases List.mem_cons.mp hp with rfl | hp
        · exact h1.1
        · exact fun m => h2 p hp (by simp only [List.map_cons]; exact List.mem_cons_of_mem _ m)
      · simp only [List.map_cons, List.nodup_cons]
        refine ⟨fun m => ?_, h3⟩
        obtain ⟨p, hp, e⟩ := List.mem_map.mp m
        exact h2 p hp (by simp [e])
    · exact cellsFrom_nodup r _ _ h1.2 (fun p hp m => h2 p hp (by simp only [List.map_cons]; exact List.mem_cons_of_mem _ m)) h3

theorem lookup_nodup {α : Type} {l : List (Str × α)} (hn : (l.map (·.1)).Nodup) {x : Str} {c : α} (h : (x, c) ∈ l) : l.lookup x = some c := by
  refine lookup_of_mem h fun c' h' => ?_
  induction l with
  | nil => cases h
  | cons p r ih =>
    simp only [List.map_cons, List.nodup_cons] at hn
    rcases List.mem_cons.mp h with e | h1 <;> rcases List.mem_cons.mp h' with e' | h2
    · rw [← e] at e'; cases e'; rfl
    · rw [← e] at hn; exact absurd (List.mem_map.mpr ⟨_, h2, rfl⟩) hn.1
    · rw [← e'] at hn; exact absurd (List.mem_map.mpr ⟨_, h1, rfl⟩) hn.1
    · exact ih hn.2 h1 h2

theorem bindL_skip {kd : Str → Option NameKind} : ∀ {binds : List (Str × Value)} {m : Str → Option Value} {x : Str}, x ∉ binds.map (·.1) → bindL kd binds m x = m x
  | [], _, _, _ => rfl
  | (y, v) :: r, m, x, h => by
    simp only [List.map_cons, List.mem_cons, not_or] at h
    unfold bindL
    rw [bindL_skip h.2]
    split
    · show (if x = y then some v else m x) = _
      rw [if_neg h.1]
    · rfl
theorem bindC_skip {kd : Str → Option NameKind} : ∀ {binds : List (Str × Value)} {m : Str → Option Value} {x : Str}, x ∉ binds.map (·.1) → bindC kd binds m x = m x
  | [], _, _, _ => rfl
  | (y, v) :: r, m, x, h => by
    simp only [List.map_cons, List.mem_cons, not_or] at h
    unfold bindC
    rw [bindC_skip h.2]
    split
    · rfl
    · show (if x = y then some v else m x) = _
      rw [if_neg h.1]
theorem bindL_get {kd : Str → Option NameKind} : ∀ {binds : List (Str × Value)} {m : Str → Option Value} {x : Str} {v : Value}, (binds.map (·.1)).Nodup → (x, v) ∈ binds → kd x = some .local → bindL kd binds m x = some v
  | [], _, _, _, _, h, _ => by cases h
  | (y, u) :: r, m, x, v, hn, h, hk => by
    simp only [List.map_cons, List.nodup_cons] at hn
    unfold bindL
    rcases List.mem_cons.mp h with e | h
    · cases e
      rw [bindL_skip hn.1, if_pos hk]
      exact if_pos rfl
    · exact bindL_get hn.2 h hk
theorem bindC_get {kd : Str → Option NameKind} : ∀ {binds : List (Str × Value)} {m : Str → Option Value} {x : Str} {v : Value}, (binds.map (·.1)).Nodup → (x, v) ∈ binds → kd x = some .cell → bindC kd binds m x = some v
  | [], _, _, _, _, h, _ => by cases h
  | (y, u) :: r, m, x, v, hn, h, hk => by
    simp only [List.map_cons, List.nodup_cons] at hn
    unfold bindC
    rcases List.mem_cons.mp h with e | h
    · cases e
      rw [bindC_skip hn.1, if_neg (by rw [hk]; decide)]
      exact if_pos rfl
    · exact bindC_get hn.2 h hk

theorem bindAll_get {ρ : Mp} : ∀ {ps : List Str} {as : List AV} {vs : List Value} {x : Str} {a : AV}, IsVs ρ vs as → bindAll ps as x = some a → ∃ v, (x, v) ∈ ps.zip vs ∧ IsV ρ v a
  | [], _, _, _, _, _, e => by simp [bindAll] at e
  | p :: ps, [], _, _, _, _, e => by simp [bindAll] at e
  | p :: ps, b :: as, _, x, a, .cons i is, e => by
    unfold bindAll upd at e
    split at e
    · next hx => cases e; subst hx; exact ⟨_, by simp, i⟩
    · obtain ⟨v, h1, h2⟩ := bindAll_get is e
      exact ⟨v, List.mem_cons_of_mem _ h1, h2⟩

structure FnAt (h₀ : Heap) (fa : Addr) (o : Obj) (fd : FuncData) (ps : List Str) (sc : Scope) (body : List Stmt) : Prop where
  ho : h₀.get? fa = some o
  hd : o.data = .func fd
  bd : fd.body = .stmts body
  scp : fd.scope = sc
  gl : fd.globals = mainGlobals
  bi : fd.builtins = builtinsNs
  cl : fd.closure = []
  code : h₀.CodeRec fd.code fd.qualname
  bind : ∀ vals : List Value, vals.length = ps.length → bindArgs fd ⟨vals, []⟩ = pure (ps.zip vals)
  kind : sc.kind = .function
  co : sc.isCoroutine = false
  gen : sc.isGenerator = false
  pk : ∀ p ∈ ps, sc.names.lookup p = some .local ∨ sc.names.lookup p = some .cell
  nd : (sc.names.map (·.1)).Nodup
  np : ps.Nodup
  lm : lamScope sc = true → fd.qualname = ("_law_least" : Str) ∧ fd.code = .ref lamCode


theorem IsVs.len {ρ : Mp} {vs as} (i : IsVs ρ vs as) : vs.length = as.length := i.length
theorem sto_none {y : Str} : ∀ {ns : List Str} {n : Nat}, sto ns (List.replicate n none) y = none := by
  intro ns
  induction ns with
  | nil => intro n; rfl
  | cons x ns ih =>
    intro n
    cases n with
    | zero => rfl
    | succ n =>
      show (if y = x then none else sto ns (List.replicate n none) y) = none
      split
      · rfl
      · exact ih
theorem sto_init {y : Str} {a : AV} {n : Nat} {rest : List Str} : ∀ {ps : List Str} {as : List AV}, as.length = ps.length → sto (ps ++ rest) (as.map some ++ List.replicate n none) y = some a → bindAll ps as y = some a := by
  intro ps
  induction ps with
  | nil =>
    intro as hl h
    cases List.eq_nil_of_length_eq_zero hl
    rw [show (([] : List Str) ++ rest) = rest from rfl, List.map_nil, List.nil_append, sto_none] at h
    cases h
  | cons x ps ih =>
    intro as hl h
    cases as with
    | nil => cases hl
    | cons b as =>
      have h : (if y = x then some b else sto (ps ++ rest) (as.map some ++ List.replicate n none) y) = some a := h
      show (if y = x then some b else bindAll ps as y) = some a
      by_cases hy : y = x
      · rw [if_pos hy] at h ⊢; exact h
      · rw [if_neg hy] at h ⊢; exact ih (Nat.succ.inj hl) h

section
variable {M : Mc} {h₀ : Heap} {ρ : Mp} {μ : Mem} {h : Heap} {env : Env} {σ : Sto} {sc : Scope}

theorem call_frame {fa : Addr} {o : Obj} {fd : FuncData} {ps : List Str} {body : List Stmt} {as : List AV} {vs : List Value} {s s₁ : Shared} (Fn : FnAt h₀ fa o fd ps sc body) (S : St M.h₀ ρ μ s.heap) (i : IsVs ρ vs as) (hl : vs.length = ps.length)
    (x : InCallC s (callEnvC fd s.heap.objs.size fa).locals (bindL (callEnvC fd s.heap.objs.size fa).kindOf (ps.zip vs) fun _ => none) (callEnvC fd s.heap.objs.size fa).cells (bindC (callEnvC fd s.heap.objs.size fa).kindOf (ps.zip vs) fun _ => none) s₁) :
    FrS ρ (callEnvC fd s.heap.objs.size fa) (bindAll ps as) s₁.heap := by
  have hkd : ∀ y, (callEnvC fd s.heap.objs.size fa).kindOf y = sc.names.lookup y := fun y => by
    unfold Env.kindOf; show fd.scope.names.lookup y = _; rw [Fn.scp]
  have hkeys : ((ps.zip vs).map (·.1)) = ps := by rw [List.map_fst_zip (by omega)]
  have hcells : (callEnvC fd s.heap.objs.size fa).cells = cellsFrom (s.heap.objs.size + 1) sc.names [] := by
    show cellsFrom _ fd.scope.names [] = _; rw [Fn.scp]
  have hnd := cellsFrom_nodup sc.names (s.heap.objs.size + 1) [] Fn.nd (fun _ h => by cases h) (by simp)
  have hcell : ∀ y, sc.names.lookup y = some .cell → ∃ c, (callEnvC fd s.heap.objs.size fa).cells.lookup y = some c := fun y hy => by
    rw [hcells]
    obtain ⟨c, hc⟩ := (cellsFrom_has sc.names (s.heap.objs.size + 1) []).2 y (mem_lookup hy)
    exact ⟨c, lookup_nodup hnd hc⟩
  have fresh : ∀ c, s.heap.objs.size ≤ c → c ∉ ρ.l ∧ ρ.f c = none := fun c hc => ⟨S.notin_of_fresh (fresh_at hc), S.none_of_fresh (fresh_at hc)⟩
  refine ⟨?_, ?_, ?_, ⟨_, x.toInCall.ns, fun y a e1 e2 => ?_⟩, fun y a e1 => ?_, fun y a e1 e2 => ?_, fun p hp => ?_, fun y e => hcell y (by rw [← hkd]; exact e), x.apart, fresh _ (Nat.le_refl _), fun e => ?_⟩
  · show fd.scope.kind = _; rw [Fn.scp]; exact Fn.kind
  · exact Fn.gl
  · exact Fn.bi
  · obtain ⟨v, h1, h2⟩ := bindAll_get i e1
    exact ⟨v, bindL_get (by rw [hkeys]; exact Fn.np) h1 e2, h2⟩
  · obtain ⟨v, h1, h2⟩ := bindAll_get i e1
    rw [hkd]
    exact Fn.pk y (by have := (List.of_mem_zip h1).1; exact this)
  · obtain ⟨v, h1, h2⟩ := bindAll_get i e1
    obtain ⟨c, hc⟩ := hcell y (by rw [← hkd]; exact e2)
    refine ⟨c, v, hc, ?_, h2⟩
    have := x.cell y c hc
    rw [bindC_get (by rw [hkeys]; exact Fn.np) h1 e2] at this
    exact this
  · have hlk : (callEnvC fd s.heap.objs.size fa).cells.lookup p.1 = some p.2 := by
      rw [hcells] at hp ⊢
      exact lookup_nodup hnd hp
    have hab : s.heap.objs.size < p.2 := x.above p.1 p.2 hp
    exact ⟨⟨_, x.cell p.1 p.2 hlk⟩, Nat.ne_of_gt hab, fresh _ (Nat.le_of_lt hab)⟩
  · have e' : lamScope fd.scope = true := e
    rw [Fn.scp] at e'
    obtain ⟨h1, h2⟩ := Fn.lm e'
    refine ⟨?_, h2⟩
    show fd.qualname ++ ".<locals>." = _
    rw [h1]; rfl


theorem Grow.own {X : List Addr} {ρ' h'} (g : Grow X ρ h ρ' h') (hX : ∀ a ∈ X, h.get? a = none) : Grow [] ρ h ⟨ρ'.f, ρ.l⟩ h' :=
  { g.drop hX with eta := List.prefix_refl _, new := fun a m => .inl m }

/-- a call of a def, the tokens kept in sight -/
theorem codeAny_call_toks {s : Shared} {ρ : Result → Shared → Prop} {a : Addr} {o : Obj} {fd : FuncData} {body : List Stmt} {vals : List Value} {binds : List (Str × Value)}
    (hroom : A.depth < recursionLimit) (ht : 1 ≤ s.toks) (ho : s.heap.get? a = some o) (hdata : o.data = .func fd) (hlim : s.heap.NoLimit) (hcd : s.heap.CodeRec fd.code fd.qualname)
    (hbody : fd.body = .stmts body) (hbind : bindArgs fd ⟨vals, []⟩ = pure binds) (hclo : fd.closure = [])
    (hkind : ∀ x ∈ binds, fd.scope.names.lookup x.1 = some .local ∨ (fd.scope.names.lookup x.1 = some .cell ∧ ((cellsFrom (s.heap.objs.size + 1) fd.scope.names []).lookup x.1).isSome = true))
    (h : ∀ s₁, InCallC s (callEnvC fd s.heap.objs.size a).locals (bindL (callEnvC fd s.heap.objs.size a).kindOf binds fun _ => none) (callEnvC fd s.heap.objs.size a).cells
        (bindC (callEnvC fd s.heap.objs.size a).kindOf binds fun _ => none) s₁ → 1 ≤ s₁.toks →
      wpAny (model M.prog M.w) (A.deeper (callEnvC fd s.heap.objs.size a)) (execs body (callEnvC fd s.heap.objs.size a)) (fun f s' => ρ (.ok (.ret (match f with | .ret v => v | _ => .none))) s')
        (fun _ _ => False) s₁)
    (hco : fd.scope.isCoroutine = false) (hgen : fd.scope.isGenerator = false) (hk : fd.scope.kind = .function) :
    codeAny (model M.prog M.w) A (.call (.ref a) ⟨vals, []⟩) ρ s := by
  refine codeAny_call_function hroom ho hdata hco hgen hbody hcd ?_
  rw [hbind, hclo]
  refine wpAny_pure (wpAny_with_toks ht (wpAny_newFunctionEnv_cells hk hkind fun env he s' x ht' => ?_))
  subst he
  exact ⟨hlim.keeps x.toInCall.keep, codeAny_func (wpAny_mono (h s' x ht') (fun _ _ q => q) fun _ _ q => q.elim)⟩


theorem call_ok {prog : Program} {w : World} {h₀ : Heap} {c : Cx} {K : Nat} {mg mb : Str → Option Value} {fa : Addr} {o : Obj} {fd : FuncData} {ps rest : List Str} {body : List Stmt} {W : WS} {n : Nat} (G : Gl prog w h₀ c K mg mb) (C : c.lam = true → CodeHd h₀ lamCode lamTab) (Fn : FnAt h₀ fa o fd ps sc body)
    (hnd : (ps ++ rest).Nodup) (hdb : ∀ x ∈ ps ++ rest, (x == ("__debug__" : Str)) = false) (H : SndB (ps ++ rest) sc body W) : CallSound prog w h₀ (K + 16 + 1) fa (mfun W ps.length n c) := by
  intro M rfl rfl rfl hA as vs ρ μ h k q S i s hs htk
  subst hs
  obtain ⟨hlen, w⟩ := q
  have hvl : vs.length = ps.length := i.length.trans hlen
  refine wpAny_call ?_
  have hsc : fd.scope = sc := Fn.scp
  have S' : St M.h₀ ρ μ s.heap := S
  refine codeAny_call_toks (a := fa) (o := o) (fd := fd) (body := body) (binds := ps.zip vs) (by have := hA.2.1; omega) htk (S'.keeps0 _ _ Fn.ho) Fn.hd (G.lim.keeps S'.keeps0) (Fn.code.keeps S'.keeps0) Fn.bd (Fn.bind vs hvl) Fn.cl ?_ ?_ (by rw [hsc]; exact Fn.co) (by rw [hsc]; exact Fn.gen) (by rw [hsc]; exact Fn.kind)
  · intro p hp
    rw [hsc]
    have hm : p.1 ∈ ps := (List.of_mem_zip (show (p.1, p.2) ∈ ps.zip vs from hp)).1
    rcases Fn.pk _ hm with h1 | h1
    · exact .inl h1
    · refine .inr ⟨h1, ?_⟩
      have hnd := cellsFrom_nodup sc.names (s.heap.objs.size + 1) [] Fn.nd (fun _ h => by cases h) (by simp)
      obtain ⟨c', hc'⟩ := (cellsFrom_has sc.names (s.heap.objs.size + 1) []).2 p.1 (mem_lookup h1)
      rw [lookup_nodup hnd hc']; rfl
  intro s₁ x htk₁
  have F := call_frame Fn S i hvl x
  have hk := x.toInCall.keep
  obtain ⟨h₁, tk, rfl⟩ := x.toInCall.same
  have S₁ : St M.h₀ ρ μ h₁ := S.keepAll hk
  have X : Wk (ps ++ rest) sc { M with A := M.A.deeper (callEnvC fd s.heap.objs.size fa), env := callEnvC fd s.heap.objs.size fa, c := c, K := K, mg := mg, mb := mb } := ⟨hA.deeper.le (Nat.le_add_right _ _), G, fun e => ⟨hA.deeper.le (Nat.le_add_left _ _), C e⟩, hsc, hnd, hdb⟩
  refine wpAny_mono (H.go (M := { M with A := M.A.deeper (callEnvC fd s.heap.objs.size fa), env := callEnvC fd s.heap.objs.size fa, c := c, K := K, mg := mg, mb := mb }) X S₁ (F.weaken fun _ _ => sto_init hlen) w { s with heap := h₁, toks := tk } rfl htk₁) (fun f' s' q => ?_) fun _ _ q => q
  obtain ⟨hg, hos, fl, ρ', σ', μ₁, g, S', _, fi, w'⟩ := q
  have hX : ∀ b ∈ owned (callEnvC fd s.heap.objs.size fa), s.heap.get? b = none := fun b hb => by
    rcases List.mem_cons.mp hb with rfl | hb
    · exact fresh_at (Nat.le_refl _)
    · obtain ⟨p, hp, rfl⟩ := List.mem_map.mp hb
      exact fresh_at (Nat.le_of_lt (x.above p.1 p.2 hp))
  have g' : Grow (owned (callEnvC fd s.heap.objs.size fa)) ρ s.heap ρ' s'.heap := (Grow.keepAll hk).trans g
  have hη : ρ'.l.take μ.length = ρ.l := by
    obtain ⟨t, ht⟩ := g.eta
    rw [← ht, ← S.len]; exact List.take_left
  have fin : ∀ {v d} {ρ2 : Mp}, ρ2.l = ρ'.l → Grow (owned (callEnvC fd s.heap.objs.size fa)) ρ s.heap ρ2 s'.heap → St M.h₀ ρ2 μ₁ s'.heap ∨ (∃ j, μ.length ≤ j ∧ St M.h₀ ρ2 (μ₁.set j .dead) s'.heap) → Is ρ2.f v d → k (.d d) (μ₁.take μ.length) → PE M ρ s.heap k v s'.heap := fun {v d ρ2} e g2 S2 iv w => by
    have St' : St M.h₀ ⟨ρ2.f, ρ.l⟩ (μ₁.take μ.length) s'.heap := by
      rw [← hη, ← e]
      rcases S2 with S2 | ⟨j, hj, S2⟩
      · exact S2.take _
      · have := S2.take μ.length
        rw [List.take_set_of_le hj] at this; exact this
    exact .mk (a := .d d) (g2.own hX) St' iv w
  refine ⟨hg, hos, ?_⟩
  cases fi with
  | next => exact fin rfl g' (.inl S') .none w'
  | brk => exact w'.elim
  | cont => exact w'.elim
  | ret fi =>
    rename_i v a
    cases a with
    | d d => exact fin rfl g' (.inl S') fi w'
    | h j =>
      obtain ⟨xs, hm, hj, w'⟩ := w'
      obtain ⟨l, hl, rfl⟩ := fi
      obtain ⟨ρ2, S2, i2, g2, e2⟩ := S'.freezeH hl hm
      exact fin e2 (g'.trans (g2 _)) (.inr ⟨j, hj, S2⟩) i2 w'
end
theorem set_same {α : Type} {μ : List α} {k : Nat} {m : α} (h : μ[k]? = some m) : μ.set k m = μ := by
  apply List.ext_getElem?
  intro i
  by_cases hi : k = i
  · subst hi; rw [List.getElem?_set_self (List.getElem?_eq_some_iff.mp h).1, h]
  · rw [List.getElem?_set_ne hi]
end Mine
end
section
namespace Mine

/-! ### a set of texts -/
theorem layNew_led {t : SetTable} {es : Array (Int × Value)} {h : Int} {x : Value} : (layNew t es h x).2.1.led = t.led ∧ (t.plain = false → (layNew t es h x).2.1.plain = false) := by
  unfold layNew
  split
  · show (SetTable.orStandIn _ _).led = _ ∧ (_ → (SetTable.orStandIn _ _).plain = _)
    unfold SetTable.orStandIn
    split
    · exact ⟨rfl, id⟩
    · exact ⟨rfl, fun _ => rfl⟩
  · exact ⟨rfl, fun _ => rfl⟩
theorem laid_led {m f v : Nat} {l p : Bool} {hs : Array Int} {t : SetTable} {o : Array Nat} (e : SetTable.laid m f v l p hs = some (t, o)) : t.led = l ∧ t.plain = p := by
  unfold SetTable.laid at e
  cases h : SetTable.layClean m hs with
  | none => rw [h] at e; cases e
  | some ow => rw [h] at e; cases e; exact ⟨rfl, rfl⟩
theorem relayAll_led {t : SetTable} {es : Array (Int × Value)} {n : Nat} : (relayAll t es n).2.1.led = t.led ∧ (t.plain = false → (relayAll t es n).2.1.plain = false) := by
  unfold relayAll
  split
  · next t' order e =>
    obtain ⟨e1, e2⟩ := laid_led e
    dsimp only
    split
    · exact ⟨e1, fun h => e2.trans h⟩
    · exact ⟨rfl, fun _ => rfl⟩
  · exact ⟨rfl, fun _ => rfl⟩

def ledOf (w : World) : Bool := !w.params.followText "set-order"
def txOf : Value → Str
  | .str x _ => x
  | _ => ⟨#[]⟩
/-- the texts that a set holds, each once; how its table is led -/
def SSet (prog : Program) (w : World) (h : Heap) (a : Addr) (ks : List Str) : Prop :=
  ∃ es ep t, h.get? a = some { cls := .type "set", data := .set es ep t } ∧ ElemsOf (strKind prog w) es.toList ∧ t.fits es.size = true ∧ t.led = ledOf w ∧ (0 < es.size → t.plain = false) ∧ (es.toList.map fun e => txOf e.2).Perm ks ∧ ks.length < scanBound
def insS (ks : List Str) (x : Str) : List Str := if x ∈ ks then ks else ks ++ [x]

theorem elem_str {prog : Program} {w : World} {es : List (Int × Value)} (H : ElemsOf (strKind prog w) es) {e : Int × Value} (he : e ∈ es) : ∃ x t, e.2 = .str x t := by
  obtain ⟨⟨k, hk, _⟩, _⟩ := H e he
  obtain ⟨t, ht⟩ := Value.isStrOf_shape hk
  exact ⟨k, t, ht⟩
theorem is_strOf {k x : Str} {t : Tok} : (Value.str x t).isStrOf k = true ↔ k = x := by
  constructor
  · intro h; obtain ⟨u, hu⟩ := Value.isStrOf_shape h; cases hu; rfl
  · rintro rfl; simp [Value.isStrOf]
theorem find_mem {prog : Program} {w : World} {es : List (Int × Value)} (H : ElemsOf (strKind prog w) es) {k : Str} : (∃ e ∈ es, (strKind prog w).is k e.2 = true) ↔ k ∈ es.map fun e => txOf e.2 := by
  rw [List.mem_map]
  constructor
  · rintro ⟨e, he, h⟩
    obtain ⟨x, t, hx⟩ := elem_str H he
    rw [hx] at h
    exact ⟨e, he, by rw [hx]; exact (is_strOf (t := t) |>.mp h).symm⟩
  · rintro ⟨e, he, h⟩
    obtain ⟨x, t, hx⟩ := elem_str H he
    rw [hx] at h
    exact ⟨e, he, by rw [hx]; exact is_strOf (t := t) |>.mpr h.symm⟩

section
variable {prog : Program} {w : World} {A : Around} {E : Value → Shared → Prop} {s : Shared}
theorem SSet.store {a : Addr} {es es' : Array (Int × Value)} {ep : Nat} {t t' : SetTable} {ks : List Str} {h : Heap} (ho : h.get? a = some { cls := .type "set", data := .set es ep t }) (he : ElemsOf (strKind prog w) es'.toList) (hf : t'.fits es'.size = true) (hl : t'.led = ledOf w) (hp : t'.plain = false)
    (hk : (es'.toList.map fun e => txOf e.2).Perm ks) (hb : ks.length < scanBound) : (h.update a (Obj.putSet es' t')).get? a = some { cls := .type "set", data := .set es' (ep + 1) t' } ∧ SSet prog w (h.update a (Obj.putSet es' t')) a ks := by
  have hg : (h.update a (Obj.putSet es' t')).get? a = some { cls := .type "set", data := .set es' (ep + 1) t' } := by
    have := Heap.get?_update_self (Obj.putSet es' t') ho (by rw [putSet_of es' t' rfl]; rfl)
    rw [putSet_of es' t' rfl] at this; exact this
  exact ⟨hg, es', ep + 1, t', hg, he, hf, hl, fun _ => hp, hk, hb⟩

theorem gave_ok {b : Bool} {s₁ : Shared} {Q' : Unit → Shared → Prop} (hq : Q' () s₁) : wpAny (model prog w) A (match b with | true => rule "set.scan.the-table-gave-way" | false => pure ()) Q' E s₁ := by
  cases b
  · exact wpAny_pure hq
  · exact wpAny_rule hq

theorem add_text {a : Addr} {ks : List Str} {x : Str} {tk : Tok} {Q : Bool → Shared → Prop} (S : SSet prog w s.heap a ks) (hroom : ks.length + 1 < scanBound)
    (h : ∀ b h', Heap.SameBut a s.heap h' → SSet prog w h' a (insS ks x) → Q b { s with heap := h' }) :
    wpAny (model prog w) A (setAddHashed a (.str x tk) (hashStr w x)) Q E s := by
  obtain ⟨es, ep, t, ho, hel, hf, hl, hpl, hk, hb⟩ := S
  have hsz : es.size = ks.length := by rw [← hk.length_eq, List.length_map, Array.length_toList]
  have hkey : (strKind prog w).is x (.str x tk) = true := strKind_is _ _ x tk
  unfold setAddHashed setAddHashedIn
  refine wpAny_holding (wpAny_bind (wpAny_setState_of ho rfl hf ?_))
  dsimp only
  rw [byScan_of (knd := strKind prog w) (x := .str x tk) rfl (by rw [hsz]; exact hb) hel]
  simp only [↓reduceIte]
  unfold setAddByScan
  refine wpAny_bind ?_
  refine wpAny_bind (wpAny_rule ?_)
  refine wpAny_bind (wpAny_setScan_of (knd := strKind prog w) hkey ho rfl hf hel ?_)
  cases hr : List.findIdx? (fun e => (strKind prog w).is x e.2) es.toList with
  | some j =>
    dsimp only
    obtain ⟨hj, hpj, _⟩ := List.findIdx?_eq_some_iff_getElem.mp hr
    have hm : x ∈ ks := hk.mem_iff.mp ((find_mem hel).mp ⟨_, List.getElem_mem hj, hpj⟩)
    refine wpAny_pure (wpAny_pure ?_)
    have := h false s.heap (Heap.SameBut.refl a s.heap) (by rw [insS, if_pos hm]; exact ⟨es, ep, t, ho, hel, hf, hl, hpl, hk, hb⟩)
    exact this
  | none =>
    dsimp only
    have hm : x ∉ ks := fun hm => by
      obtain ⟨e, he, hp⟩ := (find_mem hel).mpr (hk.mem_iff.mpr hm)
      have := List.findIdx?_eq_none_iff.mp hr e he; rw [hp] at this; cases this
    rw [insS, if_neg hm] at h
    have hperm := layNew_perm t es (hashStr w x) (.str x tk)
    have hfits := layNew_fits t es (hashStr w x) (.str x tk)
    have hled := layNew_led (t := t) (es := es) (h := hashStr w x) (x := .str x tk)
    generalize layNew t es (hashStr w x) (.str x tk) = L at hperm hfits hled ⊢
    obtain ⟨es1, t1, wasDummy, gave⟩ := L
    dsimp only at hperm hfits hled ⊢
    rw [Array.toList_push] at hperm
    have hel1 : ElemsOf (strKind prog w) es1.toList := (hel.push (knd := strKind prog w) hkey rfl).perm hperm
    have hk1 : (es1.toList.map fun e => txOf e.2).Perm (ks ++ [x]) := by
      refine (hperm.map _).trans ?_
      rw [List.map_append]
      exact hk.append_right _
    have hb1 : (ks ++ [x]).length < scanBound := by rw [List.length_append]; exact hroom
    have hsz1 : es1.size ≤ sizeLine := by
      rw [← Array.length_toList, hperm.length_eq, List.length_append, Array.length_toList, hsz]
      exact Nat.le_trans (Nat.le_of_lt hroom) (by decide)
    refine wpAny_bind (gave_ok ?_)
    have tail : ∀ t2 : SetTable, t2.fits es1.size = true → t2.led = ledOf w → t2.plain = false → wpAny (model prog w) A (do
        storeSet a es1 t2
        if (!wasDummy && t2.tooFull) = true then do
            (match (relayAll t2 es1 (SetTable.grown es1.size)).2.2 with | true => rule "set.scan.the-table-gave-way" | false => pure ())
            storeSet a (relayAll t2 es1 (SetTable.grown es1.size)).1 (relayAll t2 es1 (SetTable.grown es1.size)).2.1
            pure (some true)
          else pure (some true)) (fun r s' => r = some true ∧ Q true s') E s := fun t2 f2 l2 p2 => by
      refine wpAny_bind (wpAny_storeSet_of ho rfl ?_ hsz1)
      obtain ⟨ho1, hS1⟩ := SSet.store (prog := prog) ho hel1 f2 l2 p2 hk1 hb1
      have hsb1 := Heap.SameBut.update s.heap a (Obj.putSet es1 t2)
      split
      · have hp := relayAll_perm t2 es1 (SetTable.grown es1.size)
        have hfr := relayAll_fits t2 es1 (SetTable.grown es1.size)
        have hlr := relayAll_led (t := t2) (es := es1) (n := SetTable.grown es1.size)
        generalize relayAll t2 es1 (SetTable.grown es1.size) = Rl at hp hfr hlr ⊢
        obtain ⟨es2, t3, gave2⟩ := Rl
        dsimp only at hp hfr hlr ⊢
        refine wpAny_bind (gave_ok ?_)
        refine wpAny_bind (wpAny_storeSet_of ho1 rfl ?_ (by rw [← Array.length_toList, hp.length_eq, Array.length_toList]; exact hsz1))
        obtain ⟨_, hS2⟩ := SSet.store (prog := prog) ho1 (hel1.perm hp) hfr (hlr.1.trans l2) (hlr.2 p2) ((hp.map _).trans hk1) hb1
        exact wpAny_pure ⟨rfl, h true _ (hsb1.trans (Heap.SameBut.update _ a _)) hS2⟩
      · exact wpAny_pure ⟨rfl, h true _ hsb1 hS1⟩
    have fin : ∀ r s', r = some true ∧ Q true s' → wpAny (model prog w) A (match r with | some added => pure added | none => setAddHashedIn a (.str x tk) (hashStr w x) 99999) Q E s' := fun r s' q => by
      obtain ⟨rfl, q⟩ := q; exact wpAny_pure q
    split
    · refine wpAny_bind ?_
      rw [hashByValue_scannable 8 (show (Value.str x tk).scannable = true from rfl)]
      refine wpAny_pure ?_
      exact wpAny_mono (tail { t1 with plain := false } (SetTable.fits_plain_off hfits) (hled.1.trans hl) rfl) (fun r s' q => fin r s' q) fun _ _ e => e
    · next hnp =>
      refine wpAny_bind (wpAny_pure ?_)
      simp only [↓reduceIte]
      exact wpAny_mono (tail t1 hfits (hled.1.trans hl) (by simpa using hnp)) (fun r s' q => fin r s' q) fun _ _ e => e
end
end Mine
end
section
namespace Mine
section
variable {prog : Program} {w : World} {A : Around} {E : Value → Shared → Prop} {s : Shared} {R : Result → Shared → Prop} {I : Addr} {fp wr : List Addr} {G : Array GenState → Array GenState → Prop} {n : Nat} {P : Nat → Value → Prop} {St : Nat → Shared → Prop}

/-- the texts met so far, each once -/
def met (ss : List Str) (i : Nat) : List Str := (ss.take i).foldl insS []
theorem met_len (ss : List Str) : ∀ i, (met ss i).length ≤ i := fun i => by
  have key : ∀ (l acc : List Str), (l.foldl insS acc).length ≤ acc.length + l.length := by
    intro l
    induction l with
    | nil => intro acc; exact Nat.le_refl _
    | cons x l ih =>
      intro acc
      have := ih (insS acc x)
      have h2 : (insS acc x).length ≤ acc.length + 1 := by
        unfold insS; split
        · exact Nat.le_succ _
        · rw [List.length_append]; exact Nat.le_refl _
      rw [List.foldl_cons, List.length_cons]; omega
  have := key (ss.take i) []
  rw [List.length_take] at this
  unfold met
  have h0 : ([] : List Str).length = 0 := rfl
  omega
theorem met_succ {ss : List Str} {i : Nat} {x : Str} (h : ss[i]? = some x) : met ss (i + 1) = insS (met ss i) x := by
  unfold met
  rw [List.take_add_one, h, List.foldl_append]; rfl

theorem set_loop (W : WalksS prog w A.in1 I fp wr G n P St) (S : Addr) (hSf : S ∉ fp) (ss : List Str) (hn : n = ss.length)
    (hval : ∀ i v, P i v → ∃ x t, ss[i]? = some x ∧ v = .str x t) (hb : n + 1 < scanBound) :
    ∀ (k i : Nat) (s : Shared), n - i = k → i ≤ n → St i s → SSet prog w s.heap S (met ss i) →
      (∀ s', Moved (S :: wr) G s s' → SSet prog w s'.heap S (met ss n) → R (.ok (.ret .none)) s') →
      codeAny (model prog w) A (.builtin "set.update.loop" ⟨[.ref S, .ref I], []⟩) R s := by
  have hSw : S ∉ wr := fun h => hSf (W.sub _ h)
  have hsub : ∀ b ∈ wr, b ∈ S :: wr := fun b hb => List.mem_cons_of_mem _ hb
  intro k
  induction k with
  | zero =>
    intro i s hk hi hst hS hR
    have hin : i = n := by omega
    subst hin
    refine codeAny_builtin F.entry_set_update_loop ?_
    rw [Around.under_plainId F.plain_set_update_loop _]
    show wpAny _ A.in1 (pyNext (.ref I) >>= _) _ _ s
    refine wpAny_bind (W.done s _ _ hst fun s' hm => ?_)
    show wpAny _ A.in1 (ret Value.none) _ _ s'
    exact wpAny_pure (hR s' (hm.mono hsub) (by
      obtain ⟨es, ep, t, ho, rest⟩ := hS
      exact ⟨es, ep, t, hm.heap S _ hSw ho, rest⟩))
  | succ k ih =>
    intro i s hk hi hst hS hR
    have hlt : i < n := by omega
    refine codeAny_builtin F.entry_set_update_loop ?_
    rw [Around.under_plainId F.plain_set_update_loop _]
    show wpAny _ A.in1 (pyNext (.ref I) >>= _) _ _ s
    refine wpAny_bind (W.item i s _ _ hlt hst fun v s' hP hst' hm => ?_)
    obtain ⟨x, t, hx, rfl⟩ := hval i v hP
    have hS' : SSet prog w s'.heap S (met ss i) := by
      obtain ⟨es, ep, tb, ho, rest⟩ := hS
      exact ⟨es, ep, tb, hm.heap S _ hSw ho, rest⟩
    show wpAny _ A.in1 (holding [Value.str x t] (setAdd S (.str x t)) >>= _) _ _ s'
    refine wpAny_bind (wpAny_holding ?_)
    unfold setAdd
    refine wpAny_holding ?_
    refine wpAny_bind (wpAny_pyHash_str ?_)
    refine add_text (s := { s' with toks := s'.toks + 1 }) hS' (by have := met_len ss i; omega) fun b h' hsb hS2 => ?_
    rw [← met_succ hx] at hS2
    refine wpAny_pure ⟨plainId_quiet F.plain_set_update_loop _, ih (i + 1) _ (by omega) hlt (W.frame _ s' _ _ hst' (Nat.le_succ _) fun b hb o e => ?_) hS2 fun s'' hm'' hS'' => ?_⟩
    · rw [hsb.2 b (fun h : b = S => hSf (by rw [← h]; exact hb))]; exact e
    · refine hR s'' (Moved.trans W.gtrans ((hm.mono hsub).then_heap (Nat.le_succ _) fun b o hb e => ?_) hm'') hS''
      rw [hsb.2 b (fun h : b = S => hb (by rw [h]; exact List.mem_cons_self))]; exact e

theorem set_new_w (a : Value) {Q₁ : Value → Shared → Prop}
    (h : Q₁ (.ref s.heap.objs.size) { s with heap := s.heap.push { cls := .type "set", dict := none, data := .set #[] 0 (.fresh 0 0 (ledOf w)) } }) :
    codeAny (model prog w) A (.call (.builtin "set.__new__") ⟨[.type "set", a], []⟩) (wants Q₁ E) s := by
  refine codeAny_of_tree ?_
  show wpAny _ A.in1 (do checkBuiltinCall "set.__new__" ⟨[.type "set", a], []⟩; again (.builtin "set.__new__" ⟨[.type "set", a], []⟩)) _ _ s
  refine wpAny_bind (wpAny_of_eq (F.newCall_set_1 a) (wpAny_pure ⟨plainId_quiet F.plain_set_new _, codeAny_builtin F.entry_set_new ?_⟩))
  rw [Around.under_plainId F.plain_set_new _]
  unfold Builtin.«set.__new__» Builtin.Frozenset.newClass
  have hsub := sub_set_self
  obtain ⟨hp, g, d, tk, os⟩ := s
  dsimp only
  wp_walk
  refine wpAny_askSetting (wpAny_pure ?_)
  dsimp only
  simp only [newObj]
  refine wpAny_bind (wpAny_alloc (wpAny_pure ?_))
  exact wpAny_pure h
end
end Mine
end
section
set_option maxRecDepth 100000
namespace Mine
theorem strs_at {ρ : Frz} : ∀ {vs : List Value} {ss : List Str}, IsAll ρ vs (ss.map .str) → ∀ (i : Nat) (v : Value), vs[i]? = some v → ∃ x t, ss[i]? = some x ∧ v = .str x t
  | [], _, _, i, v, h => by cases h
  | v0 :: vs, [], k, _, _, _ => by cases k
  | v0 :: vs, x :: ss, .cons a b, i, v, h => by
    cases i with
    | zero => cases h; obtain ⟨t, rfl⟩ := is_str a; exact ⟨x, t, rfl, rfl⟩
    | succ i => exact strs_at b i v h

section
variable {prog : Program} {w : World} {A : Around} {E : Value → Shared → Prop} {s : Shared}
abbrev freshSet (w : World) : Obj := { cls := .type "set", dict := none, data := .set #[] 0 (.fresh 0 0 (ledOf w)) }

set_option maxHeartbeats 3200000 in
theorem call_set_texts {l : Addr} {items : Array Value} {ss : List Str} {ρ : Frz} {Q : Value → Shared → Prop} (hh : A.handled = none) (hl : s.heap.IsList l items) (hi : IsAll ρ items.toList (ss.map .str)) (hb : ss.length + 1 < scanBound)
    (h : ∀ (h' : Heap) (tk : Nat), SSet prog w h' s.heap.objs.size (met ss ss.length) → (∀ b o, b < s.heap.objs.size → s.heap.get? b = some o → h'.get? b = some o) → Q (.ref s.heap.objs.size) { s with heap := h', toks := tk }) :
    wpAny (model prog w) A (call (.type "set") [.ref l]) Q E s := by
  have hsz : items.size = ss.length := by rw [← Array.length_toList, hi.length, List.length_map]
  obtain ⟨c, tl, hmro⟩ := F.called_set.mro
  have hmade := F.called_set.made
  have hsub := F.called_set.sub
  refine wpAny_call (codeAny_of_tree ?_)
  show wpAny _ _ (callAny (.type "set") _) _ _ _
  refine wpAny_pure ⟨Code.quiet_builtin _ (by decide +kernel), codeAny_builtin F.entry_type_call ?_⟩
  rw [Around.under_plain (weight_type_call_type "set" [.ref l] []) rfl]
  have h1 := F.called_set.notType
  have h2 := F.called_set.canCreate
  have hct := F.typeCall_set_1 (.ref l)
  repeat (any_goals (first | assumption | wp_step))
  refine codeAny_mono (set_new_w (.ref l) (E := E) (Q₁ := fun obj s₁ => obj = .ref s.heap.objs.size ∧ s₁ = { s with heap := s.heap.push (freshSet w) }) ⟨rfl, rfl⟩) fun r s₁ hr => ?_
  cases r with
  | error e => exact hr
  | ok fl =>
    cases fl with
    | ret obj =>
      obtain ⟨rfl, rfl⟩ := hr
      have hS : (s.heap.push (freshSet w)).get? s.heap.objs.size = some (freshSet w) := Heap.get?_push_size _ rfl
      have hT : Shared.TypeIs { s with heap := s.heap.push (freshSet w) } (.ref s.heap.objs.size) "set" := ⟨_, hS, rfl⟩
      have hli := F.called_set.init.lookup
      have hbi := F.called_set.init.bind (.ref s.heap.objs.size)
      repeat (any_goals (first | assumption | wp_step))
      refine codeAny_mono (codeAny_call_builtin (R := wants (fun r s₂ => r = .none ∧ ∃ h' tk, s₂ = { s with heap := h', toks := tk } ∧ SSet prog w h' s.heap.objs.size (met ss ss.length) ∧
          (∀ b o, b < s.heap.objs.size → s.heap.get? b = some o → h'.get? b = some o)) E) F.called_set.init.plain F.entry_set_init (check_set_init_1 hT ?_)) fun r₂ s₂ hr₂ => ?_
      · obtain ⟨ol, hol, hcl, nl, hdl⟩ := hl
        obtain ⟨ocls, odict, odata, oslots⟩ := ol
        simp only at hcl hdl
        subst hcl; subst hdl
        have hol' : (s.heap.push (freshSet w)).get? l = some { cls := .type "list", dict := odict, data := .seq items nl, slots := oslots } := Heap.get?_push_of_some _ hol
        have hsls := F.sub_list_set
        have hslf := F.sub_list_frozenset
        have hne : (Value.type "list" == Value.type "dict") = false := by decide
        have hl1 : (s.heap.push (freshSet w)).IsList l items := ⟨_, hol', rfl, nl, rfl⟩
        unfold Builtin.«set.__init__» noKeywords Builtin.Frozenset.updateFrom
        generalize hPI : pyIter = PI
        wp_walk
        subst hPI
        refine wpAny_pyIter_list hl1 ?_
        refine wpAny_bind (wpAny_runValue ?_)
        have hlS : l < s.heap.objs.size := Heap.lt_size hol
        have hh3 : A.in1.in1.in1.handled = none := by simp [hh]
        have hneI : l ≠ (s.heap.push (freshSet w)).objs.size := by
          rw [Heap.size_push]; exact Nat.ne_of_lt (Nat.lt_succ_of_lt hlS)
        have hSf : s.heap.objs.size ∉ [(s.heap.push (freshSet w)).objs.size, l] := by
          rw [Heap.size_push]; simp only [List.mem_cons, List.not_mem_nil, or_false, not_or]
          exact ⟨Nat.ne_of_lt (Nat.lt_succ_self _), Nat.ne_of_gt hlS⟩
        refine set_loop (prog := prog) ((Walks.list hh3 _ l hneI items).toS) s.heap.objs.size hSf ss hsz (fun i v hv => strs_at hi i v (by rw [Array.getElem?_toList]; exact hv)) (by rw [hsz]; exact hb) (items.size - 0) 0 _ (by omega) (Nat.zero_le _)
          ⟨⟨_, Heap.get?_push_size _ rfl, rfl, rfl⟩, (hl1.push _)⟩ ?hS0 ?hR
        case hS0 =>
          exact ⟨#[], 0, _, Heap.get?_push_of_some _ hS, fun e he => by simp at he, rfl, rfl, fun h => absurd h (Nat.lt_irrefl _), List.Perm.nil, by show 0 < scanBound; decide⟩
        case hR =>
          intro s' hm hS'
          rw [hsz] at hS'
          obtain ⟨h', g', d', tk', os'⟩ := s'
          have eg : g' = s.gens := hm.gens
          have ed : d' = s.drawn := hm.drawn
          have eo : os' = s.os := hm.os
          subst eg; subst ed; subst eo
          show wpAny _ _ _ _ _ _
          refine wpAny_pure ?_
          show wpAny _ _ (ret Value.none) _ _ _
          refine wpAny_pure ⟨rfl, h', tk', rfl, hS', fun b o hb e => ?_⟩
          have hb1 : b ≠ s.heap.objs.size := Nat.ne_of_lt hb
          have hb2 : b ≠ (s.heap.push (freshSet w)).objs.size := by
            rw [Heap.size_push]; exact Nat.ne_of_lt (Nat.lt_succ_of_lt hb)
          exact hm.heap b o (by simp only [List.mem_cons, List.not_mem_nil, or_false, not_or]; exact ⟨hb1, hb2⟩) (Heap.get?_push_of_some _ (Heap.get?_push_of_some _ e))
      · cases r₂ with
        | error e => exact hr₂
        | ok fl₂ =>
          cases fl₂ with
          | ret r =>
            obtain ⟨rfl, h', tk, rfl, hS', hk'⟩ := hr₂
            repeat (any_goals (first | assumption | wp_step))
            exact h _ _ hS' hk'
          | _ => exact hr₂.elim
    | _ => exact hr.elim
end
end Mine
end
section
namespace Mine
theorem slot_setit_next : Slot "set_iterator" "__next__" "set_iterator.__next__" :=
  .of (owner := "set_iterator") (n := "__next__") (by rw [typeLookup_type, builtinLookup_eq_fast]; kernel_rfl) (by decide +kernel) (by decide +kernel) (by decide +kernel)
    (by first | exact .inl (by decide +kernel) | exact .inr (by decide +kernel)) (by rw [isSubtype_type]; kernel_rfl)
theorem entry_setit_next : entryFor table "set_iterator.__next__" = some Builtin.«set_iterator.__next__» := entryFor_of_tree (by kernel_rfl)
theorem args_setit_next (a : Value) : argsOk "set_iterator.__next__" ⟨[a], []⟩ := by unfold argsOk; kernel_rfl
theorem slot_set_iter : Slot "set" "__iter__" "set.__iter__" :=
  .of (owner := "set") (n := "__iter__") (by rw [typeLookup_type, builtinLookup_eq_fast]; kernel_rfl) (by decide +kernel) (by decide +kernel) (by decide +kernel)
    (by first | exact .inl (by decide +kernel) | exact .inr (by decide +kernel)) (by rw [isSubtype_type]; kernel_rfl)
theorem args_set_iter (a : Value) : argsOk "set.__iter__" ⟨[a], []⟩ := by unfold argsOk; kernel_rfl

/-- a set's iterator -/
def itObj (first : Value) (i : Nat) (S : Addr) (n ep : Nat) : Obj := { cls := .type "set_iterator", data := .fields #[first, .int i 0, .ref S, .int n 0, .int ep 0] }
def setObj (es : Array (Int × Value)) (ep : Nat) (t : SetTable) : Obj := { cls := .type "set", data := .set es ep t }

section
variable {prog : Program} {w : World} {A : Around} {E : Value → Shared → Prop} {s : Shared} {I S : Addr} {es : Array (Int × Value)} {ep i : Nat} {t : SetTable}

theorem update_at {h : Heap} {a : Addr} {cls : Value} {vs : Array Value} {k : Nat} {x : Value} (ho : h.get? a = some { cls := cls, data := .fields vs }) : (h.update a (Obj.mapFields (·.setIfInBounds k x))).get? a = some { cls := cls, data := .fields (vs.setIfInBounds k x) } :=
  (Heap.get?_update_self _ ho (Obj.isFreed_of_fields (Obj.data_mapFields rfl _))).trans rfl

/-- the walk's places, drawn: a tuple of them -/
theorem next_drawn {T : Addr} {pl : List Nat} {q : Nat} {x : Value} {hq : Int} {tn : Nat} {Q : Option Value → Shared → Prop} (hI : s.heap.get? I = some (itObj (.ref T) i S es.size ep)) (hS : s.heap.get? S = some (setObj es ep t)) (hf : t.fits es.size = true)
    (hT : s.heap.get? T = some { cls := .type "tuple", data := .seq (pl.map fun (i : Nat) => rawInt i).toArray tn }) (hp : pl[i]? = some q) (hx : es[q]? = some (hq, x))
    (h : ∀ h', h'.get? I = some (itObj (.ref T) (i + 1) S es.size ep) → Heap.SameBut I s.heap h' → Q (some x) { s with heap := h' }) : wpAny (model prog w) A (pyNext (.ref I)) Q E s := by
  unfold pyNext
  refine wpAny_bind (wpAny_attempt (wpAny_callSpecial?_slot (name := Str.ofString "__next__") (show s.TypeIs (.ref I) "set_iterator" from ⟨_, hI, rfl⟩) slot_setit_next
    (wpAny_call_entry slot_setit_next ⟨_, hI, rfl⟩ entry_setit_next ?_ (args_setit_next _))))
  show wpAny _ _ (fieldsOf (.ref I) >>= _) _ _ s
  refine wpAny_bind (wpAny_fieldsOf hI rfl ?_)
  refine wpAny_bind (wpAny_setEntries_of hS rfl hf ?_)
  rw [if_neg (by simp)]
  dsimp only
  refine wpAny_bind (wpAny_seqItems hT rfl ?_)
  show wpAny _ _ (match ((pl.map fun (i : Nat) => rawInt i).toArray)[((i : Nat) : Int).toNat]? with | some (.int place _) => _ | some _ => _ | none => _) _ _ s
  rw [show ((pl.map fun (i : Nat) => rawInt i).toArray)[((i : Nat) : Int).toNat]? = some (.int (q : Nat) 0) by simp [hp, rawInt]]
  dsimp only
  unfold setNextDrawn
  refine wpAny_bind (wpAny_bind (wpAny_setState_of hS rfl hf ?_))
  dsimp only
  rw [if_neg (by simp)]
  rw [show es[((q : Nat) : Int).toNat]? = some (hq, x) from hx]
  refine wpAny_pure ?_
  refine wpAny_bind (wpAny_setField hI rfl (by simp [itObj]) (wpAny_pure ⟨x, rfl, wpAny_pure (h _ ?_ (Heap.SameBut.update ..))⟩))
  exact update_at hI
end
end Mine
end
section
namespace Mine
section
variable {prog : Program} {w : World} {A : Around} {E : Value → Shared → Prop} {s : Shared} {I S : Addr} {es : Array (Int × Value)} {ep i : Nat} {t : SetTable}

theorem stop_here {h : Heap} {P : PySem.Fin → Shared → Prop} {Q : Option Value → Shared → Prop} (hh : A.handled = none) (hb : Heap.ExtBut I s.heap h) (hQ : ∀ h', Heap.ExtBut I s.heap h' → Q none { s with heap := h' }) :
    wpAny (model prog w) A.in1 (newExc (.type "StopIteration") [] >>= fun e => raiseNew e) P
      (fun e s' => wpAny (model prog w) A (do if ← isInstance e (.type "StopIteration") then pure none else throw e) Q E s') { s with heap := h } := by
  refine wpAny_bind ?_
  simp only [newExc, newTuple]
  refine wpAny_bind (wpAny_newObj_type ?_ (by size_fits))
  refine wpAny_bind (m := firstArgMember _ _) (wpAny_of_eq (a := Value.none) (by first | rfl | (simp only [firstArgMember]; rfl)) ?_)
  refine wpAny_newObj_type ?_ (by size_fits)
  simp only [raiseNew]
  refine wpAny_bind (wpAny_handled ?_)
  rw [show A.in1.handled = none from hh]
  refine wpAny_bind (wpAny_pure (wpAny_throw ?_))
  refine wpAny_bind (wpAny_isInstance (T := "StopIteration") (b := true) ⟨_, Heap.get?_push_size _ rfl, rfl⟩ isSubtype_stop ?_)
  exact wpAny_pure (hQ _ ((hb.push _).push _))

/-- by the slot -/
theorem next_slot {slot next : Nat} {x : Value} {Q : Option Value → Shared → Prop} (hI : s.heap.get? I = some (itObj (.int slot 0) i S es.size ep)) (hS : s.heap.get? S = some (setObj es ep t)) (hf : t.fits es.size = true)
    (hN : ∀ {E' : Value → Shared → Prop} {Q' : Option (Value × Nat) → Shared → Prop}, Q' (some (x, next)) s → wpAny (model prog w) A.in1 (setNext S slot i ep) Q' E' s)
    (h : ∀ h', h'.get? I = some (itObj (.int next 0) (i + 1) S es.size ep) → Heap.SameBut I s.heap h' → Q (some x) { s with heap := h' }) : wpAny (model prog w) A (pyNext (.ref I)) Q E s := by
  unfold pyNext
  refine wpAny_bind (wpAny_attempt (wpAny_callSpecial?_slot (name := Str.ofString "__next__") (show s.TypeIs (.ref I) "set_iterator" from ⟨_, hI, rfl⟩) slot_setit_next
    (wpAny_call_entry slot_setit_next ⟨_, hI, rfl⟩ entry_setit_next ?_ (args_setit_next _))))
  show wpAny _ _ (fieldsOf (.ref I) >>= _) _ _ s
  refine wpAny_bind (wpAny_fieldsOf hI rfl ?_)
  refine wpAny_bind (wpAny_setEntries_of hS rfl hf ?_)
  rw [if_neg (by simp)]
  refine wpAny_bind (hN ?_)
  have u1 := update_at (k := 0) (x := rawInt next) hI
  refine wpAny_bind (wpAny_setField hI rfl (by simp) ?_)
  refine wpAny_bind (wpAny_setField u1 rfl (by simp) (wpAny_pure ⟨x, rfl, wpAny_pure (h _ ?_ ((Heap.SameBut.update ..).trans (Heap.SameBut.update ..)))⟩))
  exact update_at u1
theorem end_slot {slot : Nat} {Q : Option Value → Shared → Prop} (hh : A.handled = none) (hI : s.heap.get? I = some (itObj (.int slot 0) i S es.size ep)) (hS : s.heap.get? S = some (setObj es ep t)) (hf : t.fits es.size = true)
    (hN : ∀ {E' : Value → Shared → Prop} {Q' : Option (Value × Nat) → Shared → Prop}, Q' none s → wpAny (model prog w) A.in1 (setNext S slot i ep) Q' E' s)
    (h : ∀ h', Heap.ExtBut I s.heap h' → Q none { s with heap := h' }) : wpAny (model prog w) A (pyNext (.ref I)) Q E s := by
  unfold pyNext
  refine wpAny_bind (wpAny_attempt (wpAny_callSpecial?_slot (name := Str.ofString "__next__") (show s.TypeIs (.ref I) "set_iterator" from ⟨_, hI, rfl⟩) slot_setit_next
    (wpAny_call_entry slot_setit_next ⟨_, hI, rfl⟩ entry_setit_next ?_ (args_setit_next _))))
  show wpAny _ _ (fieldsOf (.ref I) >>= _) _ _ s
  refine wpAny_bind (wpAny_fieldsOf hI rfl ?_)
  refine wpAny_bind (wpAny_setEntries_of hS rfl hf ?_)
  rw [if_neg (by simp)]
  refine wpAny_bind (hN ?_)
  refine wpAny_bind (wpAny_setField hI rfl (by simp) ?_)
  exact stop_here hh (Heap.SameBut.update ..).extBut h
theorem end_drawn {T : Addr} {pl : List Nat} {tn : Nat} {Q : Option Value → Shared → Prop} (hh : A.handled = none) (hI : s.heap.get? I = some (itObj (.ref T) i S es.size ep)) (hS : s.heap.get? S = some (setObj es ep t)) (hf : t.fits es.size = true)
    (hT : s.heap.get? T = some { cls := .type "tuple", data := .seq (pl.map fun (i : Nat) => rawInt i).toArray tn }) (hp : pl[i]? = none)
    (h : ∀ h', Heap.ExtBut I s.heap h' → Q none { s with heap := h' }) : wpAny (model prog w) A (pyNext (.ref I)) Q E s := by
  unfold pyNext
  refine wpAny_bind (wpAny_attempt (wpAny_callSpecial?_slot (name := Str.ofString "__next__") (show s.TypeIs (.ref I) "set_iterator" from ⟨_, hI, rfl⟩) slot_setit_next
    (wpAny_call_entry slot_setit_next ⟨_, hI, rfl⟩ entry_setit_next ?_ (args_setit_next _))))
  show wpAny _ _ (fieldsOf (.ref I) >>= _) _ _ s
  refine wpAny_bind (wpAny_fieldsOf hI rfl ?_)
  refine wpAny_bind (wpAny_setEntries_of hS rfl hf ?_)
  rw [if_neg (by simp)]
  dsimp only
  refine wpAny_bind (wpAny_seqItems hT rfl ?_)
  show wpAny _ _ (match ((pl.map fun (i : Nat) => rawInt i).toArray)[((i : Nat) : Int).toNat]? with | some (.int place _) => _ | some _ => _ | none => _) _ _ s
  rw [show ((pl.map fun (i : Nat) => rawInt i).toArray)[((i : Nat) : Int).toNat]? = none by simpa using hp]
  have u1 := update_at (k := 0) (x := rawInt 0) hI
  refine wpAny_bind (wpAny_setField hI rfl (by simp) ?_)
  refine wpAny_bind (wpAny_setField u1 rfl (by simp) ?_)
  exact stop_here (s := s) (I := I) hh ((Heap.SameBut.update s.heap I (Obj.mapFields (·.setIfInBounds 0 (rawInt 0)))).trans (Heap.SameBut.update (s.heap.update I (Obj.mapFields (·.setIfInBounds 0 (rawInt 0)))) I (Obj.mapFields (·.setIfInBounds 2 .none)))).extBut h
end
end Mine
end
section
namespace Mine
theorem slot_setit_iter : Slot "set_iterator" "__iter__" "set_iterator.__iter__" :=
  .of (owner := "set_iterator") (n := "__iter__") (by rw [typeLookup_type, builtinLookup_eq_fast]; kernel_rfl) (by decide +kernel) (by decide +kernel) (by decide +kernel)
    (by first | exact .inl (by decide +kernel) | exact .inr (by decide +kernel)) (by rw [isSubtype_type]; kernel_rfl)
theorem entry_setit_iter : entryFor table "set_iterator.__iter__" = some Builtin.«dict_keyiterator.__iter__» :=
  entryFor_alias (id' := "dict_keyiterator.__iter__") (by kernel_rfl) rfl (by decide +kernel) (by kernel_rfl)
theorem args_setit_iter (a : Value) : argsOk "set_iterator.__iter__" ⟨[a], []⟩ := by unfold argsOk; kernel_rfl

section
variable {prog : Program} {w : World} {A : Around} {E : Value → Shared → Prop} {s : Shared} {I S : Addr} {es : Array (Int × Value)} {ep : Nat} {t : SetTable}
theorem iter_self {first : Value} {i : Nat} {Q : Value → Shared → Prop} (hI : s.heap.get? I = some (itObj first i S es.size ep)) (hQ : Q (.ref I) s) : wpAny (model prog w) A (pyIter (.ref I)) Q E s := by
  have hT : s.TypeIs (.ref I) "set_iterator" := ⟨_, hI, rfl⟩
  refine wpAny_pyIter_slot hT slot_setit_iter (wpAny_call_entry slot_setit_iter hT entry_setit_iter ?_ (args_setit_iter _))
  show wpAny _ _ (ret (.ref I)) _ _ s
  exact wpAny_pure ⟨_, rfl, "set_iterator", _, hT, slot_setit_next.lookup, hQ⟩

theorem walk_slot (hh : A.handled = none) (hne : S ≠ I) (hf : t.fits es.size = true) (slot : Nat → Nat) (order : List Value) (hl : order.length = es.size)
    (hN : ∀ i (s : Shared) {E' : Value → Shared → Prop} {Q' : Option (Value × Nat) → Shared → Prop}, i ≤ es.size → s.heap.get? S = some (setObj es ep t) → Q' (order[i]?.map fun x => (x, slot (i + 1))) s → wpAny (model prog w) A.in1 (setNext S (slot i) i ep) Q' E' s) :
    WalksS prog w A I [I, S] [I] (fun g g' => g' = g) es.size (fun i v => order[i]? = some v) (fun i s => s.heap.get? I = some (itObj (.int (slot i) 0) i S es.size ep) ∧ s.heap.get? S = some (setObj es ep t)) where
  sub := fun b hb => by simp at hb; simp [hb]
  grefl := fun _ => rfl
  gtrans := fun _ _ _ h1 h2 => h2.trans h1
  frame := fun _ s h' tk st _ hk => ⟨hk I (by simp) _ st.1, hk S (by simp) _ st.2⟩
  item := fun i s Q E hi st hQ => by
    have hx : order[i]? = some order[i] := List.getElem?_eq_getElem (by omega)
    refine next_slot (x := order[i]) (next := slot (i + 1)) st.1 st.2 hf (fun {E' Q'} q => hN i s (Nat.le_of_lt hi) st.2 (by rw [hx]; exact q)) fun h' h1 hb => ?_
    exact hQ _ _ hx ⟨h1, hb.2 S hne ▸ st.2⟩ ⟨fun b o hb' e => (hb.2 b (fun h => hb' (by simp [h]))).trans e, rfl, rfl, rfl, Nat.le_refl _⟩
  done := fun s Q E st hQ => by
    refine end_slot hh st.1 st.2 hf (fun {E' Q'} q => hN es.size s (Nat.le_refl _) st.2 (by rw [List.getElem?_eq_none (by omega)]; exact q)) fun h' hb => ?_
    exact hQ _ ⟨fun b o hb' e => hb b o (fun h => hb' (by simp [h])) e, rfl, rfl, rfl, Nat.le_refl _⟩
  self := fun i s Q E st hQ => iter_self st.1 hQ

theorem walk_drawn (hh : A.handled = none) {T : Addr} {tn : Nat} (hne : S ≠ I) (hnT : T ≠ I) (hf : t.fits es.size = true) (pl : List Nat) (hp : pl.Perm (List.range es.size)) :
    WalksS prog w A I [I, S, T] [I] (fun g g' => g' = g) es.size (fun i v => ((pl.filterMap (es[·]?)).map (·.2))[i]? = some v)
      (fun i s => s.heap.get? I = some (itObj (.ref T) i S es.size ep) ∧ s.heap.get? S = some (setObj es ep t) ∧ s.heap.get? T = some { cls := .type "tuple", data := .seq (pl.map fun (i : Nat) => rawInt i).toArray tn }) where
  sub := fun b hb => by simp at hb; simp [hb]
  grefl := fun _ => rfl
  gtrans := fun _ _ _ h1 h2 => h2.trans h1
  frame := fun _ s h' tk st _ hk => ⟨hk I (by simp) _ st.1, hk S (by simp) _ st.2.1, hk T (by simp) _ st.2.2⟩
  item := fun i s Q E hi st hQ => by
    have hpl : pl.length = es.size := by rw [hp.length_eq, List.length_range]
    have hmem : ∀ q ∈ pl, q < es.size := fun q hq => List.mem_range.mp (hp.mem_iff.mp hq)
    have hq : pl[i]? = some pl[i] := List.getElem?_eq_getElem (by omega)
    have hlt := hmem pl[i] (List.getElem_mem _)
    have hx : es[pl[i]]? = some (es[pl[i]].1, es[pl[i]].2) := Array.getElem?_eq_getElem hlt
    have hall : ∀ l : List Nat, (∀ q ∈ l, q < es.size) → l.filterMap (es[·]?) = l.map fun q => (es[q]?).getD (0, .none) := by
      intro l
      induction l with
      | nil => intro _; rfl
      | cons q l ih =>
        intro h
        have := h q (List.mem_cons_self ..)
        rw [List.filterMap_cons, Array.getElem?_eq_getElem this, List.map_cons, ← ih fun q hq => h q (List.mem_cons_of_mem _ hq), Array.getElem?_eq_getElem this]; rfl
    refine next_drawn st.1 st.2.1 hf st.2.2 hq hx fun h' h1 hb => ?_
    refine hQ _ _ ?_ ⟨h1, hb.2 S hne ▸ st.2.1, hb.2 T hnT ▸ st.2.2⟩ ⟨fun b o hb' e => (hb.2 b (fun h => hb' (by simp [h]))).trans e, rfl, rfl, rfl, Nat.le_refl _⟩
    rw [hall pl hmem, List.map_map, List.getElem?_map, hq]
    show some ((es[pl[i]]?).getD (0, .none)).2 = _
    rw [hx]; rfl
  done := fun s Q E st hQ => by
    have hpl : pl.length = es.size := by rw [hp.length_eq, List.length_range]
    refine end_drawn hh st.1 st.2.1 hf st.2.2 (List.getElem?_eq_none (by omega)) fun h' hb => ?_
    exact hQ _ ⟨fun b o hb' e => hb b o (fun h => hb' (by simp [h])) e, rfl, rfl, rfl, Nat.le_refl _⟩
  self := fun i s Q E st hQ => iter_self st.1 hQ
end
end Mine
end
section
namespace Mine
theorem erase_perm {α : Type} {xs : List α} {i : Nat} {x : α} (h : xs[i]? = some x) : (x :: xs.eraseIdx i).Perm xs := by
  induction xs generalizing i with
  | nil => cases h
  | cons y xs ih =>
    cases i with
    | zero => cases h; exact List.Perm.refl _
    | succ i => exact (List.Perm.swap ..).trans ((ih h).cons y)
theorem pick_go {α : Type} {next : Nat → Nat} : ∀ (n k : Nat) (left : List α) (out : Array α), left.length = n → (pickOrder.go next n k left out).toList.Perm (out.toList ++ left) := by
  intro n
  induction n with
  | zero => intro k left out h; rw [List.eq_nil_of_length_eq_zero h, List.append_nil]; exact List.Perm.refl _
  | succ n ih =>
    intro k left out h
    unfold pickOrder.go
    have hlt : next k % left.length < left.length := Nat.mod_lt _ (by omega)
    have hx : left[next k % left.length]? = some left[next k % left.length] := List.getElem?_eq_getElem hlt
    rw [hx]
    refine (ih (k + 1) (left.eraseIdx (next k % left.length)) _ (by rw [List.length_eraseIdx_of_lt hlt]; omega)).trans ?_
    rw [Array.toList_push, List.append_assoc]
    exact (erase_perm hx).append_left _
theorem pick_perm {α : Type} {next : Nat → Nat} {xs : Array α} : (pickOrder next xs).toList.Perm xs.toList := pick_go _ _ _ _ (Array.length_toList ..)

section
variable {prog : Program} {w : World} {A : Around} {E : Value → Shared → Prop} {s : Shared} {I S : Addr} {es : Array (Int × Value)} {ep : Nat} {t : SetTable}
theorem wpAny_choose {src : Source} {n : Nat} {Q : Nat → Shared → Prop} (hn : n ≠ 0) (h : ∀ i, i < n → Q i { s with drawn := s.drawn.bump src }) : wpAny (model prog w) A (choose src n) Q E s :=
  fun _ _ _ => ⟨hn, h _ (Nat.mod_lt _ (Nat.pos_of_ne_zero hn))⟩
theorem draw_order {α : Type} : ∀ (n : Nat) (xs : List α) (s : Shared) {Q : List α → Shared → Prop}, xs.length = n → (∀ ys d, ys.Perm xs → Q ys { s with drawn := d }) → wpAny (model prog w) A (drawOrder n xs) Q E s := by
  intro n
  induction n with
  | zero =>
    intro xs s Q h hQ
    rw [List.eq_nil_of_length_eq_zero h] at hQ ⊢
    exact wpAny_pure (hQ [] s.drawn (List.Perm.refl _))
  | succ n ih =>
    intro xs s Q h hQ
    cases xs with
    | nil => cases h
    | cons y xs =>
      show wpAny (model prog w) A (choose .order (y :: xs).length >>= _) Q E s
      refine wpAny_bind (wpAny_choose (by rw [h]; exact Nat.succ_ne_zero n) fun i hi => ?_)
      have hx : (y :: xs)[i]? = some (y :: xs)[i] := List.getElem?_eq_getElem hi
      rw [hx]
      refine wpAny_bind (ih ((y :: xs).eraseIdx i) _ (by rw [List.length_eraseIdx_of_lt hi]; omega) fun ys d hp => ?_)
      exact wpAny_pure (hQ _ d ((hp.cons _).trans (erase_perm hx)))

theorem by_text {Q : Bool → Shared → Prop} (h : Q (w.params.followText "set-order") s) : wpAny (model prog w) A setsByText Q E s := by
  unfold setsByText
  exact wpAny_bind (wpAny_askSetting (wpAny_pure h))

/-- the next, where a text of params says the order -/
theorem next_text (hS : s.heap.get? S = some (setObj es ep t)) (hf : t.fits es.size = true) (hb : w.params.followText "set-order" = true) {i : Nat} {Q : Option (Value × Nat) → Shared → Prop}
    (h : Q (((pickOrder (w.params.setOrder S ep) es).toList.map (·.2))[i]?.map fun x => (x, 0)) s) : wpAny (model prog w) A (setNext S 0 i ep) Q E s := by
  unfold setNext
  refine wpAny_bind (wpAny_setState_of hS rfl hf ?_)
  refine wpAny_bind (by_text ?_)
  rw [hb, if_pos rfl, if_neg (by simp)]
  unfold setWalk
  refine wpAny_bind (wpAny_bind (wpAny_setState_of hS rfl hf ?_))
  refine wpAny_bind (by_text ?_)
  rw [hb, if_pos rfl]
  refine wpAny_bind (wpAny_askSetting (wpAny_pure (wpAny_pure ?_)))
  rw [List.getElem?_map, Array.getElem?_toList, Option.map_map] at h
  exact h
end
end Mine
end
section
namespace Mine
section
variable {prog : Program} {w : World} {A : Around} {E : Value → Shared → Prop} {s : Shared} {I S : Addr} {es : Array (Int × Value)} {ep : Nat} {t : SetTable}
theorem wpAny_ifn {α : Type} {M : Model} {c : Prop} [Decidable c] {x y : Sem α} {Q : α → Shared → Prop} (h : ¬ c) (q : wpAny M A y Q E s) : wpAny M A (if c then x else y) Q E s := by rw [if_neg h]; exact q
theorem wpAny_ifp {α : Type} {M : Model} {c : Prop} [Decidable c] {x y : Sem α} {Q : α → Shared → Prop} (h : c) (q : wpAny M A x Q E s) : wpAny M A (if c then x else y) Q E s := by rw [if_pos h]; exact q

def slotOf (t : SetTable) : Nat → Nat
  | 0 => 0
  | _ + 1 => t.place.getD 0 0 + 1
/-- the next, where the set holds one text or none -/
theorem next_one (hS : s.heap.get? S = some (setObj es ep t)) (hf : t.fits es.size = true) (hb : w.params.followText "set-order" = false) (hl : t.led = ledOf w) (h1 : es.size ≤ 1) {i : Nat} (hi : i ≤ es.size) {Q : Option (Value × Nat) → Shared → Prop}
    (h : Q ((es.toList.map (·.2))[i]?.map fun x => (x, slotOf t (i + 1))) s) : wpAny (model prog w) A (setNext S (slotOf t i) i ep) Q E s := by
  unfold setNext
  refine wpAny_bind (wpAny_setState_of hS rfl hf ?_)
  refine wpAny_bind (by_text ?_)
  rw [hb]
  rw [if_neg Bool.false_ne_true]
  refine wpAny_ifn (fun e => ?_) ?_
  · have e : (!t.plain && decide (es.size > 1)) = true := e
    have := of_decide_eq_true ((Bool.and_eq_true _ _).mp e).2
    omega
  have hled : t.led = true := by rw [hl]; unfold ledOf; rw [hb]; rfl
  refine wpAny_bind ?_
  refine wpAny_ifn (fun e => ?_) (wpAny_pure (wpAny_pure ?_))
  · have e : (!t.led && !es.isEmpty) = true := e
    rw [hled] at e; cases e
  have hp : t.place.size = es.size := by
    unfold SetTable.fits at hf
    exact beq_iff_eq.mp ((Bool.and_eq_true _ _).mp hf).1
  obtain ⟨l⟩ := es
  obtain ⟨mask, ⟨pl⟩, du, fi, le, mo, pn⟩ := t
  have hp : pl.length = l.length := hp
  have h1 : l.length ≤ 1 := h1
  have hi : i ≤ l.length := hi
  rcases l with _ | ⟨e, _ | ⟨e2, l⟩⟩
  · cases List.eq_nil_of_length_eq_zero hp
    cases Nat.le_zero.mp hi
    exact h
  · obtain ⟨p, rfl⟩ : ∃ p, pl = [p] := by
      rcases pl with _ | ⟨p, _ | ⟨p2, pl⟩⟩
      · cases hp
      · exact ⟨p, rfl⟩
      · cases hp
    have e0 : SetTable.below #[p] 0 = 0 := by simp [SetTable.below, SetTable.below.go]
    have e1 : SetTable.below #[p] (p + 1) = 1 := by simp [SetTable.below, SetTable.below.go]
    rcases i with _ | _ | i
    · show Q (match (#[e] : Array (Int × Value))[SetTable.below #[p] 0]?, (#[p] : Array Nat)[SetTable.below #[p] 0]? with | some (_, x), some j => some (x, j + 1) | _, _ => none) s
      rw [e0]; exact h
    · show Q (match (#[e] : Array (Int × Value))[SetTable.below #[p] (p + 1)]?, (#[p] : Array Nat)[SetTable.below #[p] (p + 1)]? with | some (_, x), some j => some (x, j + 1) | _, _ => none) s
      rw [e1]; exact h
    · have : i + 2 ≤ 1 := hi
      omega
  · have : l.length + 2 ≤ 1 := h1
    omega
end
end Mine
end
section
namespace Mine
theorem entry_set_iter : entryFor table "set.__iter__" = some Builtin.«frozenset.__iter__» :=
  entryFor_alias (id' := "frozenset.__iter__") (by kernel_rfl) rfl (by decide +kernel) (by kernel_rfl)

/-- a walk through the texts of a set -/
def SetWalk (prog : Program) (w : World) (A : Around) (s s' : Shared) (I a : Addr) (ks : List Str) : Prop :=
  ∃ (fp : List Addr) (n : Nat) (order : List Value) (St : Nat → Shared → Prop), WalksS prog w A I fp [I] (fun g g' => g' = g) n (fun i v => order[i]? = some v) St ∧ n = order.length ∧ St 0 s' ∧ (∀ b ∈ fp, b < s'.heap.objs.size) ∧ (s.heap.objs.size ≤ I ∧ ∀ b ∈ fp, b = a ∨ s.heap.objs.size ≤ b) ∧
    (order.map txOf).Perm ks ∧ (∀ v ∈ order, ∃ x t, v = .str x t) ∧ (∀ b o, s.heap.get? b = some o → s'.heap.get? b = some o) ∧ s'.gens = s.gens ∧ s'.os = s.os ∧ s.toks ≤ s'.toks

section
variable {prog : Program} {w : World} {A : Around} {E : Value → Shared → Prop} {s : Shared} {a : Addr} {ks : List Str}
theorem range_vals {es : Array (Int × Value)} {pl : List Nat} (hp : pl.Perm (List.range es.size)) : (pl.filterMap (es[·]?)).Perm es.toList := by
  refine (hp.filterMap _).trans ?_
  obtain ⟨l⟩ := es
  have : ∀ l : List (Int × Value), (List.range l.length).filterMap (l[·]?) = l := by
    intro l
    induction l with
    | nil => rfl
    | cons x l ih =>
      rw [List.length_cons, List.range_succ_eq_map, List.filterMap_cons]
      show x :: ((List.range l.length).map Nat.succ).filterMap _ = _
      rw [List.filterMap_map]
      exact congrArg (x :: ·) ih
  show ((List.range l.length).filterMap fun i => l.toArray[i]?).Perm l
  rw [show (fun i => l.toArray[i]?) = fun i => l[i]? from funext fun i => List.getElem?_toArray ..]
  rw [this]

theorem two_lt {a m n : Nat} (g : m = n + 1) (ha : a < n + 1) {b : Nat} (hb : b ∈ [n, a]) : b < m := by
  rcases List.mem_cons.mp hb with rfl | hb
  · exact g ▸ Nat.lt_succ_self _
  · rw [List.mem_singleton.mp hb, g]; exact ha
theorem two_or {a n I : Nat} (g : n ≤ I) {b : Nat} (hb : b ∈ [I, a]) : b = a ∨ n ≤ b := by
  rcases List.mem_cons.mp hb with rfl | hb
  · exact .inr g
  · exact .inl (List.mem_singleton.mp hb)
theorem three_or {a n I T : Nat} (g : n ≤ I) (g2 : n ≤ T) {b : Nat} (hb : b ∈ [I, a, T]) : b = a ∨ n ≤ b := by
  rcases List.mem_cons.mp hb with rfl | hb
  · exact .inr g
  rcases List.mem_cons.mp hb with rfl | hb
  · exact .inl rfl
  · exact .inr (List.mem_singleton.mp hb ▸ g2)
theorem three_lt {a T m n : Nat} (g : m = n + 1) (ha : a < n + 1) (hT : T < n + 1) {b : Nat} (hb : b ∈ [n, a, T]) : b < m := by
  rcases List.mem_cons.mp hb with rfl | hb
  · exact g ▸ Nat.lt_succ_self _
  rcases List.mem_cons.mp hb with rfl | hb
  · exact g ▸ ha
  · rw [List.mem_singleton.mp hb, g]; exact hT
theorem iter_set (hh : A.handled = none) (X : SSet prog w s.heap a ks) {Q : Value → Shared → Prop} (h : ∀ I s', SetWalk prog w A s s' I a ks → Q (.ref I) s') : wpAny (model prog w) A (pyIter (.ref a)) Q E s := by
  obtain ⟨es, ep, t, ho, hel, hf, hl, hpl, hk, hb⟩ := X
  have haL : a < s.heap.objs.size := Heap.lt_size ho
  have hvals : ∀ l : List (Int × Value), l.Perm es.toList → ((l.map (·.2)).map txOf).Perm ks ∧ ∀ v ∈ l.map (·.2), ∃ x t, v = .str x t := fun l p => by
    refine ⟨?_, fun v hv => ?_⟩
    · rw [List.map_map]; exact (p.map _).trans hk
    · obtain ⟨e, he, rfl⟩ := List.mem_map.mp hv
      exact elem_str hel (p.mem_iff.mp he)
  refine wpAny_pyIter_slot (show s.TypeIs (.ref a) "set" from ⟨_, ho, rfl⟩) slot_set_iter (wpAny_call_entry slot_set_iter ⟨_, ho, rfl⟩ entry_set_iter ?_ (args_set_iter _))
  show wpAny _ _ (Builtin.Frozenset.sizeOf a >>= _) _ _ s
  refine wpAny_bind (wpAny_bind (wpAny_setEntries_of ho rfl hf (wpAny_pure ?_)))
  unfold setDrawn
  refine wpAny_bind (wpAny_bind (wpAny_setState_of ho rfl hf ?_))
  refine wpAny_bind (by_text ?_)
  refine wpAny_pure ?_
  -- the iterator, made last
  have made : ∀ (first : Value) (s₁ : Shared), (∀ b o, s.heap.get? b = some o → s₁.heap.get? b = some o) → s₁.gens = s.gens → s₁.os = s.os → s.toks ≤ s₁.toks → s.heap.objs.size ≤ s₁.heap.objs.size →
      (∀ s', s'.heap.get? s₁.heap.objs.size = some (itObj first 0 a es.size ep) → (∀ b o, s₁.heap.get? b = some o → s'.heap.get? b = some o) → s'.heap.objs.size = s₁.heap.objs.size + 1 → ∃ (fp : List Addr) (order : List Value) (St : Nat → Shared → Prop), WalksS prog w A s₁.heap.objs.size fp [s₁.heap.objs.size] (fun g g' => g' = g) es.size (fun i v => order[i]? = some v) St ∧ es.size = order.length ∧ St 0 s' ∧ ((∀ b ∈ fp, b < s'.heap.objs.size) ∧ ∀ b ∈ fp, b = a ∨ s.heap.objs.size ≤ b) ∧ (order.map txOf).Perm ks ∧ ∀ v ∈ order, ∃ x t, v = .str x t) →
      wpAny (model prog w) A.in1 (do let k ← setEpoch a; let r ← newFields "set_iterator" [first, rawInt 0, .ref a, rawInt es.size, rawInt k]; ret r) (fun fin s' => ∃ r, fin = .done (.ret r) ∧ ∃ T' r', s'.TypeIs r T' ∧ typeLookup (.type T') "__next__" = pure (some r') ∧ Q r s') E s₁ := fun first s₁ k1 k2 k3 k4 k5 k6 => by
    refine wpAny_bind (wpAny_setEpoch_of (k1 a _ ho) rfl hf ?_)
    have hg : (s₁.heap.push (itObj first 0 a es.size ep)).get? s₁.heap.objs.size = some (itObj first 0 a es.size ep) := Heap.get?_push_size _ rfl
    refine wpAny_bind (wpAny_newObj_type (wpAny_pure ⟨_, rfl, "set_iterator", _, ⟨_, hg, rfl⟩, slot_setit_next.lookup, ?_⟩))
    obtain ⟨fp, order, St, q1, q2, q3, q4, q5, q6⟩ := k6 { s₁ with heap := s₁.heap.push (itObj first 0 a es.size ep) } hg (fun b o e => Heap.get?_push_of_some _ e) (Heap.size_push ..)
    exact h _ _ ⟨fp, _, order, St, q1, q2, q3, q4.1, ⟨k5, q4.2⟩, q5, q6, fun b o e => Heap.get?_push_of_some _ (k1 b o e), k2, k3, k4⟩
  have same := fun first => made first s (fun _ _ e => e) rfl rfl (Nat.le_refl _) (Nat.le_refl _)
  have hnI : a ≠ s.heap.objs.size := Nat.ne_of_lt haL
  cases hbt : w.params.followText "set-order" with
  | true =>
    refine wpAny_ifn (fun e => by cases e) (wpAny_bind (wpAny_pure ?_))
    refine same (rawInt 0) fun s' g1 g2 g3 => ?_
    have p := (pick_perm (next := w.params.setOrder a ep) (xs := es))
    obtain ⟨v1, v2⟩ := hvals _ p
    exact ⟨_, _, _, walk_slot hh hnI hf (fun _ => 0) ((pickOrder (w.params.setOrder a ep) es).toList.map (·.2)) (by rw [List.length_map, p.length_eq, Array.length_toList]) fun i s₂ E' Q' hi hS q => next_text hS hf hbt q, by rw [List.length_map, p.length_eq, Array.length_toList], ⟨g1, g2 a _ ho⟩, ⟨fun b hb' => two_lt g3 (Nat.lt_succ_of_lt haL) hb', fun b hb' => two_or (Nat.le_refl _) hb'⟩, v1, v2⟩
  | false =>
    by_cases hd : (!t.plain && decide (es.size > 1)) = true
    · refine wpAny_ifp hd ?_
      refine wpAny_bind (draw_order es.size (List.range es.size) s List.length_range fun pl d hp => ?_)
      refine wpAny_bind (wpAny_newObj_type ?_ (by
        have hz : (pl.map fun (i : Nat) => rawInt i).toArray.size ≤ sizeLine := by
          rw [List.size_toArray, List.length_map, hp.length_eq, List.length_range, ← Array.length_toList, ← List.length_map (f := fun e : Int × Value => txOf e.2), hk.length_eq]
          exact Nat.le_trans (Nat.le_of_lt hb) (by decide)
        exact hz))
      have hT : (s.heap.push { cls := .type "tuple", data := .seq (pl.map fun (i : Nat) => rawInt i).toArray 0 }).get? s.heap.objs.size = some { cls := .type "tuple", data := .seq (pl.map fun (i : Nat) => rawInt i).toArray 0 } := Heap.get?_push_size _ rfl
      refine made (.ref s.heap.objs.size) _ (fun b o e => Heap.get?_push_of_some _ e) rfl rfl (Nat.le_refl _) (by show _ ≤ (Heap.push _ _).objs.size; rw [Heap.size_push]; exact Nat.le_succ _) fun s' g1 g2 g3 => ?_
      have hsz : (s.heap.push { cls := .type "tuple", data := .seq (pl.map fun (i : Nat) => rawInt i).toArray 0 }).objs.size = s.heap.objs.size + 1 := Heap.size_push ..
      obtain ⟨v1, v2⟩ := hvals _ (range_vals hp)
      have hlen := (range_vals hp).length_eq
      exact ⟨_, _, _, walk_drawn hh (Nat.ne_of_lt (hsz ▸ Nat.lt_succ_of_lt haL)) (Nat.ne_of_lt (hsz ▸ Nat.lt_succ_self _)) hf pl hp, by rw [List.length_map, hlen, Array.length_toList], ⟨g1, g2 a _ (Heap.get?_push_of_some _ ho), g2 _ _ hT⟩, ⟨fun b hb' => three_lt g3 (hsz ▸ Nat.lt_succ_of_lt (Nat.lt_succ_of_lt haL)) (hsz ▸ Nat.lt_succ_of_lt (Nat.lt_succ_self _)) hb', fun b hb' => three_or (hsz ▸ Nat.le_succ _) (Nat.le_refl _) hb'⟩, v1, v2⟩
    · refine wpAny_ifn hd (wpAny_bind (wpAny_pure ?_))
      refine same (rawInt 0) fun s' g1 g2 g3 => ?_
      have h1 : es.size ≤ 1 := by
        rcases Nat.lt_or_ge 1 es.size with h | h
        · exfalso; apply hd; rw [hpl (by omega), decide_eq_true h]; rfl
        · exact h
      obtain ⟨v1, v2⟩ := hvals _ (List.Perm.refl _)
      exact ⟨_, _, _, walk_slot hh hnI hf (slotOf t) (es.toList.map (·.2)) (by rw [List.length_map, Array.length_toList]) fun i s₂ E' Q' hi hS q => next_one hS hf hbt hl h1 hi q, by rw [List.length_map, Array.length_toList], ⟨g1, g2 a _ ho⟩, ⟨fun b hb' => two_lt g3 (Nat.lt_succ_of_lt haL) hb', fun b hb' => two_or (Nat.le_refl _) hb'⟩, v1, v2⟩
end
end Mine
end
section
set_option maxRecDepth 100000
namespace Mine
section
variable {prog : Program} {w : World} {A : Around} {E : Value → Shared → Prop} {s : Shared} {a : Addr} {ks : List Str}
theorem SSet.push {h : Heap} {o : Obj} (X : SSet prog w h a ks) : SSet prog w (h.push o) a ks := by
  obtain ⟨es, ep, t, ho, r⟩ := X
  exact ⟨es, ep, t, Heap.get?_push_of_some _ ho, r⟩
theorem SSet.type {s : Shared} (X : SSet prog w s.heap a ks) : s.TypeIs (.ref a) "set" := by
  obtain ⟨es, ep, t, ho, r⟩ := X
  exact ⟨_, ho, rfl⟩
theorem SSet.keep {h h' : Heap} (X : SSet prog w h a ks) (k : ∀ b o, h.get? b = some o → h'.get? b = some o) : SSet prog w h' a ks := by
  obtain ⟨es, ep, t, ho, r⟩ := X
  exact ⟨es, ep, t, k _ _ ho, r⟩

theorem collect_set (hh : A.handled = none) (X : SSet prog w s.heap a ks) {Q : List Value → Shared → Prop}
    (hQ : ∀ s' vs, (vs.map txOf).Perm ks → (∀ v ∈ vs, ∃ x t, v = .str x t) → (∀ b o, s.heap.get? b = some o → s'.heap.get? b = some o) → s'.gens = s.gens → s'.os = s.os → s.toks ≤ s'.toks → Q vs s') :
    wpAny (model prog w) A (collect (.ref a)) Q E s := by
  have haL : a < s.heap.objs.size := by
    obtain ⟨_, _, _, ho, _⟩ := X; exact Heap.lt_size ho
  unfold collect
  refine wpAny_bind (wpAny_runValue (codeAny_builtin F.entry_proto_collect ?_))
  rw [Around.under_plainId F.plain_proto_collect _]
  show wpAny _ A.in1 (newList [] >>= fun l => again (.builtin "list.__iadd__" ⟨[l, .ref a], []⟩)) _ _ s
  refine wpAny_bind (wpAny_newObj_type ?_)
  refine wpAny_pure ⟨plainId_quiet F.plain_list_iadd _, codeAny_builtin F.entry_list_iadd ?_⟩
  rw [Around.under_plainId F.plain_list_iadd _]
  have X₁ : SSet prog w (s.heap.push { cls := .type "list", data := .seq ([] : List Value).toArray }) a ks := X.push
  have hS₁ : (s.heap.push { cls := .type "list", data := .seq ([] : List Value).toArray }).get? s.heap.objs.size = some { cls := .type "list", data := .seq ([] : List Value).toArray } := Heap.get?_push_size _ rfl
  have hne : s.heap.objs.size ≠ a := Nat.ne_of_gt haL
  have h1 : Builtin.List.listSameRef (.ref s.heap.objs.size) (.ref a) = false := by simp [Builtin.List.listSameRef, hne]
  show wpAny _ A.in1 (Builtin.List.listExtendWith (.ref s.heap.objs.size) (.ref a) (.ref s.heap.objs.size)) _ _ _
  unfold Builtin.List.listExtendWith
  refine wpAny_bind (wpAny_typeOf (SSet.type (s := { s with heap := s.heap.push { cls := .type "list", data := .seq ([] : List Value).toArray } }) X₁) ?_)
  rw [if_neg (by rw [h1]; decide)]
  refine wpAny_bind (iter_set (A := A.in1) hh X₁ fun I s₂ W => ?_)
  obtain ⟨fp, n, order, St, WW, hn, hst, hfp, hI, hord, hstr, hk, hg, ho, ht⟩ := W
  have X₂ : SSet prog w s₂.heap a ks := X₁.keep hk
  refine wpAny_bind (wpAny_holding ?_)
  unfold Builtin.List.listLengthHint
  refine wpAny_bind (wpAny_specialOf X₂.type F.slot_set_len.lookup ?_)
  generalize hid : ("set.__len__" : String) = id0
  wp_delta
  rw [show splitId id0 = some ("set", "__len__") from by subst hid; decide +kernel]
  subst hid
  refine wpAny_bind (wpAny_isInstance (b := true) X₂.type sub_set_self ?_)
  refine wpAny_ifn (by decide) ?_
  refine wpAny_ifp (by decide +kernel) ?_
  refine wpAny_bind (wpAny_typeOf X₂.type ?_)
  refine wpAny_pure ?_
  refine wpAny_ifp (by decide +kernel) ?_
  refine wpAny_bind (wpAny_rule ?_)
  have hD2 := hk _ _ hS₁
  unfold Builtin.List.listTouch
  refine wpAny_bind (wpAny_bind (listUpdate_at hD2 rfl ?_ (Nat.zero_le _) (by show 1 ≤ _; decide)))
  have hD3 : (s₂.heap.update s.heap.objs.size (Obj.mapSeq (·.push .none))).get? s.heap.objs.size = some { cls := .type "list", data := .seq #[.none] 1 } := (Heap.get?_update_self _ hD2 rfl).trans rfl
  refine listUpdate_at hD3 rfl ?_ (by show 1 ≤ _; decide) (Nat.zero_le _)
  have hD4 : ((s₂.heap.update s.heap.objs.size (Obj.mapSeq (·.push .none))).update s.heap.objs.size (Obj.mapSeq (·.pop))).get? s.heap.objs.size = some { cls := .type "list", data := .seq #[] 2 } := (Heap.get?_update_self _ hD3 rfl).trans rfl
  have hoth : ∀ b o, b ≠ s.heap.objs.size → s₂.heap.get? b = some o → ((s₂.heap.update s.heap.objs.size (Obj.mapSeq (·.push .none))).update s.heap.objs.size (Obj.mapSeq (·.pop))).get? b = some o := fun b o hb e => by
    rw [Heap.get?_update_other _ _ (Ne.symm hb), Heap.get?_update_other _ _ (Ne.symm hb)]; exact e
  have hsz : (s.heap.push { cls := .type "list", data := .seq ([] : List Value).toArray }).objs.size = s.heap.objs.size + 1 := Heap.size_push ..
  have hDf : s.heap.objs.size ∉ fp := fun hm => by
    rcases hI.2 _ hm with e | e
    · exact hne e
    · exact Nat.not_succ_le_self _ (hsz ▸ e)
  have hst₃ := WW.frame 0 s₂ _ s₂.toks hst (Nat.le_refl _) fun b hb o e => hoth b o (fun e' => hDf (e' ▸ hb)) e
  have hnz : n ≤ sizeLine := by
    rw [hn, ← List.length_map (f := txOf), hord.length_eq]
    obtain ⟨_, _, _, _, _, _, _, _, _, hb⟩ := X
    exact Nat.le_trans (Nat.le_of_lt hb) (by decide)
  refine wpAny_pure ⟨plainId_quiet F.plain_extend_loop _, codeAny_extend_loopS WW hnz _ hDf _ n 0 _ _ _ rfl (Nat.zero_le _) hst₃ hD4 (ItemsOf.nil _) fun s' acc' c' hm hS' hacc => ?_⟩
  show wpAny _ A (load s.heap.objs.size >>= _) _ _ s'
  refine wpAny_bind (wpAny_load hS' ?_)
  have hvs : acc'.toList = order := List.ext_getElem? fun i => by
    rcases Nat.lt_or_ge i n with hi | hi
    · have hi' : i < acc'.size := hacc.1 ▸ hi
      have := hacc.2 i acc'[i] (Array.getElem?_eq_getElem hi')
      rw [Array.getElem?_toList, Array.getElem?_eq_getElem hi']; exact this.symm
    · rw [List.getElem?_eq_none (by rw [Array.length_toList, hacc.1]; exact hi), List.getElem?_eq_none (by rw [← hn]; exact hi)]
  refine wpAny_pure (hQ s' acc'.toList (hvs ▸ hord) (hvs ▸ hstr) (fun b o e => ?_) (hm.gens.trans hg) (hm.os.trans ho) (Nat.le_trans ht hm.toks))
  have hbl : b < s.heap.objs.size := Heap.lt_size e
  have hbI : b ∉ s.heap.objs.size :: [I] := fun hmem => by
    rcases List.mem_cons.mp hmem with rfl | hmem
    · exact Nat.lt_irrefl _ hbl
    · have := hI.1
      rw [hsz, ← List.mem_singleton.mp hmem] at this
      exact Nat.lt_irrefl _ (Nat.lt_of_lt_of_le hbl (Nat.le_of_succ_le this))
  exact hm.heap b o hbI (hoth b o (Nat.ne_of_lt hbl) (hk b o (Heap.get?_push_of_some _ e)))
end
end Mine
end
section
set_option maxRecDepth 100000
namespace Mine
section
variable {prog : Program} {w : World} {A : Around} {E : Value → Shared → Prop} {s : Shared} {a : Addr} {ks : List Str}
theorem line64 : (64 : Nat) ≤ sizeLine := by show 64 ≤ 16777216; decide
set_option maxHeartbeats 2000000 in
theorem sorted_set (hh : A.handled = none) (X : SSet prog w s.heap a ks) (h64 : ks.length < 64) {Q : Value → Shared → Prop}
    (h : ∀ D s' (out : List Value) ss' n, StrsAre out ss' → ss'.Perm ks → sortedS ss' = true → s'.heap.get? D = some (seqObj "list" out.toArray n) → s.heap.get? D = none → (∀ b o, s.heap.get? b = some o → s'.heap.get? b = some o) → s'.gens = s.gens → s'.os = s.os → s.toks ≤ s'.toks → Q (.ref D) s') :
    wpAny (model prog w) A (call (.builtin "sorted") [.ref a]) Q E s := by
  refine Calls.call_function_entry kind_sorted plain_sorted entry_sorted (args_sorted1 _) ?_
  unfold Builtin.«sorted»
  refine wpAny_bind (m := checkCount "sorted" 1 1 _) (wpAny_pure ?_)
  refine wpAny_bind (collect_set (A := A.in1) hh X fun s' vs h1 h2 h3 h4 h5 h6 => ?_)
  have hS : StrsAre vs (vs.map PyProof.Rows.strOf) := strsAre_map vs h2
  have hks : (vs.map PyProof.Rows.strOf).Perm ks := by
    rw [show vs.map PyProof.Rows.strOf = vs.map txOf from List.map_congr_left fun v hv => by obtain ⟨x, t, rfl⟩ := h2 v hv; rfl]
    exact h1
  have hv64 : vs.length < 64 := by rw [← List.length_map (f := txOf), h1.length_eq]; exact h64
  refine wpAny_bind (wpAny_newList ?_ (Nat.le_trans (Nat.le_of_lt hv64) line64))
  have hoL : (s'.heap.push (seqObj "list" vs.toArray 0)).get? s'.heap.objs.size = some (seqObj "list" vs.toArray 0) := Heap.get?_push_size _ rfl
  refine wpAny_bind (wpAny_holding (wpAny_call_entry slot_list_sort ⟨_, hoL, rfl⟩ entry_list_sort (list_sort_treeK strKind_oneLt hoL hS.keysOf (fun v₁ v₂ rest e => keyKind_strs (by rw [← e]; exact hS)) hv64 fun st' a1 a2 => ⟨_, rfl, ?_⟩) (args_list_sort _)))
  refine wpAny_pure ⟨_, rfl, ?_⟩
  obtain ⟨ss', q1, q2, q3⟩ := sorted_out_str hS a1 a2
  obtain ⟨n, hn⟩ := sortedHeap_at (vs := vs) (out := (arrOf st').map (·.2)) hoL
  have hnone : s.heap.get? s'.heap.objs.size = none := by
    cases e : s.heap.get? s'.heap.objs.size with
    | none => rfl
    | some o => exact absurd (Heap.lt_size (h3 _ _ e)) (Nat.lt_irrefl _)
  refine h _ _ ((arrOf st').map (·.2)).toList ss' n q1 (q2.trans hks) q3 (by rw [Array.toArray_toList]; exact hn) hnone (fun b o e => ?_) h4 h5 h6
  have e2 := h3 b o e
  have hlt := Heap.lt_size e2
  show (sortedHeap _ _ _ _).get? b = _
  rw [sortedHeap_old (Nat.ne_of_lt hlt) (by rw [size_push']; exact Nat.lt_succ_of_lt hlt), Heap.get?_push_of_some _ e2]
end
end Mine
end
section
namespace Mine
section
variable {M : Mc} {ρ : Mp} {μ : Mem} {h : Heap} {ns : List Str} {sc : Scope} {σ : Lo}

/-- sorted(set(texts)) -/
def sortSP (a : AV) (μ : Mem) (k : KE) : Prop := lstP a μ fun xs => ∃ ss : List Str, xs = ss.map .str ∧ ss.length + 1 < scanBound ∧ (met ss ss.length).length < 64 ∧ ∀ o : List Str, o.Perm (met ss ss.length) → sortedS o = true → k (.d (.list (o.map .str))) μ
def wSortS (e : WE) : WE := fun c σ μ k => e c σ μ fun a μ => sortSP a μ k

theorem Ev.splice1 {e : Expr} {env : Env} {Q : List Value → Heap → Prop} (x : Ev M (eval e env) (fun v h' => Q [v] h') h) : Ev M (PySem.spliced (trees [e] env)) Q h := fun s hs ht =>
  Calls.spliced_cons (wpAny_mono (x s hs ht) (fun _ _ q => Calls.spliced_nil q) fun _ _ e => e)

theorem strs_all {ρ : Frz} : ∀ {vs : List Value} {ss : List Str}, StrsAre vs ss → IsAll ρ vs (ss.map .str)
  | [], [], _ => .nil
  | [], _ :: _, k => by cases k
  | _ :: _, [], k => by cases k
  | _ :: _, _ :: _, k => by
    cases k with
    | cons _ _ b => exact .cons (.str _ _) (strs_all b)

theorem Ev.callSet {v : Value} {ss : List Str} (hh : M.A.handled = none) (L : ListAt ρ h v (ss.map .str)) (hb : ss.length + 1 < scanBound) :
    Ev M (call (.type "set") [v]) (fun r h' => ∃ a, r = .ref a ∧ SSet M.prog M.w h' a (met ss ss.length) ∧ ∀ b o, h.get? b = some o → h'.get? b = some o) h := by
  obtain ⟨l, vs, n, rfl, hl, i, hz⟩ := L
  refine fun s hs _ => ?_
  subst hs
  exact call_set_texts hh ⟨_, hl, rfl, n, rfl⟩ i hb fun h' tk hS hk => ⟨rfl, rfl, _, rfl, hS, fun b o e => hk b o (Heap.lt_size e) e⟩

theorem Ev.callSorted {a : Addr} {ks : List Str} (hh : M.A.handled = none) (X : SSet M.prog M.w h a ks) (h64 : ks.length < 64) (S : St M.h₀ ρ μ h) {k : KE} (q : ∀ o : List Str, o.Perm ks → sortedS o = true → k (.d (.list (o.map .str))) μ) :
    Ev M (call (.builtin "sorted") [.ref a]) (PE M ρ h k) h := by
  refine fun s hs _ => ?_
  subst hs
  exact sorted_set hh X h64 fun D s' out ss' n h1 h2 h3 h4 h5 h6 h7 h8 _ => ⟨h7, h8, (Res.new S h5 h4 h6 fun ρ' _ e => .list e (strs_all (by simpa using h1))).pe (q ss' h2 h3)⟩

theorem SndE.sortS {fp fp2 p2 pos : Pos} {e : Expr} {W : WE} (hx : isGlob sc "sorted" = true) (hy : isGlob sc "set" = true) (H : SndE ns sc e W) :
    SndE ns sc (.Call (.Name "sorted" fp) [.Call (.Name "set" fp2) [e] [] p2] [] pos) (wSortS W) := ⟨fun _ _ => rfl, fun {M ρ σ μ h k} X S F w => by
  have H0 : SndE ns sc (.Call (.Name "set" fp2) [e] [] p2) (fun _ _ _ _ => False) := ⟨fun _ _ => rfl, fun _ _ _ w => w.elim⟩
  refine Ev.CallName (k := fun _ _ => True) X S F hx (.inr X.G.sorted) (.one H0) (Ev.callWith (first := []) rfl (Ev.splice1 ?_))
  refine Ev.CallName (k := fun _ _ => True) X S F hy (.inr X.G.set) (.one H) (Ev.callWith (first := []) rfl (Ev.spliced (.one H) X S F (k := fun as μ => oneP as fun a => sortSP a μ k) w fun vs h₁ as ρ₁ μ₁ g₁ S₁ i₁ _ w' => ?_))
  obtain ⟨a, rfl, w'⟩ := oneP.inv w'
  obtain ⟨v, rfl, j⟩ := i₁.inv1
  obtain ⟨xs, L, ss, rfl, hb, h64, q⟩ := lstP.at w' S₁ j
  refine (Ev.callSet X.hh L hb).mono fun r h₂ z => ?_
  obtain ⟨a, rfl, hS, hk⟩ := z
  exact (Ev.callSorted X.hh hS h64 (S₁.keepAll hk) q).mono fun v h₃ z => PE.trans (g₁.trans (Grow.keepAll hk)) z⟩
end
end Mine
end
section
namespace Mine
-- 0 heap, 1 item
def ns_heappush : List Str := ["heap", "item"]
def w_heappush : WS := sBlk [(sExpr (wMeth kLst pAppend (wVar 0) [(wVar 1)])), (sExpr (wFn "_siftdown" [(wVar 0), (wDat (.int 0)), (wBin subI (wB1 lenL (wVar 0)) (wDat (.int 1)))]))]
abbrev f_heappush (c : Cx) := mfun w_heappush 2 2 c

-- 0 heap, 1 lastelt, 2 returnitem
def ns_heappop : List Str := ["heap", "lastelt", "returnitem"]
def w_heappop : WS := sBlk [(sAsg 1 (wMeth kLst pPop (wVar 0) [])), (sIf (tTru trL (wVar 0)) (sBlk [(sAsg 2 (wIdx (wVar 0) (wDat (.int 0)))), (sStore (wVar 0) (wDat (.int 0)) (wVar 1)), (sExpr (wFn "_siftup" [(wVar 0), (wDat (.int 0))])), (sRet (wVar 2))]) (sBlk [])), (sRet (wVar 1))]
abbrev f_heappop (c : Cx) := mfun w_heappop 1 3 c

-- 0 heap, 1 startpos, 2 pos, 3 newitem, 4 parentpos, 5 parent
def ns_siftdown : List Str := ["heap", "startpos", "pos", "newitem", "parentpos", "parent"]
def w_siftdown : WS := sBlk [(sAsg 3 (wIdx (wVar 0) (wVar 2))), (sWhile (tCmp (wCmp gtI (wVar 2) (wVar 1))) (sBlk [(sAsg 4 (wBin shrI (wBin subI (wVar 2) (wDat (.int 1))) (wDat (.int 1)))), (sAsg 5 (wIdx (wVar 0) (wVar 4))), (sIf (tCmp (wCmp ltT (wVar 3) (wVar 5))) (sBlk [(sStore (wVar 0) (wVar 2) (wVar 5)), (sAsg 2 (wVar 4)), sCont]) (sBlk [])), sBrk])), (sStore (wVar 0) (wVar 2) (wVar 3))]
abbrev f_siftdown (c : Cx) := mfun w_siftdown 3 6 c

-- 0 heap, 1 pos, 2 endpos, 3 startpos, 4 newitem, 5 childpos, 6 rightpos
def ns_siftup : List Str := ["heap", "pos", "endpos", "startpos", "newitem", "childpos", "rightpos"]
def w_siftup : WS := sBlk [(sAsg 2 (wB1 lenL (wVar 0))), (sAsg 3 (wVar 1)), (sAsg 4 (wIdx (wVar 0) (wVar 1))), (sAsg 5 (wBin addI (wBin mulI (wDat (.int 2)) (wVar 1)) (wDat (.int 1)))), (sWhile (tCmp (wCmp ltI (wVar 5) (wVar 2))) (sBlk [(sAsg 6 (wBin addI (wVar 5) (wDat (.int 1)))), (sIf (tAnd (tCmp (wCmp ltI (wVar 6) (wVar 2))) (tNot (tCmp (wCmp ltT (wIdx (wVar 0) (wVar 5)) (wIdx (wVar 0) (wVar 6)))))) (sBlk [(sAsg 5 (wVar 6))]) (sBlk [])), (sStore (wVar 0) (wVar 1) (wIdx (wVar 0) (wVar 5))), (sAsg 1 (wVar 5)), (sAsg 5 (wBin addI (wBin mulI (wDat (.int 2)) (wVar 1)) (wDat (.int 1))))])), (sStore (wVar 0) (wVar 1) (wVar 4)), (sExpr (wFn "_siftdown" [(wVar 0), (wVar 3), (wVar 1)]))]
abbrev f_siftup (c : Cx) := mfun w_siftup 2 7 c

-- 0 want, 1 got, 2 ws, 3 startpos, 4 endpos, 5 w
def ns_ellipsis_match : List Str := ["want", "got", "ws", "startpos", "endpos", "w"]
def w_ellipsis_match : WS := sBlk [(sIf (tCmp (wCmp niStr (wCst "ELLIPSIS_MARKER") (wVar 0))) (sBlk [(sRet (wCmp eqV (wVar 0) (wVar 1)))]) (sBlk [])), (sSplit 2 (wVar 0) (wCst "ELLIPSIS_MARKER")), (sAssert (tCmp (wCmp geI (wB1 lenL (wVar 2)) (wDat (.int 2))))), (sTwo 3 4 (wDat (.int 0)) (wB1 lenS (wVar 1))), (sAsg 5 (wIdx (wVar 2) (wDat (.int 0)))), (sIf (tTru trS (wVar 5)) (sBlk [(sIf (tTru trB (wMeth kStr pStarts (wVar 1) [(wVar 5)])) (sBlk [(sAsg 3 (wB1 lenS (wVar 5))), (sDel (wVar 2) (wDat (.int 0)))]) (sBlk [(sRet (wDat (.bool false)))]))]) (sBlk [])), (sAsg 5 (wIdx (wVar 2) (wNeg (wDat (.int 1))))), (sIf (tTru trS (wVar 5)) (sBlk [(sIf (tTru trB (wMeth kStr pEnds (wVar 1) [(wVar 5)])) (sBlk [(sAug (fun a b => a - b) 4 (wB1 lenS (wVar 5))), (sDel (wVar 2) (wNeg (wDat (.int 1))))]) (sBlk [(sRet (wDat (.bool false)))]))]) (sBlk [])), (sIf (tCmp (wCmp gtI (wVar 3) (wVar 4))) (sBlk [(sRet (wDat (.bool false)))]) (sBlk [])), (sFor 5 (iItems (wVar 2)) (sBlk [(sAsg 3 (wMeth kStr pFind (wVar 1) [(wVar 5), (wVar 3), (wVar 4)])), (sIf (tCmp (wCmp ltI (wVar 3) (wDat (.int 0)))) (sBlk [(sRet (wDat (.bool false)))]) (sBlk [])), (sAug (fun a b => a + b) 3 (wB1 lenS (wVar 5)))])), (sRet (wDat (.bool true)))]
abbrev f_ellipsis_match (c : Cx) := mfun w_ellipsis_match 2 6 c

end Mine
end
section
namespace Mine

/-! ### words for the roads of defs -/
/-- a call hands back this, and leaves that -/
def Says (F : List AV → Mem → KE → Prop) (as : List AV) (μ : Mem) (r : AV) (μ' : Mem) : Prop := ∀ k : KE, k r μ' → F as μ k

section
variable {c : Cx} {σ : Lo} {μ μ' μ₂ : Mem} {W : WS} {j n : Nat} {as : List AV} {T : WT} {B : WS} {Q : KS}
theorem mfun_next (hl : as.length = j) (e : μ'.take μ.length = μ₂) (h : ∀ R : KS, (∀ σ, R .next σ μ') → W c (initS n as) μ R) : Says (mfun W j n c) as μ (.d .none) μ₂ := by subst e; exact fun _ hk => ⟨hl, h _ fun _ => hk⟩
theorem mfun_ret {x : PyData} (hl : as.length = j) (e : μ'.take μ.length = μ₂) (h : ∀ R : KS, (∀ σ, R (.ret (.d x)) σ μ') → W c (initS n as) μ R) : Says (mfun W j n c) as μ (.d x) μ₂ := by subst e; exact fun _ hk => ⟨hl, h _ fun _ => hk⟩
theorem while_mk (I : Nat → Lo → Mem → Prop) (n : Nat) (h0 : I n σ μ) (hs : ∀ n σ μ (R : KS), (∀ j σ μ, j < n → I j σ μ → R .next σ μ) → (∀ j σ μ, j < n → I j σ μ → R .cont σ μ) → (∀ σ μ, Q .next σ μ → R .brk σ μ) → (∀ a σ μ, Q (.ret a) σ μ → R (.ret a) σ μ) → I n σ μ →
    T c σ μ fun v μ => condP v (B c σ μ R) (Q .next σ μ)) : sWhile T B c σ μ Q :=
  ⟨I, ⟨n, h0⟩, fun n σ μ h => hs n σ μ _ (fun j _ _ hj h => ⟨j, hj, h⟩) (fun j _ _ hj h => ⟨j, hj, h⟩) (fun _ _ q => q) (fun _ _ _ q => q) h⟩
theorem for_mk {items : List PyData} (I : List PyData → Lo → Mem → Prop) (h0 : I items σ μ) (hs : ∀ d ds σ μ (R : KS), (∀ σ μ, I ds σ μ → R .next σ μ) → (∀ σ μ, I ds σ μ → R .cont σ μ) → (∀ σ μ, Q .next σ μ → R .brk σ μ) → (∀ a σ μ, Q (.ret a) σ μ → R (.ret a) σ μ) → I (d :: ds) σ μ →
    B c (σ.set n (some (.d d))) μ R) (hf : ∀ σ μ, I [] σ μ → Q .next σ μ) : forP n B c items σ μ Q :=
  ⟨I, h0, fun d ds σ μ h => hs d ds σ μ _ (fun _ _ h => h) (fun _ _ h => h) (fun _ _ q => q) (fun _ _ _ q => q) h, hf⟩
/-- a comprehension's clause whose element is g's -/
theorem comp_map {α : Type} {body : List PyData → Cx → Lo → Mem → (List PyData → Mem → Prop) → Prop} (l : List α) (e g : α → PyData) {out : List PyData} {k : List PyData → Mem → Prop} (h0 : σ.getD n none = none) (hz : out.length + l.length ≤ sizeLine)
    (hs : ∀ a ∈ l, ∀ o k, o.length < sizeLine → k (o ++ [g a]) μ → body o c (σ.set n (some (.d (e a)))) μ k) (q : k (out ++ l.map g) μ) : compP n body c (l.map e) out σ μ k := by
  refine ⟨h0, fun ds o m => ∃ r, ds = r.map e ∧ m = μ ∧ (∀ a ∈ r, a ∈ l) ∧ o ++ r.map g = out ++ l.map g, ⟨l, rfl, rfl, fun _ h => h, rfl⟩, fun d ds o m w => ?_, fun o m w => ?_⟩
  · obtain ⟨r, e1, rfl, hm, h⟩ := w
    cases r with
    | nil => cases e1
    | cons a r =>
      cases e1
      refine hs a (hm a (List.mem_cons_self ..)) o _ ?_ ⟨r, rfl, rfl, fun d' h' => hm d' (List.mem_cons_of_mem _ h'), by rw [← h, List.append_assoc]; rfl⟩
      have := congrArg List.length h
      simp only [List.length_append, List.length_map, List.length_cons] at this
      omega
  · obtain ⟨r, e1, rfl, _, h⟩ := w
    cases r with
    | nil => rw [List.map_nil, List.append_nil] at h; exact h ▸ q
    | cons _ _ => cases e1
end

theorem mem_lt {μ : Mem} {k : Nat} {m : MO} (h : μ[k]? = some m) : k < μ.length := (List.getElem?_eq_some_iff.mp h).1
theorem get_set_self {μ : Mem} {k : Nat} {m m' : MO} (h : μ[k]? = some m) : (μ.set k m')[k]? = some m' := List.getElem?_set_self (mem_lt h)
theorem take_set {μ : Mem} {k : Nat} {m : MO} : (μ.set k m).take μ.length = μ.set k m := List.take_of_length_le (by rw [List.length_set]; exact Nat.le_refl _)
theorem take_all {μ : Mem} : μ.take μ.length = μ := List.take_length

/-! ### elements in order -/
structure Ordy (lt : PyData → PyData → Bool) (E : PyData → Prop) : Prop where
  tup : ∀ x y, E x → E y → ∃ xs ys, x = .tuple xs ∧ y = .tuple ys ∧ tupLt xs ys = some (lt x y)
theorem Ordy.cmp {lt : PyData → PyData → Bool} {E : PyData → Prop} (O : Ordy lt E) {x y : PyData} {μ : Mem} {k : Bool → Prop} (hx : E x) (hy : E y) (q : k (lt x y)) : ltT (.d x) (.d y) μ k := by
  obtain ⟨xs, ys, rfl, rfl, h⟩ := O.tup x y hx hy
  exact ⟨_, h, q⟩

/-- up from a place as long as the parent is greater: the list with a hole, and the hole -/
def sdn (lt : PyData → PyData → Bool) (new : PyData) : Nat → List PyData → Nat → List PyData × Nat
  | 0, xs, pos => (xs, pos)
  | f + 1, xs, pos => if pos = 0 then (xs, 0) else if lt new (xs.getD ((pos - 1) / 2) .none) then sdn lt new f (xs.set pos (xs.getD ((pos - 1) / 2) .none)) ((pos - 1) / 2) else (xs, pos)

theorem half_int {pos : Nat} (h : 0 < pos) : Int.fdiv ((pos : Int) - 1) (2 ^ (1 : Int).toNat) = (((pos - 1) / 2 : Nat) : Int) := by
  have e : ((pos : Int) - 1) = ((pos - 1 : Nat) : Int) := by omega
  rw [e]
  show Int.fdiv _ 2 = _
  rw [Int.fdiv_eq_ediv_of_nonneg _ (by decide)]
  omega

theorem idxOf_nat {i n : Nat} (h : i < n) (hn : n < 2 ^ 31) : idxOf (i : Int) n = some i := by
  unfold idxOf
  rw [if_pos hn, if_pos (by omega), if_pos (by omega)]; simp

theorem idxP.lst {j : Nat} {μ : Mem} {k : PyData → Prop} {xs : List PyData} {n : Nat} (h : μ[j]? = some (MO.lst xs)) (hz : xs.length < 2 ^ 31) (hn : n < xs.length) (q : k (xs.getD n .none)) : idxP (.h j) (.d (.int (n : Nat))) μ k :=
  ⟨xs, h, n, xs.getD n .none, idxOf_nat hn hz, by rw [List.getD_eq_getElem?_getD, List.getElem?_eq_getElem hn]; rfl, q⟩
theorem idxP.dat {μ : Mem} {k : PyData → Prop} {xs : List PyData} {n : Nat} {x : PyData} (hz : xs.length < 2 ^ 31) (hn : xs[n]? = some x) (q : k x) : idxP (.d (.list xs)) (.d (.int (n : Nat))) μ k :=
  ⟨n, x, idxOf_nat (List.getElem?_eq_some_iff.mp hn).1 hz, hn, q⟩
theorem storP.lst {n q : Nat} {xs : List PyData} {x : PyData} {μ : Mem} {k : Mem → Prop} (h : μ[n]? = some (.lst xs)) (h2 : xs.length < 2 ^ 31) (h1 : q < xs.length) (r : k (μ.set n (.lst (xs.set q x)))) : storP (.h n) (.d (.int (q : Nat))) x μ k := ⟨xs, h, q, rfl, h1, h2, r⟩

section
variable {c : Cx} {k : Nat} {x : PyData} {μ : Mem} {lt : PyData → PyData → Bool} {E : PyData → Prop}
theorem getD_all {xs : List PyData} (h : ∀ y ∈ xs, E y) {i : Nat} (hi : i < xs.length) : E (xs.getD i .none) := by
  simp only [List.getD_eq_getElem?_getD, List.getElem?_eq_getElem hi, Option.getD_some]; exact h _ (List.getElem_mem hi)
theorem set_all {xs : List PyData} (h : ∀ y ∈ xs, E y) {i : Nat} {x : PyData} (hx : E x) : ∀ y ∈ xs.set i x, E y := fun y hy => by
  rcases List.mem_or_eq_of_mem_set hy with hy | rfl
  · exact h y hy
  · exact hx

theorem sdn_all (new : PyData) : ∀ f pos (xs : List PyData), (∀ y ∈ xs, E y) → pos < xs.length → (∀ y ∈ (sdn lt new f xs pos).1, E y) ∧ (sdn lt new f xs pos).1.length = xs.length ∧ (sdn lt new f xs pos).2 < xs.length
  | 0, pos, xs, h, hp => ⟨h, rfl, hp⟩
  | f + 1, pos, xs, h, hp => by
    unfold sdn
    split
    · exact ⟨h, rfl, by show 0 < _; omega⟩
    · split
      · have hq : (pos - 1) / 2 < xs.length := by omega
        have := sdn_all new f ((pos - 1) / 2) (xs.set pos (xs.getD ((pos - 1) / 2) .none)) (fun y hy => by
          rcases List.mem_or_eq_of_mem_set hy with hy | rfl
          · exact h y hy
          · simp only [List.getD_eq_getElem?_getD, List.getElem?_eq_getElem hq, Option.getD_some]; exact h _ (List.getElem_mem hq)) (by simpa using hq)
        simpa using this
      · exact ⟨h, rfl, hp⟩

/-- what _siftdown leaves: the new item goes up from pos -/
def siftdown (lt : PyData → PyData → Bool) (xs : List PyData) (pos : Nat) : List PyData :=
  let r := sdn lt (xs.getD pos .none) pos xs pos
  r.1.set r.2 (xs.getD pos .none)


theorem sdn_stop {new : PyData} {xs : List PyData} {f p : Nat} (h : p = 0 ∨ lt new (xs.getD ((p - 1) / 2) .none) = false) : sdn lt new f xs p = (xs, p) := by
  cases f with
  | zero => rfl
  | succ f =>
    unfold sdn
    rcases h with rfl | h
    · exact if_pos rfl
    · by_cases hp : p = 0
      · rw [if_pos hp, hp]
      · rw [if_neg hp, h]; rfl
theorem sem_siftdown {xs : List PyData} {pos : Nat} (O : Ordy lt E) (hE : ∀ y ∈ xs, E y) (hp : pos < xs.length) (hz : xs.length < 2 ^ 31) (hμ : μ[k]? = some (.lst xs)) :
    Says (f_siftdown c) [.h k, .d (.int 0), .d (.int pos)] μ (.d .none) (μ.set k (.lst (siftdown lt xs pos))) := by
  refine mfun_next rfl take_set fun R hR => ?_
  refine idxP.lst hμ hz hp ?_
  have hnew := getD_all hE hp
  unfold siftdown at hR
  generalize xs.getD pos .none = new at hnew hR ⊢
  refine while_mk (fun n σ μ' => ∃ ys p x4 x5, σ = [some (.h k), some (.d (.int 0)), some (.d (.int (p : Nat))), some (.d new), x4, x5] ∧ μ' = μ.set k (.lst ys) ∧ (∀ y ∈ ys, E y) ∧ ys.length = xs.length ∧ p ≤ n ∧ p < ys.length ∧
    sdn lt new pos xs pos = sdn lt new n ys p) pos ⟨xs, pos, _, _, rfl, (set_same hμ).symm, hE, rfl, Nat.le_refl _, hp, rfl⟩ ?_
  rintro n _ _ Z - hc hb - ⟨ys, p, x4, x5, rfl, rfl, hE', hl, hpn, hp', hr⟩
  have hμ' := get_set_self (m' := .lst ys) hμ
  have fin : ∀ x4 x5, p = 0 ∨ lt new (ys.getD ((p - 1) / 2) .none) = false → storP (.h k) (.d (.int (p : Nat))) new (μ.set k (.lst ys)) fun μ' => R .next [some (.h k), some (.d (.int 0)), some (.d (.int (p : Nat))), some (.d new), x4, x5] μ' := fun x4 x5 e => by
    rw [sdn_stop e] at hr
    rw [hr] at hR
    refine storP.lst hμ' (hl ▸ hz) hp' ?_
    rw [List.set_set]
    exact hR _
  refine ⟨fun h0 => ?_, fun h0 => fin _ _ (.inl (by have := of_decide_eq_false h0; omega))⟩
  have h0' : 0 < p := Int.natCast_pos.mp (of_decide_eq_true h0)
  refine And.intro (by decide) ?_
  rw [half_int h0']
  have hq : (p - 1) / 2 < ys.length := by omega
  refine idxP.lst hμ' (hl ▸ hz) hq ?_
  refine O.cmp (μ := μ) hnew (getD_all hE' hq) ⟨fun hlt => ?_, fun hlt => hb _ _ (fin _ _ (.inr hlt))⟩
  refine storP.lst hμ' (hl ▸ hz) hp' ?_
  obtain ⟨m, rfl⟩ : ∃ m, n = m + 1 := ⟨n - 1, by omega⟩
  refine hc m _ _ (Nat.lt_succ_self m) ⟨ys.set p (ys.getD ((p - 1) / 2) .none), (p - 1) / 2, _, _, rfl, List.set_set .., set_all hE' (getD_all hE' hq), by rw [List.length_set]; exact hl, by omega, by rw [List.length_set]; exact hq, ?_⟩
  exact hr.trans ((if_neg (Nat.ne_of_gt h0')).trans (if_pos hlt))
end
end Mine
end
section
namespace Mine
/-- down from a place, along the smaller child, to a leaf: the list with a hole, and the hole -/
def sup (lt : PyData → PyData → Bool) : Nat → List PyData → Nat → List PyData × Nat
  | 0, xs, pos => (xs, pos)
  | f + 1, xs, pos => if 2 * pos + 1 < xs.length then
      (let c := if 2 * pos + 2 < xs.length ∧ lt (xs.getD (2 * pos + 1) .none) (xs.getD (2 * pos + 2) .none) = false then 2 * pos + 2 else 2 * pos + 1
       sup lt f (xs.set pos (xs.getD c .none)) c)
    else (xs, pos)
def child (lt : PyData → PyData → Bool) (xs : List PyData) (pos : Nat) : Nat :=
  if 2 * pos + 2 < xs.length ∧ lt (xs.getD (2 * pos + 1) .none) (xs.getD (2 * pos + 2) .none) = false then 2 * pos + 2 else 2 * pos + 1
theorem sup_succ {lt : PyData → PyData → Bool} {f : Nat} {xs : List PyData} {pos : Nat} : sup lt (f + 1) xs pos = if 2 * pos + 1 < xs.length then sup lt f (xs.set pos (xs.getD (child lt xs pos) .none)) (child lt xs pos) else (xs, pos) := rfl
theorem child_lt {lt : PyData → PyData → Bool} {xs : List PyData} {pos : Nat} (h : 2 * pos + 1 < xs.length) : child lt xs pos < xs.length := by
  unfold child; split
  · next h => exact h.1
  · exact h
theorem child_gt {lt : PyData → PyData → Bool} {xs : List PyData} {pos : Nat} : pos < child lt xs pos := by
  unfold child; split <;> omega


section
variable {c : Cx} {k : Nat} {x : PyData} {μ : Mem} {lt : PyData → PyData → Bool} {E : PyData → Prop}
theorem sup_all : ∀ f pos (xs : List PyData), (∀ y ∈ xs, E y) → pos < xs.length → (∀ y ∈ (sup lt f xs pos).1, E y) ∧ (sup lt f xs pos).1.length = xs.length ∧ (sup lt f xs pos).2 < xs.length
  | 0, pos, xs, h, hp => ⟨h, rfl, hp⟩
  | f + 1, pos, xs, h, hp => by
    rw [sup_succ]
    split
    · next hc =>
      have hq := child_lt (lt := lt) hc
      have := sup_all f (child lt xs pos) (xs.set pos (xs.getD (child lt xs pos) .none)) (set_all h (getD_all h hq)) (by simpa using hq)
      simpa using this
    · exact ⟨h, rfl, hp⟩

/-- what _siftup leaves from the front on -/
def siftup (lt : PyData → PyData → Bool) (xs : List PyData) : List PyData :=
  let r := sup lt xs.length xs 0
  siftdown lt (r.1.set r.2 (xs.getD 0 .none)) r.2

theorem twice {p : Nat} : (2 : Int) * (p : Int) + 1 = ((2 * p + 1 : Nat) : Int) := by omega
theorem twice2 {p : Nat} : ((2 * p + 1 : Nat) : Int) + 1 = ((2 * p + 2 : Nat) : Int) := by omega

/-- what a call of _siftdown does -/
def DownOk (lt : PyData → PyData → Bool) (E : PyData → Prop) (F : List AV → Mem → KE → Prop) : Prop := ∀ {k : Nat} {μ : Mem} {ys : List PyData} {p : Nat}, (∀ y ∈ ys, E y) → p < ys.length → ys.length < 2 ^ 31 → μ[k]? = some (.lst ys) → Says F [.h k, .d (.int 0), .d (.int (p : Nat))] μ (.d .none) (μ.set k (.lst (siftdown lt ys p)))

theorem sem_siftup {F : List AV → Mem → KE → Prop} {xs : List PyData} (O : Ordy lt E) (hE : ∀ y ∈ xs, E y) (hp : 0 < xs.length) (hz : xs.length < 2 ^ 31) (hμ : μ[k]? = some (.lst xs)) (hF : c.fns "_siftdown" = some F) (D : DownOk lt E F) :
    Says (f_siftup c) [.h k, .d (.int 0)] μ (.d .none) (μ.set k (.lst (siftup lt xs))) := by
  refine mfun_next rfl take_set fun R hR => ?_
  refine ⟨xs, hμ, hz, ?_⟩
  refine idxP.lst (n := 0) hμ hz hp ?_
  have hnew := getD_all hE hp
  unfold siftup at hR
  generalize xs.getD 0 .none = new at hnew hR ⊢
  refine And.intro (by decide) ?_
  refine while_mk (fun n σ μ' => ∃ ys p x6, σ = [some (.h k), some (.d (.int (p : Nat))), some (.d (.int (xs.length : Nat))), some (.d (.int 0)), some (.d new), some (.d (.int ((2 * p + 1 : Nat) : Int))), x6] ∧ μ' = μ.set k (.lst ys) ∧ (∀ y ∈ ys, E y) ∧ ys.length = xs.length ∧ xs.length ≤ p + n ∧ p < ys.length ∧
    sup lt xs.length xs 0 = sup lt n ys p) xs.length ⟨xs, 0, _, rfl, (set_same hμ).symm, hE, rfl, by omega, hp, rfl⟩ ?_
  rintro n _ _ Z hn - - - ⟨ys, p, x6, rfl, rfl, hE', hl, hpn, hp', hr⟩
  have hμ' := get_set_self (m' := .lst ys) hμ
  have hz' : ys.length < 2 ^ 31 := hl ▸ hz
  refine ⟨fun h0 => ?_, fun h0 => ?_⟩
  · have hc : 2 * p + 1 < ys.length := by have := of_decide_eq_true h0; omega
    have hq := child_lt (lt := lt) hc
    have next : ∀ σ6, ((idxP (.h k) (.d (.int (child lt ys p : Nat))) (μ.set k (.lst ys)) fun d => storP (.h k) (.d (.int (p : Nat))) d (μ.set k (.lst ys)) fun μ' => intP (.d (.int 2)) fun x => intP (.d (.int (child lt ys p : Nat))) fun y => x.natAbs < 2 ^ 32 ∧
        Z .next [some (.h k), some (.d (.int (child lt ys p : Nat))), some (.d (.int (xs.length : Nat))), some (.d (.int 0)), some (.d new), some (.d (.int (x * y + 1))), σ6] μ')) := fun σ6 => by
      refine idxP.lst hμ' hz' hq ?_
      refine storP.lst hμ' hz' hp' ⟨by decide, ?_⟩
      obtain ⟨m, rfl⟩ : ∃ m, n = m + 1 := ⟨n - 1, by omega⟩
      have hg := child_gt (lt := lt) (xs := ys) (pos := p)
      rw [twice]
      refine hn m _ _ (Nat.lt_succ_self m) ⟨ys.set p (ys.getD (child lt ys p) .none), child lt ys p, _, rfl, List.set_set .., set_all hE' (getD_all hE' hq), by rw [List.length_set]; exact hl, by omega, by rw [List.length_set]; exact hq, ?_⟩
      exact hr.trans (sup_succ.trans (if_pos hc))
    refine ⟨fun h1 => ?_, fun h1 => ?_⟩
    · have hr2 : 2 * p + 2 < ys.length := by have := of_decide_eq_true h1; omega
      refine idxP.lst hμ' hz' hc ?_
      rw [twice2]
      refine idxP.lst hμ' hz' hr2 ?_
      refine O.cmp (μ := μ) (getD_all hE' hc) (getD_all hE' hr2) ⟨fun hlt => ?_, fun hlt => ?_⟩
      · have e2 : child lt ys p = 2 * p + 2 := if_pos ⟨hr2, (Bool.not_eq_true' _).mp hlt⟩
        rw [e2] at next; exact next _
      · have e2 : child lt ys p = 2 * p + 1 := if_neg fun h => by rw [h.2] at hlt; cases hlt
        rw [e2] at next; exact next _
    · have e2 : child lt ys p = 2 * p + 1 := if_neg fun h => by have := of_decide_eq_false h1; omega
      rw [e2] at next; exact condP.f rfl (next _)
  · have e : sup lt n ys p = (ys, p) := by
      cases n with
      | zero => rfl
      | succ n => exact if_neg fun h => by have := of_decide_eq_false h0; omega
    rw [hr, e] at hR
    refine storP.lst hμ' hz' hp' ?_
    rw [List.set_set]
    refine ⟨F, hF, D (set_all hE' hnew) (by rw [List.length_set]; exact hp') (by rw [List.length_set]; exact hz') (get_set_self hμ) _ ?_⟩
    rw [List.set_set]
    exact hR _

def hpush (lt : PyData → PyData → Bool) (xs : List PyData) (x : PyData) : List PyData := siftdown lt (xs ++ [x]) xs.length
def hpopL (lt : PyData → PyData → Bool) (xs : List PyData) : List PyData := if xs.length ≤ 1 then [] else siftup lt (xs.dropLast.set 0 (xs.getLastD .none))


theorem sem_heappush {F : List AV → Mem → KE → Prop} {xs : List PyData} (hE : ∀ y ∈ xs, E y) (hx : E x) (hz : xs.length < 4000) (hμ : μ[k]? = some (.lst xs)) (hF : c.fns "_siftdown" = some F) (D : DownOk lt E F) :
    Says (f_heappush c) [.h k, .d x] μ (.d .none) (μ.set k (.lst (hpush lt xs x))) := by
  have hs : sizeLine = 2 ^ 24 := rfl
  refine mfun_next rfl take_set fun R hR => ?_
  refine ⟨⟨xs, hμ, trivial⟩, xs, hμ, by omega, ?_⟩
  have hset := get_set_self (m' := .lst (xs ++ [x])) hμ
  have hl : (xs ++ [x]).length = xs.length + 1 := List.length_append
  refine ⟨F, hF, xs ++ [x], hset, by omega, ?_⟩
  have e1 : (((xs ++ [x]).length : Nat) : Int) - 1 = (xs.length : Int) := by omega
  show F [.h k, .d (.int 0), .d (.int (((xs ++ [x]).length : Nat) - 1))] _ _
  rw [e1]
  refine D (fun y hy => ?_) (by omega) (by omega) hset _ ?_
  · rcases List.mem_append.mp hy with hy | hy
    · exact hE y hy
    · exact List.mem_singleton.mp hy ▸ hx
  · rw [List.set_set]; exact hR _

theorem sem_heappop1 {z : PyData} (hμ : μ[k]? = some (.lst [z])) : Says (f_heappop c) [.h k] μ (.d z) (μ.set k (.lst [])) :=
  mfun_ret rfl take_set fun R hR => ⟨⟨_, hμ, trivial⟩, [z], hμ, z, rfl, by show 1 < sizeLine; decide, [], get_set_self hμ, by decide, condP.f rfl (hR _)⟩

/-- what a call of _siftup does -/
def UpOkF (lt : PyData → PyData → Bool) (E : PyData → Prop) (F : List AV → Mem → KE → Prop) : Prop := ∀ {k : Nat} {μ : Mem} {ys : List PyData}, (∀ y ∈ ys, E y) → 0 < ys.length → ys.length < 2 ^ 31 → μ[k]? = some (.lst ys) → Says F [.h k, .d (.int 0)] μ (.d .none) (μ.set k (.lst (siftup lt ys)))
theorem sem_heappop2 {F : List AV → Mem → KE → Prop} {ys : List PyData} {z : PyData} (hE : ∀ y ∈ ys, E y) (hx : E z) (h0 : 0 < ys.length) (hz : ys.length < 4000) (hμ : μ[k]? = some (.lst (ys ++ [z]))) (hF : c.fns "_siftup" = some F) (D : UpOkF lt E F) :
    Says (f_heappop c) [.h k] μ (.d (ys.getD 0 .none)) (μ.set k (.lst (siftup lt (ys.set 0 z)))) := by
  have hs : sizeLine = 2 ^ 24 := rfl
  have hset := get_set_self (m' := .lst ys) hμ
  have hl : (ys ++ [z]).length = ys.length + 1 := List.length_append
  refine mfun_ret rfl take_set fun R hR => ?_
  refine ⟨⟨_, hμ, trivial⟩, ys ++ [z], hμ, z, List.getLast?_concat, by omega, ?_⟩
  rw [List.dropLast_concat]
  refine ⟨ys, hset, by omega, fun _ => ?_, fun h => absurd (beq_iff_eq.mp ((Bool.not_eq_false' _).mp h)) (Nat.ne_of_gt h0)⟩
  refine idxP.lst (n := 0) hset (by omega) h0 ?_
  refine storP.lst (q := 0) hset (by omega) h0 ?_
  rw [List.set_set]
  refine ⟨F, hF, D (set_all hE hx) (by rw [List.length_set]; exact h0) (by rw [List.length_set]; omega) (get_set_self hμ) _ ?_⟩
  rw [List.set_set]; exact hR _
end
end Mine
end
section
open PySem
namespace Mine

/-! plain: what the heap's functions leave is a heap of the same items -/
structure Lin (lt : PyData → PyData → Bool) : Prop where
  asymm : ∀ x y, lt x y = true → lt y x = false
  trans : ∀ x y z, lt y x = false → lt z y = false → lt z x = false

abbrev gt' (xs : List PyData) (i : Nat) : PyData := xs.getD i .none
theorem gt_set {xs : List PyData} {i j : Nat} {a : PyData} (h : i < xs.length) : gt' (xs.set i a) j = if j = i then a else gt' xs j := by
  unfold gt'
  simp only [List.getD_eq_getElem?_getD]
  by_cases hj : j = i
  · subst hj; rw [List.getElem?_set_self h, if_pos rfl]; rfl
  · rw [List.getElem?_set_ne (Ne.symm hj), if_neg hj]

section
variable {lt : PyData → PyData → Bool}

def IsHeap (lt : PyData → PyData → Bool) (xs : List PyData) : Prop := ∀ i, 0 < i → i < xs.length → lt (gt' xs i) (gt' xs ((i - 1) / 2)) = false

theorem swap_cons {a b : PyData} : ∀ {xs : List PyData} {j : Nat}, j < xs.length → (a :: xs.set j b).Perm (b :: xs.set j a)
  | [], _, h => by simp at h
  | y :: ys, 0, _ => by simp only [List.set_cons_zero]; exact List.Perm.swap _ _ _
  | y :: ys, j + 1, h => by
    simp only [List.set_cons_succ]
    exact (List.Perm.swap _ _ _).trans (((swap_cons (xs := ys) (j := j) (by simpa using h)).cons y).trans (List.Perm.swap _ _ _))
/-- two places' items changed over -/
theorem swap_perm : ∀ {xs : List PyData} {i j : Nat} {a b : PyData}, i < xs.length → j < xs.length → i ≠ j → ((xs.set i a).set j b).Perm ((xs.set i b).set j a)
  | [], _, _, _, _, h, _, _ => by simp at h
  | x :: xs, 0, j + 1, a, b, _, hj, _ => by
    simp only [List.set_cons_zero, List.set_cons_succ]
    exact swap_cons (by simpa using hj)
  | x :: xs, i + 1, 0, a, b, hi, _, _ => by
    simp only [List.set_cons_zero, List.set_cons_succ]
    exact swap_cons (by simpa using hi)
  | x :: xs, 0, 0, _, _, _, _, h => absurd rfl h
  | x :: xs, i + 1, j + 1, a, b, hi, hj, h => by
    simp only [List.set_cons_succ]
    exact (swap_perm (by simpa using hi) (by simpa using hj) (by omega)).cons x

theorem set_same' {xs : List PyData} {i : Nat} (h : i < xs.length) : xs.set i (gt' xs i) = xs := by
  apply List.ext_getElem?
  intro j
  by_cases hj : i = j
  · subst hj; rw [List.getElem?_set_self h]; simp [gt', h]
  · rw [List.getElem?_set_ne hj]

theorem hole_perm {xs : List PyData} {i j : Nat} {new : PyData} (hi : i < xs.length) (hj : j < xs.length) (h : i ≠ j) : ((xs.set i (gt' xs j)).set j new).Perm (xs.set i new) := by
  have e : xs.set i new = (xs.set i new).set j (gt' xs j) := by
    apply List.ext_getElem?
    intro m
    by_cases hm : j = m
    · subst hm; rw [List.getElem?_set_self (by simpa using hj), List.getElem?_set_ne h]; simp [gt', hj]
    · rw [List.getElem?_set_ne hm]
  rw [e]
  exact swap_perm hi hj h

/-- all in order but at the hole: above it and below it the order holds -/
structure UpOk (lt : PyData → PyData → Bool) (new : PyData) (xs : List PyData) (pos : Nat) : Prop where
  ord : ∀ i, 0 < i → i < xs.length → i ≠ pos → lt (gt' (xs.set pos new) i) (gt' (xs.set pos new) ((i - 1) / 2)) = false
  kid : ∀ i, 0 < i → i < xs.length → (i - 1) / 2 = pos → 0 < pos → lt (gt' (xs.set pos new) i) (gt' (xs.set pos new) ((pos - 1) / 2)) = false

theorem sdn_heap (L : Lin lt) (new : PyData) : ∀ f pos (xs : List PyData), pos ≤ f → pos < xs.length → UpOk lt new xs pos →
    IsHeap lt ((sdn lt new f xs pos).1.set (sdn lt new f xs pos).2 new) ∧ ((sdn lt new f xs pos).1.set (sdn lt new f xs pos).2 new).Perm (xs.set pos new)
  | 0, pos, xs, h, hp, U => by
    have : pos = 0 := by omega
    subst this
    exact ⟨fun i h0 hi => U.ord i h0 (by simpa [sdn] using hi) (by omega), .refl _⟩
  | f + 1, pos, xs, h, hp, U => by
    unfold sdn
    by_cases h0 : pos = 0
    · subst h0
      rw [if_pos rfl]
      exact ⟨fun i h0 hi => U.ord i h0 (by simpa using hi) (by omega), .refl _⟩
    · rw [if_neg h0]
      have hq : (pos - 1) / 2 < xs.length := by omega
      have hne : (pos - 1) / 2 ≠ pos := by omega
      cases hl : lt new (xs.getD ((pos - 1) / 2) .none)
      · simp only [Bool.false_eq_true, if_false]
        refine ⟨fun i hi0 hi => ?_, .refl _⟩
        by_cases hip : i = pos
        · subst hip
          rw [gt_set hp, gt_set hp, if_pos rfl, if_neg hne]; exact hl
        · exact U.ord i hi0 (by simpa using hi) hip
      · simp only [if_true]
        have U' : UpOk lt new (xs.set pos (gt' xs ((pos - 1) / 2))) ((pos - 1) / 2) := by
          have hlen : (xs.set pos (gt' xs ((pos - 1) / 2))).length = xs.length := by simp
          have key : ∀ j, gt' ((xs.set pos (gt' xs ((pos - 1) / 2))).set ((pos - 1) / 2) new) j = if j = (pos - 1) / 2 then new else if j = pos then gt' xs ((pos - 1) / 2) else gt' xs j := fun j => by
            rw [gt_set (by simpa using hq), gt_set hp]
          have key0 : ∀ j, gt' (xs.set pos new) j = if j = pos then new else gt' xs j := fun j => gt_set hp
          have hpn : lt (gt' xs ((pos - 1) / 2)) new = false := L.asymm _ _ hl
          refine ⟨fun i hi0 hi hne' => ?_, fun i hi0 hi hpar hpos => ?_⟩
          · rw [hlen] at hi
            rw [key, key, if_neg hne']
            by_cases hip : i = pos
            · subst hip
              rw [if_pos rfl, if_pos rfl]; exact hpn
            · rw [if_neg hip]
              have o := U.ord i hi0 hi hip
              rw [key0, key0, if_neg hip] at o
              by_cases h1 : (i - 1) / 2 = (pos - 1) / 2
              · rw [if_pos h1]
                rw [h1, if_neg hne] at o
                exact L.trans _ _ _ hpn o
              · rw [if_neg h1]
                by_cases h2 : (i - 1) / 2 = pos
                · rw [if_pos h2]
                  have k := U.kid i hi0 hi h2 (by omega)
                  rw [key0, key0, if_neg hip, if_neg hne] at k
                  exact k
                · rw [if_neg h2]
                  rw [if_neg h2] at o
                  exact o
          · rw [hlen] at hi
            have hpp : ((pos - 1) / 2 - 1) / 2 ≠ (pos - 1) / 2 := by omega
            have hpp2 : ((pos - 1) / 2 - 1) / 2 ≠ pos := by omega
            have o1 := U.ord ((pos - 1) / 2) hpos hq hne
            rw [key0, key0, if_neg hne, if_neg hpp2] at o1
            rw [key, key, if_neg hpp, if_neg hpp2]
            have hii : i ≠ (pos - 1) / 2 := by omega
            rw [if_neg hii]
            by_cases hip : i = pos
            · rw [if_pos hip]; exact o1
            · rw [if_neg hip]
              have o := U.ord i hi0 hi hip
              rw [key0, key0, if_neg hip, hpar, if_neg hne] at o
              exact L.trans _ _ _ o1 o
        obtain ⟨a1, a2⟩ := sdn_heap L new f ((pos - 1) / 2) (xs.set pos (gt' xs ((pos - 1) / 2))) (by omega) (by simpa using hq) U'
        exact ⟨a1, a2.trans (hole_perm hp hq (Ne.symm hne))⟩

theorem hpush_heap (L : Lin lt) {xs : List PyData} {x : PyData} (h : IsHeap lt xs) : IsHeap lt (hpush lt xs x) ∧ (hpush lt xs x).Perm (x :: xs) := by
  have hx : (xs ++ [x]).getD xs.length .none = x := by simp
  have hs : (xs ++ [x]).set xs.length x = xs ++ [x] := by
    have := set_same' (xs := xs ++ [x]) (i := xs.length) (by simp)
    unfold gt' at this; rw [hx] at this; exact this
  have hlow : ∀ i, i < xs.length → gt' (xs ++ [x]) i = gt' xs i := fun i hi => by
    unfold gt'; simp only [List.getD_eq_getElem?_getD, List.getElem?_append_left hi]
  have U : UpOk lt x (xs ++ [x]) xs.length := by
    refine ⟨fun i h0 hi hne => ?_, fun i h0 hi hp hpos => ?_⟩
    · rw [hs]
      have hi' : i < xs.length := by simp at hi; omega
      rw [hlow i hi', hlow _ (by omega)]
      exact h i h0 hi'
    · simp at hi; omega
  have := sdn_heap L x xs.length xs.length (xs ++ [x]) (Nat.le_refl _) (by simp) U
  unfold hpush siftdown
  simp only [hx]
  rw [hs] at this
  exact ⟨this.1, this.2.trans (List.perm_append_singleton _ _)⟩

/-- a heap with a hole: the order holds where the hole has no part -/
structure DnOk (lt : PyData → PyData → Bool) (xs : List PyData) (pos : Nat) : Prop where
  ord : ∀ i, 0 < i → i < xs.length → i ≠ pos → (i - 1) / 2 ≠ pos → lt (gt' xs i) (gt' xs ((i - 1) / 2)) = false
  kid : ∀ i, 0 < i → i < xs.length → (i - 1) / 2 = pos → 0 < pos → lt (gt' xs i) (gt' xs ((pos - 1) / 2)) = false

theorem sup_heap (L : Lin lt) (new : PyData) : ∀ f pos (xs : List PyData), xs.length ≤ pos + f → pos < xs.length → DnOk lt xs pos →
    DnOk lt (sup lt f xs pos).1 (sup lt f xs pos).2 ∧ (sup lt f xs pos).1.length = xs.length ∧ (sup lt f xs pos).2 < xs.length ∧ xs.length ≤ 2 * (sup lt f xs pos).2 + 1 ∧ ((sup lt f xs pos).1.set (sup lt f xs pos).2 new).Perm (xs.set pos new)
  | 0, pos, xs, h, hp, D => by omega
  | f + 1, pos, xs, h, hp, D => by
    rw [sup_succ]
    by_cases hc : 2 * pos + 1 < xs.length
    · rw [if_pos hc]
      have hq := child_lt (lt := lt) hc
      have hg := child_gt (lt := lt) (xs := xs) (pos := pos)
      have hpar : (child lt xs pos - 1) / 2 = pos := by unfold child; split <;> omega
      have key : ∀ j, gt' (xs.set pos (gt' xs (child lt xs pos))) j = if j = pos then gt' xs (child lt xs pos) else gt' xs j := fun j => gt_set hp
      have least : ∀ i, 0 < i → i < xs.length → (i - 1) / 2 = pos → i ≠ child lt xs pos → lt (gt' xs i) (gt' xs (child lt xs pos)) = false := fun i h0 hi hpi hne => by
        unfold child at hne ⊢
        split at hne
        · next hh =>
          rw [if_pos hh]
          have : i = 2 * pos + 1 := by omega
          rw [this]; exact hh.2
        · next hh =>
          rw [if_neg hh]
          have e2 : i = 2 * pos + 2 := by omega
          cases hlt : lt (xs.getD (2 * pos + 1) .none) (xs.getD (2 * pos + 2) .none)
          · exact absurd ⟨by omega, hlt⟩ hh
          · rw [e2]; exact L.asymm _ _ hlt
      have D' : DnOk lt (xs.set pos (gt' xs (child lt xs pos))) (child lt xs pos) := by
        refine ⟨fun i h0 hi h1 h2 => ?_, fun i h0 hi h1 h2 => ?_⟩
        · simp only [List.length_set] at hi
          rw [key, key]
          by_cases hip : i = pos
          · subst hip
            rw [if_pos rfl, if_neg (by omega)]
            exact D.kid (child lt xs i) (by omega) hq hpar h0
          · rw [if_neg hip]
            by_cases hpp : (i - 1) / 2 = pos
            · rw [if_pos hpp]; exact least i h0 hi hpp h1
            · rw [if_neg hpp]; exact D.ord i h0 hi hip hpp
        · simp only [List.length_set] at hi
          rw [key, key, hpar, if_pos rfl, if_neg (by omega)]
          have := D.ord i h0 hi (by omega) (by omega)
          rw [h1] at this; exact this
      obtain ⟨a1, a2, a3, a4, a5⟩ := sup_heap L new f (child lt xs pos) (xs.set pos (gt' xs (child lt xs pos))) (by simp; omega) (by simpa using hq) D'
      simp only [List.length_set] at a2 a3 a4
      exact ⟨a1, a2, a3, a4, a5.trans (hole_perm hp hq (by omega))⟩
    · rw [if_neg hc]
      exact ⟨D, rfl, hp, by show xs.length ≤ 2 * pos + 1; omega, .refl _⟩

theorem siftup_heap (L : Lin lt) {xs : List PyData} (hn : 0 < xs.length) (D : DnOk lt xs 0) : IsHeap lt (siftup lt xs) ∧ (siftup lt xs).Perm xs := by
  obtain ⟨a1, a2, a3, a4, a5⟩ := sup_heap L (gt' xs 0) xs.length 0 xs (by omega) hn D
  unfold siftup siftdown
  simp only
  generalize hr : sup lt xs.length xs 0 = r at *
  have hv : (r.1.set r.2 (xs.getD 0 .none)).getD r.2 .none = xs.getD 0 .none := by
    have := gt_set (xs := r.1) (i := r.2) (j := r.2) (a := xs.getD 0 .none) (by omega)
    rw [if_pos rfl] at this; exact this
  have hss : (r.1.set r.2 (xs.getD 0 .none)).set r.2 (xs.getD 0 .none) = r.1.set r.2 (xs.getD 0 .none) := by rw [List.set_set]
  have U : UpOk lt (xs.getD 0 .none) (r.1.set r.2 (xs.getD 0 .none)) r.2 := by
    rw [show xs.getD 0 .none = gt' xs 0 from rfl]
    refine ⟨fun i h0 hi hne => ?_, fun i h0 hi hp hpos => ?_⟩
    · simp only [List.length_set] at hi
      rw [List.set_set, gt_set (by omega), gt_set (by omega), if_neg hne, if_neg (by omega)]
      exact a1.ord i h0 hi hne (by omega)
    · simp only [List.length_set] at hi; omega
  have := sdn_heap L (xs.getD 0 .none) r.2 r.2 (r.1.set r.2 (xs.getD 0 .none)) (Nat.le_refl _) (by simp; omega) U
  rw [hss] at this
  rw [hv]
  refine ⟨this.1, this.2.trans (a5.trans ?_)⟩
  rw [set_same' hn]

theorem heap_least (L : Lin lt) {xs : List PyData} (h : IsHeap lt xs) : ∀ i, i < xs.length → lt (gt' xs i) (gt' xs 0) = false := by
  intro i
  induction i using Nat.strongRecOn with
  | _ i ih =>
    intro hi
    by_cases h0 : i = 0
    · subst h0
      cases hl : lt (gt' xs 0) (gt' xs 0)
      · rfl
      · have := L.asymm _ _ hl; rw [hl] at this; cases this
    · exact L.trans _ _ _ (ih ((i - 1) / 2) (by omega) (by omega)) (h i (by omega) hi)

/-- what heappop takes and leaves -/
theorem pop_heap (L : Lin lt) {ys : List PyData} {z : PyData} (h0 : 0 < ys.length) (h : IsHeap lt (ys ++ [z])) :
    IsHeap lt (siftup lt (ys.set 0 z)) ∧ (siftup lt (ys.set 0 z) ++ [gt' ys 0]).Perm (ys ++ [z]) ∧ ∀ x ∈ ys ++ [z], lt x (gt' ys 0) = false := by
  have hlow : ∀ i, i < ys.length → gt' (ys ++ [z]) i = gt' ys i := fun i hi => by
    unfold gt'; simp only [List.getD_eq_getElem?_getD, List.getElem?_append_left hi]
  have D : DnOk lt (ys.set 0 z) 0 := by
    refine ⟨fun i hi0 hi hne hpar => ?_, fun i hi0 hi hp hpos => by omega⟩
    simp only [List.length_set] at hi
    rw [gt_set h0, gt_set h0, if_neg hne, if_neg hpar]
    have := h i hi0 (by simp; omega)
    rw [hlow i hi, hlow _ (by omega)] at this
    exact this
  obtain ⟨a1, a2⟩ := siftup_heap L (by simpa using h0) D
  refine ⟨a1, ?_, fun x hx => ?_⟩
  · refine (a2.append_right _).trans ?_
    have e : ys = ys.set 0 (gt' ys 0) := (set_same' h0).symm
    have p1 : (ys.set 0 z ++ [gt' ys 0]).Perm (ys.set 0 (gt' ys 0) ++ [z]) := by
      cases ys with
      | nil => simp at h0
      | cons y ys =>
        simp only [List.set_cons_zero, List.cons_append]
        exact (List.perm_append_singleton _ _).cons _ |>.trans ((List.Perm.swap _ _ _).trans ((List.perm_append_singleton _ _).symm.cons _))
    rw [← e] at p1
    exact p1
  · obtain ⟨i, hi, rfl⟩ := List.getElem_of_mem hx
    have := heap_least L h i hi
    rw [hlow 0 h0] at this
    have e : gt' (ys ++ [z]) i = (ys ++ [z])[i] := by
      unfold gt'
      rw [List.getD_eq_getElem?_getD, List.getElem?_eq_getElem hi]; rfl
    rw [e] at this; exact this
end
end Mine
end
section
namespace Mine
def emFor (got : Str) (e : Int) : List Str → Int → Bool
  | [], _ => true
  | w :: ws, s => if find4 got w s e < 0 then false else emFor got e ws (find4 got w s e + (w.length : Int))

/-- the pieces' words are sought one after the other -/
def emIn (got : Str) (ws : List Str) (s e : Int) : Bool := if e < s then false else emFor got e ws s
def emEnd (got : Str) (ws : List Str) (s : Int) : Bool :=
  let w := ws.getLastD ⟨#[]⟩
  if w.length = 0 then emIn got ws s got.length
  else if Txt.endswith got w then emIn got ws.dropLast s (got.length - w.length) else false
def emAll (got : Str) (ws : List Str) : Bool :=
  let w := ws.headD ⟨#[]⟩
  if w.length = 0 then emEnd got ws 0
  else if Txt.startswith got w then emEnd got ws.tail w.length else false
def dots : Str := Str.ofString "..."
def emB (want got : Str) : Bool := if (Builtin.Str.occurrences want dots 0 want.length 1).isEmpty then PyData.eqv (.str want) (.str got) else emAll got (Txt.split want dots)


theorem mfun_retQ {c : Cx} {μ : Mem} {W : WS} {j n : Nat} {as : List AV} {x : PyData} (hl : as.length = j) (h : ∀ R : KS, (∀ σ μ', μ'.take μ.length = μ → R (.ret (.d x)) σ μ') → W c (initS n as) μ R) : Says (mfun W j n c) as μ (.d x) μ := fun k hk => ⟨hl, h _ fun _ μ' e => by
  show k _ (μ'.take μ.length)
  rw [e]; exact hk⟩
theorem lst_new {μ : Mem} {m : MO} : (μ ++ [m])[μ.length]? = some m := List.getElem?_concat_length
theorem set_new {μ : Mem} {m m' : MO} : (μ ++ [m]).set μ.length m' = μ ++ [m'] := by simp
theorem take_new {μ : Mem} {m : MO} : (μ ++ [m]).take μ.length = μ := by simp

section
variable {c : Cx} {μ : Mem}
theorem idx_last {V : List Str} (h : 0 < V.length) (hz : V.length < 2 ^ 31) : ((idxOf (-1) (V.map PyData.str).length).bind fun x => (V.map PyData.str)[x]?) = some (.str (V.getLastD ⟨#[]⟩)) := by
  have e : idxOf (-1) (V.map PyData.str).length = some (V.length - 1) := by
    unfold idxOf
    rw [if_pos (by simpa using hz), if_neg (by decide), if_pos (by simp; omega)]
    simp; omega
  rw [e]
  show (V.map PyData.str)[V.length - 1]? = _
  rw [List.getElem?_map, List.getLastD_eq_getLast?, List.getLast?_eq_getElem?]
  have : V.length - 1 < V.length := by omega
  rw [List.getElem?_eq_getElem this]; rfl
theorem idx_last' {V : List Str} (h : 0 < V.length) (hz : V.length < 2 ^ 31) : idxOf (-1) V.length = some (V.length - 1) := by
  unfold idxOf
  rw [if_pos hz, if_neg (by decide), if_pos (by omega)]
  simp; omega
theorem last_mem {V : List Str} {d : Str} (h : 0 < V.length) : V.getLastD d ∈ V := by
  have hne : V ≠ [] := fun e => by rw [e] at h; simp at h
  rw [List.getLastD_eq_getLast?, List.getLast?_eq_some_getLast hne]
  exact List.getLast_mem hne
theorem erase_last {V : List Str} : (V.map PyData.str).eraseIdx (V.length - 1) = V.dropLast.map .str := by
  rw [show V.length - 1 = (V.map PyData.str).length - 1 by simp, List.eraseIdx_length_sub_one, List.map_dropLast]


theorem dots_len : dots.length = 3 := by decide
theorem len_map {V : List Str} : (V.map PyData.str).length = V.length := List.length_map ..

def w_em2 : WS := sBlk [(sAsg 5 (wIdx (wVar 2) (wNeg (wDat (.int 1))))), (sIf (tTru trS (wVar 5)) (sBlk [(sIf (tTru trB (wMeth kStr pEnds (wVar 1) [(wVar 5)])) (sBlk [(sAug (fun a b => a - b) 4 (wB1 lenS (wVar 5))), (sDel (wVar 2) (wNeg (wDat (.int 1))))]) (sBlk [(sRet (wDat (.bool false)))]))]) (sBlk [])), (sIf (tCmp (wCmp gtI (wVar 3) (wVar 4))) (sBlk [(sRet (wDat (.bool false)))]) (sBlk [])), (sFor 5 (iItems (wVar 2)) (sBlk [(sAsg 3 (wMeth kStr pFind (wVar 1) [(wVar 5), (wVar 3), (wVar 4)])), (sIf (tCmp (wCmp ltI (wVar 3) (wDat (.int 0)))) (sBlk [(sRet (wDat (.bool false)))]) (sBlk [])), (sAug (fun a b => a + b) 3 (wB1 lenS (wVar 5)))])), (sRet (wDat (.bool true)))]
def w_em3 : WS := sBlk [(sIf (tCmp (wCmp gtI (wVar 3) (wVar 4))) (sBlk [(sRet (wDat (.bool false)))]) (sBlk [])), (sFor 5 (iItems (wVar 2)) (sBlk [(sAsg 3 (wMeth kStr pFind (wVar 1) [(wVar 5), (wVar 3), (wVar 4)])), (sIf (tCmp (wCmp ltI (wVar 3) (wDat (.int 0)))) (sBlk [(sRet (wDat (.bool false)))]) (sBlk [])), (sAug (fun a b => a + b) 3 (wB1 lenS (wVar 5)))])), (sRet (wDat (.bool true)))]

theorem em3_ok {R : KS} {want got x5 : AV} {g : Str} {s e : Int} {V : List Str} (eg : got = .d (.str g)) (hv : ∀ w ∈ V, w.length < 2 ^ 31) (hR : ∀ σ μ', μ'.take μ.length = μ → R (.ret (.d (.bool (emIn g V s e)))) σ μ') :
    w_em3 c [some want, some got, some (.h μ.length), some (.d (.int s)), some (.d (.int e)), some x5] (μ ++ [.lst (V.map .str)]) R := by
  subst eg
  unfold emIn at hR
  refine ⟨fun h => ?_, fun h => ?_⟩
  · rw [if_pos (of_decide_eq_true h)] at hR
    exact hR _ _ take_new
  rw [if_neg (of_decide_eq_false h)] at hR
  refine ⟨_, lst_new, ?_⟩
  rw [set_new]
  refine for_mk (fun ds σ μ' => ∃ U s x, ds = U.map .str ∧ (∀ w ∈ U, w.length < 2 ^ 31) ∧ σ = [some want, some (.d (.str g)), some (.h μ.length), some (.d (.int s)), some (.d (.int e)), some x] ∧ μ' = μ ++ [.dead] ∧ ∀ σ μ', μ'.take μ.length = μ → R (.ret (.d (.bool (emFor g e U s)))) σ μ') ⟨V, s, x5, rfl, hv, rfl, rfl, hR⟩ ?_ ?_
  · rintro d ds _ _ Z hn - - hr ⟨U, s, x, e1, hU, rfl, rfl, hR⟩
    cases U with
    | nil => cases e1
    | cons w U =>
      cases e1
      unfold emFor at hR
      refine ⟨trivial, ⟨fun h => ?_, fun h => ?_⟩⟩
      · rw [if_pos (of_decide_eq_true h)] at hR
        exact hr _ _ _ (hR _ _ take_new)
      · rw [if_neg (of_decide_eq_false h)] at hR
        exact ⟨hU w List.mem_cons_self, hn _ _ ⟨U, _, _, rfl, fun w hw => hU w (List.mem_cons_of_mem _ hw), rfl, rfl, hR⟩⟩
  · rintro _ _ ⟨U, s, x, e1, _, rfl, rfl, hR⟩
    cases U with
    | nil => exact hR _ _ take_new
    | cons _ _ => cases e1

theorem em2_ok {R : KS} {want got x5 : AV} {g : Str} {s : Nat} {V : List Str} (eg : got = .d (.str g)) (hg : g.length < 2 ^ 31) (h0 : 0 < V.length) (hz : V.length < 2 ^ 20) (hv : ∀ w ∈ V, w.length < 2 ^ 31) (hR : ∀ σ μ', μ'.take μ.length = μ → R (.ret (.d (.bool (emEnd g V s)))) σ μ') :
    w_em2 c [some want, some got, some (.h μ.length), some (.d (.int (s : Nat))), some (.d (.int (g.length : Nat))), some x5] (μ ++ [.lst (V.map .str)]) R := by
  subst eg
  have hline : sizeLine = 2 ^ 24 := rfl
  have hz' : V.length < 2 ^ 31 := by omega
  have e1 := Option.bind_eq_some_iff.mp (idx_last h0 hz')
  obtain ⟨j, e1, e2⟩ := e1
  have hl0 : (V.getLastD ⟨#[]⟩).length < 2 ^ 31 := hv _ (last_mem h0)
  unfold emEnd at hR
  refine ⟨_, lst_new, j, _, e1, e2, ?_⟩
  generalize V.getLastD ⟨#[]⟩ = w at hR hl0 ⊢
  refine And.intro hl0 ⟨fun h => ?_, fun h => ?_⟩
  · have hb : w.length ≠ 0 := bne_iff_ne.mp h
    simp only [if_neg hb] at hR
    refine ⟨trivial, ⟨fun h => ?_, fun h => ?_⟩⟩
    · rw [if_pos h] at hR
      refine ⟨hl0, _, lst_new, V.length - 1, ?_, ?_, ?_⟩
      · rw [len_map]; exact idx_last' h0 hz'
      · rw [len_map]; omega
      · rw [set_new, erase_last]
        exact em3_ok (V := V.dropLast) rfl (fun w hw => hv w (List.dropLast_subset V hw)) hR
    · rw [if_neg (by rw [h]; decide)] at hR
      exact hR _ _ take_new
  · have hb : w.length = 0 := by simpa using h
    simp only [if_pos hb] at hR
    exact em3_ok rfl hv hR

theorem sem_ellipsis {want got : Str} {w0 w1 : Str} {ws : List Str} (hc : c.cst "ELLIPSIS_MARKER" = some (.str dots)) (hwant : want.length ≤ 1048576) (hgot : got.length < 2 ^ 31) (ok1 : PyData.strOk want = true) (ok2 : PyData.strOk got = true)
    (hs : (Builtin.Str.occurrences want dots 0 want.length 1).isEmpty = false → Txt.split want dots = w0 :: w1 :: ws) (hwl : ∀ w ∈ w0 :: w1 :: ws, w.length < 2 ^ 31) (hwn : ws.length < 4000) :
    Says (f_ellipsis_match c) [.d (.str want), .d (.str got)] μ (.d (.bool (emB want got))) μ := by
  have hline : sizeLine = 2 ^ 24 := rfl
  have hok : okEq (.str want) (.str got) = true := by simp [okEq, PyData.canLay0, ok1, ok2, PyData.depth]
  refine mfun_retQ rfl fun R hR => ?_
  unfold emB at hR
  refine ⟨_, hc, ⟨fun h => ?_, fun h => ?_⟩⟩
  · rw [if_pos h] at hR
    exact ⟨hok, hR _ _ take_all⟩
  rw [if_neg (by rw [h]; decide), hs h] at hR
  refine ⟨_, hc, by decide, hwant, ?_⟩
  rw [hs h]
  have hlen : ((w0 :: w1 :: ws).map PyData.str).length = ws.length + 2 := len_map
  refine ⟨_, lst_new, by omega, ?_⟩
  refine ⟨decide_eq_true (by omega), hgot, ?_⟩
  refine idxP.lst (n := 0) lst_new (by omega) (by omega) ?_
  have hv1 : ∀ w ∈ w1 :: ws, w.length < 2 ^ 31 := fun w hw => hwl w (List.mem_cons_of_mem _ hw)
  have hhead : emAll got (w0 :: w1 :: ws) = if w0.length = 0 then emEnd got (w0 :: w1 :: ws) 0 else if Txt.startswith got w0 then emEnd got (w1 :: ws) w0.length else false := rfl
  rw [hhead] at hR
  refine And.intro (hwl w0 List.mem_cons_self) ⟨fun h => ?_, fun h => ?_⟩
  · have hb : w0.length ≠ 0 := bne_iff_ne.mp h
    simp only [if_neg hb] at hR
    refine ⟨trivial, ⟨fun h => ?_, fun h => ?_⟩⟩
    · rw [if_pos h] at hR
      refine ⟨hwl w0 List.mem_cons_self, _, lst_new, 0, idxOf_nat (i := 0) (by omega) (by omega), by omega, ?_⟩
      rw [set_new]
      exact em2_ok (V := w1 :: ws) (s := w0.length) rfl hgot (Nat.succ_pos _) (by simp only [List.length_cons]; omega) hv1 hR
    · rw [if_neg (by rw [h]; decide)] at hR
      exact hR _ _ take_new
  · have hb : w0.length = 0 := by simpa using h
    simp only [if_pos hb] at hR
    exact em2_ok (V := w0 :: w1 :: ws) (s := 0) rfl hgot (Nat.succ_pos _) (by simp only [List.length_cons]; omega) hwl hR
end
end Mine
end
section
open PySem
namespace Mine

/-! plain: patterns over numbers of signs; none stands for three dots -/
def tx (l : List Nat) : Str := ⟨l.toArray⟩
theorem tx_len {l : List Nat} : (tx l).length = l.length := by simp [tx, Str.length]
theorem tx_inj {a b : List Nat} : tx a = tx b ↔ a = b := by
  refine ⟨fun h => ?_, fun h => h ▸ rfl⟩
  have := congrArg (fun s : Str => s.cps.toList) h
  simpa [tx] using this
theorem tx_cps (s : Str) : tx s.cps.toList = s := by cases s; simp [tx]

abbrev Pat := List (Option Nat)
def unit : Option Nat → List Nat
  | some c => [c]
  | none => [46, 46, 46]
def flat (ps : Pat) : List Nat := ps.flatMap unit
def SOk (ps : Pat) : Prop := ∀ c, some c ∈ ps → c ≠ 46 ∧ c < 0x110000

def gm : Pat → List Nat → Prop
  | [], t => t = []
  | some c :: ps, t => ∃ u, t = c :: u ∧ gm ps u
  | none :: ps, t => ∃ k, k ≤ t.length ∧ gm ps (t.drop k)

def At (t w : List Nat) (i : Nat) : Prop := (t.drop i).take w.length = w
def atB (t w : List Nat) (i : Nat) : Bool := (t.drop i).take w.length == w
theorem atB_iff {t w : List Nat} {i : Nat} : atB t w i = true ↔ At t w i := beq_iff_eq
theorem atB_no {t w : List Nat} {i : Nat} (h : ¬ At t w i) : atB t w i = false := beq_eq_false_iff_ne.mpr h

theorem subAt_tx {t w : List Nat} {i : Nat} : Builtin.Str.subAt (tx t) (tx w) i = atB t w i := by
  unfold Builtin.Str.subAt
  rw [tx_len]
  have e : (tx t).cps.extract i (i + w.length) = ((t.drop i).take w.length).toArray := by
    apply Array.toList_inj.mp
    simp only [tx, List.extract_toArray, List.extract_eq_take_drop]
    rw [show i + w.length - i = w.length by omega]
  rw [e]
  show (((t.drop i).take w.length).toArray == w.toArray) = atB t w i
  by_cases h : At t w i
  · rw [atB_iff.mpr h]
    have h' : (t.drop i).take w.length = w := h
    rw [h']; simp
  · rw [atB_no h]
    exact beq_eq_false_iff_ne.mpr fun e => h (show (t.drop i).take w.length = w by simpa using congrArg Array.toList e)

/-! occurrences -/
def occF (p : Nat → Bool) (w limit : Nat) : List Nat → Nat → Nat → List Nat
  | [], _, _ => []
  | i :: l, n, free => if n < limit ∧ free ≤ i ∧ p i = true then i :: occF p w limit l (n + 1) (i + w) else occF p w limit l n free

theorem occ_F (s sub : Str) (hi limit : Nat) : ∀ (l : List Nat) (st : Array Nat × Nat), (forIn l st (StrLaws.occBody s sub hi limit)).run.fst.toList = st.fst.toList ++ occF (fun i => decide (i + sub.length ≤ hi) && Builtin.Str.subAt s sub i) sub.length limit l st.fst.size st.snd
  | [], st => by simp [occF]
  | a :: l, st => by
    rw [List.forIn_cons]
    unfold StrLaws.occBody occF
    by_cases h : ((st.fst.size < limit ∧ st.snd ≤ a) ∧ a + sub.length ≤ hi) ∧ Builtin.Str.subAt s sub a = true
    · rw [if_pos h, if_pos (by simp [h.1.1.1, h.1.1.2, h.1.2, h.2])]
      have := occ_F s sub hi limit l (st.fst.push a, a + sub.length)
      simp only [Array.toList_push, Array.size_push, List.append_assoc, List.cons_append, List.nil_append] at this
      exact this
    · rw [if_neg h, if_neg (by simp only [Bool.and_eq_true, decide_eq_true_eq]; exact fun hh => h ⟨⟨⟨hh.1, hh.2.1⟩, hh.2.2.1⟩, hh.2.2.2⟩)]
      exact occ_F s sub hi limit l st
theorem occ_tx (t w : List Nat) (lo hi limit : Nat) : Builtin.Str.occurrences (tx t) (tx w) lo hi limit = occF (fun i => decide (i + w.length ≤ hi) && atB t w i) w.length limit (List.range' lo (hi + 1 - lo)) 0 lo := by
  rw [StrLaws.occ_eq, occ_F]
  simp only [List.nil_append, List.size_toArray, List.length_nil, tx_len, subAt_tx]

/-! the first place -/
theorem occF_full {p : Nat → Bool} {w : Nat} : ∀ (l : List Nat) (n free : Nat), 1 ≤ n → occF p w 1 l n free = []
  | [], _, _, _ => rfl
  | i :: l, n, free, h => by
    unfold occF
    rw [if_neg (by omega)]
    exact occF_full l n free h
theorem occF_one {p : Nat → Bool} {w : Nat} : ∀ (l : List Nat) (free : Nat), (∀ i ∈ l, free ≤ i) → occF p w 1 l 0 free = (match l.find? p with | some k => [k] | none => [])
  | [], _, _ => rfl
  | i :: l, free, h => by
    unfold occF
    have h1 := h i List.mem_cons_self
    cases hp : p i
    · rw [if_neg (by simp), List.find?_cons, hp]
      exact occF_one l free fun j hj => h j (List.mem_cons_of_mem _ hj)
    · rw [if_pos ⟨by omega, h1, rfl⟩, List.find?_cons, hp, occF_full _ _ _ (by omega)]

theorem fromIndex_nat {n k : Nat} : fromIndex n (k : Int) = k := by
  unfold fromIndex
  rw [if_neg (by omega)]; omega

theorem find4_tx {t w : List Nat} {s e : Nat} (he : e ≤ t.length) : find4 (tx t) (tx w) s e = (match (List.range' s (e + 1 - s)).find? (fun i => decide (i + w.length ≤ e) && atB t w i) with | some k => (k : Int) | none => -1) := by
  unfold find4
  rw [tx_len, fromIndex_nat, fromIndex_nat, Nat.min_eq_left he, occ_tx, occF_one _ _ (fun i hi => by simp [List.mem_range'_1] at hi; omega)]
  cases (List.range' s (e + 1 - s)).find? (fun i => decide (i + w.length ≤ e) && atB t w i) <;> rfl

/-! words sought one after the other -/
def midE (t : List Nat) : List (List Nat) → Nat → Nat → Prop
  | [], s, e => s ≤ e
  | w :: ws, s, e => ∃ k, s ≤ k ∧ k + w.length ≤ e ∧ At t w k ∧ midE t ws (k + w.length) e

theorem midE_le {t : List Nat} : ∀ {ws : List (List Nat)} {s e : Nat}, midE t ws s e → s ≤ e
  | [], _, _, h => h
  | w :: ws, s, e, ⟨k, h1, h2, _, _⟩ => by omega
theorem midE_anti {t : List Nat} : ∀ {ws : List (List Nat)} {s s' e : Nat}, s ≤ s' → midE t ws s' e → midE t ws s e
  | [], _, _, _, h, m => Nat.le_trans h m
  | w :: ws, s, s', e, h, ⟨k, h1, h2, h3, h4⟩ => ⟨k, by omega, h2, h3, h4⟩

theorem emFor_tx {t : List Nat} {e : Nat} (he : e ≤ t.length) : ∀ (ws : List (List Nat)) (s : Nat), s ≤ e → (emFor (tx t) e (ws.map tx) s = true ↔ midE t ws s e)
  | [], s, h => by simp [emFor, midE, h]
  | w :: ws, s, h => by
    simp only [List.map_cons, emFor]
    rw [find4_tx he]
    cases hf : (List.range' s (e + 1 - s)).find? (fun i => decide (i + w.length ≤ e) && atB t w i) with
    | none =>
      simp only [show (-1 : Int) < 0 by decide, if_true]
      refine ⟨fun h => (by cases h), fun ⟨k, h1, h2, h3, _⟩ => ?_⟩
      have := List.find?_eq_none.mp hf k (by simp [List.mem_range'_1]; omega)
      simp [h2, atB_iff.mpr h3] at this
    | some k =>
      have hk := List.find?_some hf
      have hm := List.mem_of_find?_eq_some hf
      simp only [Bool.and_eq_true, decide_eq_true_eq, atB_iff] at hk
      simp only [List.mem_range'_1] at hm
      simp only
      rw [if_neg (by omega), tx_len, show (k : Int) + (w.length : Int) = ((k + w.length : Nat) : Int) by omega]
      rw [emFor_tx he ws (k + w.length) hk.1]
      refine ⟨fun m => ⟨k, hm.1, hk.1, hk.2, m⟩, fun ⟨j, h1, h2, h3, h4⟩ => ?_⟩
      refine midE_anti ?_ h4
      rcases Nat.lt_or_ge j k with hlt | hge
      · exfalso
        have hsplit := List.find?_range'_eq_some.mp hf
        have := hsplit.2.2 j h1 hlt
        simp [h2, atB_iff.mpr h3] at this
      · omega
end Mine
end
section
open PySem
namespace Mine

/-! the words between the dots -/
def segs : Pat → List (List Nat)
  | [] => [[]]
  | some c :: ps => match segs ps with
    | s :: r => (c :: s) :: r
    | [] => [[c]]
  | none :: ps => [] :: segs ps

theorem segs_ne : ∀ ps, segs ps ≠ []
  | [] => by simp [segs]
  | some c :: ps => by simp only [segs]; split <;> simp
  | none :: ps => by simp [segs]
theorem segs_some {c : Nat} {ps : Pat} : ∃ s r, segs ps = s :: r ∧ segs (some c :: ps) = (c :: s) :: r := by
  cases h : segs ps with
  | nil => exact absurd h (segs_ne ps)
  | cons s r => exact ⟨s, r, rfl, by simp only [segs, h]⟩

def hasDots (ps : Pat) : Prop := none ∈ ps
theorem segs_two : ∀ {ps : Pat}, none ∈ ps → 2 ≤ (segs ps).length
  | [], h => by simp at h
  | some c :: ps, h => by
    obtain ⟨s, r, h1, h2⟩ := segs_some (c := c) (ps := ps)
    have := segs_two (ps := ps) (by simpa using h)
    rw [h1] at this; rw [h2]; simpa using this
  | none :: ps, h => by
    simp only [segs, List.length_cons]
    have := List.length_pos_iff.mpr (segs_ne ps)
    omega
theorem segs_count : ∀ (ps : Pat), (segs ps).length ≤ ps.length + 1
  | [] => by simp [segs]
  | some c :: ps => by
    obtain ⟨s, r, h1, h2⟩ := segs_some (c := c) (ps := ps)
    have := segs_count ps
    rw [h1] at this; rw [h2]; simp at this ⊢; omega
  | none :: ps => by
    simp only [segs, List.length_cons]
    have := segs_count ps
    omega
theorem segs_len : ∀ (ps : Pat), ∀ s ∈ segs ps, s.length ≤ ps.length
  | [], s, h => by simp [segs] at h; subst h; simp
  | some c :: ps, s, h => by
    obtain ⟨s', r, h1, h2⟩ := segs_some (c := c) (ps := ps)
    have ih := segs_len ps
    rw [h1] at ih; rw [h2] at h
    rcases List.mem_cons.mp h with rfl | h
    · have := ih s' List.mem_cons_self
      simp; exact this
    · have := ih s (List.mem_cons_of_mem _ h)
      simp; omega
  | none :: ps, s, h => by
    simp only [segs] at h
    rcases List.mem_cons.mp h with rfl | h
    · simp
    · have := segs_len ps s h
      simp; omega

theorem flat_cons {u : Option Nat} {ps : Pat} : flat (u :: ps) = unit u ++ flat ps := by simp [flat]
theorem flat_nil : flat [] = [] := rfl

/-- where the dots begin, counted from a place -/
def cuts : Nat → Pat → List Nat
  | _, [] => []
  | i, some _ :: ps => cuts (i + 1) ps
  | i, none :: ps => i :: cuts (i + 3) ps

theorem at_dots_none {pre : List Nat} {ps : Pat} : At (pre ++ flat (none :: ps)) [46, 46, 46] pre.length := by
  unfold At
  rw [List.drop_left, flat_cons]
  simp [unit]
theorem at_dots_some {pre : List Nat} {c : Nat} {ps : Pat} (h : c ≠ 46) : ¬ At (pre ++ flat (some c :: ps)) [46, 46, 46] pre.length := by
  unfold At
  rw [List.drop_left, flat_cons]
  simp [unit, h]
theorem range_step {a n : Nat} : List.range' a (n + 1) = a :: List.range' (a + 1) n := List.range'_succ ..

theorem occ_free (p : Nat → Bool) (w limit : Nat) : ∀ (l : List Nat) (n free free' : Nat), (∀ i ∈ l, free ≤ i) → (∀ i ∈ l, free' ≤ i) → occF p w limit l n free = occF p w limit l n free'
  | [], _, _, _, _, _ => rfl
  | i :: l, n, free, free', h, h' => by
    have h1 := h i List.mem_cons_self
    have h2 := h' i List.mem_cons_self
    unfold occF
    by_cases hc : n < limit ∧ p i = true
    · rw [if_pos ⟨hc.1, h1, hc.2⟩, if_pos ⟨hc.1, h2, hc.2⟩]
    · rw [if_neg fun x => hc ⟨x.1, x.2.2⟩, if_neg fun x => hc ⟨x.1, x.2.2⟩]
      exact occ_free p w limit l n free free' (fun j hj => h j (List.mem_cons_of_mem _ hj)) fun j hj => h' j (List.mem_cons_of_mem _ hj)

theorem occ_cuts {t : List Nat} {limit : Nat} : ∀ (ps : Pat) (pre : List Nat) (n : Nat), SOk ps → t = pre ++ flat ps → n + (flat ps).length < limit →
    occF (fun i => decide (i + 3 ≤ t.length) && atB t [46, 46, 46] i) 3 limit (List.range' pre.length ((flat ps).length + 1)) n pre.length = cuts pre.length ps
  | [], pre, n, _, ht, hn => by
    simp only [flat_nil, List.length_nil, Nat.zero_add, cuts]
    subst ht
    simp only [List.range'_one, occF]
    rw [if_neg]
    simp [flat_nil]
    intro _ h; omega
  | some c :: ps, pre, n, hs, ht, hn => by
    have hc := (hs c (by simp)).1
    have hp : (decide (pre.length + 3 ≤ t.length) && atB t [46, 46, 46] pre.length) = false := by
      rw [ht, atB_no (at_dots_some hc), Bool.and_false]
    have hl : (flat (some c :: ps)).length = (flat ps).length + 1 := by rw [flat_cons]; simp [unit]
    rw [hl, range_step]
    simp only [occF, hp, cuts]
    rw [if_neg (by simp)]
    have ih := occ_cuts (t := t) (limit := limit) ps (pre ++ [c]) n (fun d hd => hs d (List.mem_cons_of_mem _ hd)) (by rw [ht, flat_cons]; simp [unit]) (by omega)
    simp only [List.length_append, List.length_cons, List.length_nil, Nat.zero_add] at ih
    rw [← ih]
    exact occ_free _ _ _ _ _ _ _ (fun i hi => by simp [List.mem_range'_1] at hi; omega) (fun i hi => by simp [List.mem_range'_1] at hi; omega)
  | none :: ps, pre, n, hs, ht, hn => by
    have hl : (flat (none :: ps)).length = (flat ps).length + 3 := by rw [flat_cons]; simp [unit]
    have hp : (decide (pre.length + 3 ≤ t.length) && atB t [46, 46, 46] pre.length) = true := by
      rw [ht, atB_iff.mpr at_dots_none, Bool.and_true]
      exact decide_eq_true (by simp [hl])
    rw [hl, range_step, range_step, range_step]
    simp only [occF, hp, cuts]
    rw [if_pos (by simp; omega), if_neg (by omega), if_neg (by omega)]
    congr 1
    have ih := occ_cuts (t := t) (limit := limit) ps (pre ++ [46, 46, 46]) (n + 1) (fun d hd => hs d (List.mem_cons_of_mem _ hd)) (by rw [ht, flat_cons]; simp [unit]) (by omega)
    simp only [List.length_append, List.length_cons, List.length_nil, Nat.zero_add, Nat.reduceAdd] at ih
    exact ih
end Mine
end
section
open PySem
namespace Mine

theorem dots_tx : dots = tx [46, 46, 46] := by decide
theorem sub_tx {t : List Nat} {i j : Nat} : Builtin.Str.strSub (tx t) i j = tx ((t.drop i).take (j - i)) := by
  unfold Builtin.Str.strSub tx
  congr 1
  apply Array.toList_inj.mp
  simp only [List.extract_toArray, List.extract_eq_take_drop]

theorem parts_segs {t : List Nat} : ∀ (ps : Pat) (pre : List Nat) (a : Nat), t = pre ++ flat ps → a ≤ pre.length →
    ∃ s r, segs ps = s :: r ∧ (((a :: (cuts pre.length ps).map (· + 3)).zip (cuts pre.length ps ++ [t.length])).map fun x => Builtin.Str.strSub (tx t) x.1 x.2) = ((pre.drop a ++ s) :: r).map tx
  | [], pre, a, ht, ha => by
    refine ⟨[], [], rfl, ?_⟩
    subst ht
    simp [cuts, sub_tx, flat_nil]
    congr 1
    rw [List.take_of_length_le (by simp)]
  | some c :: ps, pre, a, ht, ha => by
    obtain ⟨s, r, h1, h2⟩ := segs_some (c := c) (ps := ps)
    obtain ⟨s', r', h3, h4⟩ := parts_segs (t := t) ps (pre ++ [c]) a (by rw [ht, flat_cons]; simp [unit]) (by simp; omega)
    rw [h1] at h3; cases h3
    refine ⟨c :: s, r, h2, ?_⟩
    simp only [List.length_append, List.length_cons, List.length_nil, Nat.zero_add] at h4
    simp only [cuts]
    rw [h4, List.drop_append_of_le_length ha]
    simp
  | none :: ps, pre, a, ht, ha => by
    obtain ⟨s', r', h3, h4⟩ := parts_segs (t := t) ps (pre ++ [46, 46, 46]) (pre.length + 3) (by rw [ht, flat_cons]; simp [unit]) (by simp)
    refine ⟨[], segs ps, rfl, ?_⟩
    simp only [List.length_append, List.length_cons, List.length_nil, Nat.zero_add, Nat.reduceAdd] at h4
    simp only [cuts, List.map_cons, List.cons_append, List.zip_cons_cons]
    rw [h4, h3]
    have e1 : (pre ++ [46, 46, 46]).drop (pre.length + 3) = [] := by rw [List.drop_of_length_le (by simp)]
    rw [e1]
    simp only [List.nil_append, List.map_cons, List.append_nil]
    congr 1
    rw [sub_tx, ht, List.drop_append_of_le_length ha, List.take_append_of_le_length (by simp), List.take_of_length_le (by simp)]

theorem cuts_some : ∀ {ps : Pat} {i : Nat}, none ∈ ps → cuts i ps ≠ []
  | [], _, h => by simp at h
  | some c :: ps, i, h => by simp only [cuts]; exact cuts_some (by simpa using h)
  | none :: ps, i, h => by simp [cuts]

theorem flat_len_dots : ∀ {ps : Pat}, none ∈ ps → 3 ≤ (flat ps).length
  | [], h => by simp at h
  | some c :: ps, h => by
    rw [flat_cons]
    have := flat_len_dots (ps := ps) (by simpa using h)
    simp [unit]; omega
  | none :: ps, h => by rw [flat_cons]; simp [unit]

theorem kind_pos {x : Str} : ¬ Builtin.Str.strKind x < Builtin.Str.strKind dots := by
  have e : Builtin.Str.strKind dots = 1 := by decide +kernel
  rw [e]
  unfold Builtin.Str.strKind
  split
  · omega
  · split <;> omega

theorem split_segs {ps : Pat} (hs : SOk ps) (hd : none ∈ ps) : Txt.split (tx (flat ps)) dots = (segs ps).map tx := by
  have hocc : Builtin.Str.occurrences (tx (flat ps)) dots 0 (tx (flat ps)).length ((tx (flat ps)).length + 1) = cuts 0 ps := by
    rw [dots_tx, tx_len, occ_tx]
    have := occ_cuts (t := flat ps) (limit := (flat ps).length + 1) ps [] 0 hs rfl (by omega)
    simpa using this
  unfold Txt.split
  have h3 := flat_len_dots hd
  rw [if_neg (by simp only [Bool.or_eq_true, decide_eq_true_eq, not_or]; exact ⟨by rw [tx_len, dots_len]; omega, kind_pos⟩), hocc, if_neg (by simpa using cuts_some hd)]
  obtain ⟨s, r, h1, h2⟩ := parts_segs (t := flat ps) ps [] 0 rfl (Nat.zero_le _)
  unfold Builtin.Str.partsBetween
  rw [dots_len, tx_len, h1]
  simpa using h2

theorem no_dots : ∀ {ps : Pat}, SOk ps → none ∉ ps → 46 ∉ flat ps
  | [], _, _ => by simp [flat]
  | some c :: ps, hs, hn => by
    rw [flat_cons]
    simp only [unit, List.cons_append, List.nil_append, List.mem_cons, not_or]
    exact ⟨fun e => (hs c (by simp)).1 e.symm, no_dots (fun d hd => hs d (List.mem_cons_of_mem _ hd)) (by simpa using hn)⟩
  | none :: ps, _, hn => by simp at hn

theorem has_at : ∀ {ps : Pat} {pre : List Nat}, none ∈ ps → ∃ i, i + 3 ≤ (pre ++ flat ps).length ∧ At (pre ++ flat ps) [46, 46, 46] i
  | [], _, h => by simp at h
  | some c :: ps, pre, h => by
    have := has_at (ps := ps) (pre := pre ++ [c]) (by simpa using h)
    rw [flat_cons]
    simpa [unit] using this
  | none :: ps, pre, h => ⟨pre.length, by rw [flat_cons]; simp [unit], at_dots_none⟩

theorem occ_none_iff {ps : Pat} (hs : SOk ps) : (Builtin.Str.occurrences (tx (flat ps)) dots 0 (tx (flat ps)).length 1).isEmpty = true ↔ none ∉ ps := by
  have f := StrLaws.found_iff (tx (flat ps)) dots
  constructor
  · intro h hd
    obtain ⟨i, h1, h2⟩ := has_at (pre := []) hd
    have : (!(Builtin.Str.occurrences (tx (flat ps)) dots 0 (tx (flat ps)).length 1).isEmpty) = true := f.mpr ⟨i, by rw [dots_len, tx_len]; simpa using h1, by rw [dots_tx, subAt_tx]; exact atB_iff.mpr (by simpa using h2)⟩
    rw [h] at this; cases this
  · intro hn
    cases h : (Builtin.Str.occurrences (tx (flat ps)) dots 0 (tx (flat ps)).length 1).isEmpty
    · exfalso
      obtain ⟨i, h1, h2⟩ := f.mp (by rw [h]; rfl)
      rw [dots_tx, subAt_tx] at h2
      have h2' : At (flat ps) [46, 46, 46] i := atB_iff.mp h2
      have : (46 : Nat) ∈ (flat ps).drop i := by
        have h5 : ((flat ps).drop i).take 3 = [46, 46, 46] := h2'
        exact List.mem_of_mem_take (by rw [h5]; simp)
      exact no_dots hs hn (List.mem_of_mem_drop this)
    · rfl

/-! glob by words -/
def gmT : List (List Nat) → List Nat → Prop
  | [], _ => False
  | [s], u => s <:+ u
  | s :: r, u => ∃ k, k + s.length ≤ u.length ∧ At u s k ∧ gmT r (u.drop (k + s.length))
def gmS : List (List Nat) → List Nat → Prop
  | [], _ => False
  | [s], t => t = s
  | s :: r, t => s <+: t ∧ gmT r (t.drop s.length)

theorem at_prefix {t w : List Nat} {k : Nat} (h : k + w.length ≤ t.length) : At t w k ↔ w <+: t.drop k := by
  unfold At
  constructor
  · intro e; rw [← e]; exact List.take_prefix _ _
  · rintro ⟨u, e⟩; rw [← e]; simp

theorem gmT_iff : ∀ {L : List (List Nat)} {t : List Nat}, gmT L t ↔ ∃ k, k ≤ t.length ∧ gmS L (t.drop k)
  | [], t => by simp [gmT, gmS]
  | [s], t => by
    simp only [gmT, gmS]
    constructor
    · rintro ⟨u, rfl⟩; exact ⟨u.length, by simp, by simp⟩
    · rintro ⟨k, _, rfl⟩; exact List.drop_suffix _ _
  | s :: r :: rs, t => by
    simp only [gmT, gmS]
    constructor
    · rintro ⟨k, h1, h2, h3⟩
      exact ⟨k, by omega, (at_prefix h1).mp h2, by rw [List.drop_drop]; exact h3⟩
    · rintro ⟨k, h1, h2, h3⟩
      have hl := h2.length_le
      simp only [List.length_drop] at hl
      rw [List.drop_drop] at h3
      exact ⟨k, by omega, (at_prefix (by omega)).mpr h2, h3⟩

theorem gm_gmS : ∀ {ps : Pat} {t : List Nat}, gm ps t ↔ gmS (segs ps) t
  | [], t => by simp [gm, segs, gmS]
  | some c :: ps, t => by
    obtain ⟨s, r, h1, h2⟩ := segs_some (c := c) (ps := ps)
    rw [h2]
    simp only [gm]
    have ih := fun u => gm_gmS (ps := ps) (t := u)
    rw [h1] at ih
    cases r with
    | nil =>
      simp only [gmS] at ih ⊢
      constructor
      · rintro ⟨u, rfl, hu⟩; rw [(ih u).mp hu]
      · rintro rfl; exact ⟨s, rfl, (ih s).mpr rfl⟩
    | cons a l =>
      simp only [gmS] at ih ⊢
      constructor
      · rintro ⟨u, rfl, hu⟩
        obtain ⟨k1, k2⟩ := (ih u).mp hu
        exact ⟨List.cons_prefix_cons.mpr ⟨rfl, k1⟩, by simpa using k2⟩
      · rintro ⟨k1, k2⟩
        cases t with
        | nil => simp at k1
        | cons x u =>
          obtain ⟨rfl, k3⟩ := List.cons_prefix_cons.mp k1
          exact ⟨u, rfl, (ih u).mpr ⟨k3, by simpa using k2⟩⟩
  | none :: ps, t => by
    simp only [gm, segs]
    have h1 : gmS ([] :: segs ps) t ↔ gmT (segs ps) t := by
      cases h : segs ps with
      | nil => exact absurd h (segs_ne ps)
      | cons s r => simp [gmS]
    rw [h1, gmT_iff]
    constructor
    · rintro ⟨k, hk, h⟩; exact ⟨k, hk, gm_gmS.mp h⟩
    · rintro ⟨k, hk, h⟩; exact ⟨k, hk, gm_gmS.mpr h⟩
end Mine
end
section
open PySem
namespace Mine

theorem starts_tx {t w : List Nat} : Txt.startswith (tx t) (tx w) = decide (w <+: t) := by
  unfold Txt.startswith
  rw [tx_len, tx_len, subAt_tx]
  by_cases h : w <+: t
  · have hl := h.length_le
    have : At t w 0 := (at_prefix (by omega)).mpr (by simpa using h)
    simp [h, atB_iff.mpr this, hl]
  · rw [decide_eq_false h]
    by_cases hl : w.length ≤ t.length
    · have : ¬ At t w 0 := fun a => h (by simpa using (at_prefix (by omega)).mp a)
      simp [atB_no this]
    · simp [hl]
theorem ends_tx {t w : List Nat} : Txt.endswith (tx t) (tx w) = (decide (w.length ≤ t.length) && atB t w (t.length - w.length)) := by
  unfold Txt.endswith
  rw [tx_len, tx_len, subAt_tx, Nat.zero_add]

def endE (t : List Nat) (V : List (List Nat)) (s : Nat) : Prop :=
  (V.getLastD []).length ≤ t.length ∧ At t (V.getLastD []) (t.length - (V.getLastD []).length) ∧ midE t V.dropLast s (t.length - (V.getLastD []).length)

theorem at_nil {t : List Nat} {k : Nat} : At t [] k := by simp [At]

theorem midE_last_nil {t : List Nat} : ∀ {ws : List (List Nat)} {s e : Nat}, midE t (ws ++ [[]]) s e ↔ midE t ws s e
  | [], s, e => by
    simp only [List.nil_append, midE, List.length_nil, Nat.add_zero]
    constructor
    · rintro ⟨k, h1, h2, _, h3⟩; omega
    · intro h; exact ⟨e, h, Nat.le_refl _, at_nil, Nat.le_refl _⟩
  | w :: ws, s, e => by
    simp only [List.cons_append, midE]
    constructor
    · rintro ⟨k, h1, h2, h3, h4⟩; exact ⟨k, h1, h2, h3, midE_last_nil.mp h4⟩
    · rintro ⟨k, h1, h2, h3, h4⟩; exact ⟨k, h1, h2, h3, midE_last_nil.mpr h4⟩
theorem midE_nil {t : List Nat} {ws : List (List Nat)} {s e : Nat} : midE t ([] :: ws) s e ↔ midE t ws s e := by
  simp only [midE, List.length_nil, Nat.add_zero]
  constructor
  · rintro ⟨k, h1, h2, _, h3⟩; exact midE_anti h1 h3
  · intro h; exact ⟨s, Nat.le_refl _, midE_le h, at_nil, h⟩

theorem emIn_tx {t : List Nat} {ws : List (List Nat)} {s e : Nat} (he : e ≤ t.length) : emIn (tx t) (ws.map tx) s e = true ↔ midE t ws s e := by
  unfold emIn
  by_cases h : (e : Int) < (s : Int)
  · rw [if_pos h]
    exact ⟨fun x => (by cases x), fun m => by have := midE_le m; omega⟩
  · rw [if_neg h]
    exact emFor_tx he ws s (by omega)

theorem last_tx {V : List (List Nat)} : (V.map tx).getLastD ⟨#[]⟩ = tx (V.getLastD []) := by
  rw [List.getLastD_eq_getLast?, List.getLastD_eq_getLast?, List.getLast?_map]
  cases V.getLast? <;> rfl
theorem dropLast_tx {V : List (List Nat)} : (V.map tx).dropLast = V.dropLast.map tx := by rw [List.map_dropLast]

theorem emEnd_tx {t : List Nat} {V : List (List Nat)} {s : Nat} (hV : V ≠ []) : emEnd (tx t) (V.map tx) s = true ↔ endE t V s := by
  unfold emEnd endE
  rw [last_tx]
  simp only [tx_len]
  by_cases h0 : (V.getLastD []).length = 0
  · rw [if_pos h0]
    have hnil : V.getLastD [] = [] := List.length_eq_zero_iff.mp h0
    have e1 : V = V.dropLast ++ [[]] := by
      have := List.dropLast_concat_getLast hV
      rw [List.getLastD_eq_getLast?, List.getLast?_eq_some_getLast hV] at hnil
      have hnil' : V.getLast hV = [] := hnil
      rw [hnil'] at this; exact this.symm
    rw [show ((t.length : Nat) : Int) = (t.length : Nat) from rfl, emIn_tx (Nat.le_refl _), hnil]
    simp only [List.length_nil, Nat.sub_zero, Nat.zero_le, true_and]
    conv => lhs; rw [e1]
    rw [midE_last_nil]
    exact ⟨fun h => ⟨at_nil, h⟩, fun h => h.2⟩
  · rw [if_neg h0, ends_tx]
    rcases Classical.em ((V.getLastD []).length ≤ t.length ∧ At t (V.getLastD []) (t.length - (V.getLastD []).length)) with h1 | h1
    · rw [decide_eq_true h1.1, atB_iff.mpr h1.2, Bool.and_true]
      simp only [if_true]
      rw [show ((t.length : Int) - ((V.getLastD []).length : Int)) = ((t.length - (V.getLastD []).length : Nat) : Int) by omega, dropLast_tx, emIn_tx (by omega)]
      exact ⟨fun m => ⟨h1.1, h1.2, m⟩, fun m => m.2.2⟩
    · have e : (decide ((V.getLastD []).length ≤ t.length) && atB t (V.getLastD []) (t.length - (V.getLastD []).length)) = false := by
        rw [← Bool.not_eq_true, Bool.and_eq_true, decide_eq_true_eq, atB_iff]; exact h1
      rw [e]
      simp only [Bool.false_eq_true, if_false, false_iff]
      exact fun m => h1 ⟨m.1, m.2.1⟩

theorem endE_cons {t : List Nat} {w : List Nat} {V : List (List Nat)} {s : Nat} (hV : V ≠ []) (hs : s ≤ t.length) : endE t (w :: V) s ↔ ∃ k, s ≤ k ∧ k + w.length ≤ t.length ∧ At t w k ∧ endE t V (k + w.length) := by
  unfold endE
  have e1 : (w :: V).getLastD [] = V.getLastD [] := by
    cases V with
    | nil => exact absurd rfl hV
    | cons a l => simp [List.getLastD_cons]
  have e2 : (w :: V).dropLast = w :: V.dropLast := by
    cases V with
    | nil => exact absurd rfl hV
    | cons a l => rfl
  rw [e1, e2]
  simp only [midE]
  constructor
  · rintro ⟨h1, h2, k, h3, h4, h5, h6⟩; exact ⟨k, h3, by omega, h5, h1, h2, h6⟩
  · rintro ⟨k, h3, h4, h5, h1, h2, h6⟩; exact ⟨h1, h2, k, h3, midE_le h6, h5, h6⟩

theorem gmT_endE {t : List Nat} : ∀ {V : List (List Nat)} {s : Nat}, V ≠ [] → s ≤ t.length → (gmT V (t.drop s) ↔ endE t V s)
  | [], _, h, _ => absurd rfl h
  | [w], s, _, hs => by
    unfold endE
    simp only [gmT, List.getLastD_cons, List.getLastD_nil, List.dropLast_singleton, midE]
    constructor
    · intro h
      have hl := h.length_le
      simp only [List.length_drop] at hl
      have h2 : w <:+ t := h.trans (List.drop_suffix _ _)
      have h3 : w = t.drop (t.length - w.length) := List.suffix_iff_eq_drop.mp h2
      exact ⟨by omega, (at_prefix (by omega)).mpr (by rw [← h3]; exact List.prefix_refl _), by omega⟩
    · rintro ⟨h1, h2, h3⟩
      have h4 := (at_prefix (by omega)).mp h2
      have h5 : w = t.drop (t.length - w.length) := by
        have := h4.eq_of_length (by simp; omega)
        exact this
      rw [h5, show t.length - w.length = s + (t.length - w.length - s) by omega, ← List.drop_drop]
      exact List.drop_suffix _ _
  | w :: a :: V, s, _, hs => by
    rw [endE_cons (by simp) hs]
    simp only [gmT]
    constructor
    · rintro ⟨k, h1, h2, h3⟩
      simp only [List.length_drop] at h1
      rw [List.drop_drop] at h3
      refine ⟨s + k, by omega, by omega, ?_, ?_⟩
      · have := (at_prefix (t := t.drop s) (by simp; omega)).mp h2
        rw [List.drop_drop] at this
        exact (at_prefix (by omega)).mpr this
      · have := (gmT_endE (V := a :: V) (s := s + (k + w.length)) (by simp) (by omega)).mp h3
        rw [show s + k + w.length = s + (k + w.length) by omega]; exact this
    · rintro ⟨k, h0, h1, h2, h3⟩
      refine ⟨k - s, by simp; omega, ?_, ?_⟩
      · refine (at_prefix (by simp; omega)).mpr ?_
        rw [List.drop_drop, show s + (k - s) = k by omega]
        exact (at_prefix h1).mp h2
      · rw [List.drop_drop, show s + (k - s + w.length) = k + w.length by omega]
        exact (gmT_endE (V := a :: V) (s := k + w.length) (by simp) h1).mpr h3

theorem emAll_tx {t w : List Nat} {V : List (List Nat)} (hV : V ≠ []) : emAll (tx t) ((w :: V).map tx) = true ↔ gmS (w :: V) t := by
  have hg : gmS (w :: V) t ↔ w <+: t ∧ endE t V w.length := by
    have e : gmS (w :: V) t ↔ w <+: t ∧ gmT V (t.drop w.length) := by
      cases V with
      | nil => exact absurd rfl hV
      | cons a l => exact Iff.rfl
    rw [e]
    constructor
    · rintro ⟨h1, h2⟩; exact ⟨h1, (gmT_endE hV h1.length_le).mp h2⟩
    · rintro ⟨h1, h2⟩; exact ⟨h1, (gmT_endE hV h1.length_le).mpr h2⟩
  rw [hg]
  unfold emAll
  simp only [List.map_cons, List.headD_cons, List.tail_cons, tx_len]
  by_cases h0 : w.length = 0
  · rw [if_pos h0]
    have : w = [] := List.length_eq_zero_iff.mp h0
    subst this
    have h1 := emEnd_tx (t := t) (V := [] :: V) (s := 0) (by simp)
    simp only [List.map_cons] at h1
    rw [show (0 : Int) = ((0 : Nat) : Int) from rfl, h1, endE_cons hV (Nat.zero_le _)]
    simp only [List.length_nil, Nat.add_zero, List.nil_prefix, true_and]
    constructor
    · rintro ⟨k, _, _, _, h2⟩
      exact ⟨h2.1, h2.2.1, midE_anti (Nat.zero_le _) h2.2.2⟩
    · intro h; exact ⟨0, Nat.le_refl _, Nat.zero_le _, at_nil, h⟩
  · rw [if_neg h0, starts_tx]
    by_cases h1 : w <+: t
    · rw [decide_eq_true h1]
      simp only [if_true]
      rw [emEnd_tx hV]
      exact ⟨fun h => ⟨h1, h⟩, fun h => h.2⟩
    · rw [decide_eq_false h1]
      simp only [Bool.false_eq_true, if_false, false_iff]
      exact fun h => h1 h.1

theorem gm_plain : ∀ {ps : Pat} {t : List Nat}, none ∉ ps → (gm ps t ↔ flat ps = t)
  | [], t, _ => by simp [gm, flat_nil, eq_comm]
  | some c :: ps, t, h => by
    rw [flat_cons]
    simp only [gm, unit, List.cons_append, List.nil_append]
    have ih := fun u => gm_plain (ps := ps) (t := u) (by simpa using h)
    constructor
    · rintro ⟨u, rfl, hu⟩; rw [(ih u).mp hu]
    · rintro rfl; exact ⟨flat ps, rfl, (ih _).mpr rfl⟩
  | none :: ps, t, h => by simp at h

/-- what _ellipsis_match says -/
theorem emB_gm {ps : Pat} {t : List Nat} (hs : SOk ps) : emB (tx (flat ps)) (tx t) = true ↔ gm ps t := by
  unfold emB
  by_cases hd : none ∈ ps
  · have ho : (Builtin.Str.occurrences (tx (flat ps)) dots 0 (tx (flat ps)).length 1).isEmpty = false := by
      cases h : (Builtin.Str.occurrences (tx (flat ps)) dots 0 (tx (flat ps)).length 1).isEmpty
      · rfl
      · exact absurd hd ((occ_none_iff hs).mp h)
    rw [ho]
    simp only [Bool.false_eq_true, if_false]
    rw [split_segs hs hd, gm_gmS]
    have h2 := segs_two hd
    cases h : segs ps with
    | nil => rw [h] at h2; simp at h2
    | cons w V =>
      cases V with
      | nil => rw [h] at h2; simp at h2
      | cons a l => exact emAll_tx (by simp)
  · rw [(occ_none_iff hs).mpr hd]
    simp only [if_true]
    rw [gm_plain hd]
    show (tx (flat ps) == tx t) = true ↔ _
    rw [beq_iff_eq, tx_inj]
end Mine
end
section
open PySem
namespace Mine

/-! the order of the heap's entries -/
structure Key where
  s : Int
  t : List Nat
  i : Int
  j : Int
def keyE : PyData → Key
  | .tuple [.int s, .str t, .int i, .int j] => ⟨s, t.cps.toList, i, j⟩
  | .tuple [.int s, .str t] => ⟨s, t.cps.toList, 0, 0⟩
  | _ => ⟨0, [], 0, 0⟩
def kle (a b : Key) : Prop := a.s < b.s ∨ (a.s = b.s ∧ (a.t < b.t ∨ (a.t = b.t ∧ (a.i < b.i ∨ (a.i = b.i ∧ a.j ≤ b.j)))))
def klt (a b : Key) : Prop := a.s < b.s ∨ (a.s = b.s ∧ (a.t < b.t ∨ (a.t = b.t ∧ (a.i < b.i ∨ (a.i = b.i ∧ a.j < b.j)))))
def kltB (a b : Key) : Bool := decide (a.s < b.s ∨ (a.s = b.s ∧ (a.t < b.t ∨ (a.t = b.t ∧ (a.i < b.i ∨ (a.i = b.i ∧ a.j < b.j))))))
theorem kltB_iff {a b : Key} : kltB a b = true ↔ klt a b := decide_eq_true_iff
def ltE (x y : PyData) : Bool := kltB (keyE x) (keyE y)

theorem lt_tri (a b : List Nat) : a < b ∨ a = b ∨ b < a := by
  by_cases h1 : a < b
  · exact .inl h1
  · by_cases h2 : b < a
    · exact .inr (.inr h2)
    · exact .inr (.inl (List.le_antisymm (List.not_lt.mp h2) (List.not_lt.mp h1)))
theorem not_klt {a b : Key} : ¬ klt b a ↔ kle a b := by
  unfold klt kle
  rcases lt_tri a.t b.t with h | h | h
  · have h1 : ¬ b.t < a.t := List.lt_asymm h
    have h2 : b.t ≠ a.t := fun e => by rw [e] at h; exact List.lt_irrefl _ h
    have h3 : a.t ≠ b.t := fun e => h2 e.symm
    simp only [h, h1, h2, h3, false_and, or_false, or_true, and_false, true_or, and_true]
    omega
  · rw [h]
    have h2 := List.lt_irrefl b.t
    simp only [h2, false_or, true_and]
    omega
  · have h1 : ¬ a.t < b.t := List.lt_asymm h
    have h2 : a.t ≠ b.t := fun e => by rw [e] at h; exact List.lt_irrefl _ h
    have h3 : b.t ≠ a.t := fun e => h2 e.symm
    simp only [h, h1, h2, h3, false_and, or_false, or_true, and_false, true_or, false_or, and_true]
    omega
theorem kle_trans {a b c : Key} (h1 : kle a b) (h2 : kle b c) : kle a c := by
  unfold kle at *
  rcases h1 with h1 | ⟨e1, h1⟩
  · rcases h2 with h2 | ⟨e2, h2⟩
    · exact .inl (by omega)
    · exact .inl (by omega)
  · rcases h2 with h2 | ⟨e2, h2⟩
    · exact .inl (by omega)
    · refine .inr ⟨by omega, ?_⟩
      rcases h1 with h1 | ⟨f1, h1⟩
      · rcases h2 with h2 | ⟨f2, h2⟩
        · exact .inl (List.lt_trans h1 h2)
        · exact .inl (f2 ▸ h1)
      · rcases h2 with h2 | ⟨f2, h2⟩
        · exact .inl (f1 ▸ h2)
        · exact .inr ⟨f1.trans f2, by omega⟩
theorem klt_kle {a b : Key} (h : klt a b) : kle a b := by
  unfold klt at h; unfold kle
  rcases h with h | ⟨e, h | ⟨f, h | ⟨g, h⟩⟩⟩
  · exact .inl h
  · exact .inr ⟨e, .inl h⟩
  · exact .inr ⟨e, .inr ⟨f, .inl h⟩⟩
  · exact .inr ⟨e, .inr ⟨f, .inr ⟨g, by omega⟩⟩⟩

theorem ltE_false {x y : PyData} : ltE y x = false ↔ kle (keyE x) (keyE y) := by
  unfold ltE
  rw [← not_klt, ← kltB_iff, Bool.not_eq_true]
theorem ltE_true {x y : PyData} : ltE x y = true ↔ klt (keyE x) (keyE y) := by
  unfold ltE; exact kltB_iff
theorem linE : Lin ltE where
  asymm := fun x y h => ltE_false.mpr (klt_kle (ltE_true.mp h))
  trans := fun x y z h1 h2 => ltE_false.mpr (kle_trans (ltE_false.mp h1) (ltE_false.mp h2))

def E4 (x : PyData) : Prop := ∃ s t i j, x = .tuple [.int s, .str t, .int i, .int j]
def E2 (x : PyData) : Prop := ∃ s t, x = .tuple [.int s, .str t]

theorem str_ne {a b : Str} (h : a ≠ b) : a.cps.toList ≠ b.cps.toList := fun e => h (by
  cases a; cases b; simp only [Str.mk.injEq]; exact Array.toList_inj.mp e)

theorem lexI {a b : Int} {xs ys : List PyData} {P : Prop} [Decidable P] (h : tupLt xs ys = some (decide P)) : tupLt (.int a :: xs) (.int b :: ys) = some (decide (a < b ∨ (a = b ∧ P))) := by
  show (match (some (if a = b then none else some (decide (a < b))) : Option (Option Bool)) with
    | some (some b) => some b
    | some none => tupLt xs ys
    | none => none) = _
  by_cases e : a = b
  · rw [if_pos e]; exact h.trans (congrArg some (decide_eq_decide.mpr ⟨fun p => .inr ⟨e, p⟩, fun p => p.elim (fun l => absurd (e ▸ l) (Int.lt_irrefl b)) (·.2)⟩))
  · rw [if_neg e]; exact congrArg some (decide_eq_decide.mpr ⟨.inl, fun p => p.elim id fun p => absurd p.1 e⟩)
theorem lexS {a b : Str} {xs ys : List PyData} {P : Prop} [Decidable P] (h : tupLt xs ys = some (decide P)) : tupLt (.str a :: xs) (.str b :: ys) = some (decide (a.cps.toList < b.cps.toList ∨ (a.cps.toList = b.cps.toList ∧ P))) := by
  show (match (some (if a = b then none else some (ltStr a b)) : Option (Option Bool)) with
    | some (some b) => some b
    | some none => tupLt xs ys
    | none => none) = _
  by_cases e : a = b
  · rw [if_pos e]; exact h.trans (congrArg some (decide_eq_decide.mpr ⟨fun p => .inr ⟨e ▸ rfl, p⟩, fun p => p.elim (fun l => absurd (e ▸ l) (List.lt_irrefl b.cps.toList)) (·.2)⟩))
  · rw [if_neg e]; exact congrArg some (decide_eq_decide.mpr ⟨.inl, fun p => p.elim id fun p => absurd p.1 (str_ne e)⟩)
theorem lex0 : tupLt [] [] = some (decide False) := rfl
theorem drop_false {a : Prop} {p : Prop} : (p ∨ (a ∧ False)) ↔ p := ⟨fun h => h.elim id fun h => h.2.elim, .inl⟩

theorem ordE4 : Ordy ltE E4 := by
  refine ⟨?_⟩
  rintro _ _ ⟨s, t, i, j, rfl⟩ ⟨s', t', i', j', rfl⟩
  exact ⟨_, _, rfl, rfl, (lexI (lexS (lexI (lexI lex0)))).trans (congrArg some (decide_eq_decide.mpr (or_congr Iff.rfl (and_congr Iff.rfl (or_congr Iff.rfl (and_congr Iff.rfl (or_congr Iff.rfl (and_congr Iff.rfl drop_false))))))))⟩
theorem ordE2 : Ordy ltE E2 := by
  refine ⟨?_⟩
  rintro _ _ ⟨s, t, rfl⟩ ⟨s', t', rfl⟩
  exact ⟨_, _, rfl, rfl, (lexI (lexS lex0)).trans (congrArg some (decide_eq_decide.mpr (or_congr Iff.rfl (and_congr Iff.rfl (or_congr Iff.rfl (and_congr Iff.rfl ⟨False.elim, fun h => h.elim (Int.lt_irrefl 0) fun h => Int.lt_irrefl 0 h.2⟩))))))⟩
end Mine
end
section
namespace Mine
def enc : Option Nat → PyData
  | some c => .str (tx [c])
  | none => .str dots
def encP (ps : Pat) : PyData := .list (ps.map enc)

theorem a_tx : Str.ofString "a" = tx [97] := by decide
theorem n_tx : Str.ofString "\n" = tx [10] := by decide
theorem e_tx : Str.ofString "" = tx [] := by decide

def encL : Option Nat → List Nat := unit
theorem enc_unit (u : Option Nat) : enc u = .str (tx (unit u)) := by
  cases u with
  | none => simp [enc, unit, dots_tx]
  | some c => rfl
theorem enc_map (ps : Pat) : ps.map enc = (ps.map unit).map fun l => .str (tx l) := by
  rw [List.map_map]; exact List.map_congr_left fun u _ => enc_unit u

theorem tx_append {a b : List Nat} : tx a ++ tx b = tx (a ++ b) := by
  show Str.append _ _ = _
  unfold Str.append tx; simp

theorem glue_fold : ∀ (ls : List (List Nat)) (acc : List Nat), (ls.map tx).foldl (fun acc p => acc ++ (tx []).cps ++ p.cps) acc.toArray = (acc ++ ls.flatten).toArray
  | [], acc => by simp
  | l :: ls, acc => by
    simp only [List.map_cons, List.foldl_cons]
    have : acc.toArray ++ (tx []).cps ++ (tx l).cps = (acc ++ l).toArray := by simp [tx]
    rw [this, glue_fold ls (acc ++ l)]
    simp
theorem join_tx (ls : List (List Nat)) : Txt.join (tx []) (ls.map tx) = tx ls.flatten := by
  unfold Txt.join Builtin.Str.glued
  cases ls with
  | nil => rfl
  | cons l ls =>
    simp only [List.map_cons, List.drop_succ_cons, List.drop_zero, List.headD_cons]
    have := glue_fold ls l
    rw [show (tx l).cps = l.toArray from rfl, this]; rfl
theorem joinOk_tx (ls : List (List Nat)) (h : ls.flatten.length ≤ 2 ^ 20) : JoinOk (tx []) (ls.map tx) = true := by
  unfold JoinOk
  have key : ∀ (ls : List (List Nat)) (n : Nat), (ls.map tx).foldl (fun acc p => acc + p.length + (tx []).length) n = n + ls.flatten.length := by
    intro ls
    induction ls with
    | nil => intro n; simp
    | cons l ls ih => intro n; simp only [List.map_cons, List.foldl_cons, List.flatten_cons, List.length_append]; rw [ih]; simp [tx_len]; omega
  have e : (ls.map tx).toArray.foldl (fun acc p => acc + p.length + (tx []).length) 0 = ls.flatten.length := by
    rw [List.foldl_toArray]; have := key ls 0; simpa using this
  rw [e]
  have hs : ls.flatten.length ≤ sizeLine := Nat.le_trans h (by decide)
  unfold Builtin.Str.tooLong
  rw [decide_eq_false (Nat.not_lt.mpr hs)]; rfl
theorem flat_flatten (ps : Pat) : (ps.map unit).flatten = flat ps := by rw [flat, List.flatMap_def]
theorem flat_len (ps : Pat) : (flat ps).length ≤ 3 * ps.length := by
  induction ps with
  | nil => simp [flat]
  | cons u ps ih => rw [flat_cons]; cases u <;> simp [unit] <;> omega

/-- with a run in the place of the dots -/
theorem strOk_tx {l : List Nat} (h : ∀ c ∈ l, c < 0x110000) : PyData.strOk (tx l) = true := by
  unfold PyData.strOk tx
  simpa using h
theorem okEq_str {a b : Str} (ha : PyData.strOk a = true) (hb : PyData.strOk b = true) : okEq (.str a) (.str b) = true := by
  simp [okEq, PyData.canLay0, ha, hb, PyData.depth]
theorem strOk_dots : PyData.strOk dots = true := by decide +kernel


theorem line20 {n : Nat} (h : n ≤ 2 ^ 20) : n ≤ sizeLine := Nat.le_trans h (by decide)
theorem three_tx : Str.ofString "..." = dots := rfl
theorem str_map {α : Type} (l : List α) (f : α → List Nat) : (l.map fun a => PyData.str (tx (f a))) = ((l.map f).map tx).map .str := by
  rw [List.map_map, List.map_map]; rfl
theorem enc_strs (ps : Pat) : ps.map enc = ((ps.map unit).map tx).map .str := by rw [enc_map, List.map_map, List.map_map, List.map_map]; rfl
theorem joinOk_pat {ps : Pat} (h : ps.length ≤ 1000) : JoinOk (Str.ofString "") ((ps.map unit).map tx) = true := by
  rw [e_tx]; exact joinOk_tx _ (by rw [flat_flatten]; have := flat_len ps; omega)
theorem join_pat (ps : Pat) : Txt.join (Str.ofString "") ((ps.map unit).map tx) = tx (flat ps) := by rw [e_tx, join_tx, flat_flatten]

theorem enc_ok {u : Option Nat} (h : ∀ d, u = some d → d ≠ 46 ∧ d < 0x110000) : okEq (enc u) (.str (Str.ofString "...")) = true := by
  cases u with
  | none => exact okEq_str strOk_dots strOk_dots
  | some d => exact okEq_str (strOk_tx (fun c hc => by rw [List.mem_singleton.mp hc]; exact (h d rfl).2)) strOk_dots
theorem enc_eqv {u : Option Nat} : PyData.eqv (enc u) (.str (Str.ofString "...")) = decide (u = none) := by
  cases u with
  | none => decide +kernel
  | some d =>
    show (tx [d] == dots) = _
    rw [dots_tx, beq_eq_false_iff_ne.mpr (fun e => by have := tx_inj.mp e; simp at this)]; rfl

end Mine
end
section
namespace Mine

/-! heap calls as the laws use them -/
def PopOk (E : PyData → Prop) (F : List AV → Mem → KE → Prop) : Prop :=
  ∀ (H : List PyData) (k : Nat) (m : Mem), m[k]? = some (.lst H) → IsHeap ltE H → (∀ y ∈ H, E y) → H ≠ [] → H.length < 2990 → ∃ x H', IsHeap ltE H' ∧ (x :: H').Perm H ∧ (∀ y ∈ H, ltE y x = false) ∧ Says F [.h k] m (.d x) (m.set k (.lst H'))
def PushOk (E : PyData → Prop) (F : List AV → Mem → KE → Prop) : Prop :=
  ∀ (H : List PyData) (k : Nat) (m : Mem) (x : PyData), m[k]? = some (.lst H) → IsHeap ltE H → (∀ y ∈ H, E y) → E x → H.length < 2990 → ∃ H', IsHeap ltE H' ∧ H'.Perm (x :: H) ∧ Says F [.h k, .d x] m (.d .none) (m.set k (.lst H'))

theorem lay_perm {xs ys : List PyData} (p : xs.Perm ys) : PyData.canLayAll0 xs = PyData.canLayAll0 ys ∧ PyData.depthAll xs = PyData.depthAll ys := by
  induction p with
  | nil => exact ⟨rfl, rfl⟩
  | cons x _ ih => simp only [PyData.canLayAll0, PyData.depthAll, ih.1, ih.2, and_self]
  | swap x y l =>
    simp only [PyData.canLayAll0, PyData.depthAll]
    exact ⟨Bool.and_left_comm .., Nat.max_left_comm ..⟩
  | trans _ _ i1 i2 => exact ⟨i1.1.trans i2.1, i1.2.trans i2.2⟩
theorem heap_ok {H : List PyData} (h1 : PyData.canLayAll0 H = true) (h2 : PyData.depthAll H ≤ 1) : okEq (.list H) (.list []) = true := by
  unfold okEq
  rw [show (PyData.list H).canLay0 = true from h1]
  exact decide_eq_true (Nat.le_trans (Nat.succ_le_succ h2) (by decide))
theorem heap_eqv {H : List PyData} : PyData.eqv (.list H) (.list []) = H.isEmpty := by cases H <;> rfl

/-! the heap calls -/
section
variable {c c1 c0 : Cx} {E : PyData → Prop}
theorem down_ok (O : Ordy ltE E) : DownOk ltE E (f_siftdown c) := fun hE hp hz hμ => sem_siftdown O hE hp hz hμ
theorem up_ok (O : Ordy ltE E) (hF : c.fns "_siftdown" = some (f_siftdown c0)) : UpOkF ltE E (f_siftup c) := fun hE hp hz hμ => sem_siftup O hE hp hz hμ hF (down_ok O)

theorem pop_ok (O : Ordy ltE E) (hF : c.fns "_siftup" = some (f_siftup c1)) (hF1 : c1.fns "_siftdown" = some (f_siftdown c0)) : PopOk E (f_heappop c) := by
  intro H k m hm hH hE hne hz
  rcases List.eq_nil_or_concat H with rfl | ⟨ys, z, rfl⟩
  · exact absurd rfl hne
  rw [List.concat_eq_append] at *
  cases ys with
  | nil =>
    refine ⟨z, [], fun i _ hi => (by cases hi), List.Perm.refl _, fun y hy => ?_, sem_heappop1 hm⟩
    rw [List.mem_singleton.mp hy]
    rcases h : ltE z z with _ | _
    · rfl
    · have := linE.asymm _ _ h; rw [h] at this; exact this
  | cons y0 ys =>
    have h0 : 0 < (y0 :: ys).length := Nat.succ_pos _
    obtain ⟨q1, q2, q3⟩ := pop_heap linE h0 hH
    rw [List.length_append] at hz
    refine ⟨y0, _, q1, List.perm_append_comm (l₁ := [y0]) |>.trans q2, q3, ?_⟩
    exact sem_heappop2 (c := c) (lt := ltE) (μ := m) (k := k) (ys := y0 :: ys) (z := z) (fun y hy => hE y (List.mem_append_left _ hy)) (hE z (List.mem_append_right _ (List.mem_singleton_self z))) h0 (by omega) hm hF (up_ok O hF1)
theorem push_ok (O : Ordy ltE E) (hF : c.fns "_siftdown" = some (f_siftdown c1)) : PushOk E (f_heappush c) := by
  intro H k m x hm hH hE hx hz
  obtain ⟨q1, q2⟩ := hpush_heap linE (x := x) hH
  exact ⟨_, q1, q2, sem_heappush hE hx (by omega) hm hF (down_ok O)⟩
end
end Mine
end
section
namespace Mine
theorem flat_sg {ps : Pat} (h : SOk ps) : ∀ c ∈ flat ps, c < 0x110000 := by
  intro c hc
  obtain ⟨u, hu, hcu⟩ := List.mem_flatMap.mp hc
  cases u with
  | none => simp [unit] at hcu; omega
  | some d => rw [unit, List.mem_singleton] at hcu; subst hcu; exact (h _ hu).2

/-- _ellipsis_match on a pattern and a text -/
theorem ell_ok {c : Cx} {μ : Mem} {ps : Pat} {t : List Nat} (hc : c.cst "ELLIPSIS_MARKER" = some (.str dots)) (hs : SOk ps) (hp : ps.length ≤ 1000) (ht : t.length ≤ 100000) (hsg : ∀ c ∈ t, c < 0x110000) :
    Says (f_ellipsis_match c) [.d (.str (tx (flat ps))), .d (.str (tx t))] μ (.d (.bool (emB (tx (flat ps)) (tx t)))) μ := by
  have hfl := flat_len ps
  by_cases hd : none ∈ ps
  · have h2 := segs_two hd
    have h3 := segs_count ps
    have h4 := segs_len ps
    have hsp := split_segs hs hd
    generalize segs ps = V at *
    rcases V with _ | ⟨w, _ | ⟨a, l⟩⟩
    · exact absurd h2 (Nat.not_succ_le_zero 1)
    · exact absurd h2 (Nat.not_succ_le_self 1)
    refine sem_ellipsis (w0 := tx w) (w1 := tx a) (ws := l.map tx) hc (by rw [tx_len]; omega) (by rw [tx_len]; omega) (strOk_tx (flat_sg hs)) (strOk_tx hsg) (fun _ => hsp) (fun s hm => ?_) ?_
    · rw [← List.map_cons, ← List.map_cons] at hm
      obtain ⟨s', hs', rfl⟩ := List.mem_map.mp hm
      have := h4 s' hs'
      rw [tx_len]; omega
    · rw [List.length_cons, List.length_cons] at h3
      rw [List.length_map]; omega
  · refine sem_ellipsis (w0 := tx []) (w1 := tx []) (ws := []) hc (by rw [tx_len]; omega) (by rw [tx_len]; omega) (strOk_tx (flat_sg hs)) (strOk_tx hsg) (fun e => ?_) (fun s hm => ?_) (by decide)
    · rw [(occ_none_iff hs).mpr hd] at e; cases e
    · have : s = tx [] := by
        rcases List.mem_cons.mp hm with h | h
        · exact h
        · exact List.mem_singleton.mp h
      rw [this]; decide

end Mine
end
section
open PySem
namespace Mine
/-- shorter first, like ones by their signs -/
def sle (a b : List Nat) : Prop := a.length < b.length ∨ (a.length = b.length ∧ ¬ b < a)
theorem sle_refl (a : List Nat) : sle a a := .inr ⟨rfl, List.lt_irrefl _⟩
theorem sle_trans {a b c : List Nat} (h1 : sle a b) (h2 : sle b c) : sle a c := by
  unfold sle at *
  rcases h1 with h1 | ⟨e1, h1⟩
  · rcases h2 with h2 | ⟨e2, h2⟩ <;> exact .inl (by omega)
  · rcases h2 with h2 | ⟨e2, h2⟩
    · exact .inl (by omega)
    · refine .inr ⟨by omega, fun h => ?_⟩
      rcases lt_tri a b with h3 | h3 | h3
      · rcases lt_tri b c with h4 | h4 | h4
        · exact List.lt_irrefl _ (List.lt_trans (List.lt_trans h h3) h4)
        · subst h4; exact List.lt_irrefl _ (List.lt_trans h h3)
        · exact h2 h4
      · subst h3; exact h2 h
      · exact h1 h3
theorem sle_antisymm {a b : List Nat} (h1 : sle a b) (h2 : sle b a) : a = b := by
  unfold sle at *
  rcases h1 with h1 | ⟨e1, h1⟩
  · rcases h2 with h2 | ⟨e2, h2⟩ <;> omega
  · rcases h2 with h2 | ⟨e2, h2⟩
    · omega
    · rcases lt_tri a b with h3 | h3 | h3
      · exact absurd h3 h2
      · exact h3
      · exact absurd h3 h1
end Mine
end
section
open PySem
namespace Mine

theorem gm_dots {ps : Pat} {t : List Nat} : gm (none :: ps) t ↔ gm ps t ∨ ∃ c t', t = c :: t' ∧ gm (none :: ps) t' := by
  constructor
  · rintro ⟨k, hk, h⟩
    cases k with
    | zero => exact .inl (by simpa using h)
    | succ k => cases t with
      | nil => simp at hk
      | cons c t' => exact .inr ⟨c, t', rfl, k, by simpa using hk, by simpa using h⟩
  · rintro (h | ⟨c, t', rfl, k, hk, h⟩)
    · exact ⟨0, Nat.zero_le _, by simpa using h⟩
    · exact ⟨k + 1, by simpa using hk, by simpa using h⟩

/-- the signs of a pattern -/
def bare : Pat → List Nat
  | [] => []
  | some c :: ps => c :: bare ps
  | none :: ps => bare ps
def dotN : Pat → Nat
  | [] => 0
  | some _ :: ps => dotN ps
  | none :: ps => dotN ps + 1
theorem bare_app : ∀ {ps qs : Pat}, bare (ps ++ qs) = bare ps ++ bare qs
  | [], _ => rfl
  | some c :: ps, _ => congrArg (c :: ·) bare_app
  | none :: ps, _ => bare_app (ps := ps)
theorem dotN_app : ∀ {ps qs : Pat}, dotN (ps ++ qs) = dotN ps + dotN qs
  | [], _ => (Nat.zero_add _).symm
  | some c :: ps, _ => dotN_app (ps := ps)
  | none :: ps, qs => by
    show dotN (ps ++ qs) + 1 = dotN ps + 1 + dotN qs
    rw [dotN_app]; omega

theorem gm_app : ∀ {ps qs : Pat} {t : List Nat}, gm (ps ++ qs) t ↔ ∃ u v, t = u ++ v ∧ gm ps u ∧ gm qs v
  | [], qs, t => ⟨fun h => ⟨[], t, rfl, rfl, h⟩, fun ⟨u, v, e, h1, h2⟩ => by cases h1; exact e ▸ h2⟩
  | some c :: ps, qs, t => by
    constructor
    · rintro ⟨w, rfl, h⟩
      obtain ⟨u, v, rfl, h1, h2⟩ := gm_app.mp h
      exact ⟨c :: u, v, rfl, ⟨u, rfl, h1⟩, h2⟩
    · rintro ⟨_, v, rfl, ⟨u, rfl, h1⟩, h2⟩
      exact ⟨u ++ v, rfl, gm_app.mpr ⟨u, v, rfl, h1, h2⟩⟩
  | none :: ps, qs, t => by
    constructor
    · rintro ⟨k, hk, h⟩
      obtain ⟨u, v, e, h1, h2⟩ := gm_app.mp h
      refine ⟨t.take k ++ u, v, ?_, ⟨k, ?_, ?_⟩, h2⟩
      · rw [List.append_assoc, ← e, List.take_append_drop]
      · simp; omega
      · have : (t.take k).length = k := by simp; omega
        rw [List.drop_append_of_le_length (by omega), List.drop_of_length_le (by omega)]; exact h1
    · rintro ⟨u, v, rfl, ⟨k, hk, h1⟩, h2⟩
      refine ⟨k, by simp; omega, ?_⟩
      show gm (ps ++ qs) _
      rw [List.drop_append_of_le_length hk]
      exact gm_app.mpr ⟨_, v, rfl, h1, h2⟩
theorem gm_sign {ps : Pat} {c : Nat} {t : List Nat} : gm (ps ++ [some c]) t ↔ ∃ u, t = u ++ [c] ∧ gm ps u := by
  rw [gm_app]
  constructor
  · rintro ⟨u, v, rfl, h1, w, rfl, h2⟩
    cases h2; exact ⟨u, rfl, h1⟩
  · rintro ⟨u, rfl, h1⟩; exact ⟨u, [c], rfl, h1, [], rfl, rfl⟩
theorem gm_dot {ps : Pat} {t : List Nat} : gm (ps ++ [none]) t ↔ ∃ u v, t = u ++ v ∧ gm ps u := by
  rw [gm_app]
  constructor
  · rintro ⟨u, v, rfl, h1, _⟩; exact ⟨u, v, rfl, h1⟩
  · rintro ⟨u, v, rfl, h1⟩; exact ⟨u, v, rfl, h1, v.length, Nat.le_refl _, List.drop_length⟩
theorem gm_bare : ∀ {ps : Pat}, gm ps (bare ps)
  | [] => rfl
  | some _ :: _ => ⟨_, rfl, gm_bare⟩
  | none :: _ => gm_dots.mpr (.inl gm_bare)
theorem gm_sub : ∀ {ps : Pat} {t : List Nat}, gm ps t → (bare ps).Sublist t
  | [], _, _ => List.nil_sublist _
  | some c :: ps, _, ⟨u, e, h⟩ => e ▸ (gm_sub h).cons_cons c
  | none :: ps, t, ⟨k, _, h⟩ => (gm_sub h).trans (List.drop_sublist k t)
theorem gm_len {ps : Pat} {t : List Nat} (h : gm ps t) : (bare ps).length ≤ t.length := (gm_sub h).length_le

/-- a text that is longer than the signs can lose one -/
theorem gm_lose : ∀ {ps : Pat} {t : List Nat}, gm ps t → (bare ps).length < t.length → ∃ (i : Nat) (c : Nat) (u : List Nat), i ≤ u.length ∧ t = u.take i ++ [c] ++ u.drop i ∧ gm ps u
  | [], _, h, hl => by cases h; exact absurd hl (Nat.lt_irrefl _)
  | some c :: ps, _, ⟨w, e, h⟩, hl => by
    subst e
    obtain ⟨i, d, u, hi, rfl, hu⟩ := gm_lose h (Nat.lt_of_succ_lt_succ hl)
    exact ⟨i + 1, d, c :: u, Nat.succ_le_succ hi, rfl, u, rfl, hu⟩
  | none :: ps, t, ⟨k, hk, h⟩, hl => by
    cases k with
    | zero =>
      obtain ⟨i, d, u, hi, e, hu⟩ := gm_lose h hl
      exact ⟨i, d, u, hi, e, gm_dots.mpr (.inl hu)⟩
    | succ k => cases t with
      | nil => exact absurd hk (Nat.not_succ_le_zero _)
      | cons d u => exact ⟨0, d, u, Nat.zero_le _, rfl, k, Nat.le_of_succ_le_succ hk, h⟩

/-- the two signs -/
def bin (t : List Nat) : Prop := ∀ c ∈ t, c = 97 ∨ c = 10
def InRow (ps : Pat) (k : Nat) (t : List Nat) : Prop := bin t ∧ gm ps t ∧ t.length = (bare ps).length + k
theorem bin_app {a b : List Nat} : bin (a ++ b) ↔ bin a ∧ bin b := List.forall_mem_append
theorem bin_nil : bin [] := fun _ h => by cases h

/-- shorter first, then by signs: strictly -/
def slt (a b : List Nat) : Prop := a.length < b.length ∨ (a.length = b.length ∧ a < b)
theorem slt_irrefl (a : List Nat) : ¬ slt a a := fun h => h.elim (Nat.lt_irrefl _) fun h => List.lt_irrefl _ h.2
theorem slt_trans {a b c : List Nat} (h1 : slt a b) (h2 : slt b c) : slt a c := by
  unfold slt at *
  rcases h1 with h1 | ⟨e1, h1⟩
  · rcases h2 with h2 | ⟨e2, h2⟩ <;> exact .inl (by omega)
  · rcases h2 with h2 | ⟨e2, h2⟩
    · exact .inl (by omega)
    · exact .inr ⟨by omega, List.lt_trans h1 h2⟩
theorem slt_of_sle {a b : List Nat} (h : sle a b) (hn : a ≠ b) : slt a b := by
  rcases h with h | ⟨e, h⟩
  · exact .inl h
  · rcases lt_tri a b with h3 | h3 | h3
    · exact .inr ⟨e, h3⟩
    · exact absurd h3 hn
    · exact absurd h3 h
theorem sle_of_slt {a b : List Nat} (h : slt a b) : sle a b := h.elim .inl fun h => .inr ⟨h.1, List.lt_asymm h.2⟩

/-- two strictly rising lists with the same items are alike -/
theorem rise_ext {α : Type} {lt : α → α → Prop} (hi : ∀ a, ¬ lt a a) (ht : ∀ {a b c}, lt a b → lt b c → lt a c) : ∀ {l l' : List α}, l.Pairwise lt → l'.Pairwise lt → (∀ x, x ∈ l ↔ x ∈ l') → l = l'
  | [], [], _, _, _ => rfl
  | [], b :: l', _, _, h => absurd ((h b).mpr List.mem_cons_self) List.not_mem_nil
  | a :: l, [], _, _, h => absurd ((h a).mp List.mem_cons_self) List.not_mem_nil
  | a :: l, b :: l', h1, h2, h => by
    obtain ⟨p1, p2⟩ := List.pairwise_cons.mp h1
    obtain ⟨q1, q2⟩ := List.pairwise_cons.mp h2
    have e : a = b := by
      rcases List.mem_cons.mp ((h a).mp List.mem_cons_self) with e | m
      · exact e
      · rcases List.mem_cons.mp ((h b).mpr List.mem_cons_self) with e | m'
        · exact e.symm
        · exact absurd (ht (q1 a m) (p1 b m')) (hi b)
    subst e
    refine congrArg (a :: ·) (rise_ext hi ht p2 q2 fun x => ?_)
    constructor
    · intro m
      rcases List.mem_cons.mp ((h x).mp (List.mem_cons_of_mem _ m)) with e | m'
      · subst e; exact absurd (p1 x m) (hi x)
      · exact m'
    · intro m
      rcases List.mem_cons.mp ((h x).mpr (List.mem_cons_of_mem _ m)) with e | m'
      · subst e; exact absurd (q1 x m) (hi x)
      · exact m'

theorem nodup_le {α : Type} [DecidableEq α] : ∀ {l l' : List α}, l.Nodup → (∀ x ∈ l, x ∈ l') → l.length ≤ l'.length
  | [], _, _, _ => Nat.zero_le _
  | a :: t, l', h, hs => by
    have h1 := List.nodup_cons.mp h
    have ha := hs a List.mem_cons_self
    have := nodup_le (l := t) (l' := l'.erase a) h1.2 fun x hx => by
      refine (List.mem_erase_of_ne (fun e => ?_)).mpr (hs x (List.mem_cons_of_mem _ hx))
      subst e; exact h1.1 hx
    rw [List.length_erase_of_mem ha] at this
    have := List.length_pos_of_mem ha
    rw [List.length_cons]; omega

/-! how many texts hold a text within -/
def allW : Nat → List (List Nat)
  | 0 => [[]]
  | k + 1 => (allW k).map (97 :: ·) ++ (allW k).map (10 :: ·)
def supB (f : Nat → List (List Nat)) (b : Nat) : Nat → List (List Nat)
  | 0 => (f 0).map (b :: ·)
  | k + 1 => (f (k + 1)).map (b :: ·) ++ (supB f b k).map ((107 - b) :: ·)
def supW : List Nat → Nat → List (List Nat)
  | [] => allW
  | b :: bs => supB (supW bs) b
def allN : Nat → Nat
  | 0 => 1
  | k + 1 => allN k + allN k
def supM (f : Nat → Nat) : Nat → Nat
  | 0 => f 0
  | k + 1 => f (k + 1) + supM f k
def supN : Nat → Nat → Nat
  | 0 => allN
  | n + 1 => supM (supN n)
theorem allW_len : ∀ k, (allW k).length = allN k
  | 0 => rfl
  | k + 1 => by
    show ((allW k).map _ ++ (allW k).map _).length = allN k + allN k
    rw [List.length_append, List.length_map, List.length_map, allW_len k]
theorem supB_len {f : Nat → List (List Nat)} {g : Nat → Nat} {b : Nat} (h : ∀ k, (f k).length = g k) : ∀ k, (supB f b k).length = supM g k
  | 0 => (List.length_map ..).trans (h 0)
  | k + 1 => by
    show ((f (k + 1)).map _ ++ (supB f b k).map _).length = g (k + 1) + supM g k
    rw [List.length_append, List.length_map, List.length_map, supB_len h k, h]
theorem supW_len : ∀ (b : List Nat) (k : Nat), (supW b k).length = supN b.length k
  | [] => allW_len
  | _ :: bs => supB_len (supW_len bs)
theorem other_sign {b c : Nat} (hb : b = 97 ∨ b = 10) (hc : c = 97 ∨ c = 10) (h : c ≠ b) : 107 - b = c := by omega
theorem supW_full : ∀ (b : List Nat) (k : Nat) (t : List Nat), bin b → bin t → b.Sublist t → t.length = b.length + k → t ∈ supW b k
  | [], 0, t, _, _, _, hl => by
    cases List.eq_nil_of_length_eq_zero hl; exact List.mem_singleton_self ([] : List Nat)
  | [], k + 1, [], _, _, _, hl => by cases hl
  | [], k + 1, c :: t, hb, ht, _, hl => by
    have ih := supW_full [] k t hb (fun d hd => ht d (List.mem_cons_of_mem _ hd)) (List.nil_sublist _) (by simp at hl ⊢; omega)
    refine List.mem_append.mpr ?_
    rcases ht c List.mem_cons_self with rfl | rfl
    · exact .inl (List.mem_map_of_mem ih)
    · exact .inr (List.mem_map_of_mem ih)
  | b :: bs, k, [], _, _, hs, _ => by cases hs
  | b :: bs, k, c :: t, hb, ht, hs, hl => by
    have hb' : bin bs := fun d hd => hb d (List.mem_cons_of_mem _ hd)
    have ht' : bin t := fun d hd => ht d (List.mem_cons_of_mem _ hd)
    by_cases e : c = b
    · subst e
      have ih := supW_full bs k t hb' ht' (List.cons_sublist_cons.mp hs) (by simp at hl; omega)
      cases k with
      | zero => exact List.mem_map_of_mem ih
      | succ k => exact List.mem_append_left _ (List.mem_map_of_mem ih)
    · have hs' : (b :: bs).Sublist t := by
        cases hs with
        | cons _ h => exact h
        | cons_cons _ h => exact absurd rfl e
      cases k with
      | zero =>
        have := hs'.length_le
        simp at hl this; omega
      | succ k =>
        have ih := supW_full (b :: bs) k t hb ht' hs' (by simp at hl ⊢; omega)
        refine List.mem_append_right _ (List.mem_map.mpr ⟨t, ih, ?_⟩)
        rw [other_sign (hb b List.mem_cons_self) (ht c List.mem_cons_self) e]
theorem supW_small : ∀ k, k < 3 → ∀ n, n < 8 → supN n k < 64 := by decide
end Mine
end
section
namespace Mine

/-! ### rows of texts -/
structure RowOk (ps : Pat) (k : Nat) (r : List (List Nat)) : Prop where
  up : r.Pairwise (· < ·)
  mem : ∀ t, t ∈ r ↔ InRow ps k t
theorem lt_snoc : ∀ {a b : List Nat} {c : Nat}, a.length = b.length → a < b → a ++ [c] < b ++ [c]
  | [], [], _, _, h => absurd h (List.lt_irrefl _)
  | [], _ :: _, _, e, _ => by cases e
  | _ :: _, [], _, e, _ => by cases e
  | x :: a, y :: b, c, e, h => by
    rcases List.cons_lt_cons_iff.mp h with h' | ⟨e', h'⟩
    · exact List.cons_lt_cons_iff.mpr (.inl h')
    · exact List.cons_lt_cons_iff.mpr (.inr ⟨e', lt_snoc (Nat.succ.inj e) h'⟩)
theorem RowOk.sign {ps : Pat} {k c : Nat} {r : List (List Nat)} (hc : c = 97 ∨ c = 10) (R : RowOk ps k r) : RowOk (ps ++ [some c]) k (r.map (· ++ [c])) := by
  have hb : bare (ps ++ [some c]) = bare ps ++ [c] := bare_app
  refine ⟨List.Pairwise.map _ (fun a b h => h) (R.up.imp_of_mem (S := fun a b => a ++ [c] < b ++ [c]) fun {a b} ha hb h => lt_snoc (by rw [((R.mem a).mp ha).2.2, ((R.mem b).mp hb).2.2]) h), fun t => ?_⟩
  rw [List.mem_map]
  constructor
  · rintro ⟨u, hu, rfl⟩
    obtain ⟨h1, h2, h3⟩ := (R.mem u).mp hu
    refine ⟨bin_app.mpr ⟨h1, fun d hd => by rw [List.mem_singleton.mp hd]; exact hc⟩, gm_sign.mpr ⟨u, rfl, h2⟩, ?_⟩
    rw [hb, List.length_append, List.length_append, h3]
    show _ + k + 1 = _ + 1 + k
    omega
  · rintro ⟨h1, h2, h3⟩
    obtain ⟨u, rfl, hu⟩ := gm_sign.mp h2
    refine ⟨u, (R.mem u).mpr ⟨(bin_app.mp h1).1, hu, ?_⟩, rfl⟩
    rw [hb, List.length_append, List.length_append] at h3
    have : u.length + 1 = (bare ps).length + 1 + k := h3
    omega
/-- the runs of a length -/
def rn : Nat → List (List Nat)
  | 0 => [[]]
  | 1 => [[10], [97]]
  | _ => [[10, 10], [10, 97], [97, 10], [97, 97]]
theorem rn_mem {k : Nat} (hk : k ≤ 2) {v : List Nat} : v ∈ rn k ↔ bin v ∧ v.length = k := by
  have hb : ∀ x, x = 97 ∨ x = 10 ↔ x = 97 ∨ x = 10 := fun _ => Iff.rfl
  match k, hk with
  | 0, _ =>
    constructor
    · intro h; cases List.mem_singleton.mp h; exact ⟨bin_nil, rfl⟩
    · rintro ⟨_, h⟩; cases List.eq_nil_of_length_eq_zero h; exact List.mem_singleton_self ([] : List Nat)
  | 1, _ =>
    constructor
    · intro h
      have h : v = [10] ∨ v = [97] := by simpa [rn] using h
      rcases h with rfl | rfl <;> exact ⟨by simp [bin], rfl⟩
    · rintro ⟨h1, h⟩
      match v, h with
      | [a], _ => rcases h1 a (by simp) with rfl | rfl <;> simp [rn]
  | 2, _ =>
    constructor
    · intro h
      have h : v = [10, 10] ∨ v = [10, 97] ∨ v = [97, 10] ∨ v = [97, 97] := by simpa [rn] using h
      rcases h with rfl | rfl | rfl | rfl <;> exact ⟨by simp [bin], rfl⟩
    · rintro ⟨h1, h⟩
      match v, h with
      | [a, b], _ => rcases h1 a (by simp) with rfl | rfl <;> rcases h1 b (by simp) with rfl | rfl <;> simp [rn]

def wide (rs : Nat → List (List Nat)) (e : Nat) : List (List Nat) := (List.range (e + 1)).flatMap fun k => (rn k).flatMap fun v => (rs (e - k)).map (· ++ v)
theorem wide_mem {ps : Pat} {rs : Nat → List (List Nat)} {e : Nat} (he : e ≤ 2) (R : ∀ k, k ≤ 2 → RowOk ps k (rs k)) (t : List Nat) : t ∈ wide rs e ↔ InRow (ps ++ [none]) e t := by
  have hb : bare (ps ++ [none]) = bare ps := by rw [bare_app]; exact List.append_nil _
  unfold wide
  rw [List.mem_flatMap]
  constructor
  · rintro ⟨k, hk, h⟩
    obtain ⟨v, hv, h⟩ := List.mem_flatMap.mp h
    obtain ⟨u, hu, rfl⟩ := List.mem_map.mp h
    have hk := List.mem_range.mp hk
    obtain ⟨v1, v2⟩ := (rn_mem (by omega)).mp hv
    obtain ⟨u1, u2, u3⟩ := ((R (e - k) (by omega)).mem u).mp hu
    refine ⟨bin_app.mpr ⟨u1, v1⟩, gm_dot.mpr ⟨u, v, rfl, u2⟩, ?_⟩
    rw [hb, List.length_append]; omega
  · rintro ⟨h1, h2, h3⟩
    obtain ⟨u, v, rfl, hu⟩ := gm_dot.mp h2
    have hl := gm_len hu
    rw [hb, List.length_append] at h3
    obtain ⟨b1, b2⟩ := bin_app.mp h1
    refine ⟨v.length, List.mem_range.mpr (by omega), List.mem_flatMap.mpr ⟨v, (rn_mem (by omega)).mpr ⟨b2, rfl⟩, List.mem_map.mpr ⟨u, ((R _ (by omega)).mem u).mpr ⟨b1, hu, by omega⟩, rfl⟩⟩⟩

theorem wide_len {rs : Nat → List (List Nat)} : (wide rs 0).length = (rs 0).length ∧ (wide rs 1).length = (rs 1).length + 2 * (rs 0).length ∧ (wide rs 2).length = (rs 2).length + 2 * (rs 1).length + 4 * (rs 0).length := by
  refine ⟨?_, ?_, ?_⟩
  · simp [wide, rn, List.range, List.range.loop]
  · simp [wide, rn, List.range, List.range.loop]; omega
  · simp [wide, rn, List.range, List.range.loop]; omega

theorem RowOk.nodup {ps : Pat} {k : Nat} {r : List (List Nat)} (R : RowOk ps k r) : r.Nodup := List.Pairwise.imp (S := (· ≠ ·)) (fun {a b} h (e : a = b) => by subst e; exact List.lt_irrefl _ h) R.up
theorem bare_few {ps : Pat} {k : Nat} {r : List (List Nat)} (hn : r.Nodup) (h : ∀ t ∈ r, InRow ps k t) (hb : bin (bare ps)) (hl : (bare ps).length < 8) (hk : k < 3) : r.length < 64 := by
  have := nodup_le (l' := supW (bare ps) k) hn fun t ht => by
    obtain ⟨h1, h2, h3⟩ := h t ht
    exact supW_full _ _ t hb h1 (gm_sub h2) h3
  rw [supW_len] at this
  exact Nat.lt_of_le_of_lt this (supW_small k hk _ hl)

/-! ### sorted(set(texts)) -/
theorem insS_mem {ks : List Str} {x y : Str} : y ∈ insS ks x ↔ y ∈ ks ∨ y = x := by
  unfold insS
  split
  · exact ⟨.inl, fun h => h.elim id fun e => by subst e; assumption⟩
  · rw [List.mem_append, List.mem_singleton]
theorem insS_nodup {ks : List Str} {x : Str} (h : ks.Nodup) : (insS ks x).Nodup := by
  unfold insS
  split
  · exact h
  · next hx => exact List.nodup_append.mpr ⟨h, List.pairwise_singleton _ _, fun a ha b hb e => hx (List.mem_singleton.mp hb ▸ e ▸ ha)⟩
theorem fold_ins : ∀ (l acc : List Str), acc.Nodup → (l.foldl insS acc).Nodup ∧ ∀ y, y ∈ l.foldl insS acc ↔ y ∈ acc ∨ y ∈ l
  | [], acc, h => ⟨h, fun y => by simp⟩
  | x :: l, acc, h => by
    obtain ⟨h1, h2⟩ := fold_ins l (insS acc x) (insS_nodup h)
    refine ⟨h1, fun y => ?_⟩
    rw [List.foldl_cons, h2, insS_mem, List.mem_cons, or_assoc]
theorem met_all {ss : List Str} : (met ss ss.length).Nodup ∧ ∀ y, y ∈ met ss ss.length ↔ y ∈ ss := by
  unfold met
  rw [List.take_length]
  obtain ⟨h1, h2⟩ := fold_ins ss [] List.nodup_nil
  exact ⟨h1, fun y => (h2 y).trans (by simp)⟩

theorem rise_strs : ∀ {r : List (List Nat)} {p : List Nat}, risingS (tx p) (r.map tx) = true → (p :: r).Nodup → (p :: r).Pairwise (· < ·)
  | [], p, _, _ => List.pairwise_singleton _ _
  | x :: r, p, h, hn => by
    have h : (!Spec.ltCps x p && risingS (tx x) (r.map tx)) = true := h
    rw [Bool.and_eq_true, ltCps_eq, Bool.not_eq_true', decide_eq_false_iff_not] at h
    obtain ⟨n1, n2⟩ := List.nodup_cons.mp hn
    have ih := rise_strs h.2 n2
    have hpx : p < x := by
      rcases lt_tri p x with h3 | h3 | h3
      · exact h3
      · exact absurd (h3 ▸ List.mem_cons_self) n1
      · exact absurd h3 h.1
    refine List.pairwise_cons.mpr ⟨fun y hy => ?_, ih⟩
    rcases List.mem_cons.mp hy with rfl | hy
    · exact hpx
    · exact List.lt_trans hpx ((List.pairwise_cons.mp ih).1 y hy)
theorem tx_inj' : ∀ {a b : List Nat}, tx a = tx b → a = b := fun h => tx_inj.mp h
theorem map_of_strs (o : List Str) : ∃ r : List (List Nat), o = r.map tx := ⟨o.map fun s => s.cps.toList, by
  rw [List.map_map]
  exact (List.map_id'' (fun s => tx_cps s) o).symm⟩
/-- what sorted(set(texts)) gives -/
theorem sorted_rows {o : List Str} {ts : List (List Nat)} (p : o.Perm (met (ts.map tx) (ts.map tx).length)) (h : sortedS o = true) : ∃ r : List (List Nat), o = r.map tx ∧ r.Pairwise (· < ·) ∧ (∀ t, t ∈ r ↔ t ∈ ts) := by
  obtain ⟨r, rfl⟩ := map_of_strs o
  obtain ⟨m1, m2⟩ := met_all (ss := ts.map tx)
  have hn : r.Nodup := List.Pairwise.of_map tx (fun a b h (e : a = b) => h (by rw [e])) (p.nodup_iff.mpr m1)
  refine ⟨r, rfl, ?_, fun t => ?_⟩
  · cases r with
    | nil => exact .nil
    | cons x r => exact rise_strs h hn
  · have h1 := (p.mem_iff (a := tx t)).trans (m2 (tx t))
    rw [List.mem_map, List.mem_map] at h1
    exact ⟨fun ht => by obtain ⟨u, hu, e⟩ := h1.mp ⟨t, ht, rfl⟩; exact tx_inj' e ▸ hu, fun ht => by obtain ⟨u, hu, e⟩ := h1.mpr ⟨t, ht, rfl⟩; exact tx_inj' e ▸ hu⟩
theorem met_few {ts r : List (List Nat)} (h : ∀ t ∈ ts, t ∈ r) : (met (ts.map tx) (ts.map tx).length).length ≤ r.length := by
  obtain ⟨m1, m2⟩ := met_all (ss := ts.map tx)
  have := nodup_le (l' := r.map tx) m1 fun y hy => by
    obtain ⟨t, ht, rfl⟩ := List.mem_map.mp ((m2 y).mp hy)
    exact List.mem_map_of_mem (h t ht)
  exact Nat.le_trans this (Nat.le_of_eq (List.length_map ..))
end Mine
end
section
namespace Mine

/-! ### words for roads -/
def TSays (T : WT) (c : Cx) (σ : Lo) (μ : Mem) (b : Bool) : Prop := ∀ k : Bool → Mem → Prop, k b μ → T c σ μ k
def ESays (W : WE) (c : Cx) (σ : Lo) (μ : Mem) (a : AV) : Prop := ∀ k : KE, k a μ → W c σ μ k
theorem asg_says {W : WE} {B : WS} {c : Cx} {σ : Lo} {μ : Mem} {Q : KS} {x : PyData} {n : Nat} (h : ESays W c σ μ (.d x)) (q : B c (σ.set n (some (.d x))) μ Q) : sSeq (sAsg n W) B c σ μ Q := h _ q

section
variable {c : Cx} {σ : Lo} {μ : Mem} {n : Nat}
/-- a clause whose turns each add items -/
theorem comp_flat {α : Type} {body : List PyData → Cx → Lo → Mem → (List PyData → Mem → Prop) → Prop} (l : List α) (e : α → PyData) (g : α → List PyData) {out : List PyData} {k : List PyData → Mem → Prop} (h0 : σ.getD n none = none) (hz : out.length + (l.flatMap g).length ≤ sizeLine)
    (hs : ∀ a ∈ l, ∀ o k, o.length + (g a).length ≤ sizeLine → k (o ++ g a) μ → body o c (σ.set n (some (.d (e a)))) μ k) (q : k (out ++ l.flatMap g) μ) : compP n body c (l.map e) out σ μ k := by
  refine ⟨h0, fun ds o m => ∃ r, ds = r.map e ∧ m = μ ∧ (∀ a ∈ r, a ∈ l) ∧ o ++ r.flatMap g = out ++ l.flatMap g, ⟨l, rfl, rfl, fun _ h => h, rfl⟩, fun d ds o m w => ?_, fun o m w => ?_⟩
  · obtain ⟨r, e1, rfl, hm, h⟩ := w
    cases r with
    | nil => cases e1
    | cons a r =>
      cases e1
      refine hs a (hm a (List.mem_cons_self ..)) o _ ?_ ⟨r, rfl, rfl, fun d' h' => hm d' (List.mem_cons_of_mem _ h'), by rw [← h, List.append_assoc]; rfl⟩
      have := congrArg List.length h
      rw [List.flatMap_cons, List.length_append, List.length_append, List.length_append] at this
      omega
  · obtain ⟨r, e1, rfl, _, h⟩ := w
    cases r with
    | nil => rw [List.flatMap_nil, List.append_nil] at h; exact h ▸ q
    | cons _ _ => cases e1
end

/-! ### slices -/
theorem clip_nat {n k : Nat} : clipAt n (k : Int) = min k n := by
  have := clipAt_cast n (k : Int)
  simp only [show ¬ ((k : Int) < 0) by omega, if_false] at this
  omega
theorem cut_to {t : List Nat} {k : Nat} (h : k ≤ t.length) : cutS (tx t) none (some (k : Int)) = tx (t.take k) := by
  rw [cutS_eq]
  simp only [tx_len, Option.elim_none, Option.elim_some, clip_nat, List.drop_zero, Nat.sub_zero, Nat.min_eq_left h]
  rfl
theorem cut_from {t : List Nat} {k : Nat} : cutS (tx t) (some (k : Int)) none = tx (t.drop k) := by
  rw [cutS_eq]
  simp only [tx_len, Option.elim_none, Option.elim_some, clip_nat]
  show tx ((t.drop (min k t.length)).take (t.length - min k t.length)) = _
  rcases Nat.le_total k t.length with h | h
  · rw [Nat.min_eq_left h, List.take_of_length_le (by simp)]
  · rw [Nat.min_eq_right h, List.drop_of_length_le h]; simp
theorem pick_last {α : Type} {xs : List α} : pickL xs (some (-1)) none none = xs.getLast?.toList := by
  unfold pickL
  rw [sliceBounds_plain]
  simp only [Option.elim_some, Option.elim_none]
  rw [sliceRange_one]
  have := clipAt_cast xs.length (-1)
  rw [if_pos (by decide)] at this
  rcases List.eq_nil_or_concat xs with rfl | ⟨ys, z, rfl⟩
  · simp
  · rw [List.concat_eq_append] at *
    have hl : (ys ++ [z]).length = ys.length + 1 := List.length_append
    rw [hl] at this ⊢
    have e : clipAt (ys.length + 1) (-1) = ys.length := by omega
    rw [e]
    simp

/-! ### the dots taken out -/
theorem replace_bare {ps : Pat} (hs : SOk ps) : Txt.replace (tx (flat ps)) dots (tx []) = tx (segs ps).flatten := by
  have hocc : Builtin.Str.occurrences (tx (flat ps)) dots 0 (tx (flat ps)).length ((tx (flat ps)).length + 1) = cuts 0 ps := by
    rw [dots_tx, tx_len, occ_tx]
    have := occ_cuts (t := flat ps) (limit := (flat ps).length + 1) ps [] 0 hs rfl (by omega)
    simpa using this
  unfold Txt.replace
  rw [hocc]
  by_cases hd : none ∈ ps
  · have hc := cuts_some (i := 0) hd
    have e : ((cuts 0 ps).isEmpty || (dots.length == 0 && (tx []).length == 0)) = false := by
      rw [dots_len]
      cases h : cuts 0 ps with
      | nil => exact absurd h hc
      | cons _ _ => rfl
    rw [if_neg (by rw [e]; decide)]
    obtain ⟨s, r, h1, h2⟩ := parts_segs (t := flat ps) ps [] 0 rfl (Nat.zero_le _)
    have e2 : Builtin.Str.partsBetween (tx (flat ps)) (cuts 0 ps) dots.length = (segs ps).map tx := by
      unfold Builtin.Str.partsBetween
      rw [dots_len, tx_len, h1]
      simpa using h2
    rw [e2]
    exact join_tx (segs ps)
  · have e : cuts 0 ps = [] := by
      have : ∀ {ps : Pat} {i : Nat}, none ∉ ps → cuts i ps = [] := by
        intro ps
        induction ps with
        | nil => intro i _; rfl
        | cons u ps ih =>
          intro i h
          cases u with
          | none => simp at h
          | some c => simp only [cuts]; exact ih (by simpa using h)
      exact this hd
    rw [e, if_pos (show (([] : List Nat).isEmpty || (dots.length == 0 && (tx []).length == 0)) = true from rfl)]
    have e3 : ∀ {ps : Pat}, none ∉ ps → segs ps = [flat ps] := by
      intro ps
      induction ps with
      | nil => intro _; rfl
      | cons u ps ih =>
        intro h
        cases u with
        | none => simp at h
        | some c => simp only [segs, ih (by simpa using h)]; rfl
    rw [e3 hd]
    simp
end Mine
end
section
namespace Mine
-- 0 numbers, 1 pieces, 2 x
def ns_law_pieces : List Str := ["numbers", "pieces", "x"]
def w_law_pieces : WS := sBlk [(sAsg 1 (wComp [false, false, false] 2 (iItems (wVar 0)) [] (wIdx (wList [(wDat (.str "a")), (wDat (.str "\n")), (wDat (.str "...")), (wDat (.str "..."))]) (wBin modI (wVar 2) (wDat (.int 4)))))), (sIf (tCmp (wCmp eqV (wBin modI (wB1 sumL (wComp [false, false, false] 2 (iItems (wVar 0)) [] (wBin modI (wVar 2) (wDat (.int 2))))) (wDat (.int 2))) (wDat (.int 1)))) (sBlk [(sRet (wBin addL (wVar 1) (wList [(wDat (.str "a")), (wDat (.str "\n"))])))]) (sBlk [])), (sRet (wBin addL (wVar 1) (wList [(wDat (.str "a")), (wDat (.str "...")), (wDat (.str "\n"))])))]
abbrev f_law_pieces (c : Cx) := mfun w_law_pieces 1 3 c

-- 0 pattern, 1 least, 2 heap, 3 told, 4 size, 5 text, 6 k, 7 sign, 8 longer
def ns_law_told : List Str := ["pattern", "least", "heap", "told", "size", "text", "k", "sign", "longer"]
def w_law_told : WS := sBlk [(sAsg 1 (wRepl (wVar 0) "..." "")), (sNewL 2 []), (sIf (tTru trB (wFn "_ellipsis_match" [(wVar 0), (wVar 1)])) (sBlk [(sExpr (wFn "heappush" [(wVar 2), (wTup [(wB1 lenS (wVar 1)), (wVar 1)])]))]) (sBlk [])), (sNewL 3 []), (sWhile (tCmp (wCmp neV (wVar 2) (wList []))) (sBlk [(sUnpk [4, 5] (wFn "heappop" [(wVar 2)])), (sIf (tCmp (wCmp neV (wCut cutL (wVar 3) (some (wNeg (wDat (.int 1)))) none none) (wList [(wVar 5)]))) (sBlk [(sExpr (wMeth kLst pAppend (wVar 3) [(wVar 5)])), (sIf (tCmp (wCmp ltI (wVar 4) (wBin addI (wB1 lenS (wVar 1)) (wDat (.int 2))))) (sBlk [(sFor 6 (iUp (wBin addI (wVar 4) (wDat (.int 1)))) (sBlk [(sFor 7 (iItems (wList [(wDat (.str "a")), (wDat (.str "\n"))])) (sBlk [(sAsg 8 (wBin addS (wBin addS (wCut cutT (wVar 5) none (some (wVar 6)) none) (wVar 7)) (wCut cutT (wVar 5) (some (wVar 6)) none none))), (sIf (tTru trB (wFn "_ellipsis_match" [(wVar 0), (wVar 8)])) (sBlk [(sExpr (wFn "heappush" [(wVar 2), (wTup [(wBin addI (wVar 4) (wDat (.int 1))), (wVar 8)])]))]) (sBlk []))]))]))]) (sBlk []))]) (sBlk []))])), (sRet (wVar 3))]
abbrev f_law_told (c : Cx) := mfun w_law_told 1 9 c

-- 0 pieces, 1 runs, 2 rows, 3 piece, 4 wider, 5 extra, 6 texts, 7 row, 8 k, 9 run, 10 text
def ns_law_due : List Str := ["pieces", "runs", "rows", "piece", "wider", "extra", "texts", "row", "k", "run", "text"]
def w_law_due : WS := sBlk [(sAsg 1 (wList [(wList [(wDat (.str ""))]), (wList [(wDat (.str "\n")), (wDat (.str "a"))]), (wList [(wDat (.str "\n\n")), (wDat (.str "\na")), (wDat (.str "a\n")), (wDat (.str "aa"))])])), (sAsg 2 (wList [(wList [(wDat (.str ""))]), (wList []), (wList [])])), (sFor 3 (iItems (wVar 0)) (sBlk [(sIf (tCmp (wCmp eqV (wVar 3) (wDat (.str "...")))) (sBlk [(sNewL 4 []), (sFor 5 (iUp (wDat (.int 3))) (sBlk [(sAsg 6 (wComp [false, true, true, false, false, true, false, false, false, false, false] 8 (iUp (wBin addI (wVar 5) (wDat (.int 1)))) [(9, (iItems (wIdx (wVar 1) (wVar 8)))), (10, (iItems (wIdx (wVar 2) (wBin subI (wVar 5) (wVar 8)))))] (wBin addS (wVar 10) (wVar 9)))), (sExpr (wMeth kLst pAppend (wVar 4) [(wSortS (wVar 6))]))])), (sAsg 2 (wVar 4))]) (sBlk [(sAsg 2 (wComp [false, false, false, true, false, false, false, false, false, false, false] 7 (iItems (wVar 2)) [] (wComp [false, false, false, true, false, false, false, false, false, false, false] 10 (iItems (wVar 7)) [] (wBin addS (wVar 10) (wVar 3)))))]))])), (sRet (wBin addL (wBin addL (wIdx (wVar 2) (wDat (.int 0))) (wIdx (wVar 2) (wDat (.int 1)))) (wIdx (wVar 2) (wDat (.int 2)))))]
abbrev f_law_due (c : Cx) := mfun w_law_due 1 11 c

-- 0 script, 1 pieces
def ns_law : List Str := ["script", "pieces"]
def w_law : WS := sBlk [(sAsg 1 (wFn "_law_pieces" [(wCut cutL (wVar 0) none (some (wDat (.int 10))) none)])), (sRet (wCmp eqV (wFn "_law_told" [(wMeth kStr pJoin (wDat (.str "")) [(wVar 1)])]) (wFn "_law_due" [(wVar 1)])))]
abbrev f_law (c : Cx) := mfun w_law 1 2 c

end Mine
end
section
set_option maxRecDepth 100000
namespace Mine
def stAt2 (i : Nat) : Stmt := PySem.Challenge.pw_mq0174_02.main.body.getD i (.Pass default)
def stDef : Stmt → List Str × Scope × List Stmt
  | .FunctionDef _ a b _ _ _ sc _ _ _ => (a.args.map (·.arg), sc, b)
  | _ => ([], default, [])
def stBody (s : Stmt) : List Stmt := (stDef s).2.2
def stScope (s : Stmt) : Scope := (stDef s).2.1
def stPars (s : Stmt) : List Str := (stDef s).1

theorem snd_heappush : SndB ns_heappush (stScope (stAt2 1)) (stBody (stAt2 1)) w_heappush :=
  (.cons (.expr (fun _ _ _ => rfl) (.meth meth_append (fun _ => rfl) rfl rfl (.var rfl) (.cons (.var rfl) .nil))) (.cons (.expr (fun _ _ _ => rfl) (.fn (by decide +kernel) (.cons (.var rfl) (.cons .int (.cons (.bin subI.ok (.b1 lenL.ok (fun X => X.G.len) (by decide +kernel) (.var rfl)) .int) .nil))))) .nil))

theorem snd_heappop : SndB ns_heappop (stScope (stAt2 2)) (stBody (stAt2 2)) w_heappop :=
  (.cons (.asg (fun _ _ _ => rfl) rfl (by decide +kernel) (.meth meth_pop (fun _ => rfl) rfl rfl (.var rfl) .nil)) (.cons (.ite (.tru trL.ok (fun _ => rfl) (.var rfl)) (.cons (.asg (fun _ _ _ => rfl) rfl (by decide +kernel) (.idx (.var rfl) .int)) (.cons (.store (fun _ _ _ => rfl) (.var rfl) .int (.var rfl)) (.cons (.expr (fun _ _ _ => rfl) (.fn (by decide +kernel) (.cons (.var rfl) (.cons .int .nil)))) (.cons (.ret (.var rfl)) .nil)))) .nil) (.cons (.ret (.var rfl)) .nil)))

theorem snd_siftdown : SndB ns_siftdown (stScope (stAt2 3)) (stBody (stAt2 3)) w_siftdown :=
  (.cons (.asg (fun _ _ _ => rfl) rfl (by decide +kernel) (.idx (.var rfl) (.var rfl))) (.cons (.while (.cmp gtI.ok rfl (.var rfl) (.var rfl)) (.cons (.asg (fun _ _ _ => rfl) rfl (by decide +kernel) (.bin shrI.ok (.bin subI.ok (.var rfl) .int) .int)) (.cons (.asg (fun _ _ _ => rfl) rfl (by decide +kernel) (.idx (.var rfl) (.var rfl))) (.cons (.ite (.cmp ltT.ok rfl (.var rfl) (.var rfl)) (.cons (.store (fun _ _ _ => rfl) (.var rfl) (.var rfl) (.var rfl)) (.cons (.asg (fun _ _ _ => rfl) rfl (by decide +kernel) (.var rfl)) (.cons .cont .nil))) .nil) (.cons .brk .nil))))) (.cons (.store (fun _ _ _ => rfl) (.var rfl) (.var rfl) (.var rfl)) .nil)))

theorem snd_siftup : SndB ns_siftup (stScope (stAt2 4)) (stBody (stAt2 4)) w_siftup :=
  (.cons (.asg (fun _ _ _ => rfl) rfl (by decide +kernel) (.b1 lenL.ok (fun X => X.G.len) (by decide +kernel) (.var rfl))) (.cons (.asg (fun _ _ _ => rfl) rfl (by decide +kernel) (.var rfl)) (.cons (.asg (fun _ _ _ => rfl) rfl (by decide +kernel) (.idx (.var rfl) (.var rfl))) (.cons (.asg (fun _ _ _ => rfl) rfl (by decide +kernel) (.bin addI.ok (.bin mulI.ok .int (.var rfl)) .int)) (.cons (.while (.cmp ltI.ok rfl (.var rfl) (.var rfl)) (.cons (.asg (fun _ _ _ => rfl) rfl (by decide +kernel) (.bin addI.ok (.var rfl) .int)) (.cons (.ite (.and (.cmp ltI.ok rfl (.var rfl) (.var rfl)) (.and1 (.not (.cmp ltT.ok rfl (.idx (.var rfl) (.var rfl)) (.idx (.var rfl) (.var rfl)))))) (.cons (.asg (fun _ _ _ => rfl) rfl (by decide +kernel) (.var rfl)) .nil) .nil) (.cons (.store (fun _ _ _ => rfl) (.var rfl) (.var rfl) (.idx (.var rfl) (.var rfl))) (.cons (.asg (fun _ _ _ => rfl) rfl (by decide +kernel) (.var rfl)) (.cons (.asg (fun _ _ _ => rfl) rfl (by decide +kernel) (.bin addI.ok (.bin mulI.ok .int (.var rfl)) .int)) .nil)))))) (.cons (.store (fun _ _ _ => rfl) (.var rfl) (.var rfl) (.var rfl)) (.cons (.expr (fun _ _ _ => rfl) (.fn (by decide +kernel) (.cons (.var rfl) (.cons (.var rfl) (.cons (.var rfl) .nil))))) .nil)))))))

theorem snd_ellipsis_match : SndB ns_ellipsis_match (stScope (stAt2 7)) (stBody (stAt2 7)) w_ellipsis_match :=
  (.cons (.ite (.cmp niStr.ok rfl (.cst (by decide +kernel)) (.var rfl)) (.cons (.ret (.cmp eqV.ok rfl (.var rfl) (.var rfl))) .nil) .nil) (.cons (.split (fun _ => rfl) rfl rfl (by decide +kernel) (.var rfl) (.cst (by decide +kernel))) (.cons (.assert (.cmp geI.ok rfl (.b1 lenL.ok (fun X => X.G.len) (by decide +kernel) (.var rfl)) .int)) (.cons (.two (fun env h => by cases env; cases h; rfl) rfl rfl (by decide +kernel) (by decide +kernel) .int (.b1 lenS.ok (fun X => X.G.len) (by decide +kernel) (.var rfl))) (.cons (.asg (fun _ _ _ => rfl) rfl (by decide +kernel) (.idx (.var rfl) .int)) (.cons (.ite (.tru trS.ok (fun _ => rfl) (.var rfl)) (.cons (.ite (.tru trB.ok (fun _ => rfl) (.meth meth_starts (fun _ => rfl) rfl rfl (.var rfl) (.cons (.var rfl) .nil))) (.cons (.asg (fun _ _ _ => rfl) rfl (by decide +kernel) (.b1 lenS.ok (fun X => X.G.len) (by decide +kernel) (.var rfl))) (.cons (.del (.var rfl) .int) .nil)) (.cons (.ret .bool) .nil)) .nil) .nil) (.cons (.asg (fun _ _ _ => rfl) rfl (by decide +kernel) (.idx (.var rfl) (.neg .int))) (.cons (.ite (.tru trS.ok (fun _ => rfl) (.var rfl)) (.cons (.ite (.tru trB.ok (fun _ => rfl) (.meth meth_ends (fun _ => rfl) rfl rfl (.var rfl) (.cons (.var rfl) .nil))) (.cons (.aug aug_sub rfl (by decide +kernel) (.b1 lenS.ok (fun X => X.G.len) (by decide +kernel) (.var rfl))) (.cons (.del (.var rfl) (.neg .int)) .nil)) (.cons (.ret .bool) .nil)) .nil) .nil) (.cons (.ite (.cmp gtI.ok rfl (.var rfl) (.var rfl)) (.cons (.ret .bool) .nil) .nil) (.cons (.for rfl (by decide +kernel) (.items (fun _ _ => rfl) (.var rfl)) (.cons (.asg (fun _ _ _ => rfl) rfl (by decide +kernel) (.meth meth_find (fun _ => rfl) rfl rfl (.var rfl) (.cons (.var rfl) (.cons (.var rfl) (.cons (.var rfl) .nil))))) (.cons (.ite (.cmp ltI.ok rfl (.var rfl) .int) (.cons (.ret .bool) .nil) .nil) (.cons (.aug aug_add rfl (by decide +kernel) (.b1 lenS.ok (fun X => X.G.len) (by decide +kernel) (.var rfl))) .nil)))) (.cons (.ret .bool) .nil)))))))))))

theorem snd_law_pieces : SndB ns_law_pieces (stScope (stAt2 9)) (stBody (stAt2 9)) w_law_pieces :=
  (.cons (.asgComp rfl (by decide +kernel) (by decide +kernel) (by decide +kernel) rfl (by decide +kernel) (.idx (.list rfl (.cons .str (.cons .str (.cons .str (.cons .str .nil))))) (.bin modI.ok (.var rfl) .int)) (.items (fun _ _ => rfl) (.var rfl)) .nil) (.cons (.ite (.cmp eqV.ok rfl (.bin modI.ok (.b1 sumL.ok (fun X => X.G.sum) (by decide +kernel) (.comp (by decide +kernel) (by decide +kernel) rfl (by decide +kernel) (.bin modI.ok (.var rfl) .int) (.items (fun _ _ => rfl) (.var rfl)) .nil)) .int) .int) (.cons (.ret (.bin addL.ok (.var rfl) (.list rfl (.cons .str (.cons .str .nil))))) .nil) .nil) (.cons (.ret (.bin addL.ok (.var rfl) (.list rfl (.cons .str (.cons .str (.cons .str .nil)))))) .nil)))

theorem snd_law_told : SndB ns_law_told (stScope (stAt2 10)) (stBody (stAt2 10)) w_law_told :=
  (.cons (.asg (fun _ _ _ => rfl) rfl (by decide +kernel) (.repl (fun _ => rfl) rfl (by decide +kernel) (.var rfl))) (.cons (.newL rfl rfl (by decide +kernel) .nil) (.cons (.ite (.tru trB.ok (fun _ => rfl) (.fn (by decide +kernel) (.cons (.var rfl) (.cons (.var rfl) .nil)))) (.cons (.expr (fun _ _ _ => rfl) (.fn (by decide +kernel) (.cons (.var rfl) (.cons (.tup rfl (.cons (.b1 lenS.ok (fun X => X.G.len) (by decide +kernel) (.var rfl)) (.cons (.var rfl) .nil))) .nil)))) .nil) .nil) (.cons (.newL rfl rfl (by decide +kernel) .nil) (.cons (.while (.cmp neV.ok rfl (.var rfl) (.list rfl .nil)) (.cons (.unpk (fun _ _ _ => rfl) (fun _ => rfl) (.cons rfl (by decide +kernel) (.cons rfl (by decide +kernel) .nil)) (.fn (by decide +kernel) (.cons (.var rfl) .nil))) (.cons (.ite (.cmp neV.ok rfl (.cut cutL.ok (.var rfl) (.some (.neg .int)) .none .none) (.list rfl (.cons (.var rfl) .nil))) (.cons (.expr (fun _ _ _ => rfl) (.meth meth_append (fun _ => rfl) rfl rfl (.var rfl) (.cons (.var rfl) .nil))) (.cons (.ite (.cmp ltI.ok rfl (.var rfl) (.bin addI.ok (.b1 lenS.ok (fun X => X.G.len) (by decide +kernel) (.var rfl)) .int)) (.cons (.for rfl (by decide +kernel) (.up (by decide +kernel) (.bin addI.ok (.var rfl) .int)) (.cons (.for rfl (by decide +kernel) (.items (fun _ _ => rfl) (.list rfl (.cons .str (.cons .str .nil)))) (.cons (.asg (fun _ _ _ => rfl) rfl (by decide +kernel) (.bin addS.ok (.bin addS.ok (.cut cutT.ok (.var rfl) .none (.some (.var rfl)) .none) (.var rfl)) (.cut cutT.ok (.var rfl) (.some (.var rfl)) .none .none))) (.cons (.ite (.tru trB.ok (fun _ => rfl) (.fn (by decide +kernel) (.cons (.var rfl) (.cons (.var rfl) .nil)))) (.cons (.expr (fun _ _ _ => rfl) (.fn (by decide +kernel) (.cons (.var rfl) (.cons (.tup rfl (.cons (.bin addI.ok (.var rfl) .int) (.cons (.var rfl) .nil))) .nil)))) .nil) .nil) .nil))) .nil)) .nil) .nil) .nil)) .nil) .nil))) (.cons (.ret (.var rfl)) .nil))))))

theorem snd_law_due : SndB ns_law_due (stScope (stAt2 11)) (stBody (stAt2 11)) w_law_due :=
  (.cons (.asg (fun _ _ _ => rfl) rfl (by decide +kernel) (.list rfl (.cons (.list rfl (.cons .str .nil)) (.cons (.list rfl (.cons .str (.cons .str .nil))) (.cons (.list rfl (.cons .str (.cons .str (.cons .str (.cons .str .nil))))) .nil))))) (.cons (.asg (fun _ _ _ => rfl) rfl (by decide +kernel) (.list rfl (.cons (.list rfl (.cons .str .nil)) (.cons (.list rfl .nil) (.cons (.list rfl .nil) .nil))))) (.cons (.for rfl (by decide +kernel) (.items (fun _ _ => rfl) (.var rfl)) (.cons (.ite (.cmp eqV.ok rfl (.var rfl) .str) (.cons (.newL rfl rfl (by decide +kernel) .nil) (.cons (.for rfl (by decide +kernel) (.up (by decide +kernel) .int) (.cons (.asgComp rfl (by decide +kernel) (by decide +kernel) (by decide +kernel) rfl (by decide +kernel) (.bin addS.ok (.var rfl) (.var rfl)) (.up (by decide +kernel) (.bin addI.ok (.var rfl) .int)) (.cons rfl (by decide +kernel) (.items (fun _ _ => rfl) (.idx (.var rfl) (.var rfl))) (.cons rfl (by decide +kernel) (.items (fun _ _ => rfl) (.idx (.var rfl) (.bin subI.ok (.var rfl) (.var rfl)))) .nil))) (.cons (.expr (fun _ _ _ => rfl) (.meth meth_append (fun _ => rfl) rfl rfl (.var rfl) (.cons (.sortS (by decide +kernel) (by decide +kernel) (.var rfl)) .nil))) .nil))) (.cons (.asg (fun _ _ _ => rfl) rfl (by decide +kernel) (.var rfl)) .nil))) (.cons (.asgComp rfl (by decide +kernel) (by decide +kernel) (by decide +kernel) rfl (by decide +kernel) (.comp (by decide +kernel) (by decide +kernel) rfl (by decide +kernel) (.bin addS.ok (.var rfl) (.var rfl)) (.items (fun _ _ => rfl) (.var rfl)) .nil) (.items (fun _ _ => rfl) (.var rfl)) .nil) .nil)) .nil)) (.cons (.ret (.bin addL.ok (.bin addL.ok (.idx (.var rfl) .int) (.idx (.var rfl) .int)) (.idx (.var rfl) .int))) .nil))))

theorem snd_law : SndB ns_law (stScope (stAt2 12)) (stBody (stAt2 12)) w_law :=
  (.cons (.asg (fun _ _ _ => rfl) rfl (by decide +kernel) (.fn (by decide +kernel) (.cons (.cut cutL.ok (.var rfl) .none (.some .int) .none) .nil))) (.cons (.ret (.cmp eqV.ok rfl (.fn (by decide +kernel) (.cons (.meth meth_join (fun _ => rfl) rfl rfl .str (.cons (.var rfl) .nil)) .nil)) (.fn (by decide +kernel) (.cons (.var rfl) .nil)))) .nil))

end Mine
end
section
namespace Mine

theorem segs_bare : ∀ ps : Pat, (segs ps).flatten = bare ps
  | [] => rfl
  | some c :: ps => by
    obtain ⟨s, r, h1, h2⟩ := segs_some (c := c) (ps := ps)
    have := segs_bare ps
    rw [h1] at this
    rw [h2]; exact congrArg (c :: ·) this
  | none :: ps => by
    show ([] ++ (segs ps).flatten) = _
    exact segs_bare ps

def pc2 (x : Int) : Option Nat := if Int.fmod x 4 = 0 then some 97 else if Int.fmod x 4 = 1 then some 10 else none
theorem fmod4 (x : Int) : Int.fmod x 4 = 0 ∨ Int.fmod x 4 = 1 ∨ Int.fmod x 4 = 2 ∨ Int.fmod x 4 = 3 := by
  rw [Int.fmod_eq_emod_of_nonneg _ (by decide)]; omega
def odd2 (ns : List Int) : Bool := decide (Int.fmod (ns.map fun x => Int.fmod x 2).sum 2 = 1)
def pat2 (ns : List Int) : Pat := ns.map pc2 ++ (if odd2 ns then [some 97, some 10] else [some 97, none, some 10])

theorem int_ok {a b : Int} : okEq (.int a) (.int b) = true := rfl
section
variable {c : Cx} {μ : Mem}
theorem sem_pieces2 {ns : List Int} (hz : ns.length ≤ 4096) : Says (f_law_pieces c) [.d (.list (ns.map .int))] μ (.d (encP (pat2 ns))) μ := by
  refine mfun_ret rfl take_all fun R hR => ?_
  have hline : (5000 : Nat) ≤ sizeLine := line20 (by decide)
  refine comp_map ns .int (fun n => enc (pc2 n)) rfl (by show 0 + _ ≤ _; omega) (fun n _ o k ho hk => ?_) ?_
  · refine And.intro (by decide) ?_
    unfold pc2 at hk
    rcases fmod4 n with h | h | h | h
    · rw [h] at hk ⊢
      exact idxP.dat (n := 0) (by show 4 < 2 ^ 31; decide) rfl ⟨ho, hk⟩
    · rw [h] at hk ⊢
      exact idxP.dat (n := 1) (by show 4 < 2 ^ 31; decide) rfl ⟨ho, hk⟩
    · rw [h] at hk ⊢
      exact idxP.dat (n := 2) (by show 4 < 2 ^ 31; decide) rfl ⟨ho, hk⟩
    · rw [h] at hk ⊢
      exact idxP.dat (n := 3) (by show 4 < 2 ^ 31; decide) rfl ⟨ho, hk⟩
  · refine comp_map (σ := [none, none, none]) ns .int (fun n => .int (Int.fmod n 2)) rfl (by show 0 + _ ≤ _; omega) (fun n _ o k ho hk => ?_) ?_
    · exact And.intro (by decide) ⟨ho, hk⟩
    · refine ⟨ns.map fun n => Int.fmod n 2, by rw [List.nil_append, List.map_map]; rfl, ?_⟩
      refine And.intro (by decide) (And.intro int_ok ?_)
      have e : PyData.eqv (.int (Int.fmod (ns.map fun n => Int.fmod n 2).sum 2)) (.int 1) = odd2 ns := by
        show (Int.fmod (ns.map fun n => Int.fmod n 2).sum 2 == 1) = odd2 ns
        unfold odd2
        exact Bool.eq_iff_iff.mpr (by simp)
      refine ⟨fun h => ?_, fun h => ?_⟩
      · have h : odd2 ns = true := e ▸ h
        refine And.intro (by rw [List.nil_append, List.length_map]; show _ + 2 ≤ _; omega) ?_
        have := hR [some (.d (.list (ns.map .int))), some (.d (.list (ns.map fun n => enc (pc2 n)))), none]
        unfold encP pat2 at this
        rw [if_pos h, List.map_append, List.map_map] at this
        exact this
      · have h : odd2 ns = false := e ▸ h
        refine And.intro (by rw [List.nil_append, List.length_map]; show _ + 3 ≤ _; omega) ?_
        have := hR [some (.d (.list (ns.map .int))), some (.d (.list (ns.map fun n => enc (pc2 n)))), none]
        unfold encP pat2 at this
        rw [if_neg (by rw [h]; decide), List.map_append, List.map_map] at this
        exact this
end
end Mine
end
section
namespace Mine

def encT (t : List Nat) : PyData := .str (tx t)
def encC (tl : List (List Nat)) : PyData := .list (tl.map encT)
def encR (rs : Nat → List (List Nat)) : PyData := .list [encC (rs 0), encC (rs 1), encC (rs 2)]
theorem runs_eq : PyData.list [.list [.str (Str.ofString "")], .list [.str (Str.ofString "\n"), .str (Str.ofString "a")], .list [.str (Str.ofString "\n\n"), .str (Str.ofString "\na"), .str (Str.ofString "a\n"), .str (Str.ofString "aa")]] = encR rn := by
  rw [show Str.ofString "" = tx [] by decide, show Str.ofString "\n" = tx [10] by decide, show Str.ofString "a" = tx [97] by decide, show Str.ofString "\n\n" = tx [10, 10] by decide,
    show Str.ofString "\na" = tx [10, 97] by decide, show Str.ofString "a\n" = tx [97, 10] by decide, show Str.ofString "aa" = tx [97, 97] by decide]
  rfl
theorem row_at {rs : Nat → List (List Nat)} {k : Nat} (hk : k ≤ 2) : [encC (rs 0), encC (rs 1), encC (rs 2)][k]? = some (encC (rs k)) := by
  match k, hk with
  | 0, _ => rfl
  | 1, _ => rfl
  | 2, _ => rfl
theorem wide_enc {rs : Nat → List (List Nat)} {e : Nat} : (List.range (e + 1)).flatMap (fun k => (rn k).flatMap fun v => (rs (e - k)).map fun u => encT (u ++ v)) = (wide rs e).map encT := by
  unfold wide
  rw [List.map_flatMap]
  refine congrArg (fun f => List.flatMap f _) (funext fun k => ?_)
  rw [List.map_flatMap]
  refine congrArg (fun f => List.flatMap f _) (funext fun v => ?_)
  rw [List.map_map]; rfl

def w_texts : WE := wComp [false, true, true, false, false, true, false, false, false, false, false] 8 (iUp (wBin addI (wVar 5) (wDat (.int 1)))) [(9, (iItems (wIdx (wVar 1) (wVar 8)))), (10, (iItems (wIdx (wVar 2) (wBin subI (wVar 5) (wVar 8)))))] (wBin addS (wVar 10) (wVar 9))
def w_rows : WE := wComp [false, false, false, true, false, false, false, false, false, false, false] 7 (iItems (wVar 2)) [] (wComp [false, false, false, true, false, false, false, false, false, false, false] 10 (iItems (wVar 7)) [] (wBin addS (wVar 10) (wVar 3)))

section
variable {c : Cx} {μ : Mem} {x0 x1 x2 x3 x4 x5 x6 : Option AV}
theorem texts_says {e : Nat} {rs : Nat → List (List Nat)} (he : e ≤ 2) (hz : (wide rs e).length ≤ 4000) (ht : ∀ k, k ≤ 2 → ∀ u ∈ rs k, u.length ≤ 1000) :
    ESays w_texts c [x0, some (.d (encR rn)), some (.d (encR rs)), x3, x4, some (.d (.int (e : Int))), x6, none, none, none, none] μ (.d (encC (wide rs e))) := by
  intro k hk
  have hline : (4000 : Nat) ≤ sizeLine := line20 (by decide)
  refine ⟨e + 1, rfl, by omega, ?_⟩
  refine comp_flat (List.range (e + 1)) (fun (i : Nat) => .int (i : Int)) (fun k => (rn k).flatMap fun v => (rs (e - k)).map fun u => encT (u ++ v)) rfl (by rw [wide_enc, List.length_map]; show 0 + _ ≤ _; omega) (fun a ha o kk ho hkk => ?_) ?_
  · have ha := List.mem_range.mp ha
    refine idxP.dat (μ := μ) (n := a) (by show 3 < 2 ^ 31; decide) (row_at (by omega)) ?_
    refine comp_flat (rn a) encT (fun v => (rs (e - a)).map fun u => encT (u ++ v)) rfl ho (fun v hv o kk ho hkk => ?_) hkk
    have hv2 := ((rn_mem (by omega)).mp hv).2
    show idxP (.d (encR rs)) (.d (.int ((e : Int) - (a : Int)))) μ _
    rw [show ((e : Int) - (a : Int)) = ((e - a : Nat) : Int) by omega]
    refine idxP.dat (μ := μ) (n := e - a) (by show 3 < 2 ^ 31; decide) (row_at (by omega)) ?_
    refine comp_map (rs (e - a)) encT (fun u => encT (u ++ v)) rfl (by rw [List.length_map] at ho; exact ho) (fun u hu o kk ho hkk => ?_) hkk
    refine And.intro ?_ ?_
    · have := ht (e - a) (by omega) u hu
      rw [tx_len, tx_len]; exact line20 (by omega)
    · rw [tx_append]; exact ⟨ho, hkk⟩
  · rw [wide_enc]; exact hk

theorem rows_says {rs : Nat → List (List Nat)} {d : Nat} (hl : ∀ k, k ≤ 2 → (rs k).length < 64) (ht : ∀ k, k ≤ 2 → ∀ u ∈ rs k, u.length ≤ 1000) :
    ESays w_rows c [x0, x1, some (.d (encR rs)), some (.d (enc (some d))), x4, x5, x6, none, none, none, none] μ (.d (encR fun k => (rs k).map (· ++ [d]))) := by
  intro k hk
  have hline : (4000 : Nat) ≤ sizeLine := line20 (by decide)
  refine comp_map [0, 1, 2] (fun i => encC (rs i)) (fun i => encC ((rs i).map (· ++ [d]))) rfl (by show 0 + 3 ≤ _; omega) (fun i hi o kk ho hkk => ?_) hk
  have hi : i ≤ 2 := by
    have : i = 0 ∨ i = 1 ∨ i = 2 := by simpa using hi
    omega
  refine comp_map (rs i) encT (fun u => encT (u ++ [d])) rfl (by have := hl i hi; show 0 + _ ≤ _; omega) (fun u hu o kk ho hkk => ?_) ?_
  · refine And.intro ?_ ?_
    · have := ht i hi u hu
      rw [tx_len, tx_len]; exact line20 (by show _ + 1 ≤ _; omega)
    · rw [tx_append]; exact ⟨ho, hkk⟩
  · unfold encC at hkk
    rw [List.map_map] at hkk
    exact And.intro ho hkk
end
end Mine
end
section
open PySem
namespace Mine

/-! ### the texts told, plain -/
def ins (u : List Nat) (i c : Nat) : List Nat := u.take i ++ [c] ++ u.drop i
theorem ins_len {u : List Nat} {i c : Nat} (h : i ≤ u.length) : (ins u i c).length = u.length + 1 := by
  unfold ins
  rw [List.length_append, List.length_append, List.length_take, List.length_drop]
  show min i u.length + 1 + _ = _
  omega
theorem ins_bin {u : List Nat} {i c : Nat} (h : bin u) (hc : c = 97 ∨ c = 10) : bin (ins u i c) := by
  unfold ins
  rw [bin_app, bin_app]
  exact ⟨⟨fun d hd => h d (List.mem_of_mem_take hd), fun d hd => by rw [List.mem_singleton.mp hd]; exact hc⟩, fun d hd => h d (List.mem_of_mem_drop hd)⟩
theorem bin_ins {u : List Nat} {i c : Nat} (h : bin (ins u i c)) : bin u ∧ (c = 97 ∨ c = 10) := by
  unfold ins at h
  rw [bin_app, bin_app] at h
  refine ⟨?_, h.1.2 c (List.mem_singleton_self _)⟩
  rw [← List.take_append_drop i u, bin_app]
  exact ⟨h.1.1, h.2⟩

def Up (ps : Pat) (t : List Nat) : Prop := bin t ∧ gm ps t ∧ t.length ≤ (bare ps).length + 2
structure TI (ps : Pat) (es T : List (List Nat)) : Prop where
  inq : ∀ e ∈ es, Up ps e
  told : ∀ u ∈ T, Up ps u
  up : T.Pairwise slt
  last : ∀ u ∈ T, ∀ e ∈ es, sle u e
  clo : ∀ u ∈ T, ∀ i c, i ≤ u.length → (c = 97 ∨ c = 10) → u.length < (bare ps).length + 2 → gm ps (ins u i c) → ins u i c ∈ T ∨ ins u i c ∈ es
  base : bare ps ∈ T ∨ bare ps ∈ es

section
variable {ps : Pat} {es es' T : List (List Nat)} {x : List Nat}
theorem TI.start (hb : bin (bare ps)) : TI ps [bare ps] [] := by
  refine ⟨fun e he => ?_, fun u hu => (by cases hu), .nil, fun u hu => (by cases hu), fun u hu => (by cases hu), .inr (List.mem_singleton_self _)⟩
  rw [List.mem_singleton.mp he]
  exact ⟨hb, gm_bare, Nat.le_add_right _ _⟩
theorem TI.mem (I : TI ps es T) (h : ∀ e, e ∈ es ↔ e ∈ es') : TI ps es' T :=
  ⟨fun e he => I.inq e ((h e).mpr he), I.told, I.up, fun u hu e he => I.last u hu e ((h e).mpr he), fun u hu i c h1 h2 h3 h4 => (I.clo u hu i c h1 h2 h3 h4).imp id (h _).mp, I.base.imp id (h _).mp⟩
theorem last_rise : ∀ {T : List (List Nat)} {l u : List Nat}, T.Pairwise slt → T.getLast? = some l → u ∈ T → u = l ∨ slt u l := by
  intro T l u h hl hu
  rcases List.eq_nil_or_concat T with rfl | ⟨ys, z, rfl⟩
  · cases hu
  · rw [List.concat_eq_append] at *
    rw [List.getLast?_concat] at hl
    cases hl
    rcases List.mem_append.mp hu with hu | hu
    · exact .inr ((List.pairwise_append.mp h).2.2 u hu l (List.mem_singleton_self _))
    · exact .inl (List.mem_singleton.mp hu)
theorem TI.skip (I : TI ps (x :: es) T) (h : T.getLast? = some x) : TI ps es T := by
  have hx : x ∈ T := List.mem_of_getLast? h
  refine ⟨fun e he => I.inq e (List.mem_cons_of_mem _ he), I.told, I.up, fun u hu e he => I.last u hu e (List.mem_cons_of_mem _ he), fun u hu i c h1 h2 h3 h4 => ?_, ?_⟩
  · rcases I.clo u hu i c h1 h2 h3 h4 with h | h
    · exact .inl h
    · rcases List.mem_cons.mp h with h | h
      · exact .inl (h ▸ hx)
      · exact .inr h
  · rcases I.base with h | h
    · exact .inl h
    · rcases List.mem_cons.mp h with h | h
      · exact .inl (h ▸ hx)
      · exact .inr h
theorem sle_len {a b : List Nat} (h : sle a b) : a.length ≤ b.length := h.elim Nat.le_of_lt fun h => Nat.le_of_eq h.1
theorem TI.take (I : TI ps (x :: es) T) (hl : ∀ e ∈ es, sle x e) (h : T.getLast? ≠ some x) {new : List (List Nat)}
    (hn : ∀ t, t ∈ new ↔ x.length < (bare ps).length + 2 ∧ ∃ i c, i ≤ x.length ∧ (c = 97 ∨ c = 10) ∧ t = ins x i c ∧ gm ps t) : TI ps (es ++ new) (T ++ [x]) := by
  have hx := I.inq x List.mem_cons_self
  have hlt : ∀ u ∈ T, slt u x := fun u hu => by
    refine slt_of_sle (I.last u hu x List.mem_cons_self) fun e => ?_
    subst e
    cases hg : T.getLast? with
    | none => rw [List.getLast?_eq_none_iff] at hg; rw [hg] at hu; cases hu
    | some l =>
      rcases last_rise I.up hg hu with e | h2
      · exact h (by rw [hg, e])
      · have h3 := I.last l (List.mem_of_getLast? hg) u List.mem_cons_self
        have : l = u := sle_antisymm h3 (sle_of_slt h2)
        exact h (by rw [hg, this])
  have hnl : ∀ t ∈ new, t.length = x.length + 1 := fun t ht => by
    obtain ⟨_, i, c, h1, _, rfl, _⟩ := (hn t).mp ht
    exact ins_len h1
  refine ⟨fun e he => ?_, fun u hu => ?_, ?_, fun u hu e he => ?_, fun u hu i c h1 h2 h3 h4 => ?_, ?_⟩
  · rcases List.mem_append.mp he with he | he
    · exact I.inq e (List.mem_cons_of_mem _ he)
    · have h5 := hnl e he
      obtain ⟨h0, i, c, h1, h2, rfl, h4⟩ := (hn e).mp he
      exact ⟨ins_bin hx.1 h2, h4, by omega⟩
  · rcases List.mem_append.mp hu with hu | hu
    · exact I.told u hu
    · rw [List.mem_singleton.mp hu]; exact hx
  · exact List.pairwise_append.mpr ⟨I.up, List.pairwise_singleton _ _, fun u hu y hy => by rw [List.mem_singleton.mp hy]; exact hlt u hu⟩
  · have hux : sle u x := by
      rcases List.mem_append.mp hu with hu | hu
      · exact sle_of_slt (hlt u hu)
      · rw [List.mem_singleton.mp hu]; exact sle_refl _
    rcases List.mem_append.mp he with he | he
    · exact sle_trans hux (hl e he)
    · have := hnl e he
      have := sle_len hux
      exact .inl (by omega)
  · rcases List.mem_append.mp hu with hu | hu
    · rcases I.clo u hu i c h1 h2 h3 h4 with h | h
      · exact .inl (List.mem_append_left _ h)
      · rcases List.mem_cons.mp h with h | h
        · exact .inl (List.mem_append_right _ (h ▸ List.mem_singleton_self _))
        · exact .inr (List.mem_append_left _ h)
    · cases List.mem_singleton.mp hu
      exact .inr (List.mem_append_right _ ((hn _).mpr ⟨h3, i, c, h1, h2, rfl, h4⟩))
  · rcases I.base with h | h
    · exact .inl (List.mem_append_left _ h)
    · rcases List.mem_cons.mp h with h | h
      · exact .inl (List.mem_append_right _ (h ▸ List.mem_singleton_self _))
      · exact .inr (List.mem_append_left _ h)
theorem TI.full (I : TI ps [] T) : ∀ (k : Nat) (t : List Nat), t.length = (bare ps).length + k → Up ps t → t ∈ T := by
  intro k
  induction k with
  | zero =>
    intro t hl ht
    have : bare ps = t := (gm_sub ht.2.1).eq_of_length hl.symm
    rcases I.base with h | h
    · exact this ▸ h
    · cases h
  | succ k ih =>
    intro t hl ht
    obtain ⟨i, c, u, hi, e, hu⟩ := gm_lose ht.2.1 (by omega)
    have e : t = ins u i c := e
    subst e
    have hlen := ins_len (c := c) hi
    obtain ⟨b1, b2⟩ := bin_ins ht.1
    have h3 := ht.2.2
    have hu2 : u ∈ T := ih u (by omega) ⟨b1, hu, by omega⟩
    rcases I.clo u hu2 i c hi b2 (by omega) ht.2.1 with h | h
    · exact h
    · cases h
theorem TI.all (I : TI ps [] T) (t : List Nat) : t ∈ T ↔ Up ps t :=
  ⟨I.told t, fun h => I.full (t.length - (bare ps).length) t (by have := gm_len h.2.1; omega) h⟩

/-! what is left to do, at most -/
def wN (L n : Nat) : Nat := match n - L with
  | 0 => 1 + 2 * (L + 1) * (1 + 2 * (L + 2))
  | 1 => 1 + 2 * (L + 2)
  | _ => 1
def wt (ps : Pat) (t : List Nat) : Nat := wN (bare ps).length t.length
theorem wt_pos {t : List Nat} : 1 ≤ wt ps t := by
  unfold wt wN
  split <;> omega
def wts (ps : Pat) (es : List (List Nat)) : Nat := (es.map (wt ps)).sum
theorem wts_app {a b : List (List Nat)} : wts ps (a ++ b) = wts ps a + wts ps b := by
  unfold wts; rw [List.map_append, List.sum_append_nat]
theorem wts_len : ∀ {es : List (List Nat)}, es.length ≤ wts ps es
  | [] => Nat.le_refl _
  | e :: es => by
    have := wts_len (es := es)
    have := wt_pos (ps := ps) (t := e)
    show es.length + 1 ≤ wt ps e + wts ps es
    omega
theorem wts_same {n : Nat} : ∀ {es : List (List Nat)}, (∀ e ∈ es, e.length = n) → wts ps es = es.length * wN (bare ps).length n
  | [], _ => (Nat.zero_mul _).symm
  | e :: es, h => by
    have := wts_same (es := es) fun e he => h e (List.mem_cons_of_mem _ he)
    show wt ps e + wts ps es = (es.length + 1) * _
    rw [this, wt, h e List.mem_cons_self, Nat.add_mul, Nat.one_mul, Nat.add_comm]
theorem wts_perm {a b : List (List Nat)} (h : a.Perm b) : wts ps a = wts ps b := (h.map _).sum_nat
theorem wts_take {new : List (List Nat)} (hx : Up ps x) (hz : new.length ≤ 2 * (x.length + 1)) (hn : ∀ t ∈ new, t.length = x.length + 1) (h2 : x.length < (bare ps).length + 2 ∨ new = []) : wts ps new + 1 ≤ wt ps x := by
  rcases h2 with h2 | rfl
  · have h1 := gm_len hx.2.1
    rw [wts_same hn]
    unfold wt wN
    rcases (by omega : x.length = (bare ps).length ∨ x.length = (bare ps).length + 1) with e | e
    · rw [e, show (bare ps).length + 1 - (bare ps).length = 1 by omega, Nat.sub_self]
      rw [e] at hz
      show new.length * (1 + 2 * ((bare ps).length + 2)) + 1 ≤ 1 + 2 * ((bare ps).length + 1) * (1 + 2 * ((bare ps).length + 2))
      have := Nat.mul_le_mul_right (1 + 2 * ((bare ps).length + 2)) hz
      omega
    · rw [e, show (bare ps).length + 1 + 1 - (bare ps).length = 2 by omega, show (bare ps).length + 1 - (bare ps).length = 1 by omega]
      rw [e] at hz
      show new.length * 1 + 1 ≤ 1 + 2 * ((bare ps).length + 2)
      omega
  · exact wt_pos
theorem wt_start (h : (bare ps).length ≤ 12) : wt ps (bare ps) ≤ 755 := by
  unfold wt wN
  rw [Nat.sub_self]
  show 1 + 2 * ((bare ps).length + 1) * (1 + 2 * ((bare ps).length + 2)) ≤ 755
  have h1 : 2 * ((bare ps).length + 1) ≤ 26 := by omega
  have h2 : 1 + 2 * ((bare ps).length + 2) ≤ 29 := by omega
  have := Nat.mul_le_mul h1 h2
  omega
end
end Mine
end
section
namespace Mine

def cnt2 : Nat → Nat
  | 0 => 0
  | d + 1 => cnt2 d + 4 * d + 4
def cnt : Nat → Nat → Nat
  | 0, _ => 1
  | 1, d => 2 * d
  | _, d => cnt2 d
structure RS (ps : Pat) (rs : Nat → List (List Nat)) : Prop where
  row : ∀ k, k ≤ 2 → RowOk ps k (rs k)
  cnt : ∀ k, k ≤ 2 → (rs k).length ≤ Mine.cnt k (dotN ps)
  few : ∀ k, k ≤ 2 → (rs k).length < 64
def BP (ps : Pat) : Prop := ∀ c, some c ∈ ps → c = 97 ∨ c = 10
theorem BP.sok {ps : Pat} (h : BP ps) : SOk ps := fun c hc => by rcases h c hc with rfl | rfl <;> decide
theorem BP.bin : ∀ {ps : Pat}, BP ps → bin (bare ps)
  | [], _ => bin_nil
  | some c :: ps, h => fun d hd => by
    rcases List.mem_cons.mp hd with rfl | hd
    · exact h _ List.mem_cons_self
    · exact BP.bin (ps := ps) (fun c hc => h c (List.mem_cons_of_mem _ hc)) d hd
  | none :: ps, h => BP.bin (ps := ps) fun c hc => h c (List.mem_cons_of_mem _ hc)
theorem bare_le : ∀ ps : Pat, (bare ps).length ≤ ps.length
  | [] => Nat.le_refl _
  | some _ :: ps => Nat.succ_le_succ (bare_le ps)
  | none :: ps => Nat.le_succ_of_le (bare_le ps)

def rs0 : Nat → List (List Nat)
  | 0 => [[]]
  | _ => []
theorem RS.start : RS [] rs0 := by
  refine ⟨fun k hk => ?_, fun k hk => ?_, fun k hk => ?_⟩
  · match k, hk with
    | 0, _ => exact ⟨List.pairwise_singleton _ _, fun t => ⟨fun h => by cases List.mem_singleton.mp h; exact ⟨bin_nil, rfl, rfl⟩, fun ⟨_, h, _⟩ => by cases h; exact List.mem_singleton_self ([] : List Nat)⟩⟩
    | 1, _ => exact ⟨.nil, fun t => ⟨fun h => (by cases h), fun ⟨_, h, h2⟩ => by cases h; cases h2⟩⟩
    | 2, _ => exact ⟨.nil, fun t => ⟨fun h => (by cases h), fun ⟨_, h, h2⟩ => by cases h; cases h2⟩⟩
  · match k, hk with
    | 0, _ => exact Nat.le_refl 1
    | 1, _ => exact Nat.zero_le _
    | 2, _ => exact Nat.zero_le _
  · match k, hk with
    | 0, _ => show 1 < 64; decide
    | 1, _ => show 0 < 64; decide
    | 2, _ => show 0 < 64; decide
theorem RS.sign {ps : Pat} {rs : Nat → List (List Nat)} {c : Nat} (hc : c = 97 ∨ c = 10) (R : RS ps rs) : RS (ps ++ [some c]) fun k => (rs k).map (· ++ [c]) := by
  have hd : dotN (ps ++ [some c]) = dotN ps := dotN_app
  refine ⟨fun k hk => (R.row k hk).sign hc, fun k hk => ?_, fun k hk => ?_⟩
  · rw [List.length_map, hd]; exact R.cnt k hk
  · rw [List.length_map]; exact R.few k hk
theorem RS.len {ps : Pat} {rs : Nat → List (List Nat)} (R : RS ps rs) (hl : ps.length ≤ 100) : ∀ k, k ≤ 2 → ∀ u ∈ rs k, u.length ≤ 1000 := fun k hk u hu => by
  have := (((R.row k hk).mem u).mp hu).2.2
  have := bare_le ps
  omega
theorem RS.wide_cnt {ps : Pat} {rs : Nat → List (List Nat)} (R : RS ps rs) {e : Nat} (he : e ≤ 2) : (wide rs e).length ≤ Mine.cnt e (dotN ps + 1) := by
  have h0 : (rs 0).length ≤ 1 := R.cnt 0 (by decide)
  have h1 : (rs 1).length ≤ 2 * dotN ps := R.cnt 1 (by decide)
  have h2 : (rs 2).length ≤ cnt2 (dotN ps) := R.cnt 2 (by decide)
  obtain ⟨w0, w1, w2⟩ := wide_len (rs := rs)
  match e, he with
  | 0, _ => show _ ≤ 1; omega
  | 1, _ => show _ ≤ 2 * (dotN ps + 1); omega
  | 2, _ => show _ ≤ cnt2 (dotN ps) + 4 * dotN ps + 4; omega
theorem RS.wide_few {ps : Pat} {rs : Nat → List (List Nat)} (R : RS ps rs) {e : Nat} (he : e ≤ 2) : (wide rs e).length ≤ 500 := by
  have h0 := R.few 0 (by decide)
  have h1 := R.few 1 (by decide)
  have h2 := R.few 2 (by decide)
  obtain ⟨w0, w1, w2⟩ := wide_len (rs := rs)
  match e, he with
  | 0, _ => omega
  | 1, _ => omega
  | 2, _ => omega
theorem cnt_few : ∀ d, d < 6 → ∀ k, k < 3 → cnt k d < 64 := by decide
theorem RS.met_few {ps : Pat} {rs : Nat → List (List Nat)} (R : RS ps rs) (hb : bin (bare ps)) (hs : dotN ps + 1 ≤ 5 ∨ (bare ps).length < 8) {e : Nat} (he : e ≤ 2) : (met ((wide rs e).map tx) ((wide rs e).map tx).length).length < 64 := by
  rcases hs with hs | hs
  · have h1 := met_len ((wide rs e).map tx) ((wide rs e).map tx).length
    rw [List.length_map (as := wide rs e)] at h1
    have h2 := R.wide_cnt he
    have h3 := cnt_few (dotN ps + 1) (by omega) e (by omega)
    rw [List.length_map (as := wide rs e)]
    omega
  · obtain ⟨m1, m2⟩ := met_all (ss := (wide rs e).map tx)
    obtain ⟨r, hr⟩ := map_of_strs (met ((wide rs e).map tx) ((wide rs e).map tx).length)
    rw [hr] at m1 m2 ⊢
    rw [List.length_map]
    have hb2 : bare (ps ++ [none]) = bare ps := by rw [bare_app]; exact List.append_nil _
    refine bare_few (ps := ps ++ [none]) (k := e) (List.Pairwise.of_map tx (fun a b h (e : a = b) => h (by rw [e])) m1) (fun t ht => ?_) (by rw [hb2]; exact hb) (by rw [hb2]; exact hs) (by omega)
    obtain ⟨u, hu, e'⟩ := List.mem_map.mp ((m2 (tx t)).mp (List.mem_map_of_mem ht))
    exact (wide_mem he R.row t).mp (tx_inj' e' ▸ hu)

def w_dots : WS := sBlk [sNewL 4 [], sFor 5 (iUp (wDat (.int 3))) (sBlk [sAsg 6 w_texts, sExpr (wMeth kLst pAppend (wVar 4) [wSortS (wVar 6)])]), sAsg 2 (wVar 4)]
section
variable {c : Cx} {μ : Mem} {x0 x3 x4 x5 x6 : Option AV} {Z : KS}
theorem dots_ok {ps : Pat} {rs : Nat → List (List Nat)} (R : RS ps rs) (hb : bin (bare ps)) (hs : dotN ps + 1 ≤ 5 ∨ (bare ps).length < 8) (hl : ps.length ≤ 100)
    (next : ∀ rs' x4 x5 x6, RS (ps ++ [none]) rs' → Z .next [x0, some (.d (encR rn)), some (.d (encR rs')), x3, x4, x5, x6, none, none, none, none] (μ ++ [.dead])) :
    w_dots c [x0, some (.d (encR rn)), some (.d (encR rs)), x3, x4, x5, x6, none, none, none, none] μ Z := by
  have hline : (4000 : Nat) ≤ sizeLine := line20 (by decide)
  have hd : dotN (ps ++ [none]) = dotN ps + 1 := dotN_app
  refine ⟨3, rfl, by decide, ?_⟩
  refine for_mk (fun ds σ m => ∃ (e : Nat) (W : List (List (List Nat))) (x5 x6 : Option AV), ds = (List.range' e (3 - e)).map (fun (i : Nat) => .int (i : Int)) ∧ e ≤ 3 ∧ W.length = e ∧ (∀ i r, W[i]? = some r → RowOk (ps ++ [none]) i r ∧ r.length ≤ cnt i (dotN ps + 1) ∧ r.length < 64) ∧
    σ = [x0, some (.d (encR rn)), some (.d (encR rs)), x3, some (.h μ.length), x5, x6, none, none, none, none] ∧ m = μ ++ [.lst (W.map encC)]) ⟨0, [], _, _, rfl, by decide, rfl, fun i r h => (by cases h), rfl, rfl⟩ ?_ ?_
  · rintro d ds _ _ Y hn - - - ⟨e, W, y5, y6, e1, he, hW, hrow, rfl, rfl⟩
    obtain ⟨n, hn'⟩ | h3 : (∃ n, 3 - e = n + 1) ∨ 3 - e = 0 := by
      cases h : 3 - e with
      | zero => exact .inr rfl
      | succ n => exact .inl ⟨n, rfl⟩
    · rw [hn', range_step, List.map_cons] at e1
      cases e1
      have he2 : e ≤ 2 := by omega
      have hw := R.wide_few he2
      refine asg_says (texts_says (rs := rs) he2 (Nat.le_trans hw (by decide)) (R.len hl)) ?_
      refine And.intro ⟨_, lst_new, trivial⟩ ⟨(wide rs e).map tx, (List.map_map ..).symm, ?_, R.met_few hb hs he2, fun o p h => ?_⟩
      · rw [List.length_map]; show _ < 4096; omega
      · have hlen : o.length < 64 := by rw [p.length_eq]; exact R.met_few hb hs he2
        obtain ⟨r, rfl, r1, r2⟩ := sorted_rows p h
        rw [List.length_map] at hlen
        have hle : r.length ≤ cnt e (dotN ps + 1) := Nat.le_trans (nodup_le (List.Pairwise.imp (S := (· ≠ ·)) (fun {a b} h (e : a = b) => by subst e; exact List.lt_irrefl _ h) r1) fun t ht => (r2 t).mp ht) (R.wide_cnt he2)
        refine ⟨_, lst_new, ?_⟩
        refine And.intro (by rw [List.length_map, hW]; omega) ?_
        rw [set_new, List.map_map]
        refine hn _ _ ⟨e + 1, W ++ [r], _, _, ?_, by omega, by rw [List.length_append, hW]; rfl, fun i r' h => ?_, rfl, ?_⟩
        · rw [show 3 - (e + 1) = n by omega]
        · rcases get_append h with h | ⟨rfl, rfl⟩
          · exact hrow i r' h
          · rw [hW]; exact ⟨⟨r1, fun t => (r2 t).trans (wide_mem he2 R.row t)⟩, hle, hlen⟩
        · rw [List.map_append]; rfl
    · rw [h3] at e1; cases e1
  · rintro _ _ ⟨e, W, y5, y6, e1, he, hW, hrow, rfl, rfl⟩
    have h3 : 3 - e = 0 := by
      have := congrArg List.length e1
      rw [List.length_map, List.length_range'] at this
      exact this.symm
    have hW3 : W.length = 3 := by omega
    obtain ⟨a, b, d, rfl⟩ : ∃ a b d, W = [a, b, d] := by
      match W, hW3 with
      | [a, b, d], _ => exact ⟨a, b, d, rfl⟩
    refine ⟨_, lst_new, ?_⟩
    rw [set_new]
    have r0 := hrow 0 a rfl
    have r1 := hrow 1 b rfl
    have r2 := hrow 2 d rfl
    refine next (fun k => [a, b, d].getD k []) _ _ _ ⟨fun k hk => ?_, fun k hk => ?_, fun k hk => ?_⟩
    · match k, hk with
      | 0, _ => exact r0.1
      | 1, _ => exact r1.1
      | 2, _ => exact r2.1
    · rw [hd]
      match k, hk with
      | 0, _ => exact r0.2.1
      | 1, _ => exact r1.2.1
      | 2, _ => exact r2.2.1
    · match k, hk with
      | 0, _ => exact r0.2.2
      | 1, _ => exact r1.2.2
      | 2, _ => exact r2.2.2
end
end Mine
end
section
namespace Mine
theorem rows0_eq : PyData.list [.list [.str (Str.ofString "")], .list [], .list []] = encR rs0 := by
  rw [show Str.ofString "" = tx [] by decide]; rfl
section
variable {c : Cx} {μ : Mem}
/-- few dots, or few signs -/
def Few (ps : Pat) : Prop := dotN ps ≤ 5 ∨ (bare ps).length < 8
theorem sem_due {ps : Pat} (hp : BP ps) (hl : ps.length ≤ 100) (hf : Few ps) {k : KE} (hk : ∀ rs, RS ps rs → k (.d (encC (rs 0 ++ rs 1 ++ rs 2))) μ) : f_law_due c [.d (encP ps)] μ k := by
  refine ⟨rfl, ?_⟩
  have hline : (4000 : Nat) ≤ sizeLine := line20 (by decide)
  have e1 : ESays (wList [(wList [(wDat (.str ""))]), (wList [(wDat (.str "\n")), (wDat (.str "a"))]), (wList [(wDat (.str "\n\n")), (wDat (.str "\na")), (wDat (.str "a\n")), (wDat (.str "aa"))])]) c (initS 11 [.d (encP ps)]) μ (.d (encR rn)) := fun k hk => by
    rw [← runs_eq] at hk; exact hk
  refine asg_says (n := 1) e1 ?_
  have e2 : ESays (wList [(wList [(wDat (.str ""))]), (wList []), (wList [])]) c ((initS 11 [.d (encP ps)]).set 1 (some (.d (encR rn)))) μ (.d (encR rs0)) := fun k hk => by
    rw [← rows0_eq] at hk; exact hk
  refine asg_says (n := 2) e2 ?_
  refine for_mk (fun ds σ m => ∃ done rest rs x3 x4 x5 x6 ex, ps = done ++ rest ∧ ds = rest.map enc ∧ RS done rs ∧ σ = [some (.d (encP ps)), some (.d (encR rn)), some (.d (encR rs)), x3, x4, x5, x6, none, none, none, none] ∧ m = μ ++ ex) ⟨[], ps, rs0, none, none, none, none, [], rfl, rfl, .start, rfl, (List.append_nil _).symm⟩ ?_ ?_
  · rintro d ds _ _ Y hn - - - ⟨done, rest, rs, x3, x4, x5, x6, ex, hps, e, R, rfl, rfl⟩
    cases rest with
    | nil => cases e
    | cons u rest =>
      cases e
      have hld : done.length ≤ 100 := by rw [hps, List.length_append] at hl; omega
      have hu : ∀ d, u = some d → d = 97 ∨ d = 10 := fun d hd => hp d (by rw [hps, hd]; exact List.mem_append_right _ List.mem_cons_self)
      have hdone : BP done := fun d hd => hp d (by rw [hps]; exact List.mem_append_left _ hd)
      have hps' : ps = (done ++ [u]) ++ rest := by rw [hps, List.append_assoc]; rfl
      refine And.intro (enc_ok fun d hd => by rcases hu d hd with rfl | rfl <;> decide) ?_
      rw [enc_eqv]
      refine And.intro (fun h => ?_) (fun h => ?_)
      · cases of_decide_eq_true h
        have hs : dotN done + 1 ≤ 5 ∨ (bare done).length < 8 := by
          have h1 : dotN ps = dotN done + (dotN rest + 1) := by rw [hps]; exact dotN_app
          have h2 : bare ps = bare done ++ bare rest := by rw [hps]; exact bare_app
          rcases hf with hf | hf
          · exact .inl (by omega)
          · rw [h2, List.length_append] at hf; exact .inr (by omega)
        refine dots_ok (μ := μ ++ ex) R hdone.bin hs hld fun rs' y4 y5 y6 R' => ?_
        exact hn _ _ ⟨done ++ [none], rest, rs', _, _, _, _, ex ++ [.dead], hps', rfl, R', rfl, List.append_assoc ..⟩
      · cases u with
        | none => cases h
        | some d =>
          refine asg_says (n := 2) (rows_says (c := c) (μ := μ ++ ex) (rs := rs) (d := d) R.few (R.len hld)) ?_
          exact hn _ _ ⟨done ++ [some d], rest, _, _, _, _, _, ex, hps', rfl, R.sign (hu d rfl), rfl, rfl⟩
  · rintro _ _ ⟨done, rest, rs, x3, x4, x5, x6, ex, hps, e, R, rfl, rfl⟩
    cases rest with
    | cons _ _ => cases e
    | nil =>
      rw [List.append_nil] at hps
      subst hps
      have l0 := R.few 0 (by decide)
      have l1 := R.few 1 (by decide)
      have l2 := R.few 2 (by decide)
      refine idxP.dat (μ := μ) (n := 0) (by show 3 < 2 ^ 31; decide) rfl ?_
      refine idxP.dat (μ := μ) (n := 1) (by show 3 < 2 ^ 31; decide) rfl ?_
      refine And.intro (by rw [List.length_map, List.length_map]; omega) ?_
      refine idxP.dat (μ := μ) (n := 2) (by show 3 < 2 ^ 31; decide) rfl ?_
      refine And.intro (by rw [List.length_append, List.length_map, List.length_map, List.length_map]; omega) ?_
      have := hk rs R
      show k _ ((μ ++ ex).take μ.length)
      rw [List.take_left]
      unfold encC at this
      rw [List.map_append, List.map_append] at this
      exact this
end
end Mine
end
section
namespace Mine

def encQ (t : List Nat) : PyData := .tuple [.int t.length, .str (tx t)]
theorem encQ_E2 (t : List Nat) : E2 (encQ t) := ⟨_, _, rfl⟩
theorem keyQ (t : List Nat) : keyE (encQ t) = ⟨t.length, t, 0, 0⟩ := rfl
theorem sleQ {a b : List Nat} (h : ltE (encQ b) (encQ a) = false) : sle a b := by
  have h := ltE_false.mp h
  rw [keyQ, keyQ] at h
  rcases h with h | ⟨h1, h⟩
  · exact .inl (Int.ofNat_lt.mp h)
  · refine .inr ⟨Int.ofNat_inj.mp h1, ?_⟩
    rcases h with h | ⟨h, _⟩
    · exact List.lt_asymm h
    · show ¬ b < a
      rw [show a = b from h]; exact List.lt_irrefl _
theorem strOk_bin {t : List Nat} (h : bin t) : PyData.strOk (tx t) = true := strOk_tx fun c hc => by rcases h c hc with rfl | rfl <;> decide

/-- what a def may lean on -/
structure TC (c : Cx) (ps : Pat) : Prop where
  em : ∃ F, c.fns "_ellipsis_match" = some F ∧ ∀ t μ, bin t → t.length ≤ 1000 → Says F [.d (.str (tx (flat ps))), .d (.str (tx t))] μ (.d (.bool (emB (tx (flat ps)) (tx t)))) μ
  push : ∃ F, c.fns "heappush" = some F ∧ PushOk E2 F
  pop : ∃ F, c.fns "heappop" = some F ∧ PopOk E2 F

def cs (ps : Pat) (x : List Nat) (k d : Nat) : List (List Nat) := if emB (tx (flat ps)) (tx (ins x k d)) = true then [ins x k d] else []
def ck (ps : Pat) (x : List Nat) (k : Nat) : List (List Nat) := [97, 10].flatMap (cs ps x k)
def newQ (ps : Pat) (x : List Nat) : List (List Nat) := (List.range (x.length + 1)).flatMap (ck ps x)
theorem cs_len {ps : Pat} {x : List Nat} {k d : Nat} : (cs ps x k d).length ≤ 1 := by
  unfold cs; split
  · exact Nat.le_refl _
  · exact Nat.zero_le _
theorem ck_len {ps : Pat} {x : List Nat} {k : Nat} : (ck ps x k).length ≤ 2 := by
  unfold ck
  rw [List.flatMap_cons, List.flatMap_cons, List.flatMap_nil, List.append_nil, List.length_append]
  have h1 := cs_len (ps := ps) (x := x) (k := k) (d := 97)
  have h2 := cs_len (ps := ps) (x := x) (k := k) (d := 10)
  omega
theorem flat2_len {α β : Type} {f : α → List β} (h : ∀ a, (f a).length ≤ 2) : ∀ l : List α, (l.flatMap f).length ≤ 2 * l.length
  | [] => Nat.le_refl _
  | a :: l => by
    have := flat2_len h l
    have := h a
    rw [List.flatMap_cons, List.length_append, List.length_cons]; omega
theorem newQ_len {ps : Pat} {x : List Nat} : (newQ ps x).length ≤ 2 * (x.length + 1) := by
  have := flat2_len (f := ck ps x) (fun k => ck_len) (List.range (x.length + 1))
  rwa [List.length_range] at this
theorem newQ_mem {ps : Pat} {x : List Nat} (hs : SOk ps) {t : List Nat} : t ∈ newQ ps x ↔ ∃ i c, i ≤ x.length ∧ (c = 97 ∨ c = 10) ∧ t = ins x i c ∧ gm ps t := by
  unfold newQ
  rw [List.mem_flatMap]
  constructor
  · rintro ⟨k, hk, h⟩
    obtain ⟨d, hd, h⟩ := List.mem_flatMap.mp h
    unfold cs at h
    split at h
    · next he =>
      cases List.mem_singleton.mp h
      exact ⟨k, d, Nat.le_of_lt_succ (List.mem_range.mp hk), by simpa using hd, rfl, (emB_gm hs).mp he⟩
    · cases h
  · rintro ⟨i, d, hi, hd, rfl, hg⟩
    refine ⟨i, List.mem_range.mpr (Nat.lt_succ_of_le hi), List.mem_flatMap.mpr ⟨d, by simpa using hd, ?_⟩⟩
    unfold cs
    rw [if_pos ((emB_gm hs).mpr hg)]
    exact List.mem_singleton_self _

section
variable {c : Cx} {μ m : Mem} {σ : Lo} {R : KS} {TT : MO} {ps : Pat} {H : List PyData} {es : List (List Nat)}
/-- a push, if -/
theorem pif2 {F : List AV → Mem → KE → Prop} (hF : c.fns "heappush" = some F) (hP : PushOk E2 F) {T : WT} {tup : WE} {B : WS} {j : Nat} {L : List (List Nat)} {b : Bool} (hm : m[j]? = some (.lst H)) (hh : IsHeap ltE H) (hp : H.Perm (es.map encQ)) (hz : es.length < 2900)
    (hT : TSays T c σ m b) (hb : b = true → ∃ e, L = [e] ∧ ∀ k : List AV → Mem → Prop, k [.h j, .d (encQ e)] m → wArgs [wVar 2, tup] c σ m k) (hL : b = false → L = [])
    (next : ∀ H', IsHeap ltE H' → H'.Perm ((es ++ L).map encQ) → B c σ (m.set j (.lst H')) R) :
    sSeq (sIf T (sBlk [sExpr (wFn "heappush" [wVar 2, tup])]) (sBlk [])) B c σ m R := by
  refine hT _ ⟨fun e => ?_, fun e => ?_⟩
  · obtain ⟨x, rfl, ha⟩ := hb e
    obtain ⟨H', h1, h2, h3⟩ := hP H j m (encQ x) hm hh (fun y hy => by
      obtain ⟨z, _, rfl⟩ := List.mem_map.mp (hp.mem_iff.mp hy); exact encQ_E2 z) (encQ_E2 x) (by rw [hp.length_eq, List.length_map]; omega)
    refine ⟨F, hF, ha _ (h3 _ ?_)⟩
    refine next H' h1 ?_
    rw [List.map_append]
    exact (h2.trans (hp.cons _)).trans (List.perm_append_singleton _ _).symm
  · cases hL e
    have := next H hh (by rw [List.append_nil]; exact hp)
    rw [set_same hm] at this
    exact this

def w_sign : WS := sBlk [sAsg 8 (wBin addS (wBin addS (wCut cutT (wVar 5) none (some (wVar 6)) none) (wVar 7)) (wCut cutT (wVar 5) (some (wVar 6)) none none)),
  sIf (tTru trB (wFn "_ellipsis_match" [wVar 0, wVar 8])) (sBlk [sExpr (wFn "heappush" [wVar 2, wTup [wBin addI (wVar 4) (wDat (.int 1)), wVar 8]])]) (sBlk [])]
def w_ks : WS := sFor 6 (iUp (wBin addI (wVar 4) (wDat (.int 1)))) (sBlk [sFor 7 (iItems (wList [wDat (.str "a"), wDat (.str "\n")])) w_sign])

/-- the names in the loops -/
def lo (μ : Mem) (ps : Pat) (x : List Nat) (x6 x7 x8 : Option AV) : Lo := [some (.d (.str (tx (flat ps)))), some (.d (.str (tx (bare ps)))), some (.h μ.length), some (.h (μ.length + 1)), some (.d (.int (x.length : Int))), some (.d (.str (tx x))), x6, x7, x8]
def two (μ : Mem) (H : List PyData) (TT : MO) : Mem := μ ++ [.lst H, TT]
theorem two_h : (two μ H TT)[μ.length]? = some (.lst H) := by simp [two]
theorem two_set {H' : List PyData} : (two μ H TT).set μ.length (.lst H') = two μ H' TT := by simp [two]
theorem encQ_ins {x : List Nat} {k d : Nat} (h : k ≤ x.length) : encQ (ins x k d) = .tuple [.int ((x.length : Int) + 1), .str (tx (ins x k d))] := by
  unfold encQ; rw [ins_len h]; rfl

theorem sign_ok (C : TC c ps) {x : List Nat} {k d : Nat} {x8 : Option AV} (hx : bin x) (hd : d = 97 ∨ d = 10) (hk : k ≤ x.length) (hl : x.length ≤ 100) (hh : IsHeap ltE H) (hp : H.Perm (es.map encQ)) (hz : es.length < 2900)
    (next : ∀ H' x8, IsHeap ltE H' → H'.Perm ((es ++ cs ps x k d).map encQ) → R .next (lo μ ps x (some (.d (.int (k : Int)))) (some (.d (.str (tx [d])))) x8) (two μ H' TT)) :
    w_sign c (lo μ ps x (some (.d (.int (k : Int)))) (some (.d (.str (tx [d])))) x8) (two μ H TT) R := by
  obtain ⟨F, hF, hE⟩ := C.em
  obtain ⟨P, hP1, hP⟩ := C.push
  have hline : (1000 : Nat) ≤ sizeLine := line20 (by decide)
  have e1 : ESays (wBin addS (wBin addS (wCut cutT (wVar 5) none (some (wVar 6)) none) (wVar 7)) (wCut cutT (wVar 5) (some (wVar 6)) none none)) c (lo μ ps x (some (.d (.int (k : Int)))) (some (.d (.str (tx [d])))) x8) (two μ H TT) (.d (.str (tx (ins x k d)))) := fun kk hkk => by
    have hlen : (tx x).length ≤ sizeLine := by rw [tx_len]; omega
    refine And.intro rfl (And.intro hlen ?_)
    rw [cut_to hk]
    refine And.intro (by rw [tx_len, tx_len, List.length_take]; show _ + 1 ≤ _; omega) ?_
    rw [tx_append]
    refine And.intro rfl (And.intro hlen ?_)
    rw [cut_from]
    refine And.intro (by rw [tx_len, tx_len, List.length_append, List.length_take, List.length_drop]; show _ + 1 + _ ≤ _; omega) ?_
    rw [tx_append]
    exact hkk
  refine asg_says (n := 8) e1 ?_
  refine pif2 (m := two μ H TT) (L := cs ps x k d) (b := emB (tx (flat ps)) (tx (ins x k d))) hP1 hP two_h hh hp hz (fun kk hkk => ⟨F, hF, hE _ _ (ins_bin hx hd) (by rw [ins_len hk]; omega) _ hkk⟩) (fun hb => ⟨ins x k d, if_pos hb, fun kk hkk => ?_⟩) (fun hb => if_neg (by rw [hb]; decide)) fun H' h1 h2 => ?_
  · rw [encQ_ins hk] at hkk; exact hkk
  · rw [two_set]; exact next H' _ h1 h2
end
end Mine
end
section
namespace Mine
theorem signs_eq : [PyData.str (Str.ofString "a"), .str (Str.ofString "\n")] = [97, 10].map fun d => .str (tx [d]) := by
  rw [show Str.ofString "a" = tx [97] by decide, show Str.ofString "\n" = tx [10] by decide]; rfl
section
variable {c : Cx} {μ m : Mem} {σ : Lo} {R : KS} {TT : MO} {ps : Pat} {H : List PyData} {es : List (List Nat)} {x6 x7 x8 : Option AV}
theorem two_signs (C : TC c ps) {x : List Nat} {k : Nat} (hx : bin x) (hk : k ≤ x.length) (hl : x.length ≤ 100) (hh : IsHeap ltE H) (hp : H.Perm (es.map encQ)) (hz : es.length < 2800)
    (next : ∀ H' x7 x8, IsHeap ltE H' → H'.Perm ((es ++ ck ps x k).map encQ) → R .next (lo μ ps x (some (.d (.int (k : Int)))) x7 x8) (two μ H' TT)) :
    sFor 7 (iItems (wList [wDat (.str "a"), wDat (.str "\n")])) w_sign c (lo μ ps x (some (.d (.int (k : Int)))) x7 x8) (two μ H TT) R := by
  have items : ∀ kk : List PyData → Mem → Prop, kk ([97, 10].map fun d => .str (tx [d])) (two μ H TT) → iItems (wList [wDat (.str "a"), wDat (.str "\n")]) c (lo μ ps x (some (.d (.int (k : Int)))) x7 x8) (two μ H TT) kk := fun kk h => by
    rw [← signs_eq] at h; exact h
  refine items _ ?_
  refine for_mk (fun ds σ m => ∃ dl dn H' x7 x8, ds = (dl.map fun d => .str (tx [d])) ∧ dn ++ dl = [97, 10] ∧ IsHeap ltE H' ∧ H'.Perm ((es ++ dn.flatMap (cs ps x k)).map encQ) ∧ σ = lo μ ps x (some (.d (.int (k : Int)))) x7 x8 ∧ m = two μ H' TT)
    ⟨[97, 10], [], H, x7, x8, rfl, rfl, hh, by rw [List.flatMap_nil, List.append_nil]; exact hp, rfl, rfl⟩ ?_ ?_
  · rintro d ds _ _ Y hn - - - ⟨dl, dn, H', x7, x8, e1, e2, hh', hp', rfl, rfl⟩
    cases dl with
    | nil => cases e1
    | cons a dl =>
      cases e1
      have ha : a = 97 ∨ a = 10 := by
        have : a ∈ [97, 10] := by rw [← e2]; exact List.mem_append_right _ List.mem_cons_self
        simpa using this
      have hdn : dn.length ≤ 2 := by
        have := congrArg List.length e2
        rw [List.length_append] at this
        have h2 : [97, 10].length = 2 := rfl
        omega
      have hz2 : (es ++ dn.flatMap (cs ps x k)).length < 2900 := by
        have := flat2_len (f := cs ps x k) (fun d => Nat.le_trans cs_len (by decide)) dn
        rw [List.length_append]; omega
      refine sign_ok C hx ha hk hl hh' hp' hz2 fun H'' y8 h1 h2 => ?_
      refine hn _ _ ⟨dl, dn ++ [a], H'', _, _, rfl, by rw [List.append_assoc]; exact e2, h1, ?_, rfl, rfl⟩
      rw [List.flatMap_append, ← List.append_assoc]
      rw [List.flatMap_cons, List.flatMap_nil, List.append_nil]
      exact h2
  · rintro _ _ ⟨dl, dn, H', x7, x8, e1, e2, hh', hp', rfl, rfl⟩
    cases dl with
    | cons _ _ => cases e1
    | nil =>
      rw [List.append_nil] at e2
      subst e2
      exact next H' _ _ hh' hp'

theorem ks_ok (C : TC c ps) {x : List Nat} (hx : bin x) (hl : x.length ≤ 100) (hh : IsHeap ltE H) (hp : H.Perm (es.map encQ)) (hz : es.length < 2500)
    (next : ∀ H' x6 x7 x8, IsHeap ltE H' → H'.Perm ((es ++ newQ ps x).map encQ) → R .next (lo μ ps x x6 x7 x8) (two μ H' TT)) :
    w_ks c (lo μ ps x x6 x7 x8) (two μ H TT) R := by
  refine ⟨x.length + 1, rfl, by omega, ?_⟩
  refine for_mk (fun ds σ m => ∃ dl dn H' x6 x7 x8, ds = (dl.map fun (i : Nat) => .int (i : Int)) ∧ dn ++ dl = List.range (x.length + 1) ∧ IsHeap ltE H' ∧ H'.Perm ((es ++ dn.flatMap (ck ps x)).map encQ) ∧ σ = lo μ ps x x6 x7 x8 ∧ m = two μ H' TT)
    ⟨List.range (x.length + 1), [], H, x6, x7, x8, rfl, rfl, hh, by rw [List.flatMap_nil, List.append_nil]; exact hp, rfl, rfl⟩ ?_ ?_
  · rintro d ds _ _ Y hn - - - ⟨dl, dn, H', x6, x7, x8, e1, e2, hh', hp', rfl, rfl⟩
    cases dl with
    | nil => cases e1
    | cons a dl =>
      cases e1
      have ha : a ≤ x.length := by
        have : a ∈ List.range (x.length + 1) := by rw [← e2]; exact List.mem_append_right _ List.mem_cons_self
        exact Nat.le_of_lt_succ (List.mem_range.mp this)
      have hdn : dn.length ≤ x.length + 1 := by
        have := congrArg List.length e2
        rw [List.length_append, List.length_range] at this
        omega
      have hz2 : (es ++ dn.flatMap (ck ps x)).length < 2800 := by
        have := flat2_len (f := ck ps x) (fun d => ck_len) dn
        rw [List.length_append]; omega
      refine two_signs C hx ha hl hh' hp' hz2 fun H'' y7 y8 h1 h2 => ?_
      refine hn _ _ ⟨dl, dn ++ [a], H'', _, _, _, rfl, by rw [List.append_assoc]; exact e2, h1, ?_, rfl, rfl⟩
      rw [List.flatMap_append, ← List.append_assoc]
      rw [List.flatMap_cons, List.flatMap_nil, List.append_nil]
      exact h2
  · rintro _ _ ⟨dl, dn, H', x6, x7, x8, e1, e2, hh', hp', rfl, rfl⟩
    cases dl with
    | cons _ _ => cases e1
    | nil =>
      rw [List.append_nil] at e2
      subst e2
      exact next H' _ _ _ hh' hp'
end

/-! the tests -/
theorem heapQ_lay : ∀ {es : List (List Nat)}, (∀ e ∈ es, bin e) → PyData.canLayAll0 (es.map encQ) = true ∧ PyData.depthAll (es.map encQ) ≤ 1
  | [], _ => ⟨rfl, by decide⟩
  | e :: es, h => by
    obtain ⟨i1, i2⟩ := heapQ_lay (es := es) fun x hx => h x (List.mem_cons_of_mem _ hx)
    refine ⟨?_, ?_⟩
    · simp only [List.map_cons, PyData.canLayAll0, i1, Bool.and_true, encQ, PyData.canLay0, strOk_bin (h e List.mem_cons_self)]
    · simp only [List.map_cons, PyData.depthAll, encQ, PyData.depth]; omega
theorem last_ok {l : Option (List Nat)} {x : List Nat} (h : ∀ y, l = some y → bin y) (hx : bin x) : okEq (.list (l.toList.map encT)) (.list [encT x]) = true := by
  have hx := strOk_bin hx
  have e : (PyData.list [encT x]).canLay0 = true := by
    show (PyData.strOk (tx x) && true) = true
    rw [hx]; rfl
  unfold okEq
  cases l with
  | none => rw [e]; exact decide_eq_true (by show (1 : Nat) ≤ 64; decide)
  | some y =>
    have e2 : (PyData.list [encT y]).canLay0 = true := by
      show (PyData.strOk (tx y) && true) = true
      rw [strOk_bin (h y rfl)]; rfl
    show ((PyData.list [encT y]).canLay0 && _ && _) = true
    rw [e2, e]; exact decide_eq_true (by show Nat.max 0 0 + 1 ≤ 64; decide)
theorem last_eqv {l : Option (List Nat)} {x : List Nat} : PyData.eqv (.list (l.toList.map encT)) (.list [encT x]) = decide (l = some x) := by
  cases l with
  | none => rfl
  | some y =>
    show ((tx y == tx x) && true) = _
    by_cases h : y = x
    · subst h; simp
    · rw [beq_eq_false_iff_ne.mpr (fun e => h (tx_inj.mp e))]; simp [h]
end Mine
end
section
namespace Mine
def w_turn : WS := sBlk [sUnpk [4, 5] (wFn "heappop" [wVar 2]), sIf (tCmp (wCmp neV (wCut cutL (wVar 3) (some (wNeg (wDat (.int 1)))) none none) (wList [wVar 5]))) (sBlk [sExpr (wMeth kLst pAppend (wVar 3) [wVar 5]),
  sIf (tCmp (wCmp ltI (wVar 4) (wBin addI (wB1 lenS (wVar 1)) (wDat (.int 2))))) (sBlk [w_ks]) (sBlk [])]) (sBlk [])]
theorem pop_q {H H' : List PyData} {x : PyData} {es : List (List Nat)} (p : H.Perm (es.map encQ)) (q : (x :: H').Perm H) : ∃ e es', x = encQ e ∧ es.Perm (e :: es') ∧ H'.Perm (es'.map encQ) := by
  have hx : x ∈ es.map encQ := p.mem_iff.mp (q.mem_iff.mp List.mem_cons_self)
  obtain ⟨e, he, rfl⟩ := List.mem_map.mp hx
  have pe := List.perm_cons_erase he
  refine ⟨e, es.erase e, rfl, pe, ?_⟩
  have := (q.trans p).trans (pe.map encQ)
  rw [List.map_cons] at this
  exact this.cons_inv
section
variable {c : Cx} {μ m : Mem} {σ : Lo} {R : KS} {ps : Pat} {x6 x7 x8 : Option AV}
def told (T : List (List Nat)) : MO := .lst (T.map encT)
theorem two_t {H : List PyData} {TT : MO} : (two μ H TT)[μ.length + 1]? = some TT := by
  unfold two
  rw [List.getElem?_append_right (Nat.le_add_right μ.length 1), Nat.add_sub_cancel_left]; rfl
theorem two_set_t {H : List PyData} {TT TT' : MO} : (two μ H TT).set (μ.length + 1) TT' = two μ H TT' := by
  unfold two
  rw [List.set_append_right _ _ (Nat.le_add_right μ.length 1), Nat.add_sub_cancel_left]; rfl

def TInv (ps : Pat) (μ : Mem) (n : Nat) (σ : Lo) (m : Mem) : Prop := ∃ es T H x4 x5 x6 x7 x8, σ = [some (.d (.str (tx (flat ps)))), some (.d (.str (tx (bare ps)))), some (.h μ.length), some (.h (μ.length + 1)), x4, x5, x6, x7, x8] ∧
  m = two μ H (told T) ∧ IsHeap ltE H ∧ H.Perm (es.map encQ) ∧ TI ps es T ∧ wts ps es ≤ n ∧ T.length + wts ps es ≤ 755

theorem last_says {H : List PyData} {T : List (List Nat)} {t : List Nat} (hT : ∀ u ∈ T, bin u) (ht : bin t) (hz : T.length ≤ 755) :
    TSays (tCmp (wCmp neV (wCut cutL (wVar 3) (some (wNeg (wDat (.int 1)))) none none) (wList [wVar 5]))) c (lo μ ps t x6 x7 x8) (two μ H (told T)) (!decide (T.getLast? = some t)) := fun k hk => by
  have e : pickL (T.map encT) (some (-(1 : Int))) none none = T.getLast?.toList.map encT := by
    rw [show (-(1 : Int)) = -1 from rfl, pick_last, List.getLast?_map]
    cases T.getLast? <;> rfl
  have hline : (1000 : Nat) ≤ sizeLine := line20 (by decide)
  refine ⟨T.map encT, two_t, nofun, by rw [List.length_map]; omega, ?_⟩
  rw [e]
  refine And.intro (last_ok (fun y hy => hT y (List.mem_of_getLast? hy)) ht) ?_
  show k (!PyData.eqv (.list (T.getLast?.toList.map encT)) (.list [encT t])) (two μ H (told T))
  rw [last_eqv]; exact hk

theorem turn_told (C : TC c ps) (hp : BP ps) (hb : (bare ps).length ≤ 12) {n : Nat} {H : List PyData} {es T : List (List Nat)} {x4 x5 : Option AV} (hH : IsHeap ltE H) (hperm : H.Perm (es.map encQ)) (I : TI ps es T) (hw : wts ps es ≤ n) (hz : T.length + wts ps es ≤ 755) (hne : H ≠ [])
    (hn : ∀ j σ m, j < n → TInv ps μ j σ m → R .next σ m) :
    w_turn c [some (.d (.str (tx (flat ps)))), some (.d (.str (tx (bare ps)))), some (.h μ.length), some (.h (μ.length + 1)), x4, x5, x6, x7, x8] (two μ H (told T)) R := by
  obtain ⟨F, hF, hP⟩ := C.pop
  have hlen : es.length ≤ 755 := Nat.le_trans (wts_len (ps := ps)) (by omega)
  have hline : (1000 : Nat) ≤ sizeLine := line20 (by decide)
  obtain ⟨x, H', h1, h2, h3, hS⟩ := hP H μ.length (two μ H (told T)) two_h hH (fun y hy => by
    obtain ⟨z, _, rfl⟩ := List.mem_map.mp (hperm.mem_iff.mp hy); exact encQ_E2 z) hne (by rw [hperm.length_eq, List.length_map]; omega)
  obtain ⟨t, es', rfl, p1, p2⟩ := pop_q hperm h2
  have I' : TI ps (t :: es') T := I.mem fun e => p1.mem_iff
  have ht := I'.inq t List.mem_cons_self
  have hwp : wts ps es = wt ps t + wts ps es' := wts_perm p1
  have hl := ht.2.2
  have hle : ∀ e ∈ es', sle t e := fun e he => sleQ (h3 (encQ e) (hperm.mem_iff.mpr (List.mem_map_of_mem (p1.mem_iff.mpr (List.mem_cons_of_mem _ he)))))
  refine ⟨F, hF, hS _ (And.intro rfl ?_)⟩
  rw [two_set]
  have hbT : ∀ u ∈ T, bin u := fun u hu => (I.told u hu).1
  have h1t := wt_pos (ps := ps) (t := t)
  refine last_says (ps := ps) (H := H') (T := T) (t := t) hbT ht.1 (by omega) _ ⟨fun h => ?_, fun h => ?_⟩
  · have hlast : T.getLast? ≠ some t := of_decide_eq_false ((Bool.not_eq_true' _).mp h)
    refine And.intro ⟨_, two_t, trivial⟩ ⟨_, two_t, And.intro (by rw [List.length_map]; omega) ?_⟩
    rw [two_set_t]
    have e : (MO.lst (T.map encT ++ [PyData.str (tx t)])) = told (T ++ [t]) := by unfold told; rw [List.map_append]; rfl
    rw [e]
    have eL : (tx (bare ps)).length = (bare ps).length := tx_len
    have lt : TSays (tCmp (wCmp ltI (wVar 4) (wBin addI (wB1 lenS (wVar 1)) (wDat (.int 2))))) c (lo μ ps t x6 x7 x8) (two μ H' (told (T ++ [t]))) (decide ((t.length : Int) < ((tx (bare ps)).length : Int) + 2)) := fun k hk =>
      And.intro (by rw [eL]; omega) hk
    refine lt _ ⟨fun hlt => ?_, fun hlt => ?_⟩
    · have hlt : t.length < (bare ps).length + 2 := by have := of_decide_eq_true hlt; rw [eL] at this; omega
      refine ks_ok C ht.1 (by omega) h1 p2 (by have := p1.length_eq; rw [List.length_cons] at this; omega) fun H'' y6 y7 y8 q1 q2 => ?_
      have hwt := wts_take (new := newQ ps t) ht newQ_len (fun u hu => by
        obtain ⟨i, d, hi, _, rfl, _⟩ := (newQ_mem hp.sok).mp hu
        exact ins_len hi) (.inl hlt)
      have hap : wts ps (es' ++ newQ ps t) = wts ps es' + wts ps (newQ ps t) := wts_app
      refine hn (wts ps (es' ++ newQ ps t)) _ _ (by omega) ⟨es' ++ newQ ps t, T ++ [t], H'', _, _, _, _, _, rfl, rfl, q1, q2, I'.take hle hlast fun u => ?_, Nat.le_refl _, ?_⟩
      · exact (newQ_mem hp.sok).trans ⟨fun h => ⟨hlt, h⟩, fun h => h.2⟩
      · rw [List.length_append]; show T.length + 1 + _ ≤ _; omega
    · have hlt : ¬ t.length < (bare ps).length + 2 := by have := of_decide_eq_false hlt; rw [eL] at this; omega
      refine hn (wts ps es') _ _ (by omega) ⟨es', T ++ [t], H', _, _, _, _, _, rfl, rfl, h1, p2, ?_, Nat.le_refl _, ?_⟩
      · have := I'.take (new := []) hle hlast fun u => ⟨fun h => (by cases h), fun h => absurd h.1 hlt⟩
        rw [List.append_nil] at this
        exact this
      · rw [List.length_append]; show T.length + 1 + _ ≤ _; omega
  · have hlast : T.getLast? = some t := of_decide_eq_true ((Bool.not_eq_false' _).mp h)
    exact hn (wts ps es') _ _ (by omega) ⟨es', T, H', _, _, _, _, _, rfl, rfl, h1, p2, I'.skip hlast, Nat.le_refl _, by omega⟩
end
end Mine
end
section
namespace Mine
section
variable {c : Cx} {μ m : Mem} {σ : Lo} {R : KS} {ps : Pat} {B : WS} {n : Nat}
theorem newL_says (q : B c (σ.set n (some (.h m.length))) (m ++ [.lst []]) R) : sSeq (sNewL n []) B c σ m R := q
theorem sem_told (C : TC c ps) (hp : BP ps) (hl : ps.length ≤ 100) (hb : (bare ps).length ≤ 12) {k : KE} (hk : ∀ T, T.Pairwise slt → (∀ t, t ∈ T ↔ Up ps t) → k (.d (encC T)) μ) : f_law_told c [.d (.str (tx (flat ps)))] μ k := by
  refine ⟨rfl, ?_⟩
  obtain ⟨F, hF, hE⟩ := C.em
  obtain ⟨P, hP1, hP⟩ := C.push
  have hg : emB (tx (flat ps)) (tx (bare ps)) = true := (emB_gm hp.sok).mpr gm_bare
  have e1 : ESays (wRepl (wVar 0) "..." "") c (initS 9 [.d (.str (tx (flat ps)))]) μ (.d (.str (tx (bare ps)))) := fun kk hkk => by
    rw [← segs_bare, ← replace_bare hp.sok, show tx [] = Str.ofString "" by decide] at hkk
    refine And.intro ?_ hkk
    have := flat_len ps
    rw [tx_len]
    show _ + (_ + 1) * 0 ≤ _
    omega
  refine asg_says (n := 1) e1 (newL_says ?_)
  refine pif2 (c := c) (σ := [some (.d (.str (tx (flat ps)))), some (.d (.str (tx (bare ps)))), some (.h μ.length), none, none, none, none, none, none]) (T := tTru trB (wFn "_ellipsis_match" [wVar 0, wVar 1])) (tup := wTup [wB1 lenS (wVar 1), wVar 1]) (m := μ ++ [.lst []]) (j := μ.length) (H := []) (es := []) (L := [bare ps]) (b := emB (tx (flat ps)) (tx (bare ps))) hP1 hP lst_new (fun i _ hi => (by cases hi)) .nil (by decide) (fun kk hkk => ⟨F, hF, hE _ _ hp.bin (by omega) _ hkk⟩)
    (fun _ => ⟨bare ps, rfl, fun kk hkk => ?_⟩) (fun h => by rw [hg] at h; cases h) fun H' h1 h2 => ?_
  · have e : encQ (bare ps) = .tuple [.int ((tx (bare ps)).length : Nat), .str (tx (bare ps))] := by unfold encQ; rw [tx_len]
    rw [e] at hkk
    exact And.intro (by rw [tx_len]; omega) hkk
  · rw [set_new]
    refine newL_says ?_
    rw [show (μ ++ [MO.lst H']).length = μ.length + 1 from List.length_append, show (μ ++ [MO.lst H']) ++ [MO.lst []] = two μ H' (told []) from List.append_assoc ..]
    have hw : wts ps [bare ps] ≤ 755 := wt_start hb
    refine while_mk (TInv ps μ) 755 ⟨[bare ps], [], H', none, none, none, none, none, rfl, rfl, h1, h2, .start hp.bin, hw, by rw [List.length_nil, Nat.zero_add]; exact hw⟩ ?_
    rintro n _ _ Z hn - - - ⟨es, T, H, x4, x5, x6, x7, x8, rfl, rfl, hH, hperm, I, hw, hz⟩
    obtain ⟨y1, y2⟩ := heapQ_lay (es := es) fun e he => (I.inq e he).1
    obtain ⟨z1, z2⟩ := lay_perm hperm
    refine ⟨H, two_h, heap_ok (z1.trans y1) (by rw [z2]; exact y2), ?_⟩
    rw [heap_eqv]
    refine ⟨fun h => ?_, fun h => ?_⟩
    · refine turn_told C hp hb hH hperm I hw hz (fun e => by subst e; cases h) fun j σ m hj hI => ?_
      exact hn j σ m hj hI
    · have hH0 : H = [] := by
        cases H with
        | nil => rfl
        | cons _ _ => cases h
      subst hH0
      have hes : es = [] := List.map_eq_nil_iff.mp (List.nil_perm.mp hperm)
      subst hes
      refine ⟨T.map encT, two_t, Nat.le_succ _, ?_⟩
      have := hk T I.up I.all
      unfold two
      rw [List.take_left]
      exact this
end
end Mine
end
section
namespace Mine

theorem pick_map {α β : Type} {f : α → β} {xs : List α} {lo hi st : Option Int} : pickL (xs.map f) lo hi st = (pickL xs lo hi st).map f := by
  unfold pickL
  rw [List.length_map, List.map_filterMap]
  congr 1
  funext i
  rw [List.getElem?_map]
theorem pick_ten {α : Type} {xs : List α} : (pickL xs none (some 10) none).length ≤ 10 := by
  unfold pickL
  refine Nat.le_trans (List.length_filterMap_le _ _) ?_
  rw [sliceBounds_plain, sliceRange_one, List.length_map, List.length_range]
  show clipAt _ ((10 : Nat) : Int) - 0 ≤ 10
  rw [clip_nat]; omega
theorem texts_lay {tl : List (List Nat)} (h : ∀ t ∈ tl, bin t) : PyData.canLayAll0 (tl.map encT) = true ∧ PyData.depthAll (tl.map encT) ≤ 1 := by
  induction tl with
  | nil => exact ⟨rfl, by decide⟩
  | cons t tl ih =>
    obtain ⟨i1, i2⟩ := ih fun t ht => h t (List.mem_cons_of_mem _ ht)
    refine ⟨?_, ?_⟩
    · simp only [List.map_cons, PyData.canLayAll0, encT, PyData.canLay0, strOk_bin (h t List.mem_cons_self), Bool.true_and]; exact i1
    · simp only [List.map_cons, PyData.depthAll, encT, PyData.depth]
      have : PyData.depthAll (tl.map fun t => .str (tx t)) ≤ 1 := i2
      exact Nat.max_le.mpr ⟨Nat.zero_le _, this⟩
theorem texts_self {tl : List (List Nat)} (h : ∀ t ∈ tl, bin t) : okEq (encC tl) (encC tl) = true ∧ PyData.eqv (encC tl) (encC tl) = true := by
  obtain ⟨i1, i2⟩ := texts_lay h
  refine ⟨?_, ?_⟩
  · unfold okEq
    rw [show (encC tl).canLay0 = true from i1]
    exact decide_eq_true (Nat.le_trans (Nat.succ_le_succ i2) (by decide))
  · clear i1 i2 h
    show PyData.eqvAll _ _ = true
    induction tl with
    | nil => rfl
    | cons t tl ih =>
      show (tx t == tx t && PyData.eqvAll _ _) = true
      rw [beq_self_eq_true, ih]; rfl

/-! ### the plain law -/
theorem rows_all {ps : Pat} {rs : Nat → List (List Nat)} (R : RS ps rs) : (rs 0 ++ rs 1 ++ rs 2).Pairwise slt ∧ ∀ t, t ∈ rs 0 ++ rs 1 ++ rs 2 ↔ Up ps t := by
  have hl : ∀ k, k ≤ 2 → ∀ t ∈ rs k, t.length = (bare ps).length + k := fun k hk t ht => (((R.row k hk).mem t).mp ht).2.2
  have one : ∀ k, k ≤ 2 → (rs k).Pairwise slt := fun k hk => (R.row k hk).up.imp_of_mem fun {a b} ha hb h => .inr ⟨(hl k hk a ha).trans (hl k hk b hb).symm, h⟩
  have two : ∀ i j, i < j → j ≤ 2 → ∀ a ∈ rs i, ∀ b ∈ rs j, slt a b := fun i j hij hj a ha b hb => .inl (by have := hl i (by omega) a ha; have := hl j hj b hb; omega)
  refine ⟨List.pairwise_append.mpr ⟨List.pairwise_append.mpr ⟨one 0 (by omega), one 1 (by omega), two 0 1 (by omega) (by omega)⟩, one 2 (by omega), fun a ha b hb => ?_⟩, fun t => ?_⟩
  · rcases List.mem_append.mp ha with ha | ha
    · exact two 0 2 (by omega) (by omega) a ha b hb
    · exact two 1 2 (by omega) (by omega) a ha b hb
  · rw [List.mem_append, List.mem_append, (R.row 0 (by omega)).mem, (R.row 1 (by omega)).mem, (R.row 2 (by omega)).mem]
    unfold InRow Up
    constructor
    · rintro ((⟨h1, h2, h3⟩ | ⟨h1, h2, h3⟩) | ⟨h1, h2, h3⟩) <;> exact ⟨h1, h2, by omega⟩
    · rintro ⟨h1, h2, h3⟩
      have h4 := gm_len h2
      rcases (by omega : t.length = (bare ps).length + 0 ∨ t.length = (bare ps).length + 1 ∨ t.length = (bare ps).length + 2) with e | e | e
      · exact .inl (.inl ⟨h1, h2, e⟩)
      · exact .inl (.inr ⟨h1, h2, e⟩)
      · exact .inr ⟨h1, h2, e⟩

theorem pc2_bp (ns : List Int) : BP (ns.map pc2) := fun c hc => by
  obtain ⟨n, _, h⟩ := List.mem_map.mp hc
  unfold pc2 at h
  split at h
  · cases h; exact .inl rfl
  · split at h
    · cases h; exact .inr rfl
    · cases h
theorem bare_dot : ∀ ps : Pat, (bare ps).length + dotN ps = ps.length
  | [] => rfl
  | some c :: ps => by have := bare_dot ps; show (bare ps).length + 1 + dotN ps = ps.length + 1; omega
  | none :: ps => by have := bare_dot ps; show (bare ps).length + (dotN ps + 1) = ps.length + 1; omega
theorem BP.app {p q : Pat} (hp : BP p) (hq : BP q) : BP (p ++ q) := fun c hc => (List.mem_append.mp hc).elim (hp c) (hq c)
theorem pat2_ok {ns : List Int} (h : ns.length ≤ 10) : BP (pat2 ns) ∧ (pat2 ns).length ≤ 13 ∧ Few (pat2 ns) ∧ (bare (pat2 ns)).length ≤ 12 := by
  have h1 := bare_dot (ns.map pc2)
  rw [List.length_map] at h1
  have hb := pc2_bp ns
  have hz : (ns.map pc2).length = ns.length := List.length_map ..
  unfold pat2 Few
  rw [List.length_append, dotN_app, bare_app, List.length_append]
  cases odd2 ns
  · refine ⟨hb.app (q := [some 97, none, some 10]) fun c hc => by simpa using hc, ?_, ?_, ?_⟩
    · show _ + 3 ≤ 13; omega
    · show _ + 1 ≤ 5 ∨ _ + 2 < 8; omega
    · show _ + 2 ≤ 12; omega
  · refine ⟨hb.app (q := [some 97, some 10]) fun c hc => by simpa using hc, ?_, ?_, ?_⟩
    · show _ + 2 ≤ 13; omega
    · show _ + 0 ≤ 5 ∨ _ + 2 < 8; omega
    · show _ + 2 ≤ 12; omega

section
variable {c : Cx} {μ : Mem}
theorem sem_law2 {l : List Int} {P T D : List AV → Mem → KE → Prop} {Q : KS} (hl : l.length ≤ 1000) (hP : c.fns "_law_pieces" = some P) (hT : c.fns "_law_told" = some T) (hD : c.fns "_law_due" = some D)
    (kP : ∀ ns : List Int, ns.length ≤ 4096 → Says P [.d (.list (ns.map .int))] μ (.d (encP (pat2 ns))) μ)
    (kT : ∀ ps : Pat, BP ps → ps.length ≤ 100 → (bare ps).length ≤ 12 → ∀ k : KE, (∀ L, L.Pairwise slt → (∀ t, t ∈ L ↔ Up ps t) → k (.d (encC L)) μ) → T [.d (.str (tx (flat ps)))] μ k)
    (kD : ∀ ps : Pat, BP ps → ps.length ≤ 100 → Few ps → ∀ k : KE, (∀ rs, RS ps rs → k (.d (encC (rs 0 ++ rs 1 ++ rs 2))) μ) → D [.d (encP ps)] μ k)
    (hQ : ∀ σ, Q (.ret (.d (.bool true))) σ μ) : w_law c (initS 2 [.d (.list (l.map .int))]) μ Q := by
  have hz : (pickL l none (some 10) none).length ≤ 10 := pick_ten
  have hll : (l.map PyData.int).length ≤ sizeLine := by rw [List.length_map]; exact line20 (by omega)
  obtain ⟨b1, b2, b3, b4⟩ := pat2_ok hz
  have e1 : ESays (wFn "_law_pieces" [(wCut cutL (wVar 0) none (some (wDat (.int 10))) none)]) c (initS 2 [.d (.list (l.map .int))]) μ (.d (encP (pat2 (pickL l none (some 10) none)))) := fun k hk => by
    refine ⟨P, hP, nofun, hll, ?_⟩
    rw [pick_map]
    exact kP _ (by omega) _ hk
  refine asg_says (n := 1) e1 ?_
  generalize pat2 (pickL l none (some 10) none) = ps at b1 b2 b3 b4 ⊢
  refine ⟨T, hT, trivial, (ps.map unit).map tx, enc_strs ps, joinOk_pat (by omega), ?_⟩
  rw [join_pat]
  refine kT ps b1 (by omega) b4 _ fun L hL1 hL2 => ?_
  refine ⟨D, hD, kD ps b1 (by omega) b3 _ fun rs R => ?_⟩
  obtain ⟨r1, r2⟩ := rows_all R
  have e : rs 0 ++ rs 1 ++ rs 2 = L := rise_ext slt_irrefl (fun h1 h2 => slt_trans h1 h2) r1 hL1 fun t => (r2 t).trans (hL2 t).symm
  rw [e]
  obtain ⟨t1, t2⟩ := texts_self (tl := L) fun t ht => ((hL2 t).mp ht).1
  refine And.intro t1 ?_
  rw [t2]
  exact hQ _
end

/-! ### the defs in their place -/
def names2 : List Str := ["heappush", "heappop", "_siftdown", "_siftup", "_ellipsis_match", "_law_pieces", "_law_told", "_law_due"]
def defs2 : List (WS × Nat × Nat) := [(w_heappush, 2, 2), (w_heappop, 1, 3), (w_siftdown, 3, 6), (w_siftup, 2, 7), (w_ellipsis_match, 2, 6), (w_law_pieces, 1, 3), (w_law_told, 1, 9), (w_law_due, 1, 11)]
def cst2 (x : Str) : Option PyData := if x = "ELLIPSIS_MARKER" then some (.str dots) else none
def cxs2 : Nat → Cx
  | 0 => ⟨fun _ => none, cst2, false⟩
  | n + 1 => ⟨fun f => defs2[names2.idxOf f]?.map fun p => mfun p.1 p.2.1 p.2.2 (cxs2 n), cst2, false⟩
theorem cxs2_cst (n : Nat) : (cxs2 n).cst = cst2 := by cases n <;> rfl
theorem cxs2_lam (n : Nat) : (cxs2 n).lam = false := by cases n <;> rfl
theorem cx2 {n : Nat} {f : Str} (i : Nat) {p : WS × Nat × Nat} (h : names2.idxOf f = i) (hp : defs2[i]? = some p) : (cxs2 (n + 1)).fns f = some (mfun p.1 p.2.1 p.2.2 (cxs2 n)) := by
  show (defs2[names2.idxOf f]?).map _ = _
  rw [h, hp]; rfl
section
variable {n : Nat}
theorem c_push : (cxs2 (n + 1)).fns "heappush" = some (f_heappush (cxs2 n)) := cx2 0 (by decide +kernel) rfl
theorem c_pop : (cxs2 (n + 1)).fns "heappop" = some (f_heappop (cxs2 n)) := cx2 1 (by decide +kernel) rfl
theorem c_sd : (cxs2 (n + 1)).fns "_siftdown" = some (f_siftdown (cxs2 n)) := cx2 2 (by decide +kernel) rfl
theorem c_su : (cxs2 (n + 1)).fns "_siftup" = some (f_siftup (cxs2 n)) := cx2 3 (by decide +kernel) rfl
theorem c_em : (cxs2 (n + 1)).fns "_ellipsis_match" = some (f_ellipsis_match (cxs2 n)) := cx2 4 (by decide +kernel) rfl
theorem c_pc : (cxs2 (n + 1)).fns "_law_pieces" = some (f_law_pieces (cxs2 n)) := cx2 5 (by decide +kernel) rfl
theorem c_to : (cxs2 (n + 1)).fns "_law_told" = some (f_law_told (cxs2 n)) := cx2 6 (by decide +kernel) rfl
theorem c_du : (cxs2 (n + 1)).fns "_law_due" = some (f_law_due (cxs2 n)) := cx2 7 (by decide +kernel) rfl
end
theorem law2_means {μ : Mem} {l : List Int} {Q : KS} (hl : l.length ≤ 1000) (hQ : ∀ σ, Q (.ret (.d (.bool true))) σ μ) : w_law (cxs2 5) (initS 2 [.d (.list (l.map .int))]) μ Q := by
  have hcst : ∀ n, (cxs2 n).cst "ELLIPSIS_MARKER" = some (.str dots) := fun n => by rw [cxs2_cst]; exact if_pos rfl
  refine sem_law2 hl c_pc c_to c_du (fun ns hn => sem_pieces2 hn) (fun ps h1 h2 h3 k hk => sem_told ?_ h1 h2 h3 hk) (fun ps h1 h2 h3 k hk => sem_due h1 h2 h3 hk) hQ
  refine ⟨⟨_, c_em, fun t μ ht hz => ell_ok (hcst _) h1.sok (by omega) (by omega) fun c hc => ?_⟩, ⟨_, c_push, push_ok ordE2 c_sd⟩, ⟨_, c_pop, pop_ok ordE2 c_su c_sd⟩⟩
  rcases ht c hc with rfl | rfl <;> decide
end Mine
end
section
set_option maxRecDepth 100000
namespace Mine
theorem len1 {vs : List Value} (h : vs.length = 1) : ∃ a, vs = [a] := by
  rcases vs with _ | ⟨a, _ | ⟨b, vs⟩⟩
  · cases h
  · exact ⟨a, rfl⟩
  · cases h
theorem len2 {vs : List Value} (h : vs.length = 2) : ∃ a b, vs = [a, b] := by
  rcases vs with _ | ⟨a, vs⟩
  · cases h
  · obtain ⟨b, rfl⟩ := len1 (Nat.succ.inj h); exact ⟨a, b, rfl⟩
theorem len3 {vs : List Value} (h : vs.length = 3) : ∃ a b c, vs = [a, b, c] := by
  rcases vs with _ | ⟨a, vs⟩
  · cases h
  · obtain ⟨b, c, rfl⟩ := len2 (Nat.succ.inj h); exact ⟨a, b, c, rfl⟩

theorem f2_1 {h : Heap} {P : Params} (X : (hd.heap_39 P).In h) : ∃ o fd, FnAt h 21 o fd (ns_heappush.take 2) (stScope (stAt2 1)) (stBody (stAt2 1)) :=
  ⟨_, _, ⟨X 21 _ (by rfl), by rfl, by rfl, by rfl, by rfl, by rfl, by rfl, codeRec_of X (by rfl), fun vals hv => by obtain ⟨a, b, rfl⟩ := len2 hv; rfl, by rfl, by rfl, by rfl, by decide +kernel, by decide +kernel, by decide +kernel, fun e => absurd e (by decide +kernel)⟩⟩
theorem f2_2 {h : Heap} {P : Params} (X : (hd.heap_39 P).In h) : ∃ o fd, FnAt h 28 o fd (ns_heappop.take 1) (stScope (stAt2 2)) (stBody (stAt2 2)) :=
  ⟨_, _, ⟨X 28 _ (by rfl), by rfl, by rfl, by rfl, by rfl, by rfl, by rfl, codeRec_of X (by rfl), fun vals hv => by obtain ⟨a, rfl⟩ := len1 hv; rfl, by rfl, by rfl, by rfl, by decide +kernel, by decide +kernel, by decide +kernel, fun e => absurd e (by decide +kernel)⟩⟩
theorem f2_3 {h : Heap} {P : Params} (X : (hd.heap_39 P).In h) : ∃ o fd, FnAt h 35 o fd (ns_siftdown.take 3) (stScope (stAt2 3)) (stBody (stAt2 3)) :=
  ⟨_, _, ⟨X 35 _ (by rfl), by rfl, by rfl, by rfl, by rfl, by rfl, by rfl, codeRec_of X (by rfl), fun vals hv => by obtain ⟨a, b, c, rfl⟩ := len3 hv; rfl, by rfl, by rfl, by rfl, by decide +kernel, by decide +kernel, by decide +kernel, fun e => absurd e (by decide +kernel)⟩⟩
theorem f2_4 {h : Heap} {P : Params} (X : (hd.heap_39 P).In h) : ∃ o fd, FnAt h 42 o fd (ns_siftup.take 2) (stScope (stAt2 4)) (stBody (stAt2 4)) :=
  ⟨_, _, ⟨X 42 _ (by rfl), by rfl, by rfl, by rfl, by rfl, by rfl, by rfl, codeRec_of X (by rfl), fun vals hv => by obtain ⟨a, b, rfl⟩ := len2 hv; rfl, by rfl, by rfl, by rfl, by decide +kernel, by decide +kernel, by decide +kernel, fun e => absurd e (by decide +kernel)⟩⟩
theorem f2_7 {h : Heap} {P : Params} (X : (hd.heap_39 P).In h) : ∃ o fd, FnAt h 49 o fd (ns_ellipsis_match.take 2) (stScope (stAt2 7)) (stBody (stAt2 7)) :=
  ⟨_, _, ⟨X 49 _ (by rfl), by rfl, by rfl, by rfl, by rfl, by rfl, by rfl, codeRec_of X (by rfl), fun vals hv => by obtain ⟨a, b, rfl⟩ := len2 hv; rfl, by rfl, by rfl, by rfl, by decide +kernel, by decide +kernel, by decide +kernel, fun e => absurd e (by decide +kernel)⟩⟩
theorem f2_9 {h : Heap} {P : Params} (X : (hd.heap_39 P).In h) : ∃ o fd, FnAt h 54 o fd (ns_law_pieces.take 1) (stScope (stAt2 9)) (stBody (stAt2 9)) :=
  ⟨_, _, ⟨X 54 _ (by rfl), by rfl, by rfl, by rfl, by rfl, by rfl, by rfl, codeRec_of X (by rfl), fun vals hv => by obtain ⟨a, rfl⟩ := len1 hv; rfl, by rfl, by rfl, by rfl, by decide +kernel, by decide +kernel, by decide +kernel, fun e => absurd e (by decide +kernel)⟩⟩
theorem f2_10 {h : Heap} {P : Params} (X : (hd.heap_39 P).In h) : ∃ o fd, FnAt h 61 o fd (ns_law_told.take 1) (stScope (stAt2 10)) (stBody (stAt2 10)) :=
  ⟨_, _, ⟨X 61 _ (by rfl), by rfl, by rfl, by rfl, by rfl, by rfl, by rfl, codeRec_of X (by rfl), fun vals hv => by obtain ⟨a, rfl⟩ := len1 hv; rfl, by rfl, by rfl, by rfl, by decide +kernel, by decide +kernel, by decide +kernel, fun e => absurd e (by decide +kernel)⟩⟩
theorem f2_11 {h : Heap} {P : Params} (X : (hd.heap_39 P).In h) : ∃ o fd, FnAt h 66 o fd (ns_law_due.take 1) (stScope (stAt2 11)) (stBody (stAt2 11)) :=
  ⟨_, _, ⟨X 66 _ (by rfl), by rfl, by rfl, by rfl, by rfl, by rfl, by rfl, codeRec_of X (by rfl), fun vals hv => by obtain ⟨a, rfl⟩ := len1 hv; rfl, by rfl, by rfl, by rfl, by decide +kernel, by decide +kernel, by decide +kernel, fun e => absurd e (by decide +kernel)⟩⟩

section
variable {prog : Program} {w : World} {h₀ : Heap} {mg mb : Str → Option Value}
/-- a def that lies at an address of the globals, and is sound -/
def DefOk (prog : Program) (w : World) (h₀ : Heap) (mg : Str → Option Value) (c : Cx) (K : Nat) (q : Str × WS × Nat × Nat) : Prop := ∃ fa o fd, mg q.1 = some (.ref fa) ∧ h₀.get? fa = some o ∧ o.data = .func fd ∧ CallSound prog w h₀ K fa (mfun q.2.1 q.2.2.1 q.2.2.2 c)
theorem DefOk.of {c : Cx} {K : Nat} {fa : Addr} {f : Str} {j n : Nat} {ns : List Str} {sc : Scope} {body : List Stmt} {W : WS} (G : Gl prog w h₀ c K mg mb) (C : c.lam = false) (hm : mg f = some (.ref fa)) (Fn : ∃ o fd, FnAt h₀ fa o fd (ns.take j) sc body)
    (hj : (ns.take j).length = j) (hnd : ns.Nodup) (hdb : ∀ x ∈ ns, (x == ("__debug__" : Str)) = false) (H : SndB ns sc body W) : DefOk prog w h₀ mg c (K + 17) (f, W, j, n) := by
  obtain ⟨o, fd, Fn⟩ := Fn
  refine ⟨fa, o, fd, hm, Fn.ho, Fn.hd, ?_⟩
  have e : ns.take j ++ ns.drop j = ns := List.take_append_drop j ns
  have := call_ok (rest := ns.drop j) (n := n) G (fun h => by rw [C] at h; cases h) Fn (e.symm ▸ hnd) (e.symm ▸ hdb) (e.symm ▸ H)
  rw [hj] at this
  exact this

theorem defs2_ok {P : Params} {c : Cx} {K : Nat} (X : (hd.heap_39 P).In h₀) (g : h₀.Ns mainGlobals mg) (C : c.lam = false) (G : Gl prog w h₀ c K mg mb) : ∀ q ∈ names2.zip defs2, DefOk prog w h₀ mg c (K + 17) q :=
  List.forall_mem_cons.mpr ⟨.of G C (mg_of X g (by rfl)) (f2_1 X) rfl (by decide +kernel) (by decide +kernel) snd_heappush,
  List.forall_mem_cons.mpr ⟨.of G C (mg_of X g (by rfl)) (f2_2 X) rfl (by decide +kernel) (by decide +kernel) snd_heappop,
  List.forall_mem_cons.mpr ⟨.of G C (mg_of X g (by rfl)) (f2_3 X) rfl (by decide +kernel) (by decide +kernel) snd_siftdown,
  List.forall_mem_cons.mpr ⟨.of G C (mg_of X g (by rfl)) (f2_4 X) rfl (by decide +kernel) (by decide +kernel) snd_siftup,
  List.forall_mem_cons.mpr ⟨.of G C (mg_of X g (by rfl)) (f2_7 X) rfl (by decide +kernel) (by decide +kernel) snd_ellipsis_match,
  List.forall_mem_cons.mpr ⟨.of G C (mg_of X g (by rfl)) (f2_9 X) rfl (by decide +kernel) (by decide +kernel) snd_law_pieces,
  List.forall_mem_cons.mpr ⟨.of G C (mg_of X g (by rfl)) (f2_10 X) rfl (by decide +kernel) (by decide +kernel) snd_law_told,
  List.forall_mem_cons.mpr ⟨.of G C (mg_of X g (by rfl)) (f2_11 X) rfl (by decide +kernel) (by decide +kernel) snd_law_due,
  fun _ h => by cases h⟩⟩⟩⟩⟩⟩⟩⟩

theorem gl2 {P : Params} {loose : List Str} {mean : ExcName → Option Value} {p : Program} (X : (hd.heap_39 P).In h₀) (T : Top p loose mean mg mb h₀) : ∀ n, Gl prog w h₀ (cxs2 n) (17 * n) mg mb := by
  have base : ∀ c : Cx, c.cst = cst2 → ∀ K, (∀ f F, c.fns f = some F → ∃ fa o fd, mg f = some (.ref fa) ∧ h₀.get? fa = some o ∧ o.data = .func fd ∧ CallSound prog w h₀ K fa F) → Gl prog w h₀ c K mg mb := fun c hc K hf => {
    g := T.g
    b := T.b
    lim := T.nolimit
    fns := hf
    cst := fun x d e => by
      rw [hc] at e
      unfold cst2 at e
      split at e
      · next hx => cases e; subst hx; exact ⟨_, mg_of X T.g (by rfl), fun ρ => .str _ _⟩
      · cases e
    len := ⟨mg_none_of X T.g (by rfl), (T.builtins "len" (by decide +kernel)).trans (by rfl)⟩
    sum := ⟨mg_none_of X T.g (by rfl), (T.builtins "sum" (by decide +kernel)).trans (by rfl)⟩
    sorted := ⟨mg_none_of X T.g (by rfl), (T.builtins "sorted" (by decide +kernel)).trans (by rfl)⟩
    set := ⟨mg_none_of X T.g (by rfl), (T.builtins "set" (by decide +kernel)).trans (by rfl)⟩
    range := ⟨mg_none_of X T.g (by rfl), (T.builtins "range" (by decide +kernel)).trans (by rfl)⟩
    bmod := let ⟨bm, ob, h1, _, h2, h3, h4, h5⟩ := T.bmain; ⟨bm, ob, h1, h2, h3, h4, h5⟩ }
  intro n
  induction n with
  | zero => exact base _ rfl _ fun f F e => by cases e
  | succ n ih =>
    refine base _ rfl _ fun f F e => ?_
    have e' : (defs2[names2.idxOf f]?).map (fun p => mfun p.1 p.2.1 p.2.2 (cxs2 n)) = some F := e
    cases hi : defs2[names2.idxOf f]? with
    | none => rw [hi] at e'; cases e'
    | some p =>
      rw [hi] at e'
      cases e'
      have hlt : names2.idxOf f < names2.length := (List.getElem?_eq_some_iff.mp hi).1
      have hf : names2[names2.idxOf f]? = some f := by rw [List.getElem?_eq_getElem hlt, List.getElem_idxOf]
      exact defs2_ok X T.g (cxs2_lam n) ih (f, p) (List.mem_of_getElem? (List.getElem?_zip_eq_some.mpr ⟨hf, hi⟩))
end
end Mine
end
section
set_option maxRecDepth 100000
set_option maxHeartbeats 8000000
namespace Mine

theorem well_ints {P : Params} {h : Heap} {ρ : Frz} : ∀ {vs : List Value} {l : List Int}, WellAll P h vs (ofPys (l.map .int)) → IsAll ρ vs (l.map .int)
  | [], [], _ => .nil
  | [], _ :: _, k => by simp only [List.map_cons, ofPys] at k; cases k
  | _ :: _, [], k => by simp only [List.map_nil, ofPys] at k; cases k
  | v :: vs, i :: l, k => by
    simp only [List.map_cons, ofPys, ofPy] at k
    cases k with
    | cons a b => cases a with
      | int i t => exact .cons (.int _ _) (well_ints b)
theorem well_list {P : Params} {h : Heap} {v : Value} {l : List Int} (k : Well P h v (ofPy (.list (l.map .int)))) : ∃ la vs, v = .ref la ∧ h.get? la = some { cls := .type "list", data := .seq vs.toArray 0 } ∧ ∀ ρ, IsAll ρ vs (l.map .int) := by
  simp only [ofPy] at k
  cases k with
  | list e a => exact ⟨_, _, rfl, e, fun ρ => well_ints a⟩

theorem law2_end {w : World} {s₁ : Shared} {mg mb : Str → Option Value} {fa L : Addr} {v : Value} {l : List Int} {h₁ : Heap} {cd : Value} {loose : List Str} {mean : ExcName → Option Value} {E : Value → Shared → Prop} {cl : Str → Option Addr} {mean' : ExcName → Option Value} {p : Program}
    (X : (hd.heap_39 w.params).In s₁.heap) (T : Top p loose mean mg mb s₁.heap) (F : Fr s₁.heap L h₁ (fun x => List.lookup x [(Str.ofString "script", v)].reverse))
    (W : Well w.params s₁.heap v (ofPy (.list (l.map .int)))) (hl : l.length ≤ 63) (hg : s₁.gens = #[]) :
    wpAny (model PySem.Challenge.rw_mq0174_02.row.prog w) (callerA.deeper (envOf (Str.ofString "law") (stScope (stAt2 12)) L fa cd)) (execs (stBody (stAt2 12)) (envOf (Str.ofString "law") (stScope (stAt2 12)) L fa cd))
      (fun f s' => GoodW PySem.Challenge.rw_mq0174_02.row.claim cl mean' [ofPy (.list (l.map .int))] s₁ (Except.ok (Flow.ret (match f with | .ret v => v | _ => Value.none))) s') E
      { heap := h₁, gens := s₁.gens, drawn := s₁.drawn, toks := s₁.toks + 1, os := s₁.os } := by
  obtain ⟨la, vs, rfl, hla, hints⟩ := well_list W
  obtain ⟨h₀, gens, drawn, toks, os⟩ := s₁
  have S : St h₀ ⟨fun a => h₀.get? a, []⟩ [] h₁ := {
    fz := fun a o e => F.keep a o e
    base := fun a o e => e
    len := rfl
    ob := fun k a m e1 e2 => by cases e1
    nd := by simp
    dis := fun k a m e1 e2 _ => by cases e1 }
  have hfresh : h₀.get? L = none := fresh_at F.above
  have hcf : ∀ x, (x, NameKind.cell) ∉ (stScope (stAt2 12)).names := fun x hx => by
    have ha : ((stScope (stAt2 12)).names.all fun p => p.2 != .cell) = true := by decide +kernel
    have := List.all_eq_true.mp ha _ hx
    simp at this
  have one : ∀ {x : Str} {a : AV}, bindAll ["script"] [.d (.list (l.map .int))] x = some a → x = Str.ofString "script" ∧ a = .d (.list (l.map .int)) := fun {x a} e => by
    have e : (if x = Str.ofString "script" then some (AV.d (.list (l.map .int))) else none) = some a := e
    split at e
    · next hx => cases e; exact ⟨hx, rfl⟩
    · cases e
  have FS : FrS ⟨fun a => h₀.get? a, []⟩ (envOf (Str.ofString "law") (stScope (stAt2 12)) L fa cd) (bindAll ["script"] [.d (.list (l.map .int))]) h₁ := {
    fn := by rfl
    gl := rfl
    bi := rfl
    ns := ⟨_, F.ns, fun x a e1 e2 => by
      obtain ⟨rfl, rfl⟩ := one e1
      exact ⟨_, by rfl, .list hla (by simpa using hints _)⟩⟩
    kd := fun x a e1 => by
      obtain ⟨rfl, rfl⟩ := one e1
      exact .inl (by rfl)
    cl := fun x a e1 e2 => by
      obtain ⟨rfl, rfl⟩ := one e1
      rw [show (envOf (Str.ofString "law") (stScope (stAt2 12)) L fa cd).kindOf (Str.ofString "script") = some .local by rfl] at e2; cases e2
    cm := fun p hp => by cases hp
    cx := fun x e => absurd (mem_lookup e) (hcf x)
    ap := List.Pairwise.nil
    lo := ⟨fun m => (by cases m), hfresh⟩
    lm := fun e => absurd (show lamScope (stScope (stAt2 12)) = true from e) (by decide +kernel) }
  have hA : OkA 85 (callerA.deeper (envOf (Str.ofString "law") (stScope (stAt2 12)) L fa cd)) := ⟨rfl, by show (1 + 300) + 1 + 85 < 1000; decide, by show 4 + 3 + 10 * 85 + 200 < 9900; decide⟩
  have G := gl2 (prog := PySem.Challenge.rw_mq0174_02.row.prog) (w := w) X T 5
  have hE := law2_means (μ := []) (l := l) (Q := fun fl _ m => fl = .ret (.d (.bool true)) ∧ m = []) (by omega) fun _ => ⟨rfl, rfl⟩
  have B := snd_law.go (M := { prog := PySem.Challenge.rw_mq0174_02.row.prog, w := w, A := callerA.deeper (envOf (Str.ofString "law") (stScope (stAt2 12)) L fa cd), h₀ := h₀, c := cxs2 5, K := 85, mg := mg, mb := mb, env := envOf (Str.ofString "law") (stScope (stAt2 12)) L fa cd })
    ⟨hA, G, fun e => (by rw [show (cxs2 5).lam = false from rfl] at e; cases e), rfl, by decide +kernel, by decide +kernel⟩ S (FS.weaken fun _ _ => sto_init (ps := ["script"]) (rest := ["pieces"]) rfl) hE
    { heap := h₁, gens := gens, drawn := drawn, toks := toks + 1, os := os } rfl (Nat.succ_pos _)
  refine wpAny_mono B (fun f s' q => ?_) fun _ _ q => q.elim
  obtain ⟨q1, q2, fl, ρ', σ', μ', g, S', _, fi, rfl, rfl⟩ := q
  cases fi with
  | ret fi =>
    cases (show Is _ _ (.bool true) from fi)
    have hk : ∀ b o, h₀.get? b = some o → s'.heap.get? b = some o := fun b o e => S'.fz _ _ (S'.base _ _ e)
    refine ⟨.inl ⟨_, .bool true, [], rfl, fun _ => by rfl, .bool true, ?_, fun _ => ⟨List.nodup_nil, fun a ha => by cases ha⟩⟩, hk, q2, q1.trans hg⟩
    exact postW_of (X := true == true) (by wrow_shape) (w_eq_bool (w_res rfl) w_lit) rfl

theorem law2_holds : PySem.Challenge.rw_mq0174_02.Holds := by
  refine Mine.hd (by
    k_go0
    refine law2_end (by assumption) (by assumption) (by assumption) (by assumption) (by omega) (by assumption))
end Mine
end

set_option maxRecDepth 100000 in
theorem PySem.Challenge.cw_mq0174_02_holds : PySem.Challenge.rw_mq0174_02.Holds := by
  exact Mine.law2_holds
