import PyProof.Rows.All
import Wide.All
import OpenK.AllK
import Wide.FinOn
import Lean
import PySem.Challenge.RW_oy0054_01
set_option Elab.async false
set_option maxRecDepth 100000

namespace Mine
open PySem PySem.Calls PyProof.Rows

noncomputable def IsL (h : Heap) (a : Addr) (vs : List Value) : Prop := ∃ n, h.get? a = some { cls := .type "list", data := .seq vs.toArray n }
noncomputable def IsT (h : Heap) (a : Addr) (vs : List Value) : Prop := ∃ o, h.get? a = some o ∧ o.cls = .type "tuple" ∧ ∃ n, o.data = .seq vs.toArray n
theorem IsL.isList {h : Heap} {a : Addr} {vs : List Value} (x : IsL h a vs) : h.IsList a vs.toArray := let ⟨n, e⟩ := x; ⟨_, e, rfl, n, rfl⟩
theorem IsT.isTuple {h : Heap} {a : Addr} {vs : List Value} (x : IsT h a vs) : h.IsTuple a vs.toArray := let ⟨o, e, c, n, d⟩ := x; ⟨o, e, c, n, d⟩
theorem IsT.isTup {h : Heap} {a : Addr} {vs : List Value} (x : IsT h a vs) : IsTup h a vs.toArray := let ⟨o, e, c, n, d⟩ := x; ⟨o, e, c, n, d⟩
theorem IsT.new {h : Heap} {a : Addr} {vs : List Value} (n : Nat) (e : h.get? a = some { cls := .type "tuple", data := .seq vs.toArray n }) : IsT h a vs := ⟨_, e, rfl, n, rfl⟩

/-- plain data, and the very value (functions, built-ins, handles of lists that change) -/
inductive D where
  | val (v : Value)
  | none
  | bool (b : Bool)
  | int (i : Int)
  | str (x : Str)
  | bytes (l : List UInt8)
  | list (ds : List D)
  | tuple (ds : List D)

mutual
/-- in heap h the value v is the datum d, with none of its lists or tuples at an address of X -/
inductive Rep (X : List Addr) (h : Heap) : Value → D → Prop
  | val (v : Value) : Rep X h v (.val v)
  | none : Rep X h .none .none
  | bool (b : Bool) : Rep X h (.bool b) (.bool b)
  | int (i : Int) (t : Tok) : Rep X h (.int i t) (.int i)
  | str (x : Str) (t : Tok) : Rep X h (.str x t) (.str x)
  | bytes (l : List UInt8) (t : Tok) : Rep X h (.bytes l.toArray t) (.bytes l)
  | list {a : Addr} {vs : List Value} {ds : List D} : a ∉ X → IsL h a vs → RepL X h vs ds → Rep X h (.ref a) (.list ds)
  | tuple {a : Addr} {vs : List Value} {ds : List D} : a ∉ X → IsT h a vs → RepL X h vs ds → Rep X h (.ref a) (.tuple ds)
inductive RepL (X : List Addr) (h : Heap) : List Value → List D → Prop
  | nil : RepL X h [] []
  | cons {v : Value} {vs : List Value} {d : D} {ds : List D} : Rep X h v d → RepL X h vs ds → RepL X h (v :: vs) (d :: ds)
end

section
variable {X : List Addr} {h : Heap} {v : Value}
theorem Rep.valD {u : Value} (r : Rep X h v (.val u)) : v = u := by cases r; rfl
theorem Rep.noneD (r : Rep X h v .none) : v = .none := by cases r; rfl
theorem Rep.boolD {b : Bool} (r : Rep X h v (.bool b)) : v = .bool b := by cases r; rfl
theorem Rep.intD {i : Int} (r : Rep X h v (.int i)) : ∃ t, v = .int i t := by cases r; exact ⟨_, rfl⟩
theorem Rep.strD {x : Str} (r : Rep X h v (.str x)) : ∃ t, v = .str x t := by cases r; exact ⟨_, rfl⟩
theorem Rep.bytesD {l : List UInt8} (r : Rep X h v (.bytes l)) : ∃ t, v = .bytes l.toArray t := by cases r; exact ⟨_, rfl⟩
theorem Rep.listD {ds : List D} (r : Rep X h v (.list ds)) : ∃ a vs, v = .ref a ∧ a ∉ X ∧ IsL h a vs ∧ RepL X h vs ds := by
  cases r with
  | list hn hl rs => exact ⟨_, _, rfl, hn, hl, rs⟩
theorem Rep.tupleD {ds : List D} (r : Rep X h v (.tuple ds)) : ∃ a vs, v = .ref a ∧ a ∉ X ∧ IsT h a vs ∧ RepL X h vs ds := by
  cases r with
  | tuple hn hl rs => exact ⟨_, _, rfl, hn, hl, rs⟩
theorem RepL.consD {vs : List Value} {d : D} {ds : List D} (r : RepL X h vs (d :: ds)) : ∃ u us, vs = u :: us ∧ Rep X h u d ∧ RepL X h us ds := by
  cases r with
  | cons r rs => exact ⟨_, _, rfl, r, rs⟩
theorem RepL.nilD {vs : List Value} (r : RepL X h vs []) : vs = [] := by cases r; rfl
end

theorem live_of {h : Heap} {a : Addr} {o : Obj} (e : h.get? a = some o) : h.get? a ≠ none := fun q => by rw [e] at q; cases q
theorem kind_fields {o : Obj} {vs : Array Value} (hd : o.data = .fields vs) : (∀ es ep, o.data ≠ .dict es ep) ∧ ∀ v, o.data ≠ .cell v := ⟨fun _ _ q => Data.noConfusion (hd.symm.trans q), fun _ q => Data.noConfusion (hd.symm.trans q)⟩
theorem kind_seq {o : Obj} {vs : Array Value} {n : Nat} (hd : o.data = .seq vs n) : (∀ es ep, o.data ≠ .dict es ep) ∧ ∀ v, o.data ≠ .cell v := ⟨fun _ _ q => Data.noConfusion (hd.symm.trans q), fun _ q => Data.noConfusion (hd.symm.trans q)⟩
theorem fields_notSeq {o : Obj} {vs : Array Value} (hd : o.data = .fields vs) : ∀ ws n, o.data ≠ .seq ws n := fun _ _ q => Data.noConfusion (hd.symm.trans q)
theorem cell_notDict {o : Obj} {v : Option Value} (hd : o.data = .cell v) : ∀ es ep, o.data ≠ .dict es ep := fun _ _ q => Data.noConfusion (hd.symm.trans q)
theorem seq_notDict {vs : Array Value} {n : Nat} : ∀ es ep, Data.seq vs n ≠ .dict es ep := fun _ _ q => Data.noConfusion q
theorem mem_nil_off {α : Type} {P : α → Prop} : ∀ a ∈ ([] : List α), P a := fun _ h => absurd h List.not_mem_nil

/-- the same; of a dict, but for the slots -/
noncomputable def Same (o o' : Obj) : Prop := o'.cls = o.cls ∧ o'.dict = o.dict ∧ o'.data = o.data ∧ ((∀ es ep, o.data ≠ .dict es ep) → o' = o)
theorem Same.refl (o : Obj) : Same o o := ⟨rfl, rfl, rfl, fun _ => rfl⟩
theorem Same.trans {a b c : Obj} (x : Same a b) (y : Same b c) : Same a c := ⟨y.1.trans x.1, y.2.1.trans x.2.1, y.2.2.1.trans x.2.2.1, fun h => (y.2.2.2 (by rw [x.2.2.1]; exact h)).trans (x.2.2.2 h)⟩

/-- all that lives in h off X lives in h' -/
noncomputable def KX (X : List Addr) (h h' : Heap) : Prop := ∀ b o, b ∉ X → h.get? b = some o → ∃ o', h'.get? b = some o' ∧ Same o o'
theorem KX.refl (X : List Addr) (h : Heap) : KX X h h := fun _ o _ e => ⟨o, e, .refl o⟩
theorem KX.of_keep {X : List Addr} {h h' : Heap} (k : ∀ b o, h.get? b = some o → h'.get? b = some o) : KX X h h' := fun b o _ e => ⟨o, k b o e, .refl o⟩
theorem KX.of_sameBut {X : List Addr} {a : Addr} {h h' : Heap} (k : Heap.SameBut a h h') (ha : a ∈ X) : KX X h h' := fun b o hb e => ⟨o, (k.2 b fun q => hb (q ▸ ha)).trans e, .refl o⟩
theorem KX.of_extBut {X : List Addr} {a : Addr} {h h' : Heap} (k : Heap.ExtBut a h h') (ha : a ∈ X) : KX X h h' := fun b o hb e => ⟨o, k b o (fun q => hb (q ▸ ha)) e, .refl o⟩
theorem KX.weaken {X Y : List Addr} {h h' : Heap} (k : KX X h h') (s : ∀ a ∈ X, a ∈ Y) : KX Y h h' := fun b o hb e => k b o (fun q => hb (s b q)) e
theorem KX.trans {X Y : List Addr} {h h₁ h₂ : Heap} (k : KX X h h₁) (k' : KX Y h₁ h₂) (f : ∀ a ∈ Y, a ∈ X ∨ h.get? a = none) : KX X h h₂ := fun b o hb e => by
  obtain ⟨o₁, e₁, s₁⟩ := k b o hb e
  have hb' : b ∉ Y := fun q => by
    rcases f b q with q | q
    · exact hb q
    · rw [q] at e; cases e
  obtain ⟨o₂, e₂, s₂⟩ := k' b o₁ hb' e₁
  exact ⟨o₂, e₂, s₁.trans s₂⟩
theorem KX.dead {X : List Addr} {h h' : Heap} (k : KX X h h') {a : Addr} (ha : a ∉ X) (e : h'.get? a = none) : h.get? a = none := by
  cases q : h.get? a with
  | none => rfl
  | some o => obtain ⟨o', e', _⟩ := k a o ha q; rw [e] at e'; cases e'

theorem ns_keep {X : List Addr} {h h' : Heap} {a : Addr} {m : Str → Option Value} (k : KX X h h') (ha : a ∉ X) (x : h.Ns a m) : h'.Ns a m := by
  obtain ⟨o, es, ep, ho, hd, r⟩ := x
  obtain ⟨o', ho', s⟩ := k a o ha ho
  exact ⟨o', es, ep, ho', s.2.2.1.trans hd, r⟩
/-- what is no dict is kept whole -/
theorem KX.whole {X : List Addr} {h h' : Heap} {a : Addr} {o : Obj} (k : KX X h h') (ha : a ∉ X) (e : h.get? a = some o) (nd : ∀ es ep, o.data ≠ .dict es ep) : h'.get? a = some o := by
  obtain ⟨o', ho', s⟩ := k a o ha e
  rw [ho', s.2.2.2 nd]
theorem isL_keep {X : List Addr} {h h' : Heap} {a : Addr} {vs : List Value} (k : KX X h h') (ha : a ∉ X) (x : IsL h a vs) : IsL h' a vs := by
  obtain ⟨n, ho⟩ := x
  exact ⟨n, k.whole ha ho seq_notDict⟩
theorem isT_keep {X : List Addr} {h h' : Heap} {a : Addr} {vs : List Value} (k : KX X h h') (ha : a ∉ X) (x : IsT h a vs) : IsT h' a vs := by
  obtain ⟨o, ho, c, n, d⟩ := x
  exact ⟨o, k.whole ha ho (by rw [d]; exact seq_notDict), c, n, d⟩
theorem isCell_keep {X : List Addr} {h h' : Heap} {a : Addr} {v : Option Value} (k : KX X h h') (ha : a ∉ X) (x : h.IsCell a v) : h'.IsCell a v := by
  obtain ⟨o, ho, hd⟩ := x
  exact ⟨o, k.whole ha ho (cell_notDict hd), hd⟩

noncomputable def NotSeq (h : Heap) (a : Addr) : Prop := ∀ o, h.get? a = some o → ∀ vs n, o.data ≠ .seq vs n
theorem NotSeq.of_ns {h : Heap} {a : Addr} {m : Str → Option Value} (x : h.Ns a m) : NotSeq h a := fun o e vs n hd => by
  obtain ⟨o', es, ep, e', hd', _⟩ := x
  rw [e] at e'; cases e'; rw [hd] at hd'; cases hd'
theorem NotSeq.of_cell {h : Heap} {a : Addr} {v : Option Value} (x : h.IsCell a v) : NotSeq h a := fun o e vs n hd => by
  obtain ⟨o', e', hd'⟩ := x
  rw [e] at e'; cases e'; rw [hd] at hd'; cases hd'
theorem IsL.seq {h : Heap} {a : Addr} {vs : List Value} (x : IsL h a vs) (n : NotSeq h a) : False := by
  obtain ⟨k, ho⟩ := x; exact n _ ho _ _ rfl
theorem IsT.seq {h : Heap} {a : Addr} {vs : List Value} (x : IsT h a vs) (n : NotSeq h a) : False := by
  obtain ⟨o, ho, c, k, d⟩ := x; exact n _ ho _ _ d
theorem IsL.live {h : Heap} {a : Addr} {vs : List Value} (x : IsL h a vs) : h.get? a ≠ none := by
  obtain ⟨k, ho⟩ := x; exact live_of ho
theorem IsT.live {h : Heap} {a : Addr} {vs : List Value} (x : IsT h a vs) : h.get? a ≠ none := by
  obtain ⟨o, ho, _⟩ := x; exact live_of ho

section
variable {X X' Y : List Addr} {h h' : Heap}
theorem Rep.move (k : KX Y h h') (hy : ∀ y ∈ Y, y ∈ X ∨ NotSeq h y) (hx : ∀ a ∈ X', a ∈ X ∨ h.get? a = Option.none) {v : Value} {d : D} (r : Rep X h v d) : Rep X' h' v d :=
  Rep.rec (motive_1 := fun v d _ => Rep X' h' v d) (motive_2 := fun vs ds _ => RepL X' h' vs ds) .val .none .bool .int .str .bytes
    (fun hn hl _ rs => .list (fun q => (hx _ q).elim hn (IsL.live hl)) (isL_keep k (fun q => (hy _ q).elim hn (IsL.seq hl)) hl) rs)
    (fun hn hl _ rs => .tuple (fun q => (hx _ q).elim hn (IsT.live hl)) (isT_keep k (fun q => (hy _ q).elim hn (IsT.seq hl)) hl) rs) .nil (fun _ _ r rs => .cons r rs) r
end

theorem RepL.ind {X : List Addr} {h : Heap} {P : List Value → List D → Prop} (hn : P [] []) (hc : ∀ {v vs d ds}, Rep X h v d → RepL X h vs ds → P vs ds → P (v :: vs) (d :: ds)) {vs : List Value} {ds : List D} (r : RepL X h vs ds) : P vs ds :=
  RepL.rec (motive_1 := fun _ _ _ => True) (motive_2 := fun vs ds _ => P vs ds) (fun _ => trivial) trivial (fun _ => trivial) (fun _ _ => trivial) (fun _ _ => trivial) (fun _ _ => trivial) (fun _ _ _ _ => trivial) (fun _ _ _ _ => trivial)
    hn (fun r rs _ p => hc r rs p) r
theorem RepL.move {X X' Y : List Addr} {h h' : Heap} (k : KX Y h h') (hy : ∀ y ∈ Y, y ∈ X ∨ NotSeq h y) (hx : ∀ a ∈ X', a ∈ X ∨ h.get? a = none) {vs : List Value} {ds : List D} (r : RepL X h vs ds) : RepL X' h' vs ds :=
  r.ind (P := RepL X' h') .nil fun r _ p => .cons (r.move k hy hx) p
theorem RepL.length {X : List Addr} {h : Heap} {vs : List Value} {ds : List D} (r : RepL X h vs ds) : vs.length = ds.length :=
  r.ind (P := fun vs ds => vs.length = ds.length) rfl fun _ _ p => congrArg (· + 1) p
theorem RepL.append {X : List Addr} {h : Heap} {vs ws : List Value} {ds es : List D} (r : RepL X h vs ds) (k : RepL X h ws es) : RepL X h (vs ++ ws) (ds ++ es) :=
  r.ind (P := fun vs ds => RepL X h (vs ++ ws) (ds ++ es)) k fun r _ p => .cons r p
theorem RepL.get {X : List Addr} {h : Heap} {vs : List Value} {ds : List D} (r : RepL X h vs ds) : ∀ (k : Nat) (d : D), ds[k]? = some d → ∃ v, vs[k]? = some v ∧ Rep X h v d :=
  r.ind (P := fun vs ds => ∀ (k : Nat) (d : D), ds[k]? = some d → ∃ v, vs[k]? = some v ∧ Rep X h v d) (fun _ _ e => (Option.some_ne_none _ (e.symm.trans List.getElem?_nil)).elim) fun r _ p k => k.casesOn (fun _ e => ⟨_, rfl, Option.some.inj e ▸ r⟩) fun k => p k
theorem RepL.take {X : List Addr} {h : Heap} {vs : List Value} {ds : List D} (r : RepL X h vs ds) : ∀ (k : Nat), RepL X h (vs.take k) (ds.take k) :=
  r.ind (P := fun vs ds => ∀ k : Nat, RepL X h (vs.take k) (ds.take k)) (fun k => k.casesOn .nil fun _ => .nil) fun r _ p k => k.casesOn .nil fun k => .cons r (p k)
theorem RepL.set {X : List Addr} {h : Heap} {vs : List Value} {ds : List D} (r : RepL X h vs ds) (k : Nat) {v : Value} {d : D} (q : Rep X h v d) : RepL X h (vs.set k v) (ds.set k d) :=
  r.ind (P := fun vs ds => ∀ k : Nat, RepL X h (vs.set k v) (ds.set k d)) (fun k => k.casesOn .nil fun _ => .nil) (fun r rs p k => k.casesOn (.cons q rs) fun k => .cons r (p k)) k
theorem RepL.one {X : List Addr} {h : Heap} {v : Value} {d : D} (r : Rep X h v d) : RepL X h [v] [d] := .cons r .nil

noncomputable abbrev Mu := List (Addr × List D)
noncomputable abbrev Rho := List (Str × D)
noncomputable def keys (μ : Mu) : List Addr := μ.map (·.1)

/-- the frames of the stack: dicts of this call's -/
noncomputable def FF (h B : Heap) (l : List Env) : Prop := ∀ env ∈ l, env.scope.kind ≠ .module ∧ ∃ L m, env.frame = some L ∧ B.get? L = none ∧ h.Ns L m
theorem FF.fun {h B : Heap} : ∀ {l : List Env}, FF h B l → h.FunFrames B l
  | [], _ => trivial
  | env :: r, x => by
    obtain ⟨hk, L, m, hf, hb, o, es, ep, ho, hd, _⟩ := x env (.head _)
    exact ⟨hk, ⟨L, o, hf, hb, ho, fun vs q => by rw [hd] at q; cases q⟩, FF.fun fun e he => x e (.tail _ he)⟩
/-- the lists that change, the base heap, the frames below -/
structure MuOk (A : Around) (B : Heap) (μ : Mu) (h : Heap) : Prop where
  base : ∀ b o, B.get? b = some o → h.get? b = some o
  off : ∀ a ∈ keys μ, B.get? a = none
  mus : ∀ p ∈ μ, ∃ vs, IsL h p.1 vs ∧ RepL (keys μ) h vs p.2
  nd : (keys μ).Nodup
  ff : ∃ l, A.frames = some l ∧ FF h B l

/-- a step from s to s' that leaves all off Y; Y' has nothing new but the fresh -/
noncomputable def Tr (Y Y' : List Addr) (s s' : Shared) : Prop :=
  ∃ h' tk', s' = { s with heap := h', toks := tk' } ∧ KX Y s.heap h' ∧ ∀ a ∈ Y', a ∈ Y ∨ s.heap.get? a = none
theorem Tr.kx {Y Y' : List Addr} {s s' : Shared} (t : Tr Y Y' s s') : KX Y s.heap s'.heap := by obtain ⟨h', tk', rfl, k, _⟩ := t; exact k
theorem Tr.new {Y Y' : List Addr} {s s' : Shared} (t : Tr Y Y' s s') : ∀ a ∈ Y', a ∈ Y ∨ s.heap.get? a = none := by obtain ⟨h', tk', rfl, _, n⟩ := t; exact n
theorem Tr.refl (Y : List Addr) (s : Shared) : Tr Y Y s s := ⟨s.heap, s.toks, rfl, KX.refl Y _, fun _ h => .inl h⟩
theorem Tr.trans {Y Y' Y'' : List Addr} {s s' s'' : Shared} (t : Tr Y Y' s s') (t' : Tr Y' Y'' s' s'') : Tr Y Y'' s s'' := by
  obtain ⟨h₁, k₁, rfl, a₁, n₁⟩ := t
  obtain ⟨h₂, k₂, rfl, a₂, n₂⟩ := t'
  refine ⟨h₂, k₂, rfl, a₁.trans a₂ n₁, fun a ha => ?_⟩
  rcases n₂ a ha with q | q
  · exact n₁ a q
  · by_cases hy : a ∈ Y
    · exact .inl hy
    · exact .inr (a₁.dead hy q)
theorem Tr.keep {Y : List Addr} {s : Shared} {h' : Heap} {tk' : Nat} (k : ∀ b o, s.heap.get? b = some o → h'.get? b = some o) : Tr Y Y s { s with heap := h', toks := tk' } :=
  ⟨h', tk', rfl, .of_keep k, fun _ h => .inl h⟩
theorem Tr.tok (Y : List Addr) (s : Shared) (tk' : Nat) : Tr Y Y s { s with toks := tk' } := ⟨s.heap, tk', rfl, KX.refl Y _, fun _ h => .inl h⟩

theorem Rep.tr {μ μ' : Mu} {s s' : Shared} {v : Value} {d : D} (t : Tr (keys μ) (keys μ') s s') (r : Rep (keys μ) s.heap v d) : Rep (keys μ') s'.heap v d :=
  Rep.move t.kx (fun _ h => .inl h) t.new r
theorem RepL.tr {μ μ' : Mu} {s s' : Shared} {vs : List Value} {ds : List D} (t : Tr (keys μ) (keys μ') s s') (r : RepL (keys μ) s.heap vs ds) : RepL (keys μ') s'.heap vs ds :=
  RepL.move t.kx (fun _ h => .inl h) t.new r

theorem MuOk.notSeq {A : Around} {B : Heap} {μ : Mu} {h : Heap} (M : MuOk A B μ h) {a : Addr} (ha : a ∈ keys μ) (n : NotSeq h a) : False := by
  obtain ⟨p, hp, rfl⟩ := List.mem_map.mp ha
  obtain ⟨vs, hl, _⟩ := M.mus p hp
  exact IsL.seq hl n
theorem FF.kx {X : List Addr} {h h' B : Heap} {l : List Env} (k : KX X h h') (hx : ∀ a ∈ X, ¬ NotSeq h a) (f : FF h B l) : FF h' B l := fun env he => by
  obtain ⟨hk, L, m, hf, hb, hn⟩ := f env he
  exact ⟨hk, L, m, hf, hb, ns_keep k (fun q => hx L q (.of_ns hn)) hn⟩

/-- name x of env is v in h -/
noncomputable def Lk (h : Heap) (env : Env) (x : Str) (v : Value) : Prop :=
  (env.kindOf x = some .local ∧ ∃ m, h.Ns env.locals m ∧ m x = some v) ∨
  ((env.kindOf x = some .cell ∨ (env.kindOf x = some .free ∧ (x == ("__classdict__" : Str)) = false)) ∧ ∃ c, env.cells.lookup x = some c ∧ h.IsCell c (some v))
theorem Lk.kx {X : List Addr} {h h' : Heap} {env : Env} {x : Str} {v : Value} (k : KX X h h') (hx : ∀ a ∈ X, ¬ NotSeq h a) (l : Lk h env x v) : Lk h' env x v := by
  rcases l with ⟨hk, m, hn, hm⟩ | ⟨hk, c, hc, hv⟩
  · exact .inl ⟨hk, m, ns_keep k (fun q => hx _ q (.of_ns hn)) hn, hm⟩
  · exact .inr ⟨hk, c, hc, isCell_keep k (fun q => hx _ q (.of_cell hv)) hv⟩

structure FrOk (B : Heap) (env : Env) (W : List Str) (ρ : Rho) (X : List Addr) (h : Heap) : Prop where
  kind : env.scope.kind = .function
  ns : ∃ m, h.Ns env.locals m
  lo : B.get? env.locals = none
  gl : env.globals = mainGlobals
  bu : env.builtins = builtinsNs
  inj : ∀ x y c, env.cells.lookup x = some c → env.cells.lookup y = some c → x = y
  cel : ∀ x c, env.cells.lookup x = some c → ∃ v, h.IsCell c v
  stor : ∀ x ∈ W, env.kindOf x = some .local ∨ (env.kindOf x = some .cell ∧ ∃ c, env.cells.lookup x = some c ∧ B.get? c = none ∧ ∃ v, h.IsCell c v)
  vars : ∀ x d, ρ.lookup x = some d → ∃ v, Lk h env x v ∧ Rep X h v d

theorem MuOk.sep {A : Around} {B : Heap} {μ : Mu} {h : Heap} (M : MuOk A B μ h) : ∀ a ∈ keys μ, ¬ NotSeq h a := fun _ ha n => M.notSeq ha n

theorem FrOk.tr {A : Around} {B : Heap} {env : Env} {W : List Str} {ρ : Rho} {μ μ' : Mu} {s s' : Shared} (F : FrOk B env W ρ (keys μ) s.heap) (M : MuOk A B μ s.heap) (t : Tr (keys μ) (keys μ') s s') :
    FrOk B env W ρ (keys μ') s'.heap := by
  have k := t.kx
  have hx := M.sep
  refine ⟨F.kind, ?_, F.lo, F.gl, F.bu, F.inj, fun x c hc => let ⟨v, hv⟩ := F.cel x c hc; ⟨v, isCell_keep k (fun q => hx _ q (.of_cell hv)) hv⟩, fun x hx' => ?_, fun x d e => ?_⟩
  · obtain ⟨m, hn⟩ := F.ns
    exact ⟨m, ns_keep k (fun q => hx _ q (.of_ns hn)) hn⟩
  · rcases F.stor x hx' with q | ⟨q, c, hc, hb, v, hv⟩
    · exact .inl q
    · exact .inr ⟨q, c, hc, hb, v, isCell_keep k (fun q => hx _ q (.of_cell hv)) hv⟩
  · obtain ⟨v, l, r⟩ := F.vars x d e
    exact ⟨v, l.kx k hx, r.tr t⟩

theorem MuOk.around {A A' : Around} {B : Heap} {μ : Mu} {h : Heap} (M : MuOk A B μ h) (e : A'.frames = A.frames) : MuOk A' B μ h :=
  ⟨M.base, M.off, M.mus, M.nd, by obtain ⟨l, h1, h2⟩ := M.ff; exact ⟨l, e.trans h1, h2⟩⟩

/-- a step that keeps all: the lists too -/
theorem MuOk.keep {A : Around} {B : Heap} {μ : Mu} {h h' : Heap} (M : MuOk A B μ h) (k : ∀ b o, h.get? b = some o → h'.get? b = some o) : MuOk A B μ h' := by
  have kx : KX [] h h' := .of_keep k
  refine ⟨fun b o e => k b o (M.base b o e), M.off, fun p hp => ?_, M.nd, ?_⟩
  · obtain ⟨vs, hl, r⟩ := M.mus p hp
    exact ⟨vs, isL_keep kx List.not_mem_nil hl, r.move kx mem_nil_off fun _ h => .inl h⟩
  · obtain ⟨l, h1, h2⟩ := M.ff
    exact ⟨l, h1, h2.kx kx mem_nil_off⟩

/-- what is fixed: the world, the base heap -/
structure Gx where
  w : World
  B : Heap

/-- the room that is left -/
noncomputable def Rm (n : Nat) (A : Around) : Prop := A.handled = none ∧ A.depth + n < recursionLimit ∧ A.units + 100 * n < cLine
theorem Rm.deeper {n : Nat} {A : Around} (r : Rm (n + 1) A) (env : Env) : Rm n (A.deeper env) := by
  obtain ⟨h1, h2, h3⟩ := r
  refine ⟨h1, ?_, ?_⟩
  · show A.depth + 1 + n < _; omega
  · show A.units + 3 + 100 * n < _; omega
theorem Rm.room {n : Nat} {A : Around} (r : Rm n A) : A.depth < recursionLimit := by have := r.2.1; omega
theorem Rm.units {n : Nat} {A : Around} (r : Rm (n + 1) A) : A.units + 64 < cLine := by have := r.2.2; omega
noncomputable abbrev Mo (w : World) : Model := model PySem.Challenge.rw_oy0054_01.row.prog w

/-- what holds behind an operation that yields -/
inductive PV {α δ : Type} (R : List Addr → Heap → α → δ → Prop) (B : Heap) (A : Around) (Y : List Addr) (s₀ : Shared) (K : δ → Mu → Prop) (v : α) (s' : Shared) : Prop
  | mk (d : δ) (μ' : Mu) (k : K d μ') (r : R (keys μ') s'.heap v d) (M : MuOk A B μ' s'.heap) (t : Tr Y (keys μ') s₀ s') : PV R B A Y s₀ K v s'
/-- what holds behind a test -/
inductive PB (B : Heap) (A : Around) (Y : List Addr) (s₀ : Shared) (K : Bool → Mu → Prop) (b : Bool) (s' : Shared) : Prop
  | mk (μ' : Mu) (k : K b μ') (M : MuOk A B μ' s'.heap) (t : Tr Y (keys μ') s₀ s') : PB B A Y s₀ K b s'

/-- an expression: from data to data -/
noncomputable def AE (G : Gx) (n : Nat) (env : Env) (W : List Str) (e : Expr) (ρ : Rho) (μ : Mu) (K : D → Mu → Prop) : Prop :=
  ∀ A s, Rm n A → MuOk A G.B μ s.heap → FrOk G.B env W ρ (keys μ) s.heap →
    wpAny (Mo G.w) A (eval e env) (PV Rep G.B A (keys μ) s K) (fun _ _ => False) s

/-- a test -/
noncomputable def AT (G : Gx) (n : Nat) (env : Env) (W : List Str) (e : Expr) (ρ : Rho) (μ : Mu) (K : Bool → Mu → Prop) : Prop :=
  ∀ A s, Rm n A → MuOk A G.B μ s.heap → FrOk G.B env W ρ (keys μ) s.heap →
    wpAny (Mo G.w) A (isTrue e env (eval e env)) (PB G.B A (keys μ) s K) (fun _ _ => False) s

/-- a list of expressions, each not starred -/
noncomputable def AEs (G : Gx) (n : Nat) (env : Env) (W : List Str) (es : List Expr) (ρ : Rho) (μ : Mu) (K : List D → Mu → Prop) : Prop :=
  ∀ A s pos, Rm n A → MuOk A G.B μ s.heap → FrOk G.B env W ρ (keys μ) s.heap →
    wpAny (Mo G.w) A (spliced (backTo pos (starEach es env))) (PV RepL G.B A (keys μ) s K) (fun _ _ => False) s

/-- an operation on values -/
noncomputable def VA {α : Type} (G : Gx) (n : Nat) (t : List Value → Sem α) (R : List Addr → Heap → α → D → Prop) (ds : List D) (μ : Mu) (K : D → Mu → Prop) : Prop :=
  ∀ A s vs, Rm n A → MuOk A G.B μ s.heap → RepL (keys μ) s.heap vs ds →
    wpAny (Mo G.w) A (t vs) (PV R G.B A (keys μ) s K) (fun _ _ => False) s

noncomputable abbrev V1 (G : Gx) (n : Nat) (t : Value → Sem Value) (d : D) (μ : Mu) (K : D → Mu → Prop) : Prop :=
  ∀ A s v, Rm n A → MuOk A G.B μ s.heap → Rep (keys μ) s.heap v d →
    wpAny (Mo G.w) A (t v) (PV Rep G.B A (keys μ) s K) (fun _ _ => False) s
noncomputable abbrev V2 (G : Gx) (n : Nat) (t : Value → Value → Sem Value) (d e : D) (μ : Mu) (K : D → Mu → Prop) : Prop :=
  ∀ A s v u, Rm n A → MuOk A G.B μ s.heap → Rep (keys μ) s.heap v d → Rep (keys μ) s.heap u e →
    wpAny (Mo G.w) A (t v u) (PV Rep G.B A (keys μ) s K) (fun _ _ => False) s
noncomputable abbrev Vn (G : Gx) (n : Nat) (t : List Value → Sem Value) (ds : List D) (μ : Mu) (K : D → Mu → Prop) : Prop := VA G n t Rep ds μ K

inductive FD where
  | next | brk | cont
  | ret (d : D)
inductive FRep (X : List Addr) (h : Heap) : Flow → FD → Prop
  | next : FRep X h .next .next
  | brk : FRep X h .brk .brk
  | cont : FRep X h .cont .cont
  | ret {v : Value} {d : D} : Rep X h v d → FRep X h (.ret v) (.ret d)

/-- the addresses that a body may change beside the lists: its frame, its own cells -/
noncomputable def ownA (env : Env) (W : List Str) : List Addr := env.locals :: W.filterMap fun x => if env.kindOf x = some .cell then env.cells.lookup x else none

/-- what holds behind statements -/
inductive PS (G : Gx) (env : Env) (W : List Str) (A : Around) (Y : List Addr) (s₀ : Shared) (K : FD → Rho → Mu → Prop) (f : Flow) (s' : Shared) : Prop
  | mk (fd : FD) (ρ' : Rho) (μ' : Mu) (k : K fd ρ' μ') (r : FRep (keys μ') s'.heap f fd) (M : MuOk A G.B μ' s'.heap) (F : FrOk G.B env W ρ' (keys μ') s'.heap) (t : Tr Y (ownA env W ++ keys μ') s₀ s') : PS G env W A Y s₀ K f s'

/-- statements -/
noncomputable def SE (G : Gx) (n : Nat) (env : Env) (W : List Str) (ss : List Stmt) (ρ : Rho) (μ : Mu) (K : FD → Rho → Mu → Prop) : Prop :=
  ∀ A s, Rm n A → MuOk A G.B μ s.heap → FrOk G.B env W ρ (keys μ) s.heap →
    wpAny (Mo G.w) A (execs ss env) (PS G env W A (ownA env W ++ keys μ) s K) (fun _ _ => False) s

end Mine

namespace Mine
open PySem PySem.Calls PyProof.Rows

/-- the text's global x is v -/
noncomputable def GVal (G : Gx) (x : Str) (v : Value) : Prop :=
  ∀ (M : Model) (A : Around) (E : Value → Shared → Prop) (Q : Value → Shared → Prop) (env : Env) (s : Shared), env.globals = mainGlobals → env.builtins = builtinsNs →
    (∀ b o, G.B.get? b = some o → s.heap.get? b = some o) → Q v s → wpAny M A (loadGlobal env x) Q E s

section
variable {G : Gx} {n : Nat} {env : Env} {W : List Str} {ρ : Rho} {μ : Mu}

theorem Lk.load {M : Model} {A : Around} {E : Value → Shared → Prop} {Q : Value → Shared → Prop} {s : Shared} {x : Str} {v : Value} (hk : env.scope.kind = .function) (l : Lk s.heap env x v) (h : Q v s) : wpAny M A (loadName env x) Q E s := by
  rcases l with ⟨hl, m, hn, hm⟩ | ⟨hl | ⟨hl, hcd⟩, c, hc, hv⟩
  · exact wpAny_loadName_local hk hl hn hm h
  · exact wpAny_loadName_cell hk hl hc hv h
  · exact wpAny_loadName_free hk hl hc hv h hcd

theorem AE.var {x : Str} {pos : Pos} {d : D} {K : D → Mu → Prop} (h : ρ.lookup x = some d) (k : K d μ) (hd : (x == ("__debug__" : Str)) = false := by decide) : AE G n env W (.Name x pos) ρ μ K := fun A s _ M F => by
  obtain ⟨v, l, r⟩ := F.vars x d h
  exact wpAny_Name (l.load F.kind ⟨d, μ, k, r, M, .refl ..⟩) hd
theorem AE.glob {x : Str} {pos : Pos} {v : Value} {K : D → Mu → Prop} (g : GVal G x v) (k : K (.val v) μ) (hk : env.kindOf x = some .globalImplicit := by rfl) (hd : (x == ("__debug__" : Str)) = false := by decide) :
    AE G n env W (.Name x pos) ρ μ K := fun A s _ M F =>
  Name_function_global F.kind hk (g _ _ _ _ _ _ F.gl F.bu M.base ⟨_, μ, k, .val v, M, .refl ..⟩) hd
theorem AE.int {i : Int} {k : Nat} {pos : Pos} {K : D → Mu → Prop} (h : K (.int i) μ) : AE G n env W (.Constant (.int i) k pos) ρ μ K := fun A s _ M F =>
  wpAny_Constant_int ⟨_, μ, h, .int _ _, M, .tok ..⟩
theorem AE.str {x : Str} {k : Nat} {pos : Pos} {K : D → Mu → Prop} (h : K (.str x) μ) : AE G n env W (.Constant (.str x) k pos) ρ μ K := fun A s _ M F =>
  Constant_str ⟨_, μ, h, .str _ _, M, .tok ..⟩
theorem AE.bool {b : Bool} {k : Nat} {pos : Pos} {K : D → Mu → Prop} (h : K (.bool b) μ) : AE G n env W (.Constant (.bool b) k pos) ρ μ K := fun A s _ M F =>
  Constant_bool ⟨_, μ, h, .bool _, M, .refl ..⟩
theorem AE.bytes {l : List UInt8} {k : Nat} {pos : Pos} {K : D → Mu → Prop} (h : K (.bytes l) μ) : AE G n env W (.Constant (.bytes l) k pos) ρ μ K := fun A s _ M F => by
  intro Γ p _
  exact ⟨_, μ, h, .bytes _ _, M, .tok ..⟩

theorem AE.mono {e : Expr} {K K' : D → Mu → Prop} (h : AE G n env W e ρ μ K) (hk : ∀ d μ', K d μ' → K' d μ') : AE G n env W e ρ μ K' := fun A s r M F =>
  wpAny_mono (h A s r M F) (fun _ _ ⟨d, μ', k, r, m, t⟩ => ⟨d, μ', hk _ _ k, r, m, t⟩) fun _ _ x => x
theorem AT.mono {e : Expr} {K K' : Bool → Mu → Prop} (h : AT G n env W e ρ μ K) (hk : ∀ d μ', K d μ' → K' d μ') : AT G n env W e ρ μ K' := fun A s r M F =>
  wpAny_mono (h A s r M F) (fun _ _ ⟨μ', k, m, t⟩ => ⟨μ', hk _ _ k, m, t⟩) fun _ _ x => x
theorem SE.mono {ss : List Stmt} {K K' : FD → Rho → Mu → Prop} (h : SE G n env W ss ρ μ K) (hk : ∀ d ρ' μ', K d ρ' μ' → K' d ρ' μ') : SE G n env W ss ρ μ K' := fun A s r M F =>
  wpAny_mono (h A s r M F) (fun _ _ ⟨d, ρ', μ', k, r, m, f, t⟩ => ⟨d, ρ', μ', hk _ _ _ k, r, m, f, t⟩) fun _ _ x => x

/-- one more step behind an expression -/
theorem AE.go {e : Expr} {K : D → Mu → Prop} {A : Around} {s : Shared} {Q : Value → Shared → Prop} (h : AE G n env W e ρ μ K) (r : Rm n A) (M : MuOk A G.B μ s.heap) (F : FrOk G.B env W ρ (keys μ) s.heap)
    (hk : ∀ d μ' v s', K d μ' → Rep (keys μ') s'.heap v d → MuOk A G.B μ' s'.heap → FrOk G.B env W ρ (keys μ') s'.heap → Tr (keys μ) (keys μ') s s' → Q v s') :
    wpAny (Mo G.w) A (eval e env) Q (fun _ _ => False) s :=
  wpAny_mono (h A s r M F) (fun v s' ⟨d, μ', k, x, m, t⟩ => hk d μ' v s' k x m (F.tr M t) t) fun _ _ x => x
theorem AT.go {e : Expr} {K : Bool → Mu → Prop} {A : Around} {s : Shared} {Q : Bool → Shared → Prop} (h : AT G n env W e ρ μ K) (r : Rm n A) (M : MuOk A G.B μ s.heap) (F : FrOk G.B env W ρ (keys μ) s.heap)
    (hk : ∀ b μ' s', K b μ' → MuOk A G.B μ' s'.heap → FrOk G.B env W ρ (keys μ') s'.heap → Tr (keys μ) (keys μ') s s' → Q b s') :
    wpAny (Mo G.w) A (isTrue e env (eval e env)) Q (fun _ _ => False) s :=
  wpAny_mono (h A s r M F) (fun v s' ⟨μ', k, m, t⟩ => hk v μ' s' k m (F.tr M t) t) fun _ _ x => x
/-- the end of an operation, behind a step before -/
theorem post_tr {A : Around} {B : Heap} {α : Type} {R : List Addr → Heap → α → D → Prop} {t : Sem α} {M : Model} {Y : List Addr} {μ : Mu} {K : D → Mu → Prop} {s₀ s : Shared} (t₀ : Tr Y (keys μ) s₀ s)
    (h : wpAny M A t (PV R B A (keys μ) s K) (fun _ _ => False) s) :
    wpAny M A t (PV R B A Y s₀ K) (fun _ _ => False) s :=
  wpAny_mono h (fun _ _ ⟨d, μ', k, r, m, t⟩ => ⟨d, μ', k, r, m, t₀.trans t⟩) fun _ _ x => x
theorem postT_tr {A : Around} {B : Heap} {t : Sem Bool} {M : Model} {Y : List Addr} {μ : Mu} {K : Bool → Mu → Prop} {s₀ s : Shared} (t₀ : Tr Y (keys μ) s₀ s)
    (h : wpAny M A t (PB B A (keys μ) s K) (fun _ _ => False) s) :
    wpAny M A t (PB B A Y s₀ K) (fun _ _ => False) s :=
  wpAny_mono h (fun _ _ ⟨μ', k, m, t⟩ => ⟨μ', k, m, t₀.trans t⟩) fun _ _ x => x

theorem AE.binop {l r : Expr} {op : Operator} {pos : Pos} {K : D → Mu → Prop}
    (h : AE G n env W l ρ μ fun d μ₁ => AE G n env W r ρ μ₁ fun e μ₂ => V2 G n (binaryOp op) d e μ₂ K) : AE G n env W (.BinOp l op r pos) ρ μ K := fun A s rm M F =>
  wpAny_BinOp (h.go rm M F fun d μ₁ v s₁ k rv M₁ F₁ t₁ => k.go rm M₁ F₁ fun e μ₂ u s₂ k₂ ru M₂ F₂ t₂ => post_tr (t₁.trans t₂) (k₂ A s₂ v u rm M₂ (rv.tr t₂) ru))
theorem AE.cmp {l r : Expr} {op : CmpOp} {pos : Pos} {K : D → Mu → Prop}
    (h : AE G n env W l ρ μ fun d μ₁ => AE G n env W r ρ μ₁ fun e μ₂ => V2 G n (compareOp op) d e μ₂ K) (hm : behindInMarks op r = false := by with_unfolding_all rfl) : AE G n env W (.Compare l [op] [r] pos) ρ μ K := fun A s rm M F =>
  wpAny_Compare1 (h.go rm M F fun d μ₁ v s₁ k rv M₁ F₁ t₁ => k.go rm M₁ F₁ fun e μ₂ u s₂ k₂ ru M₂ F₂ t₂ => post_tr (t₁.trans t₂) (k₂ A s₂ v u rm M₂ (rv.tr t₂) ru)) hm
theorem AT.cmp {l r : Expr} {op : CmpOp} {pos : Pos} {K : Bool → Mu → Prop}
    (h : AE G n env W l ρ μ fun d μ₁ => AE G n env W r ρ μ₁ fun e μ₂ => V2 G n (compareOp op) d e μ₂ fun c μ₃ => ∃ b, c = .bool b ∧ K b μ₃) (hm : behindInMarks op r = false := by with_unfolding_all rfl) :
    AT G n env W (.Compare l [op] [r] pos) ρ μ K := fun A s rm M F =>
  wpAny_isTrue_Compare1 (h.go rm M F fun d μ₁ v s₁ k rv M₁ F₁ t₁ => k.go rm M₁ F₁ fun e μ₂ u s₂ k₂ ru M₂ F₂ t₂ =>
    wpAny_mono (k₂ A s₂ v u rm M₂ (rv.tr t₂) ru) (fun c s₃ ⟨d', μ₃, ⟨b, hb, kb⟩, rc, M₃, t₃⟩ => by
      subst hb; (first | obtain ⟨_, rfl⟩ := rc.intD | obtain ⟨_, rfl⟩ := rc.bytesD | obtain ⟨_, rfl⟩ := rc.strD | obtain rfl := rc.boolD | obtain rfl := rc.valD | obtain rfl := rc.noneD | cases rc)
      exact wpAny_truthy_bool ⟨μ₃, kb, M₃, (t₁.trans t₂).trans t₃⟩) fun _ _ x => x) hm
theorem AT.not {x : Expr} {pos : Pos} {K : Bool → Mu → Prop} (h : AT G n env W x ρ μ fun b μ' => K (!b) μ') : AT G n env W (.UnaryOp .Not x pos) ρ μ K := fun A s rm M F =>
  isTrue_not (wpAny_mono (h A s rm M F) (fun _ _ ⟨μ', k, m, t⟩ => ⟨μ', k, m, t⟩) fun _ _ z => z)
theorem AT.and_one {x : Expr} {pos : Pos} {K : Bool → Mu → Prop} (h : AT G n env W x ρ μ K) : AT G n env W (.BoolOp .And [x] pos) ρ μ K := fun A s rm M F =>
  isTrue_and (wpAny_mono (h A s rm M F) (fun b s' q => by cases b with | false => exact q | true => exact isTrue_and_nil q) fun _ _ x => x)
theorem AT.and {x y : Expr} {rest : List Expr} {pos : Pos} {K : Bool → Mu → Prop} (h : AT G n env W x ρ μ fun b μ' => if b then AT G n env W (.BoolOp .And (y :: rest) pos) ρ μ' K else K false μ') :
    AT G n env W (.BoolOp .And (x :: y :: rest) pos) ρ μ K := fun A s rm M F =>
  isTrue_and (h.go rm M F fun b μ' s' k M' F' t => by
    cases b with
    | false => exact ⟨μ', k, M', t⟩
    | true => exact postT_tr t (k A s' rm M' F'))
theorem AT.plain {e : Expr} {K : Bool → Mu → Prop}
    (h : AE G n env W e ρ μ fun d μ₁ => ∀ A s v, Rm n A → MuOk A G.B μ₁ s.heap → Rep (keys μ₁) s.heap v d → wpAny (Mo G.w) A (truthy v) (PB G.B A (keys μ₁) s K) (fun _ _ => False) s)
    (he : ∀ whole, isTrue e env whole = (do let v ← whole; standAt e.pos; holding [v] (truthy v)) := by intro _; rfl) : AT G n env W e ρ μ K := fun A s rm M F =>
  isTrue_plain (h.go rm M F fun d μ₁ v s₁ k rv M₁ F₁ t₁ => postT_tr t₁ (k A s₁ v rm M₁ rv)) (he _)
theorem AE.ifexp {c a b : Expr} {pos : Pos} {K : D → Mu → Prop} (h : AT G n env W c ρ μ fun t μ' => if t then AE G n env W a ρ μ' K else AE G n env W b ρ μ' K) : AE G n env W (.IfExp c a b pos) ρ μ K := fun A s rm M F =>
  IfExp_ (h.go rm M F fun t μ' s' k M' F' tr => by
    cases t with
    | false => exact post_tr tr (k A s' rm M' F')
    | true => exact post_tr tr (k A s' rm M' F'))
theorem AE.and {x y : Expr} {pos : Pos} {K : D → Mu → Prop} (h : AE G n env W x ρ μ fun d μ₁ => ∃ b, d = .bool b ∧ if b then AE G n env W y ρ μ₁ K else K (.bool false) μ₁) : AE G n env W (.BoolOp .And [x, y] pos) ρ μ K := fun A s rm M F =>
  BoolOp_and (h.go rm M F fun d μ₁ v s₁ ⟨b, hb, k⟩ rv M₁ F₁ t₁ => by
    subst hb; (first | obtain ⟨_, rfl⟩ := rv.intD | obtain ⟨_, rfl⟩ := rv.bytesD | obtain ⟨_, rfl⟩ := rv.strD | obtain rfl := rv.boolD | obtain rfl := rv.valD | obtain rfl := rv.noneD | cases rv)
    refine wpAny_truthy_bool ?_
    cases b with
    | false => exact ⟨_, μ₁, k, .bool _, M₁, t₁⟩
    | true => exact BoolOp_one (post_tr t₁ (k A s₁ rm M₁ F₁)))

theorem AEs.nil {K : List D → Mu → Prop} (h : K [] μ) : AEs G n env W [] ρ μ K := fun A s pos rm M F => args_nil ⟨[], μ, h, .nil, M, .refl ..⟩
theorem AEs.cons {e : Expr} {rest : List Expr} {K : List D → Mu → Prop} (h : AE G n env W e ρ μ fun d μ₁ => AEs G n env W rest ρ μ₁ fun ds μ₂ => K (d :: ds) μ₂)
    (he : starEach (e :: rest) env = (false, eval e env) :: starEach rest env := by rfl) : AEs G n env W (e :: rest) ρ μ K := fun A s pos rm M F =>
  args_cons (h.go rm M F fun d μ₁ v s₁ k rv M₁ F₁ t₁ => wpAny_mono (k A s₁ pos rm M₁ F₁) (fun vs s₂ ⟨ds, μ₂, k₂, rs, M₂, t₂⟩ => ⟨d :: ds, μ₂, k₂, .cons (rv.tr t₂) rs, M₂, t₁.trans t₂⟩) fun _ _ x => x) he
theorem AEs.go {es : List Expr} {K : List D → Mu → Prop} {A : Around} {s : Shared} {pos : Pos} {Q : List Value → Shared → Prop} (h : AEs G n env W es ρ μ K) (r : Rm n A) (M : MuOk A G.B μ s.heap) (F : FrOk G.B env W ρ (keys μ) s.heap)
    (hk : ∀ ds μ' vs s', K ds μ' → RepL (keys μ') s'.heap vs ds → MuOk A G.B μ' s'.heap → FrOk G.B env W ρ (keys μ') s'.heap → Tr (keys μ) (keys μ') s s' → Q vs s') :
    wpAny (Mo G.w) A (spliced (backTo pos (starEach es env))) Q (fun _ _ => False) s :=
  wpAny_mono (h A s pos r M F) (fun v s' ⟨d, μ', k, x, m, t⟩ => hk d μ' v s' k x m (F.tr M t) t) fun _ _ x => x

/-- what may be called: a built-in, a type, a def of the text's -/
inductive Cal (G : Gx) : Value → Prop
  | builtin (id : String) : Cal G (.builtin id)
  | type (T : String) : Cal G (.type T)
  | fn {a : Addr} {o : Obj} {fd : FuncData} : G.B.get? a = some o → o.data = .func fd → Cal G (.ref a)

theorem AE.call {func e : Expr} {rest : List Expr} {pos : Pos} {K : D → Mu → Prop}
    (h : AE G n env W func ρ μ fun df μ₁ => ∃ f, df = .val f ∧ Cal G f ∧ AEs G n env W (e :: rest) ρ μ₁ fun ds μ₂ => Vn G n (fun vs => call f vs) ds μ₂ K)
    (he : eval (.Call func (e :: rest) [] pos) env = (do callWith pos (← eval func env) [] (backTo pos (starEach (e :: rest) env)) (backToKw pos (keywordEach [] env))) := by rfl)
    (hs : starEach (e :: rest) env = (false, eval e env) :: starEach rest env := by rfl) (hp : (backTo pos (starEach rest env)).any (·.1) = false := by rfl) :
    AE G n env W (.Call func (e :: rest) [] pos) ρ μ K := fun A s rm M F =>
  Call_ (h.go rm M F fun df μ₁ f s₁ ⟨f', hf, c, k⟩ rf M₁ F₁ t₁ => by
    subst hf; (first | obtain ⟨_, rfl⟩ := rf.intD | obtain ⟨_, rfl⟩ := rf.bytesD | obtain ⟨_, rfl⟩ := rf.strD | obtain rfl := rf.boolD | obtain rfl := rf.valD | obtain rfl := rf.noneD | cases rf)
    have hpl : (backTo pos (starEach (e :: rest) env)).any (·.1) = false := by rw [hs]; show (false || (backTo pos (starEach rest env)).any (·.1)) = false; rw [hp]; rfl
    have go := k.go (pos := pos) (Q := fun vs s₂ => (∀ b o, G.B.get? b = some o → s₂.heap.get? b = some o) ∧ wpAny (Mo G.w) A (PySem.call f vs) (PV Rep G.B A (keys μ) s K) (fun _ _ => False) s₂) rm M₁ F₁
      fun ds μ₂ vs s₂ k₂ rs M₂ F₂ t₂ => ⟨M₂.base, post_tr (t₁.trans t₂) (k₂ A s₂ vs rm M₂ rs)⟩
    cases c with
    | builtin id => exact callWith_builtin1 (wpAny_mono go (fun _ _ x => x.2) fun _ _ x => x) hs hp
    | type T =>
      rw [hs] at go hpl ⊢
      exact PySem.callWith_type hpl (evalArgs_plain (wpAny_mono go (fun _ _ x => x.2) fun _ _ x => x))
    | fn ho hd => exact callWith_def hd (wpAny_mono go (fun _ _ x => ⟨x.1 _ _ ho, x.2⟩) fun _ _ x => x) hs) he
end
end Mine

namespace Mine
open PySem PySem.Calls PyProof.Rows

theorem nn (i : Nat) : (0 : Int) ≤ i := Int.natCast_nonneg i
theorem n63 {i m b : Nat} (h : i < m) (hm : m ≤ b) (hb : b ≤ 1000000 := by decide) : (i : Int) < 2 ^ 63 := by omega
theorem n63s {i m : Nat} (h : i < m) (hm : m < 2 ^ 60) : (i : Int) < 2 ^ 63 := by omega
theorem dead_size (h : Heap) : h.get? h.objs.size = none := Heap.get?_none_of_le (Nat.le_refl _)
theorem live_lt {h : Heap} {a : Addr} (x : h.get? a ≠ none) : a < h.objs.size := by
  cases q : h.get? a with
  | none => exact absurd q x
  | some o => exact Heap.lt_size q
theorem MuOk.live {A : Around} {B : Heap} {μ : Mu} {h : Heap} (M : MuOk A B μ h) {a : Addr} (ha : a ∈ keys μ) : h.get? a ≠ none := by
  obtain ⟨p, hp, rfl⟩ := List.mem_map.mp ha
  obtain ⟨vs, hl, _⟩ := M.mus p hp
  exact hl.live
theorem MuOk.dead {A : Around} {B : Heap} {μ : Mu} {h : Heap} (M : MuOk A B μ h) {a : Addr} (e : h.get? a = none) : a ∉ keys μ ∧ B.get? a = none :=
  ⟨fun q => M.live q e, by
    cases q : B.get? a with
    | none => rfl
    | some o => have := M.base a o q; rw [e] at this; cases this⟩
/-- a new list that will change -/
theorem MuOk.more {A : Around} {B : Heap} {μ : Mu} {h h' : Heap} {a : Addr} {vs : List Value} {ds : List D} (M : MuOk A B μ h) (k : ∀ b o, h.get? b = some o → h'.get? b = some o) (e : h.get? a = none) (l : IsL h' a vs) (r : RepL (keys μ) h vs ds) :
    MuOk A B ((a, ds) :: μ) h' := by
  have M' := M.keep k
  have kx : KX [] h h' := .of_keep k
  have mv : ∀ {ws : List Value} {es : List D}, RepL (keys μ) h ws es → RepL (a :: keys μ) h' ws es := fun q => q.move kx mem_nil_off fun b hb => by
    rcases List.mem_cons.mp hb with rfl | hb
    · exact .inr e
    · exact .inl hb
  refine ⟨M'.base, fun b hb => ?_, fun p hp => ?_, ?_, M'.ff⟩
  · rcases List.mem_cons.mp hb with rfl | hb
    · exact (M.dead e).2
    · exact M.off b hb
  · rcases List.mem_cons.mp hp with rfl | hp
    · exact ⟨vs, l, mv r⟩
    · obtain ⟨ws, hl, rr⟩ := M.mus p hp
      exact ⟨ws, isL_keep kx List.not_mem_nil hl, mv rr⟩
  · exact List.nodup_cons.mpr ⟨(M.dead e).1, M.nd⟩
/-- a list that will change no more -/
theorem MuOk.less {A : Around} {B : Heap} {μ : Mu} {h : Heap} {a : Addr} {ds : List D} (M : MuOk A B ((a, ds) :: μ) h) : MuOk A B μ h ∧ Rep (keys μ) h (.ref a) (.list ds) := by
  have mv : ∀ {ws : List Value} {es : List D}, RepL (keys ((a, ds) :: μ)) h ws es → RepL (keys μ) h ws es := fun q => q.move (KX.refl [] h) mem_nil_off fun b hb => .inl (.tail _ hb)
  refine ⟨⟨M.base, fun b hb => M.off b (.tail _ hb), fun p hp => ?_, (List.nodup_cons.mp M.nd).2, M.ff⟩, ?_⟩
  · obtain ⟨ws, hl, rr⟩ := M.mus p (.tail _ hp)
    exact ⟨ws, hl, mv rr⟩
  · obtain ⟨ws, hl, rr⟩ := M.mus _ (.head _)
    exact .list (List.nodup_cons.mp M.nd).1 hl (mv rr)
/-- the first list changes -/
theorem MuOk.set {A : Around} {B : Heap} {μ : Mu} {h h' : Heap} {a : Addr} {ds es : List D} {ws : List Value} (M : MuOk A B ((a, ds) :: μ) h) (hs : Heap.SameBut a h h') (l : IsL h' a ws) (r : RepL (keys ((a, ds) :: μ)) h ws es) : MuOk A B ((a, es) :: μ) h' := by
  have k : KX [a] h h' := .of_sameBut hs (.head _)
  have ka : ∀ b ∈ [a], b ∈ keys ((a, ds) :: μ) := fun b hb => by cases hb with | head => exact .head _ | tail _ q => cases q
  have mv : ∀ {ws : List Value} {es' : List D}, RepL (keys ((a, ds) :: μ)) h ws es' → RepL (keys ((a, es) :: μ)) h' ws es' := fun q => q.move k (fun b hb => .inl (ka b hb)) fun b hb => .inl hb
  refine ⟨fun b o e => ?_, M.off, fun p hp => ?_, M.nd, ?_⟩
  · refine (hs.2 b fun q => ?_).trans (M.base b o e)
    have := M.off a (.head _)
    rw [← q, e] at this; cases this
  · rcases List.mem_cons.mp hp with rfl | hp'
    · exact ⟨ws, l, mv r⟩
    · obtain ⟨us, hl, rr⟩ := M.mus p (.tail _ hp')
      refine ⟨us, isL_keep k (fun q => ?_) hl, mv rr⟩
      cases q with
      | head => exact (List.nodup_cons.mp M.nd).1 (List.mem_map.mpr ⟨p, hp', rfl⟩)
      | tail _ q => cases q
  · obtain ⟨l', h1, h2⟩ := M.ff
    exact ⟨l', h1, h2.kx k fun b hb => M.sep b (ka b hb)⟩

theorem ns_unique {h : Heap} {a : Addr} {m m' : Str → Option Value} (x : h.Ns a m) (y : h.Ns a m') : m = m' := by
  obtain ⟨o, es, ep, ho, hd, _, hm⟩ := x
  obtain ⟨o', es', ep', ho', hd', _, hm'⟩ := y
  rw [ho] at ho'; cases ho'
  rw [hd] at hd'; cases hd'
  funext z; rw [← hm z, hm' z]

theorem NotSeq.sub {h h' : Heap} {a : Addr} (_ : h = h') (x : NotSeq h a) : NotSeq h a := x

/-- a frame object or a cell changes: what is told of the lists stays -/
theorem MuOk.off1 {A : Around} {B : Heap} {μ : Mu} {h h' : Heap} {c : Addr} (M : MuOk A B μ h) (hs : Heap.SameBut c h h') (hn : NotSeq h c) (hb : B.get? c = none) (hf : ∀ m, h.Ns c m → ∃ m', h'.Ns c m') : MuOk A B μ h' := by
  have k : KX [c] h h' := .of_sameBut hs (.head _)
  have ns : ∀ y ∈ [c], y ∈ keys μ ∨ NotSeq h y := fun y hy => by cases hy with | head => exact .inr hn | tail _ q => cases q
  refine ⟨fun b o e => ?_, M.off, fun p hp => ?_, M.nd, ?_⟩
  · refine (hs.2 b fun q => ?_).trans (M.base b o e)
    rw [q, hb] at e; cases e
  · obtain ⟨vs, hl, r⟩ := M.mus p hp
    exact ⟨vs, isL_keep k (fun q => by cases q with | head => exact hl.seq hn | tail _ q => cases q) hl, r.move k ns fun _ q => .inl q⟩
  · obtain ⟨l, h1, h2⟩ := M.ff
    refine ⟨l, h1, fun env he => ?_⟩
    obtain ⟨hk, L, m, hf', hb', hns⟩ := h2 env he
    by_cases q : L = c
    · subst q
      obtain ⟨m', hm'⟩ := hf m hns
      exact ⟨hk, L, m', hf', hb', hm'⟩
    · exact ⟨hk, L, m, hf', hb', hns.sameBut hs q⟩

theorem Ns.notCell {h : Heap} {a : Addr} {m : Str → Option Value} {v : Option Value} (x : h.Ns a m) (y : h.IsCell a v) : False := by
  obtain ⟨o, es, ep, ho, hd, _⟩ := x
  obtain ⟨o', ho', hd'⟩ := y
  rw [ho] at ho'; cases ho'
  rw [hd] at hd'; cases hd'

theorem store {G : Gx} {M' : Model} {A : Around} {env : Env} {W : List Str} {ρ : Rho} {μ : Mu} {s : Shared} {x : Str} {v : Value} {d : D} {Q : Unit → Shared → Prop} {E : Value → Shared → Prop}
    (M : MuOk A G.B μ s.heap) (F : FrOk G.B env W ρ (keys μ) s.heap) (hx : x ∈ W) (r : Rep (keys μ) s.heap v d)
    (h : ∀ s', MuOk A G.B μ s'.heap → FrOk G.B env W ((x, d) :: ρ) (keys μ) s'.heap → Tr (ownA env W ++ keys μ) (ownA env W ++ keys μ) s s' → (∀ u e, Rep (keys μ) s.heap u e → Rep (keys μ) s'.heap u e) → Q () s') : wpAny M' A (storeName env x v) Q E s := by
  obtain ⟨m, hn⟩ := F.ns
  rcases F.stor x hx with hl | ⟨hl, c, hc, hb, v₀, hv⟩
  · refine wpAny_storeName_local hl hn (fun h' hn' hs => ?_) (by rw [F.kind]; rfl)
    have k : KX [env.locals] s.heap h' := .of_sameBut hs (.head _)
    have hns := NotSeq.of_ns hn
    have ns : ∀ y ∈ [env.locals], y ∈ keys μ ∨ NotSeq s.heap y := fun y hy => by cases hy with | head => exact .inr hns | tail _ q => cases q
    have mv : ∀ {u : Value} {e : D}, Rep (keys μ) s.heap u e → Rep (keys μ) h' u e := fun q => q.move k ns fun _ z => .inl z
    have cl : ∀ {c : Addr} {u : Option Value}, s.heap.IsCell c u → h'.IsCell c u := fun q => isCell_keep k (fun z => by cases z with | head => exact Ns.notCell hn q | tail _ z => cases z) q
    refine h _ (M.off1 hs hns F.lo fun m₁ _ => ⟨_, hn'⟩) ⟨F.kind, ⟨_, hn'⟩, F.lo, F.gl, F.bu, F.inj, fun y c hc => let ⟨v, hv⟩ := F.cel y c hc; ⟨v, cl hv⟩, fun y hy => ?_, fun y e he => ?_⟩ ⟨h', _, rfl, .of_sameBut hs (.head _), fun _ z => .inl z⟩ fun _ _ => mv
    · exact (F.stor y hy).imp id fun ⟨a, c, b, e, u, w⟩ => ⟨a, c, b, e, u, cl w⟩
    · by_cases q : y = x
      · subst q
        rw [List.lookup_cons_self] at he; cases he
        exact ⟨v, .inl ⟨hl, _, hn', by simp⟩, mv r⟩
      · have hne : (y == x) = false := beq_eq_false_iff_ne.mpr q
        rw [List.lookup_cons, hne] at he
        obtain ⟨u, l, ru⟩ := F.vars y e he
        refine ⟨u, ?_, mv ru⟩
        rcases l with ⟨h1, m₂, h2, h3⟩ | ⟨h1, c, h2, h3⟩
        · obtain rfl := ns_unique hn h2
          exact .inl ⟨h1, _, hn', by simp [q, h3]⟩
        · exact .inr ⟨h1, c, h2, cl h3⟩
  · refine wpAny_storeName_cell F.kind hl hc hv fun h' hv' hs => ?_
    have k : KX [c] s.heap h' := .of_sameBut hs (.head _)
    have hns := NotSeq.of_cell hv
    have ns : ∀ y ∈ [c], y ∈ keys μ ∨ NotSeq s.heap y := fun y hy => by cases hy with | head => exact .inr hns | tail _ q => cases q
    have mv : ∀ {u : Value} {e : D}, Rep (keys μ) s.heap u e → Rep (keys μ) h' u e := fun q => q.move k ns fun _ z => .inl z
    have nsk : ∀ {a : Addr} {m : Str → Option Value}, s.heap.Ns a m → h'.Ns a m := fun q => ns_keep k (fun z => by cases z with | head => exact Ns.notCell q hv | tail _ z => cases z) q
    refine h _ (M.off1 hs hns hb fun m₁ z => (Ns.notCell z hv).elim) ⟨F.kind, ⟨_, nsk hn⟩, F.lo, F.gl, F.bu, F.inj, fun y c' hc' => (if q : c' = c then ⟨_, q ▸ hv'⟩ else let ⟨v, hv⟩ := F.cel y c' hc'; ⟨v, hv.sameBut hs q⟩), fun y hy => ?_, fun y e he => ?_⟩ ⟨h', s.toks, rfl, .of_sameBut hs ?_, fun _ z => .inl z⟩ fun _ _ => mv
    · refine (F.stor y hy).imp id fun ⟨a, c', b, e, u, w⟩ => ⟨a, c', b, e, ?_⟩
      by_cases q : c' = c
      · subst q; exact ⟨_, hv'⟩
      · exact ⟨u, w.sameBut hs q⟩
    · by_cases q : y = x
      · subst q
        rw [List.lookup_cons_self] at he; cases he
        exact ⟨v, .inr ⟨.inl hl, c, hc, hv'⟩, mv r⟩
      · have hne : (y == x) = false := beq_eq_false_iff_ne.mpr q
        rw [List.lookup_cons, hne] at he
        obtain ⟨u, l, ru⟩ := F.vars y e he
        refine ⟨u, ?_, mv ru⟩
        rcases l with ⟨h1, m₂, h2, h3⟩ | ⟨h1, c', h2, h3⟩
        · exact .inl ⟨h1, m₂, nsk h2, h3⟩
        · exact .inr ⟨h1, c', h2, h3.sameBut hs fun z => q (F.inj _ _ _ (z ▸ h2) hc)⟩
    · exact List.mem_append_left _ (.tail _ (List.mem_filterMap.mpr ⟨x, hx, by simp [hl, hc]⟩))

theorem FrOk.weaken {B : Heap} {env : Env} {W : List Str} {ρ ρ' : Rho} {X : List Addr} {h : Heap} (F : FrOk B env W ρ X h) (w : ∀ x d, ρ'.lookup x = some d → ρ.lookup x = some d) : FrOk B env W ρ' X h :=
  ⟨F.kind, F.ns, F.lo, F.gl, F.bu, F.inj, F.cel, F.stor, fun x d e => F.vars x d (w x d e)⟩

theorem Tr.wide {Y Y' Z : List Addr} {s s' : Shared} (t : Tr Y Y' s s') : Tr (Z ++ Y) (Z ++ Y') s s' := by
  obtain ⟨h', tk', rfl, k, n⟩ := t
  refine ⟨h', tk', rfl, k.weaken fun a ha => List.mem_append_right _ ha, fun a ha => ?_⟩
  rcases List.mem_append.mp ha with q | q
  · exact .inl (List.mem_append_left _ q)
  · exact (n a q).imp (fun z => List.mem_append_right _ z) id

section
variable {G : Gx} {n : Nat} {env : Env} {W : List Str} {ρ : Rho} {μ : Mu}

/-- one statement -/
noncomputable def S1 (G : Gx) (n : Nat) (env : Env) (W : List Str) (st : Stmt) (ρ : Rho) (μ : Mu) (K : FD → Rho → Mu → Prop) : Prop :=
  ∀ A s, Rm n A → MuOk A G.B μ s.heap → FrOk G.B env W ρ (keys μ) s.heap →
    wpAny (Mo G.w) A (exec st env) (PS G env W A (ownA env W ++ keys μ) s K) (fun _ _ => False) s

theorem postS_tr {A : Around} {t : Sem Flow} {M : Model} {μ₀ : Mu} {K : FD → Rho → Mu → Prop} {s₀ s : Shared} (t₀ : Tr (ownA env W ++ keys μ₀) (ownA env W ++ keys μ) s₀ s)
    (h : wpAny M A t (PS G env W A (ownA env W ++ keys μ) s K) (fun _ _ => False) s) :
    wpAny M A t (PS G env W A (ownA env W ++ keys μ₀) s₀ K) (fun _ _ => False) s :=
  wpAny_mono h (fun _ _ ⟨d, ρ', μ', k, r, m, f, t⟩ => ⟨d, ρ', μ', k, r, m, f, t₀.trans t⟩) fun _ _ x => x

theorem SE.nil {K : FD → Rho → Mu → Prop} (h : K .next ρ μ) : SE G n env W [] ρ μ K := fun A s _ M F => wpAny_execs_nil ⟨_, ρ, μ, h, .next, M, F, .refl ..⟩
theorem SE.cons {st : Stmt} {rest : List Stmt} {K : FD → Rho → Mu → Prop} (h : S1 G n env W st ρ μ fun f ρ' μ' => match f with | .next => SE G n env W rest ρ' μ' K | f => K f ρ' μ') : SE G n env W (st :: rest) ρ μ K := fun A s rm M F =>
  wpAny_execs_cons (wpAny_mono (h A s rm M F) (fun f s' ⟨fd, ρ', μ', k, r, M', F', t⟩ => by
    cases r with
    | next => exact postS_tr t (k A s' rm M' F')
    | brk => exact ⟨_, ρ', μ', k, .brk, M', F', t⟩
    | cont => exact ⟨_, ρ', μ', k, .cont, M', F', t⟩
    | ret r => exact ⟨_, ρ', μ', k, .ret r, M', F', t⟩) fun _ _ x => x)
theorem SE.weaken {ρ' : Rho} {ss : List Stmt} {K : FD → Rho → Mu → Prop} (h : SE G n env W ss ρ' μ K) (w : ∀ x d, ρ'.lookup x = some d → ρ.lookup x = some d) : SE G n env W ss ρ μ K := fun A s rm M F => h A s rm M (F.weaken w)

theorem S1.assign {x : Str} {p' pos : Pos} {value : Expr} {K : FD → Rho → Mu → Prop} (h : AE G n env W value ρ μ fun d μ' => K .next ((x, d) :: ρ) μ') (hx : x ∈ W := by decide)
    (hs : swapsWith value (some (.Name x p')) pos.line env = pure false := by rfl) : S1 G n env W (.Assign [.Name x p'] value pos) ρ μ K := fun A s rm M F =>
  wpAny_Assign_Name (h.go rm M F fun d μ' v s₁ k r M₁ F₁ t₁ => store M₁ F₁ hx r fun s₂ M₂ F₂ t₂ _ => ⟨_, _, μ', k, .next, M₂, F₂, t₁.wide.trans t₂⟩) hs
theorem S1.ret {e : Expr} {pos : Pos} {K : FD → Rho → Mu → Prop} (h : AE G n env W e ρ μ fun d μ' => K (.ret d) ρ μ') : S1 G n env W (.Return (some e) pos) ρ μ K := fun A s rm M F =>
  wpAny_Return_some (h.go rm M F fun d μ' v s₁ k r M₁ F₁ t₁ => ⟨_, ρ, μ', k, .ret r, M₁, F₁, t₁.wide⟩)
theorem S1.if_ {c : Expr} {a b : List Stmt} {pos : Pos} {K : FD → Rho → Mu → Prop} (h : AT G n env W c ρ μ fun t μ' => if t then SE G n env W a ρ μ' K else SE G n env W b ρ μ' K) : S1 G n env W (.If c a b pos) ρ μ K := fun A s rm M F =>
  wpAny_If (h.go rm M F fun t μ' s' k M' F' tr => by
    cases t with
    | false => exact postS_tr tr.wide (k A s' rm M' F')
    | true => exact postS_tr tr.wide (k A s' rm M' F'))
theorem S1.brk {pos : Pos} {K : FD → Rho → Mu → Prop} (h : K .brk ρ μ) : S1 G n env W (.Break pos) ρ μ K := fun A s rm M F => wpAny_Break ⟨_, ρ, μ, h, .brk, M, F, .refl ..⟩
theorem S1.cont {pos : Pos} {K : FD → Rho → Mu → Prop} (h : K .cont ρ μ) : S1 G n env W (.Continue pos) ρ μ K := fun A s rm M F => wpAny_Continue ⟨_, ρ, μ, h, .cont, M, F, .refl ..⟩
theorem S1.expr {e : Expr} {pos : Pos} {K : FD → Rho → Mu → Prop} (h : AE G n env W e ρ μ fun d μ' => d = .none ∧ K .next ρ μ')
    (hi : interactive env = false := by rfl) (hs : swapsWith e none pos.line env = pure false := by rfl) : S1 G n env W (.Expr e pos) ρ μ K := fun A s rm M F =>
  wpAny_Expr (h.go rm M F fun d μ' v s₁ ⟨hd, k⟩ r M₁ F₁ t₁ => by
    subst hd; (first | obtain ⟨_, rfl⟩ := r.intD | obtain ⟨_, rfl⟩ := r.bytesD | obtain ⟨_, rfl⟩ := r.strD | obtain rfl := r.boolD | obtain rfl := r.valD | obtain rfl := r.noneD | cases r)
    exact ⟨_, ρ, μ', k, .next, M₁, F₁, t₁.wide⟩) hi hs
theorem S1.aug {x : Str} {op : Operator} {p' pos : Pos} {value : Expr} {d₀ : D} {K : FD → Rho → Mu → Prop} (h₀ : ρ.lookup x = some d₀)
    (h : AE G n env W value ρ μ fun d μ₁ => V2 G n (inplaceOp op) d₀ d μ₁ fun e μ' => K .next ((x, e) :: ρ) μ') (hx : x ∈ W := by decide) : S1 G n env W (.AugAssign (.Name x p') op value pos) ρ μ K := fun A s rm M F => by
  obtain ⟨v₀, l₀, r₀⟩ := F.vars x d₀ h₀
  refine wpAny_AugAssign_Name (l₀.load F.kind ?_)
  refine h.go rm M F fun d μ₁ v s₁ k r M₁ F₁ t₁ => wpAny_mono (k A s₁ v₀ v rm M₁ (r₀.tr t₁) r) (fun u s₂ ⟨e, μ', kk, re, M₂, t₂⟩ => ?_) fun _ _ x => x
  exact store M₂ (F₁.tr M₁ t₂) hx re fun s₃ M₃ F₃ t₃ _ => ⟨_, _, μ', kk, .next, M₃, F₃, (t₁.wide.trans t₂.wide).trans t₃⟩
theorem S1.two {x y : Str} {px py pos : Pos} {value : Expr} {K : FD → Rho → Mu → Prop} (h : AE G n env W value ρ μ fun d μ' => K .next ((y, d) :: (x, d) :: ρ) μ') (hx : x ∈ W := by decide) (hy : y ∈ W := by decide)
    (he : (assignEach [.Name x px, .Name y py] env).map (·.2) = [PySem.assign (.Name x px) env, PySem.assign (.Name y py) env] := by rfl) (hw : swappedStores [.Name x px, .Name y py] value env = pure none := by rfl) :
    S1 G n env W (.Assign [.Name x px, .Name y py] value pos) ρ μ K := fun A s rm M F =>
  wpAny_Assign_two (h.go rm M F fun d μ' v s₁ k r M₁ F₁ t₁ => assign_Name (store M₁ F₁ hx r fun s₂ M₂ F₂ t₂ mv => assign_Name (store M₂ F₂ hy (mv _ _ r) fun s₃ M₃ F₃ t₃ _ => ⟨_, _, μ', k, .next, M₃, F₃, (t₁.wide.trans t₂).trans t₃⟩))) he hw

/-- the first list's item is set -/
theorem S1.setitem {a : Addr} {ds : List D} {o : Expr} {i : Expr} {p' pos : Pos} {value : Expr} {K : FD → Rho → Mu → Prop}
    (h : AE G n env W value ρ ((a, ds) :: μ) fun d μ₁ => μ₁ = (a, ds) :: μ ∧ AE G n env W o ρ ((a, ds) :: μ) fun dl μ₂ => (dl = .val (.ref a) ∧ μ₂ = (a, ds) :: μ) ∧ AE G n env W i ρ ((a, ds) :: μ) fun di μ₃ => μ₃ = (a, ds) :: μ ∧ ∃ k : Int, di = .int k ∧ 0 ≤ k ∧ k < ds.length ∧ ds.length < 2 ^ 62 ∧ K .next ρ ((a, ds.set k.toNat d) :: μ))
    (hs : swapsWith value (some (.Subscript o i p')) pos.line env = pure false := by rfl) : S1 G n env W (.Assign [.Subscript o i p'] value pos) ρ ((a, ds) :: μ) K := fun A s rm M F => by
  refine wpAny_Assign_Subscript (h.go rm M F fun d μ₁ v s₁ ⟨e₁, k₁⟩ r M₁ F₁ t₁ => ?_) hs
  subst e₁
  refine k₁.go rm M₁ F₁ fun dl μ₂ ov s₂ ⟨⟨e₂, e₂'⟩, k₂⟩ r₂ M₂ F₂ t₂ => ?_
  subst e₂ e₂'
  (first | obtain ⟨_, rfl⟩ := r₂.intD | obtain ⟨_, rfl⟩ := r₂.bytesD | obtain ⟨_, rfl⟩ := r₂.strD | obtain rfl := r₂.boolD | obtain rfl := r₂.valD | obtain rfl := r₂.noneD | cases r₂)
  refine k₂.go rm M₂ F₂ fun di μ₃ iv s₃ ⟨e₃, k, e₃', h0, hlt, hsz, kk⟩ r₃ M₃ F₃ t₃ => ?_
  subst e₃ e₃'
  obtain ⟨tk, rfl⟩ := r₃.intD
  ·
    obtain ⟨vs, ⟨nn, hl⟩, rs⟩ := M₃.mus _ (.head _)
    have hlen : vs.length = ds.length := rs.length
    have rv := (r.tr t₂).tr t₃
    refine PySem.W.ki_setAt hl h0 (by omega) (by simp; omega) ?_
    have q : PySem.IsL _ a _ _ := PySem.IsL.update (h := s₃.heap) (l := a) (items := vs.toArray) (n := nn) hl (·.setIfInBounds k.toNat v)
    have e : vs.toArray.setIfInBounds k.toNat v = (vs.set k.toNat v).toArray := by apply Array.toList_inj.mp; simp
    rw [e] at q
    have M₄ := M₃.set (es := ds.set k.toNat d) (Heap.SameBut.update s₃.heap a (Obj.mapSeq (·.setIfInBounds k.toNat v))) ⟨_, q⟩ (rs.set k.toNat rv)
    have t₄ : Tr (keys ((a, ds) :: μ)) (keys ((a, ds.set k.toNat d) :: μ)) s₃ { s₃ with heap := s₃.heap.update a (Obj.mapSeq (·.setIfInBounds k.toNat v)) } :=
      ⟨_, s₃.toks, rfl, .of_sameBut (Heap.SameBut.update ..) (.head _), fun _ z => .inl z⟩
    exact ⟨_, ρ, _, kk, .next, M₄, F₃.tr M₃ t₄, ((t₁.trans t₂).trans (t₃.trans t₄)).wide⟩

theorem S1.while_ {test : Expr} {body : List Stmt} {pos : Pos} {K : FD → Rho → Mu → Prop} (J : Nat → Rho → Mu → Prop) (k₀ : Nat) (h₀ : J k₀ ρ μ)
    (turn : ∀ k ρ' μ', J k ρ' μ' → AT G n env W test ρ' μ' fun b μ₁ => if b then SE G n env W body ρ' μ₁ (fun f ρ₂ μ₂ => match f with
      | .next | .cont => ∃ m, m < k ∧ J m ρ₂ μ₂
      | .brk => K .next ρ₂ μ₂
      | .ret d => K (.ret d) ρ₂ μ₂) else K .next ρ' μ₁) : S1 G n env W (.While test body [] pos) ρ μ K := fun A s rm M F => by
  refine wpAny_While (codeAny_whileLoop (fun k s' => ∃ ρ' μ', J k ρ' μ' ∧ MuOk A G.B μ' s'.heap ∧ FrOk G.B env W ρ' (keys μ') s'.heap ∧ Tr (ownA env W ++ keys μ) (ownA env W ++ keys μ') s s') ?_ k₀ ⟨ρ, μ, h₀, M, F, .refl ..⟩)
  rintro k s' ⟨ρ', μ', hJ, M', F', t'⟩
  refine wpAny_noRaise ((turn k ρ' μ' hJ).go rm M' F' fun b μ₁ s₁ k₁ M₁ F₁ t₁ => ?_)
  cases b with
  | true =>
    refine wpAny_noRaise (wpAny_mono (k₁ A s₁ rm M₁ F₁) (fun f s₂ ⟨fd, ρ₂, μ₂, k₂, r₂, M₂, F₂, t₂⟩ => ?_) fun _ _ x => x)
    have tt := (t'.trans t₁.wide).trans t₂
    cases r₂ with
    | next => obtain ⟨m, hm, hj⟩ := k₂; exact ⟨m, hm, ρ₂, μ₂, hj, M₂, F₂, tt⟩
    | cont => obtain ⟨m, hm, hj⟩ := k₂; exact ⟨m, hm, ρ₂, μ₂, hj, M₂, F₂, tt⟩
    | brk => exact ⟨_, ρ₂, μ₂, k₂, .next, M₂, F₂, tt⟩
    | ret r => exact ⟨_, ρ₂, μ₂, k₂, .ret r, M₂, F₂, tt⟩
  | false => exact wpAny_noRaise (wpAny_execs_nil ⟨_, ρ', μ₁, k₁, .next, M₁, F₁, t'.trans t₁.wide⟩)

/-- a display -/
theorem AE.listD {es : List Expr} {pos : Pos} {K : D → Mu → Prop} (h : AEs G n env W es ρ μ fun ds μ' => ds.length ≤ sizeLine ∧ K (.list ds) μ') : AE G n env W (.List es pos) ρ μ K := fun A s rm M F =>
  List_ (h.go rm M F fun ds μ' vs s₁ ⟨hsz, k⟩ rs M₁ F₁ t₁ => by
    have hk : ∀ b o, s₁.heap.get? b = some o → (s₁.heap.push { cls := .type "list", data := .seq vs.toArray }).get? b = some o := fun b o e => Heap.get?_push_of_some _ e
    have hd := M₁.dead (dead_size s₁.heap)
    have kx : KX [] s₁.heap (s₁.heap.push { cls := .type "list", data := .seq vs.toArray }) := .of_keep hk
    refine wpAny_newObj_type ⟨_, μ', k, .list hd.1 ⟨0, Heap.get?_push_size _ rfl⟩ (rs.move kx mem_nil_off fun _ z => .inl z), M₁.keep hk, t₁.trans (.keep hk)⟩ ?_
    show vs.toArray.size ≤ sizeLine
    rw [List.size_toArray, rs.length]; exact hsz)
theorem AE.tupleD {es : List Expr} {kk : Nat} {pos : Pos} {K : D → Mu → Prop} (h : AEs G n env W es ρ μ fun ds μ' => ds.length ≤ sizeLine ∧ K (.tuple ds) μ') : AE G n env W (.Tuple es kk pos) ρ μ K := fun A s rm M F =>
  Tuple_ (h.go rm M F fun ds μ' vs s₁ ⟨hsz, k⟩ rs M₁ F₁ t₁ => by
    have hk : ∀ b o, s₁.heap.get? b = some o → (s₁.heap.push { cls := .type "tuple", data := .seq vs.toArray }).get? b = some o := fun b o e => Heap.get?_push_of_some _ e
    have hd := M₁.dead (dead_size s₁.heap)
    have kx : KX [] s₁.heap (s₁.heap.push { cls := .type "tuple", data := .seq vs.toArray }) := .of_keep hk
    refine wpAny_newObj_type ⟨_, μ', k, .tuple hd.1 (.new 0 (Heap.get?_push_size _ rfl)) (rs.move kx mem_nil_off fun _ z => .inl z), M₁.keep hk, t₁.trans (.keep hk)⟩ ?_
    show vs.toArray.size ≤ sizeLine
    rw [List.size_toArray, rs.length]; exact hsz)
/-- a display of a list that will change -/
theorem AE.listM {es : List Expr} {pos : Pos} {K : D → Mu → Prop} (h : AEs G n env W es ρ μ fun ds μ' => ds.length ≤ sizeLine ∧ ∀ a, K (.val (.ref a)) ((a, ds) :: μ')) : AE G n env W (.List es pos) ρ μ K := fun A s rm M F =>
  List_ (h.go rm M F fun ds μ' vs s₁ ⟨hsz, k⟩ rs M₁ F₁ t₁ => by
    have hk : ∀ b o, s₁.heap.get? b = some o → (s₁.heap.push { cls := .type "list", data := .seq vs.toArray }).get? b = some o := fun b o e => Heap.get?_push_of_some _ e
    refine wpAny_newObj_type ⟨_, _, k s₁.heap.objs.size, .val _, M₁.more hk (dead_size _) ⟨0, Heap.get?_push_size _ rfl⟩ rs, t₁.trans ⟨_, _, rfl, .of_keep hk, fun a ha => ?_⟩⟩ ?_
    · rcases List.mem_cons.mp ha with rfl | ha
      · exact .inr (dead_size _)
      · exact .inl ha
    · show vs.toArray.size ≤ sizeLine
      rw [List.size_toArray, rs.length]; exact hsz)

/-- an item of a list -/
theorem AE.item {value slice : Expr} {pos : Pos} {K : D → Mu → Prop}
    (h : AE G n env W value ρ μ fun dl μ₁ => AE G n env W slice ρ μ₁ fun di μ₂ => ∃ ds k d, (dl = .list ds ∨ ∃ a, dl = .val (.ref a) ∧ (a, ds) ∈ μ₂) ∧ di = .int k ∧ 0 ≤ k ∧ k < 2 ^ 63 ∧ ds[k.toNat]? = some d ∧ K d μ₂)
    (hs : ∀ a k u, subscripted slice false (.ref a) (.int k u) = operate [.ref a, .int k u] (getItem (.ref a) (.int k u)) := by intro _ _ _; with_unfolding_all rfl) :
    AE G n env W (.Subscript value slice pos) ρ μ K := fun A s rm M F => by
  refine Subscript_ (h.go rm M F fun dl μ₁ o s₁ k₁ ro M₁ F₁ t₁ => k₁.go rm M₁ F₁ fun di μ₂ i s₂ ⟨ds, k, d, hdl, hdi, h0, h63, hx, kk⟩ ri M₂ F₂ t₂ => ?_)
  subst hdi
  obtain ⟨u, rfl⟩ := ri.intD
  ·
    have ro' := ro.tr t₂
    have : ∃ a vs, o = .ref a ∧ IsL s₂.heap a vs ∧ RepL (keys μ₂) s₂.heap vs ds := by
      rcases hdl with rfl | ⟨a, rfl, ha⟩
      · cases ro' with
        | list hn hl rs => exact ⟨_, _, rfl, hl, rs⟩
      · (first | obtain ⟨_, rfl⟩ := ro'.intD | obtain ⟨_, rfl⟩ := ro'.bytesD | obtain ⟨_, rfl⟩ := ro'.strD | obtain rfl := ro'.boolD | obtain rfl := ro'.valD | obtain rfl := ro'.noneD | cases ro')
        obtain ⟨vs, hl, rs⟩ := M₂.mus _ ha
        exact ⟨a, vs, rfl, hl, rs⟩
    obtain ⟨a, vs, rfl, hl, rs⟩ := this
    obtain ⟨v, hv, rv⟩ := rs.get k.toNat d hx
    exact tail_any hl.isList.typeIs slot_list_getitem.lookup (wpAny_getItem_list hl.isList h0 h63 (by simpa using hv) ⟨d, μ₂, kk, rv, M₂, t₁.trans t₂⟩) (hs a k u)
end
end Mine

namespace Mine
open PySem PySem.Calls PyProof.Rows

/-- the def at address f of the base heap -/
noncomputable def FnAt (G : Gx) (f : Addr) (name : Str) (params : Arguments) (body : List Stmt) (scope : Scope) : Prop :=
  ∃ o pm c doc, G.B.get? f = some o ∧ o.data = .func (docDef name params body scope pm (.ref c) doc) ∧ G.B.CodeRec (.ref c) name
theorem FnAt.cal {G : Gx} {f : Addr} {name : Str} {params : Arguments} {body : List Stmt} {scope : Scope} (h : FnAt G f name params body scope) : Cal G (.ref f) := by
  obtain ⟨o, pm, c, doc, h1, h2, _⟩ := h
  exact .fn h1 h2
noncomputable abbrev fenv (name : Str) (params : Arguments) (body : List Stmt) (scope : Scope) (pm : Value) (c : Addr) (doc : Value) (L f : Addr) : Env := callEnvC (docDef name params body scope pm (.ref c) doc) L f

noncomputable def retD : FD → D
  | .ret d => d
  | _ => .none
theorem FRep.rep {X : List Addr} {h : Heap} {f : Flow} {fd : FD} : FRep X h f fd → Rep X h (match f with | .ret v => v | _ => .none) (retD fd) := by
  intro r
  cases r with
  | next => exact .none
  | brk => exact .none
  | cont => exact .none
  | ret r => exact r

theorem cellsFrom_some {x : Str} : ∀ (names : List (Str × NameKind)) (n : Nat) (acc : List (Str × Addr)), ((acc.lookup x).isSome = true ∨ names.lookup x = some .cell) → ((cellsFrom n names acc).lookup x).isSome = true
  | [], _, _, .inl h => h
  | [], _, _, .inr h => by cases h
  | (y, k) :: r, n, acc, h => by
    unfold cellsFrom
    split
    · rename_i hk
      refine cellsFrom_some r _ _ ?_
      rw [List.lookup_cons] at h ⊢
      cases hb : x == y with
      | true => exact .inl rfl
      | false => rw [hb] at h; exact h
    · rename_i hk
      refine cellsFrom_some r _ _ (h.imp id fun h => ?_)
      rw [List.lookup_cons] at h
      cases hb : x == y with
      | true => rw [hb] at h; cases h; exact absurd rfl hk
      | false => rw [hb] at h; exact h
theorem bindL_off {kindOf : Str → Option NameKind} {x : Str} : ∀ (binds : List (Str × Value)) (m : Str → Option Value), (∀ v, (x, v) ∉ binds) → bindL kindOf binds m x = m x
  | [], _, _ => rfl
  | (y, u) :: r, m, h => by
    unfold bindL
    rw [bindL_off r _ fun v q => h v (.tail _ q)]
    have hne : x ≠ y := fun q => h u (q ▸ .head _)
    split <;> simp [hne]
theorem bindC_off {kindOf : Str → Option NameKind} {x : Str} : ∀ (binds : List (Str × Value)) (m : Str → Option Value), (∀ v, (x, v) ∉ binds) → bindC kindOf binds m x = m x
  | [], _, _ => rfl
  | (y, u) :: r, m, h => by
    unfold bindC
    rw [bindC_off r _ fun v q => h v (.tail _ q)]
    have hne : x ≠ y := fun q => h u (q ▸ .head _)
    split <;> simp [hne]
theorem bindL_on {kindOf : Str → Option NameKind} {x : Str} {v : Value} (hk : kindOf x = some .local) : ∀ (binds : List (Str × Value)) (m : Str → Option Value), (binds.map (·.1)).Nodup → binds.lookup x = some v → bindL kindOf binds m x = some v
  | [], _, _, h => by cases h
  | (y, u) :: r, m, nd, h => by
    unfold bindL
    have nd' := List.nodup_cons.mp nd
    rw [List.lookup_cons] at h
    cases hb : x == y with
    | true =>
      rw [hb] at h; cases h
      have e := beq_iff_eq.mp hb
      subst e
      rw [bindL_off r _ fun w q => nd'.1 (List.mem_map.mpr ⟨_, q, rfl⟩), if_pos hk]
      simp
    | false => rw [hb] at h; exact bindL_on hk r _ nd'.2 h
theorem bindC_on {kindOf : Str → Option NameKind} {x : Str} {v : Value} (hk : kindOf x ≠ some .local) : ∀ (binds : List (Str × Value)) (m : Str → Option Value), (binds.map (·.1)).Nodup → binds.lookup x = some v → bindC kindOf binds m x = some v
  | [], _, _, h => by cases h
  | (y, u) :: r, m, nd, h => by
    unfold bindC
    have nd' := List.nodup_cons.mp nd
    rw [List.lookup_cons] at h
    cases hb : x == y with
    | true =>
      rw [hb] at h; cases h
      have e := beq_iff_eq.mp hb
      subst e
      rw [bindC_off r _ fun w q => nd'.1 (List.mem_map.mpr ⟨_, q, rfl⟩), if_neg hk]
      simp
    | false => rw [hb] at h; exact bindC_on hk r _ nd'.2 h
theorem zip_lookup {X : List Addr} {h : Heap} : ∀ {names : List Str} {vs : List Value} {ds : List D}, RepL X h vs ds → ∀ {x : Str} {d : D}, (names.zip ds).lookup x = some d → ∃ v, (names.zip vs).lookup x = some v ∧ Rep X h v d
  | [], _, _, _, _, _, e => by simp at e
  | _ :: _, _, _, .nil, _, _, e => by simp at e
  | y :: r, _, _, .cons rv rs, x, d, e => by
    rw [List.zip_cons_cons, List.lookup_cons] at e
    rw [List.zip_cons_cons, List.lookup_cons]
    cases hb : x == y with
    | true => rw [hb] at e; cases e; exact ⟨_, rfl, rv⟩
    | false => rw [hb] at e; exact zip_lookup rs e

theorem len1 {α : Type} {vs : List α} (h : vs.length = 1) : ∃ a, vs = [a] := List.length_eq_one_iff.mp h
theorem len2 {α : Type} {vs : List α} (h : vs.length = 2) : ∃ a b, vs = [a, b] := by
  obtain ⟨a, r, rfl⟩ := List.exists_cons_of_length_eq_add_one h
  obtain ⟨b, rfl⟩ := len1 (Nat.succ.inj h)
  exact ⟨a, b, rfl⟩
theorem len3 {α : Type} {vs : List α} (h : vs.length = 3) : ∃ a b c, vs = [a, b, c] := by
  obtain ⟨a, r, rfl⟩ := List.exists_cons_of_length_eq_add_one h
  obtain ⟨b, c, rfl⟩ := len2 (Nat.succ.inj h)
  exact ⟨a, b, c, rfl⟩
/-- statements of a frame that is the top of the stack -/
noncomputable def SEa (G : Gx) (n : Nat) (env : Env) (W : List Str) (ss : List Stmt) (ρ : Rho) (μ : Mu) (K : FD → Rho → Mu → Prop) : Prop :=
  ∀ A s, (∃ outer, A.frames = some (env :: outer)) → Rm n A → MuOk A G.B μ s.heap → FrOk G.B env W ρ (keys μ) s.heap →
    wpAny (Mo G.w) A (execs ss env) (PS G env W A (ownA env W ++ keys μ) s K) (fun _ _ => False) s
theorem Vn.fnA {G : Gx} {n : Nat} {f : Addr} {name : Str} {params : Arguments} {body : List Stmt} {scope : Scope} {names W : List Str} {ds : List D} {μ : Mu} {K : D → Mu → Prop}
    (fn : FnAt G f name params body scope) (hlim : G.B.NoLimit) (hlen : names.length = ds.length)
    (hbind : ∀ pm c doc vs, vs.length = names.length → bindArgs (docDef name params body scope pm (.ref c) doc) ⟨vs, []⟩ = pure (names.zip vs))
    (hnd : names.Nodup) (hnW : ∀ x ∈ names, x ∈ W) (hW : ∀ x ∈ W, scope.names.lookup x = some .local ∨ scope.names.lookup x = some .cell)
    (hbody : ∀ pm c doc L, SEa G n (fenv name params body scope pm c doc L f) W body (names.zip ds) μ fun fd _ μ' => K (retD fd) μ')
    (hco : scope.isCoroutine = false := by rfl) (hgen : scope.isGenerator = false := by rfl) (hk : scope.kind = .function := by rfl) :
    Vn G (n + 1) (fun vs => call (.ref f) vs) ds μ K := fun A s vs rm M rs => by
  obtain ⟨o, pm, c, doc, ho, hd, hcd⟩ := fn
  have hvl : vs.length = names.length := rs.length.trans hlen.symm
  have hfst : (names.zip vs).map (·.1) = names := by rw [List.map_fst_zip]; omega
  have hin : ∀ x ∈ names.zip vs, x.1 ∈ names := fun x hx => by rw [← hfst]; exact List.mem_map_of_mem hx
  refine wpAny_call (codeAny_call_cells (binds := names.zip vs) rm.room (M.base _ _ ho) hd (hlim.keeps M.base) (hcd.keeps M.base) rfl (hbind pm c doc vs hvl) rfl (fun x hx => ?_) (fun s₁ x => ?_) hco hgen hk)
  · exact (hW _ (hnW _ (hin x hx))).imp id fun q => ⟨q, cellsFrom_some _ _ _ (.inr q)⟩
  · have env_eq : ∀ y, (fenv name params body scope pm c doc s.heap.objs.size f).kindOf y = scope.names.lookup y := fun _ => rfl
    obtain ⟨h₁, tk₁, e₁, keep₁⟩ := x.done
    have hh : s₁.heap = h₁ := by rw [e₁]
    have kp : ∀ b o, s.heap.get? b = some o → s₁.heap.get? b = some o := by rw [hh]; exact keep₁
    have dead : ∀ b, s.heap.objs.size ≤ b → s.heap.get? b = none := fun b hb => Heap.get?_none_of_le hb
    have hL : G.B.get? s.heap.objs.size = none := (M.dead (dead_size _)).2
    have kx : KX [] s.heap s₁.heap := .of_keep kp
    have M₁ : MuOk (A.deeper (fenv name params body scope pm c doc s.heap.objs.size f)) G.B μ s₁.heap := by
      have M' := M.keep kp
      refine ⟨M'.base, M'.off, M'.mus, M'.nd, ?_⟩
      obtain ⟨l, h1, h2⟩ := M'.ff
      refine ⟨_ :: l, by show A.frames.map _ = _; rw [h1]; rfl, fun env he => ?_⟩
      rcases List.mem_cons.mp he with rfl | he
      · exact ⟨by show scope.kind ≠ _; rw [hk]; decide, s.heap.objs.size, _, rfl, hL, x.toInCall.ns⟩
      · exact h2 env he
    have F₁ : FrOk G.B (fenv name params body scope pm c doc s.heap.objs.size f) W (names.zip ds) (keys μ) s₁.heap := by
      refine ⟨hk, ⟨_, x.toInCall.ns⟩, hL, rfl, rfl, fun y z c' h1 h2 => name_of_addr x.apart (mem_of_lookup h1) (mem_of_lookup h2), fun y c' hc' => ⟨_, x.cell y c' hc'⟩, fun y hy => ?_, fun y d hy => ?_⟩
      · refine (hW y hy).imp id fun q => ⟨q, ?_⟩
        obtain ⟨c', hc'⟩ := Option.isSome_iff_exists.mp (cellsFrom_some (x := y) scope.names (s.heap.objs.size + 1) [] (.inr q))
        exact ⟨c', hc', (M.dead (dead _ (Nat.le_of_lt (x.above y c' (mem_of_lookup hc'))))).2, _, x.cell y c' hc'⟩
      · obtain ⟨v, hv, r⟩ := zip_lookup rs hy
        refine ⟨v, ?_, r.move kx mem_nil_off fun _ z => .inl z⟩
        have hyn : y ∈ names := by
          have := mem_of_lookup hv
          exact hin _ this
        rcases hW y (hnW y hyn) with q | q
        · exact .inl ⟨q, _, x.toInCall.ns, bindL_on q _ _ (by rw [hfst]; exact hnd) hv⟩
        · obtain ⟨c', hc'⟩ := Option.isSome_iff_exists.mp (cellsFrom_some (x := y) scope.names (s.heap.objs.size + 1) [] (.inr q))
          refine .inr ⟨.inl q, c', hc', ?_⟩
          have := x.cell y c' hc'
          rwa [bindC_on (by rw [env_eq, q]; decide) _ _ (by rw [hfst]; exact hnd) hv] at this
    have own_dead : ∀ a ∈ ownA (fenv name params body scope pm c doc s.heap.objs.size f) W, s.heap.get? a = none := fun a ha => by
      rcases List.mem_cons.mp ha with rfl | ha
      · exact dead_size _
      · obtain ⟨y, hy, e⟩ := List.mem_filterMap.mp ha
        split at e
        · exact dead _ (Nat.le_of_lt (x.above y a (mem_of_lookup e)))
        · cases e
    have t₁ : Tr (keys μ) (ownA (fenv name params body scope pm c doc s.heap.objs.size f) W ++ keys μ) s s₁ := by
      refine ⟨h₁, tk₁, e₁, .of_keep keep₁, fun a ha => ?_⟩
      rcases List.mem_append.mp ha with q | q
      · exact .inr (own_dead a q)
      · exact .inl q
    refine wpAny_mono (hbody pm c doc s.heap.objs.size _ s₁ (by obtain ⟨l, h1, _⟩ := M.ff; exact ⟨l, by show A.frames.map _ = _; rw [h1]; rfl⟩) (rm.deeper _) M₁ F₁) (fun fl s₂ ⟨fd, ρ', μ', k, fr, M₂, F₂, t₂⟩ => ?_) fun _ _ z => z.elim
    refine ⟨_, μ', k, fr.rep, ⟨M₂.base, M₂.off, M₂.mus, M₂.nd, ?_⟩, ?_⟩
    · obtain ⟨l, h1, _⟩ := M.ff
      obtain ⟨l', h3, h4⟩ := M₂.ff
      have : l' = fenv name params body scope pm c doc s.heap.objs.size f :: l := by
        have q : A.frames.map _ = some l' := h3
        rw [h1] at q; cases q; rfl
      subst this
      exact ⟨l, h1, fun env he => h4 env (.tail _ he)⟩
    · have t := t₁.trans t₂
      exact ⟨s₂.heap, s₂.toks, by obtain ⟨h', tk', e, _⟩ := t; rw [e], t.kx, fun a ha => t.new a (List.mem_append_right _ ha)⟩
theorem Vn.fn {G : Gx} {n : Nat} {f : Addr} {name : Str} {params : Arguments} {body : List Stmt} {scope : Scope} {names W : List Str} {ds : List D} {μ : Mu} {K : D → Mu → Prop}
    (fn : FnAt G f name params body scope) (hlim : G.B.NoLimit) (hlen : names.length = ds.length)
    (hbind : ∀ pm c doc vs, vs.length = names.length → bindArgs (docDef name params body scope pm (.ref c) doc) ⟨vs, []⟩ = pure (names.zip vs))
    (hnd : names.Nodup) (hnW : ∀ x ∈ names, x ∈ W) (hW : ∀ x ∈ W, scope.names.lookup x = some .local ∨ scope.names.lookup x = some .cell)
    (hbody : ∀ pm c doc L, SE G n (fenv name params body scope pm c doc L f) W body (names.zip ds) μ fun fd _ μ' => K (retD fd) μ')
    (hco : scope.isCoroutine = false := by rfl) (hgen : scope.isGenerator = false := by rfl) (hk : scope.kind = .function := by rfl) :
    Vn G (n + 1) (fun vs => call (.ref f) vs) ds μ K :=
  Vn.fnA fn hlim hlen hbind hnd hnW hW (fun pm c doc L A s _ rm M F => hbody pm c doc L A s rm M F) hco hgen hk
end Mine

namespace Mine
open PySem PySem.Calls PyProof.Rows

/-- neither a list nor a tuple nor a frame nor a cell; not of the base -/
noncomputable def Odd (B h : Heap) (b : Addr) : Prop := B.get? b = none ∧ ∀ o, h.get? b = some o → (∀ vs n, o.data ≠ .seq vs n) ∧ (∀ es ep, o.data ≠ .dict es ep) ∧ ∀ v, o.data ≠ .cell v

section
variable {A : Around} {B h h' : Heap} {μ : Mu} {wr : List Addr}
theorem Odd.notSeq {b : Addr} (x : Odd B h b) : NotSeq h b := fun o e => (x.2 o e).1
theorem Odd.ns {b : Addr} {m : Str → Option Value} (x : Odd B h b) (n : h.Ns b m) : False := by
  obtain ⟨o, es, ep, ho, hd, _⟩ := n
  exact (x.2 o ho).2.1 es ep hd
theorem Odd.cell {b : Addr} {v : Option Value} (x : Odd B h b) (n : h.IsCell b v) : False := by
  obtain ⟨o, ho, hd⟩ := n
  exact (x.2 o ho).2.2 v hd
theorem Rep.odd (hw : ∀ b ∈ wr, Odd B h b) (k : ∀ b o, b ∉ wr → h.get? b = some o → h'.get? b = some o) {X : List Addr} {v : Value} {d : D} (r : Rep X h v d) : Rep X h' v d :=
  r.move (Y := wr) (fun b o hb e => ⟨o, k b o hb e, .refl o⟩) (fun y hy => .inr (hw y hy).notSeq) fun _ z => .inl z
theorem RepL.odd (hw : ∀ b ∈ wr, Odd B h b) (k : ∀ b o, b ∉ wr → h.get? b = some o → h'.get? b = some o) {X : List Addr} {v : List Value} {d : List D} (r : RepL X h v d) : RepL X h' v d :=
  r.move (Y := wr) (fun b o hb e => ⟨o, k b o hb e, .refl o⟩) (fun y hy => .inr (hw y hy).notSeq) fun _ z => .inl z
theorem MuOk.odd (M : MuOk A B μ h) (hw : ∀ b ∈ wr, Odd B h b) (k : ∀ b o, b ∉ wr → h.get? b = some o → h'.get? b = some o) : MuOk A B μ h' := by
  refine ⟨fun b o e => k b o (fun q => by have := (hw b q).1; rw [e] at this; cases this) (M.base b o e), M.off, fun p hp => ?_, M.nd, ?_⟩
  · obtain ⟨vs, ⟨n, hl⟩, r⟩ := M.mus p hp
    exact ⟨vs, ⟨n, k _ _ (fun q => ((hw _ q).2 _ hl).1 _ _ rfl) hl⟩, r.odd hw k⟩
  · obtain ⟨l, h1, h2⟩ := M.ff
    refine ⟨l, h1, fun env he => ?_⟩
    obtain ⟨hk, L, m, hf, hb, hn⟩ := h2 env he
    exact ⟨hk, L, m, hf, hb, hn.at' fun o e => k L o (fun q => (hw L q).ns hn) e⟩
theorem FrOk.odd {env : Env} {W : List Str} {ρ : Rho} {X : List Addr} (F : FrOk B env W ρ X h) (hw : ∀ b ∈ wr, Odd B h b) (k : ∀ b o, b ∉ wr → h.get? b = some o → h'.get? b = some o) : FrOk B env W ρ X h' := by
  have nsk : ∀ {a : Addr} {m : Str → Option Value}, h.Ns a m → h'.Ns a m := fun q => q.at' fun o e => k _ o (fun z => (hw _ z).ns q) e
  have cl : ∀ {c : Addr} {u : Option Value}, h.IsCell c u → h'.IsCell c u := fun ⟨o, ho, hd⟩ => ⟨o, k _ o (fun z => (hw _ z).cell ⟨o, ho, hd⟩) ho, hd⟩
  refine ⟨F.kind, ?_, F.lo, F.gl, F.bu, F.inj, fun x c hc => let ⟨v, hv⟩ := F.cel x c hc; ⟨v, cl hv⟩, fun x hx => ?_, fun x d e => ?_⟩
  · obtain ⟨m, hn⟩ := F.ns; exact ⟨m, nsk hn⟩
  · exact (F.stor x hx).imp id fun ⟨a, c, b, e, u, w⟩ => ⟨a, c, b, e, u, cl w⟩
  · obtain ⟨v, l, r⟩ := F.vars x d e
    refine ⟨v, ?_, r.odd hw k⟩
    rcases l with ⟨h1, m₂, h2, h3⟩ | ⟨h1, c, h2, h3⟩
    · exact .inl ⟨h1, m₂, nsk h2, h3⟩
    · exact .inr ⟨h1, c, h2, cl h3⟩
end

/-- an iterator over the data `items`, made since s₀; told at heap h -/
structure ItOk (G : Gx) (A : Around) (target : Expr) (I : Addr) (fp wr : List Addr) (P Md : Nat → Value → Heap → Prop) (St : Nat → Heap → Prop) (μ : Mu) (h : Heap) (items : List D) : Prop where
  turns : PySem.W.KTurns PySem.Challenge.rw_oy0054_01.row.prog G.w A target I fp wr items.length P Md St
  self : ∀ i (s : Shared) (Q : Value → Shared → Prop) (E : Value → Shared → Prop), St i s.heap → Q (.ref I) s → wpAny (Mo G.w) A (pyIter (.ref I)) Q E s
  start : St 0 h
  live : ∀ b ∈ fp, h.get? b ≠ none ∧ b ∉ keys μ
  kinds : ∀ i h', St i h' → ∀ b ∈ fp, ∀ o, h'.get? b = some o → (∀ es ep, o.data ≠ .dict es ep) ∧ ∀ v, o.data ≠ .cell v
  odd : ∀ i h', St i h' → ∀ b ∈ wr, NotSeq h' b
  oddM : ∀ i v h', Md i v h' → ∀ b ∈ wr, NotSeq h' b ∧ ∀ o, h'.get? b = some o → (∀ es ep, o.data ≠ .dict es ep) ∧ ∀ v, o.data ≠ .cell v
  vals : ∀ i v h' d, P i v h' → items[i]? = some d → Rep (keys μ) h v d

/-- the source of a loop -/
noncomputable def IS (G : Gx) (n : Nat) (env : Env) (W : List Str) (target iter : Expr) (ρ : Rho) (μ : Mu) (K : List D → Mu → Prop) : Prop :=
  ∀ A s, Rm n A → MuOk A G.B μ s.heap → FrOk G.B env W ρ (keys μ) s.heap →
    wpAny (Mo G.w) A (eval iter env) (fun x s₁ => wpAny (Mo G.w) A (pyIter x) (fun it s₂ => ∃ items μ' I fp wr P Md St, K items μ' ∧ it = .ref I ∧ MuOk A G.B μ' s₂.heap ∧ Tr (keys μ) (keys μ') s s₂ ∧
      ItOk G A target I fp wr P Md St μ' s₂.heap items ∧ ∀ b ∈ wr, b ∈ keys μ ∨ s.heap.get? b = none) (fun _ _ => False) s₁) (fun _ _ => False) s

/-- a target takes a datum -/
noncomputable def TA (G : Gx) (n : Nat) (env : Env) (W : List Str) (target : Expr) (d : D) (ρ : Rho) (μ : Mu) (K : Rho → Prop) : Prop :=
  ∀ A s v, Rm n A → MuOk A G.B μ s.heap → FrOk G.B env W ρ (keys μ) s.heap → Rep (keys μ) s.heap v d →
    wpAny (Mo G.w) A (assign target env v) (fun _ s' => ∃ ρ', K ρ' ∧ MuOk A G.B μ s'.heap ∧ FrOk G.B env W ρ' (keys μ) s'.heap ∧ Tr (ownA env W ++ keys μ) (ownA env W ++ keys μ) s s' ∧ (∀ u e, Rep (keys μ) s.heap u e → Rep (keys μ) s'.heap u e)) (fun _ _ => False) s

section
variable {G : Gx} {n : Nat} {env : Env} {W : List Str} {ρ : Rho} {μ : Mu}
theorem TA.name {x : Str} {pos : Pos} {d : D} {K : Rho → Prop} (k : K ((x, d) :: ρ)) (hx : x ∈ W := by decide) : TA G n env W (.Name x pos) d ρ μ K := fun A s v rm M F r =>
  PyProof.Rows.assign_Name (store M F hx r fun s' M' F' t mv => ⟨_, k, M', F', t, mv⟩)

theorem S1.for_ {target iter : Expr} {body : List Stmt} {pos : Pos} {K : FD → Rho → Mu → Prop} (J : Nat → List D → Rho → Mu → Prop)
    (src : IS G n env W target iter ρ μ fun items μ' => J 0 items ρ μ' ∧
      (∀ i d ρ' μ', J i items ρ' μ' → items[i]? = some d → TA G n env W target d ρ' μ' fun ρ₁ => SE G n env W body ρ₁ μ' fun f ρ₂ μ₂ => match f with
        | .next | .cont => J (i + 1) items ρ₂ μ₂
        | .brk => K .next ρ₂ μ₂
        | .ret d => K (.ret d) ρ₂ μ₂) ∧ ∀ ρ' μ', J items.length items ρ' μ' → K .next ρ' μ')
    (hs : ∀ x, foldedSetIterable iter env x = pure x := by intro _; rfl) : S1 G n env W (.For target iter body [] pos) ρ μ K := fun A s rm M F => by
  refine wpAny_For (wpAny_mono (src A s rm M F) (fun x s₁ h₁ => wpAny_mono h₁ (fun it s₂ h₂ => ?_) fun _ _ z => z) fun _ _ z => z) hs
  obtain ⟨items, μ', I, fp, wr, P, Md, St, ⟨j0, turn, fin⟩, rfl, M₂, t₂, it, dead⟩ := h₂
  have F₂ := F.tr M t₂
  have own_live : ∀ a ∈ ownA env W, s.heap.get? a ≠ none ∧ ((∃ m, s₂.heap.Ns a m) ∨ ∃ v, s₂.heap.IsCell a v) := fun a ha => by
    rcases List.mem_cons.mp ha with rfl | ha
    · obtain ⟨m, hm⟩ := F.ns
      obtain ⟨m', hm'⟩ := F₂.ns
      exact ⟨by obtain ⟨o, _, _, ho, _⟩ := hm; exact live_of ho, .inl ⟨m', hm'⟩⟩
    · obtain ⟨y, hy, e⟩ := List.mem_filterMap.mp ha
      split at e
      · rename_i hk
        rcases F.stor y hy with q | ⟨_, c, hc, _, v, hv⟩
        · rw [hk] at q; cases q
        · rw [hc] at e; cases e
          rcases F₂.stor y hy with q | ⟨_, c', hc', _, v', hv'⟩
          · rw [hk] at q; cases q
          · rw [hc] at hc'; cases hc'
            exact ⟨by obtain ⟨o, ho, _⟩ := hv; exact live_of ho, .inr ⟨v', hv'⟩⟩
      · cases e
  have fp_own : ∀ b ∈ fp, b ∉ ownA env W := fun b hb q => by
    rcases (own_live b q).2 with ⟨m, o, es, ep, ho, hd, _⟩ | ⟨v, o, ho, hd⟩
    · exact (it.kinds 0 _ it.start b hb o ho).1 es ep hd
    · exact (it.kinds 0 _ it.start b hb o ho).2 v hd
  have wr_dead : ∀ b ∈ wr, G.B.get? b = none := fun b hb => (dead b hb).elim (M.off b) fun z => (M.dead z).2
  have oddS : ∀ i h', St i h' → ∀ b ∈ wr, Odd G.B h' b := fun i h' st b hb => ⟨wr_dead b hb, fun o ho => ⟨it.odd i h' st b hb o ho, it.kinds i h' st b (it.turns.sub b hb) o ho⟩⟩
  have oddMd : ∀ i v h', Md i v h' → ∀ b ∈ wr, Odd G.B h' b := fun i v h' st b hb => ⟨wr_dead b hb, fun o ho => ⟨(it.oddM i v h' st b hb).1 o ho, (it.oddM i v h' st b hb).2 o ho⟩⟩
  refine codeAny_forLoop_any (fun k s' => ∃ i ρ' μ'', i ≤ items.length ∧ k = items.length + 1 - i ∧ J i items ρ' μ'' ∧ St i s'.heap ∧ MuOk A G.B μ'' s'.heap ∧ FrOk G.B env W ρ' (keys μ'') s'.heap ∧
    Tr (wr ++ (ownA env W ++ keys μ')) (wr ++ (ownA env W ++ keys μ'')) s₂ s') ?_ (items.length + 1) ⟨0, ρ, μ', Nat.zero_le _, rfl, j0, it.start, M₂, F₂, .refl ..⟩
  rintro k s' ⟨i, ρ', μ'', hi, rfl, hJ, hst, M', F', t'⟩
  have fpk : ∀ b ∈ fp, b ∉ ownA env W ++ keys μ'' := fun b hb q => by
    rcases List.mem_append.mp q with q | q
    · exact fp_own b hb q
    · rcases t'.new b (List.mem_append_right _ (List.mem_append_right _ q)) with z | z
      · rcases List.mem_append.mp z with z | z
        · exact M'.notSeq q (oddS i _ hst b z).notSeq
        · rcases List.mem_append.mp z with z | z
          · exact fp_own b hb z
          · exact (it.live b hb).2 z
      · exact (it.live b hb).1 z
  by_cases hlt : i < items.length
  · refine it.turns.item i _ _ _ hlt hst fun v h₁ tk₁ hMd hk₁ => ?_
    have M₁ := M'.odd (oddS i _ hst) hk₁
    have F₁ := F'.odd (oddS i _ hst) hk₁
    refine it.turns.go i v _ _ _ hMd fun h₂ hP hst₂ hk₂ => ?_
    have M₃ := M₁.odd (oddMd i v _ hMd) hk₂
    have F₃ := F₁.odd (oddMd i v _ hMd) hk₂
    have tt : Tr (wr ++ (ownA env W ++ keys μ')) (wr ++ (ownA env W ++ keys μ'')) s₂ { s' with heap := h₂, toks := tk₁ } :=
      t'.trans ⟨h₂, tk₁, rfl, fun b o hb e => ⟨o, hk₂ b o (fun q => hb (List.mem_append_left _ q)) (hk₁ b o (fun q => hb (List.mem_append_left _ q)) e), .refl o⟩, fun _ z => .inl z⟩
    have hd : items[i]? = some items[i] := List.getElem?_eq_getElem hlt
    have rv : Rep (keys μ'') h₂ v items[i] := by
      refine (it.vals i v _ _ hP hd).move tt.kx (fun y hy => ?_) fun a ha => ?_
      · rcases List.mem_append.mp hy with q | q
        · exact .inr (oddS 0 _ it.start y q).notSeq
        · rcases List.mem_append.mp q with q | q
          · rcases (own_live y q).2 with ⟨m, z⟩ | ⟨u, z⟩
            · exact .inr (.of_ns z)
            · exact .inr (.of_cell z)
          · exact .inl q
      · rcases tt.new a (List.mem_append_right _ (List.mem_append_right _ ha)) with z | z
        · rcases List.mem_append.mp z with z | z
          · exact (M'.notSeq ha (oddS i _ hst a z).notSeq).elim
          · rcases List.mem_append.mp z with z | z
            · have := F'.kind
              exfalso
              rcases List.mem_cons.mp z with rfl | z
              · obtain ⟨m, hm⟩ := F'.ns; exact M'.notSeq ha (.of_ns hm)
              · obtain ⟨y, hy, e⟩ := List.mem_filterMap.mp z
                split at e
                · rename_i hk
                  rcases F'.stor y hy with q | ⟨_, c, hc, _, u, hu⟩
                  · rw [hk] at q; cases q
                  · rw [hc] at e; cases e; exact M'.notSeq ha (.of_cell hu)
                · cases e
            · exact .inl z
        · exact .inr z
    refine wpAny_noRaise (wpAny_mono (turn i items[i] ρ' μ'' hJ hd A _ v rm M₃ F₃ rv) (fun _ s₄ ⟨ρ₁, kb, M₄, F₄, t₄, _⟩ => ?_) fun _ _ z => z)
    refine wpAny_noRaise (wpAny_mono (kb A s₄ rm M₄ F₄) (fun f s₅ ⟨fd, ρ₂, μ₂, k₂, r₂, M₅, F₅, t₅⟩ => ?_) fun _ _ z => z)
    have tb : Tr (ownA env W ++ keys μ'') (ownA env W ++ keys μ₂) { s' with heap := h₂, toks := tk₁ } s₅ := t₄.trans t₅
    have tw := tt.trans tb.wide
    have st₅ : St (i + 1) s₅.heap := it.turns.frame _ _ _ hst₂ fun b hb o e => tb.kx.whole (fpk b hb) e (it.kinds _ _ hst₂ b hb o e).1
    have drop : Tr (ownA env W ++ keys μ) (ownA env W ++ keys μ₂) s s₅ := by
      have a := (t₂.wide (Z := ownA env W))
      have b : Tr (ownA env W ++ keys μ) (wr ++ (ownA env W ++ keys μ')) s s₂ := by
        obtain ⟨h', tk', e, k, nn⟩ := a
        refine ⟨h', tk', e, k, fun x hx => ?_⟩
        rcases List.mem_append.mp hx with q | q
        · exact (dead x q).imp (fun z => List.mem_append_right _ z) id
        · exact nn x q
      have c := b.trans tw
      obtain ⟨h', tk', e, k, nn⟩ := c
      exact ⟨h', tk', e, k, fun x hx => nn x (List.mem_append_right _ hx)⟩
    cases r₂ with
    | next => exact ⟨_, by omega, i + 1, ρ₂, μ₂, hlt, rfl, k₂, st₅, M₅, F₅, tw⟩
    | cont => exact ⟨_, by omega, i + 1, ρ₂, μ₂, hlt, rfl, k₂, st₅, M₅, F₅, tw⟩
    | brk => exact ⟨_, ρ₂, μ₂, k₂, .next, M₅, F₅, drop⟩
    | ret r => exact ⟨_, ρ₂, μ₂, k₂, .ret r, M₅, F₅, drop⟩
  · have hin : i = items.length := by omega
    subst hin
    refine it.turns.done _ _ _ hst fun h₁ tk₁ hk₁ => wpAny_execs_nil ?_
    have M₁ := M'.odd (oddS _ _ hst) hk₁
    have F₁ := F'.odd (oddS _ _ hst) hk₁
    refine ⟨_, ρ', μ'', fin ρ' μ'' hJ, .next, M₁, F₁, ?_⟩
    have tt : Tr (wr ++ (ownA env W ++ keys μ')) (wr ++ (ownA env W ++ keys μ'')) s₂ { s' with heap := h₁, toks := tk₁ } :=
      t'.trans ⟨h₁, tk₁, rfl, fun b o hb e => ⟨o, hk₁ b o (fun q => hb (List.mem_append_left _ q)) e, .refl o⟩, fun _ z => .inl z⟩
    have b : Tr (ownA env W ++ keys μ) (wr ++ (ownA env W ++ keys μ')) s s₂ := by
      obtain ⟨h', tk', e, k, nn⟩ := (t₂.wide (Z := ownA env W))
      refine ⟨h', tk', e, k, fun x hx => ?_⟩
      rcases List.mem_append.mp hx with q | q
      · exact (dead x q).imp (fun z => List.mem_append_right _ z) id
      · exact nn x q
    obtain ⟨h', tk', e, k, nn⟩ := b.trans tt
    exact ⟨h', tk', e, k, fun x hx => nn x (List.mem_append_right _ hx)⟩
end
end Mine

namespace Mine
open PySem PySem.Calls PyProof.Rows

noncomputable def Ext (ρ ρ' : Rho) : Prop := ∀ x d, ρ.lookup x = some d → ρ'.lookup x = some d
theorem Ext.refl (ρ : Rho) : Ext ρ ρ := fun _ _ h => h
theorem Ext.cons {ρ ρ' : Rho} {x : Str} {d : D} (h : ρ.lookup x = none) (e : Ext ρ ρ') : Ext ρ ((x, d) :: ρ') := fun y d' q => by
  rw [List.lookup_cons]
  cases hb : y == x with
  | true => rw [beq_iff_eq.mp hb, h] at q; cases q
  | false => exact e y d' q
theorem Ext.trans {a b c : Rho} (x : Ext a b) (y : Ext b c) : Ext a c := fun z d h => y z d (x z d h)

/-- the tests of a comprehension -/
noncomputable def TestsA (G : Gx) (n : Nat) (env : Env) (W : List Str) (ifs : List Expr) (ρ : Rho) (μ : Mu) (K : Bool → Prop) : Prop :=
  ∀ A s, Rm n A → MuOk A G.B μ s.heap → FrOk G.B env W ρ (keys μ) s.heap →
    wpAny (Mo G.w) A (forIn ifs true fun c r => if r = true then do let ok ← isTrue c env (eval c env); pure (ForInStep.yield ok) else pure (ForInStep.yield r))
      (fun b s' => K b ∧ MuOk A G.B μ s'.heap ∧ Tr (keys μ) (keys μ) s s') (fun _ _ => False) s
theorem TestsA.nil {G : Gx} {n : Nat} {env : Env} {W : List Str} {ρ : Rho} {μ : Mu} {K : Bool → Prop} (k : K true) : TestsA G n env W [] ρ μ K := fun A s rm M F => wpAny_tests_nil ⟨k, M, .refl ..⟩
theorem TestsA.one {G : Gx} {n : Nat} {env : Env} {W : List Str} {ρ : Rho} {μ : Mu} {K : Bool → Prop} {c : Expr} (k : AT G n env W c ρ μ fun b μ' => μ' = μ ∧ K b) : TestsA G n env W [c] ρ μ K := fun A s rm M F =>
  wpAny_tests_one (k.go rm M F fun b μ' s' ⟨e, kb⟩ M' F' t => by subst e; exact ⟨kb, M', t⟩)

/-- what a comprehension does with an item -/
noncomputable def BA (G : Gx) (n : Nat) (env : Env) (W : List Str) (body : Sem Unit) (ρ : Rho) (μ μ' : Mu) (ρc : Rho) : Prop :=
  ∀ A s, Rm n A → MuOk A G.B μ s.heap → FrOk G.B env W ρ (keys μ) s.heap →
    wpAny (Mo G.w) A body (fun _ s' => ∃ ρ', Ext ρc ρ' ∧ MuOk A G.B μ' s'.heap ∧ FrOk G.B env W ρ' (keys μ') s'.heap ∧ Tr (ownA env W ++ keys μ) (ownA env W ++ keys μ') s s') (fun _ _ => False) s

/-- the turn's shape -/
noncomputable def TurnIs (e : Expr) (depth : Nat) (target : Expr) (ifs : List Expr) (it acc : Value) (env : Env) (body : Sem Unit) : Prop :=
  ∃ p : Pos, compTurn e depth it acc env = (do
    standAt p
    match ← pyNext it with
    | none => pure (.done .next)
    | some v =>
      letOwnedTupleGo target it v
      assign target env v
      let mut ok := true
      for c in ifs do
        if ok then ok ← isTrue c env (eval c env)
      if ok then body
      again (.compLoop e depth it acc env))

theorem compLoop_any {prog : Program} {w : World} {A : Around} {R : Result → Shared → Prop} {s : Shared} {elt : Expr} {gens : List Comprehension} {scope : Scope} {epos : Pos} {depth : Nat} {target : Expr} {ifs : List Expr} {it acc : Value} {env : Env} {body : Sem Unit}
    (ht : TurnIs (.ListComp elt gens scope epos) depth target ifs it acc env body) (I : Nat → Shared → Prop)
    (turn : ∀ n s, I n s → wpAny (model prog w) A (pyNext it) (fun r s₁ => match r with
      | none => R (.ok .next) s₁
      | some v => wpAny (model prog w) A (letOwnedTupleGo target it v) (fun _ s₁' => wpAny (model prog w) A (assign target env v) (fun _ s₂ =>
          wpAny (model prog w) A (forIn ifs true fun c r => if r = true then do let ok ← isTrue c env (eval c env); pure (ForInStep.yield ok) else pure (ForInStep.yield r)) (fun ok s₃ =>
            if ok = true then wpAny (model prog w) A body (fun _ s₄ => ∃ m, m < n ∧ I m s₄) (fun _ _ => False) s₃
            else ∃ m, m < n ∧ I m s₃) (fun _ _ => False) s₂) (fun _ _ => False) s₁') (fun _ _ => False) s₁) (fun _ _ => False) s)
    (n : Nat) (h : I n s) : codeAny (model prog w) A (.compLoop (.ListComp elt gens scope epos) depth it acc env) R s := by
  refine codeAny_loop rfl I (fun n s hI => ?_) n h
  show wpAny _ A ((compTurn (.ListComp elt gens scope epos) depth it acc env).onRaise (fun x => do noteFrame x env; theTreesLotGoes x)) _ _ s
  refine wpAny_noted ?_
  obtain ⟨p, hp⟩ := ht
  rw [hp]
  refine wpAny_bind (wpAny_standAt (wpAny_bind (wpAny_noRaise (wpAny_mono (turn n s hI) (fun r s₁ h₁ => ?_) fun _ _ h' => h'))))
  cases r with
  | none => exact wpAny_pure h₁
  | some v =>
    refine wpAny_bind (wpAny_noRaise (wpAny_mono h₁ (fun _ s₁' h₁' => ?_) fun _ _ h' => h'))
    refine wpAny_bind (wpAny_noRaise (wpAny_mono h₁' (fun _ s₂ h₂ => wpAny_bind (wpAny_noRaise (wpAny_mono h₂ (fun ok s₃ h₃ => ?_) fun _ _ h' => h'))) fun _ _ h' => h'))
    cases ok with
    | false => exact wpAny_pure ⟨rfl, h₃⟩
    | true => exact wpAny_bind (wpAny_noRaise (wpAny_mono h₃ (fun _ s₄ h₄ => wpAny_pure ⟨rfl, h₄⟩) fun _ _ h' => h'))

theorem ItOk.push {G : Gx} {A : Around} {target : Expr} {I : Addr} {fp wr : List Addr} {P Md : Nat → Value → Heap → Prop} {St : Nat → Heap → Prop} {μ : Mu} {h h' : Heap} {items : List D} {acc : Addr} {os : List D}
    (it : ItOk G A target I fp wr P Md St μ h items) (k : ∀ b o, h.get? b = some o → h'.get? b = some o) (hd : h.get? acc = none) : ItOk G A target I fp wr P Md St ((acc, os) :: μ) h' items where
  turns := it.turns
  self := it.self
  start := it.turns.frame 0 h h' it.start fun b _ o e => k b o e
  live := fun b hb => by
    obtain ⟨h1, h2⟩ := it.live b hb
    cases q : h.get? b with
    | none => exact absurd q h1
    | some o =>
      refine ⟨live_of (k b o q), fun z => ?_⟩
      rcases List.mem_cons.mp z with z | z
      · have z' : b = acc := z
        subst z'; rw [hd] at q; cases q
      · exact h2 z
  kinds := it.kinds
  odd := it.odd
  oddM := it.oddM
  vals := fun i v h₁ d hP hd' => (it.vals i v h₁ d hP hd').move (KX.of_keep (X := []) k) mem_nil_off fun a ha => by
    rcases List.mem_cons.mp ha with z | z
    · exact .inr (by have z' : a = acc := z; rw [z']; exact hd)
    · exact .inl z

theorem comp_loop {G : Gx} {n : Nat} {A : Around} {s : Shared} {elt : Expr} {gens : List Comprehension} {scope : Scope} {epos : Pos} {depth : Nat} {target : Expr} {ifs : List Expr} {cenv : Env} {Wc : List Str} {ρc : Rho} {μ : Mu} {I acc : Addr} {fp wr : List Addr} {P Md : Nat → Value → Heap → Prop}
    {St : Nat → Heap → Prop} {items os₀ : List D} {body : Sem Unit} {R : Result → Shared → Prop} (ht : TurnIs (.ListComp elt gens scope epos) depth target ifs (.ref I) (.ref acc) cenv body) (rm : Rm n A)
    (it : ItOk G A target I fp wr P Md St ((acc, os₀) :: μ) s.heap items) (hB : ∀ b ∈ wr, G.B.get? b = none) (hown : ∀ b ∈ fp, b ∉ ownA cenv Wc) (out : D → List D)
    (M : MuOk A G.B ((acc, os₀) :: μ) s.heap) (F : FrOk G.B cenv Wc ρc (keys ((acc, os₀) :: μ)) s.heap)
    (turn : ∀ i d os, items[i]? = some d → os = os₀ ++ (items.take i).flatMap out → TA G n cenv Wc target d ρc ((acc, os) :: μ) fun ρ' => Ext ρc ρ' ∧ TestsA G n cenv Wc ifs ρ' ((acc, os) :: μ) fun b =>
      if b then BA G n cenv Wc body ρ' ((acc, os) :: μ) ((acc, os ++ out d) :: μ) ρc else out d = [])
    (hR : ∀ s', MuOk A G.B ((acc, os₀ ++ items.flatMap out) :: μ) s'.heap → FrOk G.B cenv Wc ρc (keys ((acc, os₀) :: μ)) s'.heap → Tr (wr ++ (ownA cenv Wc ++ keys ((acc, os₀) :: μ))) (wr ++ (ownA cenv Wc ++ keys ((acc, os₀) :: μ))) s s' → R (.ok .next) s') :
    codeAny (Mo G.w) A (.compLoop (.ListComp elt gens scope epos) depth (.ref I) (.ref acc) cenv) R s := by
  have oddS : ∀ i h', St i h' → ∀ b ∈ wr, Odd G.B h' b := fun i h' st b hb => ⟨hB b hb, fun o ho => ⟨it.odd i h' st b hb o ho, it.kinds i h' st b (it.turns.sub b hb) o ho⟩⟩
  have oddMd : ∀ i v h', Md i v h' → ∀ b ∈ wr, Odd G.B h' b := fun i v h' st b hb => ⟨hB b hb, fun o ho => ⟨(it.oddM i v h' st b hb).1 o ho, (it.oddM i v h' st b hb).2 o ho⟩⟩
  have own_ns : ∀ {ρ : Rho} {X : List Addr} {h : Heap}, FrOk G.B cenv Wc ρ X h → ∀ a ∈ ownA cenv Wc, NotSeq h a := fun {ρ X h} F a ha => by
    rcases List.mem_cons.mp ha with rfl | ha
    · obtain ⟨m, hm⟩ := F.ns; exact .of_ns hm
    · obtain ⟨y, hy, e⟩ := List.mem_filterMap.mp ha
      split at e
      · rename_i hk
        rcases F.stor y hy with q | ⟨_, c, hc, _, u, hu⟩
        · rw [hk] at q; cases q
        · rw [hc] at e; cases e; exact .of_cell hu
      · cases e
  have fpk : ∀ b ∈ fp, b ∉ ownA cenv Wc ++ keys ((acc, os₀) :: μ) := fun b hb q => (List.mem_append.mp q).elim (hown b hb) (it.live b hb).2
  refine compLoop_any ht (fun k s' => ∃ i, i ≤ items.length ∧ k = items.length + 1 - i ∧ St i s'.heap ∧ MuOk A G.B ((acc, os₀ ++ (items.take i).flatMap out) :: μ) s'.heap ∧ FrOk G.B cenv Wc ρc (keys ((acc, os₀) :: μ)) s'.heap ∧
    Tr (wr ++ (ownA cenv Wc ++ keys ((acc, os₀) :: μ))) (wr ++ (ownA cenv Wc ++ keys ((acc, os₀) :: μ))) s s') ?_ (items.length + 1) ⟨0, Nat.zero_le _, rfl, it.start, by simpa using M, F, .refl ..⟩
  rintro k s' ⟨i, hi, rfl, hst, M', F', t'⟩
  by_cases hlt : i < items.length
  · refine it.turns.item i _ _ _ hlt hst fun v h₁ tk₁ hMd hk₁ => ?_
    have M₁ := M'.odd (oddS i _ hst) hk₁
    have F₁ := F'.odd (oddS i _ hst) hk₁
    refine it.turns.go i v _ _ _ hMd fun h₂ hP hst₂ hk₂ => ?_
    have M₃ := M₁.odd (oddMd i v _ hMd) hk₂
    have F₃ := F₁.odd (oddMd i v _ hMd) hk₂
    have tt : Tr (wr ++ (ownA cenv Wc ++ keys ((acc, os₀) :: μ))) (wr ++ (ownA cenv Wc ++ keys ((acc, os₀) :: μ))) s { s' with heap := h₂, toks := tk₁ } :=
      t'.trans ⟨h₂, tk₁, rfl, fun b o hb e => ⟨o, hk₂ b o (fun q => hb (List.mem_append_left _ q)) (hk₁ b o (fun q => hb (List.mem_append_left _ q)) e), .refl o⟩, fun _ z => .inl z⟩
    have hd : items[i]? = some items[i] := List.getElem?_eq_getElem hlt
    have rv : Rep (keys ((acc, os₀) :: μ)) h₂ v items[i] := by
      refine (it.vals i v _ _ hP hd).move tt.kx (fun y hy => ?_) fun a ha => .inl ha
      rcases List.mem_append.mp hy with q | q
      · exact .inr (oddS 0 _ it.start y q).notSeq
      · rcases List.mem_append.mp q with q | q
        · exact .inr (own_ns F y q)
        · exact .inl q
    have ht1 : items.take (i + 1) = items.take i ++ [items[i]] := by rw [List.take_add_one, hd]; rfl
    have nxt : ∀ {os : List D}, os₀ ++ (items.take (i + 1)).flatMap out = os₀ ++ (items.take i).flatMap out ++ out items[i] := by
      intro _; rw [ht1, List.flatMap_append, List.append_assoc]; simp
    refine wpAny_mono (turn i items[i] _ hd rfl A _ v rm M₃ F₃ rv) (fun _ s₄ ⟨ρ₁, ⟨ext, tst⟩, M₄, F₄, t₄, _⟩ => ?_) fun _ _ z => z
    refine wpAny_mono (tst A s₄ rm M₄ F₄) (fun b s₅ ⟨kb, M₅, t₅⟩ => ?_) fun _ _ z => z
    have F₅ := F₄.tr M₄ t₅
    cases b with
    | false =>
      have tb := t₄.trans t₅.wide
      refine ⟨_, by omega, i + 1, hlt, rfl, ?_, ?_, F₅.weaken ext, tt.trans tb.wide⟩
      · exact it.turns.frame _ _ _ hst₂ fun b hb o e => tb.kx.whole (fpk b hb) e (it.kinds _ _ hst₂ b hb o e).1
      · have kb' : out items[i] = [] := kb
        rw [nxt (os := []), kb', List.append_nil]; exact M₅
    | true =>
      refine wpAny_mono (kb A s₅ rm M₅ F₅) (fun _ s₆ ⟨ρ₆, ext₆, M₆, F₆, t₆⟩ => ?_) fun _ _ z => z
      have tb := (t₄.trans t₅.wide).trans t₆
      refine ⟨_, by omega, i + 1, hlt, rfl, ?_, ?_, F₆.weaken ext₆, tt.trans tb.wide⟩
      · exact it.turns.frame _ _ _ hst₂ fun b hb o e => tb.kx.whole (fpk b hb) e (it.kinds _ _ hst₂ b hb o e).1
      · rw [nxt (os := [])]; exact M₆
  · have hin : i = items.length := by omega
    subst hin
    refine it.turns.done _ _ _ hst fun h₁ tk₁ hk₁ => ?_
    have M₁ := M'.odd (oddS _ _ hst) hk₁
    have F₁ := F'.odd (oddS _ _ hst) hk₁
    rw [List.take_length] at M₁
    exact hR _ M₁ F₁ (t'.trans ⟨h₁, tk₁, rfl, fun b o hb e => ⟨o, hk₁ b o (fun q => hb (List.mem_append_left _ q)) e, .refl o⟩, fun _ z => .inl z⟩)
end Mine

namespace Mine
open PySem PySem.Calls PyProof.Rows

noncomputable def closOf (cells : List (Str × Addr)) : List (Str × NameKind) → List (Str × Addr) → List (Str × Addr)
  | [], acc => acc
  | (x, k) :: r, acc => if k == .free then (match cells.lookup x with | some c => closOf cells r ((x, c) :: acc) | none => closOf cells r acc) else closOf cells r acc
theorem closureFor_go {env : Env} (f : Str × NameKind → List (Str × Addr) → Sem (ForInStep (List (Str × Addr))))
    (hf : ∀ x k cs, f (x, k) cs = if k == .free then (do let c ← cellOf env x; pure (.yield ((x, c) :: cs))) else pure (.yield cs)) :
    ∀ (names : List (Str × NameKind)) (acc : List (Str × Addr)), (names.all fun p => !(p.2 == .free) || (env.cells.lookup p.1).isSome) = true → forIn names acc f = pure (closOf env.cells names acc)
  | [], acc, _ => rfl
  | (x, k) :: r, acc, h => by
    have h' := (Bool.and_eq_true _ _).mp (List.all_cons ▸ h)
    rw [List.forIn_cons, hf]
    unfold closOf
    cases hk : k == NameKind.free with
    | false => simp only [Bool.false_eq_true, if_false, pure_bind]; exact closureFor_go f hf r acc h'.2
    | true =>
      have h1 := h'.1
      simp only [hk, Bool.not_true, Bool.false_or] at h1
      obtain ⟨c, hc⟩ := Option.isSome_iff_exists.mp h1
      simp only [if_true, hc]
      have : cellOf env x = pure c := by unfold cellOf; rw [hc]
      rw [this]
      simp only [pure_bind]
      exact closureFor_go f hf r _ h'.2
theorem closureFor_eq {scope : Scope} {env : Env} (h : (scope.names.all fun p => !(p.2 == .free) || (env.cells.lookup p.1).isSome) = true) : closureFor scope env = pure (closOf env.cells scope.names []) := by
  have e := closureFor_go (env := env) (fun x cs => match x with | (name, kind) => if (kind == NameKind.free) = true then (do let c ← cellOf env name; pure (ForInStep.yield ((name, c) :: cs))) else pure (ForInStep.yield cs)) (fun x k cs => rfl) scope.names [] h
  show (forIn scope.names [] (fun x cs => match x with | (name, kind) => if (kind == NameKind.free) = true then (do let c ← cellOf env name; pure (ForInStep.yield ((name, c) :: cs))) else pure (ForInStep.yield cs)) >>= fun cs => pure cs) = _
  rw [e]; rfl
theorem closOf_sub {cells : List (Str × Addr)} : ∀ (names : List (Str × NameKind)) (acc : List (Str × Addr)), (∀ p ∈ acc, cells.lookup p.1 = some p.2) → ∀ p ∈ closOf cells names acc, cells.lookup p.1 = some p.2
  | [], acc, h, p, hp => h p hp
  | (x, k) :: r, acc, h, p, hp => by
    unfold closOf at hp
    split at hp
    · split at hp
      · rename_i c hc
        exact closOf_sub r _ (fun q hq => by rcases List.mem_cons.mp hq with rfl | hq; exact hc; exact h q hq) p hp
      · exact closOf_sub r acc h p hp
    · exact closOf_sub r acc h p hp
theorem cellsFrom_append : ∀ (names : List (Str × NameKind)) (n : Nat) (acc : List (Str × Addr)), cellsFrom n names acc = cellsFrom n names [] ++ acc
  | [], _, _ => rfl
  | (x, k) :: r, n, acc => by
    unfold cellsFrom
    split
    · rw [cellsFrom_append r (n + 1) ((x, n) :: acc), cellsFrom_append r (n + 1) [(x, n)], List.append_assoc]; rfl
    · exact cellsFrom_append r n acc
theorem lookup_relabel {env : Env} : ∀ {names : List (Str × NameKind)} {x : Str} {k : NameKind}, names.lookup x = some k → k ≠ .free →
    (names.map fun (n, k) => if (k == NameKind.free && env.scope.kind == .function && env.kindOf n == some .cell) then (n, NameKind.cell) else (n, k)).lookup x = some k
  | [], _, _, h, _ => by simp at h
  | (y, j) :: r, x, k, h, hk => by
    show List.lookup x ((if (j == NameKind.free && env.scope.kind == .function && env.kindOf y == some .cell) = true then (y, NameKind.cell) else (y, j)) :: _) = _
    rw [List.lookup_cons] at h
    cases hx : x == y with
    | true =>
      rw [hx] at h; cases h
      have : (j == NameKind.free) = false := by simpa using hk
      simp [List.lookup_cons, hx, this]
    | false =>
      rw [hx] at h
      by_cases hc : (j == NameKind.free && env.scope.kind == .function && env.kindOf y == some .cell) = true
      · rw [if_pos hc]; simp only [List.lookup_cons, hx]; exact lookup_relabel h hk
      · rw [if_neg hc]; simp only [List.lookup_cons, hx]; exact lookup_relabel h hk

/-- a comprehension's environment -/
noncomputable def cE (scope : Scope) (env : Env) (C : Addr) : Env :=
  { scope := relabel scope env, locals := C, globals := env.globals, cells := cellsFrom (C + 1) scope.names (closOf env.cells scope.names []), qual := env.qual, func := none, code := env.code, frame := env.frame, builtins := env.builtins }

theorem newCompEnv {M : Model} {A : Around} {E : Value → Shared → Prop} {s : Shared} {scope : Scope} {env : Env} {cl : List (Str × Addr)} {Q : Env → Shared → Prop}
    (h : Q { scope := scope, locals := s.heap.objs.size, globals := env.globals, cells := cellsFrom (s.heap.objs.size + 1) scope.names cl, qual := env.qual, func := none, code := env.code, frame := env.frame, builtins := env.builtins }
      { s with heap := pushCells (s.heap.push { cls := .type "dict", data := .dict #[] }) scope.names }) :
    wpAny M A (newFunctionEnv scope env.globals cl [] env.qual none .none (some env)) Q E s := by
  simp only [newFunctionEnv, Option.isSome_some, if_true]
  refine wpAny_bind (wpAny_alloc ?_)
  refine wpAny_bind (wpAny_layCells _ (fun name kind cells => by cases hkc : kind == NameKind.cell <;> simp [hkc]) _ _ _ _ ?_)
  rw [show ({ s with heap := s.heap.push { cls := .type "dict", data := .dict #[] } } : Shared).heap.objs.size = s.heap.objs.size + 1 from Heap.size_push ..]
  rw [List.forIn_nil]
  exact wpAny_bind (wpAny_pure (wpAny_pure h))

/-- the free names of a comprehension: cells of the frame around it -/
noncomputable def FvOk (scope : Scope) (env : Env) (ρ : Rho) : Rho → Prop
  | [] => True
  | (x, d) :: r => (ρ.lookup x = some d ∧ env.kindOf x = some .cell ∧ (relabel scope env).names.lookup x = some .cell ∧ ∀ C, (cE scope env C).cells.lookup x = env.cells.lookup x) ∧ FvOk scope env ρ r
theorem FvOk.get {scope : Scope} {env : Env} {ρ : Rho} : ∀ {ρc : Rho}, FvOk scope env ρ ρc → ∀ {x : Str} {d : D}, ρc.lookup x = some d →
    ρ.lookup x = some d ∧ env.kindOf x = some .cell ∧ (relabel scope env).names.lookup x = some .cell ∧ ∀ C, (cE scope env C).cells.lookup x = env.cells.lookup x
  | [], _, _, _, h => by cases h
  | (y, e) :: r, ⟨h1, h2⟩, x, d, h => by
    rw [List.lookup_cons] at h
    cases hb : x == y with
    | true => rw [hb] at h; cases h; rw [beq_iff_eq.mp hb]; exact h1
    | false => rw [hb] at h; exact FvOk.get h2 h

theorem pushCells_size : ∀ (names : List (Str × NameKind)) (h : Heap), h.objs.size ≤ (pushCells h names).objs.size
  | [], _ => Nat.le_refl _
  | (_, k) :: r, h => by
    unfold pushCells
    split
    · exact Nat.le_trans (by rw [Heap.size_push]; omega) (pushCells_size r _)
    · exact pushCells_size r h

theorem cE_fr {G : Gx} {A : Around} {env : Env} {W Wc : List Str} {ρ ρc : Rho} {μ : Mu} {scope : Scope} {s : Shared} (M : MuOk A G.B μ s.heap) (F : FrOk G.B env W ρ (keys μ) s.heap) (hk : scope.kind = .function)
    (hfv : FvOk scope env ρ ρc) (hW : ∀ x ∈ Wc, scope.names.lookup x = some .local ∨ scope.names.lookup x = some .cell) :
    FrOk G.B (cE scope env s.heap.objs.size) Wc ρc (keys μ) (pushCells (s.heap.push { cls := .type "dict", data := .dict #[] }) scope.names) ∧
    (∀ b o, s.heap.get? b = some o → (pushCells (s.heap.push { cls := .type "dict", data := .dict #[] }) scope.names).get? b = some o) ∧ ∀ a ∈ ownA (cE scope env s.heap.objs.size) Wc, s.heap.get? a = none := by
  have kp : ∀ b o, s.heap.get? b = some o → (pushCells (s.heap.push { cls := .type "dict", data := .dict #[] }) scope.names).get? b = some o := fun b o e => pushCells_keeps _ _ b o (Heap.get?_push_of_some _ e)
  have ok := cellsFrom_ok scope.names (s.heap.push { cls := .type "dict", data := .dict #[] }) (s.heap.objs.size + 1) [] ⟨fun _ _ hm => (nomatch hm), List.Pairwise.nil⟩ (by rw [Heap.size_push]; exact Nat.le_refl _)
  rw [Heap.size_push] at ok
  have hcl := closOf_sub (cells := env.cells) scope.names [] (fun _ h => nomatch h)
  have ce : (cE scope env s.heap.objs.size).cells = cellsFrom (s.heap.objs.size + 1) scope.names [] ++ closOf env.cells scope.names [] := cellsFrom_append ..
  have dead : ∀ b, s.heap.objs.size ≤ b → s.heap.get? b = none := fun b hb => Heap.get?_none_of_le hb
  have look : ∀ x c, (cE scope env s.heap.objs.size).cells.lookup x = some c → ((x, c) ∈ cellsFrom (s.heap.objs.size + 1) scope.names [] ∧ s.heap.objs.size < c) ∨ (env.cells.lookup x = some c ∧ c < s.heap.objs.size) := fun x c h => by
    have hm := mem_of_lookup h
    rw [ce] at hm
    rcases List.mem_append.mp hm with q | q
    · exact .inl ⟨q, (ok.empty x c q).2⟩
    · have e := hcl _ q
      obtain ⟨v, hv⟩ := F.cel x c e
      exact .inr ⟨e, hv.lt⟩
  have own : ∀ x, scope.names.lookup x = some .cell → ∃ c, (cE scope env s.heap.objs.size).cells.lookup x = some c ∧ (x, c) ∈ cellsFrom (s.heap.objs.size + 1) scope.names [] := fun x hx => by
    obtain ⟨c, hc⟩ := Option.isSome_iff_exists.mp (cellsFrom_some (x := x) scope.names (s.heap.objs.size + 1) [] (.inr hx))
    exact ⟨c, by rw [ce, List.lookup_append, hc]; rfl, mem_of_lookup hc⟩
  have kx : KX [] s.heap (pushCells (s.heap.push { cls := .type "dict", data := .dict #[] }) scope.names) := .of_keep kp
  refine ⟨⟨hk, ⟨_, (Heap.Ns.new s.heap (.type "dict")).keeps (pushCells_keeps _ _)⟩, (M.dead (dead_size _)).2, F.gl, F.bu, fun x y c h1 h2 => ?_, fun x c h => ?_, fun x hx => ?_, fun x d h => ?_⟩, kp, fun a ha => ?_⟩
  · rcases look x c h1 with ⟨a, b⟩ | ⟨a, b⟩ <;> rcases look y c h2 with ⟨a', b'⟩ | ⟨a', b'⟩
    · exact name_of_addr ok.apart a a'
    · exact absurd b' (Nat.lt_asymm b)
    · exact absurd b (Nat.lt_asymm b')
    · exact F.inj x y c a a'
  · rcases look x c h with ⟨a, b⟩ | ⟨a, b⟩
    · exact ⟨_, (ok.empty x c a).1⟩
    · obtain ⟨v, hv⟩ := F.cel x c a
      exact ⟨v, hv.keeps kp⟩
  · rcases hW x hx with q | q
    · exact .inl (lookup_relabel (env := env) q (by decide))
    · obtain ⟨c, hc, hm⟩ := own x q
      exact .inr ⟨lookup_relabel (env := env) q (by decide), c, hc, (M.dead (dead c (Nat.le_of_lt (ok.empty x c hm).2))).2, _, (ok.empty x c hm).1⟩
  · obtain ⟨h1, h2, h3, h4⟩ := hfv.get h
    obtain ⟨v, l, r⟩ := F.vars x d h1
    refine ⟨v, ?_, r.move kx mem_nil_off fun _ z => .inl z⟩
    rcases l with ⟨k1, _⟩ | ⟨k1, c, k2, k3⟩
    · rw [h2] at k1; cases k1
    · exact .inr ⟨.inl h3, c, (h4 _).trans k2, k3.keeps kp⟩
  · rcases List.mem_cons.mp ha with rfl | ha
    · exact dead_size _
    · obtain ⟨y, hy, e⟩ := List.mem_filterMap.mp ha
      split at e
      · rename_i hkk
        rcases hW y hy with q | q
        · have := lookup_relabel (env := env) q (by decide)
          have hkk' : (relabel scope env).names.lookup y = some .cell := hkk
          rw [show (relabel scope env).names.lookup y = _ from this] at hkk'; cases hkk'
        · obtain ⟨c, hc, hm⟩ := own y q
          rw [hc] at e; cases e
          exact dead _ (Nat.le_of_lt (ok.empty y a hm).2)
      · cases e

/-- a comprehension, up to its end -/
theorem comp_core {G : Gx} {n : Nat} {A : Around} {s : Shared} {env : Env} {W Wc : List Str} {ρ ρc : Rho} {μ : Mu} {elt target iter : Expr} {ifs : List Expr} {more : List Comprehension} {scope : Scope} {epos pos : Pos}
    {use : Option (Value → Sem Unit)} {Q : Value → Shared → Prop} {SK : List D → Mu → Prop} {body : Addr → Addr → Sem Unit} {out : D → List D}
    (src : IS G n env W target iter ρ μ SK) (rm : Rm n A) (M : MuOk A G.B μ s.heap) (F : FrOk G.B env W ρ (keys μ) s.heap)
    (ht : ∀ C I acc, TurnIs (.ListComp elt (⟨target, iter, ifs, 0⟩ :: more) scope epos) 0 target ifs (.ref I) (.ref acc) (cE scope env C) (body C acc))
    (hs : ∀ x, foldedSetIterable iter env x = pure x) (hfree : (scope.names.all fun p => !(p.2 == .free) || (env.cells.lookup p.1).isSome) = true)
    (hk : scope.kind = .function) (hnames : ∀ x ∈ scope.names, x.2 = .local → scope.names.lookup x.1 = some .local)
    (hfv : FvOk scope env ρ ρc) (hW : ∀ x ∈ Wc, scope.names.lookup x = some .local ∨ scope.names.lookup x = some .cell)
    (turn : ∀ items μ₁, SK items μ₁ → ∀ C acc i d os, items[i]? = some d → os = (items.take i).flatMap out → TA G n (cE scope env C) Wc target d ρc ((acc, os) :: μ₁) fun ρ' => Ext ρc ρ' ∧ TestsA G n (cE scope env C) Wc ifs ρ' ((acc, os) :: μ₁) fun b =>
      if b then BA G n (cE scope env C) Wc (body C acc) ρ' ((acc, os) :: μ₁) ((acc, os ++ out d) :: μ₁) ρc else out d = [])
    (hQ : ∀ items μ₁ C acc s', SK items μ₁ → MuOk A G.B ((acc, items.flatMap out) :: μ₁) s'.heap → (∃ m, s'.heap.Ns C m) → G.B.get? C = none → Tr (keys μ) (C :: keys ((acc, items.flatMap out) :: μ₁)) s s' →
      compPost (Mo G.w) A (fun _ _ => False) use Q (.ref acc) C (.ok .next) s') :
    wpAny (Mo G.w) A (comprehension (.ListComp elt (⟨target, iter, ifs, 0⟩ :: more) scope epos) scope env pos (newList []) false (eval iter env) use) Q (fun _ _ => False) s := by
  refine wpAny_comprehension_free rfl hs (closureFor_eq hfree) hk hnames ?_
  refine wpAny_mono (src A s rm M F) (fun x s₁ h₁ => wpAny_mono h₁ (fun it s₂ h₂ => ?_) fun _ _ z => z) fun _ _ z => z
  obtain ⟨items, μ₁, I, fp, wr, P, Md, St, sk, rfl, M₂, t₂, itk, dead⟩ := h₂
  have F₂ := F.tr M t₂
  refine wpAny_newObj_type ?_ (by show ([] : List Value).toArray.size ≤ sizeLine; exact Nat.zero_le _)
  refine newCompEnv ?_
  have kp₃ : ∀ b o, s₂.heap.get? b = some o → (s₂.heap.push { cls := .type "list", data := .seq ([] : List Value).toArray }).get? b = some o := fun b o e => Heap.get?_push_of_some _ e
  have accd : s₂.heap.get? s₂.heap.objs.size = none := dead_size _
  have M₃ : MuOk A G.B ((s₂.heap.objs.size, []) :: μ₁) (s₂.heap.push { cls := .type "list", data := .seq ([] : List Value).toArray }) := M₂.more kp₃ accd ⟨0, Heap.get?_push_size _ rfl⟩ .nil
  have t₃ : Tr (keys μ₁) (keys ((s₂.heap.objs.size, []) :: μ₁)) s₂ { s₂ with heap := s₂.heap.push { cls := .type "list", data := .seq ([] : List Value).toArray } } :=
    ⟨_, _, rfl, .of_keep kp₃, fun a ha => by
      rcases List.mem_cons.mp ha with q | q
      · exact .inr (by have q' : a = s₂.heap.objs.size := q; rw [q']; exact accd)
      · exact .inl q⟩
  have F₃ := F₂.tr M₂ t₃
  obtain ⟨F₄, kp₄, ownd⟩ := cE_fr (s := { s₂ with heap := s₂.heap.push { cls := .type "list", data := .seq ([] : List Value).toArray } }) M₃ F₃ hk hfv hW
  have M₄ := M₃.keep kp₄
  generalize hC : (s₂.heap.push { cls := .type "list", data := .seq ([] : List Value).toArray }).objs.size = C at *
  have kp : ∀ b o, s₂.heap.get? b = some o → (pushCells ((s₂.heap.push { cls := .type "list", data := .seq ([] : List Value).toArray }).push { cls := .type "dict", data := .dict #[] }) scope.names).get? b = some o := fun b o e => kp₄ b o (kp₃ b o e)
  have it := itk.push (os := []) kp accd
  have own₂ : ∀ a ∈ ownA (cE scope env C) Wc, s₂.heap.get? a = none := fun a ha => by
    cases q : s₂.heap.get? a with
    | none => rfl
    | some o => have := kp₃ a o q; rw [ownd a (by simpa [hC] using ha)] at this; cases this
  have hown : ∀ b ∈ fp, b ∉ ownA (cE scope env C) Wc := fun b hb q => (itk.live b hb).1 (own₂ b q)
  have hB : ∀ b ∈ wr, G.B.get? b = none := fun b hb => (dead b hb).elim (M.off b) fun z => (M.dead z).2
  have cd : s₂.heap.get? C = none := own₂ C (.head _)
  have back : ∀ a, s₂.heap.get? a = none → a ∈ keys μ ∨ s.heap.get? a = none := fun a h => by
    by_cases hk : a ∈ keys μ
    · exact .inl hk
    · exact .inr (t₂.kx.dead hk h)
  have loop : ∀ s₅ : Shared, s₅ = { s₂ with heap := pushCells ((s₂.heap.push { cls := .type "list", data := .seq ([] : List Value).toArray }).push { cls := .type "dict", data := .dict #[] }) scope.names } →
      codeAny (Mo G.w) A (.compLoop (.ListComp elt (⟨target, iter, ifs, 0⟩ :: more) scope epos) 0 (.ref I) (.ref s₂.heap.objs.size) (cE scope env C)) (compPost (Mo G.w) A (fun _ _ => False) use Q (.ref s₂.heap.objs.size) C) s₅ := by
    rintro s₅ rfl
    refine comp_loop (ht C I s₂.heap.objs.size) rm it hB hown out M₄ F₄ (fun i d os hd ho => turn items μ₁ sk C _ i d os hd (by simpa using ho)) fun s' M' F' t' => ?_
    refine hQ items μ₁ C s₂.heap.objs.size s' sk (by simpa using M') F'.ns F'.lo ?_
    have t₅ : Tr (keys μ) (wr ++ (ownA (cE scope env C) Wc ++ keys ((s₂.heap.objs.size, []) :: μ₁))) s { s₂ with heap := pushCells ((s₂.heap.push { cls := .type "list", data := .seq ([] : List Value).toArray }).push { cls := .type "dict", data := .dict #[] }) scope.names } := by
      have t₅' := t₂.trans (Tr.keep (Y := keys μ₁) (tk' := s₂.toks) kp)
      obtain ⟨h', tk', e, kx, nn⟩ := t₅'
      refine ⟨h', tk', e, kx, fun a ha => ?_⟩
      rcases List.mem_append.mp ha with q | q
      · exact dead a q
      · rcases List.mem_append.mp q with q | q
        · exact back a (own₂ a q)
        · rcases List.mem_cons.mp q with q | q
          · have q' : a = s₂.heap.objs.size := q
            exact back a (by rw [q']; exact accd)
          · exact nn a q
    obtain ⟨h', tk', e, kx, nn⟩ := t₅.trans t'
    refine ⟨h', tk', e, kx, fun a ha => nn a (List.mem_append_right _ ?_)⟩
    rcases List.mem_cons.mp ha with q | q
    · exact List.mem_append_left _ (by rw [q]; exact .head _)
    · exact List.mem_append_right _ q
  have key : codeAny (Mo G.w) A (.compStart (.ListComp elt (⟨target, iter, ifs, 0⟩ :: more) scope epos) 0 (.ref I) (.ref s₂.heap.objs.size) (cE scope env C)) (compPost (Mo G.w) A (fun _ _ => False) use Q (.ref s₂.heap.objs.size) C)
      { s₂ with heap := pushCells ((s₂.heap.push { cls := .type "list", data := .seq ([] : List Value).toArray }).push { cls := .type "dict", data := .dict #[] }) scope.names } :=
    codeAny_compStart_list (loop _ rfl) (itk.self 0 _ _ _ it.start (loop _ rfl))
  exact key
end Mine

namespace Mine
open PySem PySem.Calls PyProof.Rows

theorem not_live {C a : Addr} {A : Around} {B : Heap} {μ : Mu} {h : Heap} (M : MuOk A B μ h) (hC : C ∈ keys μ ∨ h.get? C = none) (hn : NotSeq h a) (hl : h.get? a ≠ none) : a ≠ C := fun e => by
  rcases hC with q | q
  · exact M.notSeq q (e ▸ hn)
  · exact hl (e ▸ q)
theorem FrOk.off1 {B : Heap} {env : Env} {W : List Str} {ρ : Rho} {X : List Addr} {h h' : Heap} {C : Addr} (F : FrOk B env W ρ X h) (hs : Heap.SameBut C h h') (hn : NotSeq h C) (hL : env.locals ≠ C) (hc : ∀ x c, env.cells.lookup x = some c → c ≠ C) : FrOk B env W ρ X h' := by
  have k : KX [C] h h' := .of_sameBut hs (.head _)
  have ns : ∀ y ∈ [C], y ∈ X ∨ NotSeq h y := fun y hy => by cases hy with | head => exact .inr hn | tail _ q => cases q
  refine ⟨F.kind, ?_, F.lo, F.gl, F.bu, F.inj, fun x c e => ?_, fun x hx => ?_, fun x d e => ?_⟩
  · obtain ⟨m, hm⟩ := F.ns; exact ⟨m, hm.sameBut hs hL⟩
  · obtain ⟨v, hv⟩ := F.cel x c e; exact ⟨v, hv.sameBut hs (hc x c e)⟩
  · exact (F.stor x hx).imp id fun ⟨a, c, b, e, u, w⟩ => ⟨a, c, b, e, u, w.sameBut hs (hc x c b)⟩
  · obtain ⟨v, l, r⟩ := F.vars x d e
    refine ⟨v, ?_, r.move k ns fun _ z => .inl z⟩
    rcases l with ⟨h1, m₂, h2, h3⟩ | ⟨h1, c, h2, h3⟩
    · exact .inl ⟨h1, m₂, h2.sameBut hs hL, h3⟩
    · exact .inr ⟨h1, c, h2, h3.sameBut hs (hc x c h2)⟩

/-- a dict that is no frame of the stack changes -/
theorem MuOk.off2 {A : Around} {B : Heap} {μ μ₀ : Mu} {h h' h₀ : Heap} {c : Addr} (M : MuOk A B μ h) (hs : Heap.SameBut c h h') (hn : NotSeq h c) (hb : B.get? c = none) (M₀ : MuOk A B μ₀ h₀) (hc : c ∈ keys μ₀ ∨ h₀.get? c = none) : MuOk A B μ h' := by
  have k : KX [c] h h' := .of_sameBut hs (.head _)
  have ns : ∀ y ∈ [c], y ∈ keys μ ∨ NotSeq h y := fun y hy => by cases hy with | head => exact .inr hn | tail _ q => cases q
  refine ⟨fun b o e => ?_, M.off, fun p hp => ?_, M.nd, ?_⟩
  · refine (hs.2 b fun q => ?_).trans (M.base b o e)
    rw [q, hb] at e; cases e
  · obtain ⟨vs, hl, r⟩ := M.mus p hp
    exact ⟨vs, isL_keep k (fun q => by cases q with | head => exact hl.seq hn | tail _ q => cases q) hl, r.move k ns fun _ q => .inl q⟩
  · obtain ⟨l, h1, h2⟩ := M.ff
    obtain ⟨l', h1', h2'⟩ := M₀.ff
    rw [h1] at h1'; cases h1'
    refine ⟨l, h1, fun env he => ?_⟩
    obtain ⟨hk, L, m, hf', hb', hns⟩ := h2 env he
    obtain ⟨_, L', m', hf'', _, hns'⟩ := h2' env he
    rw [hf'] at hf''; cases hf''
    refine ⟨hk, L, m, hf', hb', hns.sameBut hs (not_live M₀ hc (.of_ns hns') ?_)⟩
    obtain ⟨o, _, _, ho, _⟩ := hns'; exact live_of ho

/-- a list takes one more item -/
theorem append_mu {G : Gx} {A : Around} {μ : Mu} {s : Shared} {a : Addr} {os : List D} {v : Value} {d : D} {Q : Value → Shared → Prop} {E : Value → Shared → Prop} (M : MuOk A G.B ((a, os) :: μ) s.heap) (r : Rep (keys ((a, os) :: μ)) s.heap v d) (hsz : os.length ≤ sizeLine)
    (h : ∀ s', MuOk A G.B ((a, os ++ [d]) :: μ) s'.heap → Tr (keys ((a, os) :: μ)) (keys ((a, os ++ [d]) :: μ)) s s' → Q .none s') : wpAny (Mo G.w) A (call (.builtin "list.append") [.ref a, v]) Q E s := by
  obtain ⟨vs, ⟨nn, hl⟩, rs⟩ := M.mus _ (.head _)
  have hlen : vs.length = os.length := rs.length
  refine append_at hl (fun h' hs ho => h _ (M.set (ws := vs ++ [v]) hs ⟨nn + 1, by rw [ho]; simp⟩ (rs.append (.one r))) ⟨h', s.toks, rfl, .of_sameBut hs (.head _), fun _ z => .inl z⟩) ?_
  rw [List.size_toArray]; omega

section
variable {G : Gx} {n : Nat} {env : Env} {W Wc : List Str} {ρ ρc : Rho} {μ : Mu}

theorem BA.elt {elt : Expr} {a : Addr} {os : List D} {d : D} (h : AE G n env W elt ρ ((a, os) :: μ) fun d' μ' => μ' = (a, os) :: μ ∧ d' = d) (hsz : os.length ≤ sizeLine) (ext : Ext ρc ρ) :
    BA G n env W (do let _ ← call (.builtin "list.append") [.ref a, ← eval elt env]) ρ ((a, os) :: μ) ((a, os ++ [d]) :: μ) ρc := fun A s rm M F =>
  wpAny_bind (h.go rm M F fun d' μ' v s₁ ⟨e₁, e₂⟩ r M₁ F₁ t₁ => by
    subst e₁ e₂
    exact wpAny_bind (append_mu M₁ r hsz fun s₂ M₂ t₂ => wpAny_pure ⟨ρ, ext, M₂, F₁.tr M₁ t₂, (t₁.trans t₂).wide⟩))

theorem flat_take (items : List D) (out : D → List D) (i : Nat) : ((items.take i).flatMap out).length ≤ (items.flatMap out).length := by
  have e : (items.take i ++ items.drop i).flatMap out = items.flatMap out := by rw [List.take_append_drop]
  rw [← e, List.flatMap_append, List.length_append]; omega

/-- what a comprehension of one clause asks of a turn -/
noncomputable def CT (G : Gx) (n : Nat) (env : Env) (scope : Scope) (Wc : List Str) (ρc : Rho) (target elt : Expr) (ifs : List Expr) (out : D → List D) (items : List D) (μ₁ : Mu) : Prop :=
  (items.flatMap out).length ≤ sizeLine ∧ ∀ C a os d, d ∈ items → TA G n (cE scope env C) Wc target d ρc ((a, os) :: μ₁) fun ρ' => Ext ρc ρ' ∧ TestsA G n (cE scope env C) Wc ifs ρ' ((a, os) :: μ₁) fun b =>
    if b then ∃ d', out d = [d'] ∧ AE G n (cE scope env C) Wc elt ρ' ((a, os) :: μ₁) (fun e μ' => μ' = (a, os) :: μ₁ ∧ e = d') else out d = []

theorem CT.turn {scope : Scope} {target elt iter : Expr} {ifs : List Expr} {out : D → List D} {items : List D} {μ₁ : Mu} (h : CT G n env scope Wc ρc target elt ifs out items μ₁) (C acc : Addr) (i : Nat) (d : D) (os : List D) (hd : items[i]? = some d) (ho : os = (items.take i).flatMap out) :
    TA G n (cE scope env C) Wc target d ρc ((acc, os) :: μ₁) fun ρ' => Ext ρc ρ' ∧ TestsA G n (cE scope env C) Wc ifs ρ' ((acc, os) :: μ₁) fun b =>
      if b then BA G n (cE scope env C) Wc (do let _ ← call (.builtin "list.append") [.ref acc, ← eval elt (cE scope env C)]) ρ' ((acc, os) :: μ₁) ((acc, os ++ out d) :: μ₁) ρc else out d = [] := fun A s v rm M F r =>
  wpAny_mono (h.2 C acc os d (List.mem_of_getElem? hd) A s v rm M F r) (fun _ s' ⟨ρ', ⟨e, t⟩, x⟩ => ⟨ρ', ⟨e, fun A s rm M F => wpAny_mono (t A s rm M F) (fun b s' ⟨k, y⟩ => ⟨by
    cases b with
    | false => exact k
    | true =>
      obtain ⟨d', e', k'⟩ := k
      show BA ..
      rw [e']
      refine BA.elt k' ?_ e
      rw [ho]
      exact Nat.le_trans (flat_take items out i) h.1, y⟩) fun _ _ z => z⟩, x⟩) fun _ _ z => z

/-- a comprehension of one clause -/
theorem AE.comp {elt target iter : Expr} {ifs : List Expr} {scope : Scope} {epos : Pos} {K : D → Mu → Prop} (out : D → List D)
    (src : IS G n env W target iter ρ μ fun items μ₁ => CT G n env scope Wc ρc target elt ifs out items μ₁ ∧ K (.list (items.flatMap out)) μ₁)
    (hfv : FvOk scope env ρ ρc) (hW : ∀ x ∈ Wc, scope.names.lookup x = some .local ∨ scope.names.lookup x = some .cell)
    (hnames : ∀ x ∈ scope.names, x.2 = .local → scope.names.lookup x.1 = some .local)
    (hfree : (scope.names.all fun p => !(p.2 == .free) || (env.cells.lookup p.1).isSome) = true := by rfl)
    (hs : ∀ x, foldedSetIterable iter env x = pure x := by intro _; rfl) (hk : scope.kind = .function := by rfl) : AE G n env W (.ListComp elt [⟨target, iter, ifs, 0⟩] scope epos) ρ μ K := fun A s rm M F => by
  rw [eval_ListComp]
  refine comp_core (use := none) src rm M F (fun C I acc => ⟨_, compTurn_list elt target iter ifs scope epos _ _ _⟩) hs hfree hk hnames hfv hW (fun items μ₁ sk C acc i d os hd ho => sk.1.turn (iter := iter) C acc i d os hd ho) fun items μ₁ C acc s' sk M' ⟨m, hm⟩ hb t => ?_
  refine ⟨m, hm, fun h' hs' => ?_⟩
  have hn := NotSeq.of_ns hm
  have hc := t.new C (.head _)
  obtain ⟨M₃, r₃⟩ := (M'.off2 hs' hn hb M hc).less
  refine ⟨_, μ₁, sk.2, r₃, M₃, ?_⟩
  have t' : Tr (C :: keys ((acc, items.flatMap out) :: μ₁)) (keys μ₁) s' { s' with heap := h' } := ⟨h', s'.toks, rfl, .of_sameBut hs' (.head _), fun a ha => .inl (.tail _ (.tail _ ha))⟩
  exact t.trans t'

/-- the same, of a list that will change -/
theorem AE.compM {elt target iter : Expr} {ifs : List Expr} {scope : Scope} {epos : Pos} {K : D → Mu → Prop} (out : D → List D)
    (src : IS G n env W target iter ρ μ fun items μ₁ => CT G n env scope Wc ρc target elt ifs out items μ₁ ∧ ∀ a, K (.val (.ref a)) ((a, items.flatMap out) :: μ₁))
    (hfv : FvOk scope env ρ ρc) (hW : ∀ x ∈ Wc, scope.names.lookup x = some .local ∨ scope.names.lookup x = some .cell)
    (hnames : ∀ x ∈ scope.names, x.2 = .local → scope.names.lookup x.1 = some .local)
    (hfree : (scope.names.all fun p => !(p.2 == .free) || (env.cells.lookup p.1).isSome) = true := by rfl)
    (hs : ∀ x, foldedSetIterable iter env x = pure x := by intro _; rfl) (hk : scope.kind = .function := by rfl) : AE G n env W (.ListComp elt [⟨target, iter, ifs, 0⟩] scope epos) ρ μ K := fun A s rm M F => by
  rw [eval_ListComp]
  refine comp_core (use := none) src rm M F (fun C I acc => ⟨_, compTurn_list elt target iter ifs scope epos _ _ _⟩) hs hfree hk hnames hfv hW (fun items μ₁ sk C acc i d os hd ho => sk.1.turn (iter := iter) C acc i d os hd ho) fun items μ₁ C acc s' sk M' ⟨m, hm⟩ hb t => ?_
  refine ⟨m, hm, fun h' hs' => ?_⟩
  have hn := NotSeq.of_ns hm
  have hc := t.new C (.head _)
  refine ⟨_, _, sk.2 acc, .val _, M'.off2 hs' hn hb M hc, ?_⟩
  have t' : Tr (C :: keys ((acc, items.flatMap out) :: μ₁)) (keys ((acc, items.flatMap out) :: μ₁)) s' { s' with heap := h' } := ⟨h', s'.toks, rfl, .of_sameBut hs' (.head _), fun a ha => .inl (.tail _ ha)⟩
  exact t.trans t'

/-- a comprehension stored under a plain local of the frame -/
theorem S1.comp {elt target iter : Expr} {ifs : List Expr} {scope : Scope} {epos : Pos} {x : Str} {p' pos : Pos} {K : FD → Rho → Mu → Prop} (out : D → List D)
    (src : IS G n env W target iter ρ μ fun items μ₁ => CT G n env scope Wc ρc target elt ifs out items μ₁ ∧ K .next ((x, .list (items.flatMap out)) :: ρ) μ₁)
    (hfv : FvOk scope env ρ ρc) (hW : ∀ x ∈ Wc, scope.names.lookup x = some .local ∨ scope.names.lookup x = some .cell)
    (hnames : ∀ x ∈ scope.names, x.2 = .local → scope.names.lookup x.1 = some .local)
    (hfree : (scope.names.all fun p => !(p.2 == .free) || (env.cells.lookup p.1).isSome) = true := by rfl)
    (hs : ∀ x, foldedSetIterable iter env x = pure x := by intro _; rfl) (hk : scope.kind = .function := by rfl) (hx : x ∈ W := by decide)
    (hsw : swapsWith (.ListComp elt [⟨target, iter, ifs, 0⟩] scope epos) (some (.Name x p')) pos.line env = pure true := by rfl) : S1 G n env W (.Assign [.Name x p'] (.ListComp elt [⟨target, iter, ifs, 0⟩] scope epos) pos) ρ μ K := fun A s rm M F => by
  rw [exec_Assign_Name_used x p' _ pos hsw]
  refine wpAny_bind (wpAny_standAt ?_)
  show wpAny _ _ ((comprehension (.ListComp elt [⟨target, iter, ifs, 0⟩] scope epos) scope env iter.pos (newList []) false (eval iter env) (some (PySem.assign (.Name x p') env)) >>= fun _ => (pure () : Sem Unit)) >>= fun _ => (pure Flow.next : Sem Flow)) _ _ s
  refine wpAny_bind (wpAny_bind (comp_core (use := some (PySem.assign (.Name x p') env)) src rm M F (fun C I acc => ⟨_, compTurn_list elt target iter ifs scope epos _ _ _⟩) hs hfree hk hnames hfv hW (fun items μ₁ sk C acc i d os hd ho => sk.1.turn (iter := iter) C acc i d os hd ho) fun items μ₁ C acc s' sk M' ⟨m, hm⟩ hb t => ?_))
  have hn := NotSeq.of_ns hm
  have hc := t.new C (.head _)
  obtain ⟨M₃, r₃⟩ := M'.less
  have t₃ : Tr (keys μ) (keys μ₁) s s' := by
    obtain ⟨h', tk', e, kx, nn⟩ := t
    exact ⟨h', tk', e, kx, fun a ha => nn a (.tail _ (.tail _ ha))⟩
  have F₃ := F.tr M t₃
  refine PyProof.Rows.assign_Name (store M₃ F₃ hx r₃ fun s₄ M₄ F₄ t₄ mv => ?_)
  have nl : env.locals ≠ C := by
    obtain ⟨m₁, hm₁⟩ := F.ns
    exact not_live M hc (.of_ns hm₁) (by obtain ⟨o, _, _, ho, _⟩ := hm₁; exact live_of ho)
  have nc : ∀ y c, env.cells.lookup y = some c → c ≠ C := fun y c hyc => by
    obtain ⟨v, hv⟩ := F.cel y c hyc
    exact not_live M hc (.of_cell hv) (by obtain ⟨o, ho, _⟩ := hv; exact live_of ho)
  have hCo : C ∉ ownA env W := fun q => by
    rcases List.mem_cons.mp q with q | q
    · exact nl q.symm
    · obtain ⟨y, hy, e⟩ := List.mem_filterMap.mp q
      split at e
      · exact nc y C e rfl
      · cases e
  have hCk : C ∉ keys μ₁ := fun q => M₃.notSeq q hn
  have hm₄ : ∃ m, s₄.heap.Ns C m := ⟨m, ns_keep t₄.kx (fun q => (List.mem_append.mp q).elim hCo hCk) hm⟩
  obtain ⟨m₄, hm₄⟩ := hm₄
  have hn₄ := NotSeq.of_ns hm₄
  refine ⟨m₄, hm₄, fun h' hs' => wpAny_pure (wpAny_pure ⟨_, _, μ₁, sk.2, .next, M₄.off2 hs' hn₄ hb M hc, F₄.off1 hs' hn₄ nl nc, ?_⟩)⟩
  have ta : Tr (keys μ) (C :: keys μ₁) s s' := by
    obtain ⟨h', tk', e, kx, nn⟩ := t
    refine ⟨h', tk', e, kx, fun a ha => nn a ?_⟩
    rcases List.mem_cons.mp ha with q | q
    · rw [q]; exact .head _
    · exact .tail _ (.tail _ q)
  have tb : Tr (ownA env W ++ keys μ) (C :: (ownA env W ++ keys μ₁)) s s' := by
    obtain ⟨h', tk', e, kx, nn⟩ := ta
    refine ⟨h', tk', e, kx.weaken fun a ha => List.mem_append_right _ ha, fun a ha => ?_⟩
    rcases List.mem_cons.mp ha with q | q
    · rw [q]; exact (nn C (.head _)).imp (fun z => List.mem_append_right _ z) id
    · rcases List.mem_append.mp q with q | q
      · exact .inl (List.mem_append_left _ q)
      · exact (nn a (.tail _ q)).imp (fun z => List.mem_append_right _ z) id
  have tc : Tr (C :: (ownA env W ++ keys μ₁)) (C :: (ownA env W ++ keys μ₁)) s' s₄ := by
    obtain ⟨h', tk', e, kx, nn⟩ := t₄
    exact ⟨h', tk', e, kx.weaken fun a ha => .tail _ ha, fun a ha => .inl ha⟩
  have td : Tr (C :: (ownA env W ++ keys μ₁)) (ownA env W ++ keys μ₁) s₄ { s₄ with heap := h' } := ⟨h', s₄.toks, rfl, .of_sameBut hs' (.head _), fun a ha => .inl (.tail _ ha)⟩
  exact (tb.trans tc).trans td
end
end Mine

namespace Mine
open PySem PySem.Calls PyProof.Rows

inductive GoOk : Expr → Prop
  | name (x : Str) (p : Pos) : GoOk (.Name x p)
  | tuple (es : List Expr) (k : Nat) (p : Pos) : GoOk (.Tuple es k p)
theorem go_list {M : Model} {prog : Program} {w : World} {A : Around} {E : Value → Shared → Prop} {s : Shared} {target : Expr} {I l : Addr} {i : Nat} {v : Value} {Q : Unit → Shared → Prop} (g : GoOk target) (hit : s.heap.IsListIter I l i) (h : Q () s) :
    wpAny (model prog w) A (letOwnedTupleGo target (.ref I) v) Q E s := by
  cases g with
  | name x p => exact wpAny_pure h
  | tuple es k p => cases v <;> first | exact wpAny_letOwnedTupleGo_listiter hit h | exact wpAny_pure h

section
variable {G : Gx} {n : Nat} {env : Env} {W : List Str} {ρ : Rho} {μ : Mu}

theorem IS.list {target iter : Expr} {K : List D → Mu → Prop} (h : AE G n env W iter ρ μ fun d μ₁ => ∃ items, d = .list items ∧ K items μ₁) (g : GoOk target) : IS G n env W target iter ρ μ K := fun A s rm M F => by
  refine h.go rm M F fun d μ₁ v s₁ ⟨items, hd, k⟩ r M₁ F₁ t₁ => ?_
  subst hd
  obtain ⟨a, vs, rfl, hn, hl, rs⟩ := r.listD
  ·
    refine wpAny_pyIter_list hl.isList ?_
    have hk : ∀ b o, s₁.heap.get? b = some o → (s₁.heap.push { cls := .type "list_iterator", data := .fields #[.ref a, .int 0 0] }).get? b = some o := fun b o e => Heap.get?_push_of_some _ e
    have hne : a ≠ s₁.heap.objs.size := by obtain ⟨_, e⟩ := hl; exact Nat.ne_of_lt (Heap.lt_size e)
    have kx : KX [] s₁.heap (s₁.heap.push { cls := .type "list_iterator", data := .fields #[.ref a, .int 0 0] }) := .of_keep hk
    have rs' := rs.move kx mem_nil_off fun _ z => .inl z
    have W := Walks.list (prog := PySem.Challenge.rw_oy0054_01.row.prog) (w := G.w) (A := A) rm.1 s₁.heap.objs.size a hne vs.toArray
    have hlen : vs.toArray.size = items.length := by rw [List.size_toArray, rs.length]
    rw [hlen] at W
    refine ⟨items, μ₁, s₁.heap.objs.size, _, _, _, _, _, k, rfl, M₁.keep hk, t₁.trans (.keep hk), ⟨PySem.W.KTurns.ofWalks W (fun i v s Q E st q => go_list (M := Mo G.w) g st.1 q), W.self, ?_, ?_, ?_, ?_, ?_, ?_⟩, ?_⟩
    · exact ⟨⟨_, Heap.get?_push_size _ rfl, rfl, rfl⟩, (isL_keep kx List.not_mem_nil hl).isList⟩
    · intro b hb
      have hd := M₁.dead (dead_size s₁.heap)
      rcases List.mem_cons.mp hb with q | q
      · rw [q]; exact ⟨live_of (Heap.get?_push_size _ rfl), hd.1⟩
      · rcases List.mem_cons.mp q with q | q
        · rw [q]; exact ⟨(isL_keep kx List.not_mem_nil hl).live, hn⟩
        · cases q
    · intro i h' st b hb o ho
      rcases List.mem_cons.mp hb with q | q
      · subst q; obtain ⟨o', e, _, hd⟩ := st.1; rw [ho] at e; cases e; first | exact kind_fields hd | exact kind_seq hd
      · rcases List.mem_cons.mp q with q | q
        · subst q; obtain ⟨o', e, _, n', hd⟩ := st.2; rw [ho] at e; cases e; first | exact kind_fields hd | exact kind_seq hd
        · cases q
    · intro i h' st b hb o ho
      rcases List.mem_cons.mp hb with q | q
      · subst q; obtain ⟨o', e, _, hd⟩ := st.1; rw [ho] at e; cases e; exact fields_notSeq hd
      · cases q
    · intro i v h' st b hb
      have : ∀ o, h'.get? b = some o → ∃ vs, o.data = .fields vs := fun o ho => by
        rcases List.mem_cons.mp hb with q | q
        · subst q; obtain ⟨o', e, _, hd⟩ := st.2.1; rw [ho] at e; cases e; exact ⟨_, hd⟩
        · cases q
      exact ⟨fun o ho vs n => by obtain ⟨_, e⟩ := this o ho; exact fields_notSeq e _ _, fun o ho => by obtain ⟨_, e⟩ := this o ho; exact kind_fields e⟩
    · intro i v h' d hP hd
      obtain ⟨u, hu, ru⟩ := rs'.get i d hd
      have hP' : vs.toArray[i]? = some v := hP
      rw [List.getElem?_toArray, hu] at hP'; cases hP'
      exact ru
    · intro b hb
      rcases List.mem_cons.mp hb with q | q
      · subst q
        by_cases hk : s₁.heap.objs.size ∈ keys μ
        · exact .inl hk
        · exact .inr (t₁.kx.dead hk (dead_size _))
      · cases q

/-- a call of one argument, whatever the argument -/
theorem call1 {f : Value} {x : Str} {np pos : Pos} {e : Expr} {A : Around} {s : Shared} {Q : Value → Shared → Prop} (g : GVal G x f) (hf : (∃ id, f = .builtin id) ∨ ∃ T, f = .type T) (M : MuOk A G.B μ s.heap) (F : FrOk G.B env W ρ (keys μ) s.heap)
    (h : wpAny (Mo G.w) A (eval e env) (fun v s₁ => wpAny (Mo G.w) A (call f [v]) Q (fun _ _ => False) s₁) (fun _ _ => False) s)
    (hs : starEach [e] env = [(false, eval e env)] := by rfl) (hk : env.kindOf x = some .globalImplicit := by rfl) (hd : (x == ("__debug__" : Str)) = false := by decide) : wpAny (Mo G.w) A (eval (.Call (.Name x np) [e] [] pos) env) Q (fun _ _ => False) s := by
  refine Call_ (Name_function_global F.kind hk (g _ _ _ _ _ _ F.gl F.bu M.base ?_) hd)
  have a : wpAny (Mo G.w) A (spliced (backTo pos (starEach [e] env))) (fun vs s₁ => wpAny (Mo G.w) A (call f vs) Q (fun _ _ => False) s₁) (fun _ _ => False) s := by
    rw [hs]; exact Calls.spliced_cons (wpAny_mono h (fun v s₁ q => Calls.spliced_nil q) fun _ _ z => z)
  rcases hf with ⟨id, rfl⟩ | ⟨T, rfl⟩
  · exact callWith_builtin1 (rest := []) a hs rfl
  · rw [hs] at a ⊢
    exact PySem.callWith_type rfl (evalArgs_plain a)

/-- range iterators -/
theorem it_range {A : Around} {target : Expr} {s : Shared} {I : Addr} {a c : Int} {k : Nat} {M' : MuOk A G.B μ s.heap} (rm : Rm n A) (g : ∀ v, letOwnedTupleGo target (.ref I) v = pure ()) (hI : IsRangeIter s.heap I a k c) (hk : I ∉ keys μ) :
    ItOk G A target I [I] [I] (fun i v _ => ∃ t, v = .int (a + i * c) t) (fun i v h => (∃ t, v = .int (a + i * c) t) ∧ IsRangeIter h I (a + ((i + 1 : Nat) : Int) * c) ((k : Int) - ((i + 1 : Nat) : Int)) c) (fun i h => IsRangeIter h I (a + (i : Nat) * c) ((k : Int) - (i : Nat)) c) μ s.heap
      ((List.range k).map fun i : Nat => .int (a + i * c)) := by
  have W := Walks.range (prog := PySem.Challenge.rw_oy0054_01.row.prog) (w := G.w) (A := A) rm.1 I a c k
  have hlen : k = ((List.range k).map fun i : Nat => D.int (a + i * c)).length := by simp
  refine ⟨?_, W.self, by simpa using hI, ?_, ?_, ?_, ?_, ?_⟩
  · rw [← hlen]
    exact PySem.W.KTurns.ofWalks W fun i v s Q E st q => by rw [g v]; exact wpAny_pure q
  · intro b hb
    rcases List.mem_cons.mp hb with q | q
    · rw [q]; exact ⟨live_of (hI), hk⟩
    · cases q
  · intro i h' st b hb o ho
    rcases List.mem_cons.mp hb with q | q
    · subst q; rw [show h'.get? b = _ from st] at ho; cases ho; exact ⟨fun _ _ q => Data.noConfusion q, fun _ q => Data.noConfusion q⟩
    · cases q
  · intro i h' st b hb o ho
    rcases List.mem_cons.mp hb with q | q
    · subst q; rw [show h'.get? b = _ from st] at ho; cases ho; exact fun _ _ q => Data.noConfusion q
    · cases q
  · intro i v h' st b hb
    rcases List.mem_cons.mp hb with q | q
    · subst q
      exact ⟨fun o ho vs n => by rw [show h'.get? b = _ from st.2] at ho; cases ho; exact fun q => Data.noConfusion q, fun o ho => by rw [show h'.get? b = _ from st.2] at ho; cases ho; exact ⟨fun _ _ q => Data.noConfusion q, fun _ q => Data.noConfusion q⟩⟩
    · cases q
  · intro i v h' d hP hd
    obtain ⟨t, rfl⟩ := hP
    rw [List.getElem?_map] at hd
    cases hr : (List.range k)[i]? with
    | none => rw [hr] at hd; cases hd
    | some j =>
      rw [hr] at hd
      have : j = i := by
        have := List.getElem?_eq_some_iff.mp hr
        obtain ⟨h1, h2⟩ := this
        simpa using h2.symm
      subst this
      cases hd
      exact .int _ _

theorem IS.range {e : Expr} {y : Str} {tp np pos : Pos} {K : List D → Mu → Prop} (gr : GVal G "range" (.type "range"))
    (h : AE G n env W e ρ μ fun d μ₁ => ∃ k : Nat, d = .int k ∧ k < 2 ^ 60 ∧ K ((List.range k).map fun i : Nat => .int i) μ₁)
    (hs : starEach [e] env = [(false, eval e env)] := by rfl) (hk : env.kindOf "range" = some .globalImplicit := by rfl) :
    IS G n env W (.Name y tp) (.Call (.Name "range" np) [e] [] pos) ρ μ K := fun A s rm M F => by
  refine call1 gr (.inr ⟨_, rfl⟩) M F (h.go rm M F fun d μ₁ v s₁ ⟨k, hd, hlt, kk⟩ r M₁ F₁ t₁ => ?_) hs hk
  subst hd
  obtain ⟨t, rfl⟩ := r.intD
  ·
    refine call_range_1 ?_
    have hk₁ : ∀ b o, s₁.heap.get? b = some o → (s₁.heap.push { cls := .type "range", data := .fields #[.int 0 s₁.toks, .int (k : Int) t, .int 1 (s₁.toks + 1)] }).get? b = some o := fun b o e => Heap.get?_push_of_some _ e
    have hsz : Builtin.Range.rangeSize 0 (k : Int) 1 = (k : Int) := by rw [rangeSize_one]; split <;> omega
    refine wpAny_pyIter_range (a := 0) (b := k) (c := 1) (Heap.get?_push_size _ rfl) (small_one (by omega) (by omega) (by omega) (by omega)) ?_
    generalize hH : s₁.heap.push { cls := .type "range", data := .fields #[.int 0 s₁.toks, .int (k : Int) t, .int 1 (s₁.toks + 1)] } = H at *
    rw [hsz]
    have hk₂ : ∀ b o, H.get? b = some o → (H.push { cls := .type "range_iterator", data := .fields #[rawInt 0, rawInt (k : Int), rawInt 1] }).get? b = some o := fun b o e => Heap.get?_push_of_some _ e
    have M₂ := (M₁.keep hk₁).keep hk₂
    have hdead : s₁.heap.get? H.objs.size = none := by
      cases q : s₁.heap.get? H.objs.size with
      | none => rfl
      | some o => have := hk₁ _ _ q; rw [dead_size] at this; cases this
    have it := it_range (G := G) (n := n) (μ := μ₁) (target := .Name y tp) (s := { s₁ with heap := H.push { cls := .type "range_iterator", data := .fields #[rawInt 0, rawInt (k : Int), rawInt 1] }, toks := s₁.toks + 1 + 1 }) (I := H.objs.size) (a := 0) (c := 1) (k := k) (M' := M₂) rm (fun _ => rfl) (Heap.get?_push_size _ rfl) (M₁.dead hdead).1
    have e : ((List.range k).map fun i : Nat => D.int (0 + i * 1)) = (List.range k).map fun i : Nat => D.int i := by simp
    rw [e] at it
    refine ⟨_, μ₁, _, _, _, _, _, _, kk, rfl, M₂, t₁.trans (Tr.keep (fun b o q => hk₂ b o (hk₁ b o q))), it, fun b hb => ?_⟩
    rcases List.mem_cons.mp hb with q | q
    · subst q
      by_cases hk : H.objs.size ∈ keys μ
      · exact .inl hk
      · exact .inr (t₁.kx.dead hk hdead)
    · cases q
end
end Mine

namespace Mine
open PySem PySem.Calls PyProof.Rows

section
variable {G : Gx} {n : Nat} {env : Env} {W : List Str} {ρ : Rho} {μ : Mu} {K : D → Mu → Prop} {a b : Int}
/-- two ints that yield an int, a new number -/
theorem V2.iiI {t : Value → Value → Sem Value} {c : Int} (h : K (.int c) μ)
    (op : ∀ (A : Around) (s : Shared) (x y : Tok) (E : Value → Shared → Prop) (Q : Value → Shared → Prop), Q (.int c s.toks) { s with toks := s.toks + 1 } → wpAny (Mo G.w) A (t (.int a x) (.int b y)) Q E s) : V2 G n t (.int a) (.int b) μ K := fun A s v u rm M rv ru => by
  (first | obtain ⟨_, rfl⟩ := rv.intD | obtain ⟨_, rfl⟩ := rv.bytesD | obtain ⟨_, rfl⟩ := rv.strD | obtain rfl := rv.boolD | obtain rfl := rv.valD | obtain rfl := rv.noneD | cases rv); (first | obtain ⟨_, rfl⟩ := ru.intD | obtain ⟨_, rfl⟩ := ru.bytesD | obtain ⟨_, rfl⟩ := ru.strD | obtain rfl := ru.boolD | obtain rfl := ru.valD | obtain rfl := ru.noneD | cases ru); exact op _ _ _ _ _ _ ⟨_, μ, h, .int _ _, M, .tok ..⟩
/-- two ints that yield a truth -/
theorem V2.iiB {t : Value → Value → Sem Value} {c : Bool} (h : K (.bool c) μ)
    (op : ∀ (A : Around) (s : Shared) (x y : Tok) (E : Value → Shared → Prop) (Q : Value → Shared → Prop), Q (.bool c) s → wpAny (Mo G.w) A (t (.int a x) (.int b y)) Q E s) : V2 G n t (.int a) (.int b) μ K := fun A s v u rm M rv ru => by
  (first | obtain ⟨_, rfl⟩ := rv.intD | obtain ⟨_, rfl⟩ := rv.bytesD | obtain ⟨_, rfl⟩ := rv.strD | obtain rfl := rv.boolD | obtain rfl := rv.valD | obtain rfl := rv.noneD | cases rv); (first | obtain ⟨_, rfl⟩ := ru.intD | obtain ⟨_, rfl⟩ := ru.bytesD | obtain ⟨_, rfl⟩ := ru.strD | obtain rfl := ru.boolD | obtain rfl := ru.valD | obtain rfl := ru.noneD | cases ru); exact op _ _ _ _ _ _ ⟨_, μ, h, .bool _, M, .refl ..⟩
theorem V2.add (h : K (.int (a + b)) μ) : V2 G n (binaryOp .Add) (.int a) (.int b) μ K := V2.iiI h fun _ _ _ _ _ _ q => PyProof.Rows.add_int q
theorem V2.iadd (h : K (.int (a + b)) μ) : V2 G n (inplaceOp .Add) (.int a) (.int b) μ K := V2.iiI h fun _ _ _ _ _ _ q => PyProof.Rows.iadd_int q
theorem V2.sub (h : K (.int (a - b)) μ) : V2 G n (binaryOp .Sub) (.int a) (.int b) μ K := V2.iiI h fun _ _ _ _ _ _ q => PyProof.Rows.sub_int q
theorem V2.mul2 (h : K (.int (2 * b)) μ) : V2 G n (binaryOp .Mult) (.int 2) (.int b) μ K := V2.iiI h fun _ _ _ _ _ _ q => PyProof.Rows.mul_int q (IntMulOk.of_left (by decide))
theorem V2.mod (hb : 0 < b) (h : K (.int (a % b)) μ) : V2 G n (binaryOp .Mod) (.int a) (.int b) μ K := V2.iiI h fun _ _ _ _ _ _ q =>
  PyProof.Rows.mod_int (by omega) (by rw [Int.fmod_eq_emod_of_nonneg _ (by omega)]; exact q)
theorem V2.fdiv (hb : 0 < b) (hl : b.natAbs.log2 < 9000) (h : K (.int (a / b)) μ) : V2 G n (binaryOp .FloorDiv) (.int a) (.int b) μ K := V2.iiI h fun _ _ _ _ _ _ q =>
  PyProof.Rows.floordiv_int (by omega) (by rw [Int.fdiv_eq_ediv_of_nonneg _ (by omega)]; exact q) (.inl (PyProof.noPylong_of_log2 hl))
theorem V2.pow16 {k : Nat} (hk : k < 1000) (h : K (.int (16 ^ k)) μ) : V2 G n (binaryOp .Pow) (.int 16) (.int k) μ K := V2.iiI h fun _ _ _ _ _ _ q => by
  refine PyProof.Rows.pow_int (by omega) ?_ ?_
  · have : Builtin.Int.intBits 16 = 5 := by decide
    rw [this]; omega
  · simpa using q
theorem V2.pow2 (h : K (.int (2 ^ 40)) μ) : V2 G n (binaryOp .Pow) (.int 2) (.int 40) μ K := V2.iiI h fun _ _ _ _ _ _ q => PyProof.Rows.pow_int (by decide) (by decide) q
theorem V2.shr1 (h0 : 0 ≤ a) (h : K (.int (a / 2)) μ) : V2 G n (binaryOp .RShift) (.int a) (.int 1) μ K := V2.iiI h fun _ _ _ _ _ _ q => wpAny_rshift1_int h0 q
theorem V2.lt (h : K (.bool (decide (a < b))) μ) : V2 G n (compareOp .Lt) (.int a) (.int b) μ K := V2.iiB h fun _ _ _ _ _ _ q => PyProof.Rows.lt_int q
theorem V2.gt (h : K (.bool (decide (b < a))) μ) : V2 G n (compareOp .Gt) (.int a) (.int b) μ K := V2.iiB h fun _ _ _ _ _ _ q => PyProof.Rows.gt_int q
theorem V2.eq (h : K (.bool (decide (a = b))) μ) : V2 G n (compareOp .Eq) (.int a) (.int b) μ K := V2.iiB h fun _ _ _ _ _ _ q => PyProof.Rows.eq_int q
theorem V2.ne (h : K (.bool (decide (a ≠ b))) μ) : V2 G n (compareOp .NotEq) (.int a) (.int b) μ K := V2.iiB h fun _ _ _ _ _ _ q => by
  refine PyProof.Rows.ne_int ?_
  have : (a != b) = decide (a ≠ b) := by by_cases q : a = b <;> simp [q]
  rw [this]; exact q
theorem V2.bsub {p q : Bool} (h : K (.int ((if p then 1 else 0) - (if q then 1 else 0))) μ) : V2 G n (binaryOp .Sub) (.bool p) (.bool q) μ K := fun A s v u rm M rv ru => by
  (first | obtain ⟨_, rfl⟩ := rv.intD | obtain ⟨_, rfl⟩ := rv.bytesD | obtain ⟨_, rfl⟩ := rv.strD | obtain rfl := rv.boolD | obtain rfl := rv.valD | obtain rfl := rv.noneD | cases rv); (first | obtain ⟨_, rfl⟩ := ru.intD | obtain ⟨_, rfl⟩ := ru.bytesD | obtain ⟨_, rfl⟩ := ru.strD | obtain rfl := ru.boolD | obtain rfl := ru.valD | obtain rfl := ru.noneD | cases ru)
  refine PyProof.Rows.sub_bool ⟨_, μ, ?_, .int _ _, M, .tok ..⟩
  cases p <;> cases q <;> exact h
/-- two bytes -/
theorem V2.bb {t : Value → Value → Sem Value} {x y : List UInt8} (op : ∀ (A : Around) (s : Shared) (p q : Tok), MuOk A G.B μ s.heap → wpAny (Mo G.w) A (t (.bytes x.toArray p) (.bytes y.toArray q)) (PV Rep G.B A (keys μ) s K) (fun _ _ => False) s) :
    V2 G n t (.bytes x) (.bytes y) μ K := fun A s v u rm M rv ru => by
  (first | obtain ⟨_, rfl⟩ := rv.intD | obtain ⟨_, rfl⟩ := rv.bytesD | obtain ⟨_, rfl⟩ := rv.strD | obtain rfl := rv.boolD | obtain rfl := rv.valD | obtain rfl := rv.noneD | cases rv); (first | obtain ⟨_, rfl⟩ := ru.intD | obtain ⟨_, rfl⟩ := ru.bytesD | obtain ⟨_, rfl⟩ := ru.strD | obtain rfl := ru.boolD | obtain rfl := ru.valD | obtain rfl := ru.noneD | cases ru); exact op _ _ _ _ M
theorem V2.badd {x y : List UInt8} (hz : x.length + y.length ≤ 16777216) (h : K (.bytes (x ++ y)) μ) : V2 G n (binaryOp .Add) (.bytes x) (.bytes y) μ K := V2.bb fun A s p q M =>
  PySem.W.bytes_add_K (by simpa using hz) rfl fun t' k => ⟨_, μ, h, .bytes _ _, M, .tok ..⟩
theorem V2.beq {x y : List UInt8} (h : K (.bool (decide (x = y))) μ) : V2 G n (compareOp .Eq) (.bytes x) (.bytes y) μ K := V2.bb fun A s p q M => by
  refine PySem.W.eq_bytes ⟨_, μ, ?_, .bool _, M, .refl ..⟩
  have : (x.toArray.toList == y.toArray.toList) = decide (x = y) := by
    by_cases q : x = y <;> simp [q]
  rw [this]; exact h
/-- two lists, joined in a new one -/
theorem V2.ladd {xs ys : List D} (hz : xs.length + ys.length ≤ sizeLine) (h : K (.list (xs ++ ys)) μ) : V2 G n (binaryOp .Add) (.list xs) (.list ys) μ K := fun A s v u rm M rv ru => by
  obtain ⟨a, vs, rfl, hn, hl, rs⟩ := rv.listD
  ·
    obtain ⟨b, ws, rfl, hn', hl', rs'⟩ := ru.listD
    ·
      obtain ⟨k, e⟩ := hl
      obtain ⟨k', e'⟩ := hl'
      have hk : ∀ b o, s.heap.get? b = some o → (s.heap.push { cls := .type "list", data := .seq (vs.toArray ++ ws.toArray) }).get? b = some o := fun b o e => Heap.get?_push_of_some _ e
      have kx : KX [] s.heap (s.heap.push { cls := .type "list", data := .seq (vs.toArray ++ ws.toArray) }) := .of_keep hk
      refine PySem.P.add_list e e' ⟨_, μ, h, .list (M.dead (dead_size _)).1 (vs := vs ++ ws) ⟨0, ?_⟩ ((rs.append rs').move kx mem_nil_off fun _ z => .inl z), M.keep hk, .keep hk⟩ ?_
      · rw [Heap.get?_push_size _ rfl]; simp
      · rw [List.size_toArray, List.size_toArray, rs.length, rs'.length]; exact hz

theorem Vn.abs (h : K (.int a.natAbs) μ) : Vn G n (fun vs => call (.builtin "abs") vs) [.int a] μ K := fun A s vs rm M rs => by
  have e : (if a < 0 then -a else a) = (a.natAbs : Int) := by split <;> omega
  obtain ⟨_, _, rfl, r, rs⟩ := rs.consD
  obtain rfl := rs.nilD
  obtain ⟨_, rfl⟩ := r.intD
  exact call_abs_int fun u tk => ⟨_, μ, (by rw [e]; exact h), .int _ _, M, .tok ..⟩
theorem Vn.int (h : K (.int a) μ) : Vn G n (fun vs => call (.type "int") vs) [.int a] μ K := fun A s vs rm M rs => by
  cases rs with
  | cons r rs => cases rs; (first | obtain ⟨_, rfl⟩ := r.intD | obtain ⟨_, rfl⟩ := r.bytesD | obtain ⟨_, rfl⟩ := r.strD | obtain rfl := r.boolD | obtain rfl := r.valD | obtain rfl := r.noneD | cases r); exact call_int_int ⟨_, μ, h, .int _ _, M, .refl ..⟩
theorem Vn.divmod (hb : 0 < b) (hl : b.natAbs.log2 < 9000) (h : K (.tuple [.int (a / b), .int (a % b)]) μ) : Vn G n (fun vs => call (.builtin "divmod") vs) [.int a, .int b] μ K := fun A s vs rm M rs => by
  cases rs with
  | cons r rs =>
    cases rs with
    | cons r' rs =>
      cases rs; (first | obtain ⟨_, rfl⟩ := r.intD | obtain ⟨_, rfl⟩ := r.bytesD | obtain ⟨_, rfl⟩ := r.strD | obtain rfl := r.boolD | obtain rfl := r.valD | obtain rfl := r.noneD | cases r); (first | obtain ⟨_, rfl⟩ := r'.intD | obtain ⟨_, rfl⟩ := r'.bytesD | obtain ⟨_, rfl⟩ := r'.strD | obtain rfl := r'.boolD | obtain rfl := r'.valD | obtain rfl := r'.noneD | cases r')
      rename_i t u
      have hk : ∀ c o, s.heap.get? c = some o → (s.heap.push { cls := .type "tuple", data := .seq #[.int (a.fdiv b) s.toks, .int (a.fmod b) (s.toks + 1)] }).get? c = some o := fun c o e => Heap.get?_push_of_some _ e
      refine divmod_int (by omega) ⟨.tuple [.int (a / b), .int (a % b)], μ, h, .tuple (M.dead (dead_size _)).1 (vs := [.int (a.fdiv b) s.toks, .int (a.fmod b) (s.toks + 1)]) (.new 0 (Heap.get?_push_size _ rfl)) (.cons ?_ (.cons ?_ .nil)), M.keep hk, .keep hk⟩ (.inl (PyProof.noPylong_of_log2 hl))
      · rw [Int.fdiv_eq_ediv_of_nonneg _ (by omega)]; exact .int _ _
      · rw [Int.fmod_eq_emod_of_nonneg _ (by omega)]; exact .int _ _
theorem Vn.lenL {ds : List D} (hz : ds.length < 2 ^ 60) (h : K (.int ds.length) μ) : Vn G n (fun vs => call (.builtin "len") vs) [.list ds] μ K := fun A s vs rm M rs => by
  cases rs with
  | cons r rs =>
    cases rs
    obtain ⟨a, vs, rfl, hn, hl, rs⟩ := r.listD
    ·
      have := rs.length
      refine len_list hl.isList (by simp; omega) ⟨.int ds.length, μ, h, ?_, M, .tok ..⟩
      rw [List.size_toArray, this]; exact .int _ _
theorem Vn.lenM {ds : List D} {c : Addr} (hm : (c, ds) ∈ μ) (hz : ds.length < 2 ^ 60) (h : K (.int ds.length) μ) : Vn G n (fun vs => call (.builtin "len") vs) [.val (.ref c)] μ K := fun A s vs rm M rs => by
  cases rs with
  | cons r rs =>
    cases rs
    (first | obtain ⟨_, rfl⟩ := r.intD | obtain ⟨_, rfl⟩ := r.bytesD | obtain ⟨_, rfl⟩ := r.strD | obtain rfl := r.boolD | obtain rfl := r.valD | obtain rfl := r.noneD | cases r)
    obtain ⟨vs, hl, rs⟩ := M.mus _ hm
    have : vs.length = ds.length := rs.length
    refine len_list hl.isList (by simp; omega) ⟨.int ds.length, μ, h, ?_, M, .tok ..⟩
    rw [List.size_toArray, this]; exact .int _ _
theorem Vn.lenB {l : List UInt8} (hz : l.length ≤ 1099511627776) (h : K (.int l.length) μ) : Vn G n (fun vs => call (.builtin "len") vs) [.bytes l] μ K := fun A s vs rm M rs => by
  cases rs with
  | cons r rs =>
    cases rs; (first | obtain ⟨_, rfl⟩ := r.intD | obtain ⟨_, rfl⟩ := r.bytesD | obtain ⟨_, rfl⟩ := r.strD | obtain rfl := r.boolD | obtain rfl := r.valD | obtain rfl := r.noneD | cases r)
    refine PySem.W.len_bytes (by simpa using hz) ⟨.int l.length, μ, h, ?_, M, .tok ..⟩
    rw [List.size_toArray]; exact .int _ _

/-- truth -/
theorem AT.int {e : Expr} {K : Bool → Mu → Prop} (h : AE G n env W e ρ μ fun d μ₁ => ∃ i : Int, d = .int i ∧ K (decide (i ≠ 0)) μ₁)
    (he : ∀ whole, isTrue e env whole = (do let v ← whole; standAt e.pos; holding [v] (truthy v)) := by intro _; rfl) : AT G n env W e ρ μ K :=
  AT.plain (h.mono fun d μ₁ ⟨i, hd, k⟩ A s v rm M r => by
    subst hd; (first | obtain ⟨_, rfl⟩ := r.intD | obtain ⟨_, rfl⟩ := r.bytesD | obtain ⟨_, rfl⟩ := r.strD | obtain rfl := r.boolD | obtain rfl := r.valD | obtain rfl := r.noneD | cases r)
    refine PyProof.Rows.truthy_int ⟨μ₁, ?_, M, .refl ..⟩
    have : (i != 0) = decide (i ≠ 0) := by by_cases q : i = 0 <;> simp [q]
    rw [this]; exact k) he
theorem AT.lst {e : Expr} {K : Bool → Mu → Prop} (h : AE G n env W e ρ μ fun d μ₁ => ∃ c ds, d = .val (.ref c) ∧ (c, ds) ∈ μ₁ ∧ ds.length < 2 ^ 60 ∧ K (decide (ds ≠ [])) μ₁)
    (he : ∀ whole, isTrue e env whole = (do let v ← whole; standAt e.pos; holding [v] (truthy v)) := by intro _; rfl) : AT G n env W e ρ μ K :=
  AT.plain (h.mono fun d μ₁ ⟨c, ds, hd, hm, hz, k⟩ A s v rm M r => by
    subst hd; (first | obtain ⟨_, rfl⟩ := r.intD | obtain ⟨_, rfl⟩ := r.bytesD | obtain ⟨_, rfl⟩ := r.strD | obtain rfl := r.boolD | obtain rfl := r.valD | obtain rfl := r.noneD | cases r)
    obtain ⟨vs, hl, rs⟩ := M.mus _ hm
    have hlen : vs.length = ds.length := rs.length
    refine wpAny_truthy_list hl.isList (by simp; omega) ⟨μ₁, ?_, M, .tok ..⟩
    have : (!vs.toArray.isEmpty) = decide (ds ≠ []) := by
      cases vs with
      | nil => cases ds with
        | nil => rfl
        | cons _ _ => cases hlen
      | cons _ _ => cases ds with
        | nil => cases hlen
        | cons _ _ => simp
    rw [this]; exact k) he
theorem AT.booly {e : Expr} {K : Bool → Mu → Prop} (h : AE G n env W e ρ μ fun d μ₁ => ∃ b : Bool, d = .bool b ∧ K b μ₁)
    (he : ∀ whole, isTrue e env whole = (do let v ← whole; standAt e.pos; holding [v] (truthy v)) := by intro _; rfl) : AT G n env W e ρ μ K :=
  AT.plain (h.mono fun d μ₁ ⟨i, hd, k⟩ A s v rm M r => by
    subst hd; (first | obtain ⟨_, rfl⟩ := r.intD | obtain ⟨_, rfl⟩ := r.bytesD | obtain ⟨_, rfl⟩ := r.strD | obtain rfl := r.boolD | obtain rfl := r.valD | obtain rfl := r.noneD | cases r)
    exact wpAny_truthy_bool ⟨μ₁, k, M, .refl ..⟩) he

/-- AP[i:i + 1] -/
theorem AE.bcut {value : Expr} {lo hi : Expr} {p pos : Pos} (h : AE G n env W value ρ μ fun d μ₁ => AE G n env W lo ρ μ₁ fun dl μ₂ => AE G n env W hi ρ μ₂ fun dh μ₃ =>
      ∃ (l : List UInt8) (i j : Nat), d = .bytes l ∧ dl = .int i ∧ dh = .int j ∧ l.length ≤ 16777216 ∧ K (.bytes ((l.drop (min i l.length)).take (min j l.length - min i l.length))) μ₃)
    (ht : ∀ o r, letTemporaryGo value o r = pure () := by intro _ _; rfl) : AE G n env W (.Subscript value (.Slice (some lo) (some hi) none p) pos) ρ μ K := fun A s rm M F => by
  refine PySem.Subscript_Slice (h.go rm M F fun d μ₁ v s₁ k₁ r M₁ F₁ t₁ => wpAny_Slice (evalPart_some_step (k₁.go rm M₁ F₁ fun dl μ₂ vl s₂ k₂ rl M₂ F₂ t₂ => evalPart_some_step (k₂.go rm M₂ F₂ fun dh μ₃ vh s₃ ⟨l, i, j, e1, e2, e3, hz, kk⟩ rh M₃ F₃ t₃ => evalPart_none_step ?_)))) ht
  subst e1 e2 e3
  (first | obtain ⟨_, rfl⟩ := r.intD | obtain ⟨_, rfl⟩ := r.bytesD | obtain ⟨_, rfl⟩ := r.strD | obtain rfl := r.boolD | obtain rfl := r.valD | obtain rfl := r.noneD | cases r); (first | obtain ⟨_, rfl⟩ := rl.intD | obtain ⟨_, rfl⟩ := rl.bytesD | obtain ⟨_, rfl⟩ := rl.strD | obtain rfl := rl.boolD | obtain rfl := rl.valD | obtain rfl := rl.noneD | cases rl); (first | obtain ⟨_, rfl⟩ := rh.intD | obtain ⟨_, rfl⟩ := rh.bytesD | obtain ⟨_, rfl⟩ := rh.strD | obtain rfl := rh.boolD | obtain rfl := rh.valD | obtain rfl := rh.noneD | cases rh)
  rename_i t tl th
  have hk : ∀ b o, s₃.heap.get? b = some o → (s₃.heap.push { cls := .type "slice", data := .fields #[.int (i : Int) tl, .int (j : Int) th, .none] }).get? b = some o := fun b o e => Heap.get?_push_of_some _ e
  refine ⟨"bytes", _, PySem.W.FB.slot_bytes_getitem.lookup, rfl, getItem_meets (by rfl) (by decide) PySem.W.FB.slot_bytes_getitem PySem.W.FB.entry_bytes_getitem (PySem.W.FB.args_bytes_getitem_2 _ _)
    (PySem.W.KBc.meets_slice2 l.toArray t _ (.int _ _) (.int _ _)) ⟨Heap.IsSliceOf.new _ _ _ _, ?_, fun t' k => ⟨_, μ₃, kk, ?_, M₃.keep hk, ((t₁.trans t₂).trans t₃).trans (.keep hk)⟩⟩⟩
  · refine Nat.le_trans (PySem.W.KBc.size_picked_le _ _ _) ?_
    rw [List.size_toArray, sizeLine_eq]; exact hz
  · rw [PySem.W.KBc.picked_eq]
    show Rep _ _ (.bytes ((l.toArray.toList.drop (clipAt l.toArray.size (i : Int))).take (clipAt l.toArray.size (j : Int) - clipAt l.toArray.size (i : Int))).toArray t') _
    rw [clipAt_nat, clipAt_nat]
    simp only [List.size_toArray]
    exact .bytes _ _
end
end Mine

namespace Mine
open PySem PySem.Calls PyProof.Rows

section
variable {G : Gx} {n : Nat} {env : Env} {W : List Str} {ρ : Rho} {μ : Mu}

/-- two names in order -/
theorem two_names {A : Around} {s : Shared} {x y : Str} {px py : Pos} {v u : Value} {d e : D} {K : Rho → Prop} (M : MuOk A G.B μ s.heap) (F : FrOk G.B env W ρ (keys μ) s.heap) (hx : x ∈ W) (hy : y ∈ W) (rv : Rep (keys μ) s.heap v d) (ru : Rep (keys μ) s.heap u e)
    (k : K ((y, e) :: (x, d) :: ρ)) : wpAny (Mo G.w) A (assignInOrder [PySem.assign (.Name x px) env, PySem.assign (.Name y py) env] [v, u])
      (fun _ s' => ∃ ρ', K ρ' ∧ MuOk A G.B μ s'.heap ∧ FrOk G.B env W ρ' (keys μ) s'.heap ∧ Tr (ownA env W ++ keys μ) (ownA env W ++ keys μ) s s' ∧ (∀ u e, Rep (keys μ) s.heap u e → Rep (keys μ) s'.heap u e)) (fun _ _ => False) s :=
  assignInOrder_cons (PyProof.Rows.assign_Name (store M F hx rv fun s₁ M₁ F₁ t₁ mv₁ => assignInOrder_cons (PyProof.Rows.assign_Name (store M₁ F₁ hy (mv₁ _ _ ru) fun s₂ M₂ F₂ t₂ mv₂ =>
    assignInOrder_nil ⟨_, k, M₂, F₂, t₁.trans t₂, fun u e r => mv₂ _ _ (mv₁ _ _ r)⟩))))

theorem keep_of_ext {h h' : Heap} (x : Heap.ExtBut h.objs.size h h') : ∀ b o, h.get? b = some o → h'.get? b = some o := fun b o e => x b o (Nat.ne_of_lt (Heap.lt_size e)) e

/-- two names take a pair -/
theorem TA.pair {x y : Str} {px py pos : Pos} {kk : Nat} {d e : D} {dd : D} {K : Rho → Prop} (hd : dd = .tuple [d, e] ∨ dd = .list [d, e]) (k : K ((y, e) :: (x, d) :: ρ)) (hx : x ∈ W := by decide) (hy : y ∈ W := by decide) :
    TA G n env W (.Tuple [.Name x px, .Name y py] kk pos) dd ρ μ K := fun A s v rm M F r => by
  have fin : ∀ {vs : List Value} {h' : Heap}, RepL (keys μ) s.heap vs [d, e] → Heap.ExtBut s.heap.objs.size s.heap h' →
      wpAny (Mo G.w) A (assignInOrder ((assignEach [.Name x px, .Name y py] env).map (·.2)) vs) (fun _ s' => ∃ ρ', K ρ' ∧ MuOk A G.B μ s'.heap ∧ FrOk G.B env W ρ' (keys μ) s'.heap ∧ Tr (ownA env W ++ keys μ) (ownA env W ++ keys μ) s s' ∧ (∀ u e, Rep (keys μ) s.heap u e → Rep (keys μ) s'.heap u e)) (fun _ _ => False) { s with heap := h' } := fun {vs h'} rs he => by
    have hk := keep_of_ext he
    have kx : KX [] s.heap h' := .of_keep hk
    have t : Tr (keys μ) (keys μ) s { s with heap := h' } := .keep (tk' := s.toks) hk
    cases rs with
    | cons r₁ rs =>
      cases rs with
      | cons r₂ rs =>
        cases rs
        refine wpAny_mono (two_names (s := { s with heap := h' }) (px := px) (py := py) (M.keep hk) (F.tr M t) hx hy (r₁.tr t) (r₂.tr t) k) (fun _ s' ⟨ρ', a, b, c, d, mv⟩ => ⟨ρ', a, b, c, t.wide.trans d, fun u e r => mv _ _ (r.tr t)⟩) fun _ _ z => z
  rcases hd with rfl | rfl
  · cases r with
    | tuple hn ht rs =>
      refine wpAny_assign_Tuple rm.1 ht.isTuple ?_ rfl fun h' he => fin rs he
      show 2 = _
      rw [List.size_toArray, rs.length]; rfl
  · cases r with
    | @list a vs _ hn hl rs =>
      rw [arm_assign_Tuple]
      refine wpAny_bind (wpAny_standAt ?_)
      unfold unpack
      have hlen : vs.length = 2 := rs.length
      refine wpAny_bind (wpAny_holding ?_)
      have e2 : (assignEach [.Name x px, .Name y py] env).length = vs.toArray.size := by rw [List.size_toArray, hlen]; rfl
      rw [e2]
      exact PySem.W.kun_itemsOf rm.1 hl.isList fun h' he => fin rs he

theorem S1.unpack {x y : Str} {px py tpos pos : Pos} {kk : Nat} {value : Expr} {K : FD → Rho → Mu → Prop}
    (h : AE G n env W value ρ μ fun dd μ' => ∃ d e, (dd = .tuple [d, e] ∨ dd = .list [d, e]) ∧ K .next ((y, e) :: (x, d) :: ρ) μ') (hx : x ∈ W := by decide) (hy : y ∈ W := by decide)
    (hs : swapsWithSole [.Tuple [.Name x px, .Name y py] kk tpos] value pos.line env = pure false := by rfl)
    (hw : swappedStores [.Tuple [.Name x px, .Name y py] kk tpos] value env = pure none := by rfl) : S1 G n env W (.Assign [.Tuple [.Name x px, .Name y py] kk tpos] value pos) ρ μ K := fun A s rm M F =>
  Assign_Tuple (h.go rm M F fun dd μ' v s₁ ⟨d, e, hd, k⟩ r M₁ F₁ t₁ => wpAny_mono (TA.pair (G := G) (n := n) (K := fun ρ' => K .next ρ' μ') (px := px) (py := py) (pos := tpos) (kk := kk) hd k hx hy A s₁ v rm M₁ F₁ r)
    (fun _ s₂ ⟨ρ', k', M₂, F₂, t₂, _⟩ => ⟨_, ρ', μ', k', .next, M₂, F₂, t₁.wide.trans t₂⟩) fun _ _ z => z) hs hw

/-- the stores of a written pair come in turned order -/
theorem S1.swap {x y : Str} {px py tpos pos : Pos} {kk : Nat} {value : Expr} {K : FD → Rho → Mu → Prop}
    (h : AE G n env W value ρ μ fun dd μ' => ∃ d e, dd = .tuple [d, e] ∧ K .next ((x, d) :: (y, e) :: ρ) μ') (hx : x ∈ W := by decide) (hy : y ∈ W := by decide)
    (hs : swapsWithSole [.Tuple [.Name x px, .Name y py] kk tpos] value pos.line env = pure false := by rfl)
    (hw : swappedStores [.Tuple [.Name x px, .Name y py] kk tpos] value env = pure (some [x, y]) := by rfl) : S1 G n env W (.Assign [.Tuple [.Name x px, .Name y py] kk tpos] value pos) ρ μ K := fun A s rm M F =>
  Assign_Tuple_swapped (names := [x, y]) (h.go rm M F fun dd μ' v s₁ ⟨d, e, hd, k⟩ r M₁ F₁ t₁ => by
    subst hd
    obtain ⟨a, vs, rfl, hn, ht, rs⟩ := r.tupleD
    ·
      have hlen : vs.length = 2 := rs.length
      have e2 : ([x, y] : List Str).length = vs.toArray.size := by rw [List.size_toArray, hlen]; rfl
      rw [e2]
      refine wpAny_unpackItems_tuple rm.1 ht.isTuple fun h' he => ?_
      have hk := keep_of_ext he
      have t : Tr (keys μ') (keys μ') s₁ { s₁ with heap := h' } := .keep (tk' := s₁.toks) hk
      cases rs with
      | cons r₁ rs =>
        cases rs with
        | cons r₂ rs =>
          cases rs
          refine assignInOrder_cons (bindName_ (store (M₁.keep hk) (F₁.tr M₁ t) hy (r₂.tr t) fun s₂ M₂ F₂ t₂ mv₂ => assignInOrder_cons (bindName_ (store M₂ F₂ hx (mv₂ _ _ (r₁.tr t)) fun s₃ M₃ F₃ t₃ mv₃ =>
            assignInOrder_nil ⟨_, _, μ', k, .next, M₃, F₃, ((t₁.trans t).wide.trans t₂).trans t₃⟩))))) hs hw
end
end Mine

namespace Mine
open PySem PySem.Calls PyProof.Rows

theorem Ext.nil {ρ : Rho} : Ext [] ρ := fun _ _ h => by cases h
theorem Ext.mk {x : Str} {d : D} {r ρ : Rho} (h : ρ.lookup x = some d) (e : Ext r ρ) : Ext ((x, d) :: r) ρ := fun y d' q => by
  rw [List.lookup_cons] at q
  cases hb : y == x with
  | true => rw [hb] at q; cases q; rw [beq_iff_eq.mp hb]; exact h
  | false => rw [hb] at q; exact e y d' q

section
variable {G : Gx} {n : Nat} {env : Env} {W : List Str} {ρ : Rho} {μ : Mu}
theorem AT.weaken {ρ' : Rho} {e : Expr} {K : Bool → Mu → Prop} (h : AT G n env W e ρ' μ K) (w : Ext ρ' ρ) : AT G n env W e ρ μ K := fun A s rm M F => h A s rm M (F.weaken w)
/-- a while, by an invariant over a state of one's own and a measure -/
theorem S1.loop {σ : Type} {test : Expr} {body : List Stmt} {pos : Pos} {K : FD → Rho → Mu → Prop} (ρf : σ → Rho) (μf : σ → Mu) (P : σ → Prop) (meas : σ → Nat) (s₀ : σ) (h₀ : P s₀) (hρ : Ext (ρf s₀) ρ) (hμ : μf s₀ = μ)
    (turn : ∀ st, P st → AT G n env W test (ρf st) (μf st) fun b μ₁ => if b then SE G n env W body (ρf st) μ₁ (fun f ρ₂ μ₂ => match f with
      | .next | .cont => ∃ st', P st' ∧ meas st' < meas st ∧ Ext (ρf st') ρ₂ ∧ μ₂ = μf st'
      | .brk => K .next ρ₂ μ₂
      | .ret d => K (.ret d) ρ₂ μ₂) else ∀ ρ', Ext (ρf st) ρ' → K .next ρ' μ₁) : S1 G n env W (.While test body [] pos) ρ μ K := by
  refine S1.while_ (fun k ρ' μ' => ∃ st, P st ∧ meas st = k ∧ Ext (ρf st) ρ' ∧ μ' = μf st) (meas s₀) ⟨s₀, h₀, rfl, hρ, hμ.symm⟩ fun k ρ' μ' ⟨st, hp, hm, he, hmu⟩ => ?_
  subst hm hmu
  refine AT.mono (AT.weaken (turn st hp) he) fun b μ₁ h => ?_
  cases b with
  | false => exact h _ he
  | true =>
    refine SE.mono (SE.weaken h he) fun f ρ₂ μ₂ q => ?_
    cases f with
    | next => obtain ⟨st', a, b, c, d⟩ := q; exact ⟨meas st', b, st', a, rfl, c, d⟩
    | cont => obtain ⟨st', a, b, c, d⟩ := q; exact ⟨meas st', b, st', a, rfl, c, d⟩
    | brk => exact q
    | ret d => exact q
end

/-- a def of the text's, by its place -/
noncomputable def fdef (i : Nat) : Str × Arguments × List Stmt × Scope := match PySem.Challenge.pw_oy0054_01.main.body[i]? with
  | some (.FunctionDef name args body _ _ _ scope _ _ _) => (name, args, body, scope)
  | _ => ("", default, [], default)

noncomputable def FnI (G : Gx) (f : Addr) (i : Nat) : Prop := FnAt G f (fdef i).1 (fdef i).2.1 (fdef i).2.2.1 (fdef i).2.2.2

/-- hexadecimal figures -/
noncomputable def digs (n : Nat) : List Nat := if h : n = 0 then [] else digs (n / 16) ++ [n % 16]
termination_by n
decreasing_by omega
noncomputable def ap (n : Nat) : List UInt8 := (digs n).map fun d => (65 + d).toUInt8
theorem digs_zero : digs 0 = [] := by rw [digs]; rfl
theorem digs_pos {n : Nat} (h : n ≠ 0) : digs n = digs (n / 16) ++ [n % 16] := by rw [digs]; simp [h]
theorem ap_zero : ap 0 = [] := by rw [ap, digs_zero]; rfl
theorem ap_pos {n : Nat} (h : n ≠ 0) : ap n = ap (n / 16) ++ [(65 + n % 16).toUInt8] := by rw [ap, digs_pos h, List.map_append]; rfl
theorem digs_length : ∀ n k : Nat, n < 16 ^ k → (digs n).length ≤ k := by
  intro n k
  induction k generalizing n with
  | zero => intro h; have : n = 0 := by simpa using h
            subst this; rw [digs_zero]; exact Nat.le_refl _
  | succ k ih =>
    intro h
    by_cases h0 : n = 0
    · subst h0; rw [digs_zero]; exact Nat.zero_le _
    · rw [digs_pos h0, List.length_append]
      have := ih (n / 16) (by rw [Nat.pow_succ] at h; omega)
      simp; omega

noncomputable def APs : List UInt8 := [65, 66, 67, 68, 69, 70, 71, 72, 73, 74, 75, 76, 77, 78, 79, 80]
theorem ap_cut (m : Nat) (h : m < 16) : (APs.drop (min m APs.length)).take (min (m + 1) APs.length - min m APs.length) = [(65 + m).toUInt8] := by
  have key : ∀ m : Fin 16, (APs.drop (min m.val APs.length)).take (min (m.val + 1) APs.length - min m.val APs.length) = [(65 + m.val).toUInt8] := by decide
  exact key ⟨m, h⟩

noncomputable def isDef (i : Nat) : Bool := [1, 3, 4, 5, 6, 7, 9, 10, 12, 13, 14, 15, 16, 17, 18].contains i
structure Glo (G : Gx) (fa : Nat → Addr) : Prop where
  lim : G.B.NoLimit
  gabs : GVal G "abs" (.builtin "abs")
  gint : GVal G "int" (.type "int")
  gdivmod : GVal G "divmod" (.builtin "divmod")
  glen : GVal G "len" (.builtin "len")
  grange : GVal G "range" (.type "range")
  greversed : GVal G "reversed" (.type "reversed")
  gsorted : GVal G "sorted" (.builtin "sorted")
  gzip : GVal G "zip" (.type "zip")
  gindex : GVal G "IndexError" (.type "IndexError")
  fn : ∀ i, (h : isDef i = true := by rfl) → FnI G (fa i) i
  gfn : ∀ i, (h : isDef i = true := by rfl) → GVal G (fdef i).1 (.ref (fa i))

set_option maxHeartbeats 1000000 in
theorem int2ap {G : Gx} {fa : Nat → Addr} (gl : Glo G fa) {n : Nat} {a : Int} {μ : Mu} {K : D → Mu → Prop} (ha : a.natAbs < 16 ^ 1000) (h : K (.bytes (ap a.natAbs)) μ) : Vn G (n + 1) (fun vs => call (.ref (fa 1)) vs) [.int a] μ K := by
  refine Vn.fn (names := ["num"]) (W := ["num", "val", "AP", "mod"]) (gl.fn 1) gl.lim rfl (fun pm c doc vs hv => ?_) (by decide) (by decide) ?_ (fun pm c doc L => ?_) (by rfl) (by rfl) (by rfl)
  · obtain ⟨_, rfl⟩ := len1 hv; rfl
  · intro x hx
    simp only [List.mem_cons, List.not_mem_nil, or_false] at hx
    rcases hx with rfl | rfl | rfl | rfl <;> exact .inl rfl
  · refine SE.cons (S1.assign (AE.bytes ?_))
    refine SE.cons (S1.assign (AE.bytes ?_))
    refine SE.cons (S1.assign (AE.call (AE.glob gl.gint ⟨_, rfl, .type _, AEs.cons (AE.call (AE.glob gl.gabs ⟨_, rfl, .builtin _, AEs.cons (AE.var rfl (AEs.nil (Vn.abs (AEs.nil (Vn.int ?_)))))⟩))⟩)))
    refine SE.cons (S1.loop (σ := Nat × List UInt8) (fun st => [("num", .int st.1), ("val", .bytes st.2), ("AP", .bytes APs)]) (fun _ => μ) (fun st => ap st.1 ++ st.2 = ap a.natAbs) (fun st => st.1) (a.natAbs, []) (by simp) (.mk rfl (.mk rfl (.mk rfl .nil))) rfl (fun st hp => ?_))
    obtain ⟨m, v⟩ := st
    have hlen : (ap a.natAbs).length ≤ 1000 := by rw [ap, List.length_map]; exact digs_length _ _ ha
    have hv : v.length ≤ 1000 := by rw [← hp, List.length_append] at hlen; exact Nat.le_trans (Nat.le_add_left _ _) hlen
    refine AT.int (AE.var rfl ⟨_, rfl, ?_⟩)
    by_cases hm : m = 0
    · subst hm
      have e : v = ap a.natAbs := by simpa [ap_zero] using hp
      subst e
      exact fun ρ' he => SE.weaken (SE.cons (S1.ret (AE.var rfl h))) he
    · have hd : decide ((m : Int) ≠ 0) = true := by simp [hm]
      rw [hd]
      show SE ..
      refine SE.cons (S1.unpack (AE.call (AE.glob gl.gdivmod ⟨_, rfl, .builtin _, AEs.cons (AE.var rfl (AEs.cons (AE.int (AEs.nil (Vn.divmod (by decide) (by decide) ⟨_, _, .inl rfl, ?_⟩)))))⟩)))
      refine SE.cons (S1.assign (AE.binop (AE.bcut (AE.var rfl (AE.var rfl (AE.binop (AE.var rfl (AE.int (V2.add ⟨APs, m % 16, m % 16 + 1, rfl, rfl, rfl, by decide, AE.var rfl (V2.badd ?_ (SE.nil ?_))⟩)))))))))
      · rw [ap_cut _ (Nat.mod_lt _ (by decide))]; simp; omega
      · refine ⟨(m / 16, [(65 + m % 16).toUInt8] ++ v), ?_, ?_, .mk rfl (.mk ?_ (.mk rfl .nil)), rfl⟩
        · rw [← hp, ap_pos hm]; simp
        · show m / 16 < m; omega
        · rw [← ap_cut _ (Nat.mod_lt m (by decide : 0 < 16))]; rfl
end Mine

namespace Mine
open PySem PySem.Calls PyProof.Rows

theorem slot_bytes_lt : Slot "bytes" (cmpInfo .Lt).2.1 "bytes.__lt__" :=
  .of (owner := "bytes") (n := "__lt__") (by rw [typeLookup_type, builtinLookup_eq_fast]; kernel_rfl) (by decide +kernel) (by decide +kernel) (by decide +kernel)
    (by first | exact .inl (by decide +kernel) | exact .inr (by decide +kernel)) (by rw [isSubtype_type]; kernel_rfl)
theorem entry_bytes_lt : entryFor table "bytes.__lt__" = some Builtin.«bytes.__lt__» := entryFor_of_tree (by kernel_rfl)
theorem args_bytes_lt (a b : Value) : argsOk "bytes.__lt__" ⟨[a, b], []⟩ := by
  unfold argsOk; rw [signature?_of (id := "bytes.__lt__") (n := ['_', '_', 't', 'l', '_', '_']) (o := ['s', 'e', 't', 'y', 'b']) (by kernel_rfl) PySem.W.FB.owner_bytes]; kernel_rfl
theorem slot_bytes_gt : Slot "bytes" (cmpInfo .Gt).2.1 "bytes.__gt__" :=
  .of (owner := "bytes") (n := "__gt__") (by rw [typeLookup_type, builtinLookup_eq_fast]; kernel_rfl) (by decide +kernel) (by decide +kernel) (by decide +kernel)
    (by first | exact .inl (by decide +kernel) | exact .inr (by decide +kernel)) (by rw [isSubtype_type]; kernel_rfl)
theorem entry_bytes_gt : entryFor table "bytes.__gt__" = some Builtin.«bytes.__gt__» := entryFor_of_tree (by kernel_rfl)
theorem args_bytes_gt (a b : Value) : argsOk "bytes.__gt__" ⟨[a, b], []⟩ := by
  unfold argsOk; rw [signature?_of (id := "bytes.__gt__") (n := ['_', '_', 't', 'g', '_', '_']) (o := ['s', 'e', 't', 'y', 'b']) (by kernel_rfl) PySem.W.FB.owner_bytes]; kernel_rfl

/-- the order of bytes -/
noncomputable def blt (x y : List UInt8) : Bool := Builtin.Bytes.order x y == .lt
theorem order_swap : ∀ x y : List UInt8, Builtin.Bytes.order x y = (Builtin.Bytes.order y x).swap
  | [], [] => rfl
  | [], _ :: _ => rfl
  | _ :: _, [] => rfl
  | a :: x, b :: y => by
    unfold Builtin.Bytes.order
    by_cases h1 : a < b
    · have h2 : ¬ b < a := UInt8.lt_asymm h1
      have h3 : b > a := h1
      simp [h1, h2, h3]
    · by_cases h2 : b < a
      · simp [h1, h2]
      · simp [h1, h2, order_swap x y]

theorem gives_bytes_lt (b c : Array UInt8) (t u : Tok) : Gives (Builtin.«bytes.__lt__» ⟨[.bytes b t, .bytes c u], []⟩) (.val (.bool (blt b.toList c.toList))) := by
  refine .of_wp fun M A E s Q hq => ?_
  show wpAny M A (isInstance (.bytes c u) (.type "bytes") >>= fun r => _) _ E s
  refine wpAny_bind (wpAny_isInstance (PySem.W.typeIs_bytes s c u) F.sub_bytes_bytes ?_)
  exact wpAny_pure ⟨_, rfl, hq⟩
theorem gives_bytes_gt (b c : Array UInt8) (t u : Tok) : Gives (Builtin.«bytes.__gt__» ⟨[.bytes b t, .bytes c u], []⟩) (.val (.bool (blt c.toList b.toList))) := by
  refine .of_wp fun M A E s Q hq => ?_
  show wpAny M A (isInstance (.bytes c u) (.type "bytes") >>= fun r => _) _ E s
  refine wpAny_bind (wpAny_isInstance (PySem.W.typeIs_bytes s c u) F.sub_bytes_bytes ?_)
  refine wpAny_pure ⟨_, rfl, ?_⟩
  have e : blt c.toList b.toList = (Builtin.Bytes.order b.toList c.toList == .gt) := by
    unfold blt
    rw [order_swap c.toList b.toList]
    cases Builtin.Bytes.order b.toList c.toList <;> rfl
  rw [e] at hq; exact hq
theorem rc_lt_bytes {prog : Program} {w : World} {A : Around} {E : Value → Shared → Prop} {s : Shared} {b c : Array UInt8} {t u : Tok} {Q : Value → Shared → Prop} (h : Q (.bool (blt b.toList c.toList)) s) : wpAny (model prog w) A (richCompare .Lt (.bytes b t) (.bytes c u)) Q E s :=
  richCompare_gives (op := .Lt) (PySem.W.typeIs_bytes s b t) (PySem.W.typeIs_bytes s c u) slot_bytes_lt entry_bytes_lt (args_bytes_lt _ _) (gives_bytes_lt b c t u) (fun e => nomatch e) h

section
variable {G : Gx} {n : Nat} {μ : Mu} {K : D → Mu → Prop}
theorem V2.blt {x y : List UInt8} (h : K (.bool (blt x y)) μ) : V2 G n (compareOp .Lt) (.bytes x) (.bytes y) μ K := V2.bb fun A s p q M =>
  compareOp_gives (op := .Lt) (PySem.W.typeIs_bytes s _ _) (PySem.W.typeIs_bytes s _ _) slot_bytes_lt entry_bytes_lt (args_bytes_lt _ _) (gives_bytes_lt _ _ _ _) (fun e => nomatch e) ⟨_, μ, h, .bool _, M, .refl ..⟩
theorem V2.bgt {x y : List UInt8} (h : K (.bool (Mine.blt y x)) μ) : V2 G n (compareOp .Gt) (.bytes x) (.bytes y) μ K := V2.bb fun A s p q M =>
  compareOp_gives (op := .Gt) (PySem.W.typeIs_bytes s _ _) (PySem.W.typeIs_bytes s _ _) slot_bytes_gt entry_bytes_gt (args_bytes_gt _ _) (gives_bytes_gt _ _ _ _) (fun e => nomatch e) ⟨_, μ, h, .bool _, M, .refl ..⟩
end

/-- a pair of a number and bytes: its order -/
noncomputable def plt (a : Int) (x : List UInt8) (b : Int) (y : List UInt8) : Bool := if a = b then blt x y else decide (a < b)

open AutoSeq1 (wpAny_loadPart') in
open MeetsSeq MeetsSeq3 SeqRoads2 SeqAt in
theorem list_lt_pair (l b : Addr) (n n2 : Nat) (i j : Int) (ti tj : Tok) (x y : Array UInt8) (tx ty : Tok) (items items2 : Array Value) (h0 : items[0]? = some (.int i ti)) (h1 : items[1]? = some (.bytes x tx)) (h2 : items[2]? = none) (hz : items.size = 2)
    (g0 : items2[0]? = some (.int j tj)) (g1 : items2[1]? = some (.bytes y ty)) (g2 : items2[2]? = none) (gz : items2.size = 2) :
    Meets (Builtin.«list.__lt__» ⟨[.ref l, .ref b], []⟩)
      (fun A R s => s.heap.get? l = some { cls := .type "list", data := .seq items n } ∧ s.heap.get? b = some { cls := .type "list", data := .seq items2 n2 } ∧
        R (.ok (.ret (.bool (plt i x.toList j y.toList)))) s) := by
  have loop2 : Meets (Builtin.«list.__eq__.loop» ⟨[.ref l, .ref b, rawInt 2, rawInt 0], []⟩)
      (fun A R s => s.heap.get? l = some { cls := .type "list", data := .seq items n } ∧ s.heap.get? b = some { cls := .type "list", data := .seq items2 n2 } ∧
        R (.ok (.ret (.bool false))) s) := by
    intro prog w A R s h
    obtain ⟨hp, g, d, tk, os⟩ := s; obtain ⟨hl, hb, h⟩ := h
    wp_walk using wpAny_loadPart' hl, wpAny_loadPart' hb
    rw [show items[Int.toNat 2]? = none from h2, show items2[Int.toNat 2]? = none from g2]
    wp_walk using wpAny_loadPart' hl, wpAny_loadPart' hb
    show R (.ok (.ret (.bool (decide (items.size < items2.size))))) _
    rw [hz, gz]
    exact h
  have loop1 : Meets (Builtin.«list.__eq__.loop» ⟨[.ref l, .ref b, rawInt 1, rawInt 0], []⟩)
      (fun A R s => s.heap.get? l = some { cls := .type "list", data := .seq items n } ∧ s.heap.get? b = some { cls := .type "list", data := .seq items2 n2 } ∧
        R (.ok (.ret (.bool (blt x.toList y.toList)))) s) := by
    intro prog w A R s h
    obtain ⟨hp, g, d, tk, os⟩ := s; obtain ⟨hl, hb, h⟩ := h
    wp_walk using wpAny_loadPart' hl, wpAny_loadPart' hb
    rw [show items[Int.toNat 1]? = _ from h1, show items2[Int.toNat 1]? = _ from g1]
    refine wpAny_bind (PySem.W.eqBool_bytes ?_)
    by_cases hxy : x.toList = y.toList
    · rw [decide_eq_true hxy]
      have e : blt x.toList y.toList = false := by
        rw [hxy]; unfold blt
        have := PySem.W.order_eq y.toList y.toList
        rw [beq_self_eq_true] at this
        rw [eq_of_beq this]; rfl
      rw [e] at h
      wp_walk
      exact ⟨plainId_quiet plain_eq_loop _, codeAny_builtin entry_eq_loop (by
        rw [Around.under_plainId plain_eq_loop _]
        exact loop2 prog w A R _ ⟨hl, hb, h⟩)⟩
    · rw [decide_eq_false hxy]
      wp_walk using wpAny_loadPart' hl, wpAny_loadPart' hb
      rw [show items[Int.toNat 1]? = _ from h1, show items2[Int.toNat 1]? = _ from g1]
      refine wpAny_bind (rc_lt_bytes ?_)
      wp_walk
      exact h
  have loop0 : Meets (Builtin.«list.__eq__.loop» ⟨[.ref l, .ref b, rawInt 0, rawInt 0], []⟩)
      (fun A R s => s.heap.get? l = some { cls := .type "list", data := .seq items n } ∧ s.heap.get? b = some { cls := .type "list", data := .seq items2 n2 } ∧
        R (.ok (.ret (.bool (plt i x.toList j y.toList)))) s) := by
    intro prog w A R s h
    obtain ⟨hp, g, d, tk, os⟩ := s; obtain ⟨hl, hb, h⟩ := h
    wp_walk using wpAny_loadPart' hl, wpAny_loadPart' hb
    rw [show items[Int.toNat 0]? = _ from h0, show items2[Int.toNat 0]? = _ from g0]
    refine wpAny_bind (EqAt.int_int i ti j tj prog w _ _ ?_)
    unfold plt at h
    by_cases hij : i = j
    · rw [if_pos hij] at h
      rw [show (i == j) = true from by rw [hij]; exact beq_self_eq_true j]
      wp_walk
      exact ⟨plainId_quiet plain_eq_loop _, codeAny_builtin entry_eq_loop (by
        rw [Around.under_plainId plain_eq_loop _]
        exact loop1 prog w A R _ ⟨hl, hb, h⟩)⟩
    · rw [if_neg hij] at h
      rw [show (i == j) = false from beq_eq_false_iff_ne.mpr hij]
      wp_walk using wpAny_loadPart' hl, wpAny_loadPart' hb
      rw [show items[Int.toNat 0]? = _ from h0, show items2[Int.toNat 0]? = _ from g0]
      refine wpAny_bind (show wpAny _ _ (compareOp .Lt (.int i ti) (.int j tj)) _ _ _ from PyProof.Rows.lt_int ?_)
      wp_walk
      exact h
  intro prog w A R s h
  obtain ⟨hp, g, d, tk, os⟩ := s; obtain ⟨hl, hb, h⟩ := h
  have f3 := AutoSeq1.sub_list_list
  wp_walk using wpAny_loadPart' hl, wpAny_loadPart' hb
  exact ⟨plainId_quiet plain_eq_loop _, codeAny_builtin entry_eq_loop (by
    rw [Around.under_plainId plain_eq_loop _]
    exact loop0 prog w A R _ ⟨hl, hb, h⟩)⟩

section
variable {G : Gx} {n : Nat} {μ : Mu} {K : D → Mu → Prop}
theorem V2.plt {a b : Int} {x y : List UInt8} (h : K (.bool (plt a x b y)) μ) : V2 G (n + 1) (compareOp .Lt) (.list [.int a, .bytes x]) (.list [.int b, .bytes y]) μ K := fun A s v u rm M rv ru => by
  obtain ⟨l, vs, rfl, hn, hl, rs⟩ := rv.listD
  ·
    obtain ⟨l', ws, rfl, hn', hl', rs'⟩ := ru.listD
    ·
      cases rs with
      | cons r₁ rs =>
        cases rs with
        | cons r₂ rs =>
          cases rs; (first | obtain ⟨_, rfl⟩ := r₁.intD | obtain ⟨_, rfl⟩ := r₁.bytesD | obtain ⟨_, rfl⟩ := r₁.strD | obtain rfl := r₁.boolD | obtain rfl := r₁.valD | obtain rfl := r₁.noneD | cases r₁); (first | obtain ⟨_, rfl⟩ := r₂.intD | obtain ⟨_, rfl⟩ := r₂.bytesD | obtain ⟨_, rfl⟩ := r₂.strD | obtain rfl := r₂.boolD | obtain rfl := r₂.valD | obtain rfl := r₂.noneD | cases r₂)
          cases rs' with
          | cons r₁' rs' =>
            cases rs' with
            | cons r₂' rs' =>
              cases rs'; (first | obtain ⟨_, rfl⟩ := r₁'.intD | obtain ⟨_, rfl⟩ := r₁'.bytesD | obtain ⟨_, rfl⟩ := r₁'.strD | obtain rfl := r₁'.boolD | obtain rfl := r₁'.valD | obtain rfl := r₁'.noneD | cases r₁'); (first | obtain ⟨_, rfl⟩ := r₂'.intD | obtain ⟨_, rfl⟩ := r₂'.bytesD | obtain ⟨_, rfl⟩ := r₂'.strD | obtain rfl := r₂'.boolD | obtain rfl := r₂'.valD | obtain rfl := r₂'.noneD | cases r₂')
              obtain ⟨k, e⟩ := hl
              obtain ⟨k', e'⟩ := hl'
              exact richCompare_meets_room (op := .Lt) ⟨_, e, rfl⟩ ⟨_, e', rfl⟩ F.slot_list_lt F.entry_list_lt (F.args_list_lt_2 _ _) (list_lt_pair l l' k k' a b _ _ x.toArray y.toArray _ _ _ _ rfl rfl rfl rfl rfl rfl rfl rfl)
                ⟨e, e', show Value.bool (Mine.plt a x b y) ≠ Value.notImplemented ∧ _ from ⟨(fun q => Value.noConfusion q), _, μ, h, .bool _, M, .refl ..⟩⟩ (by have := rm.units; omega)
end
end Mine

namespace Mine
open PySem PySem.Calls PyProof.Rows

/-- what may be compared by < -/
structure Ord (S : D → Prop) (lt : D → D → Bool) : Prop where
  cmp : ∀ {G : Gx} {n : Nat} {d e : D} {μ : Mu} {K : D → Mu → Prop}, S d → S e → K (.bool (lt d e)) μ → V2 G (n + 1) (compareOp .Lt) d e μ K

/-- _siftdown's loop -/
noncomputable def sd {α : Type} (lt : α → α → Bool) (x : α) (l : List α) (start pos : Nat) : List α :=
  if h : start < pos then
    match l[(pos - 1) / 2]? with
    | some p => if lt x p then sd lt x (l.set pos p) start ((pos - 1) / 2) else l.set pos x
    | none => l
  else l.set pos x
termination_by pos
decreasing_by omega

theorem sd_length {α : Type} (lt : α → α → Bool) (x : α) : ∀ (k : Nat) (l : List α) (start pos : Nat), pos ≤ k → (sd lt x l start pos).length = l.length := by
  intro k
  induction k with
  | zero =>
    intro l start pos h
    rw [sd]; split
    · omega
    · simp
  | succ k ih =>
    intro l start pos h
    rw [sd]; split
    · split
      · split
        · rw [ih _ _ _ (by omega)]; simp
        · simp
      · rfl
    · simp

set_option maxHeartbeats 1000000 in
theorem siftdown {G : Gx} {fa : Nat → Addr} (gl : Glo G fa) {S : D → Prop} {lt : D → D → Bool} (o : Ord S lt) {n : Nat} {a : Addr} {ds : List D} {start pos : Nat} {x : D} {μ : Mu} {K : D → Mu → Prop} (hS : ∀ d ∈ ds, S d) (hx : ds[pos]? = some x) (hz : ds.length < 2 ^ 60)
    (h : K .none ((a, sd lt x ds start pos) :: μ)) : Vn G (n + 2) (fun vs => call (.ref (fa 6)) vs) [.val (.ref a), .int start, .int pos] ((a, ds) :: μ) K := by
  refine Vn.fn (names := ["heap", "startpos", "pos"]) (W := ["heap", "startpos", "pos", "newitem", "parentpos", "parent"]) (gl.fn 6) gl.lim rfl (fun pm c doc vs hv => ?_) (by decide) (by decide) ?_ (fun pm c doc L => ?_) (by rfl) (by rfl) (by rfl)
  · obtain ⟨_, _, _, rfl⟩ := len3 hv; rfl
  · intro x hx
    simp only [List.mem_cons, List.not_mem_nil, or_false] at hx
    rcases hx with rfl | rfl | rfl | rfl | rfl | rfl <;> exact .inl rfl
  · have hpos : pos < ds.length := (List.getElem?_eq_some_iff.mp hx).1
    have hSx : S x := hS x (List.mem_of_getElem? hx)
    refine SE.cons (S1.assign (AE.item (AE.var rfl (AE.var rfl ⟨ds, pos, x, .inr ⟨a, rfl, .head _⟩, rfl, nn _, n63s hpos hz, hx, ?_⟩))))
    refine SE.cons (S1.loop (σ := List D × Nat) (fun st => [("heap", .val (.ref a)), ("startpos", .int start), ("pos", .int st.2), ("newitem", x)]) (fun st => (a, st.1) :: μ)
      (fun st => sd lt x st.1 start st.2 = sd lt x ds start pos ∧ st.1.length = ds.length ∧ st.2 < ds.length ∧ ∀ d ∈ st.1, S d) (fun st => st.2) (ds, pos) ⟨rfl, rfl, hpos, hS⟩ (.mk rfl (.mk rfl (.mk rfl (.mk rfl .nil)))) rfl (fun st hp => ?_))
    obtain ⟨l, q⟩ := st
    obtain ⟨h1, h2, h3, h4⟩ := hp
    simp only at h1 h2 h3 h4
    have hql : q < l.length := by rw [h2]; exact h3
    have hz' : l.length < 2 ^ 60 := by rw [h2]; exact hz
    have hzz : l.length < 2 ^ 62 := Nat.lt_trans hz' (by decide)
    refine AT.cmp (AE.var rfl (AE.var rfl (V2.gt ⟨_, rfl, ?_⟩)))
    by_cases hlt : start < q
    · rw [show decide ((start : Int) < (q : Int)) = true by simp [hlt]]
      show SE ..
      have hpp : (q - 1) / 2 < l.length := Nat.lt_of_le_of_lt (Nat.le_trans (Nat.div_le_self _ _) (Nat.sub_le _ _)) hql
      have ep : l[(q - 1) / 2]? = some l[(q - 1) / 2] := List.getElem?_eq_getElem hpp
      have eq1 : ((q : Int) - 1) / 2 = (((q - 1) / 2 : Nat) : Int) := by omega
      refine SE.cons (S1.assign (AE.binop (AE.binop (AE.var rfl (AE.int (V2.sub (AE.int (V2.shr1 (by omega) ?_))))))))
      rw [eq1]
      refine SE.cons (S1.assign (AE.item (AE.var rfl (AE.var rfl ⟨l, ((q - 1) / 2 : Nat), l[(q - 1) / 2], .inr ⟨a, rfl, .head _⟩, rfl, nn _, n63s hpp hz', ep, ?_⟩))))
      refine SE.cons (S1.if_ (AT.cmp (AE.var rfl (AE.var rfl (o.cmp hSx (h4 _ (List.getElem_mem hpp)) ⟨_, rfl, ?_⟩)))))
      have unf := sd.eq_1 lt x l start q
      rw [dif_pos hlt, ep] at unf
      simp only at unf
      cases hb : lt x l[(q - 1) / 2] with
      | true =>
        rw [hb, if_pos rfl] at unf
        show SE ..
        refine SE.cons (S1.setitem (AE.var rfl ⟨rfl, AE.var rfl ⟨⟨rfl, rfl⟩, AE.var rfl ⟨rfl, q, rfl, nn _, Int.ofNat_lt.mpr hql, hzz, ?_⟩⟩⟩))
        refine SE.cons (S1.assign (AE.var rfl ?_))
        refine SE.cons (S1.cont ?_)
        refine ⟨(l.set q l[(q - 1) / 2], (q - 1) / 2), ⟨?_, ?_, ?_, ?_⟩, ?_, .mk rfl (.mk rfl (.mk rfl (.mk rfl .nil))), rfl⟩
        · exact unf.symm.trans h1
        · simp [h2]
        · show (q - 1) / 2 < _; rw [← h2]; exact hpp
        · intro d hd
          rcases List.mem_or_eq_of_mem_set hd with z | z
          · exact h4 d z
          · rw [z]; exact h4 _ (List.getElem_mem hpp)
        · show (q - 1) / 2 < q; omega
      | false =>
        rw [hb, if_neg (by decide)] at unf
        show SE ..
        refine SE.nil (SE.cons (S1.brk ?_))
        refine SE.cons (S1.setitem (AE.var rfl ⟨rfl, AE.var rfl ⟨⟨rfl, rfl⟩, AE.var rfl ⟨rfl, q, rfl, nn _, Int.ofNat_lt.mpr hql, hzz, SE.nil ?_⟩⟩⟩))
        rw [show ((q : Int)).toNat = q from rfl, ← unf, h1]; exact h
    · rw [show decide ((start : Int) < (q : Int)) = false by simp [hlt]]
      intro ρ' he
      have unf := sd.eq_1 lt x l start q
      rw [dif_neg hlt] at unf
      refine SE.weaken (SE.cons (S1.setitem (AE.var rfl ⟨rfl, AE.var rfl ⟨⟨rfl, rfl⟩, AE.var rfl ⟨rfl, q, rfl, nn _, Int.ofNat_lt.mpr hql, hzz, SE.nil ?_⟩⟩⟩))) he
      rw [show ((q : Int)).toNat = q from rfl, ← unf, h1]; exact h
end Mine

namespace Mine
open PySem PySem.Calls PyProof.Rows

/-- the child that _siftup goes to -/
noncomputable def child {α : Type} (lt : α → α → Bool) (l : List α) (pos : Nat) : Nat :=
  match l[2 * pos + 1]?, l[2 * pos + 2]? with
  | some p, some q => if lt p q then 2 * pos + 1 else 2 * pos + 2
  | _, _ => 2 * pos + 1
theorem child_ge {α : Type} (lt : α → α → Bool) (l : List α) (pos : Nat) : 2 * pos + 1 ≤ child lt l pos ∧ child lt l pos ≤ 2 * pos + 2 := by
  unfold child; split
  · split <;> omega
  · omega
theorem child_lt {α : Type} (lt : α → α → Bool) (l : List α) (pos : Nat) (h : 2 * pos + 1 < l.length) : child lt l pos < l.length := by
  unfold child; split
  · rename_i p q h1 h2
    have := (List.getElem?_eq_some_iff.mp h2).1
    split <;> omega
  · exact h

/-- _siftup's loop -/
noncomputable def su {α : Type} (lt : α → α → Bool) (l : List α) (pos : Nat) : List α × Nat :=
  if h : 2 * pos + 1 < l.length then
    match l[child lt l pos]? with
    | some y => su lt (l.set pos y) (child lt l pos)
    | none => (l, pos)
  else (l, pos)
termination_by l.length - pos
decreasing_by
  have := (child_ge lt l pos).1
  rw [List.length_set]; omega

theorem su_props {α : Type} (lt : α → α → Bool) : ∀ (k : Nat) (l : List α) (pos : Nat), l.length - pos ≤ k → pos < l.length → (su lt l pos).1.length = l.length ∧ (su lt l pos).2 < l.length := by
  intro k
  induction k with
  | zero => intro l pos h hp; omega
  | succ k ih =>
    intro l pos h hp
    rw [su]
    split
    · rename_i hc
      have h1 := child_lt lt l pos hc
      have h2 := (child_ge lt l pos).1
      rw [List.getElem?_eq_getElem h1]
      have := ih (l.set pos l[child lt l pos]) (child lt l pos) (by rw [List.length_set]; omega) (by rw [List.length_set]; exact h1)
      rw [List.length_set] at this
      exact this
    · exact ⟨rfl, hp⟩

/-- the whole of _siftup -/
noncomputable def sup {α : Type} (lt : α → α → Bool) (l : List α) (pos : Nat) (x : α) : List α := sd lt x ((su lt l pos).1.set (su lt l pos).2 x) pos (su lt l pos).2
theorem sup_length {α : Type} (lt : α → α → Bool) (l : List α) (pos : Nat) (x : α) (hp : pos < l.length) : (sup lt l pos x).length = l.length := by
  unfold sup
  rw [sd_length lt x _ _ _ _ (Nat.le_refl _), List.length_set]
  exact (su_props lt _ l pos (Nat.le_refl _) hp).1

theorem SE.seq {G : Gx} {n : Nat} {env : Env} {W : List Str} {ρ : Rho} {μ : Mu} {st : Stmt} {rest : List Stmt} {K : FD → Rho → Mu → Prop} (ρJ : Rho) (μJ : Mu) (h1 : S1 G n env W st ρ μ fun f ρ' μ' => f = .next ∧ Ext ρJ ρ' ∧ μ' = μJ) (h2 : SE G n env W rest ρJ μJ K) : SE G n env W (st :: rest) ρ μ K :=
  SE.cons fun A s rm M F => wpAny_mono (h1 A s rm M F) (fun f s' ⟨fd, ρ', μ', ⟨e1, e2, e3⟩, r, m, f, t⟩ => ⟨fd, ρ', μ', by subst e1 e3; exact SE.weaken h2 e2, r, m, f, t⟩) fun _ _ z => z

set_option maxHeartbeats 2000000 in
theorem siftup {G : Gx} {fa : Nat → Addr} (gl : Glo G fa) {S : D → Prop} {lt : D → D → Bool} (o : Ord S lt) {n : Nat} {a : Addr} {ds : List D} {pos : Nat} {x : D} {μ : Mu} {K : D → Mu → Prop} (hS : ∀ d ∈ ds, S d) (hx : ds[pos]? = some x) (hz : ds.length < 2 ^ 59)
    (h : K .none ((a, sup lt ds pos x) :: μ)) : Vn G (n + 3) (fun vs => call (.ref (fa 7)) vs) [.val (.ref a), .int pos] ((a, ds) :: μ) K := by
  refine Vn.fn (names := ["heap", "pos"]) (W := ["heap", "pos", "endpos", "startpos", "newitem", "childpos", "rightpos"]) (gl.fn 7) gl.lim rfl (fun pm c doc vs hv => ?_) (by decide) (by decide) ?_ (fun pm c doc L => ?_) (by rfl) (by rfl) (by rfl)
  · obtain ⟨_, _, rfl⟩ := len2 hv; rfl
  · intro x hx
    simp only [List.mem_cons, List.not_mem_nil, or_false] at hx
    rcases hx with rfl | rfl | rfl | rfl | rfl | rfl | rfl <;> exact .inl rfl
  · have hpos : pos < ds.length := (List.getElem?_eq_some_iff.mp hx).1
    have hSx : S x := hS x (List.mem_of_getElem? hx)
    have hz0 : ds.length < 2 ^ 60 := Nat.lt_trans hz (by decide)
    refine SE.cons (S1.assign (AE.call (AE.glob gl.glen ⟨_, rfl, .builtin _, AEs.cons (AE.var rfl (AEs.nil (Vn.lenM (.head _) hz0 ?_)))⟩)))
    refine SE.cons (S1.assign (AE.var rfl ?_))
    refine SE.cons (S1.assign (AE.item (AE.var rfl (AE.var rfl ⟨ds, pos, x, .inr ⟨a, rfl, .head _⟩, rfl, nn _, n63s hpos hz0, hx, ?_⟩))))
    refine SE.cons (S1.assign (AE.binop (AE.binop (AE.int (AE.var rfl (V2.mul2 (AE.int (V2.add ?_))))))))
    refine SE.cons (S1.loop (σ := List D × Nat) (fun st => [("heap", .val (.ref a)), ("startpos", .int pos), ("endpos", .int ds.length), ("newitem", x), ("pos", .int st.2), ("childpos", .int (2 * (st.2 : Int) + 1))]) (fun st => (a, st.1) :: μ)
      (fun st => su lt st.1 st.2 = su lt ds pos ∧ st.1.length = ds.length ∧ st.2 < ds.length ∧ ∀ d ∈ st.1, S d) (fun st => ds.length - st.2) (ds, pos) ⟨rfl, rfl, hpos, hS⟩ (.mk rfl (.mk rfl (.mk rfl (.mk rfl (.mk rfl (.mk rfl .nil)))))) rfl (fun st hp => ?_))
    obtain ⟨l, q⟩ := st
    obtain ⟨h1, h2, h3, h4⟩ := hp
    simp only at h1 h2 h3 h4
    have hql : q < l.length := by rw [h2]; exact h3
    have hz' : l.length < 2 ^ 60 := by rw [h2]; exact hz0
    have hzz : l.length < 2 ^ 62 := Nat.lt_trans hz' (by decide)
    refine AT.cmp (AE.var rfl (AE.var rfl (V2.lt ⟨_, rfl, ?_⟩)))
    have unf := su.eq_1 lt l q
    by_cases hlt : 2 * q + 1 < ds.length
    · rw [show decide (2 * (q : Int) + 1 < (ds.length : Int)) = true by rw [decide_eq_true_eq]; omega]
      show SE ..
      have hc1 : 2 * q + 1 < l.length := by rw [h2]; exact hlt
      have hcl := child_lt lt l q hc1
      have hcg := child_ge lt l q
      rw [dif_pos hc1, List.getElem?_eq_getElem hcl] at unf
      simp only at unf
      refine SE.cons (S1.assign (AE.binop (AE.var rfl (AE.int (V2.add ?_)))))
      refine SE.seq [("heap", .val (.ref a)), ("startpos", .int pos), ("endpos", .int ds.length), ("newitem", x), ("pos", .int q), ("childpos", .int (child lt l q : Nat))] ((a, l) :: μ) (S1.if_ ?_) ?_
      · have e1 : l[2 * q + 1]? = some l[2 * q + 1] := List.getElem?_eq_getElem hc1
        refine AT.and (AT.cmp (AE.var rfl (AE.var rfl (V2.lt ⟨_, rfl, ?_⟩))))
        by_cases hr : 2 * q + 2 < l.length
        · rw [show decide (2 * (q : Int) + 1 + 1 < (ds.length : Int)) = true by rw [decide_eq_true_eq]; omega]
          show AT ..
          have e2 : l[2 * q + 2]? = some l[2 * q + 2] := List.getElem?_eq_getElem hr
          have hch : child lt l q = if lt l[2 * q + 1] l[2 * q + 2] then 2 * q + 1 else 2 * q + 2 := by unfold child; rw [e1, e2]
          refine AT.and_one (AT.not (AT.cmp (AE.item (AE.var rfl (AE.var rfl ⟨l, ((2 * q + 1 : Nat) : Int), l[2 * q + 1], .inr ⟨a, rfl, .head _⟩, rfl, nn _, n63s hc1 hz', e1,
            AE.item (AE.var rfl (AE.var rfl ⟨l, ((2 * q + 2 : Nat) : Int), l[2 * q + 2], .inr ⟨a, rfl, .head _⟩, rfl, nn _, n63s hr hz', e2,
              o.cmp (h4 _ (List.getElem_mem hc1)) (h4 _ (List.getElem_mem hr)) ⟨_, rfl, ?_⟩⟩))⟩)))))
          cases hb : lt l[2 * q + 1] l[2 * q + 2] with
          | true =>
            rw [hb, if_pos rfl] at hch
            show SE ..
            exact SE.nil ⟨rfl, .mk rfl (.mk rfl (.mk rfl (.mk rfl (.mk rfl (.mk (by rw [hch]; rfl) .nil))))), rfl⟩
          | false =>
            rw [hb, if_neg (by decide)] at hch
            show SE ..
            refine SE.cons (S1.assign (AE.var rfl (SE.nil ⟨rfl, .mk rfl (.mk rfl (.mk rfl (.mk rfl (.mk rfl (.mk ?_ .nil))))), rfl⟩)))
            rw [hch]
            show some (D.int (2 * (q : Int) + 1 + 1)) = some (D.int ((2 * q + 2 : Nat) : Int))
            congr 2
        · rw [show decide (2 * (q : Int) + 1 + 1 < (ds.length : Int)) = false by rw [decide_eq_false_iff_not]; omega]
          have hch : child lt l q = 2 * q + 1 := by unfold child; rw [List.getElem?_eq_none (by omega : l.length ≤ 2 * q + 2)]; split <;> first | rfl | simp_all
          show SE ..
          exact SE.nil ⟨rfl, .mk rfl (.mk rfl (.mk rfl (.mk rfl (.mk rfl (.mk (by rw [hch]; rfl) .nil))))), rfl⟩
      · have ec : l[child lt l q]? = some l[child lt l q] := List.getElem?_eq_getElem hcl
        refine SE.cons (S1.setitem (AE.item (AE.var rfl (AE.var rfl ⟨l, (child lt l q : Nat), l[child lt l q], .inr ⟨a, rfl, .head _⟩, rfl, nn _, n63s hcl hz', ec, rfl,
          AE.var rfl ⟨⟨rfl, rfl⟩, AE.var rfl ⟨rfl, q, rfl, nn _, Int.ofNat_lt.mpr hql, hzz, ?_⟩⟩⟩))))
        refine SE.cons (S1.assign (AE.var rfl ?_))
        refine SE.cons (S1.assign (AE.binop (AE.binop (AE.int (AE.var rfl (V2.mul2 (AE.int (V2.add ?_))))))))
        refine SE.nil ⟨(l.set q l[child lt l q], child lt l q), ⟨?_, ?_, ?_, ?_⟩, ?_, .mk rfl (.mk rfl (.mk rfl (.mk rfl (.mk rfl (.mk rfl .nil))))), rfl⟩
        · exact unf.symm.trans h1
        · simp [h2]
        · show child lt l q < _; rw [← h2]; exact hcl
        · intro d hd
          rcases List.mem_or_eq_of_mem_set hd with z | z
          · exact h4 d z
          · rw [z]; exact h4 _ (List.getElem_mem hcl)
        · show ds.length - child lt l q < ds.length - q; omega
    · rw [show decide (2 * (q : Int) + 1 < (ds.length : Int)) = false by rw [decide_eq_false_iff_not]; omega]
      intro ρ' he
      rw [dif_neg (by omega)] at unf
      have e1 : su lt ds pos = (l, q) := h1.symm.trans unf
      refine SE.weaken (SE.cons (S1.setitem (AE.var rfl ⟨rfl, AE.var rfl ⟨⟨rfl, rfl⟩, AE.var rfl ⟨rfl, q, rfl, nn _, Int.ofNat_lt.mpr hql, hzz, ?_⟩⟩⟩))) he
      refine SE.cons (S1.expr (AE.call (AE.glob (gl.gfn 6) ⟨_, rfl, (gl.fn 6).cal, AEs.cons (AE.var rfl (AEs.cons (AE.var rfl (AEs.cons (AE.var rfl (AEs.nil (siftdown gl o (x := x) ?_ ?_ ?_ ⟨rfl, SE.nil ?_⟩)))))))⟩)))
      · intro d hd
        rcases List.mem_or_eq_of_mem_set hd with z | z
        · exact h4 d z
        · rw [z]; exact hSx
      · show (l.set q x)[q]? = some x
        rw [List.getElem?_set_self hql]
      · rw [List.length_set]; exact hz'
      · have : sup lt ds pos x = sd lt x (l.set q x) pos q := by unfold sup; rw [e1]
        rw [this] at h; exact h
end Mine

namespace Mine
open PySem PySem.Calls PyProof.Rows

theorem erase_last (vs : List Value) : vs.toArray.eraseIdxIfInBounds (vs.toArray.size - 1) = vs.dropLast.toArray := by
  apply Array.toList_inj.mp
  cases vs with
  | nil => rfl
  | cons v r =>
    simp [Array.eraseIdxIfInBounds, List.dropLast_eq_take, List.eraseIdx_eq_take_drop_succ]

section
variable {G : Gx} {n : Nat} {env : Env} {W : List Str} {ρ : Rho} {μ : Mu} {K : D → Mu → Prop}
theorem AE.append {o e : Expr} {apos pos : Pos} {a : Addr} {ds : List D} (h : AE G n env W o ρ ((a, ds) :: μ) fun dl μ₁ => (dl = .val (.ref a) ∧ μ₁ = (a, ds) :: μ) ∧ AE G n env W e ρ ((a, ds) :: μ) fun d μ₂ => μ₂ = (a, ds) :: μ ∧ ds.length ≤ sizeLine ∧ K .none ((a, ds ++ [d]) :: μ))
    (hbase : attributeBase o "append" env (eval o env) = eval o env := by rfl) (hs : starEach [e] env = [(false, eval e env)] := by rfl) (hline : (apos.endLine == pos.line) = true := by rfl) :
    AE G n env W (.Call (.Attribute o "append" apos) [e] [] pos) ρ ((a, ds) :: μ) K := fun A s rm M F => by
  refine Call_method1 hbase hs hline (h.go rm M F fun dl μ₁ ov s₁ ⟨⟨e1, e2⟩, k⟩ r M₁ F₁ t₁ => ?_)
  subst e1 e2
  (first | obtain ⟨_, rfl⟩ := r.intD | obtain ⟨_, rfl⟩ := r.bytesD | obtain ⟨_, rfl⟩ := r.strD | obtain rfl := r.boolD | obtain rfl := r.valD | obtain rfl := r.noneD | cases r)
  obtain ⟨vs, ⟨nn, hl⟩, rs⟩ := M₁.mus _ (.head _)
  refine ⟨"list", "list.append", PySem.F.plainAttrs_list, PySem.F.slot_list_append, PySem.F.type_list_append, ⟨_, hl, rfl⟩, fun b eb => ⟨_, by cases eb; exact hl, rfl⟩, ?_⟩
  refine PySem.P.append_list (k.go rm M₁ F₁ fun d μ₂ v s₂ ⟨e3, hz, kk⟩ rv M₂ F₂ t₂ => ?_)
  subst e3
  obtain ⟨ws, ⟨nn', hl'⟩, rs'⟩ := M₂.mus _ (.head _)
  have hlen : ws.length = ds.length := rs'.length
  refine ⟨ws.toArray, nn', by rw [List.size_toArray]; omega, hl', ?_⟩
  have q : PySem.IsL _ a _ _ := PySem.IsL.update (h := s₂.heap) (l := a) (items := ws.toArray) (n := nn') hl' (fun xs => xs.push v)
  have e4 : ws.toArray.push v = (ws ++ [v]).toArray := by simp
  rw [e4] at q
  have M₃ := M₂.set (es := ds ++ [d]) (Heap.SameBut.update s₂.heap a (Obj.mapSeq fun xs => xs.push v)) ⟨_, q⟩ (rs'.append (.one rv))
  exact ⟨_, _, kk, .none, M₃, (t₁.trans t₂).trans ⟨_, s₂.toks, rfl, .of_sameBut (Heap.SameBut.update ..) (.head _), fun _ z => .inl z⟩⟩

theorem AE.pop {o : Expr} {apos pos : Pos} {a : Addr} {ds : List D} {d : D} (h : AE G n env W o ρ ((a, ds ++ [d]) :: μ) fun dl μ₁ => (dl = .val (.ref a) ∧ μ₁ = (a, ds ++ [d]) :: μ) ∧ ds.length < sizeLine ∧ K d ((a, ds) :: μ))
    (hbase : attributeBase o "pop" env (eval o env) = eval o env := by rfl) (hline : (apos.endLine == pos.line) = true := by rfl) :
    AE G n env W (.Call (.Attribute o "pop" apos) [] [] pos) ρ ((a, ds ++ [d]) :: μ) K := fun A s rm M F => by
  refine Call_method0 hbase hline (h.go rm M F fun dl μ₁ ov s₁ ⟨⟨e1, e2⟩, hz, k⟩ r M₁ F₁ t₁ => ?_)
  subst e1 e2
  (first | obtain ⟨_, rfl⟩ := r.intD | obtain ⟨_, rfl⟩ := r.bytesD | obtain ⟨_, rfl⟩ := r.strD | obtain rfl := r.boolD | obtain rfl := r.valD | obtain rfl := r.noneD | cases r)
  obtain ⟨vs, ⟨nn, hl⟩, rs⟩ := M₁.mus _ (.head _)
  have hlen : vs.length = (ds ++ [d]).length := rs.length
  rw [List.length_append, List.length_singleton] at hlen
  obtain ⟨y, hy, ry⟩ := rs.get ds.length d (by simp)
  refine ⟨"list", "list.pop", PySem.F.plainAttrs_list, PySem.F.slot_list_pop, PySem.F.type_list_pop, ⟨_, hl, rfl⟩, fun b eb => ⟨_, by cases eb; exact hl, rfl⟩, ?_⟩
  refine PySem.P.pop_list (y := y) hl (by rw [List.size_toArray, hlen]; simpa using hy) ?_ (by rw [List.size_toArray]; omega)
  have q : PySem.IsL _ a _ _ := PySem.IsL.update (h := s₁.heap) (l := a) (items := vs.toArray) (n := nn) hl (fun xs => xs.eraseIdxIfInBounds (vs.toArray.size - 1))
  have e4 : vs.toArray.eraseIdxIfInBounds (vs.toArray.size - 1) = (vs.take ds.length).toArray := by
    rw [erase_last, List.dropLast_eq_take, hlen]; rfl
  rw [e4] at q
  have rs' : RepL (keys ((a, ds ++ [d]) :: μ)) s₁.heap (vs.take ds.length) ds := by
    have := rs.take ds.length
    simpa using this
  have M₂ := M₁.set (es := ds) (Heap.SameBut.update s₁.heap a (Obj.mapSeq fun xs => xs.eraseIdxIfInBounds (vs.toArray.size - 1))) ⟨_, q⟩ rs'
  have t₂ : Tr (keys ((a, ds ++ [d]) :: μ)) (keys ((a, ds) :: μ)) s₁ { s₁ with heap := s₁.heap.update a (Obj.mapSeq fun xs => xs.eraseIdxIfInBounds (vs.toArray.size - 1)) } := ⟨_, s₁.toks, rfl, .of_sameBut (Heap.SameBut.update ..) (.head _), fun _ z => .inl z⟩
  refine ⟨d, _, k, ?_, M₂, t₁.trans t₂⟩
  exact Rep.tr (μ := (a, ds ++ [d]) :: μ) (μ' := (a, ds) :: μ) t₂ ry
end

set_option maxHeartbeats 1000000 in
theorem heappush {G : Gx} {fa : Nat → Addr} (gl : Glo G fa) {S : D → Prop} {lt : D → D → Bool} (o : Ord S lt) {n : Nat} {a : Addr} {ds : List D} {x : D} {μ : Mu} {K : D → Mu → Prop} (hS : ∀ d ∈ ds, S d) (hx : S x) (hz : ds.length < 1000)
    (h : K .none ((a, sd lt x (ds ++ [x]) 0 ds.length) :: μ)) : Vn G (n + 3) (fun vs => call (.ref (fa 3)) vs) [.val (.ref a), x] ((a, ds) :: μ) K := by
  refine Vn.fn (names := ["heap", "item"]) (W := ["heap", "item"]) (gl.fn 3) gl.lim rfl (fun pm c doc vs hv => ?_) (by decide) (by decide) ?_ (fun pm c doc L => ?_) (by rfl) (by rfl) (by rfl)
  · obtain ⟨_, _, rfl⟩ := len2 hv; rfl
  · intro x hx
    simp only [List.mem_cons, List.not_mem_nil, or_false] at hx
    rcases hx with rfl | rfl <;> exact .inl rfl
  · refine SE.cons (S1.expr (AE.append (AE.var rfl ⟨⟨rfl, rfl⟩, AE.var rfl ⟨rfl, by rw [sizeLine_eq]; omega, rfl, ?_⟩⟩)))
    have e0 : ((ds ++ [x]).length : Int) - 1 = (ds.length : Int) := by simp
    refine SE.cons (S1.expr (AE.call (AE.glob (gl.gfn 6) ⟨_, rfl, (gl.fn 6).cal, AEs.cons (AE.var rfl (AEs.cons (AE.int (AEs.cons (AE.binop (AE.call (AE.glob gl.glen ⟨_, rfl, .builtin _, AEs.cons (AE.var rfl (AEs.nil (Vn.lenM (.head _) (by simp; omega) (AE.int (V2.sub ?_)))))⟩)))))))⟩)))
    rw [e0]
    refine AEs.nil (siftdown gl o (start := 0) (x := x) ?_ (by simp) (by simp; omega) ⟨rfl, SE.nil h⟩)
    intro d hd
    rcases List.mem_append.mp hd with q | q
    · exact hS d q
    · rw [List.mem_singleton.mp q]; exact hx

/-- heappop -/
noncomputable def hpop {α : Type} (lt : α → α → Bool) (l : List α) (last : α) : α × List α :=
  match l with
  | [] => (last, [])
  | y :: r => (y, sup lt (last :: r) 0 last)

set_option maxHeartbeats 1000000 in
theorem heappop {G : Gx} {fa : Nat → Addr} (gl : Glo G fa) {S : D → Prop} {lt : D → D → Bool} (o : Ord S lt) {n : Nat} {a : Addr} {ds : List D} {x : D} {μ : Mu} {K : D → Mu → Prop} (hS : ∀ d ∈ ds, S d) (hx : S x) (hz : ds.length < 1000)
    (h : K (hpop lt ds x).1 ((a, (hpop lt ds x).2) :: μ)) : Vn G (n + 4) (fun vs => call (.ref (fa 4)) vs) [.val (.ref a)] ((a, ds ++ [x]) :: μ) K := by
  refine Vn.fn (names := ["heap"]) (W := ["heap", "lastelt", "returnitem"]) (gl.fn 4) gl.lim rfl (fun pm c doc vs hv => ?_) (by decide) (by decide) ?_ (fun pm c doc L => ?_) (by rfl) (by rfl) (by rfl)
  · obtain ⟨_, rfl⟩ := len1 hv; rfl
  · intro x hx
    simp only [List.mem_cons, List.not_mem_nil, or_false] at hx
    rcases hx with rfl | rfl | rfl <;> exact .inl rfl
  · refine SE.cons (S1.assign (AE.pop (AE.var rfl ⟨⟨rfl, rfl⟩, by rw [sizeLine_eq]; omega, ?_⟩)))
    refine SE.cons (S1.if_ (AT.lst (AE.var rfl ⟨a, ds, rfl, .head _, by omega, ?_⟩)))
    cases ds with
    | nil =>
      show SE ..
      exact SE.nil (SE.cons (S1.ret (AE.var rfl h)))
    | cons y r =>
      show SE ..
      refine SE.cons (S1.assign (AE.item (AE.var rfl (AE.int ⟨y :: r, 0, y, .inr ⟨a, rfl, .head _⟩, rfl, by decide, by decide, rfl, ?_⟩))))
      refine SE.cons (S1.setitem (AE.var rfl ⟨rfl, AE.var rfl ⟨⟨rfl, rfl⟩, AE.int ⟨rfl, 0, rfl, by decide, by simp, by omega, ?_⟩⟩⟩))
      show SE ..
      refine SE.cons (S1.expr (AE.call (AE.glob (gl.gfn 7) ⟨_, rfl, (gl.fn 7).cal, AEs.cons (AE.var rfl (AEs.cons (AE.int (AEs.nil (siftup gl o (pos := 0) (x := x) ?_ rfl ?_ ⟨rfl, ?_⟩)))))⟩)))
      · intro d hd
        rcases List.mem_cons.mp hd with q | q
        · rw [q]; exact hx
        · exact hS d (.tail _ q)
      · simp at hz ⊢; omega
      · exact SE.cons (S1.ret (AE.var rfl h))
end Mine

namespace Mine
open PySem PySem.Calls PyProof.Rows PySem.MeetsSeq

theorem sub_ri_reversed : isSubtype (.type "range_iterator") (.type "reversed") = pure false := by rw [isSubtype_type]; kernel_rfl

section
variable {prog : Program} {w : World} {A : Around} {E : Value → Shared → Prop} {s : Shared}
theorem call_range_reversed {r : Addr} {k : Nat} {t u v : Tok} {Q : Value → Shared → Prop} (hr : IsRange s.heap r 0 k 1 t u v) (hk : k < 2 ^ 60)
    (h : Q (.ref s.heap.objs.size) { s with heap := s.heap.push { cls := .type "range_iterator", data := .fields #[rawInt ((k : Int) - 1), rawInt k, rawInt (-1)] } }) : wpAny (model prog w) A (call (.builtin "range.__reversed__") [.ref r]) Q E s := by
  have hT : s.TypeIs (.ref r) "range" := ⟨_, hr, rfl⟩
  refine wpAny_call_entry F.slot_range_reversed hT F.entry_range_reversed ?_ (F.args_range_reversed_1 _)
  unfold Builtin.«range.__reversed__»
  refine wpAny_bind (wpAny_of_eq (a := Value.ref r) rfl ?_)
  unfold Builtin.Range.rangeFields
  have hd : ({ cls := .type "range", dict := none, data := .fields #[.int 0 t, .int (k : Int) u, .int 1 v], slots := #[] } : Obj).data = .fields #[.int 0 t, .int (k : Int) u, .int 1 v] := rfl
  refine wpAny_bind (wpAny_bind (wpAny_field hr hd (x := .int 0 t) rfl (wpAny_bind (wpAny_of_eq (a := some (0 : Int)) rfl ?_))))
  refine wpAny_bind (wpAny_field hr hd (x := .int (k : Int) u) rfl (wpAny_bind (wpAny_of_eq (a := some (k : Int)) rfl ?_)))
  refine wpAny_bind (wpAny_field hr hd (x := .int 1 v) (by simp) ?_)
  refine wpAny_bind ?_
  have ea : asInt? (.int 1 v) = pure (some 1) := rfl
  rw [ea]
  refine wpAny_pure ?_
  refine wpAny_pure ?_
  have hsz : Builtin.Range.rangeSize 0 (k : Int) 1 = (k : Int) := by rw [rangeSize_one]; split <;> omega
  have hsm : (Builtin.Range.rangeFitsLong 0 && Builtin.Range.rangeFitsLong (k : Int) && Builtin.Range.rangeFitsLong 1 && Builtin.Range.rangeFitsLong (-1) && Builtin.Range.rangeFitsLong (0 - 1) && Builtin.Range.rangeFitsLong (k : Int)) = true := by
    simp only [Builtin.Range.rangeFitsLong, Bool.and_eq_true, decide_eq_true_eq]; omega
  simp only [hsz, hsm, Bool.not_true, Bool.false_eq_true, if_false, if_true]
  have e : (0 : Int) + ((k : Int) - 1) * 1 = (k : Int) - 1 := by omega
  rw [e]
  exact wpAny_bind (wpAny_newObj_type (wpAny_pure ⟨_, rfl, h⟩))

theorem code_reversed_range {r : Addr} {k : Nat} {t u v : Tok} {Q₁ : Value → Shared → Prop} (hr : IsRange s.heap r 0 k 1 t u v) (hk : k < 2 ^ 60)
    (h : Q₁ (.ref s.heap.objs.size) { s with heap := s.heap.push { cls := .type "range_iterator", data := .fields #[rawInt ((k : Int) - 1), rawInt k, rawInt (-1)] } }) :
    codeAny (model prog w) A (.call (.builtin "reversed.__new__") ⟨[.type "reversed", .ref r], []⟩) (wants Q₁ E) s := by
  have hT : s.TypeIs (.ref r) "range" := ⟨_, hr, rfl⟩
  refine codeAny_of_tree ?_
  show wpAny _ A.in1 (do checkBuiltinCall "reversed.__new__" ⟨[.type "reversed", .ref r], []⟩; again (.builtin "reversed.__new__" ⟨[.type "reversed", .ref r], []⟩)) _ _ s
  refine wpAny_bind (wpAny_of_eq (F.newCall_reversed_1 _) (wpAny_pure ⟨plainId_quiet F.plain_reversed_new _, codeAny_builtin F.entry_reversed_new ?_⟩))
  rw [Around.under_plainId F.plain_reversed_new _]
  unfold Builtin.«reversed.__new__»
  refine wpAny_bind (wpAny_of_eq (newClass_reversed _) ?_)
  refine wpAny_bind (wpAny_of_eq (a := ()) (by first | rfl | kernel_rfl) ?_)
  refine wpAny_bind (wpAny_of_eq (a := ()) (by first | rfl | kernel_rfl) ?_)
  refine wpAny_bind (wpAny_specialOf hT F.slot_range_reversed.lookup ?_)
  refine wpAny_bind (wpAny_of_eq (F.slot_range_reversed.bind _) ?_)
  show wpAny _ _ (if (Value.builtin "range.__reversed__" == Value.none) = true then _ else _) _ _ _
  rw [if_neg (show ¬ ((Value.builtin "range.__reversed__" == Value.none) = true) from Bool.false_ne_true)]
  refine wpAny_bind (wpAny_rule ?_)
  refine wpAny_bind (m := runValue (.call (.builtin "range.__reversed__") ⟨[.ref r], []⟩)) (show wpAny _ _ (call (.builtin "range.__reversed__") [.ref r]) _ _ _ from call_range_reversed hr hk ?_)
  first
  | exact wpAny_pure h
  | exact wpAny_bind (wpAny_pure (wpAny_pure h))

theorem call_reversed_range {r : Addr} {k : Nat} {t u v : Tok} {Q : Value → Shared → Prop} (hr : IsRange s.heap r 0 k 1 t u v) (hk : k < 2 ^ 60)
    (h : Q (.ref s.heap.objs.size) { s with heap := s.heap.push { cls := .type "range_iterator", data := .fields #[rawInt ((k : Int) - 1), rawInt k, rawInt (-1)] } }) : wpAny (model prog w) A (call (.type "reversed") [.ref r]) Q E s := by
  refine callType_other (U := "range_iterator") (Q₁ := fun obj s₁ => obj = .ref s.heap.objs.size ∧ s₁ = { s with heap := s.heap.push { cls := .type "range_iterator", data := .fields #[rawInt ((k : Int) - 1), rawInt k, rawInt (-1)] } }) (by decide +kernel) F.create_reversed ⟨_, _, F.mro_reversed⟩ F.made_reversed sub_ri_reversed (F.typeCall_reversed_1 _) (code_reversed_range hr hk ⟨rfl, rfl⟩) ?_
  rintro obj s₁ ⟨rfl, rfl⟩
  exact ⟨⟨_, Heap.get?_push_size _ rfl, rfl⟩, h⟩
end

section
variable {G : Gx} {n : Nat} {env : Env} {W : List Str} {ρ : Rho} {μ : Mu}
/-- reversed(range(e)) -/
theorem IS.rev {e : Expr} {y : Str} {tp np np' pos pos' : Pos} {K : List D → Mu → Prop} (gv : GVal G "reversed" (.type "reversed")) (gr : GVal G "range" (.type "range"))
    (h : AE G n env W e ρ μ fun d μ₁ => ∃ k : Nat, d = .int k ∧ k < 2 ^ 60 ∧ K ((List.range k).map fun i : Nat => .int ((k : Int) - 1 - i)) μ₁)
    (hs : starEach [e] env = [(false, eval e env)] := by rfl) (hs' : starEach [.Call (.Name "range" np) [e] [] pos] env = [(false, eval (.Call (.Name "range" np) [e] [] pos) env)] := by rfl)
    (hk : env.kindOf "range" = some .globalImplicit := by rfl) (hk' : env.kindOf "reversed" = some .globalImplicit := by rfl) :
    IS G n env W (.Name y tp) (.Call (.Name "reversed" np') [.Call (.Name "range" np) [e] [] pos] [] pos') ρ μ K := fun A s rm M F => by
  refine call1 gv (.inr ⟨_, rfl⟩) M F (call1 gr (.inr ⟨_, rfl⟩) M F (h.go rm M F fun d μ₁ v s₁ ⟨k, hd, hlt, kk⟩ r M₁ F₁ t₁ => ?_) hs hk) hs' hk'
  subst hd
  obtain ⟨t, rfl⟩ := r.intD
  ·
    refine call_range_1 ?_
    have hk₁ : ∀ b o, s₁.heap.get? b = some o → (s₁.heap.push { cls := .type "range", data := .fields #[.int 0 s₁.toks, .int (k : Int) t, .int 1 (s₁.toks + 1)] }).get? b = some o := fun b o e => Heap.get?_push_of_some _ e
    refine call_reversed_range (k := k) (Heap.get?_push_size _ rfl) hlt ?_
    generalize hH : s₁.heap.push { cls := .type "range", data := .fields #[.int 0 s₁.toks, .int (k : Int) t, .int 1 (s₁.toks + 1)] } = H at *
    have hk₂ : ∀ b o, H.get? b = some o → (H.push { cls := .type "range_iterator", data := .fields #[rawInt ((k : Int) - 1), rawInt (k : Int), rawInt (-1)] }).get? b = some o := fun b o e => Heap.get?_push_of_some _ e
    have M₂ := (M₁.keep hk₁).keep hk₂
    have hdead : s₁.heap.get? H.objs.size = none := by
      cases q : s₁.heap.get? H.objs.size with
      | none => rfl
      | some o => have := hk₁ _ _ q; rw [dead_size] at this; cases this
    have hit : IsRangeIter (H.push { cls := .type "range_iterator", data := .fields #[rawInt ((k : Int) - 1), rawInt (k : Int), rawInt (-1)] }) H.objs.size ((k : Int) - 1) (k : Int) (-1) := Heap.get?_push_size _ rfl
    have it := it_range (G := G) (n := n) (μ := μ₁) (target := .Name y tp) (s := { s₁ with heap := H.push { cls := .type "range_iterator", data := .fields #[rawInt ((k : Int) - 1), rawInt (k : Int), rawInt (-1)] }, toks := s₁.toks + 1 + 1 }) (I := H.objs.size) (a := (k : Int) - 1) (c := -1) (k := k) (M' := M₂) rm (fun _ => rfl) hit (M₁.dead hdead).1
    have e : ((List.range k).map fun i : Nat => D.int ((k : Int) - 1 + i * -1)) = (List.range k).map fun i : Nat => D.int ((k : Int) - 1 - i) := by
      apply List.map_congr_left; intro i _; congr 1; omega
    rw [e] at it
    refine it.self 0 _ _ _ it.start ⟨_, μ₁, _, _, _, _, _, _, kk, rfl, M₂, t₁.trans (Tr.keep (fun b o q => hk₂ b o (hk₁ b o q))), it, fun b hb => ?_⟩
    rcases List.mem_cons.mp hb with q | q
    · subst q
      by_cases hk : H.objs.size ∈ keys μ
      · exact .inl hk
      · exact .inr (t₁.kx.dead hk hdead)
    · cases q
end
end Mine

namespace Mine
open PySem PySem.Calls PyProof.Rows PySem.SeqAt

/-- data of one kind: whether they are equal -/
inductive EqD : Nat → D → D → Bool → Prop
  | int (n : Nat) (a b : Int) : EqD n (.int a) (.int b) (decide (a = b))
  | str (n : Nat) (x y : Str) : EqD n (.str x) (.str y) (decide (x = y))
  | bytes (n : Nat) (x y : List UInt8) : EqD n (.bytes x) (.bytes y) (decide (x = y))
  | list {n : Nat} {xs ys : List D} (e : Nat → Bool) : xs.length = ys.length → (∀ j d d', xs[j]? = some d → ys[j]? = some d' → EqD n d d' (e j)) → EqD (n + 1) (.list xs) (.list ys) ((List.range xs.length).all e)
  | listN {n : Nat} {xs ys : List D} : xs.length ≠ ys.length → EqD (n + 1) (.list xs) (.list ys) false
  | tuple {n : Nat} {xs ys : List D} (e : Nat → Bool) : xs.length = ys.length → (∀ j d d', xs[j]? = some d → ys[j]? = some d' → EqD n d d' (e j)) → EqD (n + 1) (.tuple xs) (.tuple ys) ((List.range xs.length).all e)

theorem IsL.inj {h : Heap} {a : Addr} {vs ws : List Value} (x : IsL h a vs) (y : IsL h a ws) : vs = ws := by
  obtain ⟨n, e⟩ := x; obtain ⟨m, e'⟩ := y; rw [e] at e'; cases e'; rfl
theorem IsT.inj {h : Heap} {a : Addr} {vs ws : List Value} (x : IsT h a vs) (y : IsT h a ws) : vs = ws := by
  obtain ⟨o, e, _, n, d⟩ := x; obtain ⟨o', e', _, m, d'⟩ := y; rw [e] at e'; cases e'; rw [d] at d'; cases d'; rfl
theorem all_same {X : List Addr} {h : Heap} {xs ys : List D} {vs : List Value} {e : Nat → Bool} (hl : xs.length = ys.length) (rs : RepL X h vs xs) (rs' : RepL X h vs ys)
    (ih : ∀ j d d', xs[j]? = some d → ys[j]? = some d' → ∀ {v : Value}, Rep X h v d → Rep X h v d' → e j = true) : (List.range xs.length).all e = true := by
  rw [List.all_eq_true]
  intro j hj
  have hj1 : j < xs.length := List.mem_range.mp hj
  have hj2 : j < ys.length := hl ▸ hj1
  obtain ⟨v, hv, r⟩ := rs.get j _ (List.getElem?_eq_getElem hj1)
  obtain ⟨v', hv', r'⟩ := rs'.get j _ (List.getElem?_eq_getElem hj2)
  rw [hv] at hv'
  obtain rfl := Option.some.inj hv'
  exact ih j _ _ (List.getElem?_eq_getElem hj1) (List.getElem?_eq_getElem hj2) r r'
theorem EqD.same {X : List Addr} {h : Heap} {n : Nat} {d e : D} {b : Bool} (q : EqD n d e b) : ∀ {v : Value}, Rep X h v d → Rep X h v e → b = true := by
  induction q with
  | int n a b =>
    intro v r r'
    obtain ⟨_, rfl⟩ := r.intD
    obtain ⟨_, e⟩ := r'.intD
    exact decide_eq_true (Value.int.inj e).1
  | str n x y =>
    intro v r r'
    obtain ⟨_, rfl⟩ := r.strD
    obtain ⟨_, e⟩ := r'.strD
    exact decide_eq_true (Value.str.inj e).1
  | bytes n x y =>
    intro v r r'
    obtain ⟨_, rfl⟩ := r.bytesD
    obtain ⟨_, e⟩ := r'.bytesD
    exact decide_eq_true (by simpa using (Value.bytes.inj e).1)
  | list e hl _ ih =>
    intro v r r'
    obtain ⟨a, vs, rfl, _, hl1, rs⟩ := r.listD
    obtain ⟨a', vs', ea, _, hl2, rs'⟩ := r'.listD
    obtain rfl := Value.ref.inj ea
    obtain rfl := hl1.inj hl2
    exact all_same hl rs rs' ih
  | listN hne =>
    intro v r r'
    obtain ⟨a, vs, rfl, _, hl1, rs⟩ := r.listD
    obtain ⟨a', vs', ea, _, hl2, rs'⟩ := r'.listD
    obtain rfl := Value.ref.inj ea
    obtain rfl := hl1.inj hl2
    exact absurd (rs.length.symm.trans rs'.length) hne
  | tuple e hl _ ih =>
    intro v r r'
    obtain ⟨a, vs, rfl, _, hl1, rs⟩ := r.tupleD
    obtain ⟨a', vs', ea, _, hl2, rs'⟩ := r'.tupleD
    obtain rfl := Value.ref.inj ea
    obtain rfl := hl1.inj hl2
    exact all_same hl rs rs' ih

theorem EqAt.bytes {A : Around} {s : Shared} (x y : List UInt8) (t u : Tok) : EqAt A s (.bytes x.toArray t) (.bytes y.toArray u) (decide (x = y)) := fun prog w E Q h => PySem.W.eqBool_bytes (by simpa using h)
theorem RepL.at {X : List Addr} {h : Heap} {vs : List Value} {xs : List D} (rs : RepL X h vs xs) {j : Nat} (hj : j < vs.length) : ∃ d, xs[j]? = some d ∧ Rep X h vs[j] d := by
  have hj' : j < xs.length := rs.length ▸ hj
  obtain ⟨v, hv, r⟩ := rs.get j _ (List.getElem?_eq_getElem hj')
  rw [List.getElem?_eq_getElem hj] at hv
  obtain rfl := Option.some.inj hv
  exact ⟨_, List.getElem?_eq_getElem hj', r⟩

theorem EqD.at {X : List Addr} {n : Nat} {d e : D} {b : Bool} (q : EqD n d e b) : ∀ {A : Around} {s : Shared} {v u : Value}, Rep X s.heap v d → Rep X s.heap u e → A.units + n < cLine → EqAt A s v u b := by
  induction q with
  | int n a b =>
    intro A s v u r r' _
    obtain ⟨t, rfl⟩ := r.intD
    obtain ⟨t', rfl⟩ := r'.intD
    exact EqAt.int_int a t b t'
  | str n x y =>
    intro A s v u r r' _
    obtain ⟨t, rfl⟩ := r.strD
    obtain ⟨t', rfl⟩ := r'.strD
    have := EqAt.str_str (A := A) (s := s) x t y t'
    rwa [show (x == y) = decide (x = y) from by by_cases q : x = y <;> simp [q]] at this
  | bytes n x y =>
    intro A s v u r r' _
    obtain ⟨t, rfl⟩ := r.bytesD
    obtain ⟨t', rfl⟩ := r'.bytesD
    exact EqAt.bytes x y t t'
  | @list n xs ys e hle he ih =>
    intro A s v u r r' hu
    have q : EqD (n + 1) (.list xs) (.list ys) ((List.range xs.length).all e) := .list e hle he
    obtain ⟨a, vs, rfl, hn, hl, rs⟩ := r.listD
    obtain ⟨b, ws, rfl, hn', hl', rs'⟩ := r'.listD
    by_cases hab : a = b
    · subst hab
      rw [q.same r r']
      exact EqAt.same _
    · have e1 : vs.toArray.size = ws.toArray.size := by rw [List.size_toArray, List.size_toArray, rs.length, rs'.length]; exact hle
      have := RcAt.lists (A := A) hl.isList hl'.isList e1 (e := e) (by omega) fun j j1 j2 => by
        obtain ⟨d, hd, rd⟩ := rs.at (j := j) (by simpa using j1)
        obtain ⟨d', hd', rd'⟩ := rs'.at (j := j) (by simpa using j2)
        have := ih j d d' hd hd' (A := A.in1) rd rd' (by show A.units + 1 + n < _; omega)
        simpa using this
      rw [List.size_toArray, rs.length] at this
      exact EqAt.of_refs hab this
  | listN hne =>
    intro A s v u r r' hu
    obtain ⟨a, vs, rfl, hn, hl, rs⟩ := r.listD
    obtain ⟨b, ws, rfl, hn', hl', rs'⟩ := r'.listD
    have hne' : vs.length ≠ ws.length := by rw [rs.length, rs'.length]; exact hne
    have hab : a ≠ b := fun h => by subst h; obtain rfl := hl.inj hl'; exact hne' rfl
    exact EqAt.of_refs hab (RcAt.lists_lengths hl.isList hl'.isList (by simpa using hne') (by omega))
  | @tuple n xs ys e hle he ih =>
    intro A s v u r r' hu
    have q : EqD (n + 1) (.tuple xs) (.tuple ys) ((List.range xs.length).all e) := .tuple e hle he
    obtain ⟨a, vs, rfl, hn, hl, rs⟩ := r.tupleD
    obtain ⟨b, ws, rfl, hn', hl', rs'⟩ := r'.tupleD
    by_cases hab : a = b
    · subst hab
      rw [q.same r r']
      exact EqAt.same _
    · have e1 : vs.toArray.size = ws.toArray.size := by rw [List.size_toArray, List.size_toArray, rs.length, rs'.length]; exact hle
      have := RcAt.tuples (A := A) hl.isTuple hl'.isTuple (e := e) (by omega) fun j j1 j2 => by
        obtain ⟨d, hd, rd⟩ := rs.at (j := j) (by simpa using j1)
        obtain ⟨d', hd', rd'⟩ := rs'.at (j := j) (by simpa using j2)
        have := ih j d d' hd hd' (A := A.in1) rd rd' (by show A.units + 1 + n < _; omega)
        simpa using this
      rw [← e1, Nat.min_self, beq_self_eq_true, Bool.and_true, List.size_toArray, rs.length] at this
      exact EqAt.of_refs hab this
end Mine

namespace Mine
open PySem PySem.Calls PyProof.Rows PySem.SeqAt PySem.MeetsSeq

theorem EqD.map {α : Type} [DecidableEq α] {n : Nat} (f : α → D) (hf : ∀ x y, EqD n (f x) (f y) (decide (x = y))) (xs ys : List α) : EqD (n + 1) (.list (xs.map f)) (.list (ys.map f)) (decide (xs = ys)) := by
  by_cases h : xs.length = ys.length
  · have e : (List.range (xs.map f).length).all (fun j => decide (xs[j]? = ys[j]?)) = decide (xs = ys) := by
      rw [Bool.eq_iff_iff, List.all_eq_true, decide_eq_true_iff]
      constructor
      · intro q
        apply List.ext_getElem?
        intro j
        by_cases hj : j < xs.length
        · exact of_decide_eq_true (q j (List.mem_range.mpr (by rw [List.length_map]; exact hj)))
        · rw [List.getElem?_eq_none (Nat.le_of_not_lt hj), List.getElem?_eq_none (h ▸ Nat.le_of_not_lt hj)]
      · intro q j _
        rw [q]; exact decide_eq_true rfl
    rw [← e]
    refine .list _ (by rw [List.length_map, List.length_map]; exact h) fun j d d' h1 h2 => ?_
    rw [List.getElem?_map] at h1 h2
    cases hx : xs[j]? with
    | none => rw [hx] at h1; cases h1
    | some x =>
      cases hy : ys[j]? with
      | none => rw [hy] at h2; cases h2
      | some y =>
        rw [hx] at h1; rw [hy] at h2
        cases h1; cases h2
        have := hf x y
        rwa [show decide (x = y) = decide ((some x : Option α) = some y) from by rw [decide_eq_decide]; exact ⟨fun q => by rw [q], Option.some.inj⟩] at this
  · have : decide (xs = ys) = false := by
      rw [decide_eq_false_iff_not]; exact fun q => h (by rw [q])
    rw [this]
    exact .listN (by simpa using h)

section
variable {G : Gx} {n : Nat} {env : Env} {W : List Str} {ρ : Rho} {μ : Mu} {K : D → Mu → Prop}
theorem V2.leq {k : Nat} {xs ys : List D} {b : Bool} (q : EqD k (.list xs) (.list ys) b) (hk : k ≤ 50) (h : K (.bool b) μ) : V2 G (n + 1) (compareOp .Eq) (.list xs) (.list ys) μ K := fun A s v u rm M rv ru => by
  have hu := rm.units
  obtain ⟨a, vs, rfl, hn, hl, rs⟩ := rv.listD
  · obtain ⟨c, ws, rfl, hn', hl', rs'⟩ := ru.listD
    ·
      cases q with
      | @list m _ _ e hle q =>
        have e1 : vs.toArray.size = ws.toArray.size := by rw [List.size_toArray, List.size_toArray, rs.length, rs'.length]; exact hle
        refine eq_listAt hl.isList hl'.isList e1 (e := e) (by omega) (fun j j1 j2 => ?_) ?_
        · obtain ⟨d, hd, rd⟩ := rs.at (j := j) (by simpa using j1)
          obtain ⟨d', hd', rd'⟩ := rs'.at (j := j) (by simpa using j2)
          have := (q j d d' hd hd').at (A := A.in1) rd rd' (by show A.units + 1 + m < _; omega)
          simpa using this
        · rw [List.size_toArray, rs.length]
          exact ⟨_, μ, h, .bool _, M, .refl ..⟩
      | listN q =>
        have hne : vs.length ≠ ws.length := by rw [rs.length, rs'.length]; exact q
        exact eq_list_lengthsAt hl.isList hl'.isList (by simpa using hne) (by omega) ⟨_, μ, h, .bool _, M, .refl ..⟩
theorem V2.lne {k : Nat} {xs ys : List D} {b : Bool} (q : EqD k (.list xs) (.list ys) b) (hk : k ≤ 50) (h : K (.bool (!b)) μ) : V2 G (n + 1) (compareOp .NotEq) (.list xs) (.list ys) μ K := fun A s v u rm M rv ru => by
  have hu := rm.units
  obtain ⟨a, vs, rfl, hn, hl, rs⟩ := rv.listD
  · obtain ⟨c, ws, rfl, hn', hl', rs'⟩ := ru.listD
    ·
      cases q with
      | @list m _ _ e hle q =>
        have e1 : vs.toArray.size = ws.toArray.size := by rw [List.size_toArray, List.size_toArray, rs.length, rs'.length]; exact hle
        refine RcNeAt.lists hl.isList hl'.isList e1 (e := e) (by omega) (fun j j1 j2 => ?_) _ _ _ _ ?_
        · obtain ⟨d, hd, rd⟩ := rs.at (j := j) (by simpa using j1)
          obtain ⟨d', hd', rd'⟩ := rs'.at (j := j) (by simpa using j2)
          have := (q j d d' hd hd').at (A := A.in1) rd rd' (by show A.units + 1 + m < _; omega)
          simpa using this
        · rw [List.size_toArray, rs.length]
          exact ⟨_, μ, h, .bool _, M, .refl ..⟩
      | listN q =>
        have hne : vs.length ≠ ws.length := by rw [rs.length, rs'.length]; exact q
        exact RcNeAt.lists_lengths hl.isList hl'.isList (by simpa using hne) (by omega) _ _ _ _ ⟨_, μ, h, .bool _, M, .refl ..⟩
/-- heap != [] -/
theorem V2.neNil {a : Addr} {ds : List D} (hm : (a, ds) ∈ μ) (h : K (.bool (decide (ds ≠ []))) μ) : V2 G (n + 1) (compareOp .NotEq) (.val (.ref a)) (.list []) μ K := fun A s v u rm M rv ru => by
  have hu := rm.units
  (first | obtain ⟨_, rfl⟩ := rv.intD | obtain ⟨_, rfl⟩ := rv.bytesD | obtain ⟨_, rfl⟩ := rv.strD | obtain rfl := rv.boolD | obtain rfl := rv.valD | obtain rfl := rv.noneD | cases rv)
  obtain ⟨vs, hl, rs⟩ := M.mus _ hm
  have hlen : vs.length = ds.length := rs.length
  obtain ⟨c, ws, rfl, hn', hl', rs'⟩ := ru.listD
  ·
    cases rs'
    cases ds with
    | nil =>
      have e1 : vs = [] := by cases vs; rfl; cases hlen
      subst e1
      refine RcNeAt.lists hl.isList hl'.isList rfl (e := fun j => true) (by omega) (fun j j1 j2 => absurd j1 (by simp)) _ _ _ _ ?_
      exact ⟨_, μ, h, .bool _, M, .refl ..⟩
    | cons d ds =>
      refine RcNeAt.lists_lengths hl.isList hl'.isList ?_ (by omega) _ _ _ _ ?_
      · simp [hlen]
      · exact ⟨_, μ, by simpa using h, .bool _, M, .refl ..⟩

/-- ints, bytes: what is compared at once -/
structure Atm (α : Type) [DecidableEq α] where
  f : α → D
  e : α → Value → Bool
  gives : ∀ {X : List Addr} {h : Heap} {v u : Value} {a b : α}, Rep X h v (f a) → Rep X h u (f b) → e b v = decide (a = b) ∧ EqGives v u (decide (a = b))
noncomputable def atI : Atm Int where
  f := .int
  e := fun b v => match v with
    | .int i _ => decide (i = b)
    | _ => false
  gives := fun r r' => by
    (first | obtain ⟨_, rfl⟩ := r.intD | obtain ⟨_, rfl⟩ := r.bytesD | obtain ⟨_, rfl⟩ := r.strD | obtain rfl := r.boolD | obtain rfl := r.valD | obtain rfl := r.noneD | cases r); (first | obtain ⟨_, rfl⟩ := r'.intD | obtain ⟨_, rfl⟩ := r'.bytesD | obtain ⟨_, rfl⟩ := r'.strD | obtain rfl := r'.boolD | obtain rfl := r'.valD | obtain rfl := r'.noneD | cases r')
    exact ⟨rfl, EqGives.int _ _ _ _⟩
noncomputable def atB : Atm (List UInt8) where
  f := .bytes
  e := fun b v => match v with
    | .bytes i _ => decide (i.toList = b)
    | _ => false
  gives := fun r r' => by
    (first | obtain ⟨_, rfl⟩ := r.intD | obtain ⟨_, rfl⟩ := r.bytesD | obtain ⟨_, rfl⟩ := r.strD | obtain rfl := r.boolD | obtain rfl := r.valD | obtain rfl := r.noneD | cases r); (first | obtain ⟨_, rfl⟩ := r'.intD | obtain ⟨_, rfl⟩ := r'.bytesD | obtain ⟨_, rfl⟩ := r'.strD | obtain rfl := r'.boolD | obtain rfl := r'.valD | obtain rfl := r'.noneD | cases r')
    exact ⟨rfl, fun prog w A E s Q h => PySem.W.eqBool_bytes (by simpa using h)⟩

variable {α : Type} [DecidableEq α]
theorem Atm.all (T : Atm α) {X : List Addr} {h : Heap} {u : Value} {b : α} (r' : Rep X h u (T.f b)) : ∀ {vs : List Value} {xs : List α}, RepL X h vs (xs.map T.f) → (∀ y, y ∈ vs → EqGives y u (T.e b y)) ∧ vs.map (T.e b) = xs.map fun x => decide (x = b)
  | [], [], _ => ⟨mem_nil_off, rfl⟩
  | [], _ :: _, r => by (first | obtain ⟨_, rfl⟩ := r.intD | obtain ⟨_, rfl⟩ := r.bytesD | obtain ⟨_, rfl⟩ := r.strD | obtain rfl := r.boolD | obtain rfl := r.valD | obtain rfl := r.noneD | cases r)
  | _ :: _, [], r => by (first | obtain ⟨_, rfl⟩ := r.intD | obtain ⟨_, rfl⟩ := r.bytesD | obtain ⟨_, rfl⟩ := r.strD | obtain rfl := r.boolD | obtain rfl := r.valD | obtain rfl := r.noneD | cases r)
  | v :: vs, x :: xs, r => by
    cases r with
    | cons r rs =>
      obtain ⟨h1, h2⟩ := Atm.all T r' rs
      obtain ⟨h3, h4⟩ := T.gives r r'
      refine ⟨fun y hy => ?_, ?_⟩
      · rcases List.mem_cons.mp hy with q | q
        · subst q; rw [h3]; exact h4
        · exact h1 y q
      · rw [List.map_cons, List.map_cons, h2, h3]
theorem any_mem (xs : List α) (b : α) : (xs.map fun x => decide (x = b)).any id = decide (b ∈ xs) := by
  induction xs with
  | nil => rfl
  | cons x xs ih =>
    rw [List.map_cons, List.any_cons, ih]
    by_cases q : x = b
    · subst q; simp
    · have : ¬ b = x := fun e => q e.symm
      simp [q, this]
theorem V2.in_ (T : Atm α) {xs : List α} {b : α} (h : K (.bool (decide (b ∈ xs))) μ) : V2 G n (compareOp .In) (T.f b) (.list (xs.map T.f)) μ K := fun A s v u rm M rv ru => by
  obtain ⟨a, vs, rfl, hn, hl, rs⟩ := ru.listD
  ·
    obtain ⟨h1, h2⟩ := T.all rv rs
    refine in_listAt (T.e b) hl.isList (fun y hy => (h1 y (by simpa using hy)).at _ _) ⟨_, μ, ?_, .bool _, M, .refl ..⟩
    have : vs.toArray.any (T.e b) = decide (b ∈ xs) := by
      rw [← any_mem, ← h2, List.any_map]; simp
    rw [this]; exact h
theorem V2.notIn (T : Atm α) {xs : List α} {b : α} (h : K (.bool (!decide (b ∈ xs))) μ) : V2 G n (compareOp .NotIn) (T.f b) (.list (xs.map T.f)) μ K := fun A s v u rm M rv ru => by
  obtain ⟨a, vs, rfl, hn, hl, rs⟩ := ru.listD
  ·
    obtain ⟨h1, h2⟩ := T.all rv rs
    refine notIn_listAt (T.e b) hl.isList (fun y hy => (h1 y (by simpa using hy)).at _ _) ⟨_, μ, ?_, .bool _, M, .refl ..⟩
    have : vs.toArray.any (T.e b) = decide (b ∈ xs) := by
      rw [← any_mem, ← h2, List.any_map]; simp
    rw [this]; exact h
theorem idx_hit (vs : List Value) (e : Value → Bool) (xs : List α) (b : α) (h : vs.map e = xs.map fun x => decide (x = b)) (hb : b ∈ xs) : ∃ hj : xs.idxOf b < vs.length, e vs[xs.idxOf b] = true ∧ ∀ m (hm : m < vs.length), m < xs.idxOf b → e vs[m] = false := by
  have hl : vs.length = xs.length := by simpa using congrArg List.length h
  have hj : xs.idxOf b < xs.length := List.idxOf_lt_length_of_mem hb
  have key : ∀ m (hm : m < vs.length) (hm' : m < xs.length), e vs[m] = decide (xs[m] = b) := fun m hm hm' => by
    have : (vs.map e)[m]? = (xs.map fun x => decide (x = b))[m]? := by rw [h]
    rw [List.getElem?_map, List.getElem?_map, List.getElem?_eq_getElem hm, List.getElem?_eq_getElem hm'] at this
    simpa using this
  refine ⟨by omega, ?_, fun m hm q => ?_⟩
  · rw [key _ (by omega) hj]; simp
  · rw [key m hm (by omega), decide_eq_false_iff_not]
    intro hc
    have := List.not_of_lt_findIdx (p := (· == b)) (xs := xs) (i := m) q
    simp at this
    exact this hc
theorem AE.index (T : Atm α) {o e : Expr} {apos pos : Pos} (h : AE G n env W o ρ μ fun dl μ₁ => ∃ xs : List α, dl = .list (xs.map T.f) ∧ AE G n env W e ρ μ₁ fun d μ₂ => ∃ b, d = T.f b ∧ b ∈ xs ∧ xs.length < 2 ^ 60 ∧ K (.int (xs.idxOf b)) μ₂)
    (hbase : attributeBase o "index" env (eval o env) = eval o env := by rfl) (hs : starEach [e] env = [(false, eval e env)] := by rfl) (hline : (apos.endLine == pos.line) = true := by rfl) :
    AE G n env W (.Call (.Attribute o "index" apos) [e] [] pos) ρ μ K := fun A s rm M F => by
  refine Call_method1 hbase hs hline (h.go rm M F fun dl μ₁ ov s₁ ⟨xs, e0, k⟩ r M₁ F₁ t₁ => ?_)
  subst e0
  have r0 := r
  obtain ⟨a, vs, rfl, hn, hl, rs⟩ := r.listD
  ·
    obtain ⟨nn, hl⟩ := hl
    refine ⟨"list", "list.index", PySem.F.plainAttrs_list, PySem.F.slot_list_index, PySem.F.type_list_index, ⟨_, hl, rfl⟩, fun b eb => ⟨_, by cases eb; exact hl, rfl⟩, ?_⟩
    refine PySem.P.index_list (k.go rm M₁ F₁ fun d μ₂ v s₂ ⟨b, e3, hb, hz, kk⟩ rv M₂ F₂ t₂ => ?_)
    subst e3
    have r2 := r0.tr t₂
    obtain ⟨_, ws, e2, hn', hl', rs'⟩ := r2.listD
    ·
      obtain rfl := Value.ref.inj e2
      obtain ⟨nn', hl'⟩ := hl'
      obtain ⟨h1, h2⟩ := T.all rv rs'
      obtain ⟨hj, h3, h4⟩ := idx_hit ws (T.e b) xs b h2 hb
      have hlen : ws.length = (xs.map T.f).length := rs'.length
      rw [List.length_map] at hlen
      refine ⟨ws.toArray, nn', T.e b, xs.idxOf b, by simpa using hj, hl', fun y hy => h1 y (by simpa using hy), by omega, by simpa using h3, fun m hm q => by simpa using h4 m (by simpa using hm) q, ?_⟩
      exact ⟨_, μ₂, kk, .int _ _, M₂, (t₁.trans t₂).trans (.tok ..)⟩
end
end Mine

namespace Mine

section
variable {α : Type}
theorem swap_perm {l : List α} {i j : Nat} {x y : α} (hi : i < l.length) (hj : l[j]? = some y) (hij : i ≠ j) : ((l.set i y).set j x).Perm (l.set i x) := by
  classical
  have hj' : j < l.length := (List.getElem?_eq_some_iff.mp hj).1
  have hjv : l[j] = y := (List.getElem?_eq_some_iff.mp hj).2
  rw [List.perm_iff_count]
  intro a
  rw [List.count_set (by rw [List.length_set]; exact hj'), List.count_set hi, List.count_set hi, List.getElem_set_ne hij]
  rw [hjv]
  have h1 : 0 < List.count a l ∨ ¬ (l[i] == a) = true := by
    by_cases h : (l[i] == a) = true
    · left; rw [List.count_pos_iff]; rw [← eq_of_beq h]; exact List.getElem_mem hi
    · right; exact h
  by_cases e1 : (l[i] == a) = true <;> by_cases e2 : (y == a) = true <;> by_cases e3 : (x == a) = true <;> simp [e1, e2, e3] at h1 ⊢ <;> omega

theorem sd_perm (lt : α → α → Bool) (x : α) : ∀ (k : Nat) (l : List α) (start pos : Nat), pos ≤ k → pos < l.length → (sd lt x l start pos).Perm (l.set pos x) := by
  intro k
  induction k with
  | zero =>
    intro l start pos h hp
    rw [sd, dif_neg (by omega)]
  | succ k ih =>
    intro l start pos h hp
    rw [sd]; split
    · have hq : (pos - 1) / 2 < l.length := by omega
      rw [List.getElem?_eq_getElem hq]
      dsimp only
      split
      · refine (ih _ _ _ (by omega) (by rw [List.length_set]; exact hq)).trans ?_
        exact swap_perm hp (List.getElem?_eq_getElem hq) (by omega)
      · exact .refl _
    · exact .refl _
theorem su_perm (lt : α → α → Bool) (x : α) : ∀ (k : Nat) (l : List α) (pos : Nat), l.length - pos ≤ k → pos < l.length → ((su lt l pos).1.set (su lt l pos).2 x).Perm (l.set pos x) := by
  intro k
  induction k with
  | zero => intro l pos h hp; omega
  | succ k ih =>
    intro l pos h hp
    rw [su]
    split
    · rename_i hc
      have h1 := child_lt lt l pos hc
      have h2 := (child_ge lt l pos).1
      rw [List.getElem?_eq_getElem h1]
      dsimp only
      refine (ih (l.set pos l[child lt l pos]) (child lt l pos) (by rw [List.length_set]; omega) (by rw [List.length_set]; exact h1)).trans ?_
      exact swap_perm hp (List.getElem?_eq_getElem h1) (by omega)
    · exact .refl _
theorem sup_perm (lt : α → α → Bool) (l : List α) (pos : Nat) (x : α) (hp : pos < l.length) : (sup lt l pos x).Perm (l.set pos x) := by
  have h := su_props lt _ l pos (Nat.le_refl _) hp
  unfold sup
  refine (sd_perm lt x _ _ _ _ (Nat.le_refl _) (by rw [List.length_set, h.1]; exact h.2)).trans ?_
  rw [List.set_set]
  exact su_perm lt x _ l pos (Nat.le_refl _) hp
theorem set_self {l : List α} {pos : Nat} {x : α} (h : l[pos]? = some x) : l.set pos x = l := by
  obtain ⟨h1, h2⟩ := List.getElem?_eq_some_iff.mp h
  rw [← h2]; exact List.set_getElem_self h1

/-- heapify from place k - 1 down -/
noncomputable def hfy (lt : α → α → Bool) (l : List α) : Nat → List α
  | 0 => l
  | k + 1 => match l[k]? with
    | some x => hfy lt (sup lt l k x) k
    | none => l
theorem hfy_perm (lt : α → α → Bool) : ∀ (k : Nat) (l : List α), (hfy lt l k).Perm l
  | 0, l => .refl _
  | k + 1, l => by
    rw [hfy]
    split
    · rename_i x hx
      refine (hfy_perm lt k _).trans ?_
      refine (sup_perm lt l k x (List.getElem?_eq_some_iff.mp hx).1).trans ?_
      rw [set_self hx]
    · exact .refl _
theorem hpop_perm (lt : α → α → Bool) (l : List α) (x : α) : ((hpop lt l x).1 :: (hpop lt l x).2).Perm (l ++ [x]) := by
  cases l with
  | nil => exact .refl _
  | cons y r =>
    show (y :: sup lt (x :: r) 0 x).Perm _
    refine ((sup_perm lt (x :: r) 0 x (by simp)).cons y).trans ?_
    show (y :: (x :: r)).Perm (y :: (r ++ [x]))
    exact (List.perm_append_singleton x r).symm.cons y

/-- all taken off -/
noncomputable def offs (lt : α → α → Bool) : Nat → List α → List α
  | 0, _ => []
  | k + 1, l => match l.getLast? with
    | some x => (hpop lt l.dropLast x).1 :: offs lt k (hpop lt l.dropLast x).2
    | none => []
theorem offs_perm (lt : α → α → Bool) : ∀ (k : Nat) (l : List α), l.length = k → (offs lt k l).Perm l
  | 0, l, h => by have : l = [] := List.length_eq_zero_iff.mp h; subst this; exact .refl _
  | k + 1, l, h => by
    have hne : l ≠ [] := by intro q; subst q; cases h
    rw [offs, List.getLast?_eq_some_getLast hne]
    dsimp only
    have hp := hpop_perm lt l.dropLast (l.getLast hne)
    rw [List.dropLast_concat_getLast] at hp
    have hl := hp.length_eq
    rw [List.length_cons] at hl
    exact ((offs_perm lt k _ (by omega)).cons _).trans hp
/-- all pushed -/
noncomputable def puts (lt : α → α → Bool) (l : List α) : List α → List α
  | [] => l
  | x :: r => puts lt (sd lt x (l ++ [x]) 0 l.length) r
theorem puts_perm (lt : α → α → Bool) : ∀ (r l : List α), (puts lt l r).Perm (l ++ r)
  | [], l => by rw [puts, List.append_nil]
  | x :: r, l => by
    rw [puts]
    refine (puts_perm lt r _).trans ?_
    have := sd_perm lt x _ (l ++ [x]) 0 l.length (Nat.le_refl _) (by simp)
    rw [set_self (by simp)] at this
    have h2 := this.append_right r
    rwa [List.append_assoc] at h2

/-! mapped -/
section
variable {β : Type} {lt : α → α → Bool} {lt' : β → β → Bool} {f : α → β} (hf : ∀ a b, lt' (f a) (f b) = lt a b)
include hf
theorem sd_map (x : α) : ∀ (k : Nat) (l : List α) (start pos : Nat), pos ≤ k → sd lt' (f x) (l.map f) start pos = (sd lt x l start pos).map f := by
  intro k
  induction k with
  | zero =>
    intro l start pos h
    rw [sd, sd, dif_neg (by omega), dif_neg (by omega), List.map_set]
  | succ k ih =>
    intro l start pos h
    rw [sd, sd]; split
    · rw [List.getElem?_map]
      cases l[(pos - 1) / 2]? with
      | none => rfl
      | some p =>
        simp only [Option.map_some, hf]
        split
        · rw [← List.map_set, ih _ _ _ (by omega)]
        · rw [List.map_set]
    · rw [List.map_set]
theorem child_map (l : List α) (pos : Nat) : child lt' (l.map f) pos = child lt l pos := by
  unfold child
  rw [List.getElem?_map, List.getElem?_map]
  cases l[2 * pos + 1]? <;> cases l[2 * pos + 2]? <;> simp [hf]
theorem su_map : ∀ (k : Nat) (l : List α) (pos : Nat), l.length - pos ≤ k → su lt' (l.map f) pos = ((su lt l pos).1.map f, (su lt l pos).2) := by
  intro k
  induction k with
  | zero =>
    intro l pos h
    rw [su, su, dif_neg (by rw [List.length_map]; omega), dif_neg (by omega)]
  | succ k ih =>
    intro l pos h
    rw [su, su, List.length_map]
    split
    · rename_i hc
      rw [child_map hf, List.getElem?_map]
      have h1 := child_lt lt l pos hc
      have h2 := (child_ge lt l pos).1
      rw [List.getElem?_eq_getElem h1]
      simp only [Option.map_some]
      rw [← List.map_set, ih _ _ (by rw [List.length_set]; omega)]
    · rfl
theorem sup_map (l : List α) (pos : Nat) (x : α) : sup lt' (l.map f) pos (f x) = (sup lt l pos x).map f := by
  unfold sup
  rw [su_map hf _ _ _ (Nat.le_refl _), ← List.map_set, sd_map hf _ _ _ _ _ (Nat.le_refl _)]
theorem hfy_map : ∀ (k : Nat) (l : List α), hfy lt' (l.map f) k = (hfy lt l k).map f
  | 0, l => rfl
  | k + 1, l => by
    rw [hfy, hfy, List.getElem?_map]
    cases l[k]? with
    | none => rfl
    | some x => simp only [Option.map_some]; rw [sup_map hf, hfy_map k]
theorem hpop_map (l : List α) (x : α) : hpop lt' (l.map f) (f x) = (f (hpop lt l x).1, (hpop lt l x).2.map f) := by
  cases l with
  | nil => rfl
  | cons y r =>
    have := sup_map hf (x :: r) 0 x
    show (f y, sup lt' (f x :: r.map f) 0 (f x)) = (f y, (sup lt (x :: r) 0 x).map f)
    rw [← this]; rfl
theorem offs_map : ∀ (k : Nat) (l : List α), offs lt' k (l.map f) = (offs lt k l).map f
  | 0, l => rfl
  | k + 1, l => by
    rw [offs, offs, List.getLast?_map]
    cases l.getLast? with
    | none => rfl
    | some x => simp only [Option.map_some]; rw [← List.map_dropLast, hpop_map hf, offs_map k]; rfl
theorem puts_map : ∀ (r l : List α), puts lt' (l.map f) (r.map f) = (puts lt l r).map f
  | [], l => rfl
  | x :: r, l => by
    rw [List.map_cons, puts, puts]
    have := sd_map hf x _ (l ++ [x]) 0 l.length (Nat.le_refl _)
    rw [List.map_append, List.map_singleton] at this
    rw [List.length_map, this, puts_map r]
end
end
end Mine

namespace Mine
open PySem PySem.Calls PyProof.Rows

set_option maxHeartbeats 1000000 in
theorem heapify {G : Gx} {fa : Nat → Addr} (gl : Glo G fa) {S : D → Prop} {lt : D → D → Bool} (o : Ord S lt) {n : Nat} {a : Addr} {ds : List D} {μ : Mu} {K : D → Mu → Prop} (hS : ∀ d ∈ ds, S d) (hz : ds.length < 1000)
    (h : K .none ((a, hfy lt ds (ds.length / 2)) :: μ)) : Vn G (n + 4) (fun vs => call (.ref (fa 5)) vs) [.val (.ref a)] ((a, ds) :: μ) K := by
  refine Vn.fn (names := ["x"]) (W := ["x", "n", "i"]) (gl.fn 5) gl.lim rfl (fun pm c doc vs hv => ?_) (by decide) (by decide) ?_ (fun pm c doc L => ?_) (by rfl) (by rfl) (by rfl)
  · obtain ⟨_, rfl⟩ := len1 hv; rfl
  · intro x hx
    simp only [List.mem_cons, List.not_mem_nil, or_false] at hx
    rcases hx with rfl | rfl | rfl <;> exact .inl rfl
  · refine SE.cons (S1.assign (AE.call (AE.glob gl.glen ⟨_, rfl, .builtin _, AEs.cons (AE.var rfl (AEs.nil (Vn.lenM (.head _) (by omega) ?_)))⟩)))
    refine SE.cons (S1.for_ (fun i items ρ' μ' => ∃ l, l.length = ds.length ∧ (∀ d ∈ l, S d) ∧ Ext [("x", .val (.ref a))] ρ' ∧ μ' = (a, l) :: μ ∧ hfy lt l (ds.length / 2 - i) = hfy lt ds (ds.length / 2))
      (IS.rev gl.greversed gl.grange (AE.binop (AE.var rfl (AE.int (V2.fdiv (by decide) (by decide) ⟨ds.length / 2, by congr 1, by omega, ⟨ds, rfl, hS, .mk rfl .nil, rfl, rfl⟩, ?_, ?_⟩))))))
    · rintro i d ρ' μ' ⟨l, hl, hSl, he, rfl, hh⟩ hd
      rw [List.getElem?_map] at hd
      have hi : i < ds.length / 2 := by
        cases q : (List.range (ds.length / 2))[i]? with
        | none => rw [q] at hd; cases hd
        | some j => have := (List.getElem?_eq_some_iff.mp q).1; simpa using this
      rw [List.getElem?_range hi] at hd
      simp only [Option.map_some, Option.some.injEq] at hd
      subst hd
      refine TA.name (SE.weaken (ρ' := [("i", .int (((ds.length / 2 : Nat) : Int) - 1 - i)), ("x", .val (.ref a))]) ?_ ?_)
      · obtain ⟨k, hk⟩ : ∃ k, ds.length / 2 - i = k + 1 := ⟨ds.length / 2 - i - 1, by omega⟩
        have e1 : ((ds.length / 2 : Nat) : Int) - 1 - i = (k : Int) := by omega
        have hkl : k < l.length := by omega
        rw [e1]
        refine SE.cons (S1.expr (AE.call (AE.glob (gl.gfn 7) ⟨_, rfl, (gl.fn 7).cal, AEs.cons (AE.var rfl (AEs.cons (AE.var rfl (AEs.nil (siftup gl o (pos := k) (x := l[k]) hSl (List.getElem?_eq_getElem hkl) (by omega) ⟨rfl, SE.nil ?_⟩)))))⟩)))
        refine ⟨_, ?_, ?_, .mk rfl .nil, rfl, ?_⟩
        · rw [sup_length _ _ _ _ hkl]; exact hl
        · intro d hd
          have := (sup_perm lt l k l[k] hkl).mem_iff.mp hd
          rw [set_self (List.getElem?_eq_getElem hkl)] at this
          exact hSl d this
        · rw [hk] at hh
          rw [show ds.length / 2 - (i + 1) = k by omega, ← hh, hfy, List.getElem?_eq_getElem hkl]
      · intro x d hx
        have : Ext [("i", .int (((ds.length / 2 : Nat) : Int) - 1 - i)), ("x", .val (.ref a))] (("i", .int (((ds.length / 2 : Nat) : Int) - 1 - i)) :: ρ') := .mk rfl (.mk (by exact he "x" _ rfl) .nil)
        exact this x d hx
    · rintro ρ' μ' ⟨l, hl, hSl, he, rfl, hh⟩
      refine SE.nil ?_
      rw [List.length_map, List.length_range, Nat.sub_self] at hh
      rw [← hh] at h
      exact h

set_option maxHeartbeats 1000000 in
theorem pushed {G : Gx} {fa : Nat → Addr} (gl : Glo G fa) {S : D → Prop} {lt : D → D → Bool} (o : Ord S lt) {n : Nat} {ds : List D} {μ : Mu} {K : D → Mu → Prop} (hS : ∀ d ∈ ds, S d) (hz : ds.length < 500)
    (h : ∀ a, K (.val (.ref a)) ((a, puts lt [] ds) :: μ)) : Vn G (n + 4) (fun vs => call (.ref (fa 13)) vs) [.list ds] μ K := by
  refine Vn.fn (names := ["items"]) (W := ["items", "heap", "item"]) (gl.fn 13) gl.lim rfl (fun pm c doc vs hv => ?_) (by decide) (by decide) ?_ (fun pm c doc L => ?_) (by rfl) (by rfl) (by rfl)
  · obtain ⟨_, rfl⟩ := len1 hv; rfl
  · intro x hx
    simp only [List.mem_cons, List.not_mem_nil, or_false] at hx
    rcases hx with rfl | rfl | rfl <;> exact .inl rfl
  · refine SE.cons (S1.assign (AE.listM (AEs.nil ⟨by rw [sizeLine_eq]; simp, fun a => ?_⟩)))
    refine SE.cons (S1.for_ (fun i items ρ' μ' => ∃ l, l.length = i ∧ (∀ d ∈ l, S d) ∧ Ext [("heap", .val (.ref a))] ρ' ∧ μ' = (a, l) :: μ ∧ puts lt l (ds.drop i) = puts lt [] ds)
      (IS.list (AE.var rfl ⟨ds, rfl, ⟨[], rfl, mem_nil_off, .mk rfl .nil, rfl, rfl⟩, ?_, ?_⟩) (.name ..)))
    · rintro i d ρ' μ' ⟨l, hl, hSl, he, rfl, hh⟩ hd
      obtain ⟨hi, hd'⟩ := List.getElem?_eq_some_iff.mp hd
      refine TA.name (SE.weaken (ρ' := [("item", d), ("heap", .val (.ref a))]) ?_ ?_)
      · refine SE.cons (S1.expr (AE.call (AE.glob (gl.gfn 3) ⟨_, rfl, (gl.fn 3).cal, AEs.cons (AE.var rfl (AEs.cons (AE.var rfl (AEs.nil (heappush gl o hSl (hS d (hd' ▸ List.getElem_mem hi)) (by omega) ⟨rfl, SE.nil ?_⟩)))))⟩)))
        refine ⟨_, ?_, ?_, .mk rfl .nil, rfl, ?_⟩
        · rw [sd_length lt d _ _ _ _ (Nat.le_refl _)]; simp [hl]
        · intro e hes
          have := (sd_perm lt d _ (l ++ [d]) 0 l.length (Nat.le_refl _) (by simp)).mem_iff.mp hes
          rw [set_self (by simp)] at this
          rcases List.mem_append.mp this with q | q
          · exact hSl e q
          · rw [List.mem_singleton.mp q]; exact hS d (hd' ▸ List.getElem_mem hi)
        · rw [← hh, List.drop_eq_getElem_cons hi, hd', puts]
      · intro x d' hx
        have : Ext [("item", d), ("heap", .val (.ref a))] (("item", d) :: ρ') := .mk rfl (.mk (by exact he "heap" _ rfl) .nil)
        exact this x d' hx
    · rintro ρ' μ' ⟨l, hl, hSl, he, rfl, hh⟩
      refine SE.weaken (ρ' := [("heap", .val (.ref a))]) (SE.cons (S1.ret (AE.var rfl ?_))) he
      rw [List.drop_length, puts] at hh
      rw [hh]; exact h a

set_option maxHeartbeats 1000000 in
theorem takenOff {G : Gx} {fa : Nat → Addr} (gl : Glo G fa) {S : D → Prop} {lt : D → D → Bool} (o : Ord S lt) {n : Nat} {a : Addr} {ds : List D} {μ : Mu} {K : D → Mu → Prop} (hS : ∀ d ∈ ds, S d) (hz : ds.length < 500)
    (h : K (.list (offs lt ds.length ds)) ((a, []) :: μ)) : Vn G (n + 5) (fun vs => call (.ref (fa 12)) vs) [.val (.ref a)] ((a, ds) :: μ) K := by
  refine Vn.fn (names := ["heap"]) (W := ["heap", "off"]) (gl.fn 12) gl.lim rfl (fun pm c doc vs hv => ?_) (by decide) (by decide) ?_ (fun pm c doc L => ?_) (by rfl) (by rfl) (by rfl)
  · obtain ⟨_, rfl⟩ := len1 hv; rfl
  · intro x hx
    simp only [List.mem_cons, List.not_mem_nil, or_false] at hx
    rcases hx with rfl | rfl <;> exact .inl rfl
  · refine SE.cons (S1.assign (AE.listD (AEs.nil ⟨by rw [sizeLine_eq]; simp, ?_⟩)))
    refine SE.cons (S1.loop (σ := List D × List D) (fun st => [("off", .list st.1), ("heap", .val (.ref a))]) (fun st => (a, st.2) :: μ) (fun st => (∀ d ∈ st.2, S d) ∧ st.1.length + st.2.length = ds.length ∧ st.1 ++ offs lt st.2.length st.2 = offs lt ds.length ds) (fun st => st.2.length) ([], ds) ⟨hS, by simp, rfl⟩ (.mk rfl (.mk rfl .nil)) rfl (fun st hp => ?_))
    obtain ⟨f, l⟩ := st
    obtain ⟨hSl, hlen, hh⟩ := hp
    dsimp only at hSl hlen hh ⊢
    refine AT.cmp (AE.var rfl (AE.listD (AEs.nil ⟨by rw [sizeLine_eq]; simp, V2.neNil (.head _) ⟨_, rfl, ?_⟩⟩)))
    by_cases hne : l = []
    · subst hne
      have e1 : f = offs lt ds.length ds := by simpa [offs] using hh
      subst e1
      exact fun ρ' he => SE.weaken (SE.cons (S1.ret (AE.var rfl h))) he
    · rw [if_pos (by simpa using hne)]
      have el := List.dropLast_concat_getLast hne
      have hp := hpop_perm lt l.dropLast (l.getLast hne)
      rw [el] at hp
      have hpl := hp.length_eq
      rw [List.length_cons] at hpl
      have key : Vn G (n + 4) (fun vs => call (.ref (fa 4)) vs) [.val (.ref a)] ((a, l) :: μ) fun d μ' => d = (hpop lt l.dropLast (l.getLast hne)).1 ∧ μ' = (a, (hpop lt l.dropLast (l.getLast hne)).2) :: μ := by
        have := heappop gl o (n := n) (a := a) (ds := l.dropLast) (x := l.getLast hne) (μ := μ) (K := fun d μ' => d = (hpop lt l.dropLast (l.getLast hne)).1 ∧ μ' = (a, (hpop lt l.dropLast (l.getLast hne)).2) :: μ) (fun d hd => hSl d ((List.dropLast_sublist l).subset hd)) (hSl _ (List.getLast_mem hne)) (by rw [List.length_dropLast]; omega) ⟨rfl, rfl⟩
        rw [el] at this
        exact this
      refine SE.cons (S1.assign (AE.binop (AE.var rfl (AE.listD (AEs.cons (AE.call (AE.glob (gl.gfn 4) ⟨_, rfl, (gl.fn 4).cal, AEs.cons (AE.var rfl (AEs.nil ?_))⟩)))))))
      refine fun A s vs rm M rs => wpAny_mono (key A s vs rm M rs) ?_ fun _ _ z => z
      rintro v s' ⟨d, μ', ⟨rfl, rfl⟩, r, M', t⟩
      refine ⟨_, _, AEs.nil ⟨by rw [sizeLine_eq]; simp, V2.ladd (by rw [sizeLine_eq]; simp; omega) (SE.nil ?_)⟩, r, M', t⟩
      refine ⟨(f ++ [(hpop lt l.dropLast (l.getLast hne)).1], (hpop lt l.dropLast (l.getLast hne)).2), ⟨fun d hd => hSl d (hp.mem_iff.mp (.tail _ hd)), by simp; omega, ?_⟩, by show (hpop lt l.dropLast (l.getLast hne)).2.length < l.length; omega, .mk rfl (.mk rfl .nil), rfl⟩
      dsimp only
      obtain ⟨k, hk⟩ : ∃ k, l.length = k + 1 := ⟨l.length - 1, by have := List.length_pos_iff.mpr hne; omega⟩
      rw [← hh, hk, offs, List.getLast?_eq_some_getLast hne]
      have : (hpop lt l.dropLast (l.getLast hne)).2.length = k := by omega
      rw [this]; simp
end Mine

namespace Mine
open PySem PySem.Calls PyProof.Rows

theorem ints_of_rep {X : List Addr} {h : Heap} : ∀ {vs : List Value} {ns : List Int}, RepL X h vs (ns.map .int) → IntsAre vs ns
  | [], [], _ => .nil
  | [], _ :: _, r => by (first | obtain ⟨_, rfl⟩ := r.intD | obtain ⟨_, rfl⟩ := r.bytesD | obtain ⟨_, rfl⟩ := r.strD | obtain rfl := r.boolD | obtain rfl := r.valD | obtain rfl := r.noneD | cases r)
  | _ :: _, [], r => by (first | obtain ⟨_, rfl⟩ := r.intD | obtain ⟨_, rfl⟩ := r.bytesD | obtain ⟨_, rfl⟩ := r.strD | obtain rfl := r.boolD | obtain rfl := r.valD | obtain rfl := r.noneD | cases r)
  | v :: vs, x :: xs, r => by
    cases r with
    | cons r rs => (first | obtain ⟨_, rfl⟩ := r.intD | obtain ⟨_, rfl⟩ := r.bytesD | obtain ⟨_, rfl⟩ := r.strD | obtain rfl := r.boolD | obtain rfl := r.valD | obtain rfl := r.noneD | cases r); exact .cons _ _ (ints_of_rep rs)
theorem rep_of_ints {X : List Addr} {h : Heap} : ∀ {vs : List Value} {ns : List Int}, IntsAre vs ns → RepL X h vs (ns.map .int)
  | _, _, .nil => .nil
  | _, _, .cons n t r => .cons (.int _ _) (rep_of_ints r)

section
variable {G : Gx} {n : Nat} {env : Env} {W : List Str} {ρ : Rho} {μ : Mu} {K : D → Mu → Prop}
theorem Vn.sorted {xs : List Int} (hz : xs.length < 64) (h : ∀ ys : List Int, ys.Perm xs → ys.Pairwise (· ≤ ·) → K (.list (ys.map .int)) μ) : Vn G n (fun vs => call (.builtin "sorted") vs) [.list (xs.map .int)] μ K := fun A s vs rm M rs => by
  cases rs with
  | cons r rs =>
    cases rs
    obtain ⟨a, vs, rfl, hn, hl, rs⟩ := r.listD
    ·
      have hI := ints_of_rep rs
      have := rs.length
      refine sorted_ints hl.isList hI (by rw [this, List.length_map]; exact hz) fun out ns' a1 a2 a3 => ?_
      obtain ⟨e, he⟩ := sortedAll_at s.heap vs out
      have hk : ∀ b o, s.heap.get? b = some o → (sortedAll s.heap vs out).get? b = some o := fun _ _ => sortedAll_old
      have hdead : s.heap.get? (s.heap.objs.size + 1) = none := Heap.get?_none_of_le (by omega)
      refine ⟨_, μ, h ns' a2 a3, .list (M.dead hdead).1 (vs := out.toList) ⟨e, by simpa [seqObj] using he⟩ (rep_of_ints a1), M.keep hk, .keep hk⟩

/-- value[:hi] -/
theorem AE.cutTo {value hi : Expr} {p pos : Pos} (h : AE G n env W value ρ μ fun d μ₁ => AE G n env W hi ρ μ₁ fun dh μ₂ => ∃ (xs : List D) (k : Nat), d = .list xs ∧ dh = .int k ∧ xs.length ≤ sizeLine ∧ K (.list (xs.take k)) μ₂)
    (ht : ∀ o r, letTemporaryGo value o r = pure () := by intro _ _; rfl) : AE G n env W (.Subscript value (.Slice none (some hi) none p) pos) ρ μ K := fun A s rm M F => by
  refine wpAny_Subscript_list_slice (h.go rm M F fun d μ₁ v s₁ k₁ r M₁ F₁ t₁ => evalPart_none_step (evalPart_some_step (k₁.go rm M₁ F₁ fun dh μ₂ vh s₂ ⟨xs, k, e1, e2, hz, kk⟩ rh M₂ F₂ t₂ => ?_))) ht
  subst e1 e2
  have r2 := r.tr t₂
  obtain ⟨a, vs, rfl, hn, hl, rs⟩ := r2.listD
  ·
    (first | obtain ⟨_, rfl⟩ := rh.intD | obtain ⟨_, rfl⟩ := rh.bytesD | obtain ⟨_, rfl⟩ := rh.strD | obtain rfl := rh.boolD | obtain rfl := rh.valD | obtain rfl := rh.noneD | cases rh)
    rename_i t
    have hk : ∀ b o, s₂.heap.get? b = some o → ((s₂.heap.push { cls := .type "slice", data := .fields #[.none, .int (k : Int) t, .none] }).push { cls := .type "list", data := .seq (slicePick vs.toArray none (some (k : Int)) none) }).get? b = some o := fun b o e => Heap.get?_push_of_some _ (Heap.get?_push_of_some _ e)
    have kx : KX [] s₂.heap _ := .of_keep hk
    have hdead : s₂.heap.get? (s₂.heap.objs.size + 1) = none := Heap.get?_none_of_le (by omega)
    refine ⟨a, vs.toArray, none, some (k : Int), rfl, hl.isList, by rw [List.size_toArray, rs.length]; exact hz, .none, .int _ _, _, μ₂, kk, .list (M₂.dead hdead).1 (vs := vs.take k) ⟨0, ?_⟩ ((rs.take k).move kx mem_nil_off fun _ z => .inl z), M₂.keep hk, (t₁.trans t₂).trans (.keep hk)⟩
    have := Heap.get?_push_size (s₂.heap.push { cls := .type "slice", data := .fields #[.none, .int (k : Int) t, .none] }) (o := { cls := .type "list", data := .seq (slicePick vs.toArray none (some (k : Int)) none) }) rfl
    rw [Heap.size_push] at this
    rw [this, slicePick_upto']
end

set_option maxHeartbeats 1000000 in
theorem threeWay {G : Gx} {fa : Nat → Addr} (gl : Glo G fa) {n : Nat} {x y : List UInt8} {μ : Mu} {K : D → Mu → Prop} (h : K (.int ((if blt y x then 1 else 0) - (if blt x y then 1 else 0))) μ) : Vn G (n + 1) (fun vs => call (.ref (fa 10)) vs) [.bytes x, .bytes y] μ K := by
  refine Vn.fn (names := ["x", "y"]) (W := ["x", "y"]) (gl.fn 10) gl.lim rfl (fun pm c doc vs hv => ?_) (by decide) (by decide) ?_ (fun pm c doc L => ?_) (by rfl) (by rfl) (by rfl)
  · obtain ⟨_, _, rfl⟩ := len2 hv; rfl
  · intro x hx
    simp only [List.mem_cons, List.not_mem_nil, or_false] at hx
    rcases hx with rfl | rfl <;> exact .inl rfl
  · exact SE.cons (S1.ret (AE.binop (AE.cmp (AE.var rfl (AE.var rfl (V2.bgt (AE.cmp (AE.var rfl (AE.var rfl (V2.blt (V2.bsub h)))))))))))

noncomputable def dI (l : List Nat) : D := .list (l.map fun i : Nat => .int i)

set_option maxHeartbeats 1000000 in
theorem figures {G : Gx} {fa : Nat → Addr} (gl : Glo G fa) {n : Nat} {a : Nat} {μ : Mu} {K : D → Mu → Prop} (ha : a < 16 ^ 1000) (h : K (dI (digs a)) μ) : Vn G (n + 1) (fun vs => call (.ref (fa 14)) vs) [.int a] μ K := by
  refine Vn.fn (names := ["number"]) (W := ["number", "figures"]) (gl.fn 14) gl.lim rfl (fun pm c doc vs hv => ?_) (by decide) (by decide) ?_ (fun pm c doc L => ?_) (by rfl) (by rfl) (by rfl)
  · obtain ⟨_, rfl⟩ := len1 hv; rfl
  · intro x hx
    simp only [List.mem_cons, List.not_mem_nil, or_false] at hx
    rcases hx with rfl | rfl <;> exact .inl rfl
  · refine SE.cons (S1.assign (AE.listD (AEs.nil ⟨by rw [sizeLine_eq]; simp, ?_⟩)))
    refine SE.cons (S1.loop (σ := Nat × List Nat) (fun st => [("number", .int st.1), ("figures", dI st.2)]) (fun _ => μ) (fun st => digs st.1 ++ st.2 = digs a) (fun st => st.1) (a, []) (by simp) (.mk rfl (.mk rfl .nil)) rfl (fun st hp => ?_))
    obtain ⟨m, v⟩ := st
    have hlen : (digs a).length ≤ 1000 := digs_length _ _ ha
    have hv : v.length ≤ 1000 := by rw [← hp, List.length_append] at hlen; exact Nat.le_trans (Nat.le_add_left _ _) hlen
    refine AT.cmp (AE.var rfl (AE.int (V2.gt ⟨_, rfl, ?_⟩)))
    by_cases hm : m = 0
    · subst hm
      have e : v = digs a := by simpa [digs_zero] using hp
      subst e
      exact fun ρ' he => SE.weaken (SE.cons (S1.ret (AE.var rfl h))) he
    · have hd : decide ((0 : Int) < (m : Int)) = true := by simp; omega
      rw [hd]
      show SE ..
      refine SE.cons (S1.swap (AE.tupleD (AEs.cons (AE.binop (AE.listD (AEs.cons (AE.binop (AE.var rfl (AE.int (V2.mod (by decide) ?_))))))))))
      refine AEs.nil ⟨by rw [sizeLine_eq]; simp, AE.var rfl (V2.ladd (by rw [sizeLine_eq]; simp; omega) (AEs.cons (AE.binop (AE.var rfl (AE.int (V2.fdiv (by decide) (by decide) ?_))))))⟩
      refine AEs.nil ⟨by rw [sizeLine_eq]; simp, _, _, rfl, SE.nil ?_⟩
      refine ⟨(m / 16, [m % 16] ++ v), ?_, ?_, .mk rfl (.mk rfl .nil), rfl⟩
      · rw [← hp, digs_pos hm]; simp
      · show m / 16 < m; omega
end Mine

namespace Mine
open PySem PySem.Calls PyProof.Rows

theorem sort_two {a b : Int} {ys : List Int} (hp : ys.Perm [a, b]) (hs : ys.Pairwise (· ≤ ·)) : ys = [min a b, max a b] := by
  match ys, hp.length_eq with
  | [x, y], _ =>
    have h1 : x ≤ y := by simpa using hs
    have hx : x = a ∨ x = b := by have := hp.mem_iff (a := x); simpa using this.mp (.head _)
    have ha : a = x ∨ a = y := by have := hp.mem_iff (a := a); simpa using this.mpr (.head _)
    have hb : b = x ∨ b = y := by have := hp.mem_iff (a := b); simpa using this.mpr (.tail _ (.head _))
    have hy : y = a ∨ y = b := by have := hp.mem_iff (a := y); simpa using this.mp (.tail _ (.head _))
    congr 1
    · omega
    · congr 1; omega
noncomputable def tn (a b : Nat) : Bool := decide (max a b / 16 ^ ((digs (max a b)).length - (digs (min a b)).length) < min a b)
theorem digs_mono : ∀ (k a b : Nat), b ≤ k → a ≤ b → (digs a).length ≤ (digs b).length := by
  intro k
  induction k with
  | zero => intro a b h1 h2; have : a = 0 := by omega
            have : b = 0 := by omega
            subst a b; exact Nat.le_refl _
  | succ k ih =>
    intro a b h1 h2
    by_cases ha : a = 0
    · subst ha; rw [digs_zero]; simp
    · have hb : b ≠ 0 := by omega
      rw [digs_pos ha, digs_pos hb, List.length_append, List.length_append]
      have := ih (a / 16) (b / 16) (by omega) (Nat.div_le_div_right h2)
      simp; omega

set_option maxHeartbeats 1000000 in
theorem turnedP {G : Gx} {fa : Nat → Addr} (gl : Glo G fa) {n : Nat} {a b : Nat} {μ : Mu} {K : D → Mu → Prop} (ha : a < 2 ^ 40) (hb : b < 2 ^ 40) (h : K (.bool (tn a b)) μ) : Vn G (n + 2) (fun vs => call (.ref (fa 16)) vs) [.int a, .int b] μ K := by
  refine Vn.fn (names := ["one", "two"]) (W := ["one", "two", "short", "long", "front"]) (gl.fn 16) gl.lim rfl (fun pm c doc vs hv => ?_) (by decide) (by decide) ?_ (fun pm c doc L => ?_) (by rfl) (by rfl) (by rfl)
  · obtain ⟨_, _, rfl⟩ := len2 hv; rfl
  · intro x hx
    simp only [List.mem_cons, List.not_mem_nil, or_false] at hx
    rcases hx with rfl | rfl | rfl | rfl | rfl <;> exact .inl rfl
  · refine SE.cons (S1.unpack (AE.call (AE.glob gl.gsorted ⟨_, rfl, .builtin _, AEs.cons (AE.listD (AEs.cons (AE.var rfl (AEs.cons (AE.var rfl (AEs.nil ⟨by rw [sizeLine_eq]; simp, AEs.nil (Vn.sorted (xs := [(a : Int), (b : Int)]) (by simp) fun ys hp hs => ?_)⟩))))))⟩)))
    have := sort_two hp hs
    subst this
    have e1 : min (a : Int) (b : Int) = ((min a b : Nat) : Int) := by omega
    have e2 : max (a : Int) (b : Int) = ((max a b : Nat) : Int) := by omega
    rw [e1, e2]
    have h1 : min a b < 16 ^ 10 := by omega
    have h2 : max a b < 16 ^ 10 := by omega
    have l2 := digs_length _ _ h2
    have l1 := digs_mono _ (min a b) (max a b) (Nat.le_refl _) (by omega)
    generalize hs : min a b = s at *
    generalize hl : max a b = l at *
    have big : ∀ m : Nat, m < 16 ^ 10 → m < 16 ^ 1000 := fun m hm => Nat.lt_of_lt_of_le hm (Nat.pow_le_pow_right (by decide) (by decide))
    refine ⟨_, _, .inr rfl, ?_⟩
    show SE ..
    refine SE.cons (S1.assign (AE.binop (AE.var rfl (AE.binop (AE.int (AE.binop (AE.call (AE.glob gl.glen ⟨_, rfl, .builtin _, AEs.cons (AE.call (AE.glob (gl.gfn 14) ⟨_, rfl, (gl.fn 14).cal, AEs.cons (AE.var rfl (AEs.nil (figures gl (big _ h2) (AEs.nil (Vn.lenL ?_ ?_)))))⟩))⟩))))))))
    · rw [List.length_map]; omega
    refine AE.call (AE.glob gl.glen ⟨_, rfl, .builtin _, AEs.cons (AE.call (AE.glob (gl.gfn 14) ⟨_, rfl, (gl.fn 14).cal, AEs.cons (AE.var rfl (AEs.nil (figures gl (big _ h1) (AEs.nil (Vn.lenL ?_ (V2.sub ?_))))))⟩))⟩)
    · rw [List.length_map]; omega
    rw [List.length_map, List.length_map]
    have e3 : ((digs l).length : Int) - ((digs s).length : Int) = (((digs l).length - (digs s).length : Nat) : Int) := by omega
    rw [e3]
    generalize hk : (digs l).length - (digs s).length = k
    refine V2.pow16 (by omega) (V2.fdiv ?_ ?_ ?_)
    · exact Int.pow_pos (by decide)
    · have e4 : ((16 : Int) ^ k).natAbs = 16 ^ k := by rw [Int.natAbs_pow]; rfl
      rw [e4, Nat.log2_lt (Nat.ne_of_gt (Nat.pow_pos (by decide)))]
      exact Nat.lt_of_le_of_lt (Nat.pow_le_pow_right (by decide) (show k ≤ 10 by omega)) (by decide)
    · refine SE.cons (S1.ret (AE.cmp (AE.var rfl (AE.var rfl (V2.gt ?_)))))
      have e5 : (l : Int) / 16 ^ k = ((l / 16 ^ k : Nat) : Int) := by push_cast; rfl
      rw [e5]
      unfold tn at h
      rw [hl, hs, hk] at h
      have e6 : decide (((l / 16 ^ k : Nat) : Int) < (s : Int)) = decide (l / 16 ^ k < s) := by
        rw [decide_eq_decide]; omega
      rw [e6]; exact h

noncomputable def onI (o : Nat → List D) : D → List D
  | .int i => o i.toNat
  | _ => []
theorem onI_flat (o : Nat → List D) (xs : List Nat) : (xs.map fun i : Nat => D.int i).flatMap (onI o) = xs.flatMap o := by
  induction xs with
  | nil => rfl
  | cons x xs ih => rw [List.map_cons, List.flatMap_cons, List.flatMap_cons, ih]; rfl
noncomputable def once (xs : List Int) : List Int := (List.range xs.length).flatMap fun k => if xs.getD k 0 ∈ xs.take k then [] else [xs.getD k 0]
theorem once_length (xs : List Int) : (once xs).length ≤ xs.length := by
  unfold once
  suffices h : ∀ ks : List Nat, (ks.flatMap fun k => if xs.getD k 0 ∈ xs.take k then [] else [xs.getD k 0]).length ≤ ks.length by
    simpa using h (List.range xs.length)
  intro ks
  induction ks with
  | nil => exact Nat.le_refl _
  | cons k ks ih =>
    rw [List.flatMap_cons, List.length_append, List.length_cons]
    split
    · rw [List.length_nil]; omega
    · rw [List.length_singleton]; omega

set_option maxHeartbeats 1000000 in
theorem onceP {G : Gx} {fa : Nat → Addr} (gl : Glo G fa) {n : Nat} {xs : List Int} {μ : Mu} {K : D → Mu → Prop} (hz : xs.length < 500) (h : K (.list ((once xs).map .int)) μ) : Vn G (n + 1) (fun vs => call (.ref (fa 17)) vs) [.list (xs.map .int)] μ K := by
  refine Vn.fn (names := ["numbers"]) (W := ["numbers"]) (gl.fn 17) gl.lim rfl (fun pm c doc vs hv => ?_) (by decide) (by decide) ?_ (fun pm c doc L => ?_) (by rfl) (by rfl) (by rfl)
  · obtain ⟨_, rfl⟩ := len1 hv; rfl
  · intro x hx
    simp only [List.mem_cons, List.not_mem_nil, or_false] at hx
    subst hx; exact .inr rfl
  · have hl : (xs.map D.int).length = xs.length := List.length_map ..
    let o : Nat → List D := fun k => if xs.getD k 0 ∈ xs.take k then [] else [.int (xs.getD k 0)]
    have ho : (List.range xs.length).flatMap o = (once xs).map .int := by
      unfold once
      rw [List.map_flatMap]
      congr 1
      funext k
      show (if _ then _ else _) = List.map _ (if _ then _ else _)
      split <;> rfl
    refine SE.cons (S1.ret (AE.comp (Wc := ["k"]) (ρc := [("numbers", .list (xs.map .int))]) (onI o) (IS.range gl.grange (AE.call (AE.glob gl.glen ⟨_, rfl, .builtin _, AEs.cons (AE.var rfl (AEs.nil (Vn.lenL (by omega) ⟨xs.length, by rw [hl], by omega, ⟨?_, fun C a os d hd => ?_⟩, ?_⟩)))⟩))) ?_ ?_ ?_))
    · rw [onI_flat, ho, sizeLine_eq, List.length_map]
      have := once_length xs; omega
    · obtain ⟨k, hk, rfl⟩ := List.mem_map.mp hd
      have hk' : k < xs.length := by simpa using hk
      have hg : (xs.map D.int)[k]? = some (.int (xs.getD k 0)) := by
        rw [List.getElem?_map, List.getElem?_eq_getElem hk']; simp [List.getD, hk']
      refine TA.name ⟨.cons rfl (.refl _), ?_⟩
      refine TestsA.one (AT.cmp (AE.item (AE.var rfl (AE.var rfl ⟨_, (k : Int), _, .inl rfl, rfl, by omega, by omega, by exact hg, AE.cutTo (AE.var rfl (AE.var rfl ⟨_, k, rfl, rfl, by rw [sizeLine_eq, hl]; omega, ?_⟩))⟩))))
      rw [← List.map_take]
      refine V2.notIn atI ⟨_, rfl, rfl, ?_⟩
      by_cases hin : xs.getD k 0 ∈ xs.take k
      · rw [if_neg (by simpa using hin)]
        show (if _ then _ else _) = []
        exact if_pos hin
      · rw [if_pos (by simpa using hin)]
        refine ⟨.int (xs.getD k 0), if_neg hin, AE.item (AE.var rfl (AE.var rfl ⟨_, (k : Int), _, .inl rfl, rfl, by omega, by omega, by exact hg, rfl, rfl⟩))⟩
    · rw [onI_flat, ho]; exact h
    · exact ⟨⟨rfl, rfl, rfl, fun C => rfl⟩, trivial⟩
    · intro x hx
      simp only [List.mem_cons, List.not_mem_nil, or_false] at hx
      subst hx; exact .inl rfl
    · decide
end Mine

namespace Mine
open PySem PySem.Calls PyProof.Rows

/-- data that live in no object -/
noncomputable def Flat : D → Prop
  | .list _ => False
  | .tuple _ => False
  | _ => True
theorem Rep.flat {X X' : List Addr} {h h' : Heap} {v : Value} {d : D} (r : Rep X h v d) (f : Flat d) : Rep X' h' v d := by
  cases r with
  | val v => exact .val v
  | none => exact .none
  | bool b => exact .bool b
  | int i t => exact .int i t
  | str x t => exact .str x t
  | bytes l t => exact .bytes l t
  | list => cases f
  | tuple => cases f
theorem RepL.flat {X X' : List Addr} {h h' : Heap} {vs : List Value} {ds : List D} (r : RepL X h vs ds) : (∀ d ∈ ds, Flat d) → RepL X' h' vs ds :=
  r.ind (P := fun vs ds => (∀ d ∈ ds, Flat d) → RepL X' h' vs ds) (fun _ => .nil) fun r _ p f => .cons (r.flat (f _ (.head _))) (p fun d hd => f d (.tail _ hd))
noncomputable def FlatMu (μ : Mu) : Prop := ∀ p ∈ μ, ∀ d ∈ p.2, Flat d

noncomputable def OddZ (B h : Heap) (b : Addr) : Prop := B.get? b = none ∧ ∀ o, h.get? b = some o → (∀ es ep, o.data ≠ .dict es ep) ∧ ∀ v, o.data ≠ .cell v
theorem OddZ.ns {B h : Heap} {b : Addr} {m : Str → Option Value} (x : OddZ B h b) (n : h.Ns b m) : False := by
  obtain ⟨o, es, ep, ho, hd, _⟩ := n; exact (x.2 o ho).1 es ep hd
theorem OddZ.cell {B h : Heap} {b : Addr} {v : Option Value} (x : OddZ B h b) (n : h.IsCell b v) : False := by
  obtain ⟨o, ho, hd⟩ := n; exact (x.2 o ho).2 v hd

section
variable {A : Around} {B h h' : Heap} {μ : Mu} {wr : List Addr}
theorem MuOk.oddZ (M : MuOk A B μ h) (fl : FlatMu μ) (hw : ∀ b ∈ wr, OddZ B h b) (hx : ∀ b ∈ wr, b ∉ keys μ) (k : ∀ b o, b ∉ wr → h.get? b = some o → h'.get? b = some o) : MuOk A B μ h' := by
  refine ⟨fun b o e => k b o (fun q => by rw [(hw b q).1] at e; cases e) (M.base b o e), M.off, fun p hp => ?_, M.nd, ?_⟩
  · obtain ⟨vs, ⟨n, hl⟩, r⟩ := M.mus p hp
    exact ⟨vs, ⟨n, k _ _ (fun q => hx _ q (List.mem_map.mpr ⟨p, hp, rfl⟩)) hl⟩, r.flat (fl p hp)⟩
  · obtain ⟨l, h1, h2⟩ := M.ff
    refine ⟨l, h1, fun env he => ?_⟩
    obtain ⟨hk, L, m, hf, hb, hn⟩ := h2 env he
    refine ⟨hk, L, m, hf, hb, ?_⟩
    have hL : L ∉ wr := fun q => (hw L q).ns hn
    obtain ⟨o, es, ep, ho, r⟩ := hn
    exact ⟨o, es, ep, k _ _ hL ho, r⟩
theorem FrOk.oddZ {env : Env} {W : List Str} {X : List Addr} (F : FrOk B env W [] X h) (hw : ∀ b ∈ wr, OddZ B h b) (k : ∀ b o, b ∉ wr → h.get? b = some o → h'.get? b = some o) : FrOk B env W [] X h' := by
  have kn : ∀ {a : Addr} {m : Str → Option Value}, h.Ns a m → h'.Ns a m := fun {a m} hn => by
    have hL : a ∉ wr := fun q => (hw a q).ns hn
    obtain ⟨o, es, ep, ho, r⟩ := hn
    exact ⟨o, es, ep, k _ _ hL ho, r⟩
  have kc : ∀ {a : Addr} {v : Option Value}, h.IsCell a v → h'.IsCell a v := fun {a m} hn => by
    have hL : a ∉ wr := fun q => (hw a q).cell hn
    obtain ⟨o, ho, r⟩ := hn
    exact ⟨o, k _ _ hL ho, r⟩
  refine ⟨F.kind, ?_, F.lo, F.gl, F.bu, F.inj, fun x c hc => let ⟨v, hv⟩ := F.cel x c hc; ⟨v, kc hv⟩, fun x hx' => ?_, fun x d e => by cases e⟩
  · obtain ⟨m, hn⟩ := F.ns; exact ⟨m, kn hn⟩
  · rcases F.stor x hx' with q | ⟨q, c, hc, hb, v, hv⟩
    · exact .inl q
    · exact .inr ⟨q, c, hc, hb, v, kc hv⟩
end

/-- a source that writes a tuple of its own -/
structure ItZ (G : Gx) (A : Around) (target : Expr) (I : Addr) (fp wr : List Addr) (P Md : Nat → Value → Heap → Prop) (St : Nat → Heap → Prop) (μ : Mu) (h : Heap) (items : List D) : Prop where
  turns : PySem.W.KTurns PySem.Challenge.rw_oy0054_01.row.prog G.w A target I fp wr items.length P Md St
  self : ∀ i (s : Shared) (Q : Value → Shared → Prop) (E : Value → Shared → Prop), St i s.heap → Q (.ref I) s → wpAny (Mo G.w) A (pyIter (.ref I)) Q E s
  start : St 0 h
  live : ∀ b ∈ fp, h.get? b ≠ none ∧ b ∉ keys μ
  kinds : ∀ i h', St i h' → ∀ b ∈ fp, ∀ o, h'.get? b = some o → (∀ es ep, o.data ≠ .dict es ep) ∧ ∀ v, o.data ≠ .cell v
  kindsM : ∀ i v h', Md i v h' → ∀ b ∈ wr, ∀ o, h'.get? b = some o → (∀ es ep, o.data ≠ .dict es ep) ∧ ∀ v, o.data ≠ .cell v
  vals : ∀ i v h' d, P i v h' → items[i]? = some d → Rep [] h' v d ∧ ∃ a ds, d = .tuple ds ∧ v = .ref a ∧ (∀ e ∈ ds, Flat e)
noncomputable def ISZ (G : Gx) (n : Nat) (env : Env) (W : List Str) (target iter : Expr) (ρ : Rho) (μ : Mu) (K : List D → Mu → Prop) : Prop :=
  ∀ A s, Rm n A → MuOk A G.B μ s.heap → FrOk G.B env W ρ (keys μ) s.heap →
    wpAny (Mo G.w) A (eval iter env) (fun x s₁ => wpAny (Mo G.w) A (pyIter x) (fun it s₂ => ∃ items μ' I fp wr P Md St, K items μ' ∧ it = .ref I ∧ MuOk A G.B μ' s₂.heap ∧ Tr (keys μ) (keys μ') s s₂ ∧
      ItZ G A target I fp wr P Md St μ' s₂.heap items ∧ ∀ b ∈ wr, b ∈ keys μ ∨ s.heap.get? b = none) (fun _ _ => False) s₁) (fun _ _ => False) s
theorem ItZ.push {G : Gx} {A : Around} {target : Expr} {I : Addr} {fp wr : List Addr} {P Md : Nat → Value → Heap → Prop} {St : Nat → Heap → Prop} {μ : Mu} {h h' : Heap} {items : List D} {acc : Addr} {os : List D}
    (it : ItZ G A target I fp wr P Md St μ h items) (k : ∀ b o, h.get? b = some o → h'.get? b = some o) (hd : h.get? acc = none) : ItZ G A target I fp wr P Md St ((acc, os) :: μ) h' items where
  turns := it.turns
  self := it.self
  start := it.turns.frame 0 h h' it.start fun b _ o e => k b o e
  live := fun b hb => by
    obtain ⟨h1, h2⟩ := it.live b hb
    cases q : h.get? b with
    | none => exact absurd q h1
    | some o =>
      refine ⟨live_of (k b o q), fun z => ?_⟩
      rcases List.mem_cons.mp z with z | z
      · have z' : b = acc := z
        subst z'; rw [hd] at q; cases q
      · exact h2 z
  kinds := it.kinds
  kindsM := it.kindsM
  vals := it.vals

theorem rep_tuple_off {A : Around} {B h : Heap} {μ : Mu} {v : Value} {d : D} (M : MuOk A B μ h) (r : Rep [] h v d) (q : ∃ a ds, d = .tuple ds ∧ v = .ref a ∧ (∀ e ∈ ds, Flat e)) : Rep (keys μ) h v d := by
  obtain ⟨a, ds, rfl, rfl, fl⟩ := q
  obtain ⟨_, _, ea, hn, hl, rs⟩ := r.tupleD
  ·
    obtain rfl := Value.ref.inj ea
    refine .tuple (fun hm => ?_) hl (rs.flat fl)
    obtain ⟨p, hp, rfl⟩ := List.mem_map.mp hm
    obtain ⟨vs, ⟨n, e⟩, _⟩ := M.mus p hp
    obtain ⟨o', e', c, _⟩ := hl
    rw [e] at e'
    injection e' with e'
    subst e'
    have c' : (Value.type "list") = Value.type "tuple" := c
    exact absurd c' (by decide)

theorem comp_loopZ {G : Gx} {n : Nat} {A : Around} {s : Shared} {elt : Expr} {gens : List Comprehension} {scope : Scope} {epos : Pos} {depth : Nat} {target : Expr} {ifs : List Expr} {cenv : Env} {Wc : List Str} {μ : Mu} {I acc : Addr} {fp wr : List Addr} {P Md : Nat → Value → Heap → Prop}
    {St : Nat → Heap → Prop} {items : List D} {body : Sem Unit} {R : Result → Shared → Prop} (ht : TurnIs (.ListComp elt gens scope epos) depth target ifs (.ref I) (.ref acc) cenv body) (rm : Rm n A)
    (it : ItZ G A target I fp wr P Md St ((acc, []) :: μ) s.heap items) (hB : ∀ b ∈ wr, G.B.get? b = none) (hown : ∀ b ∈ fp, b ∉ ownA cenv Wc) (out : D → List D) (hfl : FlatMu μ) (hout : ∀ d ∈ items, ∀ e ∈ out d, Flat e)
    (M : MuOk A G.B ((acc, []) :: μ) s.heap) (F : FrOk G.B cenv Wc [] (keys ((acc, []) :: μ)) s.heap)
    (turn : ∀ i d os, items[i]? = some d → os = (items.take i).flatMap out → TA G n cenv Wc target d [] ((acc, os) :: μ) fun ρ' => Ext [] ρ' ∧ TestsA G n cenv Wc ifs ρ' ((acc, os) :: μ) fun b =>
      if b then BA G n cenv Wc body ρ' ((acc, os) :: μ) ((acc, os ++ out d) :: μ) [] else out d = [])
    (hR : ∀ s', MuOk A G.B ((acc, items.flatMap out) :: μ) s'.heap → FrOk G.B cenv Wc [] (keys ((acc, []) :: μ)) s'.heap → Tr (wr ++ (ownA cenv Wc ++ keys ((acc, []) :: μ))) (wr ++ (ownA cenv Wc ++ keys ((acc, []) :: μ))) s s' → R (.ok .next) s') :
    codeAny (Mo G.w) A (.compLoop (.ListComp elt gens scope epos) depth (.ref I) (.ref acc) cenv) R s := by
  have oddS : ∀ i h', St i h' → ∀ b ∈ wr, OddZ G.B h' b := fun i h' st b hb => ⟨hB b hb, it.kinds i h' st b (it.turns.sub b hb)⟩
  have oddMd : ∀ i v h', Md i v h' → ∀ b ∈ wr, OddZ G.B h' b := fun i v h' st b hb => ⟨hB b hb, it.kindsM i v h' st b hb⟩
  have wk : ∀ os, ∀ b ∈ wr, b ∉ keys ((acc, os) :: μ) := fun os b hb => (it.live b (it.turns.sub b hb)).2
  have fl : ∀ i, FlatMu ((acc, (items.take i).flatMap out) :: μ) := fun i p hp d hd => by
    rcases List.mem_cons.mp hp with q | q
    · subst q
      obtain ⟨x, hx, hdx⟩ := List.mem_flatMap.mp hd
      exact hout x (List.mem_of_mem_take hx) d hdx
    · exact hfl p q d hd
  have fpk : ∀ b ∈ fp, b ∉ ownA cenv Wc ++ keys ((acc, []) :: μ) := fun b hb q => (List.mem_append.mp q).elim (hown b hb) (it.live b hb).2
  refine compLoop_any ht (fun k s' => ∃ i, i ≤ items.length ∧ k = items.length + 1 - i ∧ St i s'.heap ∧ MuOk A G.B ((acc, (items.take i).flatMap out) :: μ) s'.heap ∧ FrOk G.B cenv Wc [] (keys ((acc, []) :: μ)) s'.heap ∧
    Tr (wr ++ (ownA cenv Wc ++ keys ((acc, []) :: μ))) (wr ++ (ownA cenv Wc ++ keys ((acc, []) :: μ))) s s') ?_ (items.length + 1) ⟨0, Nat.zero_le _, rfl, it.start, by simpa using M, F, .refl ..⟩
  rintro k s' ⟨i, hi, rfl, hst, M', F', t'⟩
  by_cases hlt : i < items.length
  · refine it.turns.item i _ _ _ hlt hst fun v h₁ tk₁ hMd hk₁ => ?_
    have M₁ := M'.oddZ (fl i) (oddS i _ hst) (wk _) hk₁
    have F₁ := F'.oddZ (oddS i _ hst) hk₁
    refine it.turns.go i v _ _ _ hMd fun h₂ hP hst₂ hk₂ => ?_
    have M₃ := M₁.oddZ (fl i) (oddMd i v _ hMd) (wk _) hk₂
    have F₃ := F₁.oddZ (oddMd i v _ hMd) hk₂
    have tt : Tr (wr ++ (ownA cenv Wc ++ keys ((acc, []) :: μ))) (wr ++ (ownA cenv Wc ++ keys ((acc, []) :: μ))) s { s' with heap := h₂, toks := tk₁ } :=
      t'.trans ⟨h₂, tk₁, rfl, fun b o hb e => ⟨o, hk₂ b o (fun q => hb (List.mem_append_left _ q)) (hk₁ b o (fun q => hb (List.mem_append_left _ q)) e), .refl o⟩, fun _ z => .inl z⟩
    have hd : items[i]? = some items[i] := List.getElem?_eq_getElem hlt
    have rv : Rep (keys ((acc, (items.take i).flatMap out) :: μ)) h₂ v items[i] := by
      obtain ⟨r, q⟩ := it.vals i v _ _ hP hd
      exact rep_tuple_off M₃ r q
    have ht1 : items.take (i + 1) = items.take i ++ [items[i]] := by rw [List.take_add_one, hd]; rfl
    have nxt : (items.take (i + 1)).flatMap out = (items.take i).flatMap out ++ out items[i] := by
      rw [ht1, List.flatMap_append]; simp
    refine wpAny_mono (turn i items[i] _ hd rfl A _ v rm M₃ F₃ rv) (fun _ s₄ ⟨ρ₁, ⟨ext, tst⟩, M₄, F₄, t₄, _⟩ => ?_) fun _ _ z => z
    refine wpAny_mono (tst A s₄ rm M₄ F₄) (fun b s₅ ⟨kb, M₅, t₅⟩ => ?_) fun _ _ z => z
    have F₅ := F₄.tr M₄ t₅
    cases b with
    | false =>
      have tb := t₄.trans t₅.wide
      refine ⟨_, by omega, i + 1, hlt, rfl, ?_, ?_, F₅.weaken ext, tt.trans tb.wide⟩
      · exact it.turns.frame _ _ _ hst₂ fun b hb o e => tb.kx.whole (fpk b hb) e (it.kinds _ _ hst₂ b hb o e).1
      · have kb' : out items[i] = [] := kb
        rw [nxt, kb', List.append_nil]; exact M₅
    | true =>
      refine wpAny_mono (kb A s₅ rm M₅ F₅) (fun _ s₆ ⟨ρ₆, ext₆, M₆, F₆, t₆⟩ => ?_) fun _ _ z => z
      have tb := (t₄.trans t₅.wide).trans t₆
      refine ⟨_, by omega, i + 1, hlt, rfl, ?_, ?_, F₆.weaken ext₆, tt.trans tb.wide⟩
      · exact it.turns.frame _ _ _ hst₂ fun b hb o e => tb.kx.whole (fpk b hb) e (it.kinds _ _ hst₂ b hb o e).1
      · rw [nxt]; exact M₆
  · have hin : i = items.length := by omega
    subst hin
    refine it.turns.done _ _ _ hst fun h₁ tk₁ hk₁ => ?_
    have M₁ := M'.oddZ (fl _) (oddS _ _ hst) (wk _) hk₁
    have F₁ := F'.oddZ (oddS _ _ hst) hk₁
    rw [List.take_length] at M₁
    exact hR _ M₁ F₁ (t'.trans ⟨h₁, tk₁, rfl, fun b o hb e => ⟨o, hk₁ b o (fun q => hb (List.mem_append_left _ q)) e, .refl o⟩, fun _ z => .inl z⟩)

theorem comp_coreZ {G : Gx} {n : Nat} {A : Around} {s : Shared} {env : Env} {W Wc : List Str} {ρ : Rho} {μ : Mu} {elt target iter : Expr} {ifs : List Expr} {more : List Comprehension} {scope : Scope} {epos pos : Pos}
    {use : Option (Value → Sem Unit)} {Q : Value → Shared → Prop} {SK : List D → Mu → Prop} {body : Addr → Addr → Sem Unit} {out : D → List D}
    (src : ISZ G n env W target iter ρ μ SK) (rm : Rm n A) (M : MuOk A G.B μ s.heap) (F : FrOk G.B env W ρ (keys μ) s.heap)
    (ht : ∀ C I acc, TurnIs (.ListComp elt (⟨target, iter, ifs, 0⟩ :: more) scope epos) 0 target ifs (.ref I) (.ref acc) (cE scope env C) (body C acc))
    (hs : ∀ x, foldedSetIterable iter env x = pure x) (hfree : (scope.names.all fun p => !(p.2 == .free) || (env.cells.lookup p.1).isSome) = true)
    (hk : scope.kind = .function) (hnames : ∀ x ∈ scope.names, x.2 = .local → scope.names.lookup x.1 = some .local)
    (hW : ∀ x ∈ Wc, scope.names.lookup x = some .local ∨ scope.names.lookup x = some .cell)
    (flat : ∀ items μ₁, SK items μ₁ → FlatMu μ₁ ∧ ∀ d ∈ items, ∀ e ∈ out d, Flat e)
    (turn : ∀ items μ₁, SK items μ₁ → ∀ C acc i d os, items[i]? = some d → os = (items.take i).flatMap out → TA G n (cE scope env C) Wc target d [] ((acc, os) :: μ₁) fun ρ' => Ext [] ρ' ∧ TestsA G n (cE scope env C) Wc ifs ρ' ((acc, os) :: μ₁) fun b =>
      if b then BA G n (cE scope env C) Wc (body C acc) ρ' ((acc, os) :: μ₁) ((acc, os ++ out d) :: μ₁) [] else out d = [])
    (hQ : ∀ items μ₁ C acc s', SK items μ₁ → MuOk A G.B ((acc, items.flatMap out) :: μ₁) s'.heap → (∃ m, s'.heap.Ns C m) → G.B.get? C = none → Tr (keys μ) (C :: keys ((acc, items.flatMap out) :: μ₁)) s s' →
      compPost (Mo G.w) A (fun _ _ => False) use Q (.ref acc) C (.ok .next) s') :
    wpAny (Mo G.w) A (comprehension (.ListComp elt (⟨target, iter, ifs, 0⟩ :: more) scope epos) scope env pos (newList []) false (eval iter env) use) Q (fun _ _ => False) s := by
  refine wpAny_comprehension_free rfl hs (closureFor_eq hfree) hk hnames ?_
  refine wpAny_mono (src A s rm M F) (fun x s₁ h₁ => wpAny_mono h₁ (fun it s₂ h₂ => ?_) fun _ _ z => z) fun _ _ z => z
  obtain ⟨items, μ₁, I, fp, wr, P, Md, St, sk, rfl, M₂, t₂, itk, dead⟩ := h₂
  have F₂ := F.tr M t₂
  refine wpAny_newObj_type ?_ (by show ([] : List Value).toArray.size ≤ sizeLine; exact Nat.zero_le _)
  refine newCompEnv ?_
  have kp₃ : ∀ b o, s₂.heap.get? b = some o → (s₂.heap.push { cls := .type "list", data := .seq ([] : List Value).toArray }).get? b = some o := fun b o e => Heap.get?_push_of_some _ e
  have accd : s₂.heap.get? s₂.heap.objs.size = none := dead_size _
  have M₃ : MuOk A G.B ((s₂.heap.objs.size, []) :: μ₁) (s₂.heap.push { cls := .type "list", data := .seq ([] : List Value).toArray }) := M₂.more kp₃ accd ⟨0, Heap.get?_push_size _ rfl⟩ .nil
  have t₃ : Tr (keys μ₁) (keys ((s₂.heap.objs.size, []) :: μ₁)) s₂ { s₂ with heap := s₂.heap.push { cls := .type "list", data := .seq ([] : List Value).toArray } } :=
    ⟨_, _, rfl, .of_keep kp₃, fun a ha => by
      rcases List.mem_cons.mp ha with q | q
      · exact .inr (by have q' : a = s₂.heap.objs.size := q; rw [q']; exact accd)
      · exact .inl q⟩
  have F₃ := F₂.tr M₂ t₃
  obtain ⟨F₄, kp₄, ownd⟩ := cE_fr (ρc := []) (s := { s₂ with heap := s₂.heap.push { cls := .type "list", data := .seq ([] : List Value).toArray } }) M₃ F₃ hk trivial hW
  have M₄ := M₃.keep kp₄
  generalize hC : (s₂.heap.push { cls := .type "list", data := .seq ([] : List Value).toArray }).objs.size = C at *
  have kp : ∀ b o, s₂.heap.get? b = some o → (pushCells ((s₂.heap.push { cls := .type "list", data := .seq ([] : List Value).toArray }).push { cls := .type "dict", data := .dict #[] }) scope.names).get? b = some o := fun b o e => kp₄ b o (kp₃ b o e)
  have it := itk.push (os := []) kp accd
  have own₂ : ∀ a ∈ ownA (cE scope env C) Wc, s₂.heap.get? a = none := fun a ha => by
    cases q : s₂.heap.get? a with
    | none => rfl
    | some o => have := kp₃ a o q; rw [ownd a (by simpa [hC] using ha)] at this; cases this
  have hown : ∀ b ∈ fp, b ∉ ownA (cE scope env C) Wc := fun b hb q => (itk.live b hb).1 (own₂ b q)
  have hB : ∀ b ∈ wr, G.B.get? b = none := fun b hb => (dead b hb).elim (M.off b) fun z => (M.dead z).2
  have cd : s₂.heap.get? C = none := own₂ C (.head _)
  have back : ∀ a, s₂.heap.get? a = none → a ∈ keys μ ∨ s.heap.get? a = none := fun a h => by
    by_cases hk : a ∈ keys μ
    · exact .inl hk
    · exact .inr (t₂.kx.dead hk h)
  have loop : ∀ s₅ : Shared, s₅ = { s₂ with heap := pushCells ((s₂.heap.push { cls := .type "list", data := .seq ([] : List Value).toArray }).push { cls := .type "dict", data := .dict #[] }) scope.names } →
      codeAny (Mo G.w) A (.compLoop (.ListComp elt (⟨target, iter, ifs, 0⟩ :: more) scope epos) 0 (.ref I) (.ref s₂.heap.objs.size) (cE scope env C)) (compPost (Mo G.w) A (fun _ _ => False) use Q (.ref s₂.heap.objs.size) C) s₅ := by
    rintro s₅ rfl
    refine comp_loopZ (ht C I s₂.heap.objs.size) rm it hB hown out (flat items μ₁ sk).1 (flat items μ₁ sk).2 M₄ F₄ (fun i d os hd ho => turn items μ₁ sk C _ i d os hd (by simpa using ho)) fun s' M' F' t' => ?_
    refine hQ items μ₁ C s₂.heap.objs.size s' sk (by simpa using M') F'.ns F'.lo ?_
    have t₅ : Tr (keys μ) (wr ++ (ownA (cE scope env C) Wc ++ keys ((s₂.heap.objs.size, []) :: μ₁))) s { s₂ with heap := pushCells ((s₂.heap.push { cls := .type "list", data := .seq ([] : List Value).toArray }).push { cls := .type "dict", data := .dict #[] }) scope.names } := by
      have t₅' := t₂.trans (Tr.keep (Y := keys μ₁) (tk' := s₂.toks) kp)
      obtain ⟨h', tk', e, kx, nn⟩ := t₅'
      refine ⟨h', tk', e, kx, fun a ha => ?_⟩
      rcases List.mem_append.mp ha with q | q
      · exact dead a q
      · rcases List.mem_append.mp q with q | q
        · exact back a (own₂ a q)
        · rcases List.mem_cons.mp q with q | q
          · have q' : a = s₂.heap.objs.size := q
            exact back a (by rw [q']; exact accd)
          · exact nn a q
    obtain ⟨h', tk', e, kx, nn⟩ := t₅.trans t'
    refine ⟨h', tk', e, kx, fun a ha => nn a (List.mem_append_right _ ?_)⟩
    rcases List.mem_cons.mp ha with q | q
    · exact List.mem_append_left _ (by rw [q]; exact .head _)
    · exact List.mem_append_right _ q
  have key : codeAny (Mo G.w) A (.compStart (.ListComp elt (⟨target, iter, ifs, 0⟩ :: more) scope epos) 0 (.ref I) (.ref s₂.heap.objs.size) (cE scope env C)) (compPost (Mo G.w) A (fun _ _ => False) use Q (.ref s₂.heap.objs.size) C)
      { s₂ with heap := pushCells ((s₂.heap.push { cls := .type "list", data := .seq ([] : List Value).toArray }).push { cls := .type "dict", data := .dict #[] }) scope.names } :=
    codeAny_compStart_list (loop _ rfl) (itk.self 0 _ _ _ it.start (loop _ rfl))
  exact key

section
variable {G : Gx} {n : Nat} {env : Env} {W Wc : List Str} {ρ : Rho} {μ : Mu}
theorem AE.compZ {elt target iter : Expr} {ifs : List Expr} {scope : Scope} {epos : Pos} {K : D → Mu → Prop} (out : D → List D)
    (src : ISZ G n env W target iter ρ μ fun items μ₁ => (FlatMu μ₁ ∧ ∀ d ∈ items, ∀ e ∈ out d, Flat e) ∧ CT G n env scope Wc [] target elt ifs out items μ₁ ∧ K (.list (items.flatMap out)) μ₁)
    (hW : ∀ x ∈ Wc, scope.names.lookup x = some .local ∨ scope.names.lookup x = some .cell)
    (hnames : ∀ x ∈ scope.names, x.2 = .local → scope.names.lookup x.1 = some .local)
    (hfree : (scope.names.all fun p => !(p.2 == .free) || (env.cells.lookup p.1).isSome) = true := by rfl)
    (hs : ∀ x, foldedSetIterable iter env x = pure x := by intro _; rfl) (hk : scope.kind = .function := by rfl) : AE G n env W (.ListComp elt [⟨target, iter, ifs, 0⟩] scope epos) ρ μ K := fun A s rm M F => by
  rw [eval_ListComp]
  refine comp_coreZ (use := none) src rm M F (fun C I acc => ⟨_, compTurn_list elt target iter ifs scope epos _ _ _⟩) hs hfree hk hnames hW (fun items μ₁ sk => sk.1) (fun items μ₁ sk C acc i d os hd ho => sk.2.1.turn (iter := iter) C acc i d os hd ho) fun items μ₁ C acc s' sk M' ⟨m, hm⟩ hb t => ?_
  refine ⟨m, hm, fun h' hs' => ?_⟩
  have hn := NotSeq.of_ns hm
  have hc := t.new C (.head _)
  obtain ⟨M₃, r₃⟩ := (M'.off2 hs' hn hb M hc).less
  refine ⟨_, μ₁, sk.2.2, r₃, M₃, ?_⟩
  have t' : Tr (C :: keys ((acc, items.flatMap out) :: μ₁)) (keys μ₁) s' { s' with heap := h' } := ⟨h', s'.toks, rfl, .of_sameBut hs' (.head _), fun a ha => .inl (.tail _ (.tail _ ha))⟩
  exact t.trans t'

/-- zip of two lists of plain data -/
theorem ISZ.zip {e1 e2 : Expr} {elts : List Expr} {kk : Nat} {tp np pos : Pos} {K : List D → Mu → Prop} (gz : GVal G "zip" (.type "zip"))
    (h : AEs G n env W [e1, e2] ρ μ fun ds μ₁ => ∃ xs ys : List D, ds = [.list xs, .list ys] ∧ (∀ d ∈ xs, Flat d) ∧ (∀ d ∈ ys, Flat d) ∧ K ((xs.zip ys).map fun p => .tuple [p.1, p.2]) μ₁)
    (hs : starEach [e1, e2] env = (false, eval e1 env) :: starEach [e2] env := by rfl) (hp : (backTo pos (starEach [e2] env)).any (·.1) = false := by rfl) (hk : env.kindOf "zip" = some .globalImplicit := by rfl) :
    ISZ G n env W (.Tuple elts kk tp) (.Call (.Name "zip" np) [e1, e2] [] pos) ρ μ K := fun A s rm M F => by
  refine Call_ (Name_function_global F.kind hk (gz _ _ _ _ _ _ F.gl F.bu M.base ?_) (by decide))
  have hpl : (backTo pos (starEach [e1, e2] env)).any (·.1) = false := by rw [hs]; show (false || (backTo pos (starEach [e2] env)).any (·.1)) = false; rw [hp]; rfl
  have go := h.go (pos := pos) (Q := fun vs s₁ => wpAny (Mo G.w) A (call (.type "zip") vs) (fun x s₁ => wpAny (Mo G.w) A (pyIter x) (fun it s₂ => ∃ items μ' I fp wr P Md St, K items μ' ∧ it = .ref I ∧ MuOk A G.B μ' s₂.heap ∧ Tr (keys μ) (keys μ') s s₂ ∧
      ItZ G A (.Tuple elts kk tp) I fp wr P Md St μ' s₂.heap items ∧ ∀ b ∈ wr, b ∈ keys μ ∨ s.heap.get? b = none) (fun _ _ => False) s₁) (fun _ _ => False) s₁) rm M F fun ds μ₁ vs s₁ ⟨xs, ys, hd, fx, fy, k⟩ rs M₁ F₁ t₁ => by
    subst hd
    cases rs with
    | cons r1 rs =>
      cases rs with
      | cons r2 rs =>
        cases rs
        obtain ⟨l1, us, rfl, hn1, hl1, rs1⟩ := r1.listD
        ·
          obtain ⟨l2, ws, rfl, hn2, hl2, rs2⟩ := r2.listD
          ·
            have hlt1 : l1 < s₁.heap.objs.size := live_lt hl1.live
            have hlt2 : l2 < s₁.heap.objs.size := live_lt hl2.live
            have D' : ZipApart (s₁.heap.objs.size + 4) (s₁.heap.objs.size + 2) (s₁.heap.objs.size + 3) s₁.heap.objs.size (s₁.heap.objs.size + 1) l1 l2 := PySem.W.ktu_apart _ _ _ hlt1 hlt2
            refine call_zip_2 hl1.isList hl2.isList fun h' hz hTI hTO hi1 hi2 hsz hk => ?_
            refine wpAny_pyIter_zip hz ?_
            have W' := (WalksT.zip2 (prog := PySem.Challenge.rw_oy0054_01.row.prog) (w := G.w) (A := A) rm.1 _ _ _ _ _ _ _ D' us.toArray ws.toArray)
            have hlen : min us.toArray.size ws.toArray.size = ((xs.zip ys).map fun p => D.tuple [p.1, p.2]).length := by
              rw [List.size_toArray, List.size_toArray, rs1.length, rs2.length, List.length_map, List.length_zip]
            rw [hlen] at W'
            have T' := PySem.W.KTurns.ofWalksU (elts := elts) (k := kk) (pos := tp) W'.toU
            have hdead : ∀ j, s₁.heap.get? (s₁.heap.objs.size + j) = none := fun j => Heap.get?_none_of_le (by omega)
            refine ⟨_, μ₁, _, _, _, _, _, _, k, rfl, M₁.keep hk, t₁.trans (.keep hk), ⟨T', W'.self, ?_, ?_, ?_, ?_, ?_⟩, ?_⟩
            · exact ⟨hz, hTI, ⟨_, _, hTO⟩, hi1, hi2, hl1.isList.at fun o e => hk _ o e, hl2.isList.at fun o e => hk _ o e⟩
            · intro b hb
              have lv1 : h'.get? l1 ≠ none := by obtain ⟨_, e⟩ := hl1; exact live_of (hk _ _ e)
              have lv2 : h'.get? l2 ≠ none := by obtain ⟨_, e⟩ := hl2; exact live_of (hk _ _ e)
              simp only [List.mem_cons, List.not_mem_nil, or_false] at hb
              rcases hb with rfl | rfl | rfl | rfl | rfl | rfl | rfl
              · exact ⟨live_of (hz), (M₁.dead (hdead 4)).1⟩
              · exact ⟨live_of (hTI), (M₁.dead (hdead 2)).1⟩
              · exact ⟨live_of (hTO), (M₁.dead (hdead 3)).1⟩
              · exact ⟨by obtain ⟨_, e, _⟩ := hi1; exact live_of e, (M₁.dead (hdead 0)).1⟩
              · exact ⟨by obtain ⟨_, e, _⟩ := hi2; exact live_of e, (M₁.dead (hdead 1)).1⟩
              · exact ⟨lv1, hn1⟩
              · exact ⟨lv2, hn2⟩
            · rintro i h'' ⟨a1, a2, ⟨_, _, a3⟩, a4, a5, a6, a7⟩ b hb o ho
              simp only [List.mem_cons, List.not_mem_nil, or_false] at hb
              rcases hb with rfl | rfl | rfl | rfl | rfl | rfl | rfl
              · rw [a1] at ho; cases ho; exact ⟨fun _ _ q => Data.noConfusion q, fun _ q => Data.noConfusion q⟩
              · rw [a2] at ho; cases ho; exact ⟨fun _ _ q => Data.noConfusion q, fun _ q => Data.noConfusion q⟩
              · rw [a3] at ho; cases ho; exact ⟨fun _ _ q => Data.noConfusion q, fun _ q => Data.noConfusion q⟩
              · obtain ⟨o', e, _, hd⟩ := a4; rw [ho] at e; cases e; first | exact kind_fields hd | exact kind_seq hd
              · obtain ⟨o', e, _, hd⟩ := a5; rw [ho] at e; cases e; first | exact kind_fields hd | exact kind_seq hd
              · obtain ⟨o', e, _, n', hd⟩ := a6; rw [ho] at e; cases e; first | exact kind_fields hd | exact kind_seq hd
              · obtain ⟨o', e, _, n', hd⟩ := a7; rw [ho] at e; cases e; first | exact kind_fields hd | exact kind_seq hd
            · rintro i v h'' ⟨T, vals, _, _, _, a1, a2, ⟨_, _, a3⟩, a4, a5, a6, a7, _⟩ b hb o ho
              simp only [List.mem_cons, List.not_mem_nil, or_false] at hb
              rcases hb with rfl | rfl | rfl | rfl
              · rw [a1] at ho; cases ho; exact ⟨fun _ _ q => Data.noConfusion q, fun _ q => Data.noConfusion q⟩
              · rw [a3] at ho; cases ho; exact ⟨fun _ _ q => Data.noConfusion q, fun _ q => Data.noConfusion q⟩
              · obtain ⟨o', e, _, hd⟩ := a4; rw [ho] at e; cases e; first | exact kind_fields hd | exact kind_seq hd
              · obtain ⟨o', e, _, hd⟩ := a5; rw [ho] at e; cases e; first | exact kind_fields hd | exact kind_seq hd
            · rintro i v h'' d ⟨T, vals, rfl, ⟨x, y, hx, hy, rfl⟩, hT⟩ hd
              rw [List.getElem?_map] at hd
              obtain ⟨⟨p, q⟩, hz', rfl⟩ : ∃ p, (xs.zip ys)[i]? = some p ∧ D.tuple [p.1, p.2] = d := by
                cases hq : (xs.zip ys)[i]? with
                | none => rw [hq] at hd; cases hd
                | some p => rw [hq] at hd; exact ⟨p, rfl, by simpa using hd⟩
              obtain ⟨hp1, hp2⟩ := List.getElem?_zip_eq_some.mp hz'
              obtain ⟨x', hx', rx⟩ := rs1.get i p hp1
              obtain ⟨y', hy', ry⟩ := rs2.get i q hp2
              rw [List.getElem?_toArray, hx'] at hx; cases hx
              rw [List.getElem?_toArray, hy'] at hy; cases hy
              have f1 := fx p (List.mem_of_getElem? hp1)
              have f2 := fy q (List.mem_of_getElem? hp2)
              refine ⟨.tuple (vs := [x, y]) List.not_mem_nil hT (.cons (rx.flat f1) (.cons (ry.flat f2) .nil)), T, _, rfl, rfl, fun e he => ?_⟩
              rcases List.mem_cons.mp he with q | q
              · rw [q]; exact f1
              · rw [List.mem_singleton.mp q]; exact f2
            · intro b hb
              have fresh : ∀ j, (s₁.heap.objs.size + j) ∈ keys μ ∨ s.heap.get? (s₁.heap.objs.size + j) = none := fun j => by
                by_cases hk : (s₁.heap.objs.size + j) ∈ keys μ
                · exact .inl hk
                · exact .inr (t₁.kx.dead hk (hdead j))
              simp only [List.mem_cons, List.not_mem_nil, or_false] at hb
              rcases hb with rfl | rfl | rfl | rfl
              · exact fresh 4
              · exact fresh 3
              · exact fresh 0
              · exact fresh 1
  rw [hs] at go hpl ⊢
  exact PySem.callWith_type hpl (evalArgs_plain go)
end
end Mine

namespace Mine
open PySem PySem.Calls PyProof.Rows

section
variable {G : Gx} {n : Nat} {env : Env} {W Wc : List Str} {ρ : Rho} {μ : Mu} {K : D → Mu → Prop}
theorem AE.neg {e : Expr} {pos : Pos} (h : AE G n env W e ρ μ fun d μ₁ => ∃ i : Int, d = .int i ∧ K (.int (-i)) μ₁) : AE G n env W (.UnaryOp .USub e pos) ρ μ K := fun A s rm M F =>
  UnaryOp_ (h.go rm M F fun d μ₁ v s₁ ⟨i, hd, k⟩ r M₁ F₁ t₁ => by
    subst hd; (first | obtain ⟨_, rfl⟩ := r.intD | obtain ⟨_, rfl⟩ := r.bytesD | obtain ⟨_, rfl⟩ := r.strD | obtain rfl := r.boolD | obtain rfl := r.valD | obtain rfl := r.noneD | cases r)
    exact PyProof.Rows.neg_int ⟨_, μ₁, k, .int _ _, M₁, t₁.trans (.tok ..)⟩)
end

noncomputable def dif (xs ys : List Nat) : List Int := ((xs.zip ys).flatMap fun p => if p.1 = p.2 then [] else [(p.1 : Int) - p.2]) ++ [(xs.length : Int) - ys.length]
noncomputable def sgn (xs ys : List Nat) : Int := if (dif xs ys).headD 0 = 0 then 0 else if (dif xs ys).headD 0 < 0 then -1 else 1
noncomputable def outZ : D → List D
  | .tuple [.int a, .int b] => if a = b then [] else [.int (a - b)]
  | _ => []
theorem outZ_flat (ps : List (Nat × Nat)) : (ps.map fun p => D.tuple [.int p.1, .int p.2]).flatMap outZ = (ps.flatMap fun p => if p.1 = p.2 then [] else [(p.1 : Int) - p.2]).map .int := by
  induction ps with
  | nil => rfl
  | cons p ps ih =>
    rw [List.map_cons, List.flatMap_cons, List.flatMap_cons, ih, List.map_append]
    congr 1
    show (if (p.1 : Int) = (p.2 : Int) then _ else _) = _
    by_cases h : p.1 = p.2
    · rw [if_pos h, if_pos (by omega)]; rfl
    · rw [if_neg h, if_neg (by omega)]; rfl
theorem flat_len (ps : List (Nat × Nat)) : (ps.flatMap fun p => if p.1 = p.2 then [] else [(p.1 : Int) - p.2]).length ≤ ps.length := by
  induction ps with
  | nil => exact Nat.le_refl _
  | cons k ks ih =>
    rw [List.flatMap_cons, List.length_append, List.length_cons]
    split
    · rw [List.length_nil]; omega
    · rw [List.length_singleton]; omega

set_option maxHeartbeats 1000000 in
theorem signP {G : Gx} {fa : Nat → Addr} (gl : Glo G fa) {n : Nat} {xs ys : List Nat} {μ : Mu} {K : D → Mu → Prop} (hx : xs.length < 500) (hy : ys.length < 500) (fl : FlatMu μ) (h : K (.int (sgn xs ys)) μ) : Vn G (n + 1) (fun vs => call (.ref (fa 15)) vs) [dI xs, dI ys] μ K := by
  refine Vn.fn (names := ["one", "two"]) (W := ["one", "two", "differ"]) (gl.fn 15) gl.lim rfl (fun pm c doc vs hv => ?_) (by decide) (by decide) ?_ (fun pm c doc L => ?_) (by rfl) (by rfl) (by rfl)
  · obtain ⟨_, _, rfl⟩ := len2 hv; rfl
  · intro x hx
    simp only [List.mem_cons, List.not_mem_nil, or_false] at hx
    rcases hx with rfl | rfl | rfl <;> exact .inl rfl
  · have flI : ∀ l : List Nat, ∀ d ∈ l.map (fun i : Nat => D.int i), Flat d := fun l d hd => by
      obtain ⟨i, _, rfl⟩ := List.mem_map.mp hd; trivial
    have hz : ((xs.map fun i : Nat => D.int i).zip (ys.map fun i : Nat => D.int i)).map (fun p => D.tuple [p.1, p.2]) = (xs.zip ys).map fun p => D.tuple [.int p.1, .int p.2] := by
      rw [List.zip_map, List.map_map]; rfl
    have hl : (xs.zip ys).length ≤ 500 := by rw [List.length_zip]; omega
    have hfl := flat_len (xs.zip ys)
    refine SE.cons (S1.assign (AE.binop (AE.compZ (Wc := ["a", "b"]) outZ (ISZ.zip gl.gzip (AEs.cons (AE.var rfl (AEs.cons (AE.var rfl (AEs.nil ⟨_, _, rfl, flI xs, flI ys, ?_⟩)))))) ?_ ?_)))
    · rw [hz, outZ_flat]
      refine ⟨⟨fl, fun d hd e he => ?_⟩, ⟨?_, fun C a os d hd => ?_⟩, ?_⟩
      · obtain ⟨p, _, rfl⟩ := List.mem_map.mp hd
        have he' : e ∈ (if (p.1 : Int) = (p.2 : Int) then [] else [D.int ((p.1 : Int) - p.2)]) := he
        split at he'
        · cases he'
        · rw [List.mem_singleton.mp he']; trivial
      · rw [outZ_flat, sizeLine_eq, List.length_map]; omega
      · obtain ⟨p, hp, rfl⟩ := List.mem_map.mp hd
        refine TA.pair (.inl rfl) ⟨.nil, TestsA.one (AT.cmp (AE.var rfl (AE.var rfl (V2.ne ⟨_, rfl, rfl, ?_⟩))))⟩
        by_cases hq : (p.1 : Int) = (p.2 : Int)
        · rw [if_neg (by simpa using hq)]
          exact if_pos hq
        · rw [if_pos (by simpa using hq)]
          exact ⟨_, if_neg hq, AE.binop (AE.var rfl (AE.var rfl (V2.sub ⟨rfl, rfl⟩)))⟩
      · refine AE.listD (AEs.cons (AE.binop (AE.call (AE.glob gl.glen ⟨_, rfl, .builtin _, AEs.cons (AE.var rfl (AEs.nil (Vn.lenL (by rw [List.length_map]; omega) ?_)))⟩))))
        refine AE.call (AE.glob gl.glen ⟨_, rfl, .builtin _, AEs.cons (AE.var rfl (AEs.nil (Vn.lenL (by rw [List.length_map]; omega) (V2.sub (AEs.nil ⟨by rw [sizeLine_eq]; simp, V2.ladd (by rw [sizeLine_eq, List.length_map, List.length_singleton]; omega) ?_⟩)))))⟩)
        rw [List.length_map, List.length_map]
        have e1 : ((xs.zip ys).flatMap fun p => if p.1 = p.2 then [] else [(p.1 : Int) - p.2]).map D.int ++ [D.int ((xs.length : Int) - ys.length)] = (dif xs ys).map .int := by
          rw [dif, List.map_append]; rfl
        rw [e1]
        show SE ..
        have hne : dif xs ys ≠ [] := by unfold dif; simp
        unfold sgn at h
        cases hd : dif xs ys with
        | nil => exact absurd hd hne
        | cons d ds =>
          rw [hd, List.headD_cons] at h
          refine SE.cons (S1.ret (AE.ifexp (AT.cmp (AE.item (AE.var rfl (AE.int ⟨_, 0, .int d, .inl rfl, rfl, by decide, by decide, rfl, AE.int (V2.eq ⟨_, rfl, ?_⟩)⟩))))))
          by_cases h0 : d = 0
          · rw [if_pos (by simpa using h0)]
            rw [if_pos h0] at h
            exact AE.int h
          · rw [if_neg (by simpa using h0)]
            rw [if_neg h0] at h
            refine AE.ifexp (AT.cmp (AE.item (AE.var rfl (AE.int ⟨_, 0, .int d, .inl rfl, rfl, by decide, by decide, rfl, AE.int (V2.lt ⟨_, rfl, ?_⟩)⟩))))
            by_cases h1 : d < 0
            · rw [if_pos (by simpa using h1)]
              rw [if_pos h1] at h
              exact AE.neg (AE.int ⟨1, rfl, h⟩)
            · rw [if_neg (by simpa using h1)]
              rw [if_neg h1] at h
              exact AE.int h
    · intro x hx
      simp only [List.mem_cons, List.not_mem_nil, or_false] at hx
      rcases hx with rfl | rfl <;> exact .inl rfl
    · decide
end Mine

namespace Mine
open PySem PySem.Calls PyProof.Rows

theorem plain_unchain : plainId "proto.unchain" = true := by decide +kernel
theorem entry_unchain : entryFor table "proto.unchain" = some Builtin.«proto.unchain» := entryFor_of_tree (by kernel_rfl)

/-- the exception e, just made, in a heap that else keeps h; its context is c -/
structure NewC (h h' : Heap) (e : Addr) (c : Value) : Prop where
  keeps : ∀ b o, h.get? b = some o → h'.get? b = some o
  new : h.get? e = none
  there : ∃ ob vs, h'.get? e = some ob ∧ ob.cls = .type "IndexError" ∧ ob.data = .fields vs ∧ vs[1]? = some .none ∧ vs[2]? = some c

section
variable {prog : Program} {w : World} {A : Around} {E : Value → Shared → Prop} {s : Shared} {α : Type}
theorem raise_h {msg : String} {Q : α → Shared → Prop} {h1 : Addr} {o1 : Obj} {vs1 : Array Value} (hh : A.handled = some (.ref h1)) (ho1 : s.heap.get? h1 = some o1) (hd1 : o1.data = .fields vs1) (hc1 : vs1[2]? = some .none)
    (h : ∀ h' tk e, NewC s.heap h' e (.ref h1) → E (.ref e) { s with heap := h', toks := tk }) : wpAny (model prog w) A (raiseErrorWords "IndexError" msg : Sem α) Q E s := by
  unfold raiseErrorWords
  refine wpAny_bind (wpAny_mkText (wpAny_bind ?_))
  unfold newExc newTuple
  refine wpAny_bind (wpAny_newObj_type ?_)
  refine wpAny_bind (m := firstArgMember _ _) (wpAny_of_eq (a := Value.none) (by simp only [firstArgMember, plainExc_IndexError.first]; rfl) ?_)
  rw [plainExc_IndexError.own]
  refine wpAny_newObj_type ?_
  unfold raiseNew
  refine wpAny_bind (wpAny_handled ?_)
  rw [hh]
  dsimp only
  have k1 : ∀ b o, s.heap.get? b = some o → ((s.heap.push { cls := .type "tuple", data := .seq [Value.str (msg : Str) s.toks].toArray }).push { cls := .type "IndexError", data := .fields (#[.ref s.heap.objs.size, .none, .none, .none, .bool false, .none] ++ #[]) }).get? b = some o := fun b o hb => Heap.get?_push_of_some _ (Heap.get?_push_of_some _ hb)
  have hne : h1 ≠ (s.heap.push { cls := .type "tuple", data := .seq [Value.str (msg : Str) s.toks].toArray }).objs.size := by
    have := Heap.lt_size ho1
    rw [Heap.size_push]; exact Nat.ne_of_lt (Nat.lt_succ_of_lt this)
  have hnew := Heap.get?_push_size (s.heap.push { cls := .type "tuple", data := .seq [Value.str (msg : Str) s.toks].toArray }) (o := { cls := .type "IndexError", data := .fields (#[.ref s.heap.objs.size, .none, .none, .none, .bool false, .none] ++ #[]) }) rfl
  rw [if_pos (by simpa using hne)]
  refine wpAny_bind (wpAny_holding (wpAny_runValue (codeAny_builtin entry_unchain ?_)))
  rw [Around.under_plainId plain_unchain _]
  unfold Builtin.«proto.unchain»
  dsimp only
  refine wpAny_bind (wpAny_field (k1 _ _ ho1) hd1 hc1 ?_)
  rw [if_pos (by decide)]
  refine wpAny_bind (wpAny_pure (wpAny_pure ?_))
  refine wpAny_bind ?_
  show wpAny _ _ (setField (.ref _) 2 (.ref h1)) _ _ _
  refine wpAny_setField hnew rfl (by simp) (wpAny_throw ?_)
  refine h _ _ _ ⟨fun b o hb => ?_, Heap.get?_none_of_le (by simp), ?_⟩
  · rw [Heap.get?_update_other _ _ (Nat.ne_of_gt (Nat.lt_of_lt_of_le (Heap.lt_size hb) (by rw [Heap.size_push]; exact Nat.le_succ _)))]
    exact k1 b o hb
  · refine ⟨_, _, Heap.get?_update_self _ hnew rfl, rfl, rfl, by simp, by simp⟩

theorem NewC.of {h h' : Heap} {e : Addr} (x : Heap.NewExc h h' e "IndexError") : NewC h h' e .none :=
  ⟨x.keeps, x.new, by obtain ⟨ob, t, he, hc, hd⟩ := x.there; exact ⟨ob, _, he, hc, hd, rfl, rfl⟩⟩
/-- nothing is handled, or one without context -/
noncomputable def HdOk (A : Around) (h : Heap) (c : Value) : Prop := (A.handled = none ∧ c = .none) ∨ ∃ h1 o1 vs1, A.handled = some (.ref h1) ∧ h.get? h1 = some o1 ∧ o1.data = .fields vs1 ∧ vs1[2]? = some .none ∧ c = .ref h1
theorem getItem_out {l : Addr} {items : Array Value} {k : Int} {t : Tok} {Q : Value → Shared → Prop} {c : Value} (hA : HdOk A s.heap c) (hl : s.heap.IsList l items)
    (hout : (items.size : Int) ≤ k) (hhi : k < 2 ^ 63)
    (hE : ∀ h' tk e, NewC s.heap h' e c → E (.ref e) { s with heap := h', toks := tk }) :
    wpAny (model prog w) A (getItem (.ref l) (.int k t)) Q E s := by
  have hlo : -(2 ^ 63) ≤ k := by omega
  rcases hA with ⟨hA, rfl⟩ | ⟨h1, o1, vs1, hA, ho1, hd1, hc1, rfl⟩
  · exact wpAny_getItem_list_out hA hl (.inr hout) hlo hhi fun h' tk e x => hE h' tk e (.of x)
  obtain ⟨o, ho, hc, ne, hd⟩ := id hl
  unfold getItem
  try with_reducible refine wpAny_holding ?_
  first | refine wpAny_bind (wpAny_pure ?_) | skip
  refine wpAny_bind (wpAny_sequenceKey hl.typeIs (by decide) ?_)
  refine wpAny_bind (wpAny_callSpecial?_slot (name := Str.ofString "__getitem__") hl.typeIs slot_list_getitem
    (wpAny_call_entry slot_list_getitem hl.typeIs entry_list_getitem ?_ (args_list_getitem _ _)))
  show wpAny _ _ (Builtin.List.listSubscript? (.int k t) >>= _) _ _ s
  refine wpAny_bind (wpAny_listSubscript_int (fitsIndex_both hlo hhi) ?_)
  clear hlo hhi
  cases k with
  | ofNat j =>
    have hx : items[j]? = none := Array.getElem?_eq_none (by have : (items.size : Int) ≤ (j : Int) := hout; omega)
    show wpAny _ _ ((seqItemAt l j >>= fun r => pure (r.map (j, ·))) >>= _) _ _ s
    refine wpAny_bind (wpAny_bind (wpAny_seqItemAt ho hd (wpAny_pure ?_)))
    rw [hx]
    first
      | exact wpAny_bind (wpAny_rule (raise_h hA ho1 hd1 hc1 hE))
      | exact wpAny_bind (wpAny_rule (wpAny_bind (raise_h hA ho1 hd1 hc1 hE)))
      | exact wpAny_bind (wpAny_bind (wpAny_rule (raise_h hA ho1 hd1 hc1 hE)))
      | exact wpAny_rule (raise_h hA ho1 hd1 hc1 hE)
  | negSucc j => exact absurd hout (by have := Int.negSucc_lt_zero j; omega)
end
end Mine

namespace Mine
open PySem PySem.Calls PyProof.Rows

/-- the exception e is noted: its trace is T, held at fl; its context is c -/
noncomputable def Hx (e T : Addr) (fl c : Value) (h : Heap) : Prop :=
  ∃ oe vs oT ts, h.get? e = some oe ∧ oe.cls = .type "IndexError" ∧ oe.data = .fields vs ∧ vs[1]? = some (.ref T) ∧ vs[2]? = some c ∧ T ≠ e ∧ h.get? T = some oT ∧ oT.data = .fields ts ∧ ts[3]? = some fl

section
variable {prog : Program} {w : World} {A : Around} {E : Value → Shared → Prop} {s : Shared}
theorem note_new {B h₀ : Heap} {env : Env} {outer : List Env} {L e : Addr} {c : Value} {Q : Unit → Shared → Prop} (hfr : A.frames = some (env :: outer)) (hl : FF h₀ B (env :: outer)) (hf : env.frame = some L) (x : NewC h₀ s.heap e c)
    (h : ∀ h' T, h₀.get? T = none → KX [] h₀ h' → (∀ b o, h₀.get? b = some o → (∀ env' ∈ env :: outer, env'.frame ≠ some b) → h'.get? b = some o) → Hx e T (rawInt L) c h' → Q () { s with heap := h' }) :
    wpAny (model prog w) A (noteFrame (.ref e) env) Q E s := by
  obtain ⟨oe, vs, he, hcls, hd, h1, h2⟩ := x.there
  have hsz : 1 < vs.size := (Array.getElem?_eq_some_iff.mp h1).1
  have hff : s.heap.FunFrames B (env :: outer) := FF.fun fun env' he' => by
    obtain ⟨hk, L', m, hf', hb, o, es, ep, ho, r⟩ := hl env' he'
    exact ⟨hk, L', m, hf', hb, o, es, ep, x.keeps _ _ ho, r⟩
  have frl : ∀ b ∈ (env :: outer).filterMap (·.frame), ∃ m, h₀.Ns b m := fun b hb => by
    obtain ⟨env', he', hf'⟩ := List.mem_filterMap.mp hb
    obtain ⟨hk, L', m, hf'', _, hn⟩ := hl env' he'
    have hf3 : env'.frame = some b := hf'
    rw [hf''] at hf3; cases hf3; exact ⟨m, hn⟩
  have hene : e ∉ (env :: outer).filterMap (·.frame) := fun hm => by
    obtain ⟨m, o, es, ep, ho, _⟩ := frl e hm
    rw [x.new] at ho; cases ho
  unfold noteFrame
  simp only [hf]
  refine wpAny_bind (wpAny_field he hd h1 ?_)
  rw [if_neg (by decide)]
  refine wpAny_bind (wpAny_frameOf_fun hfr hff hf fun h₁ hs₁ => ?_)
  refine wpAny_bind (wpAny_entryPlaceOf fun pl hpl => ?_)
  unfold EntryCells.newEntry newFields
  refine wpAny_bind (wpAny_newObj_type ?_ (hpl.sizeOk5 _ _ _ _ _))
  have he₁ : h₁.get? e = some oe := (hs₁.2.1 e hene).trans he
  have he₂ := Heap.get?_push_of_some (h := h₁) { cls := .type "traceback", dict := none, data := .fields ([Value.none, .ref L, .none, rawInt L, .none] ++ (if pl.isEmpty then List.replicate 6 Value.none else pl)).toArray } he₁
  refine wpAny_setField he₂ hd hsz ?_
  have hTe : h₁.objs.size ≠ e := Nat.ne_of_gt (Heap.lt_size he₁)
  have hd₃ := Obj.data_mapFields hd (·.setIfInBounds 1 (Value.ref h₁.objs.size))
  have he₃ := Heap.get?_update_self (Obj.mapFields (·.setIfInBounds 1 (Value.ref h₁.objs.size))) he₂ (Obj.isFreed_of_fields hd₃)
  have hT₃ := (Heap.get?_update_other (h₁.push { cls := .type "traceback", dict := none, data := .fields ([Value.none, .ref L, .none, rawInt L, .none] ++ (if pl.isEmpty then List.replicate 6 Value.none else pl)).toArray })
    (Obj.mapFields (·.setIfInBounds 1 (Value.ref h₁.objs.size))) (Ne.symm hTe)).trans (Heap.get?_push_size h₁ rfl)
  have keep : ∀ b o, b ≠ e → h₁.get? b = some o →
      ((h₁.push { cls := .type "traceback", dict := none, data := .fields ([Value.none, .ref L, .none, rawInt L, .none] ++ (if pl.isEmpty then List.replicate 6 Value.none else pl)).toArray }).update e (Obj.mapFields (·.setIfInBounds 1 (Value.ref h₁.objs.size)))).get? b = some o :=
    fun b o hbe hb => by
      rw [Heap.get?_update_other _ _ (Ne.symm hbe)]
      exact Heap.get?_push_of_some _ hb
  have ne_e : ∀ b o, h₀.get? b = some o → b ≠ e := fun b o hb q => by rw [q, x.new] at hb; cases hb
  refine h _ h₁.objs.size ?_ (fun b o _ hb => ?_) (fun b o hb hnf => ?_) ?_
  · cases q : h₀.get? h₁.objs.size with
    | none => rfl
    | some o =>
      obtain ⟨sl, hs⟩ := hs₁.2.2 _ _ (x.keeps _ _ q)
      exact absurd (Heap.lt_size hs) (Nat.lt_irrefl _)
  · by_cases hm : b ∈ (env :: outer).filterMap (·.frame)
    · obtain ⟨m, o', es, ep, ho, hdd, _⟩ := frl b hm
      rw [hb] at ho; cases ho
      obtain ⟨sl, hs⟩ := hs₁.2.2 b o (x.keeps _ _ hb)
      exact ⟨_, keep b _ (ne_e b o hb) hs, rfl, rfl, rfl, fun nd => absurd hdd (nd es ep)⟩
    · exact ⟨o, keep b o (ne_e b o hb) ((hs₁.2.1 b hm).trans (x.keeps _ _ hb)), .refl o⟩
  · refine keep b o (ne_e b o hb) ((hs₁.2.1 b fun hm => ?_).trans (x.keeps _ _ hb))
    obtain ⟨env', he', hf'⟩ := List.mem_filterMap.mp hm
    exact hnf env' he' hf'
  · refine ⟨_, _, _, _, he₃, ?_, hd₃, by simp [hsz], ?_, hTe, hT₃, rfl, ?_⟩
    · rw [Obj.cls_mapFields]; exact hcls
    · rw [Array.getElem?_setIfInBounds_ne (by decide)]; exact h2
    · first | (simp; done) | (rcases hpl with rfl | ⟨_, _, _, _, _, _, _, rfl⟩ <;> simp)
theorem note_again {env : Env} {L e T : Addr} {c : Value} {Q : Unit → Shared → Prop} (hf : env.frame = some L) (x : Hx e T (rawInt L) c s.heap) (h : Q () s) : wpAny (model prog w) A (noteFrame (.ref e) env) Q E s := by
  obtain ⟨oe, vs, oT, ts, he, hc, hd, h1, h2, hTe, hT, hdT, h3⟩ := x
  exact wpAny_noteFrame_inFlight hf he hd h1 hT hdT h3 h
/-- the hold changes -/
theorem flight {e T : Addr} {fl c : Value} {o : Option Addr} {Q : Unit → Shared → Prop} (x : Hx e T fl c s.heap)
    (h : ∀ h', Heap.SameBut T s.heap h' → Hx e T (o.elim .none fun f => rawInt f) c h' → Q () { s with heap := h' }) : wpAny (model prog w) A (setFlight (.ref e) o) Q E s := by
  obtain ⟨oe, vs, oT, ts, he, hc, hd, h1, h2, hTe, hT, hdT, h3⟩ := x
  have hsz3 : 3 < ts.size := (Array.getElem?_eq_some_iff.mp h3).1
  unfold setFlight
  refine wpAny_bind (wpAny_field he hd h1 ?_)
  rw [if_pos (show (Value.ref T != Value.none) = true from by simp)]
  refine wpAny_setField hT hdT hsz3 (h _ (.update ..) ⟨oe, vs, _, _, ?_, hc, hd, h1, h2, hTe, Heap.get?_update_self _ hT (Obj.isFreed_of_fields (Obj.data_mapFields hdT _)), Obj.data_mapFields hdT _, by simp [hsz3]⟩)
  rw [Heap.get?_update_other _ _ hTe]; exact he
/-- cameBackBy -/
theorem came {env : Env} {L e T : Addr} {fl c : Value} (hf : env.frame = some L) (x : Hx e T fl c s.heap)
    (h : ∀ h', Heap.SameBut T s.heap h' → Hx e T (rawInt L) c h' → E (.ref e) { s with heap := h' }) : cameBackBy (model prog w) A env E (.ref e) s := by
  have x' := x
  obtain ⟨oe, vs, oT, ts, he, hc, hd, h1, h2, hTe, hT, hdT, h3⟩ := x
  unfold cameBackBy
  refine wpAny_bind (wpAny_field he hd h1 ?_)
  rw [if_neg (by simp)]
  first
    | refine wpAny_bind (wpAny_pure ?_)
    | skip
  rw [hf]
  exact flight (o := some L) x' h
end
end Mine

namespace Mine
open PySem PySem.Calls PyProof.Rows

/-- all that is known at a point of a body, Y the addresses that may have changed since s₀ -/
structure At (G : Gx) (A : Around) (env : Env) (W : List Str) (ρ : Rho) (μ : Mu) (Y : List Addr) (s₀ s : Shared) : Prop where
  M : MuOk A G.B μ s.heap
  F : FrOk G.B env W ρ (keys μ) s.heap
  t : Tr Y (ownA env W ++ keys μ) s₀ s

section
variable {G : Gx} {A A' : Around} {env : Env} {outer : List Env} {W : List Str} {ρ ρ' : Rho} {μ μ' : Mu} {Y : List Addr} {s₀ s s' : Shared} {e L T : Addr} {fl c : Value}

theorem At.around (a : At G A env W ρ μ Y s₀ s) (h : A'.frames = A.frames) : At G A' env W ρ μ Y s₀ s := ⟨a.M.around h, a.F, a.t⟩

/-- the flying exception, and its trace -/
structure Fly (G : Gx) (A : Around) (env : Env) (W : List Str) (ρ : Rho) (μ : Mu) (Y : List Addr) (s₀ : Shared) (e : Addr) (fl c : Value) (s : Shared) : Prop where
  at_ : At G A env W ρ μ Y s₀ s
  hx : ∃ T, Hx e T fl c s.heap ∧ G.B.get? T = none ∧ (T ∈ Y ∨ s₀.heap.get? T = none)

theorem Fly.around (a : Fly G A env W ρ μ Y s₀ e fl c s) (h : A'.frames = A.frames) : Fly G A' env W ρ μ Y s₀ e fl c s := ⟨a.at_.around h, a.hx⟩

theorem own_notSeq {B : Heap} {X : List Addr} {h : Heap} (F : FrOk B env W ρ X h) : ∀ a ∈ ownA env W, NotSeq h a ∧ h.get? a ≠ none ∧ ∀ o, h.get? a = some o → ∀ vs, o.data ≠ .fields vs := fun a ha => by
  rcases List.mem_cons.mp ha with rfl | ha
  · obtain ⟨m, hm⟩ := F.ns
    refine ⟨.of_ns hm, ?_, fun o ho vs hd => ?_⟩
    · obtain ⟨o, _, _, ho, _⟩ := hm; exact live_of ho
    · obtain ⟨o', _, _, ho', hd', _⟩ := hm; rw [ho] at ho'; cases ho'; rw [hd] at hd'; cases hd'
  · obtain ⟨y, hy, q⟩ := List.mem_filterMap.mp ha
    split at q
    · rename_i hk
      rcases F.stor y hy with z | ⟨_, c, hc, _, u, hu⟩
      · rw [hk] at z; cases z
      · rw [hc] at q; cases q
        refine ⟨.of_cell hu, ?_, fun o ho vs hd => ?_⟩
        · obtain ⟨o, ho, _⟩ := hu; exact live_of ho
        · obtain ⟨o', ho', hd'⟩ := hu; rw [ho] at ho'; cases ho'; rw [hd] at hd'; cases hd'
    · cases q
theorem off_fields {B : Heap} {h : Heap} {o : Obj} {b : Addr} {vs : Array Value} (M : MuOk A B μ h) (F : FrOk B env W ρ (keys μ) h) (ho : h.get? b = some o) (hd : o.data = .fields vs) : b ∉ ownA env W ++ keys μ := fun q => by
  rcases List.mem_append.mp q with q | q
  · exact (own_notSeq F b q).2.2 o ho vs hd
  · refine M.notSeq q fun o' ho' vs' n hd' => ?_
    rw [ho] at ho'; cases ho'; rw [hd] at hd'; cases hd'
theorem Hx.kx {h h' : Heap} {X : List Addr} (k : KX X h h') (x : Hx e T fl c h) (he : e ∉ X) (hT : T ∉ X) : Hx e T fl c h' := by
  obtain ⟨oe, vs, oT, ts, he', hc, hd, h1, h2, hTe, hT', hdT, h3⟩ := x
  exact ⟨oe, vs, oT, ts, k.whole he he' (kind_fields hd).1, hc, hd, h1, h2, hTe, k.whole hT hT' (kind_fields hdT).1, hdT, h3⟩
theorem Hx.off {h : Heap} {X : List Addr} (x : Hx e T fl c h) (hX : ∀ b o vs, h.get? b = some o → o.data = .fields vs → b ∉ X) : e ∉ X ∧ T ∉ X := by
  obtain ⟨oe, vs, oT, ts, he', hc, hd, h1, h2, hTe, hT', hdT, h3⟩ := x
  exact ⟨hX _ _ _ he' hd, hX _ _ _ hT' hdT⟩

theorem At.step (a : At G A env W ρ μ Y s₀ s) (M : MuOk A G.B μ' s'.heap) (F : FrOk G.B env W ρ' (keys μ') s'.heap) (t : Tr (ownA env W ++ keys μ) (ownA env W ++ keys μ') s s') : At G A env W ρ' μ' Y s₀ s' := ⟨M, F, a.t.trans t⟩
theorem Fly.step (a : Fly G A env W ρ μ Y s₀ e fl c s) (M : MuOk A G.B μ' s'.heap) (F : FrOk G.B env W ρ' (keys μ') s'.heap) (t : Tr (ownA env W ++ keys μ) (ownA env W ++ keys μ') s s') : Fly G A env W ρ' μ' Y s₀ e fl c s' := by
  obtain ⟨at_, T, hx, hB, hd⟩ := a
  obtain ⟨x1, x2⟩ := hx.off fun b o vs ho hd => off_fields at_.M at_.F ho hd
  exact ⟨at_.step M F t, T, hx.kx t.kx x1 x2, hB, hd⟩

theorem At.noted {prog : Program} {w : World} {E : Value → Shared → Prop} {tk : Nat} {h' : Heap} {Q : Unit → Shared → Prop} (a : At G A env W ρ μ Y s₀ s) (hfr : A.frames = some (env :: outer)) (hf : env.frame = some L) (x : NewC s.heap h' e c)
    (h : ∀ s', Fly G A env W ρ μ Y s₀ e (rawInt L) c s' → Q () s') : wpAny (model prog w) A (noteFrame (.ref e) env) Q E { s with heap := h', toks := tk } := by
  obtain ⟨l, hl1, hl2⟩ := a.M.ff
  rw [hfr] at hl1; cases hl1
  refine note_new (s := { s with heap := h', toks := tk }) hfr hl2 hf x fun h'' T hT kx whole hx => ?_
  have t : Tr (ownA env W ++ keys μ) (ownA env W ++ keys μ) s { s with heap := h'', toks := tk } := ⟨h'', tk, rfl, kx.weaken mem_nil_off, fun _ z => .inl z⟩
  have t2 : Tr (keys μ) (keys μ) s { s with heap := h'', toks := tk } := ⟨h'', tk, rfl, kx.weaken mem_nil_off, fun _ z => .inl z⟩
  have F := a.F.tr a.M t2
  have M : MuOk A G.B μ h'' := by
    refine ⟨fun b o hb => whole b o (a.M.base b o hb) fun env' he' q => ?_, a.M.off, fun p hp => ?_, a.M.nd, ?_⟩
    · obtain ⟨_, L', m, hf', hB, _⟩ := hl2 env' he'
      rw [hf'] at q; cases q; rw [hb] at hB; cases hB
    · obtain ⟨vs, hv, r⟩ := a.M.mus p hp
      exact ⟨vs, isL_keep kx List.not_mem_nil hv, r.move kx mem_nil_off fun _ z => .inl z⟩
    · exact ⟨_, hfr, hl2.kx kx mem_nil_off⟩
  refine h _ ⟨⟨M, F, a.t.trans t⟩, T, hx, (a.M.dead hT).2, ?_⟩
  by_cases hy : T ∈ Y
  · exact .inl hy
  · exact .inr (a.t.kx.dead hy hT)
theorem Fly.again {prog : Program} {w : World} {E : Value → Shared → Prop} {Q : Unit → Shared → Prop} (a : Fly G A env W ρ μ Y s₀ e (rawInt L) c s) (hf : env.frame = some L) (h : Q () s) : wpAny (model prog w) A (noteFrame (.ref e) env) Q E s := by
  obtain ⟨at_, T, hx, hB, hd⟩ := a
  exact note_again hf hx h
theorem Fly.turn (a : Fly G A env W ρ μ Y s₀ e fl c s) {fl' : Value} {h' : Heap} (hs : ∃ T, Hx e T fl c s.heap ∧ G.B.get? T = none ∧ (T ∈ Y ∨ s₀.heap.get? T = none) ∧ Heap.SameBut T s.heap h' ∧ Hx e T fl' c h') : Fly G A env W ρ μ Y s₀ e fl' c { s with heap := h' } := by
  obtain ⟨T, hx, hB, hd, hsb, hx'⟩ := hs
  obtain ⟨M, F, t⟩ := a.at_
  have odd : ∀ b ∈ [T], Odd G.B s.heap b := fun b hb => by
    rw [List.mem_singleton.mp hb]
    obtain ⟨oe, vs, oT, ts, he', hc, hd, h1, h2, hTe, hT', hdT, h3⟩ := hx
    refine ⟨hB, fun o ho => ?_⟩
    rw [hT'] at ho; cases ho
    exact ⟨fields_notSeq hdT, (kind_fields hdT).1, (kind_fields hdT).2⟩
  have k : ∀ b o, b ∉ [T] → s.heap.get? b = some o → h'.get? b = some o := fun b o hb e => (hsb.2 b fun q => hb (q ▸ .head _)).trans e
  refine ⟨⟨M.odd odd k, F.odd odd k, ?_⟩, T, hx', hB, hd⟩
  obtain ⟨h₁, tk₁, e₁, k₁, n₁⟩ := t
  subst e₁
  exact ⟨h', tk₁, rfl, k₁.trans (Y := [T]) (fun b o hb e => ⟨o, k b o hb e, .refl o⟩) (fun b hb => by rw [List.mem_singleton.mp hb]; exact hd), n₁⟩
theorem Fly.flight {prog : Program} {w : World} {E : Value → Shared → Prop} {Q : Unit → Shared → Prop} {o : Option Addr} (a : Fly G A env W ρ μ Y s₀ e fl c s) (h : ∀ s', Fly G A env W ρ μ Y s₀ e (o.elim .none fun f => rawInt f) c s' → Q () s') :
    wpAny (model prog w) A (setFlight (.ref e) o) Q E s := by
  obtain ⟨at_, T, hx, hB, hd⟩ := id a
  exact Mine.flight hx fun h' hs hx' => h _ (a.turn ⟨T, hx, hB, hd, hs, hx'⟩)
theorem Fly.came {prog : Program} {w : World} {E : Value → Shared → Prop} (a : Fly G A env W ρ μ Y s₀ e fl c s) (hf : env.frame = some L) (h : ∀ s', Fly G A env W ρ μ Y s₀ e (rawInt L) c s' → E (.ref e) s') : cameBackBy (model prog w) A env E (.ref e) s := by
  obtain ⟨at_, T, hx, hB, hd⟩ := id a
  exact Mine.came hf hx fun h' hs hx' => h _ (a.turn ⟨T, hx, hB, hd, hs, hx'⟩)

theorem At.var {M' : Model} {x : Str} {pos : Pos} {d : D} {E : Value → Shared → Prop} {Q : Value → Shared → Prop} (a : At G A env W ρ μ Y s₀ s) (hx : ρ.lookup x = some d) (h : ∀ v, Rep (keys μ) s.heap v d → Q v s) (hd : (x == ("__debug__" : Str)) = false := by decide) : wpAny M' A (eval (.Name x pos) env) Q E s := by
  obtain ⟨v, l, r⟩ := a.F.vars x d hx
  exact wpAny_Name (l.load a.F.kind (h v r)) hd

/-- a while whose test runs over the list's end -/
theorem loop_out {x i : Str} {px pi ps pc pos : Pos} {r : Expr} {body : List Stmt} {xs : List D} {E : Value → Shared → Prop} {Q : Flow → Shared → Prop} (a : At G A env W ρ μ Y s₀ s) (hfr : A.frames = some (env :: outer)) (hf : env.frame = some L) (hA : HdOk A s.heap c)
    (hx : ρ.lookup x = some (.list xs)) (hi : ρ.lookup i = some (.int xs.length)) (hz : xs.length < 2 ^ 62)
    (h : ∀ e s', Fly G A env W ρ μ Y s₀ e (rawInt L) c s' → E (.ref e) s')
    (hxd : (x == ("__debug__" : Str)) = false := by decide) (hid : (i == ("__debug__" : Str)) = false := by decide)
    (hm : behindInMarks .Eq r = false := by with_unfolding_all rfl)
    (hs : ∀ a k u, subscripted (.Name i pi) false (.ref a) (.int k u) = operate [.ref a, .int k u] (getItem (.ref a) (.int k u)) := by intro _ _ _; with_unfolding_all rfl) :
    wpAny (Mo G.w) A (exec (.While (.Compare (.Subscript (.Name x px) (.Name i pi) ps) [.Eq] [r] pc) body [] pos) env) Q E s := by
  refine wpAny_While (codeAny_whileLoop (fun _ s' => s' = s) ?_ 0 rfl)
  rintro _ _ rfl
  refine wpAny_isTrue_Compare1 (Subscript_ (a.var hx (fun v rv => a.var hi (fun u ru => ?_) hid) hxd)) hm
  obtain ⟨_, _, rfl, hn, hl, rs⟩ := rv.listD
  ·
    obtain ⟨t, rfl⟩ := ru.intD
    ·
      refine tail_any hl.isList.typeIs slot_list_getitem.lookup (getItem_out hA hl.isList (by rw [List.size_toArray, rs.length]; exact Int.le_refl _) (by omega) fun h' tk e x => ?_) (hs _ _ _)
      exact a.noted hfr hf x fun s' y => y.came hf fun s'' z => h e s'' z

/-- i += 1 -/
theorem At.inc {x : Str} {p1 p2 pos : Pos} {kk : Nat} {n : Int} {E : Value → Shared → Prop} {Q : Flow → Shared → Prop} (a : At G A env W ρ μ Y s₀ s) (hx : ρ.lookup x = some (.int n)) (hW : x ∈ W)
    (h : ∀ s', At G A env W ((x, .int (n + 1)) :: ρ) μ Y s₀ s' → Tr (ownA env W ++ keys μ) (ownA env W ++ keys μ) s s' → Q .next s') : wpAny (Mo G.w) A (exec (.AugAssign (.Name x p1) .Add (.Constant (.int 1) kk p2) pos) env) Q E s := by
  obtain ⟨v, l, r⟩ := a.F.vars x _ hx
  refine wpAny_AugAssign_Name (l.load a.F.kind (wpAny_Constant_int ?_))
  obtain ⟨t, rfl⟩ := r.intD
  ·
    have M1 : MuOk A G.B μ { s with toks := s.toks + 1 }.heap := a.M
    refine PyProof.Rows.iadd_int ?_
    refine store (d := .int (n + 1)) (s := { s with toks := s.toks + 1 + 1 }) a.M a.F hW (.int _ _) fun s' M' F' t' _ => ?_
    have tt : Tr (ownA env W ++ keys μ) (ownA env W ++ keys μ) s s' := (Tr.tok _ s (s.toks + 1 + 1)).trans t'
    exact h s' ⟨M', F', a.t.trans tt⟩ tt

/-- the inner try: both tests run over their list's end -/
theorem final_out {x y i j : Str} {r r' : Expr} {body body' : List Stmt} {xs ys : List D} {px pi ps pc pos px' pi' ps' pc' pos' p1 p2 p3 p4 : Pos} {kk : Nat} {E : Value → Shared → Prop} {Q : Flow → Shared → Prop}
    (a : At G A env W ρ μ Y s₀ s) (hfr : A.frames = some (env :: outer)) (hf : env.frame = some L) (hA : A.handled = none)
    (hx : ρ.lookup x = some (.list xs)) (hi : ρ.lookup i = some (.int xs.length)) (hz : xs.length < 2 ^ 62)
    (hy : ρ.lookup y = some (.list ys)) (hj : ρ.lookup j = some (.int (ys.length - 1))) (hz' : ys.length < 2 ^ 62) (hjW : j ∈ W) (hyj : y ≠ j)
    (h : ∀ e c s', Fly G A env W ((j, .int ys.length) :: ρ) μ Y s₀ e (rawInt L) c s' → E (.ref e) s')
    (hxd : (x == ("__debug__" : Str)) = false := by decide) (hid : (i == ("__debug__" : Str)) = false := by decide) (hyd : (y == ("__debug__" : Str)) = false := by decide) (hjd : (j == ("__debug__" : Str)) = false := by decide)
    (hm : behindInMarks .Eq r = false := by with_unfolding_all rfl) (hm' : behindInMarks .Eq r' = false := by with_unfolding_all rfl)
    (hs : ∀ a k u, subscripted (.Name i pi) false (.ref a) (.int k u) = operate [.ref a, .int k u] (getItem (.ref a) (.int k u)) := by intro _ _ _; with_unfolding_all rfl)
    (hs' : ∀ a k u, subscripted (.Name j pi') false (.ref a) (.int k u) = operate [.ref a, .int k u] (getItem (.ref a) (.int k u)) := by intro _ _ _; with_unfolding_all rfl) :
    wpAny (Mo G.w) A (exec (.Try [.While (.Compare (.Subscript (.Name x px) (.Name i pi) ps) [.Eq] [r] pc) body [] pos] [] [] [.AugAssign (.Name j p1) .Add (.Constant (.int 1) kk p2) p3, .While (.Compare (.Subscript (.Name y px') (.Name j pi') ps') [.Eq] [r'] pc') body' [] pos'] p4) env) Q E s := by
  refine wpAny_Try_finally (wpAny_execs_cons (loop_out a hfr hf (.inl ⟨hA, rfl⟩) hx hi hz (fun e s₁ f₁ => ?_) hxd hid hm hs))
  refine f₁.again hf ⟨ref_ne_byPass e, f₁.again hf (f₁.flight (o := none) fun s₂ f₂ => ?_)⟩
  have f₃ : Fly G (A.mark (some (.ref e))) env W ρ μ Y s₀ e .none .none s₂ := f₂.around rfl
  refine wpAny_execs_cons (f₃.at_.inc hj hjW fun s₃ a₃ t₃ => ?_)
  have f₄ := f₃.step a₃.M a₃.F t₃
  have hd : HdOk (A.mark (some (.ref e))) s₃.heap (.ref e) := by
    obtain ⟨T, ⟨oe, vs, oT, ts, he', hc, hd, h1, h2, _⟩, _⟩ := f₄.hx
    exact .inr ⟨e, oe, vs, rfl, he', hd, h2, rfl⟩
  have e1 : (ys.length : Int) - 1 + 1 = ys.length := by omega
  rw [e1] at a₃
  have hy' : List.lookup y ((j, D.int ys.length) :: ρ) = some (.list ys) := by
    rw [List.lookup_cons, beq_eq_false_iff_ne.mpr hyj]; exact hy
  refine wpAny_execs_cons (loop_out (A := A.mark (some (.ref e))) a₃ (by exact hfr) hf hd hy' (List.lookup_cons_self ..) hz' (fun e' s₅ f₅ => ?_) hyd hjd hm' hs')
  have f₅' : Fly G A env W ((j, .int ys.length) :: ρ) μ Y s₀ e' (rawInt L) (.ref e) s₅ := f₅.around rfl
  exact f₅.again hf (f₅'.came hf fun s₆ f₆ => h e' _ s₆ f₆)
end
end Mine

namespace Mine
open PySem PySem.Calls PyProof.Rows

theorem ie_exc : isSubtype (.type "IndexError") (.type "BaseException") = pure true := by rw [isSubtype_type]; kernel_rfl
theorem ie_ie : isSubtype (.type "IndexError") (.type "IndexError") = pure true := by rw [isSubtype_type]; kernel_rfl
theorem ie_nt : isSubtype (.type ((Manifest.find? "IndexError").elim "type" fun x => x.metatype)) (.type "tuple") = pure false := by
  have e : (Manifest.find? "IndexError").elim "type" (fun x => x.metatype) = "type" := by first | decide +kernel | rfl
  rw [e, isSubtype_type]; kernel_rfl

section
variable {G : Gx} {A A' : Around} {env : Env} {outer : List Env} {W : List Str} {ρ ρ' : Rho} {μ μ' : Mu} {Y : List Addr} {s₀ s s' : Shared} {e L T : Addr} {fl c : Value}

theorem At.slice {y i : Str} {py pi p ps : Pos} {xs : List D} {E : Value → Shared → Prop} {Q : Value → Shared → Prop} (a : At G A env W ρ μ Y s₀ s) (hy : ρ.lookup y = some (.list xs)) (hi : ρ.lookup i = some (.int xs.length)) (hz : xs.length ≤ sizeLine)
    (h : ∀ s' b, (∀ b o, s.heap.get? b = some o → s'.heap.get? b = some o) → (∃ tk h', s' = { s with heap := h', toks := tk }) → s'.heap.get? b = some { cls := .type "list", data := .seq #[] 0 } → s.heap.get? b = none → Q (.ref b) s')
    (hyd : (y == ("__debug__" : Str)) = false := by decide) (hid : (i == ("__debug__" : Str)) = false := by decide)
    (ht : ∀ o r, letTemporaryGo (.Name y py) o r = pure () := by intro _ _; rfl) :
    wpAny (Mo G.w) A (eval (.Subscript (.Name y py) (.Slice (some (.Name i pi)) none none p) ps) env) Q E s := by
  refine wpAny_Subscript_list_slice (a.var hy (fun v rv => evalPart_some_step (a.var hi (fun u ru => evalPart_none_step ?_) hid)) hyd) ht
  obtain ⟨l, vs, rfl, hn, hl, rs⟩ := rv.listD
  ·
    obtain ⟨t, rfl⟩ := ru.intD
    ·
      refine ⟨l, vs.toArray, some (xs.length : Int), none, rfl, hl.isList, by rw [List.size_toArray, rs.length]; exact hz, .int _ _, .none, ?_⟩
      have hk : ∀ b o, s.heap.get? b = some o → ((s.heap.push { cls := .type "slice", data := .fields #[.int (xs.length : Int) t, .none, .none] }).push { cls := .type "list", data := .seq (slicePick vs.toArray (some (xs.length : Int)) none none) }).get? b = some o := fun b o e => Heap.get?_push_of_some _ (Heap.get?_push_of_some _ e)
      refine h _ _ hk ⟨s.toks, _, rfl⟩ ?_ (Heap.get?_none_of_le (by omega))
      have := Heap.get?_push_size (s.heap.push { cls := .type "slice", data := .fields #[.int (xs.length : Int) t, .none, .none] }) (o := { cls := .type "list", data := .seq (slicePick vs.toArray (some (xs.length : Int)) none none) }) rfl
      rw [Heap.size_push] at this
      rw [this, slicePick_from']
      have e : vs.drop xs.length = [] := by rw [← rs.length, List.drop_length]
      rw [e]

theorem mapSeq_nil (items : Array Value) (n : Nat) : Obj.mapSeq (fun xs => xs ++ #[]) { cls := .type "list", data := .seq items n } = { cls := .type "list", data := .seq items n } := by
  show ({ cls := .type "list", data := .seq (items ++ #[]) (if (items ++ #[]).size == items.size then n else n + 1) } : Obj) = _
  simp

theorem At.extend {x y i : Str} {px pa py pi p ps pc pos : Pos} {xs ds : List D} {m : Addr} {E : Value → Shared → Prop} {Q : Flow → Shared → Prop} (a : At G A env W ρ μ Y s₀ s)
    (hx : ρ.lookup x = some (.val (.ref m))) (hm : (m, ds) ∈ μ) (hy : ρ.lookup y = some (.list xs)) (hi : ρ.lookup i = some (.int xs.length)) (hz : xs.length ≤ sizeLine) (hz' : ds.length ≤ sizeLine)
    (h : ∀ s', At G A env W ρ μ Y s₀ s' → Tr (ownA env W ++ keys μ) (ownA env W ++ keys μ) s s' → Q .next s')
    (hxd : (x == ("__debug__" : Str)) = false := by decide) (hyd : (y == ("__debug__" : Str)) = false := by decide) (hid : (i == ("__debug__" : Str)) = false := by decide)
    (hb : attributeBase (.Name x px) "extend" env (eval (.Name x px) env) = eval (.Name x px) env := by rfl)
    (hst : starEach [.Subscript (.Name y py) (.Slice (some (.Name i pi)) none none p) ps] env = [(false, eval (.Subscript (.Name y py) (.Slice (some (.Name i pi)) none none p) ps) env)] := by rfl)
    (hline : (pa.endLine == pc.line) = true := by rfl)
    (hin : interactive env = false := by rfl) (hsw : swapsWith (.Call (.Attribute (.Name x px) "extend" pa) [.Subscript (.Name y py) (.Slice (some (.Name i pi)) none none p) ps] [] pc) none pos.line env = pure false := by rfl)
    (ht : ∀ o r, letTemporaryGo (.Name y py) o r = pure () := by intro _ _; rfl) :
    wpAny (Mo G.w) A (exec (.Expr (.Call (.Attribute (.Name x px) "extend" pa) [.Subscript (.Name y py) (.Slice (some (.Name i pi)) none none p) ps] [] pc) pos) env) Q E s := by
  refine wpAny_Expr (Call_method1 hb hst hline (a.var hx (fun v rv => ?_) hxd)) hin hsw
  (first | obtain ⟨_, rfl⟩ := rv.intD | obtain ⟨_, rfl⟩ := rv.bytesD | obtain ⟨_, rfl⟩ := rv.strD | obtain rfl := rv.boolD | obtain rfl := rv.valD | obtain rfl := rv.noneD | cases rv)
  obtain ⟨vs, ⟨nn, hl⟩, rs⟩ := a.M.mus _ hm
  refine ⟨"list", "list.extend", PySem.F.plainAttrs_list, PySem.F.slot_list_extend, PySem.F.type_list_extend, ⟨_, hl, rfl⟩, fun b eb => ⟨_, by cases eb; exact hl, rfl⟩, ?_⟩
  refine PySem.P.extend_list (a.slice hy hi hz (fun s₁ b hk hs₁ hb' hd => ?_) hyd hid ht)
  have hl₁ := hk _ _ hl
  have hvl : vs.toArray.size ≤ sizeLine := by rw [List.size_toArray, rs.length]; exact hz'
  refine ⟨b, vs.toArray, #[], nn, 0, hvl, (by show vs.toArray.size + 0 ≤ sizeLine + 1; omega), ?_, rfl, hl₁, hb', ?_⟩
  · exact extend_door (by simpa using hvl)
  · obtain ⟨tk, h', rfl⟩ := hs₁
    have same : ∀ c o, h'.get? c = some o → (h'.update m (Obj.mapSeq fun xs => xs ++ #[])).get? c = some o := fun c o hc => by
      by_cases q : c = m
      · subst q
        have e : Obj.mapSeq (fun xs => xs ++ #[]) { cls := .type "list", data := .seq vs.toArray nn } = { cls := .type "list", data := .seq vs.toArray nn } := mapSeq_nil _ _
        have : (h'.get? c) = _ := hl₁
        rw [hc] at this; cases this
        rw [Heap.get?_update_self _ hc (by rw [e]; rfl), e]
      · rw [Heap.get?_update_other _ _ (Ne.symm q)]; exact hc
    have kk : ∀ c o, s.heap.get? c = some o → (h'.update m (Obj.mapSeq fun xs => xs ++ #[])).get? c = some o := fun c o hc => same c o (hk c o hc)
    have t : Tr (keys μ) (keys μ) s { s with heap := h'.update m (Obj.mapSeq fun xs => xs ++ #[]), toks := tk } := .keep kk
    exact h _ ⟨a.M.keep kk, a.F.tr a.M t, a.t.trans t.wide⟩ t.wide

/-- the handler -/
theorem handler {x y i x2 y2 i2 : Str} {px pa py pi p ps pc pos px2 pa2 py2 pi2 p2 ps2 pc2 pos2 pn ph pb : Pos} {xs ds xs2 ds2 : List D} {m m2 : Addr} {E : Value → Shared → Prop} {Q : Flow → Shared → Prop} (f : Fly G A env W ρ μ Y s₀ e fl c s) (g : GVal G "IndexError" (.type "IndexError"))
    (hx : ρ.lookup x = some (.val (.ref m))) (hm : (m, ds) ∈ μ) (hy : ρ.lookup y = some (.list xs)) (hi : ρ.lookup i = some (.int xs.length)) (hz : xs.length ≤ sizeLine) (hz' : ds.length ≤ sizeLine)
    (hx2 : ρ.lookup x2 = some (.val (.ref m2))) (hm2 : (m2, ds2) ∈ μ) (hy2 : ρ.lookup y2 = some (.list xs2)) (hi2 : ρ.lookup i2 = some (.int xs2.length)) (hz2 : xs2.length ≤ sizeLine) (hz2' : ds2.length ≤ sizeLine)
    (h : ∀ s', At G A env W ρ μ Y s₀ s' → Q .brk s')
    (hie : env.kindOf "IndexError" = some .globalImplicit := by rfl)
    (hxd : (x == ("__debug__" : Str)) = false := by decide) (hyd : (y == ("__debug__" : Str)) = false := by decide) (hid : (i == ("__debug__" : Str)) = false := by decide)
    (hb : attributeBase (.Name x px) "extend" env (eval (.Name x px) env) = eval (.Name x px) env := by rfl)
    (hst : starEach [.Subscript (.Name y py) (.Slice (some (.Name i pi)) none none p) ps] env = [(false, eval (.Subscript (.Name y py) (.Slice (some (.Name i pi)) none none p) ps) env)] := by rfl)
    (hline : (pa.endLine == pc.line) = true := by rfl)
    (hin : interactive env = false := by rfl) (hsw : swapsWith (.Call (.Attribute (.Name x px) "extend" pa) [.Subscript (.Name y py) (.Slice (some (.Name i pi)) none none p) ps] [] pc) none pos.line env = pure false := by rfl)
    (ht : ∀ o r, letTemporaryGo (.Name y py) o r = pure () := by intro _ _; rfl)
    (hxd2 : (x2 == ("__debug__" : Str)) = false := by decide) (hyd2 : (y2 == ("__debug__" : Str)) = false := by decide) (hid2 : (i2 == ("__debug__" : Str)) = false := by decide)
    (hb2 : attributeBase (.Name x2 px2) "extend" env (eval (.Name x2 px2) env) = eval (.Name x2 px2) env := by rfl)
    (hst2 : starEach [.Subscript (.Name y2 py2) (.Slice (some (.Name i2 pi2)) none none p2) ps2] env = [(false, eval (.Subscript (.Name y2 py2) (.Slice (some (.Name i2 pi2)) none none p2) ps2) env)] := by rfl)
    (hline2 : (pa2.endLine == pc2.line) = true := by rfl)
    (hsw2 : swapsWith (.Call (.Attribute (.Name x2 px2) "extend" pa2) [.Subscript (.Name y2 py2) (.Slice (some (.Name i2 pi2)) none none p2) ps2] [] pc2) none pos2.line env = pure false := by rfl)
    (ht2 : ∀ o r, letTemporaryGo (.Name y2 py2) o r = pure () := by intro _ _; rfl) :
    wpAny (Mo G.w) A (handleBy (.ref e) env [.ExceptHandler (some (.Name "IndexError" pn)) none
      [.Expr (.Call (.Attribute (.Name x px) "extend" pa) [.Subscript (.Name y py) (.Slice (some (.Name i pi)) none none p) ps] [] pc) pos,
       .Expr (.Call (.Attribute (.Name x2 px2) "extend" pa2) [.Subscript (.Name y2 py2) (.Slice (some (.Name i2 pi2)) none none p2) ps2] [] pc2) pos2, .Break pb] ph]) Q E s := by
  have f' : Fly G (A.mark (some (.ref e))) env W ρ μ Y s₀ e fl c s := f.around rfl
  refine wpAny_handleBy_builtin (X := "IndexError") (T := "IndexError") (b := true) ie_exc ie_nt ie_ie ?_
  refine Name_function_global f'.at_.F.kind hie (g _ _ _ _ _ _ f'.at_.F.gl f'.at_.F.bu f'.at_.M.base ⟨rfl, ?_, ?_⟩)
  · obtain ⟨T, ⟨oe, vs, oT, ts, he', hc, _⟩, _⟩ := f.hx
    exact ⟨oe, he', hc⟩
  · rw [if_pos rfl]
    refine f'.flight (o := none) fun s₁ f₁ => ?_
    refine wpAny_execs_cons (f₁.at_.extend hx hm hy hi hz hz' (fun s₂ a₂ t₂ => ?_) hxd hyd hid hb hst hline hin hsw ht)
    refine wpAny_execs_cons (a₂.extend hx2 hm2 hy2 hi2 hz2 hz2' (fun s₃ a₃ t₃ => ?_) hxd2 hyd2 hid2 hb2 hst2 hline2 hin hsw2 ht2)
    exact wpAny_execs_cons (wpAny_Break (h s₃ (a₃.around rfl)))
end
end Mine

namespace Mine
open PySem PySem.Calls PyProof.Rows

/-! two lists that change, in turned order -/
theorem Rep.congr {X X' : List Addr} {h : Heap} {v : Value} {d : D} (hX : ∀ a ∈ X', a ∈ X) (r : Rep X h v d) : Rep X' h v d := r.move (KX.refl [] h) mem_nil_off fun a ha => .inl (hX a ha)
theorem RepL.congr {X X' : List Addr} {h : Heap} {v : List Value} {d : List D} (hX : ∀ a ∈ X', a ∈ X) (r : RepL X h v d) : RepL X' h v d := r.move (KX.refl [] h) mem_nil_off fun a ha => .inl (hX a ha)
theorem keys_sw {a b : Addr × List D} {μ : Mu} : ∀ x, x ∈ keys (a :: b :: μ) → x ∈ keys (b :: a :: μ) := fun x h => by
  rcases List.mem_cons.mp h with q | q
  · exact .tail _ (q ▸ .head _)
  · rcases List.mem_cons.mp q with q | q
    · exact q ▸ .head _
    · exact .tail _ (.tail _ q)
theorem MuOk.sw {A : Around} {B : Heap} {a b : Addr × List D} {μ : Mu} {h : Heap} (M : MuOk A B (a :: b :: μ) h) : MuOk A B (b :: a :: μ) h := by
  refine ⟨M.base, fun x hx => M.off x (keys_sw x hx), fun p hp => ?_, ?_, M.ff⟩
  · have hp' : p ∈ a :: b :: μ := by
      rcases List.mem_cons.mp hp with q | q
      · exact .tail _ (q ▸ .head _)
      · rcases List.mem_cons.mp q with q | q
        · exact q ▸ .head _
        · exact .tail _ (.tail _ q)
    obtain ⟨vs, hv, r⟩ := M.mus p hp'
    exact ⟨vs, hv, r.congr keys_sw⟩
  · have nd : (a.1 :: b.1 :: keys μ).Nodup := M.nd
    show (b.1 :: a.1 :: keys μ).Nodup
    simp only [List.nodup_cons, List.mem_cons, not_or] at nd ⊢
    exact ⟨⟨fun q => nd.1.1 q.symm, nd.2.1⟩, nd.1.2, nd.2.2⟩
theorem FrOk.sw {B : Heap} {env : Env} {W : List Str} {ρ : Rho} {a b : Addr × List D} {μ : Mu} {h : Heap} (F : FrOk B env W ρ (keys (a :: b :: μ)) h) : FrOk B env W ρ (keys (b :: a :: μ)) h :=
  ⟨F.kind, F.ns, F.lo, F.gl, F.bu, F.inj, F.cel, F.stor, fun x d e => let ⟨v, l, r⟩ := F.vars x d e; ⟨v, l, r.congr keys_sw⟩⟩
theorem Tr.congr {Y Y' Z Z' : List Addr} {s s' : Shared} (t : Tr Y Y' s s') (h1 : ∀ a, a ∈ Y ↔ a ∈ Z) (h2 : ∀ a ∈ Z', a ∈ Y') : Tr Z Z' s s' := by
  obtain ⟨h', tk', rfl, k, n⟩ := t
  exact ⟨h', tk', rfl, k.weaken fun a ha => (h1 a).mp ha, fun a ha => (n a (h2 a ha)).imp (h1 a).mp id⟩
section
variable {G : Gx} {n : Nat} {env : Env} {W : List Str} {ρ : Rho} {μ : Mu}
theorem AE.sw {a b : Addr × List D} {e : Expr} {K : D → Mu → Prop} (h : AE G n env W e ρ (b :: a :: μ) fun d μ' => ∃ a' b', μ' = b' :: a' :: μ ∧ K d (a' :: b' :: μ)) : AE G n env W e ρ (a :: b :: μ) K := fun A s rm M F =>
  wpAny_mono (h A s rm M.sw F.sw) (fun v s' ⟨d, μ', ⟨a', b', e, k⟩, r, M', t⟩ => by
    subst e
    exact ⟨d, _, k, r.congr keys_sw, M'.sw, t.congr (fun x => ⟨keys_sw x, keys_sw x⟩) keys_sw⟩) fun _ _ z => z

/-- a try that raises nothing, with a finally -/
theorem S1.tryF {body : List Stmt} {f₀ : Stmt} {fs : List Stmt} {pos : Pos} {K : FD → Rho → Mu → Prop} (h : SE G n env W body ρ μ fun f ρ' μ' => f = .next ∧ SE G n env W (f₀ :: fs) ρ' μ' K) : S1 G n env W (.Try body [] [] (f₀ :: fs) pos) ρ μ K := fun A s rm M F => by
  refine wpAny_Try_finally (wpAny_mono (h A s rm M F) (fun f s' ⟨fd, ρ', μ', ⟨e, k⟩, fr, M', F', t'⟩ => ?_) fun _ _ z => z.elim)
  subst e
  cases fr
  refine wpAny_execs_nil (wpAny_mono (k A s' rm M' F') (fun g s'' ⟨fd, ρ'', μ'', kk, fr, M'', F'', t''⟩ => ?_) fun _ _ z => z.elim)
  cases fr with
  | next => exact ⟨_, ρ'', μ'', kk, .next, M'', F'', t'.trans t''⟩
  | brk => exact ⟨_, ρ'', μ'', kk, .brk, M'', F'', t'.trans t''⟩
  | cont => exact ⟨_, ρ'', μ'', kk, .cont, M'', F'', t'.trans t''⟩
  | ret r => exact ⟨_, ρ'', μ'', kk, .ret r, M'', F'', t'.trans t''⟩

/-- a statement that raises nothing, ahead of others -/
theorem S1.then {st : Stmt} {rest : List Stmt} {A : Around} {Y : List Addr} {s₀ s : Shared} {ρ₁ : Rho} {E : Value → Shared → Prop} {Q : Flow → Shared → Prop} (a : At G A env W ρ μ Y s₀ s) (rm : Rm n A) (h : S1 G n env W st ρ μ fun f ρ' μ' => f = .next ∧ ρ' = ρ₁ ∧ μ' = μ)
    (k : ∀ s', At G A env W ρ₁ μ Y s₀ s' → wpAny (Mo G.w) A (execs rest env) Q E s') : wpAny (Mo G.w) A (execs (st :: rest) env) Q E s := by
  refine wpAny_execs_cons (wpAny_mono (h A s rm a.M a.F) (fun f s' ⟨fd, ρ', μ', ⟨e1, e2, e3⟩, fr, M', F', t'⟩ => ?_) fun _ _ z => z.elim)
  subst e1 e2 e3
  cases fr
  exact k s' ⟨M', F', a.t.trans t'⟩
theorem At.if_ {A : Around} {Y : List Addr} {s₀ s : Shared} {c : Expr} {x y : List Stmt} {pos : Pos} {b : Bool} {E : Value → Shared → Prop} {Q : Flow → Shared → Prop} (a : At G A env W ρ μ Y s₀ s) (rm : Rm n A) (h : AT G n env W c ρ μ fun b' μ' => b' = b ∧ μ' = μ)
    (k : ∀ s', At G A env W ρ μ Y s₀ s' → wpAny (Mo G.w) A (execs (if b then x else y) env) Q E s') : wpAny (Mo G.w) A (exec (.If c x y pos) env) Q E s := by
  refine wpAny_If (wpAny_mono (h A s rm a.M a.F) (fun b' s' ⟨μ', ⟨e1, e2⟩, M', t'⟩ => ?_) fun _ _ z => z.elim)
  subst e1 e2
  have := k s' ⟨M', a.F.tr a.M t', a.t.trans t'.wide⟩
  cases b' <;> exact this

/-- while True, of one statement -/
theorem S1a.forever {σ : Type} {st : Stmt} {kk : Nat} {p pos : Pos} {K : FD → Rho → Mu → Prop} {A : Around} {s : Shared} (ρf : σ → Rho) (μf : σ → Mu) (P : σ → Prop) (meas : σ → Nat) (σ₀ : σ) (h₀ : P σ₀) (hρ : Ext (ρf σ₀) ρ) (hμ : μf σ₀ = μ) (rm : Rm n A) (M : MuOk A G.B μ s.heap) (F : FrOk G.B env W ρ (keys μ) s.heap)
    (turn : ∀ τ, P τ → ∀ s, MuOk A G.B (μf τ) s.heap → FrOk G.B env W (ρf τ) (keys (μf τ)) s.heap →
      wpAny (Mo G.w) A (exec st env) (fun f s' => (f = .next ∧ ∃ τ', P τ' ∧ meas τ' < meas τ ∧ MuOk A G.B (μf τ') s'.heap ∧ FrOk G.B env W (ρf τ') (keys (μf τ')) s'.heap ∧ Tr (ownA env W ++ keys (μf τ)) (ownA env W ++ keys (μf τ')) s s') ∨
        (f = .brk ∧ ∃ ρ' μ', K .next ρ' μ' ∧ MuOk A G.B μ' s'.heap ∧ FrOk G.B env W ρ' (keys μ') s'.heap ∧ Tr (ownA env W ++ keys (μf τ)) (ownA env W ++ keys μ') s s')) (fun _ _ => False) s) :
    wpAny (Mo G.w) A (exec (.While (.Constant (.bool true) kk p) [st] [] pos) env) (PS G env W A (ownA env W ++ keys μ) s K) (fun _ _ => False) s := by
  subst hμ
  refine wpAny_While (codeAny_whileLoop (fun k s' => ∃ τ, P τ ∧ meas τ = k ∧ MuOk A G.B (μf τ) s'.heap ∧ FrOk G.B env W (ρf τ) (keys (μf τ)) s'.heap ∧ Tr (ownA env W ++ keys (μf σ₀)) (ownA env W ++ keys (μf τ)) s s') ?_ (meas σ₀) ⟨σ₀, h₀, rfl, M, F.weaken hρ, .refl ..⟩)
  rintro _ s' ⟨τ, hp, rfl, M', F', t'⟩
  refine wpAny_noRaise (AT.go (n := n) (K := fun b μ₁ => b = true ∧ μ₁ = μf τ) (AT.booly (AE.bool ⟨true, rfl, rfl, rfl⟩)) rm M' F' fun b μ₁ s₁ ⟨e1, e2⟩ M₁ F₁ t₁ => ?_)
  subst e1 e2
  rw [if_pos rfl]
  refine wpAny_noRaise (wpAny_execs_cons (wpAny_mono (turn τ hp s₁ M₁ F₁) (fun f s₂ h₂ => ?_) fun _ _ z => z))
  rcases h₂ with ⟨rfl, τ', hp', hm, M₂, F₂, t₂⟩ | ⟨rfl, ρ', μ', k, M₂, F₂, t₂⟩
  · exact wpAny_execs_nil ⟨_, hm, τ', hp', rfl, M₂, F₂, (t'.trans t₁.wide).trans t₂⟩
  · exact ⟨_, ρ', μ', k, .next, M₂, F₂, (t'.trans t₁.wide).trans t₂⟩
end

/-! the order -/
theorem blt_irrefl (x : List UInt8) : blt x x = false := by
  have := PySem.W.order_eq x x
  rw [beq_self_eq_true] at this
  unfold blt; rw [eq_of_beq this]; rfl
theorem blt_asymm {x y : List UInt8} (h : blt x y = true) : blt y x = false := by
  unfold blt at *
  rw [order_swap y x, eq_of_beq h]; rfl
theorem blt_tri {x y : List UInt8} (h1 : blt x y = false) (h2 : blt y x = false) : x = y := by
  have := PySem.W.order_eq x y
  unfold blt at *
  rw [order_swap y x] at h2
  cases h : Builtin.Bytes.order x y with
  | lt => rw [h] at h1; exact absurd h1 (by decide)
  | gt => rw [h] at h2; exact absurd h2 (by decide)
  | eq => rw [h] at this; exact eq_of_beq (by rw [← this]; rfl)

noncomputable def mg : List (List UInt8) → List (List UInt8) → List (List UInt8) × List (List UInt8)
  | x :: xs, y :: ys => if blt x y then (x :: (mg xs (y :: ys)).1, (mg xs (y :: ys)).2) else if blt y x then ((mg (x :: xs) ys).1, y :: (mg (x :: xs) ys).2) else mg xs ys
  | xs, ys => (xs, ys)
termination_by xs ys => xs.length + ys.length
theorem mg_len : ∀ (k : Nat) (xs ys : List (List UInt8)), xs.length + ys.length ≤ k → (mg xs ys).1.length ≤ xs.length ∧ (mg xs ys).2.length ≤ ys.length := by
  intro k
  induction k with
  | zero =>
    intro xs ys h
    have : xs = [] := List.length_eq_zero_iff.mp (by omega)
    have : ys = [] := List.length_eq_zero_iff.mp (by omega)
    subst_vars; simp [mg]
  | succ k ih =>
    intro xs ys h
    cases xs with
    | nil => simp [mg]
    | cons x xs =>
      cases ys with
      | nil => simp [mg]
      | cons y ys =>
        simp only [List.length_cons] at h
        rw [mg]
        split
        · have := ih xs (y :: ys) (by simp; omega)
          simpa using this
        · split
          · have := ih (x :: xs) ys (by simp; omega)
            simpa using this
          · have := ih xs ys (by omega)
            simp; omega
noncomputable def dB (l : List (List UInt8)) : D := .list (l.map .bytes)
end Mine

namespace Mine
open PySem PySem.Calls PyProof.Rows

section
variable {G : Gx} {n : Nat} {env : Env} {W : List Str} {ρ : Rho} {μ : Mu}
theorem S1.thenK {st : Stmt} {rest : List Stmt} {A : Around} {Y : List Addr} {s₀ s : Shared} {KK : Rho → Mu → Prop} {E : Value → Shared → Prop} {Q : Flow → Shared → Prop} (a : At G A env W ρ μ Y s₀ s) (rm : Rm n A) (h : S1 G n env W st ρ μ fun f ρ' μ' => f = .next ∧ KK ρ' μ')
    (k : ∀ ρ' μ' s', KK ρ' μ' → At G A env W ρ' μ' Y s₀ s' → wpAny (Mo G.w) A (execs rest env) Q E s') : wpAny (Mo G.w) A (execs (st :: rest) env) Q E s := by
  refine wpAny_execs_cons (wpAny_mono (h A s rm a.M a.F) (fun f s' ⟨fd, ρ', μ', ⟨e1, kk⟩, fr, M', F', t'⟩ => ?_) fun _ _ z => z.elim)
  subst e1
  cases fr
  exact k ρ' μ' s' kk ⟨M', F', a.t.trans t'⟩
theorem SE.post {ss : List Stmt} {A : Around} {Y : List Addr} {s₀ s : Shared} {K : FD → Rho → Mu → Prop} (rm : Rm n A) (M : MuOk A G.B μ s.heap) (F : FrOk G.B env W ρ (keys μ) s.heap) (t₀ : Tr Y (ownA env W ++ keys μ) s₀ s) (h : SE G n env W ss ρ μ K) :
    wpAny (Mo G.w) A (execs ss env) (PS G env W A Y s₀ K) (fun _ _ => False) s :=
  wpAny_mono (h A s rm M F) (fun f s' ⟨fd, ρ', μ', k, fr, M', F', t'⟩ => ⟨fd, ρ', μ', k, fr, M', F', t₀.trans t'⟩) fun _ _ z => z
theorem At.ifF {A : Around} {Y : List Addr} {s₀ s : Shared} {c : Expr} {x y : List Stmt} {pos : Pos} {E : Value → Shared → Prop} {Q : Flow → Shared → Prop} (a : At G A env W ρ μ Y s₀ s) (rm : Rm n A) (h : AT G n env W c ρ μ fun b' μ' => b' = false ∧ μ' = μ)
    (k : ∀ s', At G A env W ρ μ Y s₀ s' → wpAny (Mo G.w) A (execs y env) Q E s') : wpAny (Mo G.w) A (exec (.If c x y pos) env) Q E s :=
  a.if_ (x := x) rm h k
theorem try_ok {body : List Stmt} {h₀ : ExceptHandler} {hs : List ExceptHandler} {pos : Pos} {A : Around} {s : Shared} {KK : Rho → Mu → Prop} {Q : Flow → Shared → Prop} {E : Value → Shared → Prop} (rm : Rm n A) (M : MuOk A G.B μ s.heap) (F : FrOk G.B env W ρ (keys μ) s.heap) (h : SE G n env W body ρ μ fun f ρ' μ' => f = .next ∧ KK ρ' μ')
    (k : ∀ ρ' μ' s', KK ρ' μ' → MuOk A G.B μ' s'.heap → FrOk G.B env W ρ' (keys μ') s'.heap → Tr (ownA env W ++ keys μ) (ownA env W ++ keys μ') s s' → Q .next s') :
    wpAny (Mo G.w) A (exec (.Try body (h₀ :: hs) [] [] pos) env) Q E s := by
  refine wpAny_Try_except (wpAny_mono (h A s rm M F) (fun f s' ⟨fd, ρ', μ', ⟨e1, kk⟩, fr, M', F', t'⟩ => ?_) fun _ _ z => z.elim)
  subst e1
  cases fr
  exact wpAny_execs_nil (k ρ' μ' s' kk M' F' t')
end

theorem map_get {l : List (List UInt8)} {i : Nat} (h : i < l.length) : (l.map D.bytes)[i]? = some (.bytes l[i]) := by
  rw [List.getElem?_map, List.getElem?_eq_getElem h]; rfl

theorem pw_get {l : List (List UInt8)} (hp : l.Pairwise fun a b => blt a b = true) {i j : Nat} (hij : i < j) (hj : j < l.length) : blt l[i] l[j] = true := List.pairwise_iff_getElem.mp hp i j (Nat.lt_trans hij hj) hj hij
theorem ms1 {i n m : Nat} (h : i < n) : (n - (i + 1)) + m < (n - i) + m := by omega
theorem ms2 {i n m : Nat} (h : i < n) : m + (n - (i + 1)) < m + (n - i) := by omega
theorem ms3 {i n j m : Nat} (h : i < n) : (n - (i + 1)) + (m - (j + 1)) < (n - i) + (m - j) := by omega
theorem sl500 {n : Nat} (h : n < 500) : n ≤ sizeLine := by rw [sizeLine_eq]; omega
theorem last_int {i n : Nat} (h : i + 1 = n) : (i : Int) + 1 = n ∧ (i : Int) = (n : Int) - 1 := by omega
theorem blt_ne {x y : List UInt8} (h : blt x y = true) : y ≠ x := fun q => by subst q; rw [blt_irrefl] at h; cases h

structure SL (xs ys : List (List UInt8)) : Prop where
  px : xs.Pairwise fun a b => blt a b = true
  py : ys.Pairwise fun a b => blt a b = true
  last : ∃ z, xs.getLast? = some z ∧ ys.getLast? = some z
theorem last_get {l : List (List UInt8)} {z : List UInt8} (h : l.getLast? = some z) {i : Nat} (hi : i < l.length) (e : i + 1 = l.length) : l[i] = z := by
  rw [List.getLast?_eq_getElem?] at h
  have : l.length - 1 = i := by omega
  rw [this, List.getElem?_eq_getElem hi] at h
  exact Option.some.inj h
theorem SL.lt {xs ys : List (List UInt8)} (h : SL xs ys) {i j : Nat} (hi : i < xs.length) (hj : j < ys.length) (hb : blt xs[i] ys[j] = true) : i + 1 < xs.length := by
  obtain ⟨z, h1, h2⟩ := h.last
  by_cases q : i + 1 = xs.length
  · exfalso
    rw [last_get h1 hi q] at hb
    by_cases q' : j + 1 = ys.length
    · rw [last_get h2 hj q', blt_irrefl] at hb; cases hb
    · have := pw_get h.py (show j < ys.length - 1 by omega) (by omega)
      rw [last_get h2 (i := ys.length - 1) (by omega) (by omega)] at this
      rw [blt_asymm this] at hb; cases hb
  · omega
theorem SL.sw {xs ys : List (List UInt8)} (h : SL xs ys) : SL ys xs := ⟨h.py, h.px, let ⟨z, a, b⟩ := h.last; ⟨z, b, a⟩⟩
theorem SL.eq {xs ys : List (List UInt8)} (h : SL xs ys) {i j : Nat} (hi : i < xs.length) (hj : j < ys.length) (hb : xs[i] = ys[j]) (q : i + 1 = xs.length) : j + 1 = ys.length := by
  obtain ⟨z, h1, h2⟩ := h.last
  by_cases q' : j + 1 = ys.length
  · exact q'
  · exfalso
    have := pw_get h.py (show j < ys.length - 1 by omega) (by omega)
    rw [last_get h2 (i := ys.length - 1) (by omega) (by omega), ← hb, last_get h1 hi q, blt_irrefl] at this
    cases this

/-- a while whose test fails at once: the next item is another one -/
theorem S1.scan {G : Gx} {n : Nat} {env : Env} {W : List Str} {ρ : Rho} {μ : Mu} {x i y : Str} {px pi ps py pc pos : Pos} {body : List Stmt} {xs : List (List UInt8)} {k : Nat} {u : List UInt8} {K : FD → Rho → Mu → Prop}
    (hx : ρ.lookup x = some (dB xs)) (hi : ρ.lookup i = some (.int k)) (hy : ρ.lookup y = some (.bytes u)) (hk : k < xs.length) (hz : xs.length ≤ 500) (hne : xs[k] ≠ u) (h : K .next ρ μ)
    (hxd : (x == ("__debug__" : Str)) = false := by decide) (hid : (i == ("__debug__" : Str)) = false := by decide) (hyd : (y == ("__debug__" : Str)) = false := by decide)
    (hm : behindInMarks .Eq (.Name y py) = false := by with_unfolding_all rfl)
    (hs : ∀ a k u, subscripted (.Name i pi) false (.ref a) (.int k u) = operate [.ref a, .int k u] (getItem (.ref a) (.int k u)) := by intro _ _ _; with_unfolding_all rfl) :
    S1 G n env W (.While (.Compare (.Subscript (.Name x px) (.Name i pi) ps) [.Eq] [.Name y py] pc) body [] pos) ρ μ K := by
  refine S1.while_ (fun _ ρ' μ' => ρ' = ρ ∧ μ' = μ) 0 ⟨rfl, rfl⟩ fun _ ρ' μ' ⟨e1, e2⟩ => ?_
  subst e1 e2
  refine AT.cmp (AE.item (AE.var hx (AE.var hi ⟨_, (k : Int), _, .inl rfl, rfl, nn _, n63 hk hz, map_get hk, AE.var hy (V2.beq ⟨_, rfl, ?_⟩) hyd⟩ hid) hxd) hs) hm
  rw [decide_eq_false hne]
  exact h

set_option maxHeartbeats 4000000 in
theorem sldiff0 {G : Gx} {fa : Nat → Addr} (gl : Glo G fa) {n : Nat} {xs ys : List (List UInt8)} {μ : Mu} (hx : xs.length < 500) (hy : ys.length < 500) (sl : SL xs ys) :
    Vn G (n + 1) (fun vs => call (.ref (fa 9)) vs) [dB xs, dB ys] μ fun d μ' => ∃ m u, d = .tuple [.val (.ref m), .val (.ref u)] ∧ μ' = (u, (mg xs ys).2.map .bytes) :: (m, (mg xs ys).1.map .bytes) :: μ := by
  refine Vn.fnA (names := ["expected", "actual"]) (W := ["expected", "actual", "i", "j", "missing", "unexpected", "e", "a"]) (gl.fn 9) gl.lim rfl (fun pm c doc vs hv => ?_) (by decide) (by decide) ?_ (fun pm c doc L => ?_) (by rfl) (by rfl) (by rfl)
  · obtain ⟨_, _, rfl⟩ := len2 hv; rfl
  · intro x hx
    simp only [List.mem_cons, List.not_mem_nil, or_false] at hx
    rcases hx with rfl | rfl | rfl | rfl | rfl | rfl | rfl | rfl <;> exact .inl rfl
  rintro A s ⟨outer, hfr⟩ rm M F
  have hxm := mg_len _ xs ys (Nat.le_refl _)
  have hlx : (xs.map D.bytes).length = xs.length := List.length_map ..
  have hly : (ys.map D.bytes).length = ys.length := List.length_map ..
  have hsl : 1000 ≤ sizeLine := by rw [sizeLine_eq]; decide
  have a₀ : At G A (fenv (fdef 9).1 (fdef 9).2.1 (fdef 9).2.2.1 (fdef 9).2.2.2 pm c doc L (fa 9)) ["expected", "actual", "i", "j", "missing", "unexpected", "e", "a"] [("expected", dB xs), ("actual", dB ys)] μ _ s s := ⟨M, F, .refl (ownA (fenv (fdef 9).1 (fdef 9).2.1 (fdef 9).2.2.1 (fdef 9).2.2.2 pm c doc L (fa 9)) ["expected", "actual", "i", "j", "missing", "unexpected", "e", "a"] ++ keys μ) s⟩
  refine S1.then (ρ₁ := [("j", .int 0), ("i", .int 0), ("expected", dB xs), ("actual", dB ys)]) a₀ rm (S1.two (AE.int ⟨rfl, rfl, rfl⟩)) fun s₁ a₁ => ?_
  refine S1.thenK (KK := fun ρ' μ' => ∃ m, ρ' = ([("missing", .val (.ref m)), ("j", .int 0), ("i", .int 0), ("expected", dB xs), ("actual", dB ys)] : Rho) ∧ μ' = (m, []) :: μ) a₁ rm (S1.assign (AE.listM (AEs.nil ⟨Nat.zero_le _, fun a => ⟨rfl, a, rfl, rfl⟩⟩))) ?_
  rintro _ _ s₂ ⟨m, rfl, rfl⟩ a₂
  refine S1.thenK (KK := fun ρ' μ' => ∃ u, ρ' = ([("unexpected", .val (.ref u)), ("missing", .val (.ref m)), ("j", .int 0), ("i", .int 0), ("expected", dB xs), ("actual", dB ys)] : Rho) ∧ μ' = (u, []) :: (m, []) :: μ) a₂ rm (S1.assign (AE.listM (AEs.nil ⟨Nat.zero_le _, fun a => ⟨rfl, a, rfl, rfl⟩⟩))) ?_
  rintro _ _ s₃ ⟨u, rfl, rfl⟩ a₃
  obtain ⟨z, hzx, hzy⟩ := sl.last
  have hx0 : 0 < xs.length := by cases xs with | nil => cases hzx | cons => simp
  have hy0 : 0 < ys.length := by cases ys with | nil => cases hzy | cons => simp
  refine wpAny_execs_cons (wpAny_mono (S1a.forever (n := n) (σ := Nat × Nat × List (List UInt8) × List (List UInt8)) (K := fun f ρ' μ' => f = .next ∧ Ext [("missing", .val (.ref m)), ("unexpected", .val (.ref u))] ρ' ∧ μ' = (u, (mg xs ys).2.map .bytes) :: (m, (mg xs ys).1.map .bytes) :: μ)
    (fun τ => [("expected", dB xs), ("actual", dB ys), ("i", .int τ.1), ("j", .int τ.2.1), ("missing", .val (.ref m)), ("unexpected", .val (.ref u))]) (fun τ => (u, τ.2.2.2.map .bytes) :: (m, τ.2.2.1.map .bytes) :: μ)
    (fun τ => τ.1 < xs.length ∧ τ.2.1 < ys.length ∧ τ.2.2.1 ++ (mg (xs.drop τ.1) (ys.drop τ.2.1)).1 = (mg xs ys).1 ∧ τ.2.2.2 ++ (mg (xs.drop τ.1) (ys.drop τ.2.1)).2 = (mg xs ys).2)
    (fun τ => (xs.length - τ.1) + (ys.length - τ.2.1)) (0, 0, [], []) ⟨hx0, hy0, rfl, rfl⟩ (.mk rfl (.mk rfl (.mk rfl (.mk rfl (.mk rfl (.mk rfl .nil)))))) rfl rm a₃.M a₃.F ?_) (fun f s₄ ⟨fd, ρ', μ', ⟨e1, ext, e2⟩, fr, M₄, F₄, t₄⟩ => ?_) fun _ _ z => z)
  · rintro ⟨i, j, ms, us⟩ ⟨hi, hj, hm1, hm2⟩ s M F
    dsimp only at hi hj hm1 hm2 M F ⊢
    have hms : ms.length ≤ xs.length := by rw [← hm1, List.length_append] at hxm; exact Nat.le_trans (Nat.le_add_right _ _) hxm.1
    have hus : us.length ≤ ys.length := by rw [← hm2, List.length_append] at hxm; exact Nat.le_trans (Nat.le_add_right _ _) hxm.2
    have zms : (ms.map D.bytes).length ≤ sizeLine := by rw [List.length_map]; exact Nat.le_trans hms (sl500 hx)
    have zus : (us.map D.bytes).length ≤ sizeLine := by rw [List.length_map]; exact Nat.le_trans hus (sl500 hy)
    have dx : xs.drop i = xs[i] :: xs.drop (i + 1) := List.drop_eq_getElem_cons hi
    have dy : ys.drop j = ys[j] :: ys.drop (j + 1) := List.drop_eq_getElem_cons hj
    rw [dx, dy, mg] at hm1 hm2
    by_cases b1 : blt xs[i] ys[j] = true
    · rw [if_pos b1] at hm1 hm2
      have hi1 := sl.lt hi hj b1
      refine try_ok (KK := fun ρ' μ' => Ext [("expected", dB xs), ("actual", dB ys), ("i", .int (i + 1 : Nat)), ("j", .int j), ("missing", .val (.ref m)), ("unexpected", .val (.ref u))] ρ' ∧ μ' = (u, us.map .bytes) :: (m, (ms ++ [xs[i]]).map .bytes) :: μ) rm M F ?_ ?_
      · refine SE.cons (S1.assign (AE.item (AE.var rfl (AE.var rfl ⟨_, (i : Int), _, .inl rfl, rfl, nn _, n63 hi (Nat.le_of_lt hx), map_get hi, ?_⟩))))
        refine SE.cons (S1.assign (AE.item (AE.var rfl (AE.var rfl ⟨_, (j : Int), _, .inl rfl, rfl, nn _, n63 hj (Nat.le_of_lt hy), map_get hj, ?_⟩))))
        refine SE.cons (S1.if_ (AT.cmp (AE.var rfl (AE.var rfl (V2.blt ⟨_, rfl, ?_⟩)))))
        rw [b1]
        show SE ..
        refine SE.cons (S1.expr (AE.sw (AE.append (AE.var rfl ⟨⟨rfl, rfl⟩, AE.var rfl ⟨rfl, zms, _, _, rfl, rfl, ?_⟩⟩))))
        show SE ..
        refine SE.cons (S1.aug rfl (AE.int (V2.iadd ?_)))
        refine SE.cons (S1.scan (k := i + 1) rfl rfl rfl hi1 (Nat.le_of_lt hx) (blt_ne (pw_get sl.px (Nat.lt_succ_self i) hi1)) (SE.nil (SE.nil ⟨rfl, .mk rfl (.mk rfl (.mk rfl (.mk rfl (.mk rfl (.mk rfl .nil))))), by rw [List.map_append]; rfl⟩)))
      · rintro ρ' μ' s' ⟨he, rfl⟩ M' F' t'
        refine .inl ⟨rfl, (i + 1, j, ms ++ [xs[i]], us), ⟨hi1, hj, ?_, ?_⟩, ms1 hi, M', F'.weaken he, t'⟩
        · rw [← hm1, dy]; simp
        · rw [← hm2, dy]
    · rw [if_neg b1] at hm1 hm2
      have b1' : blt xs[i] ys[j] = false := by simpa using b1
      by_cases b2 : blt ys[j] xs[i] = true
      · rw [if_pos b2] at hm1 hm2
        have hj1 := sl.sw.lt hj hi b2
        refine try_ok (KK := fun ρ' μ' => Ext [("expected", dB xs), ("actual", dB ys), ("i", .int i), ("j", .int (j + 1 : Nat)), ("missing", .val (.ref m)), ("unexpected", .val (.ref u))] ρ' ∧ μ' = (u, (us ++ [ys[j]]).map .bytes) :: (m, ms.map .bytes) :: μ) rm M F ?_ ?_
        · refine SE.cons (S1.assign (AE.item (AE.var rfl (AE.var rfl ⟨_, (i : Int), _, .inl rfl, rfl, nn _, n63 hi (Nat.le_of_lt hx), map_get hi, ?_⟩))))
          refine SE.cons (S1.assign (AE.item (AE.var rfl (AE.var rfl ⟨_, (j : Int), _, .inl rfl, rfl, nn _, n63 hj (Nat.le_of_lt hy), map_get hj, ?_⟩))))
          refine SE.cons (S1.if_ (AT.cmp (AE.var rfl (AE.var rfl (V2.blt ⟨_, rfl, ?_⟩)))))
          rw [b1']
          show SE ..
          refine SE.cons (S1.if_ (AT.cmp (AE.var rfl (AE.var rfl (V2.bgt ⟨_, rfl, ?_⟩)))))
          rw [b2]
          show SE ..
          refine SE.cons (S1.expr (AE.append (AE.var rfl ⟨⟨rfl, rfl⟩, AE.var rfl ⟨rfl, zus, rfl, ?_⟩⟩)))
          show SE ..
          refine SE.cons (S1.aug rfl (AE.int (V2.iadd ?_)))
          refine SE.cons (S1.scan (k := j + 1) rfl rfl rfl hj1 (Nat.le_of_lt hy) (blt_ne (pw_get sl.py (Nat.lt_succ_self j) hj1)) (SE.nil (SE.nil (SE.nil ⟨rfl, .mk rfl (.mk rfl (.mk rfl (.mk rfl (.mk rfl (.mk rfl .nil))))), by rw [List.map_append]; rfl⟩))))
        · rintro ρ' μ' s' ⟨he, rfl⟩ M' F' t'
          refine .inl ⟨rfl, (i, j + 1, ms, us ++ [ys[j]]), ⟨hi, hj1, ?_, ?_⟩, ms2 hj, M', F'.weaken he, t'⟩
          · rw [← hm1, dx]
          · rw [← hm2, dx]; simp
      · rw [if_neg b2] at hm1 hm2
        have b2' : blt ys[j] xs[i] = false := by simpa using b2
        have heq := blt_tri b1' b2'
        by_cases q : i + 1 = xs.length
        · have q' := sl.eq hi hj heq q
          have hi' : (i : Int) + 1 = ((xs.map D.bytes).length : Int) := by rw [hlx]; exact (last_int q).1
          have hj' : (j : Int) = ((ys.map D.bytes).length : Int) - 1 := by rw [hly]; exact (last_int q').2
          have ex : xs.drop (i + 1) = [] := by rw [q, List.drop_length]
          have ey : ys.drop (j + 1) = [] := by rw [q', List.drop_length]
          rw [ex, ey] at hm1 hm2
          have hm1' : ms = (mg xs ys).1 := by simpa [mg] using hm1
          have hm2' : us = (mg xs ys).2 := by simpa [mg] using hm2
          refine wpAny_Try_except ?_
          have a : At G A (fenv (fdef 9).1 (fdef 9).2.1 (fdef 9).2.2.1 (fdef 9).2.2.2 pm c doc L (fa 9)) ["expected", "actual", "i", "j", "missing", "unexpected", "e", "a"] [("expected", dB xs), ("actual", dB ys), ("i", .int i), ("j", .int j), ("missing", .val (.ref m)), ("unexpected", .val (.ref u))] ((u, us.map .bytes) :: (m, ms.map .bytes) :: μ)
            (ownA (fenv (fdef 9).1 (fdef 9).2.1 (fdef 9).2.2.1 (fdef 9).2.2.2 pm c doc L (fa 9)) ["expected", "actual", "i", "j", "missing", "unexpected", "e", "a"] ++ keys ((u, us.map .bytes) :: (m, ms.map .bytes) :: μ)) s s := ⟨M, F, .refl _ _⟩
          refine S1.then (n := n) a rm (S1.assign (AE.item (AE.var rfl (AE.var rfl ⟨_, (i : Int), _, .inl rfl, rfl, nn _, n63 hi (Nat.le_of_lt hx), map_get hi, rfl, rfl, rfl⟩)))) fun s₁ a₁ => ?_
          refine S1.then (n := n) a₁ rm (S1.assign (AE.item (AE.var rfl (AE.var rfl ⟨_, (j : Int), _, .inl rfl, rfl, nn _, n63 hj (Nat.le_of_lt hy), map_get hj, rfl, rfl, rfl⟩)))) fun s₂ a₂ => ?_
          refine wpAny_execs_cons (a₂.ifF rm (AT.cmp (AE.var rfl (AE.var rfl (V2.blt ⟨_, rfl, b1', rfl⟩)))) fun s₃ a₃ => ?_)
          refine wpAny_execs_cons (a₃.ifF rm (AT.cmp (AE.var rfl (AE.var rfl (V2.bgt ⟨_, rfl, b2', rfl⟩)))) fun s₄ a₄ => ?_)
          refine wpAny_execs_cons (a₄.inc (n := (i : Int)) rfl (by decide) fun s₅ a₅ _ => ?_)
          rw [hi'] at a₅
          refine wpAny_execs_cons (final_out (xs := xs.map .bytes) (ys := ys.map .bytes) a₅ hfr rfl rm.1 rfl rfl (by rw [hlx]; exact Nat.lt_trans hx (by decide)) rfl (by rw [← hj']; rfl) (by rw [hly]; exact Nat.lt_trans hy (by decide)) (by decide) (by decide) fun e cc s₆ f₆ => ?_)
          refine f₆.again rfl (f₆.flight (o := none) fun s₇ f₇ => ?_)
          refine handler (xs := xs.map .bytes) (ds := ms.map .bytes) (m := m) (xs2 := ys.map .bytes) (ds2 := us.map .bytes) (m2 := u) f₇ gl.gindex rfl (.tail _ (.head _)) rfl rfl (by rw [hlx]; exact sl500 hx) zms rfl (.head _) rfl rfl (by rw [hly]; exact sl500 hy) zus fun s₈ a₈ => ?_
          exact .inr ⟨rfl, _, _, ⟨rfl, .mk rfl (.mk rfl .nil), by rw [hm1', hm2']⟩, a₈.M, a₈.F, a₈.t⟩
        · have q' : j + 1 ≠ ys.length := fun q' => q (sl.sw.eq hj hi heq.symm q')
          have hi1 : i + 1 < xs.length := Nat.lt_of_le_of_ne hi q
          have hj1 : j + 1 < ys.length := Nat.lt_of_le_of_ne hj q'
          refine try_ok (KK := fun ρ' μ' => Ext [("expected", dB xs), ("actual", dB ys), ("i", .int (i + 1 : Nat)), ("j", .int (j + 1 : Nat)), ("missing", .val (.ref m)), ("unexpected", .val (.ref u))] ρ' ∧ μ' = (u, us.map .bytes) :: (m, ms.map .bytes) :: μ) rm M F ?_ ?_
          · refine SE.cons (S1.assign (AE.item (AE.var rfl (AE.var rfl ⟨_, (i : Int), _, .inl rfl, rfl, nn _, n63 hi (Nat.le_of_lt hx), map_get hi, ?_⟩))))
            refine SE.cons (S1.assign (AE.item (AE.var rfl (AE.var rfl ⟨_, (j : Int), _, .inl rfl, rfl, nn _, n63 hj (Nat.le_of_lt hy), map_get hj, ?_⟩))))
            refine SE.cons (S1.if_ (AT.cmp (AE.var rfl (AE.var rfl (V2.blt ⟨_, rfl, ?_⟩)))))
            rw [b1']
            show SE ..
            refine SE.cons (S1.if_ (AT.cmp (AE.var rfl (AE.var rfl (V2.bgt ⟨_, rfl, ?_⟩)))))
            rw [b2']
            show SE ..
            refine SE.cons (S1.aug rfl (AE.int (V2.iadd ?_)))
            refine SE.cons (S1.tryF (SE.cons (S1.scan (k := i + 1) rfl rfl rfl hi1 (Nat.le_of_lt hx) (blt_ne (pw_get sl.px (Nat.lt_succ_self i) hi1)) (SE.nil ⟨rfl, ?_⟩))))
            refine SE.cons (S1.aug rfl (AE.int (V2.iadd ?_)))
            exact SE.cons (S1.scan (k := j + 1) rfl rfl rfl hj1 (Nat.le_of_lt hy) (blt_ne (pw_get sl.py (Nat.lt_succ_self j) hj1)) (SE.nil (SE.nil (SE.nil (SE.nil ⟨rfl, .mk rfl (.mk rfl (.mk rfl (.mk rfl (.mk rfl (.mk rfl .nil))))), rfl⟩)))))
          · rintro ρ' μ' s' ⟨he, rfl⟩ M' F' t'
            exact .inl ⟨rfl, (i + 1, j + 1, ms, us), ⟨hi1, hj1, hm1, hm2⟩, ms3 hi, M', F'.weaken he, t'⟩
  · subst e1 e2
    cases fr
    refine SE.post rm M₄ (F₄.weaken ext) (a₃.t.trans t₄) ?_
    exact SE.cons (S1.ret (AE.tupleD (AEs.cons (AE.var rfl (AEs.cons (AE.var rfl (AEs.nil ⟨Nat.le_trans (show 2 ≤ 1000 by decide) hsl, m, u, rfl, rfl⟩)))))))

/-- sorted_list_difference -/
theorem sldiff {G : Gx} {fa : Nat → Addr} (gl : Glo G fa) {n : Nat} {xs ys : List (List UInt8)} {μ : Mu} {K : D → Mu → Prop} (hx : xs.length < 500) (hy : ys.length < 500) (sl : SL xs ys) (h : K (.tuple [dB (mg xs ys).1, dB (mg xs ys).2]) μ) :
    Vn G (n + 1) (fun vs => call (.ref (fa 9)) vs) [dB xs, dB ys] μ K := fun A s vs rm M rs => by
  refine wpAny_mono (sldiff0 gl hx hy sl A s vs rm M rs) ?_ fun _ _ z => z
  rintro v s' ⟨d, μ', ⟨m, u, rfl, rfl⟩, r, M', t⟩
  obtain ⟨M₁, r₁⟩ := M'.less
  obtain ⟨M₂, r₂⟩ := M₁.less
  refine ⟨_, μ, h, ?_, M₂, ?_⟩
  · cases r with
    | tuple hn ht rs' =>
      cases rs' with
      | cons q₁ rs' =>
        cases rs' with
        | cons q₂ rs' =>
          cases rs'; (first | obtain ⟨_, rfl⟩ := q₁.intD | obtain ⟨_, rfl⟩ := q₁.bytesD | obtain ⟨_, rfl⟩ := q₁.strD | obtain rfl := q₁.boolD | obtain rfl := q₁.valD | obtain rfl := q₁.noneD | cases q₁); (first | obtain ⟨_, rfl⟩ := q₂.intD | obtain ⟨_, rfl⟩ := q₂.bytesD | obtain ⟨_, rfl⟩ := q₂.strD | obtain rfl := q₂.boolD | obtain rfl := q₂.valD | obtain rfl := q₂.noneD | cases q₂)
          exact .tuple (fun q => hn (.tail _ (.tail _ q))) ht (.cons r₂ (.cons (r₁.congr fun a ha => .tail _ ha) .nil))
  · obtain ⟨h', tk', e, k, nn⟩ := t
    exact ⟨h', tk', e, k, fun a ha => nn a (.tail _ (.tail _ ha))⟩
end Mine

namespace Mine
open PySem PySem.Calls PyProof.Rows

theorem args_bytes_decode_2 (a b : Value) : argsOk "bytes.decode" ⟨[a, b], []⟩ := by
  unfold argsOk; rw [signature?_of (id := "bytes.decode") (n := ['e', 'd', 'o', 'c', 'e', 'd']) (o := ['s', 'e', 't', 'y', 'b']) (by kernel_rfl) PySem.W.FB.owner_bytes]; kernel_rfl

section
open Builtin
theorem road_ascii {id : String} {b : Array UInt8} : _codecs.decodeRoad id b (PySem.Str.ofString "ascii") none [] = (_codecs.runDecoder id _codecs.asciiDecoder none true b 0 [] >>= fun r => mkStr ⟨r.1⟩) := by kernel_rfl

theorem dec_loop {b : Array UInt8} (f : Nat → (Nat × Array Nat × _codecs.Faults) → Sem (ForInStep (Nat × Array Nat × _codecs.Faults)))
    (hz : b.size ≤ sizeLine) (hf : ∀ i out p st, out.size ≤ sizeLine → p < b.size → f i (p, out, st) = pure (.yield (p + 1, out ++ [(b.getD p 0).toNat].toArray, st))) :
    ∀ (k : Nat) (l : List Nat) (out : Array Nat) (p : Nat) (st : _codecs.Faults), l.length = k → p + k = b.size → out.size = p → (forIn l (p, out, st) f : Sem _) = pure (b.size, out ++ ((List.range' p k).map fun i => (b.getD i 0).toNat).toArray, st)
  | 0, l, out, p, st, hl, hp, ho => by
    have : l = [] := List.length_eq_zero_iff.mp hl
    subst this
    simp only [List.forIn_nil, List.range'_zero, List.map_nil]
    have : p = b.size := by omega
    subst this; simp
  | k + 1, [], out, p, st, hl, hp, ho => by cases hl
  | k + 1, i :: l, out, p, st, hl, hp, ho => by
    rw [List.forIn_cons, hf i out p st (by omega) (by omega), pure_bind]
    dsimp only
    rw [dec_loop f hz hf k l _ _ _ (by simpa using hl) (by omega) (by simp; omega)]
    congr 3
    rw [List.range'_succ, List.map_cons]
    simp
theorem run_ascii {id : String} {b : Array UInt8} (hb : ∀ i, (b.getD i 0).toNat < 128) (hz : b.size ≤ sizeLine) : _codecs.runDecoder id _codecs.asciiDecoder none true b 0 [] = pure (((List.range' 0 b.size).map fun i => (b.getD i 0).toNat).toArray, b.size) := by
  unfold _codecs.runDecoder
  dsimp only
  rw [Std.Legacy.Range.forIn_eq_forIn_range']
  rw [dec_loop (b := b) _ hz (fun i out p st ho hp => ?_) b.size _ #[] 0 _ (by simp) (by omega) rfl]
  · simp
  · have h1 : ¬ out.size > sizeLine := by omega
    have h2 : ¬ p ≥ b.size := by omega
    have h3 : _codecs.asciiDecoder.find true b p = .text [(b.getD p 0).toNat] (p + 1) := by
      show (if (b.getD p 0).toNat < 128 then _codecs.Found.char (b.getD p 0).toNat (p + 1) else _) = _
      rw [if_pos (hb p)]; rfl
    dsimp only
    rw [if_neg h1, if_neg h2, h3]

noncomputable def chars (l : List UInt8) : Str := ⟨(l.map (·.toNat)).toArray⟩
theorem range_get (l : List UInt8) : ((List.range' 0 l.toArray.size).map fun i => (l.toArray.getD i 0).toNat).toArray = (chars l).cps := by
  apply Array.toList_inj.mp
  show (List.range' 0 l.toArray.size).map (fun i => (l.toArray.getD i 0).toNat) = l.map (·.toNat)
  apply List.ext_getElem
  · simp
  · intro i h1 h2
    simp at h1
    simp [h1]
theorem chars_length (l : List UInt8) : (chars l).length = l.length := by
  show ((l.map (·.toNat)).toArray).size = _
  simp
variable {l : List UInt8} {t : Tok}
theorem meets_text_ascii {t1 t2 : Tok} {d : PySem.Str} (hb : ∀ c ∈ l, c.toNat < 128) (hz : l.length ≤ sizeLine) :
    Meets («_codecs.decode.text» ⟨[.bytes l.toArray t, .str (PySem.Str.ofString "ascii") t1, .none, .str d t2], []⟩) (fun _ R s => R (.ok (.ret (.str (chars l) s.toks))) { s with toks := s.toks + 1 }) := by
  refine .of_wp fun prog w A R s h => ?_
  show wpAny _ _ (Bytes.bytesLike _ (.bytes l.toArray t) >>= fun r => _) _ _ s
  refine wpAny_bind (wpAny_of_eq PySem.W.KBd.like_eq ?_)
  refine wpAny_bind (wpAny_of_eq PySem.W.KBd.held_eq ?_)
  show wpAny _ _ (_codecs.decodeRoad _ l.toArray (PySem.Str.ofString "ascii") none [] >>= fun v => _) _ _ s
  have hb' : ∀ i, (l.toArray.getD i 0).toNat < 128 := fun i => by
    by_cases hi : i < l.length
    · simp [hi]; exact hb _ (List.getElem_mem hi)
    · simp [hi]
  rw [road_ascii, run_ascii hb' (by simpa using hz)]
  refine wpAny_bind (wpAny_bind (wpAny_pure ?_))
  dsimp only
  rw [range_get]
  exact wpAny_mkStr (wpAny_pure ⟨_, rfl, h⟩) (by show (chars l).length ≤ _; rw [chars_length]; exact hz)
theorem decode_cons {c : UInt8} {cs : List UInt8} {u : Tok} : «bytes.decode» ⟨[.bytes (c :: cs).toArray t, .str (PySem.Str.ofString "ascii") u], []⟩ = (mkStr (PySem.Str.ofString "utf-8") >>= fun _ => mkStr (PySem.Str.ofString "ascii") >>= fun e => mkStr (PySem.Str.ofString "bytes.decode") >>= fun d =>
    call (.builtin "_codecs.decode.text") [.bytes (c :: cs).toArray t, e, .none, d] >>= fun v => ret v) := by kernel_rfl
theorem decode_nil {u : Tok} : «bytes.decode» ⟨[.bytes ([] : List UInt8).toArray t, .str (PySem.Str.ofString "ascii") u], []⟩ = (rule "bytes.decode.empty" >>= fun _ => retStr Str.empty) := by kernel_rfl
theorem meets_decode_ascii {u : Tok} (hb : ∀ c ∈ l, c.toNat < 128) (hz : l.length ≤ sizeLine) :
    Meets («bytes.decode» ⟨[.bytes l.toArray t, .str (PySem.Str.ofString "ascii") u], []⟩) (fun _ R s => ∀ t' k, R (.ok (.ret (.str (chars l) t'))) { s with toks := k }) := by
  refine .of_wp fun prog w A R s h => ?_
  cases l with
  | nil =>
    rw [decode_nil]
    refine wpAny_bind (wpAny_rule ?_)
    unfold retStr
    exact wpAny_bind (wpAny_mkStr (wpAny_pure ⟨_, rfl, h _ _⟩) (by decide))
  | cons c cs =>
    rw [decode_cons]
    refine wpAny_bind (wpAny_mkStr ?_ (by decide))
    refine wpAny_bind (wpAny_mkStr ?_ (by decide))
    refine wpAny_bind (wpAny_mkStr ?_ (by decide))
    exact wpAny_bind (call_function_meets PySem.W.KBd.kind_text PySem.W.KBd.plain_text PySem.W.KBd.entry_text (PySem.W.KBd.args_text _ _ _ _) (meets_text_ascii hb hz) (wpAny_pure ⟨_, rfl, h _ _⟩))
end

section
variable {G : Gx} {n : Nat} {env : Env} {W : List Str} {ρ : Rho} {μ : Mu} {K : D → Mu → Prop}
theorem V2.bne {p q : Bool} (h : K (.bool (p != q)) μ) : V2 G n (compareOp .NotEq) (.bool p) (.bool q) μ K := fun A s v u rm M rv ru => by
  (first | obtain ⟨_, rfl⟩ := rv.intD | obtain ⟨_, rfl⟩ := rv.bytesD | obtain ⟨_, rfl⟩ := rv.strD | obtain rfl := rv.boolD | obtain rfl := rv.valD | obtain rfl := rv.noneD | cases rv); (first | obtain ⟨_, rfl⟩ := ru.intD | obtain ⟨_, rfl⟩ := ru.bytesD | obtain ⟨_, rfl⟩ := ru.strD | obtain rfl := ru.boolD | obtain rfl := ru.valD | obtain rfl := ru.noneD | cases ru)
  refine PySem.SeqAt.RcNeAt.bool_bool p q _ _ _ _ ⟨_, μ, h, ?_, M, .refl ..⟩
  rw [show (p != q) = !(p == q) from rfl]
  exact .bool _

/-- a sign of a text -/
theorem AE.sign {value slice : Expr} {pos : Pos} {K : D → Mu → Prop}
    (h : AE G n env W value ρ μ fun dl μ₁ => AE G n env W slice ρ μ₁ fun di μ₂ => ∃ (x : Str) (k : Nat) (c : Nat), dl = .str x ∧ di = .int k ∧ k < 2 ^ 62 ∧ x.cps[k]? = some c ∧ K (.str ⟨#[c]⟩) μ₂)
    (hs : ∀ a t k u, subscripted slice false (.str a t) (.int k u) = operate [.str a t, .int k u] (getItem (.str a t) (.int k u)) := by intro _ _ _ _; with_unfolding_all rfl) :
    AE G n env W (.Subscript value slice pos) ρ μ K := fun A s rm M F => by
  refine Subscript_ (h.go rm M F fun dl μ₁ o s₁ k₁ ro M₁ F₁ t₁ => k₁.go rm M₁ F₁ fun di μ₂ i s₂ ⟨x, k, c, hdl, hdi, h62, hc, kk⟩ ri M₂ F₂ t₂ => ?_)
  subst hdl hdi
  obtain ⟨t, rfl⟩ := ro.strD
  ·
    obtain ⟨u, rfl⟩ := ri.intD
    ·
      have hk : k < x.cps.size := (Array.getElem?_eq_some_iff.mp hc).1
      refine tail_any (typeIs_str _ _ _) PySem.F.slot_str_getitem.lookup (PySem.P.getItem_str (c := c) ?_ ?_ ⟨_, μ₂, kk, .str _ _, M₂, (t₁.trans t₂).trans (.tok ..)⟩) (hs x t k u)
      · simp; omega
      · have e : seqIndex? (k : Int) x.length = some k := by
          have hk' : k < x.length := hk
          unfold seqIndex?
          simp; omega
        rw [e]; exact hc
end
end Mine

namespace Mine
open PySem PySem.Calls PyProof.Rows

theorem strs_of_rep {X : List Addr} {h : Heap} : ∀ {vs : List Value} {ys : List Str}, RepL X h vs (ys.map .str) → ∃ l : List (Str × Tok), vs = strValues l ∧ l.map (·.1) = ys
  | [], [], _ => ⟨[], rfl, rfl⟩
  | [], _ :: _, r => by (first | obtain ⟨_, rfl⟩ := r.intD | obtain ⟨_, rfl⟩ := r.bytesD | obtain ⟨_, rfl⟩ := r.strD | obtain rfl := r.boolD | obtain rfl := r.valD | obtain rfl := r.noneD | cases r)
  | _ :: _, [], r => by (first | obtain ⟨_, rfl⟩ := r.intD | obtain ⟨_, rfl⟩ := r.bytesD | obtain ⟨_, rfl⟩ := r.strD | obtain rfl := r.boolD | obtain rfl := r.valD | obtain rfl := r.noneD | cases r)
  | v :: vs, x :: xs, r => by
    cases r with
    | cons r rs =>
      obtain ⟨t, rfl⟩ := r.strD
      ·
        obtain ⟨l, rfl, h2⟩ := strs_of_rep rs
        exact ⟨(x, t) :: l, rfl, by rw [List.map_cons, h2]⟩

/-- one text of one-sign texts -/
theorem join_signs (cs : List Nat) : Txt.join Str.empty (cs.map fun c => (⟨#[c]⟩ : Str)) = ⟨cs.toArray⟩ := by
  show Builtin.Str.glued _ _ = _
  unfold Builtin.Str.glued
  cases cs with
  | nil => rfl
  | cons c cs =>
    simp only [List.map_cons, List.drop_succ_cons, List.drop_zero, List.headD_cons]
    have : ∀ (cs : List Nat) (acc : Array Nat), (cs.map fun c => (⟨#[c]⟩ : Str)).foldl (fun acc p => acc ++ Str.empty.cps ++ p.cps) acc = acc ++ cs.toArray := by
      intro cs
      induction cs with
      | nil => intro acc; simp
      | cons d ds ih =>
        intro acc
        rw [List.map_cons, List.foldl_cons, ih]
        show acc ++ #[] ++ #[d] ++ ds.toArray = _
        apply Array.toList_inj.mp; simp
    rw [this]
    congr 1
    apply Array.toList_inj.mp; simp
theorem join_fits (cs : List Nat) (h : cs.length ≤ 1000) : JoinOk Str.empty (cs.map fun c => (⟨#[c]⟩ : Str)) = true := by
  unfold JoinOk
  have : (cs.map fun c => (⟨#[c]⟩ : Str)).toArray.foldl (fun (a : Nat) (p : Str) => a + p.length + Str.empty.length) 0 = cs.length := by
    rw [StrLaws.joinTotal]
    have e : (cs.map fun c => (⟨#[c]⟩ : Str)).map (·.length) = cs.map fun _ => 1 := by rw [List.map_map]; rfl
    rw [e]
    have e2 : Str.empty.length = 0 := rfl
    rw [e2, Nat.mul_zero, Nat.add_zero]
    clear h e e2
    induction cs with
    | nil => rfl
    | cons c cs ih => rw [List.map_cons, List.sum_cons, ih, List.length_cons]; omega
  rw [this]
  have : Builtin.Str.tooLong cs.length = false := by
    unfold Builtin.Str.tooLong
    first | (rw [sizeLine_eq]; simp; omega) | (simp [sizeLine_eq]; omega)
  rw [this]; rfl

section
variable {G : Gx} {n : Nat} {env : Env} {W : List Str} {ρ : Rho} {μ : Mu} {K : D → Mu → Prop}
theorem AE.join {o e : Expr} {apos pos : Pos} (h : AE G n env W o ρ μ fun dl μ₁ => dl = .str Str.empty ∧ AE G n env W e ρ μ₁ fun d μ₂ => ∃ cs : List Nat, d = .list ((cs.map fun c => (⟨#[c]⟩ : Str)).map .str) ∧ cs.length ≤ 1000 ∧ K (.str ⟨cs.toArray⟩) μ₂)
    (hbase : attributeBase o "join" env (eval o env) = eval o env := by rfl) (hs : starEach [e] env = [(false, eval e env)] := by rfl) (hline : (apos.endLine == pos.line) = true := by rfl) :
    AE G n env W (.Call (.Attribute o "join" apos) [e] [] pos) ρ μ K := fun A s rm M F => by
  refine Call_method1 hbase hs hline (h.go rm M F fun dl μ₁ ov s₁ ⟨e0, k⟩ r M₁ F₁ t₁ => ?_)
  subst e0
  obtain ⟨t, rfl⟩ := r.strD
  ·
    refine ⟨"str", "str.join", PySem.F.plainAttrs_str, PySem.F.slot_str_join, PySem.F.type_str_join, typeIs_str _ _ _, (fun b eb => nomatch eb), ?_⟩
    refine seqMethod1_meets PySem.F.slot_str_join PySem.F.entry_str_join (k.go rm M₁ F₁ fun d μ₂ v s₂ ⟨cs, e3, hz, kk⟩ rv M₂ F₂ t₂ => ?_)
    subst e3
    obtain ⟨a, vs, rfl, hn, hl, rs⟩ := rv.listD
    ·
      obtain ⟨l, rfl, hl'⟩ := strs_of_rep rs
      have hok := join_fits cs hz
      rw [← hl'] at hok
      have hok' := hok
      unfold JoinOk at hok
      rw [Bool.not_eq_true'] at hok
      refine ⟨typeIs_str _ _ _, PySem.F.args_str_join_2 _ _, _, meets_str_join_list Str.empty t a l hok, hl.isList, post_join l ⟨joinFit_length hok, fun t' k' => ?_⟩⟩
      rw [hl', join_signs]
      exact ⟨_, μ₂, kk, .str _ _, M₂, (t₁.trans t₂).trans (.tok ..)⟩

theorem AE.decode {o e : Expr} {apos pos : Pos} (h : AE G n env W o ρ μ fun dl μ₁ => ∃ l : List UInt8, dl = .bytes l ∧ (∀ c ∈ l, c.toNat < 128) ∧ l.length ≤ sizeLine ∧ AE G n env W e ρ μ₁ fun d μ₂ => d = .str "ascii" ∧ K (.str (chars l)) μ₂)
    (hbase : attributeBase o "decode" env (eval o env) = eval o env := by rfl) (hs : starEach [e] env = [(false, eval e env)] := by rfl) (hline : (apos.endLine == pos.line) = true := by rfl) :
    AE G n env W (.Call (.Attribute o "decode" apos) [e] [] pos) ρ μ K := fun A s rm M F => by
  refine Call_method1 hbase hs hline (h.go rm M F fun dl μ₁ ov s₁ ⟨l, e0, hb, hz, k⟩ r M₁ F₁ t₁ => ?_)
  subst e0
  obtain ⟨t, rfl⟩ := r.bytesD
  ·
    refine ⟨"bytes", "bytes.decode", PySem.W.FB.plainAttrs_bytes, PySem.W.FB.slot_bytes_decode, PySem.W.FB.type_bytes_decode, PySem.W.typeIs_bytes _ _ _, (fun b eb => nomatch eb), ?_⟩
    refine seqMethod1_meets PySem.W.FB.slot_bytes_decode PySem.W.FB.entry_bytes_decode (k.go rm M₁ F₁ fun d μ₂ v s₂ ⟨e3, kk⟩ rv M₂ F₂ t₂ => ?_)
    subst e3
    obtain ⟨u, rfl⟩ := rv.strD
    ·
      exact ⟨PySem.W.typeIs_bytes _ _ _, args_bytes_decode_2 _ _, _, meets_decode_ascii hb hz, fun t' k' => ⟨_, μ₂, kk, .str _ _, M₂, (t₁.trans t₂).trans (.tok ..)⟩⟩
end
end Mine

namespace Mine
open PySem PySem.Calls PyProof.Rows

section
variable {prog : Program} {w : World} {A : Around} {R : Result → Shared → Prop} {s : Shared}
theorem compStart1 {elt : Expr} {g₀ : Comprehension} {target iter : Expr} {ifs : List Expr} {rest : List Comprehension} {scope : Scope} {pos : Pos} {it acc : Value} {env : Env}
    (h0 : codeAny (model prog w) A (.compLoop (.ListComp elt (g₀ :: ⟨target, iter, ifs, 0⟩ :: rest) scope pos) 1 it acc env) R s)
    (h : wpAny (model prog w) A (pyIter it) (fun it' s' => codeAny (model prog w) A (.compLoop (.ListComp elt (g₀ :: ⟨target, iter, ifs, 0⟩ :: rest) scope pos) 1 it' acc env) R s')
      (notedBy (model prog w) A env fun x s' => R (.error x) s') s) :
    codeAny (model prog w) A (.compStart (.ListComp elt (g₀ :: ⟨target, iter, ifs, 0⟩ :: rest) scope pos) 1 it acc env) R s := by
  refine codeAny_of_tree ?_
  show wpAny _ _ ((compStart (.ListComp elt (g₀ :: ⟨target, iter, ifs, 0⟩ :: rest) scope pos) 1 it acc env).onRaise (fun x => do noteFrame x env; standAt theWindowsPlace)) _ _ s
  refine wpAny_notedAt ?_
  unfold compStart
  show wpAny _ _ (ask >>= _) _ _ s
  refine wpAny_bind (wpAny_askSetting (wpAny_ite ?_))
  split
  · first
      | exact wpAny_bind (wpAny_pure (wpAny_pure (And.intro rfl h0)))
      | exact wpAny_pure (And.intro rfl h0)
  · refine wpAny_bind (wpAny_rule ?_)
    show wpAny _ _ (standAt _ >>= _) _ _ s
    first
      | exact wpAny_bind (wpAny_standAt (wpAny_bind (wpAny_mono h (fun it' s' h' => wpAny_pure (And.intro rfl h')) fun _ _ x => x)))
end

section
variable {G : Gx} {n : Nat} {env : Env} {W Wc : List Str} {ρ ρc : Rho} {μ : Mu}

/-- the second clause's work of one turn of the first -/
theorem BA.clause {elt : Expr} {g₀ : Comprehension} {target iter : Expr} {ifs : List Expr} {rest : List Comprehension} {scope : Scope} {epos : Pos} {acc : Addr} {os outs : List D} (out : D → List D)
    (src : IS G n env W target iter ρ ((acc, os) :: μ) fun items μ' => μ' = (acc, os) :: μ ∧ items.flatMap out = outs ∧ ∀ d ∈ items, ∀ os', TA G n env W target d ρ ((acc, os') :: μ) fun ρ' => Ext ρ ρ' ∧ TestsA G n env W ifs ρ' ((acc, os') :: μ) fun b =>
      if b then ∃ d', out d = [d'] ∧ AE G n env W elt ρ' ((acc, os') :: μ) (fun e μ' => μ' = (acc, os') :: μ ∧ e = d') else out d = [])
    (ht : ∀ I, TurnIs (.ListComp elt (g₀ :: ⟨target, iter, ifs, 0⟩ :: rest) scope epos) 1 target ifs (.ref I) (.ref acc) env (do let _ ← call (.builtin "list.append") [.ref acc, ← eval elt env]))
    (hz : os.length + outs.length ≤ sizeLine) (ext : Ext ρc ρ) (hs : ∀ x, foldedSetIterable iter env x = pure x := by intro _; rfl) :
    BA G n env W (do
      let x ← eval iter env
      standAt iter.pos
      let x ← foldedSetIterable iter env x
      let _ ← runOwn (.compStart (.ListComp elt (g₀ :: ⟨target, iter, ifs, 0⟩ :: rest) scope epos) 1 (← holding [x] (pyIter x)) (.ref acc) env) env) ρ ((acc, os) :: μ) ((acc, os ++ outs) :: μ) ρc := fun A s rm M F => by
  refine wpAny_bind (wpAny_mono (src A s rm M F) (fun x s₁ h₁ => ?_) fun _ _ z => z)
  refine wpAny_bind (wpAny_standAt ?_)
  rw [hs]
  refine wpAny_bind (wpAny_pure ?_)
  refine wpAny_bind (wpAny_holding (wpAny_mono h₁ (fun it s₂ h₂ => ?_) fun _ _ z => z))
  obtain ⟨items, μ', I, fp, wr, P, Md, St, ⟨e1, e2, turn⟩, rfl, M₂, t₂, itk, dead⟩ := h₂
  subst e1 e2
  have F₂ := F.tr M t₂
  have own_kind := own_notSeq F₂
  have hown : ∀ b ∈ fp, b ∉ ownA env W := fun b hb q => by
    have hl := (own_kind b q).2.1
    cases ho : s₂.heap.get? b with
    | none => exact hl ho
    | some o =>
      have hk := itk.kinds 0 _ itk.start b hb o ho
      rcases List.mem_cons.mp q with z | z
      · rw [z] at ho
        obtain ⟨m, o', es, ep, ho', hd', _⟩ := F₂.ns
        rw [ho] at ho'; cases ho'; exact hk.1 es ep hd'
      · obtain ⟨y, hy, e⟩ := List.mem_filterMap.mp z
        split at e
        · rename_i hkk
          rcases F₂.stor y hy with z' | ⟨_, c, hc, _, u, o', ho', hd'⟩
          · rw [hkk] at z'; cases z'
          · rw [hc] at e; cases e
            rw [ho] at ho'; cases ho'; exact hk.2 u hd'
        · cases e
  have hB : ∀ b ∈ wr, G.B.get? b = none := fun b hb => (dead b hb).elim (M.off b) fun z => (M.dead z).2
  have tw : Tr (ownA env W ++ keys ((acc, os) :: μ)) (wr ++ (ownA env W ++ keys ((acc, os) :: μ))) s s₂ := by
    obtain ⟨h', tk', e, k, nn⟩ := (t₂.wide (Z := ownA env W))
    refine ⟨h', tk', e, k, fun x hx => ?_⟩
    rcases List.mem_append.mp hx with q | q
    · exact (dead x q).imp (fun z => List.mem_append_right _ z) id
    · exact nn x q
  have loop : codeAny (Mo G.w) A (.compLoop (.ListComp elt (g₀ :: ⟨target, iter, ifs, 0⟩ :: rest) scope epos) 1 (.ref I) (.ref acc) env)
      (fun r s' => match r with | .ok f => wpAny (Mo G.w) A (pure PUnit.unit) (fun _ s' => ∃ ρ', Ext ρc ρ' ∧ MuOk A G.B ((acc, os ++ items.flatMap out) :: μ) s'.heap ∧ FrOk G.B env W ρ' (keys ((acc, os ++ items.flatMap out) :: μ)) s'.heap ∧ Tr (ownA env W ++ keys ((acc, os) :: μ)) (ownA env W ++ keys ((acc, os ++ items.flatMap out) :: μ)) s s') (fun _ _ => False) s' | .error e => cameBackBy (Mo G.w) A env (fun _ _ => False) e s') s₂ := by
    refine comp_loop (ht I) rm itk hB hown out M₂ F₂ (fun i d os' hd ho => ?_) fun s' M' F' t' => ?_
    · have hd' := List.mem_of_getElem? hd
      intro A' s' v' rm' M' F' r'
      refine wpAny_mono (turn d hd' os' A' s' v' rm' M' F' r') (fun _ s'' ⟨ρ', ⟨e, tst⟩, y⟩ => ⟨ρ', ⟨e, fun A s rm M F => wpAny_mono (tst A s rm M F) (fun b s'' ⟨kb, z⟩ => ⟨?_, z⟩) fun _ _ z => z⟩, y⟩) fun _ _ z => z
      cases b with
      | false => exact kb
      | true =>
        obtain ⟨d', e', k'⟩ := kb
        show BA ..
        rw [e']
        refine BA.elt k' ?_ e
        have := flat_take items out i
        rw [ho, List.length_append]; omega
    · refine wpAny_pure ⟨ρ, ext, M', F', ?_⟩
      obtain ⟨h', tk', e, k, nn⟩ := tw.trans t'
      exact ⟨h', tk', e, k, fun x hx => nn x (List.mem_append_right _ hx)⟩
  exact wpAny_bind (wpAny_runOwn (compStart1 loop (itk.self 0 _ _ _ itk.start loop)))
end
end Mine

namespace Mine
open PySem PySem.Calls PyProof.Rows

theorem compTurn_two0 (elt t1 i1 t2 i2 : Expr) (ifs1 ifs2 : List Expr) (scope : Scope) (pos : Pos) (it acc : Value) (env : Env) :
    compTurn (.ListComp elt [⟨t1, i1, ifs1, 0⟩, ⟨t2, i2, ifs2, 0⟩] scope pos) 0 it acc env = (do
      standAt i1.pos
      match ← pyNext it with
      | none => pure (.done .next)
      | some v =>
        letOwnedTupleGo t1 it v
        assign t1 env v
        let mut ok := true
        for c in ifs1 do
          if ok then ok ← isTrue c env (eval c env)
        if ok then
          let x ← eval i2 env
          standAt i2.pos
          let x ← foldedSetIterable i2 env x
          let _ ← runOwn (.compStart (.ListComp elt [⟨t1, i1, ifs1, 0⟩, ⟨t2, i2, ifs2, 0⟩] scope pos) 1 (← holding [x] (pyIter x)) acc env) env
        again (.compLoop (.ListComp elt [⟨t1, i1, ifs1, 0⟩, ⟨t2, i2, ifs2, 0⟩] scope pos) 0 it acc env)) := by rfl
theorem compTurn_two (elt t1 i1 t2 i2 : Expr) (ifs1 ifs2 : List Expr) (scope : Scope) (pos : Pos) (it acc : Value) (env : Env) :
    compTurn (.ListComp elt [⟨t1, i1, ifs1, 0⟩, ⟨t2, i2, ifs2, 0⟩] scope pos) 0 it acc env = (do
      standAt i1.pos
      match ← pyNext it with
      | none => pure (.done .next)
      | some v =>
        letOwnedTupleGo t1 it v
        assign t1 env v
        let mut ok := true
        for c in ifs1 do
          if ok then ok ← isTrue c env (eval c env)
        if ok then
          (do
            let x ← eval i2 env
            standAt i2.pos
            let x ← foldedSetIterable i2 env x
            let _ ← runOwn (.compStart (.ListComp elt [⟨t1, i1, ifs1, 0⟩, ⟨t2, i2, ifs2, 0⟩] scope pos) 1 (← holding [x] (pyIter x)) acc env) env)
        again (.compLoop (.ListComp elt [⟨t1, i1, ifs1, 0⟩, ⟨t2, i2, ifs2, 0⟩] scope pos) 0 it acc env)) := by
  rw [compTurn_two0]
  simp only [bind_assoc, pure_bind]
theorem compTurn_two1 (elt t1 i1 t2 i2 : Expr) (ifs1 ifs2 : List Expr) (scope : Scope) (pos : Pos) (it acc : Value) (env : Env) :
    compTurn (.ListComp elt [⟨t1, i1, ifs1, 0⟩, ⟨t2, i2, ifs2, 0⟩] scope pos) 1 it acc env = (do
      standAt i2.pos
      match ← pyNext it with
      | none => pure (.done .next)
      | some v =>
        letOwnedTupleGo t2 it v
        assign t2 env v
        let mut ok := true
        for c in ifs2 do
          if ok then ok ← isTrue c env (eval c env)
        if ok then
          (do let _ ← call (.builtin "list.append") [acc, ← eval elt env])
        again (.compLoop (.ListComp elt [⟨t1, i1, ifs1, 0⟩, ⟨t2, i2, ifs2, 0⟩] scope pos) 1 it acc env)) := by rfl

section
variable {G : Gx} {n : Nat} {env : Env} {W Wc : List Str} {ρ ρc : Rho} {μ : Mu}
/-- a comprehension of two clauses, stored under a plain local of the frame -/
theorem S1.comp2 {elt target iter t2 i2 : Expr} {ifs2 : List Expr} {scope : Scope} {epos : Pos} {x : Str} {p' pos : Pos} {K : FD → Rho → Mu → Prop} (out : D → List D)
    (src : IS G n env W target iter ρ μ fun items μ₁ => ((items.flatMap out).length ≤ sizeLine ∧ ∀ C a os d, d ∈ items → os.length + (out d).length ≤ sizeLine → TA G n (cE scope env C) Wc target d ρc ((a, os) :: μ₁) fun ρ' => Ext ρc ρ' ∧
      ∃ out2 : D → List D, IS G n (cE scope env C) Wc t2 i2 ρ' ((a, os) :: μ₁) fun items2 μ' => μ' = (a, os) :: μ₁ ∧ items2.flatMap out2 = out d ∧ ∀ d ∈ items2, ∀ os', TA G n (cE scope env C) Wc t2 d ρ' ((a, os') :: μ₁) fun ρ'' => Ext ρ' ρ'' ∧ TestsA G n (cE scope env C) Wc ifs2 ρ'' ((a, os') :: μ₁) fun b =>
        if b then ∃ d', out2 d = [d'] ∧ AE G n (cE scope env C) Wc elt ρ'' ((a, os') :: μ₁) (fun e μ' => μ' = (a, os') :: μ₁ ∧ e = d') else out2 d = []) ∧ K .next ((x, .list (items.flatMap out)) :: ρ) μ₁)
    (hfv : FvOk scope env ρ ρc) (hW : ∀ x ∈ Wc, scope.names.lookup x = some .local ∨ scope.names.lookup x = some .cell)
    (hnames : ∀ x ∈ scope.names, x.2 = .local → scope.names.lookup x.1 = some .local)
    (hfree : (scope.names.all fun p => !(p.2 == .free) || (env.cells.lookup p.1).isSome) = true := by rfl)
    (hs : ∀ x, foldedSetIterable iter env x = pure x := by intro _; rfl) (hs2 : ∀ C x, foldedSetIterable i2 (cE scope env C) x = pure x := by intro _ _; rfl) (hk : scope.kind = .function := by rfl) (hx : x ∈ W := by decide)
    (hsw : swapsWith (.ListComp elt [⟨target, iter, [], 0⟩, ⟨t2, i2, ifs2, 0⟩] scope epos) (some (.Name x p')) pos.line env = pure true := by rfl) : S1 G n env W (.Assign [.Name x p'] (.ListComp elt [⟨target, iter, [], 0⟩, ⟨t2, i2, ifs2, 0⟩] scope epos) pos) ρ μ K := fun A s rm M F => by
  rw [exec_Assign_Name_used x p' _ pos hsw]
  refine wpAny_bind (wpAny_standAt ?_)
  show wpAny _ _ ((comprehension (.ListComp elt [⟨target, iter, [], 0⟩, ⟨t2, i2, ifs2, 0⟩] scope epos) scope env iter.pos (newList []) false (eval iter env) (some (PySem.assign (.Name x p') env)) >>= fun _ => (pure () : Sem Unit)) >>= fun _ => (pure Flow.next : Sem Flow)) _ _ s
  refine wpAny_bind (wpAny_bind (comp_core (use := some (PySem.assign (.Name x p') env)) (out := out) src rm M F (fun C I acc => ⟨_, compTurn_two elt target iter t2 i2 [] ifs2 scope epos _ _ _⟩) hs hfree hk hnames hfv hW (fun items μ₁ sk C acc i d os hd ho => ?_) fun items μ₁ C acc s' sk M' ⟨m, hm⟩ hb t => ?_))
  · have hsz : os.length + (out d).length ≤ sizeLine := by
      have h1 := flat_take items out (i + 1)
      have ht1 : items.take (i + 1) = items.take i ++ [d] := by rw [List.take_add_one, hd]; rfl
      rw [ht1, List.flatMap_append, List.length_append, ← ho] at h1
      have e1 : [d].flatMap out = out d := by simp
      rw [e1] at h1
      exact Nat.le_trans h1 sk.1.1
    intro A' s' v' rm' M' F' r'
    refine wpAny_mono (sk.1.2 C acc os d (List.mem_of_getElem? hd) hsz A' s' v' rm' M' F' r') (fun _ s'' ⟨ρ', ⟨e, tst⟩, y⟩ => ⟨ρ', ⟨e, TestsA.nil ?_⟩, y⟩) fun _ _ z => z
    show BA ..
    obtain ⟨out2, tst⟩ := tst
    exact BA.clause out2 tst (fun I => ⟨_, compTurn_two1 elt target iter t2 i2 [] ifs2 scope epos _ _ _⟩) hsz e (hs2 C)
  · have hn := NotSeq.of_ns hm
    have hc := t.new C (.head _)
    obtain ⟨M₃, r₃⟩ := M'.less
    have t₃ : Tr (keys μ) (keys μ₁) s s' := by
      obtain ⟨h', tk', e, kx, nn⟩ := t
      exact ⟨h', tk', e, kx, fun a ha => nn a (.tail _ (.tail _ ha))⟩
    have F₃ := F.tr M t₃
    refine PyProof.Rows.assign_Name (store M₃ F₃ hx r₃ fun s₄ M₄ F₄ t₄ mv => ?_)
    have nl : env.locals ≠ C := by
      obtain ⟨m₁, hm₁⟩ := F.ns
      exact not_live M hc (.of_ns hm₁) (by obtain ⟨o, _, _, ho, _⟩ := hm₁; exact live_of ho)
    have nc : ∀ y c, env.cells.lookup y = some c → c ≠ C := fun y c hyc => by
      obtain ⟨v, hv⟩ := F.cel y c hyc
      exact not_live M hc (.of_cell hv) (by obtain ⟨o, ho, _⟩ := hv; exact live_of ho)
    have hCo : C ∉ ownA env W := fun q => by
      rcases List.mem_cons.mp q with q | q
      · exact nl q.symm
      · obtain ⟨y, hy, e⟩ := List.mem_filterMap.mp q
        split at e
        · exact nc y C e rfl
        · cases e
    have hCk : C ∉ keys μ₁ := fun q => M₃.notSeq q hn
    have hm₄ : ∃ m, s₄.heap.Ns C m := ⟨m, ns_keep t₄.kx (fun q => (List.mem_append.mp q).elim hCo hCk) hm⟩
    obtain ⟨m₄, hm₄⟩ := hm₄
    have hn₄ := NotSeq.of_ns hm₄
    refine ⟨m₄, hm₄, fun h' hs' => wpAny_pure (wpAny_pure ⟨_, _, μ₁, sk.2, .next, M₄.off2 hs' hn₄ hb M hc, F₄.off1 hs' hn₄ nl nc, ?_⟩)⟩
    have ta : Tr (keys μ) (C :: keys μ₁) s s' := by
      obtain ⟨h', tk', e, kx, nn⟩ := t
      refine ⟨h', tk', e, kx, fun a ha => nn a ?_⟩
      rcases List.mem_cons.mp ha with q | q
      · rw [q]; exact .head _
      · exact .tail _ (.tail _ q)
    have tb : Tr (ownA env W ++ keys μ) (C :: (ownA env W ++ keys μ₁)) s s' := by
      obtain ⟨h', tk', e, kx, nn⟩ := ta
      refine ⟨h', tk', e, kx.weaken fun a ha => List.mem_append_right _ ha, fun a ha => ?_⟩
      rcases List.mem_cons.mp ha with q | q
      · rw [q]; exact (nn C (.head _)).imp (fun z => List.mem_append_right _ z) id
      · rcases List.mem_append.mp q with q | q
        · exact .inl (List.mem_append_left _ q)
        · exact (nn a (.tail _ q)).imp (fun z => List.mem_append_right _ z) id
    have tc : Tr (C :: (ownA env W ++ keys μ₁)) (C :: (ownA env W ++ keys μ₁)) s' s₄ := by
      obtain ⟨h', tk', e, kx, nn⟩ := t₄
      exact ⟨h', tk', e, kx.weaken fun a ha => .tail _ ha, fun a ha => .inl ha⟩
    have td : Tr (C :: (ownA env W ++ keys μ₁)) (ownA env W ++ keys μ₁) s₄ { s₄ with heap := h' } := ⟨h', s₄.toks, rfl, .of_sameBut hs' (.head _), fun a ha => .inl (.tail _ ha)⟩
    exact (tb.trans tc).trans td
end
end Mine

namespace Mine
open PySem PySem.Calls PyProof.Rows

noncomputable def lett (n : Nat) : Str := ⟨((digs n).map (65 + ·)).toArray⟩
noncomputable def txs (ns : List Nat) : List (List UInt8) := ns.map ap
noncomputable def pls (ns : List Nat) : List (List UInt8) := offs blt ns.length (puts blt [] (txs ns))
noncomputable def pltP (p q : Nat × List UInt8) : Bool := plt p.1 p.2 q.1 q.2
noncomputable def ris (ns : List Nat) : List (List UInt8) := (offs pltP ns.length (hfy pltP ((txs ns).map fun t => (t.length, t)) (ns.length / 2))).map (·.2)
noncomputable def prs (n : Nat) : List (Nat × Nat) := (List.range n).flatMap fun k => (List.range (k + 1)).map fun j => (j, k)
noncomputable def ps0 (ns : List Nat) : List Nat := (pls ns).map fun t => (txs ns).idxOf t
noncomputable def ps1 (ns : List Nat) : List Nat := (ris ns).map fun t => (txs ns).idxOf t
noncomputable def befo (ps : List Nat) (p : Nat × Nat) : Bool := decide ((ps.idxOf p.1) < (ps.idxOf p.2))
noncomputable def turnedL (ns : List Nat) : List (Nat × Nat) := (prs ns.length).filter fun p => befo (ps0 ns) p != befo (ps1 ns) p
noncomputable def dueL (ns : List Nat) : List (Nat × Nat) := (prs ns.length).filter fun p => tn (ns.getD p.1 0) (ns.getD p.2 0)
noncomputable def touch (ns : List Nat) (t : List UInt8) : List (Nat × Nat) := (dueL ns).filter fun p => decide ((txs ns).idxOf t = p.1 ∨ (txs ns).idxOf t = p.2)
noncomputable def stillL (ns : List Nat) : List (List UInt8) := (pls ns).filter fun t => decide (touch ns t = [])
noncomputable def goneL (ns : List Nat) : List (List UInt8) := (pls ns).filter fun t => !decide (t ∈ stillL ns)
noncomputable def toldI (x y : List UInt8) : Int := (if blt y x then 1 else 0) - (if blt x y then 1 else 0)

/-- what the law's walk asks of the numbers -/
structure Facts (ns : List Nat) : Prop where
  len : ns.length ≤ 11
  lt : ∀ n ∈ ns, n < 2 ^ 40
  nd : (txs ns).Nodup
  up : ∀ ys : List Int, ys.Perm (ns.map fun n : Nat => (n : Int)) → ys.Pairwise (· ≤ ·) → (ps1 ns).map (fun k => ((ns.getD k 0 : Nat) : Int)) = ys
  told : (prs ns.length).map (fun p => toldI ((txs ns).getD p.1 []) ((txs ns).getD p.2 [])) = (prs ns.length).map fun p => sgn (digs (ns.getD p.1 0)) (digs (ns.getD p.2 0))
  turned : turnedL ns = dueL ns
  sl : SL (pls ns) (stillL ns)
  m1 : mg (pls ns) (stillL ns) = (goneL ns, [])
  m2 : mg (stillL ns) (pls ns) = ([], goneL ns)

/-! plain facts -/
theorem txs_length (ns : List Nat) : (txs ns).length = ns.length := List.length_map ..
theorem pls_perm (ns : List Nat) : (pls ns).Perm (txs ns) := by
  unfold pls
  have h := puts_perm blt (txs ns) []
  rw [List.nil_append] at h
  exact (offs_perm blt _ _ (by rw [h.length_eq, txs_length])).trans h
theorem ris_perm (ns : List Nat) : (ris ns).Perm (txs ns) := by
  unfold ris
  have h := hfy_perm pltP (ns.length / 2) ((txs ns).map fun t => (t.length, t))
  have h2 := (offs_perm pltP ns.length _ (by rw [h.length_eq, List.length_map, txs_length])).trans h
  have := h2.map (·.2)
  rw [List.map_map] at this
  have e : (txs ns).map ((fun p : Nat × List UInt8 => p.2) ∘ fun t => (t.length, t)) = txs ns := by
    conv => rhs; rw [← List.map_id (txs ns)]
    rfl
  rw [e] at this
  exact this
theorem prs_mem {n : Nat} {p : Nat × Nat} (h : p ∈ prs n) : p.1 ≤ p.2 ∧ p.2 < n := by
  obtain ⟨k, hk, hp⟩ := List.mem_flatMap.mp h
  obtain ⟨j, hj, rfl⟩ := List.mem_map.mp hp
  simp at hk hj
  exact ⟨by show j ≤ k; omega, hk⟩

/-! what the clauses yield -/
noncomputable def onB (o : List UInt8 → List D) : D → List D
  | .bytes l => o l
  | _ => []
noncomputable def onP (o : Nat × Nat → List D) : D → List D
  | .list [.int j, .int k] => o (j.toNat, k.toNat)
  | _ => []
noncomputable def onT (o : List UInt8 → List D) : D → List D
  | .list [_, .bytes t] => o t
  | _ => []
noncomputable def onR (o : List (List UInt8) → List D) : List (List (List UInt8)) → List D := fun l => l.flatMap o
noncomputable def pD (p : Nat × Nat) : D := .list [.int p.1, .int p.2]
noncomputable def lD (t : List UInt8) : D := .list [.int t.length, .bytes t]
theorem onB_flat (o : List UInt8 → List D) (xs : List (List UInt8)) : (xs.map D.bytes).flatMap (onB o) = xs.flatMap o := by
  induction xs with
  | nil => rfl
  | cons x xs ih => rw [List.map_cons, List.flatMap_cons, List.flatMap_cons, ih]; rfl
theorem onP_flat (o : Nat × Nat → List D) (xs : List (Nat × Nat)) : (xs.map pD).flatMap (onP o) = xs.flatMap o := by
  induction xs with
  | nil => rfl
  | cons x xs ih => rw [List.map_cons, List.flatMap_cons, List.flatMap_cons, ih]; rfl
theorem flat_one {α β : Type} (g : α → β) (xs : List α) : (xs.flatMap fun x => [g x]) = xs.map g := by
  induction xs with
  | nil => rfl
  | cons x xs ih => rw [List.flatMap_cons, List.map_cons, ih]; rfl
theorem flat_if {α β : Type} (p : α → Bool) (g : α → β) (xs : List α) : (xs.flatMap fun x => if p x then [g x] else []) = (xs.filter p).map g := by
  induction xs with
  | nil => rfl
  | cons x xs ih =>
    rw [List.flatMap_cons, List.filter_cons, ih]
    split
    · rfl
    · rfl

/-! orders -/
noncomputable def bltD : D → D → Bool
  | .bytes x, .bytes y => blt x y
  | _, _ => false
noncomputable def pltD : D → D → Bool
  | .list [.int a, .bytes x], .list [.int b, .bytes y] => plt a x b y
  | _, _ => false
theorem ordB : Ord (fun d => ∃ l, d = .bytes l) bltD := ⟨fun {G n d e μ K} ⟨x, hx⟩ ⟨y, hy⟩ h => by subst hx hy; exact V2.blt h⟩
theorem ordP : Ord (fun d => ∃ p : Nat × List UInt8, d = .list [.int p.1, .bytes p.2]) pltD := ⟨fun {G n d e μ K} ⟨x, hx⟩ ⟨y, hy⟩ h => by subst hx hy; exact V2.plt h⟩
theorem plsD (ns : List Nat) : offs bltD ns.length (puts bltD [] ((txs ns).map D.bytes)) = (pls ns).map D.bytes := by
  unfold pls
  have h1 := puts_map (lt := blt) (lt' := bltD) (f := D.bytes) (fun _ _ => rfl) (txs ns) []
  rw [List.map_nil] at h1
  rw [h1, offs_map (lt := blt) (lt' := bltD) (f := D.bytes) (fun _ _ => rfl)]
theorem risD (ns : List Nat) : offs pltD ns.length (hfy pltD ((txs ns).map lD) (ns.length / 2)) = (offs pltP ns.length (hfy pltP ((txs ns).map fun t => (t.length, t)) (ns.length / 2))).map fun p => D.list [.int p.1, .bytes p.2] := by
  have e : (txs ns).map lD = ((txs ns).map fun t => (t.length, t)).map fun p : Nat × List UInt8 => D.list [.int p.1, .bytes p.2] := by rw [List.map_map]; rfl
  have h1 := hfy_map (lt := pltP) (lt' := pltD) (f := fun p : Nat × List UInt8 => D.list [.int p.1, .bytes p.2]) (fun _ _ => rfl) (ns.length / 2) ((txs ns).map fun t => (t.length, t))
  rw [e, h1, offs_map (lt := pltP) (lt' := pltD) (f := fun p : Nat × List UInt8 => D.list [.int p.1, .bytes p.2]) (fun _ _ => rfl)]
theorem eq_pair (n : Nat) (x y : Nat × Nat) : EqD (n + 1) (pD x) (pD y) (decide (x = y)) := by
  have h := EqD.map (n := n) (fun i : Nat => D.int i) (fun a b => by rw [show decide (a = b) = decide ((a : Int) = (b : Int)) from by rw [decide_eq_decide]; omega]; exact .int n a b) [x.1, x.2] [y.1, y.2]
  have e : decide ([x.1, x.2] = [y.1, y.2]) = decide (x = y) := by
    obtain ⟨a, b⟩ := x
    obtain ⟨c, d⟩ := y
    rw [decide_eq_decide]; simp
  rw [e] at h; exact h
theorem ap_small (n : Nat) : ∀ c ∈ ap n, c.toNat < 128 := by
  intro c hc
  obtain ⟨d, hd, rfl⟩ := List.mem_map.mp hc
  have : d < 16 := by
    clear hc
    induction n using Nat.strongRecOn with
    | ind n ih =>
      by_cases h : n = 0
      · subst h; rw [digs_zero] at hd; cases hd
      · rw [digs_pos h] at hd
        rcases List.mem_append.mp hd with q | q
        · exact ih (n / 16) (by omega) q
        · rw [List.mem_singleton.mp q]; omega
  show (65 + d).toUInt8.toNat < 128
  simp; omega
theorem digs_lt (n : Nat) : ∀ d ∈ digs n, d < 16 := by
  intro d hd
  induction n using Nat.strongRecOn with
  | ind n ih =>
    by_cases h : n = 0
    · subst h; rw [digs_zero] at hd; cases hd
    · rw [digs_pos h] at hd
      rcases List.mem_append.mp hd with q | q
      · exact ih (n / 16) (by omega) q
      · rw [List.mem_singleton.mp q]; omega
theorem chars_ap (n : Nat) : chars (ap n) = lett n := by
  unfold chars lett ap
  congr 2
  rw [List.map_map]
  apply List.map_congr_left
  intro d hd
  have := digs_lt n d hd
  show ((65 + d).toUInt8).toNat = 65 + d
  simp; omega
end Mine

namespace Mine
open PySem PySem.Calls PyProof.Rows

noncomputable def outM : D → List D
  | .int i => [.int (i % 2 ^ 40)]
  | _ => []
theorem outM_flat (xs : List Int) : (xs.map D.int).flatMap outM = (xs.map fun x => x % 2 ^ 40).map .int := by
  induction xs with
  | nil => rfl
  | cons x xs ih => rw [List.map_cons, List.flatMap_cons, ih]; rfl
noncomputable def base6 : List Int := [15, 16, 240, 4095, 65280, 1099511627775]

theorem nat_get {ns : List Nat} {k : Nat} (h : k < ns.length) : (ns.map fun i : Nat => D.int i)[k]? = some (.int ((ns.getD k 0 : Nat) : Int)) := by
  rw [List.getElem?_map, List.getElem?_eq_getElem h]; simp [List.getD, h]
theorem getD_mem {ns : List Nat} {k : Nat} (h : k < ns.length) : ns.getD k 0 ∈ ns := by
  rw [List.getD_eq_getElem?_getD, List.getElem?_eq_getElem h]; exact List.getElem_mem h
theorem dI_of (ns : List Nat) : ((ns.map fun n : Nat => (n : Int)).map D.int) = ns.map fun i : Nat => D.int i := by rw [List.map_map]; rfl
theorem range_map {β : Type} (ns : List Nat) (g : Nat → β) : ((List.range ns.length).map fun k => g (ns.getD k 0)) = ns.map g := by
  apply List.ext_getElem
  · simp
  · intro i h1 h2
    simp at h1
    simp [h1]

section
variable {G : Gx} {fa : Nat → Addr} {n : Nat} {μ : Mu} {pm doc : Value} {c L : Addr}
noncomputable abbrev lawE (fa : Nat → Addr) (pm doc : Value) (c L : Addr) : Env := fenv (fdef 18).1 (fdef 18).2.1 (fdef 18).2.2.1 (fdef 18).2.2.2 pm c doc L (fa 18)
noncomputable abbrev lawW : List Str := ["script", "numbers", "texts", "letters", "plain", "long", "rising", "places", "pairs", "told", "turned", "due", "still", "gone"]
noncomputable def lawS (k : Nat) : Stmt := (fdef 18).2.2.1.getD k (.Pass ⟨0, 0, 0, 0⟩)

/-- value[:hi] of a list of ints of the base heap -/
theorem AE.cutToB {env : Env} {W : List Str} {ρ : Rho} {value hi : Expr} {p pos : Pos} {K : D → Mu → Prop} {a : Addr} {vs : List Value} {xs : List Int} (hB : G.B.IsList a vs.toArray) (hI : IntsAre vs xs) (hz : vs.length ≤ sizeLine)
    (h : AE G n env W value ρ μ fun d μ₁ => AE G n env W hi ρ μ₁ fun dh μ₂ => ∃ (k : Nat), d = .val (.ref a) ∧ dh = .int k ∧ K (.list ((xs.take k).map .int)) μ₂)
    (ht : ∀ o r, letTemporaryGo value o r = pure () := by intro _ _; rfl) : AE G n env W (.Subscript value (.Slice none (some hi) none p) pos) ρ μ K := fun A s rm M F => by
  refine wpAny_Subscript_list_slice (h.go rm M F fun d μ₁ v s₁ k₁ r M₁ F₁ t₁ => evalPart_none_step (evalPart_some_step (k₁.go rm M₁ F₁ fun dh μ₂ vh s₂ ⟨k, e1, e2, kk⟩ rh M₂ F₂ t₂ => ?_))) ht
  subst e1 e2
  (first | obtain ⟨_, rfl⟩ := r.intD | obtain ⟨_, rfl⟩ := r.bytesD | obtain ⟨_, rfl⟩ := r.strD | obtain rfl := r.boolD | obtain rfl := r.valD | obtain rfl := r.noneD | cases r)
  (first | obtain ⟨_, rfl⟩ := rh.intD | obtain ⟨_, rfl⟩ := rh.bytesD | obtain ⟨_, rfl⟩ := rh.strD | obtain rfl := rh.boolD | obtain rfl := rh.valD | obtain rfl := rh.noneD | cases rh)
  rename_i t
  have hl : s₂.heap.IsList a vs.toArray := let ⟨o, ho, x⟩ := hB; ⟨o, M₂.base _ _ ho, x⟩
  have hk : ∀ b o, s₂.heap.get? b = some o → ((s₂.heap.push { cls := .type "slice", data := .fields #[.none, .int (k : Int) t, .none] }).push { cls := .type "list", data := .seq (slicePick vs.toArray none (some (k : Int)) none) }).get? b = some o := fun b o e => Heap.get?_push_of_some _ (Heap.get?_push_of_some _ e)
  have hdead : s₂.heap.get? (s₂.heap.objs.size + 1) = none := Heap.get?_none_of_le (by omega)
  have rs : RepL (keys μ₂) ((s₂.heap.push { cls := .type "slice", data := .fields #[.none, .int (k : Int) t, .none] }).push { cls := .type "list", data := .seq (slicePick vs.toArray none (some (k : Int)) none) }) vs (xs.map .int) := rep_of_ints hI
  have rs' := rs.take k
  rw [← List.map_take] at rs'
  refine ⟨a, vs.toArray, none, some (k : Int), rfl, hl, by rw [List.size_toArray]; exact hz, .none, .int _ _, _, μ₂, kk, .list (M₂.dead hdead).1 (vs := vs.take k) ⟨0, ?_⟩ rs', M₂.keep hk, (t₁.trans t₂).trans (.keep hk)⟩
  have := Heap.get?_push_size (s₂.heap.push { cls := .type "slice", data := .fields #[.none, .int (k : Int) t, .none] }) (o := { cls := .type "list", data := .seq (slicePick vs.toArray none (some (k : Int)) none) }) rfl
  rw [Heap.size_push] at this
  rw [this, slicePick_upto']

set_option maxHeartbeats 1000000 in
theorem law1 (gl : Glo G fa) {xs : List Int} {ns : List Nat} (hns : once (base6 ++ (xs.take 5).map fun x => x % 2 ^ 40) = ns.map fun n : Nat => (n : Int)) (hxs : xs.length ≤ 63) {sa : Addr} {vs : List Value} (hB : G.B.IsList sa vs.toArray) (hI : IntsAre vs xs) :
    S1 G (n + 8) (lawE fa pm doc c L) lawW (lawS 0) [("script", .val (.ref sa))] μ fun f ρ' μ' => f = .next ∧ Ext [("numbers", dI ns)] ρ' ∧ μ' = μ := by
  have hsl : 1000 ≤ sizeLine := by rw [sizeLine_eq]; decide
  have hvl : vs.length = xs.length := by rw [hI.length]
  refine S1.assign (AE.call (AE.glob (gl.gfn 17) ⟨_, rfl, (gl.fn 17).cal, AEs.cons (AE.binop (AE.listD (AEs.cons (AE.int (AEs.cons (AE.int (AEs.cons (AE.int (AEs.cons (AE.int (AEs.cons (AE.int (AEs.cons (AE.int (AEs.nil ⟨Nat.le_trans (show 6 ≤ 1000 by decide) hsl, ?_⟩)))))))))))))))⟩))
  refine AE.comp (Wc := ["x"]) (ρc := []) outM (IS.list (AE.cutToB hB hI (by omega) (AE.var rfl (AE.int ⟨5, rfl, rfl, _, rfl, ⟨?_, fun C a os d hd => ?_⟩, V2.ladd ?_ (AEs.nil ?_)⟩))) (.name ..)) trivial ?_ (by decide)
  · rw [outM_flat]; simp; omega
  · obtain ⟨i, hi, rfl⟩ := List.mem_map.mp hd
    refine TA.name ⟨.nil, TestsA.nil ?_⟩
    exact ⟨_, rfl, AE.binop (AE.var rfl (AE.binop (AE.int (AE.int (V2.pow2 (V2.mod (by decide) ⟨rfl, rfl⟩))))))⟩
  · rw [outM_flat]; simp; omega
  · rw [outM_flat]
    show Vn G _ _ [.list (base6.map .int ++ ((xs.take 5).map fun x => x % 2 ^ 40).map .int)] _ _
    rw [← List.map_append]
    refine onceP gl (by simp [base6]; omega) ?_
    rw [hns, dI_of]
    exact ⟨rfl, .mk rfl .nil, rfl⟩
  · intro x hx
    simp only [List.mem_cons, List.not_mem_nil, or_false] at hx
    subst hx; exact .inl rfl

set_option maxHeartbeats 1000000 in
theorem law2 (gl : Glo G fa) {ns : List Nat} (F : Facts ns) :
    S1 G (n + 8) (lawE fa pm doc c L) lawW (lawS 1) [("numbers", dI ns)] μ fun f ρ' μ' => f = .next ∧ Ext [("numbers", dI ns), ("texts", dB (txs ns))] ρ' ∧ μ' = μ := by
  have hsl : 1000 ≤ sizeLine := by rw [sizeLine_eq]; decide
  have hlen := F.len
  have hl : (ns.map fun i : Nat => D.int i).length = ns.length := List.length_map ..
  have e : (List.range ns.length).flatMap (fun k => [D.bytes (ap (ns.getD k 0))]) = (txs ns).map D.bytes := by
    rw [flat_one (fun k => D.bytes (ap (ns.getD k 0))), range_map ns fun n => D.bytes (ap n), txs, List.map_map]; rfl
  refine S1.assign (AE.comp (Wc := ["k"]) (ρc := [("numbers", dI ns)]) (onI fun k => [.bytes (ap (ns.getD k 0))]) (IS.range gl.grange (AE.call (AE.glob gl.glen ⟨_, rfl, .builtin _, AEs.cons (AE.var rfl (AEs.nil (Vn.lenL (by omega) ⟨ns.length, by rw [hl], by omega, ⟨?_, fun C a os d hd => ?_⟩, ?_⟩)))⟩))) ?_ ?_ ?_)
  · rw [onI_flat, e, List.length_map, txs_length]; omega
  · obtain ⟨k, hk, rfl⟩ := List.mem_map.mp hd
    have hk' : k < ns.length := by simpa using hk
    refine TA.name ⟨.cons rfl (.refl _), TestsA.nil ⟨_, rfl, ?_⟩⟩
    have hlt := F.lt _ (getD_mem hk')
    refine AE.call (AE.glob (gl.gfn 1) ⟨_, rfl, (gl.fn 1).cal, AEs.cons (AE.ifexp (AT.cmp (AE.binop (AE.var rfl (AE.int (V2.mod (by decide) (AE.int (V2.eq ⟨_, rfl, ?_⟩))))))))⟩)
    have big : ((ns.getD k 0 : Nat) : Int).natAbs < 16 ^ 1000 := by
      have : ((ns.getD k 0 : Nat) : Int).natAbs = ns.getD k 0 := rfl
      rw [this]; exact Nat.lt_of_lt_of_le hlt (by decide +kernel)
    by_cases hm : ((k : Int) % 2 = 0)
    · rw [decide_eq_true hm, if_pos rfl]
      exact AE.item (AE.var rfl (AE.var rfl ⟨_, (k : Int), _, .inl rfl, rfl, nn _, n63 hk' hlen, nat_get hk', AEs.nil (int2ap gl big ⟨rfl, rfl⟩)⟩))
    · rw [decide_eq_false hm, if_neg (by decide)]
      refine AE.binop (AE.int (AE.item (AE.var rfl (AE.var rfl ⟨_, (k : Int), _, .inl rfl, rfl, nn _, n63 hk' hlen, nat_get hk', V2.sub (AEs.nil (int2ap gl ?_ ⟨rfl, ?_⟩))⟩))))
      · rw [Int.toNat_natCast, show ((0 : Int) - ((ns.getD k 0 : Nat) : Int)).natAbs = ((ns.getD k 0 : Nat) : Int).natAbs by omega]; exact big
      · rw [Int.toNat_natCast, show ((0 : Int) - ((ns.getD k 0 : Nat) : Int)).natAbs = ns.getD k 0 by omega]
  · rw [onI_flat, e]
    exact ⟨rfl, .mk rfl (.mk rfl .nil), rfl⟩
  · exact ⟨⟨rfl, rfl, rfl, fun C => rfl⟩, trivial⟩
  · intro x hx
    simp only [List.mem_cons, List.not_mem_nil, or_false] at hx
    subst hx; exact .inl rfl
  · decide
end
end Mine

namespace Mine
open PySem PySem.Calls PyProof.Rows

theorem sign_at : ∀ d : Nat, d < 16 → (Str.ofString "ABCDEFGHIJKLMNOP").cps[d]? = some (65 + d) := by
  intro d hd
  have : ∀ d : Fin 16, (Str.ofString "ABCDEFGHIJKLMNOP").cps[d.val]? = some (65 + d.val) := by decide +kernel
  exact this ⟨d, hd⟩
theorem digs_small {ns : List Nat} (F : Facts ns) {m : Nat} (h : m ∈ ns) : (digs m).length ≤ 10 := digs_length _ _ (Nat.lt_of_lt_of_le (F.lt m h) (by decide))
theorem digs_big {ns : List Nat} (F : Facts ns) {m : Nat} (h : m ∈ ns) : m < 16 ^ 1000 := Nat.lt_of_lt_of_le (F.lt m h) (by decide +kernel)

section
variable {G : Gx} {fa : Nat → Addr} {n : Nat} {μ : Mu} {pm doc : Value} {c L : Addr}
set_option maxHeartbeats 1000000 in
theorem law3 (gl : Glo G fa) {ns : List Nat} (F : Facts ns) :
    S1 G (n + 8) (lawE fa pm doc c L) lawW (lawS 2) [("numbers", dI ns), ("texts", dB (txs ns))] μ fun f ρ' μ' => f = .next ∧ Ext [("numbers", dI ns), ("texts", dB (txs ns)), ("letters", .list ((ns.map lett).map .str))] ρ' ∧ μ' = μ := by
  have hsl : 1000 ≤ sizeLine := by rw [sizeLine_eq]; decide
  have hlen := F.len
  have e : (ns.map fun i : Nat => D.int i).flatMap (onI fun m => [D.str (lett m)]) = (ns.map lett).map D.str := by
    rw [onI_flat, flat_one (fun m => D.str (lett m)), List.map_map]; rfl
  refine S1.comp (Wc := ["number"]) (ρc := []) (onI fun m => [.str (lett m)]) (IS.list (AE.var rfl ⟨_, rfl, ⟨?_, fun C a os d hd => ?_⟩, ?_⟩) (.name ..)) trivial ?_ (by decide)
  · rw [e, List.length_map, List.length_map]; omega
  · obtain ⟨m, hm, rfl⟩ := List.mem_map.mp hd
    refine TA.name ⟨.nil, TestsA.nil ⟨_, rfl, ?_⟩⟩
    refine AE.join (AE.str ⟨rfl, ?_⟩)
    have e2 : ((digs m).map fun i : Nat => D.int i).flatMap (onI fun d => [D.str ⟨#[65 + d]⟩]) = (((digs m).map (65 + ·)).map fun c => (⟨#[c]⟩ : Str)).map D.str := by
      rw [onI_flat, flat_one (fun d => D.str ⟨#[65 + d]⟩), List.map_map, List.map_map]; rfl
    have hd10 := digs_small F hm
    refine AE.comp (Wc := ["figure"]) (ρc := []) (onI fun d => [.str ⟨#[65 + d]⟩]) (IS.list (AE.call (AE.glob (gl.gfn 14) ⟨_, rfl, (gl.fn 14).cal, AEs.cons (AE.var rfl (AEs.nil (figures gl (digs_big F hm) ⟨_, rfl, ⟨?_, fun C' a' os' d' hd' => ?_⟩, ?_⟩)))⟩)) (.name ..)) trivial ?_ (by decide)
    · rw [e2]; simp; omega
    · obtain ⟨d, hdd, rfl⟩ := List.mem_map.mp hd'
      refine TA.name ⟨.nil, TestsA.nil ⟨_, rfl, AE.sign (AE.str (AE.var rfl ⟨_, d, 65 + d, rfl, rfl, ?_, sign_at d (digs_lt m d hdd), rfl, ?_⟩))⟩⟩
      · have := digs_lt m d hdd; omega
      · rfl
    · rw [e2]
      refine ⟨_, rfl, by rw [List.length_map]; omega, rfl, ?_⟩
      rfl
    · intro x hx
      simp only [List.mem_cons, List.not_mem_nil, or_false] at hx
      subst hx; exact .inl rfl
  · rw [e]
    exact ⟨rfl, .mk rfl (.mk rfl (.mk rfl .nil)), rfl⟩
  · intro x hx
    simp only [List.mem_cons, List.not_mem_nil, or_false] at hx
    subst hx; exact .inl rfl

set_option maxHeartbeats 1000000 in
theorem law4 (gl : Glo G fa) {ns : List Nat} (F : Facts ns) :
    S1 G (n + 8) (lawE fa pm doc c L) lawW (lawS 3) [("numbers", dI ns), ("texts", dB (txs ns)), ("letters", .list ((ns.map lett).map .str))] μ fun f ρ' μ' => f = .next ∧ Ext [("numbers", dI ns), ("texts", dB (txs ns))] ρ' ∧ μ' = μ := by
  have hsl : 1000 ≤ sizeLine := by rw [sizeLine_eq]; decide
  have hlen := F.len
  have e : ((txs ns).map D.bytes).flatMap (onB fun t => [D.str (chars t)]) = (ns.map lett).map D.str := by
    rw [onB_flat, flat_one (fun t => D.str (chars t)), txs, List.map_map, List.map_map]
    apply List.map_congr_left
    intro m _
    show D.str (chars (ap m)) = D.str (lett m)
    rw [chars_ap]
  refine S1.if_ (AT.cmp (AE.comp (Wc := ["text"]) (ρc := []) (onB fun t => [.str (chars t)]) (IS.list (AE.var rfl ⟨_, rfl, ⟨?_, fun C a os d hd => ?_⟩, ?_⟩) (.name ..)) trivial ?_ (by decide)))
  · rw [e, List.length_map, List.length_map]; omega
  · obtain ⟨t, ht, rfl⟩ := List.mem_map.mp hd
    obtain ⟨m, hm, rfl⟩ := List.mem_map.mp ht
    refine TA.name ⟨.nil, TestsA.nil ⟨_, rfl, ?_⟩⟩
    have := digs_small F hm
    refine AE.decode (AE.var rfl ⟨_, rfl, ap_small m, ?_, AE.str ⟨rfl, rfl, rfl⟩⟩)
    rw [ap, List.length_map]; omega
  · rw [e]
    refine AE.var rfl (V2.lne (EqD.map D.str (fun x y => EqD.str 0 x y) (ns.map lett) (ns.map lett)) (by decide) ⟨_, rfl, ?_⟩)
    rw [decide_eq_true rfl]
    exact SE.nil ⟨rfl, .mk rfl (.mk rfl .nil), rfl⟩
  · intro x hx
    simp only [List.mem_cons, List.not_mem_nil, or_false] at hx
    subst hx; exact .inl rfl
end
end Mine

namespace Mine
open PySem PySem.Calls PyProof.Rows

theorem one_name {P : Str → Prop} {x : Str} (h : P x) : ∀ y ∈ [x], P y := fun y hy => by rw [List.mem_singleton.mp hy]; exact h
theorem ordB_all (l : List (List UInt8)) : ∀ d ∈ l.map D.bytes, ∃ x, d = D.bytes x := fun d hd => by
  obtain ⟨t, _, rfl⟩ := List.mem_map.mp hd; exact ⟨t, rfl⟩
theorem ordP_all (l : List (List UInt8)) : ∀ d ∈ l.map lD, ∃ p : Nat × List UInt8, d = .list [.int p.1, .bytes p.2] := fun d hd => by
  obtain ⟨t, _, rfl⟩ := List.mem_map.mp hd; exact ⟨(t.length, t), rfl⟩
theorem txs_small {ns : List Nat} (F : Facts ns) {t : List UInt8} (h : t ∈ txs ns) : t.length ≤ 10 := by
  obtain ⟨m, hm, rfl⟩ := List.mem_map.mp h
  rw [ap, List.length_map]; exact digs_small F hm

section
variable {G : Gx} {fa : Nat → Addr} {n : Nat} {μ : Mu} {pm doc : Value} {c L : Addr}
set_option maxHeartbeats 1000000 in
theorem law5 (gl : Glo G fa) {ns : List Nat} (F : Facts ns) :
    S1 G (n + 8) (lawE fa pm doc c L) lawW (lawS 4) [("numbers", dI ns), ("texts", dB (txs ns))] μ fun f ρ' μ' => f = .next ∧ ∃ a b, Ext [("numbers", dI ns), ("texts", dB (txs ns)), ("plain", dB (pls ns)), ("long", .val (.ref b))] ρ' ∧ μ' = (b, (txs ns).map lD) :: (a, []) :: μ := by
  have hsl : 1000 ≤ sizeLine := by rw [sizeLine_eq]; decide
  have hlen := F.len
  have hlt : ((txs ns).map D.bytes).length = ns.length := by rw [List.length_map, txs_length]
  have pp := puts_perm bltD ((txs ns).map D.bytes) []
  rw [List.nil_append] at pp
  have e : ((txs ns).map D.bytes).flatMap (onB fun t => [lD t]) = (txs ns).map lD := by rw [onB_flat, flat_one lD]
  refine S1.swap (AE.tupleD (AEs.cons (AE.call (AE.glob (gl.gfn 12) ⟨_, rfl, (gl.fn 12).cal, AEs.cons (AE.call (AE.glob (gl.gfn 13) ⟨_, rfl, (gl.fn 13).cal, AEs.cons (AE.var rfl (AEs.nil (pushed gl ordB (ordB_all _) (by omega) fun a => AEs.nil (takenOff gl ordB (fun d hd => ordB_all _ d (pp.mem_iff.mp hd)) (by rw [pp.length_eq]; omega) ?_))))⟩))⟩))))
  rw [pp.length_eq, hlt, plsD]
  refine AEs.cons (AE.compM (Wc := ["text"]) (ρc := []) (onB fun t => [lD t]) (IS.list (AE.var rfl ⟨_, rfl, ⟨?_, fun C a' os d hd => ?_⟩, fun b => ?_⟩) (.name ..)) trivial ?_ (by decide))
  · rw [e, List.length_map, txs_length]; omega
  · obtain ⟨t, ht, rfl⟩ := List.mem_map.mp hd
    have := txs_small F ht
    refine TA.name ⟨.nil, TestsA.nil ⟨_, rfl, ?_⟩⟩
    exact AE.listD (AEs.cons (AE.call (AE.glob gl.glen ⟨_, rfl, .builtin _, AEs.cons (AE.var rfl (AEs.nil (Vn.lenB (by omega) (AEs.cons (AE.var rfl (AEs.nil ⟨Nat.le_trans (show 2 ≤ 1000 by decide) hsl, rfl, rfl⟩))))))⟩)))
  · rw [e]
    exact AEs.nil ⟨Nat.le_trans (show 2 ≤ 1000 by decide) hsl, _, _, rfl, rfl, a, b, .mk rfl (.mk rfl (.mk rfl (.mk rfl .nil))), rfl⟩
  · exact one_name (.inl rfl)

set_option maxHeartbeats 1000000 in
theorem law6 (gl : Glo G fa) {ns : List Nat} (F : Facts ns) {b : Addr} :
    S1 G (n + 8) (lawE fa pm doc c L) lawW (lawS 5) [("numbers", dI ns), ("texts", dB (txs ns)), ("plain", dB (pls ns)), ("long", .val (.ref b))] ((b, (txs ns).map lD) :: μ) fun f ρ' μ' => f = .next ∧ Ext [("numbers", dI ns), ("texts", dB (txs ns)), ("plain", dB (pls ns)), ("long", .val (.ref b))] ρ' ∧ μ' = (b, hfy pltD ((txs ns).map lD) (ns.length / 2)) :: μ := by
  have hlen := F.len
  have hlt : ((txs ns).map lD).length = ns.length := by rw [List.length_map, txs_length]
  refine S1.expr (AE.call (AE.glob (gl.gfn 5) ⟨_, rfl, (gl.fn 5).cal, AEs.cons (AE.var rfl (AEs.nil (heapify gl ordP (ordP_all _) (by omega) ⟨rfl, ?_⟩)))⟩))
  rw [hlt]
  exact ⟨rfl, .mk rfl (.mk rfl (.mk rfl (.mk rfl .nil))), rfl⟩

set_option maxHeartbeats 1000000 in
theorem law7 (gl : Glo G fa) {ns : List Nat} (F : Facts ns) {b : Addr} :
    S1 G (n + 8) (lawE fa pm doc c L) lawW (lawS 6) [("numbers", dI ns), ("texts", dB (txs ns)), ("plain", dB (pls ns)), ("long", .val (.ref b))] ((b, hfy pltD ((txs ns).map lD) (ns.length / 2)) :: μ) fun f ρ' μ' => f = .next ∧ Ext [("numbers", dI ns), ("texts", dB (txs ns)), ("plain", dB (pls ns)), ("rising", dB (ris ns))] ρ' ∧ μ' = (b, []) :: μ := by
  have hsl : 1000 ≤ sizeLine := by rw [sizeLine_eq]; decide
  have hlen := F.len
  have hlt : ((txs ns).map lD).length = ns.length := by rw [List.length_map, txs_length]
  have pp := hfy_perm pltD (ns.length / 2) ((txs ns).map lD)
  have hrl := (ris_perm ns).length_eq
  rw [txs_length] at hrl
  have e : (offs pltD ns.length (hfy pltD ((txs ns).map lD) (ns.length / 2))).flatMap (onT fun t => [D.bytes t]) = (ris ns).map D.bytes := by
    rw [risD, ris]
    generalize offs pltP ns.length (hfy pltP ((txs ns).map fun t => (t.length, t)) (ns.length / 2)) = l
    induction l with
    | nil => rfl
    | cons p l ih => rw [List.map_cons, List.flatMap_cons, ih]; rfl
  refine S1.comp (Wc := ["size", "text"]) (ρc := []) (onT fun t => [D.bytes t]) (IS.list (AE.call (AE.glob (gl.gfn 12) ⟨_, rfl, (gl.fn 12).cal, AEs.cons (AE.var rfl (AEs.nil (takenOff gl ordP (fun d hd => ordP_all _ d (pp.mem_iff.mp hd)) (by rw [pp.length_eq]; omega) ⟨_, rfl, ?_⟩)))⟩)) (.tuple ..)) trivial ?_ (by decide)
  · rw [pp.length_eq, hlt]
    refine ⟨⟨?_, fun C a os d hd => ?_⟩, ?_⟩
    · rw [e, List.length_map]; omega
    · rw [risD] at hd
      obtain ⟨p, _, rfl⟩ := List.mem_map.mp hd
      exact TA.pair (.inr rfl) ⟨.nil, TestsA.nil ⟨_, rfl, AE.var rfl ⟨rfl, rfl⟩⟩⟩
    · rw [e]
      exact ⟨rfl, .mk rfl (.mk rfl (.mk rfl (.mk rfl .nil))), rfl⟩
  · intro x hx
    simp only [List.mem_cons, List.not_mem_nil, or_false] at hx
    rcases hx with rfl | rfl <;> exact .inl rfl
end
end Mine

namespace Mine
open PySem PySem.Calls PyProof.Rows

noncomputable def onW (o : List D → List D) : D → List D
  | .list ds => o ds
  | _ => []
theorem idx_inst (t : List UInt8) (l : List (List UInt8)) : @List.idxOf (List UInt8) instBEqOfDecidableEq t l = l.idxOf t := by
  unfold List.idxOf
  congr 1
  funext x
  exact Bool.eq_iff_iff.mpr ((@beq_iff_eq _ instBEqOfDecidableEq _ x t).trans (beq_iff_eq (a := x) (b := t)).symm)
theorem idx_flat (tx l : List (List UInt8)) : (l.map D.bytes).flatMap (onB fun t => [D.int (tx.idxOf t : Nat)]) = (l.map fun t => tx.idxOf t).map fun i : Nat => D.int i := by
  rw [onB_flat, flat_one (fun t => D.int (tx.idxOf t : Nat)), List.map_map]; rfl
theorem pD_get (l : List (Nat × Nat)) : (l.map pD).length = l.length := List.length_map ..
theorem two_names' {P : Str → Prop} {x y : Str} (h : P x) (h' : P y) : ∀ z ∈ [x, y], P z := fun z hz => by
  simp only [List.mem_cons, List.not_mem_nil, or_false] at hz
  rcases hz with rfl | rfl
  · exact h
  · exact h'
theorem prs_length (n : Nat) (h : n ≤ 11) : (prs n).length ≤ 200 := by
  have : ∀ k : Fin 12, (prs k.val).length ≤ 200 := by decide +kernel
  exact this ⟨n, by omega⟩

section
variable {G : Gx} {fa : Nat → Addr} {n : Nat} {μ : Mu} {pm doc : Value} {c L : Addr}
set_option maxHeartbeats 1000000 in
theorem law8 (gl : Glo G fa) {ns : List Nat} (F : Facts ns) :
    S1 G (n + 8) (lawE fa pm doc c L) lawW (lawS 7) [("numbers", dI ns), ("texts", dB (txs ns)), ("plain", dB (pls ns)), ("rising", dB (ris ns))] μ fun f ρ' μ' => f = .next ∧ Ext [("numbers", dI ns), ("texts", dB (txs ns)), ("plain", dB (pls ns)), ("places", .list [dI (ps0 ns), dI (ps1 ns)])] ρ' ∧ μ' = μ := by
  have hsl : 1000 ≤ sizeLine := by rw [sizeLine_eq]; decide
  have hlen := F.len
  have hlt := txs_length ns
  refine S1.assign (AE.comp (Wc := ["row"]) (ρc := [("texts", dB (txs ns))]) (onW fun ds => [.list (ds.flatMap (onB fun t => [D.int ((txs ns).idxOf t : Nat)]))])
    (IS.list (AE.listD (AEs.cons (AE.var rfl (AEs.cons (AE.var rfl (AEs.nil ⟨Nat.le_trans (show 2 ≤ 1000 by decide) hsl, _, rfl, ⟨Nat.le_trans (show 2 ≤ 1000 by decide) hsl, fun C a os d hd => ?_⟩, ?_⟩)))))) (.name ..)) ?_ ?_ ?_)
  · have hd' : ∃ rows : List (List UInt8), d = dB rows ∧ rows.length ≤ 11 ∧ ∀ t ∈ rows, t ∈ txs ns := by
      rcases List.mem_cons.mp hd with q | q
      · exact ⟨pls ns, q, by rw [(pls_perm ns).length_eq]; omega, fun t ht => (pls_perm ns).mem_iff.mp ht⟩
      · exact ⟨ris ns, List.mem_singleton.mp q, by rw [(ris_perm ns).length_eq]; omega, fun t ht => (ris_perm ns).mem_iff.mp ht⟩
    obtain ⟨rows, rfl, hrl, hrm⟩ := hd'
    refine TA.name ⟨.cons rfl (.refl _), TestsA.nil ⟨_, rfl, ?_⟩⟩
    refine AE.comp (Wc := ["text"]) (ρc := [("texts", dB (txs ns))]) (onB fun t => [D.int ((txs ns).idxOf t : Nat)]) (IS.list (AE.var rfl ⟨_, rfl, ⟨?_, fun C' a' os' d' hd' => ?_⟩, rfl, rfl⟩) (.name ..)) ?_ ?_ ?_
    · rw [idx_flat]; simp; omega
    · obtain ⟨t, ht, rfl⟩ := List.mem_map.mp hd'
      exact TA.name ⟨.cons rfl (.refl _), TestsA.nil ⟨_, rfl, AE.index atB (AE.var rfl ⟨txs ns, rfl, AE.var rfl ⟨t, rfl, hrm t ht, by omega, rfl, by rw [idx_inst]⟩⟩)⟩⟩
    · exact ⟨⟨rfl, rfl, rfl, fun C => rfl⟩, trivial⟩
    · exact one_name (.inl rfl)
    · decide
  · refine ⟨rfl, .mk rfl (.mk rfl (.mk rfl (.mk ?_ .nil))), rfl⟩
    show some (D.list [D.list _, D.list _]) = _
    rw [idx_flat, idx_flat]; rfl
  · exact ⟨⟨rfl, rfl, rfl, fun C => rfl⟩, trivial⟩
  · exact one_name (.inl rfl)
  · decide

set_option maxHeartbeats 1000000 in
theorem law9 (gl : Glo G fa) {ns : List Nat} (F : Facts ns) :
    S1 G (n + 8) (lawE fa pm doc c L) lawW (lawS 8) [("numbers", dI ns), ("texts", dB (txs ns)), ("plain", dB (pls ns)), ("places", .list [dI (ps0 ns), dI (ps1 ns)])] μ fun f ρ' μ' => f = .next ∧ Ext [("numbers", dI ns), ("texts", dB (txs ns)), ("plain", dB (pls ns)), ("places", .list [dI (ps0 ns), dI (ps1 ns)])] ρ' ∧ μ' = μ := by
  have hsl : 1000 ≤ sizeLine := by rw [sizeLine_eq]; decide
  have hlen := F.len
  have hlt := txs_length ns
  have hp1 : (ps1 ns).length = ns.length := by rw [ps1, List.length_map, (ris_perm ns).length_eq, hlt]
  have e : ((ps1 ns).map fun i : Nat => D.int i).flatMap (onI fun k => [D.int ((ns.getD k 0 : Nat) : Int)]) = ((ps1 ns).map fun k => ((ns.getD k 0 : Nat) : Int)).map D.int := by
    rw [onI_flat, flat_one (fun k => D.int ((ns.getD k 0 : Nat) : Int)), List.map_map]; rfl
  refine S1.if_ (AT.cmp (AE.comp (Wc := ["k"]) (ρc := [("numbers", dI ns)]) (onI fun k => [D.int ((ns.getD k 0 : Nat) : Int)]) (IS.list (AE.item (AE.var rfl (AE.int ⟨_, 1, dI (ps1 ns), .inl rfl, rfl, by decide, by decide, rfl, _, rfl, ⟨?_, fun C a os d hd => ?_⟩, ?_⟩))) (.name ..)) ?_ ?_ ?_))
  · rw [e]; simp; omega
  · obtain ⟨k, hk, rfl⟩ := List.mem_map.mp hd
    have hk' : k < ns.length := by
      obtain ⟨t, ht, rfl⟩ := List.mem_map.mp hk
      rw [← hlt]
      exact List.idxOf_lt_length_of_mem ((ris_perm ns).mem_iff.mp ht)
    exact TA.name ⟨.cons rfl (.refl _), TestsA.nil ⟨_, rfl, AE.item (AE.var rfl (AE.var rfl ⟨_, (k : Int), _, .inl rfl, rfl, nn _, n63 hk' hlen, nat_get hk', rfl, rfl⟩))⟩⟩
  · rw [e]
    refine AE.call (AE.glob gl.gsorted ⟨_, rfl, .builtin _, AEs.cons (AE.var rfl (AEs.nil ?_))⟩)
    show Vn G _ _ [.list (ns.map fun i : Nat => D.int i)] _ _
    rw [← dI_of]
    refine Vn.sorted (by rw [List.length_map]; omega) fun ys hp hs => ?_
    rw [F.up ys hp hs]
    refine V2.lne (EqD.map D.int (fun x y => EqD.int 0 x y) ys ys) (by decide) ⟨_, rfl, ?_⟩
    rw [decide_eq_true rfl]
    exact SE.nil ⟨rfl, .mk rfl (.mk rfl (.mk rfl (.mk rfl .nil))), rfl⟩
  · exact ⟨⟨rfl, rfl, rfl, fun C => rfl⟩, trivial⟩
  · exact one_name (.inl rfl)
  · decide

set_option maxHeartbeats 1000000 in
theorem law10 (gl : Glo G fa) {ns : List Nat} (F : Facts ns) :
    S1 G (n + 8) (lawE fa pm doc c L) lawW (lawS 9) [("numbers", dI ns), ("texts", dB (txs ns)), ("plain", dB (pls ns)), ("places", .list [dI (ps0 ns), dI (ps1 ns)])] μ fun f ρ' μ' => f = .next ∧ Ext [("numbers", dI ns), ("texts", dB (txs ns)), ("plain", dB (pls ns)), ("places", .list [dI (ps0 ns), dI (ps1 ns)]), ("pairs", .list ((prs ns.length).map pD))] ρ' ∧ μ' = μ := by
  have hsl : 1000 ≤ sizeLine := by rw [sizeLine_eq]; decide
  have hlen := F.len
  have hl : (ns.map fun i : Nat => D.int i).length = ns.length := List.length_map ..
  have e : (List.range ns.length).flatMap (fun k => (List.range (k + 1)).map fun j => pD (j, k)) = (prs ns.length).map pD := by
    rw [prs, List.map_flatMap]; simp only [List.map_map]; rfl
  refine S1.comp2 (Wc := ["k", "j"]) (ρc := []) (onI fun k => (List.range (k + 1)).map fun j => pD (j, k)) (IS.range gl.grange (AE.call (AE.glob gl.glen ⟨_, rfl, .builtin _, AEs.cons (AE.var rfl (AEs.nil (Vn.lenL (by omega) ⟨ns.length, by rw [hl], by omega, ⟨?_, fun C a os d hd hz => ?_⟩, ?_⟩)))⟩))) trivial ?_ (by decide)
  · rw [onI_flat, e, List.length_map]
    have := prs_length ns.length hlen; omega
  · obtain ⟨k, hk, rfl⟩ := List.mem_map.mp hd
    have hk' : k < ns.length := by simpa using hk
    refine TA.name ⟨.nil, onI fun j => [pD (j, k)], IS.range gl.grange (AE.binop (AE.var rfl (AE.int (V2.add ⟨k + 1, rfl, by omega, rfl, ?_, fun d hd os' => ?_⟩))))⟩
    · rw [onI_flat, flat_one (fun j => pD (j, k))]; rfl
    · obtain ⟨j, hj, rfl⟩ := List.mem_map.mp hd
      refine TA.name ⟨.cons rfl (.refl _), TestsA.nil ⟨_, rfl, ?_⟩⟩
      exact AE.listD (AEs.cons (AE.var rfl (AEs.cons (AE.var rfl (AEs.nil ⟨Nat.le_trans (show 2 ≤ 1000 by decide) hsl, rfl, rfl⟩)))))
  · rw [onI_flat, e]
    exact ⟨rfl, .mk rfl (.mk rfl (.mk rfl (.mk rfl (.mk rfl .nil)))), rfl⟩
  · exact two_names' (.inl rfl) (.inl rfl)
end
end Mine

namespace Mine
open PySem PySem.Calls PyProof.Rows

section
variable {G : Gx} {n : Nat} {env : Env} {W Wc : List Str} {ρ ρc : Rho} {μ : Mu}
/-- the same as CT, with what is told of the list so far -/
noncomputable def CTF (G : Gx) (n : Nat) (env : Env) (scope : Scope) (Wc : List Str) (ρc : Rho) (target elt : Expr) (ifs : List Expr) (out : D → List D) (items : List D) (μ₁ : Mu) : Prop :=
  (items.flatMap out).length ≤ sizeLine ∧ ∀ C a os d, d ∈ items → (∀ e ∈ os, ∃ d' ∈ items, e ∈ out d') → TA G n (cE scope env C) Wc target d ρc ((a, os) :: μ₁) fun ρ' => Ext ρc ρ' ∧ TestsA G n (cE scope env C) Wc ifs ρ' ((a, os) :: μ₁) fun b =>
    if b then ∃ d', out d = [d'] ∧ AE G n (cE scope env C) Wc elt ρ' ((a, os) :: μ₁) (fun e μ' => μ' = (a, os) :: μ₁ ∧ e = d') else out d = []
theorem CTF.turn {scope : Scope} {target elt iter : Expr} {ifs : List Expr} {out : D → List D} {items : List D} {μ₁ : Mu} (h : CTF G n env scope Wc ρc target elt ifs out items μ₁) (C acc : Addr) (i : Nat) (d : D) (os : List D) (hd : items[i]? = some d) (ho : os = (items.take i).flatMap out) :
    TA G n (cE scope env C) Wc target d ρc ((acc, os) :: μ₁) fun ρ' => Ext ρc ρ' ∧ TestsA G n (cE scope env C) Wc ifs ρ' ((acc, os) :: μ₁) fun b =>
      if b then BA G n (cE scope env C) Wc (do let _ ← call (.builtin "list.append") [.ref acc, ← eval elt (cE scope env C)]) ρ' ((acc, os) :: μ₁) ((acc, os ++ out d) :: μ₁) ρc else out d = [] := fun A s v rm M F r =>
  wpAny_mono (h.2 C acc os d (List.mem_of_getElem? hd) (fun e he => by
    rw [ho] at he
    obtain ⟨d', hd', q⟩ := List.mem_flatMap.mp he
    exact ⟨d', List.mem_of_mem_take hd', q⟩) A s v rm M F r) (fun _ s' ⟨ρ', ⟨e, t⟩, x⟩ => ⟨ρ', ⟨e, fun A s rm M F => wpAny_mono (t A s rm M F) (fun b s' ⟨k, y⟩ => ⟨by
    cases b with
    | false => exact k
    | true =>
      obtain ⟨d', e', k'⟩ := k
      show BA ..
      rw [e']
      refine BA.elt k' ?_ e
      rw [ho]
      exact Nat.le_trans (flat_take items out i) h.1, y⟩) fun _ _ z => z⟩, x⟩) fun _ _ z => z
theorem AE.compF {elt target iter : Expr} {ifs : List Expr} {scope : Scope} {epos : Pos} {K : D → Mu → Prop} (out : D → List D)
    (src : IS G n env W target iter ρ μ fun items μ₁ => CTF G n env scope Wc ρc target elt ifs out items μ₁ ∧ K (.list (items.flatMap out)) μ₁)
    (hfv : FvOk scope env ρ ρc) (hW : ∀ x ∈ Wc, scope.names.lookup x = some .local ∨ scope.names.lookup x = some .cell)
    (hnames : ∀ x ∈ scope.names, x.2 = .local → scope.names.lookup x.1 = some .local)
    (hfree : (scope.names.all fun p => !(p.2 == .free) || (env.cells.lookup p.1).isSome) = true := by rfl)
    (hs : ∀ x, foldedSetIterable iter env x = pure x := by intro _; rfl) (hk : scope.kind = .function := by rfl) : AE G n env W (.ListComp elt [⟨target, iter, ifs, 0⟩] scope epos) ρ μ K := fun A s rm M F => by
  rw [eval_ListComp]
  refine comp_core (use := none) src rm M F (fun C I acc => ⟨_, compTurn_list elt target iter ifs scope epos _ _ _⟩) hs hfree hk hnames hfv hW (fun items μ₁ sk C acc i d os hd ho => sk.1.turn (iter := iter) C acc i d os hd ho) fun items μ₁ C acc s' sk M' ⟨m, hm⟩ hb t => ?_
  refine ⟨m, hm, fun h' hs' => ?_⟩
  have hn := NotSeq.of_ns hm
  have hc := t.new C (.head _)
  obtain ⟨M₃, r₃⟩ := (M'.off2 hs' hn hb M hc).less
  refine ⟨_, μ₁, sk.2, r₃, M₃, ?_⟩
  have t' : Tr (C :: keys ((acc, items.flatMap out) :: μ₁)) (keys μ₁) s' { s' with heap := h' } := ⟨h', s'.toks, rfl, .of_sameBut hs' (.head _), fun a ha => .inl (.tail _ (.tail _ ha))⟩
  exact t.trans t'
end

theorem txs_get {ns : List Nat} {j : Nat} (h : j < ns.length) : ((txs ns).map D.bytes)[j]? = some (.bytes ((txs ns).getD j [])) := by
  have h' : j < (txs ns).length := by rw [txs_length]; exact h
  rw [List.getElem?_map, List.getElem?_eq_getElem h']; simp [List.getD, h']
noncomputable abbrev rhoA (ns : List Nat) : Rho := [("numbers", dI ns), ("texts", dB (txs ns)), ("plain", dB (pls ns)), ("places", .list [dI (ps0 ns), dI (ps1 ns)]), ("pairs", .list ((prs ns.length).map pD))]
theorem pD_mem {l : List (Nat × Nat)} {d : D} (h : d ∈ l.map pD) : ∃ j k, (j, k) ∈ l ∧ d = .list [.int (j : Nat), .int (k : Nat)] := by
  obtain ⟨⟨j, k⟩, hp, rfl⟩ := List.mem_map.mp h
  exact ⟨j, k, hp, rfl⟩

section
variable {G : Gx} {fa : Nat → Addr} {n : Nat} {μ : Mu} {pm doc : Value} {c L : Addr}
set_option maxHeartbeats 1000000 in
theorem law11 (gl : Glo G fa) {ns : List Nat} (F : Facts ns) :
    S1 G (n + 8) (lawE fa pm doc c L) lawW (lawS 10) (rhoA ns) μ fun f ρ' μ' => f = .next ∧ Ext (("told", .list (((prs ns.length).map fun p => toldI ((txs ns).getD p.1 []) ((txs ns).getD p.2 [])).map .int)) :: rhoA ns) ρ' ∧ μ' = μ := by
  have hsl : 1000 ≤ sizeLine := by rw [sizeLine_eq]; decide
  have hlen := F.len
  have hpl := prs_length ns.length hlen
  have e : ((prs ns.length).map pD).flatMap (onP fun p => [D.int (toldI ((txs ns).getD p.1 []) ((txs ns).getD p.2 []))]) = ((prs ns.length).map fun p => toldI ((txs ns).getD p.1 []) ((txs ns).getD p.2 [])).map .int := by
    rw [onP_flat, flat_one (fun p : Nat × Nat => D.int (toldI ((txs ns).getD p.1 []) ((txs ns).getD p.2 []))), List.map_map]; rfl
  refine S1.comp (Wc := ["j", "k"]) (ρc := [("texts", dB (txs ns))]) (onP fun p => [D.int (toldI ((txs ns).getD p.1 []) ((txs ns).getD p.2 []))]) (IS.list (AE.var rfl ⟨_, rfl, ⟨?_, fun C a os d hd => ?_⟩, ?_⟩) (.tuple ..)) ?_ ?_ ?_
  · rw [e]; simp; omega
  · obtain ⟨j, k, hp, rfl⟩ := pD_mem hd
    obtain ⟨h1, h2⟩ := prs_mem hp
    dsimp only at h1 h2
    have hj' : j < ns.length := Nat.lt_of_le_of_lt h1 h2
    refine TA.pair (.inr rfl) ⟨.cons rfl (.cons rfl (.refl _)), TestsA.nil ⟨_, rfl, ?_⟩⟩
    exact AE.call (AE.glob (gl.gfn 10) ⟨_, rfl, (gl.fn 10).cal, AEs.cons (AE.item (AE.var rfl (AE.var rfl ⟨_, (j : Int), _, .inl rfl, rfl, nn _, n63 hj' hlen, txs_get hj', AEs.cons (AE.item (AE.var rfl (AE.var rfl ⟨_, (k : Int), _, .inl rfl, rfl, nn _, n63 h2 hlen, txs_get h2, AEs.nil (threeWay gl ⟨rfl, rfl⟩)⟩)))⟩)))⟩)
  · rw [e]
    exact ⟨rfl, .mk rfl (.mk rfl (.mk rfl (.mk rfl (.mk rfl (.mk rfl .nil))))), rfl⟩
  · exact ⟨⟨rfl, rfl, rfl, fun C => rfl⟩, trivial⟩
  · exact two_names' (.inl rfl) (.inl rfl)
  · decide

set_option maxHeartbeats 1000000 in
theorem law12 (gl : Glo G fa) {ns : List Nat} (F : Facts ns) (fl : FlatMu μ) :
    S1 G (n + 8) (lawE fa pm doc c L) lawW (lawS 11) (("told", .list (((prs ns.length).map fun p => toldI ((txs ns).getD p.1 []) ((txs ns).getD p.2 [])).map .int)) :: rhoA ns) μ fun f ρ' μ' => f = .next ∧ Ext (rhoA ns) ρ' ∧ μ' = μ := by
  have hsl : 1000 ≤ sizeLine := by rw [sizeLine_eq]; decide
  have hlen := F.len
  have hpl := prs_length ns.length hlen
  have e : ((prs ns.length).map pD).flatMap (onP fun p => [D.int (sgn (digs (ns.getD p.1 0)) (digs (ns.getD p.2 0)))]) = ((prs ns.length).map fun p => sgn (digs (ns.getD p.1 0)) (digs (ns.getD p.2 0))).map .int := by
    rw [onP_flat, flat_one (fun p : Nat × Nat => D.int (sgn (digs (ns.getD p.1 0)) (digs (ns.getD p.2 0)))), List.map_map]; rfl
  refine S1.if_ (AT.cmp (AE.var rfl (AE.compF (Wc := ["j", "k"]) (ρc := [("numbers", dI ns)]) (onP fun p => [D.int (sgn (digs (ns.getD p.1 0)) (digs (ns.getD p.2 0)))]) (IS.list (AE.var rfl ⟨_, rfl, ⟨?_, fun C a os d hd hos => ?_⟩, ?_⟩) (.tuple ..)) ?_ ?_ ?_)))
  · rw [e]; simp; omega
  · obtain ⟨j, k, hp, rfl⟩ := pD_mem hd
    obtain ⟨h1, h2⟩ := prs_mem hp
    dsimp only at h1 h2
    have hj' : j < ns.length := Nat.lt_of_le_of_lt h1 h2
    have fl' : FlatMu ((a, os) :: μ) := fun q hq d hd => by
      rcases List.mem_cons.mp hq with rfl | hq
      · obtain ⟨d', hd', q⟩ := hos d hd
        obtain ⟨j', k', _, rfl⟩ := pD_mem hd'
        rw [List.mem_singleton.mp q]; trivial
      · exact fl q hq d hd
    have m1 : ns.getD j 0 ∈ ns := getD_mem hj'
    have m2 : ns.getD k 0 ∈ ns := getD_mem h2
    have d1 := digs_small F m1
    have d2 := digs_small F m2
    refine TA.pair (.inr rfl) ⟨.cons rfl (.cons rfl (.refl _)), TestsA.nil ⟨_, rfl, ?_⟩⟩
    refine AE.call (AE.glob (gl.gfn 15) ⟨_, rfl, (gl.fn 15).cal, AEs.cons (AE.call (AE.glob (gl.gfn 14) ⟨_, rfl, (gl.fn 14).cal, AEs.cons (AE.item (AE.var rfl (AE.var rfl ⟨_, (j : Int), _, .inl rfl, rfl, nn _, n63 hj' hlen, nat_get hj', AEs.nil (figures gl (digs_big F m1) ?_)⟩)))⟩))⟩)
    refine AEs.cons (AE.call (AE.glob (gl.gfn 14) ⟨_, rfl, (gl.fn 14).cal, AEs.cons (AE.item (AE.var rfl (AE.var rfl ⟨_, (k : Int), _, .inl rfl, rfl, nn _, n63 h2 hlen, nat_get h2, AEs.nil (figures gl (digs_big F m2) (AEs.nil (signP gl (by exact Nat.lt_of_le_of_lt d1 (by decide)) (by exact Nat.lt_of_le_of_lt d2 (by decide)) fl' ⟨rfl, rfl⟩)))⟩)))⟩))
  · rw [e]
    refine V2.lne (EqD.map D.int (fun x y => EqD.int 0 x y) _ _) (by decide) ⟨_, rfl, ?_⟩
    rw [decide_eq_true F.told]
    exact SE.nil ⟨rfl, .mk rfl (.mk rfl (.mk rfl (.mk rfl (.mk rfl .nil)))), rfl⟩
  · exact ⟨⟨rfl, rfl, rfl, fun C => rfl⟩, trivial⟩
  · exact two_names' (.inl rfl) (.inl rfl)
  · decide
end
end Mine

namespace Mine
open PySem PySem.Calls PyProof.Rows

theorem ps_mem {ns : List Nat} (F : Facts ns) {rows : List (List UInt8)} (hp : rows.Perm (txs ns)) {j : Nat} (hj : j < ns.length) : j ∈ rows.map fun t => (txs ns).idxOf t := by
  have hj' : j < (txs ns).length := by rw [txs_length]; exact hj
  refine List.mem_map.mpr ⟨(txs ns)[j], hp.mem_iff.mpr (List.getElem_mem hj'), ?_⟩
  exact F.nd.idxOf_getElem j hj'
theorem idx_int (l : List Nat) (j : Nat) : @List.idxOf Int instBEqOfDecidableEq (j : Int) (l.map fun n : Nat => (n : Int)) = l.idxOf j := by
  unfold List.idxOf
  induction l with
  | nil => rfl
  | cons x l ih =>
    have e : ((x : Int) == (j : Int)) = (x == j) := by
      rw [Bool.eq_iff_iff, beq_iff_eq, beq_iff_eq]; omega
    rw [List.map_cons, List.findIdx_cons, List.findIdx_cons, ih]
    rw [show (@BEq.beq Int instBEqOfDecidableEq (x : Int) (j : Int)) = (x == j) from e]
theorem mem_int {l : List Nat} {j : Nat} (h : j ∈ l) : (j : Int) ∈ l.map fun n : Nat => (n : Int) := List.mem_map.mpr ⟨j, h, rfl⟩
noncomputable abbrev rhoB (ns : List Nat) : Rho := [("numbers", dI ns), ("texts", dB (txs ns)), ("plain", dB (pls ns)), ("pairs", .list ((prs ns.length).map pD)), ("turned", .list ((turnedL ns).map pD))]
noncomputable abbrev rhoC (ns : List Nat) : Rho := [("texts", dB (txs ns)), ("plain", dB (pls ns)), ("turned", .list ((turnedL ns).map pD)), ("due", .list ((dueL ns).map pD))]
noncomputable abbrev rhoD (ns : List Nat) : Rho := [("plain", dB (pls ns)), ("turned", .list ((turnedL ns).map pD)), ("due", .list ((dueL ns).map pD)), ("still", dB (stillL ns))]
noncomputable abbrev rhoE (ns : List Nat) : Rho := [("plain", dB (pls ns)), ("turned", .list ((turnedL ns).map pD)), ("due", .list ((dueL ns).map pD)), ("still", dB (stillL ns)), ("gone", dB (goneL ns))]

section
variable {G : Gx} {fa : Nat → Addr} {n : Nat} {μ : Mu} {pm doc : Value} {c L : Addr} {env : Env} {W : List Str} {ρ : Rho}
/-- one side of the turned test -/
theorem AE.befo {o : Expr} {a1 a2 : Expr} {ap1 ap2 p1 p2 pos : Pos} {o1 o2 : Expr} {rows : List (List UInt8)} {ns : List Nat} (F : Facts ns) {j k : Nat} {K : D → Mu → Prop} (hp : rows.Perm (txs ns)) (hj : j < ns.length) (hk : k < ns.length)
    (h1 : ∀ K, K (dI (rows.map fun t => (txs ns).idxOf t)) μ → AE G n env W o1 ρ μ K) (h2 : ∀ K, K (dI (rows.map fun t => (txs ns).idxOf t)) μ → AE G n env W o2 ρ μ K)
    (e1 : ∀ K, K (.int (j : Nat)) μ → AE G n env W a1 ρ μ K) (e2 : ∀ K, K (.int (k : Nat)) μ → AE G n env W a2 ρ μ K) (hl : ns.length ≤ 11)
    (h : K (.bool (Mine.befo (rows.map fun t => (txs ns).idxOf t) (j, k))) μ)
    (hm : behindInMarks .Lt (.Call (.Attribute o2 "index" ap2) [a2] [] p2) = false := by with_unfolding_all rfl)
    (hbase1 : attributeBase o1 "index" env (eval o1 env) = eval o1 env := by rfl) (hs1 : starEach [a1] env = [(false, eval a1 env)] := by rfl) (hline1 : (ap1.endLine == p1.line) = true := by rfl)
    (hbase2 : attributeBase o2 "index" env (eval o2 env) = eval o2 env := by rfl) (hs2 : starEach [a2] env = [(false, eval a2 env)] := by rfl) (hline2 : (ap2.endLine == p2.line) = true := by rfl) :
    AE G n env W (.Compare (.Call (.Attribute o1 "index" ap1) [a1] [] p1) [.Lt] [.Call (.Attribute o2 "index" ap2) [a2] [] p2] pos) ρ μ K := by
  have hrl : (rows.map fun t => (txs ns).idxOf t).length ≤ 11 := by rw [List.length_map, hp.length_eq, txs_length]; exact hl
  refine AE.cmp (AE.index atI (h1 _ ⟨(rows.map fun t => (txs ns).idxOf t).map fun n : Nat => (n : Int), by show D.list _ = D.list _; rw [show atI.f = D.int from rfl, dI_of], e1 _ ⟨(j : Int), rfl, mem_int (ps_mem F hp hj), by rw [List.length_map]; omega, ?_⟩⟩) hbase1 hs1 hline1) hm
  refine AE.index atI (h2 _ ⟨(rows.map fun t => (txs ns).idxOf t).map fun n : Nat => (n : Int), by show D.list _ = D.list _; rw [show atI.f = D.int from rfl, dI_of], e2 _ ⟨(k : Int), rfl, mem_int (ps_mem F hp hk), by rw [List.length_map]; omega, ?_⟩⟩) hbase2 hs2 hline2
  rw [idx_int, idx_int]
  refine V2.lt ?_
  have e : decide ((((rows.map fun t => (txs ns).idxOf t).idxOf j : Nat) : Int) < ((rows.map fun t => (txs ns).idxOf t).idxOf k : Nat)) = Mine.befo (rows.map fun t => (txs ns).idxOf t) (j, k) := by
    unfold Mine.befo; rw [decide_eq_decide]; dsimp only; omega
  rw [e]; exact h

set_option maxHeartbeats 1000000 in
theorem law13 (gl : Glo G fa) {ns : List Nat} (F : Facts ns) :
    S1 G (n + 8) (lawE fa pm doc c L) lawW (lawS 12) (rhoA ns) μ fun f ρ' μ' => f = .next ∧ Ext (rhoB ns) ρ' ∧ μ' = μ := by
  have hsl : 1000 ≤ sizeLine := by rw [sizeLine_eq]; decide
  have hlen := F.len
  have hpl := prs_length ns.length hlen
  have e : ((prs ns.length).map pD).flatMap (onP fun p => if befo (ps0 ns) p != befo (ps1 ns) p then [pD p] else []) = (turnedL ns).map pD := by
    rw [onP_flat, flat_if]; rfl
  have hfl : (turnedL ns).length ≤ (prs ns.length).length := List.length_filter_le _ _
  refine S1.comp (Wc := ["j", "k"]) (ρc := [("places", .list [dI (ps0 ns), dI (ps1 ns)])]) (onP fun p => if befo (ps0 ns) p != befo (ps1 ns) p then [pD p] else []) (IS.list (AE.var rfl ⟨_, rfl, ⟨?_, fun C a os d hd => ?_⟩, ?_⟩) (.tuple ..)) ?_ ?_ ?_
  · rw [e]; simp; omega
  · obtain ⟨j, k, hp, rfl⟩ := pD_mem hd
    obtain ⟨h1, h2⟩ := prs_mem hp
    dsimp only at h1 h2
    have hj' : j < ns.length := Nat.lt_of_le_of_lt h1 h2
    refine TA.pair (.inr rfl) ⟨.cons rfl (.cons rfl (.refl _)), TestsA.one (AT.cmp ?_)⟩
    refine AE.befo F (j := j) (k := k) (rows := pls ns) (o := .Constant .none 0 ⟨0, 0, 0, 0⟩) (pls_perm ns) hj' h2 (fun K h => AE.item (AE.var rfl (AE.int ⟨_, 0, dI (ps0 ns), .inl rfl, rfl, by decide, by decide, rfl, h⟩))) (fun K h => AE.item (AE.var rfl (AE.int ⟨_, 0, dI (ps0 ns), .inl rfl, rfl, by decide, by decide, rfl, h⟩)))
      (fun K h => AE.var rfl h) (fun K h => AE.var rfl h) hlen ?_
    refine AE.befo F (j := j) (k := k) (rows := ris ns) (o := .Constant .none 0 ⟨0, 0, 0, 0⟩) (ris_perm ns) hj' h2 (fun K h => AE.item (AE.var rfl (AE.int ⟨_, 1, dI (ps1 ns), .inl rfl, rfl, by decide, by decide, rfl, h⟩))) (fun K h => AE.item (AE.var rfl (AE.int ⟨_, 1, dI (ps1 ns), .inl rfl, rfl, by decide, by decide, rfl, h⟩)))
      (fun K h => AE.var rfl h) (fun K h => AE.var rfl h) hlen ?_
    refine V2.bne ⟨_, rfl, rfl, ?_⟩
    show if (Mine.befo (ps0 ns) (j, k) != Mine.befo (ps1 ns) (j, k)) = true then _ else _
    split
    · rename_i hb
      exact ⟨pD (j, k), if_pos hb, AE.listD (AEs.cons (AE.var rfl (AEs.cons (AE.var rfl (AEs.nil ⟨Nat.le_trans (show 2 ≤ 1000 by decide) hsl, rfl, rfl⟩)))))⟩
    · rename_i hb
      exact if_neg hb
  · rw [e]
    exact ⟨rfl, .mk rfl (.mk rfl (.mk rfl (.mk rfl (.mk rfl .nil)))), rfl⟩
  · exact ⟨⟨rfl, rfl, rfl, fun C => rfl⟩, trivial⟩
  · exact two_names' (.inl rfl) (.inl rfl)
  · decide

set_option maxHeartbeats 1000000 in
theorem law14 (gl : Glo G fa) {ns : List Nat} (F : Facts ns) :
    S1 G (n + 8) (lawE fa pm doc c L) lawW (lawS 13) (rhoB ns) μ fun f ρ' μ' => f = .next ∧ Ext (rhoC ns) ρ' ∧ μ' = μ := by
  have hsl : 1000 ≤ sizeLine := by rw [sizeLine_eq]; decide
  have hlen := F.len
  have hpl := prs_length ns.length hlen
  have e : ((prs ns.length).map pD).flatMap (onP fun p => if tn (ns.getD p.1 0) (ns.getD p.2 0) then [pD p] else []) = (dueL ns).map pD := by
    rw [onP_flat, flat_if]; rfl
  have hfl : (dueL ns).length ≤ (prs ns.length).length := List.length_filter_le _ _
  refine S1.assign (AE.comp (Wc := ["j", "k"]) (ρc := [("numbers", dI ns)]) (onP fun p => if tn (ns.getD p.1 0) (ns.getD p.2 0) then [pD p] else []) (IS.list (AE.var rfl ⟨_, rfl, ⟨?_, fun C a os d hd => ?_⟩, ?_⟩) (.tuple ..)) ?_ ?_ ?_)
  · rw [e]; simp; omega
  · obtain ⟨j, k, hp, rfl⟩ := pD_mem hd
    obtain ⟨h1, h2⟩ := prs_mem hp
    dsimp only at h1 h2
    have hj' : j < ns.length := Nat.lt_of_le_of_lt h1 h2
    refine TA.pair (.inr rfl) ⟨.cons rfl (.cons rfl (.refl _)), TestsA.one (AT.booly (AE.call (AE.glob (gl.gfn 16) ⟨_, rfl, (gl.fn 16).cal, AEs.cons (AE.item (AE.var rfl (AE.var rfl ⟨_, (j : Int), _, .inl rfl, rfl, nn _, n63 hj' hlen, nat_get hj', ?_⟩)))⟩)))⟩
    refine AEs.cons (AE.item (AE.var rfl (AE.var rfl ⟨_, (k : Int), _, .inl rfl, rfl, nn _, n63 h2 hlen, nat_get h2, AEs.nil (turnedP gl (F.lt _ (getD_mem hj')) (F.lt _ (getD_mem h2)) ⟨_, rfl, rfl, ?_⟩)⟩)))
    show if tn (ns.getD j 0) (ns.getD k 0) = true then _ else _
    split
    · rename_i hb
      exact ⟨pD (j, k), if_pos hb, AE.listD (AEs.cons (AE.var rfl (AEs.cons (AE.var rfl (AEs.nil ⟨Nat.le_trans (show 2 ≤ 1000 by decide) hsl, rfl, rfl⟩)))))⟩
    · rename_i hb
      exact if_neg hb
  · rw [e]
    exact ⟨rfl, .mk rfl (.mk rfl (.mk rfl (.mk rfl .nil))), rfl⟩
  · exact ⟨⟨rfl, rfl, rfl, fun C => rfl⟩, trivial⟩
  · exact two_names' (.inl rfl) (.inl rfl)
  · decide
end
end Mine

namespace Mine
open PySem PySem.Calls PyProof.Rows

theorem all_true (n : Nat) : (List.range n).all (fun _ => true) = true := by rw [List.all_eq_true]; intros; rfl
theorem eqTup {n : Nat} {ds : List D} (h : ∀ d ∈ ds, EqD n d d true) : EqD (n + 1) (.tuple ds) (.tuple ds) true := by
  rw [← all_true ds.length]
  exact .tuple _ rfl fun j d d' h1 h2 => by rw [h1] at h2; cases h2; exact h d (List.mem_of_getElem? h1)
theorem eqLst {n : Nat} {ds : List D} (h : ∀ d ∈ ds, EqD n d d true) : EqD (n + 1) (.list ds) (.list ds) true := by
  rw [← all_true ds.length]
  exact .list _ rfl fun j d d' h1 h2 => by rw [h1] at h2; cases h2; exact h d (List.mem_of_getElem? h1)
theorem two_all {P : D → Prop} {a b : D} (ha : P a) (hb : P b) : ∀ d ∈ [a, b], P d := fun d hd => by
  rcases List.mem_cons.mp hd with q | q
  · rw [q]; exact ha
  · rw [List.mem_singleton.mp q]; exact hb
theorem eqB (xs : List (List UInt8)) : EqD 1 (dB xs) (dB xs) true := by
  have := EqD.map D.bytes (fun x y => EqD.bytes 0 x y) xs xs
  rwa [decide_eq_true rfl] at this

section
variable {G : Gx} {fa : Nat → Addr} {n : Nat} {μ : Mu} {pm doc : Value} {c L : Addr}
set_option maxHeartbeats 1000000 in
theorem law15 (gl : Glo G fa) {ns : List Nat} (F : Facts ns) :
    S1 G (n + 8) (lawE fa pm doc c L) lawW (lawS 14) (rhoC ns) μ fun f ρ' μ' => f = .next ∧ Ext (rhoD ns) ρ' ∧ μ' = μ := by
  have hsl : 1000 ≤ sizeLine := by rw [sizeLine_eq]; decide
  have hlen := F.len
  have hlt := txs_length ns
  have hpl := prs_length ns.length hlen
  have hpp := (pls_perm ns).length_eq
  have hdl : (dueL ns).length ≤ (prs ns.length).length := List.length_filter_le _ _
  have e : ((pls ns).map D.bytes).flatMap (onB fun t => if decide (touch ns t = []) then [.bytes t] else []) = (stillL ns).map D.bytes := by
    rw [onB_flat, flat_if]; rfl
  have hfl : (stillL ns).length ≤ (pls ns).length := List.length_filter_le _ _
  refine S1.assign (AE.comp (Wc := ["text"]) (ρc := [("texts", dB (txs ns)), ("due", .list ((dueL ns).map pD))]) (onB fun t => if decide (touch ns t = []) then [.bytes t] else []) (IS.list (AE.var rfl ⟨_, rfl, ⟨?_, fun C a os d hd => ?_⟩, ?_⟩) (.name ..)) ?_ ?_ ?_)
  · rw [e]; simp; omega
  · obtain ⟨t, ht, rfl⟩ := List.mem_map.mp hd
    have ht' := (pls_perm ns).mem_iff.mp ht
    have e2 : ((dueL ns).map pD).flatMap (onP fun p => if decide ((txs ns).idxOf t = p.1 ∨ (txs ns).idxOf t = p.2) then [pD p] else []) = (touch ns t).map pD := by
      rw [onP_flat, flat_if]; rfl
    have htl : (touch ns t).length ≤ (dueL ns).length := List.length_filter_le _ _
    refine TA.name ⟨.cons rfl (.refl _), TestsA.one (AT.cmp ?_)⟩
    refine AE.comp (Wc := ["pair"]) (ρc := [("texts", dB (txs ns)), ("text", .bytes t)]) (onP fun p => if decide ((txs ns).idxOf t = p.1 ∨ (txs ns).idxOf t = p.2) then [pD p] else []) (IS.list (AE.var rfl ⟨_, rfl, ⟨?_, fun C' a' os' d' hd' => ?_⟩, ?_⟩) (.name ..)) ?_ ?_ ?_
    · rw [e2]; simp; omega
    · obtain ⟨j, k, hp, rfl⟩ := pD_mem hd'
      refine TA.name ⟨.cons rfl (.refl _), TestsA.one (AT.cmp (AE.index atB (AE.var rfl ⟨txs ns, rfl, AE.var rfl ⟨t, rfl, ht', by omega, ?_⟩⟩)))⟩
      rw [idx_inst]
      refine AE.var rfl (V2.in_ atI (xs := [(j : Int), (k : Int)]) (b := ((txs ns).idxOf t : Nat)) ⟨_, rfl, rfl, ?_⟩)
      have e3 : decide ((((txs ns).idxOf t : Nat) : Int) ∈ [(j : Int), (k : Int)]) = decide ((txs ns).idxOf t = j ∨ (txs ns).idxOf t = k) := by
        rw [decide_eq_decide]
        simp only [List.mem_cons, List.not_mem_nil, or_false]; omega
      rw [e3]
      split
      · rename_i hb
        exact ⟨pD (j, k), if_pos hb, AE.var rfl ⟨rfl, rfl⟩⟩
      · rename_i hb
        exact if_neg hb
    · rw [e2]
      refine AE.listD (AEs.nil ⟨Nat.zero_le _, V2.leq (EqD.map pD (eq_pair 0) (touch ns t) []) (by decide) ⟨_, rfl, rfl, ?_⟩⟩)
      split
      · rename_i hb
        exact ⟨.bytes t, if_pos hb, AE.var rfl ⟨rfl, rfl⟩⟩
      · rename_i hb
        exact if_neg hb
    · exact ⟨⟨rfl, rfl, rfl, fun C => rfl⟩, ⟨rfl, rfl, rfl, fun C => rfl⟩, trivial⟩
    · exact one_name (.inl rfl)
    · decide
  · rw [e]
    exact ⟨rfl, .mk rfl (.mk rfl (.mk rfl (.mk rfl .nil))), rfl⟩
  · exact ⟨⟨rfl, rfl, rfl, fun C => rfl⟩, ⟨rfl, rfl, rfl, fun C => rfl⟩, trivial⟩
  · exact one_name (.inr rfl)
  · decide

set_option maxHeartbeats 1000000 in
theorem law16 (gl : Glo G fa) {ns : List Nat} (F : Facts ns) :
    S1 G (n + 8) (lawE fa pm doc c L) lawW (lawS 15) (rhoD ns) μ fun f ρ' μ' => f = .next ∧ Ext (rhoE ns) ρ' ∧ μ' = μ := by
  have hsl : 1000 ≤ sizeLine := by rw [sizeLine_eq]; decide
  have hlen := F.len
  have hlt := txs_length ns
  have hpp := (pls_perm ns).length_eq
  have e : ((pls ns).map D.bytes).flatMap (onB fun t => if !decide (t ∈ stillL ns) then [.bytes t] else []) = (goneL ns).map D.bytes := by
    rw [onB_flat, flat_if]; rfl
  have hfl : (goneL ns).length ≤ (pls ns).length := List.length_filter_le _ _
  refine S1.comp (Wc := ["text"]) (ρc := [("still", dB (stillL ns))]) (onB fun t => if !decide (t ∈ stillL ns) then [.bytes t] else []) (IS.list (AE.var rfl ⟨_, rfl, ⟨?_, fun C a os d hd => ?_⟩, ?_⟩) (.name ..)) ?_ ?_ ?_
  · rw [e]; simp; omega
  · obtain ⟨t, ht, rfl⟩ := List.mem_map.mp hd
    refine TA.name ⟨.cons rfl (.refl _), TestsA.one (AT.cmp (AE.var rfl (AE.var rfl (V2.notIn atB (xs := stillL ns) (b := t) ⟨_, rfl, rfl, ?_⟩))))⟩
    by_cases hb : t ∈ stillL ns
    · rw [if_neg (by simpa using hb)]
      show (if _ then _ else _) = []
      exact if_neg (by simpa using hb)
    · rw [if_pos (by simpa using hb)]
      exact ⟨.bytes t, if_pos (by simpa using hb), AE.var rfl ⟨rfl, rfl⟩⟩
  · rw [e]
    exact ⟨rfl, .mk rfl (.mk rfl (.mk rfl (.mk rfl (.mk rfl .nil)))), rfl⟩
  · exact ⟨⟨rfl, rfl, rfl, fun C => rfl⟩, trivial⟩
  · exact one_name (.inl rfl)
  · decide

set_option maxHeartbeats 1000000 in
theorem law17 (gl : Glo G fa) {ns : List Nat} (F : Facts ns) :
    S1 G (n + 8) (lawE fa pm doc c L) lawW (lawS 16) (rhoE ns) μ fun f ρ' μ' => f = .ret (.bool true) ∧ μ' = μ := by
  have hsl : 1000 ≤ sizeLine := by rw [sizeLine_eq]; decide
  have hlen := F.len
  have hlt := txs_length ns
  have hpp := (pls_perm ns).length_eq
  have hfl : (stillL ns).length ≤ (pls ns).length := List.length_filter_le _ _
  refine S1.ret (AE.and (AE.cmp (AE.var rfl (AE.var rfl (V2.leq (EqD.map pD (eq_pair 0) (turnedL ns) (dueL ns)) (by decide) ⟨_, rfl, ?_⟩)))))
  rw [decide_eq_true F.turned, if_pos rfl]
  refine AE.cmp (AE.listD (AEs.cons (AE.call (AE.glob (gl.gfn 9) ⟨_, rfl, (gl.fn 9).cal, AEs.cons (AE.var rfl (AEs.cons (AE.var rfl (AEs.nil (sldiff gl (by omega) (by omega) F.sl ?_)))))⟩))))
  rw [F.m1]
  refine AEs.cons (AE.call (AE.glob (gl.gfn 9) ⟨_, rfl, (gl.fn 9).cal, AEs.cons (AE.var rfl (AEs.cons (AE.var rfl (AEs.nil (sldiff gl (by omega) (by omega) F.sl.sw ?_)))))⟩))
  rw [F.m2]
  refine AEs.nil ⟨Nat.le_trans (show 2 ≤ 1000 by decide) hsl, ?_⟩
  refine AE.listD (AEs.cons (AE.tupleD (AEs.cons (AE.var rfl (AEs.cons (AE.listD (AEs.nil ⟨Nat.zero_le _, AEs.nil ⟨Nat.le_trans (show 2 ≤ 1000 by decide) hsl, ?_⟩⟩)))))))
  refine AEs.cons (AE.tupleD (AEs.cons (AE.listD (AEs.nil ⟨Nat.zero_le _, AEs.cons (AE.var rfl (AEs.nil ⟨Nat.le_trans (show 2 ≤ 1000 by decide) hsl, AEs.nil ⟨Nat.le_trans (show 2 ≤ 1000 by decide) hsl, ?_⟩⟩))⟩))))
  have q : EqD 3 (.list [.tuple [dB (goneL ns), dB []], .tuple [dB [], dB (goneL ns)]]) (.list [.tuple [dB (goneL ns), dB []], .tuple [dB [], dB (goneL ns)]]) true :=
    eqLst (two_all (eqTup (two_all (eqB _) (eqB _))) (eqTup (two_all (eqB _) (eqB _))))
  exact V2.leq q (by decide) ⟨rfl, rfl⟩
end
end Mine

namespace Mine
open PySem PySem.Calls PyProof.Rows

section
variable {G : Gx} {n : Nat} {env : Env} {W : List Str} {ρ : Rho} {μ : Mu}
theorem SE.seqE {α : Type} {st : Stmt} {rest : List Stmt} {K : FD → Rho → Mu → Prop} (ρJ : α → Rho) (μJ : α → Mu) (h1 : S1 G n env W st ρ μ fun f ρ' μ' => f = .next ∧ ∃ x, Ext (ρJ x) ρ' ∧ μ' = μJ x) (h2 : ∀ x, SE G n env W rest (ρJ x) (μJ x) K) : SE G n env W (st :: rest) ρ μ K :=
  SE.cons fun A s rm M F => wpAny_mono (h1 A s rm M F) (fun f s' ⟨fd, ρ', μ', ⟨e1, y, e2, e3⟩, r, m, f, t⟩ => ⟨fd, ρ', μ', by subst e1 e3; exact SE.weaken (h2 y) e2, r, m, f, t⟩) fun _ _ z => z
theorem SE.last {st : Stmt} {K : FD → Rho → Mu → Prop} {d : D} (h1 : S1 G n env W st ρ μ fun f ρ' μ' => f = .ret d ∧ μ' = μ) (h2 : ∀ ρ', K (.ret d) ρ' μ) : SE G n env W [st] ρ μ K :=
  SE.cons fun A s rm M F => wpAny_mono (h1 A s rm M F) (fun f s' ⟨fd, ρ', μ', ⟨e1, e3⟩, r, m, f, t⟩ => ⟨fd, ρ', μ', by subst e1 e3; exact h2 ρ', r, m, f, t⟩) fun _ _ z => z
end

theorem lawP {G : Gx} {fa : Nat → Addr} (gl : Glo G fa) {n : Nat} {xs : List Int} {ns : List Nat} {μ : Mu} {K : D → Mu → Prop} (hns : once (base6 ++ (xs.take 5).map fun x => x % 2 ^ 40) = ns.map fun n : Nat => (n : Int)) (hxs : xs.length ≤ 63) {sa : Addr} {vs : List Value} (hB : G.B.IsList sa vs.toArray) (hI : IntsAre vs xs) (F : Facts ns) (fl : FlatMu μ) (h : ∀ μ', K (.bool true) μ') :
    Vn G (n + 9) (fun vs => call (.ref (fa 18)) vs) [.val (.ref sa)] μ K := by
  refine Vn.fn (names := ["script"]) (W := lawW) (gl.fn 18) gl.lim rfl (fun pm c doc vs hv => ?_) (by decide) (by decide) ?_ (fun pm c doc L => ?_) (by rfl) (by rfl) (by rfl)
  · obtain ⟨_, rfl⟩ := len1 hv; rfl
  · intro x hx
    simp only [List.mem_cons, List.not_mem_nil, or_false] at hx
    rcases hx with rfl | rfl | rfl | rfl | rfl | rfl | rfl | rfl | rfl | rfl | rfl | rfl | rfl | rfl <;> first | exact .inl rfl | exact .inr rfl
  show SE G (n + 8) (lawE fa pm doc c L) lawW [lawS 0, lawS 1, lawS 2, lawS 3, lawS 4, lawS 5, lawS 6, lawS 7, lawS 8, lawS 9, lawS 10, lawS 11, lawS 12, lawS 13, lawS 14, lawS 15, lawS 16] [("script", .val (.ref sa))] μ fun fd _ μ' => K (retD fd) μ'
  refine SE.seq _ _ (law1 gl hns hxs hB hI) ?_
  refine SE.seq _ _ (law2 gl F) ?_
  refine SE.seq _ _ (law3 gl F) ?_
  refine SE.seq _ _ (law4 gl F) ?_
  refine SE.seqE (α := Addr × Addr) (fun x => [("numbers", dI ns), ("texts", dB (txs ns)), ("plain", dB (pls ns)), ("long", .val (.ref x.2))]) (fun x => (x.2, (txs ns).map lD) :: (x.1, []) :: μ) (fun A s rm M F' => wpAny_mono (law5 gl F A s rm M F') (fun f s' ⟨fd, ρ', μ', ⟨e1, a, b, e2, e3⟩, r, m, f, t⟩ => ⟨fd, ρ', μ', ⟨e1, (a, b), e2, e3⟩, r, m, f, t⟩) fun _ _ z => z) ?_
  rintro ⟨a, b⟩
  have fl' : FlatMu ((b, []) :: (a, []) :: μ) := fun p hp d hd => by
    rcases List.mem_cons.mp hp with rfl | hp
    · cases hd
    · rcases List.mem_cons.mp hp with rfl | hp
      · cases hd
      · exact fl p hp d hd
  refine SE.seq _ _ (law6 gl F) ?_
  refine SE.seq _ _ (law7 gl F) ?_
  refine SE.seq _ _ (law8 gl F) ?_
  refine SE.seq _ _ (law9 gl F) ?_
  refine SE.seq _ _ (law10 gl F) ?_
  refine SE.seq _ _ (law11 gl F) ?_
  refine SE.seq _ _ (law12 gl F fl') ?_
  refine SE.seq _ _ (law13 gl F) ?_
  refine SE.seq _ _ (law14 gl F) ?_
  refine SE.seq _ _ (law15 gl F) ?_
  refine SE.seq _ _ (law16 gl F) ?_
  exact SE.last (law17 gl F) fun _ => h _
end Mine

namespace Mine

section
variable {α : Type}
/-- a strict order, any two alike or in order -/
structure Ltb (lt : α → α → Bool) : Prop where
  irr : ∀ a, lt a a = false
  tr : ∀ a b c, lt a b = true → lt b c = true → lt a c = true
  con : ∀ a b, lt a b = false → lt b a = false → a = b
variable {lt : α → α → Bool}
theorem Ltb.asym (o : Ltb lt) {a b : α} (h : lt a b = true) : lt b a = false := by
  cases hb : lt b a with
  | false => rfl
  | true => have := o.tr a b a h hb; rw [o.irr] at this; cases this
/-- at most -/
noncomputable def Le (lt : α → α → Bool) (a b : α) : Prop := lt b a = false
theorem Ltb.le_trans (o : Ltb lt) {a b c : α} (h1 : Le lt a b) (h2 : Le lt b c) : Le lt a c := by
  unfold Le at *
  cases h : lt c a with
  | false => rfl
  | true =>
    exfalso
    cases hbc : lt b c with
    | true => have := o.tr b c a hbc h; rw [h1] at this; cases this
    | false => have := o.con b c hbc h2; subst this; rw [h] at h1; cases h1
theorem Ltb.le_of_lt (o : Ltb lt) {a b : α} (h : lt a b = true) : Le lt a b := o.asym h

/-- below s in the tree -/
inductive An (s : Nat) : Nat → Prop
  | refl : An s s
  | left {p : Nat} : An s p → An s (2 * p + 1)
  | right {p : Nat} : An s p → An s (2 * p + 2)
theorem An.ge {s c : Nat} (h : An s c) : s ≤ c := by
  induction h with
  | refl => exact Nat.le_refl _
  | left _ ih => omega
  | right _ ih => omega
theorem An.up {s c : Nat} (h : An s c) (hlt : s < c) : An s ((c - 1) / 2) := by
  cases h with
  | refl => omega
  | @left p h => rw [show (2 * p + 1 - 1) / 2 = p by omega]; exact h
  | @right p h => rw [show (2 * p + 2 - 1) / 2 = p by omega]; exact h
theorem An.zero : ∀ c : Nat, An 0 c := fun c => by
  induction c using Nat.strongRecOn with
  | ind c ih =>
    obtain ⟨q, h | h | h⟩ : ∃ q, c = 0 ∨ c = 2 * q + 1 ∨ c = 2 * q + 2 := ⟨(c - 1) / 2, by omega⟩
    · subst h; exact .refl
    · subst h; exact .left (ih q (by omega))
    · subst h; exact .right (ih q (by omega))

noncomputable def Kid (p c : Nat) : Prop := c = 2 * p + 1 ∨ c = 2 * p + 2
theorem Kid.par {p c : Nat} (h : Kid p c) : (c - 1) / 2 = p := by rcases h with q | q <;> omega
theorem Kid.up {p c : Nat} (h : Kid p c) : p < c := by rcases h with q | q <;> omega
theorem Kid.ne {p c : Nat} (h : Kid p c) : c ≠ p := Nat.ne_of_gt h.up
theorem Kid.of {s c : Nat} (h : s < c) : Kid ((c - 1) / 2) c := by unfold Kid; omega
theorem Kid.an {s p c : Nat} (h : Kid p c) (a : An s p) : An s c := by
  rcases h with q | q
  · subst q; exact .left a
  · subst q; exact .right a
/-- a heap from place s on -/
noncomputable def Hp (lt : α → α → Bool) (l : List α) (s : Nat) : Prop := ∀ p c a b, Kid p c → s ≤ p → l[p]? = some a → l[c]? = some b → Le lt a b

/-- all but the hole at pos -/
structure Hole (lt : α → α → Bool) (l : List α) (s pos : Nat) : Prop where
  off : ∀ p c a b, Kid p c → s ≤ p → p ≠ pos → c ≠ pos → l[p]? = some a → l[c]? = some b → Le lt a b
  over : s < pos → ∀ c a b, Kid pos c → l[(pos - 1) / 2]? = some a → l[c]? = some b → Le lt a b

theorem sd_heap (o : Ltb lt) (x : α) : ∀ (k : Nat) (l : List α) (s pos : Nat), pos ≤ k → pos < l.length → An s pos → Hole lt l s pos → (∀ c b, Kid pos c → l[c]? = some b → Le lt x b) → Hp lt (sd lt x l s pos) s := by
  have stop : ∀ (l : List α) (s pos : Nat), pos < l.length → Hole lt l s pos → (∀ c b, Kid pos c → l[c]? = some b → Le lt x b) → (s < pos → ∀ a, l[(pos - 1) / 2]? = some a → Le lt a x) → Hp lt (l.set pos x) s := by
    intro l s pos hp H hx hq p c a b hk hs ha hb
    by_cases h1 : p = pos
    · subst h1
      have hc := hk.ne
      rw [List.getElem?_set_self hp] at ha; cases ha
      rw [List.getElem?_set_ne (Ne.symm hc)] at hb
      exact hx c b hk hb
    · rw [List.getElem?_set_ne (Ne.symm h1)] at ha
      by_cases h2 : c = pos
      · subst h2
        rw [List.getElem?_set_self hp] at hb; cases hb
        exact hq (Nat.lt_of_le_of_lt hs hk.up) a (by rw [hk.par]; exact ha)
      · rw [List.getElem?_set_ne (Ne.symm h2)] at hb
        exact H.off p c a b hk hs h1 h2 ha hb
  intro k
  induction k with
  | zero =>
    intro l s pos hpk hp an H hx
    rw [sd, dif_neg (by omega)]
    exact stop l s pos hp H hx fun h => by omega
  | succ k ih =>
    intro l s pos hpk hp an H hx
    rw [sd]
    by_cases h : s < pos
    · rw [dif_pos h]
      have kq := Kid.of h
      have hq : (pos - 1) / 2 < l.length := Nat.lt_trans kq.up hp
      have eq : l[(pos - 1) / 2]? = some l[(pos - 1) / 2] := List.getElem?_eq_getElem hq
      rw [eq]
      dsimp only
      generalize hpv : l[(pos - 1) / 2] = pv at eq ⊢
      have anq := an.up h
      have sq := anq.ge
      cases hlt : lt x pv with
      | false =>
        rw [if_neg (by decide)]
        exact stop l s pos hp H hx fun _ a ha => by rw [eq] at ha; cases ha; exact hlt
      | true =>
        rw [if_pos rfl]
        refine ih _ _ _ (Nat.le_of_lt_succ (Nat.lt_of_lt_of_le kq.up hpk)) (by rw [List.length_set]; exact hq) anq ⟨?_, ?_⟩ ?_
        · intro p c a b hk hs h1 h2 ha hb
          by_cases h3 : p = pos
          · subst h3
            have hc := hk.ne
            rw [List.getElem?_set_self hp] at ha; cases ha
            rw [List.getElem?_set_ne (Ne.symm hc)] at hb
            exact H.over h c _ b hk eq hb
          · rw [List.getElem?_set_ne (Ne.symm h3)] at ha
            have h4 : c ≠ pos := fun h4 => h1 (by rw [← h4, hk.par])
            rw [List.getElem?_set_ne (Ne.symm h4)] at hb
            exact H.off p c a b hk hs h3 h4 ha hb
        · intro hsq c a b hk ha hb
          have kr := Kid.of hsq
          have h5 : ((pos - 1) / 2 - 1) / 2 ≠ pos := Nat.ne_of_lt (Nat.lt_trans kr.up kq.up)
          rw [List.getElem?_set_ne (Ne.symm h5)] at ha
          have l1 : Le lt a pv := H.off _ _ a pv kr ((anq.up hsq).ge) h5 (Nat.ne_of_lt kq.up) ha eq
          by_cases h6 : c = pos
          · subst h6
            rw [List.getElem?_set_self hp] at hb; cases hb
            exact l1
          · rw [List.getElem?_set_ne (Ne.symm h6)] at hb
            exact o.le_trans l1 (H.off _ c pv b hk sq (Nat.ne_of_lt kq.up) h6 eq hb)
        · intro c b hk hb
          by_cases h6 : c = pos
          · subst h6
            rw [List.getElem?_set_self hp] at hb; cases hb
            exact o.le_of_lt hlt
          · rw [List.getElem?_set_ne (Ne.symm h6)] at hb
            exact o.le_trans (o.le_of_lt hlt) (H.off _ c pv b hk sq (Nat.ne_of_lt kq.up) h6 eq hb)
    · rw [dif_neg h]
      exact stop l s pos hp H hx fun h' => absurd h' h
end
end Mine

namespace Mine

section
variable {α : Type} {lt : α → α → Bool}
theorem child_kid (l : List α) (pos : Nat) : Kid pos (child lt l pos) := by
  unfold child Kid; split
  · split <;> omega
  · omega
theorem child_least (o : Ltb lt) {l : List α} {pos d : Nat} {y b : α} (hy : l[child lt l pos]? = some y) (hk : Kid pos d) (hne : d ≠ child lt l pos) (hb : l[d]? = some b) : Le lt y b := by
  unfold child at hy hne
  split at hy
  · rename_i p q h1 h2
    rw [h1, h2] at hne
    dsimp only at hne
    split at hy
    · rename_i h
      rw [if_pos h] at hne
      have : d = 2 * pos + 2 := by rcases hk with z | z <;> omega
      subst this
      rw [h1] at hy; cases hy
      rw [h2] at hb; cases hb
      exact o.le_of_lt h
    · rename_i h
      rw [if_neg h] at hne
      have : d = 2 * pos + 1 := by rcases hk with z | z <;> omega
      subst this
      rw [h2] at hy; cases hy
      rw [h1] at hb; cases hb
      exact by unfold Le; simpa using h
  · rename_i hno
    have hd : d = 2 * pos + 2 := by
      rcases hk with z | z
      · exfalso
        apply hne
        split
        · rename_i p q h1 h2; exact (hno p q h1 h2).elim
        · exact z
      · exact z
    subst hd
    exact (hno y b hy hb).elim

theorem su_hole (o : Ltb lt) : ∀ (k : Nat) (l : List α) (s pos : Nat), l.length - pos ≤ k → pos < l.length → An s pos → Hole lt l s pos →
    Hole lt (su lt l pos).1 s (su lt l pos).2 ∧ An s (su lt l pos).2 ∧ ¬ 2 * (su lt l pos).2 + 1 < (su lt l pos).1.length := by
  intro k
  induction k with
  | zero => intro l s pos h hp; omega
  | succ k ih =>
    intro l s pos h hp an H
    rw [su]
    split
    · rename_i hc
      have h1 := child_lt lt l pos hc
      have hk := child_kid (lt := lt) l pos
      have ey := List.getElem?_eq_getElem h1
      rw [ey]
      dsimp only
      have least : ∀ d b, Kid pos d → d ≠ child lt l pos → l[d]? = some b → Le lt l[child lt l pos] b := fun d b hkd hne hb => child_least o ey hkd hne hb
      generalize hyv : l[child lt l pos] = y at ey least ⊢
      generalize hcv : child lt l pos = c at *
      have anc : An s c := hk.an an
      refine ih (l.set pos y) s c (by rw [List.length_set]; exact Nat.le_of_lt_succ (Nat.lt_of_lt_of_le (Nat.sub_lt_sub_left hp hk.up) h)) (by rw [List.length_set]; exact h1) anc ⟨?_, ?_⟩
      · intro p d a b hkd hs h2 h3 ha hb
        by_cases h4 : p = pos
        · subst h4
          rw [List.getElem?_set_self hp] at ha; cases ha
          have hd := hkd.ne
          rw [List.getElem?_set_ne (Ne.symm hd)] at hb
          exact least d b hkd h3 hb
        · rw [List.getElem?_set_ne (Ne.symm h4)] at ha
          by_cases h5 : d = pos
          · subst h5
            rw [List.getElem?_set_self hp] at hb; cases hb
            exact H.over (Nat.lt_of_le_of_lt hs hkd.up) c a y hk (by rw [hkd.par]; exact ha) ey
          · rw [List.getElem?_set_ne (Ne.symm h5)] at hb
            exact H.off p d a b hkd hs h4 h5 ha hb
      · intro hsc e a b hke ha hb
        rw [hk.par, List.getElem?_set_self hp] at ha; cases ha
        have he : e ≠ pos := Nat.ne_of_gt (Nat.lt_trans hk.up hke.up)
        rw [List.getElem?_set_ne (Ne.symm he)] at hb
        exact H.off c e y b hke (Nat.le_trans an.ge (Nat.le_of_lt hk.up)) hk.ne he ey hb
    · rename_i hc
      exact ⟨H, an, hc⟩

theorem sup_heap (o : Ltb lt) {l : List α} {pos : Nat} {x : α} (hp : pos < l.length) (H : Hp lt l (pos + 1)) : Hp lt (sup lt l pos x) pos := by
  have h0 : Hole lt l pos pos := ⟨fun p c a b hk hs h1 h2 ha hb => H p c a b hk (by omega) ha hb, fun h => by omega⟩
  obtain ⟨h1, an, leaf⟩ := su_hole o _ l pos pos (Nat.le_refl _) hp .refl h0
  obtain ⟨hl, hlt⟩ := su_props lt _ l pos (Nat.le_refl _) hp
  unfold sup
  generalize (su lt l pos).1 = l' at *
  generalize (su lt l pos).2 = q at *
  refine sd_heap o x q _ pos q (Nat.le_refl _) (by rw [List.length_set]; omega) an ⟨?_, ?_⟩ ?_
  · intro p c a b hk hs h2 h3 ha hb
    rw [List.getElem?_set_ne (Ne.symm h2)] at ha
    rw [List.getElem?_set_ne (Ne.symm h3)] at hb
    exact h1.off p c a b hk hs h2 h3 ha hb
  · intro hsq c a b hk ha hb
    have hc := hk.ne
    rw [List.getElem?_set_ne (Ne.symm hc)] at hb
    have := (List.getElem?_eq_some_iff.mp hb).1
    rcases hk with z | z <;> omega
  · intro c b hk hb
    have hc := hk.ne
    rw [List.getElem?_set_ne (Ne.symm hc)] at hb
    have := (List.getElem?_eq_some_iff.mp hb).1
    rcases hk with z | z <;> omega

theorem hfy_heap (o : Ltb lt) : ∀ (k : Nat) (l : List α), k ≤ l.length → Hp lt l k → Hp lt (hfy lt l k) 0
  | 0, l, _, H => H
  | k + 1, l, hk, H => by
    have hk' : k < l.length := hk
    rw [hfy, List.getElem?_eq_getElem hk']
    dsimp only
    exact hfy_heap o k _ (by rw [sup_length lt l k _ hk']; omega) (sup_heap o hk' H)
theorem root_least (o : Ltb lt) {l : List α} (H : Hp lt l 0) {a : α} (ha : l[0]? = some a) : ∀ (c : Nat) (b : α), l[c]? = some b → Le lt a b := by
  intro c
  induction c using Nat.strongRecOn with
  | ind c ih =>
    intro b hb
    by_cases h : c = 0
    · subst h; rw [ha] at hb; cases hb; exact o.irr a
    · have hlt : (c - 1) / 2 < c := (Kid.of (Nat.pos_of_ne_zero h)).up
      have hq : (c - 1) / 2 < l.length := Nat.lt_trans hlt (List.getElem?_eq_some_iff.mp hb).1
      exact o.le_trans (ih _ hlt _ (List.getElem?_eq_getElem hq)) (H ((c - 1) / 2) c _ b (Kid.of (Nat.pos_of_ne_zero h)) (Nat.zero_le _) (List.getElem?_eq_getElem hq) hb)
theorem hpop_heap (o : Ltb lt) {l : List α} {x : α} (H : Hp lt (l ++ [x]) 0) : (∀ b ∈ l ++ [x], Le lt (hpop lt l x).1 b) ∧ Hp lt (hpop lt l x).2 0 := by
  cases l with
  | nil =>
    refine ⟨fun b hb => ?_, fun p c a b hk hs ha hb => ?_⟩
    · have : b = x := by simpa using hb
      subst this; exact o.irr b
    · have ha' : ([] : List α)[p]? = some a := ha
      simp at ha'
  | cons y r =>
    refine ⟨fun b hb => ?_, ?_⟩
    · obtain ⟨c, hc⟩ := List.getElem?_of_mem hb
      exact root_least o H (a := y) rfl c b hc
    · refine sup_heap o (l := x :: r) (by simp) fun p c a b hk hs ha hb => ?_
      have hp : p < r.length + 1 := by have := (List.getElem?_eq_some_iff.mp ha).1; simpa using this
      have hc : c < r.length + 1 := by have := (List.getElem?_eq_some_iff.mp hb).1; simpa using this
      refine H p c a b hk (Nat.zero_le _) ?_ ?_
      · rw [List.getElem?_append_left (by simpa using hp)]
        obtain ⟨p', rfl⟩ : ∃ p', p = p' + 1 := ⟨p - 1, by omega⟩
        simpa using ha
      · rw [List.getElem?_append_left (by simpa using hc)]
        obtain ⟨c', rfl⟩ : ∃ c', c = c' + 1 := ⟨c - 1, by rcases hk with z | z <;> omega⟩
        simpa using hb
theorem offs_sorted (o : Ltb lt) : ∀ (k : Nat) (l : List α), l.length = k → Hp lt l 0 → (offs lt k l).Pairwise (Le lt)
  | 0, l, _, _ => by rw [offs]; exact .nil
  | k + 1, l, h, H => by
    have hne : l ≠ [] := by intro q; subst q; cases h
    rw [offs, List.getLast?_eq_some_getLast hne]
    dsimp only
    have el := List.dropLast_concat_getLast hne
    rw [← el] at H
    obtain ⟨h1, h2⟩ := hpop_heap o H
    have hp := hpop_perm lt l.dropLast (l.getLast hne)
    have hl := hp.length_eq
    rw [List.length_cons, List.length_append, List.length_dropLast, List.length_singleton] at hl
    refine List.pairwise_cons.mpr ⟨fun b hb => h1 b ?_, offs_sorted o k _ (by omega) h2⟩
    have := (offs_perm lt k _ (show (hpop lt l.dropLast (l.getLast hne)).2.length = k by omega)).mem_iff.mp hb
    exact hp.mem_iff.mp (.tail _ this)
theorem puts_heap (o : Ltb lt) : ∀ (r l : List α), Hp lt l 0 → Hp lt (puts lt l r) 0
  | [], l, H => H
  | x :: r, l, H => by
    rw [puts]
    refine puts_heap o r _ (sd_heap o x l.length _ 0 l.length (Nat.le_refl _) (by simp) (An.zero _) ⟨?_, ?_⟩ ?_)
    · intro p c a b hk hs h1 h2 ha hb
      have hp := (List.getElem?_eq_some_iff.mp ha).1
      have hc := (List.getElem?_eq_some_iff.mp hb).1
      rw [List.length_append, List.length_singleton] at hp hc
      rw [List.getElem?_append_left (by omega)] at ha hb
      exact H p c a b hk hs ha hb
    · intro _ c a b hk ha hb
      have hc := (List.getElem?_eq_some_iff.mp hb).1
      rw [List.length_append, List.length_singleton] at hc
      rcases hk with z | z <;> omega
    · intro c b hk hb
      have hc := (List.getElem?_eq_some_iff.mp hb).1
      rw [List.length_append, List.length_singleton] at hc
      rcases hk with z | z <;> omega
/-- heapify and take off -/
theorem sort_hfy (o : Ltb lt) (l : List α) : (offs lt l.length (hfy lt l (l.length / 2))).Pairwise (Le lt) ∧ (offs lt l.length (hfy lt l (l.length / 2))).Perm l := by
  have hp := hfy_perm lt (l.length / 2) l
  refine ⟨offs_sorted o _ _ hp.length_eq (hfy_heap o _ l (by omega) fun p c a b hk hs ha hb => ?_), (offs_perm lt _ _ hp.length_eq).trans hp⟩
  have hc := (List.getElem?_eq_some_iff.mp hb).1
  rcases hk with z | z <;> omega
/-- push and take off -/
theorem sort_puts (o : Ltb lt) (l : List α) : (offs lt l.length (puts lt [] l)).Pairwise (Le lt) ∧ (offs lt l.length (puts lt [] l)).Perm l := by
  have hp := puts_perm lt l []
  rw [List.nil_append] at hp
  refine ⟨offs_sorted o _ _ hp.length_eq (puts_heap o l [] fun p c a b hk hs ha hb => ?_), (offs_perm lt _ _ hp.length_eq).trans hp⟩
  simp at ha
end
end Mine

namespace Mine
open PySem

noncomputable def ch (d : Nat) : UInt8 := (65 + d).toUInt8
theorem ap_eq (n : Nat) : ap n = (digs n).map ch := rfl
theorem ch_nat {d : Nat} (h : d < 16) : (ch d).toNat = 65 + d := by
  show ((65 + d).toUInt8).toNat = 65 + d
  simp; omega
theorem ch_lt {x y : Nat} (hx : x < 16) (hy : y < 16) : (ch x < ch y) ↔ x < y := by
  rw [UInt8.lt_iff_toNat_lt, ch_nat hx, ch_nat hy]; omega

/-- the order of figures behind a point -/
noncomputable def dl : List Nat → List Nat → Bool
  | [], [] => false
  | [], _ :: _ => true
  | _ :: _, [] => false
  | x :: xs, y :: ys => if x < y then true else if y < x then false else dl xs ys
theorem blt_map : ∀ xs ys : List Nat, (∀ d ∈ xs, d < 16) → (∀ d ∈ ys, d < 16) → blt (xs.map ch) (ys.map ch) = dl xs ys
  | [], [], _, _ => rfl
  | [], _ :: _, _, _ => rfl
  | _ :: _, [], _, _ => rfl
  | x :: xs, y :: ys, h1, h2 => by
    have ih := blt_map xs ys (fun d hd => h1 d (.tail _ hd)) (fun d hd => h2 d (.tail _ hd))
    have hx := h1 x (.head _)
    have hy := h2 y (.head _)
    unfold blt at ih ⊢
    rw [List.map_cons, List.map_cons, Builtin.Bytes.order, dl]
    by_cases a : x < y
    · rw [if_pos ((ch_lt hx hy).mpr a), if_pos a]; rfl
    · rw [if_neg fun q => a ((ch_lt hx hy).mp q), if_neg a]
      by_cases b : y < x
      · rw [if_pos b]
        first
        | rw [if_pos ((ch_lt hy hx).mpr b)]; rfl
        | (rw [if_pos (show ch x > ch y from (ch_lt hy hx).mpr b)]; rfl)
      · rw [if_neg b]
        first
        | rw [if_neg fun q => b ((ch_lt hy hx).mp q)]; exact ih
        | (rw [if_neg (show ¬ ch x > ch y from fun q => b ((ch_lt hy hx).mp q))]; exact ih)

theorem dif_cons (x y : Nat) (xs ys : List Nat) (h : x = y) : dif (x :: xs) (y :: ys) = dif xs ys := by
  unfold dif
  rw [List.zip_cons_cons, List.flatMap_cons]
  dsimp only
  rw [if_pos h, List.nil_append, List.length_cons, List.length_cons]
  congr 2; omega
theorem dif_ne (x y : Nat) (xs ys : List Nat) (h : x ≠ y) : (dif (x :: xs) (y :: ys)).headD 0 = (x : Int) - y := by
  unfold dif
  rw [List.zip_cons_cons, List.flatMap_cons]
  dsimp only
  rw [if_neg h]; rfl
theorem sgn_neg {xs ys : List Nat} {d : Int} (h : (dif xs ys).headD 0 = d) (hd : d < 0) : sgn xs ys = -1 := by
  unfold sgn; rw [h, if_neg (by omega), if_pos hd]
theorem sgn_pos {xs ys : List Nat} {d : Int} (h : (dif xs ys).headD 0 = d) (hd : 0 < d) : sgn xs ys = 1 := by
  unfold sgn; rw [h, if_neg (by omega), if_neg (by omega)]
theorem sgn_dl : ∀ xs ys : List Nat, ((if dl ys xs then 1 else 0) - (if dl xs ys then 1 else 0) : Int) = sgn xs ys
  | [], [] => rfl
  | [], y :: ys => by
    rw [sgn_neg (d := (0 : Int) - (ys.length + 1 : Nat)) rfl (by omega)]; rfl
  | x :: xs, [] => by
    rw [sgn_pos (d := ((xs.length + 1 : Nat) : Int) - (0 : Nat)) (by unfold dif; simp) (by omega)]; rfl
  | x :: xs, y :: ys => by
    have ih := sgn_dl xs ys
    by_cases h : x = y
    · unfold sgn at ih ⊢
      rw [dif_cons x y xs ys h, ← ih]
      subst h
      simp only [dl, Nat.lt_irrefl, if_false]
    · by_cases a : x < y
      · have b : ¬ y < x := by omega
        rw [sgn_neg (dif_ne x y xs ys h) (by omega)]
        simp only [dl, a, b, if_true, if_false]; decide
      · have b : y < x := by omega
        rw [sgn_pos (dif_ne x y xs ys h) (by omega)]
        simp only [dl, a, b, if_true, if_false]; decide
theorem told_sgn (a b : Nat) : toldI (ap a) (ap b) = sgn (digs a) (digs b) := by
  unfold toldI
  rw [ap_eq, ap_eq, blt_map _ _ (digs_lt b) (digs_lt a), blt_map _ _ (digs_lt a) (digs_lt b)]
  exact sgn_dl _ _

/-- the number of figures -/
noncomputable def val : List Nat → Nat
  | [] => 0
  | x :: xs => x * 16 ^ xs.length + val xs
theorem val_append (xs : List Nat) (d : Nat) : val (xs ++ [d]) = 16 * val xs + d := by
  induction xs with
  | nil => simp [val]
  | cons x xs ih =>
    rw [List.cons_append, val, val, ih, List.length_append, List.length_singleton, Nat.pow_succ, Nat.mul_add, ← Nat.add_assoc]
    congr 2
    rw [← Nat.mul_assoc, Nat.mul_comm (x * 16 ^ xs.length) 16]
theorem val_lt : ∀ xs : List Nat, (∀ d ∈ xs, d < 16) → val xs < 16 ^ xs.length
  | [], _ => by simp [val]
  | x :: xs, h => by
    have ih := val_lt xs fun d hd => h d (.tail _ hd)
    have hx := h x (.head _)
    rw [val, List.length_cons, Nat.pow_succ]
    have : x * 16 ^ xs.length ≤ 15 * 16 ^ xs.length := Nat.mul_le_mul_right _ (by omega)
    omega
theorem val_digs (n : Nat) : val (digs n) = n := by
  induction n using Nat.strongRecOn with
  | ind n ih =>
    by_cases h : n = 0
    · subst h; rw [digs_zero]; rfl
    · rw [digs_pos h, val_append, ih (n / 16) (by omega)]; omega
theorem digs_inj {a b : Nat} (h : digs a = digs b) : a = b := by rw [← val_digs a, h, val_digs]
theorem lt_digs (n : Nat) : n < 16 ^ (digs n).length := by
  have := val_lt _ (digs_lt n)
  rwa [val_digs] at this
theorem dl_same : ∀ xs ys : List Nat, (∀ d ∈ xs, d < 16) → (∀ d ∈ ys, d < 16) → xs.length = ys.length → dl xs ys = decide (val xs < val ys)
  | [], [], _, _, _ => rfl
  | [], _ :: _, _, _, h => by cases h
  | _ :: _, [], _, _, h => by cases h
  | x :: xs, y :: ys, h1, h2, h => by
    have hl : xs.length = ys.length := by simpa using h
    have ih := dl_same xs ys (fun d hd => h1 d (.tail _ hd)) (fun d hd => h2 d (.tail _ hd)) hl
    have v1 := val_lt xs fun d hd => h1 d (.tail _ hd)
    have v2 := val_lt ys fun d hd => h2 d (.tail _ hd)
    rw [dl, val, val, hl]
    rw [hl] at v1
    generalize 16 ^ ys.length = P at *
    by_cases a : x < y
    · rw [if_pos a]
      have : (x + 1) * P ≤ y * P := Nat.mul_le_mul_right _ a
      rw [Nat.add_mul, Nat.one_mul] at this
      rw [decide_eq_true (by omega)]
    · rw [if_neg a]
      by_cases b : y < x
      · rw [if_pos b]
        have : (y + 1) * P ≤ x * P := Nat.mul_le_mul_right _ b
        rw [Nat.add_mul, Nat.one_mul] at this
        rw [decide_eq_false (by omega)]
      · rw [if_neg b, ih, decide_eq_decide]
        have : x = y := by omega
        subst this; omega
theorem dl_front : ∀ (u v r : List Nat), u.length = v.length → dl (u ++ r) v = dl u v
  | [], [], [], _ => rfl
  | [], [], _ :: _, _ => rfl
  | [], _ :: _, _, h => by cases h
  | _ :: _, [], _, h => by cases h
  | x :: u, y :: v, r, h => by
    rw [List.cons_append, dl, dl, dl_front u v r (by simpa using h)]
theorem digs_front : ∀ (k l : Nat), k ≤ (digs l).length → ∃ r, digs l = digs (l / 16 ^ k) ++ r ∧ r.length = k
  | 0, l, _ => ⟨[], by simp, rfl⟩
  | k + 1, l, h => by
    have hl : l ≠ 0 := by intro q; subst q; rw [digs_zero] at h; cases h
    rw [digs_pos hl, List.length_append, List.length_singleton] at h
    obtain ⟨r, h1, h2⟩ := digs_front k (l / 16) (by omega)
    refine ⟨r ++ [l % 16], ?_, by rw [List.length_append, List.length_singleton, h2]⟩
    rw [digs_pos hl, h1, List.append_assoc]
    congr 2
    rw [Nat.pow_succ, Nat.mul_comm, ← Nat.div_div_eq_div_mul]

/-- the order of the writings -/
noncomputable def flt (a b : Nat) : Bool := blt (ap a) (ap b)
theorem flt_dl (a b : Nat) : flt a b = dl (digs a) (digs b) := blt_map _ _ (digs_lt a) (digs_lt b)
theorem tn_flt (a b : Nat) : tn a b = flt (max a b) (min a b) := by
  unfold tn
  rw [flt_dl]
  have hsl : min a b ≤ max a b := by omega
  generalize max a b = l at *
  generalize min a b = s at *
  have hm := digs_mono _ s l (Nat.le_refl _) hsl
  obtain ⟨r, h1, h2⟩ := digs_front ((digs l).length - (digs s).length) l (by omega)
  have h3 := congrArg List.length h1
  rw [List.length_append, h2] at h3
  generalize hf : l / 16 ^ ((digs l).length - (digs s).length) = f at *
  have h4 : (digs f).length = (digs s).length := by omega
  rw [h1, dl_front _ _ _ h4, dl_same _ _ (digs_lt f) (digs_lt s) h4, val_digs, val_digs]

theorem blt_trans (x y z : List UInt8) (h1 : blt x y = true) (h2 : blt y z = true) : blt x z = true := by
  have key : ∀ x y z : List UInt8, Builtin.Bytes.order x y = .lt → Builtin.Bytes.order y z = .lt → Builtin.Bytes.order x z = .lt := by
    intro x
    induction x with
    | nil =>
      intro y z h1 h2
      cases y with
      | nil => cases h1
      | cons b y => cases z with
        | nil => cases h2
        | cons c z => rfl
    | cons a x ih =>
      intro y z h1 h2
      cases y with
      | nil => cases h1
      | cons b y =>
        cases z with
        | nil => cases h2
        | cons c z =>
          rw [Builtin.Bytes.order] at h1 h2 ⊢
          by_cases p : a < b
          · by_cases q : b < c
            · rw [if_pos (UInt8.lt_trans p q)]
            · rw [if_neg q] at h2
              by_cases q' : c < b
              · have q'' : b > c := q'
                rw [if_pos q''] at h2; cases h2
              · have : b = c := by
                  have h := UInt8.lt_or_lt_of_ne (a := b) (b := c)
                  exact Classical.byContradiction fun hne => (h hne).elim q q'
                subst this; rw [if_pos p]
          · rw [if_neg p] at h1
            by_cases p' : b < a
            · have p'' : a > b := p'
              rw [if_pos p''] at h1; cases h1
            · have : a = b := by
                have h := UInt8.lt_or_lt_of_ne (a := a) (b := b)
                exact Classical.byContradiction fun hne => (h hne).elim p p'
              subst this
              rw [if_neg p'] at h1
              by_cases q : a < c
              · rw [if_pos q]
              · rw [if_neg q] at h2 ⊢
                by_cases q' : a > c
                · rw [if_pos q'] at h2; cases h2
                · rw [if_neg q'] at h2 ⊢
                  exact ih y z h1 h2
  unfold blt at *
  rw [key x y z (eq_of_beq h1) (eq_of_beq h2)]; rfl
theorem ap_inj {a b : Nat} (h : ap a = ap b) : a = b := by
  apply digs_inj
  rw [ap_eq, ap_eq] at h
  have : ((digs a).map ch).map (fun c => c.toNat - 65) = ((digs b).map ch).map (fun c => c.toNat - 65) := by rw [h]
  rw [List.map_map, List.map_map] at this
  have e : ∀ n, (digs n).map ((fun c : UInt8 => c.toNat - 65) ∘ ch) = digs n := fun n => by
    conv => rhs; rw [← List.map_id (digs n)]
    apply List.map_congr_left
    intro d hd
    show (ch d).toNat - 65 = d
    rw [ch_nat (digs_lt n d hd)]; omega
  rwa [e, e] at this
theorem fltO : Ltb flt := ⟨fun a => blt_irrefl _, fun a b c h1 h2 => blt_trans _ _ _ h1 h2, fun a b h1 h2 => ap_inj (blt_tri h1 h2)⟩
noncomputable def nlt (a b : Nat) : Bool := decide (a < b)
theorem nltO : Ltb nlt := ⟨fun a => by simp [nlt], fun a b c h1 h2 => by simp [nlt] at *; omega, fun a b h1 h2 => by simp [nlt] at *; omega⟩
theorem plt_nlt (a b : Nat) : pltP ((ap a).length, ap a) ((ap b).length, ap b) = nlt a b := by
  unfold pltP plt nlt
  have e : ∀ n, (ap n).length = (digs n).length := fun n => List.length_map ..
  dsimp only
  by_cases h : (ap a).length = (ap b).length
  · rw [if_pos (by rw [h])]
    rw [e, e] at h
    show flt a b = _
    rw [flt_dl, dl_same _ _ (digs_lt a) (digs_lt b) h, val_digs, val_digs]
  · rw [if_neg (by omega), decide_eq_decide]
    rw [e, e] at h ⊢
    constructor
    · intro q
      rcases Nat.lt_or_ge a b with z | z
      · exact z
      · have := digs_mono _ b a (Nat.le_refl _) z; omega
    · intro q
      have := digs_mono _ a b (Nat.le_refl _) (by omega); omega
theorem turned_eq (a b : Nat) : (flt a b != nlt a b) = tn a b := by
  rw [tn_flt]
  unfold nlt
  rcases Nat.lt_trichotomy a b with h | h | h
  · rw [decide_eq_true h, show max a b = b by omega, show min a b = a by omega]
    cases h1 : flt a b with
    | true => rw [fltO.asym h1]; rfl
    | false =>
      cases h2 : flt b a with
      | true => rfl
      | false => have := fltO.con a b h1 h2; omega
  · subst h
    rw [Nat.max_self, Nat.min_self, fltO.irr]; simp
  · rw [decide_eq_false (by omega), show max a b = a by omega, show min a b = b by omega]
    simp
theorem top_flt {b : Nat} (h : b < 2 ^ 40) : flt (2 ^ 40 - 1) b = false := by
  have h1 := tn_flt (2 ^ 40 - 1) b
  rw [show max (2 ^ 40 - 1) b = 2 ^ 40 - 1 by omega, show min (2 ^ 40 - 1) b = b by omega] at h1
  rw [← h1]
  unfold tn
  rw [show max (2 ^ 40 - 1) b = 2 ^ 40 - 1 by omega, show min (2 ^ 40 - 1) b = b by omega]
  have hM := digs_length (2 ^ 40 - 1) 10 (by decide)
  have hm := digs_mono _ b (2 ^ 40 - 1) (Nat.le_refl _) (by omega)
  have hb := lt_digs b
  rw [decide_eq_false_iff_not, Nat.not_lt, Nat.le_div_iff_mul_le (Nat.pow_pos (by decide))]
  generalize hk : (digs (2 ^ 40 - 1)).length - (digs b).length = k
  have hp : b * 16 ^ k < 16 ^ (digs b).length * 16 ^ k := Nat.mul_lt_mul_of_pos_right hb (Nat.pow_pos (by decide))
  rw [← Nat.pow_add] at hp
  have hq : 16 ^ ((digs b).length + k) ≤ 16 ^ 10 := Nat.pow_le_pow_right (by decide) (by omega)
  have hr : (16 : Nat) ^ 10 = 2 ^ 40 := by decide
  omega
end Mine

namespace Mine
open PySem

theorem idxOf_map {α β : Type} [BEq α] [LawfulBEq α] [BEq β] [LawfulBEq β] (g : α → β) (a : α) : ∀ l : List α, (∀ x ∈ l, g x = g a → x = a) → (l.map g).idxOf (g a) = l.idxOf a
  | [], _ => rfl
  | x :: l, h => by
    rw [List.map_cons, List.idxOf_cons, List.idxOf_cons, idxOf_map g a l fun y hy => h y (.tail _ hy)]
    have e : (g x == g a) = (x == a) := by
      rw [Bool.eq_iff_iff, beq_iff_eq, beq_iff_eq]
      exact ⟨h x (.head _), fun q => by rw [q]⟩
    rw [e]
/-- places in a row tell the order -/
theorem idx_lt {α : Type} [BEq α] [LawfulBEq α] {R : α → α → Bool} (o : Ltb R) {l : List α} (hp : l.Pairwise fun a b => R a b = true) {a b : α} (ha : a ∈ l) (hb : b ∈ l) : decide (l.idxOf a < l.idxOf b) = R a b := by
  have h1 := List.idxOf_lt_length_of_mem ha
  have h2 := List.idxOf_lt_length_of_mem hb
  have e1 : l[l.idxOf a] = a := List.getElem_idxOf h1
  have e2 : l[l.idxOf b] = b := List.getElem_idxOf h2
  have pw := List.pairwise_iff_getElem.mp hp
  rcases Nat.lt_trichotomy (l.idxOf a) (l.idxOf b) with h | h | h
  · rw [decide_eq_true h]
    have := pw _ _ h1 h2 h
    rw [e1, e2] at this
    exact this.symm
  · rw [decide_eq_false (by omega)]
    have : a = b := by
      rw [← e1, ← e2]; congr 1
    subst this; exact (o.irr a).symm
  · rw [decide_eq_false (by omega)]
    have := pw _ _ h2 h1 h
    rw [e1, e2] at this
    exact (o.asym this).symm
theorem strict {α : Type} {R : α → α → Bool} (o : Ltb R) {l : List α} (hp : l.Pairwise (Le R)) (nd : l.Nodup) : l.Pairwise fun a b => R a b = true := by
  refine (hp.and nd).imp fun {a b} h => ?_
  cases hab : R a b with
  | true => rfl
  | false => exact absurd (o.con a b hab h.1) h.2
theorem sorted_one : ∀ {l m : List Int}, l.Perm m → l.Pairwise (· ≤ ·) → m.Pairwise (· ≤ ·) → l = m
  | [], m, hp, _, _ => (List.nil_perm.mp hp).symm
  | x :: l, [], hp, _, _ => by have := hp.length_eq; simp at this
  | x :: l, y :: m, hp, h1, h2 => by
    have h1' := List.pairwise_cons.mp h1
    have h2' := List.pairwise_cons.mp h2
    have hxy : x = y := by
      have hx : x ∈ y :: m := hp.mem_iff.mp (.head _)
      have hy : y ∈ x :: l := hp.mem_iff.mpr (.head _)
      rcases List.mem_cons.mp hx with q | q
      · exact q
      · rcases List.mem_cons.mp hy with q' | q'
        · exact q'.symm
        · have := h2'.1 x q; have := h1'.1 y q'; omega
    subst hxy
    rw [sorted_one (List.Perm.cons_inv hp) h1'.2 h2'.2]

theorem mg_filter : ∀ (xs : List (List UInt8)) (p : List UInt8 → Bool), (xs.Pairwise fun a b => blt a b = true) → mg xs (xs.filter p) = (xs.filter fun t => !p t, []) ∧ mg (xs.filter p) xs = ([], xs.filter fun t => !p t)
  | [], p, _ => by simp [mg]
  | x :: xs, p, h => by
    have h' := List.pairwise_cons.mp h
    obtain ⟨i1, i2⟩ := mg_filter xs p h'.2
    rw [List.filter_cons, List.filter_cons]
    cases hx : p x with
    | true =>
      simp only [Bool.not_true, if_true, Bool.false_eq_true, if_false]
      constructor
      · rw [mg, blt_irrefl, if_neg (by decide), if_neg (by decide)]; exact i1
      · rw [mg, blt_irrefl, if_neg (by decide), if_neg (by decide)]; exact i2
    | false =>
      simp only [Bool.not_false, if_true, Bool.false_eq_true, if_false]
      cases hf : xs.filter p with
      | nil =>
        rw [hf] at i1 i2
        have e : xs.filter (fun t => !p t) = xs := by
          rw [List.filter_eq_self]
          intro t ht
          have := List.filter_eq_nil_iff.mp hf t ht
          simpa using this
        rw [e]
        exact ⟨by rw [mg]; simp, by rw [mg]; simp⟩
      | cons y ys =>
        have hy : y ∈ xs := (List.mem_filter.mp (by rw [hf]; exact .head _)).1
        have hb := h'.1 y hy
        rw [hf] at i1 i2
        constructor
        · rw [mg, if_pos hb, i1]
        · rw [mg, if_neg (by rw [blt_asymm hb]; decide), if_pos hb, i2]

section
variable {ns : List Nat}
noncomputable def rsN (ns : List Nat) : List Nat := offs nlt ns.length (hfy nlt ns (ns.length / 2))
noncomputable def plN (ns : List Nat) : List Nat := offs flt ns.length (puts flt [] ns)
theorem pls_eq (ns : List Nat) : pls ns = (plN ns).map ap := by
  unfold pls plN txs
  have h1 := puts_map (lt := flt) (lt' := blt) (f := ap) (fun _ _ => rfl) ns []
  rw [List.map_nil] at h1
  rw [h1, offs_map (lt := flt) (lt' := blt) (f := ap) (fun _ _ => rfl)]
theorem ris_eq (ns : List Nat) : ris ns = (rsN ns).map ap := by
  unfold ris rsN txs
  have e : (ns.map ap).map (fun t => (t.length, t)) = ns.map fun m => ((ap m).length, ap m) := by rw [List.map_map]; rfl
  rw [e, hfy_map (lt := nlt) (lt' := pltP) (f := fun m => ((ap m).length, ap m)) plt_nlt, offs_map (lt := nlt) (lt' := pltP) (f := fun m => ((ap m).length, ap m)) plt_nlt, List.map_map]
  rfl
theorem idx_ap (ns : List Nat) (m : Nat) : (txs ns).idxOf (ap m) = ns.idxOf m := idxOf_map ap m ns fun x _ h => ap_inj h
theorem ps0_eq (ns : List Nat) : ps0 ns = (plN ns).map fun m => ns.idxOf m := by
  unfold ps0
  rw [pls_eq, List.map_map]
  apply List.map_congr_left
  intro m _
  exact idx_ap ns m
theorem ps1_eq (ns : List Nat) : ps1 ns = (rsN ns).map fun m => ns.idxOf m := by
  unfold ps1
  rw [ris_eq, List.map_map]
  apply List.map_congr_left
  intro m _
  exact idx_ap ns m
theorem getD_idx {m : Nat} (h : m ∈ ns) : ns.getD (ns.idxOf m) 0 = m := by
  have hl := List.idxOf_lt_length_of_mem h
  rw [List.getD_eq_getElem?_getD, List.getElem?_eq_getElem hl]
  exact List.getElem_idxOf hl
theorem idx_getD (nd : ns.Nodup) {j : Nat} (h : j < ns.length) : ns.idxOf (ns.getD j 0) = j := by
  rw [List.getD_eq_getElem?_getD, List.getElem?_eq_getElem h]
  exact nd.idxOf_getElem j h
theorem idx_row {row : List Nat} (nd : ns.Nodup) (hp : row.Perm ns) {j : Nat} (h : j < ns.length) : (row.map fun m => ns.idxOf m).idxOf j = row.idxOf (ns.getD j 0) := by
  have := idxOf_map (fun m => ns.idxOf m) (ns.getD j 0) row fun x hx e => by
    have hx' := hp.mem_iff.mp hx
    have e' : ns.idxOf x = ns.idxOf (ns.getD j 0) := e
    rw [← getD_idx hx', e', idx_getD nd h]
  rwa [idx_getD nd h] at this
theorem befo_row {row : List Nat} {R : Nat → Nat → Bool} (o : Ltb R) (nd : ns.Nodup) (hp : row.Perm ns) (hs : row.Pairwise (Le R)) {j k : Nat} (hj : j < ns.length) (hk : k < ns.length) :
    befo (row.map fun m => ns.idxOf m) (j, k) = R (ns.getD j 0) (ns.getD k 0) := by
  unfold befo
  dsimp only
  rw [idx_row nd hp hj, idx_row nd hp hk]
  exact idx_lt o (strict o hs (hp.nodup_iff.mpr nd)) (hp.mem_iff.mpr (getD_mem' hj)) (hp.mem_iff.mpr (getD_mem' hk))
where
  getD_mem' {k : Nat} (h : k < ns.length) : ns.getD k 0 ∈ ns := by
    rw [List.getD_eq_getElem?_getD, List.getElem?_eq_getElem h]; exact List.getElem_mem h
theorem getD_in {k : Nat} (h : k < ns.length) : ns.getD k 0 ∈ ns := by
  rw [List.getD_eq_getElem?_getD, List.getElem?_eq_getElem h]; exact List.getElem_mem h
theorem txs_getD {k : Nat} (h : k < ns.length) : (txs ns).getD k [] = ap (ns.getD k 0) := by
  have h' : k < (ns.map ap).length := by rw [List.length_map]; exact h
  unfold txs
  rw [List.getD_eq_getElem?_getD, List.getD_eq_getElem?_getD, List.getElem?_eq_getElem h', List.getElem?_eq_getElem h]
  simp

theorem turned_due (nd : ns.Nodup) : turnedL ns = dueL ns := by
  unfold turnedL dueL
  apply List.filter_congr
  rintro ⟨j, k⟩ hp
  obtain ⟨h1, h2⟩ := prs_mem hp
  dsimp only at h1 h2
  have p0 := sort_puts fltO ns
  have p1 := sort_hfy nltO ns
  rw [ps0_eq, ps1_eq, befo_row (row := plN ns) (j := j) (k := k) fltO nd p0.2 p0.1 (by omega) h2, befo_row (row := rsN ns) (j := j) (k := k) nltO nd p1.2 p1.1 (by omega) h2]
  exact turned_eq _ _
theorem told_eq (ns : List Nat) : (prs ns.length).map (fun p => toldI ((txs ns).getD p.1 []) ((txs ns).getD p.2 [])) = (prs ns.length).map fun p => sgn (digs (ns.getD p.1 0)) (digs (ns.getD p.2 0)) := by
  apply List.map_congr_left
  rintro ⟨j, k⟩ hp
  obtain ⟨h1, h2⟩ := prs_mem hp
  dsimp only at h1 h2
  dsimp only
  rw [txs_getD (by omega), txs_getD h2, told_sgn]
theorem up_eq (ns : List Nat) (ys : List Int) (hp : ys.Perm (ns.map fun n : Nat => (n : Int))) (hs : ys.Pairwise (· ≤ ·)) : (ps1 ns).map (fun k => ((ns.getD k 0 : Nat) : Int)) = ys := by
  have p1 := sort_hfy nltO ns
  have e : (ps1 ns).map (fun k => ((ns.getD k 0 : Nat) : Int)) = (rsN ns).map fun n : Nat => (n : Int) := by
    rw [ps1_eq, List.map_map]
    apply List.map_congr_left
    intro m hm
    show ((ns.getD (ns.idxOf m) 0 : Nat) : Int) = m
    rw [getD_idx (p1.2.mem_iff.mp hm)]
  rw [e]
  refine sorted_one ((p1.2.map _).trans hp.symm) ?_ hs
  rw [List.pairwise_map]
  refine p1.1.imp fun {a b} h => ?_
  have h' : decide (b < a) = false := h
  have : ¬ b < a := of_decide_eq_false h'
  omega
theorem pls_strict (nd : ns.Nodup) : (pls ns).Pairwise fun a b => blt a b = true := by
  have p0 := sort_puts fltO ns
  rw [pls_eq, List.pairwise_map]
  exact strict fltO p0.1 (p0.2.nodup_iff.mpr nd)
theorem txs_nodup (nd : ns.Nodup) : (txs ns).Nodup := by
  unfold txs
  rw [List.nodup_iff_pairwise_ne, List.pairwise_map]
  exact (List.nodup_iff_pairwise_ne.mp nd).imp fun {a b} h q => h (ap_inj q)
/-- the last of the first row -/
theorem pls_last (nd : ns.Nodup) (hlt : ∀ n ∈ ns, n < 2 ^ 40) (hM : 2 ^ 40 - 1 ∈ ns) : ∃ r, pls ns = r ++ [ap (2 ^ 40 - 1)] := by
  have p0 := sort_puts fltO ns
  have hs := pls_strict nd
  have hm : ap (2 ^ 40 - 1) ∈ pls ns := by
    rw [pls_eq]; exact List.mem_map.mpr ⟨_, p0.2.mem_iff.mpr hM, rfl⟩
  obtain ⟨r, q, e⟩ := List.append_of_mem hm
  cases q with
  | nil => exact ⟨r, e⟩
  | cons y q =>
    exfalso
    have hy : y ∈ pls ns := by rw [e]; simp
    rw [e] at hs
    have h1 := (List.pairwise_cons.mp (List.pairwise_append.mp hs).2.1).1 y (.head _)
    rw [pls_eq] at hy
    obtain ⟨m, hm', rfl⟩ := List.mem_map.mp hy
    have := top_flt (hlt m (p0.2.mem_iff.mp hm'))
    unfold flt at this
    rw [this] at h1; cases h1
theorem touch_top (nd : ns.Nodup) (hlt : ∀ n ∈ ns, n < 2 ^ 40) (hM : 2 ^ 40 - 1 ∈ ns) : touch ns (ap (2 ^ 40 - 1)) = [] := by
  unfold touch
  rw [List.filter_eq_nil_iff]
  rintro ⟨j, k⟩ hp
  obtain ⟨hp1, hp2⟩ := List.mem_filter.mp hp
  obtain ⟨h1, h2⟩ := prs_mem hp1
  dsimp only at h1 h2 hp2
  rw [idx_ap]
  have a1 := hlt _ (getD_in (ns := ns) (k := j) (by omega))
  have a2 := hlt _ (getD_in (ns := ns) h2)
  rw [tn_flt] at hp2
  have key : ns.getD j 0 = 2 ^ 40 - 1 ∨ ns.getD k 0 = 2 ^ 40 - 1 → False := fun q => by
    have e : max (ns.getD j 0) (ns.getD k 0) = 2 ^ 40 - 1 := by omega
    rw [e, top_flt (by omega)] at hp2
    cases hp2
  intro h
  have h' := of_decide_eq_true h
  apply key
  rcases h' with q | q
  · left; rw [← getD_idx hM, q]
  · right; rw [← getD_idx hM, q]
theorem facts (nd : ns.Nodup) (hl : ns.length ≤ 11) (hlt : ∀ n ∈ ns, n < 2 ^ 40) (hM : 2 ^ 40 - 1 ∈ ns) : Facts ns := by
  have hs := pls_strict nd
  have hg : goneL ns = (pls ns).filter fun t => !decide (touch ns t = []) := by
    unfold goneL
    apply List.filter_congr
    intro t ht
    congr 1
    rw [decide_eq_decide]
    unfold stillL
    rw [List.mem_filter]
    exact ⟨fun q => of_decide_eq_true q.2, fun q => ⟨ht, decide_eq_true q⟩⟩
  have mm := mg_filter (pls ns) (fun t => decide (touch ns t = [])) hs
  obtain ⟨r, er⟩ := pls_last nd hlt hM
  have el : stillL ns = r.filter (fun t => decide (touch ns t = [])) ++ [ap (2 ^ 40 - 1)] := by
    unfold stillL
    rw [er, List.filter_append, List.filter_cons, if_pos (decide_eq_true (touch_top nd hlt hM)), List.filter_nil]
  refine ⟨hl, hlt, txs_nodup nd, up_eq ns, told_eq ns, turned_due nd, ⟨hs, hs.filter _, ap (2 ^ 40 - 1), ?_, ?_⟩, ?_, ?_⟩
  · rw [er]; simp
  · rw [el]; simp
  · rw [hg]; exact mm.1
  · rw [hg]; exact mm.2
end
end Mine

namespace Mine
open PySem

noncomputable def onceUp (l : List Nat) (n : Nat) : List Nat := (List.range n).flatMap fun k => if l.getD k 0 ∈ l.take k then [] else [l.getD k 0]
theorem onceUp_props (l : List Nat) : ∀ n, n ≤ l.length → (onceUp l n).Nodup ∧ ∀ a, a ∈ onceUp l n ↔ a ∈ l.take n
  | 0, _ => by simp [onceUp]
  | n + 1, h => by
    obtain ⟨h1, h2⟩ := onceUp_props l n (by omega)
    have e : onceUp l (n + 1) = onceUp l n ++ if l.getD n 0 ∈ l.take n then [] else [l.getD n 0] := by
      unfold onceUp
      rw [List.range_succ, List.flatMap_append, List.flatMap_cons, List.flatMap_nil, List.append_nil]
    have hn : n < l.length := h
    have et : l.take (n + 1) = l.take n ++ [l.getD n 0] := by
      rw [List.take_add_one, List.getElem?_eq_getElem hn, List.getD_eq_getElem?_getD, List.getElem?_eq_getElem hn]; rfl
    rw [e, et]
    by_cases hm : l.getD n 0 ∈ l.take n
    · rw [if_pos hm, List.append_nil]
      refine ⟨h1, fun a => ?_⟩
      rw [h2 a, List.mem_append]
      exact ⟨.inl, fun q => q.elim id fun q => by rw [List.mem_singleton.mp q]; exact hm⟩
    · rw [if_neg hm]
      refine ⟨?_, fun a => by rw [List.mem_append, List.mem_append, h2 a]⟩
      rw [List.nodup_append]
      refine ⟨h1, by simp, fun a ha b hb => ?_⟩
      rw [List.mem_singleton.mp hb]
      intro q
      exact hm (q ▸ (h2 a).mp ha)
theorem once_cast (l : List Nat) : once (l.map fun n : Nat => (n : Int)) = (onceUp l l.length).map fun n : Nat => (n : Int) := by
  unfold once onceUp
  rw [List.map_flatMap, List.length_map]
  congr 1
  funext k
  have e1 : (l.map fun n : Nat => (n : Int)).getD k 0 = ((l.getD k 0 : Nat) : Int) := by
    rw [List.getD_eq_getElem?_getD, List.getD_eq_getElem?_getD, List.getElem?_map]
    cases l[k]? <;> rfl
  rw [e1, ← List.map_take]
  have e2 : (((l.getD k 0 : Nat) : Int) ∈ (l.take k).map fun n : Nat => (n : Int)) ↔ l.getD k 0 ∈ l.take k := by
    rw [List.mem_map]
    exact ⟨fun ⟨a, ha, h⟩ => by have : a = l.getD k 0 := by omega
                                exact this ▸ ha, fun h => ⟨_, h, rfl⟩⟩
  by_cases h : l.getD k 0 ∈ l.take k
  · rw [if_pos (e2.mpr h), if_pos h]; rfl
  · rw [if_neg (fun q => h (e2.mp q)), if_neg h]; rfl

noncomputable def allN (xs : List Int) : List Nat := [15, 16, 240, 4095, 65280, 1099511627775] ++ (xs.take 5).map fun x => (x % 2 ^ 40).toNat
noncomputable def numsN (xs : List Int) : List Nat := onceUp (allN xs) (allN xs).length
theorem nums_eq (xs : List Int) : once (base6 ++ (xs.take 5).map fun x => x % 2 ^ 40) = (numsN xs).map fun n : Nat => (n : Int) := by
  unfold numsN
  rw [← once_cast]
  congr 1
  unfold allN
  rw [List.map_append, List.map_map]
  have e : base6 = [15, 16, 240, 4095, 65280, 1099511627775].map (fun n : Nat => (n : Int)) := rfl
  rw [← e]
  congr 1
  apply List.map_congr_left
  intro x _
  show x % 2 ^ 40 = ((x % 2 ^ 40).toNat : Int)
  have := Int.emod_nonneg x (show (2 : Int) ^ 40 ≠ 0 by decide)
  omega
theorem facts_nums (xs : List Int) : Facts (numsN xs) := by
  obtain ⟨h1, h2⟩ := onceUp_props (allN xs) _ (Nat.le_refl _)
  rw [List.take_length] at h2
  have hall : ∀ a ∈ allN xs, a < 2 ^ 40 := by
    intro a ha
    rcases List.mem_append.mp ha with q | q
    · have : ∀ a ∈ [15, 16, 240, 4095, 65280, 1099511627775], a < 2 ^ 40 := by decide
      exact this a q
    · obtain ⟨x, _, rfl⟩ := List.mem_map.mp q
      have := Int.emod_lt_of_pos x (show (0 : Int) < 2 ^ 40 by decide)
      have := Int.emod_nonneg x (show (2 : Int) ^ 40 ≠ 0 by decide)
      omega
  have hlen : (allN xs).length ≤ 11 := by
    unfold allN
    rw [List.length_append, List.length_map, List.length_take]
    have : [15, 16, 240, 4095, 65280, 1099511627775].length = 6 := rfl
    omega
  refine facts h1 ?_ (fun n hn => hall n ((h2 n).mp hn)) ((h2 _).mpr ?_)
  · refine Nat.le_trans ?_ hlen
    unfold numsN onceUp
    generalize (allN xs).length = m
    suffices h : ∀ ks : List Nat, (ks.flatMap fun k => if (allN xs).getD k 0 ∈ (allN xs).take k then [] else [(allN xs).getD k 0]).length ≤ ks.length by
      simpa using h (List.range m)
    intro ks
    induction ks with
    | nil => exact Nat.le_refl _
    | cons k ks ih =>
      rw [List.flatMap_cons, List.length_append, List.length_cons]
      split
      · rw [List.length_nil]; omega
      · rw [List.length_singleton]; omega
  · exact List.mem_append_left _ (by decide)
end Mine

namespace Mine
open PySem PySem.Calls PyProof.Rows

noncomputable def faOf (mg : Str → Option Value) (i : Nat) : Addr := match mg (fdef i).1 with
  | some (.ref a) => a
  | _ => 0
theorem faOf_eq {mg : Str → Option Value} {i : Nat} {a : Addr} (h : mg (fdef i).1 = some (.ref a)) : faOf mg i = a := by unfold faOf; rw [h]

theorem boot_abs : bootBuiltins "abs" = some (.builtin "abs") := by kernel_rfl
theorem boot_int : bootBuiltins "int" = some (.type "int") := by kernel_rfl
theorem boot_divmod : bootBuiltins "divmod" = some (.builtin "divmod") := by kernel_rfl
theorem boot_len : bootBuiltins "len" = some (.builtin "len") := by kernel_rfl
theorem boot_range : bootBuiltins "range" = some (.type "range") := by kernel_rfl
theorem boot_reversed : bootBuiltins "reversed" = some (.type "reversed") := by kernel_rfl
theorem boot_sorted : bootBuiltins "sorted" = some (.builtin "sorted") := by kernel_rfl
theorem boot_zip : bootBuiltins "zip" = some (.type "zip") := by kernel_rfl
theorem boot_index : bootBuiltins "IndexError" = some (.type "IndexError") := by kernel_rfl

section
variable {p : Program} {loose : List Str} {mean : ExcName → Option Value} {mg mb : Str → Option Value} {h : Heap} {w : World}
theorem gval_builtin (T : Top p loose mean mg mb h) {x : Str} {v : Value} (hx : x ≠ "__name__") (hb : bootBuiltins x = some v) (hm : mg x = none) : GVal ⟨w, h⟩ x v := fun M A E Q env s hg hbu keep hq =>
  loadGlobal_builtin (mg := mg) (mb := mb) (by rw [hg]; exact T.g.keeps keep) hm (by rw [hbu]; exact T.b.keeps keep) ((T.builtins x hx).trans hb) hq
theorem gval_global (T : Top p loose mean mg mb h) {x : Str} {v : Value} (hm : mg x = some v) : GVal ⟨w, h⟩ x v := fun M A E Q env s hg hbu keep hq =>
  loadGlobal_global (mg := mg) (by rw [hg]; exact T.g.keeps keep) hm hq
theorem fn_top (T : Top p loose mean mg mb h) {i : Nat} {pos : Pos} (hd : (⟨(fdef i).1, (fdef i).2.1, (fdef i).2.2.1, (fdef i).2.2.2, pos⟩ : DefRec) ∈ recsOf p) : FnI ⟨w, h⟩ (faOf mg i) i ∧ mg (fdef i).1 = some (.ref (faOf mg i)) := by
  obtain ⟨a, o, pm, code, doc, h1, h2, h3, h4⟩ := T.fn _ hd
  obtain ⟨a', o', fd, c, P, g1, g2, g3, g4, _⟩ := T.tab _ hd
  dsimp only at h1 h3 h4 g1
  have e1 : faOf mg i = a := faOf_eq h1
  rw [h1] at g1; cases g1
  rw [h2] at g2; cases g2
  rw [h3] at g3; cases g3
  have e2 : code = .ref c := g4
  subst e2
  rw [e1]
  exact ⟨⟨o, pm, c, doc, h2, h3, h4⟩, h1⟩
noncomputable def ourBuiltins : List Str := ["abs", "int", "divmod", "len", "range", "reversed", "sorted", "zip", "IndexError"]
theorem glo_top (T : Top p loose mean mg mb h) (hrec : ∀ i, isDef i = true → ∃ pos, (⟨(fdef i).1, (fdef i).2.1, (fdef i).2.2.1, (fdef i).2.2.2, pos⟩ : DefRec) ∈ recsOf p)
    (hfree : ∀ x ∈ ourBuiltins, x ∉ startupNames ∧ x ∉ loose ∧ x ∉ (recsOf p).map (·.name) ∧ x ∉ (litsOf p).map (·.1) ∧ x ∉ (clssOf p loose).map (·.name)) : Glo ⟨w, h⟩ (faOf mg) := by
  have none : ∀ x ∈ ourBuiltins, mg x = none := fun x hx => let ⟨a, b, c, d, e⟩ := hfree x hx; T.free x a b c d e
  refine ⟨T.nolimit, gval_builtin T (by decide) boot_abs (none _ (by decide)), gval_builtin T (by decide) boot_int (none _ (by decide)), gval_builtin T (by decide) boot_divmod (none _ (by decide)), gval_builtin T (by decide) boot_len (none _ (by decide)),
    gval_builtin T (by decide) boot_range (none _ (by decide)), gval_builtin T (by decide) boot_reversed (none _ (by decide)), gval_builtin T (by decide) boot_sorted (none _ (by decide)), gval_builtin T (by decide) boot_zip (none _ (by decide)),
    gval_builtin T (by decide) boot_index (none _ (by decide)), fun i hi => ?_, fun i hi => ?_⟩
  · obtain ⟨pos, hd⟩ := hrec i hi
    exact (fn_top T hd).1
  · obtain ⟨pos, hd⟩ := hrec i hi
    exact gval_global T (fn_top (w := w) T hd).2
end

theorem ends {w : World} {s₁ : Shared} {fa : Nat → Addr} (gl : Glo ⟨w, s₁.heap⟩ fa) {xs : List Int} {sa : Addr} {vs : List Value} (hB : s₁.heap.IsList sa vs.toArray) (hI : IntsAre vs xs) (hxs : xs.length ≤ 63) (hg : s₁.gens = #[]) :
    wpAny (Mo w) callerA (call (.ref (fa 18)) [.ref sa]) (fun v s' => v = .bool true ∧ (∀ b o, s₁.heap.get? b = some o → s'.heap.get? b = some o) ∧ s'.os = s₁.os ∧ s'.gens = #[]) (fun _ _ => False) s₁ := by
  have M : MuOk callerA s₁.heap [] s₁.heap := ⟨fun _ _ e => e, fun _ h => absurd h List.not_mem_nil, fun _ h => absurd h List.not_mem_nil, .nil, [], rfl, fun _ h => absurd h List.not_mem_nil⟩
  have rm : Rm (0 + 9) callerA := ⟨rfl, by decide, by decide⟩
  have key := lawP gl (n := 0) (μ := []) (K := fun d _ => d = .bool true) (nums_eq xs) hxs hB hI (facts_nums xs) (fun _ h => absurd h List.not_mem_nil) (fun _ => rfl)
  refine wpAny_mono (key callerA s₁ [.ref sa] rm M (.cons (.val _) .nil)) ?_ fun _ _ z => z
  rintro v s' ⟨d, μ', rfl, r, M', t⟩
  cases r
  obtain ⟨h', tk', rfl, _, _⟩ := t
  exact ⟨rfl, M'.base, rfl, hg⟩
end Mine

open PySem PySem.W PySem.Calls PyProof.Rows
set_option maxHeartbeats 8000000 in
theorem PySem.Challenge.cw_oy0054_01_holds : PySem.Challenge.rw_oy0054_01.Holds := by
  w_on
  o_law
  k_head
  case hw => w_witness2
  intro w s₀ s₁ mg mb G Y fa o pm cd doc dV kV ho hd hcd hD hmg hg args vals as hpre hlay hrd hwl hlo
  have T := G.T
  clear hD hd hcd G Y ho
  wrow_args hpre hlay hrd hwl hlo
  rename IntsAre _ _ => hI
  rename Heap.IsList _ _ _ => hL
  rename ¬ _ < (_ : Int) => hlen
  have gl := Mine.glo_top (w := w) T (fun i hi => by
    have hi' : i = 1 ∨ i = 3 ∨ i = 4 ∨ i = 5 ∨ i = 6 ∨ i = 7 ∨ i = 9 ∨ i = 10 ∨ i = 12 ∨ i = 13 ∨ i = 14 ∨ i = 15 ∨ i = 16 ∨ i = 17 ∨ i = 18 := by
      unfold Mine.isDef at hi
      simpa using hi
    rcases hi' with rfl | rfl | rfl | rfl | rfl | rfl | rfl | rfl | rfl | rfl | rfl | rfl | rfl | rfl | rfl
    · exact ⟨_, List.mem_of_getElem? (i := 0) rfl⟩
    · exact ⟨_, List.mem_of_getElem? (i := 1) rfl⟩
    · exact ⟨_, List.mem_of_getElem? (i := 2) rfl⟩
    · exact ⟨_, List.mem_of_getElem? (i := 3) rfl⟩
    · exact ⟨_, List.mem_of_getElem? (i := 4) rfl⟩
    · exact ⟨_, List.mem_of_getElem? (i := 5) rfl⟩
    · exact ⟨_, List.mem_of_getElem? (i := 6) rfl⟩
    · exact ⟨_, List.mem_of_getElem? (i := 7) rfl⟩
    · exact ⟨_, List.mem_of_getElem? (i := 8) rfl⟩
    · exact ⟨_, List.mem_of_getElem? (i := 9) rfl⟩
    · exact ⟨_, List.mem_of_getElem? (i := 10) rfl⟩
    · exact ⟨_, List.mem_of_getElem? (i := 11) rfl⟩
    · exact ⟨_, List.mem_of_getElem? (i := 12) rfl⟩
    · exact ⟨_, List.mem_of_getElem? (i := 13) rfl⟩
    · exact ⟨_, List.mem_of_getElem? (i := 14) rfl⟩) (by decide +kernel)
  have hfa : Mine.faOf mg 18 = fa := Mine.faOf_eq hmg
  have key := Mine.ends gl hL hI (by omega) hg
  rw [hfa] at key
  refine wpAny_mono key (fun v s' hv => ?_) (fun _ _ z => z.elim)
  obtain ⟨rfl, hk, hos, hgg⟩ := hv
  exact GoodW.toG ⟨.inl ⟨_, .bool true, [], rfl, fun _ => rfl, .bool true, postW_of rfl (w_eq_bool (w_res rfl) w_lit) rfl, fun _ => ⟨.nil, nofun⟩⟩, hk, hos, hgg⟩
