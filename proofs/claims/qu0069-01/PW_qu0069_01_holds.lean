import PyProof.Rows.All
import Wide.All
import OpenK.AllK
import Wide.FinOn
import KE.KItem
import PySem.Challenge.RW_qu0069_01
set_option Elab.async false

section
open PySem PySem.W PySem.Calls PyProof.Rows
set_option backward.match.sparseCases false
set_option genSizeOf false
set_option genSizeOfSpec false
set_option genInjectivity false
namespace Qu69
theorem no_some {α : Type} {a : α} {P : Prop} (h : (none : Option α) = some a) : P := by cases h
theorem no_true {P : Prop} (h : false = true) : P := by cases h
theorem if_some {α : Type} {p : Prop} [Decidable p] {x : Option α} {d : α} (h : (if p then x else none) = some d) : p ∧ x = some d := by
  by_cases q : p
  · rw [if_pos q] at h; exact ⟨q, h⟩
  · rw [if_neg q] at h; exact no_some h
theorem if_none {α : Type} {p : Prop} [Decidable p] {x : Option α} {d : α} (h : (if p then none else x) = some d) : ¬ p ∧ x = some d := by
  by_cases q : p
  · rw [if_pos q] at h; exact no_some h
  · rw [if_neg q] at h; exact ⟨q, h⟩

noncomputable def bnd {α β : Type} (x : Option α) (f : α → Option β) : Option β := match x with
  | some a => f a
  | none => none
noncomputable def bnd2 {α β γ : Type} (x : Option α) (y : Option β) (f : α → β → Option γ) : Option γ := bnd x fun a => bnd y (f a)
noncomputable def bnd3 {α β γ δ : Type} (x : Option α) (y : Option β) (z : Option γ) (f : α → β → γ → Option δ) : Option δ := bnd x fun a => bnd2 y z (f a)
inductive Bnd1 {α β : Type} (x : Option α) (f : α → Option β) (d : β) : Prop where
  | mk (a : α) (ha : x = some a) (h : f a = some d)
inductive Bnd2 {α β γ : Type} (x : Option α) (y : Option β) (f : α → β → Option γ) (d : γ) : Prop where
  | mk (a : α) (b : β) (ha : x = some a) (hb : y = some b) (h : f a b = some d)
inductive Bnd3 {α β γ δ : Type} (x : Option α) (y : Option β) (z : Option γ) (f : α → β → γ → Option δ) (d : δ) : Prop where
  | mk (a : α) (b : β) (c : γ) (ha : x = some a) (hb : y = some b) (hc : z = some c) (h : f a b c = some d)
theorem bnd_inv {α β : Type} {x : Option α} {f : α → Option β} {d : β} (e : bnd x f = some d) : Bnd1 x f d := by
  cases x with
  | none => exact no_some e
  | some a => exact .mk a rfl e
theorem bnd2_inv {α β γ : Type} {x : Option α} {y : Option β} {f : α → β → Option γ} {d : γ} (e : bnd2 x y f = some d) : Bnd2 x y f d := by
  obtain ⟨a, ha, e⟩ := bnd_inv e
  obtain ⟨b, hb, e⟩ := bnd_inv e
  exact .mk a b ha hb e
theorem bnd3_inv {α β γ δ : Type} {x : Option α} {y : Option β} {z : Option γ} {f : α → β → γ → Option δ} {d : δ} (e : bnd3 x y z f = some d) : Bnd3 x y z f d := by
  obtain ⟨a, ha, e⟩ := bnd_inv e
  obtain ⟨b, c, hb, hc, e⟩ := bnd2_inv e
  exact .mk a b c ha hb hc e
theorem and_tt {a b : Bool} (h : (a && b) = true) : a = true ∧ b = true := Bool.and_eq_true_iff.mp h
theorem not_tt {a : Bool} (h : (!a) = true) : a = false := by cases a <;> first | rfl | cases h

/-! pure data, and how a partial heap bears it -/
inductive D where
  | none
  | bool (b : Bool)
  | int (i : Int)
  | str (l : List Nat)
  | tuple (l : List D)
  | list (l : List D)
  | range (a b c : Int)
  | inst (ks : List Nat) (ds : List D)

abbrev PH := Addr → Option Obj
noncomputable def PH.Le (g g' : PH) : Prop := ∀ b o, g b = some o → g' b = some o
theorem PH.Le.refl (g : PH) : PH.Le g g := fun _ _ e => e
theorem PH.Le.trans {a b c : PH} (x : PH.Le a b) (y : PH.Le b c) : PH.Le a c := fun i o e => y i o (x i o e)
abbrev hp (h : Heap) : PH := h.get?
abbrev Keeps (h h' : Heap) : Prop := PH.Le h.get? h'.get?

noncomputable def atn : Nat → Str
  | 0 => "raw"
  | 1 => "n"
  | 2 => "nt"
  | 3 => "norm"
  | 4 => "is_simple"
  | k + 5 => ⟨#[0, k]⟩

noncomputable def EntryIs (P : Params) (k : Nat) (v : Value) (e : DictEntry) : Prop := e.hash = PyData.keyHash P (atn k) ∧ (∃ t, e.key = .str (atn k) t) ∧ e.val = v
noncomputable def EntriesAre (P : Params) : List Nat → List Value → List DictEntry → Prop
  | [], [], [] => True
  | k :: ks, v :: vs, e :: es => EntryIs P k v e ∧ EntriesAre P ks vs es
  | _, _, _ => False

structure Cx where
  P : Params
  C : Addr
  S : Addr

abbrev listO (vs : List Value) (n : Nat) : Obj := { cls := .type "list", dict := none, data := .seq vs.toArray n, slots := #[] }

mutual
inductive Rep (c : Cx) (g : PH) : Value → D → Prop where
  | none : Rep c g .none .none
  | bool (b : Bool) : Rep c g (.bool b) (.bool b)
  | int (i : Int) (t : Tok) : Rep c g (.int i t) (.int i)
  | str (x : Str) (l : List Nat) (t : Tok) (e : x.cps.toList = l) : Rep c g (.str x t) (.str l)
  | tuple {a : Addr} {o : Obj} {vs : List Value} {n : Nat} {ds : List D} (ho : g a = some o) (hc : o.cls = .type "tuple") (hd : o.data = .seq vs.toArray n) (r : RepL c g vs ds) : Rep c g (.ref a) (.tuple ds)
  | list {a : Addr} {vs : List Value} {n : Nat} {ds : List D} (ho : g a = some (listO vs n)) (r : RepL c g vs ds) : Rep c g (.ref a) (.list ds)
  | range {r : Addr} {x y z : Int} {t u v : Tok} (ho : g r = some { cls := .type "range", dict := Option.none, data := .fields #[.int x t, .int y u, .int z v], slots := #[] }) : Rep c g (.ref r) (.range x y z)
  | inst {a dx : Addr} {es : List DictEntry} {n : Nat} {ks : List Nat} {vs : List Value} {ds : List D} (ho : g a = some (instObj c.C dx)) (hd : g dx = some (dictOf es n)) (he : EntriesAre c.P ks vs es) (r : RepL c g vs ds) : Rep c g (.ref a) (.inst ks ds)
inductive RepL (c : Cx) (g : PH) : List Value → List D → Prop where
  | nil : RepL c g [] []
  | cons {v : Value} {vs : List Value} {d : D} {ds : List D} (r : Rep c g v d) (rs : RepL c g vs ds) : RepL c g (v :: vs) (d :: ds)
end

section
variable {c : Cx} {g g' : PH}
theorem Rep.mono (k : PH.Le g g') {v : Value} {d : D} (r : Rep c g v d) : Rep c g' v d :=
  Rep.rec (motive_1 := fun v d _ => Rep c g' v d) (motive_2 := fun vs ds _ => RepL c g' vs ds)
    .none .bool .int .str (fun ho hc hd _ r => .tuple (k _ _ ho) hc hd r) (fun ho _ r => .list (k _ _ ho) r) (fun ho => .range (k _ _ ho))
    (fun ho hd he _ r => .inst (k _ _ ho) (k _ _ hd) he r) .nil (fun _ _ a b => .cons a b) r
theorem RepL.mono (k : PH.Le g g') {vs : List Value} {ds : List D} (r : RepL c g vs ds) : RepL c g' vs ds :=
  RepL.rec (motive_1 := fun v d _ => Rep c g' v d) (motive_2 := fun vs ds _ => RepL c g' vs ds)
    .none .bool .int .str (fun ho hc hd _ r => .tuple (k _ _ ho) hc hd r) (fun ho _ r => .list (k _ _ ho) r) (fun ho => .range (k _ _ ho))
    (fun ho hd he _ r => .inst (k _ _ ho) (k _ _ hd) he r) .nil (fun _ _ a b => .cons a b) r
theorem RepL.ind {P : List Value → List D → Prop} (hn : P [] []) (hc : ∀ {v vs d ds}, Rep c g v d → RepL c g vs ds → P vs ds → P (v :: vs) (d :: ds)) {vs : List Value} {ds : List D} (r : RepL c g vs ds) : P vs ds :=
  RepL.rec (motive_1 := fun _ _ _ => True) (motive_2 := fun vs ds _ => P vs ds)
    .intro (fun _ => .intro) (fun _ _ => .intro) (fun _ _ _ _ => .intro) (fun _ _ _ _ _ => .intro) (fun _ _ _ => .intro) (fun _ => .intro) (fun _ _ _ _ _ => .intro) hn (fun r rs _ ih => hc r rs ih) r
theorem RepL.length {vs : List Value} {ds : List D} (r : RepL c g vs ds) : vs.length = ds.length :=
  r.ind (P := fun vs ds => vs.length = ds.length) rfl fun _ _ ih => congrArg Nat.succ ih
theorem RepL.append {vs vs' : List Value} {ds ds' : List D} (x : RepL c g vs ds) (y : RepL c g vs' ds') : RepL c g (vs ++ vs') (ds ++ ds') :=
  x.ind (P := fun vs ds => RepL c g (vs ++ vs') (ds ++ ds')) y fun r _ ih => .cons r ih
theorem RepL.get {vs : List Value} {ds : List D} (x : RepL c g vs ds) {i : Nat} {d : D} (e : ds[i]? = some d) : ∃ v, vs[i]? = some v ∧ Rep c g v d :=
  x.ind (P := fun vs ds => ∀ i, ds[i]? = some d → ∃ v, vs[i]? = some v ∧ Rep c g v d) (fun _ e => no_some e)
    (fun r _ ih i => Nat.casesOn i (fun e => ⟨_, rfl, Option.some.inj e ▸ r⟩) (fun i e => ih i e)) i e
theorem RepL.take {vs : List Value} {ds : List D} (x : RepL c g vs ds) (n : Nat) : RepL c g (vs.take n) (ds.take n) :=
  x.ind (P := fun vs ds => ∀ n, RepL c g (vs.take n) (ds.take n)) (fun n => Nat.casesOn n .nil fun _ => .nil) (fun r _ ih n => Nat.casesOn n .nil fun n => .cons r (ih n)) n
theorem RepL.drop {vs : List Value} {ds : List D} (x : RepL c g vs ds) (n : Nat) : RepL c g (vs.drop n) (ds.drop n) :=
  x.ind (P := fun vs ds => ∀ n, RepL c g (vs.drop n) (ds.drop n)) (fun n => Nat.casesOn n .nil fun _ => .nil) (fun r rs ih n => Nat.casesOn n (.cons r rs) fun n => ih n) n
theorem RepL.set {vs : List Value} {ds : List D} (x : RepL c g vs ds) (i : Nat) {v : Value} {d : D} (r : Rep c g v d) : RepL c g (vs.set i v) (ds.set i d) :=
  x.ind (P := fun vs ds => ∀ i, RepL c g (vs.set i v) (ds.set i d)) (fun _ => .nil) (fun r' rs ih i => Nat.casesOn i (.cons r rs) fun i => .cons r' (ih i)) i
theorem Rep.ofInt (i : Int) (t : Tok) : Rep c g (.int i t) (.int i) := .int i t
inductive IntV (i : Int) : Value → Prop where
  | mk (t : Tok) : IntV i (.int i t)
inductive StrV (l : List Nat) : Value → Prop where
  | mk (t : Tok) : StrV l (.str ⟨l.toArray⟩ t)
theorem Rep.int_inv {v : Value} {i : Int} (r : Rep c g v (.int i)) : IntV i v := by cases r; exact .mk _
theorem Rep.bool_inv {v : Value} {b : Bool} (r : Rep c g v (.bool b)) : v = .bool b := by cases r; rfl
theorem Rep.none_inv {v : Value} (r : Rep c g v .none) : v = .none := by cases r; rfl
theorem Rep.str_inv {v : Value} {l : List Nat} (r : Rep c g v (.str l)) : StrV l v := by
  cases r with
  | str x l t e => subst e; exact .mk t
end

/-! what is new is frozen -/
noncomputable def ext (g : PH) (h h' : Heap) : PH := fun b => match h.get? b with
  | some _ => g b
  | none => h'.get? b
section
variable {g : PH} {h h₁ h₂ : Heap}
theorem ext_old {b : Addr} {o : Obj} (e : h.get? b = some o) : ext g h h₁ b = g b := by unfold ext; rw [e]
theorem ext_new {b : Addr} (e : h.get? b = none) : ext g h h₁ b = h₁.get? b := by unfold ext; rw [e]
theorem le_ext (s : PH.Le g h.get?) : PH.Le g (ext g h h₁) := fun b o e => by rw [ext_old (s b o e)]; exact e
theorem ext_sub (s : PH.Le g h.get?) (k : Keeps h h₁) : PH.Le (ext g h h₁) h₁.get? := fun b o e => by
  cases q : h.get? b with
  | some o' => rw [ext_old q] at e; exact k b o (s b o e)
  | none => rw [ext_new q] at e; exact e
theorem ext_trans (k : Keeps h h₁) (k' : Keeps h₁ h₂) : PH.Le (ext (ext g h h₁) h₁ h₂) (ext g h h₂) := fun b o e => by
  cases q : h.get? b with
  | some o' => rw [ext_old (k b o' q), ext_old q] at e; rw [ext_old q]; exact e
  | none =>
    rw [ext_new q]
    cases q' : h₁.get? b with
    | some o' => rw [ext_old q', ext_new q, q'] at e; rw [← e]; exact k' b o' q'
    | none => rw [ext_new q'] at e; exact e
theorem ext_refl : PH.Le (ext g h h) g := fun b o e => by
  cases q : h.get? b with
  | some o' => rw [ext_old q] at e; exact e
  | none => rw [ext_new q, q] at e; cases e
theorem ext_mono {h₁ : Heap} {g' : PH} (s : PH.Le g g') : PH.Le (ext g h h₁) (ext g' h h₁) := fun b o e => by
  cases q : h.get? b with
  | some o' => rw [ext_old q] at e ⊢; exact s b o e
  | none => rw [ext_new q] at e ⊢; exact e
end

end Qu69
end

section
open PySem PySem.W PySem.Calls PyProof.Rows
set_option backward.match.sparseCases false
set_option genSizeOf false
set_option genSizeOfSpec false
set_option genInjectivity false
namespace Qu69

noncomputable def EvP (prog : Program) (w : World) (c : Cx) (A : Around) (g : PH) (s : Shared) (t : Sem Value) (d : D) : Prop :=
  ∀ Q : Value → Shared → Prop, (∀ v h' tk, Keeps s.heap h' → Rep c (ext g s.heap h') v d → Q v { s with heap := h', toks := tk }) → wpAny (model prog w) A t Q (fun _ _ => False) s

section
variable {prog : Program} {w : World} {c : Cx} {A : Around} {g : PH} {s : Shared}
theorem EvP.here {t : Sem Value} {d : D} {v : Value} {tk : Nat} (hs : PH.Le g s.heap.get?) (r : Rep c g v d)
    (h : ∀ Q : Value → Shared → Prop, Q v { s with toks := tk } → wpAny (model prog w) A t Q (fun _ _ => False) s) : EvP prog w c A g s t d :=
  fun Q hQ => h Q (hQ v s.heap tk (PH.Le.refl _) (r.mono (le_ext hs)))
theorem EvP.pushed {t : Sem Value} {d : D} {v : Value} {o : Obj} {tk : Nat} (r : Rep c (ext g s.heap (s.heap.push o)) v d)
    (h : ∀ Q : Value → Shared → Prop, Q v { s with heap := s.heap.push o, toks := tk } → wpAny (model prog w) A t Q (fun _ _ => False) s) : EvP prog w c A g s t d :=
  fun Q hQ => h Q (hQ v _ tk (fun _ _ e => Heap.get?_push_of_some _ e) r)
theorem ext_push {o : Obj} (hf : o.isFreed = false) : ext g s.heap (s.heap.push o) s.heap.objs.size = some o := by
  have : s.heap.get? s.heap.objs.size = none := by
    cases q : s.heap.get? s.heap.objs.size with
    | none => rfl
    | some x => exact absurd (Heap.lt_size q) (Nat.lt_irrefl _)
  rw [ext_new this]; exact Heap.get?_push_size _ hf
end

inductive ListV (c : Cx) (g : PH) (h : Heap) (ds : List D) : Value → Prop where
  | mk (a : Addr) (vs : List Value) (hl : h.IsList a vs.toArray) (rs : RepL c g vs ds) : ListV c g h ds (.ref a)
inductive ListOV (c : Cx) (g : PH) (h : Heap) (ds : List D) : Value → Prop where
  | mk (a : Addr) (vs : List Value) (n : Nat) (hl : h.get? a = some (listO vs n)) (rs : RepL c g vs ds) : ListOV c g h ds (.ref a)
inductive TupV (c : Cx) (g : PH) (h : Heap) (ds : List D) : Value → Prop where
  | mk (a : Addr) (vs : List Value) (hl : IsTup h a vs.toArray) (rs : RepL c g vs ds) : TupV c g h ds (.ref a)
theorem Rep.isList {c : Cx} {g : PH} {h : Heap} {v : Value} {ds : List D} (hs : PH.Le g h.get?) (r : Rep c g v (.list ds)) : ListV c g h ds v := by
  cases r with
  | list ho rs => exact .mk _ _ ⟨_, hs _ _ ho, rfl, _, rfl⟩ rs
theorem Rep.listO {c : Cx} {g : PH} {h : Heap} {v : Value} {ds : List D} (hs : PH.Le g h.get?) (r : Rep c g v (.list ds)) : ListOV c g h ds v := by
  cases r with
  | list ho rs => exact .mk _ _ _ (hs _ _ ho) rs
theorem Rep.isTup {c : Cx} {g : PH} {h : Heap} {v : Value} {ds : List D} (hs : PH.Le g h.get?) (r : Rep c g v (.tuple ds)) : TupV c g h ds v := by
  cases r with
  | tuple ho hc hd rs => exact .mk _ _ ⟨_, hs _ _ ho, hc, _, hd⟩ rs

/-! binary operators -/
inductive BO where
  | add | sub | mul | fdiv | mod | xor | band
  deriving DecidableEq
noncomputable def BO.op : BO → Operator
  | .add => .Add
  | .sub => .Sub
  | .mul => .Mult
  | .fdiv => .FloorDiv
  | .mod => .Mod
  | .xor => .BitXor
  | .band => .BitAnd
noncomputable def small (a : Int) : Bool := decide (-1073741824 < a) && decide (a < 1073741824)
noncomputable def repL {α : Type} (l : List α) : Nat → List α
  | 0 => []
  | n + 1 => l ++ repL l n

noncomputable def addD : D → D → Option D
  | .int a, .int b => some (.int (a + b))
  | .str a, .str b => if a.length + b.length ≤ 100000 then some (.str (a ++ b)) else none
  | .list a, .list b => if a.length + b.length ≤ 100000 then some (.list (a ++ b)) else none
  | _, _ => none
noncomputable def subD : D → D → Option D
  | .int a, .int b => some (.int (a - b))
  | _, _ => none
noncomputable def mulD : D → D → Option D
  | .int a, .int b => if small a then some (.int (a * b)) else none
  | .str a, .int n => if a.length = 1 ∧ 0 ≤ n ∧ n ≤ 1000 then some (.str (repL a n.toNat)) else none
  | .list a, .int n => if a.length = 1 ∧ 0 ≤ n ∧ n ≤ 1000 then some (.list (repL a n.toNat)) else none
  | _, _ => none
noncomputable def fdivD : D → D → Option D
  | .int a, .int b => if b = 0 ∨ small b = false then none else some (.int (a.fdiv b))
  | _, _ => none
noncomputable def modD : D → D → Option D
  | .int a, .int b => if b = 0 then none else some (.int (a.fmod b))
  | _, _ => none
noncomputable def xorD : D → D → Option D
  | .int a, .int b => some (.int (Builtin.bitXor a b))
  | _, _ => none
noncomputable def bandD : D → D → Option D
  | .int a, .int b => some (.int (Builtin.bitAnd a b))
  | _, _ => none
noncomputable def binD : BO → D → D → Option D
  | .add => addD
  | .sub => subD
  | .mul => mulD
  | .fdiv => fdivD
  | .mod => modD
  | .xor => xorD
  | .band => bandD

/-! shapes of the operands -/
inductive II : D → D → Prop where
  | mk (a b : Int) : II (.int a) (.int b)
inductive AddR : D → D → D → Prop where
  | int (a b : Int) : AddR (.int a) (.int b) (.int (a + b))
  | str (a b : List Nat) (h : a.length + b.length ≤ 100000) : AddR (.str a) (.str b) (.str (a ++ b))
  | list (a b : List D) (h : a.length + b.length ≤ 100000) : AddR (.list a) (.list b) (.list (a ++ b))
inductive MulR : D → D → D → Prop where
  | int (a b : Int) (h : small a = true) : MulR (.int a) (.int b) (.int (a * b))
  | str (a : List Nat) (n : Int) (h : a.length = 1 ∧ 0 ≤ n ∧ n ≤ 1000) : MulR (.str a) (.int n) (.str (repL a n.toNat))
  | list (a : List D) (n : Int) (h : a.length = 1 ∧ 0 ≤ n ∧ n ≤ 1000) : MulR (.list a) (.int n) (.list (repL a n.toNat))
section
variable {d₁ d₂ d : D}
theorem addD_inv (e : addD d₁ d₂ = some d) : AddR d₁ d₂ d := by
  cases d₁ <;> try (exact no_some e)
  · cases d₂ <;> try (exact no_some e)
    exact Option.some.inj e ▸ .int _ _
  · cases d₂ <;> try (exact no_some e)
    obtain ⟨h, e⟩ := if_some e
    exact Option.some.inj e ▸ .str _ _ h
  · cases d₂ <;> try (exact no_some e)
    obtain ⟨h, e⟩ := if_some e
    exact Option.some.inj e ▸ .list _ _ h
theorem mulD_inv (e : mulD d₁ d₂ = some d) : MulR d₁ d₂ d := by
  cases d₁ <;> try (exact no_some e)
  · cases d₂ <;> try (exact no_some e)
    obtain ⟨h, e⟩ := if_some e
    exact Option.some.inj e ▸ .int _ _ h
  · cases d₂ <;> try (exact no_some e)
    obtain ⟨h, e⟩ := if_some e
    exact Option.some.inj e ▸ .str _ _ h
  · cases d₂ <;> try (exact no_some e)
    obtain ⟨h, e⟩ := if_some e
    exact Option.some.inj e ▸ .list _ _ h
theorem subD_inv (e : subD d₁ d₂ = some d) : II d₁ d₂ := by
  cases d₁ <;> try (exact no_some e)
  cases d₂ <;> first | exact no_some e | exact .mk _ _
theorem fdivD_inv (e : fdivD d₁ d₂ = some d) : II d₁ d₂ := by
  cases d₁ <;> try (exact no_some e)
  cases d₂ <;> first | exact no_some e | exact .mk _ _
theorem modD_inv (e : modD d₁ d₂ = some d) : II d₁ d₂ := by
  cases d₁ <;> try (exact no_some e)
  cases d₂ <;> first | exact no_some e | exact .mk _ _
theorem xorD_inv (e : xorD d₁ d₂ = some d) : II d₁ d₂ := by
  cases d₁ <;> try (exact no_some e)
  cases d₂ <;> first | exact no_some e | exact .mk _ _
theorem bandD_inv (e : bandD d₁ d₂ = some d) : II d₁ d₂ := by
  cases d₁ <;> try (exact no_some e)
  cases d₂ <;> first | exact no_some e | exact .mk _ _
end

theorem RepL.rep {c : Cx} {g : PH} {vs : List Value} {ds : List D} (r : RepL c g vs ds) : ∀ n : Nat, RepL c g (repL vs n) (repL ds n)
  | 0 => .nil
  | n + 1 => r.append (r.rep n)
theorem small_bounds {a : Int} (h : small a = true) : -1073741824 < a ∧ a < 1073741824 := by
  simpa [small] using h
theorem repL_toArray {α : Type} (l : List α) : ∀ n : Nat, (List.replicate n l.toArray).foldl (· ++ ·) #[] = (repL l n).toArray := by
  intro n
  have key : ∀ (n : Nat) (acc : List α), (List.replicate n l.toArray).foldl (· ++ ·) acc.toArray = (acc ++ repL l n).toArray := by
    intro n
    induction n with
    | zero => intro acc; simp [repL]
    | succ n ih => intro acc; rw [List.replicate_succ, List.foldl_cons]; have := ih (acc ++ l); simp only [List.append_toArray] at this ⊢; rw [this, repL, List.append_assoc]
  simpa using key n []

theorem small_bits {a : Int} (h : small a = true) : Builtin.Int.intBits a ≤ 64 := by
  obtain ⟨h1, h2⟩ := small_bounds h
  exact intBits_le_64 (by omega) (by omega)
theorem small_pylong {a b : Int} (h : small b = true) : Builtin.divisionGoesByPylong a b = false := by
  obtain ⟨h1, h2⟩ := small_bounds h
  exact PyProof.noPylong_small (by omega)
theorem mul_ok {a : List Nat} {n : Int} (h1 : a.length = 1) (h2 : 0 ≤ n) (h3 : n ≤ 1000) : MulOk ⟨a.toArray⟩ n := by
  have hlen : (⟨a.toArray⟩ : Str).length = 1 := by simp [Str.length, h1]
  refine ⟨by simp; omega, fun p _ => ?_, fun _ _ => ?_⟩
  · rw [hlen]
    have h4 : 1 ≤ ((2 : Int) ^ 63 - 1) / n := Int.le_ediv_of_mul_le (by omega) (by omega)
    intro q
    have q' : ((1 : Nat) : Int) > (2 ^ 63 - 1) / n := q
    omega
  · rw [hlen]; simp [Builtin.Str.tooLong, sizeLine]; omega
theorem mul_repL {a : List Nat} {n : Int} (h1 : a.length = 1) (h2 : 0 ≤ n) : (Txt.mul ⟨a.toArray⟩ n).cps.toList = repL a n.toNat := by
  have hlen : (⟨a.toArray⟩ : Str).length = 1 := by simp [Str.length, h1]
  unfold Txt.mul
  by_cases p : n < 1
  · have : n = 0 := by omega
    subst this; simp [repL, Str.empty]
  · rw [if_neg p]
    by_cases q : n = 1
    · subst q; simp [repL]
    · rw [if_neg (by simp [q, hlen])]
      show Array.toList _ = _
      rw [repL_toArray]
section
variable {prog : Program} {w : World} {c : Cx} {A : Around} {g : PH} {s : Shared}
theorem add_str_sound {a b : List Nat} {t u : Tok} (hl : a.length + b.length ≤ 100000) : EvP prog w c A g s (binaryOp .Add (.str ⟨a.toArray⟩ t) (.str ⟨b.toArray⟩ u)) (.str (a ++ b)) := by
  refine fun Q hQ => add_str (fun t' tk => hQ _ s.heap tk (PH.Le.refl _) (.str _ _ _ ?_)) ?_
  · show (_ ++ _ : Array Nat).toList = _; simp
  · simp only [Str.length, List.size_toArray]; rw [sizeLine_eq]; omega
theorem add_list_sound {v₁ v₂ : Value} {d₁ d₂ : List D} (hs : PH.Le g s.heap.get?) (r₁ : Rep c g v₁ (.list d₁)) (r₂ : Rep c g v₂ (.list d₂)) (hl : d₁.length + d₂.length ≤ 100000) : EvP prog w c A g s (binaryOp .Add v₁ v₂) (.list (d₁ ++ d₂)) := by
  induction r₁.listO hs; rename_i a vs n ho rs
  induction r₂.listO hs; rename_i b ws n2 ho2 rs'
  have ev : vs.toArray ++ ws.toArray = (vs ++ ws).toArray := by simp
  refine .pushed (o := { cls := .type "list", data := .seq (vs ++ ws).toArray }) (tk := s.toks) (.list (ext_push rfl) ((rs.append rs').mono (le_ext hs))) fun Q q => ?_
  refine concat_meets ⟨_, ho, rfl⟩ ⟨_, ho2, rfl⟩ noFill_list_add seq_list_add PySem.F.slot_list_add PySem.F.entry_list_add (PySem.F.args_list_add_2 _ _)
    (list_addW _ _ vs.toArray ws.toArray n n2 none none #[] #[] (by rw [List.size_toArray, List.size_toArray, rs.length, rs'.length, sizeLine_eq]; omega)) ⟨ho, ho2, ?_⟩
  rw [ev]; exact q
theorem mul_list_sound {v₁ v₂ : Value} {a : List D} {n : Int} (hs : PH.Le g s.heap.get?) (r₁ : Rep c g v₁ (.list a)) (r₂ : Rep c g v₂ (.int n)) (hl : a.length = 1 ∧ 0 ≤ n ∧ n ≤ 1000) : EvP prog w c A g s (binaryOp .Mult v₁ v₂) (.list (repL a n.toNat)) := by
  induction r₂.int_inv; rename_i u
  induction r₁.listO hs; rename_i ad vs k ho rs
  obtain ⟨h1, h2, h3⟩ := hl
  have hlen : vs.length = 1 := rs.length.trans h1
  refine .pushed (o := { cls := .type "list", data := .seq (repL vs n.toNat).toArray }) (tk := s.toks) (.list (ext_push rfl) ((rs.rep n.toNat).mono (le_ext hs))) fun Q q => ?_
  refine wpAny_binaryOp_repeat_ref (T := "list") (U := "int") (by decide) ⟨_, ho, rfl⟩ (fun s' => typeIs_int s' n u) noFill_list_mul PySem.F.fills_int_mul PySem.F.slot_int_rmul repeat_list PySem.F.slot_int_index.lookup
    (call_meets PySem.F.slot_int_rmul (typeIs_int s n u) PySem.F.entry_int_rmul (PySem.F.args_int_rmul_2 _ _) (int___rmul___int_list n u ad vs.toArray k)
      ⟨ho, rfl, ⟨_, ho, rfl⟩, call_meets PySem.F.slot_list_mul ⟨_, ho, rfl⟩ PySem.F.entry_list_mul (PySem.F.args_list_mul_2 _ _)
        (AutoListH.list___mul___list_int_3 ad vs.toArray k n u (by simp [Builtin.List.listFitsIndex]; omega) (by simp only [List.size_toArray, hlen]; omega) (by simp only [List.size_toArray, hlen]; simp [Builtin.List.listTooLong, sizeLine]; omega))
        ⟨ho, ?_⟩⟩)
  have hne : vs.toArray.isEmpty = false := by cases vs <;> simp_all
  rw [hne]
  simp only [Bool.false_eq_true, if_false]
  rw [repL_toArray]; exact q
theorem bin_sound {op : BO} {v₁ v₂ : Value} {d₁ d₂ d : D} (hs : PH.Le g s.heap.get?) (r₁ : Rep c g v₁ d₁) (r₂ : Rep c g v₂ d₂) (e : binD op d₁ d₂ = some d) :
    EvP prog w c A g s (binaryOp op.op v₁ v₂) d := by
  cases op
  · induction addD_inv e with
    | int a b =>
      induction r₁.int_inv; rename_i t; induction r₂.int_inv; rename_i u
      exact .here hs (.int _ _) fun Q q => add_int q
    | str a b hl =>
      induction r₁.str_inv; rename_i t; induction r₂.str_inv; rename_i u
      exact add_str_sound hl
    | list a b hl => exact add_list_sound hs r₁ r₂ hl
  · induction subD_inv e
    induction r₁.int_inv; rename_i t; induction r₂.int_inv; rename_i u; obtain rfl := Option.some.inj e
    exact .here hs (.int _ _) fun Q q => sub_int q
  · induction mulD_inv e with
    | int a b hl =>
      induction r₁.int_inv; rename_i t; induction r₂.int_inv; rename_i u
      exact .here hs (.int _ _) fun Q q => mul_int q (IntMulOk.of_left (small_bits hl))
    | str a n hl =>
      induction r₁.str_inv; rename_i t; induction r₂.int_inv; rename_i u
      exact fun Q hQ => SB.mul (mul_ok hl.1 hl.2.1 hl.2.2) fun t' tk => hQ _ s.heap tk (PH.Le.refl _) (.str _ _ _ (mul_repL hl.1 hl.2.1))
    | list a n hl => exact mul_list_sound hs r₁ r₂ hl
  · induction fdivD_inv e
    obtain ⟨hl, e⟩ := if_none e
    induction r₁.int_inv; rename_i t; induction r₂.int_inv; rename_i u; obtain rfl := Option.some.inj e
    exact .here hs (.int _ _) fun Q q => floordiv_int (not_or.mp hl).1 q (.inl (small_pylong (eq_true_of_ne_false (not_or.mp hl).2)))
  · induction modD_inv e
    obtain ⟨hl, e⟩ := if_none e
    induction r₁.int_inv; rename_i t; induction r₂.int_inv; rename_i u; obtain rfl := Option.some.inj e
    exact .here hs (.int _ _) fun Q q => mod_int' hl q
  · induction xorD_inv e
    induction r₁.int_inv; rename_i t; induction r₂.int_inv; rename_i u; obtain rfl := Option.some.inj e
    exact .here hs (.int _ _) fun Q q => xor_int q
  · induction bandD_inv e
    induction r₁.int_inv; rename_i t; induction r₂.int_inv; rename_i u; obtain rfl := Option.some.inj e
    exact .here hs (.int _ _) fun Q q => and_int q
end
end Qu69
end

section
open PySem PySem.W PySem.Calls PyProof.Rows
set_option backward.match.sparseCases false
set_option genSizeOf false
set_option genSizeOfSpec false
set_option genInjectivity false
namespace Qu69

noncomputable def with1 {α β : Type} (x : Option α) (f : α → β) : Option β := match x with
  | some a => some (f a)
  | none => none
noncomputable def with2 {α β γ : Type} (x : Option α) (y : Option β) (f : α → β → γ) : Option γ := match x with
  | some a => with1 y (f a)
  | none => none
noncomputable def intC (d : D) (r : Option (List Int)) : Option (List Int) := match d with
  | .int i => with1 r (i :: ·)
  | _ => none
noncomputable def boolC (d : D) (r : Option (List Bool)) : Option (List Bool) := match d with
  | .bool i => with1 r (i :: ·)
  | _ => none
noncomputable def intsD : List D → Option (List Int)
  | [] => some []
  | d :: r => intC d (intsD r)
noncomputable def boolsD : List D → Option (List Bool)
  | [] => some []
  | d :: r => boolC d (boolsD r)
theorem one_some {α γ : Type} {x : Option α} {f : α → γ} {d : γ} (e : with1 x f = some d) : ∃ a, x = some a ∧ f a = d := by
  cases x with
  | none => exact no_some e
  | some a => exact ⟨a, rfl, Option.some.inj e⟩
theorem two_some {α β γ : Type} {x : Option α} {y : Option β} {f : α → β → γ} {d : γ} (e : with2 x y f = some d) : ∃ a b, x = some a ∧ y = some b ∧ f a b = d := by
  cases x with
  | none => exact no_some e
  | some a =>
    obtain ⟨b, h, e⟩ := one_some (f := f a) e
    exact ⟨a, b, rfl, h, e⟩
section
variable {c : Cx} {g : PH}
theorem intsD_inv {d : D} {r : List D} {ns : List Int} (e : intsD (d :: r) = some ns) : ∃ i l, d = .int i ∧ intsD r = some l ∧ ns = i :: l := by
  cases d <;> try (exact no_some e)
  obtain ⟨l, hl, e⟩ := one_some (x := intsD r) e
  exact ⟨_, l, rfl, hl, e.symm⟩
theorem boolsD_inv {d : D} {r : List D} {ns : List Bool} (e : boolsD (d :: r) = some ns) : ∃ i l, d = .bool i ∧ boolsD r = some l ∧ ns = i :: l := by
  cases d <;> try (exact no_some e)
  obtain ⟨l, hl, e⟩ := one_some (x := boolsD r) e
  exact ⟨_, l, rfl, hl, e.symm⟩
theorem RepL.ints {vs : List Value} {ds : List D} {ns : List Int} (x : RepL c g vs ds) (e : intsD ds = some ns) : IntsAre vs ns :=
  x.ind (P := fun vs ds => ∀ ns, intsD ds = some ns → IntsAre vs ns) (fun _ e => Option.some.inj e ▸ .nil)
    (fun r rs ih ns e => by
      obtain ⟨i, l, rfl, hl, rfl⟩ := intsD_inv e
      induction r.int_inv; rename_i t
      exact .cons _ _ (ih l hl)) ns e
theorem RepL.bools {vs : List Value} {ds : List D} {ns : List Bool} (x : RepL c g vs ds) (e : boolsD ds = some ns) : vs = ns.map Value.bool :=
  x.ind (P := fun vs ds => ∀ ns, boolsD ds = some ns → vs = ns.map Value.bool) (fun _ e => Option.some.inj e ▸ rfl)
    (fun r rs ih ns e => by
      obtain ⟨i, l, rfl, hl, rfl⟩ := boolsD_inv e
      rw [r.bool_inv, ih l hl]; rfl) ns e
end
theorem readsI {h : Heap} {vs : List Value} {ns : List Int} (r : IntsAre vs ns) : ReadsAll h vs (ns.map PyData.int) [] := by
  induction r with
  | nil => exact .nil
  | cons n t r ih => exact .cons (.int n t) ih
theorem bools_reads {h : Heap} : ∀ ns : List Bool, ReadsAll h (ns.map Value.bool) (ns.map PyData.bool) []
  | [] => .nil
  | b :: r => .cons (.bool b) (bools_reads r)
theorem canLay_ints : ∀ ns : List Int, PyData.canLayAll0 (ns.map PyData.int) = true
  | [] => by simp [PyData.canLayAll0]
  | _ :: r => by simp [PyData.canLayAll0, PyData.canLay0, canLay_ints r]
theorem canLay_bools : ∀ ns : List Bool, PyData.canLayAll0 (ns.map PyData.bool) = true
  | [] => by simp [PyData.canLayAll0]
  | _ :: r => by simp [PyData.canLayAll0, PyData.canLay0, canLay_bools r]
theorem depth_ints : ∀ ns : List Int, PyData.depthAll (ns.map PyData.int) = 0
  | [] => by simp [PyData.depthAll]
  | _ :: r => by simp [PyData.depthAll, PyData.depth, depth_ints r]
theorem eqv_ints : ∀ ns ms : List Int, PyData.eqvAll (ns.map PyData.int) (ms.map PyData.int) = (ns == ms)
  | [], [] => by simp [PyData.eqvAll]
  | _ :: _, [] => by simp [PyData.eqvAll]
  | [], _ :: _ => by simp [PyData.eqvAll]
  | a :: r, b :: t => by simp [PyData.eqvAll, PyData.eqv, eqv_ints r t]
theorem any_bools (b : Bool) (ns : List Bool) : ((ns.map PyData.bool).any fun y => PyData.eqv y (.bool b)) = ns.contains b := by
  induction ns with
  | nil => rfl
  | cons a r ih => simp only [List.map_cons, List.any_cons, List.contains_cons, ih, PyData.eqv]; congr 1; cases a <;> cases b <;> rfl

inductive CO where
  | eq | ne | lt | le | gt | ge | is_ | isnt | in_
  deriving DecidableEq
noncomputable def CO.op : CO → CmpOp
  | .eq => .Eq
  | .ne => .NotEq
  | .lt => .Lt
  | .le => .LtE
  | .gt => .Gt
  | .ge => .GtE
  | .is_ => .Is
  | .isnt => .IsNot
  | .in_ => .In
noncomputable def isNoneD : D → Bool
  | .none => true
  | _ => false
noncomputable def eqD : D → D → Option Bool
  | .int a, .int b => some (a == b)
  | .str a, .str b => some (a == b)
  | _, _ => none
noncomputable def neD : D → D → Option Bool
  | .int a, .int b => some (a != b)
  | .str a, .str b => some (a != b)
  | .list a, .list b => with2 (intsD a) (intsD b) fun x y => x != y
  | .tuple a, .tuple b => with2 (intsD a) (intsD b) fun x y => x != y
  | _, _ => none
noncomputable def ordD (f : Int → Int → Bool) : D → D → Option Bool
  | .int a, .int b => some (f a b)
  | _, _ => none
noncomputable def isD : D → D → Option Bool
  | .bool a, .bool b => some (a == b)
  | _, _ => none
noncomputable def isntB (b : Bool) : D → Option Bool
  | .bool a => some (a != b)
  | _ => none
noncomputable def isntD (d : D) : D → Option Bool
  | .bool b => isntB b d
  | .none => some (!isNoneD d)
  | _ => none
noncomputable def inD : D → D → Option Bool
  | .int a, .list b => with1 (intsD b) fun x => x.any (· == a)
  | .int a, .tuple b => with1 (intsD b) fun x => x.any (· == a)
  | .bool a, .list b => with1 (boolsD b) fun x => x.contains a
  | .str [a], .str b => some (decide (a ∈ b))
  | _, _ => none
noncomputable def cmpD : CO → D → D → Option Bool
  | .eq => eqD
  | .ne => neD
  | .lt => ordD fun a b => decide (a < b)
  | .le => ordD fun a b => decide (a ≤ b)
  | .gt => ordD fun a b => decide (b < a)
  | .ge => ordD fun a b => decide (b ≤ a)
  | .is_ => isD
  | .isnt => isntD
  | .in_ => inD

theorem str_beq (a b : List Nat) : ((⟨a.toArray⟩ : Str) == ⟨b.toArray⟩) = (a == b) := by
  rw [← toList_beq]
theorem str_bne (a b : List Nat) : ((⟨a.toArray⟩ : Str) != ⟨b.toArray⟩) = (a != b) := by
  rw [← toList_bne]

structure AOk (n : Nat) (A : Around) : Prop where
  handled : A.handled = none
  depth : A.depth + 2 * n ≤ 400
  units : A.units + 100 * n ≤ 3000

theorem Rep.none_iff {c : Cx} {g : PH} {v : Value} {d : D} (r : Rep c g v d) : (v == Value.none) = isNoneD d := by
  cases r <;> rfl

/-! shapes -/
inductive EqR : D → D → Bool → Prop where
  | int (a b : Int) : EqR (.int a) (.int b) (a == b)
  | str (a b : List Nat) : EqR (.str a) (.str b) (a == b)
inductive NeR : D → D → Bool → Prop where
  | int (a b : Int) : NeR (.int a) (.int b) (a != b)
  | str (a b : List Nat) : NeR (.str a) (.str b) (a != b)
  | list (a b : List D) (x y : List Int) (ha : intsD a = some x) (hb : intsD b = some y) : NeR (.list a) (.list b) (x != y)
  | tuple (a b : List D) (x y : List Int) (ha : intsD a = some x) (hb : intsD b = some y) : NeR (.tuple a) (.tuple b) (x != y)
inductive IsR : D → D → Bool → Prop where
  | bool (a b : Bool) : IsR (.bool a) (.bool b) (a == b)
inductive IsntR : D → D → Bool → Prop where
  | bool (a b : Bool) : IsntR (.bool a) (.bool b) (a != b)
  | none (d : D) : IsntR d .none (!isNoneD d)
inductive InR : D → D → Bool → Prop where
  | il (a : Int) (b : List D) (x : List Int) (h : intsD b = some x) : InR (.int a) (.list b) (x.any (· == a))
  | it (a : Int) (b : List D) (x : List Int) (h : intsD b = some x) : InR (.int a) (.tuple b) (x.any (· == a))
  | bl (a : Bool) (b : List D) (x : List Bool) (h : boolsD b = some x) : InR (.bool a) (.list b) (x.contains a)
  | str (a : Nat) (b : List Nat) : InR (.str [a]) (.str b) (decide (a ∈ b))
section
variable {d₁ d₂ : D} {b : Bool}
theorem eqD_inv (e : eqD d₁ d₂ = some b) : EqR d₁ d₂ b := by
  cases d₁ <;> try (exact no_some e)
  · cases d₂ <;> try (exact no_some e)
    exact Option.some.inj e ▸ .int _ _
  · cases d₂ <;> try (exact no_some e)
    exact Option.some.inj e ▸ .str _ _
theorem neD_inv (e : neD d₁ d₂ = some b) : NeR d₁ d₂ b := by
  cases d₁ <;> try (exact no_some e)
  · cases d₂ <;> try (exact no_some e)
    exact Option.some.inj e ▸ .int _ _
  · cases d₂ <;> try (exact no_some e)
    exact Option.some.inj e ▸ .str _ _
  · cases d₂ <;> try (exact no_some e)
    rename_i l l'
    obtain ⟨x, y, hx, hy, e⟩ := two_some (x := intsD l) (y := intsD l') (f := fun a b => a != b) e
    exact e ▸ .tuple _ _ _ _ hx hy
  · cases d₂ <;> try (exact no_some e)
    rename_i l l'
    obtain ⟨x, y, hx, hy, e⟩ := two_some (x := intsD l) (y := intsD l') (f := fun a b => a != b) e
    exact e ▸ .list _ _ _ _ hx hy
theorem ordD_inv {f : Int → Int → Bool} (e : ordD f d₁ d₂ = some b) : II d₁ d₂ := by
  cases d₁ <;> try (exact no_some e)
  cases d₂ <;> first | exact no_some e | exact .mk _ _
theorem isD_inv (e : isD d₁ d₂ = some b) : IsR d₁ d₂ b := by
  cases d₁ <;> try (exact no_some e)
  cases d₂ <;> try (exact no_some e)
  exact Option.some.inj e ▸ .bool _ _
theorem isntD_inv (e : isntD d₁ d₂ = some b) : IsntR d₁ d₂ b := by
  cases d₂ <;> try (exact no_some e)
  · exact Option.some.inj e ▸ .none _
  · cases d₁ <;> first | exact no_some e | exact Option.some.inj e ▸ .bool _ _
theorem inD_inv (e : inD d₁ d₂ = some b) : InR d₁ d₂ b := by
  cases d₁ <;> try (exact no_some e)
  case bool =>
    cases d₂ <;> try (exact no_some e)
    rename_i l l'
    obtain ⟨x, hx, e⟩ := one_some (x := boolsD l') (f := fun x => x.contains l) e
    exact e ▸ .bl _ _ _ hx
  case int =>
    cases d₂ <;> try (exact no_some e)
    · rename_i l l'
      obtain ⟨x, hx, e⟩ := one_some (x := intsD l') (f := fun x => x.any (· == l)) e
      exact e ▸ .it _ _ _ hx
    · rename_i l l'
      obtain ⟨x, hx, e⟩ := one_some (x := intsD l') (f := fun x => x.any (· == l)) e
      exact e ▸ .il _ _ _ hx
  case str l =>
    cases l with
    | nil => exact no_some e
    | cons a l =>
      cases l with
      | cons _ _ => exact no_some e
      | nil =>
        cases d₂ <;> try (exact no_some e)
        exact Option.some.inj e ▸ .str _ _
end
theorem shaped_ints (x : List Int) : (PyData.canLayAll0 (x.map PyData.int)) = true ∧ PyData.depthAll (x.map PyData.int) = 0 := ⟨canLay_ints x, depth_ints x⟩
theorem shaped_list (x : List Int) : SeqAt.shaped (.list (x.map PyData.int)) = true := by simp [SeqAt.shaped, PyData.canLay0, canLay_ints, PyData.depth, depth_ints]
theorem shaped_tuple (x : List Int) : SeqAt.shaped (.tuple (x.map PyData.int)) = true := by simp [SeqAt.shaped, PyData.canLay0, canLay_ints, PyData.depth, depth_ints]

section
variable {prog : Program} {w : World} {c : Cx} {A : Around} {g : PH} {s : Shared} {n : Nat}
theorem AOk.c_line (hA : AOk n A) : A.units + 64 < cLine := by
  have hu := hA.units
  have hcl : cLine = 9900 := rfl
  omega
theorem cmp_sound {op : CO} {v₁ v₂ : Value} {d₁ d₂ : D} {b : Bool} (hA : AOk n A) (hs : PH.Le g s.heap.get?) (r₁ : Rep c g v₁ d₁) (r₂ : Rep c g v₂ d₂) (e : cmpD op d₁ d₂ = some b) :
    ∀ Q : Value → Shared → Prop, Q (.bool b) s → wpAny (model prog w) A (compareOp op.op v₁ v₂) Q (fun _ _ => False) s := by
  intro Q q
  cases op
  · induction eqD_inv e
    · induction r₁.int_inv; rename_i t; induction r₂.int_inv; rename_i u; exact eq_int q
    · induction r₁.str_inv; rename_i t; induction r₂.str_inv; rename_i u; exact eq_str (by rw [str_beq]; exact q)
  · induction neD_inv e with
    | int => induction r₁.int_inv; rename_i t; induction r₂.int_inv; rename_i u; exact ne_int q
    | str => induction r₁.str_inv; rename_i t; induction r₂.str_inv; rename_i u; exact ne_str (by rw [str_bne]; exact q)
    | list _ _ x y hx hy =>
      induction r₁.isList hs; rename_i a vs hL rs; obtain ⟨o, ho, hc, n, hd⟩ := hL
      induction r₂.isList hs; rename_i a' vs' hL rs'; obtain ⟨o', ho', hc', n', hd'⟩ := hL
      exact ne_dataH (.list ho hc hd (readsI (rs.ints hx))) (.list ho' hc' hd' (readsI (rs'.ints hy))) (shaped_list x) (shaped_list y) hA.c_line (by rw [PyData.eqv, eqv_ints]; exact q)
    | tuple _ _ x y hx hy =>
      induction r₁.isTup hs; rename_i a vs hL rs; obtain ⟨o, ho, hc, n, hd⟩ := hL
      induction r₂.isTup hs; rename_i a' vs' hL rs'; obtain ⟨o', ho', hc', n', hd'⟩ := hL
      exact ne_dataH (.tuple ho hc hd (readsI (rs.ints hx))) (.tuple ho' hc' hd' (readsI (rs'.ints hy))) (shaped_tuple x) (shaped_tuple y) hA.c_line (by rw [PyData.eqv, eqv_ints]; exact q)
  · induction ordD_inv (f := fun a b => decide (a < b)) e
    induction r₁.int_inv; rename_i t; induction r₂.int_inv; rename_i u; obtain rfl := Option.some.inj e; exact lt_int q
  · induction ordD_inv (f := fun a b => decide (a ≤ b)) e
    induction r₁.int_inv; rename_i t; induction r₂.int_inv; rename_i u; obtain rfl := Option.some.inj e; exact le_int q
  · induction ordD_inv (f := fun a b => decide (b < a)) e
    induction r₁.int_inv; rename_i t; induction r₂.int_inv; rename_i u; obtain rfl := Option.some.inj e; exact gt_int q
  · induction ordD_inv (f := fun a b => decide (b ≤ a)) e
    induction r₁.int_inv; rename_i t; induction r₂.int_inv; rename_i u; obtain rfl := Option.some.inj e; exact ge_int q
  · induction isD_inv e
    rw [r₁.bool_inv, r₂.bool_inv]; exact is_bool q
  · induction isntD_inv e
    · rw [r₁.bool_inv, r₂.bool_inv]; exact isnot_bool q
    · rw [r₂.none_inv]; exact isnot_none_gen (by rw [r₁.none_iff]; exact q)
  · induction inD_inv e with
    | il _ _ x hx =>
      induction r₁.int_inv; rename_i t
      induction r₂.isList hs; rename_i a vs hl rs
      exact in_list_ints hl (rs.ints hx) q
    | it _ _ x hx =>
      induction r₁.int_inv; rename_i t
      induction r₂.isTup hs; rename_i a vs hl rs
      exact in_tuple_ints hl (rs.ints hx) q
    | bl _ _ x hx =>
      rw [r₁.bool_inv]
      induction r₂.isList hs; rename_i a vs hL rs; obtain ⟨o, ho, hc, n, hd⟩ := hL
      obtain rfl := rs.bools hx
      exact SeqAt.in_list_reads (.list ho hc hd (bools_reads x)) (.bool _) (canLay_bools x) rfl (by have := hA.c_line; simp [PyData.depth]; omega) (by rw [any_bools]; exact q)
    | str =>
      induction r₁.str_inv; rename_i t; induction r₂.str_inv; rename_i u
      refine P.in_str ?_
      have := StrLaws.found_one
      rw [this]; exact q

theorem str_truth (l : List Nat) : (((⟨l.toArray⟩ : Str).length : Int) != 0) = !l.isEmpty := by cases l <;> rfl
noncomputable def truthD : D → Option Bool
  | .bool b => some b
  | .int i => some (i != 0)
  | .str l => if l.length ≤ 100000 then some (!l.isEmpty) else none
  | .none => some false
  | _ => none
theorem truth_sound {v : Value} {d : D} {b : Bool} (r : Rep c g v d) (e : truthD d = some b) :
    ∀ Q : Bool → Shared → Prop, (∀ tk, Q b { s with toks := tk }) → wpAny (model prog w) A (truthy v) Q (fun _ _ => False) s := by
  intro Q q
  cases d <;> try (exact no_some e)
  case none => obtain rfl := Option.some.inj e; rw [r.none_inv]; exact truthy_none (q s.toks)
  case bool => obtain rfl := Option.some.inj e; rw [r.bool_inv]; exact wpAny_truthy_bool (q s.toks)
  case int => obtain rfl := Option.some.inj e; induction r.int_inv; rename_i t; exact P.truthy_int (q s.toks)
  case str l =>
    obtain ⟨hl, e⟩ := if_some e
    induction r.str_inv; rename_i t; obtain rfl := Option.some.inj e
    refine P.truthy_str (by simp [Str.length]; omega) ?_
    rw [str_truth]; exact q _
end
end Qu69
end

section
open PySem PySem.W PySem.Calls PyProof.Rows
set_option backward.match.sparseCases false
set_option genSizeOf false
set_option genSizeOfSpec false
set_option genInjectivity false
namespace Qu69

/-! an item, a cut -/
noncomputable def isSliceE : Expr → Bool
  | .Slice .. => true
  | _ => false
theorem le_size {k : Nat} (h : k ≤ 100000) : k ≤ sizeLine := Nat.le_trans h (by decide)
theorem lt_63 {k : Nat} (h : k ≤ 100000) : (k : Int) < 2 ^ 63 := by omega
theorem small_abs {k : Int} (h : small k = true) : (decide (k < -(2 ^ 63 : Int)) || decide (k ≥ 2 ^ 63)) = false := by
  obtain ⟨h1, h2⟩ := small_bounds h
  rw [decide_eq_false (show ¬ k < -(2 ^ 63 : Int) by omega), decide_eq_false (show ¬ k ≥ (2 ^ 63 : Int) by omega)]; rfl
theorem fresh1 (h : Heap) : h.get? h.objs.size = none := by
  cases q : h.get? h.objs.size with
  | none => rfl
  | some x => exact absurd (Heap.lt_size q) (Nat.lt_irrefl _)
theorem fresh2 (h : Heap) (o : Obj) : h.get? (h.push o).objs.size = none := by
  cases q : h.get? (h.push o).objs.size with
  | none => rfl
  | some x => exact absurd (Heap.lt_size q) (by rw [Heap.size_push]; exact Nat.not_lt.mpr (Nat.le_succ _))
theorem subscripted_not {slice : Expr} (h : isSliceE slice = false) (o i : Value) : subscripted slice false o i = operate [o, i] (getItem o i) := by
  cases slice <;> first | rfl | cases h
theorem subscripted_slice (lo hi : Option Expr) (p : Pos) (o i : Value) : subscripted (.Slice lo hi none p) false o i = operate [i, o] (getItem o i) := rfl

noncomputable def idxL (l : List D) : D → Option D
  | .int k => if 0 ≤ k ∧ small k = true then l[k.toNat]? else none
  | _ => none
noncomputable def chrAt (l : List Nat) (j : Nat) : Option D := with1 l[j]? fun x => .str [x]
noncomputable def idxS (l : List Nat) : D → Option D
  | .int k => if small k = true then (seqIndex? k l.length).bind (chrAt l) else none
  | _ => none
noncomputable def idxD : D → D → Option D
  | .list l => idxL l
  | .tuple l => idxL l
  | .str l => idxS l
  | _ => fun _ => none
theorem idxL_inv {l : List D} {i d : D} (e : idxL l i = some d) : ∃ k, i = .int k ∧ 0 ≤ k ∧ small k = true ∧ l[k.toNat]? = some d := by
  cases i <;> try (exact no_some e)
  obtain ⟨h, e⟩ := if_some e
  exact ⟨_, rfl, h.1, h.2, e⟩
theorem idxS_inv {l : List Nat} {i d : D} (e : idxS l i = some d) : ∃ k j x, i = .int k ∧ small k = true ∧ seqIndex? k l.length = some j ∧ l[j]? = some x ∧ D.str [x] = d := by
  cases i <;> try (exact no_some e)
  obtain ⟨h, e⟩ := if_some e
  obtain ⟨j, hj, e⟩ := Option.bind_eq_some_iff.mp e
  obtain ⟨x, hx, e⟩ := one_some e
  exact ⟨_, j, x, rfl, h, hj, hx, e⟩

theorem seqIndex_pos {k : Int} {n : Nat} (h0 : 0 ≤ k) (h1 : k < n) : seqIndex? k n = some k.toNat := by
  have h2 : ¬ k < 0 := by omega
  unfold seqIndex?
  simp [h0, h1, h2]

noncomputable def clipS (v : Option Int) (dflt : Int) (n : Nat) : Int := match v with
  | none => dflt
  | some i => let i := if i < 0 then i + n else i; max 0 (min i n)
noncomputable def cutL {α : Type} (l : List α) (lo hi : Option Int) : List α := (l.drop (clipS lo 0 l.length).toNat).take ((clipS hi l.length l.length).toNat - (clipS lo 0 l.length).toNat)
theorem pick_range {α : Type} (l : List α) (a : Nat) : ∀ n : Nat, ((List.range n).map fun k => a + k).filterMap (l[·]?) = (l.drop a).take n := by
  intro n
  induction n with
  | zero => simp
  | succ n ih =>
    rw [List.range_succ, List.map_append, List.filterMap_append, ih, List.take_add_one]
    congr 1
    simp only [List.map_cons, List.map_nil, List.getElem?_drop]
    cases h : l[a + n]? <;> simp [h]
theorem clip_lo (lo : Option Int) (n : Nat) : 0 ≤ clipS lo 0 n ∧ clipS lo 0 n ≤ n := by
  unfold clipS
  cases lo with
  | none => simp
  | some i => dsimp only; omega
theorem clip_hi (hi : Option Int) (n : Nat) : 0 ≤ clipS hi n n ∧ clipS hi n n ≤ n := by
  unfold clipS
  cases hi with
  | none => simp
  | some i => dsimp only; omega
theorem sliceRange_eq {a b : Int} (ha : 0 ≤ a) (hb : 0 ≤ b) : sliceRange a b 1 = (List.range (b.toNat - a.toNat)).map fun k => a.toNat + k := by
  obtain ⟨m, rfl⟩ := Int.eq_ofNat_of_zero_le ha
  obtain ⟨n, rfl⟩ := Int.eq_ofNat_of_zero_le hb
  unfold sliceRange
  rw [if_pos (show (1 : Int) > 0 by decide), Int.ediv_one, Int.add_sub_cancel]
  have hc : (if (m : Int) < n then ((n : Int) - m) else 0).toNat = n - m := by
    by_cases h : (m : Int) < n
    · rw [if_pos h]; exact Int.toNat_sub n m
    · rw [if_neg h]; exact (Nat.sub_eq_zero_of_le (Int.ofNat_le.mp (Int.not_lt.mp h))).symm
  show (List.range (if (m : Int) < n then ((n : Int) - m) else 0).toNat).map _ = _
  rw [hc]
  apply List.map_congr_left
  intro k _
  rw [Int.one_mul]; rfl
theorem sliceRange_pick {α : Type} (l : List α) {a b : Int} (ha : 0 ≤ a) (hb : 0 ≤ b) : (sliceRange a b 1).filterMap (l[·]?) = (l.drop a.toNat).take (b.toNat - a.toNat) := by
  rw [sliceRange_eq ha hb, pick_range]
theorem strIdx_eq (lo hi : Option Int) (n : Nat) : Builtin.Str.strSliceIndices lo hi 1 n = sliceRange (clipS lo 0 n) (clipS hi n n) 1 := by
  cases lo <;> cases hi <;> rfl
theorem cut_whole {α : Type} (l : List α) {a b : Nat} (hb : b ≤ l.length) (h : b - a = l.length) : l = (l.drop a).take (b - a) := by
  rw [h]
  rcases Nat.eq_zero_or_pos a with rfl | ha
  · rw [List.drop_zero, List.take_length]
  · have h0 : l.length = 0 := by omega
    rw [List.length_eq_zero_iff.mp h0]; rfl
theorem slice_str (l : List Nat) (lo hi : Option Int) : (Txt.slice ⟨l.toArray⟩ lo hi).cps.toList = cutL l lo hi := by
  have h1 := clip_lo lo l.length
  have h2 := clip_hi hi l.length
  have hk : ((Builtin.Str.strSliceIndices lo hi 1 l.length).filterMap (l[·]?)) = cutL l lo hi := by
    rw [strIdx_eq, sliceRange_pick l h1.1 h2.1]; rfl
  have hn : (Builtin.Str.strSliceIndices lo hi 1 l.length).length = (clipS hi l.length l.length).toNat - (clipS lo 0 l.length).toNat := by
    rw [strIdx_eq, sliceRange_eq h1.1 h2.1, List.length_map, List.length_range]
  show (if (Builtin.Str.strSliceIndices lo hi 1 l.toArray.size).length == l.toArray.size then (⟨l.toArray⟩ : Str) else ⟨((Builtin.Str.strSliceIndices lo hi 1 l.toArray.size).filterMap fun i => l.toArray[i]?).toArray⟩).cps.toList = _
  rw [List.size_toArray, hn]
  by_cases h : (clipS hi l.length l.length).toNat - (clipS lo 0 l.length).toNat = l.length
  · rw [if_pos (beq_iff_eq.mpr h)]
    exact cut_whole l (Int.toNat_le.mpr h2.2) h
  · rw [if_neg fun q => h (beq_iff_eq.mp q), ← hk]
    exact congrArg (fun f => List.filterMap f _) (funext fun i => List.getElem?_toArray)
theorem slice_list' {vs : List Value} (lo hi : Option Int) : (slicePick vs.toArray lo hi none).toList = cutL vs lo hi := by
  unfold slicePick
  have e : sliceBounds lo hi none vs.toArray.size = (clipS lo 0 vs.length, clipS hi vs.length vs.length, 1) := by
    unfold sliceBounds clipS
    cases lo <;> cases hi <;> simp
  rw [e]
  show List.filterMap _ _ = _
  have : (fun i : Nat => vs.toArray[i]?) = fun i => vs[i]? := by funext i; simp
  rw [this, sliceRange_pick vs (clip_lo lo _).1 (clip_hi hi _).1]
  rfl

noncomputable def partD : D → Option (Option Int)
  | .none => some none
  | .int i => some (some i)
  | _ => none
noncomputable def slcD : D → D → D → Option D
  | .str l, lo, hi => if l.length ≤ 100000 then with2 (partD lo) (partD hi) fun a b => .str (cutL l a b) else none
  | .list l, lo, hi => if l.length ≤ 100000 then with2 (partD lo) (partD hi) fun a b => .list (cutL l a b) else none
  | _, _, _ => none
theorem Rep.part {c : Cx} {g : PH} {v : Value} {d : D} {k : Option Int} (r : Rep c g v d) (e : partD d = some k) : IsPart v k := by
  cases d <;> try (exact no_some e)
  · rw [r.none_inv]; obtain rfl := Option.some.inj e; exact .none
  · induction r.int_inv; rename_i t; obtain rfl := Option.some.inj e; exact .int _ _
theorem RepL.cut {c : Cx} {g : PH} {vs : List Value} {ds : List D} (r : RepL c g vs ds) (lo hi : Option Int) : RepL c g (cutL vs lo hi) (cutL ds lo hi) := by
  unfold cutL
  rw [r.length]
  exact (r.drop _).take _

section
variable {prog : Program} {w : World} {c : Cx} {A : Around} {g : PH} {s : Shared} {n : Nat}
theorem idx_sound {value slice : Expr} {v i : Value} {d₁ d₂ d : D} (hsl : isSliceE slice = false) (hs : PH.Le g s.heap.get?) (r₁ : Rep c g v d₁) (r₂ : Rep c g i d₂) (e : idxD d₁ d₂ = some d) :
    EvP prog w c A g s (subscriptTail value slice v i) d := by
  cases d₁ <;> try (exact no_some e)
  case str l =>
    obtain ⟨k, j, x, rfl, hk, hj, hx, rfl⟩ := idxS_inv e
    induction r₂.int_inv; rename_i u
    induction r₁.str_inv; rename_i t
    refine .here hs (.str ⟨#[x]⟩ [x] _ rfl) fun Q q => tail_any (T := "str") (typeIs_str _ _ _) PySem.F.slot_str_getitem.lookup (PyProof.Rows.getItem_str (c := x) (small_abs hk) ?_ q) (subscripted_not hsl _ _)
    show (seqIndex? k l.toArray.size).bind _ = _
    rw [List.size_toArray, hj]
    exact List.getElem?_toArray.trans hx
  case tuple l =>
    obtain ⟨k, rfl, h0, hk, e⟩ := idxL_inv e
    induction r₂.int_inv; rename_i u
    induction r₁.isTup hs; rename_i a vs hl rs
    obtain ⟨x, hx, rx⟩ := rs.get e
    have hb := small_bounds hk
    have hlt : k.toNat < vs.length := (List.getElem?_eq_some_iff.mp hx).1
    exact .here (tk := s.toks) hs rx fun Q q => tail_any hl.typeIs slot_tuple_getitem.lookup (getItem_tuple (j := k.toNat) hl (by omega) (by omega) (by rw [List.size_toArray]; exact seqIndex_pos h0 (by omega)) (List.getElem?_toArray.trans hx) q) (subscripted_not hsl _ _)
  case list l =>
    obtain ⟨k, rfl, h0, hk, e⟩ := idxL_inv e
    induction r₂.int_inv; rename_i u
    induction r₁.isList hs; rename_i a vs hl rs
    obtain ⟨x, hx, rx⟩ := rs.get e
    have hb := small_bounds hk
    exact .here (tk := s.toks) hs rx fun Q q => tail_any hl.typeIs slot_list_getitem.lookup (wpAny_getItem_list hl h0 (by omega) (List.getElem?_toArray.trans hx) q) (subscripted_not hsl _ _)

theorem slc_sound {value : Expr} {lo hi : Option Expr} {p : Pos} {v vl vu : Value} {d₁ d₂ d₃ d : D} (hs : PH.Le g s.heap.get?) (r₁ : Rep c g v d₁) (r₂ : Rep c g vl d₂) (r₃ : Rep c g vu d₃) (e : slcD d₁ d₂ d₃ = some d) :
    ∀ Q : Value → Shared → Prop, (∀ v h' tk, Keeps s.heap h' → Rep c (ext g s.heap h') v d → Q v { s with heap := h', toks := tk }) →
      wpAny (model prog w) A (subscriptTail value (.Slice lo hi none p) v (.ref s.heap.objs.size)) Q (fun _ _ => False) { s with heap := s.heap.push { cls := .type "slice", data := .fields #[vl, vu, .none] } } := by
  intro Q hQ
  have hpush : Keeps s.heap (s.heap.push { cls := .type "slice", data := .fields #[vl, vu, .none] }) := fun _ _ e => Heap.get?_push_of_some _ e
  cases d₁ <;> try (exact no_some e)
  case str l =>
    obtain ⟨hl, e⟩ := if_some e
    obtain ⟨a, b, ha, hb, rfl⟩ := two_some e
    induction r₁.str_inv; rename_i t
    have hsz : (⟨l.toArray⟩ : Str).length ≤ sizeLine := le_size hl
    have hk : KeptH (fun h' => Keeps s.heap h') := fun h ob k b o e => Heap.get?_push_of_some _ (k b o e)
    have fin : ∀ (h' : Heap) (t' : Tok) (k : Nat), Keeps s.heap h' → Q (.str (Txt.slice ⟨l.toArray⟩ a b) t') { s with heap := h', toks := k } := fun h' t' k kk => hQ _ h' k kk (.str _ _ _ (slice_str l a b))
    have item : ItemOn (model prog w) A (fun _ _ => False) (.str ⟨l.toArray⟩ t) (.ref s.heap.objs.size) Q { s with heap := s.heap.push { cls := .type "slice", data := .fields #[vl, vu, .none] } } := by
      cases r₂.part ha with
      | none => cases r₃.part hb with
        | none => exact SBH.sliceItem_nn hk (PH.Le.refl _) fin hsz
        | int j uj => exact SBH.sliceItem_ns hk (PH.Le.refl _) fin hsz
      | int i ui => cases r₃.part hb with
        | none => exact SBH.sliceItem_sn hk (PH.Le.refl _) fin hsz
        | int j uj => exact SBH.sliceItem_ss hk (PH.Le.refl _) fin hsz
    obtain ⟨T, id, h1, h2, h3⟩ := item
    exact tail_any h2 h1 h3 (subscripted_slice _ _ _ _ _)
  case list l =>
    obtain ⟨hl, e⟩ := if_some e
    obtain ⟨a, b, ha, hb, rfl⟩ := two_some e
    induction r₁.isList hs; rename_i ad vs hL rs
    have hL' := hL.push { cls := .type "slice", data := .fields #[vl, vu, .none] }
    refine tail_any (Heap.IsList.typeIs (s := { s with heap := s.heap.push { cls := .type "slice", data := .fields #[vl, vu, .none] } }) hL') slot_list_getitem.lookup (wpAny_getItem_list_slice hL' (Heap.IsSliceOf.new ..) (r₂.part ha) (r₃.part hb) .none (by simp) ?_ (by rw [List.size_toArray, rs.length]; exact le_size hl)) (subscripted_slice _ _ _ _ _)
    refine hQ _ _ s.toks (fun b o e => Heap.get?_push_of_some _ (hpush b o e)) (.list (vs := cutL vs a b) (n := 0) ?_ ((rs.cut a b).mono (le_ext hs)))
    rw [ext_new (fresh2 s.heap _), show slicePick vs.toArray a b none = (cutL vs a b).toArray by rw [← slice_list']]
    exact Heap.get?_push_size _ rfl
end

/-! built-in functions -/
inductive BF where
  | len | ord | chr | min | range | list | tuple
  deriving DecidableEq
noncomputable def BF.val : BF → Value
  | .len => .builtin "len"
  | .ord => .builtin "ord"
  | .chr => .builtin "chr"
  | .min => .builtin "min"
  | .range => .type "range"
  | .list => .type "list"
  | .tuple => .type "tuple"
noncomputable def BF.nm : BF → Str
  | .len => "len"
  | .ord => "ord"
  | .chr => "chr"
  | .min => "min"
  | .range => "range"
  | .list => "list"
  | .tuple => "tuple"
noncomputable def rgo (a c : Int) : Nat → List D
  | 0 => []
  | n + 1 => .int a :: rgo (a + c) c n
noncomputable def un1 (f : D → Option D) : List D → Option D
  | [x] => f x
  | _ => none
theorem un1_inv {f : D → Option D} {ds : List D} {d : D} (e : un1 f ds = some d) : ∃ x, ds = [x] ∧ f x = some d := by
  rcases ds with _ | ⟨x, _ | ⟨y, l⟩⟩
  · exact no_some e
  · exact ⟨x, rfl, e⟩
  · exact no_some e
noncomputable def lenC (l : Nat) : Option D := if l ≤ 100000 then some (.int l) else none
noncomputable def lenD : D → Option D
  | .list l => lenC l.length
  | .tuple l => lenC l.length
  | .str l => lenC l.length
  | _ => none
noncomputable def ordL : List Nat → Option D
  | [x] => some (.int x)
  | _ => none
noncomputable def ordC : D → Option D
  | .str l => ordL l
  | _ => none
noncomputable def chrD : D → Option D
  | .int i => if 0 ≤ i ∧ i ≤ 1114111 then some (.str [i.toNat]) else none
  | _ => none
noncomputable def minI (a : Int) : D → Option D
  | .int b => some (.int (if b < a then b else a))
  | _ => none
noncomputable def minD : D → D → Option D
  | .int a => minI a
  | _ => fun _ => none
noncomputable def minB : List D → Option D
  | [a, b] => minD a b
  | _ => none
noncomputable def rgIs (a b k : Int) : Option D := some (.range a b k)
noncomputable def rangeB (ds : List D) : Option D := match intsD ds with
  | some [b] => rgIs 0 b 1
  | some [a, b] => rgIs a b 1
  | some [a, b, k] => if k ≠ 0 ∧ small k = true then rgIs a b k else none
  | _ => none
noncomputable def listD : D → Option D
  | .range a b k => if Builtin.Range.small a b k = true ∧ 0 ≤ Builtin.Range.rangeSize a b k ∧ Builtin.Range.rangeSize a b k ≤ 1000 then some (.list (rgo a k (Builtin.Range.rangeSize a b k).toNat)) else none
  | _ => none
noncomputable def tupleD : D → Option D
  | .list l => if l.length ≤ 100000 then some (.tuple l) else none
  | _ => none
noncomputable def lenB : List D → Option D := un1 lenD
noncomputable def ordB : List D → Option D := un1 ordC
noncomputable def chrB : List D → Option D := un1 chrD
noncomputable def listB : List D → Option D := un1 listD
noncomputable def tupleB : List D → Option D := un1 tupleD
noncomputable def bltD : BF → List D → Option D
  | .len => lenB
  | .ord => ordB
  | .chr => chrB
  | .min => minB
  | .range => rangeB
  | .list => listB
  | .tuple => tupleB

theorem rgo_rep {c : Cx} {g : PH} (k : Int) : ∀ (n : Nat) (a : Int) (vs : List Value), vs.length = n → (∀ (i : Nat) v, vs[i]? = some v → ∃ t, v = .int (a + i * k) t) → RepL c g vs (rgo a k n)
  | 0, _, vs, h, _ => by rw [List.length_eq_zero_iff] at h; subst h; exact .nil
  | n + 1, a, vs, h, hv => by
    cases vs with
    | nil => cases h
    | cons v r =>
      obtain ⟨t, e⟩ := hv 0 v rfl
      have e' : v = .int a t := by rw [e]; congr 1; omega
      subst e'
      refine .cons (.int a t) (rgo_rep k n (a + k) r (by simpa using h) fun i w hw => ?_)
      obtain ⟨t', q⟩ := hv (i + 1) w (by simpa using hw)
      refine ⟨t', q.trans ?_⟩
      congr 1
      rw [Int.natCast_add, Int.add_mul]; omega

section
variable {prog : Program} {w : World} {c : Cx} {A : Around} {g : PH} {s : Shared} {n : Nat}
theorem args1 {vs : List Value} {d : D} (r : RepL c g vs [d]) : ∃ v, vs = [v] ∧ Rep c g v d := by
  cases r with
  | cons r rs => cases rs; exact ⟨_, rfl, r⟩
theorem args2 {vs : List Value} {d d' : D} (r : RepL c g vs [d, d']) : ∃ v v', vs = [v, v'] ∧ Rep c g v d ∧ Rep c g v' d' := by
  cases r with
  | cons r rs => obtain ⟨v', rfl, r'⟩ := args1 rs; exact ⟨_, _, rfl, r, r'⟩
inductive RgR : List Int → D → Prop where
  | one (b : Int) : RgR [b] (.range 0 b 1)
  | two (a b : Int) : RgR [a, b] (.range a b 1)
  | three (a b k : Int) (h : k ≠ 0 ∧ small k = true) : RgR [a, b, k] (.range a b k)
theorem rangeB_inv {ds : List D} {d : D} (e : rangeB ds = some d) : ∃ ns, intsD ds = some ns ∧ RgR ns d := by
  unfold rangeB at e
  cases h : intsD ds with
  | none => rw [h] at e; exact no_some e
  | some ns =>
    rw [h] at e
    refine ⟨ns, rfl, ?_⟩
    rcases ns with _ | ⟨a, _ | ⟨b, _ | ⟨k, _ | ⟨z, l⟩⟩⟩⟩
    · exact no_some e
    · exact Option.some.inj e ▸ .one a
    · exact Option.some.inj e ▸ .two a b
    · obtain ⟨h, e⟩ := if_some e
      exact Option.some.inj e ▸ .three a b k h
    · exact no_some e
theorem range_new {a b k : Int} {t u v : Tok} : Rep c (ext g s.heap (s.heap.push { cls := .type "range", data := .fields #[.int a t, .int b u, .int k v] })) (.ref s.heap.objs.size) (.range a b k) := .range (ext_push rfl)
theorem blt_sound {f : BF} {vs : List Value} {ds : List D} {d : D} (hA : AOk n A) (hs : PH.Le g s.heap.get?) (r : RepL c g vs ds) (e : bltD f ds = some d) : EvP prog w c A g s (call f.val vs) d := by
  cases f
  · obtain ⟨x, rfl, e⟩ := un1_inv (f := lenD) e
    obtain ⟨v, rfl, r1⟩ := args1 r
    cases x <;> try (exact no_some e)
    · rename_i l
      obtain ⟨hl, e⟩ := if_some e
      obtain rfl := Option.some.inj e
      induction r1.str_inv; rename_i t
      exact .here hs (.int _ _) fun Q q => P.len_str (Int.not_le.mpr (lt_63 hl)) q
    · obtain ⟨hl, e⟩ := if_some e
      obtain rfl := Option.some.inj e
      induction r1.isTup hs; rename_i a vs ht rs
      have hz : vs.toArray.size = _ := (List.size_toArray (as := vs)).trans rs.length
      exact .here hs (.int _ _) fun Q q => len_tuple ht (by rw [hz]; exact lt_63 hl) (by rw [hz]; exact q)
    · obtain ⟨hl, e⟩ := if_some e
      obtain rfl := Option.some.inj e
      induction r1.isList hs; rename_i a vs ht rs
      have hz : vs.toArray.size = _ := (List.size_toArray (as := vs)).trans rs.length
      exact .here hs (.int _ _) fun Q q => call_len_list ht (by rw [hz]; exact lt_63 hl) (by rw [hz]; exact q)
  · obtain ⟨x, rfl, e⟩ := un1_inv (f := ordC) e
    obtain ⟨v, rfl, r1⟩ := args1 r
    cases x <;> try (exact no_some e)
    rename_i l _
    obtain ⟨x, rfl, e⟩ : ∃ x, l = [x] ∧ some (D.int x) = some d := by
      rcases l with _ | ⟨x, _ | ⟨y, l⟩⟩
      · exact no_some e
      · exact ⟨x, rfl, e⟩
      · exact no_some e
    · obtain rfl := Option.some.inj e
      induction r1.str_inv; rename_i t
      exact .here hs (.int _ _) fun Q q => P.ord_of_char q
  · obtain ⟨x, rfl, e⟩ := un1_inv (f := chrD) e
    obtain ⟨v, rfl, r1⟩ := args1 r
    cases x <;> try (exact no_some e)
    obtain ⟨hi, e⟩ := if_some e
    obtain rfl := Option.some.inj e
    induction r1.int_inv; rename_i t
    exact .here hs (.str _ _ _ rfl) fun Q q => P.chr_of_int (by simp; omega) q
  · rcases ds with _ | ⟨x, _ | ⟨y, _ | ⟨z, l⟩⟩⟩
    · exact no_some e
    · exact no_some e
    · obtain ⟨v, v', rfl, r1, r'⟩ := args2 r
      cases x <;> try (exact no_some e)
      cases y <;> try (exact no_some e)
      obtain rfl := Option.some.inj e
      induction r1.int_inv; rename_i t
      induction r'.int_inv; rename_i u
      refine fun Q hQ => min_two_ints hA.handled fun h' tk k => hQ _ h' tk k ?_
      split
      · exact .int _ _
      · exact .int _ _
    · exact no_some e
  · obtain ⟨ns, hn, rr⟩ := rangeB_inv e
    have ri := r.ints hn
    cases rr with
    | one b =>
      cases ri with
      | cons _ _ ri => cases ri; exact .pushed range_new fun Q q => call_range_1 q
    | two a b =>
      cases ri with
      | cons _ _ ri => cases ri with
        | cons _ _ ri => cases ri; exact .pushed range_new fun Q q => call_range_2 q
    | three a b k hk =>
      cases ri with
      | cons _ _ ri => cases ri with
        | cons _ _ ri => cases ri with
          | cons _ _ ri => cases ri; exact .pushed range_new fun Q q => call_range_3 hk.1 q (.inl (small_pylong hk.2))
  · obtain ⟨x, rfl, e⟩ := un1_inv (f := listD) e
    obtain ⟨v, rfl, r1⟩ := args1 r
    cases x <;> try (exact no_some e)
    rename_i a b k _
    obtain ⟨hk, e⟩ := if_some e
    obtain rfl := Option.some.inj e
    cases r1 with
    | range ho =>
      refine fun Q hQ => call_list_range (n := (Builtin.Range.rangeSize a b k).toNat) hA.handled (hs _ _ ho) hk.1 (Int.toNat_of_nonneg hk.2.1).symm (Nat.le_trans (Int.toNat_le.mpr hk.2.2) (by decide)) fun h' tk acc' c' kp ho' hit => hQ _ h' tk kp ?_
      exact .list (vs := acc'.toList) (n := c') (by rw [ext_new (fresh1 _)]; exact ho') (rgo_rep k _ a _ (by simpa using hit.1) fun i v hv => hit.2 i v (by simpa using hv))
  · obtain ⟨x, rfl, e⟩ := un1_inv (f := tupleD) e
    obtain ⟨v, rfl, r1⟩ := args1 r
    cases x <;> try (exact no_some e)
    obtain ⟨hl, e⟩ := if_some e
    obtain rfl := Option.some.inj e
    induction r1.isList hs; rename_i a vs ht rs
    refine fun Q hQ => call_tuple_list ht (fun h' kp => hQ _ _ s.toks (fun b o e => Heap.get?_push_of_some _ (kp b o e)) ?_) (by rw [List.size_toArray, rs.length]; exact le_size hl)
    have hn : s.heap.get? h'.objs.size = none := by
      cases q : s.heap.get? h'.objs.size with
      | none => rfl
      | some x => exact absurd (Heap.lt_size (kp _ _ q)) (Nat.lt_irrefl _)
    exact .tuple (by rw [ext_new hn]; exact Heap.get?_push_size _ rfl) rfl rfl (rs.mono (le_ext hs))
end
end Qu69
end

section
open PySem PySem.W PySem.Calls PyProof.Rows
set_option backward.match.sparseCases false
set_option genSizeOf false
set_option genSizeOfSpec false
set_option genInjectivity false
namespace Qu69

/-! methods -/
inductive MF where
  | lower | count | index
  deriving DecidableEq
noncomputable def MF.nm : MF → Str
  | .lower => "lower"
  | .count => "count"
  | .index => "index"
noncomputable def lowerC (x : Nat) : Option Nat :=
  if x = 9 then some 9 else if x = 32 then some 32 else if x = 107 then some 107 else if x = 75 then some 107 else if x = 8490 then some 107 else none
noncomputable def lowerL : List Nat → Option D
  | [x] => with1 (lowerC x) fun y => .str [y]
  | _ => none
noncomputable def lowerD : D → Option D
  | .str l => lowerL l
  | _ => none
noncomputable def countL (l : List Nat) : List Nat → Option D
  | [x] => some (.int (l.countP (· == x)))
  | _ => none
noncomputable def countX (l : List Nat) : D → Option D
  | .str m => countL l m
  | _ => none
noncomputable def countD : D → D → Option D
  | .str l => countX l
  | _ => fun _ => none
noncomputable def idxOfI (k : Int) (ns : List Int) : Option D := if ns.length ≤ 1000 ∧ k ∈ ns then some (.int (ns.idxOf k)) else none
noncomputable def indexX (l : List D) : D → Option D
  | .int k => (intsD l).bind (idxOfI k)
  | _ => none
noncomputable def indexD : D → D → Option D
  | .list l => indexX l
  | _ => fun _ => none
noncomputable def un0 {α : Type} (x : Option α) : List D → Option α
  | [] => x
  | _ => none
theorem un0_inv {α : Type} {x : Option α} {ds : List D} {d : α} (e : un0 x ds = some d) : ds = [] ∧ x = some d := by
  cases ds
  · exact ⟨rfl, e⟩
  · exact no_some e
noncomputable def methD : MF → D → List D → Option D
  | .lower, d => un0 (lowerD d)
  | .count, d => un1 (countD d)
  | .index, d => un1 (indexD d)
theorem lowerD_inv {d₁ d : D} (e : lowerD d₁ = some d) : ∃ x y, d₁ = .str [x] ∧ lowerC x = some y ∧ D.str [y] = d := by
  cases d₁ <;> try (exact no_some e)
  rename_i l
  rcases l with _ | ⟨x, _ | ⟨y, l⟩⟩
  · exact no_some e
  · obtain ⟨y, h, e⟩ := one_some (x := lowerC x) e
    exact ⟨x, y, rfl, h, e⟩
  · exact no_some e
theorem countD_inv {d₁ d₂ d : D} (e : countD d₁ d₂ = some d) : ∃ l x, d₁ = .str l ∧ d₂ = .str [x] ∧ D.int (l.countP (· == x)) = d := by
  cases d₁ <;> try (exact no_some e)
  cases d₂ <;> try (exact no_some e)
  rename_i l m
  rcases m with _ | ⟨x, _ | ⟨y, m⟩⟩
  · exact no_some e
  · exact ⟨l, x, rfl, rfl, Option.some.inj e⟩
  · exact no_some e
theorem indexD_inv {d₁ d₂ d : D} (e : indexD d₁ d₂ = some d) : ∃ l k ns, d₁ = .list l ∧ d₂ = .int k ∧ intsD l = some ns ∧ (ns.length ≤ 1000 ∧ k ∈ ns) ∧ D.int (ns.idxOf k) = d := by
  cases d₁ <;> try (exact no_some e)
  cases d₂ <;> try (exact no_some e)
  rename_i l k
  obtain ⟨ns, h, e⟩ := Option.bind_eq_some_iff.mp (show (intsD l).bind (idxOfI k) = some d from e)
  obtain ⟨hk, e⟩ := if_some e
  exact ⟨l, k, ns, rfl, rfl, h, hk, Option.some.inj e⟩
theorem idx_small {i n : Nat} (h : i < n) (hn : n ≤ 1000) : (i : Int) < 2 ^ 63 - 1 := by omega
theorem lowerC_other {x : Nat} (h1 : x ≠ 9) (h2 : x ≠ 32) (h3 : x ≠ 107) (h4 : x ≠ 75) (h5 : x ≠ 8490) : lowerC x = none := by
  unfold lowerC
  rw [if_neg h1, if_neg h2, if_neg h3, if_neg h4, if_neg h5]
theorem lower_ok : ∀ {x y : Nat}, lowerC x = some y → Txt.lower ⟨#[x]⟩ = ⟨#[y]⟩ := by
  intro x y e
  by_cases h : x = 9 ∨ x = 32 ∨ x = 107 ∨ x = 75 ∨ x = 8490
  · rcases h with rfl | rfl | rfl | rfl | rfl <;> (obtain rfl := Option.some.inj e; decide +kernel)
  · simp only [not_or] at h
    exact no_some ((lowerC_other h.1 h.2.1 h.2.2.1 h.2.2.2.1 h.2.2.2.2).symm.trans e)
theorem countIn_countP (x : Nat) : ∀ l : List Nat, Spec.countIn (.str ⟨#[x]⟩) (l.map fun n => PyData.str ⟨#[n]⟩) = (l.countP (· == x) : Nat)
  | [] => by simp [Spec.countIn]
  | a :: r => by
    simp only [List.map_cons, Spec.countIn, countIn_countP x r, List.countP_cons, same_sign]
    by_cases h : a = x
    · simp [h]; omega
    · simp [h]

section
variable {prog : Program} {w : World} {c : Cx} {A : Around} {g : PH} {s : Shared} {n : Nat} {pos : Pos}
theorem meth0_sound {f : MF} {v : Value} {d₁ d : D} (hs : PH.Le g s.heap.get?) (r : Rep c g v d₁) (e : methD f d₁ [] = some d) :
    ∀ Q : Value → Shared → Prop, (∀ v h' tk, Keeps s.heap h' → Rep c (ext g s.heap h') v d → Q v { s with heap := h', toks := tk }) → MethodOnS prog w A (fun _ _ => False) f.nm v pos [] Q s := by
  intro Q hQ
  cases f
  · obtain ⟨x, y, rfl, hy, rfl⟩ := lowerD_inv e
    induction r.str_inv
    have hl := lower_ok hy
    refine SB.lower (x := ⟨#[x]⟩) (by rw [hl]; rfl) ?_
    rw [hl]
    exact hQ _ s.heap _ (PH.Le.refl _) (.str _ _ _ rfl)
  · exact no_some e
  · exact no_some e
theorem meth1_sound {f : MF} {v : Value} {a : Sem Value} {d₁ d₂ d : D} (hs : PH.Le g s.heap.get?) (r : Rep c g v d₁) (ha : EvP prog w c A g s a d₂) (e : methD f d₁ [d₂] = some d) :
    ∀ Q : Value → Shared → Prop, (∀ v h' tk, Keeps s.heap h' → Rep c (ext g s.heap h') v d → Q v { s with heap := h', toks := tk }) → MethodOnS prog w A (fun _ _ => False) f.nm v pos [(false, a)] Q s := by
  intro Q hQ
  cases f
  · exact no_some e
  · obtain ⟨l, x, rfl, rfl, rfl⟩ := countD_inv e
    induction r.str_inv
    refine SB.count (x := ⟨l.toArray⟩) (ha _ fun v' h' tk k r' => ?_)
    induction r'.str_inv
    refine ⟨_, _, rfl, hQ _ h' _ k ?_⟩
    have : Txt.count ⟨l.toArray⟩ ⟨[x].toArray⟩ = (l.countP (· == x) : Nat) := (count_is ⟨l.toArray⟩ x).trans (countIn_countP x l)
    rw [this]; exact .int _ _
  · obtain ⟨l, k, ns, rfl, rfl, hn, hk, rfl⟩ := indexD_inv e
    induction r.listO hs
    rename_i ad vs m ho rs
    have hi := rs.ints hn
    have hlen := hi.length
    have hj : ns.idxOf k < ns.length := List.idxOf_lt_length_iff.mpr hk.2
    refine ⟨"list", "list.index", PySem.F.plainAttrs_list, PySem.F.slot_list_index, PySem.F.type_list_index, ⟨_, ho, rfl⟩, fun b eb => by cases eb; exact ⟨_, ho, rfl⟩, method1_meets PySem.F.slot_list_index PySem.F.entry_list_index (ha _ fun v' h' tk kp r' => ?_)⟩
    induction r'.int_inv
    rename_i u
    have ho' := kp _ _ ho
    refine ⟨⟨_, ho', rfl⟩, PySem.F.args_list_index_2 _ _, _, SeqAt.list_indexAt ad vs.toArray m none #[] (.int k u) (isInt k) (ns.idxOf k) (by rw [List.size_toArray, hlen]; exact hj) (idx_small hj hk.1) ?_ ?_, ⟨ho', fun y hy => (eq_isInt k u hi y (by simpa using hy)).at _ _, ?_⟩⟩
    · show isInt k vs[ns.idxOf k] = true
      rw [isInt_at k hi _ (by rw [hlen]; exact hj) hj]
      simp
    · intro j hjs hlt
      show isInt k vs[j] = false
      rw [isInt_at k hi j (by simpa using hjs) (Nat.lt_trans hlt hj)]
      exact ne_of_lt_idxOf hlt _
    · exact hQ _ h' _ kp (.int _ _)
end
end Qu69
end

section
open PySem PySem.W PySem.Calls PyProof.Rows
set_option backward.match.sparseCases false
set_option genSizeOf false
set_option genSizeOfSpec false
set_option genInjectivity false
namespace Qu69

/-! iterators -/
inductive IterO (c : Cx) (g : PH) : Obj → List D → Prop where
  | list {o : Obj} {l : Addr} {i n : Nat} {vs : List Value} {ds : List D} (hc : o.cls = .type "list_iterator") (hd : o.data = .fields #[.ref l, .int i 0]) (hl : g l = some (listO vs n)) (r : RepL c g (vs.drop i) ds) : IterO c g o ds
  | tup {o ot : Obj} {l : Addr} {i n : Nat} {vs : List Value} {ds : List D} (hc : o.cls = .type "tuple_iterator") (hd : o.data = .fields #[.ref l, .int i 0]) (hl : g l = some ot) (hct : ot.cls = .type "tuple") (hdt : ot.data = .seq vs.toArray n) (r : RepL c g (vs.drop i) ds) : IterO c g o ds
  | rng {x step : Int} {left : Nat} : IterO c g { cls := .type "range_iterator", dict := none, data := .fields #[rawInt x, rawInt left, rawInt step], slots := #[] } (rgo x step left)
  | asc {o : Obj} {x : Str} {t : Tok} {i : Nat} {ds : List D} (hc : o.cls = .type "str_ascii_iterator") (hd : o.data = .fields #[.str x t, .int i 0]) (e : ds = (x.cps.toList.drop i).map fun k => D.str [k]) : IterO c g o ds
  | wide {o : Obj} {x : Str} {t : Tok} {i : Nat} {ds : List D} (hc : o.cls = .type "str_iterator") (hd : o.data = .fields #[.str x t, .int i 0]) (e : ds = (x.cps.toList.drop i).map fun k => D.str [k]) : IterO c g o ds

theorem IterO.mono {c : Cx} {g g' : PH} (k : PH.Le g g') {o : Obj} {ds : List D} (x : IterO c g o ds) : IterO c g' o ds := by
  cases x with
  | list hc hd hl r => exact .list hc hd (k _ _ hl) (r.mono k)
  | tup hc hd hl hct hdt r => exact .tup hc hd (k _ _ hl) hct hdt (r.mono k)
  | rng => exact .rng
  | asc hc hd e => exact .asc hc hd e
  | wide hc hd e => exact .wide hc hd e

noncomputable def iterD : D → Option (List D)
  | .list l => some l
  | .tuple l => some l
  | .str l => some (l.map fun k => .str [k])
  | .range a b k => if Builtin.Range.small a b k = true ∧ 0 ≤ Builtin.Range.rangeSize a b k then some (rgo a k (Builtin.Range.rangeSize a b k).toNat) else none
  | _ => none

theorem drop_cons {α : Type} {l : List α} {i : Nat} {x : α} {r : List α} (e : l.drop i = x :: r) : l[i]? = some x ∧ l.drop (i + 1) = r := by
  have h1 : l[i]? = some x := by rw [← List.head?_drop, e]; rfl
  refine ⟨h1, ?_⟩
  rw [← List.tail_drop, e]; rfl
theorem drop_nil {α : Type} {l : List α} {i : Nat} (e : l.drop i = []) : l[i]? = none := by
  rw [← List.head?_drop, e]; rfl

section
variable {prog : Program} {w : World} {c : Cx} {A : Around} {g : PH} {s : Shared} {n : Nat} {E : Value → Shared → Prop}
theorem iter_sound {v : Value} {d : D} {ds : List D} (hs : PH.Le g s.heap.get?) (r : Rep c g v d) (e : iterD d = some ds) {Q : Value → Shared → Prop}
    (q : ∀ o, o.isFreed = false → IterO c g o ds → Q (.ref s.heap.objs.size) { s with heap := s.heap.push o }) : wpAny (model prog w) A (pyIter v) Q E s := by
  cases d <;> try (exact no_some e)
  case str l =>
    obtain rfl := Option.some.inj e
    cases r with
    | str x l t e =>
      subst e
      cases ha : x.cps.all (· < 128)
      · exact wpAny_pyIter_wide ha (q _ rfl (.wide rfl rfl rfl))
      · exact wpAny_pyIter_ascii ha (q _ rfl (.asc rfl rfl rfl))
  case tuple l =>
    obtain rfl := Option.some.inj e
    cases r with
    | tuple ho hc hd rs => exact wpAny_pyIter_tuple ⟨_, hs _ _ ho, hc, _, hd⟩ (q _ rfl (.tup rfl rfl ho hc hd rs))
  case list l =>
    obtain rfl := Option.some.inj e
    cases r with
    | list ho rs => exact wpAny_pyIter_list ⟨_, hs _ _ ho, rfl, _, rfl⟩ (q _ rfl (.list rfl rfl ho rs))
  case range a b k =>
    obtain ⟨h, e⟩ := if_some e
    obtain rfl := Option.some.inj e
    cases r with
    | range ho =>
      refine wpAny_pyIter_range (hs _ _ ho) h.1 ?_
      have h2 := IterO.rng (c := c) (g := g) (x := a) (step := k) (left := (Builtin.Range.rangeSize a b k).toNat)
      rw [Int.toNat_of_nonneg h.2] at h2
      exact q _ rfl h2

theorem next_sound {it : Addr} {o : Obj} {ds : List D} (hA : AOk n A) (hs : PH.Le g s.heap.get?) (hg : g it = none) (ho : s.heap.get? it = some o) (x : IterO c g o ds) {Q : Option Value → Shared → Prop}
    (q1 : ∀ d ds', ds = d :: ds' → ∀ v h' o' tk, Heap.SameBut it s.heap h' → h'.get? it = some o' → IterO c g o' ds' → Rep c g v d → Q (some v) { s with heap := h', toks := tk })
    (q2 : ds = [] → ∀ h', Heap.ExtBut it s.heap h' → Q none { s with heap := h' }) : wpAny (model prog w) A (pyNext (.ref it)) Q E s := by
  cases x with
  | list hc hd hl r =>
    rename_i l i n vs
    have hL : s.heap.IsList l vs.toArray := ⟨_, hs _ _ hl, rfl, _, rfl⟩
    cases hv : vs.drop i with
    | nil =>
      rw [hv] at r
      cases r
      exact wpAny_pyNext_list_end hA.handled ⟨o, ho, hc, hd⟩ hL (by rw [List.getElem?_toArray]; exact drop_nil hv) (q2 rfl)
    | cons v r' =>
      rw [hv] at r
      cases r with
      | cons rv rs =>
        obtain ⟨h1, h2⟩ := drop_cons hv
        refine wpAny_pyNext_list_item ⟨o, ho, hc, hd⟩ hL (by rw [List.getElem?_toArray]; exact h1) fun h' hi hsb => ?_
        obtain ⟨o', ho', hc', hd'⟩ := hi
        exact q1 _ _ rfl v h' o' s.toks hsb ho' (.list hc' hd' hl (by rw [h2]; exact rs)) rv
  | tup hc hd hl hct hdt r =>
    rename_i ot l i n vs
    have hL : s.heap.IsTuple l vs.toArray := ⟨_, hs _ _ hl, hct, _, hdt⟩
    cases hv : vs.drop i with
    | nil =>
      rw [hv] at r
      cases r
      exact wpAny_pyNext_tuple_end hA.handled ⟨o, ho, hc, hd⟩ hL (by rw [List.getElem?_toArray]; exact drop_nil hv) (q2 rfl)
    | cons v r' =>
      rw [hv] at r
      cases r with
      | cons rv rs =>
        obtain ⟨h1, h2⟩ := drop_cons hv
        refine wpAny_pyNext_tuple_item ⟨o, ho, hc, hd⟩ hL (by rw [List.getElem?_toArray]; exact h1) fun h' hi hsb => ?_
        obtain ⟨o', ho', hc', hd'⟩ := hi
        exact q1 _ _ rfl v h' o' s.toks hsb ho' (.tup hc' hd' hl hct hdt (by rw [h2]; exact rs)) rv
  | rng =>
    rename_i x step left
    cases left with
    | zero => exact wpAny_pyNext_range_end hA.handled ho (by simp) (q2 rfl)
    | succ m =>
      refine wpAny_pyNext_range_item ho (by omega) fun h' hi hsb => ?_
      refine q1 _ _ rfl _ h' _ (s.toks + 1) hsb hi ?_ (.int _ _)
      have : ((m + 1 : Nat) : Int) - 1 = (m : Int) := by omega
      rw [this]; exact .rng
  | asc hc hd e =>
    rename_i x t i
    cases hv : x.cps.toList.drop i with
    | nil =>
      rw [hv] at e
      have := drop_nil hv
      exact wpAny_pyNext_ascii_end hA.handled ⟨o, ho, hc, hd⟩ (by rw [← Array.getElem?_toList]; exact this) (q2 e)
    | cons v r' =>
      rw [hv] at e
      obtain ⟨h1, h2⟩ := drop_cons hv
      refine wpAny_pyNext_ascii_item ⟨o, ho, hc, hd⟩ (by rw [← Array.getElem?_toList]; exact h1) fun h' hi hsb => ?_
      obtain ⟨o', ho', hc', hd'⟩ := hi
      exact q1 _ _ e _ h' o' (s.toks + 1) hsb ho' (.asc hc' hd' (by rw [h2])) (.str _ _ _ rfl)
  | wide hc hd e =>
    rename_i x t i
    cases hv : x.cps.toList.drop i with
    | nil =>
      rw [hv] at e
      have := drop_nil hv
      exact wpAny_pyNext_wide_end hA.handled ⟨o, ho, hc, hd⟩ (by rw [← Array.getElem?_toList]; exact this) (q2 e)
    | cons v r' =>
      rw [hv] at e
      obtain ⟨h1, h2⟩ := drop_cons hv
      refine wpAny_pyNext_wide_item ⟨o, ho, hc, hd⟩ (by rw [← Array.getElem?_toList]; exact h1) fun h' hi hsb => ?_
      obtain ⟨o', ho', hc', hd'⟩ := hi
      exact q1 _ _ e _ h' o' (s.toks + 1) hsb ho' (.wide hc' hd' (by rw [h2])) (.str _ _ _ rfl)
end
end Qu69
end

section
open PySem PySem.W PySem.Calls PyProof.Rows
set_option backward.match.sparseCases false
set_option genSizeOf false
set_option genSizeOfSpec false
set_option genInjectivity false
set_option genCtorIdx false
namespace Qu69

/-! local variables -/
set_option genCtorIdx true in
inductive LV where
  | un
  | d (x : D)
  | ml (l : List D)
  | self (ks : List Nat) (ds : List D)

/-! the small language -/
mutual
inductive IE where
  | none
  | bool (b : Bool)
  | int (i : Int)
  | str (l : List Nat)
  | var (i : Nat)
  | glob (k : Nat)
  | bin (op : BO) (a b : IE)
  | cmp (op : CO) (a b : IE)
  | inset (k : Nat) (a : IE)
  | and2 (a b : IE)
  | or2 (a b : IE)
  | ite (t : IT) (a b : IE)
  | blt (f : BF) (as : IEs)
  | fn (k : Nat) (as : IEs)
  | attr (k : Nat) (a : IE)
  | cattr (k : Nat)
  | meth0 (f : MF) (a : IE)
  | meth1 (f : MF) (a b : IE)
  | b3get (a : IE)
  | idx (a b : IE)
  | slc (a lo hi : IE)
  | tup (as : IEs)
  | lst (as : IEs)
  | lenM (i : Nat)
  | idxM (i : Nat) (b : IE)
  | selfA (i k : Nat)
inductive IEs where
  | nil
  | cons (a : IE) (as : IEs)
inductive IT where
  | t (e : IE)
  | cmp (op : CO) (a b : IE)
  | not (t : IT)
  | and (ts : ITs)
  | or (ts : ITs)
inductive ITs where
  | nil
  | cons (a : IT) (as : ITs)
end

structure Tab where
  gi : List (Str × Int)
  fns : List Str
  F : Nat → List D → Option D
  st : List (Str × List Int)
  b3 : Int → Option (List Nat)

noncomputable def findK : List Nat → List D → Nat → Option D
  | k :: ks, d :: ds, i => if k = i then some d else findK ks ds i
  | _, _, _ => none
noncomputable def attrD (k : Nat) : D → Option D
  | .inst ks ds => findK ks ds k
  | _ => none
noncomputable def optStr : Option (List Nat) → D
  | some l => .str l
  | none => .none

noncomputable def lvD : LV → Option D
  | .d x => some x
  | _ => none
noncomputable def insD : D → Str × List Int → Option D
  | .int i, p => some (.bool (p.2.contains i))
  | _, _ => none
noncomputable def cattrD : Nat → D
  | 0 => .str [32]
  | _ => .str [9]
noncomputable def b3D (T : Tab) : D → Option D
  | .int i => some (optStr (T.b3 i))
  | _ => none
noncomputable def tupD (xs : List D) : Option D := if xs.length ≤ 1000 then some (.tuple xs) else none
noncomputable def lstD (xs : List D) : Option D := if xs.length ≤ 1000 then some (.list xs) else none
noncomputable def lenLV : LV → Option D
  | .ml l => lenC l.length
  | _ => none
noncomputable def idxLV : LV → D → Option D
  | .ml l => idxL l
  | _ => fun _ => none
noncomputable def selfLV (k : Nat) : LV → Option D
  | .self ks ds => findK ks ds k
  | _ => none
section
variable (T : Tab) (rho : List LV)
mutual
noncomputable def evE : IE → Option D
  | .none => some .none
  | .bool b => some (.bool b)
  | .int i => some (.int i)
  | .str l => some (.str l)
  | .var i => bnd rho[i]? lvD
  | .glob k => with1 T.gi[k]? fun p => .int p.2
  | .bin op a b => bnd2 (evE a) (evE b) (binD op)
  | .cmp op a b => bnd2 (evE a) (evE b) fun x y => with1 (cmpD op x y) D.bool
  | .inset k a => bnd2 (evE a) T.st[k]? insD
  | .and2 a b => bnd (evE a) fun x => bnd (truthD x) fun t => cond t (evE b) (some x)
  | .or2 a b => bnd (evE a) fun x => bnd (truthD x) fun t => cond t (some x) (evE b)
  | .ite t a b => bnd (evT t) fun t => cond t (evE a) (evE b)
  | .blt f as => bnd (evEs as) (bltD f)
  | .fn k as => bnd (evEs as) (T.F k)
  | .attr k a => bnd (evE a) (attrD k)
  | .cattr k => some (cattrD k)
  | .meth0 f a => bnd (evE a) fun x => methD f x []
  | .meth1 f a b => bnd2 (evE a) (evE b) fun x y => methD f x [y]
  | .b3get a => bnd (evE a) (b3D T)
  | .idx a b => bnd2 (evE a) (evE b) idxD
  | .slc a lo hi => bnd3 (evE a) (evE lo) (evE hi) slcD
  | .tup as => bnd (evEs as) tupD
  | .lst as => bnd (evEs as) lstD
  | .lenM i => bnd rho[i]? lenLV
  | .idxM i b => bnd2 rho[i]? (evE b) idxLV
  | .selfA i k => bnd rho[i]? (selfLV k)
noncomputable def evEs : IEs → Option (List D)
  | .nil => some []
  | .cons a as => with2 (evE a) (evEs as) List.cons
noncomputable def evT : IT → Option Bool
  | .t e => bnd (evE e) truthD
  | .cmp op a b => bnd2 (evE a) (evE b) (cmpD op)
  | .not t => with1 (evT t) not
  | .and ts => evAnd ts
  | .or ts => evOr ts
noncomputable def evAnd : ITs → Option Bool
  | .nil => some true
  | .cons t ts => bnd (evT t) fun t => cond t (evAnd ts) (some false)
noncomputable def evOr : ITs → Option Bool
  | .nil => some false
  | .cons t ts => bnd (evT t) fun t => cond t (some true) (evOr ts)
end
end

/-! an expression looked at from outside -/
inductive EV where
  | const (c : Const)
  | name (x : Str) (p : Pos)
  | bin (l : Expr) (o : Operator) (r : Expr)
  | cmp (l : Expr) (o : CmpOp) (r : Expr)
  | bool (op : BoolOp) (xs : List Expr)
  | ife (u l r : Expr)
  | call (f : Expr) (xs : List Expr)
  | meth (o : Expr) (y : Str) (xs : List Expr)
  | attr (v : Expr) (y : Str)
  | sub (v i : Expr)
  | slc (v : Expr) (l h : Option Expr)
  | tup (xs : List Expr)
  | lst (xs : List Expr)
  | not (x : Expr)
  | other
noncomputable def viewCmp (l : Expr) : List CmpOp → List Expr → EV
  | [o], [r] => .cmp l o r
  | _, _ => .other
noncomputable def viewCall (f : Expr) (xs : List Expr) (p : Pos) : Expr → EV
  | .Attribute o y ap => if ap.endLine == p.line then .meth o y xs else .other
  | _ => .call f xs
noncomputable def viewKws (v : EV) : List Keyword → EV
  | [] => v
  | _ => .other
noncomputable def viewSlc (v : Expr) (l h : Option Expr) : Option Expr → EV
  | none => .slc v l h
  | _ => .other
noncomputable def viewSub (v i : Expr) : Expr → EV
  | .Slice l h st _ => viewSlc v l h st
  | _ => .sub v i
noncomputable def viewNot (x : Expr) : PySem.UnaryOp → EV
  | .Not => .not x
  | _ => .other
noncomputable def view : Expr → EV
  | .Constant c _ _ => .const c
  | .Name x p => .name x p
  | .BinOp l o r _ => .bin l o r
  | .Compare l os rs _ => viewCmp l os rs
  | .BoolOp op xs _ => .bool op xs
  | .IfExp u l r _ => .ife u l r
  | .Call f xs ks p => viewKws (viewCall f xs p f) ks
  | .Attribute v y _ => .attr v y
  | .Subscript v i _ => viewSub v i i
  | .Tuple xs _ _ => .tup xs
  | .List xs _ => .lst xs
  | .UnaryOp op x _ => viewNot x op
  | _ => .other
inductive EVR : EV → Expr → Prop where
  | const (c : Const) (k) (p : Pos) : EVR (.const c) (.Constant c k p)
  | name (x : Str) (p : Pos) : EVR (.name x p) (.Name x p)
  | bin (l : Expr) (o : Operator) (r : Expr) (p : Pos) : EVR (.bin l o r) (.BinOp l o r p)
  | cmp (l : Expr) (o : CmpOp) (r : Expr) (p : Pos) : EVR (.cmp l o r) (.Compare l [o] [r] p)
  | bool (op : BoolOp) (xs : List Expr) (p : Pos) : EVR (.bool op xs) (.BoolOp op xs p)
  | ife (u l r : Expr) (p : Pos) : EVR (.ife u l r) (.IfExp u l r p)
  | call (f : Expr) (xs : List Expr) (p : Pos) : EVR (.call f xs) (.Call f xs [] p)
  | meth (o : Expr) (y : Str) (xs : List Expr) (ap p : Pos) (h : (ap.endLine == p.line) = true) : EVR (.meth o y xs) (.Call (.Attribute o y ap) xs [] p)
  | attr (v : Expr) (y : Str) (p : Pos) : EVR (.attr v y) (.Attribute v y p)
  | sub (v i : Expr) (p : Pos) (h : isSliceE i = false) : EVR (.sub v i) (.Subscript v i p)
  | slc (v : Expr) (l h : Option Expr) (p p' : Pos) : EVR (.slc v l h) (.Subscript v (.Slice l h none p) p')
  | tup (xs : List Expr) (k) (p : Pos) : EVR (.tup xs) (.Tuple xs k p)
  | lst (xs : List Expr) (p : Pos) : EVR (.lst xs) (.List xs p)
  | not (x : Expr) (p : Pos) : EVR (.not x) (.UnaryOp .Not x p)
  | other (e : Expr) : EVR .other e
theorem view_cmp (l : Expr) (os : List CmpOp) (rs : List Expr) (p : Pos) : EVR (viewCmp l os rs) (.Compare l os rs p) := by
  rcases os with _ | ⟨o, _ | _⟩
  · exact .other _
  · rcases rs with _ | ⟨r, _ | _⟩
    · exact .other _
    · exact .cmp _ _ _ _
    · exact .other _
  · exact .other _
theorem view_call (f : Expr) (xs : List Expr) (p : Pos) : EVR (viewCall f xs p f) (.Call f xs [] p) := by
  cases f <;> try (exact .call _ _ _)
  rename_i o y ap
  show EVR (if (ap.endLine == p.line) = true then .meth o y xs else .other) _
  by_cases h : (ap.endLine == p.line) = true
  · rw [if_pos h]; exact .meth _ _ _ _ _ h
  · rw [if_neg h]; exact .other _
theorem view_sub (v i : Expr) (p : Pos) : EVR (viewSub v i i) (.Subscript v i p) := by
  cases i <;> try (exact .sub _ _ _ rfl)
  rename_i st _
  cases st
  · exact .slc _ _ _ _ _
  · exact .other _
theorem view_ok (e : Expr) : EVR (view e) e := by
  cases e <;> try (exact .other _)
  case Constant => exact .const _ _ _
  case Name => exact .name _ _
  case BinOp => exact .bin _ _ _ _
  case Compare => exact view_cmp _ _ _ _
  case BoolOp => exact .bool _ _ _
  case IfExp => exact .ife _ _ _ _
  case Call ks p =>
    cases ks
    · exact view_call _ _ _
    · exact .other _
  case Attribute => exact .attr _ _ _
  case Subscript => exact view_sub _ _ _
  case Tuple => exact .tup _ _ _
  case List => exact .lst _ _
  case UnaryOp op x p =>
    cases op <;> first | exact .not _ _ | exact .other _
noncomputable def onConst (q : Const → Bool) : EV → Bool
  | .const c => q c
  | _ => false
inductive ConstV (q : Const → Bool) : Expr → Prop where
  | mk (c : Const) (k) (p : Pos) (ok : q c = true) : ConstV q (.Constant c k p)
theorem onConst_inv {q : Const → Bool} {e : Expr} (ok : onConst q (view e) = true) : ConstV q e := by
  have r := view_ok e
  revert ok
  generalize view e = v at r
  induction r <;> try (exact no_true)
  exact fun ok => .mk _ _ _ ok

noncomputable def onName (q : Str → Pos → Bool) : EV → Bool
  | .name x p => q x p
  | _ => false
inductive NameV (q : Str → Pos → Bool) : Expr → Prop where
  | mk (x : Str) (p : Pos)  (ok : q x p = true) : NameV q (.Name x p)
theorem onName_inv {q : Str → Pos → Bool} {e : Expr} (ok : onName q (view e) = true) : NameV q e := by
  have r := view_ok e
  revert ok
  generalize view e = v at r
  induction r <;> try (exact no_true)
  exact fun ok => .mk _ _  ok

noncomputable def onBin (q : Expr → Operator → Expr → Bool) : EV → Bool
  | .bin l o r => q l o r
  | _ => false
inductive BinV (q : Expr → Operator → Expr → Bool) : Expr → Prop where
  | mk (l : Expr) (o : Operator) (r : Expr) (p : Pos) (ok : q l o r = true) : BinV q (.BinOp l o r p)
theorem onBin_inv {q : Expr → Operator → Expr → Bool} {e : Expr} (ok : onBin q (view e) = true) : BinV q e := by
  have r := view_ok e
  revert ok
  generalize view e = v at r
  induction r <;> try (exact no_true)
  exact fun ok => .mk _ _ _ _ ok

noncomputable def onCmp (q : Expr → CmpOp → Expr → Bool) : EV → Bool
  | .cmp l o r => q l o r
  | _ => false
inductive CmpV (q : Expr → CmpOp → Expr → Bool) : Expr → Prop where
  | mk (l : Expr) (o : CmpOp) (r : Expr) (p : Pos) (ok : q l o r = true) : CmpV q (.Compare l [o] [r] p)
theorem onCmp_inv {q : Expr → CmpOp → Expr → Bool} {e : Expr} (ok : onCmp q (view e) = true) : CmpV q e := by
  have r := view_ok e
  revert ok
  generalize view e = v at r
  induction r <;> try (exact no_true)
  exact fun ok => .mk _ _ _ _ ok

noncomputable def onBool (q : BoolOp → List Expr → Bool) : EV → Bool
  | .bool op xs => q op xs
  | _ => false
inductive BoolV (q : BoolOp → List Expr → Bool) : Expr → Prop where
  | mk (op : BoolOp) (xs : List Expr) (p : Pos) (ok : q op xs = true) : BoolV q (.BoolOp op xs p)
theorem onBool_inv {q : BoolOp → List Expr → Bool} {e : Expr} (ok : onBool q (view e) = true) : BoolV q e := by
  have r := view_ok e
  revert ok
  generalize view e = v at r
  induction r <;> try (exact no_true)
  exact fun ok => .mk _ _ _ ok

noncomputable def onIfe (q : Expr → Expr → Expr → Bool) : EV → Bool
  | .ife u l r => q u l r
  | _ => false
inductive IfeV (q : Expr → Expr → Expr → Bool) : Expr → Prop where
  | mk (u : Expr) (l : Expr) (r : Expr) (p : Pos) (ok : q u l r = true) : IfeV q (.IfExp u l r p)
theorem onIfe_inv {q : Expr → Expr → Expr → Bool} {e : Expr} (ok : onIfe q (view e) = true) : IfeV q e := by
  have r := view_ok e
  revert ok
  generalize view e = v at r
  induction r <;> try (exact no_true)
  exact fun ok => .mk _ _ _ _ ok

noncomputable def onCall (q : Expr → List Expr → Bool) : EV → Bool
  | .call f xs => q f xs
  | _ => false
inductive CallV (q : Expr → List Expr → Bool) : Expr → Prop where
  | mk (f : Expr) (xs : List Expr) (p : Pos) (ok : q f xs = true) : CallV q (.Call f xs [] p)
theorem onCall_inv {q : Expr → List Expr → Bool} {e : Expr} (ok : onCall q (view e) = true) : CallV q e := by
  have r := view_ok e
  revert ok
  generalize view e = v at r
  induction r <;> try (exact no_true)
  exact fun ok => .mk _ _ _ ok

noncomputable def onMeth (q : Expr → Str → List Expr → Bool) : EV → Bool
  | .meth o y xs => q o y xs
  | _ => false
inductive MethV (q : Expr → Str → List Expr → Bool) : Expr → Prop where
  | mk (o : Expr) (y : Str) (xs : List Expr) (ap : Pos) (p : Pos) (hl : (ap.endLine == p.line) = true) (ok : q o y xs = true) : MethV q (.Call (.Attribute o y ap) xs [] p)
theorem onMeth_inv {q : Expr → Str → List Expr → Bool} {e : Expr} (ok : onMeth q (view e) = true) : MethV q e := by
  have r := view_ok e
  revert ok
  generalize view e = v at r
  induction r <;> try (exact no_true)
  exact fun ok => .mk _ _ _ _ _ (by assumption) ok

noncomputable def onAttr (q : Expr → Str → Bool) : EV → Bool
  | .attr v y => q v y
  | _ => false
inductive AttrV (q : Expr → Str → Bool) : Expr → Prop where
  | mk (v : Expr) (y : Str) (p : Pos) (ok : q v y = true) : AttrV q (.Attribute v y p)
theorem onAttr_inv {q : Expr → Str → Bool} {e : Expr} (ok : onAttr q (view e) = true) : AttrV q e := by
  have r := view_ok e
  revert ok
  generalize view e = v at r
  induction r <;> try (exact no_true)
  exact fun ok => .mk _ _ _ ok

noncomputable def onSub (q : Expr → Expr → Bool) : EV → Bool
  | .sub v i => q v i
  | _ => false
inductive SubV (q : Expr → Expr → Bool) : Expr → Prop where
  | mk (v : Expr) (i : Expr) (p : Pos) (hs : isSliceE i = false) (ok : q v i = true) : SubV q (.Subscript v i p)
theorem onSub_inv {q : Expr → Expr → Bool} {e : Expr} (ok : onSub q (view e) = true) : SubV q e := by
  have r := view_ok e
  revert ok
  generalize view e = v at r
  induction r <;> try (exact no_true)
  exact fun ok => .mk _ _ _ (by assumption) ok

noncomputable def onSlc (q : Expr → Option Expr → Option Expr → Bool) : EV → Bool
  | .slc v l h => q v l h
  | _ => false
inductive SlcV (q : Expr → Option Expr → Option Expr → Bool) : Expr → Prop where
  | mk (v : Expr) (l : Option Expr) (h : Option Expr) (p : Pos) (p' : Pos) (ok : q v l h = true) : SlcV q (.Subscript v (.Slice l h none p) p')
theorem onSlc_inv {q : Expr → Option Expr → Option Expr → Bool} {e : Expr} (ok : onSlc q (view e) = true) : SlcV q e := by
  have r := view_ok e
  revert ok
  generalize view e = v at r
  induction r <;> try (exact no_true)
  exact fun ok => .mk _ _ _ _ _ ok

noncomputable def onTup (q : List Expr → Bool) : EV → Bool
  | .tup xs => q xs
  | _ => false
inductive TpV (q : List Expr → Bool) : Expr → Prop where
  | mk (xs : List Expr) (k) (p : Pos) (ok : q xs = true) : TpV q (.Tuple xs k p)
theorem onTup_inv {q : List Expr → Bool} {e : Expr} (ok : onTup q (view e) = true) : TpV q e := by
  have r := view_ok e
  revert ok
  generalize view e = v at r
  induction r <;> try (exact no_true)
  exact fun ok => .mk _ _ _ ok

noncomputable def onLst (q : List Expr → Bool) : EV → Bool
  | .lst xs => q xs
  | _ => false
inductive LstV (q : List Expr → Bool) : Expr → Prop where
  | mk (xs : List Expr) (p : Pos) (ok : q xs = true) : LstV q (.List xs p)
theorem onLst_inv {q : List Expr → Bool} {e : Expr} (ok : onLst q (view e) = true) : LstV q e := by
  have r := view_ok e
  revert ok
  generalize view e = v at r
  induction r <;> try (exact no_true)
  exact fun ok => .mk _ _ ok

noncomputable def onNot (q : Expr → Bool) : EV → Bool
  | .not x => q x
  | _ => false
inductive NotV (q : Expr → Bool) : Expr → Prop where
  | mk (x : Expr) (p : Pos) (ok : q x = true) : NotV q (.UnaryOp .Not x p)
theorem onNot_inv {q : Expr → Bool} {e : Expr} (ok : onNot q (view e) = true) : NotV q e := by
  have r := view_ok e
  revert ok
  generalize view e = v at r
  induction r <;> try (exact no_true)
  exact fun ok => .mk _ _ ok

/-! the checker -/
noncomputable def notStar : Expr → Bool
  | .Starred .. => false
  | _ => true
noncomputable def isNm (nm : List Str) (i : Nat) (e : Expr) : Bool := onName (fun x _ => decide (nm[i]? = some x) && !(x == ("__debug__" : Str))) (view e)
noncomputable def isGl (sc : Scope) (x : Str) (e : Expr) : Bool := onName (fun y _ => decide (y = x) && (decide (sc.names.lookup x = some .globalImplicit) && !(x == ("__debug__" : Str)))) (view e)
noncomputable def isAt {α : Type} (x : Option α) (p : α → Bool) : Bool := match x with
  | some a => p a
  | none => false
inductive AtV {α : Type} (x : Option α) (p : α → Bool) : Prop where
  | mk (a : α) (h : x = some a) (ok : p a = true)
theorem isAt_inv {α : Type} {x : Option α} {p : α → Bool} (h : isAt x p = true) : AtV x p := by
  cases x with
  | none => exact no_true h
  | some a => exact .mk a rfl h
noncomputable def one1 (p : Expr → Bool) : List Expr → Bool
  | [x] => p x
  | _ => false
inductive OneV (p : Expr → Bool) : List Expr → Prop where
  | mk (x : Expr) (ok : p x = true) : OneV p [x]
theorem one1_inv {p : Expr → Bool} {xs : List Expr} (h : one1 p xs = true) : OneV p xs := by
  rcases xs with _ | ⟨x, _ | _⟩
  · exact no_true h
  · exact .mk x h
  · exact no_true h
noncomputable def two2 (p : Expr → Expr → Bool) : List Expr → Bool
  | [x, y] => p x y
  | _ => false
inductive TwoV (p : Expr → Expr → Bool) : List Expr → Prop where
  | mk (x y : Expr) (ok : p x y = true) : TwoV p [x, y]
theorem two2_inv {p : Expr → Expr → Bool} {xs : List Expr} (h : two2 p xs = true) : TwoV p xs := by
  rcases xs with _ | ⟨x, _ | ⟨y, _ | _⟩⟩
  · exact no_true h
  · exact no_true h
  · exact .mk x y h
  · exact no_true h
noncomputable def consE {α : Type} (p : α → List α → Bool) : List α → Bool
  | x :: xs => p x xs
  | [] => false
inductive ConsV {α : Type} (p : α → List α → Bool) : List α → Prop where
  | mk (x : α) (xs : List α) (ok : p x xs = true) : ConsV p (x :: xs)
theorem consE_inv {α : Type} {p : α → List α → Bool} {xs : List α} (h : consE p xs = true) : ConsV p xs := by
  cases xs with
  | nil => exact no_true h
  | cons x xs => exact .mk x xs h
noncomputable def atomE : Expr → Bool
  | .Name .. => true
  | .Subscript .. => true
  | _ => false
noncomputable def plainBase : Expr → Bool
  | .Name .. => true
  | .Call _ (_ :: _) _ _ => true
  | _ => false
noncomputable def cattrN : Nat → Str
  | 0 => "S"
  | _ => "T"
noncomputable def isNoneE : IE → Bool
  | .none => true
  | _ => false
noncomputable def cNone : Const → Bool
  | .none => true
  | _ => false
noncomputable def cBool (b : Bool) : Const → Bool
  | .bool c => b == c
  | _ => false
noncomputable def cInt (i : Int) : Const → Bool
  | .int j => i == j
  | _ => false
noncomputable def cStr (l : List Nat) : Const → Bool
  | .str x => decide (x.cps.toList = l)
  | _ => false
noncomputable def isAnd : BoolOp → Bool
  | .And => true
  | .Or => false
noncomputable def optE (n : Bool) (p : Expr → Bool) : Option Expr → Bool
  | some e => p e
  | none => n

section
variable (T : Tab) (sc : Scope) (nm : List Str)
mutual
noncomputable def chkE : IE → Expr → Bool
  | .none, e => onConst cNone (view e)
  | .bool b, e => onConst (cBool b) (view e)
  | .int i, e => onConst (cInt i) (view e)
  | .str l, e => onConst (cStr l) (view e)
  | .var i, e => isNm nm i e
  | .glob k, e => isAt T.gi[k]? fun p => isGl sc p.1 e
  | .bin op a b, e => onBin (fun l o r => decide (o = op.op) && (chkE a l && chkE b r)) (view e)
  | .cmp op a b, e => onCmp (fun l o r => decide (o = op.op) && (!behindInMarks o r && (chkE a l && chkE b r))) (view e)
  | .inset k a, e => onCmp (fun l o r => decide (o = .In) && (isAt T.st[k]? (fun p => isGl sc p.1 r) && chkE a l)) (view e)
  | .and2 a b, e => onBool (fun op xs => isAnd op && two2 (fun l r => chkE a l && chkE b r) xs) (view e)
  | .or2 a b, e => onBool (fun op xs => !isAnd op && two2 (fun l r => chkE a l && chkE b r) xs) (view e)
  | .ite t a b, e => onIfe (fun u l r => chkT t u && (chkE a l && chkE b r)) (view e)
  | .blt f as, e => onCall (fun g xs => isGl sc f.nm g && (!xs.isEmpty && chkEs as xs)) (view e)
  | .fn k as, e => onCall (fun g xs => isAt T.fns[k]? (fun y => isGl sc y g) && (!xs.isEmpty && chkEs as xs)) (view e)
  | .attr k a, e => onAttr (fun v y => decide (y = atn k ∧ k ≤ 4) && (plainBase v && chkE a v)) (view e)
  | .cattr k, e => onAttr (fun v y => decide (y = cattrN k) && isGl sc "Whitespace" v) (view e)
  | .meth0 f a, e => onMeth (fun o y xs => decide (y = f.nm) && (atomE o && (xs.isEmpty && chkE a o))) (view e)
  | .meth1 f a b, e => onMeth (fun o y xs => decide (y = f.nm) && (atomE o && (chkE a o && one1 (fun x => notStar x && chkE b x) xs))) (view e)
  | .b3get a, e => onMeth (fun o y xs => decide (y = "get") && (isGl sc "b3_exceptions" o && one1 (fun x => notStar x && chkE a x) xs)) (view e)
  | .idx a b, e => onSub (fun v i => chkE a v && chkE b i) (view e)
  | .slc a lo hi, e => onSlc (fun v l h => chkE a v && (optE (isNoneE lo) (chkE lo) l && optE (isNoneE hi) (chkE hi) h)) (view e)
  | .tup as, e => onTup (chkEs as) (view e)
  | .lst as, e => onLst (chkEs as) (view e)
  | .lenM i, e => onCall (fun g xs => isGl sc BF.len.nm g && one1 (isNm nm i) xs) (view e)
  | .idxM i b, e => onSub (fun v j => isNm nm i v && chkE b j) (view e)
  | .selfA i k, e => onAttr (fun v y => decide (y = atn k ∧ k ≤ 4) && isNm nm i v) (view e)
noncomputable def chkEs : IEs → List Expr → Bool
  | .nil, xs => xs.isEmpty
  | .cons a as, xs => consE (fun x xs => notStar x && (chkE a x && chkEs as xs)) xs
noncomputable def chkT : IT → Expr → Bool
  | .t a, e => atomE e && chkE a e
  | .cmp op a b, e => onCmp (fun l o r => decide (o = op.op) && (!behindInMarks o r && (chkE a l && chkE b r))) (view e)
  | .not t, e => onNot (chkT t) (view e)
  | .and ts, e => onBool (fun op xs => isAnd op && chkTs ts xs) (view e)
  | .or ts, e => onBool (fun op xs => !isAnd op && chkTs ts xs) (view e)
noncomputable def chkTs : ITs → List Expr → Bool
  | .nil, xs => xs.isEmpty
  | .cons a as, xs => consE (fun x xs => chkT a x && chkTs as xs) xs
end
end
end Qu69
end

section
open PySem PySem.W PySem.Calls PyProof.Rows
set_option backward.match.sparseCases false
set_option genSizeOf false
set_option genSizeOfSpec false
set_option genInjectivity false
set_option genCtorIdx false
namespace Qu69

/-! reading a name -/
inductive Rd (env : Env) (h : Heap) (x : Str) (v : Value) : Prop where
  | loc (m : Str → Option Value) (hk : env.kindOf x = some .local) (hn : h.Ns env.locals m) (hv : m x = some v)
  | cell (a : Addr) (hk : env.kindOf x = some .cell) (hc : env.cells.lookup x = some a) (hv : h.IsCell a (some v))
  | free (a : Addr) (hk : env.kindOf x = some .free) (hc : env.cells.lookup x = some a) (hv : h.IsCell a (some v)) (hd : (x == ("__classdict__" : Str)) = false)
theorem Rd.keeps {env : Env} {h h' : Heap} {x : Str} {v : Value} (r : Rd env h x v) (k : Keeps h h') : Rd env h' x v := by
  cases r with
  | loc m hk hn hv => exact .loc m hk (hn.keeps k) hv
  | cell a hk hc hv => exact .cell a hk hc (hv.keeps k)
  | free a hk hc hv hd => exact .free a hk hc (hv.keeps k) hd

noncomputable def VarOK (c : Cx) (g : PH) (h : Heap) (env : Env) (x : Str) : LV → Prop
  | .un => True
  | .d d => ∃ v, Rd env h x v ∧ Rep c g v d
  | .ml l => ∃ a vs n, Rd env h x (.ref a) ∧ h.get? a = some (listO vs n) ∧ RepL c g vs l
  | .self ks ds => ∃ a dx es n vs, Rd env h x (.ref a) ∧ h.get? a = some (instObj c.C dx) ∧ h.get? dx = some (dictOf es n) ∧ EntriesAre c.P ks vs es ∧ RepL c g vs ds
theorem VarOK.keeps {c : Cx} {g g' : PH} {h h' : Heap} {env : Env} {x : Str} {lv : LV} (r : VarOK c g h env x lv) (k : Keeps h h') (l : PH.Le g g') : VarOK c g' h' env x lv := by
  cases lv with
  | un => trivial
  | d d => obtain ⟨v, a, b⟩ := r; exact ⟨v, a.keeps k, b.mono l⟩
  | ml ds => obtain ⟨a, vs, n, p, q, r⟩ := r; exact ⟨a, vs, n, p.keeps k, k _ _ q, r.mono l⟩
  | self ks ds => obtain ⟨a, dx, es, n, vs, p, q, r, t, u⟩ := r; exact ⟨a, dx, es, n, vs, p.keeps k, k _ _ q, k _ _ r, t, u.mono l⟩

/-! what the module gives -/
structure Gl (prog : Program) (w : World) (c : Cx) (hB : Heap) (mg mb : Str → Option Value) (T : Tab) : Prop where
  nsG : hB.Ns mainGlobals mg
  nsB : hB.Ns builtinsNs mb
  nol : hB.NoLimit
  gi : ∀ (k : Nat) x i, T.gi[k]? = some (x, i) → ∃ t, mg x = some (.int i t)
  blt : ∀ f : BF, mg f.nm = none ∧ mb f.nm = some f.val
  fns : ∀ (k : Nat) x, T.fns[k]? = some x → ∃ a, mg x = some (.ref a) ∧ ∃ kp, (kp = Keeper.frame ∨ kp = Keeper.machine ∨ kp = Keeper.boundFrame) ∧ Looks (model prog w) hB (keeperOf (.ref a)) kp
  st : ∀ (k : Nat) x l, T.st[k]? = some (x, l) → ∃ a, mg x = some (.ref a) ∧ ∀ (A : Around) (s : Shared) (i : Int) (t : Tok) (Q : Value → Shared → Prop), Keeps hB s.heap → (∀ tk, Q (.bool (l.contains i)) { s with toks := tk }) → wpAny (model prog w) A (compareOp .In (.int i t) (.ref a)) Q (fun _ _ => False) s
  cls : mg "Whitespace" = some (.ref c.C)
  cat : ∀ (k : Nat) (A : Around) (s : Shared) (Q : Value → Shared → Prop), Keeps hB s.heap → (∀ t tk, Q (.str (if k = 0 then ⟨#[32]⟩ else ⟨#[9]⟩) t) { s with toks := tk }) → wpAny (model prog w) A (getAttr (.ref c.C) (cattrN k) true) Q (fun _ _ => False) s
  att : ∀ (k : Nat) (A : Around) (s : Shared) (Q : Value → Shared → Prop) (a dx : Addr) (es : List DictEntry) (n : Nat) (ks : List Nat) (vs : List Value) (v : Value) (i : Nat), k ≤ 4 → Keeps hB s.heap → s.heap.get? a = some (instObj c.C dx) → s.heap.get? dx = some (dictOf es n) → EntriesAre c.P ks vs es →
    ks.idxOf k = i → ks[i]? = some k → vs[i]? = some v → (∀ tk, Q v { s with toks := tk }) → handedIn v = true → wpAny (model prog w) A (getAttr (.ref a) (atn k) true) Q (fun _ _ => False) s
  b3 : ∃ a o, mg "b3_exceptions" = some (.ref a) ∧ hB.get? a = some o ∧ o.cls = .type "dict" ∧ o.dict = none ∧ ∀ (A : Around) (s : Shared) (i : Int) (t : Tok) (Q : Value → Shared → Prop), Keeps hB s.heap →
    (∀ v tk, (v = .none ∧ T.b3 i = none ∨ ∃ x u, v = .str x u ∧ T.b3 i = some x.cps.toList) → Q v { s with toks := tk }) → wpAny (model prog w) A (call (.builtin "dict.get") [.ref a, .int i t]) Q (fun _ _ => False) s

/-! calls of the program's own functions -/
noncomputable def FOK (prog : Program) (w : World) (c : Cx) (hB : Heap) (mg : Str → Option Value) (T : Tab) (n : Nat) : Prop :=
  ∀ (k : Nat) x a ds d, T.fns[k]? = some x → mg x = some (.ref a) → T.F k ds = some d → ∀ (A : Around) (g : PH) (s : Shared) (vs : List Value), AOk n A → PH.Le hB.get? g → PH.Le g s.heap.get? → RepL c g vs ds → EvP prog w c A g s (call (.ref a) vs) d

structure ESt (c : Cx) (hB : Heap) (env : Env) (nm : List Str) (rho : List LV) (g : PH) (h : Heap) : Prop where
  kind : env.scope.kind = .function
  glo : env.globals = mainGlobals
  bui : env.builtins = builtinsNs
  base : PH.Le hB.get? g
  sub : PH.Le g h.get?
  vars : ∀ (i : Nat) x lv, nm[i]? = some x → rho[i]? = some lv → VarOK c g h env x lv

section
variable {prog : Program} {w : World} {c : Cx} {hB : Heap} {mg mb : Str → Option Value} {T : Tab} {env : Env} {nm : List Str} {rho : List LV} {A : Around} {g : PH} {s : Shared} {n : Nat} {E : Value → Shared → Prop}
theorem ESt.step {h h' : Heap} (S : ESt c hB env nm rho g h) (k : Keeps h h') : ESt c hB env nm rho (ext g h h') h' :=
  ⟨S.kind, S.glo, S.bui, S.base.trans (le_ext S.sub), ext_sub S.sub k, fun i x lv a b => (S.vars i x lv a b).keeps k (le_ext S.sub)⟩
theorem ESt.keeps {h : Heap} (S : ESt c hB env nm rho g h) : Keeps hB h := S.base.trans S.sub

theorem Rd.load {x : Str} {v : Value} {pos : Pos} {Q : Value → Shared → Prop} (hk : env.scope.kind = .function) (r : Rd env s.heap x v) (q : Q v s) (hd : (x == ("__debug__" : Str)) = false) : wpAny (model prog w) A (eval (.Name x pos) env) Q E s := by
  refine wpAny_Name ?_ hd
  cases r with
  | loc m hl hn hv => exact wpAny_loadName_local hk hl hn hv q
  | cell a hl hc hv => exact wpAny_loadName_cell hk hl hc hv q
  | free a hl hc hv hd => exact wpAny_loadName_free hk hl hc hv q hd

/-- going on from where an evaluation began -/
theorem EvP.from {h₀ : Heap} {t : Sem Value} {d : D} (e : EvP prog w c A (ext g h₀ s.heap) s t d) (k : Keeps h₀ s.heap) {Q : Value → Shared → Prop}
    (q : ∀ v h' tk, Keeps h₀ h' → Keeps s.heap h' → Rep c (ext g h₀ h') v d → Q v { s with heap := h', toks := tk }) : wpAny (model prog w) A t Q (fun _ _ => False) s :=
  e Q fun v h' tk k' r => q v h' tk (k.trans k') k' (r.mono (ext_trans k k'))

inductive GlV (sc : Scope) (x : Str) : Expr → Prop where
  | mk (p : Pos) (hx : sc.names.lookup x = some .globalImplicit) (hd : (x == ("__debug__" : Str)) = false) : GlV sc x (.Name x p)
inductive NmV (nm : List Str) (i : Nat) : Expr → Prop where
  | mk (x : Str) (p : Pos) (hx : nm[i]? = some x) (hd : (x == ("__debug__" : Str)) = false) : NmV nm i (.Name x p)
theorem isGl_inv {sc : Scope} {x : Str} {e : Expr} (h : isGl sc x e = true) : GlV sc x e := by
  replace h := onName_inv h
  induction h with
  | mk y p ok =>
    obtain ⟨h1, h2⟩ := and_tt ok
    obtain ⟨h2, h3⟩ := and_tt h2
    obtain rfl := of_decide_eq_true h1
    exact .mk p (of_decide_eq_true h2) (not_tt h3)
theorem isNm_inv {i : Nat} {e : Expr} (h : isNm nm i e = true) : NmV nm i e := by
  replace h := onName_inv h
  induction h with
  | mk y p ok =>
    obtain ⟨h1, h2⟩ := and_tt ok
    exact .mk y p (of_decide_eq_true h1) (not_tt h2)
theorem gl_load {x : Str} {p : Pos} {v : Value} {Q : Value → Shared → Prop} (G : Gl prog w c hB mg mb T) (S : ESt c hB env nm rho g s.heap) (hx : env.scope.names.lookup x = some .globalImplicit) (hd : (x == ("__debug__" : Str)) = false)
    (hv : mg x = some v) (q : Q v s) : wpAny (model prog w) A (eval (.Name x p) env) Q E s :=
  Name_function_global S.kind hx (loadGlobal_global (by rw [S.glo]; exact G.nsG.keeps S.keeps) hv q) hd
theorem bl_load {x : Str} {p : Pos} {v : Value} {Q : Value → Shared → Prop} (G : Gl prog w c hB mg mb T) (S : ESt c hB env nm rho g s.heap) (hx : env.scope.names.lookup x = some .globalImplicit) (hd : (x == ("__debug__" : Str)) = false)
    (hm : mg x = none) (hv : mb x = some v) (q : Q v s) : wpAny (model prog w) A (eval (.Name x p) env) Q E s :=
  Name_function_global S.kind hx (loadGlobal_builtin (by rw [S.glo]; exact G.nsG.keeps S.keeps) hm (by rw [S.bui]; exact G.nsB.keeps S.keeps) hv q) hd
end
end Qu69
end

section
open PySem PySem.W PySem.Calls PyProof.Rows
set_option backward.match.sparseCases false
set_option genSizeOf false
set_option genSizeOfSpec false
set_option genInjectivity false
set_option genCtorIdx false
namespace Qu69

section
variable {prog : Program} {w : World} {c : Cx} {hB : Heap} {mg mb : Str → Option Value} {T : Tab} {env : Env} {nm : List Str} {rho : List LV} {A : Around} {g : PH} {s : Shared} {n : Nat}

noncomputable def SndE (prog : Program) (w : World) (c : Cx) (hB : Heap) (T : Tab) (env : Env) (nm : List Str) (n : Nat) (ir : IE) : Prop :=
  ∀ e, chkE T env.scope nm ir e = true → ∀ (A : Around) (g : PH) (s : Shared) (rho : List LV) (d : D), AOk n A → ESt c hB env nm rho g s.heap → evE T rho ir = some d → EvP prog w c A g s (eval e env) d
noncomputable def SndEs (prog : Program) (w : World) (c : Cx) (hB : Heap) (T : Tab) (env : Env) (nm : List Str) (n : Nat) (ir : IEs) : Prop :=
  ∀ es, chkEs T env.scope nm ir es = true → ∀ (A : Around) (g : PH) (s : Shared) (rho : List LV) (ds : List D), AOk n A → ESt c hB env nm rho g s.heap → evEs T rho ir = some ds → ∀ (pos : Pos) (Q : List Value → Shared → Prop),
    (∀ vs h' tk, Keeps s.heap h' → RepL c (ext g s.heap h') vs ds → Q vs { s with heap := h', toks := tk }) → wpAny (model prog w) A (spliced (backTo pos (starEach es env))) Q (fun _ _ => False) s
noncomputable def SndT (prog : Program) (w : World) (c : Cx) (hB : Heap) (T : Tab) (env : Env) (nm : List Str) (n : Nat) (ir : IT) : Prop :=
  ∀ e, chkT T env.scope nm ir e = true → ∀ (A : Around) (g : PH) (s : Shared) (rho : List LV) (b : Bool), AOk n A → ESt c hB env nm rho g s.heap → evT T rho ir = some b → ∀ (Q : Bool → Shared → Prop),
    (∀ h' tk, Keeps s.heap h' → Q b { s with heap := h', toks := tk }) → wpAny (model prog w) A (isTrue e env (eval e env)) Q (fun _ _ => False) s
noncomputable def SndA (prog : Program) (w : World) (c : Cx) (hB : Heap) (T : Tab) (env : Env) (nm : List Str) (n : Nat) (ir : ITs) : Prop :=
  ∀ es, chkTs T env.scope nm ir es = true → ∀ (A : Around) (g : PH) (s : Shared) (rho : List LV) (b : Bool), AOk n A → ESt c hB env nm rho g s.heap → ∀ (pos : Pos) (Q : Bool → Shared → Prop) (whole : Sem Value),
    (∀ h' tk, Keeps s.heap h' → Q b { s with heap := h', toks := tk }) →
    (evAnd T rho ir = some b → wpAny (model prog w) A (isTrue (.BoolOp .And es pos) env whole) Q (fun _ _ => False) s) ∧ (evOr T rho ir = some b → wpAny (model prog w) A (isTrue (.BoolOp .Or es pos) env whole) Q (fun _ _ => False) s)

theorem two {a b : IE} {l r : Expr} {x y : D} {Q : Value → Value → Shared → Prop} (ha : SndE prog w c hB T env nm n a) (hb : SndE prog w c hB T env nm n b) (cl : chkE T env.scope nm a l = true) (cr : chkE T env.scope nm b r = true)
    (hA : AOk n A) (S : ESt c hB env nm rho g s.heap) (ex : evE T rho a = some x) (ey : evE T rho b = some y)
    (q : ∀ v₁ v₂ h' tk, Keeps s.heap h' → Rep c (ext g s.heap h') v₁ x → Rep c (ext g s.heap h') v₂ y → ESt c hB env nm rho (ext g s.heap h') h' → Q v₁ v₂ { s with heap := h', toks := tk }) :
    wpAny (model prog w) A (eval l env) (fun v₁ s₁ => wpAny (model prog w) A (eval r env) (fun v₂ s₂ => Q v₁ v₂ s₂) (fun _ _ => False) s₁) (fun _ _ => False) s := by
  refine ha l cl A g s rho x hA S ex _ fun v₁ h₁ t₁ k₁ r₁ => ?_
  refine (hb r cr A _ { s with heap := h₁, toks := t₁ } rho y hA (S.step k₁) ey).from (h₀ := s.heap) (g := g) k₁ fun v₂ h₂ t₂ k₂ k₂' r₂ => ?_
  exact q v₁ v₂ h₂ t₂ k₂ (r₁.mono ((le_ext (ext_sub S.sub k₁)).trans (ext_trans k₁ k₂'))) r₂ (S.step k₂)

theorem snd_bin (op : BO) {a b : IE} (ha : SndE prog w c hB T env nm n a) (hb : SndE prog w c hB T env nm n b) : SndE prog w c hB T env nm n (.bin op a b) := by
  intro e ce A g s rho d hA S ee
  obtain ⟨x, y, ex, ey, ee⟩ := bnd2_inv (f := binD op) ee
  replace ce := onBin_inv ce
  induction ce with
  | mk l o r p ok =>
    obtain ⟨h, ok1⟩ := and_tt ok
    obtain rfl := of_decide_eq_true h
    obtain ⟨cl, cr⟩ := and_tt ok1
    intro Q q
    exact wpAny_BinOp (two ha hb cl cr hA S ex ey fun v₁ v₂ h' tk k r₁ r₂ S' =>
      EvP.from (bin_sound S'.sub r₁ r₂ ee) k fun v h'' tk' k' _ r => q v h'' tk' k' r)

theorem star_cons {x : Expr} {xs : List Expr} (h : notStar x = true) : starEach (x :: xs) env = (false, eval x env) :: starEach xs env := by
  cases x <;> first | rfl | exact no_true h
theorem backTo_cons {pos : Pos} {t : Sem Value} {r : List (Bool × Sem Value)} : backTo pos ((false, t) :: r) = (false, t) :: backTo pos r := rfl
theorem chk_nil {es : List Expr} (h : chkEs T env.scope nm .nil es = true) : es = [] := List.isEmpty_iff.mp h
theorem chk_cons {a : IE} {as : IEs} {es : List Expr} (h : chkEs T env.scope nm (.cons a as) es = true) : ConsV (fun x xs => notStar x && (chkE T env.scope nm a x && chkEs T env.scope nm as xs)) es := consE_inv h
theorem star_any {pos : Pos} {ir : IEs} : ∀ {es : List Expr}, chkEs T env.scope nm ir es = true → (backTo pos (starEach es env)).any (·.1) = false :=
  IEs.rec (motive_1 := fun _ => True) (motive_2 := fun ir => ∀ {es : List Expr}, chkEs T env.scope nm ir es = true → (backTo pos (starEach es env)).any (·.1) = false) (motive_3 := fun _ => True) (motive_4 := fun _ => True)
    .intro (fun _ => .intro) (fun _ => .intro) (fun _ => .intro) (fun _ => .intro) (fun _ => .intro) (fun _ _ _ _ _ => .intro) (fun _ _ _ _ _ => .intro) (fun _ _ _ => .intro) (fun _ _ _ _ => .intro) (fun _ _ _ _ => .intro) (fun _ _ _ _ _ _ => .intro) (fun _ _ _ => .intro) (fun _ _ _ => .intro)
    (fun _ _ _ => .intro) (fun _ => .intro) (fun _ _ _ => .intro) (fun _ _ _ _ _ => .intro) (fun _ _ => .intro) (fun _ _ _ _ => .intro) (fun _ _ _ _ _ _ => .intro) (fun _ _ => .intro) (fun _ _ => .intro) (fun _ => .intro) (fun _ _ _ => .intro) (fun _ _ => .intro)
    (fun h => by rw [chk_nil h]; rfl)
    (fun _ _ _ ih _ h => by
      obtain ⟨x, xs, ok⟩ := chk_cons h
      obtain ⟨h1, ok1⟩ := and_tt ok
      rw [star_cons h1, backTo_cons, List.any_cons, ih (and_tt ok1).2]; rfl)
    (fun _ _ => .intro) (fun _ _ _ _ _ => .intro) (fun _ _ => .intro) (fun _ _ => .intro) (fun _ _ => .intro) .intro (fun _ _ _ _ => .intro) ir
theorem chkEs_head {ir : IEs} {x : Expr} {xs : List Expr} (h : chkEs T env.scope nm ir (x :: xs) = true) : notStar x = true := by
  cases ir
  · exact no_true h
  · exact (and_tt (a := notStar x) h).1

theorem snd_nil : SndEs prog w c hB T env nm n .nil := by
  intro es ce A g s rho ds hA S ee pos Q q
  obtain rfl := chk_nil ce
  obtain rfl := Option.some.inj ee
  exact spliced_nil (q [] s.heap s.toks (PH.Le.refl _) .nil)
theorem snd_cons {a : IE} {as : IEs} (ha : SndE prog w c hB T env nm n a) (hs : SndEs prog w c hB T env nm n as) : SndEs prog w c hB T env nm n (.cons a as) := by
  intro es ce A g s rho ds hA S ee pos Q q
  obtain ⟨y, ys, ey, eys, rfl⟩ := two_some (f := List.cons) ee
  replace ce := chk_cons ce
  induction ce with
  | mk x xs ok =>
    obtain ⟨h1, ok1⟩ := and_tt ok
    obtain ⟨h2, h3⟩ := and_tt ok1
    rw [star_cons h1, backTo_cons]
    refine spliced_cons (ha x h2 A g s rho y hA S ey _ fun v h₁ t₁ k₁ r₁ => ?_)
    refine hs xs h3 A _ { s with heap := h₁, toks := t₁ } rho ys hA (S.step k₁) eys pos _ fun vs h₂ t₂ k₂ r₂ => ?_
    exact q _ h₂ t₂ (k₁.trans k₂) (.cons (r₁.mono ((le_ext (ext_sub S.sub k₁)).trans (ext_trans k₁ k₂))) (r₂.mono (ext_trans k₁ k₂)))

theorem cNone_inv {c : Const} (h : cNone c = true) : c = .none := by cases c <;> first | rfl | exact no_true h
theorem cBool_inv {b : Bool} {c : Const} (h : cBool b c = true) : c = .bool b := by
  cases c <;> try (exact no_true h)
  exact congrArg Const.bool (eq_of_beq h).symm
theorem cInt_inv {b : Int} {c : Const} (h : cInt b c = true) : c = .int b := by
  cases c <;> try (exact no_true h)
  exact congrArg Const.int (eq_of_beq h).symm
theorem cStr_inv {l : List Nat} {c : Const} (h : cStr l c = true) : ∃ x, c = .str x ∧ x.cps.toList = l := by
  cases c <;> try (exact no_true h)
  exact ⟨_, rfl, of_decide_eq_true h⟩
theorem snd_none : SndE prog w c hB T env nm n .none := by
  intro e ce A g s rho d hA S ee
  obtain rfl := Option.some.inj ee
  replace ce := onConst_inv ce
  induction ce with
  | mk v k p ok =>
    obtain rfl := cNone_inv ok
    exact .here (tk := s.toks) S.sub .none fun Q q => Constant_none q
theorem snd_bool (b : Bool) : SndE prog w c hB T env nm n (.bool b) := by
  intro e ce A g s rho d hA S ee
  obtain rfl := Option.some.inj ee
  replace ce := onConst_inv ce
  induction ce with
  | mk v k p ok =>
    obtain rfl := cBool_inv ok
    exact .here (tk := s.toks) S.sub (.bool _) fun Q q => Constant_bool q
theorem snd_int (i : Int) : SndE prog w c hB T env nm n (.int i) := by
  intro e ce A g s rho d hA S ee
  obtain rfl := Option.some.inj ee
  replace ce := onConst_inv ce
  induction ce with
  | mk v k p ok =>
    obtain rfl := cInt_inv ok
    exact .here S.sub (.int _ _) fun Q q => wpAny_Constant_int q
theorem snd_str (l : List Nat) : SndE prog w c hB T env nm n (.str l) := by
  intro e ce A g s rho d hA S ee
  obtain rfl := Option.some.inj ee
  replace ce := onConst_inv ce
  induction ce with
  | mk v k p ok =>
    obtain ⟨x, rfl, h⟩ := cStr_inv ok
    exact .here S.sub (.str _ _ _ h) fun Q q => wpAny_Constant_str q

theorem lvD_inv {x : LV} {d : D} (h : lvD x = some d) : x = .d d := by
  cases x <;> first | exact no_some h | exact congrArg LV.d (Option.some.inj h)
theorem snd_var (i : Nat) : SndE prog w c hB T env nm n (.var i) := by
  intro e ce A g s rho d hA S ee
  obtain ⟨y, hy, ee⟩ := bnd_inv (f := lvD) ee
  obtain rfl := lvD_inv ee
  replace ce := isNm_inv ce
  induction ce with
  | mk x p hx hd =>
    obtain ⟨v, rd, rp⟩ := S.vars i x _ hx hy
    exact .here (tk := s.toks) S.sub rp fun Q q => rd.load S.kind q hd
theorem snd_glob (G : Gl prog w c hB mg mb T) (k : Nat) : SndE prog w c hB T env nm n (.glob k) := by
  intro e ce A g s rho d hA S ee
  obtain ⟨⟨x, i⟩, h, rfl⟩ := one_some (f := fun p : Str × Int => D.int p.2) ee
  obtain ⟨y, h', ce⟩ := isAt_inv ce
  obtain rfl := Option.some.inj (h.symm.trans h')
  replace ce := isGl_inv ce
  induction ce with
  | mk p hx hd =>
    obtain ⟨t, ht⟩ := G.gi k x i h
    exact .here (tk := s.toks) S.sub (.int i t) fun Q q => gl_load G S hx hd ht q
theorem snd_cmp (op : CO) {a b : IE} (ha : SndE prog w c hB T env nm n a) (hb : SndE prog w c hB T env nm n b) : SndE prog w c hB T env nm n (.cmp op a b) := by
  intro e ce A g s rho d hA S ee
  obtain ⟨x, y, ex, ey, ee⟩ := bnd2_inv (f := fun x y => with1 (cmpD op x y) D.bool) ee
  obtain ⟨z, hz, rfl⟩ := one_some ee
  replace ce := onCmp_inv ce
  induction ce with
  | mk l o r p ok =>
    obtain ⟨h, ok1⟩ := and_tt ok
    obtain rfl := of_decide_eq_true h
    obtain ⟨hm, ok2⟩ := and_tt ok1
    obtain ⟨cl, cr⟩ := and_tt ok2
    intro Q q
    exact wpAny_Compare1 (two ha hb cl cr hA S ex ey fun v₁ v₂ h' tk k r₁ r₂ S' => cmp_sound hA S'.sub r₁ r₂ hz _ (q _ h' tk k (.bool _))) (not_tt hm)
theorem insD_inv {x d : D} {p : Str × List Int} (h : insD x p = some d) : ∃ i, x = .int i ∧ D.bool (p.2.contains i) = d := by
  cases x <;> first | exact no_some h | exact ⟨_, rfl, Option.some.inj h⟩
theorem snd_inset (G : Gl prog w c hB mg mb T) (k : Nat) {a : IE} (ha : SndE prog w c hB T env nm n a) : SndE prog w c hB T env nm n (.inset k a) := by
  intro e ce A g s rho d hA S ee
  obtain ⟨x, ⟨x', l'⟩, ex, hk, ee⟩ := bnd2_inv (f := insD) ee
  obtain ⟨i, rfl, rfl⟩ := insD_inv ee
  replace ce := onCmp_inv ce
  induction ce with
  | mk l o r p ok =>
    obtain ⟨h, ok1⟩ := and_tt ok
    obtain rfl := of_decide_eq_true h
    obtain ⟨cr, cl⟩ := and_tt ok1
    obtain ⟨y, h', cr⟩ := isAt_inv cr
    obtain rfl := Option.some.inj (hk.symm.trans h')
    replace cr := isGl_inv cr
    induction cr with
    | mk p hx hd =>
      obtain ⟨ad, had, hin⟩ := G.st k x' l' hk
      intro Q q
      refine wpAny_Compare1 (ha l cl A g s rho _ hA S ex _ fun v₁ h₁ t₁ k₁ r₁ => ?_) rfl
      induction r₁.int_inv; rename_i t
      exact gl_load G (S.step k₁) hx hd had (hin A _ i t _ (S.step k₁).keeps fun tk => q _ h₁ tk k₁ (.bool _))
theorem isAnd_inv {op : BoolOp} (h : isAnd op = true) : op = .And := by cases op <;> first | rfl | exact no_true h
theorem isOr_inv {op : BoolOp} (h : (!isAnd op) = true) : op = .Or := by cases op <;> first | rfl | exact no_true h
theorem snd_and2 {a b : IE} (ha : SndE prog w c hB T env nm n a) (hb : SndE prog w c hB T env nm n b) : SndE prog w c hB T env nm n (.and2 a b) := by
  intro e ce A g s rho d hA S ee
  obtain ⟨x, ex, ee⟩ := bnd_inv (f := fun x => bnd (truthD x) fun t => cond t (evE T rho b) (some x)) ee
  obtain ⟨t, et, ee⟩ := bnd_inv ee
  replace ce := onBool_inv ce
  induction ce with
  | mk op xs p ok =>
    obtain ⟨h, ok1⟩ := and_tt ok
    obtain rfl := isAnd_inv h
    obtain ⟨l, r, ok2⟩ := two2_inv ok1
    obtain ⟨cl, cr⟩ := and_tt ok2
    intro Q q
    refine BoolOp_and (ha l cl A g s rho x hA S ex _ fun v₁ h₁ t₁ k₁ r₁ => truth_sound r₁ et _ fun t₂ => ?_)
    cases t
    · obtain rfl := Option.some.inj ee
      exact q _ h₁ t₂ k₁ r₁
    · exact BoolOp_one (EvP.from (hb r cr A _ { s with heap := h₁, toks := t₂ } rho d hA (S.step k₁) ee) k₁ fun v h' tk k' _ r => q v h' tk k' r)
theorem snd_or2 {a b : IE} (ha : SndE prog w c hB T env nm n a) (hb : SndE prog w c hB T env nm n b) : SndE prog w c hB T env nm n (.or2 a b) := by
  intro e ce A g s rho d hA S ee
  obtain ⟨x, ex, ee⟩ := bnd_inv (f := fun x => bnd (truthD x) fun t => cond t (some x) (evE T rho b)) ee
  obtain ⟨t, et, ee⟩ := bnd_inv ee
  replace ce := onBool_inv ce
  induction ce with
  | mk op xs p ok =>
    obtain ⟨h, ok1⟩ := and_tt ok
    obtain rfl := isOr_inv h
    obtain ⟨l, r, ok2⟩ := two2_inv ok1
    obtain ⟨cl, cr⟩ := and_tt ok2
    intro Q q
    refine BoolOp_or (ha l cl A g s rho x hA S ex _ fun v₁ h₁ t₁ k₁ r₁ => truth_sound r₁ et _ fun t₂ => ?_)
    cases t
    · exact BoolOp_one (EvP.from (hb r cr A _ { s with heap := h₁, toks := t₂ } rho d hA (S.step k₁) ee) k₁ fun v h' tk k' _ r => q v h' tk k' r)
    · obtain rfl := Option.some.inj ee
      exact q _ h₁ t₂ k₁ r₁
theorem snd_ite {t : IT} {a b : IE} (ht : SndT prog w c hB T env nm n t) (ha : SndE prog w c hB T env nm n a) (hb : SndE prog w c hB T env nm n b) : SndE prog w c hB T env nm n (.ite t a b) := by
  intro e ce A g s rho d hA S ee
  obtain ⟨z, et, ee⟩ := bnd_inv (f := fun t => cond t (evE T rho a) (evE T rho b)) ee
  replace ce := onIfe_inv ce
  induction ce with
  | mk u l r p ok =>
    obtain ⟨ct, ok1⟩ := and_tt ok
    obtain ⟨cl, cr⟩ := and_tt ok1
    intro Q q
    refine IfExp_ (ht u ct A g s rho _ hA S et _ fun h₁ t₁ k₁ => ?_)
    cases z
    · exact EvP.from (hb r cr A _ { s with heap := h₁, toks := t₁ } rho d hA (S.step k₁) ee) k₁ fun v h' tk k' _ r => q v h' tk k' r
    · exact EvP.from (ha l cl A _ { s with heap := h₁, toks := t₁ } rho d hA (S.step k₁) ee) k₁ fun v h' tk k' _ r => q v h' tk k' r
end
end Qu69
end

section
open PySem PySem.W PySem.Calls PyProof.Rows
set_option backward.match.sparseCases false
set_option genSizeOf false
set_option genSizeOfSpec false
set_option genInjectivity false
set_option genCtorIdx false
namespace Qu69

theorem Rep.handed {c : Cx} {g : PH} {v : Value} {d : D} (r : Rep c g v d) : handedIn v = true := by cases r <;> rfl
theorem EntriesAre.cons_inv {P : Params} {k : Nat} {ks : List Nat} {v : Value} {vs : List Value} {es : List DictEntry} (h : EntriesAre P (k :: ks) (v :: vs) es) : ∃ e r, es = e :: r ∧ EntryIs P k v e ∧ EntriesAre P ks vs r := by
  cases es with
  | nil => exact False.elim h
  | cons e r => exact ⟨e, r, rfl, h⟩
theorem findK_at {c : Cx} {g : PH} {k : Nat} {d : D} {P : Params} : ∀ {ks : List Nat} {vs : List Value} {ds : List D} {es : List DictEntry}, EntriesAre P ks vs es → RepL c g vs ds → findK ks ds k = some d →
    ∃ i v, ks.idxOf k = i ∧ ks[i]? = some k ∧ vs[i]? = some v ∧ Rep c g v d := by
  intro ks
  induction ks with
  | nil => exact fun _ _ h => no_some h
  | cons x ks ih =>
    intro vs ds es he r h
    cases r with
    | nil => exact no_some h
    | cons r rs =>
      obtain ⟨e, es', rfl, _, he'⟩ := he.cons_inv
      by_cases hx : x = k
      · subst hx
        exact ⟨0, _, List.idxOf_cons_self, rfl, rfl, Option.some.inj ((if_pos rfl).symm.trans h) ▸ r⟩
      · obtain ⟨i, v', h1, h2, h3, h4⟩ := ih he' rs ((if_neg hx).symm.trans h)
        exact ⟨i + 1, v', by rw [List.idxOf_cons, beq_false_of_ne hx, h1]; rfl, h2, h3, h4⟩

section
variable {prog : Program} {w : World} {c : Cx} {hB : Heap} {mg mb : Str → Option Value} {T : Tab} {env : Env} {nm : List Str} {rho : List LV} {A : Around} {g : PH} {s : Shared} {n : Nat}

theorem BF.callWith (f : BF) {pos : Pos} {t : Sem Value} {r : List (Bool × Sem Value)} {Q : Value → Shared → Prop} {E : Value → Shared → Prop} (hp : ((false, t) :: r).any (·.1) = false)
    (h : wpAny (model prog w) A (spliced ((false, t) :: r)) (fun vs s₁ => wpAny (model prog w) A (call f.val vs) Q E s₁) E s) : wpAny (model prog w) A (callWith pos f.val [] ((false, t) :: r) []) Q E s := by
  cases f <;> first | exact callWith_builtin hp (evalArgs_plain h) | exact PyProof.Rows.callWith_type hp (evalArgs_plain h)

theorem ne_nil {α : Type} {xs : List α} (h : (!xs.isEmpty) = true) : ∃ x r, xs = x :: r := by
  cases xs with
  | nil => exact no_true h
  | cons x r => exact ⟨x, r, rfl⟩
theorem snd_blt (G : Gl prog w c hB mg mb T) (f : BF) {as : IEs} (has : SndEs prog w c hB T env nm n as) : SndE prog w c hB T env nm n (.blt f as) := by
  intro e ce A g s rho d hA S ee
  obtain ⟨ds, eds, ee⟩ := bnd_inv (f := bltD f) ee
  replace ce := onCall_inv ce
  induction ce with
  | mk fe xs p ok =>
    obtain ⟨cg, ok1⟩ := and_tt ok
    obtain ⟨hne, ok2⟩ := and_tt ok1
    obtain ⟨x, xs, rfl⟩ := ne_nil hne
    replace cg := isGl_inv cg
    induction cg with
    | mk p' hx hd =>
      intro Q q
      have hs := has _ ok2 A g s rho ds hA S eds p
      have ha := star_any (pos := p) ok2
      refine Call_Name rfl (bl_load G S hx hd (G.blt f).1 (G.blt f).2 ?_)
      rw [star_cons (chkEs_head ok2), backTo_cons] at hs ha ⊢
      refine f.callWith ha (hs _ fun vs h₁ t₁ k₁ r₁ => ?_)
      exact EvP.from (s := { s with heap := h₁, toks := t₁ }) (h₀ := s.heap) (blt_sound hA (S.step k₁).sub r₁ ee) k₁ fun v h' tk k' _ r => q v h' tk k' r
theorem snd_fn (G : Gl prog w c hB mg mb T) (F : FOK prog w c hB mg T n) (k : Nat) {as : IEs} (has : SndEs prog w c hB T env nm n as) : SndE prog w c hB T env nm n (.fn k as) := by
  intro e ce A g s rho d hA S ee
  obtain ⟨ds, eds, ee⟩ := bnd_inv (f := T.F k) ee
  replace ce := onCall_inv ce
  induction ce with
  | mk fe xs p ok =>
    obtain ⟨cg, ok1⟩ := and_tt ok
    obtain ⟨hne, ok2⟩ := and_tt ok1
    obtain ⟨x, xs, rfl⟩ := ne_nil hne
    obtain ⟨y, hy, cg⟩ := isAt_inv cg
    obtain ⟨a, ha', kp, hkp, hl⟩ := G.fns k y hy
    replace cg := isGl_inv cg
    induction cg with
    | mk p' hx hd =>
      intro Q q
      have hs := has _ ok2 A g s rho ds hA S eds p
      have ha := star_any (pos := p) ok2
      refine Call_Name rfl (gl_load G S hx hd ha' ?_)
      rw [star_cons (chkEs_head ok2), backTo_cons] at hs ha ⊢
      refine callWith_of (P := fun h => Keeps hB h) (by rw [ha]; rfl) (fun h hk => ⟨kp, hkp, hl.keeps hk⟩) (evalArgs_plain (hs _ fun vs h₁ t₁ k₁ r₁ => ⟨(S.step k₁).keeps, ?_⟩))
      exact EvP.from (s := { s with heap := h₁, toks := t₁ }) (h₀ := s.heap) (F k y a ds d hy ha' ee A _ { s with heap := h₁, toks := t₁ } vs hA (S.step k₁).base (S.step k₁).sub r₁) k₁ fun v h' tk k' _ r => q v h' tk k' r

theorem plain_base {v : Expr} {y : Str} (hb : plainBase v = true) : attributeBase v y env (eval v env) = eval v env := by
  cases v <;> first | rfl | exact no_true hb | skip
  rename_i f args kws p
  cases args with
  | nil => exact no_true hb
  | cons x xs => cases f <;> rfl
theorem att_eval {v : Expr} {y : Str} {p : Pos} {Q : Value → Shared → Prop} {E : Value → Shared → Prop} (hb : plainBase v = true) (h : wpAny (model prog w) A (eval v env) (fun o s₁ => wpAny (model prog w) A (getAttr o y true) Q E s₁) E s) : wpAny (model prog w) A (eval (.Attribute v y p) env) Q E s := by
  refine Attribute_any_ h ?_
  rw [arm_eval_Attribute, plain_base hb]

theorem attrD_inv {k : Nat} {x d : D} (h : attrD k x = some d) : ∃ ks ds, x = .inst ks ds ∧ findK ks ds k = some d := by
  cases x <;> first | exact no_some h | exact ⟨_, _, rfl, h⟩
theorem snd_attr (G : Gl prog w c hB mg mb T) (k : Nat) {a : IE} (ha : SndE prog w c hB T env nm n a) : SndE prog w c hB T env nm n (.attr k a) := by
  intro e ce A g s rho d hA S ee
  obtain ⟨x, ex, ee⟩ := bnd_inv (f := attrD k) ee
  obtain ⟨ks, ds, rfl, ee⟩ := attrD_inv ee
  replace ce := onAttr_inv ce
  induction ce with
  | mk v y p ok =>
    obtain ⟨hy, ok1⟩ := and_tt ok
    obtain ⟨rfl, hk4⟩ := of_decide_eq_true hy
    obtain ⟨hb, cv⟩ := and_tt ok1
    intro Q q
    refine att_eval hb (ha v cv A g s rho _ hA S ex _ fun v₁ h₁ t₁ k₁ r₁ => ?_)
    cases r₁ with
    | inst ho hd he rs =>
      obtain ⟨i, v', h1, h2, h3, h4⟩ := findK_at he rs ee
      have hsub := ext_sub S.sub k₁
      exact G.att k A { s with heap := h₁, toks := t₁ } Q _ _ _ _ ks _ v' i hk4 (S.step k₁).keeps (hsub _ _ ho) (hsub _ _ hd) he h1 h2 h3 (fun tk => q v' h₁ tk k₁ h4) h4.handed
theorem selfLV_inv {k : Nat} {x : LV} {d : D} (h : selfLV k x = some d) : ∃ ks ds, x = .self ks ds ∧ findK ks ds k = some d := by
  cases x <;> first | exact no_some h | exact ⟨_, _, rfl, h⟩
theorem snd_selfA (G : Gl prog w c hB mg mb T) (i k : Nat) : SndE prog w c hB T env nm n (.selfA i k) := by
  intro e ce A g s rho d hA S ee
  obtain ⟨x, hr, ee⟩ := bnd_inv (f := selfLV k) ee
  obtain ⟨ks, ds, rfl, ee⟩ := selfLV_inv ee
  replace ce := onAttr_inv ce
  induction ce with
  | mk v y p ok =>
    obtain ⟨hy, cv⟩ := and_tt ok
    obtain ⟨rfl, hk4⟩ := of_decide_eq_true hy
    replace cv := isNm_inv cv
    induction cv with
    | mk x p' hx hd =>
      obtain ⟨a, dx, es, m, vs, rd, ho, hdx, he, rs⟩ := S.vars i x _ hx hr
      obtain ⟨j, v', h1, h2, h3, h4⟩ := findK_at he rs ee
      intro Q q
      exact att_eval rfl (rd.load S.kind (G.att k A s Q _ _ _ _ ks _ v' j hk4 S.keeps ho hdx he h1 h2 h3 (fun tk => q v' s.heap tk (PH.Le.refl _) (h4.mono (le_ext S.sub))) h4.handed) hd)
theorem snd_cattr (G : Gl prog w c hB mg mb T) (k : Nat) : SndE prog w c hB T env nm n (.cattr k) := by
  intro e ce A g s rho d hA S ee
  obtain rfl := Option.some.inj ee
  replace ce := onAttr_inv ce
  induction ce with
  | mk v y p ok =>
    obtain ⟨hy, cv⟩ := and_tt ok
    obtain rfl := of_decide_eq_true hy
    replace cv := isGl_inv cv
    induction cv with
    | mk p' hx hd =>
      intro Q q
      refine att_eval rfl (gl_load G S hx hd G.cls (G.cat k A s Q S.keeps fun t tk => q _ s.heap tk (PH.Le.refl _) ?_))
      cases k <;> exact .str _ _ _ rfl

theorem base_eval {o : Expr} {y : Str} (h : atomE o = true) : attributeBase o y env (eval o env) = eval o env := by
  cases o <;> first | rfl | exact no_true h
theorem star_one {x : Expr} (h : notStar x = true) : starEach [x] env = [(false, eval x env)] := by rw [star_cons h]; rfl

theorem snd_meth0 (f : MF) {a : IE} (ha : SndE prog w c hB T env nm n a) : SndE prog w c hB T env nm n (.meth0 f a) := by
  intro e ce A g s rho d hA S ee
  obtain ⟨x, ex, ee⟩ := bnd_inv (f := fun x => methD f x []) ee
  replace ce := onMeth_inv ce
  induction ce with
  | mk o y xs ap p hl ok =>
    obtain ⟨hy, ok1⟩ := and_tt ok
    obtain rfl := of_decide_eq_true hy
    obtain ⟨hb, ok2⟩ := and_tt ok1
    obtain ⟨hn, co⟩ := and_tt ok2
    obtain rfl := List.isEmpty_iff.mp hn
    intro Q q
    refine Call_method0 (base_eval hb) hl (ha o co A g s rho x hA S ex _ fun v₁ h₁ t₁ k₁ r₁ => ?_)
    exact meth0_sound (s := { s with heap := h₁, toks := t₁ }) (S.step k₁).sub r₁ ee _ fun v h' tk k' r => q v h' tk (k₁.trans k') (r.mono (ext_trans k₁ k'))
theorem snd_meth1 (f : MF) {a b : IE} (ha : SndE prog w c hB T env nm n a) (hb : SndE prog w c hB T env nm n b) : SndE prog w c hB T env nm n (.meth1 f a b) := by
  intro e ce A g s rho d hA S ee
  obtain ⟨x', y', ex, ey, ee⟩ := bnd2_inv (f := fun x y => methD f x [y]) ee
  replace ce := onMeth_inv ce
  induction ce with
  | mk o y xs ap p hl ok =>
    obtain ⟨hy, ok1⟩ := and_tt ok
    obtain rfl := of_decide_eq_true hy
    obtain ⟨hba, ok2⟩ := and_tt ok1
    obtain ⟨co, ok3⟩ := and_tt ok2
    obtain ⟨x, ok4⟩ := one1_inv ok3
    obtain ⟨hns, cx⟩ := and_tt ok4
    intro Q q
    refine Call_method1 (base_eval hba) (star_one hns) hl (ha o co A g s rho x' hA S ex _ fun v₁ h₁ t₁ k₁ r₁ => ?_)
    exact meth1_sound (s := { s with heap := h₁, toks := t₁ }) (S.step k₁).sub r₁ (hb x cx A _ { s with heap := h₁, toks := t₁ } rho y' hA (S.step k₁) ey) ee _ fun v h' tk k' r => q v h' tk (k₁.trans k') (r.mono (ext_trans k₁ k'))
theorem b3D_inv {x d : D} (h : b3D T x = some d) : ∃ i, x = .int i ∧ optStr (T.b3 i) = d := by
  cases x <;> first | exact no_some h | exact ⟨_, rfl, Option.some.inj h⟩
theorem snd_b3get (G : Gl prog w c hB mg mb T) {a : IE} (ha : SndE prog w c hB T env nm n a) : SndE prog w c hB T env nm n (.b3get a) := by
  intro e ce A g s rho d hA S ee
  obtain ⟨x', ex, ee⟩ := bnd_inv (f := b3D T) ee
  obtain ⟨i, rfl, rfl⟩ := b3D_inv ee
  replace ce := onMeth_inv ce
  induction ce with
  | mk o y xs ap p hl ok =>
    obtain ⟨hy, ok1⟩ := and_tt ok
    obtain rfl := of_decide_eq_true hy
    obtain ⟨hgl, ok2⟩ := and_tt ok1
    obtain ⟨x, ok3⟩ := one1_inv ok2
    obtain ⟨hns, cx⟩ := and_tt ok3
    replace hgl := isGl_inv hgl
    induction hgl with
    | mk p' hx hd =>
      intro Q q
      obtain ⟨ad, ob, had, hob, hcls, hdi, hget⟩ := G.b3
      refine Call_method1 rfl (star_one hns) hl (gl_load G S hx hd had ?_)
      refine ⟨"dict", "dict.get", PySem.F.plainAttrs_dict, PySem.F.slot_dict_get, PySem.F.type_dict_get, ⟨ob, S.keeps _ _ hob, hcls⟩, fun b eb => by cases eb; exact ⟨ob, S.keeps _ _ hob, hdi⟩, ?_⟩
      refine callWith_builtin rfl (evalArgs_plain (spliced_cons (ha x cx A g s rho _ hA S ex _ fun v₁ h₁ t₁ k₁ r₁ => spliced_nil ?_)))
      induction r₁.int_inv; rename_i t
      refine hget A { s with heap := h₁, toks := t₁ } i t Q (S.step k₁).keeps fun v tk hv => ?_
      rcases hv with ⟨rfl, hn⟩ | ⟨x, u, rfl, hn⟩
      · rw [hn] at q; exact q _ h₁ tk k₁ .none
      · rw [hn] at q; exact q _ h₁ tk k₁ (.str _ _ _ rfl)
theorem snd_idx {a b : IE} (ha : SndE prog w c hB T env nm n a) (hb : SndE prog w c hB T env nm n b) : SndE prog w c hB T env nm n (.idx a b) := by
  intro e ce A g s rho d hA S ee
  obtain ⟨x, y, ex, ey, ee⟩ := bnd2_inv (f := idxD) ee
  replace ce := onSub_inv ce
  induction ce with
  | mk v i p hs ok =>
    obtain ⟨cv, ci⟩ := and_tt ok
    intro Q q
    refine Subscript_ (two ha hb cv ci hA S ex ey fun v₁ v₂ h' tk k r₁ r₂ S' => ?_)
    exact EvP.from (s := { s with heap := h', toks := tk }) (h₀ := s.heap) (idx_sound hs S'.sub r₁ r₂ ee) k fun v h'' tk' k' _ r => q v h'' tk' k' r
theorem idxLV_inv {x : LV} {y d : D} (h : idxLV x y = some d) : ∃ l, x = .ml l ∧ idxL l y = some d := by
  cases x <;> first | exact no_some h | exact ⟨_, rfl, h⟩
theorem snd_idxM (i : Nat) {b : IE} (hb : SndE prog w c hB T env nm n b) : SndE prog w c hB T env nm n (.idxM i b) := by
  intro e ce A g s rho d hA S ee
  obtain ⟨x, y, hr, ek, ee⟩ := bnd2_inv (f := idxLV) ee
  obtain ⟨l, rfl, ee⟩ := idxLV_inv ee
  obtain ⟨k, rfl, h0, hk, ee⟩ := idxL_inv ee
  replace ce := onSub_inv ce
  induction ce with
  | mk v j p hs ok =>
    obtain ⟨cv, cj⟩ := and_tt ok
    replace cv := isNm_inv cv
    induction cv with
    | mk x p' hx hd =>
      obtain ⟨a, vs, m, rd, ho, rs⟩ := S.vars i x _ hx hr
      obtain ⟨v', hv, rv⟩ := rs.get ee
      intro Q q
      refine Subscript_ (rd.load S.kind ?_ hd)
      refine hb j cj A g s rho _ hA S ek _ fun v₁ h₁ t₁ k₁ r₁ => ?_
      induction r₁.int_inv; rename_i t
      have hl : Heap.IsList h₁ a vs.toArray := ⟨_, k₁ _ _ ho, rfl, _, rfl⟩
      have hbd := small_bounds hk
      exact tail_any (s := { s with heap := h₁, toks := t₁ }) (hl.typeIs (s := { s with heap := h₁, toks := t₁ })) slot_list_getitem.lookup (wpAny_getItem_list hl h0 (by omega) (List.getElem?_toArray.trans hv) (q v' h₁ t₁ k₁ (rv.mono (le_ext S.sub)))) (subscripted_not hs _ _)
theorem lenLV_inv {x : LV} {d : D} (h : lenLV x = some d) : ∃ l, x = .ml l ∧ lenC l.length = some d := by
  cases x <;> first | exact no_some h | exact ⟨_, rfl, h⟩
theorem snd_lenM (G : Gl prog w c hB mg mb T) (i : Nat) : SndE prog w c hB T env nm n (.lenM i) := by
  intro e ce A g s rho d hA S ee
  obtain ⟨x, hr, ee⟩ := bnd_inv (f := lenLV) ee
  obtain ⟨l, rfl, ee⟩ := lenLV_inv ee
  replace ce := onCall_inv ce
  induction ce with
  | mk fe xs p ok =>
    obtain ⟨cg, ok1⟩ := and_tt ok
    obtain ⟨x, ok2⟩ := one1_inv ok1
    replace cg := isGl_inv cg
    induction cg with
    | mk p' hx hd =>
      replace ok2 := isNm_inv ok2
      induction ok2 with
      | mk x p'' hx' hd' =>
        obtain ⟨a, vs, m, rd, ho, rs⟩ := S.vars i x _ hx' hr
        intro Q q
        refine Call_Name rfl (bl_load G S hx hd (G.blt .len).1 (G.blt .len).2 ?_)
        refine BF.len.callWith rfl (spliced_cons (rd.load S.kind (spliced_nil ?_) hd'))
        have hb := blt_sound (prog := prog) (w := w) (c := c) (s := s) (g := s.heap.get?) (f := .len) (vs := [.ref a]) (ds := [.list l]) (d := d) hA (PH.Le.refl _) (.cons (.list ho (rs.mono S.sub)) .nil) ee
        obtain ⟨_, e⟩ := if_some ee
        obtain rfl := Option.some.inj e
        refine hb _ fun v h' tk k r => ?_
        induction r.int_inv
        exact q _ h' tk k (.int _ _)
theorem part_eval {a : IE} {l : Option Expr} {x : D} {Q : Value → Shared → Prop} (cl : optE (isNoneE a) (chkE T env.scope nm a) l = true) (ha : SndE prog w c hB T env nm n a) (hA : AOk n A) (S : ESt c hB env nm rho g s.heap) (ex : evE T rho a = some x)
    (q : ∀ v h' tk, Keeps s.heap h' → Rep c (ext g s.heap h') v x → Q v { s with heap := h', toks := tk }) : wpAny (model prog w) A (evalPart l env) Q (fun _ _ => False) s := by
  cases l with
  | none =>
    have : a = .none := by cases a <;> first | rfl | exact no_true cl
    subst this
    obtain rfl := Option.some.inj ex
    exact wpAny_pure (q _ s.heap s.toks (PH.Le.refl _) .none)
  | some l =>
    exact ha l cl A g s rho x hA S ex _ q
theorem snd_slc {a lo hi : IE} (ha : SndE prog w c hB T env nm n a) (hlo : SndE prog w c hB T env nm n lo) (hhi : SndE prog w c hB T env nm n hi) : SndE prog w c hB T env nm n (.slc a lo hi) := by
  intro e ce A g s rho d hA S ee
  obtain ⟨x, y, z, ex, ey, ez, ee⟩ := bnd3_inv (f := slcD) ee
  replace ce := onSlc_inv ce
  induction ce with
  | mk v l h p p' ok =>
    obtain ⟨cv, ok1⟩ := and_tt ok
    obtain ⟨cl, ch⟩ := and_tt ok1
    intro Q q
    refine Subscript_ (ha v cv A g s rho x hA S ex _ fun v₁ h₁ t₁ k₁ r₁ => ?_)
    refine wpAny_Slice (part_eval (s := { s with heap := h₁, toks := t₁ }) cl hlo hA (S.step k₁) ey fun v₂ h₂ t₂ k₂ r₂ => ?_)
    have S₂ := S.step (k₁.trans k₂)
    refine part_eval (s := { s with heap := h₂, toks := t₂ }) ch hhi hA S₂ ez fun v₃ h₃ t₃ k₃ r₃ => ?_
    refine wpAny_pure ?_
    have k₁₃ := (k₁.trans k₂).trans k₃
    have hsub := ext_sub S.sub k₁₃
    have m₁ : PH.Le (ext g s.heap h₁) (ext g s.heap h₃) := (le_ext (ext_sub S.sub k₁)).trans (ext_trans k₁ (k₂.trans k₃))
    have m₂ : PH.Le (ext g s.heap h₂) (ext g s.heap h₃) := (le_ext (ext_sub S.sub (k₁.trans k₂))).trans (ext_trans (k₁.trans k₂) k₃)
    exact slc_sound (s := { s with heap := h₃, toks := t₃ }) hsub (r₁.mono m₁) ((r₂.mono (ext_trans k₁ k₂)).mono m₂) (r₃.mono (ext_trans (k₁.trans k₂) k₃)) ee _ fun v h' tk k' r => q v h' tk (k₁₃.trans k') (r.mono (ext_trans k₁₃ k'))
theorem le_line {k : Nat} (h : k ≤ 1000) : k ≤ sizeLine := Nat.le_trans h (by decide)
theorem push_keeps {h : Heap} {o : Obj} : Keeps h (h.push o) := fun _ _ e => Heap.get?_push_of_some _ e
theorem snd_tup {as : IEs} (has : SndEs prog w c hB T env nm n as) : SndE prog w c hB T env nm n (.tup as) := by
  intro e ce A g s rho d hA S ee
  obtain ⟨ds, eds, ee⟩ := bnd_inv (f := tupD) ee
  obtain ⟨hl, ee⟩ := if_some ee
  obtain rfl := Option.some.inj ee
  replace ce := onTup_inv ce
  induction ce with
  | mk xs k p ok =>
    intro Q q
    refine Tuple_ (has _ ok A g s rho ds hA S eds p _ fun vs h₁ t₁ k₁ r₁ => ?_)
    refine wpAny_newObj_type ?_ (by show vs.toArray.size ≤ sizeLine; rw [List.size_toArray, r₁.length]; exact le_line hl)
    exact q _ _ t₁ (k₁.trans push_keeps) (Rep.mono (ext_trans k₁ push_keeps) (.tuple (ext_push (s := { s with heap := h₁, toks := t₁ }) rfl) rfl rfl (r₁.mono (le_ext (ext_sub S.sub k₁)))))
theorem snd_lst {as : IEs} (has : SndEs prog w c hB T env nm n as) : SndE prog w c hB T env nm n (.lst as) := by
  intro e ce A g s rho d hA S ee
  obtain ⟨ds, eds, ee⟩ := bnd_inv (f := lstD) ee
  obtain ⟨hl, ee⟩ := if_some ee
  obtain rfl := Option.some.inj ee
  replace ce := onLst_inv ce
  induction ce with
  | mk xs p ok =>
    intro Q q
    refine List_ (has _ ok A g s rho ds hA S eds p _ fun vs h₁ t₁ k₁ r₁ => ?_)
    refine wpAny_newObj_type ?_ (by show vs.toArray.size ≤ sizeLine; rw [List.size_toArray, r₁.length]; exact le_line hl)
    exact q _ _ t₁ (k₁.trans push_keeps) (Rep.mono (ext_trans k₁ push_keeps) (.list (ext_push (s := { s with heap := h₁, toks := t₁ }) rfl) (r₁.mono (le_ext (ext_sub S.sub k₁)))))
end
end Qu69
end

section
open PySem PySem.W PySem.Calls PyProof.Rows
set_option backward.match.sparseCases false
set_option genSizeOf false
set_option genSizeOfSpec false
set_option genInjectivity false
namespace Qu69
section
variable {prog : Program} {w : World} {c : Cx} {hB : Heap} {mg mb : Str → Option Value} {T : Tab} {env : Env} {nm : List Str} {n : Nat}

theorem snd_t {a : IE} (ha : SndE prog w c hB T env nm n a) : SndT prog w c hB T env nm n (.t a) := by
  intro e ce A g s rho b hA S ee Q q
  obtain ⟨x, ex, ee⟩ := bnd_inv (f := truthD) ee
  obtain ⟨h1, h2⟩ := and_tt ce
  refine isTrue_plain (ha e h2 A g s rho x hA S ex _ fun v₁ h₁ t₁ k₁ r₁ => truth_sound r₁ ee _ fun t₂ => q h₁ t₂ k₁) ?_
  cases e <;> first | rfl | exact no_true h1
theorem snd_tcmp (op : CO) {a b : IE} (ha : SndE prog w c hB T env nm n a) (hb : SndE prog w c hB T env nm n b) : SndT prog w c hB T env nm n (.cmp op a b) := by
  intro e ce A g s rho d hA S ee Q q
  obtain ⟨x, y, ex, ey, ee⟩ := bnd2_inv (f := cmpD op) ee
  replace ce := onCmp_inv ce
  induction ce with
  | mk l o r p ok =>
    obtain ⟨h, ok1⟩ := and_tt ok
    obtain rfl := of_decide_eq_true h
    obtain ⟨hm, ok2⟩ := and_tt ok1
    obtain ⟨cl, cr⟩ := and_tt ok2
    exact wpAny_isTrue_Compare1 (two ha hb cl cr hA S ex ey fun v₁ v₂ h' tk k r₁ r₂ S' => cmp_sound hA S'.sub r₁ r₂ ee _ (wpAny_truthy_bool (q h' tk k))) (not_tt hm)
theorem snd_not {t : IT} (ht : SndT prog w c hB T env nm n t) : SndT prog w c hB T env nm n (.not t) := by
  intro e ce A g s rho d hA S ee Q q
  obtain ⟨b, eb, rfl⟩ := one_some (f := not) ee
  replace ce := onNot_inv ce
  induction ce with
  | mk x p ok => exact isTrue_not (ht x ok A g s rho b hA S eb _ fun h' tk k => q h' tk k)
theorem snd_and {ts : ITs} (ht : SndA prog w c hB T env nm n ts) : SndT prog w c hB T env nm n (.and ts) := by
  intro e ce A g s rho d hA S ee Q q
  replace ce := onBool_inv ce
  induction ce with
  | mk op x p ok =>
    obtain ⟨h, ok1⟩ := and_tt ok
    obtain rfl := isAnd_inv h
    exact (ht x ok1 A g s rho d hA S p Q _ q).1 ee
theorem snd_or {ts : ITs} (ht : SndA prog w c hB T env nm n ts) : SndT prog w c hB T env nm n (.or ts) := by
  intro e ce A g s rho d hA S ee Q q
  replace ce := onBool_inv ce
  induction ce with
  | mk op x p ok =>
    obtain ⟨h, ok1⟩ := and_tt ok
    obtain rfl := isOr_inv h
    exact (ht x ok1 A g s rho d hA S p Q _ q).2 ee
theorem snd_anil : SndA prog w c hB T env nm n .nil := by
  intro es ce A g s rho b hA S pos Q whole q
  obtain rfl := List.isEmpty_iff.mp ce
  refine ⟨fun ee => ?_, fun ee => ?_⟩
  · obtain rfl := Option.some.inj ee; exact isTrue_and_nil (q s.heap s.toks (PH.Le.refl _))
  · obtain rfl := Option.some.inj ee; exact isTrue_or_nil (q s.heap s.toks (PH.Le.refl _))
theorem snd_acons {t : IT} {ts : ITs} (ht : SndT prog w c hB T env nm n t) (hts : SndA prog w c hB T env nm n ts) : SndA prog w c hB T env nm n (.cons t ts) := by
  intro es ce A g s rho b hA S pos Q whole q
  replace ce := consE_inv ce
  induction ce with
  | mk x xs ok =>
    obtain ⟨h1, h2⟩ := and_tt ok
    refine ⟨fun ee => ?_, fun ee => ?_⟩
    · obtain ⟨z, et, ee⟩ := bnd_inv (f := fun t => cond t (evAnd T rho ts) (some false)) ee
      refine isTrue_and (ht x h1 A g s rho _ hA S et _ fun h₁ t₁ k₁ => ?_)
      cases z
      · obtain rfl := Option.some.inj ee; exact q h₁ t₁ k₁
      · exact (hts xs h2 A _ { s with heap := h₁, toks := t₁ } rho b hA (S.step k₁) pos Q whole fun h' tk k' => q h' tk (k₁.trans k')).1 ee
    · obtain ⟨z, et, ee⟩ := bnd_inv (f := fun t => cond t (some true) (evOr T rho ts)) ee
      refine isTrue_or (ht x h1 A g s rho _ hA S et _ fun h₁ t₁ k₁ => ?_)
      cases z
      · exact (hts xs h2 A _ { s with heap := h₁, toks := t₁ } rho b hA (S.step k₁) pos Q whole fun h' tk k' => q h' tk (k₁.trans k')).2 ee
      · obtain rfl := Option.some.inj ee; exact q h₁ t₁ k₁

theorem evE_sound (G : Gl prog w c hB mg mb T) (F : FOK prog w c hB mg T n) (ir : IE) : SndE prog w c hB T env nm n ir :=
  IE.rec (motive_1 := fun ir => SndE prog w c hB T env nm n ir) (motive_2 := fun ir => SndEs prog w c hB T env nm n ir) (motive_3 := fun ir => SndT prog w c hB T env nm n ir) (motive_4 := fun ir => SndA prog w c hB T env nm n ir)
    snd_none snd_bool snd_int snd_str snd_var (snd_glob G) (fun op _ _ => snd_bin op) (fun op _ _ => snd_cmp op) (fun k _ => snd_inset G k) (fun _ _ => snd_and2) (fun _ _ => snd_or2) (fun _ _ _ => snd_ite) (fun f _ => snd_blt G f) (fun k _ => snd_fn G F k)
    (fun k _ => snd_attr G k) (snd_cattr G) (fun f _ => snd_meth0 f) (fun f _ _ => snd_meth1 f) (fun _ => snd_b3get G) (fun _ _ => snd_idx) (fun _ _ _ => snd_slc) (fun _ => snd_tup) (fun _ => snd_lst) (snd_lenM G) (fun i _ => snd_idxM i) (snd_selfA G)
    snd_nil (fun _ _ => snd_cons) (fun _ => snd_t) (fun op _ _ => snd_tcmp op) (fun _ => snd_not) (fun _ => snd_and) (fun _ => snd_or) snd_anil (fun _ _ => snd_acons) ir
theorem evEs_sound (G : Gl prog w c hB mg mb T) (F : FOK prog w c hB mg T n) (ir : IEs) : SndEs prog w c hB T env nm n ir :=
  IEs.rec (motive_1 := fun ir => SndE prog w c hB T env nm n ir) (motive_2 := fun ir => SndEs prog w c hB T env nm n ir) (motive_3 := fun ir => SndT prog w c hB T env nm n ir) (motive_4 := fun ir => SndA prog w c hB T env nm n ir)
    snd_none snd_bool snd_int snd_str snd_var (snd_glob G) (fun op _ _ => snd_bin op) (fun op _ _ => snd_cmp op) (fun k _ => snd_inset G k) (fun _ _ => snd_and2) (fun _ _ => snd_or2) (fun _ _ _ => snd_ite) (fun f _ => snd_blt G f) (fun k _ => snd_fn G F k)
    (fun k _ => snd_attr G k) (snd_cattr G) (fun f _ => snd_meth0 f) (fun f _ _ => snd_meth1 f) (fun _ => snd_b3get G) (fun _ _ => snd_idx) (fun _ _ _ => snd_slc) (fun _ => snd_tup) (fun _ => snd_lst) (snd_lenM G) (fun i _ => snd_idxM i) (snd_selfA G)
    snd_nil (fun _ _ => snd_cons) (fun _ => snd_t) (fun op _ _ => snd_tcmp op) (fun _ => snd_not) (fun _ => snd_and) (fun _ => snd_or) snd_anil (fun _ _ => snd_acons) ir
theorem evT_sound (G : Gl prog w c hB mg mb T) (F : FOK prog w c hB mg T n) (ir : IT) : SndT prog w c hB T env nm n ir :=
  IT.rec (motive_1 := fun ir => SndE prog w c hB T env nm n ir) (motive_2 := fun ir => SndEs prog w c hB T env nm n ir) (motive_3 := fun ir => SndT prog w c hB T env nm n ir) (motive_4 := fun ir => SndA prog w c hB T env nm n ir)
    snd_none snd_bool snd_int snd_str snd_var (snd_glob G) (fun op _ _ => snd_bin op) (fun op _ _ => snd_cmp op) (fun k _ => snd_inset G k) (fun _ _ => snd_and2) (fun _ _ => snd_or2) (fun _ _ _ => snd_ite) (fun f _ => snd_blt G f) (fun k _ => snd_fn G F k)
    (fun k _ => snd_attr G k) (snd_cattr G) (fun f _ => snd_meth0 f) (fun f _ _ => snd_meth1 f) (fun _ => snd_b3get G) (fun _ _ => snd_idx) (fun _ _ _ => snd_slc) (fun _ => snd_tup) (fun _ => snd_lst) (snd_lenM G) (fun i _ => snd_idxM i) (snd_selfA G)
    snd_nil (fun _ _ => snd_cons) (fun _ => snd_t) (fun op _ _ => snd_tcmp op) (fun _ => snd_not) (fun _ => snd_and) (fun _ => snd_or) snd_anil (fun _ _ => snd_acons) ir
end
end Qu69
end

section
open PySem PySem.W PySem.Calls PyProof.Rows
set_option backward.match.sparseCases false
set_option genSizeOf false
set_option genSizeOfSpec false
set_option genInjectivity false
namespace Qu69

noncomputable def Fp (env : Env) (b : Addr) : Prop := b = env.locals ∨ ∃ x, env.cells.lookup x = some b

structure EnvOK (env : Env) (nm : List Str) : Prop where
  kind : env.scope.kind = .function
  glo : env.globals = mainGlobals
  bui : env.builtins = builtinsNs
  nod : nm.Nodup
  kd : ∀ (i : Nat) x, nm[i]? = some x → env.kindOf x = some .local ∨ (env.kindOf x = some .cell ∧ ∃ a, env.cells.lookup x = some a)
  inj : ∀ x y a, env.cells.lookup x = some a → env.cells.lookup y = some a → x = y
  ne : ∀ x a, env.cells.lookup x = some a → a ≠ env.locals

noncomputable def VarS (c : Cx) (g : PH) (h : Heap) (env : Env) (x : Str) (a dx : Addr) : LV → Prop
  | .un => True
  | .d d => ∃ v, Rd env h x v ∧ Rep c g v d
  | .ml l => ∃ vs n, Rd env h x (.ref a) ∧ h.get? a = some (listO vs n) ∧ RepL c g vs l
  | .self ks ds => ∃ es n vs, Rd env h x (.ref a) ∧ h.get? a = some (instObj c.C dx) ∧ h.get? dx = some (dictOf es n) ∧ EntriesAre c.P ks vs es ∧ RepL c g vs ds
theorem VarS.ok {c : Cx} {g : PH} {h : Heap} {env : Env} {x : Str} {a dx : Addr} {lv : LV} (v : VarS c g h env x a dx lv) : VarOK c g h env x lv := by
  cases lv with
  | un => trivial
  | d d => exact v
  | ml l => obtain ⟨vs, n, r⟩ := v; exact ⟨a, vs, n, r⟩
  | self ks ds => obtain ⟨es, n, vs, r⟩ := v; exact ⟨a, dx, es, n, vs, r⟩

noncomputable def Own (rho : List LV) (k : Nat) : Prop := match rho[k / 2]? with
  | some (.ml _) => k % 2 = 0
  | some (.self _ _) => True
  | _ => False

structure St (c : Cx) (hB : Heap) (env : Env) (nm : List Str) (g0 e0 : PH) (ma : Nat → Addr) (rho : List LV) (g : PH) (h : Heap) : Prop where
  base : PH.Le hB.get? g0
  g0g : PH.Le g0 g
  sub : PH.Le g h.get?
  keep : PH.Le e0 h.get?
  lo : ∀ b o, g b = some o → e0 b = none ∨ g0 b = some o
  fp : ∀ b, Fp env b → g b = none ∧ e0 b = none
  fpl : ∀ b, Fp env b → ∃ o, h.get? b = some o
  ns : ∃ m, h.Ns env.locals m
  cl : ∀ x a, env.cells.lookup x = some a → ∃ v, h.IsCell a v
  vars : ∀ (i : Nat) x lv, nm[i]? = some x → rho[i]? = some lv → VarS c g h env x (ma (2 * i)) (ma (2 * i + 1)) lv
  own : ∀ k, Own rho k → g (ma k) = none ∧ e0 (ma k) = none ∧ ¬ Fp env (ma k) ∧ (∃ o, h.get? (ma k) = some o) ∧ ∀ k', Own rho k' → ma k' = ma k → k' = k
  pin : ∀ (i : Nat) ks ds, rho[i]? = some (.self ks ds) → ma (2 * i) = c.S

section
variable {c : Cx} {hB : Heap} {env : Env} {nm : List Str} {g0 e0 g g' : PH} {ma : Nat → Addr} {rho : List LV} {h h' : Heap}
theorem St.est (X : EnvOK env nm) (S : St c hB env nm g0 e0 ma rho g h) : ESt c hB env nm rho g h :=
  ⟨X.kind, X.glo, X.bui, S.base.trans S.g0g, S.sub, fun i x lv a b => (S.vars i x lv a b).ok⟩

theorem VarS.keeps {x : Str} {a dx : Addr} {lv : LV} (v : VarS c g h env x a dx lv) (k : Keeps h h') (l : PH.Le g g') : VarS c g' h' env x a dx lv := by
  cases lv with
  | un => trivial
  | d d => obtain ⟨v, p, q⟩ := v; exact ⟨v, p.keeps k, q.mono l⟩
  | ml ds => obtain ⟨vs, n, p, q, r⟩ := v; exact ⟨vs, n, p.keeps k, k _ _ q, r.mono l⟩
  | self ks ds => obtain ⟨es, n, vs, p, q, r, t, u⟩ := v; exact ⟨es, n, vs, p.keeps k, k _ _ q, k _ _ r, t, u.mono l⟩

/-- the heap grows, and what is new may be frozen -/
theorem St.grow (S : St c hB env nm g0 e0 ma rho g h) (k : Keeps h h') (l : PH.Le g g') (s : PH.Le g' h'.get?) (nw : ∀ b o, g' b = some o → g b = some o ∨ h.get? b = none) : St c hB env nm g0 e0 ma rho g' h' where
  base := S.base
  g0g := S.g0g.trans l
  sub := s
  keep := S.keep.trans k
  lo b o e := by
    rcases nw b o e with e | e
    · exact S.lo b o e
    · left
      cases q : e0 b with
      | none => rfl
      | some o' => rw [S.keep b o' q] at e; cases e
  fp b hb := by
    refine ⟨?_, (S.fp b hb).2⟩
    cases q : g' b with
    | none => rfl
    | some o =>
      rcases nw b o q with e | e
      · rw [(S.fp b hb).1] at e; cases e
      · obtain ⟨o', ho⟩ := S.fpl b hb; rw [ho] at e; cases e
  fpl b hb := let ⟨o, ho⟩ := S.fpl b hb; ⟨o, k _ _ ho⟩
  ns := let ⟨m, hm⟩ := S.ns; ⟨m, hm.keeps k⟩
  cl x a e := let ⟨v, hv⟩ := S.cl x a e; ⟨v, hv.keeps k⟩
  vars i x lv a b := (S.vars i x lv a b).keeps k l
  pin := S.pin
  own j hj := by
    obtain ⟨h1, h2, h3, ⟨o, ho⟩, h5⟩ := S.own j hj
    refine ⟨?_, h2, h3, ⟨o, k _ _ ho⟩, h5⟩
    cases q : g' (ma j) with
    | none => rfl
    | some o' =>
      rcases nw _ _ q with e | e
      · rw [h1] at e; cases e
      · rw [ho] at e; cases e
theorem St.step (S : St c hB env nm g0 e0 ma rho g h) (k : Keeps h h') : St c hB env nm g0 e0 ma rho (ext g h h') h' :=
  S.grow k (le_ext S.sub) (ext_sub S.sub k) fun b o e => by
    cases q : h.get? b with
    | none => exact .inr rfl
    | some o' => rw [ext_old q] at e; exact .inl e
theorem St.wide (S : St c hB env nm g0 e0 ma rho g h) (k : Keeps h h') : St c hB env nm g0 e0 ma rho g h' :=
  S.grow k (PH.Le.refl _) (S.sub.trans k) fun _ _ e => .inl e

/-- a name is written -/
structure Wr (env : Env) (h h' : Heap) (x : Str) : Prop where
  same : ∃ b, Fp env b ∧ Heap.SameBut b h h' ∧ ∃ o, h'.get? b = some o
  rest : ∀ y u, y ≠ x → Rd env h y u → Rd env h' y u
  ns : ∃ m, h'.Ns env.locals m
  cl : ∀ y a, env.cells.lookup y = some a → ∃ v, h'.IsCell a v

theorem Ns.uniq {a : Addr} {m m' : Str → Option Value} (x : h.Ns a m) (y : h.Ns a m') : m = m' := by
  obtain ⟨o, es, ep, ho, hd, _, hm⟩ := x
  obtain ⟨o', es', ep', ho', hd', _, hm'⟩ := y
  rw [ho] at ho'; cases ho'
  rw [hd] at hd'; cases hd'
  funext z; rw [← hm, ← hm']

theorem own_set_d {i : Nat} {lv : LV} {k : Nat} (hl : lv = .un ∨ ∃ d, lv = .d d) (o : Own (rho.set i lv) k) : Own rho k := by
  unfold Own at o ⊢
  by_cases e : k / 2 = i
  · subst e
    by_cases hi : k / 2 < rho.length
    · rw [List.getElem?_set_self hi] at o
      rcases hl with rfl | ⟨d, rfl⟩ <;> exact o.elim
    · rw [List.set_eq_of_length_le (by omega)] at o; exact o
  · rwa [List.getElem?_set_ne (fun h => e h.symm)] at o

theorem pin_set {i : Nat} {lv : LV} {ma' : Nat → Addr} (h : ∀ (i : Nat) ks ds, rho[i]? = some (.self ks ds) → ma (2 * i) = c.S) (hl : ∀ ks ds, lv = .self ks ds → ma' (2 * i) = c.S) (hm : ∀ j, j ≠ i → ma' (2 * j) = ma (2 * j)) :
    ∀ (j : Nat) ks ds, (rho.set i lv)[j]? = some (.self ks ds) → ma' (2 * j) = c.S := by
  intro j ks ds hj
  by_cases hij : i = j
  · subst hij
    by_cases hi : i < rho.length
    · rw [List.getElem?_set_self hi] at hj; exact hl ks ds (Option.some.inj hj)
    · rw [List.set_eq_of_length_le (by omega), List.getElem?_eq_none (by omega)] at hj; cases hj
  · rw [List.getElem?_set_ne hij] at hj
    rw [hm j (Ne.symm hij)]; exact h j ks ds hj
theorem St.setV {i : Nat} {x : Str} {lv₀ : LV} (X : EnvOK env nm) (S : St c hB env nm g0 e0 ma rho g h) (hx : nm[i]? = some x) (W : Wr env h h' x) (hl : lv₀ = .un ∨ ∃ d, lv₀ = .d d)
    (V : VarS c g h' env x (ma (2 * i)) (ma (2 * i + 1)) lv₀) : St c hB env nm g0 e0 ma (rho.set i lv₀) g h' := by
  obtain ⟨b, hb, hsb, ob, hob⟩ := W.same
  have nb : ∀ a o, h.get? a = some o → a ≠ b → h'.get? a = some o := fun a o e hne => (hsb.2 a hne).trans e
  refine ⟨S.base, S.g0g, ?_, ?_, S.lo, S.fp, ?_, W.ns, W.cl, ?_, ?_, pin_set (lv := lv₀) (ma' := ma) S.pin (fun ks ds e => by rcases hl with rfl | ⟨d, rfl⟩ <;> cases e) fun _ _ => rfl⟩
  · exact fun a o e => nb a o (S.sub a o e) fun hab => by subst hab; rw [(S.fp _ hb).1] at e; cases e
  · exact fun a o e => nb a o (S.keep a o e) fun hab => by subst hab; rw [(S.fp _ hb).2] at e; cases e
  · intro a ha
    by_cases hab : a = b
    · subst hab; exact ⟨ob, hob⟩
    · obtain ⟨o, ho⟩ := S.fpl a ha; exact ⟨o, nb a o ho hab⟩
  · intro j y lv hy hj
    by_cases hij : i = j
    · subst hij
      rw [hx] at hy; cases hy
      by_cases hi : i < rho.length
      · rw [List.getElem?_set_self hi] at hj; cases hj; exact V
      · rw [List.set_eq_of_length_le (by omega)] at hj
        rw [List.getElem?_eq_none (by omega)] at hj; cases hj
    · rw [List.getElem?_set_ne hij] at hj
      have hne : y ≠ x := by
        rintro rfl
        obtain ⟨p1, p2⟩ := List.getElem?_eq_some_iff.mp hx
        obtain ⟨q1, q2⟩ := List.getElem?_eq_some_iff.mp hy
        exact hij (List.getElem_inj X.nod |>.mp (p2.trans q2.symm))
      have V := S.vars j y lv hy hj
      cases lv with
      | un => trivial
      | d d' => obtain ⟨u, p, q⟩ := V; exact ⟨u, W.rest y u hne p, q⟩
      | ml l =>
        obtain ⟨vs, n, p, q, r'⟩ := V
        have O := S.own (2 * j) (by unfold Own; rw [show 2 * j / 2 = j by omega, hj]; show 2 * j % 2 = 0; omega)
        exact ⟨vs, n, W.rest y _ hne p, nb _ _ q (fun e => O.2.2.1 (e ▸ hb)), r'⟩
      | self ks ds =>
        obtain ⟨es, n, vs, p, q, r', t, u⟩ := V
        have O := S.own (2 * j) (by unfold Own; rw [show 2 * j / 2 = j by omega, hj]; trivial)
        have O' := S.own (2 * j + 1) (by unfold Own; rw [show (2 * j + 1) / 2 = j by omega, hj]; trivial)
        exact ⟨es, n, vs, W.rest y _ hne p, nb _ _ q (fun e => O.2.2.1 (e ▸ hb)), nb _ _ r' (fun e => O'.2.2.1 (e ▸ hb)), t, u⟩
  · intro k hk
    obtain ⟨h1, h2, h3, ⟨o, ho⟩, h5⟩ := S.own k (own_set_d hl hk)
    exact ⟨h1, h2, h3, ⟨o, nb _ _ ho (fun e => h3 (e ▸ hb))⟩, fun k' hk' => h5 k' (own_set_d hl hk')⟩
theorem St.setD {i : Nat} {x : Str} {v : Value} {d : D} (X : EnvOK env nm) (S : St c hB env nm g0 e0 ma rho g h) (hx : nm[i]? = some x) (W : Wr env h h' x) (r : Rd env h' x v) (rp : Rep c g v d) :
    St c hB env nm g0 e0 ma (rho.set i (.d d)) g h' := S.setV X hx W (.inr ⟨d, rfl⟩) ⟨v, r, rp⟩

/-- an address that nothing of the activation owns -/
structure Free (env : Env) (g e0 : PH) (ma : Nat → Addr) (rho : List LV) (a : Addr) : Prop where
  g : g a = none
  e : e0 a = none
  fp : ¬ Fp env a
  own : ∀ k, Own rho k → ma k ≠ a
theorem Free.set {a : Addr} {i : Nat} {lv : LV} (hl : lv = .un ∨ ∃ d, lv = .d d) (f : Free env g e0 ma rho a) : Free env g e0 ma (rho.set i lv) a :=
  ⟨f.g, f.e, f.fp, fun k hk => f.own k (own_set_d hl hk)⟩
theorem St.free (S : St c hB env nm g0 e0 ma rho g h) {a : Addr} (ha : h.get? a = none) : Free env g e0 ma rho a := by
  refine ⟨?_, ?_, ?_, ?_⟩
  · cases q : g a with
    | none => rfl
    | some o => rw [S.sub a o q] at ha; cases ha
  · cases q : e0 a with
    | none => rfl
    | some o => rw [S.keep a o q] at ha; cases ha
  · intro hf; obtain ⟨o, ho⟩ := S.fpl a hf; rw [ho] at ha; cases ha
  · intro k hk e; subst e; obtain ⟨o, ho⟩ := (S.own k hk).2.2.2.1; rw [ho] at ha; cases ha

theorem own_two {i k : Nat} (e : k / 2 = i) : k = 2 * i ∨ k = 2 * i + 1 := by omega
theorem own_set_ml {i : Nat} {l : List D} {k : Nat} (o : Own (rho.set i (.ml l)) k) : k = 2 * i ∨ (k / 2 ≠ i ∧ Own rho k) := by
  unfold Own at o
  by_cases e : k / 2 = i
  · subst e
    by_cases hi : k / 2 < rho.length
    · rw [List.getElem?_set_self hi] at o
      left; have : k % 2 = 0 := o; omega
    · rw [List.set_eq_of_length_le (by omega), List.getElem?_eq_none (by omega)] at o; exact o.elim
  · right
    refine ⟨e, ?_⟩
    unfold Own
    rwa [List.getElem?_set_ne (fun h => e h.symm)] at o
theorem own_set_self {i : Nat} {ks : List Nat} {l : List D} {k : Nat} (o : Own (rho.set i (.self ks l)) k) : (k = 2 * i ∨ k = 2 * i + 1) ∨ (k / 2 ≠ i ∧ Own rho k) := by
  unfold Own at o
  by_cases e : k / 2 = i
  · left; omega
  · right
    refine ⟨e, ?_⟩
    unfold Own
    rwa [List.getElem?_set_ne (fun h => e h.symm)] at o
theorem own_ml {i : Nat} {l : List D} (e : rho[i]? = some (.ml l)) : Own rho (2 * i) := by
  unfold Own; rw [show 2 * i / 2 = i by omega, e]; show 2 * i % 2 = 0; omega
theorem own_self {i : Nat} {ks : List Nat} {l : List D} (e : rho[i]? = some (.self ks l)) : Own rho (2 * i) ∧ Own rho (2 * i + 1) := by
  constructor
  · unfold Own; rw [show 2 * i / 2 = i by omega, e]; trivial
  · unfold Own; rw [show (2 * i + 1) / 2 = i by omega, e]; trivial

/-- a slot without a value takes a fresh list -/
theorem St.fill {i : Nat} {x : Str} {a : Addr} {vs : List Value} {n : Nat} {l : List D} (S : St c hB env nm g0 e0 ma rho g h) (hx : nm[i]? = some x) (F : Free env g e0 ma rho a) (r : Rd env h x (.ref a)) (ho : h.get? a = some (listO vs n)) (rp : RepL c g vs l) :
    St c hB env nm g0 e0 (fun k => if k = 2 * i then a else ma k) (rho.set i (.ml l)) g h := by
  refine ⟨S.base, S.g0g, S.sub, S.keep, S.lo, S.fp, S.fpl, S.ns, S.cl, ?_, ?_, pin_set (lv := .ml l) (ma' := fun k => if k = 2 * i then a else ma k) S.pin (fun ks ds e => by cases e) fun j hj => if_neg (by omega)⟩
  · intro j y lv hy hj
    by_cases hij : i = j
    · subst hij
      rw [hx] at hy; cases hy
      by_cases hi : i < rho.length
      · rw [List.getElem?_set_self hi] at hj; cases hj
        exact ⟨vs, n, by simpa using r, by simpa using ho, rp⟩
      · rw [List.set_eq_of_length_le (by omega), List.getElem?_eq_none (by omega)] at hj; cases hj
    · rw [List.getElem?_set_ne hij] at hj
      have V := S.vars j y lv hy hj
      have e1 : (if 2 * j = 2 * i then a else ma (2 * j)) = ma (2 * j) := if_neg (by omega)
      have e2 : (if 2 * j + 1 = 2 * i then a else ma (2 * j + 1)) = ma (2 * j + 1) := if_neg (by omega)
      rw [e1, e2]; exact V
  · intro k hk
    have ne : ∀ k', k' / 2 ≠ i → (if k' = 2 * i then a else ma k') = ma k' := fun k' e => if_neg (by omega)
    rcases own_set_ml hk with rfl | ⟨hne, hk⟩
    · simp only [if_true]
      refine ⟨F.g, F.e, F.fp, ⟨_, ho⟩, fun k' hk' e => ?_⟩
      rcases own_set_ml hk' with rfl | ⟨hne', hk'⟩
      · rfl
      · rw [ne k' hne'] at e; exact (F.own k' hk' e).elim
    · rw [ne k hne]
      obtain ⟨h1, h2, h3, h4, h5⟩ := S.own k hk
      refine ⟨h1, h2, h3, h4, fun k' hk' e => ?_⟩
      rcases own_set_ml hk' with rfl | ⟨hne', hk'⟩
      · simp only [if_true] at e; exact (F.own k hk e.symm).elim
      · rw [ne k' hne'] at e; exact h5 k' hk' e

theorem Rd.sameBut {x : Str} {v : Value} {b : Addr} (r : Rd env h x v) (hs : Heap.SameBut b h h') (hb : ¬ Fp env b) : Rd env h' x v := by
  cases r with
  | loc m hk hn hv => exact .loc m hk (hn.sameBut hs fun e => hb (.inl e.symm)) hv
  | cell a hk hc hv => exact .cell a hk hc (hv.sameBut hs fun e => hb (.inr ⟨x, e ▸ hc⟩))
  | free a hk hc hv hd => exact .free a hk hc (hv.sameBut hs fun e => hb (.inr ⟨x, e ▸ hc⟩)) hd

/-- an object of its own is changed: the rest of the state -/
theorem St.poke {b : Addr} {ob : Obj} (S : St c hB env nm g0 e0 ma rho g h) (hs : Heap.SameBut b h h') (hob : h'.get? b = some ob) (hg : g b = none) (he : e0 b = none) (hf : ¬ Fp env b) :
    PH.Le g h'.get? ∧ PH.Le e0 h'.get? ∧ (∀ a, Fp env a → ∃ o, h'.get? a = some o) ∧ (∃ m, h'.Ns env.locals m) ∧ (∀ y a, env.cells.lookup y = some a → ∃ v, h'.IsCell a v) ∧ (∀ k, Own rho k → ∃ o, h'.get? (ma k) = some o) := by
  have nb : ∀ a o, h.get? a = some o → a ≠ b → h'.get? a = some o := fun a o e hne => (hs.2 a hne).trans e
  refine ⟨fun a o e => nb a o (S.sub a o e) (fun hab => by subst hab; rw [hg] at e; cases e), fun a o e => nb a o (S.keep a o e) (fun hab => by subst hab; rw [he] at e; cases e), ?_, ?_, ?_, ?_⟩
  · intro a ha; obtain ⟨o, ho⟩ := S.fpl a ha; exact ⟨o, nb a o ho fun e => hf (e ▸ ha)⟩
  · obtain ⟨m, hm⟩ := S.ns; exact ⟨m, hm.sameBut hs fun e => hf (.inl e.symm)⟩
  · intro y a ha; obtain ⟨v, hv⟩ := S.cl y a ha; exact ⟨v, hv.sameBut hs fun e => hf (.inr ⟨y, e ▸ ha⟩)⟩
  · intro k hk
    by_cases e : ma k = b
    · rw [e]; exact ⟨ob, hob⟩
    · obtain ⟨o, ho⟩ := (S.own k hk).2.2.2.1; exact ⟨o, nb _ o ho e⟩

/-- a variable's parts that are not at the changed place stay -/
theorem VarS.stay {x : Str} {a dx b : Addr} {lv : LV} (V : VarS c g h env x a dx lv) (hs : Heap.SameBut b h h') (hf : ¬ Fp env b) (h1 : ∀ l, lv = .ml l → a ≠ b) (h2 : ∀ ks l, lv = .self ks l → a ≠ b ∧ dx ≠ b) : VarS c g h' env x a dx lv := by
  have nb : ∀ a o, h.get? a = some o → a ≠ b → h'.get? a = some o := fun a o e hne => (hs.2 a hne).trans e
  cases lv with
  | un => trivial
  | d d' => obtain ⟨u, p, q⟩ := V; exact ⟨u, p.sameBut hs hf, q⟩
  | ml l => obtain ⟨vs, n, p, q, r'⟩ := V; exact ⟨vs, n, p.sameBut hs hf, nb _ _ q (h1 l rfl), r'⟩
  | self ks ds => obtain ⟨es, n, vs, p, q, r', t, u⟩ := V; exact ⟨es, n, vs, p.sameBut hs hf, nb _ _ q (h2 ks ds rfl).1, nb _ _ r' (h2 ks ds rfl).2, t, u⟩

theorem St.mutate {i : Nat} {l l' : List D} {vs : List Value} {n : Nat} (S : St c hB env nm g0 e0 ma rho g h) (hi : rho[i]? = some (.ml l)) (hs : Heap.SameBut (ma (2 * i)) h h') (ho : h'.get? (ma (2 * i)) = some (listO vs n)) (rp : RepL c g vs l') :
    St c hB env nm g0 e0 ma (rho.set i (.ml l')) g h' := by
  obtain ⟨h1, h2, h3, h4, h5⟩ := S.own (2 * i) (own_ml hi)
  obtain ⟨a1, a2, a3, a4, a5, a6⟩ := S.poke hs ho h1 h2 h3
  have hlt : i < rho.length := by
    by_cases q : i < rho.length
    · exact q
    · rw [List.getElem?_eq_none (by omega)] at hi; cases hi
  refine ⟨S.base, S.g0g, a1, a2, S.lo, S.fp, a3, a4, a5, ?_, ?_, pin_set (lv := .ml l') (ma' := ma) S.pin (fun ks ds e => by cases e) fun _ _ => rfl⟩
  · intro j y lv hy hj
    by_cases hij : i = j
    · subst hij
      rw [List.getElem?_set_self hlt] at hj; cases hj
      obtain ⟨_, _, p, _⟩ := S.vars i y _ hy hi
      exact ⟨vs, n, p.sameBut hs h3, ho, rp⟩
    · rw [List.getElem?_set_ne hij] at hj
      refine (S.vars j y lv hy hj).stay hs h3 (fun l e => ?_) (fun ks l e => ?_)
      · subst e; intro e'; have := h5 _ (own_ml hj) e'; omega
      · subst e; exact ⟨fun e' => by have := h5 _ (own_self hj).1 e'; omega, fun e' => by have := h5 _ (own_self hj).2 e'; omega⟩
  · have back : ∀ k, Own (rho.set i (.ml l')) k → Own rho k := fun k hk => by
      rcases own_set_ml hk with rfl | ⟨_, hk⟩
      · exact own_ml hi
      · exact hk
    intro k hk
    obtain ⟨b1, b2, b3, b4, b5⟩ := S.own k (back k hk)
    exact ⟨b1, b2, b3, a6 k (back k hk), fun k' hk' => b5 k' (back k' hk')⟩

theorem St.mutSelf {i : Nat} {ks ks' : List Nat} {l l' : List D} {es : List DictEntry} {vs : List Value} {n : Nat} (S : St c hB env nm g0 e0 ma rho g h) (hi : rho[i]? = some (.self ks l)) (hs : Heap.SameBut (ma (2 * i + 1)) h h')
    (ho : h'.get? (ma (2 * i + 1)) = some (dictOf es n)) (he : EntriesAre c.P ks' vs es) (rp : RepL c g vs l') : St c hB env nm g0 e0 ma (rho.set i (.self ks' l')) g h' := by
  obtain ⟨h1, h2, h3, h4, h5⟩ := S.own (2 * i + 1) (own_self hi).2
  obtain ⟨a1, a2, a3, a4, a5, a6⟩ := S.poke hs ho h1 h2 h3
  have hlt : i < rho.length := by
    by_cases q : i < rho.length
    · exact q
    · rw [List.getElem?_eq_none (by omega)] at hi; cases hi
  refine ⟨S.base, S.g0g, a1, a2, S.lo, S.fp, a3, a4, a5, ?_, ?_, pin_set (lv := .self ks' l') (ma' := ma) S.pin (fun _ _ _ => S.pin i ks l hi) fun _ _ => rfl⟩
  · intro j y lv hy hj
    by_cases hij : i = j
    · subst hij
      rw [List.getElem?_set_self hlt] at hj; cases hj
      obtain ⟨_, _, _, p, q, _⟩ := S.vars i y _ hy hi
      refine ⟨es, n, vs, p.sameBut hs h3, (hs.2 _ fun e => ?_).trans q, ho, he, rp⟩
      have := h5 _ (own_self hi).1 e; omega
    · rw [List.getElem?_set_ne hij] at hj
      refine (S.vars j y lv hy hj).stay hs h3 (fun l e => ?_) (fun ks l e => ?_)
      · subst e; intro e'; have := h5 _ (own_ml hj) e'; omega
      · subst e; exact ⟨fun e' => by have := h5 _ (own_self hj).1 e'; omega, fun e' => by have := h5 _ (own_self hj).2 e'; omega⟩
  · have back : ∀ k, Own (rho.set i (.self ks' l')) k → Own rho k := fun k hk => by
      rcases own_set_self hk with (rfl | rfl) | ⟨_, hk⟩
      · exact (own_self hi).1
      · exact (own_self hi).2
      · exact hk
    intro k hk
    obtain ⟨b1, b2, b3, b4, b5⟩ := S.own k (back k hk)
    exact ⟨b1, b2, b3, a6 k (back k hk), fun k' hk' => b5 k' (back k' hk')⟩

/-- an object that nobody of the state owns is changed (an iterator) -/
theorem St.bump {b : Addr} {ob : Obj} (S : St c hB env nm g0 e0 ma rho g h) (hs : Heap.SameBut b h h') (hob : h'.get? b = some ob) (F : Free env g e0 ma rho b) : St c hB env nm g0 e0 ma rho g h' := by
  obtain ⟨a1, a2, a3, a4, a5, a6⟩ := S.poke hs hob F.g F.e F.fp
  refine ⟨S.base, S.g0g, a1, a2, S.lo, S.fp, a3, a4, a5, ?_, ?_, S.pin⟩
  · intro j y lv hy hj
    refine (S.vars j y lv hy hj).stay hs F.fp (fun l e => ?_) (fun ks l e => ?_)
    · subst e; exact F.own _ (own_ml hj)
    · subst e; exact ⟨F.own _ (own_self hj).1, F.own _ (own_self hj).2⟩
  · intro k hk
    obtain ⟨b1, b2, b3, b4, b5⟩ := S.own k hk
    exact ⟨b1, b2, b3, a6 k hk, b5⟩

theorem St.frz {i : Nat} {l : List D} (S : St c hB env nm g0 e0 ma rho g h) (hi : rho[i]? = some (.ml l)) :
    St c hB env nm g0 e0 ma (rho.set i (.d (.list l))) (fun b => if b = ma (2 * i) then h.get? b else g b) h := by
  obtain ⟨h1, h2, h3, ⟨o, ho⟩, h5⟩ := S.own (2 * i) (own_ml hi)
  have le : PH.Le g (fun b => if b = ma (2 * i) then h.get? b else g b) := fun b o e => by
    by_cases q : b = ma (2 * i)
    · subst q; rw [h1] at e; cases e
    · simp only [q, if_false]; exact e
  have hlt : i < rho.length := by
    by_cases q : i < rho.length
    · exact q
    · rw [List.getElem?_eq_none (by omega)] at hi; cases hi
  refine ⟨S.base, S.g0g.trans le, ?_, S.keep, ?_, ?_, S.fpl, S.ns, S.cl, ?_, ?_, pin_set (lv := .d (.list l)) (ma' := ma) S.pin (fun ks ds e => by cases e) fun _ _ => rfl⟩
  · intro b o e
    by_cases q : b = ma (2 * i)
    · simp only [q, if_true] at e ⊢; exact e
    · simp only [q, if_false] at e; exact S.sub b o e
  · intro b o e
    by_cases q : b = ma (2 * i)
    · subst q; exact .inl h2
    · simp only [q, if_false] at e; exact S.lo b o e
  · intro b hb
    have q : b ≠ ma (2 * i) := fun e => h3 (e ▸ hb)
    simp only [q, if_false]; exact S.fp b hb
  · intro j y lv hy hj
    by_cases hij : i = j
    · subst hij
      rw [List.getElem?_set_self hlt] at hj; cases hj
      obtain ⟨vs, n, p, q, r⟩ := S.vars i y _ hy hi
      exact ⟨_, p, .list (by simp only [if_true]; exact q) (r.mono le)⟩
    · rw [List.getElem?_set_ne hij] at hj
      exact (S.vars j y lv hy hj).keeps (PH.Le.refl _) le
  · intro k hk
    have hk0 := own_set_d (.inr ⟨_, rfl⟩) hk
    obtain ⟨b1, b2, b3, b4, b5⟩ := S.own k hk0
    refine ⟨?_, b2, b3, b4, fun k' hk' => b5 k' (own_set_d (.inr ⟨_, rfl⟩) hk')⟩
    have q : ma k ≠ ma (2 * i) := fun e => by
      have := h5 k hk0 e; subst this
      unfold Own at hk
      rw [show 2 * i / 2 = i by omega, List.getElem?_set_self hlt] at hk
      exact hk
    simp only [q, if_false]; exact b1

noncomputable def prot (e0 : PH) (h : Heap) (it : Addr) : PH := fun b => if b = it then h.get? b else e0 b
theorem St.protect {it : Addr} (S : St c hB env nm g0 e0 ma rho g h) (F : Free env g e0 ma rho it) : St c hB env nm g0 (prot e0 h it) ma rho g h := by
  refine ⟨S.base, S.g0g, S.sub, ?_, ?_, ?_, S.fpl, S.ns, S.cl, S.vars, ?_, S.pin⟩
  · intro b o e
    unfold prot at e
    by_cases q : b = it
    · simp only [q, if_true] at e ⊢; exact e
    · simp only [q, if_false] at e; exact S.keep b o e
  · intro b o e
    by_cases q : b = it
    · subst q; rw [F.g] at e; cases e
    · rcases S.lo b o e with x | x
      · left; unfold prot; simp only [q, if_false]; exact x
      · exact .inr x
  · intro b hb
    have q : b ≠ it := fun e => F.fp (e ▸ hb)
    refine ⟨(S.fp b hb).1, ?_⟩
    unfold prot; simp only [q, if_false]; exact (S.fp b hb).2
  · intro k hk
    obtain ⟨b1, b2, b3, b4, b5⟩ := S.own k hk
    refine ⟨b1, ?_, b3, b4, b5⟩
    unfold prot; simp only [F.own k hk, if_false]; exact b2
theorem St.unprotect {it : Addr} {o : Obj} {h₀ : Heap} (S : St c hB env nm g0 (prot e0 h₀ it) ma rho g h) (ho : h₀.get? it = some o) (he : e0 it = none) (hg : g0 it = none) (hf : ¬ Fp env it) :
    St c hB env nm g0 e0 ma rho g h ∧ Free env g e0 ma rho it ∧ h.get? it = some o := by
  have pe : prot e0 h₀ it it = some o := by unfold prot; simp only [if_true]; exact ho
  have le : ∀ b, prot e0 h₀ it b = none → e0 b = none := fun b e => by
    by_cases q : b = it
    · subst q; exact he
    · unfold prot at e; simp only [q, if_false] at e; exact e
  refine ⟨⟨S.base, S.g0g, S.sub, ?_, ?_, ?_, S.fpl, S.ns, S.cl, S.vars, ?_, S.pin⟩, ⟨?_, he, hf, ?_⟩, S.keep _ _ pe⟩
  · intro b o' e
    refine S.keep b o' ?_
    unfold prot
    by_cases q : b = it
    · subst q; rw [he] at e; cases e
    · simp only [q, if_false]; exact e
  · intro b o' e
    rcases S.lo b o' e with x | x
    · exact .inl (le b x)
    · exact .inr x
  · intro b hb; exact ⟨(S.fp b hb).1, le b (S.fp b hb).2⟩
  · intro k hk
    obtain ⟨b1, b2, b3, b4, b5⟩ := S.own k hk
    exact ⟨b1, le _ b2, b3, b4, b5⟩
  · cases q : g it with
    | none => rfl
    | some o' =>
      rcases S.lo _ _ q with x | x
      · rw [pe] at x; cases x
      · rw [hg] at x; cases x
  · intro k hk e
    have := (S.own k hk).2.1
    rw [e, pe] at this; cases this
end

section
variable {prog : Program} {w : World} {c : Cx} {hB : Heap} {env : Env} {nm : List Str} {g0 e0 g : PH} {ma : Nat → Addr} {rho : List LV} {A : Around} {s : Shared} {E : Value → Shared → Prop}
theorem store_sound {i : Nat} {x : Str} {v : Value} {Q : Unit → Shared → Prop} (X : EnvOK env nm) (S : St c hB env nm g0 e0 ma rho g s.heap) (hx : nm[i]? = some x)
    (q : ∀ h' tk, Wr env s.heap h' x → Rd env h' x v → Q () { s with heap := h', toks := tk }) : wpAny (model prog w) A (storeName env x v) Q E s := by
  have hp : (env.scope.kind == .class || (env.scope.kind == .module && env.locals != env.globals)) = false := by rw [X.kind]; rfl
  rcases X.kd i x hx with hl | ⟨hl, a, ha⟩
  · obtain ⟨m, hm⟩ := S.ns
    refine wpAny_storeName_local hl hm (fun h' hn hs => q h' _ ⟨⟨env.locals, .inl rfl, hs, ?_⟩, ?_, ⟨_, hn⟩, ?_⟩ (.loc _ hl hn (by simp))) hp
    · obtain ⟨o, _, _, ho, _⟩ := hn; exact ⟨o, ho⟩
    · intro y u hne r
      cases r with
      | loc m' hk hn' hv =>
        have := Ns.uniq hm hn'; subst this
        exact .loc _ hk hn (by simp [hne, hv])
      | cell b hk hc hv => exact .cell b hk hc (hv.sameBut hs (X.ne y b hc))
      | free b hk hc hv hd => exact .free b hk hc (hv.sameBut hs (X.ne y b hc)) hd
    · intro y b hb
      obtain ⟨u, hu⟩ := S.cl y b hb
      exact ⟨u, hu.sameBut hs (X.ne y b hb)⟩
  · obtain ⟨u, hu⟩ := S.cl x a ha
    refine wpAny_storeName_cell X.kind hl ha hu fun h' hc hs => q h' s.toks ⟨⟨a, .inr ⟨x, ha⟩, hs, ?_⟩, ?_, ?_, ?_⟩ (.cell a hl ha hc)
    · obtain ⟨o, ho, _⟩ := hc; exact ⟨o, ho⟩
    · intro y u' hne r
      cases r with
      | loc m' hk hn' hv => exact .loc _ hk (hn'.sameBut hs (X.ne x a ha).symm) hv
      | cell b hk hcb hv => exact .cell b hk hcb (hv.sameBut hs (fun e => hne (X.inj y x a (e ▸ hcb) ha)))
      | free b hk hcb hv hd => exact .free b hk hcb (hv.sameBut hs (fun e => hne (X.inj y x a (e ▸ hcb) ha))) hd
    · obtain ⟨m, hm⟩ := S.ns; exact ⟨m, hm.sameBut hs (X.ne x a ha).symm⟩
    · intro y b hb
      obtain ⟨u', hu'⟩ := S.cl y b hb
      by_cases e : b = a
      · subst e; exact ⟨_, hc⟩
      · exact ⟨u', hu'.sameBut hs e⟩
end
end Qu69
end

section
open PySem PySem.W PySem.Calls PyProof.Rows
set_option backward.match.sparseCases false
set_option genSizeOf false
set_option genSizeOfSpec false
set_option genInjectivity false
set_option genCtorIdx false
namespace Qu69

/-! fresh lists -/
inductive FE where
  | disp (as : IEs)
  | cat (a b : IE)
  | rng (as : IEs)
noncomputable def le1000 (xs : List D) : Option (List D) := if xs.length ≤ 1000 then some xs else none
noncomputable def catX (x : List D) : D → Option (List D)
  | .list y => if x.length + y.length ≤ 1000 then some (x ++ y) else none
  | _ => none
noncomputable def catD : D → D → Option (List D)
  | .list x => catX x
  | _ => fun _ => none
noncomputable def rgD : D → Option (List D)
  | .range a b k => if Builtin.Range.small a b k = true ∧ 0 ≤ Builtin.Range.rangeSize a b k ∧ Builtin.Range.rangeSize a b k ≤ 1000 then some (rgo a k (Builtin.Range.rangeSize a b k).toNat) else none
  | _ => none
noncomputable def evF (T : Tab) (rho : List LV) : FE → Option (List D)
  | .disp as => bnd (evEs T rho as) le1000
  | .cat a b => bnd2 (evE T rho a) (evE T rho b) catD
  | .rng as => bnd (evE T rho (.blt .range as)) rgD
noncomputable def chkF (T : Tab) (sc : Scope) (nm : List Str) : FE → Expr → Bool
  | .disp as, e => onLst (chkEs T sc nm as) (view e)
  | .cat a b, e => onBin (fun l o r => decide (o = .Add) && (chkE T sc nm a l && chkE T sc nm b r)) (view e)
  | .rng as, e => onCall (fun f xs => isGl sc BF.list.nm f && one1 (fun x => notStar x && chkE T sc nm (.blt .range as) x) xs) (view e)
theorem catD_inv {x y : D} {l : List D} (h : catD x y = some l) : ∃ a b, x = .list a ∧ y = .list b ∧ a.length + b.length ≤ 1000 ∧ a ++ b = l := by
  cases x <;> try (exact no_some h)
  cases y <;> try (exact no_some h)
  obtain ⟨h1, h2⟩ := if_some h
  exact ⟨_, _, rfl, rfl, h1, Option.some.inj h2⟩
theorem rgD_inv {x : D} {l : List D} (h : rgD x = some l) : ∃ a b k, x = .range a b k ∧ (Builtin.Range.small a b k = true ∧ 0 ≤ Builtin.Range.rangeSize a b k ∧ Builtin.Range.rangeSize a b k ≤ 1000) ∧ rgo a k (Builtin.Range.rangeSize a b k).toNat = l := by
  cases x <;> try (exact no_some h)
  obtain ⟨h1, h2⟩ := if_some h
  exact ⟨_, _, _, rfl, h1, Option.some.inj h2⟩
theorem rgo_len (k : Int) (m : Nat) : ∀ a : Int, (rgo a k m).length = m := by
  induction m with
  | zero => exact fun _ => rfl
  | succ m ih => exact fun a => congrArg Nat.succ (ih (a + k))
noncomputable def sans (g : PH) (a : Addr) : PH := fun b => if b = a then none else g b
theorem sans_le {g : PH} {a : Addr} : PH.Le (sans g a) g := fun b o e => by
  unfold sans at e; split at e
  · cases e
  · exact e
theorem le_sans {g g' : PH} {a : Addr} (l : PH.Le g g') (h : g a = none) : PH.Le g (sans g' a) := fun b o e => by
  unfold sans
  split
  · rename_i q; subst q; rw [h] at e; cases e
  · exact l b o e

section
variable {prog : Program} {w : World} {c : Cx} {hB : Heap} {mg mb : Str → Option Value} {T : Tab} {env : Env} {nm : List Str} {rho : List LV} {A : Around} {g : PH} {s : Shared} {n : Nat}
theorem at_size {h : Heap} : h.get? h.objs.size = none := by
  cases q : h.get? h.objs.size with
  | none => rfl
  | some x => exact absurd (Heap.lt_size q) (Nat.lt_irrefl _)
theorem not_before {h h' : Heap} (k : Keeps h h') : h.get? h'.objs.size = none := by
  cases q : h.get? h'.objs.size with
  | none => rfl
  | some x => exact absurd (Heap.lt_size (k _ _ q)) (Nat.lt_irrefl _)

theorem new_sub (S : ESt c hB env nm rho g s.heap) {h₁ : Heap} (k₁ : Keeps s.heap h₁) : ext g s.heap h₁ h₁.objs.size = none := by
  cases q' : ext g s.heap h₁ h₁.objs.size with
  | none => rfl
  | some o => exact no_some (at_size.symm.trans (ext_sub S.sub k₁ _ _ q'))
theorem evF_sound (G : Gl prog w c hB mg mb T) (F : FOK prog w c hB mg T n) {fe : FE} {e : Expr} {l : List D} (ce : chkF T env.scope nm fe e = true) (hA : AOk n A) (S : ESt c hB env nm rho g s.heap) (ee : evF T rho fe = some l)
    {Q : Value → Shared → Prop} (q : ∀ a vs m h' tk, Keeps s.heap h' → s.heap.get? a = none → h'.get? a = some (listO vs m) → l.length ≤ 1000 → RepL c (sans (ext g s.heap h') a) vs l → Q (.ref a) { s with heap := h', toks := tk }) :
    wpAny (model prog w) A (eval e env) Q (fun _ _ => False) s := by
  cases fe with
  | disp as =>
    obtain ⟨ds, eds, ee⟩ := bnd_inv (f := le1000) ee
    obtain ⟨hl, ee⟩ := if_some ee
    obtain rfl := Option.some.inj ee
    replace ce := onLst_inv ce
    induction ce with
    | mk xs p ok =>
      refine List_ (evEs_sound G F as _ ok A g s rho ds hA S eds p _ fun vs h₁ t₁ k₁ r₁ => ?_)
      refine wpAny_newObj_type ?_ (by show vs.toArray.size ≤ sizeLine; rw [List.size_toArray, r₁.length]; exact le_line hl)
      exact q _ vs 0 _ t₁ (k₁.trans push_keeps) (not_before k₁) (Heap.get?_push_size _ rfl) hl (r₁.mono (le_sans ((le_ext (ext_sub S.sub k₁)).trans (ext_trans k₁ push_keeps)) (new_sub S k₁)))
  | cat a b =>
    obtain ⟨dx, dy, ex, ey, ee⟩ := bnd2_inv (f := catD) ee
    obtain ⟨da, db, rfl, rfl, hl, rfl⟩ := catD_inv ee
    replace ce := onBin_inv ce
    induction ce with
    | mk x o y p ok =>
      obtain ⟨ho, ok1⟩ := and_tt ok
      obtain rfl := of_decide_eq_true ho
      obtain ⟨cl, cr⟩ := and_tt ok1
      refine wpAny_BinOp (two (evE_sound G F a) (evE_sound G F b) cl cr hA S ex ey fun v₁ v₂ h₁ t₁ k₁ r₁ r₂ S₁ => ?_)
      induction r₁.listO S₁.sub; rename_i a₁ vs n₁ ho rs
      induction r₂.listO S₁.sub; rename_i a₂ ws n₂ ho2 rs'
      have ev : vs.toArray ++ ws.toArray = (vs ++ ws).toArray := by simp
      refine concat_meets ⟨_, ho, rfl⟩ ⟨_, ho2, rfl⟩ noFill_list_add seq_list_add PySem.F.slot_list_add PySem.F.entry_list_add (PySem.F.args_list_add_2 _ _)
        (list_addW _ _ vs.toArray ws.toArray n₁ n₂ none none #[] #[] (by rw [List.size_toArray, List.size_toArray, rs.length, rs'.length]; exact le_line hl)) ⟨ho, ho2, ?_⟩
      rw [ev]
      exact q _ (vs ++ ws) 0 _ t₁ (k₁.trans push_keeps) (not_before k₁) (Heap.get?_push_size _ rfl) (by rw [List.length_append]; exact hl) ((rs.append rs').mono (le_sans ((le_ext (ext_sub S.sub k₁)).trans (ext_trans k₁ push_keeps)) (new_sub S k₁)))
  | rng as =>
    obtain ⟨dr, ex, ee⟩ := bnd_inv (f := rgD) ee
    obtain ⟨a, b, k, rfl, hk, rfl⟩ := rgD_inv ee
    replace ce := onCall_inv ce
    induction ce with
    | mk f xs p ok =>
      obtain ⟨cg, ok1⟩ := and_tt ok
      obtain ⟨x, ok2⟩ := one1_inv ok1
      obtain ⟨hns, cx⟩ := and_tt ok2
      replace cg := isGl_inv cg
      induction cg with
      | mk p' hx hd =>
        refine Call_Name rfl (bl_load G S hx hd (G.blt .list).1 (G.blt .list).2 ?_)
        rw [star_one hns]
        refine BF.list.callWith rfl (spliced_cons (evE_sound G F (.blt .range as) x cx A g s rho _ hA S ex _ fun v₁ h₁ t₁ k₁ r₁ => spliced_nil ?_))
        have hsub := ext_sub S.sub k₁
        cases r₁ with
        | range ho =>
          refine call_list_range (s := { s with heap := h₁, toks := t₁ }) (n := (Builtin.Range.rangeSize a b k).toNat) hA.handled (hsub _ _ ho) hk.1 (Int.toNat_of_nonneg hk.2.1).symm (Nat.le_trans (Int.toNat_le.mpr hk.2.2) (by decide)) fun h' tk acc' c' kp ho' hit => ?_
          exact q _ acc'.toList c' h' tk (k₁.trans kp) (not_before k₁) ho' (by rw [rgo_len]; exact Int.toNat_le.mpr hk.2.2) (rgo_rep k _ a _ (by simpa using hit.1) fun i v hv => hit.2 i v (by simpa using hv))

theorem St.fresh {g0 e0 : PH} {ma : Nat → Addr} {h h' : Heap} {a : Addr} (S : St c hB env nm g0 e0 ma rho g h) (k : Keeps h h') (ha : h.get? a = none) :
    St c hB env nm g0 e0 ma rho (sans (ext g h h') a) h' ∧ Free env (sans (ext g h h') a) e0 ma rho a := by
  have F := S.free ha
  refine ⟨S.grow k (le_sans (le_ext S.sub) F.g) (sans_le.trans (ext_sub S.sub k)) fun b o e => ?_, ⟨?_, F.e, F.fp, F.own⟩⟩
  · have e := sans_le b o e
    cases q : h.get? b with
    | none => exact .inr rfl
    | some o' => rw [ext_old q] at e; exact .inl e
  · unfold sans; rw [if_pos rfl]
end
end Qu69
end

section
open PySem PySem.W PySem.Calls PyProof.Rows
set_option backward.match.sparseCases false
set_option genSizeOf false
set_option genSizeOfSpec false
set_option genInjectivity false
set_option genCtorIdx false
namespace Qu69

inductive TG where
  | one (i : Nat)
  | many (is : List Nat)
set_option genCtorIdx true in
inductive Fl where
  | next
  | brk
  | ret (d : D)

/-- a comprehension: its source, the outer names that it reads, its test, its element -/
structure CE where
  src : IE
  vars : List Nat
  test : Option IT
  elt : IE
noncomputable def tsC (T : Tab) (crho : List LV) : Option IT → Option Bool
  | none => some true
  | some t => evT T crho t
noncomputable def mapC (T : Tab) (vs : List LV) (test : Option IT) (elt : IE) : List D → Option (List D)
  | [] => some []
  | d :: ds => bnd (tsC T (.d d :: vs) test) fun z => cond z (with2 (evE T (.d d :: vs) elt) (mapC T vs test elt ds) List.cons) (mapC T vs test elt ds)
noncomputable def varC (rho : List LV) (j : Nat) : LV := match rho[j]? with
  | some (.d x) => .d x
  | _ => .un
noncomputable def mapTo (T : Tab) (rho : List LV) (ce : CE) (ds : List D) : Option (List D) := if ds.length ≤ 1000 then mapC T (ce.vars.map (varC rho)) ce.test ce.elt ds else none
noncomputable def evC (T : Tab) (rho : List LV) (ce : CE) : Option (List D) := bnd (evE T rho ce.src) fun d => bnd (iterD d) (mapTo T rho ce)

mutual
inductive IS where
  | asg (tgs : List TG) (e : IE)
  | asgM (i : Nat) (fe : FE)
  | aug (i : Nat) (op : BO) (e : IE)
  | swp (is : List Nat) (es : IEs)
  | swpM (i j : Nat) (as : IEs) (e : IE)
  | ifs (t : IT) (a b : ISs)
  | whl (t : IT) (b : ISs)
  | fors (tg : TG) (e : IE) (b : ISs)
  | ret (e : IE)
  | brk
  | app (i : Nat) (e : IE)
  | sti (i : Nat) (a b : IE)
  | sta (i k : Nat) (e : IE)
  | asgC (i : Nat) (ce : CE)
  | ifC (ce : CE) (a b : ISs)
inductive ISs where
  | nil
  | frz (i : Nat) (r : ISs)
  | cons (a : IS) (r : ISs)
end

noncomputable def setAll : List LV → List Nat → List D → List LV
  | rho, i :: is, d :: ds => setAll (rho.set i (.d d)) is ds
  | rho, _, _ => rho
noncomputable def setMany (rho : List LV) (is : List Nat) : D → Option (List LV)
  | .tuple ds => if is.length = ds.length then some (setAll rho is ds) else none
  | _ => none
noncomputable def setTg (rho : List LV) : TG → D → Option (List LV)
  | .one i, d => some (rho.set i (.d d))
  | .many is, d => setMany rho is d
noncomputable def setTgs : List LV → List TG → D → Option (List LV)
  | rho, [], _ => some rho
  | rho, t :: ts, d => bnd (setTg rho t d) fun r => setTgs r ts d
noncomputable def intOp (f : Int → Int → Int) : D → D → Option D
  | .int a, .int b => some (.int (f a b))
  | _, _ => none
noncomputable def augD : BO → D → D → Option D
  | .add => intOp (· + ·)
  | .sub => intOp (· - ·)
  | _ => fun _ _ => none
noncomputable def augLV (op : BO) : LV → D → Option D
  | .d x => augD op x
  | _ => fun _ => none
noncomputable def appLV : LV → D → Option LV
  | .ml l, d => if l.length ≤ 1000 then some (.ml (l ++ [d])) else none
  | _, _ => none
noncomputable def setL (l : List D) (d : D) : D → Option LV
  | .int k => if 0 ≤ k ∧ k < l.length ∧ l.length ≤ 1000 then some (.ml (l.set k.toNat d)) else none
  | _ => none
noncomputable def stiLV : LV → D → D → Option LV
  | .ml l, k, d => setL l d k
  | _, _, _ => none
noncomputable def staLV (k : Nat) : LV → D → Option LV
  | .self ks ds, d => if ks.contains k = false ∧ ks.length ≤ 10 ∧ k ≤ 4 then some (.self (ks ++ [k]) (ds ++ [d])) else none
  | _, _ => none
noncomputable def frzLV : LV → Option (List D)
  | .ml l => some l
  | _ => none
noncomputable def loopS (k : List LV → Option (Fl × List LV)) : Fl × List LV → Option (Fl × List LV)
  | (.next, rho) => k rho
  | (.brk, rho) => some (.next, rho)
  | (.ret d, rho) => some (.ret d, rho)
noncomputable def thenS (k : List LV → Option (Fl × List LV)) : Fl × List LV → Option (Fl × List LV)
  | (.next, rho) => k rho
  | (.brk, rho) => some (.brk, rho)
  | (.ret d, rho) => some (.ret d, rho)
noncomputable def wh (t : List LV → Option Bool) (b : List LV → Option (Fl × List LV)) : Nat → List LV → Option (Fl × List LV)
  | 0, _ => none
  | n + 1, rho => bnd (t rho) fun z => cond z (bnd (b rho) (loopS (wh t b n))) (some (.next, rho))
noncomputable def fo (st : List LV → D → Option (List LV)) (b : List LV → Option (Fl × List LV)) : List D → List LV → Option (Fl × List LV)
  | [], rho => some (.next, rho)
  | d :: ds, rho => bnd (st rho d) fun rho₁ => bnd (b rho₁) (loopS (fo st b ds))

section
variable (T : Tab)
mutual
noncomputable def exS : IS → List LV → Option (Fl × List LV)
  | .asg tgs e, rho => bnd (evE T rho e) fun d => with1 (setTgs rho tgs d) fun r => (.next, r)
  | .asgM i fe, rho => with1 (evF T rho fe) fun l => (.next, rho.set i (.ml l))
  | .aug i op e, rho => bnd2 rho[i]? (evE T rho e) fun x y => with1 (augLV op x y) fun z => (.next, rho.set i (.d z))
  | .swp is es, rho => bnd (evEs T rho es) fun ds => if is.length = ds.length ∧ ds.length ≤ 1000 then some (.next, setAll rho is.reverse ds.reverse) else none
  | .swpM i j as e, rho => bnd2 (evEs T rho as) (evE T rho e) fun ds d => if ds.length ≤ 1000 then some (.next, (rho.set j (.d d)).set i (.ml ds)) else none
  | .ifs t a b, rho => bnd (evT T rho t) fun z => cond z (exSs a rho) (exSs b rho)
  | .whl t b, rho => wh (fun r => evT T r t) (exSs b) 64 rho
  | .fors tg e b, rho => bnd (evE T rho e) fun d => bnd (iterD d) fun ds => fo (fun r d => setTg r tg d) (exSs b) ds rho
  | .ret e, rho => with1 (evE T rho e) fun d => (.ret d, rho)
  | .brk, rho => some (.brk, rho)
  | .app i e, rho => bnd2 rho[i]? (evE T rho e) fun x d => with1 (appLV x d) fun v => (.next, rho.set i v)
  | .sti i a b, rho => bnd3 rho[i]? (evE T rho a) (evE T rho b) fun x k d => with1 (stiLV x k d) fun v => (.next, rho.set i v)
  | .sta i k e, rho => bnd2 rho[i]? (evE T rho e) fun x d => with1 (staLV k x d) fun v => (.next, rho.set i v)
  | .asgC i ce, rho => with1 (evC T rho ce) fun l => (.next, rho.set i (.d (.list l)))
  | .ifC ce a b, rho => bnd (evC T rho ce) fun l => bnd (intsD l) fun is => cond is.isEmpty (exSs b rho) (exSs a rho)
noncomputable def exSs : ISs → List LV → Option (Fl × List LV)
  | .nil, rho => some (.next, rho)
  | .frz i r, rho => bnd rho[i]? fun x => bnd (frzLV x) fun l => exSs r (rho.set i (.d (.list l)))
  | .cons a r, rho => bnd (exS a rho) (thenS (exSs r))
end
end

noncomputable def notComp : Expr → Bool
  | .ListComp .. => false
  | .SetComp .. => false
  | .DictComp .. => false
  | _ => true
noncomputable def notTup : Expr → Bool
  | .Tuple .. => false
  | _ => true
noncomputable def notSet : Expr → Bool
  | .Set .. => false
  | _ => true
noncomputable def chkNs (nm : List Str) : List Nat → List Expr → Bool
  | [], es => es.isEmpty
  | i :: is, es => consE (fun e es => isNm nm i e && chkNs nm is es) es
noncomputable def chkTg (nm : List Str) : TG → Expr → Bool
  | .one i, e => isNm nm i e
  | .many is, e => onTup (chkNs nm is) (view e)
noncomputable def chkTgs (nm : List Str) : List TG → List Expr → Bool
  | [], es => es.isEmpty
  | i :: is, es => consE (fun e es => chkTg nm i e && chkTgs nm is es) es
set_option backward.match.sparseCases true in
noncomputable def isStar : Expr → Bool
  | .Starred .. => true
  | _ => false
set_option backward.match.sparseCases true in
noncomputable def swNames (sc : Scope) (ts : List Expr) : List Str :=
  ts.filterMap fun
    | .Name id pos => if sc.names.lookup id == some .local && pos.line == (ts.head?.map (·.pos.line)).getD 0 then some id else none
    | _ => none
noncomputable def swOK (sc : Scope) (ts vs : List Expr) : Bool :=
  (ts.length == 2 || ts.length == 3) && (vs.length == ts.length) && !(vs.any isStar) && ((swNames sc ts).length == ts.length) && ((swNames sc ts).eraseDups.length == (swNames sc ts).length) && !(vs.all (foldedForSure 8)) && !(vs.all (constantsAlone 8))
noncomputable def namesAt (nm : List Str) (is : List Nat) (xs : List Str) : Bool := decide (is.map (nm[·]?) = xs.map some)

/-! a statement looked at from outside -/
inductive SV where
  | asg (ts : List Expr) (v : Expr)
  | aug (t : Expr) (o : Operator) (v : Expr)
  | exp (v : Expr)
  | ifs (u : Expr) (x : List Stmt) (y : List Stmt)
  | whl (u : Expr) (x : List Stmt) (y : List Stmt)
  | fors (t : Expr) (v : Expr) (x : List Stmt) (y : List Stmt)
  | ret (v : Option Expr)
  | brk 
  | other
noncomputable def sview : Stmt → SV
  | .Assign ts v _ => .asg ts v
  | .AugAssign t o v _ => .aug t o v
  | .Expr v _ => .exp v
  | .If u x y _ => .ifs u x y
  | .While u x y _ => .whl u x y
  | .For t v x y _ => .fors t v x y
  | .Return v _ => .ret v
  | .Break _ => .brk 
  | _ => .other
inductive SVR : SV → Stmt → Prop where
  | asg (ts : List Expr) (v : Expr) (p : Pos) : SVR (.asg ts v) (.Assign ts v p)
  | aug (t : Expr) (o : Operator) (v : Expr) (p : Pos) : SVR (.aug t o v) (.AugAssign t o v p)
  | exp (v : Expr) (p : Pos) : SVR (.exp v) (.Expr v p)
  | ifs (u : Expr) (x : List Stmt) (y : List Stmt) (p : Pos) : SVR (.ifs u x y) (.If u x y p)
  | whl (u : Expr) (x : List Stmt) (y : List Stmt) (p : Pos) : SVR (.whl u x y) (.While u x y p)
  | fors (t : Expr) (v : Expr) (x : List Stmt) (y : List Stmt) (p : Pos) : SVR (.fors t v x y) (.For t v x y p)
  | ret (v : Option Expr) (p : Pos) : SVR (.ret v) (.Return v p)
  | brk  (p : Pos) : SVR .brk (.Break p)
  | other (st : Stmt) : SVR .other st
theorem sview_ok (st : Stmt) : SVR (sview st) st := by
  cases st
  case Assign => exact .asg _ _ _
  case AugAssign => exact .aug _ _ _ _
  case Expr => exact .exp _ _
  case If => exact .ifs _ _ _ _
  case While => exact .whl _ _ _ _
  case For => exact .fors _ _ _ _ _
  case Return => exact .ret _ _
  case Break => exact .brk  _
  all_goals exact .other _
noncomputable def onAsg (q : List Expr → Expr → Bool) : SV → Bool
  | .asg ts v => q ts v
  | _ => false
inductive AsgR (q : List Expr → Expr → Bool) : Stmt → Prop where
  | mk (ts : List Expr) (v : Expr) (p : Pos) (ok : q ts v = true) : AsgR q (.Assign ts v p)
theorem onAsg_inv {q : List Expr → Expr → Bool} {st : Stmt} (ok : onAsg q (sview st) = true) : AsgR q st := by
  have r := sview_ok st
  revert ok
  generalize sview st = v at r
  induction r <;> try (exact no_true)
  exact fun ok => .mk _ _ _ ok
noncomputable def onAug (q : Expr → Operator → Expr → Bool) : SV → Bool
  | .aug t o v => q t o v
  | _ => false
inductive AugR (q : Expr → Operator → Expr → Bool) : Stmt → Prop where
  | mk (t : Expr) (o : Operator) (v : Expr) (p : Pos) (ok : q t o v = true) : AugR q (.AugAssign t o v p)
theorem onAug_inv {q : Expr → Operator → Expr → Bool} {st : Stmt} (ok : onAug q (sview st) = true) : AugR q st := by
  have r := sview_ok st
  revert ok
  generalize sview st = v at r
  induction r <;> try (exact no_true)
  exact fun ok => .mk _ _ _ _ ok
noncomputable def onExp (q : Expr → Bool) : SV → Bool
  | .exp v => q v
  | _ => false
inductive ExpR (q : Expr → Bool) : Stmt → Prop where
  | mk (v : Expr) (p : Pos) (ok : q v = true) : ExpR q (.Expr v p)
theorem onExp_inv {q : Expr → Bool} {st : Stmt} (ok : onExp q (sview st) = true) : ExpR q st := by
  have r := sview_ok st
  revert ok
  generalize sview st = v at r
  induction r <;> try (exact no_true)
  exact fun ok => .mk _ _ ok
noncomputable def onIf (q : Expr → List Stmt → List Stmt → Bool) : SV → Bool
  | .ifs u x y => q u x y
  | _ => false
inductive IfR (q : Expr → List Stmt → List Stmt → Bool) : Stmt → Prop where
  | mk (u : Expr) (x : List Stmt) (y : List Stmt) (p : Pos) (ok : q u x y = true) : IfR q (.If u x y p)
theorem onIf_inv {q : Expr → List Stmt → List Stmt → Bool} {st : Stmt} (ok : onIf q (sview st) = true) : IfR q st := by
  have r := sview_ok st
  revert ok
  generalize sview st = v at r
  induction r <;> try (exact no_true)
  exact fun ok => .mk _ _ _ _ ok
noncomputable def onWh (q : Expr → List Stmt → List Stmt → Bool) : SV → Bool
  | .whl u x y => q u x y
  | _ => false
inductive WhR (q : Expr → List Stmt → List Stmt → Bool) : Stmt → Prop where
  | mk (u : Expr) (x : List Stmt) (y : List Stmt) (p : Pos) (ok : q u x y = true) : WhR q (.While u x y p)
theorem onWh_inv {q : Expr → List Stmt → List Stmt → Bool} {st : Stmt} (ok : onWh q (sview st) = true) : WhR q st := by
  have r := sview_ok st
  revert ok
  generalize sview st = v at r
  induction r <;> try (exact no_true)
  exact fun ok => .mk _ _ _ _ ok
noncomputable def onFor (q : Expr → Expr → List Stmt → List Stmt → Bool) : SV → Bool
  | .fors t v x y => q t v x y
  | _ => false
inductive ForR (q : Expr → Expr → List Stmt → List Stmt → Bool) : Stmt → Prop where
  | mk (t : Expr) (v : Expr) (x : List Stmt) (y : List Stmt) (p : Pos) (ok : q t v x y = true) : ForR q (.For t v x y p)
theorem onFor_inv {q : Expr → Expr → List Stmt → List Stmt → Bool} {st : Stmt} (ok : onFor q (sview st) = true) : ForR q st := by
  have r := sview_ok st
  revert ok
  generalize sview st = v at r
  induction r <;> try (exact no_true)
  exact fun ok => .mk _ _ _ _ _ ok
noncomputable def onRet (q : Option Expr → Bool) : SV → Bool
  | .ret v => q v
  | _ => false
inductive RetR (q : Option Expr → Bool) : Stmt → Prop where
  | mk (v : Option Expr) (p : Pos) (ok : q v = true) : RetR q (.Return v p)
theorem onRet_inv {q : Option Expr → Bool} {st : Stmt} (ok : onRet q (sview st) = true) : RetR q st := by
  have r := sview_ok st
  revert ok
  generalize sview st = v at r
  induction r <;> try (exact no_true)
  exact fun ok => .mk _ _ ok
noncomputable def onBrk : SV → Bool
  | .brk  => true
  | _ => false
inductive BrkR : Stmt → Prop where
  | mk  (p : Pos)  : BrkR (.Break p)
theorem onBrk_inv {st : Stmt} (ok : onBrk (sview st) = true) : BrkR st := by
  have r := sview_ok st
  revert ok
  generalize sview st = v at r
  induction r <;> try (exact no_true)
  exact fun _ => .mk  _ 

/-- the names of a comprehension as its own scope sees them -/
noncomputable def relS (scope sc : Scope) : Scope :=
  { scope with names := scope.names.map fun (n, k) => if (k == .free && sc.kind == .function && sc.names.lookup n == some .cell) then (n, .cell) else (n, k) }
noncomputable def slotsC (nm : List Str) : List Nat → Option (List Str)
  | [] => some []
  | j :: js => with2 nm[j]? (slotsC nm js) List.cons
noncomputable def scOK (sc scope : Scope) (nm : List Str) (x : Str) : Bool :=
  decide (scope.kind = .function) && (scope.names.all fun y => !(y.2 == .cell)) && (scope.names.all fun y => !(y.2 == .local) || scope.names.lookup y.1 == some .local) && (scope.names.lookup x == some .local) &&
    (scope.names.all fun y => !(y.2 == .free) || (nm.contains y.1 && sc.names.lookup y.1 == some .cell))
noncomputable def capOK (sc scope : Scope) (ys : List Str) : Bool := ys.all fun y => (relS scope sc).names.lookup y == some .cell
/-- a comprehension taken apart -/
structure Parts where
  elt : Expr
  x : Str
  px : Pos
  iter : Expr
  ifs : List Expr
  scope : Scope
  pos : Pos
noncomputable def Parts.expr (p : Parts) : Expr := .ListComp p.elt [⟨.Name p.x p.px, p.iter, p.ifs, 0⟩] p.scope p.pos
noncomputable def onG (q : Str → Pos → Expr → List Expr → Bool) : Comprehension → Bool
  | ⟨t, iter, ifs, a⟩ => decide (a = 0) && onName (fun x p => q x p iter ifs) (view t)
noncomputable def onGen (q : Str → Pos → Expr → List Expr → Bool) : List Comprehension → Bool
  | [g] => onG q g
  | _ => false
noncomputable def onComp (q : Parts → Bool) : Expr → Bool
  | .ListComp elt gens scope pos => onGen (fun x p iter ifs => q ⟨elt, x, p, iter, ifs, scope, pos⟩) gens
  | _ => false
inductive GenV (q : Str → Pos → Expr → List Expr → Bool) : List Comprehension → Prop where
  | mk (x : Str) (p : Pos) (iter : Expr) (ifs : List Expr) (ok : q x p iter ifs = true) : GenV q [⟨.Name x p, iter, ifs, 0⟩]
theorem onGen_inv {q : Str → Pos → Expr → List Expr → Bool} {gs : List Comprehension} (h : onGen q gs = true) : GenV q gs := by
  rcases gs with _ | ⟨⟨t, iter, ifs, a⟩, _ | _⟩
  · exact no_true h
  · obtain ⟨h1, h2⟩ := and_tt h
    obtain rfl := of_decide_eq_true h1
    replace h2 := onName_inv h2
    clear h h1
    induction h2 with
    | mk x p ok => exact .mk x p iter ifs ok
  · exact no_true h
inductive CompV (q : Parts → Bool) : Expr → Prop where
  | mk (p : Parts) (ok : q p = true) : CompV q p.expr
theorem onComp_inv {q : Parts → Bool} {e : Expr} (h : onComp q e = true) : CompV q e := by
  cases e <;> try (exact no_true h)
  rename_i elt gens scope pos
  replace h := onGen_inv h
  induction h with
  | mk x p iter ifs ok => exact .mk ⟨elt, x, p, iter, ifs, scope, pos⟩ ok

section
variable (T : Tab) (sc : Scope) (nm : List Str)
noncomputable def chkIfs (sc : Scope) (nm : List Str) : Option IT → List Expr → Bool
  | none, es => es.isEmpty
  | some t, es => one1 (chkT T sc nm t) es
noncomputable def chkC (ce : CE) (p : Parts) : Bool := isAt (slotsC nm ce.vars) fun ys =>
  notSet p.iter && (chkE T sc nm ce.src p.iter && (scOK sc p.scope nm p.x && (capOK sc p.scope ys && (!(ys.contains p.x) && (chkE T (relS p.scope sc) (p.x :: ys) ce.elt p.elt && chkIfs T (relS p.scope sc) (p.x :: ys) ce.test p.ifs)))))
noncomputable def asgCOK (i : Nat) (ce : CE) (y : Str) (py : Pos) (p : Parts) : Bool :=
  decide (nm[i]? = some y) && (!(y == ("__debug__" : Str)) && (chkC T sc nm ce p && ((sc.names.lookup y == some .local) && ((py.line == p.pos.line) && !(p.scope.names.any fun (n, k) => n == y && (k == .local || k == .cell))))))
noncomputable def chkAsgC (i : Nat) (ce : CE) (st : Stmt) : Bool := onAsg (fun ts v => one1 (fun t => onName (fun y py => onComp (asgCOK T sc nm i ce y py) v) (view t)) ts) (sview st)
noncomputable def chkIfC (ce : CE) (u : Expr) : Bool := onCmp (fun l o r => decide (o = .NotEq) && (onLst List.isEmpty (view r) && onComp (chkC T sc nm ce) l)) (view u)
noncomputable def chkAsg (tgs : List TG) (e : IE) (st : Stmt) : Bool := onAsg (fun ts v => notComp v && (notTup v && (chkTgs nm tgs ts && chkE T sc nm e v))) (sview st)
noncomputable def chkAsgM (i : Nat) (fe : FE) (st : Stmt) : Bool := onAsg (fun ts v => one1 (fun t => notComp v && (isNm nm i t && chkF T sc nm fe v)) ts) (sview st)
noncomputable def chkAug (i : Nat) (op : BO) (e : IE) (st : Stmt) : Bool := onAug (fun t o v => decide (o = op.op) && (isNm nm i t && chkE T sc nm e v)) (sview st)
noncomputable def chkSwp (is : List Nat) (es : IEs) (st : Stmt) : Bool :=
  onAsg (fun ts v => one1 (fun t => onTup (fun ts => onTup (fun vs => swOK sc ts vs && (namesAt nm is (swNames sc ts) && chkEs T sc nm es vs)) (view v)) (view t)) ts) (sview st)
noncomputable def swpMOK (i j : Nat) (as : IEs) (e : IE) (ts : List Expr) (l v : Expr) : Bool := onLst (fun xs => swOK sc ts [l, v] && (namesAt nm [i, j] (swNames sc ts) && (notStar v && (chkEs T sc nm as xs && chkE T sc nm e v)))) (view l)
noncomputable def chkSwpM (i j : Nat) (as : IEs) (e : IE) (st : Stmt) : Bool :=
  onAsg (fun ts v => one1 (fun t => onTup (fun ts => onTup (two2 (swpMOK T sc nm i j as e ts)) (view v)) (view t)) ts) (sview st)
noncomputable def chkApp (i : Nat) (e : IE) (st : Stmt) : Bool := onExp (fun v => onMeth (fun o y xs => decide (y = "append") && (isNm nm i o && one1 (fun x => notStar x && chkE T sc nm e x) xs)) (view v)) (sview st)
noncomputable def chkSti (i : Nat) (a b : IE) (st : Stmt) : Bool := onAsg (fun ts v => one1 (fun t => onSub (fun o j => notComp v && (isNm nm i o && (chkE T sc nm a j && chkE T sc nm b v))) (view t)) ts) (sview st)
noncomputable def chkSta (i k : Nat) (e : IE) (st : Stmt) : Bool := onAsg (fun ts v => one1 (fun t => onAttr (fun o y => decide (y = atn k) && (notComp v && (isNm nm i o && chkE T sc nm e v))) (view t)) ts) (sview st)
noncomputable def chkRet (e : IE) (st : Stmt) : Bool := onRet (optE false (chkE T sc nm e)) (sview st)
mutual
noncomputable def chkS : IS → Stmt → Bool
  | .asg tgs e, st => chkAsg T sc nm tgs e st
  | .asgM i fe, st => chkAsgM T sc nm i fe st
  | .aug i op e, st => chkAug T sc nm i op e st
  | .swp is es, st => chkSwp T sc nm is es st
  | .swpM i j as e, st => chkSwpM T sc nm i j as e st
  | .ifs t a b, st => onIf (fun u x y => chkT T sc nm t u && (chkSs a x && chkSs b y)) (sview st)
  | .whl t b, st => onWh (fun u x y => chkT T sc nm t u && (y.isEmpty && chkSs b x)) (sview st)
  | .fors tg e b, st => onFor (fun t v x y => chkTg nm tg t && (y.isEmpty && (notSet v && (chkE T sc nm e v && chkSs b x)))) (sview st)
  | .ret e, st => chkRet T sc nm e st
  | .brk, st => onBrk (sview st)
  | .app i e, st => chkApp T sc nm i e st
  | .sti i a b, st => chkSti T sc nm i a b st
  | .sta i k e, st => chkSta T sc nm i k e st
  | .asgC i ce, st => chkAsgC T sc nm i ce st
  | .ifC ce a b, st => onIf (fun u x y => chkIfC T sc nm ce u && (chkSs a x && chkSs b y)) (sview st)
noncomputable def chkSs : ISs → List Stmt → Bool
  | .nil, ss => ss.isEmpty
  | .frz _ r, ss => chkSs r ss
  | .cons a r, ss => consE (fun x xs => chkS a x && chkSs r xs) ss
end
end
end Qu69
end

section
open PySem PySem.W PySem.Calls PyProof.Rows
set_option backward.match.sparseCases false
set_option genSizeOf false
set_option genSizeOfSpec false
set_option genInjectivity false
set_option genCtorIdx false
namespace Qu69

noncomputable def FlOK (c : Cx) (g : PH) : Fl → Flow → Prop
  | .next, .next => True
  | .brk, .brk => True
  | .ret d, .ret v => Rep c g v d
  | _, _ => False

/-- setting an attribute of the new object -/
noncomputable def Sa (prog : Program) (w : World) (c : Cx) (hB : Heap) : Prop :=
  ∀ (k : Nat) (A : Around) (s : Shared) (Q : Unit → Shared → Prop) (a dx : Addr) (es : List DictEntry) (n : Nat) (ks : List Nat) (vs : List Value) (v : Value), Keeps hB s.heap → s.heap.get? a = some (instObj c.C dx) → s.heap.get? dx = some (dictOf es n) → EntriesAre c.P ks vs es →
    ks.contains k = false → ks.length ≤ 10 → k ≤ 4 → hB.get? a = none → hB.get? dx = none → a ≠ dx →
    (∀ h' es' n' tk, Heap.SameBut dx s.heap h' → h'.get? dx = some (dictOf es' n') → EntriesAre c.P (ks ++ [k]) (vs ++ [v]) es' → Q () { s with heap := h', toks := tk }) → wpAny (model prog w) A (setAttr (.ref a) (atn k) v) Q (fun _ _ => False) s

section
variable {prog : Program} {w : World} {c : Cx} {hB : Heap} {mg mb : Str → Option Value} {T : Tab} {env : Env} {nm : List Str} {n : Nat} {A : Around} {g0 e0 g : PH} {ma : Nat → Addr} {rho : List LV} {s : Shared} {E : Value → Shared → Prop}

noncomputable def SndS (prog : Program) (w : World) (c : Cx) (hB : Heap) (T : Tab) (env : Env) (nm : List Str) (n : Nat) (ir : IS) : Prop :=
  ∀ st, chkS T env.scope nm ir st = true → ∀ (A : Around) (g0 e0 : PH) (ma : Nat → Addr) (g : PH) (s : Shared) (rho : List LV) (f : Fl) (rho' : List LV), AOk n A → St c hB env nm g0 e0 ma rho g s.heap → exS T ir rho = some (f, rho') → ∀ (Q : Flow → Shared → Prop),
    (∀ fl g' ma' h' tk, St c hB env nm g0 e0 ma' rho' g' h' → PH.Le g g' → FlOK c g' f fl → Q fl { s with heap := h', toks := tk }) → wpAny (model prog w) A (exec st env) Q (fun _ _ => False) s
noncomputable def SndSs (prog : Program) (w : World) (c : Cx) (hB : Heap) (T : Tab) (env : Env) (nm : List Str) (n : Nat) (ir : ISs) : Prop :=
  ∀ sts, chkSs T env.scope nm ir sts = true → ∀ (A : Around) (g0 e0 : PH) (ma : Nat → Addr) (g : PH) (s : Shared) (rho : List LV) (f : Fl) (rho' : List LV), AOk n A → St c hB env nm g0 e0 ma rho g s.heap → exSs T ir rho = some (f, rho') → ∀ (Q : Flow → Shared → Prop),
    (∀ fl g' ma' h' tk, St c hB env nm g0 e0 ma' rho' g' h' → PH.Le g g' → FlOK c g' f fl → Q fl { s with heap := h', toks := tk }) → wpAny (model prog w) A (execs sts env) Q (fun _ _ => False) s

noncomputable def StoreFn (prog : Program) (w : World) (env : Env) (x : Str) (t : Value → Sem Unit) : Prop :=
  ∀ (A : Around) (v : Value) (Q : Unit → Shared → Prop) (E : Value → Shared → Prop) (s : Shared), wpAny (model prog w) A (storeName env x v) Q E s → wpAny (model prog w) A (t v) Q E s
theorem storeFn_bind (x : Str) : StoreFn prog w env x (fun v => bindName env x v) := fun _ _ _ _ _ h => wpAny_bindName h
theorem storeFn_name (x : Str) (p : Pos) : StoreFn prog w env x (assign (.Name x p) env) := fun _ _ _ _ _ h => PyProof.Rows.assign_Name h

inductive Stores (prog : Program) (w : World) (env : Env) (nm : List Str) : List Nat → List (Value → Sem Unit) → Prop where
  | nil : Stores prog w env nm [] []
  | cons {i : Nat} {x : Str} {t : Value → Sem Unit} {is : List Nat} {ts : List (Value → Sem Unit)} (hx : nm[i]? = some x) (ht : StoreFn prog w env x t) (r : Stores prog w env nm is ts) : Stores prog w env nm (i :: is) (t :: ts)

theorem inOrder_sound (X : EnvOK env nm) {is : List Nat} {ts : List (Value → Sem Unit)} (hs : Stores prog w env nm is ts) : ∀ {vs : List Value} {ds : List D} {rho : List LV} {s : Shared} {Q : Unit → Shared → Prop}, RepL c g vs ds → is.length = ds.length →
    St c hB env nm g0 e0 ma rho g s.heap → (∀ h' tk, St c hB env nm g0 e0 ma (setAll rho is ds) g h' → Q () { s with heap := h', toks := tk }) → wpAny (model prog w) A (assignInOrder ts vs) Q E s := by
  induction hs with
  | nil =>
    intro vs ds rho s Q r h S q
    cases r with
    | nil => exact wpAny_pure (q s.heap s.toks S)
    | cons _ _ => exact absurd h.symm (Nat.succ_ne_zero _)
  | cons hx ht _ ih =>
    intro vs ds rho s Q r h S q
    cases r with
    | nil => exact absurd h (Nat.succ_ne_zero _)
    | cons rv rs =>
      refine wpAny_bind (wpAny_holding (ht _ _ _ _ _ (store_sound X S hx fun h' tk W rd => ?_)))
      exact ih (s := { s with heap := h', toks := tk }) rs (Nat.succ.inj h) (S.setD X hx W rd rv) q

theorem names_stores {is : List Nat} : ∀ {xs : List Str}, namesAt nm is xs = true → Stores prog w env nm is (xs.map fun x => fun v => bindName env x v) := by
  induction is with
  | nil =>
    intro xs h
    cases xs with
    | nil => exact .nil
    | cons _ _ => exact nomatch (of_decide_eq_true h)
  | cons i is ih =>
    intro xs h
    cases xs with
    | nil => exact nomatch (of_decide_eq_true h)
    | cons x xs =>
      obtain ⟨h1, h2⟩ := List.cons.inj (of_decide_eq_true h)
      exact .cons h1 (storeFn_bind x) (ih (decide_eq_true h2))
theorem Stores.append {is is' : List Nat} {ts ts' : List (Value → Sem Unit)} (x : Stores prog w env nm is ts) (y : Stores prog w env nm is' ts') : Stores prog w env nm (is ++ is') (ts ++ ts') := by
  induction x with
  | nil => exact y
  | cons a b _ ih => exact .cons a b ih
theorem Stores.reverse {is : List Nat} {ts : List (Value → Sem Unit)} (x : Stores prog w env nm is ts) : Stores prog w env nm is.reverse ts.reverse := by
  induction x with
  | nil => exact .nil
  | cons a b _ ih => rw [List.reverse_cons, List.reverse_cons]; exact ih.append (.cons a b .nil)
theorem RepL.reverse {c : Cx} {g : PH} {vs : List Value} {ds : List D} (x : RepL c g vs ds) : RepL c g vs.reverse ds.reverse :=
  x.ind (P := fun vs ds => RepL c g vs.reverse ds.reverse) .nil fun r _ ih => by rw [List.reverse_cons, List.reverse_cons]; exact ih.append (.cons r .nil)
theorem no_cons {α : Type} {a : α} {l : List α} {P : Prop} (h : a :: l = []) : P := by cases h
structure Each (prog : Program) (w : World) (env : Env) (nm : List Str) (is : List Nat) (ts : List Expr) : Prop where
  st : Stores prog w env nm is ((assignEach ts env).map (·.2))
  no : (assignEach ts env).findIdx? (·.1) = none
  ln : (assignEach ts env).length = is.length
theorem each_stores {is : List Nat} : ∀ {ts : List Expr}, chkNs nm is ts = true → Each prog w env nm is ts := by
  induction is with
  | nil =>
    intro ts h
    obtain rfl := List.isEmpty_iff.mp h
    exact ⟨.nil, rfl, rfl⟩
  | cons i is ih =>
    intro ts h
    obtain ⟨e, es, ok⟩ := consE_inv h
    obtain ⟨h1, h2⟩ := and_tt ok
    replace h1 := isNm_inv h1
    clear ok h
    have r := ih h2
    induction h1 with
    | mk x p hx hd =>
      refine ⟨.cons hx (storeFn_name x p) r.st, ?_, congrArg Nat.succ r.ln⟩
      show ((false, assign (.Name x p) env) :: assignEach es env).findIdx? (·.1) = none
      rw [List.findIdx?_cons, r.no]; rfl

theorem ExtBut.keeps {h h' : Heap} (e : Heap.ExtBut h.objs.size h h') : Keeps h h' := fun b o q => e b o (Nat.ne_of_lt (Heap.lt_size q)) q

theorem setMany_inv {rho rho' : List LV} {is : List Nat} {d : D} (h : setMany rho is d = some rho') : ∃ ds, d = .tuple ds ∧ is.length = ds.length ∧ setAll rho is ds = rho' := by
  cases d <;> try (exact no_some h)
  obtain ⟨h1, h2⟩ := if_some h
  exact ⟨_, rfl, h1, Option.some.inj h2⟩
theorem tg_sound (X : EnvOK env nm) {tg : TG} {t : Expr} {v : Value} {d : D} {rho' : List LV} {Q : Unit → Shared → Prop} (ct : chkTg nm tg t = true) (hA : AOk n A) (S : St c hB env nm g0 e0 ma rho g s.heap) (r : Rep c g v d) (es : setTg rho tg d = some rho')
    (q : ∀ h' tk, St c hB env nm g0 e0 ma rho' g h' → Q () { s with heap := h', toks := tk }) : wpAny (model prog w) A (assign t env v) Q E s := by
  cases tg with
  | one i =>
    replace ct := isNm_inv ct
    induction ct with
    | mk x p hx hd =>
      obtain rfl := Option.some.inj es
      exact PyProof.Rows.assign_Name (store_sound X S hx fun h' tk W rd => q h' tk (S.setD X hx W rd r))
  | many is =>
    obtain ⟨ds, rfl, hl, rfl⟩ := setMany_inv es
    replace ct := onTup_inv ct
    induction ct with
    | mk ts k p ok =>
      induction r.isTup S.sub; rename_i a vs ht rs
      have E := each_stores (prog := prog) (w := w) (env := env) ok
      refine assign_Tuple_tuple hA.handled ht (by rw [E.ln, hl, List.size_toArray, rs.length]) E.no fun h' he => ?_
      exact inOrder_sound X (s := { s with heap := h' }) E.st rs hl (S.wide (ExtBut.keeps he)) q
theorem each_head {tg : TG} {t : Expr} {ts : List Expr} (h : chkTg nm tg t = true) : (assignEach (t :: ts) env).map (·.2) = assign t env :: (assignEach ts env).map (·.2) := by
  cases tg with
  | one i => cases isNm_inv h; rfl
  | many is => cases onTup_inv h; rfl
theorem each_nil {ts : List Expr} (h : (assignEach ts env).map (·.2) = []) : ts = [] := by
  cases ts with
  | nil => rfl
  | cons a b => cases a <;> exact no_cons h
theorem tgs_sound (X : EnvOK env nm) (hA : AOk n A) {v : Value} {d : D} (r : Rep c g v d) {tgs : List TG} : ∀ {ts : List Expr} {rho rho' : List LV} {s : Shared} {Q : Unit → Shared → Prop}, chkTgs nm tgs ts = true → St c hB env nm g0 e0 ma rho g s.heap → setTgs rho tgs d = some rho' →
    (∀ h' tk, St c hB env nm g0 e0 ma rho' g h' → Q () { s with heap := h', toks := tk }) → wpAny (model prog w) A (assignAll v ((assignEach ts env).map (·.2))) Q E s := by
  induction tgs with
  | nil =>
    intro ts rho rho' s Q h S es q
    obtain rfl := List.isEmpty_iff.mp h
    obtain rfl := Option.some.inj es
    exact wpAny_pure (q s.heap s.toks S)
  | cons tg tgs ih =>
    intro ts rho rho' s Q h S es q
    obtain ⟨t, ts', ok⟩ := consE_inv h
    obtain ⟨h1, h2⟩ := and_tt ok
    obtain ⟨r₁, er, es⟩ := bnd_inv (f := fun r => setTgs r tgs d) es
    rw [each_head h1]
    cases hts : (assignEach ts' env).map (·.2) with
    | nil =>
      obtain rfl := each_nil hts
      refine tg_sound X h1 hA S r er fun h' tk S' => ?_
      cases tgs with
      | nil => obtain rfl := Option.some.inj es; exact q h' tk S'
      | cons a b => exact no_true h2
    | cons a b =>
      show wpAny _ _ (do holding [v] (assign t env v); assignAll v (a :: b)) _ _ _
      refine wpAny_bind (wpAny_holding (tg_sound X h1 hA S r er fun h' tk S' => ?_))
      rw [← hts]
      exact ih (s := { s with heap := h', toks := tk }) h2 S' es q
end
end Qu69
end

section
open PySem PySem.W PySem.Calls PyProof.Rows
set_option backward.match.sparseCases false
set_option genSizeOf false
set_option genSizeOfSpec false
set_option genInjectivity false
set_option genCtorIdx false
namespace Qu69
section
variable {prog : Program} {w : World} {c : Cx} {hB : Heap} {mg mb : Str → Option Value} {T : Tab} {env : Env} {nm : List Str} {n : Nat} {A : Around} {g0 e0 g : PH} {ma : Nat → Addr} {rho : List LV} {s : Shared} {E : Value → Shared → Prop}

theorem sole_ok {ts : List Expr} {v : Expr} {l : Nat} (h : notComp v = true) : swapsWithSole ts v l env = pure false := by
  rcases ts with _ | ⟨t, _ | _⟩
  · rfl
  · cases v <;> first | rfl | exact no_true h
  · rfl
theorem with_ok {t : Expr} {v : Expr} {l : Nat} (h : notComp v = true) : swapsWith v (some t) l env = pure false := by
  cases v <;> first | rfl | exact no_true h
theorem noswap_ok {ts : List Expr} {v : Expr} (h : notTup v = true) : swappedStores ts v env = pure none := by
  unfold swappedStores
  rcases ts with _ | ⟨t, tl⟩
  · rfl
  · cases t <;> first | rfl | (rcases tl with _ | ⟨_, _⟩ <;> first | rfl | (cases v <;> first | rfl | exact no_true h))

theorem ss_asg (G : Gl prog w c hB mg mb T) (F : FOK prog w c hB mg T n) (X : EnvOK env nm) (tgs : List TG) (e : IE) : SndS prog w c hB T env nm n (.asg tgs e) := by
  intro st cs A g0 e0 ma g s rho f rho' hA S es Q q
  obtain ⟨d, ed, es⟩ := bnd_inv (f := fun d => with1 (setTgs rho tgs d) fun r => (Fl.next, r)) es
  obtain ⟨r, er, es⟩ := one_some es
  obtain ⟨rfl, rfl⟩ := Prod.mk.inj es
  replace cs := onAsg_inv cs
  induction cs with
  | mk ts v p ok =>
    obtain ⟨c1, ok1⟩ := and_tt ok
    obtain ⟨c2, ok2⟩ := and_tt ok1
    obtain ⟨c3, c4⟩ := and_tt ok2
    refine wpAny_Assign_stores (evE_sound G F e v c4 A g s rho d hA (S.est X) ed _ fun v₁ h₁ t₁ k₁ r₁ => ?_) (sole_ok c1) (noswap_ok c2)
    exact tgs_sound X hA r₁ (s := { s with heap := h₁, toks := t₁ }) c3 (S.step k₁) er fun h' tk S' => q .next _ ma h' tk S' (le_ext S.sub) trivial

theorem St.setM {i : Nat} {x : Str} {a : Addr} {vs : List Value} {m : Nat} {l : List D} {h h' : Heap} (X : EnvOK env nm) (S : St c hB env nm g0 e0 ma rho g h) (hx : nm[i]? = some x) (F : Free env g e0 ma rho a) (W : Wr env h h' x) (rd : Rd env h' x (.ref a)) (ho : h.get? a = some (listO vs m)) (rp : RepL c g vs l) :
    St c hB env nm g0 e0 (fun k => if k = 2 * i then a else ma k) (rho.set i (.ml l)) g h' := by
  have S₁ := S.setV X hx W (lv₀ := .un) (.inl rfl) trivial
  obtain ⟨b, hb, hsb, _⟩ := W.same
  have ho' : h'.get? a = some (listO vs m) := (hsb.2 a fun e => F.fp (e ▸ hb)).trans ho
  have := S₁.fill hx (F.set (.inl rfl)) rd ho' rp
  rwa [List.set_set] at this

theorem ss_asgM (G : Gl prog w c hB mg mb T) (F : FOK prog w c hB mg T n) (X : EnvOK env nm) (i : Nat) (fe : FE) : SndS prog w c hB T env nm n (.asgM i fe) := by
  intro st cs A g0 e0 ma g s rho f rho' hA S es Q q
  obtain ⟨l, el, es⟩ := one_some (f := fun l => (Fl.next, rho.set i (.ml l))) es
  obtain ⟨rfl, rfl⟩ := Prod.mk.inj es
  replace cs := onAsg_inv cs
  induction cs with
  | mk ts v p ok =>
    obtain ⟨t, ok1⟩ := one1_inv ok
    obtain ⟨c1, ok2⟩ := and_tt ok1
    obtain ⟨c2, c3⟩ := and_tt ok2
    replace c2 := isNm_inv c2
    clear ok ok1 ok2
    induction c2 with
    | mk x p' hx hd =>
      refine wpAny_Assign_Name (evF_sound G F c3 hA (S.est X) el fun a vs m h₁ t₁ k₁ ha ho hl rp => ?_) (with_ok c1)
      obtain ⟨S₁, F₁⟩ := S.fresh k₁ ha
      refine store_sound (s := { s with heap := h₁, toks := t₁ }) X S₁ hx fun h' tk W rd => ?_
      exact q .next _ _ h' tk (S₁.setM X hx F₁ W rd ho rp) (le_sans (le_ext S.sub) (S.free ha).g) trivial

theorem Rd.loadN {x : Str} {v : Value} {Q : Value → Shared → Prop} (hk : env.scope.kind = .function) (r : Rd env s.heap x v) (q : Q v s) : wpAny (model prog w) A (loadName env x) Q E s := by
  cases r with
  | loc m hl hn hv => exact wpAny_loadName_local hk hl hn hv q
  | cell a hl hc hv => exact wpAny_loadName_cell hk hl hc hv q
  | free a hl hc hv hd => exact wpAny_loadName_free hk hl hc hv q hd

theorem augLV_inv {op : BO} {x : LV} {y z : D} (h : augLV op x y = some z) : ∃ a, x = .d a ∧ augD op a y = some z := by
  cases x <;> first | exact no_some h | exact ⟨_, rfl, h⟩
inductive AugDR : BO → D → D → D → Prop where
  | add (a b : Int) : AugDR .add (.int a) (.int b) (.int (a + b))
  | sub (a b : Int) : AugDR .sub (.int a) (.int b) (.int (a - b))
theorem intOp_inv {f : Int → Int → Int} {x y z : D} (h : intOp f x y = some z) : ∃ a b, x = .int a ∧ y = .int b ∧ D.int (f a b) = z := by
  cases x <;> try (exact no_some h)
  cases y <;> first | exact no_some h | exact ⟨_, _, rfl, rfl, Option.some.inj h⟩
theorem augD_inv {op : BO} {x y z : D} (h : augD op x y = some z) : AugDR op x y z := by
  cases op <;> try (exact no_some h)
  · obtain ⟨a, b, rfl, rfl, rfl⟩ := intOp_inv h; exact .add a b
  · obtain ⟨a, b, rfl, rfl, rfl⟩ := intOp_inv h; exact .sub a b
theorem aug_fin (X : EnvOK env nm) {i : Nat} {x : Str} (hx : nm[i]? = some x) {h₁ : Heap} (S : St c hB env nm g0 e0 ma rho g s.heap) (k₁ : Keeps s.heap h₁) {Q : Flow → Shared → Prop} {z : Int} {tk : Nat}
    (q : ∀ fl g' ma' h' tk, St c hB env nm g0 e0 ma' (rho.set i (.d (.int z))) g' h' → PH.Le g g' → FlOK c g' .next fl → Q fl { s with heap := h', toks := tk }) :
    wpAny (model prog w) A (storeName env x (.int z tk)) (fun _ => Q .next) (fun _ _ => False) { s with heap := h₁, toks := tk + 1 } :=
  store_sound (s := { s with heap := h₁, toks := tk + 1 }) X (S.step k₁) hx fun h' tk' W rd' => q .next _ ma h' tk' ((S.step k₁).setD X hx W rd' (.int _ _)) (le_ext S.sub) trivial
theorem ss_aug (G : Gl prog w c hB mg mb T) (F : FOK prog w c hB mg T n) (X : EnvOK env nm) (i : Nat) (op : BO) (e : IE) : SndS prog w c hB T env nm n (.aug i op e) := by
  intro st cs A g0 e0 ma g s rho f rho' hA S es Q q
  obtain ⟨lx, dy, hr, ey, es⟩ := bnd2_inv (f := fun x y => with1 (augLV op x y) fun z => (Fl.next, rho.set i (.d z))) es
  obtain ⟨dz, ez, es⟩ := one_some es
  obtain ⟨rfl, rfl⟩ := Prod.mk.inj es
  obtain ⟨dx, rfl, ez⟩ := augLV_inv ez
  replace cs := onAug_inv cs
  induction cs with
  | mk t o v p ok =>
    obtain ⟨c1, ok1⟩ := and_tt ok
    obtain rfl := of_decide_eq_true c1
    obtain ⟨c2, c3⟩ := and_tt ok1
    replace c2 := isNm_inv c2
    clear ok ok1 c1
    induction c2 with
    | mk x p' hx hd =>
      obtain ⟨vx, rd, rx⟩ := S.vars i x _ hx hr
      refine wpAny_AugAssign_Name (rd.loadN X.kind (evE_sound G F e v c3 A g s rho dy hA (S.est X) ey _ fun v₁ h₁ t₁ k₁ r₁ => ?_))
      induction augD_inv ez with
      | add a b =>
        induction rx.int_inv
        induction r₁.int_inv
        exact wpAny_iadd_int (aug_fin X hx S k₁ q)
      | sub a b =>
        induction rx.int_inv
        induction r₁.int_inv
        exact AutoIntOps.isub_0 (aug_fin X hx S k₁ q)

theorem starred_eq : (fun e : Expr => match e with | .Starred .. => true | _ => false) = isStar := by
  funext e; cases e <;> rfl
theorem swap_ok {ts vs : List Expr} {k k' : Nat} {p p' : Pos} (X : EnvOK env nm) (h : swOK env.scope ts vs = true) : swappedStores [.Tuple ts k p] (.Tuple vs k' p') env = pure (some (swNames env.scope ts)) := by
  unfold swOK at h
  obtain ⟨h, h7⟩ := and_tt h
  obtain ⟨h, h6⟩ := and_tt h
  obtain ⟨h, h5⟩ := and_tt h
  obtain ⟨h, h4⟩ := and_tt h
  obtain ⟨h, h3⟩ := and_tt h
  obtain ⟨h1, h2⟩ := and_tt h
  replace h2 := eq_of_beq h2
  replace h3 := not_tt h3
  replace h4 := eq_of_beq h4
  replace h5 := eq_of_beq h5
  replace h6 := not_tt h6
  replace h7 := not_tt h7
  have hb : env.blockKind = .function := by simp [Env.blockKind, X.kind, ScopeKind.isAnnotationScope]
  have e1 : (!(ts.length == 2 || ts.length == 3) || vs.length != ts.length || env.blockKind != .function) = false := by rw [h1, hb, h2]; simp
  have e3 : ((swNames env.scope ts).length != ts.length || (swNames env.scope ts).eraseDups.length != (swNames env.scope ts).length) = false := by rw [h5, h4]; simp
  unfold swappedStores
  refine Eq.trans (if_neg (by rw [e1]; exact Bool.false_ne_true)) ?_
  refine Eq.trans (if_neg (fun hc => ?_)) ?_
  · have hc' : vs.any isStar = true := hc
    rw [h3] at hc'; cases hc'
  refine Eq.trans (if_neg (fun hc => ?_)) ?_
  · have hc' : ((swNames env.scope ts).length != ts.length || (swNames env.scope ts).eraseDups.length != (swNames env.scope ts).length) = true := hc
    rw [e3] at hc'; cases hc'
  refine Eq.trans (if_neg (by rw [h6]; exact Bool.false_ne_true)) ?_
  refine Eq.trans (if_neg (by rw [h7]; exact Bool.false_ne_true)) ?_
  rfl
end
end Qu69
end

section
open PySem PySem.W PySem.Calls PyProof.Rows
set_option backward.match.sparseCases false
set_option genSizeOf false
set_option genSizeOfSpec false
set_option genInjectivity false
set_option genCtorIdx false
namespace Qu69
section
variable {prog : Program} {w : World} {c : Cx} {hB : Heap} {mg mb : Str → Option Value} {T : Tab} {env : Env} {nm : List Str} {n : Nat} {A : Around} {g0 e0 g : PH} {ma : Nat → Addr} {rho : List LV} {s : Shared} {E : Value → Shared → Prop}

theorem names_len {is : List Nat} {xs : List Str} (h : namesAt nm is xs = true) : is.length = xs.length := by
  have := congrArg List.length (of_decide_eq_true h)
  rwa [List.length_map, List.length_map] at this

theorem ss_swp (G : Gl prog w c hB mg mb T) (F : FOK prog w c hB mg T n) (X : EnvOK env nm) (is : List Nat) (es : IEs) : SndS prog w c hB T env nm n (.swp is es) := by
  intro st cs A g0 e0 ma g s rho f rho' hA S ex Q q
  obtain ⟨ds, eds, ex⟩ := bnd_inv (f := fun ds : List D => if is.length = ds.length ∧ ds.length ≤ 1000 then some (Fl.next, setAll rho is.reverse ds.reverse) else none) ex
  obtain ⟨hl, ex⟩ := if_some ex
  obtain ⟨rfl, rfl⟩ := Prod.mk.inj (Option.some.inj ex)
  replace cs := onAsg_inv cs
  induction cs with
  | mk tl v p ok =>
    obtain ⟨t, ok1⟩ := one1_inv ok
    replace ok1 := onTup_inv ok1
    clear ok
    induction ok1 with
    | mk ts k1 p1 ok =>
      replace ok := onTup_inv ok
      induction ok with
      | mk vs k2 p2 ok =>
        obtain ⟨c1, ok1⟩ := and_tt ok
        obtain ⟨c2, c3⟩ := and_tt ok1
        have ev : evE T rho (.tup es) = some (.tuple ds) := by show bnd (evEs T rho es) tupD = _; rw [eds]; exact if_pos hl.2
        have cc : chkE T env.scope nm (.tup es) (.Tuple vs k2 p2) = true := c3
        refine Assign_Tuple_swapped (evE_sound G F (.tup es) _ cc A g s rho _ hA (S.est X) ev _ fun v₁ h₁ t₁ k₁ r₁ => ?_) rfl (swap_ok X c1)
        have S₁ := S.step k₁
        induction r₁.isTup S₁.sub; rename_i a us ht rs
        have hn : (swNames env.scope ts).length = us.toArray.size := by rw [← names_len c2, hl.1, List.size_toArray, rs.length]
        rw [hn]
        refine unpackItems_tuple (s := { s with heap := h₁, toks := t₁ }) hA.handled ht fun h' he => ?_
        have := (names_stores (prog := prog) (w := w) (env := env) c2).reverse
        rw [← List.map_reverse] at this
        exact inOrder_sound X (s := { s with heap := h', toks := t₁ }) this rs.reverse (by rw [List.length_reverse, List.length_reverse]; exact hl.1) (S₁.wide (ExtBut.keeps he)) fun h'' tk S' => q .next _ ma h'' tk S' (le_ext S.sub) trivial

theorem ss_swpM (G : Gl prog w c hB mg mb T) (F : FOK prog w c hB mg T n) (X : EnvOK env nm) (i j : Nat) (as : IEs) (e : IE) : SndS prog w c hB T env nm n (.swpM i j as e) := by
  intro st cs A g0 e0 ma g s rho f rho' hA S ex Q q
  obtain ⟨ds, d, eds, ed, ex⟩ := bnd2_inv (f := fun (ds : List D) d => if ds.length ≤ 1000 then some (Fl.next, (rho.set j (.d d)).set i (.ml ds)) else none) ex
  obtain ⟨hl, ex⟩ := if_some ex
  obtain ⟨rfl, rfl⟩ := Prod.mk.inj (Option.some.inj ex)
  replace cs := onAsg_inv cs
  induction cs with
  | mk tl v p ok =>
    obtain ⟨t, ok1⟩ := one1_inv ok
    replace ok1 := onTup_inv ok1
    clear ok
    induction ok1 with
    | mk ts k1 p1 ok =>
      replace ok := onTup_inv ok
      induction ok with
      | mk vs k2 p2 ok =>
        obtain ⟨l, v2, ok0⟩ := two2_inv ok
        clear ok
        cases onLst_inv ok0 with
        | mk xs pl ok =>
          clear ok0
          obtain ⟨c1, ok1⟩ := and_tt ok
          obtain ⟨c2, ok2⟩ := and_tt ok1
          obtain ⟨c3, ok3⟩ := and_tt ok2
          obtain ⟨c4, c5⟩ := and_tt ok3
          clear ok ok1 ok2 ok3
          refine Assign_Tuple_swapped (Tuple_ ?_) rfl (swap_ok X c1)
          rw [star_cons (x := .List xs pl) rfl, star_cons c3, backTo_cons, backTo_cons]
          refine spliced_cons (evF_sound G F (fe := .disp as) (e := .List xs pl) c4 hA (S.est X) (l := ds) (by show bnd (evEs T rho as) le1000 = _; rw [eds]; exact if_pos hl) fun a us m h₁ t₁ k₁ ha ho hl' rp => ?_)
          obtain ⟨S₁, F₁⟩ := S.fresh k₁ ha
          refine spliced_cons (evE_sound G F e v2 c5 A _ { s with heap := h₁, toks := t₁ } rho d hA (S₁.est X) ed _ fun v₂ h₂ t₂ k₂ r₂ => spliced_nil ?_)
          have S₂ := S₁.step k₂
          have F₂ : Free env (ext (sans (ext g s.heap h₁) a) h₁ h₂) e0 ma rho a := ⟨by rw [ext_old ho]; exact F₁.g, F₁.e, F₁.fp, F₁.own⟩
          have le₂ : PH.Le g (ext (sans (ext g s.heap h₁) a) h₁ h₂) := (le_sans (le_ext S.sub) (S.free ha).g).trans (le_ext S₁.sub)
          refine wpAny_newObj_type ?_ (by show 2 ≤ sizeLine; rw [sizeLine_eq]; omega)
          have hn : (swNames env.scope ts).length = ([.ref a, v₂] : List Value).toArray.size := (names_len c2).symm
          have kp : Keeps h₂ (h₂.push { cls := .type "tuple", data := .seq ([.ref a, v₂] : List Value).toArray }) := fun _ _ e => Heap.get?_push_of_some _ e
          have ht : IsTup (h₂.push { cls := .type "tuple", data := .seq ([.ref a, v₂] : List Value).toArray }) h₂.objs.size ([.ref a, v₂] : List Value).toArray := ⟨_, Heap.get?_push_size _ rfl, rfl, _, rfl⟩
          rw [hn]
          generalize h₂.push { cls := .type "tuple", data := .seq ([.ref a, v₂] : List Value).toArray } = hT at kp ht ⊢
          have S₃ := S₂.wide kp
          refine unpackItems_tuple hA.handled ht fun h₃ he => ?_
          have k₃ := ExtBut.keeps he
          have S₄ := S₃.wide k₃
          have hns : namesAt nm [i, j] (swNames env.scope ts) = true := c2
          obtain ⟨xi, xj, hsw⟩ : ∃ xi xj, swNames env.scope ts = [xi, xj] := by
            have hn' : (swNames env.scope ts).length = 2 := hn
            rcases hq : swNames env.scope ts with _ | ⟨x, _ | ⟨y, _ | _⟩⟩ <;> rw [hq] at hn' <;> simp at hn'
            exact ⟨_, _, rfl⟩
          rw [hsw] at hns ⊢
          simp only [namesAt, List.map_cons, List.map_nil, decide_eq_true_eq, List.cons.injEq, and_true] at hns
          show wpAny _ _ (assignInOrder [fun v => bindName env xj v, fun v => bindName env xi v] [v₂, .ref a]) _ _ _
          refine wpAny_bind (wpAny_holding (wpAny_bindName (store_sound (s := { s with heap := h₃, toks := t₂ }) X S₄ hns.2 fun h₄ t₄ W rd => ?_)))
          have S₅ := S₄.setD X hns.2 W rd r₂
          refine wpAny_bind (wpAny_holding (wpAny_bindName (store_sound (s := { s with heap := h₄, toks := t₄ }) X S₅ hns.1 fun h₅ t₅ W' rd' => ?_)))
          obtain ⟨b, hb, hsb, _⟩ := W.same
          have ho₄ : h₄.get? a = some (listO us m) := (hsb.2 a fun e => F₁.fp (e ▸ hb)).trans (k₃ _ _ (kp _ _ (k₂ _ _ ho)))
          have le₁ : PH.Le (sans (ext g s.heap h₁) a) (ext (sans (ext g s.heap h₁) a) h₁ h₂) := le_ext S₁.sub
          exact wpAny_pure (q .next _ _ h₅ t₅ (S₅.setM X hns.1 (F₂.set (.inr ⟨_, rfl⟩)) W' rd' ho₄ (rp.mono le₁)) le₂ trivial)

theorem ss_ifs (G : Gl prog w c hB mg mb T) (F : FOK prog w c hB mg T n) (X : EnvOK env nm) (t : IT) {a b : ISs} (ha : SndSs prog w c hB T env nm n a) (hb : SndSs prog w c hB T env nm n b) : SndS prog w c hB T env nm n (.ifs t a b) := by
  intro st cs A g0 e0 ma g s rho f rho' hA S ex Q q
  obtain ⟨z, et, ex⟩ := bnd_inv (f := fun z => cond z (exSs T a rho) (exSs T b rho)) ex
  replace cs := onIf_inv cs
  induction cs with
  | mk u x y p ok =>
    obtain ⟨c1, ok1⟩ := and_tt ok
    obtain ⟨c2, c3⟩ := and_tt ok1
    refine wpAny_If (evT_sound G F t u c1 A g s rho _ hA (S.est X) et _ fun h₁ t₁ k₁ => ?_)
    cases z
    · exact hb y c3 A g0 e0 ma _ { s with heap := h₁, toks := t₁ } rho f rho' hA (S.step k₁) ex Q fun fl g' ma' h' tk S' le fo => q fl g' ma' h' tk S' ((le_ext S.sub).trans le) fo
    · exact ha x c2 A g0 e0 ma _ { s with heap := h₁, toks := t₁ } rho f rho' hA (S.step k₁) ex Q fun fl g' ma' h' tk S' le fo => q fl g' ma' h' tk S' ((le_ext S.sub).trans le) fo

theorem ss_ret (G : Gl prog w c hB mg mb T) (F : FOK prog w c hB mg T n) (X : EnvOK env nm) (e : IE) : SndS prog w c hB T env nm n (.ret e) := by
  intro st cs A g0 e0 ma g s rho f rho' hA S ex Q q
  obtain ⟨d, ed, ex⟩ := one_some (f := fun d => (Fl.ret d, rho)) ex
  obtain ⟨rfl, rfl⟩ := Prod.mk.inj ex
  replace cs := onRet_inv cs
  induction cs with
  | mk v p ok =>
    cases v with
    | none => exact no_true ok
    | some v => exact wpAny_Return_some (evE_sound G F e _ ok A g s rho d hA (S.est X) ed _ fun v₁ h₁ t₁ k₁ r₁ => q (.ret v₁) _ ma h₁ t₁ (S.step k₁) (le_ext S.sub) r₁)
theorem ss_brk : SndS prog w c hB T env nm n .brk := by
  intro st cs A g0 e0 ma g s rho f rho' hA S ex Q q
  obtain ⟨rfl, rfl⟩ := Prod.mk.inj (Option.some.inj ex)
  replace cs := onBrk_inv cs
  induction cs with
  | mk p => exact wpAny_Break (q .brk g ma s.heap s.toks S (PH.Le.refl _) trivial)

theorem appLV_inv {x v : LV} {d : D} (h : appLV x d = some v) : ∃ l, x = .ml l ∧ l.length ≤ 1000 ∧ LV.ml (l ++ [d]) = v := by
  cases x <;> try (exact no_some h)
  obtain ⟨h1, h2⟩ := if_some h
  exact ⟨_, rfl, h1, Option.some.inj h2⟩
theorem ss_app (G : Gl prog w c hB mg mb T) (F : FOK prog w c hB mg T n) (X : EnvOK env nm) (i : Nat) (e : IE) : SndS prog w c hB T env nm n (.app i e) := by
  intro st cs A g0 e0 ma g s rho f rho' hA S ex Q q
  obtain ⟨lx, d, hr, ed, ex⟩ := bnd2_inv (f := fun x d => with1 (appLV x d) fun v => (Fl.next, rho.set i v)) ex
  obtain ⟨v', ev, ex⟩ := one_some ex
  obtain ⟨rfl, rfl⟩ := Prod.mk.inj ex
  obtain ⟨l, rfl, hl, rfl⟩ := appLV_inv ev
  replace cs := onExp_inv cs
  induction cs with
  | mk v p ok =>
    replace ok := onMeth_inv ok
    induction ok with
    | mk o y xs ap p2 c3 ok =>
      obtain ⟨hy, ok1⟩ := and_tt ok
      obtain rfl := of_decide_eq_true hy
      obtain ⟨c2, ok2⟩ := and_tt ok1
      obtain ⟨x, ok3⟩ := one1_inv ok2
      obtain ⟨c4, c5⟩ := and_tt ok3
      replace c2 := isNm_inv c2
      clear ok ok1 ok2 hy
      induction c2 with
      | mk z p' hz hd =>
        obtain ⟨vs, m, rd, ho, rs⟩ := S.vars i z _ hz hr
        refine wpAny_Expr (Call_method1 rfl (star_one c4) c3 (rd.load X.kind ?_ hd)) (by show (env.scope.kind == .module && _) = false; rw [X.kind]; rfl) rfl
        refine ⟨"list", "list.append", PySem.F.plainAttrs_list, slot_list_append, type_list_append, ⟨_, ho, rfl⟩, fun b eb => by cases eb; exact ⟨_, ho, rfl⟩, ?_⟩
        refine callWith_builtin rfl (evalArgs_plain (spliced_cons (evE_sound G F e x c5 A g s rho d hA (S.est X) ed _ fun v₁ h₁ t₁ k₁ r₁ => spliced_nil ?_)))
        have S₁ := S.step k₁
        refine wpAny_list_append_plain (s := { s with heap := h₁, toks := t₁ }) (items := vs.toArray) ⟨m, k₁ _ _ ho⟩ (fun h' ⟨m', ho'⟩ hsb => ?_) (by rw [List.size_toArray, rs.length]; exact le_line hl)
        refine q .next _ ma h' t₁ (S₁.mutate hr hsb (vs := vs ++ [v₁]) (n := m') ?_ ((rs.mono (le_ext S.sub)).append (.cons r₁ .nil))) (le_ext S.sub) trivial
        rw [ho']; simp [Qu69.listO]

theorem stiLV_inv {x v : LV} {k d : D} (h : stiLV x k d = some v) : ∃ l i, x = .ml l ∧ k = .int i ∧ (0 ≤ i ∧ i < l.length ∧ l.length ≤ 1000) ∧ LV.ml (l.set i.toNat d) = v := by
  cases x <;> try (exact no_some h)
  cases k <;> try (exact no_some h)
  obtain ⟨h1, h2⟩ := if_some h
  exact ⟨_, _, rfl, rfl, h1, Option.some.inj h2⟩
theorem ss_sti (G : Gl prog w c hB mg mb T) (F : FOK prog w c hB mg T n) (X : EnvOK env nm) (i : Nat) (a b : IE) : SndS prog w c hB T env nm n (.sti i a b) := by
  intro st cs A g0 e0 ma g s rho f rho' hA S ex Q q
  obtain ⟨lx, dk, d, hr, ea, eb, ex⟩ := bnd3_inv (f := fun x k d => with1 (stiLV x k d) fun v => (Fl.next, rho.set i v)) ex
  obtain ⟨v', ev, ex⟩ := one_some ex
  obtain ⟨rfl, rfl⟩ := Prod.mk.inj ex
  obtain ⟨l, k, rfl, rfl, hk, rfl⟩ := stiLV_inv ev
  replace cs := onAsg_inv cs
  induction cs with
  | mk tl v p ok =>
    obtain ⟨t, ok1⟩ := one1_inv ok
    replace ok1 := onSub_inv ok1
    clear ok
    induction ok1 with
    | mk o j p1 hs ok =>
      obtain ⟨c1, ok1⟩ := and_tt ok
      obtain ⟨c2, ok2⟩ := and_tt ok1
      obtain ⟨c4, c5⟩ := and_tt ok2
      replace c2 := isNm_inv c2
      clear ok ok1 ok2
      induction c2 with
      | mk z p' hz hd =>
        refine wpAny_Assign_Subscript (evE_sound G F b v c5 A g s rho d hA (S.est X) eb _ fun v₁ h₁ t₁ k₁ r₁ => ?_) (with_ok c1)
        have S₁ := S.step k₁
        obtain ⟨vs, m, rd, ho, rs⟩ := S₁.vars i z _ hz hr
        refine rd.load X.kind ?_ hd
        refine evE_sound G F a j c4 A _ { s with heap := h₁, toks := t₁ } rho _ hA (S₁.est X) ea _ fun v₂ h₂ t₂ k₂ r₂ => ?_
        have S₂ := S₁.step k₂
        induction r₂.int_inv; rename_i tk
        have ho₂ := k₂ _ _ ho
        have hlen := rs.length
        refine ki_setAt ho₂ hk.1 (by omega) (by simp; omega) ?_
        refine q .next _ ma _ t₂ (S₂.mutate hr (Heap.SameBut.update ..) (vs := vs.set k.toNat v₁) (n := m) ?_ ?_) ((le_ext S.sub).trans (le_ext S₁.sub)) trivial
        · rw [Heap.get?_update_self _ ho₂ (by simp [Obj.mapSeq, Obj.isFreed])]
          simp [Obj.mapSeq, Qu69.listO]
        · exact (rs.mono (le_ext S₁.sub)).set _ (r₁.mono (le_ext S₁.sub))
theorem staLV_inv {k : Nat} {x v : LV} {d : D} (h : staLV k x d = some v) : ∃ ks ds, x = .self ks ds ∧ (ks.contains k = false ∧ ks.length ≤ 10 ∧ k ≤ 4) ∧ LV.self (ks ++ [k]) (ds ++ [d]) = v := by
  cases x <;> try (exact no_some h)
  obtain ⟨h1, h2⟩ := if_some h
  exact ⟨_, _, rfl, h1, Option.some.inj h2⟩
theorem ss_sta (G : Gl prog w c hB mg mb T) (F : FOK prog w c hB mg T n) (Z : Sa prog w c hB) (X : EnvOK env nm) (i k : Nat) (e : IE) : SndS prog w c hB T env nm n (.sta i k e) := by
  intro st cs A g0 e0 ma g s rho f rho' hA S ex Q q
  obtain ⟨lx, d, hr, ed, ex⟩ := bnd2_inv (f := fun x d => with1 (staLV k x d) fun v => (Fl.next, rho.set i v)) ex
  obtain ⟨v', ev, ex⟩ := one_some ex
  obtain ⟨rfl, rfl⟩ := Prod.mk.inj ex
  obtain ⟨ks, ds, rfl, hk, rfl⟩ := staLV_inv ev
  replace cs := onAsg_inv cs
  induction cs with
  | mk tl v p ok =>
    obtain ⟨t, ok1⟩ := one1_inv ok
    replace ok1 := onAttr_inv ok1
    clear ok
    induction ok1 with
    | mk o y p1 ok =>
      obtain ⟨hy, ok1⟩ := and_tt ok
      obtain rfl := of_decide_eq_true hy
      obtain ⟨c1, ok2⟩ := and_tt ok1
      obtain ⟨c2, c4⟩ := and_tt ok2
      replace c2 := isNm_inv c2
      clear ok ok1 ok2 hy
      induction c2 with
      | mk z p' hz hd =>
        refine plainObj_wpAny_Assign_Attribute (evE_sound G F e v c4 A g s rho d hA (S.est X) ed _ fun v₁ h₁ t₁ k₁ r₁ => ?_) (with_ok c1)
        have S₁ := S.step k₁
        obtain ⟨es, m, vs, rd, ho, hdx, he, rs⟩ := S₁.vars i z _ hz hr
        refine rd.load X.kind ?_ hd
        obtain ⟨o1, o2, o3, _, o5⟩ := S₁.own (2 * i) (own_self hr).1
        obtain ⟨p1, p2, p3, _, p5⟩ := S₁.own (2 * i + 1) (own_self hr).2
        have nb : ∀ b, ext g s.heap h₁ b = none → hB.get? b = none := fun b hb => by
          cases q' : hB.get? b with
          | none => rfl
          | some o' => exact no_some (hb.symm.trans ((S₁.base.trans S₁.g0g) _ _ q'))
        refine Z k A { s with heap := h₁, toks := t₁ } _ _ _ es m ks vs v₁ (S₁.est X).keeps ho hdx he hk.1 hk.2.1 hk.2.2 (nb _ o1) (nb _ p1) (fun e' => by have e2 := p5 _ (own_self hr).1 e'; first | exact Nat.succ_ne_self _ e2 | exact Nat.succ_ne_self _ e2.symm) fun h' es' n' tk hsb hdx' he' => ?_
        exact q .next _ ma h' tk (S₁.mutSelf hr hsb hdx' he' (rs.append (.cons r₁ .nil))) (le_ext S.sub) trivial
end
end Qu69
end

section
open PySem PySem.W PySem.Calls PyProof.Rows
set_option backward.match.sparseCases false
set_option genSizeOf false
set_option genSizeOfSpec false
set_option genInjectivity false
set_option genCtorIdx false
namespace Qu69
section
variable {prog : Program} {w : World} {c : Cx} {hB : Heap} {mg mb : Str → Option Value} {T : Tab} {env : Env} {nm : List Str} {n : Nat} {A : Around} {g0 e0 g : PH} {ma : Nat → Addr} {rho : List LV} {s : Shared} {E : Value → Shared → Prop}

theorem Rd.extBut {h h' : Heap} {x : Str} {v : Value} {b : Addr} (r : Rd env h x v) (hs : Heap.ExtBut b h h') (hb : ¬ Fp env b) : Rd env h' x v := by
  cases r with
  | loc m hk hn hv => exact .loc m hk (hn.extBut hs fun e => hb (.inl e.symm)) hv
  | cell a hk hc hv => obtain ⟨o, ho, hd⟩ := hv; exact .cell a hk hc ⟨o, hs a o (fun e => hb (.inr ⟨x, e ▸ hc⟩)) ho, hd⟩
  | free a hk hc hv hd => obtain ⟨o, ho, hd'⟩ := hv; exact .free a hk hc ⟨o, hs a o (fun e => hb (.inr ⟨x, e ▸ hc⟩)) ho, hd'⟩ hd
theorem St.bumpE {h h' : Heap} {b : Addr} (S : St c hB env nm g0 e0 ma rho g h) (hs : Heap.ExtBut b h h') (F : Free env g e0 ma rho b) : St c hB env nm g0 e0 ma rho g h' := by
  refine ⟨S.base, S.g0g, ?_, ?_, S.lo, S.fp, ?_, ?_, ?_, ?_, ?_, S.pin⟩
  · exact fun a o e => hs a o (fun hab => by subst hab; rw [F.g] at e; cases e) (S.sub a o e)
  · exact fun a o e => hs a o (fun hab => by subst hab; rw [F.e] at e; cases e) (S.keep a o e)
  · intro a ha; obtain ⟨o, ho⟩ := S.fpl a ha; exact ⟨o, hs a o (fun e => F.fp (e ▸ ha)) ho⟩
  · obtain ⟨m, hm⟩ := S.ns; exact ⟨m, hm.extBut hs fun e => F.fp (.inl e.symm)⟩
  · intro y a ha; obtain ⟨v, o, ho, hd⟩ := S.cl y a ha; exact ⟨v, o, hs a o (fun e => F.fp (.inr ⟨y, e ▸ ha⟩)) ho, hd⟩
  · intro j y lv hy hj
    have V := S.vars j y lv hy hj
    cases lv with
    | un => trivial
    | d d' => obtain ⟨u, p, q⟩ := V; exact ⟨u, p.extBut hs F.fp, q⟩
    | ml l => obtain ⟨vs, n, p, q, r'⟩ := V; exact ⟨vs, n, p.extBut hs F.fp, hs _ _ (F.own _ (own_ml hj)) q, r'⟩
    | self ks ds => obtain ⟨es, n, vs, p, q, r', t, u⟩ := V; exact ⟨es, n, vs, p.extBut hs F.fp, hs _ _ (F.own _ (own_self hj).1) q, hs _ _ (F.own _ (own_self hj).2) r', t, u⟩
  · intro k hk
    obtain ⟨b1, b2, b3, ⟨o, ho⟩, b5⟩ := S.own k hk
    exact ⟨b1, b2, b3, ⟨o, hs _ _ (F.own k hk) ho⟩, b5⟩

noncomputable def closL (cells : List (Str × Addr)) : List (Str × NameKind) → List (Str × Addr) → List (Str × Addr)
  | [], acc => acc
  | (y, k) :: r, acc => if (k == .free) = true then closL cells r ((y, (cells.lookup y).getD 0) :: acc) else closL cells r acc

theorem closureFor_eq {scope : Scope} (h : ∀ y ∈ scope.names, y.2 = .free → ∃ a, env.cells.lookup y.1 = some a) : closureFor scope env = pure (closL env.cells scope.names []) := by
  have key : ∀ (l : List (Str × NameKind)) (acc : List (Str × Addr)), (∀ y ∈ l, y.2 = .free → ∃ a, env.cells.lookup y.1 = some a) →
      (forIn l acc fun (x : Str × NameKind) (r : List (Str × Addr)) => match x with | (name, kind) => if (kind == NameKind.free) = true then do let a ← cellOf env name; pure (ForInStep.yield ((name, a) :: r)) else pure (ForInStep.yield r) : Sem (List (Str × Addr))) = pure (closL env.cells l acc) := by
    intro l
    induction l with
    | nil => intro acc _; rfl
    | cons z r ih =>
      intro acc hz
      obtain ⟨y, k⟩ := z
      have ih' := fun acc => ih acc fun z hz' => hz z (List.mem_cons_of_mem _ hz')
      rw [List.forIn_cons]
      unfold closL
      by_cases hk : (k == NameKind.free) = true
      · obtain ⟨a, ha⟩ := hz (y, k) List.mem_cons_self (by simpa using hk)
        simp only [hk, if_true]
        have e : cellOf env y = pure a := by unfold cellOf; rw [ha]
        rw [e, ha]
        exact ih' _
      · simp only [hk]
        exact ih' _
  simp only [closureFor]
  refine Eq.trans (congrArg (· >>= _) (key scope.names [] h)) rfl

theorem closL_spec (cells : List (Str × Addr)) : ∀ (l : List (Str × NameKind)) (acc : List (Str × Addr)), (∀ y ∈ l, y.2 = .free → ∃ a, cells.lookup y.1 = some a) → (∀ p ∈ acc, cells.lookup p.1 = some p.2) →
    (∀ p ∈ closL cells l acc, cells.lookup p.1 = some p.2) ∧ (∀ p ∈ acc, p ∈ closL cells l acc) ∧ ∀ y ∈ l, y.2 = .free → ∃ a, (y.1, a) ∈ closL cells l acc
  | [], acc, _, h2 => ⟨h2, fun _ h => h, fun _ h => (nomatch h)⟩
  | (y, k) :: r, acc, h1, h2 => by
    have h1' : ∀ z ∈ r, z.2 = .free → ∃ a, cells.lookup z.1 = some a := fun z hz => h1 z (List.mem_cons_of_mem _ hz)
    unfold closL
    by_cases hk : (k == NameKind.free) = true
    · rw [if_pos hk]
      obtain ⟨a, ha⟩ := h1 (y, k) List.mem_cons_self (by simpa using hk)
      obtain ⟨x1, x2, x3⟩ := closL_spec cells r ((y, (cells.lookup y).getD 0) :: acc) h1' (fun p hp => by
        rcases List.mem_cons.mp hp with rfl | hp
        · have ha' : cells.lookup y = some a := ha
          rw [ha']; rfl
        · exact h2 p hp)
      refine ⟨x1, fun p hp => x2 p (List.mem_cons_of_mem _ hp), fun z hz hf => ?_⟩
      rcases List.mem_cons.mp hz with rfl | hz
      · exact ⟨_, x2 _ List.mem_cons_self⟩
      · exact x3 z hz hf
    · rw [if_neg hk]
      obtain ⟨x1, x2, x3⟩ := closL_spec cells r acc h1' h2
      refine ⟨x1, x2, fun z hz hf => ?_⟩
      rcases List.mem_cons.mp hz with rfl | hz
      · exact absurd (by simpa using hf) hk
      · exact x3 z hz hf
theorem lookup_mem' : ∀ {l : List (Str × Addr)} {y : Str} {a : Addr}, (y, a) ∈ l → ∃ b, l.lookup y = some b ∧ (y, b) ∈ l
  | (z, b) :: r, y, a, h => by
    by_cases e : (y == z) = true
    · have e' : y = z := by simpa using e
      subst e'
      exact ⟨b, by simp [List.lookup_cons], List.mem_cons_self⟩
    · rcases List.mem_cons.mp h with h | h
      · cases h; simp at e
      · obtain ⟨b', h1, h2⟩ := lookup_mem' h
        refine ⟨b', ?_, List.mem_cons_of_mem _ h2⟩
        rw [List.lookup_cons, Bool.eq_false_iff.mpr e]; exact h1
theorem closL_lookup {cells : List (Str × Addr)} {l : List (Str × NameKind)} (h : ∀ y ∈ l, y.2 = .free → ∃ a, cells.lookup y.1 = some a) {y : Str} (hy : (y, NameKind.free) ∈ l) : (closL cells l []).lookup y = cells.lookup y := by
  obtain ⟨x1, _, x3⟩ := closL_spec cells l [] h (fun _ h => (nomatch h))
  obtain ⟨a, ha⟩ := x3 _ hy rfl
  obtain ⟨b, h1, h2⟩ := lookup_mem' ha
  rw [h1]; exact (x1 _ h2).symm

theorem mem_of_lookup {α : Type} : ∀ {l : List (Str × α)} {y : Str} {k : α}, l.lookup y = some k → (y, k) ∈ l
  | [], _, _, h => by cases h
  | (z, k') :: r, y, k, h => by
    rw [List.lookup_cons] at h
    by_cases e : (y == z) = true
    · have e' : y = z := by simpa using e
      subst e'
      rw [e] at h; cases h; exact List.mem_cons_self
    · rw [Bool.eq_false_iff.mpr e] at h
      exact List.mem_cons_of_mem _ (mem_of_lookup h)
theorem relS_cell {scope sc : Scope} (hn : ∀ y ∈ scope.names, y.2 ≠ .cell) {y : Str} (h : (relS scope sc).names.lookup y = some .cell) : (y, NameKind.free) ∈ scope.names := by
  have hm := mem_of_lookup h
  unfold relS at hm
  simp only [List.mem_map] at hm
  obtain ⟨⟨z, k⟩, hz, he⟩ := hm
  simp only at he
  split at he
  · rename_i hc
    simp only [Bool.and_eq_true, beq_iff_eq] at hc
    cases he
    rw [hc.1.1] at hz; exact hz
  · cases he; exact absurd rfl (hn _ hz)

theorem slotsC_get {js : List Nat} : ∀ {ys : List Str}, slotsC nm js = some ys → ∀ (i : Nat) y, ys[i]? = some y → ∃ j, js[i]? = some j ∧ nm[j]? = some y := by
  induction js with
  | nil => intro ys h i y hy; obtain rfl := Option.some.inj h; exact no_some hy
  | cons j js ih =>
    intro ys h i y hy
    obtain ⟨z, zs, hz, hzs, rfl⟩ := two_some (f := List.cons) h
    cases i with
    | zero => obtain rfl := Option.some.inj hy; exact ⟨j, rfl, hz⟩
    | succ i => exact ih hzs i y hy

structure CompOK (env : Env) (nm : List Str) (ce : CE) (p : Parts) (ys : List Str) (cl : List (Str × Addr)) : Prop where
  clos : closureFor p.scope env = pure cl
  kind : p.scope.kind = .function
  cell : ∀ y ∈ p.scope.names, y.2 ≠ .cell
  names : ∀ y ∈ p.scope.names, y.2 = .local → p.scope.names.lookup y.1 = some .local
  x : p.scope.names.lookup p.x = some .local
  slots : slotsC nm ce.vars = some ys
  cap : ∀ y ∈ ys, (relS p.scope env.scope).names.lookup y = some .cell ∧ env.kindOf y = some .cell ∧ cl.lookup y = env.cells.lookup y

theorem comp_ok (X : EnvOK env nm) {ce : CE} {p : Parts} {ys : List Str} (hys : slotsC nm ce.vars = some ys) (h : scOK env.scope p.scope nm p.x = true) (hc : capOK env.scope p.scope ys = true) : ∃ cl, CompOK env nm ce p ys cl := by
  unfold scOK at h
  simp only [Bool.and_eq_true, decide_eq_true_eq, List.all_eq_true, Bool.not_eq_true', Bool.or_eq_true, beq_eq_false_iff_ne, beq_iff_eq, ne_eq, List.contains_iff_mem] at h
  obtain ⟨⟨⟨⟨h1, h2⟩, h3⟩, h4⟩, h5⟩ := h
  have hf : ∀ y ∈ p.scope.names, y.2 = .free → env.kindOf y.1 = some .cell ∧ ∃ a, env.cells.lookup y.1 = some a := fun y hy hk => by
    rcases h5 y hy with h | ⟨h, h'⟩
    · exact absurd hk h
    · obtain ⟨i, hi, he⟩ := List.mem_iff_getElem.mp h
      have hk' : env.kindOf y.1 = some .cell := h'
      rcases X.kd i y.1 (by rw [List.getElem?_eq_getElem hi, he]) with hl | ⟨_, a, ha⟩
      · rw [hl] at hk'; cases hk'
      · exact ⟨hk', a, ha⟩
  refine ⟨_, closureFor_eq (fun y hy hk => (hf y hy hk).2), h1, h2, fun y hy hk => ?_, h4, hys, fun y hy => ?_⟩
  · rcases h3 y hy with h | h
    · exact absurd hk h
    · exact h
  · have h6 : (relS p.scope env.scope).names.lookup y = some .cell := by
      unfold capOK at hc
      rw [List.all_eq_true] at hc
      simpa using hc y hy
    have hm := relS_cell h2 h6
    exact ⟨h6, (hf _ hm rfl).1, closL_lookup (fun y hy hk => (hf y hy hk).2) hm⟩

theorem varC_cases (rho : List LV) (j : Nat) : (∃ x, rho[j]? = some (.d x) ∧ varC rho j = .d x) ∨ varC rho j = .un := by
  unfold varC
  cases h : rho[j]? with
  | none => exact .inr rfl
  | some v => cases v <;> first | exact .inl ⟨_, rfl, rfl⟩ | exact .inr rfl
theorem cest {ce : CE} {p : Parts} {ys : List Str} {cl : List (Str × Addr)} (X : EnvOK env nm) (O : CompOK env nm ce p ys cl) {h : Heap} {C : Addr} {m : Str → Option Value} {v : Value} {d : D} (S : St c hB env nm g0 e0 ma rho g h) (hn : h.Ns C m) (hv : m p.x = some v) (r : Rep c g v d) :
    ESt c hB (compEnvC p.scope cl C env) (p.x :: ys) (.d d :: ce.vars.map (varC rho)) g h := by
  refine ⟨O.kind, X.glo, X.bui, S.base.trans S.g0g, S.sub, fun i y lv hy hl => ?_⟩
  cases i with
  | zero =>
    simp only [List.getElem?_cons_zero, Option.some.injEq] at hy hl
    subst hy hl
    exact ⟨v, .loc m (lookup_relabel_local O.x) hn hv, r⟩
  | succ i =>
    simp only [List.getElem?_cons_succ] at hy hl
    obtain ⟨j, hj, hnj⟩ := slotsC_get O.slots i y hy
    rw [List.getElem?_map, hj] at hl
    simp only [Option.map_some, Option.some.injEq] at hl
    subst hl
    rcases varC_cases rho j with ⟨x, hx, e⟩ | e
    · rw [e]
      obtain ⟨u, rd, ru⟩ := S.vars j y _ hnj hx
      obtain ⟨k1, k2, k3⟩ := O.cap y (List.mem_of_getElem? hy)
      refine ⟨u, ?_, ru⟩
      cases rd with
      | loc m' hk _ _ => rw [k2] at hk; cases hk
      | cell a hk hc hv => exact .cell a k1 (k3.trans hc) hv
      | free a hk _ _ _ => rw [k2] at hk; cases hk
    · rw [e]; trivial

theorem Free.step {h h' : Heap} {a : Addr} {o : Obj} (F : Free env g e0 ma rho a) (ho : h.get? a = some o) : Free env (ext g h h') e0 ma rho a :=
  ⟨by rw [ext_old ho]; exact F.g, F.e, F.fp, F.own⟩

/-- where a comprehension stands -/
inductive CLoop (c : Cx) (hB : Heap) (env : Env) (nm : List Str) (g0 e0 : PH) (ma : Nat → Addr) (rho : List LV) (g : PH) (T : Tab) (ce : CE) (I C D₀ : Addr) (l : List D) (s : Shared) : Nat → Shared → Prop where
  | mk (h : Heap) (tk : Nat) (g₁ : PH) (ds₁ : List D) (o₁ : Obj) (us : List Value) (q : Nat) (m : Str → Option Value) (done r : List D) (S₁ : St c hB env nm g0 e0 ma rho g₁ h) (le₁ : PH.Le g g₁) (ho₁ : h.get? I = some o₁) (io₁ : IterO c g₁ o₁ ds₁) (FI₁ : Free env g₁ e0 ma rho I)
      (hn₁ : h.Ns C m) (FC₁ : Free env g₁ e0 ma rho C) (hD₁ : h.get? D₀ = some (listO us q)) (rus : RepL c g₁ us done) (FD₁ : Free env g₁ e0 ma rho D₀) (em₁ : mapC T (ce.vars.map (varC rho)) ce.test ce.elt ds₁ = some r) (el : done ++ r = l) (hlen : done.length + ds₁.length ≤ 1000) :
      CLoop c hB env nm g0 e0 ma rho g T ce I C D₀ l s ds₁.length { s with heap := h, toks := tk }
theorem comp_tst (G : Gl prog w c hB mg mb T) (F : FOK prog w c hB mg T n) (X : EnvOK env nm) {ce : CE} {p : Parts} {ys : List Str} {cl : List (Str × Addr)} (O : CompOK env nm ce p ys cl) (cifs : chkIfs T (relS p.scope env.scope) (p.x :: ys) ce.test p.ifs = true) (hA : AOk n A)
    {h₃ : Heap} {C : Addr} {m : Str → Option Value} {v : Value} {d : D} (S₃ : St c hB env nm g0 e0 ma rho g h₃) (hn₃ : h₃.Ns C m) (hvx : m p.x = some v) (r₂ : Rep c g v d) {E : Value → Shared → Prop} {b : Bool} (eb : tsC T (.d d :: ce.vars.map (varC rho)) ce.test = some b) {Q : Bool → Shared → Prop} {tk : Nat} (hq : ∀ h₄ t₄, Keeps h₃ h₄ → Q b { s with heap := h₄, toks := t₄ }) :
    wpAny (model prog w) A (forIn p.ifs true fun c r => if r = true then do let ok ← isTrue c (compEnvC p.scope cl C env) (eval c (compEnvC p.scope cl C env)); pure (ForInStep.yield ok) else pure (ForInStep.yield r)) Q E { s with heap := h₃, toks := tk } := by
  cases ht : ce.test with
  | none =>
    rw [ht] at eb cifs
    obtain rfl := Option.some.inj eb
    rw [List.isEmpty_iff.mp cifs]
    exact wpAny_tests_nil (hq h₃ tk (PH.Le.refl _))
  | some t =>
    rw [ht] at eb cifs
    generalize p.ifs = es at cifs ⊢
    replace cifs := one1_inv cifs
    induction cifs with
    | mk e1 ok => exact wpAny_tests_one (wpAny_mono (evT_sound G F t e1 ok A g { s with heap := h₃, toks := tk } _ b hA (cest X O S₃ hn₃ hvx r₂) eb Q hq) (fun _ _ z => z) (fun _ _ z => z.elim))
theorem len_next {a b : Nat} (h : a + (b + 1) ≤ 1000) : (a + 1) + b ≤ 1000 := by omega
theorem len_skip {a b : Nat} (h : a + (b + 1) ≤ 1000) : a + b ≤ 1000 := by omega
theorem comp_loop (G : Gl prog w c hB mg mb T) (F : FOK prog w c hB mg T n) (X : EnvOK env nm) {ce : CE} {p : Parts} {ys : List Str} {cl : List (Str × Addr)} (O : CompOK env nm ce p ys cl)
    (celt : chkE T (relS p.scope env.scope) (p.x :: ys) ce.elt p.elt = true) (cifs : chkIfs T (relS p.scope env.scope) (p.x :: ys) ce.test p.ifs = true) (hA : AOk n A) {I C D₀ : Addr} (hIC : I ≠ C) (hID : I ≠ D₀) (hCD : C ≠ D₀) {l : List D} {R : Result → Shared → Prop}
    (hR : ∀ h tk g₁ us q m, St c hB env nm g0 e0 ma rho g₁ h → PH.Le g g₁ → h.Ns C m → Free env g₁ e0 ma rho C → h.get? D₀ = some (listO us q) → RepL c g₁ us l → Free env g₁ e0 ma rho D₀ → R (.ok .next) { s with heap := h, toks := tk })
    {h : Heap} {tk : Nat} {ds : List D} {o : Obj} {q : Nat} {m : Str → Option Value} (S : St c hB env nm g0 e0 ma rho g h) (ho : h.get? I = some o) (io : IterO c g o ds) (FI : Free env g e0 ma rho I) (hn : h.Ns C m) (FC : Free env g e0 ma rho C)
    (hD : h.get? D₀ = some (listO [] q)) (FD : Free env g e0 ma rho D₀) (em : mapC T (ce.vars.map (varC rho)) ce.test ce.elt ds = some l) (hl : ds.length ≤ 1000) :
    codeAny (model prog w) A (.compLoop (.ListComp p.elt [⟨.Name p.x p.px, p.iter, p.ifs, 0⟩] p.scope p.pos) 0 (.ref I) (.ref D₀) (compEnvC p.scope cl C env)) R { s with heap := h, toks := tk } := by
  refine codeAny_compLoop_tests (CLoop c hB env nm g0 e0 ma rho g T ce I C D₀ l s) ?_ ds.length (.mk h tk g ds o [] q m [] l S (PH.Le.refl _) ho io FI hn FC hD .nil FD em rfl (by rw [List.length_nil, Nat.zero_add]; exact hl))
  intro k s' L
  induction L with
  | mk h tk g₁ ds₁ o₁ us q m done r S₁ le₁ ho₁ io₁ FI₁ hn₁ FC₁ hD₁ rus FD₁ em₁ el hlen =>
  refine next_sound (s := { s with heap := h, toks := tk }) hA S₁.sub FI₁.g ho₁ io₁ ?_ ?_
  · rintro d ds₂ rfl v h₂ o₂ t₂ hsb ho₂ io₂ r₂
    have S₂ := S₁.bump hsb ho₂ FI₁
    have hn₂ := hn₁.sameBut hsb (Ne.symm hIC)
    have hD₂ : h₂.get? D₀ = some (listO us q) := (hsb.2 D₀ (Ne.symm hID)).trans hD₁
    have hx : Env.kindOf (compEnvC p.scope cl C env) p.x = some .local := lookup_relabel_local O.x
    have hp : ((compEnvC p.scope cl C env).scope.kind == .class || ((compEnvC p.scope cl C env).scope.kind == .module && (compEnvC p.scope cl C env).locals != (compEnvC p.scope cl C env).globals)) = false := by
      show (p.scope.kind == .class || (p.scope.kind == .module && _)) = false
      rw [O.kind]; rfl
    refine PyProof.Rows.assign_Name (wpAny_storeName_local (s := { s with heap := h₂, toks := t₂ }) hx hn₂ (fun h₃ hn₃ hs₃ => ?_) hp)
    obtain ⟨oc, hoc⟩ : ∃ oc, h₃.get? C = some oc := by obtain ⟨o, _, _, ho, _⟩ := hn₃; exact ⟨o, ho⟩
    have S₃ := S₂.bump hs₃ hoc FC₁
    have hD₃ : h₃.get? D₀ = some (listO us q) := (hs₃.2 D₀ (Ne.symm hCD)).trans hD₂
    have ho₃ : h₃.get? I = some o₂ := (hs₃.2 I hIC).trans ho₂
    have hvx : (fun z => if z = p.x then some v else m z) p.x = some v := if_pos rfl
    obtain ⟨z, et, em₁⟩ := bnd_inv (f := fun z => cond z (with2 (evE T (.d d :: ce.vars.map (varC rho)) ce.elt) (mapC T (ce.vars.map (varC rho)) ce.test ce.elt ds₂) List.cons) (mapC T (ce.vars.map (varC rho)) ce.test ce.elt ds₂)) em₁
    refine comp_tst G F X O cifs hA S₃ hn₃ hvx r₂ et fun h₄ t₄ k₄ => ?_
    have S₄ := S₃.wide k₄
    cases z
    · rw [if_neg Bool.false_ne_true]
      exact ⟨ds₂.length, Nat.lt_succ_self _, .mk h₄ t₄ g₁ ds₂ o₂ us q _ done r S₄ le₁ (k₄ _ _ ho₃) io₂ FI₁ (hn₃.keeps k₄) FC₁ (k₄ _ _ hD₃) rus FD₁ em₁ el (len_skip hlen)⟩
    · obtain ⟨y, r', ey, er, rfl⟩ := two_some (f := List.cons) em₁
      rw [if_pos rfl]
      refine wpAny_mono (evE_sound G F ce.elt p.elt celt A g₁ { s with heap := h₄, toks := t₄ } _ y hA (cest X O S₄ (hn₃.keeps k₄) hvx r₂) ey (fun x s₄ => wpAny (model prog w) A (call (.builtin "list.append") [.ref D₀, x]) _ _ s₄) fun u h₅ t₅ k₅ ru => ?_) (fun _ _ z => z) (fun _ _ z => z.elim)
      have S₅ := S₄.step k₅
      have hD₅ := k₅ _ _ (k₄ _ _ hD₃)
      have hus := rus.length
      refine wpAny_list_append_plain (s := { s with heap := h₅, toks := t₅ }) (items := us.toArray) ⟨q, hD₅⟩ (fun h₆ ⟨q₆, hD₆⟩ hs₆ => ?_) (by rw [List.size_toArray, hus]; exact le_line (Nat.le_trans (Nat.le_add_right _ _) hlen))
      have FD₅ := FD₁.step (h' := h₅) (k₄ _ _ hD₃)
      exact ⟨ds₂.length, Nat.lt_succ_self _, .mk h₆ t₅ (ext g₁ h₄ h₅) ds₂ o₂ (us ++ [u]) q₆ _ (done ++ [y]) r' (S₅.bump hs₆ hD₆ FD₅) (le₁.trans (le_ext S₄.sub)) ((hs₆.2 I hID).trans (k₅ _ _ (k₄ _ _ ho₃))) (io₂.mono (le_ext S₄.sub)) (FI₁.step (k₄ _ _ ho₃)) (((hn₃.keeps k₄).keeps k₅).sameBut hs₆ hCD)
        (FC₁.step (k₄ _ _ hoc)) (by rw [hD₆]; simp [Qu69.listO]) ((rus.mono (le_ext S₄.sub)).append (.cons ru .nil)) FD₅ er (by rw [List.append_assoc]; exact el) (by rw [List.length_append]; exact len_next hlen)⟩
  · rintro rfl h₂ heb
    obtain rfl := Option.some.inj em₁
    rw [List.append_nil] at el
    subst el
    exact hR h₂ tk g₁ us q m (S₁.bumpE heb FI₁) le₁ (hn₁.extBut heb (Ne.symm hIC)) FC₁ (heb D₀ _ (Ne.symm hID) hD₁) rus FD₁
end
end Qu69
end

section
open PySem PySem.W PySem.Calls PyProof.Rows
set_option backward.match.sparseCases false
set_option genSizeOf false
set_option genSizeOfSpec false
set_option genInjectivity false
set_option genCtorIdx false
namespace Qu69
section
variable {prog : Program} {w : World} {c : Cx} {hB : Heap} {mg mb : Str → Option Value} {T : Tab} {env : Env} {nm : List Str} {n : Nat} {A : Around} {g0 e0 g : PH} {ma : Nat → Addr} {rho : List LV} {s : Shared} {E : Value → Shared → Prop}

theorem iter_self {I : Addr} {o : Obj} {ds : List D} (ho : s.heap.get? I = some o) (io : IterO c g o ds) {Q : Value → Shared → Prop} (q : Q (.ref I) s) : wpAny (model prog w) A (pyIter (.ref I)) Q E s := by
  cases io with
  | list hc hd hl r => exact wpAny_pyIter_listiter ⟨o, ho, hc, hd⟩ q
  | tup hc hd hl hct hdt r => exact wpAny_pyIter_tupleiter ⟨o, ho, hc, hd⟩ q
  | rng => exact wpAny_pyIter_rangeiter ho q
  | asc hc hd e => exact wpAny_pyIter_striter_ascii ⟨o, ho, hc, hd⟩ q
  | wide hc hd e => exact wpAny_pyIter_striter_wide ⟨o, ho, hc, hd⟩ q

theorem comp_sound (G : Gl prog w c hB mg mb T) (F : FOK prog w c hB mg T n) (X : EnvOK env nm) {ce : CE} {p : Parts} {ys : List Str} {cl : List (Str × Addr)} (O : CompOK env nm ce p ys cl) (cns : notSet p.iter = true) (csrc : chkE T env.scope nm ce.src p.iter = true)
    (celt : chkE T (relS p.scope env.scope) (p.x :: ys) ce.elt p.elt = true) (cifs : chkIfs T (relS p.scope env.scope) (p.x :: ys) ce.test p.ifs = true) (hA : AOk n A) (S : St c hB env nm g0 e0 ma rho g s.heap) {l : List D} (ev : evC T rho ce = some l)
    {use : Option (Value → Sem Unit)} {pos : Pos} {Q : Value → Shared → Prop}
    (hQ : ∀ h tk g₁ us q D₀ C m, St c hB env nm g0 e0 ma rho g₁ h → PH.Le g g₁ → h.Ns C m → Free env g₁ e0 ma rho C → h.get? D₀ = some (listO us q) → RepL c g₁ us l → Free env g₁ e0 ma rho D₀ → C ≠ D₀ →
      compPost (model prog w) A (fun _ _ => False) use Q (.ref D₀) C (.ok .next) { s with heap := h, toks := tk }) :
    wpAny (model prog w) A (comprehension p.expr p.scope env pos (newList []) false (eval p.iter env) use) Q (fun _ _ => False) s := by
  obtain ⟨d, ed, ev⟩ := bnd_inv (f := fun d => bnd (iterD d) (mapTo T rho ce)) ev
  obtain ⟨ds, eds, ev⟩ := bnd_inv ev
  obtain ⟨hl, ev⟩ := if_some ev
  have hfold : ∀ z, foldedSetIterable p.iter env z = pure z := by
    intro z
    cases hi : p.iter <;> first | rfl | (rw [hi] at cns; cases cns)
  refine wpAny_comprehension_free (use := use) (g := ⟨.Name p.x p.px, p.iter, p.ifs, 0⟩) (gs := []) rfl hfold O.clos O.kind O.names (evE_sound G F ce.src p.iter csrc A g s rho d hA (S.est X) ed _ fun v₁ h₁ t₁ k₁ r₁ => ?_)
  have S₁ := S.step k₁
  refine iter_sound (s := { s with heap := h₁, toks := t₁ }) S₁.sub r₁ eds fun o hof io => ?_
  refine wpAny_newObj_type (wpAny_newFunctionEnv O.cell (by intro y hy; simp at hy) (fun h₄ hns₄ hsb₄ => ?_) O.kind)
  dsimp only at hns₄ hsb₄ ⊢
  have z₂ : (h₁.push o).objs.size = h₁.objs.size + 1 := Heap.size_push ..
  have z₃ : ((h₁.push o).push { cls := .type "list", dict := none, data := .seq ([] : List Value).toArray }).objs.size = h₁.objs.size + 1 + 1 := by rw [Heap.size_push, z₂]
  have old : ∀ b ob, ((h₁.push o).push { cls := .type "list", dict := none, data := .seq ([] : List Value).toArray }).get? b = some ob → h₄.get? b = some ob := fun b ob e => hsb₄.extBut b ob (Nat.ne_of_lt (Heap.lt_size e)) (Heap.get?_push_of_some _ e)
  have kp : Keeps h₁ h₄ := fun b ob e => old b ob (Heap.get?_push_of_some _ (Heap.get?_push_of_some _ e))
  have hI : h₄.get? h₁.objs.size = some o := old _ _ (Heap.get?_push_of_some _ (Heap.get?_push_size _ hof))
  have hD : h₄.get? (h₁.push o).objs.size = some (listO [] 0) := old _ _ (Heap.get?_push_size _ rfl)
  rw [z₂] at hD ⊢
  rw [z₃] at hns₄ ⊢
  have nil : ∀ a, h₁.objs.size ≤ a → h₁.get? a = none := fun a ha => by
    cases e : h₁.get? a with
    | none => rfl
    | some o' => exact absurd (Heap.lt_size e) (Nat.not_lt.mpr ha)
  have FI := S₁.free (nil h₁.objs.size (Nat.le_refl _))
  have FD := S₁.free (nil (h₁.objs.size + 1) (Nat.le_succ _))
  have FC := S₁.free (nil (h₁.objs.size + 1 + 1) (Nat.le_succ_of_le (Nat.le_succ _)))
  have S₄ := S₁.wide kp
  have le₁ : PH.Le g (ext g s.heap h₁) := le_ext S.sub
  have e1 : h₁.objs.size ≠ h₁.objs.size + 1 + 1 := Nat.ne_of_lt (Nat.lt_succ_of_lt (Nat.lt_succ_self _))
  have e2 : h₁.objs.size ≠ h₁.objs.size + 1 := Nat.ne_of_lt (Nat.lt_succ_self _)
  have e3 : h₁.objs.size + 1 + 1 ≠ h₁.objs.size + 1 := Nat.ne_of_gt (Nat.lt_succ_self _)
  have loop := comp_loop (s := s) (R := compPost (model prog w) A (fun _ _ => False) use Q (.ref (h₁.objs.size + 1)) (h₁.objs.size + 1 + 1)) (tk := t₁ + ([] : List (Str × Value)).length) G F X O celt cifs hA (I := h₁.objs.size) (C := h₁.objs.size + 1 + 1) (D₀ := h₁.objs.size + 1) e1 e2 e3
    (fun h tk g₁ us q m S' le' hn' FC' hD' ru' FD' => hQ h tk g₁ us q _ _ m S' (le₁.trans le') hn' FC' hD' ru' FD' e3) S₄ hI io FI hns₄ FC hD FD ev hl
  exact codeAny_compStart_list loop (iter_self (s := { s with heap := h₄, toks := t₁ + ([] : List (Str × Value)).length }) hI io loop)

theorem St.frzFree {h : Heap} {a : Addr} (S : St c hB env nm g0 e0 ma rho g h) (F₁ : Free env g e0 ma rho a) : St c hB env nm g0 e0 ma rho (fun b => if b = a then h.get? b else g b) h ∧ PH.Le g (fun b => if b = a then h.get? b else g b) := by
  have le : PH.Le g (fun b => if b = a then h.get? b else g b) := fun b o e => by
    by_cases q : b = a
    · subst q; rw [F₁.g] at e; cases e
    · simp only [q, if_false]; exact e
  refine ⟨⟨S.base, S.g0g.trans le, ?_, S.keep, ?_, ?_, S.fpl, S.ns, S.cl, ?_, ?_, S.pin⟩, le⟩
  · intro b o e
    by_cases q : b = a
    · simp only [q, if_true] at e ⊢; exact e
    · simp only [q, if_false] at e; exact S.sub b o e
  · intro b o e
    by_cases q : b = a
    · subst q; exact .inl F₁.e
    · simp only [q, if_false] at e; exact S.lo b o e
  · intro b hb
    have q : b ≠ a := fun e => F₁.fp (e ▸ hb)
    simp only [q, if_false]; exact S.fp b hb
  · intro j y lv hy hj; exact (S.vars j y lv hy hj).keeps (PH.Le.refl _) le
  · intro k hk
    obtain ⟨b1, b2, b3, b4, b5⟩ := S.own k hk
    refine ⟨?_, b2, b3, b4, b5⟩
    simp only [F₁.own k hk, if_false]; exact b1

inductive ChkC (T : Tab) (env : Env) (nm : List Str) (ce : CE) (p : Parts) : Prop where
  | mk (ys : List Str) (cl : List (Str × Addr)) (O : CompOK env nm ce p ys cl) (d1 : notSet p.iter = true) (d2 : chkE T env.scope nm ce.src p.iter = true) (d3 : chkE T (relS p.scope env.scope) (p.x :: ys) ce.elt p.elt = true) (d4 : chkIfs T (relS p.scope env.scope) (p.x :: ys) ce.test p.ifs = true)
theorem chkC_inv {ce : CE} {p : Parts} (X : EnvOK env nm) (h : chkC T env.scope nm ce p = true) : ChkC T env nm ce p := by
  obtain ⟨ys, hys, h⟩ := isAt_inv h
  obtain ⟨h1, h⟩ := and_tt h
  obtain ⟨h2, h⟩ := and_tt h
  obtain ⟨h3, h⟩ := and_tt h
  obtain ⟨h4, h⟩ := and_tt h
  obtain ⟨h6, h7⟩ := and_tt (and_tt h).2
  obtain ⟨cl, O⟩ := comp_ok X hys h3 h4
  exact .mk ys cl O h1 h2 h6 h7

theorem ss_asgC (G : Gl prog w c hB mg mb T) (F : FOK prog w c hB mg T n) (X : EnvOK env nm) (i : Nat) (ce : CE) : SndS prog w c hB T env nm n (.asgC i ce) := by
  intro st cs A g0 e0 ma g s rho f rho' hA S ex Q q
  obtain ⟨l, el, ex⟩ := one_some (f := fun l => (Fl.next, rho.set i (.d (.list l)))) ex
  obtain ⟨rfl, rfl⟩ := Prod.mk.inj ex
  replace cs := onAsg_inv cs
  induction cs with
  | mk tl v sp ok =>
    obtain ⟨t, ok1⟩ := one1_inv ok
    replace ok1 := onName_inv ok1
    clear ok
    induction ok1 with
    | mk y py ok =>
      replace ok := onComp_inv ok
      induction ok with
      | mk p ok =>
        obtain ⟨hx, ok1⟩ := and_tt ok
        replace hx := of_decide_eq_true hx
        obtain ⟨c2, ok2⟩ := and_tt (and_tt ok1).2
        obtain ⟨c3, ok3⟩ := and_tt ok2
        obtain ⟨c4, c5⟩ := and_tt ok3
        replace c3 : env.scope.names.lookup y = some .local := beq_iff_eq.mp c3
        replace c5 := not_tt c5
        clear ok ok1 ok2 ok3
        obtain ⟨ys, cl, O, d1, d2, d3, d4⟩ := chkC_inv X c2
        have hsw : swapsWith p.expr (some (.Name y py)) sp.line env = pure true := by
          have hb : env.blockKind = .function := by simp [Env.blockKind, X.kind, ScopeKind.isAnnotationScope]
          show (pure (env.blockKind == .function && env.kindOf y == some .local && py.line == p.pos.line && !(p.scope.names.any fun (n, k) => n == y && (k == .local || k == .cell))) : Sem Bool) = pure true
          have h1 : (env.kindOf y == some .local) = true := by
            show (env.scope.names.lookup y == some .local) = true
            rw [c3]; rfl
          rw [hb, h1, c4, c5]
          simp
        rw [exec_Assign_Name_used _ _ _ _ hsw]
        refine wpAny_bind (wpAny_standAt (wpAny_bind ?_))
        show wpAny _ A (do let _ ← comprehension p.expr p.scope env _ (newList []) false (eval p.iter env) (some (assign (.Name y py) env))) _ _ s
        refine wpAny_bind (wpAny_mono (comp_sound G F X O d1 d2 d3 d4 hA S el (use := some (assign (.Name y py) env)) (Q := fun _ s' => Q .next s') fun h tk g₁ us m D₀ C mC S₁ le₁ hn FC hD ru FD hCD => ?_) (fun _ s' hq => wpAny_pure (wpAny_pure hq)) fun _ _ e => e)
        show wpAny _ A (assign (.Name y py) env (.ref D₀)) _ _ _
        obtain ⟨S₂, le₂⟩ := S₁.frzFree FD
        refine PyProof.Rows.assign_Name (store_sound (s := { s with heap := h, toks := tk }) X S₂ hx fun h₃ t₃ W rd => ?_)
        have rp : Rep c (fun b => if b = D₀ then h.get? b else g₁ b) (.ref D₀) (.list l) := .list (vs := us) (n := m) (by simp only [if_true]; exact hD) (ru.mono le₂)
        have S₃ := S₂.setD X hx W rd rp
        have hCn : ∃ m, h₃.Ns C m := by
          obtain ⟨b, hb, hsb, _⟩ := W.same
          exact ⟨mC, hn.sameBut hsb fun e => FC.fp (e ▸ hb)⟩
        obtain ⟨m', hn'⟩ := hCn
        refine ⟨m', hn', fun h₄ hs₄ => ?_⟩
        have FC₃ : Free env (fun b => if b = D₀ then h.get? b else g₁ b) e0 ma (rho.set i (.d (.list l))) C := Free.set (.inr ⟨_, rfl⟩) ⟨by simp only [hCD, if_false]; exact FC.g, FC.e, FC.fp, FC.own⟩
        exact q .next _ ma h₄ _ (S₃.bumpE hs₄.extBut FC₃) (le₁.trans le₂) trivial

theorem ss_ifC (G : Gl prog w c hB mg mb T) (F : FOK prog w c hB mg T n) (X : EnvOK env nm) (ce : CE) {a b : ISs} (ha : SndSs prog w c hB T env nm n a) (hb : SndSs prog w c hB T env nm n b) : SndS prog w c hB T env nm n (.ifC ce a b) := by
  intro st cs A g0 e0 ma g s rho f rho' hA S ex Q q
  obtain ⟨l, el, ex⟩ := bnd_inv (f := fun l => bnd (intsD l) fun is => cond is.isEmpty (exSs T b rho) (exSs T a rho)) ex
  obtain ⟨is, hi, ex⟩ := bnd_inv ex
  replace cs := onIf_inv cs
  induction cs with
  | mk u x y sp ok =>
    obtain ⟨cu, ok1⟩ := and_tt ok
    obtain ⟨ca, cb⟩ := and_tt ok1
    replace cu := onCmp_inv cu
    clear ok ok1
    induction cu with
    | mk le o re cp ok =>
      obtain ⟨ho, ok1⟩ := and_tt ok
      obtain rfl := of_decide_eq_true ho
      obtain ⟨hr, hc⟩ := and_tt ok1
      replace hr := onLst_inv hr
      replace hc := onComp_inv hc
      clear ok ok1 ho
      induction hr with
      | mk es lp ok =>
      obtain rfl := List.isEmpty_iff.mp ok
      clear ok
      induction hc with
      | mk p c2 =>
        obtain ⟨ys, cl, O, d1, d2, d3, d4⟩ := chkC_inv X c2
        have main : ∀ (k : Bool), (is != []) = k → ∀ (Q' : Bool → Shared → Prop), (∀ g' h' tk, St c hB env nm g0 e0 ma rho g' h' → PH.Le g g' → Q' k { s with heap := h', toks := tk }) →
            wpAny (model prog w) A (isTrue (.Compare p.expr [.NotEq] [.List [] lp] cp) env (eval (.Compare p.expr [.NotEq] [.List [] lp] cp) env)) Q' (fun _ _ => False) s := by
          intro k hk Q' q'
          refine wpAny_isTrue_Compare1 ?_ rfl
          show wpAny _ _ (comprehension p.expr p.scope env _ (newList []) false (eval p.iter env)) _ _ _
          refine comp_sound G F X O d1 d2 d3 d4 hA S el (use := none) fun h tk g₁ us m D₀ C mC S₁ le₁ hn FC hD ru FD hCD => ⟨mC, hn, fun h₂ hs₂ => ?_⟩
          have S₂ := S₁.bumpE hs₂.extBut FC
          have hD₂ : h₂.get? D₀ = some (listO us m) := hs₂.extBut D₀ _ (Ne.symm hCD) hD
          obtain ⟨S₃, le₃⟩ := S₂.frzFree FD
          have rp : Rep c (fun b => if b = D₀ then h₂.get? b else g₁ b) (.ref D₀) (.list l) := .list (vs := us) (n := m) (by simp only [if_true]; exact hD₂) (ru.mono le₃)
          refine evE_sound G F (.lst .nil) (.List [] lp) (by rfl) A _ { s with heap := h₂, toks := tk } rho (.list []) hA (S₃.est X) (by rfl) _ fun v₂ h₃ t₃ k₃ r₃ => ?_
          have S₄ := S₃.step k₃
          refine cmp_sound (op := .ne) (d₁ := .list l) (d₂ := .list []) (b := k) (s := { s with heap := h₃, toks := t₃ }) hA S₄.sub (rp.mono (le_ext S₃.sub)) r₃ (by show with2 (intsD l) (some []) (fun x y => x != y) = some k; rw [hi]; exact congrArg some hk) _ ?_
          exact wpAny_truthy_bool (q' _ h₃ t₃ S₄ ((le₁.trans le₃).trans (le_ext S₃.sub)))
        cases is with
        | nil =>
          refine wpAny_If (main false rfl _ fun g' h' tk S' le' => ?_)
          exact hb y cb A g0 e0 ma g' { s with heap := h', toks := tk } rho f rho' hA S' ex Q fun fl g'' ma' h'' tk' S'' le'' fo => q fl g'' ma' h'' tk' S'' (le'.trans le'') fo
        | cons i0 is =>
          refine wpAny_If (main true rfl _ fun g' h' tk S' le' => ?_)
          exact ha x ca A g0 e0 ma g' { s with heap := h', toks := tk } rho f rho' hA S' ex Q fun fl g'' ma' h'' tk' S'' le'' fo => q fl g'' ma' h'' tk' S'' (le'.trans le'') fo
end
end Qu69
end

section
open PySem PySem.W PySem.Calls PyProof.Rows
set_option backward.match.sparseCases false
set_option genSizeOf false
set_option genSizeOfSpec false
set_option genInjectivity false
set_option genCtorIdx false
namespace Qu69
section
variable {prog : Program} {w : World} {c : Cx} {hB : Heap} {mg mb : Str → Option Value} {T : Tab} {env : Env} {nm : List Str} {n : Nat} {A : Around} {g0 e0 g : PH} {ma : Nat → Addr} {rho : List LV} {s : Shared} {E : Value → Shared → Prop}

inductive WLoop (c : Cx) (hB : Heap) (env : Env) (nm : List Str) (g0 e0 g : PH) (T : Tab) (t : IT) (b : ISs) (r : Fl × List LV) (s : Shared) (k : Nat) : Shared → Prop where
  | mk (h : Heap) (tk : Nat) (ma₁ : Nat → Addr) (g₁ : PH) (rho₁ : List LV) (S₁ : St c hB env nm g0 e0 ma₁ rho₁ g₁ h) (le₁ : PH.Le g g₁) (hw : wh (fun r => evT T r t) (exSs T b) k rho₁ = some r) : WLoop c hB env nm g0 e0 g T t b r s k { s with heap := h, toks := tk }
theorem ss_whl (G : Gl prog w c hB mg mb T) (F : FOK prog w c hB mg T n) (X : EnvOK env nm) (t : IT) {b : ISs} (hb : SndSs prog w c hB T env nm n b) : SndS prog w c hB T env nm n (.whl t b) := by
  intro st cs A g0 e0 ma g s rho f rho' hA S ex Q q
  replace cs := onWh_inv cs
  induction cs with
  | mk u x y p ok =>
  obtain ⟨c1, ok1⟩ := and_tt ok
  obtain ⟨c2, c3⟩ := and_tt ok1
  obtain rfl := List.isEmpty_iff.mp c2
  clear ok ok1 c2
  refine wpAny_While (codeAny_whileLoop (WLoop c hB env nm g0 e0 g T t b (f, rho') s) ?_ 64 (.mk s.heap s.toks ma g rho S (PH.Le.refl _) ex))
  intro k s' L
  induction L with
  | mk h tk ma₁ g₁ rho₁ S₁ le₁ hw =>
  cases k with
  | zero => exact no_some hw
  | succ k =>
    obtain ⟨z, et, hw⟩ := bnd_inv (f := fun z => cond z (bnd (exSs T b rho₁) (loopS (wh (fun r => evT T r t) (exSs T b) k))) (some (.next, rho₁))) hw
    refine wpAny_mono (evT_sound G F t u c1 A g₁ { s with heap := h, toks := tk } _ _ hA (S₁.est X) et _ fun h₂ t₂ k₂ => ?_) (fun _ _ z => z) (fun _ _ z => z.elim)
    have S₂ := S₁.step k₂
    have le₂ := le₁.trans (le_ext S₁.sub (h₁ := h₂))
    cases z
    · obtain ⟨rfl, rfl⟩ := Prod.mk.inj (Option.some.inj hw)
      exact wpAny_execs_nil (q .next _ ma₁ h₂ t₂ S₂ le₂ trivial)
    · obtain ⟨⟨f₂, rho₂⟩, eb, hw⟩ := bnd_inv hw
      refine wpAny_mono (hb x c3 A g0 e0 ma₁ _ { s with heap := h₂, toks := t₂ } rho₁ f₂ rho₂ hA S₂ eb _ fun fl g' ma' h' tk' S' le' fo => ?_) (fun _ _ z => z) (fun _ _ z => z.elim)
      cases f₂ <;> cases fl <;> try (exact False.elim fo)
      · exact ⟨k, Nat.lt_succ_self _, .mk h' tk' ma' g' rho₂ S' (le₂.trans le') hw⟩
      · obtain ⟨rfl, rfl⟩ := Prod.mk.inj (Option.some.inj hw)
        exact q .next g' ma' h' tk' S' (le₂.trans le') trivial
      · obtain ⟨rfl, rfl⟩ := Prod.mk.inj (Option.some.inj hw)
        exact q (.ret _) g' ma' h' tk' S' (le₂.trans le') fo

theorem letgo_ok {tg : TG} {t : Expr} {it : Addr} {o : Obj} {ds : List D} {v : Value} {Q : Unit → Shared → Prop} (ct : chkTg nm tg t = true) (ho : s.heap.get? it = some o) (io : IterO c g o ds) (q : Q () s) : wpAny (model prog w) A (letOwnedTupleGo t (.ref it) v) Q E s := by
  cases tg with
  | one i =>
    replace ct := isNm_inv ct
    induction ct
    exact wpAny_pure q
  | many is =>
    replace ct := onTup_inv ct
    induction ct
    unfold letOwnedTupleGo
    cases v <;> try (exact wpAny_pure q)
    refine wpAny_bind (wpAny_load ho ?_)
    cases io with
    | list hc hd hl r => rw [hc, hd]; exact wpAny_pure q
    | tup hc hd hl hct hdt r => rw [hc, hd]; exact wpAny_pure q
    | rng => exact wpAny_pure q
    | asc hc hd e => rw [hc, hd]; exact wpAny_pure q
    | wide hc hd e => rw [hc, hd]; exact wpAny_pure q

inductive FLoop (c : Cx) (hB : Heap) (env : Env) (nm : List Str) (g0 e0 g : PH) (T : Tab) (tg : TG) (b : ISs) (r : Fl × List LV) (it : Addr) (s : Shared) : Nat → Shared → Prop where
  | mk (h : Heap) (tk : Nat) (ma₁ : Nat → Addr) (g₁ : PH) (rho₁ : List LV) (ds₁ : List D) (o₁ : Obj) (S₃ : St c hB env nm g0 e0 ma₁ rho₁ g₁ h) (le₃ : PH.Le g g₁) (ho₁ : h.get? it = some o₁) (io₁ : IterO c g₁ o₁ ds₁) (F₃ : Free env g₁ e0 ma₁ rho₁ it)
      (hw : fo (fun r d => setTg r tg d) (exSs T b) ds₁ rho₁ = some r) : FLoop c hB env nm g0 e0 g T tg b r it s ds₁.length { s with heap := h, toks := tk }
theorem fold_ok {v : Expr} (h : notSet v = true) (z : Value) : foldedSetIterable v env z = pure z := by
  cases v <;> first | rfl | exact no_true h
theorem ss_fors (G : Gl prog w c hB mg mb T) (F : FOK prog w c hB mg T n) (X : EnvOK env nm) (tg : TG) (e : IE) {b : ISs} (hb : SndSs prog w c hB T env nm n b) : SndS prog w c hB T env nm n (.fors tg e b) := by
  intro st cs A g0 e0 ma g s rho f rho' hA S ex Q q
  obtain ⟨d, ed, ex⟩ := bnd_inv (f := fun d => bnd (iterD d) fun ds => fo (fun r d => setTg r tg d) (exSs T b) ds rho) ex
  obtain ⟨ds, eds, ex⟩ := bnd_inv ex
  replace cs := onFor_inv cs
  induction cs with
  | mk t v x y p ok =>
  obtain ⟨c1, ok1⟩ := and_tt ok
  obtain ⟨c2, ok2⟩ := and_tt ok1
  obtain ⟨cns, ok3⟩ := and_tt ok2
  obtain ⟨c3, c4⟩ := and_tt ok3
  obtain rfl := List.isEmpty_iff.mp c2
  clear ok ok1 ok2 ok3 c2
  refine wpAny_For (evE_sound G F e v c3 A g s rho d hA (S.est X) ed _ fun v₁ h₁ t₁ k₁ r₁ => ?_) (fold_ok cns)
  have S₁ := S.step k₁
  refine iter_sound (s := { s with heap := h₁, toks := t₁ }) S₁.sub r₁ eds fun o hof io => ?_
  have S₂ := S₁.wide (push_keeps (o := o))
  have hit : (h₁.push o).get? h₁.objs.size = some o := Heap.get?_push_size _ hof
  have F₂ : Free env (ext g s.heap h₁) e0 ma rho h₁.objs.size := S₁.free at_size
  have hg0 : g0 h₁.objs.size = none := by
    cases q' : g0 h₁.objs.size with
    | none => rfl
    | some o' => exact no_some (at_size.symm.trans (S₁.sub _ _ (S₁.g0g _ _ q')))
  have hfp := F₂.fp
  have he0 := F₂.e
  have le₁ : PH.Le g (ext g s.heap h₁) := le_ext S.sub
  generalize h₁.push o = hT at S₂ hit ⊢
  generalize h₁.objs.size = it at hit F₂ hg0 hfp he0 ⊢
  refine codeAny_forLoop_any (FLoop c hB env nm g0 e0 g T tg b (f, rho') it s) ?_ ds.length (.mk hT t₁ ma _ rho ds o S₂ le₁ hit io F₂ ex)
  clear S S₁ S₂ hit F₂ le₁ io ex r₁ ed eds k₁ hof
  intro k s' L
  induction L with
  | mk h tk ma₁ g₁ rho₁ ds₁ o₁ S₃ le₃ ho₁ io₁ F₃ hw =>
  refine next_sound (s := { s with heap := h, toks := tk }) hA S₃.sub F₃.g ho₁ io₁ ?_ ?_
  · rintro d₁ ds₂ rfl v₂ h₂ o₂ t₂ hsb ho₂ io₂ r₂
    have S₄ := (S₃.bump hsb ho₂ F₃).protect F₃
    refine letgo_ok (s := { s with heap := h₂, toks := t₂ }) c1 ho₂ io₂ ?_
    obtain ⟨rho₂, er, hw⟩ := bnd_inv (f := fun rho₁ => bnd (exSs T b rho₁) (loopS (fo (fun r d => setTg r tg d) (exSs T b) ds₂))) hw
    obtain ⟨⟨f₂, rho₃⟩, eb, hw⟩ := bnd_inv hw
    refine tg_sound (s := { s with heap := h₂, toks := t₂ }) X c1 hA S₄ r₂ er fun h₃ t₃ S₅ => ?_
    refine wpAny_mono (hb x c4 A g0 _ ma₁ g₁ { s with heap := h₃, toks := t₃ } rho₂ f₂ rho₃ hA S₅ eb _ fun fl g' ma' h' tk' S' le' fo => ?_) (fun _ _ z => z) (fun _ _ z => z.elim)
    obtain ⟨S₆, F₆, ho₆⟩ := S'.unprotect ho₂ he0 hg0 hfp
    cases f₂ <;> cases fl <;> try (exact False.elim fo)
    · exact ⟨ds₂.length, Nat.lt_succ_self _, .mk h' tk' ma' g' rho₃ ds₂ o₂ S₆ (le₃.trans le') ho₆ (io₂.mono le') F₆ hw⟩
    · obtain ⟨rfl, rfl⟩ := Prod.mk.inj (Option.some.inj hw)
      exact q .next g' ma' h' tk' S₆ (le₃.trans le') trivial
    · obtain ⟨rfl, rfl⟩ := Prod.mk.inj (Option.some.inj hw)
      exact q (.ret _) g' ma' h' tk' S₆ (le₃.trans le') fo
  · rintro rfl h₂ heb
    obtain ⟨rfl, rfl⟩ := Prod.mk.inj (Option.some.inj hw)
    exact wpAny_execs_nil (q .next g₁ ma₁ h₂ tk (S₃.bumpE heb F₃) le₃ trivial)

theorem ss_nil : SndSs prog w c hB T env nm n .nil := by
  intro sts cs A g0 e0 ma g s rho f rho' hA S ex Q q
  obtain rfl := List.isEmpty_iff.mp cs
  obtain ⟨rfl, rfl⟩ := Prod.mk.inj (Option.some.inj ex)
  exact wpAny_execs_nil (q .next g ma s.heap s.toks S (PH.Le.refl _) trivial)
theorem frzLV_inv {x : LV} {l : List D} (h : frzLV x = some l) : x = .ml l := by
  cases x <;> first | exact no_some h | exact congrArg LV.ml (Option.some.inj h)
theorem ss_frz (i : Nat) {r : ISs} (hr : SndSs prog w c hB T env nm n r) : SndSs prog w c hB T env nm n (.frz i r) := by
  intro sts cs A g0 e0 ma g s rho f rho' hA S ex Q q
  obtain ⟨lx, hi, ex⟩ := bnd_inv (f := fun x => bnd (frzLV x) fun l => exSs T r (rho.set i (.d (.list l)))) ex
  obtain ⟨l, el, ex⟩ := bnd_inv ex
  obtain rfl := frzLV_inv el
  have h1 := (S.own (2 * i) (own_ml hi)).1
  refine hr sts cs A g0 e0 ma _ s _ f rho' hA (S.frz hi) ex Q fun fl g' ma' h' tk S' le fo => q fl g' ma' h' tk S' (PH.Le.trans (fun b o e => ?_) le) fo
  by_cases q : b = ma (2 * i)
  · subst q; exact no_some (h1.symm.trans e)
  · simp only [q, if_false]; exact e
theorem ss_cons {a : IS} {r : ISs} (ha : SndS prog w c hB T env nm n a) (hr : SndSs prog w c hB T env nm n r) : SndSs prog w c hB T env nm n (.cons a r) := by
  intro sts cs A g0 e0 ma g s rho f rho' hA S ex Q q
  obtain ⟨⟨f₁, rho₁⟩, ea, ex⟩ := bnd_inv (f := thenS (exSs T r)) ex
  replace cs := consE_inv cs
  induction cs with
  | mk x xs ok =>
  obtain ⟨c1, c2⟩ := and_tt ok
  refine wpAny_execs_cons (ha x c1 A g0 e0 ma g s rho f₁ rho₁ hA S ea _ fun fl g' ma' h' tk S' le fo => ?_)
  cases f₁ <;> cases fl <;> try (exact False.elim fo)
  · exact hr xs c2 A g0 e0 ma' g' { s with heap := h', toks := tk } rho₁ f rho' hA S' ex Q fun fl g'' ma'' h'' tk'' S'' le' fo' => q fl g'' ma'' h'' tk'' S'' (le.trans le') fo'
  · obtain ⟨rfl, rfl⟩ := Prod.mk.inj (Option.some.inj ex)
    exact q .brk g' ma' h' tk S' le fo
  · obtain ⟨rfl, rfl⟩ := Prod.mk.inj (Option.some.inj ex)
    exact q (.ret _) g' ma' h' tk S' le fo

theorem exSs_sound (G : Gl prog w c hB mg mb T) (F : FOK prog w c hB mg T n) (Z : Sa prog w c hB) (X : EnvOK env nm) (ir : ISs) : SndSs prog w c hB T env nm n ir :=
  ISs.rec (motive_1 := fun ir => SndS prog w c hB T env nm n ir) (motive_2 := fun ir => SndSs prog w c hB T env nm n ir)
    (ss_asg G F X) (ss_asgM G F X) (ss_aug G F X) (ss_swp G F X) (ss_swpM G F X) (fun t _ _ => ss_ifs G F X t) (fun t _ => ss_whl G F X t) (fun tg e _ => ss_fors G F X tg e) (ss_ret G F X) ss_brk (ss_app G F X) (ss_sti G F X) (ss_sta G F Z X) (ss_asgC G F X) (fun ce _ _ => ss_ifC G F X ce)
    ss_nil (fun i _ => ss_frz i) (fun _ _ => ss_cons) ir
end
end Qu69
end

section
open PySem PySem.W PySem.Calls PyProof.Rows
set_option genSizeOf false
set_option genSizeOfSpec false
set_option genInjectivity false
namespace Qu69

theorem AOk.deeper {n : Nat} {A : Around} {env : Env} (h : AOk (n + 1) A) : AOk n (A.deeper env) := by
  refine ⟨h.handled, ?_, ?_⟩
  · have := h.depth; show A.depth + 1 + 2 * n ≤ 400; omega
  · have := h.units; show A.units + 3 + 100 * n ≤ 3000; omega

noncomputable def rho0 (ds : List D) (k : Nat) : List LV := ds.map LV.d ++ List.replicate k LV.un
theorem rho0_get {ds : List D} {k i : Nat} {lv : LV} (h : (rho0 ds k)[i]? = some lv) : (∃ d, ds[i]? = some d ∧ lv = .d d) ∨ lv = .un := by
  unfold rho0 at h
  by_cases hi : i < ds.length
  · rw [List.getElem?_append_left (by simpa using hi), List.getElem?_map] at h
    rw [List.getElem?_eq_getElem hi] at h ⊢
    simp only [Option.map_some, Option.some.injEq] at h
    exact .inl ⟨_, rfl, h.symm⟩
  · rw [List.getElem?_append_right (by simpa using hi)] at h
    rw [List.getElem?_replicate] at h
    split at h
    · cases h; exact .inr rfl
    · cases h
theorem own_rho0 {ds : List D} {k j : Nat} (h : Own (rho0 ds k) j) : False := by
  unfold Own at h
  cases e : (rho0 ds k)[j / 2]? with
  | none => rw [e] at h; exact h
  | some lv =>
    rw [e] at h
    rcases rho0_get e with ⟨d, _, rfl⟩ | rfl <;> exact h

noncomputable def fdOf (name qual : Str) (params : Arguments) (body : List Stmt) (scope : Scope) (pm cd doc : Value) : FuncData :=
  { name, qualname := qual, params, body := .stmts body, scope, globals := mainGlobals, closure := [], defaults := .none, kwdefaults := .none, doc, pyModule := pm, code := cd, builtins := builtinsNs }

structure FnIs (hB : Heap) (a : Addr) (fd : FuncData) : Prop where
  at_ : ∃ o, hB.get? a = some o ∧ o.data = .func fd
  code : hB.CodeRec fd.code fd.qualname

/-- the part of a def that the checker sees -/
structure DefOK (T : Tab) (fd : FuncData) (body : List Stmt) (nm : List Str) (np : Nat) (ir : ISs) : Prop where
  bod : fd.body = .stmts body
  glo : fd.globals = mainGlobals
  clo : fd.closure = []
  bui : fd.builtins = builtinsNs
  bind : ∀ vs : List Value, vs.length = np → bindArgs fd ⟨vs, []⟩ = pure ((nm.take np).zip vs)
  loc : ∀ x ∈ nm.take np, fd.scope.names.lookup x = some .local
  kd : ∀ x ∈ nm, fd.scope.names.lookup x = some .local ∨ fd.scope.names.lookup x = some .cell
  nod : nm.Nodup
  co : fd.scope.isCoroutine = false
  gen : fd.scope.isGenerator = false
  kind : fd.scope.kind = .function
  chk : chkSs T fd.scope nm ir body = true

theorem bindL_other {k : Str → Option NameKind} : ∀ {xs : List Str} {vs : List Value} {m : Str → Option Value} {x : Str}, x ∉ xs → bindL k (xs.zip vs) m x = m x
  | [], _, _, _, _ => by rw [List.zip_nil_left]; rfl
  | _ :: _, [], _, _, _ => by rw [List.zip_nil_right]; rfl
  | y :: ys, v :: vs, m, x, h => by
    rw [List.zip_cons_cons]
    unfold bindL
    rw [bindL_other (fun h' => h (List.mem_cons_of_mem _ h'))]
    split
    · have : x ≠ y := fun e => h (e ▸ List.mem_cons_self)
      simp [this]
    · rfl
theorem bindL_at {k : Str → Option NameKind} : ∀ {xs : List Str} {vs : List Value} {m : Str → Option Value} {i : Nat} {x : Str} {v : Value}, xs.Nodup → (∀ y ∈ xs, k y = some .local) → xs[i]? = some x → vs[i]? = some v → bindL k (xs.zip vs) m x = some v
  | [], _, _, _, _, _, _, _, h, _ => by simp at h
  | _ :: _, [], _, _, _, _, _, _, _, h => by simp at h
  | y :: ys, u :: us, m, 0, x, v, hn, hk, h, h' => by
    simp only [List.getElem?_cons_zero, Option.some.injEq] at h h'
    subst h h'
    rw [List.zip_cons_cons]
    unfold bindL
    rw [bindL_other (List.nodup_cons.mp hn).1, if_pos (hk y List.mem_cons_self)]
    simp
  | y :: ys, u :: us, m, i + 1, x, v, hn, hk, h, h' => by
    simp only [List.getElem?_cons_succ] at h h'
    rw [List.zip_cons_cons]
    unfold bindL
    exact bindL_at (List.nodup_cons.mp hn).2 (fun z hz => hk z (List.mem_cons_of_mem _ hz)) h h'

theorem cellsFrom_some {x : Str} : ∀ {names : List (Str × NameKind)} {n : Nat} {acc : List (Str × Addr)}, ((acc.lookup x).isSome = true ∨ (x, NameKind.cell) ∈ names) → ((cellsFrom n names acc).lookup x).isSome = true
  | [], n, acc, h => by
    rcases h with h | h
    · exact h
    · cases h
  | (y, k) :: r, n, acc, h => by
    unfold cellsFrom
    split
    · rename_i hk
      refine cellsFrom_some ?_
      by_cases e : x = y
      · subst e; left; simp [List.lookup_cons]
      · rcases h with h | h
        · left
          rw [List.lookup_cons, show (x == y) = false from by simpa using e]; exact h
        · rcases List.mem_cons.mp h with h | h
          · cases h; exact absurd rfl e
          · exact .inr h
    · rename_i hk
      refine cellsFrom_some ?_
      rcases h with h | h
      · exact .inl h
      · rcases List.mem_cons.mp h with h | h
        · cases h; simp at hk
        · exact .inr h

section
variable {prog : Program} {w : World} {c : Cx} {hB : Heap} {mg mb : Str → Option Value} {T : Tab} {n : Nat}

/-- a frame newly entered -/
structure New (h : Heap) (env : Env) (fd : FuncData) (nm : List Str) (vs : List Value) (h₁ : Heap) : Prop where
  ok : EnvOK env nm
  scope : env.scope = fd.scope
  fresh : ∀ b, Fp env b → h.get? b = none ∧ ∃ o, h₁.get? b = some o
  keeps : Keeps h h₁
  ns : ∃ m, h₁.Ns env.locals m
  cells : ∀ y b, env.cells.lookup y = some b → ∃ v, h₁.IsCell b v
  arg : ∀ (i : Nat) x v, nm[i]? = some x → vs[i]? = some v → Rd env h₁ x v

theorem fn_enter {s : Shared} {A : Around} {R : Result → Shared → Prop} {a : Addr} {fd : FuncData} {body : List Stmt} {nm : List Str} {np : Nat} {ir : ISs} {vs : List Value} (nol : hB.NoLimit) (I : FnIs hB a fd) (O : DefOK T fd body nm np ir) (kB : Keeps hB s.heap) (hd : A.depth < recursionLimit) (hl : vs.length = np)
    (h : ∀ env h₁ tk, New s.heap env fd nm vs h₁ → wpAny (model prog w) (A.deeper env) (execs body env) (fun f s' => R (.ok (.ret (match f with | .ret v => v | _ => .none))) s') (fun _ _ => False) { s with heap := h₁, toks := tk }) :
    codeAny (model prog w) A (.call (.ref a) ⟨vs, []⟩) R s := by
  obtain ⟨o, ho, hdt⟩ := I.at_
  refine codeAny_call_function hd (kB _ _ ho) hdt O.co O.gen O.bod (I.code.keeps kB) ?_
  rw [O.bind vs hl, O.glo, O.clo, O.bui]
  have hloc : ∀ x ∈ (nm.take np).zip vs, fd.scope.names.lookup x.1 = some .local := fun x hx => O.loc _ (List.of_mem_zip hx).1
  refine wpAny_pure (wpAny_newFunctionEnv_cells O.kind (fun x hx => .inl (hloc x hx)) fun env he s₂ x => ?_)
  have hsc : env.scope = fd.scope := by rw [he]; rfl
  have hL : env.locals = s.heap.objs.size := by rw [he]; rfl
  have hcs : env.cells = cellsFrom (s.heap.objs.size + 1) fd.scope.names [] := by rw [he]; rfl
  have hk : env.kindOf = fun y => fd.scope.names.lookup y := by rw [he]; rfl
  obtain ⟨h₁, tk, rfl⟩ := x.toInCall.same
  have hkeep : Keeps s.heap h₁ := x.toInCall.keep
  have up : ∀ b, s.heap.objs.size ≤ b → s.heap.get? b = none := fun b hb => by
    cases e : s.heap.get? b with
    | none => rfl
    | some o' => exact absurd (Heap.lt_size e) (Nat.not_lt.mpr hb)
  have X : EnvOK env nm := by
    refine ⟨by rw [hsc]; exact O.kind, by rw [he]; rfl, by rw [he]; rfl, O.nod, fun i y hy => ?_, ?_, ?_⟩
    · rw [hk]
      rcases O.kd y (List.mem_of_getElem? hy) with e | e
      · exact .inl e
      · refine .inr ⟨e, Option.isSome_iff_exists.mp ?_⟩
        rw [hcs]
        exact cellsFrom_some (.inr (mem_of_lookup e))
    · intro y z b hy hz
      exact name_of_addr x.apart (PySem.mem_of_lookup hy) (PySem.mem_of_lookup hz)
    · intro y b hy e
      have := x.above y b (PySem.mem_of_lookup hy)
      rw [e] at this
      exact Nat.lt_irrefl _ this
  refine ⟨(nol.keeps kB).keeps hkeep, codeAny_func (wpAny_mono (h env h₁ tk ⟨X, hsc, fun b hb => ?_, hkeep, ⟨_, x.toInCall.ns⟩, fun y b hy => ⟨_, x.cell y b hy⟩, fun i y v hy hv => ?_⟩) (fun _ _ z => z) (fun _ _ z => z.elim))⟩
  · rcases hb with rfl | ⟨y, hy⟩
    · refine ⟨up _ (Nat.le_of_eq hL.symm), ?_⟩
      obtain ⟨o', _, _, ho', _⟩ := x.toInCall.ns
      exact ⟨o', ho'⟩
    · refine ⟨up _ (Nat.le_of_lt (hL ▸ x.above y b (PySem.mem_of_lookup hy))), ?_⟩
      obtain ⟨o', ho', _⟩ := x.cell y b hy
      exact ⟨o', ho'⟩
  · have hi : i < np := by have := (List.getElem?_eq_some_iff.mp hv).1; omega
    have hy' : (nm.take np)[i]? = some y := by rw [List.getElem?_take]; simp [hi, hy]
    refine .loc _ ?_ x.toInCall.ns (bindL_at (O.nod.sublist (List.take_sublist _ _)) (fun z hz => by rw [hk]; exact O.loc z hz) hy' hv)
    rw [hk]; exact O.loc y (List.mem_of_getElem? hy')

theorem fn_sound (G : Gl prog w c hB mg mb T) (F : FOK prog w c hB mg T n) (Z : Sa prog w c hB) {a : Addr} {fd : FuncData} {body : List Stmt} {nm : List Str} {np : Nat} {ir : ISs}
    (I : FnIs hB a fd) (O : DefOK T fd body nm np ir) {ds : List D} {d : D} {rho' : List LV} (hl : ds.length = np) (ex : exSs T ir (rho0 ds (nm.length - np)) = some (.ret d, rho'))
    {A : Around} {g : PH} {s : Shared} {vs : List Value} (hA : AOk (n + 1) A) (hb : PH.Le hB.get? g) (hs : PH.Le g s.heap.get?) (r : RepL c g vs ds) : EvP prog w c A g s (call (.ref a) vs) d := by
  intro Q q
  have hlen : vs.length = np := r.length.trans hl
  refine wpAny_call (fn_enter G.nol I O (hb.trans hs) (by have := hA.depth; show A.depth < 1000; omega) hlen fun env h₁ tk N => ?_)
  have S : St c hB env nm g s.heap.get? (fun _ => 0) (rho0 ds (nm.length - np)) g h₁ := by
    refine ⟨hb, PH.Le.refl _, hs.trans N.keeps, N.keeps, fun b o e => .inr e, fun b hb => ?_, fun b hb => (N.fresh b hb).2, N.ns, N.cells, ?_, fun k hk => (own_rho0 hk).elim, fun i ks dss e => by rcases rho0_get e with ⟨_, _, h⟩ | h <;> cases h⟩
    · obtain ⟨h1, _⟩ := N.fresh b hb
      refine ⟨?_, h1⟩
      cases q' : g b with
      | none => rfl
      | some o' => have := hs _ _ q'; rw [h1] at this; cases this
    · intro i x lv hx hi
      rcases rho0_get hi with ⟨dd, hdd, rfl⟩ | rfl
      · obtain ⟨v, hv, rv⟩ := r.get hdd
        exact ⟨v, N.arg i x v hx hv, rv⟩
      · trivial
  refine exSs_sound G F Z N.ok ir body (by rw [N.scope]; exact O.chk) _ g s.heap.get? (fun _ => 0) g { s with heap := h₁, toks := tk } _ (.ret d) rho' hA.deeper S ex _ fun fl g' ma' h' tk S' le fo => ?_
  cases fl <;> try (exact fo.elim)
  refine q _ h' tk S'.keep (Rep.mono (fun b o e => ?_) fo)
  rcases S'.lo b o e with h | h
  · rw [ext_new h]; exact S'.sub b o e
  · rw [ext_old (hs _ _ h)]; exact h
end
end Qu69
end

section
open PySem PySem.W PySem.Calls PyProof.Rows
set_option backward.match.sparseCases false
set_option genSizeOf false
set_option genSizeOfSpec false
set_option genInjectivity false
namespace Qu69

section
variable {P : Params} {C S S' : Addr} {g : PH}
theorem Rep.cx {v : Value} {d : D} (r : Rep ⟨P, C, S⟩ g v d) : Rep ⟨P, C, S'⟩ g v d :=
  Rep.rec (c := ⟨P, C, S⟩) (g := g) (motive_1 := fun v d _ => Rep ⟨P, C, S'⟩ g v d) (motive_2 := fun vs ds _ => RepL ⟨P, C, S'⟩ g vs ds)
    .none .bool .int .str (fun ho hc hd _ r => .tuple ho hc hd r) (fun ho _ r => .list ho r) (fun ho => .range ho)
    (fun ho hd he _ r => .inst ho hd he r) .nil (fun _ _ a b => .cons a b) r
theorem RepL.cx {v : List Value} {d : List D} (r : RepL ⟨P, C, S⟩ g v d) : RepL ⟨P, C, S'⟩ g v d :=
  RepL.rec (c := ⟨P, C, S⟩) (g := g) (motive_1 := fun v d _ => Rep ⟨P, C, S'⟩ g v d) (motive_2 := fun vs ds _ => RepL ⟨P, C, S'⟩ g vs ds)
    .none .bool .int .str (fun ho hc hd _ r => .tuple ho hc hd r) (fun ho _ r => .list ho r) (fun ho => .range ho)
    (fun ho hd he _ r => .inst ho hd he r) .nil (fun _ _ a b => .cons a b) r
end

theorem type_call_under (C : Addr) (v : Value) : (Code.builtin "type.__call__" ⟨[.ref C, v], []⟩).weight = 1 ∧ (Code.builtin "type.__call__" ⟨[.ref C, v], []⟩).cUnits ≤ 1 := by
  refine ⟨by kernel_rfl, Nat.le_of_ble_eq_true (by kernel_rfl)⟩
theorem AOk.creation {n : Nat} {A : Around} {env : Env} {C : Addr} {v : Value} (h : AOk (n + 1) A) : AOk n ((A.under (.builtin "type.__call__" ⟨[.ref C, v], []⟩)).deeper env) := by
  obtain ⟨h1, h2⟩ := type_call_under C v
  refine ⟨h.handled, ?_, ?_⟩
  · have := h.depth
    show A.depth + (Code.builtin "type.__call__" ⟨[.ref C, v], []⟩).weight + 1 + 2 * n ≤ 400
    omega
  · have := h.units
    show A.units + (Code.builtin "type.__call__" ⟨[.ref C, v], []⟩).cUnits + 3 + 100 * n ≤ 3000
    omega

section
variable {prog : Program} {w : World} {c : Cx} {hB : Heap} {mg mb : Str → Option Value} {T : Tab} {n : Nat}

noncomputable def iniRho (d : D) (k : Nat) : List LV := LV.self [] [] :: LV.d d :: List.replicate k LV.un

theorem cls_sound (G : Gl prog w c hB mg mb T) (hF : ∀ k ds, T.F k ds = none) (Z : Sa prog w c hB) {fI : Addr} (hm : ∀ h, Keeps hB h → Makes (model prog w) h c.C) (hi : Looks (model prog w) hB (typeLookup (.ref c.C) "__init__") (some (.ref fI)))
    (hb : ∀ self, Looks (model prog w) hB (bindSpecial (.ref fI) self) (.ref fI, [self])) {fd : FuncData} {body : List Stmt} {nm : List Str} {ir : ISs} (I : FnIs hB fI fd) (O : DefOK T fd body nm 2 ir) (hnm : 2 ≤ nm.length)
    {d : D} {rho' : List LV} {ks : List Nat} {ds : List D} (ex : exSs T ir (iniRho d (nm.length - 2)) = some (.next, rho')) (hs0 : rho'[0]? = some (.self ks ds)) {A : Around} {g : PH} {s : Shared} {v : Value}
    (hA : AOk (n + 1) A) (hbg : PH.Le hB.get? g) (hs : PH.Le g s.heap.get?) (r : Rep c g v d) : EvP prog w c A g s (call (.ref c.C) [v]) (.inst ks ds) := by
  obtain ⟨P, C, S₀⟩ := c
  intro Q q
  obtain ⟨h, gn, dr, tk, os⟩ := s
  dsimp only at hs q
  have kB : Keeps hB h := hbg.trans hs
  refine wpAny_call ?_
  refine make_core (hm _ kB) (hi.keeps kB) (fun self => (hb self).keeps kB) (.inl rfl) ?_
  have kp : Keeps h ((h.push emptyDict).push (instObj C h.objs.size)) := fun b o e => Heap.get?_push_of_some _ (Heap.get?_push_of_some _ e)
  have z1 : (h.push emptyDict).objs.size = h.objs.size + 1 := Heap.size_push ..
  have hx : ((h.push emptyDict).push (instObj C h.objs.size)).get? (h.objs.size + 1) = some (instObj C h.objs.size) := by
    have : ((h.push emptyDict).push (instObj C h.objs.size)).get? (h.push emptyDict).objs.size = some (instObj C h.objs.size) := Heap.get?_push_size _ rfl
    rwa [z1] at this
  have hdx : ((h.push emptyDict).push (instObj C h.objs.size)).get? h.objs.size = some emptyDict := Heap.get?_push_of_some _ (Heap.get?_push_size _ rfl)
  have up : ∀ b, h.objs.size ≤ b → h.get? b = none := fun b hb => by
    cases e : h.get? b with
    | none => rfl
    | some o' => exact absurd (Heap.lt_size e) (Nat.not_lt.mpr hb)
  have nx := up (h.objs.size + 1) (Nat.le_succ _)
  have nd := up h.objs.size (Nat.le_refl _)
  have gn' : ∀ b, h.get? b = none → g b = none := fun b hb => by
    cases e : g b with
    | none => rfl
    | some o => have := hs _ _ e; rw [hb] at this; cases this
  generalize hH : (h.push emptyDict).push (instObj C h.objs.size) = H at kp hx hdx ⊢
  generalize hX : h.objs.size + 1 = x at hx nx ⊢
  have hne : x ≠ h.objs.size := by rw [← hX]; exact Nat.ne_of_gt (Nat.lt_succ_self _)
  refine fn_enter (s := ⟨H, gn, dr, tk, os⟩) G.nol I O (kB.trans kp) (by have := hA.depth; obtain ⟨h1, _⟩ := type_call_under C v; show A.depth + (Code.builtin "type.__call__" ⟨[.ref C, v], []⟩).weight < 1000; omega) rfl fun env h₁ tk₁ N => ?_
  have hfx : ∀ b, H.get? b ≠ none → ¬ Fp env b := fun b hb hf => hb (N.fresh b hf).1
  have G' : Gl prog w ⟨P, C, x⟩ hB mg mb T := ⟨G.nsG, G.nsB, G.nol, G.gi, G.blt, G.fns, G.st, G.cls, G.cat, G.att, G.b3⟩
  have Z' : Sa prog w ⟨P, C, x⟩ hB := Z
  have F' : FOK prog w ⟨P, C, x⟩ hB mg T n := fun k x a ds d _ _ e => by rw [hF] at e; cases e
  let ma : Nat → Addr := fun k => if k = 0 then x else h.objs.size
  have own : ∀ k, Own (iniRho d (nm.length - 2)) k → k = 0 ∨ k = 1 := fun k hk => by
    unfold Own iniRho at hk
    by_cases h0 : k / 2 = 0
    · omega
    · by_cases h1 : k / 2 = 1
      · rw [h1] at hk; exact hk.elim
      · rw [show k / 2 = (k / 2 - 2) + 1 + 1 by omega, List.getElem?_cons_succ, List.getElem?_cons_succ, List.getElem?_replicate] at hk
        split at hk
        · rename_i e; split at e <;> cases e
        · rename_i e; split at e <;> cases e
        · exact hk.elim
  have St0 : St ⟨P, C, x⟩ hB env nm g h.get? ma (iniRho d (nm.length - 2)) g h₁ := by
    refine ⟨hbg, PH.Le.refl _, (hs.trans kp).trans N.keeps, PH.Le.trans kp N.keeps, fun b o e => .inr e, fun b hb => ?_, fun b hb => (N.fresh b hb).2, N.ns, N.cells, ?_, ?_, ?_⟩
    · have e := (N.fresh b hb).1
      have e' : h.get? b = none := by
        cases q' : h.get? b with
        | none => rfl
        | some o => have := kp _ _ q'; rw [e] at this; cases this
      exact ⟨gn' b e', e'⟩
    · intro i y lv hy hi
      unfold iniRho at hi
      rcases i with _ | _ | i
      · simp only [List.getElem?_cons_zero, Option.some.injEq] at hi
        subst hi
        exact ⟨[], 0, [], N.arg 0 y (.ref x) hy rfl, N.keeps _ _ hx, N.keeps _ _ hdx, trivial, .nil⟩
      · simp only [List.getElem?_cons_succ, List.getElem?_cons_zero, Option.some.injEq] at hi
        subst hi
        exact ⟨v, N.arg 1 y v hy rfl, r.cx⟩
      · rw [List.getElem?_cons_succ, List.getElem?_cons_succ, List.getElem?_replicate] at hi
        split at hi <;> cases hi
        trivial
    · intro k hk
      rcases own k hk with rfl | rfl
      · refine ⟨gn' _ nx, nx, hfx x (by rw [hx]; simp), ⟨_, N.keeps _ _ hx⟩, fun k' hk' e => ?_⟩
        rcases own k' hk' with rfl | rfl
        · rfl
        · exact absurd e.symm hne
      · refine ⟨gn' _ nd, nd, hfx h.objs.size (by rw [hdx]; simp), ⟨_, N.keeps _ _ hdx⟩, fun k' hk' e => ?_⟩
        rcases own k' hk' with rfl | rfl
        · exact absurd e hne
        · rfl
    · intro i ks' ds' hi
      unfold iniRho at hi
      rcases i with _ | _ | i
      · rfl
      · simp at hi
      · rw [List.getElem?_cons_succ, List.getElem?_cons_succ, List.getElem?_replicate] at hi
        split at hi <;> cases hi
  obtain ⟨x0, hx0⟩ : ∃ x0, nm[0]? = some x0 := ⟨nm[0], List.getElem?_eq_getElem (by omega)⟩
  refine exSs_sound G' F' Z' N.ok ir body (by rw [N.scope]; exact O.chk) _ g h.get? ma g ⟨h₁, gn, dr, tk₁, os⟩ _ .next rho' hA.creation St0 ex _ fun fl g' ma' h' tk' S' le fo => ?_
  cases fl <;> try (exact fo.elim)
  refine ⟨rfl, q _ h' tk' S'.keep ?_⟩
  have hpin : ma' 0 = x := S'.pin 0 ks ds hs0
  obtain ⟨es, m, vs, _, ho, hd, he, rr⟩ := S'.vars 0 x0 _ hx0 hs0
  have hO := S'.own 0 (own_self hs0).1
  have hO' := S'.own 1 (own_self hs0).2
  rw [show 2 * 0 = 0 from rfl, hpin] at ho
  have le' : PH.Le g' (ext g h h') := fun b o e => by
    rcases S'.lo b o e with e' | e'
    · rw [ext_new e']; exact S'.sub b o e
    · rw [ext_old (hs _ _ e')]; exact e'
  refine Rep.inst (dx := ma' 1) (n := m) ?_ ?_ he (rr.cx.mono le')
  · rw [ext_new nx]; exact ho
  · rw [ext_new hO'.2.1]; exact hd
end
end Qu69
end

section
open PySem PySem.W PySem.W.X PySem.Calls PyProof.Rows
namespace Qu69

/-! a partial heap as a tree, with places that may be forgotten -/
noncomputable def kput : Nat → KT → Nat → Option Obj → KT
  | 0, t, _, _ => t
  | n + 1, .nil, i, o => match Nat.beq i 0 with
    | true => .node o .nil .nil
    | false => match Nat.beq (i % 2) 1 with
      | true => .node none (kput n .nil (i / 2) o) .nil
      | false => .node none .nil (kput n .nil (i / 2 - 1) o)
  | n + 1, .node v l r, i, o => match Nat.beq i 0 with
    | true => .node o l r
    | false => match Nat.beq (i % 2) 1 with
      | true => .node v (kput n l (i / 2) o) r
      | false => .node v l (kput n r (i / 2 - 1) o)

theorem get_nil (j : Nat) : KT.nil.get j = none := rfl
theorem get_kput : ∀ (n : Nat) (t : KT) (i : Nat) (o : Option Obj) (j : Nat), i + 1 < 2 ^ n → (kput n t i o).get j = if j = i then o else t.get j
  | 0, _, i, _, _, h => by simp at h
  | n + 1, .nil, i, o, j, h => by
    unfold kput
    rw [BT.beq_eq, BT.beq_eq]
    by_cases h0 : i = 0
    · subst h0
      simp only [decide_true, KT.get_node]
      by_cases hj : j = 0
      · simp [hj]
      · simp [hj, get_nil]
    · rw [decide_eq_false h0]
      have hp : 2 ^ (n + 1) = 2 * 2 ^ n := by rw [Nat.pow_succ, Nat.mul_comm]
      by_cases p : i % 2 = 1
      · rw [decide_eq_true p]
        simp only [KT.get_node]
        have ih := get_kput n .nil (i / 2) o (j / 2) (by omega)
        by_cases hj : j = 0
        · simp [hj, Ne.symm h0, get_nil]
        · by_cases pj : j % 2 = 1
          · simp only [hj, pj, if_true, if_false, ih, get_nil]
            by_cases e : j = i
            · simp [e]
            · have : j / 2 ≠ i / 2 := by omega
              simp [e, this]
          · have : j ≠ i := fun e => pj (e ▸ p)
            simp [hj, pj, this, get_nil]
      · rw [decide_eq_false p]
        simp only [KT.get_node]
        have ih := get_kput n .nil (i / 2 - 1) o (j / 2 - 1) (by omega)
        by_cases hj : j = 0
        · simp [hj, Ne.symm h0, get_nil]
        · by_cases pj : j % 2 = 1
          · have : j ≠ i := fun e => p (e ▸ pj)
            simp [hj, pj, this, get_nil]
          · simp only [hj, pj, if_false, ih, get_nil]
            by_cases e : j = i
            · simp [e]
            · have : j / 2 - 1 ≠ i / 2 - 1 := by omega
              simp [e, this]
  | n + 1, .node v l r, i, o, j, h => by
    unfold kput
    rw [BT.beq_eq, BT.beq_eq]
    by_cases h0 : i = 0
    · subst h0
      simp only [decide_true, KT.get_node]
      by_cases hj : j = 0
      · simp [hj]
      · simp [hj]
    · rw [decide_eq_false h0]
      have hp : 2 ^ (n + 1) = 2 * 2 ^ n := by rw [Nat.pow_succ, Nat.mul_comm]
      by_cases p : i % 2 = 1
      · rw [decide_eq_true p]
        simp only [KT.get_node]
        have ih := get_kput n l (i / 2) o (j / 2) (by omega)
        by_cases hj : j = 0
        · simp [hj, Ne.symm h0]
        · by_cases pj : j % 2 = 1
          · simp only [hj, pj, if_true, if_false, ih]
            by_cases e : j = i
            · simp [e]
            · have : j / 2 ≠ i / 2 := by omega
              simp [e, this]
          · have : j ≠ i := fun e => pj (e ▸ p)
            simp [hj, pj, this]
      · rw [decide_eq_false p]
        simp only [KT.get_node]
        have ih := get_kput n r (i / 2 - 1) o (j / 2 - 1) (by omega)
        by_cases hj : j = 0
        · simp [hj, Ne.symm h0]
        · by_cases pj : j % 2 = 1
          · have : j ≠ i := fun e => p (e ▸ pj)
            simp [hj, pj, this]
          · simp only [hj, pj, if_false, ih]
            by_cases e : j = i
            · simp [e]
            · have : j / 2 - 1 ≠ i / 2 - 1 := by omega
              simp [e, this]

noncomputable abbrev put (t : KT) (i : Nat) (o : Option Obj) : KT := kput 30 t i o
theorem get_put {t : KT} {i : Nat} {o : Option Obj} {j : Nat} (h : i ≤ 1000000) : (put t i o).get j = if j = i then o else t.get j := get_kput 30 t i o j (by omega)

abbrev Log := List (Addr × List Int)
structure RepT (prog : Program) (w : World) (h : Heap) (T : KT) (m : Nat) (L : Log) : Prop where
  size : h.objs.size = m
  obj : ∀ i o, T.get i = some o → h.get? i = some o
  set : ∀ p ∈ L, T.get p.1 = none ∧ ∃ n, h.SetOf (intKind prog w) p.1 (fun k => p.2.any (· == k)) n
  lim : m ≤ 1000000

noncomputable def FrT (T : KT) (h : Heap) (T' : KT) (h' : Heap) : Prop := ∀ b o, T.get b = none → h.get? b = some o → T'.get b = none ∧ h'.get? b = some o
theorem FrT.refl (T : KT) (h : Heap) : FrT T h T h := fun _ _ a b => ⟨a, b⟩
theorem FrT.trans {T T' T'' : KT} {h h' h'' : Heap} (x : FrT T h T' h') (y : FrT T' h' T'' h'') : FrT T h T'' h'' :=
  fun b o p q => let ⟨p', q'⟩ := x b o p q; y b o p' q'

section
variable {prog : Program} {w : World} {h : Heap} {T : KT} {m : Nat} {L : Log}
theorem RepT.lt (R : RepT prog w h T m L) {i : Nat} {o : Obj} (e : T.get i = some o) : i < m := R.size ▸ Heap.lt_size (R.obj i o e)
theorem RepT.alloc (R : RepT prog w h T m L) {o : Obj} (hf : o.isFreed = false) (hm : m < 1000000) : RepT prog w (h.push o) (put T m (some o)) (m + 1) L ∧ FrT T h (put T m (some o)) (h.push o) := by
  have low : ∀ b o', h.get? b = some o' → b ≠ m := fun b o' e q => by have := Heap.lt_size e; rw [R.size, q] at this; exact Nat.lt_irrefl _ this
  refine ⟨⟨by rw [Heap.size_push, R.size], fun i o' e => ?_, fun p hp => ?_, hm⟩, fun b o' e q => ?_⟩
  · rw [get_put R.lim] at e
    split at e
    · rename_i hi
      subst hi; cases e; rw [← R.size]; exact Heap.get?_push_size _ hf
    · exact Heap.get?_push_of_some _ (R.obj i o' e)
  · obtain ⟨a, n, ob, es, ep, t, ho, rest⟩ := R.set p hp
    refine ⟨by rw [get_put R.lim, if_neg (low _ _ ho)]; exact a, n, ob, es, ep, t, Heap.get?_push_of_some _ ho, rest⟩
  · exact ⟨by rw [get_put R.lim, if_neg (low _ _ q)]; exact e, Heap.get?_push_of_some _ q⟩
theorem RepT.change (R : RepT prog w h T m L) {a : Addr} {o o' : Obj} {h' : Heap} (e : T.get a = some o) (sb : Heap.SameBut a h h') (ho : h'.get? a = some o') : RepT prog w h' (put T a (some o')) m L ∧ FrT T h (put T a (some o')) h' := by
  have la : a ≤ 1000000 := Nat.le_trans (Nat.le_of_lt (R.lt e)) R.lim
  have ne : ∀ b, T.get b = none → b ≠ a := fun b q z => by rw [z, e] at q; cases q
  refine ⟨⟨sb.1.trans R.size, fun i o'' e' => ?_, fun p hp => ?_, R.lim⟩, fun b o'' e' q => ?_⟩
  · rw [get_put la] at e'
    split at e'
    · rename_i hi
      subst hi; cases e'; exact ho
    · rename_i hi
      rw [sb.2 i hi]; exact R.obj i o'' e'
  · obtain ⟨x, n, ob, es, ep, t, ho, rest⟩ := R.set p hp
    refine ⟨by rw [get_put la, if_neg (ne _ x)]; exact x, n, ob, es, ep, t, (sb.2 _ (ne _ x)).trans ho, rest⟩
  · exact ⟨by rw [get_put la, if_neg (ne _ e')]; exact e', (sb.2 _ (ne _ e')).trans q⟩
theorem RepT.update (R : RepT prog w h T m L) {a : Addr} {o : Obj} {f : Obj → Obj} (e : T.get a = some o) (hf : (f o).isFreed = false) : RepT prog w (h.update a f) (put T a (some (f o))) m L ∧ FrT T h (put T a (some (f o))) (h.update a f) :=
  R.change e (Heap.SameBut.update ..) (Heap.get?_update_self f (R.obj a o e) hf)
/-- a place is forgotten: a set now -/
theorem RepT.forget (R : RepT prog w h T m L) {a : Addr} {o : Obj} {h' : Heap} {l : List Int} {n : Nat} (e : T.get a = some o) (sb : Heap.SameBut a h h') (ho : h'.SetOf (intKind prog w) a (fun k => l.any (· == k)) n) :
    RepT prog w h' (put T a none) m ((a, l) :: L) ∧ FrT T h (put T a none) h' := by
  have la : a ≤ 1000000 := Nat.le_trans (Nat.le_of_lt (R.lt e)) R.lim
  have ne : ∀ b, T.get b = none → b ≠ a := fun b q z => by rw [z, e] at q; cases q
  refine ⟨⟨sb.1.trans R.size, fun i o'' e' => ?_, fun p hp => ?_, R.lim⟩, fun b o'' e' q => ?_⟩
  · rw [get_put la] at e'
    split at e'
    · cases e'
    · rename_i hi
      rw [sb.2 i hi]; exact R.obj i o'' e'
  · rcases List.mem_cons.mp hp with rfl | hp
    · exact ⟨by rw [get_put la, if_pos rfl], n, ho⟩
    · obtain ⟨x, n', ob, es, ep, t, ho', rest⟩ := R.set p hp
      exact ⟨by rw [get_put la, if_neg (ne _ x)]; exact x, n', ob, es, ep, t, (sb.2 _ (ne _ x)).trans ho', rest⟩
  · exact ⟨by rw [get_put la, if_neg (ne _ e')]; exact e', (sb.2 _ (ne _ e')).trans q⟩
end
end Qu69
end

section
open PySem PySem.W PySem.W.X PySem.Calls PyProof.Rows
namespace Qu69

abbrev itO (l : Addr) (i : Int) : Obj := { cls := .type "list_iterator", dict := none, data := .fields #[.ref l, .int i 0], slots := #[] }
abbrev riO (x n c : Int) : Obj := { cls := .type "range_iterator", dict := none, data := .fields #[.int x 0, .int n 0, .int c 0], slots := #[] }
abbrev rgO (a b c : Int) (t u v : Tok) : Obj := { cls := .type "range", dict := none, data := .fields #[.int a t, .int b u, .int c v], slots := #[] }
abbrev lsO (vs : List Value) (n : Nat) : Obj := { cls := .type "list", dict := none, data := .seq vs.toArray n, slots := #[] }
abbrev s0O (led : Bool) : Obj := { cls := .type "set", dict := none, data := .set #[] 0 (.fresh 0 0 led), slots := #[] }

section
variable {prog : Program} {w : World} {A : Around} {E : Value → Shared → Prop} {s : Shared} {R : Result → Shared → Prop}
/-- the next item of a list's iterator, the heap told whole -/
theorem next_list {it l : Addr} {i : Nat} {items : Array Value} {x : Value} {Q : Option Value → Shared → Prop} (hit : s.heap.get? it = some (itO l i)) (hl : s.heap.IsList l items) (hx : items[i]? = some x)
    (hQ : ∀ h', h'.get? it = some (itO l ((i + 1 : Nat) : Int)) → Heap.SameBut it s.heap h' → Q (some x) { s with heap := h' }) : wpAny (model prog w) A (pyNext (.ref it)) Q E s := by
  have hT : s.TypeIs (.ref it) "list_iterator" := ⟨_, hit, rfl⟩
  obtain ⟨ol, hol, _, nl, hdl⟩ := hl
  unfold pyNext
  refine wpAny_bind (wpAny_attempt (wpAny_callSpecial?_slot (name := Str.ofString "__next__") hT slot_listiter_next (wpAny_call_entry slot_listiter_next hT entry_listiter_next ?_ (args_listiter_next _))))
  show wpAny _ _ (field (.ref it) 0 >>= _) _ _ s
  refine wpAny_bind (wpAny_field hit rfl (x := .ref l) rfl ?_)
  show wpAny _ _ (if (Value.ref l == Value.none) = true then _ else _) _ _ s
  rw [if_neg (show ¬ ((Value.ref l == Value.none) = true) from Bool.false_ne_true)]
  show wpAny _ _ (field (.ref it) 1 >>= _) _ _ s
  refine wpAny_bind (wpAny_field hit rfl (x := .int i 0) rfl ?_)
  show wpAny _ _ (seqItems? (.ref l) >>= _) _ _ s
  refine wpAny_bind (wpAny_seqItems hol hdl ?_)
  simp only [Int.toNat_natCast, hx]
  exact wpAny_bind (wpAny_setField_rec hit (by simp) fun h' hg hs => wpAny_pure ⟨x, rfl, wpAny_pure (hQ h' (by rw [hg]; simp [rawInt]) hs)⟩)

/-- the iterators' ends: two objects are made -/
theorem next_list_end {it l : Addr} {i : Nat} {items : Array Value} {Q : Option Value → Shared → Prop} (hh : A.handled = none) (hit : s.heap.get? it = some (itO l i)) (hl : s.heap.IsList l items) (hx : items[i]? = none)
    (hQ : ∀ h', h'.objs.size = s.heap.objs.size + 2 → Heap.ExtBut it s.heap h' → Q none { s with heap := h' }) : wpAny (model prog w) A (pyNext (.ref it)) Q E s := by
  have hT : s.TypeIs (.ref it) "list_iterator" := ⟨_, hit, rfl⟩
  obtain ⟨ol, hol, _, nl, hdl⟩ := hl
  unfold pyNext
  refine wpAny_bind (wpAny_attempt (wpAny_callSpecial?_slot (name := Str.ofString "__next__") hT slot_listiter_next (wpAny_call_entry slot_listiter_next hT entry_listiter_next ?_ (args_listiter_next _))))
  show wpAny _ _ (field (.ref it) 0 >>= _) _ _ s
  refine wpAny_bind (wpAny_field hit rfl (x := .ref l) rfl ?_)
  show wpAny _ _ (if (Value.ref l == Value.none) = true then _ else _) _ _ s
  rw [if_neg (show ¬ ((Value.ref l == Value.none) = true) from Bool.false_ne_true)]
  show wpAny _ _ (field (.ref it) 1 >>= _) _ _ s
  refine wpAny_bind (wpAny_field hit rfl (x := .int i 0) rfl ?_)
  show wpAny _ _ (seqItems? (.ref l) >>= _) _ _ s
  refine wpAny_bind (wpAny_seqItems hol hdl ?_)
  simp only [Int.toNat_natCast, hx]
  refine wpAny_bind (wpAny_rule (wpAny_bind (wpAny_setField hit rfl (by simp) ?_)))
  show wpAny _ _ (newExc (.type "StopIteration") [] >>= _) _ _ _
  refine wpAny_bind ?_
  simp only [newExc, newTuple]
  refine wpAny_bind (wpAny_newObj_type ?_ (by size_fits))
  refine wpAny_bind (m := firstArgMember _ _) (wpAny_of_eq (a := Value.none) (by first | rfl | (simp only [firstArgMember]; rfl)) ?_)
  refine wpAny_newObj_type ?_ (by size_fits)
  simp only [raiseNew]
  refine wpAny_bind (wpAny_handled ?_)
  rw [show A.in1.handled = none from hh]
  refine wpAny_bind (wpAny_pure (wpAny_throw ?_))
  refine wpAny_bind (wpAny_isInstance (T := "StopIteration") (b := true) ⟨_, Heap.get?_push_size _ rfl, rfl⟩ isSubtype_stop ?_)
  exact wpAny_pure (hQ _ (by rw [Heap.size_push, Heap.size_push, Heap.size_after_update]) (((Heap.SameBut.update ..).extBut.push _).push _))
theorem next_range_end {it : Addr} {x left step : Int} {Q : Option Value → Shared → Prop} (hh : A.handled = none) (hit : s.heap.get? it = some (riO x left step)) (hleft : left ≤ 0)
    (hQ : ∀ h', h'.objs.size = s.heap.objs.size + 2 → (∀ b o, s.heap.get? b = some o → h'.get? b = some o) → Q none { s with heap := h' }) : wpAny (model prog w) A (pyNext (.ref it)) Q E s := by
  have hT : s.TypeIs (.ref it) "range_iterator" := ⟨_, hit, rfl⟩
  unfold pyNext
  refine wpAny_bind (wpAny_attempt (wpAny_callSpecial?_slot (name := Str.ofString "__next__") hT F.slot_range_iterator_next (wpAny_call_entry F.slot_range_iterator_next hT F.entry_range_iterator_next ?_ (F.args_range_iterator_next_1 _))))
  show wpAny _ _ (field (.ref it) 0 >>= _) _ _ s
  refine wpAny_bind (wpAny_field hit rfl (x := rawInt x) rfl ?_)
  show wpAny _ _ (field (.ref it) 1 >>= _) _ _ s
  refine wpAny_bind (wpAny_field hit rfl (x := rawInt left) rfl ?_)
  show wpAny _ _ (field (.ref it) 2 >>= _) _ _ s
  refine wpAny_bind (wpAny_field hit rfl (x := rawInt step) rfl ?_)
  show wpAny _ _ (if left ≤ 0 then _ else _) _ _ s
  rw [if_pos hleft]
  refine wpAny_bind (wpAny_rule ?_)
  refine wpAny_bind ?_
  show wpAny _ _ (newExc (.type "StopIteration") [] >>= _) _ _ _
  refine wpAny_bind ?_
  simp only [newExc, newTuple]
  refine wpAny_bind (wpAny_newObj_type ?_ (by size_fits))
  refine wpAny_bind (m := firstArgMember _ _) (wpAny_of_eq (a := Value.none) (by first | rfl | (simp only [firstArgMember]; rfl)) ?_)
  refine wpAny_newObj_type ?_ (by size_fits)
  simp only [raiseNew]
  refine wpAny_bind (wpAny_handled ?_)
  first | rw [show A.in1.handled = none from hh] | rw [hh]
  refine wpAny_bind (wpAny_pure (wpAny_throw ?_))
  refine wpAny_bind (wpAny_isInstance (T := "StopIteration") (b := true) ⟨_, Heap.get?_push_size _ rfl, rfl⟩ isSubtype_stop ?_)
  exact wpAny_pure (hQ _ (by rw [Heap.size_push, Heap.size_push]) fun b o e => Heap.get?_push_of_some _ (Heap.get?_push_of_some _ e))

/-- a set filled from a list of ints, up to the last turn -/
theorem ff_set (hh : A.handled = none) {S I l : Addr} {items : Array Value} {val : Nat → Int} (hSI : S ≠ I) (hSl : S ≠ l) (hIl : I ≠ l) (hval : ∀ (i : Nat) (v : Value), items[i]? = some v → ∃ t, v = .int (val i) t) (hb : items.size + 1 < scanBound) :
    ∀ (j i : Nat) (s : Shared), i + j = items.size → s.heap.get? I = some (itO l i) → s.heap.IsList l items → s.heap.SetOf (intKind prog w) S (fun k => (firstMet val i).any (· == k)) (firstMet val i).length →
      (∀ h', h'.objs.size = s.heap.objs.size + 2 → (∀ b o, b ≠ S → b ≠ I → s.heap.get? b = some o → h'.get? b = some o) → h'.SetOf (intKind prog w) S (fun k => (firstMet val items.size).any (· == k)) (firstMet val items.size).length →
        R (.ok (.ret .none)) { s with heap := h', toks := s.toks + j }) →
      codeAny (model prog w) A (.builtin "set.update.loop" ⟨[.ref S, .ref I], []⟩) R s := by
  intro j
  induction j with
  | zero =>
    intro i s e hI hL hS k
    have : i = items.size := by omega
    subst this
    refine codeAny_builtin F.entry_set_update_loop ?_
    rw [Around.under_plainId F.plain_set_update_loop _]
    show wpAny _ A.in1 (pyNext (.ref I) >>= _) _ _ s
    refine wpAny_bind (next_list_end (by simpa using hh) hI hL (by simp) fun h' z eb => ?_)
    show wpAny _ A.in1 (ret Value.none) _ _ _
    refine wpAny_pure (k h' z (fun b o _ h2 e => eb b o h2 e) ?_)
    obtain ⟨o, es, ep, tb, ho, rest⟩ := hS
    exact ⟨o, es, ep, tb, eb S o hSI ho, rest⟩
  | succ j ih =>
    intro i s e hI hL hS k
    have hlt : i < items.size := by omega
    refine codeAny_builtin F.entry_set_update_loop ?_
    rw [Around.under_plainId F.plain_set_update_loop _]
    show wpAny _ A.in1 (pyNext (.ref I) >>= _) _ _ s
    refine wpAny_bind (next_list hI hL (x := items[i]) (by simp [hlt]) fun h₁ hI₁ sb₁ => ?_)
    obtain ⟨t, ht⟩ := hval i items[i] (by simp [hlt])
    rw [ht]
    have hS₁ : h₁.SetOf (intKind prog w) S (fun k => (firstMet val i).any (· == k)) (firstMet val i).length := by
      obtain ⟨o, es, ep, tb, ho, rest⟩ := hS
      exact ⟨o, es, ep, tb, (sb₁.2 S hSI).trans ho, rest⟩
    show wpAny _ A.in1 (holding [Value.int (val i) t] (setAdd S (.int (val i) t)) >>= _) _ _ _
    refine wpAny_bind (wpAny_holding ?_)
    unfold setAdd
    refine wpAny_holding ?_
    refine wpAny_bind ((intKind prog w).pyHash (k := val i) (intKind_is _ _ _ _) ?_)
    have hroom : (firstMet val i).length + 1 < scanBound := by have := firstMet_length_le val i; omega
    refine wpAny_setAddHashed_of (knd := intKind prog w) (s := { s with heap := h₁, toks := s.toks + 1 }) (intKind_is _ _ _ _) rfl hS₁ hroom fun h₂ sb₂ hS₂ => ?_
    refine wpAny_pure ⟨plainId_quiet F.plain_set_update_loop _, ?_⟩
    refine ih (i + 1) _ (by omega) ((sb₂.2 I (Ne.symm hSI)).trans hI₁) ?_ (SetOf_congr hS₂ (fun k' => by rw [firstMet_succ, step_any]) (by rw [firstMet_succ, step_length])) fun h' z k1 k3 => ?_
    · obtain ⟨o, ho, r⟩ := hL
      exact ⟨o, ((sb₂.2 l (Ne.symm hSl)).trans (sb₁.2 l (Ne.symm hIl))).trans ho, r⟩
    · have := k h' (z.trans (congrArg (· + 2) (sb₂.1.trans sb₁.1))) (fun b o h1 h2 e => k1 b o h1 h2 (((sb₂.2 b h1).trans (sb₁.2 b h2)).trans e)) k3
      have e2 : s.toks + (j + 1) = s.toks + 1 + j := by omega
      rw [e2] at this
      exact this

noncomputable def ritems (c : Int) : Nat → Int → Nat → List Value
  | 0, _, _ => []
  | n + 1, a, k => .int a k :: ritems c n (a + c) (k + 1)
theorem ritems_length (c : Int) : ∀ (n : Nat) (a : Int) (k : Nat), (ritems c n a k).length = n
  | 0, _, _ => rfl
  | n + 1, a, k => congrArg Nat.succ (ritems_length c n (a + c) (k + 1))

/-- a list filled from a range's iterator, up to the last turn -/
theorem ff_list (hh : A.handled = none) {S I : Addr} {c : Int} (hSI : S ≠ I) (res : Value) :
    ∀ (n : Nat) (a : Int) (acc : List Value) (q : Nat) (s : Shared), acc.length + n ≤ 1000000 → s.heap.get? I = some (riO a n c) → s.heap.get? S = some (lsO acc q) →
      (∀ h', h'.objs.size = s.heap.objs.size + 2 → (∀ b o, b ≠ S → b ≠ I → s.heap.get? b = some o → h'.get? b = some o) → h'.get? S = some (lsO (acc ++ ritems c n a s.toks) (q + n)) →
        R (.ok (.ret res)) { s with heap := h', toks := s.toks + n }) →
      codeAny (model prog w) A (.builtin "list.extend.loop" ⟨[.ref S, .ref I, res], []⟩) R s := by
  intro n
  induction n with
  | zero =>
    intro a acc q s _ hI hS k
    refine codeAny_builtin F.entry_extend_loop ?_
    rw [Around.under_plainId F.plain_extend_loop _]
    show wpAny _ A.in1 (pyNext (.ref I) >>= _) _ _ s
    refine wpAny_bind (next_range_end (by simpa using hh) hI (by simp) fun h' z eb => ?_)
    refine wpAny_pure (k h' z (fun b o _ _ e => eb b o e) ?_)
    rw [eb S _ hS]; simp [ritems]
  | succ n ih =>
    intro a acc q s hl hI hS k
    refine codeAny_builtin F.entry_extend_loop ?_
    rw [Around.under_plainId F.plain_extend_loop _]
    show wpAny _ A.in1 (pyNext (.ref I) >>= _) _ _ s
    refine wpAny_bind (wpAny_pyNext_range_item (x := a) (left := ((n + 1 : Nat) : Int)) (step := c) hI (by omega) fun h₁ hI₁ sb₁ => ?_)
    have hS₁ : h₁.get? S = some (lsO acc q) := (sb₁.2 S hSI).trans hS
    show wpAny _ A.in1 (updateSeq S (·.push (.int a s.toks)) >>= _) _ _ _
    refine wpAny_bind (wpAny_updateSeq (s := { s with heap := h₁, toks := s.toks + 1 }) hS₁ rfl (wpAny_pure ⟨plainId_quiet F.plain_extend_loop _, ?_⟩) (by rw [List.size_toArray, sizeLine_eq]; omega) (by show (acc.toArray.push _).size ≤ _; rw [Array.size_push, List.size_toArray, sizeLine_eq]; omega))
    have hS₂ : (h₁.update S (Obj.mapSeq (·.push (.int a s.toks)))).get? S = some (lsO (acc ++ [.int a s.toks]) (q + 1)) := by
      rw [Heap.get?_update_self _ hS₁ rfl]
      simp [Obj.mapSeq]
    have hI₂ : (h₁.update S (Obj.mapSeq (·.push (.int a s.toks)))).get? I = some (riO (a + c) n c) := by
      rw [Heap.get?_update_other _ _ hSI]
      have := hI₁
      unfold IsRangeIter at this
      rw [this]
      have e1 : ((n + 1 : Nat) : Int) - 1 = n := by omega
      rw [e1]; rfl
    refine ih (a + c) (acc ++ [.int a s.toks]) (q + 1) _ (by simp; omega) hI₂ hS₂ fun h' z k1 k3 => ?_
    have := k h' (z.trans (by rw [Heap.size_after_update]; exact congrArg (· + 2) sb₁.1)) (fun b o h1 h2 e => k1 b o h1 h2 (((Heap.get?_update_other _ _ (Ne.symm h1)).trans (sb₁.2 b h2)).trans e)) ?_
    · have e2 : s.toks + (n + 1) = s.toks + 1 + n := by omega
      rw [e2] at this
      exact this
    · rw [k3]
      simp only [ritems, List.append_assoc, List.singleton_append]
      have e3 : q + 1 + n = q + (n + 1) := by omega
      rw [e3]
end
end Qu69
end

section
open PySem PySem.W PySem.W.X PySem.Calls PyProof.Rows
namespace Qu69

section
variable {prog : Program} {w : World} {A : Around} {s : Shared} {R : Result → Shared → Prop}
theorem push_old {h : Heap} {o : Obj} {b : Addr} (hb : b ≠ h.objs.size) : (h.push o).get? b = h.get? b := by
  unfold Heap.get? Heap.push
  simp only [Array.getElem?_push, hb, if_false]

theorem ff_init (hh : A.handled = none) {S r : Addr} {a b c : Int} {t u v : Tok} {n q : Nat} (hr : s.heap.get? r = some (rgO a b c t u v)) (hS : s.heap.get? S = some (lsO [] q)) (hsmall : Builtin.Range.small a b c = true)
    (hn : Builtin.Range.rangeSize a b c = n) (h0 : n ≠ 0) (hlen : n ≤ 1000000)
    (k : ∀ h', h'.objs.size = s.heap.objs.size + 3 → (∀ b o, b ≠ S → s.heap.get? b = some o → h'.get? b = some o) → h'.get? S = some (lsO (ritems c n a (s.toks + 1 + 1)) (q + 2 + n)) →
      R (.ok (.ret .none)) { s with heap := h', toks := s.toks + 1 + 1 + n }) :
    wpAny (model prog w) A.in1 (Builtin.«list.__init__» ⟨[.ref S, .ref r], []⟩)
      (fun fin s' => match fin with | .done f => R (.ok f) s' | .again c' => c'.quiet = true ∧ codeAny (model prog w) A c' R s') (fun e s' => R (.error e) s') s := by
  have hSr : S ≠ r := fun e => by rw [e, hr] at hS; simp at hS
  have hSlt : S < s.heap.objs.size := Heap.lt_size hS
  have hSI : S ≠ s.heap.objs.size := Nat.ne_of_lt hSlt
  show wpAny _ _ (do let old ← Builtin.List.listItems (.ref S); Builtin.List.listUpdate (.ref S) (fun _ => #[]); letGo old.toList.reverse; Builtin.List.listExtendWith (.ref S) (.ref r) .none) _ _ s
  refine wpAny_bind ?_
  unfold Builtin.List.listItems
  refine wpAny_bind (wpAny_seqItems hS rfl (wpAny_pure ?_))
  show wpAny _ _ (updateSeq S (fun _ => #[]) >>= fun _ => letGo (#[] : Array Value).toList.reverse >>= fun _ => Builtin.List.listExtendWith (.ref S) (.ref r) .none) _ _ s
  refine wpAny_bind (wpAny_updateSeq hS rfl ?_)
  have hS₁ : (s.heap.update S (Obj.mapSeq (fun _ => (#[] : Array Value)))).get? S = some (lsO [] q) := by
    rw [Heap.get?_update_self _ hS rfl]; simp [Obj.mapSeq]
  generalize hH : s.heap.update S (Obj.mapSeq (fun _ => (#[] : Array Value))) = H₁ at hS₁ ⊢
  have z₁ : H₁.objs.size = s.heap.objs.size := by rw [← hH, Heap.size_after_update]
  have o₁ : ∀ b, b ≠ S → H₁.get? b = s.heap.get? b := fun b hb => by rw [← hH]; exact Heap.get?_update_other _ _ (Ne.symm hb)
  have hr₁ : H₁.get? r = some (rgO a b c t u v) := (o₁ r (Ne.symm hSr)).trans hr
  refine wpAny_bind (wpAny_letGo ?_)
  unfold Builtin.List.listExtendWith
  refine wpAny_bind (wpAny_typeOf (T := "range") ⟨_, hr₁, rfl⟩ ?_)
  have h1 : Builtin.List.listSameRef (.ref S) (.ref r) = false := by simp [Builtin.List.listSameRef, hSr]
  have h2 : (Value.type "range" == Value.type "list") = false := by decide
  have h3 : (Value.type "range" == Value.type "tuple") = false := by decide
  simp only [h1, h2, h3, Bool.or_false, Bool.false_eq_true, if_false]
  refine wpAny_bind (wpAny_pyIter_range (s := { s with heap := H₁ }) hr₁ hsmall ?_)
  refine wpAny_bind (wpAny_holding (wpAny_hint_range (n := n) (Heap.get?_push_of_some _ hr₁) hn (by omega) ?_))
  dsimp only
  have hI₂ : (H₁.push { cls := .type "range_iterator", data := .fields #[rawInt a, rawInt (Builtin.Range.rangeSize a b c), rawInt c] }).get? H₁.objs.size = some (riO a n c) := by
    rw [hn]; exact Heap.get?_push_size _ rfl
  have hS₂ := Heap.get?_push_of_some { cls := .type "range_iterator", data := .fields #[rawInt a, rawInt (Builtin.Range.rangeSize a b c), rawInt c] } hS₁
  have z₂ : (H₁.push { cls := .type "range_iterator", data := .fields #[rawInt a, rawInt (Builtin.Range.rangeSize a b c), rawInt c] }).objs.size = s.heap.objs.size + 1 := by rw [Heap.size_push, z₁]
  have o₂ : ∀ b', b' ≠ S → b' ≠ s.heap.objs.size → (H₁.push { cls := .type "range_iterator", data := .fields #[rawInt a, rawInt (Builtin.Range.rangeSize a b c), rawInt c] }).get? b' = s.heap.get? b' := fun b' h1 h2 => by
    rw [push_old (by rw [z₁]; exact h2)]; exact o₁ b' h1
  rw [z₁] at hI₂ ⊢
  generalize H₁.push { cls := .type "range_iterator", data := .fields #[rawInt a, rawInt (Builtin.Range.rangeSize a b c), rawInt c] } = H₂ at hI₂ hS₂ z₂ o₂ ⊢
  have hne : ((n : Int) != 0) = true := by simp; omega
  refine wpAny_ite_split (fun _ => ?_) (fun hab => absurd (by rw [hne]; rfl) hab)
  refine wpAny_bind (wpAny_rule ?_)
  refine wpAny_bind ?_
  show wpAny _ _ (updateSeq S (·.push .none) >>= fun _ => updateSeq S (·.pop)) _ _ _
  refine wpAny_bind (wpAny_updateSeq hS₂ rfl ?_)
  have hS₃ : (H₂.update S (Obj.mapSeq (·.push Value.none))).get? S = some (lsO [.none] (q + 1)) := by
    rw [Heap.get?_update_self _ hS₂ rfl]; simp [Obj.mapSeq]
  refine wpAny_updateSeq (hz := by seq_fits) hS₃ rfl ?_
  have hS₄ : ((H₂.update S (Obj.mapSeq (·.push Value.none))).update S (Obj.mapSeq (·.pop))).get? S = some (lsO [] (q + 2)) := by
    rw [Heap.get?_update_self _ hS₃ rfl]; simp [Obj.mapSeq]
  refine wpAny_pure ⟨plainId_quiet F.plain_extend_loop _, ?_⟩
  refine ff_list (c := c) hh hSI .none n a [] (q + 2) _ (by simpa using hlen) ?_ hS₄ fun h' z k1 k3 => ?_
  · exact (Heap.get?_update_other _ _ hSI).trans ((Heap.get?_update_other _ _ hSI).trans hI₂)
  · refine k h' ?_ (fun b' o e1 e => ?_) k3
    · rw [z, Heap.size_after_update, Heap.size_after_update, z₂]
    · have e2 : b' ≠ s.heap.objs.size := Nat.ne_of_lt (Heap.lt_size e)
      exact k1 b' o e1 e2 ((Heap.get?_update_other _ _ (Ne.symm e1)).trans ((Heap.get?_update_other _ _ (Ne.symm e1)).trans ((o₂ b' e1 e2).trans e)))

/-- list(range), the heap told whole -/
theorem list_call {E : Value → Shared → Prop} (hh : A.handled = none) {r : Addr} {a b c : Int} {t u v : Tok} {n : Nat} (hr : s.heap.get? r = some (rgO a b c t u v)) (hsmall : Builtin.Range.small a b c = true)
    (hn : Builtin.Range.rangeSize a b c = n) (h0 : n ≠ 0) (hlen : n ≤ 1000000) {Q : Value → Shared → Prop}
    (k : ∀ h', h'.objs.size = s.heap.objs.size + 4 → (∀ b o, s.heap.get? b = some o → h'.get? b = some o) → h'.get? s.heap.objs.size = some (lsO (ritems c n a (s.toks + 1 + 1)) (2 + n)) →
      Q (.ref s.heap.objs.size) { s with heap := h', toks := s.toks + 1 + 1 + n }) : wpAny (model prog w) A (call (.type "list") [.ref r]) Q E s := by
  refine callType_codes (Q₁ := fun obj s₁ => obj = .ref s.heap.objs.size ∧ s₁ = { s with heap := s.heap.push (lsO [] 0) }) F.called_list (F.typeCall_list_1 _) F.entry_list_init (code_list_new _ ⟨rfl, rfl⟩) fun obj s₁ h₁ => ?_
  obtain ⟨rfl, rfl⟩ := h₁
  have hS : (s.heap.push (lsO [] 0)).get? s.heap.objs.size = some (lsO [] 0) := Heap.get?_push_size _ rfl
  refine ⟨⟨_, hS, rfl⟩, F.args_list_init_2 _ _, ff_init (s := { s with heap := s.heap.push (lsO [] 0) }) (A := A.in1) hh (Heap.get?_push_of_some _ hr) hS hsmall hn h0 hlen fun h' z kp hl => ⟨rfl, k h' ?_ (fun b o e => kp b o (Nat.ne_of_lt (Heap.lt_size e)) (Heap.get?_push_of_some _ e)) ?_⟩⟩
  · rw [z, Heap.size_push]
  · rw [hl]
end
end Qu69
end

section
open PySem PySem.W PySem.W.X PySem.Calls PyProof.Rows
namespace Qu69

theorem sub_range_set : isSubtype (.type "range") (.type "set") = pure false := by rw [isSubtype_type]; kernel_rfl
theorem sub_range_frozenset : isSubtype (.type "range") (.type "frozenset") = pure false := by rw [isSubtype_type]; kernel_rfl

section
variable {prog : Program} {w : World} {A : Around} {E : Value → Shared → Prop} {s : Shared} {R : Result → Shared → Prop}

/-- a set filled from a range -/
theorem ff_setR (hh : A.handled = none) {S I : Addr} {c a : Int} {n : Nat} (hSI : S ≠ I) (hb : n + 1 < scanBound) :
    ∀ (j i : Nat) (s : Shared), i + j = n → s.heap.get? I = some (riO (a + i * c) j c) → s.heap.SetOf (intKind prog w) S (fun k => (firstMet (fun i => a + i * c) i).any (· == k)) (firstMet (fun i => a + i * c) i).length →
      (∀ h', h'.objs.size = s.heap.objs.size + 2 → (∀ b o, b ≠ S → b ≠ I → s.heap.get? b = some o → h'.get? b = some o) → h'.SetOf (intKind prog w) S (fun k => (firstMet (fun i => a + i * c) n).any (· == k)) (firstMet (fun i => a + i * c) n).length →
        R (.ok (.ret .none)) { s with heap := h', toks := s.toks + (j + j) }) →
      codeAny (model prog w) A (.builtin "set.update.loop" ⟨[.ref S, .ref I], []⟩) R s := by
  intro j
  induction j with
  | zero =>
    intro i s e hI hS k
    have : i = n := by omega
    subst this
    refine codeAny_builtin F.entry_set_update_loop ?_
    rw [Around.under_plainId F.plain_set_update_loop _]
    show wpAny _ A.in1 (pyNext (.ref I) >>= _) _ _ s
    refine wpAny_bind (next_range_end (by simpa using hh) hI (by simp) fun h' z eb => ?_)
    show wpAny _ A.in1 (ret Value.none) _ _ _
    refine wpAny_pure (k h' z (fun b o _ h2 e => eb b o e) ?_)
    obtain ⟨o, es, ep, tb, ho, rest⟩ := hS
    exact ⟨o, es, ep, tb, eb S o ho, rest⟩
  | succ j ih =>
    intro i s e hI hS k
    refine codeAny_builtin F.entry_set_update_loop ?_
    rw [Around.under_plainId F.plain_set_update_loop _]
    show wpAny _ A.in1 (pyNext (.ref I) >>= _) _ _ s
    refine wpAny_bind (wpAny_pyNext_range_item (x := a + i * c) (left := ((j + 1 : Nat) : Int)) (step := c) hI (by omega) fun h₁ hI₁ sb₁ => ?_)
    have hS₁ : h₁.SetOf (intKind prog w) S (fun k => (firstMet (fun i => a + i * c) i).any (· == k)) (firstMet (fun i => a + i * c) i).length := by
      obtain ⟨o, es, ep, tb, ho, rest⟩ := hS
      exact ⟨o, es, ep, tb, (sb₁.2 S hSI).trans ho, rest⟩
    show wpAny _ A.in1 (holding [Value.int (a + i * c) s.toks] (setAdd S (.int (a + i * c) s.toks)) >>= _) _ _ _
    refine wpAny_bind (wpAny_holding ?_)
    unfold setAdd
    refine wpAny_holding ?_
    refine wpAny_bind ((intKind prog w).pyHash (k := a + i * c) (intKind_is _ _ _ _) ?_)
    have hroom : (firstMet (fun i => a + i * c) i).length + 1 < scanBound := by have := firstMet_length_le (fun i => a + i * c) i; omega
    refine wpAny_setAddHashed_of (knd := intKind prog w) (s := { s with heap := h₁, toks := s.toks + 1 + 1 }) (intKind_is _ _ _ _) rfl hS₁ hroom fun h₂ sb₂ hS₂ => ?_
    refine wpAny_pure ⟨plainId_quiet F.plain_set_update_loop _, ?_⟩
    refine ih (i + 1) _ (by omega) ?_ (SetOf_congr hS₂ (fun k' => by rw [firstMet_succ, step_any]) (by rw [firstMet_succ, step_length])) fun h' z k1 k3 => ?_
    · have := (sb₂.2 I (Ne.symm hSI)).trans hI₁
      dsimp only at this ⊢
      rw [this]
      have e1 : ((j + 1 : Nat) : Int) - 1 = j := by omega
      have e2 : a + (i : Int) * c + c = a + ((i + 1 : Nat) : Int) * c := by rw [Int.natCast_add, Int.add_mul]; omega
      rw [e1, e2]; rfl
    · have := k h' (z.trans (congrArg (· + 2) (sb₂.1.trans sb₁.1))) (fun b o h1 h2 e => k1 b o h1 h2 (((sb₂.2 b h1).trans (sb₁.2 b h2)).trans e)) k3
      have e2 : s.toks + (j + 1 + (j + 1)) = s.toks + 1 + 1 + (j + j) := by omega
      rw [e2] at this
      exact this

set_option maxRecDepth 100000 in
set_option maxHeartbeats 3200000 in
/-- set(x), the heap's size told -/
theorem set_call {l : Addr} {T : String} {dt : Data} {io : Obj} {fn : Int → Bool} {fl dk : Nat} {Q : Value → Shared → Prop} (hh : A.handled = none) (hl : s.heap.get? l = some { cls := .type T, dict := none, data := dt, slots := #[] })
    (hsls : isSubtype (.type T) (.type "set") = pure false) (hslf : isSubtype (.type T) (.type "frozenset") = pure false) (hne : (Value.type T == Value.type "dict") = false)
    (hiof : io.isFreed = false)
    (iter : ∀ (A : Around) (E : Value → Shared → Prop) (s : Shared) (Q : Value → Shared → Prop), s.heap.get? l = some { cls := .type T, dict := none, data := dt, slots := #[] } → Q (.ref s.heap.objs.size) { s with heap := s.heap.push io } → wpAny (model prog w) A (pyIter (.ref l)) Q E s)
    (loop : ∀ (A : Around) (R : Result → Shared → Prop) (s : Shared) (S I : Addr), A.handled = none → S ≠ I → S ≠ l → I ≠ l → s.heap.get? I = some io → s.heap.get? l = some { cls := .type T, dict := none, data := dt, slots := #[] } → s.heap.SetOf (intKind prog w) S (fun _ => false) 0 →
      (∀ h', h'.objs.size = s.heap.objs.size + 2 → (∀ b o, b ≠ S → b ≠ I → s.heap.get? b = some o → h'.get? b = some o) → h'.SetOf (intKind prog w) S fn fl → R (.ok (.ret .none)) { s with heap := h', toks := s.toks + dk }) →
      codeAny (model prog w) A (.builtin "set.update.loop" ⟨[.ref S, .ref I], []⟩) R s)
    (h : ∀ h', h'.objs.size = s.heap.objs.size + 4 → (∀ b o, s.heap.get? b = some o → h'.get? b = some o) → h'.SetOf (intKind prog w) s.heap.objs.size fn fl → Q (.ref s.heap.objs.size) { s with heap := h', toks := s.toks + dk }) :
    wpAny (model prog w) A (call (.type "set") [.ref l]) Q E s := by
  obtain ⟨c, tl, hmro⟩ := F.called_set.mro
  have hmade := F.called_set.made
  have hsub := F.called_set.sub
  refine wpAny_call (codeAny_of_tree ?_)
  show wpAny _ _ (callAny (.type "set") _) _ _ _
  refine wpAny_pure ⟨Code.quiet_builtin _ (by decide +kernel), codeAny_builtin F.entry_type_call ?_⟩
  rw [Around.under_plain (weight_type_call_type "set" [.ref l] []) rfl]
  have h1 := F.called_set.notType
  have h2 := F.called_set.canCreate
  have hct := F.typeCall_set_1 (.ref l)
  repeat (any_goals (first | assumption | wp_step))
  refine codeAny_mono (code_set_new_1 (.ref l) (E := E) (Q₁ := fun obj s₁ => ∃ led : Bool, obj = .ref s.heap.objs.size ∧ s₁ = { s with heap := s.heap.push (s0O led) }) fun led => ⟨led, rfl, rfl⟩) fun r s₁ hr => ?_
  cases r with
  | error e => exact hr
  | ok fl₁ =>
    cases fl₁ with
    | ret obj =>
      obtain ⟨led, rfl, rfl⟩ := hr
      have hS : (s.heap.push (s0O led)).get? s.heap.objs.size = some (s0O led) := Heap.get?_push_size _ rfl
      have hT : Shared.TypeIs { s with heap := s.heap.push (s0O led) } (.ref s.heap.objs.size) "set" := ⟨_, hS, rfl⟩
      have hli := F.called_set.init.lookup
      have hbi := F.called_set.init.bind (.ref s.heap.objs.size)
      repeat (any_goals (first | assumption | wp_step))
      refine codeAny_mono (codeAny_call_builtin (R := wants (fun r s₂ => r = .none ∧ ∃ h', s₂ = { s with heap := h', toks := s.toks + dk } ∧ h'.objs.size = s.heap.objs.size + 4 ∧
          h'.SetOf (intKind prog w) s.heap.objs.size fn fl ∧ (∀ b o, s.heap.get? b = some o → h'.get? b = some o)) E) F.called_set.init.plain F.entry_set_init (check_set_init_1 hT ?_)) fun r₂ s₂ hr₂ => ?_
      · have hol' : (s.heap.push (s0O led)).get? l = some { cls := .type T, dict := none, data := dt, slots := #[] } := Heap.get?_push_of_some _ hl
        unfold Builtin.«set.__init__» noKeywords Builtin.Frozenset.updateFrom
        generalize hPI : pyIter = PI
        wp_walk
        subst hPI
        refine iter _ _ _ _ hol' ?_
        refine wpAny_bind (wpAny_runValue ?_)
        have hlS : l < s.heap.objs.size := Heap.lt_size hl
        have hh3 : A.in1.in1.in1.handled = none := by simp [hh]
        have hsz : (s.heap.push (s0O led)).objs.size = s.heap.objs.size + 1 := Heap.size_push ..
        refine loop _ _ _ s.heap.objs.size (s.heap.push (s0O led)).objs.size (by simpa using hh) (by rw [hsz]; exact Nat.ne_of_lt (Nat.lt_succ_self _)) (Nat.ne_of_gt hlS) (by rw [hsz]; exact Nat.ne_of_gt (Nat.lt_succ_of_lt hlS))
          (Heap.get?_push_size _ hiof) (Heap.get?_push_of_some _ hol') ?_ fun h' z kp hset => ?_
        · exact SetOf_congr ((setObjOf_fresh (knd := intKind prog w) led).setOf (Heap.get?_push_of_some _ hS) (by unfold scanBound; omega)) (fun _ => rfl) rfl
        · show wpAny _ _ _ _ _ _
          refine wpAny_pure ?_
          show wpAny _ _ (ret Value.none) _ _ _
          refine wpAny_pure ⟨rfl, h', rfl, ?_, hset, fun b o e => kp b o (Nat.ne_of_lt (Heap.lt_size e)) (by rw [hsz]; exact Nat.ne_of_lt (Nat.lt_succ_of_lt (Heap.lt_size e))) (Heap.get?_push_of_some _ (Heap.get?_push_of_some _ e))⟩
          rw [z, Heap.size_push, hsz]
      · cases r₂ with
        | error e => exact hr₂
        | ok fl₂ =>
          cases fl₂ with
          | ret r =>
            obtain ⟨rfl, h', rfl, z, hS', hk'⟩ := hr₂
            repeat (any_goals (first | assumption | wp_step))
            exact h _ z hk' hS'
          | _ => exact hr₂.elim
    | _ => exact hr.elim
end
end Qu69
end

section
open PySem PySem.W PySem.W.X PySem.Calls PyProof.Rows
namespace Qu69

noncomputable def isNil {α : Type} : List α → Bool
  | [] => true
  | _ :: _ => false
theorem isNil_eq {α : Type} {l : List α} (h : isNil l = true) : l = [] := by cases l with
  | nil => rfl
  | cons => cases h
theorem arr_nil {α : Type} {a : Array α} (h : isNil a.toList = true) : a = #[] := Array.ext' (isNil_eq h)

noncomputable def clsIs (x : String) : Value → Bool
  | .type y => decide (y = x)
  | _ => false
theorem clsIs_eq {x : String} {v : Value} (h : clsIs x v = true) : v = .type x := by
  unfold clsIs at h
  split at h
  · rw [of_decide_eq_true h]
  · cases h

noncomputable def asRg : Obj → Option ((Int × Int × Int) × (Tok × Tok × Tok))
  | ⟨c, none, .fields vs, sl⟩ => match vs.toList with
    | [.int x t, .int y u, .int z v] => if isNil sl.toList = true ∧ clsIs "range" c = true then some ((x, y, z), (t, u, v)) else none
    | _ => none
  | _ => none
theorem asRg_eq {o : Obj} {x y z : Int} {t u v : Tok} (h : asRg o = some ((x, y, z), (t, u, v))) : o = rgO x y z t u v := by
  unfold asRg at h
  split at h
  · rename_i c vs sl
    split at h
    · rename_i hv
      split at h
      · rename_i hc
        cases h
        have e1 : vs = #[.int x t, .int y u, .int z v] := Array.ext' hv
        have := arr_nil hc.1; have := clsIs_eq hc.2
        subst_vars; rfl
      · cases h
    · cases h
  · cases h

noncomputable def asLs : Obj → Option (List Value × Nat)
  | ⟨c, none, .seq vs n, sl⟩ => if isNil sl.toList = true ∧ clsIs "list" c = true then some (vs.toList, n) else none
  | _ => none
theorem asLs_eq {o : Obj} {vs : List Value} {n : Nat} (h : asLs o = some (vs, n)) : o = lsO vs n := by
  unfold asLs at h
  split at h
  · split at h
    · rename_i hc
      cases h
      have := arr_nil hc.1; have := clsIs_eq hc.2
      subst_vars; rfl
    · cases h
  · cases h

noncomputable def intsOf : List Value → Option (List Int)
  | [] => some []
  | .int i _ :: r => match intsOf r with
    | some l => some (i :: l)
    | none => none
  | _ => none
theorem intsOf_spec : ∀ {vs : List Value} {ns : List Int}, intsOf vs = some ns → IntsAre vs ns
  | [], ns, h => by cases h; exact .nil
  | v :: r, ns, h => by
    unfold intsOf at h
    split at h
    · rename_i e; cases e
    · rename_i i t r' e
      cases e
      cases q : intsOf r with
      | none => rw [q] at h; cases h
      | some l => rw [q] at h; cases h; exact .cons i t (intsOf_spec q)
    · cases h
theorem firstMet_ints {vs : List Value} {ns : List Int} (h : IntsAre vs ns) (k : Int) : (firstMet (fun i => ns.getD i 0) vs.length).any (· == k) = ns.any (· == k) := by
  rw [firstMet_any]
  congr 1
  apply List.ext_getElem?
  intro i
  rw [List.getElem?_map]
  have hl : vs.length = ns.length := IntsAre.length h
  by_cases hi : i < ns.length
  · rw [List.getElem?_range (by omega), List.getElem?_eq_getElem hi]; simp [hi]
  · rw [List.getElem?_eq_none (by simp; omega), List.getElem?_eq_none (by omega)]; rfl
noncomputable def rints (c : Int) : Nat → Int → List Int
  | 0, _ => []
  | n + 1, a => a :: rints c n (a + c)
theorem rints_eq (c : Int) : ∀ (n : Nat) (a : Int), (List.range n).map (fun (i : Nat) => a + (i : Int) * c) = rints c n a
  | 0, _ => rfl
  | n + 1, a => by
    rw [List.range_succ_eq_map, List.map_cons, List.map_map, rints, ← rints_eq c n (a + c)]
    congr 1
    · simp
    · apply List.map_congr_left
      intro i _
      show a + ((i + 1 : Nat) : Int) * c = a + c + (i : Int) * c
      rw [Int.natCast_add, Int.add_mul]; omega
theorem firstMet_rints (c a : Int) (n : Nat) (k : Int) : (firstMet (fun i => a + i * c) n).any (· == k) = (rints c n a).any (· == k) := by
  rw [firstMet_any, ← rints_eq]

abbrev GoR := Option (Result × KT × Nat × Nat × Log)

noncomputable def hookL (x : String) (vs : List Value) (T : KT) (m k : Nat) (L : Log) : GoR := match intsOf vs with
  | some ns => if vs.length < 4000 ∧ m < 900000 ∧ x = "set" then some (.ok (.ret (.ref m)), T, m + 4, k + vs.length, (m, ns) :: L) else none
  | none => none
noncomputable def hookR (x : String) (a b c : Int) (T : KT) (m k : Nat) (L : Log) : GoR :=
  if Builtin.Range.small a b c = true ∧ 0 < Builtin.Range.rangeSize a b c ∧ Builtin.Range.rangeSize a b c ≤ 4000 ∧ m < 900000 then
    if x = "list" then some (.ok (.ret (.ref m)), put T m (some (lsO (ritems c (Builtin.Range.rangeSize a b c).toNat a (k + 1 + 1)) (2 + (Builtin.Range.rangeSize a b c).toNat))), m + 4, k + 1 + 1 + (Builtin.Range.rangeSize a b c).toNat, L)
    else if x = "set" then some (.ok (.ret (.ref m)), T, m + 4, k + ((Builtin.Range.rangeSize a b c).toNat + (Builtin.Range.rangeSize a b c).toNat), (m, rints c (Builtin.Range.rangeSize a b c).toNat a) :: L)
    else none
  else none
noncomputable def hook (c : Code) (T : KT) (m k : Nat) (L : Log) : GoR := match c with
  | .call f a => match f with
    | .type x => match a with
      | ⟨ps, kw⟩ => match ps with
        | [.ref l] => match kw with
          | [] => match T.get l with
            | some ol => match asLs ol with
              | some (vs, _) => hookL x vs T m k L
              | none => match asRg ol with
                | some ((a, b, c), _) => hookR x a b c T m k L
                | none => none
            | none => none
          | _ :: _ => none
        | _ => none
    | _ => none
  | _ => none

section
variable {prog : Program} {w : World} {A : Around} {h : Heap} {T : KT} {m k : Nat} {L : Log}
theorem RepT.fresh (R : RepT prog w h T m L) {i : Nat} (hi : m ≤ i) : T.get i = none := by
  cases e : T.get i with
  | none => rfl
  | some o => exact absurd (R.lt e) (Nat.not_lt.mpr hi)
theorem RepT.grow (R : RepT prog w h T m L) {h' : Heap} {T' : KT} {m' : Nat} {L' : Log} (sz : h'.objs.size = m') (lm : m' ≤ 1000000) (kp : ∀ b o, h.get? b = some o → h'.get? b = some o)
    (ht : ∀ b, b < m → T'.get b = T.get b) (hn : ∀ b o, m ≤ b → T'.get b = some o → h'.get? b = some o) (hL : ∀ p ∈ L', p ∈ L ∨ T'.get p.1 = none ∧ ∃ n, h'.SetOf (intKind prog w) p.1 (fun k => p.2.any (· == k)) n) :
    RepT prog w h' T' m' L' ∧ FrT T h T' h' := by
  have lt : ∀ b o, h.get? b = some o → b < m := fun b o e => R.size ▸ Heap.lt_size e
  refine ⟨⟨sz, fun i o e => ?_, fun p hp => ?_, lm⟩, fun b o e q => ⟨by rw [ht b (lt _ _ q)]; exact e, kp b o q⟩⟩
  · by_cases hi : i < m
    · rw [ht i hi] at e; exact kp i o (R.obj i o e)
    · exact hn i o (Nat.le_of_not_lt hi) e
  · rcases hL p hp with hp | hp
    · obtain ⟨x, n, ob, es, ep, t, ho, rest⟩ := R.set p hp
      exact ⟨by rw [ht _ (lt _ _ ho)]; exact x, n, ob, es, ep, t, kp _ _ ho, rest⟩
    · exact hp

theorem hook_sound {c : Code} {r : Result} {T' : KT} {m' k' : Nat} {L' : Log} (e : hook c T m k L = some (r, T', m', k', L')) (D : RepT prog w h T m L) {g : Array GenState} {d : Drawn} {os : OsState} :
    ∃ f a, c = .call f ⟨a, []⟩ ∧ ∃ v, r = .ok (.ret v) ∧ ∀ (A : Around) (Q : Value → Shared → Prop) (E : Value → Shared → Prop), A.handled = none → (∀ h', RepT prog w h' T' m' L' → FrT T h T' h' → Q v ⟨h', g, d, k', os⟩) →
      wpAny (model prog w) A (call f a) Q E ⟨h, g, d, k, os⟩ := by
  unfold hook at e
  split at e
  case h_2 => cases e
  case h_1 _ f a =>
  split at e
  case h_2 => cases e
  case h_1 _ x =>
  obtain ⟨ps, kw⟩ := a
  simp only at e
  split at e
  case h_2 => cases e
  case h_1 _ l =>
  split at e
  case h_2 => cases e
  case h_1 =>
  refine ⟨_, _, rfl, ?_⟩
  cases el : T.get l with
  | none => rw [el] at e; cases e
  | some ol =>
  rw [el] at e
  simp only at e
  have hl := D.obj _ _ el
  split at e
  · rename_i vs nv ev
    have := asLs_eq ev
    subst this
    unfold hookL at e
    split at e
    case h_2 => cases e
    case h_1 _ ns en =>
    split at e
    case isFalse => cases e
    case isTrue hc =>
    obtain ⟨c1, c2, rfl⟩ := hc
    cases e
    refine ⟨_, rfl, fun A Q E hh post => ?_⟩
    have hi := intsOf_spec en
    have hval : ∀ (i : Nat) (v : Value), vs.toArray[i]? = some v → ∃ t, v = .int ((fun i => ns.getD i 0) i) t := fun i v hv => IntsAre.int_at hi i v (by simpa using hv)
    have hz : vs.toArray.size = vs.length := List.size_toArray
    refine set_call (s := ⟨h, g, d, k, os⟩) (fn := fun k => ns.any (· == k)) (fl := (firstMet (fun i => ns.getD i 0) vs.length).length) (dk := vs.length) (io := itO l 0) hh hl F.sub_list_set F.sub_list_frozenset (by decide) rfl
      (fun A E s Q hl q => wpAny_pyIter_list ⟨_, hl, rfl, _, rfl⟩ q) (fun A R s S I hh n1 n2 n3 hI hl hS k => ?_) fun h' z kp hset => ?_
    · refine ff_set hh n1 n2 n3 hval (by rw [hz]; unfold scanBound; omega) vs.toArray.size 0 s (by omega) hI ⟨_, hl, rfl, _, rfl⟩ (SetOf_congr hS (fun _ => rfl) rfl) fun h' z kp hset => ?_
      rw [hz] at hset ⊢
      exact k h' z kp (SetOf_congr hset (fun k => firstMet_ints hi k) rfl)
    · dsimp only at z kp hset ⊢
      rw [D.size] at z hset ⊢
      have := D.grow (T' := T) (m' := m + 4) (L' := (m, ns) :: L) z (by omega) kp (fun _ _ => rfl) (fun b o hb e => by rw [D.fresh hb] at e; cases e) (fun p hp => by
        rcases List.mem_cons.mp hp with rfl | hp
        · exact .inr ⟨D.fresh (Nat.le_refl _), _, hset⟩
        · exact .inl hp)
      exact post h' this.1 this.2
  · split at e
    case h_2 => cases e
    case h_1 _ a b c u er =>
    obtain ⟨u1, u2, u3⟩ := u
    have := asRg_eq er
    subst this
    unfold hookR at e
    split at e
    case isFalse => cases e
    case isTrue hc =>
    obtain ⟨c1, c2, c3, c4⟩ := hc
    have hn : Builtin.Range.rangeSize a b c = ((Builtin.Range.rangeSize a b c).toNat : Int) := by omega
    generalize hN : (Builtin.Range.rangeSize a b c).toNat = n at e hn
    split at e
    · rename_i hx
      subst hx
      cases e
      refine ⟨_, rfl, fun A Q E hh post => ?_⟩
      refine list_call (s := ⟨h, g, d, k, os⟩) hh hl c1 hn (by omega) (by omega) fun h' z kp hls => ?_
      dsimp only at z kp hls ⊢
      rw [D.size] at z hls ⊢
      have := D.grow (T' := put T m (some (lsO (ritems c n a (k + 1 + 1)) (2 + n)))) (m' := m + 4) (L' := L) z (by omega) kp (fun b hb => by rw [get_put D.lim, if_neg (Nat.ne_of_lt hb)]) (fun b o hb e => by
        rw [get_put D.lim] at e
        split at e
        · rename_i hbm; subst hbm; cases e; exact hls
        · rw [D.fresh hb] at e; cases e) (fun p hp => .inl hp)
      exact post h' this.1 this.2
    · split at e
      case isFalse => cases e
      case isTrue hx =>
      subst hx
      cases e
      refine ⟨_, rfl, fun A Q E hh post => ?_⟩
      refine set_call (s := ⟨h, g, d, k, os⟩) (fn := fun k => (rints c n a).any (· == k)) (fl := (firstMet (fun i => a + i * c) n).length) (dk := n + n) (io := riO a n c) hh hl sub_range_set sub_range_frozenset (by decide) rfl
        (fun A E s Q hl q => wpAny_pyIter_range hl c1 (by rw [hn]; exact q)) (fun A R s S I hh n1 n2 n3 hI hl hS k => ?_) fun h' z kp hset => ?_
      · refine ff_setR (a := a) (c := c) (n := n) hh n1 (by unfold scanBound; omega) n 0 s (by omega) (by rw [hI]; simp) (SetOf_congr hS (fun _ => rfl) rfl) fun h' z kp hset => ?_
        exact k h' z kp (SetOf_congr hset (fun k => firstMet_rints c a n k) rfl)
      · dsimp only at z kp hset ⊢
        rw [D.size] at z hset ⊢
        have := D.grow (T' := T) (m' := m + 4) (L' := (m, rints c n a) :: L) z (by omega) kp (fun _ _ => rfl) (fun b o hb e => by rw [D.fresh hb] at e; cases e) (fun p hp => by
          rcases List.mem_cons.mp hp with rfl | hp
          · exact .inr ⟨D.fresh (Nat.le_refl _), _, hset⟩
          · exact .inl hp)
        exact post h' this.1 this.2
end
end Qu69
end

section
open PySem PySem.W PySem.W.X PySem.Calls PyProof.Rows
namespace Qu69

noncomputable abbrev denF : Code → Sem Fin := PySem.W.Fast.tw11892475500146522536 treeTable
theorem denF_eq : denF = denote table := by
  unfold denF
  rw [← PySem.W.Fast.te11892475500146522536, table_eq_tree]
noncomputable abbrev quietF : Code → Bool := PySem.W.ZFast.zw17772548960776305114
theorem quietF_eq : quietF = Code.quiet := PySem.W.ZFast.ze17772548960776305114.symm

abbrev GoTy := Ctx → Pos → Sem Fin → KT → Nat → Nat → Log → GoR

noncomputable def goCall (ih : GoTy) (Γ : Ctx) (c : Code) (h : Option Value) (p : Pos) (T : KT) (m k : Nat) (L : Log) : GoR := match h with
  | none => match Γ.handled with
    | none => match hook c T m k L with
      | some r => some r
      | none => ih (Γ.enter c h p) p (denF c) T m k L
    | some _ => ih (Γ.enter c h p) p (denF c) T m k L
  | some _ => ih (Γ.enter c h p) p (denF c) T m k L

noncomputable def goStep (S : Setting) (ih : GoTy) : GoTy := fun Γ p t T m k L => match t with
  | .pure fin => match fin with
    | .done f => some (.ok f, T, m, k, L)
    | .again c => match quietF c with
      | true => ih (Γ.goto c) p (denF c) T m k L
      | false => none
  | .raise x => some (.error x, T, m, k, L)
  | .rule _ f => ih Γ p (f ()) T m k L
  | .at q f => ih Γ q (f ()) T m k L
  | .load a _ f => match T.get a with
    | some o => ih Γ p (f o) T m k L
    | none => none
  | .update a _ f g => match T.get a with
    | some o => match (f o).isFreed with
      | false => ih Γ p (g ()) (put T a (some (f o))) m k L
      | true => none
    | none => none
  | .loadIfAlive a f => match T.get a with
    | some o => ih Γ p (f (some o)) T m k L
    | none => none
  | .point _ f => ih Γ p (f ()) T m k L
  | .alloc o f => match o.isFreed with
    | false => match Nat.blt m 900000 with
      | true => ih Γ p (f m) (put T m (some o)) (m + 1) k L
      | false => none
    | true => none
  | .fresh f => ih Γ p (f k) T m (k + 1) L
  | .ask f => ih Γ p (f S) T m k L
  | .handled own f => match own with
    | true => ih Γ p (f Γ.own) T m k L
    | false => ih Γ p (f Γ.handled) T m k L
  | .stack f => ih Γ p (f ((Γ.code, p) :: Γ.below)) T m k L
  | .thread f => ih Γ p (f 0) T m k L
  | .call c h _ _ f => match goCall ih Γ c h p T m k L with
    | some (r, T', m', k', L') => ih Γ p (f r) T' m' k' L'
    | none => none
  | _ => none

noncomputable def go (S : Setting) (n : Nat) : GoTy := @Nat.rec (fun _ => GoTy) (fun _ _ _ _ _ _ _ => none) (fun _ ih => goStep S ih) n
theorem go_zero (S : Setting) : go S 0 = fun _ _ _ _ _ _ _ => none := rfl
theorem go_succ (S : Setting) (n : Nat) : go S (n + 1) = goStep S (go S n) := rfl

section
variable {prog : Program} {w : World} {g : Array GenState} {d : Drawn} {os : OsState}

noncomputable def GoOK (prog : Program) (w : World) (g : Array GenState) (d : Drawn) (os : OsState) (G : GoTy) : Prop :=
  ∀ Γ p t T m k L r T' m' k' L', G Γ p t T m k L = some (r, T', m', k', L') → ∀ h, RepT prog w h T m L → ∀ R : Result → Shared → Prop, (∀ h', RepT prog w h' T' m' L' → FrT T h T' h' → R r ⟨h', g, d, k', os⟩) →
    Sem.wp (model prog w) Γ t (Sem.finPost (model prog w) Γ R) (fun e _ s' => R (.error e) s') p ⟨h, g, d, k, os⟩

noncomputable def aroundG (Γ : Ctx) : Around := ⟨Γ.handled, frameCount Γ.below + Γ.code.weight, none, none, Γ.units⟩
theorem in_aroundG (Γ : Ctx) : Γ.In (aroundG Γ) := ⟨rfl, Nat.le_refl _, fun _ h => (nomatch h), fun _ h => (nomatch h), Nat.le_refl _⟩

theorem code_ok {G : GoTy} (hG : GoOK prog w g d os G) {Γ : Ctx} {c : Code} (hc : Γ.code = c) {p : Pos} {T : KT} {m k : Nat} {L : Log} {r : Result} {T' : KT} {m' k' : Nat} {L' : Log} (e : G Γ p (denF c) T m k L = some (r, T', m', k', L'))
    {h : Heap} (D : RepT prog w h T m L) {R : Result → Shared → Prop} (post : ∀ h', RepT prog w h' T' m' L' → FrT T h T' h' → R r ⟨h', g, d, k', os⟩) : wpCode (model prog w) Γ R p ⟨h, g, d, k, os⟩ := by
  rw [wpCode_iff_wp, hc]
  have := hG _ _ _ _ _ _ _ _ _ _ _ _ e h D R post
  rw [denF_eq] at this
  exact this
theorem call_ok {G : GoTy} (hG : GoOK prog w g d os G) {Γ : Ctx} {c : Code} {hd : Option Value} {p : Pos} {T : KT} {m k : Nat} {L : Log} {r : Result} {T' : KT} {m' k' : Nat} {L' : Log} (e : goCall G Γ c hd p T m k L = some (r, T', m', k', L'))
    {h : Heap} (D : RepT prog w h T m L) {R : Result → Shared → Prop} (post : ∀ h', RepT prog w h' T' m' L' → FrT T h T' h' → R r ⟨h', g, d, k', os⟩) : wpCode (model prog w) (Γ.enter c hd p) R p ⟨h, g, d, k, os⟩ := by
  unfold goCall at e
  split at e
  · split at e
    · rename_i hh
      split at e
      · rename_i x hx
        obtain rfl : x = _ := Option.some.inj e
        obtain ⟨f, a, rfl, v, rfl, H⟩ := hook_sound (prog := prog) (w := w) (g := g) (d := d) (os := os) hx D
        have := H (aroundG Γ) (fun v s' => R (.ok (.ret v)) s') (fun e s' => R (.error e) s') hh post Γ p (in_aroundG Γ)
        unfold call at this
        rw [Sem.wp_runValue] at this
        refine wpCode_mono (fun r s' hr => ?_) this
        cases r with
        | error e => exact hr
        | ok fl => cases fl <;> first | exact hr | exact hr.elim
      · exact code_ok hG rfl e D post
    · exact code_ok hG rfl e D post
  · exact code_ok hG rfl e D post

theorem go_ok (n : Nat) : GoOK prog w g d os (go ⟨prog, w.params⟩ n) := by
  induction n with
  | zero => intro Γ p t T m k L r T' m' k' L' e; rw [go_zero] at e; cases e
  | succ n ih =>
    intro Γ p t T m k L r T' m' k' L' e h D R post
    rw [go_succ] at e
    unfold goStep at e
    cases t with
    | pure fin =>
      cases fin with
      | done f =>
        cases e
        rw [Sem.wp_pure]
        exact post h D (FrT.refl _ _)
      | again c =>
        simp only at e
        rw [quietF_eq] at e
        cases hq : c.quiet with
        | false => rw [hq] at e; cases e
        | true =>
          rw [hq] at e
          rw [Sem.wp_pure]
          exact ⟨hq, code_ok ih (Γ := Γ.goto c) rfl e D post⟩
    | raise x => cases e; rw [Sem.wp_raise]; exact post h D (FrT.refl _ _)
    | rule tag f => rw [Sem.wp_rule]; exact ih _ _ _ _ _ _ _ _ _ _ _ _ e h D R post
    | «at» q f => rw [Sem.wp_at]; exact ih _ _ _ _ _ _ _ _ _ _ _ _ e h D R post
    | load a part f =>
      simp only at e
      cases eo : T.get a with
      | none => rw [eo] at e; cases e
      | some o =>
        rw [eo] at e
        rw [Sem.wp_load]
        exact ⟨o, D.obj _ _ eo, ih _ _ _ _ _ _ _ _ _ _ _ _ e h D R post⟩
    | update a part f kk =>
      simp only at e
      cases eo : T.get a with
      | none => rw [eo] at e; cases e
      | some o =>
        rw [eo] at e
        simp only at e
        cases ef : (f o).isFreed with
        | true => rw [ef] at e; cases e
        | false =>
          rw [ef] at e
          rw [Sem.wp_update]
          have z := D.update eo ef
          refine ⟨by rw [D.obj _ _ eo]; rfl, ih _ _ _ _ _ _ _ _ _ _ _ _ e _ z.1 R fun h' D' F' => post h' D' (z.2.trans F')⟩
    | loadIfAlive a f =>
      simp only at e
      cases eo : T.get a with
      | none => rw [eo] at e; cases e
      | some o =>
        rw [eo] at e
        rw [Sem.wp_loadIfAlive]
        show Sem.wp _ _ (f (h.get? a)) _ _ _ _
        rw [D.obj _ _ eo]
        exact ih _ _ _ _ _ _ _ _ _ _ _ _ e h D R post
    | point l f => rw [Sem.wp_point]; exact ih _ _ _ _ _ _ _ _ _ _ _ _ e h D R post
    | alloc o f =>
      simp only at e
      cases ef : o.isFreed with
      | true => rw [ef] at e; cases e
      | false =>
        rw [ef] at e
        simp only at e
        cases em : Nat.blt m 900000 with
        | false => rw [em] at e; cases e
        | true =>
          rw [em] at e
          rw [Sem.wp_alloc]
          have lm : m < 900000 := Nat.le_of_ble_eq_true em
          have z := D.alloc ef (by omega)
          show Sem.wp _ _ (f h.objs.size) _ _ _ _
          rw [D.size]
          exact ih _ _ _ _ _ _ _ _ _ _ _ _ e _ z.1 R fun h' D' F' => post h' D' (z.2.trans F')
    | fresh f => rw [Sem.wp_fresh]; exact ih _ _ _ _ _ _ _ _ _ _ _ _ e h D R post
    | ask f => rw [Sem.wp_ask]; exact ih _ _ _ _ _ _ _ _ _ _ _ _ e h D R post
    | handled own f =>
      rw [Sem.wp]
      cases own with
      | true => exact ih _ _ _ _ _ _ _ _ _ _ _ _ e h D R post
      | false => exact ih _ _ _ _ _ _ _ _ _ _ _ _ e h D R post
    | stack f => rw [Sem.wp]; exact ih _ _ _ _ _ _ _ _ _ _ _ _ e h D R post
    | thread f => rw [Sem.wp]; exact ih _ _ _ _ _ _ _ _ _ _ _ _ e h D R post
    | call c hd gd lv f =>
      simp only at e
      split at e
      · rename_i r₁ T₁ m₁ k₁ L₁ e₁
        rw [Sem.wp]
        refine call_ok ih e₁ D fun h₁ D₁ F₁ => ?_
        exact ih _ _ _ _ _ _ _ _ _ _ _ _ e h₁ D₁ R fun h' D' F' => post h' D' (F₁.trans F')
      · cases e
    | _ => cases e

/-- what is run at the level of a statement's tree -/
theorem go_flow {S : Setting} (hS : S = ⟨prog, w.params⟩) {n : Nat} {Γ : Ctx} {p : Pos} {t : Sem Flow} {T : KT} {m k : Nat} {L : Log} {f : Flow} {T' : KT} {m' k' : Nat} {L' : Log} (e : go S n Γ p (t >>= fun f => pure (.done f)) T m k L = some (.ok f, T', m', k', L'))
    {h : Heap} (D : RepT prog w h T m L) {Q : Flow → Pos → Shared → Prop} {E : Value → Pos → Shared → Prop} (post : ∀ h' p', RepT prog w h' T' m' L' → FrT T h T' h' → Q f p' ⟨h', g, d, k', os⟩) :
    Sem.wp (model prog w) Γ t Q E p ⟨h, g, d, k, os⟩ := by
  subst hS
  have := go_ok (prog := prog) (w := w) (g := g) (d := d) (os := os) n _ _ _ _ _ _ _ _ _ _ _ _ e h D (fun r s' => match r with | .ok x => x = f ∧ ∃ h', s' = ⟨h', g, d, k', os⟩ ∧ RepT prog w h' T' m' L' ∧ FrT T h T' h' | .error _ => False)
    (fun h' D' F' => ⟨rfl, h', rfl, D', F'⟩)
  rw [Sem.wp_bind'] at this
  refine Sem.wp_mono _ _ _ (fun a p' s' h' => ?_) (fun e p' s' h' => h'.elim) _ _ this
  rw [Sem.wp_pure'] at h'
  obtain ⟨rfl, h', rfl, D', F'⟩ := h'
  exact post h' p' D' F'
end
end Qu69
end

section
open PySem PySem.W PySem.W.X PySem.Calls PyProof.Rows
namespace Qu69
abbrev prg : Program := PySem.Challenge.pw_qu0069_01
noncomputable def T0 (P : Params) : KT :=
  put (put (put (put (put (put (put (put (put (put (put .nil 0 (some (boot_o_0 P))) 1 (some (boot_o_1 P))) 2 (some (boot_o_2 P))) 3 (some (boot_o_3 P))) 4 (some (boot_o_4 P))) 5 (some (boot_o_5 P))) 6 (some (boot_o_6 P))) 7 (some (boot_o_7 P))) 8 (some (boot_o_8 P))) 9 (some (boot_o_9 P))) 10 (some (boot_o_10 P))
abbrev G0 : Ctx := ⟨.builtin "claim.caller" {}, none, none, [], none⟩
end Qu69
end

section
open PySem PySem.W PySem.W.X PySem.Calls PyProof.Rows PyProof.V
namespace Qu69
section
variable {prog : Program} {w : World} {A : Around} {E : Value → Shared → Prop} {s : Shared}

noncomputable def encP (ps : List (Int × Str)) : List (PyData × PyData) := ps.map fun p => (.int p.1, .str p.2)
structure CP (prog : Program) (w : World) (p : Int × Str) (kv : Sem Value × Sem Value) : Prop where
  k : ∀ (A : Around) (E : Value → Shared → Prop) (s : Shared) (Q : Value → Shared → Prop), (∀ t tk, Q (.int p.1 t) { s with toks := tk }) → wpAny (model prog w) A kv.1 Q E s
  v : ∀ (A : Around) (E : Value → Shared → Prop) (s : Shared) (Q : Value → Shared → Prop), (∀ t tk, Q (.str p.2 t) { s with toks := tk }) → wpAny (model prog w) A kv.2 Q E s
inductive CPs (prog : Program) (w : World) : List (Int × Str) → List (Sem Value × Sem Value) → Prop
  | nil : CPs prog w [] []
  | cons {p : Int × Str} {kv : Sem Value × Sem Value} {ps : List (Int × Str)} {kvs : List (Sem Value × Sem Value)} : CP prog w p kv → CPs prog w ps kvs → CPs prog w (p :: ps) (kv :: kvs)
theorem CPs.length : ∀ {ps : List (Int × Str)} {kvs : List (Sem Value × Sem Value)}, CPs prog w ps kvs → ps.length = kvs.length
  | _, _, .nil => rfl
  | _, _, .cons _ r => congrArg Nat.succ r.length
theorem CPs.snoc : ∀ {ps : List (Int × Str)} {kvs : List (Sem Value × Sem Value)} {p : Int × Str} {kv : Sem Value × Sem Value}, CPs prog w ps kvs → CP prog w p kv → CPs prog w (ps ++ [p]) (kvs ++ [kv])
  | _, _, _, _, .nil, h => .cons h .nil
  | _, _, _, _, .cons a r, h => .cons a (r.snoc h)

theorem flat_append {enc : Int → PyData} : ∀ {a b : List (Int × Value)} {x y : List (PyData × PyData)}, FlatPairs enc a x → FlatPairs enc b y → FlatPairs enc (a ++ b) (x ++ y)
  | _, _, _, _, .nil, h => h
  | _, _, _, _, .cons f r, h => .cons f (flat_append r h)
theorem flat_keys : ∀ {kvs : List (Int × Value)} {ps : List (Int × Str)}, FlatPairs PyData.int kvs (encP ps) → kvs.map (·.1) = ps.map (·.1)
  | [], [], _ => rfl
  | [], _ :: _, h => by cases h
  | _ :: _, [], h => by cases h
  | (k, v) :: kvs, (i, x) :: ps, h => by
    have h' : FlatPairs PyData.int ((k, v) :: kvs) ((.int i, .str x) :: encP ps) := h
    cases h' with
    | cons f r => rw [List.map_cons, List.map_cons, flat_keys r]

theorem evalPairs_const : ∀ {ps : List (Int × Str)} {pairs : List (Sem Value × Sem Value)} {s : Shared} {Q : List (Value × Value) → Shared → Prop}, CPs prog w ps pairs →
    (∀ vs kvs tk, Carries (intKind prog w) vs kvs → FlatPairs PyData.int kvs (encP ps) → Q vs { s with toks := tk }) → wpAny (model prog w) A (evalPairs pairs) Q E s
  | _, _, s, Q, .nil, q => evalPairs_nil (q [] [] s.toks trivial .nil)
  | (i, x) :: ps, (k, v) :: r, s, Q, .cons c cs, q => by
    refine evalPairs_cons (c.k _ _ _ _ fun t tk => c.v _ _ _ _ fun t' tk' => evalPairs_const cs fun vs kvs tk'' hc hf => ?_)
    exact q ((.int i t, .str x t') :: vs) ((i, .str x t') :: kvs) tk'' ⟨intKind_is _ _ _ _, rfl, hc⟩ (.cons (.str _ _) hf)

theorem long_const {d : Addr} : ∀ {ps : List (Int × Str)} {pairs : List (Sem Value × Sem Value)} {acc : List (Int × Value)} {s : Shared} {Q : PUnit → Shared → Prop}, CPs prog w ps pairs → s.heap.DictOf (intKind prog w) d acc → acc.length + ps.length ≤ sizeLine →
    (∀ h' kvs tk, Heap.SameBut d s.heap h' → h'.DictOf (intKind prog w) d (merged acc kvs) → FlatPairs PyData.int kvs (encP ps) → Q PUnit.unit { s with heap := h', toks := tk }) →
    wpAny (model prog w) A (forIn pairs PUnit.unit fun (x : Sem Value × Sem Value) (_ : PUnit) => (do let kv ← x.1; let vv ← holding [kv] x.2; holding [kv, vv] (dictSet d kv vv); pure (ForInStep.yield PUnit.unit) : Sem (ForInStep PUnit))) Q E s
  | _, _, acc, s, Q, .nil, hd, _, q => by
    rw [List.forIn_nil]
    exact wpAny_pure (q s.heap [] s.toks (Heap.SameBut.refl _ _) (by simpa [merged] using hd) .nil)
  | (i, x) :: ps, (k, v) :: r, acc, s, Q, .cons c cs, hd, hl, q => by
    rw [List.length_cons] at hl
    rw [List.forIn_cons]
    refine wpAny_bind (wpAny_bind (c.k _ _ _ _ fun t tk => wpAny_bind (wpAny_holding (c.v _ _ _ _ fun t' tk' => wpAny_bind (wpAny_holding (wpAny_dictSet_pairs (s := { s with toks := tk' }) (hsz := by omega) (intKind_is _ _ _ _) hd fun h₁ hd₁ hs₁ => wpAny_pure ?_))))))
    refine long_const (s := { s with heap := h₁, toks := tk' + 1 }) cs hd₁ (by have e : (stored acc (i, x).1 (Value.str (i, x).2 t')).length ≤ acc.length + 1 := stored_length_le _ _ _; omega) fun h' kvs tk'' hs' hd' hf => ?_
    exact q h' ((i, .str x t') :: kvs) tk'' (hs₁.trans hs') (by simpa [merged] using hd') (.cons (.str _ _) hf)

theorem subDict_const {ps : List (Int × Str)} {pairs : List (Sem Value × Sem Value)} {Q : Addr → Shared → Prop} (hc : CPs prog w ps pairs) (hn : (ps.map (·.1)).Nodup) (hl : ps.length ≤ 1000)
    (q : ∀ h' kvs tk, h'.objs.size = s.heap.objs.size + 1 → (∀ b o, s.heap.get? b = some o → h'.get? b = some o) → h'.DictOf (intKind prog w) s.heap.objs.size kvs → FlatPairs PyData.int kvs (encP ps) → Q s.heap.objs.size { s with heap := h', toks := tk }) :
    wpAny (model prog w) A (subDict pairs) Q E s := by
  have fin : ∀ h' kvs tk, Heap.SameBut s.heap.objs.size (s.heap.push { cls := .type "dict", data := .dict #[] }) h' → h'.DictOf (intKind prog w) s.heap.objs.size (merged [] kvs) → FlatPairs PyData.int kvs (encP ps) → Q s.heap.objs.size { s with heap := h', toks := tk } := by
    intro h' kvs tk hs hd hf
    rw [merged_nil_of_nodup kvs (by rw [flat_keys hf]; exact hn)] at hd
    exact q h' kvs tk (hs.1.trans (Heap.size_push ..)) (fun b o e => (hs.2 b (Nat.ne_of_lt (Heap.lt_size e))).trans (Heap.get?_push_of_some _ e)) hd hf
  unfold subDict
  refine wpAny_bind (wpAny_alloc ?_)
  refine wpAny_bind (wpAny_holding ?_)
  by_cases h15 : pairs.length ≤ 15
  · rw [if_pos h15]
    refine wpAny_bind (evalPairs_const hc fun vs kvs tk hcar hf => ?_)
    refine wpAny_holding ?_
    have hlen : ([] : List (Int × Value)).length + kvs.length ≤ sizeLine := by
      have e := hf.length
      rw [sizeLine_eq, List.length_nil]; simp only [encP, List.length_map] at e; omega
    exact wpAny_bind (wpAny_storeAll (knd := intKind prog w) vs kvs [] _ _ hcar (Heap.DictOf.new s.heap) hlen fun h' hm' hs' => wpAny_pure (wpAny_pure (fin h' kvs _ hs' hm' hf)))
  · rw [if_neg h15]
    refine wpAny_bind (wpAny_rule ?_)
    refine wpAny_bind (long_const (acc := []) hc (Heap.DictOf.new s.heap) (by rw [sizeLine_eq, List.length_nil]; omega) fun h' kvs tk hs' hm' hf => wpAny_pure (wpAny_pure (fin h' kvs _ hs' hm' hf)))

theorem dictPut_pairs {d : Addr} {kvs : List (Int × Value)} {k : Int} {key v : Value} {Q : Unit → Shared → Prop} (hkey : (intKind prog w).is k key = true) (hm : s.heap.DictOf (intKind prog w) d kvs) (hnot : k ∉ kvs.map (·.1))
    (hQ : ∀ h', h'.DictOf (intKind prog w) d (stored kvs k v) → Heap.SameBut d s.heap h' → Q () { s with heap := h' }) (hsz : kvs.length ≤ sizeLine) :
    wpAny (model prog w) A (dictPut d ((intKind prog w).hash k) key v) Q E s := by
  obtain ⟨o, es, ep, ho, hc, hd, hk, hp, hn⟩ := hm
  have hes : es.size ≤ sizeLine := by have e1 := hp.length; have e2 : es.toList.length = es.size := by simp
                                      omega
  unfold dictPut
  refine wpAny_bind (wpAny_dictFind_of hkey ho hd hk ?_)
  have hidx : (es.findIdx? fun e => (intKind prog w).is k e.key) = kvs.findIdx? fun kv => decide (kv.1 = k) := by
    rw [← hp.findIdx k]; obtain ⟨l⟩ := es; simp
  have hany : ¬ (kvs.any fun kv => decide (kv.1 = k)) = true := by
    rw [List.any_eq_true]; rintro ⟨kv, hkv, he⟩
    exact hnot (List.mem_map.mpr ⟨kv, hkv, of_decide_eq_true he⟩)
  cases hi : es.findIdx? fun e => (intKind prog w).is k e.key with
  | some i => exact absurd (any_of_findIdx_some (hidx ▸ hi)) hany
  | none =>
    refine wpAny_updateDictKeys (hz := hes) ho hd (hQ _ ⟨_, _, ep + 1, Heap.get?_update_self _ ho (Obj.isFreed_of_dict (Obj.data_mapDictKeys hd _)),
      hc.mapDictKeys _, Obj.data_mapDictKeys hd _, hk.push hkey _, ?_, ?_⟩ (Heap.SameBut.update ..))
    · rw [stored, if_neg hany]
      have := hp.append hkey ((intKind prog w).hash k) v
      obtain ⟨l⟩ := es
      simpa using this
    · rw [stored, if_neg hany, List.map_append, List.nodup_append]
      refine ⟨hn, by simp, ?_⟩
      intro a ha b hb
      simp only [List.map_cons, List.map_nil, List.mem_singleton] at hb
      subst hb
      exact fun e => hnot (e ▸ ha)
end
end Qu69
end

section
open PySem PySem.W PySem.W.X PySem.Calls PyProof.Rows PyProof.V
namespace Qu69
section
variable {prog : Program} {w : World} {A : Around} {E : Value → Shared → Prop} {s : Shared}

theorem merge_const {d a : Addr} {kvs more : List (Int × Value)} {Q : Unit → Shared → Prop} (hda : d ≠ a) (haS : (a == sysModules) = false) (hne : kvs ≠ []) (hd : s.heap.DictOf (intKind prog w) d kvs) (ha : s.heap.DictOf (intKind prog w) a more)
    (hn : ((kvs ++ more).map (·.1)).Nodup) (hsz : kvs.length + more.length ≤ sizeLine)
    (hQ : ∀ h', h'.DictOf (intKind prog w) d (kvs ++ more) → Heap.SameBut d s.heap h' → Q () { s with heap := h' }) :
    wpAny (model prog w) A (mergeMapping d (.ref a) false) Q E s := by
  obtain ⟨od, esd, epd, hod, hcd, hdd, hkd, hpd, hnd⟩ := id hd
  obtain ⟨oo, eso, epo, hoo, hco, hdo', hko, hpo, hno⟩ := id ha
  have hlen : more.length = eso.size := by rw [← hpo.length]; simp
  have hdl : kvs.length = esd.size := by rw [← hpd.length]; simp
  unfold mergeMapping
  refine wpAny_bind (wpAny_isInstance ha.typeIs isSubtype_dict_dict ?_)
  rw [if_pos rfl]
  refine wpAny_bind (wpAny_specialOf ha.typeIs F.slot_dict_iter.lookup ?_)
  refine wpAny_bind (wpAny_pure ?_)
  rw [show ((some (Value.builtin "dict.__iter__") : Option Value) == some (Value.builtin "dict.__iter__")) = true from by simp]
  dsimp only
  rw [if_neg (by rw [haS]; exact Bool.false_ne_true)]
  refine wpAny_bind (wpAny_dictEntries hod hdd ?_)
  have hemp : esd.isEmpty = false := by
    cases h : esd.isEmpty with
    | false => rfl
    | true =>
      have h0 : esd = #[] := Array.isEmpty_iff.mp h
      rw [h0] at hdl
      exact absurd (List.length_eq_zero_iff.mp hdl) hne
  rw [hemp]
  rw [if_neg Bool.false_ne_true]
  refine wpAny_bind (wpAny_dictEntries hoo hdo' ?_)
  refine wpAny_bind (wpAny_dictEpoch hoo hdo' ?_)
  refine wpAny_bind ?_
  refine wpAny_forIn_list _
      (fun rest _ s' => ∃ h' i, s' = { s with heap := h' } ∧ rest = List.range' i (eso.size - i) ∧ i ≤ eso.size ∧ h'.DictOf (intKind prog w) d (kvs ++ more.take i) ∧ h'.get? a = some oo ∧ Heap.SameBut d s.heap h')
      _ ?_ ?_ _ _ ⟨s.heap, 0, rfl, by simp [List.range_eq_range'], Nat.zero_le _, by simpa using hd, hoo, Heap.SameBut.refl _ _⟩
  · rintro x rest b s' ⟨h', i, rfl, hr, hi, hd', hoo', hs'⟩
    have hlt : i < eso.size := by
      rcases Nat.lt_or_ge i eso.size with h | h
      · exact h
      · rw [Nat.sub_eq_zero_of_le h] at hr; simp at hr
    obtain ⟨rfl, hrest⟩ : x = i ∧ rest = List.range' (i + 1) (eso.size - (i + 1)) := by
      have e : eso.size - i = (eso.size - (i + 1)) + 1 := by omega
      rw [e, List.range'_succ] at hr
      injection hr with h1 h2
      exact ⟨h1, h2⟩
    refine wpAny_bind (wpAny_dictEntries hoo' hdo' ?_)
    rw [Array.getElem?_eq_getElem hlt]
    obtain ⟨kv, hkv⟩ : ∃ kv, more[x]? = some kv := ⟨more[x]'(by rw [hlen]; exact hlt), List.getElem?_eq_getElem _⟩
    obtain ⟨k, v⟩ := kv
    obtain ⟨hkey, hval⟩ := hpo.get? (e := eso[x]) (by simp [hlt]) hkv
    obtain ⟨k', hkey', hhash⟩ := hko eso[x] (Array.getElem_mem hlt)
    obtain rfl : k' = k := (intKind prog w).inj _ _ _ hkey' hkey
    have htk : (more.take x).length ≤ more.length := by rw [List.length_take]; omega
    have hnot : k' ∉ (kvs ++ more.take x).map (·.1) := by
      have hx : x < more.length := (List.getElem?_eq_some_iff.mp hkv).1
      have e1 : kvs ++ more = (kvs ++ more.take x) ++ more.drop x := by rw [List.append_assoc, List.take_append_drop]
      have e2 : more.drop x = (k', v) :: more.drop (x + 1) := by
        rw [List.drop_eq_getElem_cons hx]
        rw [List.getElem?_eq_getElem hx] at hkv
        rw [Option.some.inj hkv]
      rw [e1, e2, List.map_append, List.nodup_append] at hn
      intro hm
      exact hn.2.2 k' hm k' (by simp) rfl
    dsimp only
    rw [if_neg Bool.false_ne_true]
    rw [hhash, hval]
    refine wpAny_bind (wpAny_holding (dictPut_pairs hkey hd' hnot (fun h'' hd'' hs'' => ?_) (by rw [List.length_append]; omega)))
    have hoo'' : h''.get? a = some oo := (hs''.2 a (Ne.symm hda)).trans hoo'
    refine wpAny_bind (wpAny_dictEpoch hoo'' hdo' ?_)
    rw [if_neg (by simp)]
    refine wpAny_pure (⟨h'', x + 1, rfl, hrest, hlt, ?_, hoo'', hs'.trans hs''⟩)
    have e3 : stored (kvs ++ more.take x) k' v = kvs ++ more.take (x + 1) := by
      have hany : ¬ ((kvs ++ more.take x).any fun kv => decide (kv.1 = k')) = true := by
        rw [List.any_eq_true]; rintro ⟨kv, hkv', he⟩
        exact hnot (List.mem_map.mpr ⟨kv, hkv', of_decide_eq_true he⟩)
      rw [stored, if_neg hany, List.take_add_one, hkv, List.append_assoc]; rfl
    rw [← e3]; exact hd''
  · rintro b s' ⟨h', i, rfl, hr, hi, hd', hoo', hs'⟩
    have hin : i = eso.size := by
      rcases Nat.lt_or_ge i eso.size with h | h
      · have e : eso.size - i = (eso.size - (i + 1)) + 1 := by omega
        rw [e, List.range'_succ] at hr; exact nomatch hr
      · exact Nat.le_antisymm hi h
    refine wpAny_pure (hQ h' ?_ hs')
    rw [hin, ← hlen, List.take_length] at hd'; exact hd'

/-- where a display stands: done pairs, objects made -/
structure DS (prog : Program) (w : World) (s₀ s' : Shared) (main : Option Addr) (done : List (Int × Str)) : Prop where
  st : ∃ h' tk j, s' = { s₀ with heap := h', toks := tk } ∧ done.length = 17 * j ∧ h'.objs.size = s₀.heap.objs.size + j ∧ (∀ b o, s₀.heap.get? b = some o → h'.get? b = some o) ∧
    (main = none ∧ j = 0 ∨ main = some s₀.heap.objs.size ∧ j ≠ 0 ∧ ∃ kvs, h'.DictOf (intKind prog w) s₀.heap.objs.size kvs ∧ FlatPairs PyData.int kvs (encP done))

noncomputable def flushT (run : List (Sem Value × Sem Value)) (main : Option Addr) : Sem (Option Addr) :=
  if run.isEmpty = true then pure main else match main with
    | none => do let d ← subDict run; pure (some d)
    | some d => do
      let sub ← holding [.ref d] (subDict run)
      let _ ← (holding [.ref d, .ref sub] (mergeMapping d (.ref sub) false)).onRaise fun x => do let _ ← holding [.ref d, x] (runValue (.builtin "proto.let_go" {}))
      pure (some d)

theorem flush_const {s₀ : Shared} {main : Option Addr} {done ps : List (Int × Str)} {run : List (Sem Value × Sem Value)} {Q : Option Addr → Shared → Prop} (hsys : sysModules < s₀.heap.objs.size) (D : DS prog w s₀ s main done) (hc : CPs prog w ps run) (hne : ps ≠ [])
    (hn : ((done ++ ps).map (·.1)).Nodup) (hl : (done ++ ps).length ≤ 1000)
    (q : ∀ h' tk j kvs, done.length = 17 * j → h'.objs.size = s₀.heap.objs.size + j + 1 → (∀ b o, s₀.heap.get? b = some o → h'.get? b = some o) → h'.DictOf (intKind prog w) s₀.heap.objs.size kvs → FlatPairs PyData.int kvs (encP (done ++ ps)) →
      Q (some s₀.heap.objs.size) { s₀ with heap := h', toks := tk }) : wpAny (model prog w) A (flushT run main) Q E s := by
  obtain ⟨h, tk, j, rfl, hj, hz, kp, hm⟩ := D.st
  have hn2 : (ps.map (·.1)).Nodup := by rw [List.map_append, List.nodup_append] at hn; exact hn.2.1
  have hl2 : ps.length ≤ 1000 := by rw [List.length_append] at hl; omega
  have hrun : run.isEmpty = false := by
    cases hc with
    | nil => exact absurd rfl hne
    | cons _ _ => rfl
  unfold flushT
  rw [hrun, if_neg Bool.false_ne_true]
  rcases hm with ⟨rfl, rfl⟩ | ⟨rfl, hj0, kvs, hd, hf⟩
  · have hdone : done = [] := List.length_eq_zero_iff.mp (by omega)
    subst hdone
    refine wpAny_bind (subDict_const hc hn2 hl2 fun h' kvs tk' z kp' hd hf => wpAny_pure ?_)
    dsimp only at z hd ⊢
    have e : h.objs.size = s₀.heap.objs.size := by omega
    rw [e] at z hd ⊢
    exact q h' tk' 0 kvs rfl z (fun b o e => kp' b o (kp b o e)) hd hf
  · refine wpAny_bind (wpAny_holding (subDict_const hc hn2 hl2 fun h' kvs' tk' z kp' hd' hf' => ?_))
    dsimp only at z hd' ⊢
    have hda : s₀.heap.objs.size ≠ h.objs.size := by rw [hz]; omega
    have haS : (h.objs.size == sysModules) = false := by
      rw [beq_eq_false_iff_ne]; have : sysModules < h.objs.size := by rw [hz]; exact Nat.lt_of_lt_of_le hsys (Nat.le_add_right _ _)
      exact Nat.ne_of_gt this
    have k1 := flat_keys hf
    have k2 := flat_keys hf'
    have hkn : kvs ≠ [] := by
      intro e; subst e
      have := hf.length
      simp only [encP, List.length_map, List.length_nil] at this; omega
    have l1 : kvs.length = done.length := by have := congrArg List.length k1; simpa using this
    have l2 : kvs'.length = ps.length := by have := congrArg List.length k2; simpa using this
    rw [List.length_append] at hl
    have hdd : h'.DictOf (intKind prog w) s₀.heap.objs.size kvs := hd.keep kp'
    refine wpAny_bind (wpAny_onRaise (wpAny_holding (merge_const hda haS hkn hdd hd' (by rw [List.map_append, k1, k2, ← List.map_append]; exact hn) (by rw [sizeLine_eq]; omega) fun h₂ hd₂ hs₂ => wpAny_pure ?_)))
    exact q h₂ tk' j (kvs ++ kvs') hj (hs₂.1.trans (by rw [z, hz])) (fun b o e => (hs₂.2 b (Nat.ne_of_lt (Heap.lt_size e))).trans (kp' b o (kp b o e))) hd₂ (by
      have e : encP (done ++ ps) = encP done ++ encP ps := by simp [encP]
      rw [e]; exact flat_append hf hf')

theorem disp_loop {s₀ : Shared} (hsys : sysModules < s₀.heap.objs.size) (f : (Option (Sem Value) × Sem Value) → (Option Addr × List (Sem Value × Sem Value)) → Sem (ForInStep (Option Addr × List (Sem Value × Sem Value))))
    (hf : ∀ (p : Sem Value × Sem Value) (main : Option Addr) (run : List (Sem Value × Sem Value)), f (some p.1, p.2) (main, run) = if ((run ++ [(p.1, p.2)]).length == 17) = true then (do let m ← flushT (run ++ [(p.1, p.2)]) main; pure (.yield (m, []))) else pure (.yield (main, run ++ [(p.1, p.2)]))) :
    ∀ (qs : List (Int × Str)) (items run : List (Sem Value × Sem Value)) (done rs : List (Int × Str)) (main : Option Addr) (s : Shared) (Q : Option Addr × List (Sem Value × Sem Value) → Shared → Prop),
      CPs prog w qs items → CPs prog w rs run → rs.length < 17 → DS prog w s₀ s main done → (((done ++ rs) ++ qs).map (·.1)).Nodup → ((done ++ rs) ++ qs).length ≤ 1000 →
      (∀ main' run' done' rs' s', CPs prog w rs' run' → rs'.length < 17 → DS prog w s₀ s' main' done' → done' ++ rs' = (done ++ rs) ++ qs → Q (main', run') s') →
      wpAny (model prog w) A (forIn (items.map fun p => (some p.1, p.2)) ((main, run) : Option Addr × List (Sem Value × Sem Value)) f) Q E s
  | _, _, run, done, rs, main, s, Q, .nil, hr, hl, D, _, _, q => by
    rw [List.map_nil, List.forIn_nil]
    exact wpAny_pure (q main run done rs s hr hl D (by simp))
  | p :: qs, kv :: items, run, done, rs, main, s, Q, .cons c cs, hr, hl, D, hn, hlen, q => by
    rw [List.map_cons, List.forIn_cons, hf kv main run]
    have hr' := hr.snoc c
    have e1 : (done ++ rs) ++ p :: qs = (done ++ (rs ++ [p])) ++ qs := by simp
    have hrl := hr'.length
    by_cases h17 : ((run ++ [(kv.1, kv.2)]).length == 17) = true
    · rw [if_pos h17]
      rw [e1] at hn hlen q
      have h17' : (rs ++ [p]).length = 17 := hrl.trans (by simpa using h17)
      refine wpAny_bind (wpAny_bind (flush_const hsys D hr' (by simp) (by rw [List.map_append, List.nodup_append] at hn; exact hn.1) (by rw [List.length_append] at hlen; omega) fun h' tk j kvs hj hz kp hd hfl => wpAny_pure ?_))
      refine disp_loop hsys f hf qs items [] (done ++ (rs ++ [p])) [] (some s₀.heap.objs.size) _ Q cs .nil (by decide) ⟨h', tk, j + 1, rfl, ?_, hz, kp, .inr ⟨rfl, by omega, kvs, hd, hfl⟩⟩ (by simpa using hn) (by simpa using hlen) (by simpa using q)
      rw [List.length_append, h17', hj]; omega
    · rw [if_neg h17]
      rw [e1] at hn hlen q
      refine wpAny_bind (wpAny_pure ?_)
      refine disp_loop hsys f hf qs items (run ++ [(kv.1, kv.2)]) done (rs ++ [p]) main s Q cs hr' ?_ D hn hlen q
      have h1 : (run ++ [(kv.1, kv.2)]).length ≠ 17 := by simpa using h17
      have h2 : (rs ++ [p]).length = (run ++ [(kv.1, kv.2)]).length := hrl
      simp only [List.length_append, List.length_cons, List.length_nil] at h1 h2 ⊢
      omega

theorem dictDisplay_const {ps : List (Int × Str)} {items : List (Sem Value × Sem Value)} {Q : Value → Shared → Prop} (hsys : sysModules < s.heap.objs.size) (hc : CPs prog w ps items) (hn : (ps.map (·.1)).Nodup) (hl : ps.length ≤ 1000) (h17 : ps.length % 17 ≠ 0) (hbig : 17 ≤ ps.length)
    (q : ∀ h' tk, h'.objs.size = s.heap.objs.size + ps.length / 17 + 1 → (∀ b o, s.heap.get? b = some o → h'.get? b = some o) → IntTab prog w h' s.heap.objs.size (encP ps) → Q (.ref s.heap.objs.size) { s with heap := h', toks := tk }) :
    wpAny (model prog w) A (dictDisplay (items.map fun p => (some p.1, p.2))) Q E s := by
  unfold dictDisplay
  refine wpAny_bind (disp_loop (s₀ := s) hsys _ (fun p main run => ?_) ps items [] [] [] none s _ hc .nil (by decide) ⟨s.heap, s.toks, 0, rfl, rfl, rfl, fun _ _ e => e, .inl ⟨rfl, rfl⟩⟩ (by simpa using hn) (by simpa using hl) fun main' run' done' rs' s' hr hlt D hd => ?_)
  · rfl
  · dsimp only
    rw [List.nil_append, List.nil_append] at hd
    have hrs : rs' ≠ [] := by
      intro e; subst e
      obtain ⟨h', tk, j, rfl, hj, _⟩ := D.st
      rw [List.append_nil] at hd
      rw [← hd, hj] at h17
      exact h17 (Nat.mul_mod_right 17 j)
    refine wpAny_bind (flush_const (s₀ := s) hsys D hr hrs (by rw [hd]; exact hn) (by rw [hd]; exact hl) fun h' tk j kvs hj hz kp hdd hfl => ?_)
    refine wpAny_pure (q h' tk ?_ kp ⟨?_, kvs, hdd, ?_⟩)
    · rw [hz]
      have : ps.length = 17 * j + rs'.length := by rw [← hd, List.length_append, hj]
      have : ps.length / 17 = j := by omega
      rw [this]
    · rw [beq_eq_false_iff_ne]; exact Nat.ne_of_gt hsys
    · rw [hd] at hfl; exact hfl
end
end Qu69
end

section
open PySem PySem.W PySem.W.X PySem.Calls PyProof.Rows
namespace Qu69
abbrev rowS : String := "special-get-raises"
abbrev wB (w : World) (b : Bool) : World := w.withFollow rowS b
noncomputable abbrev SS (w : World) (b : Bool) : Setting := ⟨prg, (wB w b).params⟩
noncomputable def benv : Env := { scope := prg.main.scope, locals := mainNs, globals := mainNs, cells := [], code := .ref 13, frame := some 14 }
abbrev asFin {α : Type} (t : Sem α) (f : α → Flow) : Sem Fin := t >>= fun a => pure (.done (f a))

/-- what a run must show -/
noncomputable def shown (r : GoR) (f : Flow → Bool) (m : Nat) : Bool := match r with
  | some (.ok fl, _, m', _, _) => f fl && Nat.beq m' m
  | _ => false
noncomputable def gT (r : GoR) : KT := match r with
  | some (_, T, _) => T
  | none => .nil
noncomputable def gK (r : GoR) : Nat := match r with
  | some (_, _, _, k, _) => k
  | none => 0
noncomputable def gL (r : GoR) : Log := match r with
  | some (_, _, _, _, L) => L
  | none => []
theorem shown_inv {r : GoR} {f : Flow → Bool} {m : Nat} (h : shown r f m = true) : ∃ fl, r = some (.ok fl, gT r, m, gK r, gL r) ∧ f fl = true := by
  unfold shown at h
  split at h
  · rename_i fl T m' k L
    rw [Bool.and_eq_true] at h
    exact ⟨fl, by rw [Nat.eq_of_beq_eq_true h.2]; rfl, h.1⟩
  · cases h
noncomputable def isNextF : Flow → Bool
  | .next => true
  | _ => false
noncomputable def isRetA (a : Nat) : Flow → Bool
  | .ret (.ref b) => Nat.beq a b
  | _ => false
theorem isNextF_inv {f : Flow} (h : isNextF f = true) : f = .next := by cases f <;> first | rfl | cases h
theorem isRetA_inv {a : Nat} {f : Flow} (h : isRetA a f = true) : f = .ret (.ref a) := by
  unfold isRetA at h
  split at h
  · rw [Nat.eq_of_beq_eq_true h]
  · cases h
theorem both {P : Bool → Bool} (h : (P true && P false) = true) (b : Bool) : P b = true := by
  rw [Bool.and_eq_true] at h
  cases b
  · exact h.2
  · exact h.1

noncomputable def topBody : List Stmt := behindTheImports prg
noncomputable def cB : Code := .body topBody benv
noncomputable abbrev GB (p : Pos) : Ctx := G0.enter cB none p
noncomputable def r1 (w : World) (b : Bool) : GoR := go (SS w b) 400 G0 default (asFin (moduleCode prg.main) .ret) (T0 (wB w b).params) 11 boot_toks []
theorem r1_ok : ∀ w, (shown (r1 w true) (isRetA 13) 14 && shown (r1 w false) (isRetA 13) 14) = true := fun w => by
  show _ = true
  kernel_rfl
noncomputable def r2 (w : World) (b : Bool) (p : Pos) : GoR := go (SS w b) 400 G0 p (asFin (newBodyFrame (.ref 13) mainNs mainNs) fun a => .ret (.ref a)) (gT (r1 w b)) 14 (gK (r1 w b)) (gL (r1 w b))
theorem r2_ok : ∀ w p, (shown (r2 w true p) (isRetA 14) 15 && shown (r2 w false p) (isRetA 14) 15) = true := fun w p => by
  show _ = true
  kernel_rfl
noncomputable def r2b (w : World) (b : Bool) (p p2 : Pos) : GoR := go (SS w b) 400 (GB p2) p2 (asFin (blockStart topBody benv) fun _ => .next) (gT (r2 w b p)) 15 (gK (r2 w b p)) (gL (r2 w b p))
theorem r2b_ok : ∀ w p p2, (shown (r2b w true p p2) isNextF 15 && shown (r2b w false p p2) isNextF 15) = true := fun w p p2 => by
  show _ = true
  kernel_rfl
noncomputable def r3 (w : World) (b : Bool) (p p2 q : Pos) : GoR := go (SS w b) 4000 (GB p2) q (asFin (execs (topBody.take 4) benv) id) (gT (r2b w b p p2)) 15 (gK (r2b w b p p2)) (gL (r2b w b p p2))
theorem r3_ok : ∀ w p p2 q, (shown (r3 w true p p2 q) isNextF 40 && shown (r3 w false p p2 q) isNextF 40) = true := fun w p p2 q => by
  show _ = true
  kernel_rfl
structure AsgP where
  x : Str
  px : Pos
  keys : List (Option Expr)
  vals : List Expr
  dp : Pos
  sp : Pos
noncomputable def asgP : Stmt → AsgP
  | .Assign [.Name x px] (.Dict ks vs dp) sp => ⟨x, px, ks, vs, dp, sp⟩
  | _ => ⟨"", ⟨0, 0, 0, 0⟩, [], [], ⟨0, 0, 0, 0⟩, ⟨0, 0, 0, 0⟩⟩
noncomputable def st4 : AsgP := asgP (topBody.getD 4 (.Pass ⟨0, 0, 0, 0⟩))
end Qu69
end

section
open PySem PySem.W PySem.W.X PySem.Calls PyProof.Rows
namespace Qu69
noncomputable def r4 (w : World) (b : Bool) (p p2 q q' : Pos) (k : Nat) : GoR := go (SS w b) 8000 (GB p2) q' (asFin (do standAt st4.px; bindName benv st4.x (.ref 40); execs (topBody.drop 5) benv) id) (gT (r3 w b p p2 q)) 79 k (gL (r3 w b p p2 q))
theorem r4_ok : ∀ w p p2 q q' k, (shown (r4 w true p p2 q q' k) isNextF 286 && shown (r4 w false p p2 q q' k) isNextF 286) = true := fun w p p2 q q' k => by
  show _ = true
  kernel_rfl
end Qu69
end

section
open PySem PySem.W PySem.W.X PySem.Calls PyProof.Rows PyProof.V
namespace Qu69

theorem go_asFin {prog : Program} {w : World} {g : Array GenState} {d : Drawn} {os : OsState} {α : Type} {S : Setting} (hS : S = ⟨prog, w.params⟩) {n : Nat} {Γ : Ctx} {p : Pos} {t : Sem α} {f : α → Flow} {T : KT} {m k : Nat} {L : Log} {fl : Flow} {T' : KT} {m' k' : Nat} {L' : Log}
    (e : go S n Γ p (asFin t f) T m k L = some (.ok fl, T', m', k', L')) {h : Heap} (D : RepT prog w h T m L) {Q : α → Pos → Shared → Prop} {E : Value → Pos → Shared → Prop}
    (post : ∀ a h' p', f a = fl → RepT prog w h' T' m' L' → FrT T h T' h' → Q a p' ⟨h', g, d, k', os⟩) : Sem.wp (model prog w) Γ t Q E p ⟨h, g, d, k, os⟩ := by
  subst hS
  have := go_ok (prog := prog) (w := w) (g := g) (d := d) (os := os) n _ _ _ _ _ _ _ _ _ _ _ _ e h D (fun r s' => match r with | .ok x => x = fl ∧ ∃ h', s' = ⟨h', g, d, k', os⟩ ∧ RepT prog w h' T' m' L' ∧ FrT T h T' h' | .error _ => False)
    (fun h' D' F' => ⟨rfl, h', rfl, D', F'⟩)
  rw [Sem.wp_bind'] at this
  refine Sem.wp_mono _ _ _ (fun a p' s' h' => ?_) (fun e p' s' h' => h'.elim) _ _ this
  rw [Sem.wp_pure'] at h'
  obtain ⟨e', h', rfl, D', F'⟩ := h'
  exact post a h' p' e' D' F'

theorem wp_execs_append {M : Model} {Γ : Ctx} {env : Env} : ∀ {a b : List Stmt} {Q : Flow → Pos → Shared → Prop} {E : Value → Pos → Shared → Prop} {p : Pos} {s : Shared},
    Sem.wp M Γ (execs a env) (fun f p' s' => match f with | .next => Sem.wp M Γ (execs b env) Q E p' s' | f => Q f p' s') E p s → Sem.wp M Γ (execs (a ++ b) env) Q E p s
  | [], b, Q, E, p, s, h => by
    have e : execs [] env = pure .next := rfl
    rw [e, Sem.wp_pure'] at h
    exact h
  | x :: a, b, Q, E, p, s, h => by
    have e1 : execs (x :: a) env = (exec x env >>= fun f => match f with | .next => execs a env | f => pure f) := rfl
    have e2 : execs (x :: a ++ b) env = (exec x env >>= fun f => match f with | .next => execs (a ++ b) env | f => pure f) := rfl
    rw [e1, Sem.wp_bind'] at h
    rw [e2, Sem.wp_bind']
    refine Sem.wp_mono _ _ _ (fun f p' s' h' => ?_) (fun _ _ _ z => z) _ _ h
    cases f with
    | next => exact wp_execs_append h'
    | _ => simp only [Sem.wp_pure'] at h' ⊢; exact h'

noncomputable def eC : Expr → Option Const
  | .Constant c _ _ => some c
  | _ => none
noncomputable def cI : Const → Option Int
  | .int i => some i
  | _ => none
noncomputable def cS : Const → Option Str
  | .str x => some x
  | _ => none
theorem none_some {α : Type} {a : α} {P : Prop} (h : (none : Option α) = some a) : P := by cases h
theorem eC_inv {e : Expr} {c : Const} (h : eC e = some c) : ∃ u p, e = .Constant c u p := by
  cases e <;> first | exact none_some h | exact Option.some.inj h ▸ ⟨_, _, rfl⟩
theorem cI_inv {c : Const} {i : Int} (h : cI c = some i) : c = .int i := by
  cases c <;> first | exact none_some h | exact congrArg Const.int (Option.some.inj h)
theorem cS_inv {c : Const} {i : Str} (h : cS c = some i) : c = .str i := by
  cases c <;> first | exact none_some h | exact congrArg Const.str (Option.some.inj h)
noncomputable def litI (k : Option Expr) : Option Int := k.bind fun e => (eC e).bind cI
noncomputable def litS (e : Expr) : Option Str := (eC e).bind cS
theorem litI_inv {k : Option Expr} {i : Int} (h : litI k = some i) : ∃ u p, k = some (.Constant (.int i) u p) := by
  obtain ⟨e, he, h1⟩ := Option.bind_eq_some_iff.mp h
  obtain ⟨c, hc, h2⟩ := Option.bind_eq_some_iff.mp h1
  obtain rfl := cI_inv h2
  obtain ⟨u, p, rfl⟩ := eC_inv hc
  exact ⟨u, p, he⟩
theorem litS_inv {k : Expr} {i : Str} (h : litS k = some i) : ∃ u p, k = .Constant (.str i) u p := by
  obtain ⟨c, hc, h1⟩ := Option.bind_eq_some_iff.mp h
  obtain rfl := cS_inv h1
  exact eC_inv hc
noncomputable def litPairs : List (Option Expr) → List Expr → Option (List (Int × Str))
  | [], vs => if vs.isEmpty = true then some [] else none
  | k :: ks, vs => vs.head?.bind fun v => (litI k).bind fun i => (litS v).bind fun x => (litPairs ks vs.tail).bind fun r => some ((i, x) :: r)
theorem litPairs_spec {prog : Program} {w : World} {env : Env} {pos : Pos} {ks : List (Option Expr)} : ∀ {vs : List Expr} {ps : List (Int × Str)}, litPairs ks vs = some ps →
    ∃ items : List (Sem Value × Sem Value), (evalEachOpt ks env).zip ((evalEach vs env).map fun v => do let x ← v; standAt pos; pure x) = items.map (fun p => (some p.1, p.2)) ∧ CPs prog w ps items := by
  induction ks with
  | nil =>
    intro vs ps h
    cases vs with
    | nil => cases h; exact ⟨[], rfl, .nil⟩
    | cons v vs => exact none_some h
  | cons k ks ih =>
    intro vs ps h
    cases vs with
    | nil => exact none_some h
    | cons v vs =>
      obtain ⟨i, hi, h1⟩ := Option.bind_eq_some_iff.mp (show (litI k).bind _ = some ps from h)
      obtain ⟨x, hx, h2⟩ := Option.bind_eq_some_iff.mp h1
      obtain ⟨r, hr, h3⟩ := Option.bind_eq_some_iff.mp h2
      obtain rfl := Option.some.inj h3
      obtain ⟨u1, p1, rfl⟩ := litI_inv hi
      obtain ⟨u2, p2, rfl⟩ := litS_inv hx
      obtain ⟨items, e, c⟩ := ih (vs := vs) hr
      refine ⟨(eval (.Constant (.int i) u1 p1) env, do let x ← eval (.Constant (.str x) u2 p2) env; standAt pos; pure x) :: items, congrArg (List.cons _) e, .cons ⟨fun A E s Q q => ?_, fun A E s Q q => ?_⟩ c⟩
      · exact wpAny_Constant_int (env := env) (k := u1) (pos := p1) (q _ _)
      · exact wpAny_bind (wpAny_Constant_str (wpAny_bind (wpAny_standAt (wpAny_pure (q s.toks (s.toks + 1))))))

noncomputable def b3P : List (Int × Str) := (litPairs st4.keys st4.vals).getD []
noncomputable def incr : Int → List (Int × Str) → Bool
  | _, [] => true
  | a, p :: r => decide (a < p.1) && incr p.1 r
theorem incr_spec : ∀ {a : Int} {l : List (Int × Str)}, incr a l = true → (∀ p ∈ l, a < p.1) ∧ (l.map (·.1)).Nodup
  | _, [], _ => ⟨fun _ h => (nomatch h), List.nodup_nil⟩
  | a, p :: r, h => by
    unfold incr at h
    simp only [Bool.and_eq_true, decide_eq_true_eq] at h
    obtain ⟨h1, h2⟩ := incr_spec h.2
    refine ⟨fun q hq => ?_, ?_⟩
    · rcases List.mem_cons.mp hq with rfl | hq
      · exact h.1
      · exact Int.lt_trans h.1 (h1 q hq)
    · rw [List.map_cons, List.nodup_cons]
      refine ⟨fun hm => ?_, h2⟩
      obtain ⟨q, hq, e⟩ := List.mem_map.mp hm
      have := h1 q hq
      omega
theorem b3P_ok : ((litPairs st4.keys st4.vals).isSome && incr 0 b3P && Nat.beq b3P.length 650) = true := by decide +kernel
theorem b3P_lit : litPairs st4.keys st4.vals = some b3P := by
  have h := b3P_ok
  simp only [Bool.and_eq_true] at h
  obtain ⟨x, hx⟩ := Option.isSome_iff_exists.mp h.1.1
  unfold b3P
  rw [hx]; rfl
theorem b3P_nodup : (b3P.map (·.1)).Nodup := by
  have h := b3P_ok
  simp only [Bool.and_eq_true] at h
  exact (incr_spec h.1.2).2
theorem b3P_len : b3P.length = 650 := by decide +kernel

section
variable {w : World} {b : Bool} {g : Array GenState} {d : Drawn} {os : OsState}

/-- what stands behind the top -/
structure Aft (w : World) (b : Bool) (h : Heap) (T : KT) (L : Log) : Prop where
  run : ∃ p p2 q q' k, T = gT (r4 w b p p2 q q' k) ∧ L = gL (r4 w b p p2 q q' k)
  rep : RepT prg (wB w b) h T 286 L
  dict : IntTab prg (wB w b) h 40 (encP b3P)

theorem put_step {h : Heap} {T : KT} {a : Nat} {x : Obj} (ha : a ≤ 1000000) (hx : h.get? a = some x) (base : ∀ i o, T.get i = some o → h.get? i = some o) : ∀ i o, (put T a (some x)).get i = some o → h.get? i = some o := by
  intro i o e
  rw [get_put ha] at e
  by_cases q : i = a
  · rw [if_pos q] at e; rw [q]; exact hx.trans e
  · rw [if_neg q] at e; exact base i o e
theorem boot_rep (w : World) : RepT prg w (boot_heap w.params) (T0 w.params) 11 [] := by
  refine ⟨by kernel_rfl, ?_, fun p hp => (nomatch hp), by decide⟩
  unfold T0
  refine put_step (a := 10) (by decide) ?b10 (put_step (a := 9) (by decide) ?b9 (put_step (a := 8) (by decide) ?b8 (put_step (a := 7) (by decide) ?b7 (put_step (a := 6) (by decide) ?b6 (put_step (a := 5) (by decide) ?b5 (put_step (a := 4) (by decide) ?b4 (put_step (a := 3) (by decide) ?b3 (put_step (a := 2) (by decide) ?b2 (put_step (a := 1) (by decide) ?b1 (put_step (a := 0) (by decide) ?b0 (fun _ _ e => by cases e)))))))))))
  all_goals kernel_rfl

theorem tb_split : topBody = topBody.take 4 ++ (.Assign [.Name st4.x st4.px] (.Dict st4.keys st4.vals st4.dp) st4.sp :: topBody.drop 5) := by kernel_rfl

theorem go_dict {keys : List (Option Expr)} {vals : List Expr} {dp : Pos} {ps : List (Int × Str)} (hl : litPairs keys vals = some ps) (hn : (ps.map (·.1)).Nodup) (hlen : ps.length = 650) {Γ : Ctx} {p2 : Pos} {h : Heap} {T : KT} {L : Log} {k : Nat} {E : Value → Pos → Shared → Prop} (D : RepT prg (wB w b) h T 40 L) {Q : Value → Pos → Shared → Prop}
    (post : ∀ h' k' p', RepT prg (wB w b) h' T 79 L → IntTab prg (wB w b) h' 40 (encP ps) → Q (.ref 40) p' ⟨h', g, d, k', os⟩) :
    Sem.wp (model prg (wB w b)) Γ (eval (.Dict keys vals dp) benv) Q E p2 ⟨h, g, d, k, os⟩ := by
  obtain ⟨items, e, c⟩ := litPairs_spec (prog := prg) (w := wB w b) (env := benv) (pos := dp) hl
  have hz := D.size
  rw [arm_eval_Dict, e, Sem.wp_bind', Sem.wp_cmd_standAt]
  refine Sem.wp_mono _ _ _ (fun a p' s' h' => ?_) (fun e p' s' h' => h'.elim) _ _ (dictDisplay_const (s := ⟨h, g, d, k, os⟩) (A := aroundG Γ) (E := fun _ _ => False)
    (Q := fun v s' => v = .ref 40 ∧ ∃ h' k', s' = ⟨h', g, d, k', os⟩ ∧ RepT prg (wB w b) h' T 79 L ∧ IntTab prg (wB w b) h' 40 (encP ps)) (by show sysModules < h.objs.size; rw [hz]; decide) c hn (by omega) (by rw [hlen]; decide) (by omega) (fun h' k' z kp t => ?_) Γ dp (in_aroundG Γ))
  · obtain ⟨rfl, h', k', rfl, D', t⟩ := h'
    exact post h' k' p' D' t
  · dsimp only at z kp t ⊢
    rw [hz] at z t ⊢
    have z' : h'.objs.size = 79 := by rw [z, hlen]
    exact ⟨rfl, h', k', rfl, (D.grow z' (by omega) kp (fun _ _ => rfl) (fun b o hb e => by rw [D.fresh hb] at e; cases e) (fun p hp => .inl hp)).1, t⟩

end
end Qu69
end

section
open PySem PySem.W PySem.W.X PySem.Calls PyProof.Rows PyProof.V
namespace Qu69
theorem r1_go (w : World) (b : Bool) : go (SS w b) 400 G0 default (asFin (moduleCode prg.main) .ret) (T0 (wB w b).params) 11 boot_toks [] = r1 w b := rfl
theorem r2_go (w : World) (b : Bool) (p : Pos) : go (SS w b) 400 G0 p (asFin (newBodyFrame (.ref 13) mainNs mainNs) fun a => .ret (.ref a)) (gT (r1 w b)) 14 (gK (r1 w b)) (gL (r1 w b)) = r2 w b p := rfl
theorem r2b_go (w : World) (b : Bool) (p p2 : Pos) : go (SS w b) 400 (GB p2) p2 (asFin (blockStart topBody benv) fun _ => .next) (gT (r2 w b p)) 15 (gK (r2 w b p)) (gL (r2 w b p)) = r2b w b p p2 := rfl
theorem r3_go (w : World) (b : Bool) (p p2 q : Pos) : go (SS w b) 4000 (GB p2) q (asFin (execs (topBody.take 4) benv) id) (gT (r2b w b p p2)) 15 (gK (r2b w b p p2)) (gL (r2b w b p p2)) = r3 w b p p2 q := rfl
theorem r4_go (w : World) (b : Bool) (p p2 q q' : Pos) (k : Nat) : go (SS w b) 8000 (GB p2) q' (asFin (do standAt st4.px; bindName benv st4.x (.ref 40); execs (topBody.drop 5) benv) id) (gT (r3 w b p p2 q)) 79 k (gL (r3 w b p p2 q)) = r4 w b p p2 q q' k := rfl
theorem exec_dict {env : Env} {x : Str} {px dp sp : Pos} {keys : List (Option Expr)} {vals : List Expr} : exec (.Assign [.Name x px] (.Dict keys vals dp) sp) env = (do
    standAt sp
    let v ← eval (.Dict keys vals dp) env
    standAt px
    bindName env x v
    pure .next) := exec_Assign_Name env x px (.Dict keys vals dp) sp rfl

/-- Sem.wp under a lid -/
structure WP (M : Model) (Γ : Ctx) {α : Type} (t : Sem α) (Q : α → Pos → Shared → Prop) (E : Value → Pos → Shared → Prop) (p : Pos) (s : Shared) : Prop where
  out : Sem.wp M Γ t Q E p s
section
variable {M : Model} {Γ : Ctx} {α β : Type} {E : Value → Pos → Shared → Prop} {p : Pos} {s : Shared}
theorem WP.bind {t : Sem α} {f : α → Sem β} {Q : β → Pos → Shared → Prop} (h : WP M Γ t (fun a p' s' => WP M Γ (f a) Q E p' s') E p s) : WP M Γ (t >>= f) Q E p s :=
  ⟨(Sem.wp_bind' M Γ t f Q E p s).mpr (Sem.wp_mono M Γ t (fun _ _ _ x => x.out) (fun _ _ _ x => x) p s h.out)⟩
theorem WP.mono {t : Sem α} {Q Q' : α → Pos → Shared → Prop} {E' : Value → Pos → Shared → Prop} (h : WP M Γ t Q E p s) (q : ∀ a p' s', Q a p' s' → Q' a p' s') (e : ∀ a p' s', E a p' s' → E' a p' s') : WP M Γ t Q' E' p s :=
  ⟨Sem.wp_mono M Γ t q e p s h.out⟩
theorem WP.unbind {t : Sem α} {f : α → Sem β} {Q : β → Pos → Shared → Prop} (h : WP M Γ (t >>= f) Q E p s) : WP M Γ t (fun a p' s' => WP M Γ (f a) Q E p' s') E p s :=
  ⟨Sem.wp_mono M Γ t (fun _ _ _ x => ⟨x⟩) (fun _ _ _ x => x) p s ((Sem.wp_bind' M Γ t f Q E p s).mp h.out)⟩
theorem WP.pure {a : α} {Q : α → Pos → Shared → Prop} (h : Q a p s) : WP M Γ (Pure.pure a) Q E p s := ⟨by rw [Sem.wp_pure']; exact h⟩
theorem WP.standAt {p' : Pos} {Q : Unit → Pos → Shared → Prop} (h : Q () p' s) : WP M Γ (standAt p') Q E p s := ⟨by rw [Sem.wp_cmd_standAt]; exact h⟩
theorem WP.onRaise {t : Sem α} {f : Value → Sem Unit} {Q : α → Pos → Shared → Prop} (h : WP M Γ t Q (fun _ _ _ => False) p s) : WP M Γ (t.onRaise f) Q E p s :=
  ⟨by rw [Sem.wp_onRaise]; exact Sem.wp_mono M Γ t (fun _ _ _ x => x) (fun _ _ _ x => x.elim) p s h.out⟩
theorem WP.run {c : Code} {Q : Flow → Pos → Shared → Prop} (h : WP M (Γ.enter c none p) (M.den c) (fun fin p' s' => ∃ f, fin = .done f ∧ Q f p s') (fun _ _ _ => False) p s) : WP M Γ (run c) Q E p s := by
  refine ⟨?_⟩
  rw [Sem.wp_run, wpCode_iff_wp]
  refine Sem.wp_mono M _ _ (fun fin p' s' x => ?_) (fun _ _ _ x => x.elim) p s h.out
  obtain ⟨f, rfl, q⟩ := x
  exact q
theorem WP.append {env : Env} : ∀ {a b : List Stmt} {Q : Flow → Pos → Shared → Prop} {p : Pos} {s : Shared},
    WP M Γ (execs a env) (fun f p' s' => f = .next ∧ WP M Γ (execs b env) Q E p' s') E p s → WP M Γ (execs (a ++ b) env) Q E p s
  | [], b, Q, p, s, h => by
    have e : execs [] env = Pure.pure .next := rfl
    rw [e] at h
    have h := h.out
    rw [Sem.wp_pure'] at h
    exact h.2
  | x :: a, b, Q, p, s, h => by
    have e1 : execs (x :: a) env = (exec x env >>= fun f => match f with | .next => execs a env | f => Pure.pure f) := rfl
    have e2 : execs (x :: a ++ b) env = (exec x env >>= fun f => match f with | .next => execs (a ++ b) env | f => Pure.pure f) := rfl
    have h := h.out
    rw [e1, Sem.wp_bind'] at h
    rw [e2]
    refine ⟨?_⟩
    rw [Sem.wp_bind']
    refine Sem.wp_mono M Γ _ (fun f p' s' h' => ?_) (fun _ _ _ z => z) p s h
    cases f with
    | next => exact (WP.append ⟨h'⟩).out
    | _ => simp only [Sem.wp_pure'] at h'; exact absurd h'.1 (by simp)
end

section
variable {prog : Program} {w : World} {g : Array GenState} {d : Drawn} {os : OsState} {n : Nat} {Γ : Ctx} {p : Pos} {T : KT} {m k : Nat} {L : Log} {fl : Flow} {T' : KT} {m' k' : Nat} {L' : Log}
theorem WP.go {α : Type} {t : Sem α} {f : α → Flow} (e : go ⟨prog, w.params⟩ n Γ p (asFin t f) T m k L = some (.ok fl, T', m', k', L')) {h : Heap} (D : RepT prog w h T m L) {Q : α → Pos → Shared → Prop} {E : Value → Pos → Shared → Prop}
    (post : ∀ a h' p', f a = fl → RepT prog w h' T' m' L' → FrT T h T' h' → Q a p' ⟨h', g, d, k', os⟩) : WP (model prog w) Γ t Q E p ⟨h, g, d, k, os⟩ := ⟨go_asFin rfl e D post⟩
theorem WP.goNext {t : Sem Flow} (e : Qu69.go ⟨prog, w.params⟩ n Γ p (asFin t id) T m k L = some (.ok fl, T', m', k', L')) (hf : isNextF fl = true) {h : Heap} (D : RepT prog w h T m L) {Q : Flow → Pos → Shared → Prop} {E : Value → Pos → Shared → Prop}
    (post : ∀ h' p', RepT prog w h' T' m' L' → FrT T h T' h' → Q .next p' ⟨h', g, d, k', os⟩) : WP (model prog w) Γ t Q E p ⟨h, g, d, k, os⟩ := by
  refine WP.go e D fun a h' p' ha D' F' => ?_
  have : a = .next := Eq.trans ha (isNextF_inv hf)
  subst this
  exact post h' p' D' F'
end

section
variable {w : World} {b : Bool} {g : Array GenState} {d : Drawn} {os : OsState}
theorem WP.dict {keys : List (Option Expr)} {vals : List Expr} {dp : Pos} {ps : List (Int × Str)} (hl : litPairs keys vals = some ps) (hn : (ps.map (·.1)).Nodup) (hlen : ps.length = 650) {Γ : Ctx} {p2 : Pos} {h : Heap} {T : KT} {L : Log} {k : Nat} {E : Value → Pos → Shared → Prop} (D : RepT prg (wB w b) h T 40 L) {Q : Value → Pos → Shared → Prop}
    (post : ∀ h' k' p', RepT prg (wB w b) h' T 79 L → IntTab prg (wB w b) h' 40 (encP ps) → Q (.ref 40) p' ⟨h', g, d, k', os⟩) :
    WP (model prg (wB w b)) Γ (eval (.Dict keys vals dp) benv) Q E p2 ⟨h, g, d, k, os⟩ := ⟨go_dict hl hn hlen D post⟩
theorem top_wp {R : Flow → Shared → Prop} {E : Value → Pos → Shared → Prop} (post : ∀ h' k' T L, Aft w b h' T L → R (.ret .none) ⟨h', g, d, k', os⟩) :
    WP (model prg (wB w b)) G0 (topStub prg).cur (fun fin _ s' => ∃ f, fin = .done f ∧ R f s') E default ⟨boot_heap (wB w b).params, g, d, boot_toks, os⟩ := by
  show WP _ _ (moduleCode prg.main >>= fun code => newBodyFrame code mainNs mainNs >>= fun frame => run (.body topBody { scope := prg.main.scope, locals := mainNs, globals := mainNs, cells := [], code, frame := some frame }) >>= fun _ => ret .none) _ _ _ _
  obtain ⟨f1, e1, i1⟩ := shown_inv (both (P := fun b => shown (r1 w b) (isRetA 13) 14) (r1_ok w) b)
  refine WP.bind (WP.go ((r1_go w b).trans e1) (boot_rep (wB w b)) fun a h1 p1 ha D1 F1 => ?_)
  rw [isRetA_inv i1] at ha
  cases ha
  obtain ⟨f2, e2, i2⟩ := shown_inv (both (P := fun b => shown (r2 w b p1) (isRetA 14) 15) (r2_ok w p1) b)
  refine WP.bind (WP.go ((r2_go w b p1).trans e2) D1 fun a h2 p2 ha D2 F2 => ?_)
  rw [isRetA_inv i2] at ha
  cases ha
  refine WP.bind (WP.run ?_)
  show WP _ (GB p2) (blockStart topBody benv >>= fun _ => ((execs topBody benv).onRaise (leaving benv) >>= fun f => pure (Fin.done f))) _ _ _ _
  obtain ⟨f2b, e2b, i2b⟩ := shown_inv (both (P := fun b => shown (r2b w b p1 p2) isNextF 15) (r2b_ok w p1 p2) b)
  refine WP.bind (WP.go ((r2b_go w b p1 p2).trans e2b) D2 fun a h2b p2b ha D2b F2b => ?_)
  refine WP.bind (WP.onRaise ?_)
  rw [tb_split]
  obtain ⟨f3, e3, i3⟩ := shown_inv (both (P := fun b => shown (r3 w b p1 p2 p2b) isNextF 40) (r3_ok w p1 p2 p2b) b)
  refine WP.append (WP.goNext ((r3_go w b p1 p2 p2b).trans e3) i3 D2b fun h3 p3 D3 F3 => ⟨rfl, ?_⟩)
  show WP _ (GB p2) (exec (.Assign [.Name st4.x st4.px] (.Dict st4.keys st4.vals st4.dp) st4.sp) benv >>= fun f => match f with | .next => execs (topBody.drop 5) benv | f => pure f) _ _ _ _
  rw [exec_dict]
  refine WP.bind (WP.bind (WP.standAt (WP.bind (WP.dict b3P_lit b3P_nodup b3P_len D3 fun h4 k4 p4 D4 t4 => ?_))))
  obtain ⟨f5, e5, i5⟩ := shown_inv (both (P := fun b => shown (r4 w b p1 p2 p2b p4 k4) isNextF 286) (r4_ok w p1 p2 p2b p4 k4) b)
  have key : WP (model prg (wB w b)) (GB p2) (standAt st4.px >>= fun _ => bindName benv st4.x (.ref 40) >>= fun _ => execs (topBody.drop 5) benv) (fun f _ s' => f = .next ∧ ∃ h' k' T L, s' = ⟨h', g, d, k', os⟩ ∧ Aft w b h' T L) (fun _ _ _ => False) p4 ⟨h4, g, d, k4, os⟩ := by
    refine WP.goNext ((r4_go w b p1 p2 p2b p4 k4).trans e5) i5 D4 fun h5 p5 D5 F5 => ⟨rfl, h5, _, _, _, rfl, ⟨_, _, _, _, _, rfl, rfl⟩, D5, ?_⟩
    obtain ⟨lo, kvs, ⟨o, es, ep, ho, rest⟩, hfl⟩ := t4
    exact ⟨lo, kvs, ⟨o, es, ep, (F5 40 o (D3.fresh (Nat.le_refl _)) ho).2, rest⟩, hfl⟩
  refine WP.bind (WP.mono (WP.unbind key) (fun _ p5 s5 k5 => WP.bind (WP.mono (WP.unbind k5) (fun _ p6 s6 k6 => WP.pure ?_) fun _ _ _ x => x.elim)) fun _ _ _ x => x.elim)
  show WP _ (GB p2) (execs (topBody.drop 5) benv) _ _ _ _
  refine WP.mono k6 (fun f p7 s7 hf => ?_) fun _ _ _ x => x.elim
  obtain ⟨rfl, h', k', T, L, rfl, A⟩ := hf
  refine WP.pure ⟨.next, rfl, ?_⟩
  show WP _ _ (Pure.pure (Fin.done (.ret .none))) _ _ _ _
  exact WP.pure ⟨_, rfl, post h' k' T L A⟩
end
end Qu69
end

section
open PySem PySem.W PySem.W.X PySem.Calls PyProof.Rows PyProof.V
namespace Qu69

noncomputable def isDoneS : Step → Bool
  | .halt (.done _) _ => true
  | _ => false
theorem nds_ite {p : Prop} [Decidable p] {x y : Step} (hx : isDoneS x = false) (hy : isDoneS y = false) : isDoneS (if p then x else y) = false := by
  by_cases h : p
  · rw [if_pos h]; exact hx
  · rw [if_neg h]; exact hy
theorem ff_tt {P : Prop} (a : false = true) : P := by cases a
theorem step_through {den : Code → Sem Fin} {prog : Program} {w : World} {s s' : Shared} {t : Thread} {f : Flow} (h : step den prog w s t = .halt (.done f) s') : through t = true := by
  replace h : isDoneS (step den prog w s t) = true := by rw [h]; rfl
  obtain ⟨heap, gens, drawn, toks, os⟩ := s
  obtain ⟨cur, code, pos, stack⟩ := t
  cases cur
  case pure fin =>
    cases fin
    case again c => exact ff_tt h
    case done f =>
      cases stack with
      | nil => rfl
      | cons fr r => cases fr <;> exact ff_tt h
  case «raise» e =>
    cases stack with
    | nil => exact ff_tt ((nds_ite (p := leftWithCleanup gens = true) rfl rfl).symm.trans h)
    | cons fr r => cases fr <;> exact ff_tt h
  case finish e => exact ff_tt ((nds_ite (p := leftWithCleanup gens = true) rfl rfl).symm.trans h)
  case load a r k =>
    unfold step at h
    dsimp only at h
    generalize heap.get? a = x at h
    cases x <;> exact ff_tt h
  case update a r f k => exact ff_tt ((nds_ite (p := (heap.get? a).isSome = true) rfl rfl).symm.trans h)
  case choose src n k => exact ff_tt ((nds_ite (p := n = 0) rfl rfl).symm.trans h)
  case genState g k =>
    unfold step at h
    dsimp only at h
    generalize gens[g]? = x at h
    cases x <;> exact ff_tt h
  case resume g r l k =>
    unfold step at h
    dsimp only at h
    generalize gens[g]? = x at h
    cases x with
    | none => exact ff_tt h
    | some st =>
      cases st
      case fresh c =>
        cases r with
        | send v => cases v <;> exact ff_tt h
        | throw e => exact ff_tt h
      all_goals exact ff_tt h
  case yield v g0 l kk =>
    unfold step at h
    dsimp only at h
    generalize splitAtGen stack = x at h
    cases x <;> exact ff_tt h
  all_goals exact ff_tt h

theorem run_through {den : Code → Sem Fin} {prog : Program} {w : World} : ∀ {n : Nat} {s : Shared} {t : Thread} {f : Flow} {s'' : Shared}, PySem.runN den prog w n s t = .halted (.done f) s'' →
    ∃ m t₁, PySem.runN den prog w m s t = .running s'' t₁ ∧ through t₁ = true
  | 0, _, _, _, _, h => by cases h
  | n + 1, s, t, f, s'', h => by
    simp only [PySem.runN] at h
    cases hs : step den prog w s t with
    | go s₂ t₂ =>
      simp only [hs] at h
      obtain ⟨m, t₁, e, ht⟩ := run_through h
      exact ⟨m + 1, t₁, by simp only [PySem.runN, hs]; exact e, ht⟩
    | halt o s₂ =>
      simp only [hs] at h
      injection h with h1 h2
      subst h1 h2
      have e := step_halt_same den prog w s s₂ t _ hs
      subst e
      exact ⟨0, t, rfl, step_through hs⟩

theorem WP.sched {prog : Program} {w : World} {t : Sem Fin} {s : Shared} {R : Flow → Shared → Prop} (hr : s.asleep) (h : WP (model prog w) G0 t (fun fin _ s' => ∃ f, fin = .done f ∧ (R f s' ∧ leftWithCleanup s'.gens = false)) (fun _ _ _ => False) default s) :
    ∃ n t₁ f s' s'', schedN (denote table) prog w n (.single s ⟨t, .builtin "claim.caller" {}, default, []⟩) = .running (.single s'' t₁) ∧ through t₁ = true ∧ s''.forget = s'.forget ∧ s''.heap.life = s.heap.life ∧ R f s' := by
  obtain ⟨n, r, s', hn, hR⟩ := (wp_iff_halts (M := model prog w) (c := .builtin "claim.caller" {}) t (fun r s' => ∃ f, r = .ok f ∧ R f s') default s).mp (Sem.wp_mono _ _ _ (fun fin p' s' x => by
    obtain ⟨f, rfl, a, b⟩ := x
    exact ⟨⟨f, rfl, a⟩, b⟩) (fun _ _ _ x => x.elim) _ _ h.out)
  obtain ⟨f, rfl, hR⟩ := hR
  have hn' : runNI (denote table) prog w n s ⟨t, .builtin "claim.caller" {}, default, []⟩ = .halted (.done f) s' := hn
  obtain ⟨s'', hrun, hf, hc⟩ := runNI_real (denote table) prog w hn' rfl
  have hne : ∀ k s₂, PySem.runN (denote table) prog w k s ⟨t, .builtin "claim.caller" {}, default, []⟩ ≠ .halted (.unsupported "lifetime:generator-with-cleanup-left-suspended") s₂ := by
    intro k s₂ hk
    have a := runN_mono (denote table) prog w n k s _ _ s'' hrun
    have b := runN_mono (denote table) prog w k n s _ _ s₂ hk
    rw [Nat.add_comm, b] at a
    injection a with a1 _
    cases a1
  obtain ⟨m, t₁, hm, ht⟩ := run_through hrun
  refine ⟨m, t₁, f, s', s'', ?_, ht, hf, ?_, hR⟩
  · rw [schedN_eq_runN (denote table) prog w s _ hr ⟨hc, hne⟩ m, hm]; rfl
  · exact runN_life _ _ _ hrun

theorem nogens : leftWithCleanup #[] = false := by decide +kernel
theorem ran {w : World} {b : Bool} {s₀ : Shared} (hz : s₀.asleep) (hh : s₀.heap = boot_heap (wB w b).params) (hg : s₀.gens = #[]) (ht : s₀.toks = boot_toks) :
    ∃ s₁, (∃ n t, schedN (denote table) prg (wB w b) n (.single s₀ (topStub prg)) = .running (.single s₁ t) ∧ through t = true) ∧ s₁.heap.life = s₀.heap.life ∧ s₁.rest = s₀.rest ∧ s₁.gens = #[] ∧ ∃ T L, Aft w b s₁.heap T L := by
  obtain ⟨heap, gens, drawn, toks, os⟩ := s₀
  dsimp only at hh hg ht
  subst hh hg ht
  obtain ⟨n, t₁, f, s', s'', h1, h2, h3, h4, h5⟩ := WP.sched (R := fun _ s' => ∃ h' k' T L, s' = ⟨h', #[], drawn, k', os⟩ ∧ Aft w b h' T L) hz (WP.mono (top_wp (w := w) (b := b) (g := #[]) (d := drawn) (os := os) (R := fun _ s' => ∃ h' k' T L, s' = ⟨h', #[], drawn, k', os⟩ ∧ Aft w b h' T L) (E := fun _ _ _ => False) fun h' k' T L A => ⟨h', k', T, L, rfl, A⟩)
    (fun fin _ s' x => by obtain ⟨f, rfl, h', k', T, L, rfl, A⟩ := x; exact ⟨f, rfl, ⟨h', k', T, L, rfl, A⟩, nogens⟩) fun _ _ _ x => x)
  obtain ⟨h', k', T, L, rfl, A⟩ := h5
  have e := Shared.eq_of_forget_eq h3 rfl
  subst e
  exact ⟨_, ⟨n, t₁, h1, h2⟩, h4, rfl, rfl, T, L, A⟩
end Qu69
end

section
open PySem PySem.W PySem.Calls PyProof.Rows
set_option backward.match.sparseCases false
namespace Qu69

noncomputable def nm_b1 : List Str := ["code"]
noncomputable def ir_b1 : ISs := (.cons (.ret (.inset 0 (.blt .ord (.cons (.var 0) .nil)))) .nil)
noncomputable def nm_b3 : List Str := ["code", "r"]
noncomputable def ir_b3 : ISs := (.cons (.asg [(.one 1)] (.b3get (.blt .ord (.cons (.var 0) .nil)))) (.cons (.ifs (.cmp .isnt (.var 1) .none) (.cons (.ret (.var 1)) .nil) .nil) (.cons (.ret (.meth0 .lower (.var 0))) .nil)))
noncomputable def nm_c11 : List Str := ["code"]
noncomputable def ir_c11 : ISs := (.cons (.ret (.cmp .eq (.var 0) (.str [32]))) .nil)
noncomputable def nm_c4 : List Str := ["code", "c"]
noncomputable def ir_c4 : ISs := (.cons (.asg [(.one 1)] (.blt .ord (.cons (.var 0) .nil))) (.cons (.ifs (.cmp .lt (.var 1) (.int 64976)) (.cons (.ret (.bool false)) .nil) .nil) (.cons (.ifs (.cmp .lt (.var 1) (.int 65008)) (.cons (.ret (.bool true)) .nil) .nil) (.cons (.ret (.cmp .in_ (.bin .band (.blt .ord (.cons (.var 0) .nil)) (.int 65535)) (.tup (.cons (.int 65534) (.cons (.int 65535) .nil))))) .nil))))
noncomputable def nm_c6 : List Str := ["code"]
noncomputable def ir_c6 : ISs := (.cons (.ret (.inset 1 (.blt .ord (.cons (.var 0) .nil)))) .nil)
noncomputable def nm_c7 : List Str := ["code"]
noncomputable def ir_c7 : ISs := (.cons (.ret (.inset 2 (.blt .ord (.cons (.var 0) .nil)))) .nil)
noncomputable def nm_c8 : List Str := ["code"]
noncomputable def ir_c8 : ISs := (.cons (.ret (.inset 3 (.blt .ord (.cons (.var 0) .nil)))) .nil)
noncomputable def nm_c9 : List Str := ["code"]
noncomputable def ir_c9 : ISs := (.cons (.ret (.inset 4 (.blt .ord (.cons (.var 0) .nil)))) .nil)
noncomputable def nm_init : List Str := ["self", "ws", "count", "b", "n", "nt", "ch", "S", "T"]
noncomputable def ir_init : ISs := (.cons (.sta 0 0 (.var 1)) (.cons (.swp [7, 8] (.cons (.cattr 0) (.cons (.cattr 1) .nil))) (.cons (.asgM 2 (.disp .nil)) (.cons (.asg [(.one 3), (.one 4), (.one 5)] (.int 0)) (.cons (.fors (.one 6) (.selfA 0 0) (.cons (.ifs (.cmp .eq (.var 6) (.var 7)) (.cons (.asg [(.one 4)] (.bin .add (.var 4) (.int 1))) (.cons (.asg [(.one 3)] (.bin .add (.var 3) (.int 1))) .nil)) (.cons (.ifs (.cmp .eq (.var 6) (.var 8)) (.cons (.asg [(.one 4)] (.bin .add (.var 4) (.int 1))) (.cons (.asg [(.one 5)] (.bin .add (.var 5) (.int 1))) (.cons (.ifs (.cmp .ge (.var 3) (.lenM 2)) (.frz 2 (.cons (.asgM 2 (.cat (.var 2) (.bin .mul (.lst (.cons (.int 0) .nil)) (.bin .add (.bin .sub (.var 3) (.blt .len (.cons (.var 2) .nil))) (.int 1))))) .nil)) .nil) (.cons (.sti 2 (.var 3) (.bin .add (.idxM 2 (.var 3)) (.int 1))) (.cons (.asg [(.one 3)] (.int 0)) .nil))))) (.cons .brk .nil)) .nil)) .nil)) (.cons (.sta 0 1 (.var 4)) (.cons (.sta 0 2 (.var 5)) (.frz 2 (.cons (.sta 0 3 (.tup (.cons (.blt .tuple (.cons (.var 2) .nil)) (.cons (.var 3) .nil)))) (.cons (.sta 0 4 (.cmp .le (.blt .len (.cons (.var 2) .nil)) (.int 1))) .nil))))))))))
noncomputable def nm_sub : List Str := ["ch_a", "ch_b"]
noncomputable def ir_sub : ISs := (.cons (.ifs (.cmp .eq (.var 0) (.var 1)) (.cons (.ret (.int 0)) .nil) .nil) (.cons (.ifs (.cmp .eq (.meth0 .lower (.var 0)) (.meth0 .lower (.var 1))) (.cons (.ret (.glob 2)) .nil) .nil) (.cons (.ret (.glob 1)) .nil)))
noncomputable def nm_lev : List Str := ["a", "b", "max_cost", "pre", "post", "row", "result", "bindex", "bchar", "distance", "minimum", "index", "substitute", "insert_delete"]
noncomputable def ir_lev : ISs := (.cons (.ifs (.cmp .eq (.var 0) (.var 1)) (.cons (.ret (.int 0)) .nil) .nil) (.cons (.asg [(.one 3)] (.int 0)) (.cons (.whl (.and (.cons (.t (.slc (.var 0) (.var 3) .none)) (.cons (.t (.slc (.var 1) (.var 3) .none)) (.cons (.cmp .eq (.idx (.var 0) (.var 3)) (.idx (.var 1) (.var 3))) .nil)))) (.cons (.aug 3 .add (.int 1)) .nil)) (.cons (.asg [(.one 0)] (.slc (.var 0) (.var 3) .none)) (.cons (.asg [(.one 1)] (.slc (.var 1) (.var 3) .none)) (.cons (.asg [(.one 4)] (.int 0)) (.cons (.whl (.and (.cons (.t (.slc (.var 0) .none (.or2 (.var 4) .none))) (.cons (.t (.slc (.var 1) .none (.or2 (.var 4) .none))) (.cons (.cmp .eq (.idx (.var 0) (.bin .sub (.var 4) (.int 1))) (.idx (.var 1) (.bin .sub (.var 4) (.int 1)))) .nil)))) (.cons (.aug 4 .sub (.int 1)) .nil)) (.cons (.asg [(.one 0)] (.slc (.var 0) .none (.or2 (.var 4) .none))) (.cons (.asg [(.one 1)] (.slc (.var 1) .none (.or2 (.var 4) .none))) (.cons (.ifs (.or (.cons (.not (.t (.var 0))) (.cons (.not (.t (.var 1))) .nil))) (.cons (.ret (.bin .mul (.glob 1) (.bin .add (.blt .len (.cons (.var 0) .nil)) (.blt .len (.cons (.var 1) .nil))))) .nil) .nil) (.cons (.ifs (.or (.cons (.cmp .gt (.blt .len (.cons (.var 0) .nil)) (.glob 0)) (.cons (.cmp .gt (.blt .len (.cons (.var 1) .nil)) (.glob 0)) .nil))) (.cons (.ret (.bin .add (.var 2) (.int 1))) .nil) .nil) (.cons (.ifs (.cmp .lt (.blt .len (.cons (.var 1) .nil)) (.blt .len (.cons (.var 0) .nil))) (.cons (.swp [0, 1] (.cons (.var 1) (.cons (.var 0) .nil))) .nil) .nil) (.cons (.ifs (.cmp .gt (.bin .mul (.bin .sub (.blt .len (.cons (.var 1) .nil)) (.blt .len (.cons (.var 0) .nil))) (.glob 1)) (.var 2)) (.cons (.ret (.bin .add (.var 2) (.int 1))) .nil) .nil) (.cons (.asgM 5 (.rng (.cons (.glob 1) (.cons (.bin .mul (.glob 1) (.bin .add (.blt .len (.cons (.var 0) .nil)) (.int 1))) (.cons (.glob 1) .nil))))) (.cons (.asg [(.one 6)] (.int 0)) (.cons (.fors (.one 7) (.blt .range (.cons (.blt .len (.cons (.var 1) .nil)) .nil)) (.cons (.asg [(.one 8)] (.idx (.var 1) (.var 7))) (.cons (.asg [(.one 9), (.one 6)] (.bin .mul (.var 7) (.glob 1))) (.cons (.asg [(.one 10)] (.int 9223372036854775807)) (.cons (.fors (.one 11) (.blt .range (.cons (.blt .len (.cons (.var 0) .nil)) .nil)) (.cons (.asg [(.one 12)] (.bin .add (.var 9) (.fn 8 (.cons (.var 8) (.cons (.idx (.var 0) (.var 11)) .nil))))) (.cons (.asg [(.one 9)] (.idxM 5 (.var 11))) (.cons (.asg [(.one 13)] (.bin .add (.blt .min (.cons (.var 6) (.cons (.var 9) .nil))) (.glob 1))) (.cons (.asg [(.one 6)] (.blt .min (.cons (.var 13) (.cons (.var 12) .nil)))) (.cons (.sti 5 (.var 11) (.var 6)) (.cons (.ifs (.cmp .lt (.var 6) (.var 10)) (.cons (.asg [(.one 10)] (.var 6)) .nil) .nil) .nil))))))) (.cons (.ifs (.cmp .gt (.var 10) (.var 2)) (.cons (.ret (.bin .add (.var 2) (.int 1))) .nil) .nil) .nil)))))) (.cons (.ret (.var 6)) .nil)))))))))))))))))
noncomputable def nm_item : List Str := ["kind", "which", "q", "eighth", "gaps", "hidden", "pins"]
noncomputable def ir_item : ISs := (.cons (.ifs (.cmp .eq (.var 0) (.int 1)) (.cons (.asg [(.one 5)] (.bin .add (.lst (.cons (.int 173) (.cons (.int 847) (.cons (.int 6150) (.cons (.int 6155) (.cons (.int 6156) (.cons (.int 6157) (.cons (.int 8203) (.cons (.int 8204) (.cons (.int 8205) (.cons (.int 8288) (.cons (.int 65279) .nil)))))))))))) (.blt .list (.cons (.blt .range (.cons (.int 65024) (.cons (.int 65040) .nil))) .nil)))) (.cons (.ret (.tup (.cons (.blt .chr (.cons (.idx (.var 5) (.bin .mod (.var 1) (.int 27))) .nil)) (.cons (.int 0) (.cons (.str []) .nil))))) .nil)) .nil) (.cons (.ifs (.cmp .eq (.var 0) (.int 2)) (.cons (.asg [(.one 6)] (.lst (.cons (.tup (.cons (.str [107]) (.cons (.str [107]) .nil))) (.cons (.tup (.cons (.str [75]) (.cons (.str [107]) .nil))) (.cons (.tup (.cons (.str [119967]) (.cons (.str [100]) .nil))) (.cons (.tup (.cons (.str [223]) (.cons (.str [115, 115]) .nil))) (.cons (.tup (.cons (.str [64256]) (.cons (.str [102, 102]) .nil))) (.cons (.tup (.cons (.str [13256]) (.cons (.str [100, 98]) .nil))) (.cons (.tup (.cons (.str [64259]) (.cons (.str [102, 102, 105]) .nil))) (.cons (.tup (.cons (.str [8481]) (.cons (.str [116, 101, 108]) .nil))) (.cons (.tup (.cons (.str [13201]) (.cons (.str [107, 104, 122]) .nil))) .nil))))))))))) (.cons (.ret (.tup (.cons (.idx (.idx (.var 6) (.bin .mod (.var 1) (.int 9))) (.int 0)) (.cons (.int 7) (.cons (.idx (.idx (.var 6) (.bin .mod (.var 1) (.int 9))) (.int 1)) .nil))))) .nil)) .nil) (.cons (.asg [(.one 2)] (.bin .fdiv (.var 1) (.int 7))) (.cons (.asg [(.one 3)] (.bin .add (.bin .add (.lst (.cons (.int 832) (.cons (.int 833) (.cons (.int 8206) (.cons (.int 8207) .nil))))) (.blt .list (.cons (.blt .range (.cons (.int 8234) (.cons (.int 8239) .nil))) .nil))) (.blt .list (.cons (.blt .range (.cons (.int 8298) (.cons (.int 8304) .nil))) .nil)))) (.cons (.asg [(.one 4)] (.lst (.cons (.tup (.cons (.int 32) (.cons (.int 1) .nil))) (.cons (.tup (.cons (.bin .add (.int 64976) (.bin .mod (.var 2) (.int 32))) (.cons (.int 2) .nil))) (.cons (.tup (.cons (.bin .add (.bin .add (.bin .mul (.int 65536) (.bin .mod (.var 2) (.int 17))) (.int 65534)) (.bin .mod (.bin .fdiv (.var 2) (.int 17)) (.int 2))) (.cons (.int 2) .nil))) (.cons (.tup (.cons (.bin .add (.int 65529) (.bin .mod (.var 2) (.int 5))) (.cons (.int 3) .nil))) (.cons (.tup (.cons (.bin .add (.int 12272) (.bin .mod (.var 2) (.int 12))) (.cons (.int 4) .nil))) (.cons (.tup (.cons (.idx (.var 3) (.bin .mod (.var 2) (.int 15))) (.cons (.int 5) .nil))) (.cons (.tup (.cons (.ite (.cmp .eq (.bin .mod (.var 2) (.int 97)) (.int 96)) (.int 917505) (.bin .add (.int 917536) (.bin .mod (.var 2) (.int 97)))) (.cons (.int 6) .nil))) .nil))))))))) (.cons (.ret (.tup (.cons (.blt .chr (.cons (.idx (.idx (.var 4) (.bin .mod (.var 1) (.int 7))) (.int 0)) .nil)) (.cons (.idx (.idx (.var 4) (.bin .mod (.var 1) (.int 7))) (.int 1)) (.cons (.str []) .nil))))) .nil))))))
noncomputable def nm_least : List Str := ["worths", "least"]
noncomputable def ir_least : ISs := (.cons (.asg [(.one 1)] (.int 0)) (.cons (.whl (.cmp .in_ (.var 1) (.var 0)) (.cons (.asg [(.one 1)] (.bin .add (.var 1) (.int 1))) .nil)) (.cons (.ret (.var 1)) .nil)))
noncomputable def nm_values : List Str := ["most", "values", "run", "worths", "taken", "left"]
noncomputable def ir_values : ISs := (.cons (.asgM 1 (.disp (.cons (.int 0) .nil))) (.cons (.fors (.one 2) (.blt .range (.cons (.int 1) (.cons (.bin .add (.var 0) (.int 1)) .nil))) (.cons (.asgM 3 (.disp .nil)) (.cons (.fors (.one 4) (.tup (.cons (.int 1) (.cons (.int 2) .nil))) (.cons (.fors (.one 5) (.blt .range (.cons (.bin .add (.bin .sub (.var 2) (.var 4)) (.int 1)) .nil)) (.cons (.app 3 (.bin .xor (.idxM 1 (.var 5)) (.idxM 1 (.bin .sub (.bin .sub (.var 2) (.var 4)) (.var 5))))) .nil)) .nil)) (.frz 3 (.cons (.app 1 (.fn 11 (.cons (.var 3) .nil))) .nil))))) (.frz 1 (.cons (.ret (.var 1)) .nil))))
noncomputable def nm_worth : List Str := ["lead", "values", "worth", "run", "counts", "rest"]
noncomputable def ir_worth : ISs := (.cons (.asg [(.many [4, 5])] (.attr 3 (.fn 15 (.cons (.var 0) .nil)))) (.cons (.asg [(.one 2)] (.idx (.var 1) (.var 5))) (.cons (.fors (.one 3) (.blt .range (.cons (.blt .len (.cons (.var 4) .nil)) .nil)) (.cons (.ifs (.cmp .eq (.bin .mod (.idx (.var 4) (.var 3)) (.int 2)) (.int 1)) (.cons (.asg [(.one 2)] (.bin .xor (.var 2) (.idx (.var 1) (.var 3)))) .nil) .nil) .nil)) (.cons (.ret (.var 2)) .nil))))
noncomputable def nm_knocks : List Str := ["lead", "knocks", "i"]
noncomputable def ir_knocks : ISs := (.cons (.asgM 1 (.disp .nil)) (.cons (.fors (.one 2) (.blt .range (.cons (.blt .len (.cons (.var 0) .nil)) .nil)) (.cons (.ifs (.cmp .eq (.idx (.var 0) (.var 2)) (.str [32])) (.cons (.app 1 (.bin .add (.bin .add (.slc (.var 0) .none (.var 2)) (.str [9])) (.slc (.var 0) (.bin .add (.var 2) (.int 1)) .none))) (.cons (.ifs (.cmp .eq (.slc (.var 0) (.var 2) (.bin .add (.var 2) (.int 2))) (.str [32, 32])) (.cons (.app 1 (.bin .add (.bin .add (.slc (.var 0) .none (.var 2)) (.str [9])) (.slc (.var 0) (.bin .add (.var 2) (.int 2)) .none))) .nil) .nil) .nil)) .nil) .nil)) (.frz 1 (.cons (.ret (.var 1)) .nil))))
noncomputable def nm_law : List Str := ["script", "draws", "replies", "y", "lead", "values", "items", "pins", "item", "sign", "place", "meaning", "told", "start", "first", "turns", "knocks", "worths", "worth", "after", "gone", "old", "new"]
noncomputable def ir_law : ISs := (.cons (.asgC 1 ⟨(.bin .add (.slc (.var 0) .none (.int 5)) (.slc (.lst (.cons (.int 12) (.cons (.int 5) (.cons (.int 1) (.cons (.int 15) (.cons (.int 2) .nil)))))) (.blt .len (.cons (.slc (.var 0) .none (.int 5)) .nil)) .none)), [], none, (.bin .mod (.var 0) (.int 1000000))⟩) (.cons (.asgC 2 ⟨(.bin .add (.slc (.var 0) (.int 5) (.int 11)) (.lst (.cons (.int 0) (.cons (.int 1) (.cons (.int 2) (.cons (.int 3) (.cons (.int 4) (.cons (.int 5) .nil)))))))), [], none, (.bin .mod (.var 0) (.int 1000000))⟩) (.cons (.swpM 6 7 (.cons (.tup (.cons (.str [64257]) (.cons (.int 7) (.cons (.str [102, 105]) .nil)))) .nil) (.int 2)) (.cons (.fors (.one 3) (.var 1) (.cons (.asg [(.one 8)] (.fn 10 (.cons (.bin .mod (.var 3) (.int 3)) (.cons (.bin .fdiv (.var 3) (.int 3)) .nil)))) (.cons (.ifs (.cmp .le (.bin .add (.var 7) (.blt .len (.cons (.idx (.var 8) (.int 2)) .nil))) (.int 6)) (.cons (.app 6 (.var 8)) (.cons (.asg [(.one 7)] (.bin .add (.var 7) (.blt .len (.cons (.idx (.var 8) (.int 2)) .nil)))) .nil)) .nil) .nil))) (.cons (.asg [(.one 4)] (.str [])) (.frz 6 (.cons (.fors (.many [9, 10, 11]) (.var 6) (.cons (.asg [(.one 12)] (.lst (.cons (.fn 0 (.cons (.var 9) .nil)) (.cons (.fn 2 (.cons (.var 9) .nil)) (.cons (.fn 3 (.cons (.var 9) .nil)) (.cons (.fn 4 (.cons (.var 9) .nil)) (.cons (.fn 5 (.cons (.var 9) .nil)) (.cons (.fn 6 (.cons (.var 9) .nil)) (.cons (.fn 7 (.cons (.var 9) .nil)) .nil))))))))) (.cons (.ifC ⟨(.blt .range (.cons (.int 7) .nil)), [12, 10], (some (.cmp .isnt (.idx (.var 1) (.var 0)) (.cmp .eq (.var 0) (.var 2)))), (.var 0)⟩ (.cons (.ret (.bool false)) .nil) .nil) (.cons (.ifs (.cmp .in_ (.bool true) (.slc (.var 12) (.int 1) .none)) (.cons (.asg [(.one 4)] (.bin .add (.var 4) (.str [9]))) .nil) (.cons (.ifs (.not (.t (.idx (.var 12) (.int 0)))) (.cons (.ifs (.cmp .ne (.fn 1 (.cons (.var 9) .nil)) (.var 11)) (.cons (.ret (.bool false)) .nil) .nil) (.cons (.asg [(.one 4)] (.bin .add (.var 4) (.bin .mul (.str [32]) (.blt .len (.cons (.var 11) .nil))))) .nil)) .nil) .nil)) .nil)))) (.cons (.asg [(.one 5)] (.fn 12 (.cons (.int 6) .nil))) (.cons (.swp [13, 14, 15] (.cons (.var 4) (.cons (.fn 13 (.cons (.var 4) (.cons (.var 5) .nil))) (.cons (.int 0) .nil)))) (.cons (.whl (.cmp .in_ (.str [32]) (.var 4)) (.cons (.asg [(.one 16)] (.fn 14 (.cons (.var 4) .nil))) (.cons (.asgC 17 ⟨(.var 16), [5], none, (.fn 13 (.cons (.var 0) (.cons (.var 1) .nil)))⟩) (.cons (.asg [(.one 18)] (.fn 13 (.cons (.var 4) (.cons (.var 5) .nil)))) (.cons (.ifs (.cmp .ne (.var 18) (.fn 11 (.cons (.var 17) .nil))) (.cons (.ret (.bool false)) .nil) .nil) (.cons (.asg [(.one 19)] (.idx (.var 16) (.ite (.cmp .gt (.var 18) (.int 0)) (.meth1 .index (.var 17) (.int 0)) (.bin .mod (.idx (.var 2) (.var 15)) (.blt .len (.cons (.var 16) .nil)))))) (.cons (.asg [(.one 20)] (.bin .sub (.meth1 .count (.var 4) (.str [32])) (.meth1 .count (.var 19) (.str [32])))) (.cons (.swp [21, 22] (.cons (.fn 15 (.cons (.var 4) .nil)) (.cons (.fn 15 (.cons (.var 19) .nil)) .nil))) (.cons (.ifs (.or (.cons (.cmp .ne (.tup (.cons (.attr 1 (.var 22)) (.cons (.attr 2 (.var 22)) .nil))) (.tup (.cons (.bin .sub (.bin .add (.attr 1 (.var 21)) (.int 1)) (.var 20)) (.cons (.bin .add (.attr 2 (.var 21)) (.int 1)) .nil)))) (.cons (.cmp .ne (.fn 9 (.cons (.var 4) (.cons (.var 19) (.cons (.bin .mul (.int 2) (.var 20)) .nil)))) (.bin .mul (.int 2) (.var 20))) .nil))) (.cons (.ret (.bool false)) .nil) .nil) (.cons (.asg [(.one 4)] (.var 19)) (.cons (.asg [(.one 15)] (.bin .add (.var 15) (.int 1))) .nil))))))))))) (.cons (.ret (.and2 (.cmp .is_ (.cmp .eq (.bin .mod (.var 15) (.int 2)) (.int 1)) (.cmp .gt (.var 14) (.int 0))) (.cmp .eq (.fn 9 (.cons (.var 13) (.cons (.var 4) (.cons (.bin .mul (.int 2) (.var 7)) .nil)))) (.bin .mul (.int 2) (.var 7))))) .nil)))))))))))

noncomputable def stm (i : Nat) : Stmt := prg.main.body.getD i (.Pass ⟨0, 0, 0, 0⟩)
structure FnP where
  name : Str
  args : Arguments
  body : List Stmt
  scope : Scope
noncomputable def fnP : Stmt → FnP
  | .FunctionDef n a b _ _ _ s _ _ _ => ⟨n, a, b, s⟩
  | .ClassDef _ _ _ b _ _ _ _ _ _ _ => match b with
    | _ :: .FunctionDef n a b _ _ _ s _ _ _ :: _ => ⟨n, a, b, s⟩
    | _ => ⟨"", ⟨[], [], none, [], [], none, []⟩, [], prg.main.scope⟩
  | _ => ⟨"", ⟨[], [], none, [], [], none, []⟩, [], prg.main.scope⟩
noncomputable def fp (i : Nat) : FnP := fnP (stm i)
noncomputable def giT : List (Str × Int) := [("_MAX_STRING_SIZE", 40), ("_MOVE_COST", 2), ("_CASE_COST", 1)]
noncomputable def fnT : List Str := ["in_table_b1", "map_table_b3", "in_table_c11", "in_table_c4", "in_table_c6", "in_table_c7", "in_table_c8", "in_table_c9", "_substitution_cost", "_levenshtein_distance", "_law_item", "_law_least", "_law_values", "_law_worth", "_law_knocks", "Whitespace"]
noncomputable def rintsD (a : Int) : Nat → List Int
  | 0 => []
  | n + 1 => a :: rintsD (a + 1) n
noncomputable def sB1 : List Int := [173, 847, 6150, 6155, 6156, 6157, 8203, 8204, 8205, 8288, 65279] ++ rintsD 65024 16
noncomputable def sC6 : List Int := rintsD 65529 5
noncomputable def sC7 : List Int := rintsD 12272 12
noncomputable def sC8 : List Int := [832, 833, 8206, 8207] ++ rintsD 8234 5 ++ rintsD 8298 6
noncomputable def sC9 : List Int := 917505 :: rintsD 917536 96
noncomputable def stT : List (Str × List Int) := [("b1_set", sB1), ("c6_set", sC6), ("c7_set", sC7), ("c8_set", sC8), ("c9_set", sC9)]
noncomputable def b3T (i : Int) : Option (List Nat) := match b3P.find? (fun p => p.1 == i) with
  | some p => some p.2.cps.toList
  | none => none
noncomputable def mkT (F : Nat → List D → Option D) : Tab := ⟨giT, fnT, F, stT, b3T⟩
noncomputable def runF (np : Nat) (nm : List Str) (T : Tab) (ir : ISs) (ds : List D) : Option D := if ds.length = np then match exSs T ir (rho0 ds (nm.length - np)) with
  | some (.ret d, _) => some d
  | _ => none
  else none
noncomputable def iniF (T : Tab) (ds : List D) : Option D := match ds with
  | [d] => match exSs T ir_init (iniRho d (nm_init.length - 2)) with
    | some (Fl.next, rho) => match (rho[0]? : Option LV) with
      | some (LV.self ks vs) => some (.inst ks vs)
      | _ => none
    | _ => none
  | _ => none
noncomputable def F0 : Nat → List D → Option D := fun _ _ => none
noncomputable def T0t : Tab := mkT F0
noncomputable def stepF (T : Tab) (k : Nat) (ds : List D) : Option D := match k with
  | 0 => runF 1 nm_b1 T ir_b1 ds
  | 1 => runF 1 nm_b3 T ir_b3 ds
  | 2 => runF 1 nm_c11 T ir_c11 ds
  | 3 => runF 1 nm_c4 T ir_c4 ds
  | 4 => runF 1 nm_c6 T ir_c6 ds
  | 5 => runF 1 nm_c7 T ir_c7 ds
  | 6 => runF 1 nm_c8 T ir_c8 ds
  | 7 => runF 1 nm_c9 T ir_c9 ds
  | 8 => runF 2 nm_sub T ir_sub ds
  | 9 => runF 3 nm_lev T ir_lev ds
  | 10 => runF 2 nm_item T ir_item ds
  | 11 => runF 1 nm_least T ir_least ds
  | 12 => runF 1 nm_values T ir_values ds
  | 13 => runF 2 nm_worth T ir_worth ds
  | 14 => runF 1 nm_knocks T ir_knocks ds
  | 15 => iniF T0t ds
  | _ => none
noncomputable def T1 : Tab := mkT (stepF T0t)
noncomputable def T2 : Tab := mkT (stepF T1)
theorem chk_b1 : chkSs T0t (fp 3).scope nm_b1 ir_b1 (fp 3).body = true := by decide +kernel
theorem chk_b3 : chkSs T0t (fp 5).scope nm_b3 ir_b3 (fp 5).body = true := by decide +kernel
theorem chk_c11 : chkSs T0t (fp 6).scope nm_c11 ir_c11 (fp 6).body = true := by decide +kernel
theorem chk_c4 : chkSs T0t (fp 7).scope nm_c4 ir_c4 (fp 7).body = true := by decide +kernel
theorem chk_c6 : chkSs T0t (fp 9).scope nm_c6 ir_c6 (fp 9).body = true := by decide +kernel
theorem chk_c7 : chkSs T0t (fp 11).scope nm_c7 ir_c7 (fp 11).body = true := by decide +kernel
theorem chk_c8 : chkSs T0t (fp 13).scope nm_c8 ir_c8 (fp 13).body = true := by decide +kernel
theorem chk_c9 : chkSs T0t (fp 15).scope nm_c9 ir_c9 (fp 15).body = true := by decide +kernel
theorem chk_sub : chkSs T0t (fp 22).scope nm_sub ir_sub (fp 22).body = true := by decide +kernel
theorem chk_lev : chkSs T0t (fp 23).scope nm_lev ir_lev (fp 23).body = true := by decide +kernel
theorem chk_item : chkSs T0t (fp 25).scope nm_item ir_item (fp 25).body = true := by decide +kernel
theorem chk_least : chkSs T0t (fp 26).scope nm_least ir_least (fp 26).body = true := by decide +kernel
theorem chk_values : chkSs T0t (fp 27).scope nm_values ir_values (fp 27).body = true := by decide +kernel
theorem chk_worth : chkSs T0t (fp 28).scope nm_worth ir_worth (fp 28).body = true := by decide +kernel
theorem chk_knocks : chkSs T0t (fp 29).scope nm_knocks ir_knocks (fp 29).body = true := by decide +kernel
theorem chk_init : chkSs T0t (fp 17).scope nm_init ir_init (fp 17).body = true := by decide +kernel
theorem chk_law : chkSs T0t (fp 30).scope nm_law ir_law (fp 30).body = true := by decide +kernel
end Qu69
end

section
open PySem PySem.W PySem.W.X PySem.Calls PyProof.Rows PyProof.V
namespace Qu69

noncomputable def nsE (T : KT) (a : Addr) : List DictEntry := match T.get a with
  | some ⟨_, _, .dict es _, _⟩ => es.toList
  | _ => []
noncomputable def strKey (e : DictEntry) : Bool := match e.key with
  | .str .. => true
  | _ => false
noncomputable def isNsT (T : KT) (a : Addr) : Bool := match T.get a with
  | some ⟨_, _, .dict es _, _⟩ => es.toList.all strKey
  | _ => false
noncomputable def mgL (es : List DictEntry) (x : Str) : Option Value := (es.find? (·.key.isStr x)).map (·.val)
noncomputable def funcT (T : KT) (a : Addr) : Option FuncData := match T.get a with
  | some ⟨_, _, .func fd, _⟩ => some fd
  | _ => none
noncomputable def funcD (T : KT) (a : Addr) : Value × Value × Value := match T.get a with
  | some ⟨_, _, .func fd, _⟩ => (fd.pyModule, fd.code, fd.doc)
  | _ => (.none, .none, .none)
noncomputable def codeT (T : KT) (cd : Value) (q : Str) : Bool := match cd with
  | .ref c => match T.get c with
    | some ⟨_, _, .fields vs, _⟩ => match vs.toList with
      | _ :: .str x _ :: _ => x == q
      | _ => false
    | _ => false
  | _ => false
structure FRow where
  a : Addr
  i : Nat
  qual : Str
noncomputable def fRows : List FRow := [⟨39, 3, "in_table_b1"⟩, ⟨85, 5, "map_table_b3"⟩, ⟨92, 6, "in_table_c11"⟩, ⟨99, 7, "in_table_c4"⟩, ⟨111, 9, "in_table_c6"⟩, ⟨123, 11, "in_table_c7"⟩, ⟨147, 13, "in_table_c8"⟩, ⟨165, 15, "in_table_c9"⟩,
  ⟨238, 22, "_substitution_cost"⟩, ⟨245, 23, "_levenshtein_distance"⟩, ⟨252, 25, "_law_item"⟩, ⟨259, 26, "_law_least"⟩, ⟨266, 27, "_law_values"⟩, ⟨273, 28, "_law_worth"⟩, ⟨280, 29, "_law_knocks"⟩, ⟨182, 17, "Whitespace.__init__"⟩, ⟨285, 30, "law"⟩]
noncomputable def fdT (T : KT) (r : FRow) : FuncData := fdOf (fp r.i).name r.qual (fp r.i).args (fp r.i).body (fp r.i).scope (funcD T r.a).1 (funcD T r.a).2.1 (funcD T r.a).2.2
noncomputable def refIs (a : Addr) : Option Value → Bool
  | some (.ref b) => Nat.beq a b
  | _ => false
noncomputable def intIs (i : Int) : Option Value → Bool
  | some (.int j _) => i == j
  | _ => false
noncomputable def kAddrs : List Addr := [2, 3, 182, 226, 227]
noncomputable def kfr (T : KT) : Frag := kAddrs.filterMap fun a => (T.get a).map (a, ·)
noncomputable def strIs (x : Str) : Option CFound → Bool
  | some (.val (.str y _)) => x == y
  | _ => false
noncomputable def C0 : Addr := 227
noncomputable def atNames : List Str := ["raw", "n", "nt", "norm", "is_simple"]
/-- the checks upon the final tree -/
noncomputable def okTop (T : KT) : Bool :=
  refIs 4 (mgL (nsE T 3) "__builtins__") && isNsT T 0 && isNsT T 2 && isNsT T 3 &&
  ((nsE T 3).all fun e => match e.key with
    | .str x _ => startupNames.contains x || prg.boundNames.contains x
    | _ => false) &&
  ((fRows.zip fnT).all fun p => p.2 == ("Whitespace" : Str) || refIs p.1.a (mgL (nsE T 3) p.2)) &&
  refIs C0 (mgL (nsE T 3) "Whitespace") && refIs 40 (mgL (nsE T 3) "b3_exceptions") && refIs 285 (mgL (nsE T 3) "law") &&
  (giT.all fun p => intIs p.2 (mgL (nsE T 3) p.1)) &&
  refIs 29 (mgL (nsE T 3) "b1_set") && refIs 101 (mgL (nsE T 3) "c6_set") && refIs 113 (mgL (nsE T 3) "c7_set") && refIs 137 (mgL (nsE T 3) "c8_set") && refIs 155 (mgL (nsE T 3) "c9_set") &&
  ([BF.len, .ord, .chr, .min, .range, .list, .tuple].all fun f => (mgL (nsE T 3) f.nm).isNone) &&
  (nsE T 2).isEmpty &&
  (fRows.all fun r => codeT T (funcD T r.a).2.1 r.qual) &&
  makesIn (kfr T) C0 && (findIn (kfr T) (.ref C0) "__init__" == some (some (.ref 182))) && (typeIn (kfr T) (.ref 182) == some (.type "function")) &&
  (findIn (kfr T) (.ref C0) "__getattribute__" == some (some (.builtin "object.__getattribute__"))) && (findIn (kfr T) (.ref C0) "__setattr__" == some (some (.builtin "object.__setattr__"))) && plainOver (kfr T) C0 && (clsIn (kfr T) C0).any (·.hasDict) &&
  (atNames.all fun x => findIn (kfr T) (.ref C0) x == some none) && (atNames.all fun x => takerIn (kfr T) C0 x == some none) &&
  readsIn (kfr T) C0 (.type "type") && strIs ⟨#[32]⟩ (findCls (kfr T) (.ref C0) (.type "type") "S") && strIs ⟨#[9]⟩ (findCls (kfr T) (.ref C0) (.type "type") "T")
noncomputable def obsL (T : KT) (L : Log) := (okTop T, [T.get 0, T.get 1, T.get 2, T.get 4, T.get 5, T.get 6, T.get 7, T.get 8, T.get 9, T.get 10], laidNames.map (mgL (nsE T 3)), fRows.map (fun r => funcT T r.a), L)
noncomputable def obsR (T : KT) (P : Params) := (true, [some (boot_o_0 P), some (boot_o_1 P), some (boot_o_2 P), some (boot_o_4 P), some (boot_o_5 P), some (boot_o_6 P), some (boot_o_7 P), some (boot_o_8 P), some (boot_o_9 P), some (boot_o_10 P)],
  laidNames.map (mgL (nsE (T0 P) 3)), fRows.map (fun r => some (fdT T r)), [((155 : Addr), sC9), (137, sC8), (113, sC7), (101, sC6), (29, sB1)])
theorem obs_t : ∀ w p p2 q q' k, obsL (gT (r4 w true p p2 q q' k)) (gL (r4 w true p p2 q q' k)) = obsR (gT (r4 w true p p2 q q' k)) (wB w true).params := fun w p p2 q q' k => by kernel_rfl
theorem obs_f : ∀ w p p2 q q' k, obsL (gT (r4 w false p p2 q q' k)) (gL (r4 w false p p2 q q' k)) = obsR (gT (r4 w false p p2 q q' k)) (wB w false).params := fun w p p2 q q' k => by kernel_rfl
end Qu69
end

section
open PySem PySem.W PySem.W.X PySem.Calls PyProof.Rows PyProof.V
namespace Qu69

structure OkT (T : KT) : Prop where
  bi : refIs 4 (mgL (nsE T 3) "__builtins__") = true
  ns0 : isNsT T 0 = true
  ns2 : isNsT T 2 = true
  ns3 : isNsT T 3 = true
  bound : ((nsE T 3).all fun e => match e.key with
    | .str x _ => startupNames.contains x || prg.boundNames.contains x
    | _ => false) = true
  fref : ((fRows.zip fnT).all fun p => p.2 == ("Whitespace" : Str) || refIs p.1.a (mgL (nsE T 3) p.2)) = true
  cref : refIs C0 (mgL (nsE T 3) "Whitespace") = true
  bref : refIs 40 (mgL (nsE T 3) "b3_exceptions") = true
  lref : refIs 285 (mgL (nsE T 3) "law") = true
  gi : (giT.all fun p => intIs p.2 (mgL (nsE T 3) p.1)) = true
  s1 : refIs 29 (mgL (nsE T 3) "b1_set") = true
  s2 : refIs 101 (mgL (nsE T 3) "c6_set") = true
  s3 : refIs 113 (mgL (nsE T 3) "c7_set") = true
  s4 : refIs 137 (mgL (nsE T 3) "c8_set") = true
  s5 : refIs 155 (mgL (nsE T 3) "c9_set") = true
  bl : ([BF.len, .ord, .chr, .min, .range, .list, .tuple].all fun f => (mgL (nsE T 3) f.nm).isNone) = true
  st2 : (nsE T 2).isEmpty = true
  code : (fRows.all fun r => codeT T (funcD T r.a).2.1 r.qual) = true
  mkC : makesIn (kfr T) C0 = true
  fi : (findIn (kfr T) (.ref C0) "__init__" == some (some (.ref 182))) = true
  ft : (typeIn (kfr T) (.ref 182) == some (.type "function")) = true
  ga : (findIn (kfr T) (.ref C0) "__getattribute__" == some (some (.builtin "object.__getattribute__"))) = true
  sa : (findIn (kfr T) (.ref C0) "__setattr__" == some (some (.builtin "object.__setattr__"))) = true
  po : plainOver (kfr T) C0 = true
  hd : (clsIn (kfr T) C0).any (·.hasDict) = true
  at1 : (atNames.all fun x => findIn (kfr T) (.ref C0) x == some none) = true
  at2 : (atNames.all fun x => takerIn (kfr T) C0 x == some none) = true
  rd : readsIn (kfr T) C0 (.type "type") = true
  cS : strIs ⟨#[32]⟩ (findCls (kfr T) (.ref C0) (.type "type") "S") = true
  cT : strIs ⟨#[9]⟩ (findCls (kfr T) (.ref C0) (.type "type") "T") = true
theorem okT_of {T : KT} (h : okTop T = true) : OkT T := by
  unfold okTop at h
  simp only [Bool.and_eq_true] at h
  obtain ⟨⟨⟨⟨⟨⟨⟨⟨⟨⟨⟨⟨⟨⟨⟨⟨⟨⟨⟨⟨⟨⟨⟨⟨⟨⟨⟨⟨⟨a0, a1⟩, a2⟩, a3⟩, a4⟩, a5⟩, a6⟩, a7⟩, a8⟩, a9⟩, a10⟩, a11⟩, a12⟩, a13⟩, a14⟩, a15⟩, a16⟩, a17⟩, a18⟩, a19⟩, a20⟩, a21⟩, a22⟩, a23⟩, a24⟩, a25⟩, a26⟩, a27⟩, a28⟩, a29⟩ := h
  exact ⟨a0, a1, a2, a3, a4, a5, a6, a7, a8, a9, a10, a11, a12, a13, a14, a15, a16, a17, a18, a19, a20, a21, a22, a23, a24, a25, a26, a27, a28, a29⟩

theorem refIs_inv {a : Addr} {v : Option Value} (h : refIs a v = true) : v = some (.ref a) := by
  unfold refIs at h
  split at h
  · rw [Nat.eq_of_beq_eq_true h]
  · cases h
theorem intIs_inv {i : Int} {v : Option Value} (h : intIs i v = true) : ∃ t, v = some (.int i t) := by
  unfold intIs at h
  split at h
  · rw [beq_iff_eq] at h; subst h; exact ⟨_, rfl⟩
  · cases h
theorem strIs_inv {x : Str} {v : Option CFound} (h : strIs x v = true) : ∃ t, v = some (.val (.str x t)) := by
  unfold strIs at h
  split at h
  · rw [beq_iff_eq] at h; subst h; exact ⟨_, rfl⟩
  · cases h

section
variable {prog : Program} {w : World} {h : Heap} {T : KT} {m : Nat} {L : Log}
theorem ns_of (R : RepT prog w h T m L) {a : Addr} (e : isNsT T a = true) : h.Ns a (mgL (nsE T a)) := by
  unfold isNsT at e
  split at e
  · rename_i c d es ep sl ho
    refine ⟨_, es, ep, R.obj _ _ ho, rfl, fun en he => ?_, fun name => ?_⟩
    · have := List.all_eq_true.mp e en (by simpa using he)
      unfold strKey at this
      split at this
      · rename_i x t hk; exact ⟨x, t, hk⟩
      · cases this
    · unfold nsFind findBy mgL nsE
      rw [ho]
      simp only
      rw [← Array.find?_toList]
  · cases e
theorem kfr_in (R : RepT prog w h T m L) : (kfr T).In h := by
  intro a o e
  have hm := mem_of_lookup' e
  unfold kfr at hm
  rw [List.mem_filterMap] at hm
  obtain ⟨b, _, hb⟩ := hm
  obtain ⟨o', ho, hp⟩ := Option.map_eq_some_iff.mp hb
  cases hp
  exact R.obj _ _ ho
where mem_of_lookup' : ∀ {l : List (Addr × Obj)} {a : Addr} {o : Obj}, l.lookup a = some o → (a, o) ∈ l
  | [], _, _, h => by cases h
  | (b, o') :: r, a, o, h => by
    rw [List.lookup_cons] at h
    cases hb : a == b with
    | true => rw [hb] at h; cases h; rw [beq_iff_eq.mp hb]; exact List.mem_cons_self
    | false => rw [hb] at h; exact List.mem_cons_of_mem _ (mem_of_lookup' h)
theorem codeT_of (R : RepT prog w h T m L) {cd : Value} {q : Str} (e : codeT T cd q = true) : h.CodeRec cd q := by
  unfold codeT at e
  split at e
  · rename_i c
    split at e
    · rename_i cl dd vs sl ho
      split at e
      · rename_i v0 x t r hv
        rw [beq_iff_eq] at e
        subst e
        refine ⟨c, _, vs, t, rfl, R.obj _ _ ho, rfl, ?_⟩
        have : vs = (v0 :: .str x t :: r).toArray := Array.ext' (by simpa using hv)
        rw [this]; simp
      · cases e
    · cases e
  · cases e
end

/-- what is known behind the top -/
structure Fin1 (w : World) (h : Heap) (T : KT) (L : Log) : Prop where
  rep : RepT prg w h T 286 L
  ok : OkT T
  old : [T.get 0, T.get 1, T.get 2, T.get 4, T.get 5, T.get 6, T.get 7, T.get 8, T.get 9, T.get 10] = [some (boot_o_0 w.params), some (boot_o_1 w.params), some (boot_o_2 w.params), some (boot_o_4 w.params), some (boot_o_5 w.params), some (boot_o_6 w.params), some (boot_o_7 w.params), some (boot_o_8 w.params), some (boot_o_9 w.params), some (boot_o_10 w.params)]
  laid : laidNames.map (mgL (nsE T 3)) = laidNames.map (mgL (nsE (T0 w.params) 3))
  fns : fRows.map (fun r => funcT T r.a) = fRows.map (fun r => some (fdT T r))
  log : L = [((155 : Addr), sC9), (137, sC8), (113, sC7), (101, sC6), (29, sB1)]
  dict : IntTab prg w h 40 (encP b3P)

theorem fin1_of {w : World} {b : Bool} {h : Heap} {T : KT} {L : Log} (A : Aft w b h T L) : Fin1 (wB w b) h T L := by
  obtain ⟨⟨p, p2, q, q', k, rfl, rfl⟩, rep, dict⟩ := A
  have o : obsL (gT (r4 w b p p2 q q' k)) (gL (r4 w b p p2 q q' k)) = obsR (gT (r4 w b p p2 q q' k)) (wB w b).params := by
    cases b
    · exact obs_f w p p2 q q' k
    · exact obs_t w p p2 q q' k
  generalize gT (r4 w b p p2 q q' k) = T at o rep
  generalize gL (r4 w b p p2 q q' k) = L at o rep
  unfold obsL obsR at o
  simp only [Prod.mk.injEq] at o
  obtain ⟨o1, o2, o3, o4, o5⟩ := o
  exact ⟨rep, okT_of o1, o2, o3, o4, o5, dict⟩

theorem boot_blt (P : Params) : ∀ f : BF, mgL (match boot_o_0 P with | ⟨_, _, .dict es _, _⟩ => es.toList | _ => []) f.nm = some f.val := by
  intro f
  cases f <;> kernel_rfl
end Qu69
end

section
open PySem PySem.W PySem.W.X PySem.Calls PyProof.Rows PyProof.V
namespace Qu69

theorem isStr_atn {a b : Nat} (h : atn a = atn b) : a = b := by
  have key : ∀ a b : Nat, a < 5 → b < 5 → atn a = atn b → a = b := by
    intro a b ha hb
    have ha' : a = 0 ∨ a = 1 ∨ a = 2 ∨ a = 3 ∨ a = 4 := by omega
    have hb' : b = 0 ∨ b = 1 ∨ b = 2 ∨ b = 3 ∨ b = 4 := by omega
    rcases ha' with rfl | rfl | rfl | rfl | rfl <;> rcases hb' with rfl | rfl | rfl | rfl | rfl <;> first | (intro _; rfl) | decide
  have low : ∀ a b : Nat, a < 5 → atn a ≠ atn (b + 5) := by
    intro a b ha
    have ha' : a = 0 ∨ a = 1 ∨ a = 2 ∨ a = 3 ∨ a = 4 := by omega
    have e : (atn (b + 5)).cps[0]? = some 0 := by unfold atn; rfl
    intro hh
    rw [← hh] at e
    rcases ha' with rfl | rfl | rfl | rfl | rfl <;> revert e <;> decide
  by_cases ha : a < 5
  · by_cases hb : b < 5
    · exact key a b ha hb h
    · exact absurd (by rw [show b = (b - 5) + 5 by omega] at h; exact h) (low a (b - 5) ha)
  · by_cases hb : b < 5
    · exact absurd (by rw [show a = (a - 5) + 5 by omega] at h; exact h.symm) (low b (a - 5) hb)
    · rw [show a = (a - 5) + 5 by omega, show b = (b - 5) + 5 by omega] at h
      have e : (atn (a - 5 + 5)).cps[1]? = (atn (b - 5 + 5)).cps[1]? := by rw [h]
      have e1 : (atn (a - 5 + 5)).cps[1]? = some (a - 5) := by unfold atn; rfl
      have e2 : (atn (b - 5 + 5)).cps[1]? = some (b - 5) := by unfold atn; rfl
      rw [e1, e2] at e
      have := Option.some.inj e
      omega

section
variable {P : Params}
theorem isStr_str {x y : Str} {t : Tok} : (Value.str x t).isStr y = decide (x = y) := by
  show (x == y) = _
  by_cases h : x = y <;> simp [h]
theorem entry_isStr {k k' : Nat} {v : Value} {e : DictEntry} (h : EntryIs P k v e) : e.key.isStr (atn k') = decide (k = k') := by
  obtain ⟨_, ⟨t, hk⟩, _⟩ := h
  rw [hk, isStr_str]
  by_cases q : k = k'
  · subst q; simp
  · rw [decide_eq_false q, decide_eq_false fun e => q (isStr_atn e)]
theorem entries_find : ∀ {ks : List Nat} {vs : List Value} {es : List DictEntry} {k i : Nat} {v : Value}, EntriesAre P ks vs es → ks.idxOf k = i → ks[i]? = some k → vs[i]? = some v → ∃ e, es.find? (·.key.isStr (atn k)) = some e ∧ e.val = v
  | [], _, _, _, _, _, _, _, h, _ => by simp at h
  | x :: ks, [], _, _, _, _, he, _, _, _ => by unfold EntriesAre at he; exact he.elim
  | x :: ks, u :: vs, [], _, _, _, he, _, _, _ => by unfold EntriesAre at he; exact he.elim
  | x :: ks, u :: vs, e :: es, k, i, v, he, hi, hk, hv => by
    unfold EntriesAre at he
    have h1 := entry_isStr (k' := k) he.1
    rw [List.find?_cons, h1]
    by_cases q : x = k
    · subst q
      rw [List.idxOf_cons, show (x == x) = true from by simp] at hi
      subst hi
      simp only [cond_true, List.getElem?_cons_zero, Option.some.injEq] at hv
      simp only [decide_true]
      exact ⟨e, rfl, by rw [he.1.2.2, hv]⟩
    · rw [decide_eq_false q]
      rw [List.idxOf_cons, show (x == k) = false from by simpa using q] at hi
      simp only [cond_false] at hi
      cases i with
      | zero => omega
      | succ i =>
        simp only [List.getElem?_cons_succ] at hk hv
        exact entries_find he.2 (by omega) hk hv
theorem entries_none : ∀ {ks : List Nat} {vs : List Value} {es : List DictEntry} {k : Nat}, EntriesAre P ks vs es → ks.contains k = false → ∀ e ∈ es, e.key.isStr (atn k) = false
  | [], [], [], _, _, _ => fun _ h => (nomatch h)
  | [], [], _ :: _, _, he, _ => by unfold EntriesAre at he; exact he.elim
  | [], _ :: _, _, _, he, _ => by unfold EntriesAre at he; exact he.elim
  | _ :: _, [], _, _, he, _ => by unfold EntriesAre at he; exact he.elim
  | _ :: _, _ :: _, [], _, he, _ => by unfold EntriesAre at he; exact he.elim
  | x :: ks, u :: vs, e :: es, k, he, hc => by
    unfold EntriesAre at he
    rw [List.contains_cons, Bool.or_eq_false_iff] at hc
    intro e' he'
    rcases List.mem_cons.mp he' with rfl | he'
    · rw [entry_isStr he.1]; exact decide_eq_false (fun h => by subst h; simp at hc)
    · exact entries_none he.2 hc.2 e' he'
theorem entries_refKey : ∀ {ks : List Nat} {vs : List Value} {es : List DictEntry}, EntriesAre P ks vs es → es.any (·.refKey) = false
  | [], [], [], _ => rfl
  | [], [], _ :: _, he => by unfold EntriesAre at he; exact he.elim
  | [], _ :: _, _, he => by unfold EntriesAre at he; exact he.elim
  | _ :: _, [], _, he => by unfold EntriesAre at he; exact he.elim
  | _ :: _, _ :: _, [], he => by unfold EntriesAre at he; exact he.elim
  | x :: ks, u :: vs, e :: es, he => by
    unfold EntriesAre at he
    obtain ⟨t, hk⟩ := he.1.2.1
    rw [List.any_cons, entries_refKey he.2, DictEntry.refKey, hk]; rfl
theorem entries_len : ∀ {ks : List Nat} {vs : List Value} {es : List DictEntry}, EntriesAre P ks vs es → es.length = ks.length
  | [], [], [], _ => rfl
  | [], [], _ :: _, he => by unfold EntriesAre at he; exact he.elim
  | [], _ :: _, _, he => by unfold EntriesAre at he; exact he.elim
  | _ :: _, [], _, he => by unfold EntriesAre at he; exact he.elim
  | _ :: _, _ :: _, [], he => by unfold EntriesAre at he; exact he.elim
  | x :: ks, u :: vs, e :: es, he => by
    unfold EntriesAre at he
    rw [List.length_cons, List.length_cons, entries_len he.2]
theorem entries_snoc {k : Nat} {v : Value} {e : DictEntry} (h : EntryIs P k v e) : ∀ {ks : List Nat} {vs : List Value} {es : List DictEntry}, EntriesAre P ks vs es → EntriesAre P (ks ++ [k]) (vs ++ [v]) (es ++ [e])
  | [], [], [], _ => ⟨h, trivial⟩
  | [], [], _ :: _, he => by unfold EntriesAre at he; exact he.elim
  | [], _ :: _, _, he => by unfold EntriesAre at he; exact he.elim
  | _ :: _, [], _, he => by unfold EntriesAre at he; exact he.elim
  | _ :: _, _ :: _, [], he => by unfold EntriesAre at he; exact he.elim
  | x :: ks, u :: vs, e' :: es, he => by
    unfold EntriesAre at he
    exact ⟨he.1, entries_snoc h he.2⟩
theorem putL_new {name : Str} {hsh : Int} {key v : Value} : ∀ {es : List DictEntry}, (∀ e ∈ es, e.key.isStr name = false) → putL name hsh key v es = es ++ [⟨hsh, key, v⟩]
  | [], _ => rfl
  | e :: r, h => by
    unfold putL
    rw [h e List.mem_cons_self, if_neg Bool.false_ne_true, putL_new fun e' he' => h e' (List.mem_cons_of_mem _ he')]; rfl
end

section
variable {prog : Program} {w : World}
theorem sa_of {K : Frag} {hB : Heap} (X : K.In hB) (hs : findIn K (.ref C0) "__setattr__" = some (some (.builtin "object.__setattr__"))) (hp : plainOver K C0 = true) (hh : (clsIn K C0).any (·.hasDict) = true) (ht : ∀ k, k ≤ 4 → takerIn K C0 (atn k) = some none) :
    Sa prog w ⟨w.params, C0, 0⟩ hB := by
  intro k A s Q a dx es n ks vs v kB ha hdx he hc hlen hk4 _ _ hne q
  obtain ⟨cd, hcd, hd'⟩ := any_some hh
  have Xs := X.keeps kB
  have I : InstAt s.heap a (instObj C0 dx) C0 (some (dictOf es n)) := ⟨ha, rfl, rfl, hdx⟩
  refine set_plain Xs I hs (osa_open (s := { s with toks := s.toks + 1 }) Xs I hp (ht k hk4) fun b => ?_)
  dsimp only
  refine wpAny_bind (wpAny_pure (wpAny_bind (wpAny_bind (wpAny_loadPart ha (wpAny_bind (looks_clsIn Xs hcd _ _ _ _ (fun _ _ e => e) ?_))))))
  rw [hd']
  refine wpAny_pure (a := some dx) (wpAny_bind (wpAny_pure (wpAny_bind ?_)))
  unfold nsSet
  refine wpAny_bind (wpAny_bind (wpAny_askSetting (wpAny_pure (wpAny_bind (wpAny_mkText (wpAny_bind (wpAny_loadPart hdx ?_)))))))
  dsimp only
  have hno := entries_none he hc
  have hrk := entries_refKey he
  have c1 : (!(es.toArray.any (·.key.isStr (atn k))) && es.toArray.any (·.refKey)) = false := by
    rw [← Array.any_toList, ← Array.any_toList]
    show (!(es.any _) && es.any _) = false
    rw [hrk, Bool.and_false]
  rw [aRefKeyMayBeTheName_at, c1]
  have hput : ∀ tk, Obj.putName (atn k) (PyData.keyHash w.params (atn k)) (.str (atn k) tk) v (dictOf es n) = dictOf (es ++ [⟨PyData.keyHash w.params (atn k), .str (atn k) tk, v⟩]) (putN (atn k) es n) := fun tk => by
    rw [putName_dict, putL_new hno]
  refine wpAny_updatePart hdx ?_
  have hl := entries_len he
  have D' : (s.heap.update dx (Obj.putName (atn k) (PyData.keyHash w.params (atn k)) (.str (atn k) (s.toks + 1)) v)).get? dx = some (dictOf (es ++ [⟨PyData.keyHash w.params (atn k), .str (atn k) (s.toks + 1), v⟩]) (putN (atn k) es n)) := by
    rw [Heap.get?_update_self _ hdx (by rw [hput]; rfl), hput]
  refine wpAny_bind (wpAny_lookBehind D' (pastItsLine_dict (by rw [List.size_toArray, List.length_append, sizeLine_eq]; simp; omega)) ?_)
  exact wpAny_pure (q _ _ _ _ (Heap.SameBut.update ..) D' (entries_snoc (k := k) (v := v) (e := ⟨PyData.keyHash w.params (atn k), .str (atn k) (s.toks + 1), v⟩) ⟨rfl, ⟨_, rfl⟩, rfl⟩ he))
end
end Qu69
end

section
open PySem PySem.W PySem.W.X PySem.Calls PyProof.Rows PyProof.V
namespace Qu69

theorem lookup_encP (i : Int) : ∀ ps : List (Int × Str), Spec.lookup (.int i) (encP ps) = (ps.find? fun p => p.1 == i).map fun p => .str p.2
  | [] => rfl
  | p :: r => by
    show Spec.lookup (.int i) ((.int p.1, .str p.2) :: encP r) = _
    rw [Spec.lookup, List.find?_cons]
    have : Spec.same (.int p.1) (.int i) = (p.1 == i) := by rw [Spec.same]
    rw [this]
    cases p.1 == i with
    | true => rfl
    | false => simp only [Bool.false_eq_true, if_false]; exact lookup_encP i r

section
variable {w : World} {h : Heap} {T : KT} {L : Log}
theorem fn_at (X : Fin1 w h T L) {r : FRow} (hr : r ∈ fRows) : FnIs h r.a (fdT T r) := by
  have e := List.map_inj_left.mp X.fns r hr
  unfold funcT at e
  split at e
  · rename_i c d fd sl ho
    cases e
    refine ⟨⟨_, X.rep.obj _ _ ho, rfl⟩, ?_⟩
    exact codeT_of X.rep (List.all_eq_true.mp X.ok.code r hr)
  · cases e
theorem keeper_fn {prog : Program} {a : Addr} {o : Obj} {fd : FuncData} (ho : h.get? a = some o) (hd : o.data = .func fd) : Looks (model prog w) h (keeperOf (.ref a)) .frame := by
  refine (Looks.ld (part := none) ho).andThen ?_
  rw [hd]
  exact .now
theorem keeper_cls {prog : Program} {C : Addr} (Y : Makes (model prog w) h C) : Looks (model prog w) h (keeperOf (.ref C)) .machine := by
  obtain ⟨oc, od, cd, sl, hC, _⟩ := Y.obj
  refine (Looks.ld (part := none) hC).andThen ?_
  refine Y.call.andThen ?_
  rw [if_pos (by simp)]
  exact .now

theorem makes_at (X : Fin1 w h T L) {h' : Heap} (k : ∀ b o, h.get? b = some o → h'.get? b = some o) : Makes (model prg w) h' C0 := makes_of ((kfr_in X.rep).keeps k) X.ok.mkC

theorem zip_get {α β : Type} : ∀ {l : List α} {m : List β} {k : Nat} {y : β}, m[k]? = some y → m.length ≤ l.length → ∃ x, l[k]? = some x ∧ (x, y) ∈ l.zip m
  | [], [], _, _, h, _ => by simp at h
  | [], _ :: _, _, _, _, h => by simp at h
  | x :: l, [], _, _, h, _ => by simp at h
  | x :: l, y :: m, 0, z, h, _ => by simp only [List.getElem?_cons_zero, Option.some.injEq] at h; subst h; exact ⟨x, rfl, List.mem_cons_self⟩
  | x :: l, y :: m, k + 1, z, h, hl => by
    simp only [List.getElem?_cons_succ] at h ⊢
    obtain ⟨x', h1, h2⟩ := zip_get (l := l) h (by simpa using hl)
    exact ⟨x', h1, List.mem_cons_of_mem _ h2⟩

theorem gl_of (X : Fin1 w h T L) {Tb : Tab} (hgi : Tb.gi = giT) (hfn : Tb.fns = fnT) (hst : Tb.st = stT) (hb3 : Tb.b3 = b3T) : Gl prg w ⟨w.params, C0, 0⟩ h (mgL (nsE T 3)) (mgL (nsE T 0)) Tb := by
  have K := kfr_in X.rep
  refine ⟨ns_of X.rep X.ok.ns3, ns_of X.rep X.ok.ns0, ⟨_, ns_of X.rep X.ok.ns2, ?_⟩, ?_, ?_, ?_, ?_, refIs_inv X.ok.cref, ?_, ?_, ?_⟩
  · have := X.ok.st2
    rw [List.isEmpty_iff] at this
    show mgL (nsE T 2) _ = none
    unfold mgL
    rw [this]; rfl
  · intro k x i hk
    rw [hgi] at hk
    exact intIs_inv (List.all_eq_true.mp X.ok.gi (x, i) (List.mem_of_getElem? hk))
  · intro f
    refine ⟨?_, ?_⟩
    · have := List.all_eq_true.mp X.ok.bl f (by cases f <;> simp)
      exact Option.isNone_iff_eq_none.mp this
    · have h0 : T.get 0 = some (boot_o_0 w.params) := by have := X.old; simp only [List.cons.injEq] at this; exact this.1
      have := boot_blt w.params f
      unfold nsE
      rw [h0]
      exact this
  · intro k x hk
    rw [hfn] at hk
    obtain ⟨r, hr, hm⟩ := zip_get (l := fRows) hk (by decide)
    have := List.all_eq_true.mp X.ok.fref (r, x) hm
    rw [Bool.or_eq_true] at this
    rcases this with e | e
    · have e' : x = "Whitespace" := by simpa using e
      subst e'
      exact ⟨C0, refIs_inv X.ok.cref, _, .inr (.inl rfl), keeper_cls (makes_at X fun _ _ e => e)⟩
    · obtain ⟨o, ho, hd⟩ := (fn_at X (List.mem_of_getElem? hr)).at_
      exact ⟨r.a, refIs_inv e, _, .inl rfl, keeper_fn ho hd⟩
  · intro k x l hk
    rw [hst] at hk
    have key : ∀ (a : Addr) (l : List Int), (a, l) ∈ L → ∀ (A : Around) (s : Shared) (i : Int) (t : Tok) (Q : Value → Shared → Prop), Keeps h s.heap → (∀ tk, Q (.bool (l.contains i)) { s with toks := tk }) → wpAny (model prg w) A (compareOp .In (.int i t) (.ref a)) Q (fun _ _ => False) s := by
      intro a l ha A s i t Q kB q
      obtain ⟨_, n, o, es, ep, tb, ho, rest⟩ := X.rep.set _ ha
      refine wpAny_inSet_of (knd := intKind prg w) (k := i) (S := fun k => l.any (· == k)) (n := n) (intKind_is _ _ _ _) rfl ⟨o, es, ep, tb, kB _ _ ho, rest⟩ ?_
      have e : l.any (· == i) = l.contains i := by
        rw [List.contains_eq_any_beq]
        congr 1
        funext y
        by_cases hy : y = i
        · subst hy; rfl
        · rw [show (y == i) = false from by simpa using hy, show (i == y) = false from by simpa using Ne.symm hy]
      rw [e]; exact q _
    rw [X.log] at key
    match k, hk with
    | 0, hk => cases hk; exact ⟨29, refIs_inv X.ok.s1, key 29 _ (by simp)⟩
    | 1, hk => cases hk; exact ⟨101, refIs_inv X.ok.s2, key 101 _ (by simp)⟩
    | 2, hk => cases hk; exact ⟨113, refIs_inv X.ok.s3, key 113 _ (by simp)⟩
    | 3, hk => cases hk; exact ⟨137, refIs_inv X.ok.s4, key 137 _ (by simp)⟩
    | 4, hk => cases hk; exact ⟨155, refIs_inv X.ok.s5, key 155 _ (by simp)⟩
    | k + 5, hk => cases hk
  · intro k A s Q kB q
    cases k with
    | zero =>
      obtain ⟨t, e⟩ := strIs_inv X.ok.cS
      exact cls_value (K.keeps kB) X.ok.rd e rfl (q t _)
    | succ k =>
      obtain ⟨t, e⟩ := strIs_inv X.ok.cT
      exact cls_value (K.keeps kB) X.ok.rd e rfl (q t _)
  · intro k A s Q a dx es n ks vs v i hk4 kB ha hdx he h1 h2 h3 q hv
    obtain ⟨e, hf, hev⟩ := entries_find he h1 h2 h3
    have hin : findIn (kfr T) (.ref C0) (atn k) = some none := by
      have hm : atn k ∈ atNames := by
        have : k = 0 ∨ k = 1 ∨ k = 2 ∨ k = 3 ∨ k = 4 := by omega
        rcases this with rfl | rfl | rfl | rfl | rfl <;> simp [atn, atNames]
      exact beq_iff_eq.mp (List.all_eq_true.mp X.ok.at1 _ hm)
    have hl : lookIn (atn k) (dictOf es n) = some (some v) := by
      rw [lookIn_dict]
      unfold getL
      rw [hf]
      simp only [hev]
    exact get_value (K.keeps kB) ⟨ha, rfl, rfl, hdx⟩ (beq_iff_eq.mp X.ok.ga) (findObj_own X.ok.hd hin rfl hl) hv (q _)
  · obtain ⟨lo, kvs, ⟨o, es, ep, ho, hex, rest⟩, hf⟩ := id X.dict
    refine ⟨40, o, refIs_inv X.ok.bref, ho, hex.1, hex.2.1, fun A s i t Q kB q => ?_⟩
    refine call_get1_intTab (X.dict.keep kB) fun v hv => q v _ ?_
    rw [lookup_encP] at hv
    rw [hb3]
    unfold b3T
    cases e : b3P.find? (fun p => p.1 == i) with
    | none =>
      rw [e] at hv
      exact .inl ⟨Flat.none_inv hv, rfl⟩
    | some p =>
      rw [e] at hv
      obtain ⟨u, rfl⟩ := Flat.str_inv hv
      exact .inr ⟨p.2, u, rfl, rfl⟩

theorem sa_at (X : Fin1 w h T L) : Sa prg w ⟨w.params, C0, 0⟩ h := by
  refine sa_of (kfr_in X.rep) (beq_iff_eq.mp X.ok.sa) X.ok.po X.ok.hd fun k hk => ?_
  have hm : atn k ∈ atNames := by
    have : k = 0 ∨ k = 1 ∨ k = 2 ∨ k = 3 ∨ k = 4 := by omega
    rcases this with rfl | rfl | rfl | rfl | rfl <;> simp [atn, atNames]
  exact beq_iff_eq.mp (List.all_eq_true.mp X.ok.at2 _ hm)
end
end Qu69
end

section
open PySem PySem.W PySem.W.X PySem.Calls PyProof.Rows PyProof.V
namespace Qu69
theorem len1 {α : Type} {l : List α} (h : l.length = 1) : ∃ a, l = [a] := List.length_eq_one_iff.mp h
theorem len2 {α : Type} {l : List α} (h : l.length = 2) : ∃ a b, l = [a, b] := by
  rcases l with _ | ⟨a, _ | ⟨b, _ | _⟩⟩ <;> simp at h
  exact ⟨a, b, rfl⟩
theorem len3 {α : Type} {l : List α} (h : l.length = 3) : ∃ a b c, l = [a, b, c] := by
  rcases l with _ | ⟨a, _ | ⟨b, _ | ⟨c, _ | _⟩⟩⟩ <;> simp at h
  exact ⟨a, b, c, rfl⟩
noncomputable def locOK (sc : Scope) (nm : List Str) (np : Nat) : Bool :=
  ((nm.take np).all fun x => sc.names.lookup x == some .local) && (nm.all fun x => sc.names.lookup x == some .local || sc.names.lookup x == some .cell) && decide nm.Nodup && !sc.isCoroutine && !sc.isGenerator && decide (sc.kind = .function)
theorem def_of {Tb : Tab} {fd : FuncData} {body : List Stmt} {nm : List Str} {np : Nat} {ir : ISs} (h1 : fd.body = .stmts body) (h2 : fd.globals = mainGlobals) (h3 : fd.closure = []) (h4 : fd.builtins = builtinsNs)
    (h5 : ∀ vs : List Value, vs.length = np → bindArgs fd ⟨vs, []⟩ = pure ((nm.take np).zip vs)) (h6 : locOK fd.scope nm np = true) (h7 : chkSs Tb fd.scope nm ir body = true) : DefOK Tb fd body nm np ir := by
  unfold locOK at h6
  simp only [Bool.and_eq_true, List.all_eq_true, Bool.or_eq_true, beq_iff_eq, decide_eq_true_eq, Bool.not_eq_true'] at h6
  obtain ⟨⟨⟨⟨⟨a1, a2⟩, a3⟩, a4⟩, a5⟩, a6⟩ := h6
  exact ⟨h1, h2, h3, h4, h5, a1, a2, a3, a4, a5, a6, h7⟩

theorem def_b1 (T : KT) (F : Nat → List D → Option D) : DefOK (mkT F) (fdT T ⟨39, 3, "in_table_b1"⟩) (fp 3).body nm_b1 1 ir_b1 :=
  def_of rfl rfl rfl rfl (fun vs hl => by
    obtain ⟨v, rfl⟩ := len1 hl
    kernel_rfl) (by kernel_rfl) (by kernel_rfl)
theorem def_b3 (T : KT) (F : Nat → List D → Option D) : DefOK (mkT F) (fdT T ⟨85, 5, "map_table_b3"⟩) (fp 5).body nm_b3 1 ir_b3 :=
  def_of rfl rfl rfl rfl (fun vs hl => by
    obtain ⟨v, rfl⟩ := len1 hl
    kernel_rfl) (by kernel_rfl) (by kernel_rfl)
theorem def_c11 (T : KT) (F : Nat → List D → Option D) : DefOK (mkT F) (fdT T ⟨92, 6, "in_table_c11"⟩) (fp 6).body nm_c11 1 ir_c11 :=
  def_of rfl rfl rfl rfl (fun vs hl => by
    obtain ⟨v, rfl⟩ := len1 hl
    kernel_rfl) (by kernel_rfl) (by kernel_rfl)
theorem def_c4 (T : KT) (F : Nat → List D → Option D) : DefOK (mkT F) (fdT T ⟨99, 7, "in_table_c4"⟩) (fp 7).body nm_c4 1 ir_c4 :=
  def_of rfl rfl rfl rfl (fun vs hl => by
    obtain ⟨v, rfl⟩ := len1 hl
    kernel_rfl) (by kernel_rfl) (by kernel_rfl)
theorem def_c6 (T : KT) (F : Nat → List D → Option D) : DefOK (mkT F) (fdT T ⟨111, 9, "in_table_c6"⟩) (fp 9).body nm_c6 1 ir_c6 :=
  def_of rfl rfl rfl rfl (fun vs hl => by
    obtain ⟨v, rfl⟩ := len1 hl
    kernel_rfl) (by kernel_rfl) (by kernel_rfl)
theorem def_c7 (T : KT) (F : Nat → List D → Option D) : DefOK (mkT F) (fdT T ⟨123, 11, "in_table_c7"⟩) (fp 11).body nm_c7 1 ir_c7 :=
  def_of rfl rfl rfl rfl (fun vs hl => by
    obtain ⟨v, rfl⟩ := len1 hl
    kernel_rfl) (by kernel_rfl) (by kernel_rfl)
theorem def_c8 (T : KT) (F : Nat → List D → Option D) : DefOK (mkT F) (fdT T ⟨147, 13, "in_table_c8"⟩) (fp 13).body nm_c8 1 ir_c8 :=
  def_of rfl rfl rfl rfl (fun vs hl => by
    obtain ⟨v, rfl⟩ := len1 hl
    kernel_rfl) (by kernel_rfl) (by kernel_rfl)
theorem def_c9 (T : KT) (F : Nat → List D → Option D) : DefOK (mkT F) (fdT T ⟨165, 15, "in_table_c9"⟩) (fp 15).body nm_c9 1 ir_c9 :=
  def_of rfl rfl rfl rfl (fun vs hl => by
    obtain ⟨v, rfl⟩ := len1 hl
    kernel_rfl) (by kernel_rfl) (by kernel_rfl)
theorem def_sub (T : KT) (F : Nat → List D → Option D) : DefOK (mkT F) (fdT T ⟨238, 22, "_substitution_cost"⟩) (fp 22).body nm_sub 2 ir_sub :=
  def_of rfl rfl rfl rfl (fun vs hl => by
    obtain ⟨v, v2, rfl⟩ := len2 hl
    kernel_rfl) (by kernel_rfl) (by kernel_rfl)
theorem def_lev (T : KT) (F : Nat → List D → Option D) : DefOK (mkT F) (fdT T ⟨245, 23, "_levenshtein_distance"⟩) (fp 23).body nm_lev 3 ir_lev :=
  def_of rfl rfl rfl rfl (fun vs hl => by
    obtain ⟨v, v2, v3, rfl⟩ := len3 hl
    kernel_rfl) (by kernel_rfl) (by kernel_rfl)
theorem def_item (T : KT) (F : Nat → List D → Option D) : DefOK (mkT F) (fdT T ⟨252, 25, "_law_item"⟩) (fp 25).body nm_item 2 ir_item :=
  def_of rfl rfl rfl rfl (fun vs hl => by
    obtain ⟨v, v2, rfl⟩ := len2 hl
    kernel_rfl) (by kernel_rfl) (by kernel_rfl)
theorem def_least (T : KT) (F : Nat → List D → Option D) : DefOK (mkT F) (fdT T ⟨259, 26, "_law_least"⟩) (fp 26).body nm_least 1 ir_least :=
  def_of rfl rfl rfl rfl (fun vs hl => by
    obtain ⟨v, rfl⟩ := len1 hl
    kernel_rfl) (by kernel_rfl) (by kernel_rfl)
theorem def_values (T : KT) (F : Nat → List D → Option D) : DefOK (mkT F) (fdT T ⟨266, 27, "_law_values"⟩) (fp 27).body nm_values 1 ir_values :=
  def_of rfl rfl rfl rfl (fun vs hl => by
    obtain ⟨v, rfl⟩ := len1 hl
    kernel_rfl) (by kernel_rfl) (by kernel_rfl)
theorem def_worth (T : KT) (F : Nat → List D → Option D) : DefOK (mkT F) (fdT T ⟨273, 28, "_law_worth"⟩) (fp 28).body nm_worth 2 ir_worth :=
  def_of rfl rfl rfl rfl (fun vs hl => by
    obtain ⟨v, v2, rfl⟩ := len2 hl
    kernel_rfl) (by kernel_rfl) (by kernel_rfl)
theorem def_knocks (T : KT) (F : Nat → List D → Option D) : DefOK (mkT F) (fdT T ⟨280, 29, "_law_knocks"⟩) (fp 29).body nm_knocks 1 ir_knocks :=
  def_of rfl rfl rfl rfl (fun vs hl => by
    obtain ⟨v, rfl⟩ := len1 hl
    kernel_rfl) (by kernel_rfl) (by kernel_rfl)
theorem def_init (T : KT) (F : Nat → List D → Option D) : DefOK (mkT F) (fdT T ⟨182, 17, "Whitespace.__init__"⟩) (fp 17).body nm_init 2 ir_init :=
  def_of rfl rfl rfl rfl (fun vs hl => by
    obtain ⟨v, v2, rfl⟩ := len2 hl
    kernel_rfl) (by kernel_rfl) (by kernel_rfl)
theorem def_law (T : KT) (F : Nat → List D → Option D) : DefOK (mkT F) (fdT T ⟨285, 30, "law"⟩) (fp 30).body nm_law 1 ir_law :=
  def_of rfl rfl rfl rfl (fun vs hl => by
    obtain ⟨v, rfl⟩ := len1 hl
    kernel_rfl) (by kernel_rfl) (by kernel_rfl)
end Qu69
end

section
open PySem PySem.W PySem.W.X PySem.Calls PyProof.Rows PyProof.V
namespace Qu69
section
variable {w : World} {h : Heap} {T : KT} {L : Log}
theorem mkT_gi (F : Nat → List D → Option D) : (mkT F).gi = giT := by unfold mkT; with_reducible rfl
theorem mkT_fns (F : Nat → List D → Option D) : (mkT F).fns = fnT := by unfold mkT; with_reducible rfl
theorem mkT_st (F : Nat → List D → Option D) : (mkT F).st = stT := by unfold mkT; with_reducible rfl
theorem mkT_b3 (F : Nat → List D → Option D) : (mkT F).b3 = b3T := by unfold mkT; with_reducible rfl
noncomputable abbrev cx (w : World) : Cx := ⟨w.params, C0, 0⟩
theorem addr_of (X : Fin1 w h T L) {k : Nat} {r : FRow} {x : Str} {a : Addr} (hr : fRows[k]? = some r) (hx : fnT[k]? = some x) (hn : (x == ("Whitespace" : Str)) = false) (ha : mgL (nsE T 3) x = some (.ref a)) : a = r.a := by
  obtain ⟨r', hr', hm⟩ := zip_get (l := fRows) hx (by decide)
  rw [hr] at hr'
  cases hr'
  have := List.all_eq_true.mp X.ok.fref (r, x) hm
  rw [Bool.or_eq_true] at this
  rcases this with e | e
  · have e : (x == ("Whitespace" : Str)) = true := e
    rw [hn] at e; cases e
  · have e := refIs_inv e
    have e : mgL (nsE T 3) x = some (.ref r.a) := e
    rw [ha] at e; cases e; rfl
theorem run_one (X : Fin1 w h T L) {F : Nat → List D → Option D} {n : Nat} (hF : FOK prg w (cx w) h (mgL (nsE T 3)) (mkT F) n) {r : FRow} (hr : r ∈ fRows) {body : List Stmt} {nm : List Str} {np : Nat} {ir : ISs} (O : DefOK (mkT F) (fdT T r) body nm np ir) {ds : List D} {d : D}
    (e : runF np nm (mkT F) ir ds = some d) {A : Around} {g : PH} {s : Shared} {vs : List Value} (hA : AOk (n + 1) A) (hb : PH.Le h.get? g) (hs : PH.Le g s.heap.get?) (rp : RepL (cx w) g vs ds) : EvP prg w (cx w) A g s (call (.ref r.a) vs) d := by
  unfold runF at e
  split at e
  · rename_i hl
    split at e
    · rename_i d' rho' ex
      cases e
      exact fn_sound (gl_of (Tb := mkT F) X (mkT_gi _) (mkT_fns _) (mkT_st _) (mkT_b3 _)) hF (sa_at X) (fn_at X hr) O hl ex hA hb hs rp
    · cases e
  · cases e
theorem run_cls (X : Fin1 w h T L) {n : Nat} {ds : List D} {d : D} (e : iniF T0t ds = some d) {A : Around} {g : PH} {s : Shared} {vs : List Value} (hA : AOk (n + 1) A) (hb : PH.Le h.get? g) (hs : PH.Le g s.heap.get?) (rp : RepL (cx w) g vs ds) :
    EvP prg w (cx w) A g s (call (.ref C0) vs) d := by
  unfold iniF at e
  split at e
  · rename_i d0
    split at e
    · rename_i rho ex
      split at e
      · rename_i ks ds' hs0
        cases e
        obtain ⟨v, rfl, r1⟩ := args1 rp
        have K := kfr_in X.rep
        exact cls_sound (c := cx w) (T := mkT F0) (gl_of (Tb := mkT F0) X (mkT_gi _) (mkT_fns _) (mkT_st _) (mkT_b3 _)) (fun _ _ => rfl) (sa_at X) (fun h' k => makes_at X k) (looks_findIn K (beq_iff_eq.mp X.ok.fi)) (fun self => bind_fn K self (beq_iff_eq.mp X.ok.ft)) (fn_at X (r := ⟨182, 17, "Whitespace.__init__"⟩) (by simp [fRows])) (def_init T F0) (by decide) ex hs0 hA hb hs r1
      · cases e
    · cases e
  · cases e

theorem fok_zero : FOK prg w (cx w) h (mgL (nsE T 3)) T0t 0 := fun k x a ds d _ _ e => by cases e
theorem fok_step (X : Fin1 w h T L) {F : Nat → List D → Option D} {n : Nat} (hF : FOK prg w (cx w) h (mgL (nsE T 3)) (mkT F) n) : FOK prg w (cx w) h (mgL (nsE T 3)) (mkT (stepF (mkT F))) (n + 1) := by
  intro k x a ds d hx ha e A g s vs hA hb hs rp
  have hx : fnT[k]? = some x := hx
  have e : stepF (mkT F) k ds = some d := e
  match k, hx, e with
  | 0, hx, e =>
    have hx' := hx
    cases hx
    have := addr_of X (k := 0) rfl hx' (by decide) ha
    subst this
    exact run_one X hF (List.mem_of_getElem? (i := 0) rfl) (def_b1 T F) e hA hb hs rp
  | 1, hx, e =>
    have hx' := hx
    cases hx
    have := addr_of X (k := 1) rfl hx' (by decide) ha
    subst this
    exact run_one X hF (List.mem_of_getElem? (i := 1) rfl) (def_b3 T F) e hA hb hs rp
  | 2, hx, e =>
    have hx' := hx
    cases hx
    have := addr_of X (k := 2) rfl hx' (by decide) ha
    subst this
    exact run_one X hF (List.mem_of_getElem? (i := 2) rfl) (def_c11 T F) e hA hb hs rp
  | 3, hx, e =>
    have hx' := hx
    cases hx
    have := addr_of X (k := 3) rfl hx' (by decide) ha
    subst this
    exact run_one X hF (List.mem_of_getElem? (i := 3) rfl) (def_c4 T F) e hA hb hs rp
  | 4, hx, e =>
    have hx' := hx
    cases hx
    have := addr_of X (k := 4) rfl hx' (by decide) ha
    subst this
    exact run_one X hF (List.mem_of_getElem? (i := 4) rfl) (def_c6 T F) e hA hb hs rp
  | 5, hx, e =>
    have hx' := hx
    cases hx
    have := addr_of X (k := 5) rfl hx' (by decide) ha
    subst this
    exact run_one X hF (List.mem_of_getElem? (i := 5) rfl) (def_c7 T F) e hA hb hs rp
  | 6, hx, e =>
    have hx' := hx
    cases hx
    have := addr_of X (k := 6) rfl hx' (by decide) ha
    subst this
    exact run_one X hF (List.mem_of_getElem? (i := 6) rfl) (def_c8 T F) e hA hb hs rp
  | 7, hx, e =>
    have hx' := hx
    cases hx
    have := addr_of X (k := 7) rfl hx' (by decide) ha
    subst this
    exact run_one X hF (List.mem_of_getElem? (i := 7) rfl) (def_c9 T F) e hA hb hs rp
  | 8, hx, e =>
    have hx' := hx
    cases hx
    have := addr_of X (k := 8) rfl hx' (by decide) ha
    subst this
    exact run_one X hF (List.mem_of_getElem? (i := 8) rfl) (def_sub T F) e hA hb hs rp
  | 9, hx, e =>
    have hx' := hx
    cases hx
    have := addr_of X (k := 9) rfl hx' (by decide) ha
    subst this
    exact run_one X hF (List.mem_of_getElem? (i := 9) rfl) (def_lev T F) e hA hb hs rp
  | 10, hx, e =>
    have hx' := hx
    cases hx
    have := addr_of X (k := 10) rfl hx' (by decide) ha
    subst this
    exact run_one X hF (List.mem_of_getElem? (i := 10) rfl) (def_item T F) e hA hb hs rp
  | 11, hx, e =>
    have hx' := hx
    cases hx
    have := addr_of X (k := 11) rfl hx' (by decide) ha
    subst this
    exact run_one X hF (List.mem_of_getElem? (i := 11) rfl) (def_least T F) e hA hb hs rp
  | 12, hx, e =>
    have hx' := hx
    cases hx
    have := addr_of X (k := 12) rfl hx' (by decide) ha
    subst this
    exact run_one X hF (List.mem_of_getElem? (i := 12) rfl) (def_values T F) e hA hb hs rp
  | 13, hx, e =>
    have hx' := hx
    cases hx
    have := addr_of X (k := 13) rfl hx' (by decide) ha
    subst this
    exact run_one X hF (List.mem_of_getElem? (i := 13) rfl) (def_worth T F) e hA hb hs rp
  | 14, hx, e =>
    have hx' := hx
    cases hx
    have := addr_of X (k := 14) rfl hx' (by decide) ha
    subst this
    exact run_one X hF (List.mem_of_getElem? (i := 14) rfl) (def_knocks T F) e hA hb hs rp
  | 15, hx, e =>
    cases hx
    have : mgL (nsE T 3) "Whitespace" = some (.ref C0) := refIs_inv X.ok.cref
    rw [this] at ha
    cases ha
    exact run_cls X e hA hb hs rp
  | k + 16, hx, e => cases hx
theorem fok1 (X : Fin1 w h T L) : FOK prg w (cx w) h (mgL (nsE T 3)) T1 1 := fok_step X fok_zero
theorem fok2 (X : Fin1 w h T L) : FOK prg w (cx w) h (mgL (nsE T 3)) T2 2 := fok_step X (fok1 X)
end
end Qu69
end

section
open PySem PySem.W PySem.W.X PySem.Calls PyProof.Rows PyProof.V
namespace Qu69
abbrev lw : OpenLaw := PySem.Challenge.rw_qu0069_01

theorem ints_items {R : WRecords} : ∀ {xs : List WData}, WShape.hasItems R xs .int = true → ∃ ns : List Int, xs = ofPys (ns.map PyData.int)
  | [], _ => ⟨[], rfl⟩
  | x :: xs, h => by
    rw [WShape.hasItems, Bool.and_eq_true] at h
    obtain ⟨ns, rfl⟩ := ints_items h.2
    have h1 := h.1
    obtain ⟨i, rfl⟩ := hasW_int h1
    exact ⟨i :: ns, rfl⟩

theorem args_of {args : List WData} (hpre : lw.row.toRowW.claim.pre args = true) : ∃ ns : List Int, ns.length ≤ 63 ∧ args = [ofPy (.list (ns.map PyData.int))] := by
  obtain ⟨h1, h2⟩ := pre_splitW hpre
  have h1 : WShape.hasAll [] args [.list .int] = true := h1
  obtain ⟨d, r, rfl, h3, h4⟩ := hasAllW_cons h1
  have := hasAllW_nil h4
  subst this
  obtain ⟨xs, rfl, h5⟩ := hasW_list h3
  obtain ⟨ns, rfl⟩ := ints_items h5
  refine ⟨ns, ?_, rfl⟩
  have h2 : (WTm.and (.not (.lt (.lit (.int 63)) (.len (.arg 0)))) (.lit (.bool true))).holds [] { args := [.list (ofPys (ns.map PyData.int))] } = true := h2
  rw [ofPys_eq] at h2
  by_cases hl : ns.length ≤ 63
  · exact hl
  · have hd : decide ((63 : Int) < ((List.map ofPy (List.map PyData.int ns)).length : Int)) = true := by
      rw [decide_eq_true_eq, List.length_map, List.length_map]; omega
    have e : (WTm.not (.lt (.lit (.int 63)) (.len (.arg 0)))).value [] { args := [.list ((ns.map PyData.int).map ofPy)] } = some (.bool false) := by
      simp only [WTm.value, less?, Num.less?, List.getElem?_cons_zero, hd, Option.map_some, Bool.not_true]
    unfold WTm.holds at h2
    rw [WTm.value, e] at h2
    cases h2
end Qu69
end

section
open PySem PySem.W PySem.W.X PySem.Calls PyProof.Rows PyProof.V
namespace Qu69

/-- the plain law: no program in sight -/
noncomputable def PlainLaw : Prop := ∀ ns : List Int, ns.length ≤ 63 → ∃ rho', exSs T2 ir_law (rho0 [D.list (ns.map D.int)] (nm_law.length - 1)) = some (.ret (.bool true), rho')

theorem reads_ints {R : WRecords} {cl : Str → Option Addr} {h : Heap} {c : Cx} {g : PH} : ∀ {ns : List Int} {vs : List Value} {as : List Addr}, ReadsAllW R cl h vs (ofPys (ns.map PyData.int)) as → RepL c g vs (ns.map D.int)
  | [], vs, as, r => by cases r; exact .nil
  | n :: ns, vs, as, r => by
    have r : ReadsAllW R cl h vs (.int n :: ofPys (ns.map PyData.int)) as := r
    cases r with
    | cons r1 r2 =>
      cases r1 with
      | int i t => exact .cons (.int _ _) (reads_ints r2)

section
variable {w : World} {h : Heap} {T : KT} {L : Log}
theorem law_call (plain : PlainLaw) (X : Fin1 w h T L) {s s₁ : Shared} (hh : s.heap = h) {ns : List Int} (hns : ns.length ≤ 63) {vs : List Value} {as : List Addr} (La : Laid [] w s s₁ [ofPy (.list (ns.map PyData.int))] vs as) {Q : Value → Shared → Prop} {E : Value → Shared → Prop}
    (q : ∀ h' tk, (∀ b o, s₁.heap.get? b = some o → h'.get? b = some o) → Q (.bool true) { s₁ with heap := h', toks := tk }) : wpAny (model prg w) callerA (call (.ref 285) vs) Q E s₁ := by
  subst hh
  obtain ⟨rho', ex⟩ := plain ns hns
  have La' := La
  obtain ⟨_, reads, _, _, keeps, _, _⟩ := La'
  have reads : ReadsAllW [] (classAt s.heap) s₁.heap vs [.list (ofPys (ns.map PyData.int))] as := reads
  have key : ∃ a its, vs = [.ref a] ∧ s₁.heap.IsList a its ∧ RepL (cx w) s₁.heap.get? its.toList (ns.map D.int) := by
    cases reads with
    | cons r1 r2 =>
      cases r2
      cases r1 with
      | list ho hc hd hr => exact ⟨_, _, rfl, ⟨_, ho, hc, _, hd⟩, reads_ints hr⟩
  obtain ⟨a, its, rfl, hL, hr⟩ := key
  have ho := script_obj La hL
  have rp : RepL (cx w) s₁.heap.get? [.ref a] [D.list (ns.map D.int)] := .cons (.list (vs := its.toList) (n := 0) (by rw [ho]) hr) .nil
  have hA : AOk (2 + 1) callerA := ⟨rfl, by decide +kernel, by decide +kernel⟩
  have ev : EvP prg w (cx w) callerA s₁.heap.get? s₁ (call (.ref 285) [.ref a]) (.bool true) :=
    fn_sound (gl_of (Tb := mkT (stepF T1)) X (mkT_gi _) (mkT_fns _) (mkT_st _) (mkT_b3 _)) (fok2 X) (sa_at X) (fn_at X (r := ⟨285, 30, "law"⟩) (by simp [fRows])) (def_law T (stepF T1)) rfl ex hA keeps (PH.Le.refl _) rp
  exact wpAny_mono (ev Q fun v h' tk k r => by rw [r.bool_inv]; exact q h' tk k) (fun _ _ z => z) (fun _ _ z => z.elim)
end
end Qu69
end

section
open PySem PySem.W PySem.W.X PySem.Calls PyProof.Rows PyProof.V
namespace Qu69

section
variable {w : World} {h : Heap} {T : KT} {L : Log}
theorem globalOf_eq {prog : Program} {m : Nat} (R : RepT prog w h T m L) (e : isNsT T 3 = true) (x : Str) : globalOf h x = mgL (nsE T 3) x := by
  unfold isNsT at e
  split at e
  · rename_i c d es ep sl ho
    unfold globalOf
    rw [show h.get? mainNs = some ⟨c, d, .dict es ep, sl⟩ from R.obj _ _ ho]
    unfold mgL nsE
    rw [ho]
    simp only
    rw [← Array.find?_toList]
  · cases e
theorem boot_isNs (P : Params) : isNsT (T0 P) 3 = true := by kernel_rfl
theorem boot_get (P : Params) : [(T0 P).get 0, (T0 P).get 1, (T0 P).get 2, (T0 P).get 4, (T0 P).get 5, (T0 P).get 6, (T0 P).get 7, (T0 P).get 8, (T0 P).get 9, (T0 P).get 10] = [some (boot_o_0 P), some (boot_o_1 P), some (boot_o_2 P), some (boot_o_4 P), some (boot_o_5 P), some (boot_o_6 P), some (boot_o_7 P), some (boot_o_8 P), some (boot_o_9 P), some (boot_o_10 P)] := by kernel_rfl

theorem old_at (X : Fin1 w h T L) {b : Nat} (hb : b < 11) (h3 : b ≠ 3) : ∃ o, h.get? b = some o ∧ (boot_heap w.params).get? b = some o := by
  have B := boot_rep w
  have o1 := X.old
  have o2 := boot_get w.params
  simp only [List.cons.injEq, and_true] at o1 o2
  obtain ⟨a0, a1, a2, a4, a5, a6, a7, a8, a9, a10⟩ := o1
  obtain ⟨b0, b1, b2, b4, b5, b6, b7, b8, b9, b10⟩ := o2
  have : b = 0 ∨ b = 1 ∨ b = 2 ∨ b = 4 ∨ b = 5 ∨ b = 6 ∨ b = 7 ∨ b = 8 ∨ b = 9 ∨ b = 10 := by omega
  rcases this with rfl | rfl | rfl | rfl | rfl | rfl | rfl | rfl | rfl | rfl
  · exact ⟨_, X.rep.obj _ _ a0, B.obj _ _ b0⟩
  · exact ⟨_, X.rep.obj _ _ a1, B.obj _ _ b1⟩
  · exact ⟨_, X.rep.obj _ _ a2, B.obj _ _ b2⟩
  · exact ⟨_, X.rep.obj _ _ a4, B.obj _ _ b4⟩
  · exact ⟨_, X.rep.obj _ _ a5, B.obj _ _ b5⟩
  · exact ⟨_, X.rep.obj _ _ a6, B.obj _ _ b6⟩
  · exact ⟨_, X.rep.obj _ _ a7, B.obj _ _ b7⟩
  · exact ⟨_, X.rep.obj _ _ a8, B.obj _ _ b8⟩
  · exact ⟨_, X.rep.obj _ _ a9, B.obj _ _ b9⟩
  · exact ⟨_, X.rep.obj _ _ a10, B.obj _ _ b10⟩

theorem static_none (X : Fin1 w h T L) (key : Str) : staticOf h key = none := by
  have e := X.ok.ns2
  have e2 := X.ok.st2
  unfold isNsT at e
  split at e
  · rename_i c d es ep sl ho
    unfold staticOf
    rw [show h.get? cStatics = some ⟨c, d, .dict es ep, sl⟩ from X.rep.obj _ _ ho]
    unfold nsE at e2
    rw [ho] at e2
    simp only [List.isEmpty_iff] at e2
    simp only
    rw [← Array.find?_toList, e2]; rfl
  · cases e

theorem blt_view (X : Fin1 w h T L) : h.bltView = bltViewBooted := by
  have h0 : T.get 0 = some (boot_o_0 w.params) := by have := X.old; simp only [List.cons.injEq] at this; exact this.1
  have e := X.rep.obj _ _ h0
  unfold Heap.bltView Heap.nsPairs
  rw [show h.get? builtinsNs = some (boot_o_0 w.params) from e]
  kernel_rfl
theorem isNs_of {a : Addr} (X : Fin1 w h T L) (e : isNsT T a = true) : h.isNs a = true := by
  unfold isNsT at e
  split at e
  · rename_i c d es ep sl ho
    unfold Heap.isNs
    rw [X.rep.obj _ _ ho]
    simp only
    rw [← Array.all_toList]
    rw [List.all_eq_true] at e ⊢
    intro x hx
    have := e x hx
    unfold strKey at this
    exact this
  · cases e

theorem topran (X : Fin1 w h T L) {s₀ s₁ : Shared} (h0 : s₀.heap = boot_heap w.params) (h1 : s₁.heap = h) (hrun : ∃ n t, schedN (denote table) prg w n (.single s₀ (topStub prg)) = .running (.single s₁ t) ∧ through t = true) (hlife : s₁.heap.life = s₀.heap.life) (hrest : s₁.rest = s₀.rest) (hg : s₁.gens = #[]) :
    TopRan prg w s₀ s₁ := by
  subst h1
  have hns := X.ok.ns3
  have gl := globalOf_eq X.rep hns
  have glb := globalOf_eq (boot_rep w) (boot_isNs w.params)
  refine ⟨hrun, hlife, hrest, fun b o hb hn => ?_, fun key v hv => ?_, fun key => .inl ?_, ?_, fun x hx => ?_, ?_, fun g hgm => ?_, fun x v hv => ?_, fun x hx => ?_⟩
  · rw [h0] at hb
    have lt : b < 11 := Heap.lt_size hb
    obtain ⟨o', e1, e2⟩ := old_at X lt (fun e => hn (.inl e))
    rw [hb] at e2; cases e2; exact e1
  · rw [static_none X] at hv; cases hv
  · obtain ⟨o', e1, e2⟩ := old_at X (b := 2) (by decide) (by decide)
    unfold staticOf
    rw [h0, show s₁.heap.get? cStatics = some o' from e1, show (boot_heap w.params).get? cStatics = some o' from e2]
  · obtain ⟨o, es, ep, ho, hd, hk, _⟩ := ns_of X.rep hns
    exact ⟨o, es, ep, ho, hd, fun e he => hk e he⟩
  · exact (Pin.builtinOf_eq (isNs_of X X.ok.ns0) x).trans (Heap.of_bltView (isNs_of X X.ok.ns0) (blt_view X) x hx)
  · obtain ⟨o', e1, e2⟩ := old_at X (b := 4) (by decide) (by decide)
    refine ⟨4, o', ?_, e1, ?_, ?_⟩
    · rw [gl]; exact refIs_inv X.ok.bi
    · have := boot_get w.params
      simp only [List.cons.injEq, and_true] at this
      have b4 := (boot_rep w).obj _ _ this.2.2.2.1
      rw [b4] at e2
      cases e2
      kernel_rfl
    · have := boot_get w.params
      simp only [List.cons.injEq, and_true] at this
      have b4 := (boot_rep w).obj _ _ this.2.2.2.1
      rw [b4] at e2
      cases e2
      kernel_rfl
  · rw [hg] at hgm; simp at hgm
  · rw [gl] at hv
    unfold mgL at hv
    obtain ⟨e, he, hv⟩ := Option.map_eq_some_iff.mp hv
    have hm := List.mem_of_find?_eq_some he
    have hs := List.find?_some he
    have hb := List.all_eq_true.mp X.ok.bound e hm
    split at hb
    · rename_i y t hk
      rw [hk] at hs
      have : y = x := by simpa [isStr_str] using hs
      subst this
      simpa [List.contains_iff_mem] using hb
    · cases hb
  · rw [gl, h0, glb]
    exact List.map_inj_left.mp X.laid x hx

theorem law_def (X : Fin1 w h T L) : isTheDefsW prg h "law" := by
  obtain ⟨o, ho, hd⟩ := (fn_at X (r := ⟨285, 30, "law"⟩) (by simp [fRows])).at_
  refine ⟨285, o, _, (fp 30).args, (fp 30).body, (fp 30).scope, ?_, ho, hd, by kernel_rfl, by show (fp 30).name = "law"; decide +kernel, rfl, rfl, rfl, rfl, rfl, rfl, rfl, .inl ⟨by decide +kernel, rfl⟩, [], by kernel_rfl, .inl ⟨rfl, rfl⟩⟩
  rw [globalOf_eq X.rep X.ok.ns3]
  exact refIs_inv X.ok.lref
end
end Qu69
end

section
open PySem PySem.W PySem.W.X PySem.Calls PyProof.Rows PyProof.V
namespace Qu69

theorem open_plain : opening prg = plainProg prg.main.scope.names := by kernel_rfl
theorem fence_id (s : Shared) : fenceModules? prg s = some s := fenceModules_id prg (by decide +kernel) s

theorem boot_state (w : World) : ∃ s, AfterRun (opening prg) w s ∧ s.heap = boot_heap w.params ∧ s.gens = #[] ∧ s.toks = boot_toks ∧ s.asleep := by
  have h := boot_open (p := prg) (N := 1000) open_plain (by decide) fence_id w
  obtain ⟨s₀, h1, e⟩ := Option.map_eq_some_iff.mp h
  rw [← table_eq_tree] at h1
  obtain ⟨s, h4, h5⟩ := Option.bind_eq_some_iff.mp h1
  rw [fence_id] at h5
  cases h5
  have A := AfterImport.of_importEnds h4
  simp only [Prod.mk.injEq] at e
  exact ⟨_, A, e.1, e.2.1, e.2.2.2, A.life⟩

theorem promised : lw.row.toRowW.promised := ⟨[.list []], by decide +kernel, by decide +kernel⟩

theorem call_from (plain : PlainLaw) {w : World} {s : Shared} {T : KT} {L : Log} (X : Fin1 w s.heap T L) (hz : s.asleep) (hg : s.gens = #[]) (free : Addr → Prop) (gens : Prop) (kept : Heap → Prop) (hk : ∀ h, kept h) :
    lw.row.toRowW.claim.CallFrom (callStub lw.row.name) w free gens kept s := by
  refine ClaimW.callFrom_of_specG (c := lw.row.toRowW.claim) (tree := fun vs => do match ← nsGet mainNs lw.row.name with
      | some f => do ret (← PySem.call f vs)
      | none => unsupported "claim.caller:no-such-global") hz hg fun args hpre hlay ord hord => ?_
  obtain ⟨ns, hns, rfl⟩ := args_of hpre
  obtain ⟨⟨vs, s₁⟩, hlaid⟩ := Option.isSome_iff_exists.mp (layAllW_isSome (R := lw.row.toRowW.claim.records) (cl := classAt s.heap) (P := w.params) (ord := ord) (fun c hc => by cases hc) _ _ s (pre_splitW hpre).1)
  have keeps := layAllW_keeps _ _ _ hlaid
  have hal := layAllW_rest _ _ _ hlaid
  obtain ⟨as, hrd, hin, hold⟩ := reads_layAllW hord _ _ _ hlaid hlay s₁.heap (fun _ _ e => e)
  have La : Laid [] w s s₁ [ofPy (.list (ns.map PyData.int))] vs as := ⟨⟨ord, hord, hlaid⟩, hrd, hin, hold, keeps, hal.1.trans hg, hal.2.2.1⟩
  refine ⟨vs, s₁, hlaid, ?_⟩
  have hNs : s₁.heap.Ns mainNs (mgL (nsE T 3)) := (ns_of X.rep X.ok.ns3).keeps keeps
  have hlaw : mgL (nsE T 3) lw.row.name = some (.ref 285) := refIs_inv X.ok.lref
  refine wpAny_bind (wpAny_nsGet hNs ?_)
  rw [hlaw]
  refine wpAny_bind (law_call plain X rfl hns La fun h' tk k => ?_)
  refine wpAny_pure ⟨_, rfl, ?_⟩
  have G : GoodWG lw.row.toRowW.claim (classAt s.heap) (ExcName.means s.heap) [ofPy (.list (ns.map PyData.int))] s₁ (.ok (.ret (.bool true))) { s₁ with heap := h', toks := tk } := by
    refine ⟨.inl ⟨.bool true, .bool true, [], rfl, fun _ => rfl, .bool true, ?_, fun _ => ⟨List.nodup_nil, fun a ha => by cases ha⟩⟩, .of_keep k, rfl, .of_eq (hal.1.trans hg)⟩
    kernel_rfl
  have z := G.laid (c := lw.row.toRowW.claim) rfl rfl (ident_freeW rfl rfl rfl) La
  exact ⟨z.1, z.2.1, z.2.2, hk _⟩

theorem holds_of (plain : PlainLaw) (said : lw.row.wellSaid = true) : lw.row.Holds := by
  refine ⟨said, promised, ⟨⟨rfl, rfl, rfl, rfl, rfl, by decide +kernel⟩, by decide +kernel, rfl⟩, promised.witness, fun w => ?_⟩
  obtain ⟨s, A, e1, e2, e3, hz⟩ := boot_state w
  refine ⟨⟨s, A⟩, fun s' hs' => ?_⟩
  obtain rfl : s' = s := AfterImport.unique hs' A
  refine ⟨s', fence_id s', e2, ?_⟩
  have hw : wB w (w.params.followText rowS) = w := World.withFollow_self w rowS
  obtain ⟨s₁, hrun, hlife, hrest, hg, T, L, Af⟩ := ran (w := w) (b := w.params.followText rowS) hz (by rw [hw]; exact e1) e2 e3
  have X := fin1_of Af
  rw [hw] at X hrun
  refine ⟨s₁, topran X e1 rfl hrun hlife hrest hg, fun n hn => ?_, fun x hx => (nomatch hx), fun x hx => (nomatch hx), ?_⟩
  · have : n = "law" := by
      have hn : n ∈ [("law" : Str)] := hn
      simpa using hn
    subst this
    exact law_def X
  · exact call_from plain X (Shared.asleep_of_life hlife hz) hg _ _ _ fun h e => by cases e
end Qu69
end

section
open PySem PySem.W
namespace Qu69
abbrev rwd : OpenLaw := PySem.Challenge.rw_qu0069_01
abbrev pgm : Program := PySem.Challenge.pw_qu0069_01
theorem sd1 : sreFenced pgm.main = true := (congrFun PySem.W.Fast.te11788848310118352699 _).trans (by kernel_rfl)
theorem sd2 : ((moduleNames pgm.main.body).isEmpty || lookedIntoSs (moduleNames pgm.main.body) pgm.main.body) = true := by kernel_rfl
theorem sd3 : namesResolve pgm = true := (congrFun PySem.W.Fast.te8377067652309620493 _).trans (by kernel_rfl)
theorem sd4 : pgm.boundNames.all (fun n => !worldNames.contains n) = true := by kernel_rfl
theorem rd_eq (x : Str) (h : PySem.W.Fast.tw13343964577679436407 pgm pgm.main.body x = false) : readsOut pgm pgm.main.body x = false := by
  rw [PySem.W.Fast.te13343964577679436407]; exact h
theorem rd1 : readsOut pgm pgm.main.body "vars" = false := rd_eq _ (by kernel_rfl)
theorem rd2 : readsOut pgm pgm.main.body "dir" = false := rd_eq _ (by kernel_rfl)
theorem rd3 : readsOut pgm pgm.main.body "locals" = false := rd_eq _ (by kernel_rfl)
theorem bare_nil : (["vars", "dir", "locals"] : List Str).filter (readsOut pgm pgm.main.body) = [] := by
  rw [List.filter_cons_of_neg (by rw [rd1]; exact Bool.false_ne_true), List.filter_cons_of_neg (by rw [rd2]; exact Bool.false_ne_true), List.filter_cons_of_neg (by rw [rd3]; exact Bool.false_ne_true)]; rfl
theorem strict_f : (!(importedModules pgm.main.body).all cThrough.contains) = false := by kernel_rfl
theorem sd5 : noRoadLSs { strict := false, foot := none, bare := [] } pgm.main.body = true := (congrFun (congrFun PySem.W.Fast.te8326940854005059898 _) _).trans (by kernel_rfl)
theorem sd6 : namesMeet pgm pgm.main.body (fun _ n => attrL n) = true := by
  rw [PySem.W.Fast.te17868728402115742887, PySem.W.Fast.te17119622794617984870]
  kernel_rfl
theorem said_open : looksOpen pgm = true := by
  unfold looksOpen
  rw [sd1, sd2, sd3, sd4, strict_f, bare_nil, sd5, sd6]; rfl
theorem said_row : rwd.row.wellSaid = true := by
  have h : looksOpen rwd.row.prog = true := said_open
  unfold OpenRow.wellSaid OpenRow.partSaid
  rw [h]
  kernel_rfl
theorem said_tw : PySem.W.Fast.tw17960256430627541270 (PySem.W.Fast.tw2368527892694137696 rwd) = true := by
  rw [← PySem.W.Fast.te17960256430627541270, ← PySem.W.Fast.te2368527892694137696]; exact said_row
theorem row_well : rwd.wellSaid = true := by
  rw [PySem.W.Fast.te9446332074065402090]
  unfold PySem.W.Fast.tw9446332074065402090
  rw [said_tw]
  kernel_rfl
end Qu69
end

section
open PySem PySem.W PySem.Calls PyProof.Rows
set_option backward.match.sparseCases false
namespace Qu69

noncomputable def B1 : ISs := (.cons (.asg [(.one 8)] (.fn 10 (.cons (.bin .mod (.var 3) (.int 3)) (.cons (.bin .fdiv (.var 3) (.int 3)) .nil)))) (.cons (.ifs (.cmp .le (.bin .add (.var 7) (.blt .len (.cons (.idx (.var 8) (.int 2)) .nil))) (.int 6)) (.cons (.app 6 (.var 8)) (.cons (.asg [(.one 7)] (.bin .add (.var 7) (.blt .len (.cons (.idx (.var 8) (.int 2)) .nil)))) .nil)) .nil) .nil))
noncomputable def B2 : ISs := (.cons (.asg [(.one 12)] (.lst (.cons (.fn 0 (.cons (.var 9) .nil)) (.cons (.fn 2 (.cons (.var 9) .nil)) (.cons (.fn 3 (.cons (.var 9) .nil)) (.cons (.fn 4 (.cons (.var 9) .nil)) (.cons (.fn 5 (.cons (.var 9) .nil)) (.cons (.fn 6 (.cons (.var 9) .nil)) (.cons (.fn 7 (.cons (.var 9) .nil)) .nil))))))))) (.cons (.ifC ⟨(.blt .range (.cons (.int 7) .nil)), [12, 10], (some (.cmp .isnt (.idx (.var 1) (.var 0)) (.cmp .eq (.var 0) (.var 2)))), (.var 0)⟩ (.cons (.ret (.bool false)) .nil) .nil) (.cons (.ifs (.cmp .in_ (.bool true) (.slc (.var 12) (.int 1) .none)) (.cons (.asg [(.one 4)] (.bin .add (.var 4) (.str [9]))) .nil) (.cons (.ifs (.not (.t (.idx (.var 12) (.int 0)))) (.cons (.ifs (.cmp .ne (.fn 1 (.cons (.var 9) .nil)) (.var 11)) (.cons (.ret (.bool false)) .nil) .nil) (.cons (.asg [(.one 4)] (.bin .add (.var 4) (.bin .mul (.str [32]) (.blt .len (.cons (.var 11) .nil))))) .nil)) .nil) .nil)) .nil)))
noncomputable def B3 : ISs := (.cons (.asg [(.one 16)] (.fn 14 (.cons (.var 4) .nil))) (.cons (.asgC 17 ⟨(.var 16), [5], none, (.fn 13 (.cons (.var 0) (.cons (.var 1) .nil)))⟩) (.cons (.asg [(.one 18)] (.fn 13 (.cons (.var 4) (.cons (.var 5) .nil)))) (.cons (.ifs (.cmp .ne (.var 18) (.fn 11 (.cons (.var 17) .nil))) (.cons (.ret (.bool false)) .nil) .nil) (.cons (.asg [(.one 19)] (.idx (.var 16) (.ite (.cmp .gt (.var 18) (.int 0)) (.meth1 .index (.var 17) (.int 0)) (.bin .mod (.idx (.var 2) (.var 15)) (.blt .len (.cons (.var 16) .nil)))))) (.cons (.asg [(.one 20)] (.bin .sub (.meth1 .count (.var 4) (.str [32])) (.meth1 .count (.var 19) (.str [32])))) (.cons (.swp [21, 22] (.cons (.fn 15 (.cons (.var 4) .nil)) (.cons (.fn 15 (.cons (.var 19) .nil)) .nil))) (.cons (.ifs (.or (.cons (.cmp .ne (.tup (.cons (.attr 1 (.var 22)) (.cons (.attr 2 (.var 22)) .nil))) (.tup (.cons (.bin .sub (.bin .add (.attr 1 (.var 21)) (.int 1)) (.var 20)) (.cons (.bin .add (.attr 2 (.var 21)) (.int 1)) .nil)))) (.cons (.cmp .ne (.fn 9 (.cons (.var 4) (.cons (.var 19) (.cons (.bin .mul (.int 2) (.var 20)) .nil)))) (.bin .mul (.int 2) (.var 20))) .nil))) (.cons (.ret (.bool false)) .nil) .nil) (.cons (.asg [(.one 4)] (.var 19)) (.cons (.asg [(.one 15)] (.bin .add (.var 15) (.int 1))) .nil))))))))))
noncomputable def b1s0 : IS := (.asg [(.one 8)] (.fn 10 (.cons (.bin .mod (.var 3) (.int 3)) (.cons (.bin .fdiv (.var 3) (.int 3)) .nil))))
noncomputable def b1s1 : IS := (.ifs (.cmp .le (.bin .add (.var 7) (.blt .len (.cons (.idx (.var 8) (.int 2)) .nil))) (.int 6)) (.cons (.app 6 (.var 8)) (.cons (.asg [(.one 7)] (.bin .add (.var 7) (.blt .len (.cons (.idx (.var 8) (.int 2)) .nil)))) .nil)) .nil)
noncomputable def b2s0 : IS := (.asg [(.one 12)] (.lst (.cons (.fn 0 (.cons (.var 9) .nil)) (.cons (.fn 2 (.cons (.var 9) .nil)) (.cons (.fn 3 (.cons (.var 9) .nil)) (.cons (.fn 4 (.cons (.var 9) .nil)) (.cons (.fn 5 (.cons (.var 9) .nil)) (.cons (.fn 6 (.cons (.var 9) .nil)) (.cons (.fn 7 (.cons (.var 9) .nil)) .nil)))))))))
noncomputable def b2s1 : IS := (.ifC ⟨(.blt .range (.cons (.int 7) .nil)), [12, 10], (some (.cmp .isnt (.idx (.var 1) (.var 0)) (.cmp .eq (.var 0) (.var 2)))), (.var 0)⟩ (.cons (.ret (.bool false)) .nil) .nil)
noncomputable def b2s2 : IS := (.ifs (.cmp .in_ (.bool true) (.slc (.var 12) (.int 1) .none)) (.cons (.asg [(.one 4)] (.bin .add (.var 4) (.str [9]))) .nil) (.cons (.ifs (.not (.t (.idx (.var 12) (.int 0)))) (.cons (.ifs (.cmp .ne (.fn 1 (.cons (.var 9) .nil)) (.var 11)) (.cons (.ret (.bool false)) .nil) .nil) (.cons (.asg [(.one 4)] (.bin .add (.var 4) (.bin .mul (.str [32]) (.blt .len (.cons (.var 11) .nil))))) .nil)) .nil) .nil))
noncomputable def b3s0 : IS := (.asg [(.one 16)] (.fn 14 (.cons (.var 4) .nil)))
noncomputable def b3s1 : IS := (.asgC 17 ⟨(.var 16), [5], none, (.fn 13 (.cons (.var 0) (.cons (.var 1) .nil)))⟩)
noncomputable def b3s2 : IS := (.asg [(.one 18)] (.fn 13 (.cons (.var 4) (.cons (.var 5) .nil))))
noncomputable def b3s3 : IS := (.ifs (.cmp .ne (.var 18) (.fn 11 (.cons (.var 17) .nil))) (.cons (.ret (.bool false)) .nil) .nil)
noncomputable def b3s4 : IS := (.asg [(.one 19)] (.idx (.var 16) (.ite (.cmp .gt (.var 18) (.int 0)) (.meth1 .index (.var 17) (.int 0)) (.bin .mod (.idx (.var 2) (.var 15)) (.blt .len (.cons (.var 16) .nil))))))
noncomputable def b3s5 : IS := (.asg [(.one 20)] (.bin .sub (.meth1 .count (.var 4) (.str [32])) (.meth1 .count (.var 19) (.str [32]))))
noncomputable def b3s6 : IS := (.swp [21, 22] (.cons (.fn 15 (.cons (.var 4) .nil)) (.cons (.fn 15 (.cons (.var 19) .nil)) .nil)))
noncomputable def b3s7 : IS := (.ifs (.or (.cons (.cmp .ne (.tup (.cons (.attr 1 (.var 22)) (.cons (.attr 2 (.var 22)) .nil))) (.tup (.cons (.bin .sub (.bin .add (.attr 1 (.var 21)) (.int 1)) (.var 20)) (.cons (.bin .add (.attr 2 (.var 21)) (.int 1)) .nil)))) (.cons (.cmp .ne (.fn 9 (.cons (.var 4) (.cons (.var 19) (.cons (.bin .mul (.int 2) (.var 20)) .nil)))) (.bin .mul (.int 2) (.var 20))) .nil))) (.cons (.ret (.bool false)) .nil) .nil)
noncomputable def b3s8 : IS := (.asg [(.one 4)] (.var 19))
noncomputable def b3s9 : IS := (.asg [(.one 15)] (.bin .add (.var 15) (.int 1)))
noncomputable def ls0 : IS := (.asgC 1 ⟨(.bin .add (.slc (.var 0) .none (.int 5)) (.slc (.lst (.cons (.int 12) (.cons (.int 5) (.cons (.int 1) (.cons (.int 15) (.cons (.int 2) .nil)))))) (.blt .len (.cons (.slc (.var 0) .none (.int 5)) .nil)) .none)), [], none, (.bin .mod (.var 0) (.int 1000000))⟩)
noncomputable def ls1 : IS := (.asgC 2 ⟨(.bin .add (.slc (.var 0) (.int 5) (.int 11)) (.lst (.cons (.int 0) (.cons (.int 1) (.cons (.int 2) (.cons (.int 3) (.cons (.int 4) (.cons (.int 5) .nil)))))))), [], none, (.bin .mod (.var 0) (.int 1000000))⟩)
noncomputable def ls2 : IS := (.swpM 6 7 (.cons (.tup (.cons (.str [64257]) (.cons (.int 7) (.cons (.str [102, 105]) .nil)))) .nil) (.int 2))
noncomputable def ls3 : IS := (.fors (.one 3) (.var 1) (.cons (.asg [(.one 8)] (.fn 10 (.cons (.bin .mod (.var 3) (.int 3)) (.cons (.bin .fdiv (.var 3) (.int 3)) .nil)))) (.cons (.ifs (.cmp .le (.bin .add (.var 7) (.blt .len (.cons (.idx (.var 8) (.int 2)) .nil))) (.int 6)) (.cons (.app 6 (.var 8)) (.cons (.asg [(.one 7)] (.bin .add (.var 7) (.blt .len (.cons (.idx (.var 8) (.int 2)) .nil)))) .nil)) .nil) .nil)))
noncomputable def ls4 : IS := (.asg [(.one 4)] (.str []))
noncomputable def ls5 : IS := (.fors (.many [9, 10, 11]) (.var 6) (.cons (.asg [(.one 12)] (.lst (.cons (.fn 0 (.cons (.var 9) .nil)) (.cons (.fn 2 (.cons (.var 9) .nil)) (.cons (.fn 3 (.cons (.var 9) .nil)) (.cons (.fn 4 (.cons (.var 9) .nil)) (.cons (.fn 5 (.cons (.var 9) .nil)) (.cons (.fn 6 (.cons (.var 9) .nil)) (.cons (.fn 7 (.cons (.var 9) .nil)) .nil))))))))) (.cons (.ifC ⟨(.blt .range (.cons (.int 7) .nil)), [12, 10], (some (.cmp .isnt (.idx (.var 1) (.var 0)) (.cmp .eq (.var 0) (.var 2)))), (.var 0)⟩ (.cons (.ret (.bool false)) .nil) .nil) (.cons (.ifs (.cmp .in_ (.bool true) (.slc (.var 12) (.int 1) .none)) (.cons (.asg [(.one 4)] (.bin .add (.var 4) (.str [9]))) .nil) (.cons (.ifs (.not (.t (.idx (.var 12) (.int 0)))) (.cons (.ifs (.cmp .ne (.fn 1 (.cons (.var 9) .nil)) (.var 11)) (.cons (.ret (.bool false)) .nil) .nil) (.cons (.asg [(.one 4)] (.bin .add (.var 4) (.bin .mul (.str [32]) (.blt .len (.cons (.var 11) .nil))))) .nil)) .nil) .nil)) .nil))))
noncomputable def ls6 : IS := (.asg [(.one 5)] (.fn 12 (.cons (.int 6) .nil)))
noncomputable def ls7 : IS := (.swp [13, 14, 15] (.cons (.var 4) (.cons (.fn 13 (.cons (.var 4) (.cons (.var 5) .nil))) (.cons (.int 0) .nil))))
noncomputable def ls8 : IS := (.whl (.cmp .in_ (.str [32]) (.var 4)) (.cons (.asg [(.one 16)] (.fn 14 (.cons (.var 4) .nil))) (.cons (.asgC 17 ⟨(.var 16), [5], none, (.fn 13 (.cons (.var 0) (.cons (.var 1) .nil)))⟩) (.cons (.asg [(.one 18)] (.fn 13 (.cons (.var 4) (.cons (.var 5) .nil)))) (.cons (.ifs (.cmp .ne (.var 18) (.fn 11 (.cons (.var 17) .nil))) (.cons (.ret (.bool false)) .nil) .nil) (.cons (.asg [(.one 19)] (.idx (.var 16) (.ite (.cmp .gt (.var 18) (.int 0)) (.meth1 .index (.var 17) (.int 0)) (.bin .mod (.idx (.var 2) (.var 15)) (.blt .len (.cons (.var 16) .nil)))))) (.cons (.asg [(.one 20)] (.bin .sub (.meth1 .count (.var 4) (.str [32])) (.meth1 .count (.var 19) (.str [32])))) (.cons (.swp [21, 22] (.cons (.fn 15 (.cons (.var 4) .nil)) (.cons (.fn 15 (.cons (.var 19) .nil)) .nil))) (.cons (.ifs (.or (.cons (.cmp .ne (.tup (.cons (.attr 1 (.var 22)) (.cons (.attr 2 (.var 22)) .nil))) (.tup (.cons (.bin .sub (.bin .add (.attr 1 (.var 21)) (.int 1)) (.var 20)) (.cons (.bin .add (.attr 2 (.var 21)) (.int 1)) .nil)))) (.cons (.cmp .ne (.fn 9 (.cons (.var 4) (.cons (.var 19) (.cons (.bin .mul (.int 2) (.var 20)) .nil)))) (.bin .mul (.int 2) (.var 20))) .nil))) (.cons (.ret (.bool false)) .nil) .nil) (.cons (.asg [(.one 4)] (.var 19)) (.cons (.asg [(.one 15)] (.bin .add (.var 15) (.int 1))) .nil)))))))))))
noncomputable def ls9 : IS := (.ret (.and2 (.cmp .is_ (.cmp .eq (.bin .mod (.var 15) (.int 2)) (.int 1)) (.cmp .gt (.var 14) (.int 0))) (.cmp .eq (.fn 9 (.cons (.var 13) (.cons (.var 4) (.cons (.bin .mul (.int 2) (.var 7)) .nil)))) (.bin .mul (.int 2) (.var 7)))))

theorem law_eq : ir_law = .cons ls0 (.cons ls1 (.cons ls2 (.cons ls3 (.cons ls4 (.frz 6 (.cons ls5 (.cons ls6 (.cons ls7 (.cons ls8 (.cons ls9 .nil)))))))))) := by kernel_rfl
theorem b1_eq : B1 = .cons b1s0 (.cons b1s1 .nil) := by kernel_rfl
theorem b2_eq : B2 = .cons b2s0 (.cons b2s1 (.cons b2s2 .nil)) := by kernel_rfl
theorem b3_eq : B3 = .cons b3s0 (.cons b3s1 (.cons b3s2 (.cons b3s3 (.cons b3s4 (.cons b3s5 (.cons b3s6 (.cons b3s7 (.cons b3s8 (.cons b3s9 .nil))))))))) := by kernel_rfl

/-! steps of the small language -/
theorem bnd_eq {α β : Type} {x : Option α} {f : α → Option β} {a : α} (h : x = some a) : bnd x f = f a := by rw [h]; rfl
theorem bnd2_eq {α β γ : Type} {x : Option α} {y : Option β} {f : α → β → Option γ} {a : α} {b : β} (h : x = some a) (k : y = some b) : bnd2 x y f = f a b := by rw [h, k]; rfl
theorem bnd3_eq {α β γ δ : Type} {x : Option α} {y : Option β} {z : Option γ} {f : α → β → γ → Option δ} {a : α} {b : β} {c : γ} (h : x = some a) (k : y = some b) (l : z = some c) : bnd3 x y z f = f a b c := by rw [h, k, l]; rfl
theorem with1_eq {α β : Type} {x : Option α} {f : α → β} {a : α} (h : x = some a) : with1 x f = some (f a) := by rw [h]; rfl
theorem with2_eq {α β γ : Type} {x : Option α} {y : Option β} {f : α → β → γ} {a : α} {b : β} (h : x = some a) (k : y = some b) : with2 x y f = some (f a b) := by rw [h, k]; rfl
section
variable {T : Tab} {r q : List LV}
theorem st_cons {a : IS} {b : ISs} {r' : List LV} (h : exS T a r = some (.next, r')) : exSs T (.cons a b) r = exSs T b r' := bnd_eq (f := thenS (exSs T b)) h
theorem st_asg {i : Nat} {e : IE} {d : D} (h : evE T r e = some d) : exS T (.asg [.one i] e) r = some (.next, r.set i (.d d)) := bnd_eq (f := fun d => with1 (setTgs r [.one i] d) fun r => (Fl.next, r)) h
theorem st_asgC {i : Nat} {ce : CE} {l : List D} (h : evC T r ce = some l) : exS T (.asgC i ce) r = some (.next, r.set i (.d (.list l))) := with1_eq (f := fun l => (Fl.next, r.set i (.d (.list l)))) h
theorem st_ifC {ce : CE} {a : ISs} {l : List D} (h : evC T r ce = some l) (hi : intsD l = some []) : exS T (.ifC ce a .nil) r = some (.next, r) :=
  (bnd_eq (f := fun l => bnd (intsD l) fun is => cond is.isEmpty (exSs T .nil r) (exSs T a r)) h).trans (bnd_eq hi)
theorem st_ift {t : IT} {a b : ISs} (h : evT T r t = some true) : exS T (.ifs t a b) r = exSs T a r := bnd_eq (f := fun z => cond z (exSs T a r) (exSs T b r)) h
theorem st_iff {t : IT} {a b : ISs} (h : evT T r t = some false) : exS T (.ifs t a b) r = exSs T b r := bnd_eq (f := fun z => cond z (exSs T a r) (exSs T b r)) h
theorem st_nil : exSs T .nil r = some (.next, r) := rfl
theorem st_app {i : Nat} {e : IE} {d : D} {l : List D} (hi : r[i]? = some (.ml l)) (h : evE T r e = some d) (hl : l.length ≤ 1000) : exS T (.app i e) r = some (.next, r.set i (.ml (l ++ [d]))) :=
  (bnd2_eq (f := fun x d => with1 (appLV x d) fun v => (Fl.next, r.set i v)) hi h).trans (with1_eq (if_pos hl))
theorem st_swp {is : List Nat} {es : IEs} {ds : List D} (h : evEs T r es = some ds) (hl : is.length = ds.length ∧ ds.length ≤ 1000) : exS T (.swp is es) r = some (.next, setAll r is.reverse ds.reverse) :=
  (bnd_eq (f := fun ds : List D => if is.length = ds.length ∧ ds.length ≤ 1000 then some (Fl.next, setAll r is.reverse ds.reverse) else none) h).trans (if_pos hl)
theorem st_for {tg : TG} {e : IE} {b : ISs} {d : D} {ds : List D} (h : evE T r e = some d) (hi : iterD d = some ds) : exS T (.fors tg e b) r = fo (fun r d => setTg r tg d) (exSs T b) ds r :=
  (bnd_eq (f := fun d => bnd (iterD d) fun ds => fo (fun r d => setTg r tg d) (exSs T b) ds r) h).trans (bnd_eq hi)
theorem fo_cons {s : List LV → D → Option (List LV)} {b : List LV → Option (Fl × List LV)} {d : D} {ds : List D} {r r1 r2 : List LV} (h1 : s r d = some r1) (h2 : b r1 = some (.next, r2)) : fo s b (d :: ds) r = fo s b ds r2 :=
  (bnd_eq (f := fun r₁ => bnd (b r₁) (loopS (fo s b ds))) h1).trans (bnd_eq h2)
theorem wh_go {t : List LV → Option Bool} {b : List LV → Option (Fl × List LV)} {n : Nat} {r r' : List LV} (h1 : t r = some true) (h2 : b r = some (.next, r')) : wh t b (n + 1) r = wh t b n r' :=
  (bnd_eq (f := fun z => cond z (bnd (b r) (loopS (wh t b n))) (some (.next, r))) h1).trans (bnd_eq h2)
theorem wh_end {t : List LV → Option Bool} {b : List LV → Option (Fl × List LV)} {n : Nat} {r : List LV} (h1 : t r = some false) : wh t b (n + 1) r = some (.next, r) :=
  bnd_eq (f := fun z => cond z (bnd (b r) (loopS (wh t b n))) (some (.next, r))) h1
end
end Qu69
end

section
open PySem PySem.W PySem.Calls PyProof.Rows
set_option backward.match.sparseCases false
namespace Qu69

/-! small facts -/
theorem small_of {a : Int} (h1 : -100000 ≤ a) (h2 : a ≤ 100000) : small a = true := by simp [small]; omega
theorem range_size (n : Nat) : Builtin.Range.rangeSize 0 n 1 = n := by
  unfold Builtin.Range.rangeSize
  simp
  omega
theorem range_small (n : Nat) (h : n ≤ 1000) : Builtin.Range.small 0 n 1 = true := by
  have : ∀ k : Fin 1001, Builtin.Range.small 0 (k.val : Int) 1 = true := by decide +kernel
  exact this ⟨n, by omega⟩
theorem iter_range (n : Nat) (h : n ≤ 1000) : iterD (.range 0 n 1) = some (rgo 0 1 n) := by
  show (if Builtin.Range.small 0 (n : Int) 1 = true ∧ 0 ≤ Builtin.Range.rangeSize 0 (n : Int) 1 then some (rgo 0 1 (Builtin.Range.rangeSize 0 (n : Int) 1).toNat) else none) = _
  rw [range_size, range_small n h, if_pos ⟨rfl, by omega⟩]
  simp
theorem cut_drop {α : Type} (l : List α) (k : Nat) (h : k ≤ l.length) : cutL l (some k) none = l.drop k := by
  unfold cutL clipS
  have h0 : ¬ (k : Int) < 0 := by omega
  simp [h0]
  rw [show (max 0 (min (k : Int) (l.length : Int))).toNat = k by omega]
  exact List.take_of_length_le (by simp)
theorem cut_all {α : Type} (l : List α) : cutL l none none = l := by
  unfold cutL clipS; simp
theorem cut_take {α : Type} (l : List α) (k : Nat) (h : k ≤ l.length) : cutL l none (some k) = l.take k := by
  unfold cutL clipS
  have h0 : ¬ (k : Int) < 0 := by omega
  simp [h0]
  omega
theorem cut_mid {α : Type} (l : List α) (a b : Nat) (h : a ≤ l.length) : cutL l (some a) (some b) = (l.drop a).take (b - a) := by
  unfold cutL clipS
  have h0 : ¬ (a : Int) < 0 := by omega
  have h1 : ¬ (b : Int) < 0 := by omega
  simp [h0, h1]
  rw [show (max 0 (min (a : Int) (l.length : Int))).toNat = a by omega]
  by_cases hb : b ≤ l.length
  · rw [show (max 0 (min (b : Int) (l.length : Int))).toNat = b by omega]
  · rw [show (max 0 (min (b : Int) (l.length : Int))).toNat = l.length by omega, List.take_of_length_le (by simp), List.take_of_length_le (by simp; omega)]
theorem cut_neg {α : Type} (a u : List α) (h : u ≠ []) : cutL (a ++ u) none (some (-(u.length : Int))) = a := by
  have hu : 0 < u.length := List.length_pos_iff.mpr h
  unfold cutL clipS
  have h0 : -(u.length : Int) < 0 := by omega
  simp [hu]
  rw [show (max 0 (min (-(u.length : Int) + (a.length + u.length)) (a.length + u.length))).toNat = a.length by omega]
  simp
theorem repl_eq {α : Type} (x : α) : ∀ n : Nat, repL [x] n = List.replicate n x
  | 0 => rfl
  | n + 1 => by show [x] ++ repL [x] n = _; rw [repl_eq x n, List.replicate_succ]; rfl


/-! rules of evaluation -/
section
variable {T : Tab} {r : List LV}
theorem small_nat {k : Nat} (h : k ≤ 100000) : small (k : Int) = true := small_of (by omega) (by omega)
theorem idx_list {l : List D} {k : Nat} {d : D} (hk : k ≤ 100000) (h : l[k]? = some d) : idxD (.list l) (.int k) = some d := by
  show (if 0 ≤ (k : Int) ∧ small k = true then l[(k : Int).toNat]? else none) = _
  rw [if_pos ⟨Int.natCast_nonneg k, small_nat hk⟩, Int.toNat_natCast]; exact h
theorem ev_lenM {i : Nat} {l : List D} (h : r[i]? = some (.ml l)) (hl : l.length ≤ 100000) : evE T r (.lenM i) = some (.int l.length) := (bnd_eq (f := lenLV) h).trans (if_pos hl)
theorem ev_idxM {i k : Nat} {b : IE} {l : List D} {d : D} (h : r[i]? = some (.ml l)) (hb : evE T r b = some (.int k)) (hk : k ≤ 100000) (hd : l[k]? = some d) : evE T r (.idxM i b) = some d := (bnd2_eq (f := idxLV) h hb).trans (idx_list hk hd)
theorem ev_bin {op : BO} {a b : IE} {x y z : D} (ha : evE T r a = some x) (hb : evE T r b = some y) (h : binD op x y = some z) : evE T r (.bin op a b) = some z := (bnd2_eq (f := binD op) ha hb).trans h
theorem ev_cmp {op : CO} {a b : IE} {x y : D} {z : Bool} (ha : evE T r a = some x) (hb : evE T r b = some y) (h : cmpD op x y = some z) : evE T r (.cmp op a b) = some (.bool z) := (bnd2_eq (f := fun x y => with1 (cmpD op x y) D.bool) ha hb).trans (with1_eq h)
theorem et_cmp {op : CO} {a b : IE} {x y : D} {z : Bool} (ha : evE T r a = some x) (hb : evE T r b = some y) (h : cmpD op x y = some z) : evT T r (.cmp op a b) = some z := (bnd2_eq (f := cmpD op) ha hb).trans h
theorem et_t {a : IE} {x : D} {z : Bool} (ha : evE T r a = some x) (h : truthD x = some z) : evT T r (.t a) = some z := (bnd_eq (f := truthD) ha).trans h
theorem ev_len {a : IE} {x y : D} (ha : evE T r a = some x) (h : bltD .len [x] = some y) : evE T r (.blt .len (.cons a .nil)) = some y := (bnd_eq (f := bltD .len) (a := [x]) (with2_eq (f := List.cons) (b := []) ha rfl)).trans h
theorem len_str {l : List Nat} (h : l.length ≤ 100000) : bltD .len [.str l] = some (.int l.length) := if_pos h
theorem len_list {l : List D} (h : l.length ≤ 100000) : bltD .len [.list l] = some (.int l.length) := if_pos h
theorem len_tuple {l : List D} (h : l.length ≤ 100000) : bltD .len [.tuple l] = some (.int l.length) := if_pos h
theorem ev_slc {a b c : IE} {x y z d : D} (ha : evE T r a = some x) (hb : evE T r b = some y) (hc : evE T r c = some z) (h : slcD x y z = some d) : evE T r (.slc a b c) = some d := (bnd3_eq (f := slcD) ha hb hc).trans h
theorem slc_str {l : List Nat} {x y : D} {a b : Option Int} (hl : l.length ≤ 100000) (hx : partD x = some a) (hy : partD y = some b) : slcD (.str l) x y = some (.str (cutL l a b)) := (if_pos hl).trans (with2_eq (f := fun a b => D.str (cutL l a b)) hx hy)
theorem slc_list {l : List D} {x y : D} {a b : Option Int} (hl : l.length ≤ 100000) (hx : partD x = some a) (hy : partD y = some b) : slcD (.list l) x y = some (.list (cutL l a b)) := (if_pos hl).trans (with2_eq (f := fun a b => D.list (cutL l a b)) hx hy)
theorem ev_idx {a b : IE} {x y d : D} (ha : evE T r a = some x) (hb : evE T r b = some y) (h : idxD x y = some d) : evE T r (.idx a b) = some d := (bnd2_eq (f := idxD) ha hb).trans h
theorem idx_tuple {l : List D} {k : Nat} {d : D} (hk : k ≤ 100000) (h : l[k]? = some d) : idxD (.tuple l) (.int k) = some d := idx_list hk h
theorem idx_str {l : List Nat} {k : Nat} {x : Nat} (hk : k ≤ 100000) (h : l[k]? = some x) : idxD (.str l) (.int k) = some (.str [x]) := by
  have hl : k < l.length := (List.getElem?_eq_some_iff.mp h).1
  show (if small (k : Int) = true then (seqIndex? (k : Int) l.length).bind (chrAt l) else none) = _
  rw [if_pos (small_nat hk), seqIndex_pos (Int.natCast_nonneg k) (Int.ofNat_lt.mpr hl)]
  exact with1_eq (f := fun x => D.str [x]) h
theorem st_sti {i k : Nat} {a b : IE} {l : List D} {d : D} (h : r[i]? = some (.ml l)) (ha : evE T r a = some (.int k)) (hb : evE T r b = some d) (hk : k < l.length) (hl : l.length ≤ 1000) : exS T (.sti i a b) r = some (.next, r.set i (.ml (l.set k d))) := (bnd3_eq (f := fun x k d => with1 (stiLV x k d) fun v => (Fl.next, r.set i v)) h ha hb).trans (with1_eq (if_pos ⟨Int.natCast_nonneg k, Int.ofNat_lt.mpr hk, hl⟩))
theorem st_asgM {i : Nat} {fe : FE} {l : List D} (h : evF T r fe = some l) : exS T (.asgM i fe) r = some (.next, r.set i (.ml l)) := with1_eq (f := fun l => (Fl.next, r.set i (.ml l))) h
theorem st_frz {i : Nat} {b : ISs} {l : List D} (h : r[i]? = some (.ml l)) : exSs T (.frz i b) r = exSs T b (r.set i (.d (.list l))) := (bnd_eq (f := fun x => bnd (frzLV x) fun l => exSs T b (r.set i (.d (.list l)))) h).trans rfl
theorem st_asgt {tgs : List TG} {e : IE} {d : D} {r' : List LV} (h : evE T r e = some d) (hs : setTgs r tgs d = some r') : exS T (.asg tgs e) r = some (.next, r') := (bnd_eq (f := fun d => with1 (setTgs r tgs d) fun r => (Fl.next, r)) h).trans (with1_eq hs)
theorem st_ret {e : IE} {b : ISs} {d : D} (h : evE T r e = some d) : exSs T (.cons (.ret e) b) r = some (.ret d, r) := bnd_eq (f := thenS (exSs T b)) (with1_eq (f := fun d => (Fl.ret d, r)) h)
theorem st_then {a : IS} {b : ISs} {r' : List LV} {X : Option (Fl × List LV)} (h : exS T a r = some (.next, r')) (k : exSs T b r' = X) : exSs T (.cons a b) r = X := (st_cons h).trans k
theorem st_if0 {t : IT} {a b : ISs} {X : Option (Fl × List LV)} (h : evT T r t = some false) (k : exSs T b r = X) : exS T (.ifs t a b) r = X := (st_iff h).trans k
theorem st_if1 {t : IT} {a b : ISs} {X : Option (Fl × List LV)} (h : evT T r t = some true) (k : exSs T a r = X) : exS T (.ifs t a b) r = X := (st_ift h).trans k
theorem cmp_ge {a b : Int} {z : Bool} (h : decide (b ≤ a) = z) : cmpD .ge (.int a) (.int b) = some z := congrArg some h
theorem ef_cat {a b : IE} {x y : List D} (ha : evE T r a = some (.list x)) (hb : evE T r b = some (.list y)) (hl : x.length + y.length ≤ 1000) : evF T r (.cat a b) = some (x ++ y) := (bnd2_eq (f := catD) ha hb).trans (if_pos hl)
theorem es_nil : evEs T r .nil = some [] := rfl
theorem es_cons {a : IE} {as : IEs} {x : D} {xs : List D} (ha : evE T r a = some x) (hs : evEs T r as = some xs) : evEs T r (.cons a as) = some (x :: xs) := with2_eq (f := List.cons) ha hs
theorem ev_blt {f : BF} {as : IEs} {xs : List D} {d : D} (ha : evEs T r as = some xs) (h : bltD f xs = some d) : evE T r (.blt f as) = some d := (bnd_eq (f := bltD f) ha).trans h
theorem ev_fn {k : Nat} {as : IEs} {xs : List D} {d : D} (ha : evEs T r as = some xs) (h : T.F k xs = some d) : evE T r (.fn k as) = some d := (bnd_eq (f := T.F k) ha).trans h
theorem ev_tup {as : IEs} {xs : List D} (ha : evEs T r as = some xs) (h : xs.length ≤ 1000) : evE T r (.tup as) = some (.tuple xs) := (bnd_eq (f := tupD) ha).trans (if_pos h)
theorem tup_list {l : List D} (h : l.length ≤ 100000) : bltD .tuple [.list l] = some (.tuple l) := if_pos h
theorem st_sta {i k : Nat} {e : IE} {ks : List Nat} {ds : List D} {d : D} (h : r[i]? = some (.self ks ds)) (he : evE T r e = some d) (hk : ks.contains k = false ∧ ks.length ≤ 10 ∧ k ≤ 4) : exS T (.sta i k e) r = some (.next, r.set i (.self (ks ++ [k]) (ds ++ [d]))) := (bnd2_eq (f := fun x d => with1 (staLV k x d) fun v => (Fl.next, r.set i v)) h he).trans (with1_eq (if_pos hk))
theorem cmp_le {a b : Int} {z : Bool} (h : decide (a ≤ b) = z) : cmpD .le (.int a) (.int b) = some z := congrArg some h
theorem cmp_lt {a b : Int} {z : Bool} (h : decide (a < b) = z) : cmpD .lt (.int a) (.int b) = some z := congrArg some h
theorem cmp_gt {a b : Int} {z : Bool} (h : decide (b < a) = z) : cmpD .gt (.int a) (.int b) = some z := congrArg some h
theorem st_stop {a : IS} {b : ISs} {d : D} {q : List LV} (h : exS T a r = some (.ret d, q)) : exSs T (.cons a b) r = some (.ret d, q) := bnd_eq (f := thenS (exSs T b)) h
end
/-! the white space of a lead -/
noncomputable def bump (cs : List Nat) (run : Nat) : List Nat :=
  let cs' := if cs.length ≤ run then cs ++ List.replicate (run - cs.length + 1) 0 else cs
  cs'.set run (cs'.getD run 0 + 1)
structure WS where
  cs : List Nat
  run : Nat
  n : Nat
  nt : Nat
noncomputable def wsStep (s : WS) (c : Nat) : WS := if c = 32 then ⟨s.cs, s.run + 1, s.n + 1, s.nt⟩ else ⟨bump s.cs s.run, 0, s.n + 1, s.nt + 1⟩
noncomputable def wsOf (l : List Nat) : WS := l.foldl wsStep ⟨[], 0, 0, 0⟩
noncomputable def wsLead (l : List Nat) : Prop := ∀ x ∈ l, x = 9 ∨ x = 32
noncomputable def iniB : ISs := (.cons (.ifs (.cmp .eq (.var 6) (.var 7)) (.cons (.asg [(.one 4)] (.bin .add (.var 4) (.int 1))) (.cons (.asg [(.one 3)] (.bin .add (.var 3) (.int 1))) .nil)) (.cons (.ifs (.cmp .eq (.var 6) (.var 8)) (.cons (.asg [(.one 4)] (.bin .add (.var 4) (.int 1))) (.cons (.asg [(.one 5)] (.bin .add (.var 5) (.int 1))) (.cons (.ifs (.cmp .ge (.var 3) (.lenM 2)) (.frz 2 (.cons (.asgM 2 (.cat (.var 2) (.bin .mul (.lst (.cons (.int 0) .nil)) (.bin .add (.bin .sub (.var 3) (.blt .len (.cons (.var 2) .nil))) (.int 1))))) .nil)) .nil) (.cons (.sti 2 (.var 3) (.bin .add (.idxM 2 (.var 3)) (.int 1))) (.cons (.asg [(.one 3)] (.int 0)) .nil))))) (.cons .brk .nil)) .nil)) .nil)
noncomputable def nI (n : Nat) : D := .int n
noncomputable def iniR (raw : D) (s : WS) (ch : LV) : List LV := [.self [0] [raw], .d raw, .ml (s.cs.map nI), .d (nI s.run), .d (nI s.n), .d (nI s.nt), ch, .d (.str [32]), .d (.str [9])]
theorem nI_succ (n : Nat) : D.int (n + 1) = nI (n + 1) := by simp [nI]
noncomputable def wsOK (s : WS) (k : Nat) : Prop := s.run ≤ k ∧ s.cs.length ≤ k + 1
theorem bump_len (cs : List Nat) (run : Nat) : (bump cs run).length = if cs.length ≤ run then run + 1 else cs.length := by
  unfold bump; split <;> simp; omega
theorem ini_blank (T : Tab) (raw : D) (s : WS) : exSs T iniB (iniR raw s (.d (.str [32]))) = some (.next, iniR raw (wsStep s 32) (.d (.str [32]))) := by
  obtain ⟨cs, run, n, nt⟩ := s
  show _ = some (Fl.next, iniR raw ⟨cs, run + 1, n + 1, nt⟩ _)
  unfold iniR
  dsimp only
  rw [← nI_succ, ← nI_succ]
  kernel_rfl
theorem ini_tab0 (T : Tab) (raw : D) (s : WS) (hl : ¬ s.cs.length ≤ s.run) (h3 : s.cs.length ≤ 1000) : exSs T iniB (iniR raw s (.d (.str [9]))) = some (.next, iniR raw (wsStep s 9) (.d (.str [9]))) := by
  obtain ⟨cs, run, n, nt⟩ := s
  simp only at hl h3
  have hl2 : run < cs.length := by omega
  have gd : cs[run]? = some cs[run] := List.getElem?_eq_getElem hl2
  have gd2 : (cs.map nI)[run]? = some (nI cs[run]) := by rw [List.getElem?_map, gd]; rfl
  have hds : (cs.map nI).length = cs.length := by simp
  show _ = some (Fl.next, iniR raw ⟨bump cs run, 0, n + 1, nt + 1⟩ _)
  have e4 : (bump cs run).map nI = (cs.map nI).set run (nI (cs[run] + 1)) := by
    unfold bump
    simp only [hl, if_false, List.getD_eq_getElem?_getD, gd, Option.getD_some, List.map_set]
  unfold iniR iniB
  dsimp only
  rw [e4]
  generalize cs.map nI = ds at gd2 hds ⊢
  rw [← nI_succ, ← nI_succ, ← nI_succ]
  refine st_then (st_if0 (et_cmp (z := false) (by rfl) (by rfl) (by rfl)) ?_) st_nil
  refine st_then (st_if1 (et_cmp (z := true) (by rfl) (by rfl) (by rfl)) ?_) st_nil
  refine st_then (st_asg (by rfl)) ?_
  refine st_then (st_asg (by rfl)) ?_
  refine st_then (st_if0 (et_cmp (z := false) (by rfl) (ev_lenM (by rfl) (by omega)) (cmp_ge (decide_eq_false (by omega)))) st_nil) ?_
  refine st_then (st_sti (k := run) (by rfl) (by rfl) (ev_bin (ev_idxM (k := run) (by rfl) (by rfl) (by omega) gd2) (by rfl) (by rfl)) (by omega) (by omega)) ?_
  refine st_then (st_asg (by rfl)) ?_
  exact st_nil
end Qu69
end

section
open PySem PySem.W PySem.Calls PyProof.Rows
set_option backward.match.sparseCases false
namespace Qu69
theorem ini_tab1 (T : Tab) (raw : D) (s : WS) (hl : s.cs.length ≤ s.run) (h3 : s.run ≤ 100) : exSs T iniB (iniR raw s (.d (.str [9]))) = some (.next, iniR raw (wsStep s 9) (.d (.str [9]))) := by
  obtain ⟨cs, run, n, nt⟩ := s
  simp only at hl h3
  have gd : (cs.map nI ++ repL [D.int 0] (run - cs.length + 1))[run]? = some (D.int 0) := by
    rw [repl_eq, List.getElem?_append_right (by simpa using hl), List.getElem?_replicate]
    simp
  have gd' : (cs ++ List.replicate (run - cs.length + 1) 0)[run]? = some 0 := by
    rw [List.getElem?_append_right (by simpa using hl), List.getElem?_replicate]
    simp
  show _ = some (Fl.next, iniR raw ⟨bump cs run, 0, n + 1, nt + 1⟩ _)
  have e4 : (bump cs run).map nI = (cs.map nI ++ repL [D.int 0] (run - cs.length + 1)).set run (.int 1) := by
    unfold bump
    simp only [hl, if_true, List.getD_eq_getElem?_getD, gd', Option.getD_some, List.map_set, List.map_append, List.map_replicate, repl_eq]
    rfl
  unfold iniR iniB
  dsimp only
  rw [e4]
  have hds : (cs.map nI).length = cs.length := by simp
  generalize cs.map nI = ds at gd hds ⊢
  rw [← nI_succ, ← nI_succ]
  refine st_then (st_if0 (et_cmp (z := false) (by rfl) (by rfl) (by rfl)) ?_) st_nil
  refine st_then (st_if1 (et_cmp (z := true) (by rfl) (by rfl) (by rfl)) ?_) st_nil
  refine st_then (st_asg (by rfl)) ?_
  refine st_then (st_asg (by rfl)) ?_
  refine st_then (r' := [.self [0] [raw], .d raw, .ml (ds ++ repL [D.int 0] (run - cs.length + 1)), .d (nI run), .d (.int (n+1)), .d (.int (nt+1)), .d (.str [9]), .d (.str [32]), .d (.str [9])]) (st_if1 (et_cmp (z := true) (by rfl) (ev_lenM (by rfl) (by omega)) (cmp_ge (decide_eq_true (by omega)))) ?_) ?_
  · refine (st_frz (by rfl)).trans ?_
    have hm : binD .mul (.list [.int 0]) (.int (run - ds.length + 1)) = some (.list (repL [D.int 0] (run - cs.length + 1))) := by
      show (if [D.int 0].length = 1 ∧ (0 : Int) ≤ run - ds.length + 1 ∧ (run - ds.length + 1 : Int) ≤ 1000 then some (D.list (repL [D.int 0] (run - ds.length + 1 : Int).toNat)) else none) = _
      rw [if_pos ⟨rfl, by omega, by omega⟩, show (run - ds.length + 1 : Int).toNat = run - cs.length + 1 by omega]
    refine st_then (st_asgM (ef_cat (x := ds) (by rfl) (ev_bin (by rfl) (ev_bin (ev_bin (by rfl) (ev_len (by rfl) (len_list (by omega))) (by rfl)) (by rfl) (by rfl)) hm) (by rw [repl_eq]; simp; omega))) st_nil
  refine st_then (st_sti (k := run) (by rfl) (by rfl) (ev_bin (ev_idxM (k := run) (by rfl) (by rfl) (by omega) gd) (by rfl) (by rfl)) (by rw [repl_eq]; simp; omega) (by rw [repl_eq]; simp; omega)) ?_
  refine st_then (st_asg (by rfl)) ?_
  exact st_nil
theorem ini_step (T : Tab) (raw : D) (s : WS) (h1 : s.run ≤ 100) (h2 : s.cs.length ≤ 1000) {x : Nat} (hx : x = 9 ∨ x = 32) :
    exSs T iniB (iniR raw s (.d (.str [x]))) = some (.next, iniR raw (wsStep s x) (.d (.str [x]))) := by
  rcases hx with rfl | rfl
  · by_cases hl : s.cs.length ≤ s.run
    · exact ini_tab1 T raw s hl h1
    · exact ini_tab0 T raw s hl h2
  · exact ini_blank T raw s
theorem fo_ini (T : Tab) (raw : D) : ∀ (l : List Nat) (s : WS) (ch : LV) (k : Nat), wsLead l → s.run ≤ k → s.cs.length ≤ k → k + l.length ≤ 100 →
    ∃ ch', fo (fun r d => setTg r (.one 6) d) (exSs T iniB) (l.map fun x => D.str [x]) (iniR raw s ch) = some (.next, iniR raw (l.foldl wsStep s) ch')
  | [], s, ch, k, _, _, _, _ => ⟨ch, by rfl⟩
  | x :: l, s, ch, k, hw, h1, h2, h3 => by
    simp only [List.length_cons] at h3
    have hx := hw x List.mem_cons_self
    obtain ⟨ch', e⟩ := fo_ini T raw l (wsStep s x) (.d (.str [x])) (k + 1) (fun y hy => hw y (List.mem_cons_of_mem _ hy)) (by
        unfold wsStep; split
        · simp only; omega
        · simp only; omega) (by
        unfold wsStep; split
        · simp only; omega
        · simp only [bump_len]; split <;> omega) (by omega)
    refine ⟨ch', ?_⟩
    rw [List.map_cons, List.foldl_cons, fo_cons (r1 := iniR raw s (.d (.str [x]))) (by rfl) (ini_step T raw s (by omega) (by omega) hx)]
    exact e
noncomputable def wsD (l : List Nat) : D := .inst [0, 1, 2, 3, 4] [.str l, nI (wsOf l).n, nI (wsOf l).nt, .tuple [.tuple ((wsOf l).cs.map nI), nI (wsOf l).run], .bool (decide (((wsOf l).cs.length : Int) ≤ 1))]
theorem wsOf_cs (l : List Nat) : ∀ (s : WS) (k : Nat), s.run ≤ k → s.cs.length ≤ k → (l.foldl wsStep s).cs.length ≤ k + l.length ∧ (l.foldl wsStep s).run ≤ k + l.length := by
  induction l with
  | nil => intro s k h1 h2; exact ⟨h2, h1⟩
  | cons x l ih =>
    intro s k h1 h2
    rw [List.foldl_cons, List.length_cons]
    have := ih (wsStep s x) (k + 1) (by
        unfold wsStep; split
        · simp only; omega
        · simp only; omega) (by
        unfold wsStep; split
        · simp only; omega
        · simp only [bump_len]; split <;> omega)
    omega
theorem F15 (l : List Nat) (hw : wsLead l) (hl : l.length ≤ 100) : iniF T0t [.str l] = some (wsD l) := by
  obtain ⟨ch', e⟩ := fo_ini T0t (.str l) l ⟨[], 0, 0, 0⟩ .un 0 hw (by simp) (by simp) (by omega)
  obtain ⟨hc, _⟩ := wsOf_cs l ⟨[], 0, 0, 0⟩ 0 (by simp) (by simp)
  have hc : (wsOf l).cs.length ≤ 0 + l.length := hc
  have e : fo (fun r d => setTg r (.one 6) d) (exSs T0t iniB) (l.map fun x => D.str [x]) (iniR (.str l) ⟨[], 0, 0, 0⟩ .un) = some (.next, iniR (.str l) (wsOf l) ch') := e
  have hd : ((wsOf l).cs.map nI).length = (wsOf l).cs.length := by simp
  have key : exSs T0t ir_init (iniRho (.str l) 7) = some (.next, [.self [0, 1, 2, 3, 4] [.str l, nI (wsOf l).n, nI (wsOf l).nt, .tuple [.tuple ((wsOf l).cs.map nI), nI (wsOf l).run], .bool (decide (((wsOf l).cs.length : Int) ≤ 1))], .d (.str l), .d (.list ((wsOf l).cs.map nI)), .d (nI (wsOf l).run), .d (nI (wsOf l).n), .d (nI (wsOf l).nt), ch', .d (.str [32]), .d (.str [9])]) := by
    refine st_then (r' := [.self [0] [.str l], .d (.str l), .un, .un, .un, .un, .un, .un, .un]) (by rfl) ?_
    refine st_then (r' := [.self [0] [.str l], .d (.str l), .un, .un, .un, .un, .un, .d (.str [32]), .d (.str [9])]) (by rfl) ?_
    refine st_then (r' := [.self [0] [.str l], .d (.str l), .ml [], .un, .un, .un, .un, .d (.str [32]), .d (.str [9])]) (by rfl) ?_
    refine st_then (r' := iniR (.str l) ⟨[], 0, 0, 0⟩ .un) (by rfl) ?_
    refine st_then ((st_for (d := .str l) (by rfl) (by rfl)).trans e) ?_
    generalize hm : (wsOf l).cs.map nI = ds at hd
    unfold iniR
    rw [hm]
    refine st_then (r' := [.self [0, 1] [.str l, nI (wsOf l).n], .d (.str l), .ml ds, .d (nI (wsOf l).run), .d (nI (wsOf l).n), .d (nI (wsOf l).nt), ch', .d (.str [32]), .d (.str [9])]) (by rfl) ?_
    refine st_then (r' := [.self [0, 1, 2] [.str l, nI (wsOf l).n, nI (wsOf l).nt], .d (.str l), .ml ds, .d (nI (wsOf l).run), .d (nI (wsOf l).n), .d (nI (wsOf l).nt), ch', .d (.str [32]), .d (.str [9])]) (by rfl) ?_
    refine (st_frz (l := ds) (by rfl)).trans ?_
    refine st_then (st_sta (by rfl) (ev_tup (es_cons (ev_blt (es_cons (by rfl) es_nil) (tup_list (by omega))) (es_cons (by rfl) es_nil)) (by simp)) (by decide)) ?_
    refine st_then (st_sta (by rfl) (ev_cmp (ev_len (by rfl) (len_list (by omega))) (by rfl) (cmp_le rfl)) (by decide)) ?_
    rw [hd]
    exact st_nil
  show (match exSs T0t ir_init (iniRho (D.str l) 7) with
      | some (Fl.next, rho) => match (rho[0]? : Option LV) with
        | some (LV.self ks vs) => some (D.inst ks vs)
        | _ => none
      | _ => none) = _
  rw [key]
  rfl
end Qu69
end

section
open PySem PySem.W PySem.Calls PyProof.Rows
set_option backward.match.sparseCases false
namespace Qu69

theorem iter_rangeI {n : Nat} (h : n ≤ 1000) : iterD (.range 0 (n : Int) 1) = some (rgo (0 : Nat) 1 n) := iter_range n h
theorem rgo_succ (i n : Nat) : rgo i 1 (n + 1) = nI i :: rgo ((i + 1 : Nat) : Int) 1 n := by
  show D.int i :: rgo ((i : Int) + 1) 1 n = _
  rw [show ((i : Int) + 1) = ((i + 1 : Nat) : Int) by omega]; rfl
theorem ev_rng {T : Tab} {r : List LV} {a : IE} {b : Int} (ha : evE T r a = some (.int b)) : evE T r (.blt .range (.cons a .nil)) = some (.range 0 b 1) := ev_blt (es_cons ha es_nil) (by rfl)

/-! the worth of a lead -/
noncomputable def VI : List Nat := [0, 1, 2, 3, 1, 4, 3]
noncomputable def VALS : D := .list (VI.map nI)
noncomputable def wlp : List Nat → Nat → Nat → Option Nat
  | [], _, w => some w
  | c :: cs, i, w => if c % 2 = 1 then (match VI[i]? with
    | some v => if w < 8 ∧ v < 8 then wlp cs (i + 1) (w ^^^ v) else none
    | none => none) else wlp cs (i + 1) w
noncomputable def worthO (l : List Nat) : Option Nat := match VI[(wsOf l).run]? with
  | some w => wlp (wsOf l).cs 0 w
  | none => none
theorem xor_nat {a b : Nat} (ha : a < 8) (hb : b < 8) : Builtin.bitXor (a : Int) (b : Int) = ((a ^^^ b : Nat) : Int) := by
  have : ∀ x y : Fin 8, Builtin.bitXor ((x.val : Nat) : Int) ((y.val : Nat) : Int) = ((x.val ^^^ y.val : Nat) : Int) := by decide +kernel
  exact this ⟨a, ha⟩ ⟨b, hb⟩
theorem fmod_nat (a b : Nat) : (a : Int).fmod (b : Int) = ((a % b : Nat) : Int) := by
  rw [Int.fmod_eq_emod_of_nonneg _ (by omega)]; omega
noncomputable def worB : ISs := (.cons (.ifs (.cmp .eq (.bin .mod (.idx (.var 4) (.var 3)) (.int 2)) (.int 1)) (.cons (.asg [(.one 2)] (.bin .xor (.var 2) (.idx (.var 1) (.var 3)))) .nil) .nil) .nil)
noncomputable def worR (l : List Nat) (w : Nat) (run : LV) (cs : List Nat) (q : D) : List LV := [.d (.str l), .d VALS, .d (nI w), run, .d (.tuple (cs.map nI)), .d q]
theorem mod2 (c : Nat) : binD .mod (nI c) (.int 2) = some (nI (c % 2)) := by
  show some (D.int ((c : Int).fmod 2)) = some (D.int ((c % 2 : Nat) : Int))
  rw [show (2 : Int) = ((2 : Nat) : Int) from rfl, fmod_nat]
theorem eq1 (c : Nat) {z : Bool} (h : decide (c = 1) = z) : cmpD .eq (nI c) (.int 1) = some z := by
  show some ((c : Int) == 1) = some z
  rw [← h]; congr 1
  by_cases hc : c = 1
  · subst hc; rfl
  · rw [decide_eq_false hc]; exact beq_eq_false_iff_ne.mpr (by omega)
theorem fo_worth {T : Tab} {l : List Nat} {q : D} : ∀ (rest pre : List Nat) (w w' : Nat) (run : LV), wlp rest pre.length w = some w' → pre.length + rest.length ≤ 1000 →
    ∃ run', fo (fun r d => setTg r (.one 3) d) (exSs T worB) (rgo (pre.length : Nat) 1 rest.length) (worR l w run (pre ++ rest) q) = some (.next, worR l w' run' (pre ++ rest) q)
  | [], pre, w, w', run, h, _ => by unfold wlp at h; cases h; exact ⟨run, by rfl⟩
  | c :: rest, pre, w, w', run, h, hl => by
    simp only [List.length_cons] at hl
    have hc : ((pre ++ c :: rest).map nI)[pre.length]? = some (nI c) := by simp
    have hp : pre ++ c :: rest = (pre ++ [c]) ++ rest := by simp
    have hpl : (pre ++ [c]).length = pre.length + 1 := by simp
    rw [List.length_cons, rgo_succ]
    unfold wlp at h
    have body : ∃ w1, exSs T worB (worR l w (.d (nI pre.length)) (pre ++ c :: rest) q) = some (.next, worR l w1 (.d (nI pre.length)) (pre ++ c :: rest) q) ∧ wlp rest (pre.length + 1) w1 = some w' := by
      unfold worR
      generalize (pre ++ c :: rest).map nI = cs at hc ⊢
      by_cases hodd : c % 2 = 1
      · rw [if_pos hodd] at h
        split at h
        · rename_i v hv
          split at h
          · rename_i h8
            refine ⟨w ^^^ v, ?_, h⟩
            refine st_then (r' := [.d (.str l), .d VALS, .d (nI (w ^^^ v)), .d (nI pre.length), .d (.tuple cs), .d q]) (st_if1 (et_cmp (ev_bin (ev_idx (by rfl) (by rfl) (idx_tuple (k := pre.length) (by omega) hc)) (by rfl) (mod2 c)) (by rfl) (eq1 _ (decide_eq_true hodd))) ?_) ?_
            · refine st_then (st_asg (d := nI (w ^^^ v)) (ev_bin (x := nI w) (y := nI v) (by rfl) (ev_idx (x := VALS) (by rfl) (by rfl) (idx_list (k := pre.length) (by omega) (by rw [List.getElem?_map, hv]; rfl))) ?_)) st_nil
              show some (D.int (Builtin.bitXor (w : Int) (v : Int))) = _
              rw [xor_nat h8.1 h8.2]; rfl
            · exact st_nil
          · cases h
        · cases h
      · rw [if_neg hodd] at h
        exact ⟨w, st_then (st_if0 (et_cmp (ev_bin (ev_idx (by rfl) (by rfl) (idx_tuple (k := pre.length) (by omega) hc)) (by rfl) (mod2 c)) (by rfl) (eq1 _ (decide_eq_false hodd))) st_nil) st_nil, h⟩
    obtain ⟨w1, hb, hw⟩ := body
    obtain ⟨run', e⟩ := fo_worth (T := T) (l := l) (q := q) rest (pre ++ [c]) w1 w' (.d (nI pre.length)) (by rw [hpl]; exact hw) (by rw [hpl]; omega)
    rw [hpl, ← hp] at e
    exact ⟨run', (fo_cons (by rfl) hb).trans e⟩
theorem F13 {l : List Nat} {w : Nat} (hw : wsLead l) (hl : l.length ≤ 100) (h : worthO l = some w) : T2.F 13 [.str l, VALS] = some (nI w) := by
  unfold worthO at h
  split at h
  · rename_i w0 hv
    obtain ⟨hc, hr⟩ := wsOf_cs l ⟨[], 0, 0, 0⟩ 0 (by simp) (by simp)
    have hc : (wsOf l).cs.length ≤ 0 + l.length := hc
    have hr : (wsOf l).run ≤ 0 + l.length := hr
    have hd : ((wsOf l).cs.map nI).length = (wsOf l).cs.length := by simp
    obtain ⟨run', e⟩ := fo_worth (T := T1) (l := l) (q := nI (wsOf l).run) (wsOf l).cs [] w0 w .un h (by simp; omega)
    have e : fo (fun r d => setTg r (.one 3) d) (exSs T1 worB) (rgo (0 : Nat) 1 (wsOf l).cs.length) (worR l w0 .un (wsOf l).cs (nI (wsOf l).run)) = some (.next, worR l w run' (wsOf l).cs (nI (wsOf l).run)) := e
    have hF : T1.F 15 [.str l] = some (wsD l) := F15 l hw hl
    have key : exSs T1 ir_worth (rho0 [.str l, VALS] 4) = some (.ret (nI w), worR l w run' (wsOf l).cs (nI (wsOf l).run)) := by
      refine st_then (r' := [.d (.str l), .d VALS, .un, .un, .d (.tuple ((wsOf l).cs.map nI)), .d (nI (wsOf l).run)]) ?_ ?_
      · have : evE T1 (rho0 [.str l, VALS] 4) (.attr 3 (.fn 15 (.cons (.var 0) .nil))) = some (.tuple [.tuple ((wsOf l).cs.map nI), nI (wsOf l).run]) := by
          exact (bnd_eq (f := attrD 3) (ev_fn (es_cons (by rfl) es_nil) hF)).trans rfl
        exact st_asgt this rfl
      refine st_then (st_asg (ev_idx (x := VALS) (by rfl) (by rfl) (idx_list (k := (wsOf l).run) (d := nI w0) (by omega) (by rw [List.getElem?_map, hv]; rfl)))) ?_
      refine st_then ((st_for (d := .range 0 ((wsOf l).cs.map nI).length 1) (ev_rng (ev_len (by rfl) (len_tuple (by omega)))) (by rw [hd]; exact iter_rangeI (by omega))).trans e) ?_
      exact st_ret (by rfl)
    show (if [D.str l, VALS].length = 2 then match exSs T1 ir_worth (rho0 [.str l, VALS] 4) with
      | some (.ret d, _) => some d
      | _ => none
      else none) = _
    rw [key]; rfl
  · cases h
end Qu69
end

section
open PySem PySem.W PySem.Calls PyProof.Rows
set_option backward.match.sparseCases false
namespace Qu69

/-! the least that is not there -/
noncomputable def mexO : Nat → List Nat → Nat → Option Nat
  | 0, _, _ => none
  | n + 1, ws, k => if ws.contains k then mexO n ws (k + 1) else some k
theorem ints_map : ∀ ws : List Nat, intsD (ws.map nI) = some (ws.map fun (n : Nat) => (n : Int))
  | [] => rfl
  | w :: ws => by
    exact with1_eq (f := fun r => (w : Int) :: r) (ints_map ws)
theorem any_map (k : Nat) : ∀ ws : List Nat, ((ws.map fun (n : Nat) => (n : Int)).any (· == (k : Int))) = ws.contains k
  | [] => rfl
  | w :: ws => by
    rw [List.map_cons, List.any_cons, any_map k ws, List.contains_cons]
    congr 1
    by_cases h : w = k
    · subst h; simp
    · rw [beq_eq_false_iff_ne.mpr (by omega), beq_eq_false_iff_ne.mpr (by omega)]
theorem F11 {ws : List Nat} {m : Nat} (h : mexO 64 ws 0 = some m) : T2.F 11 [.list (ws.map nI)] = some (nI m) := by
  have go : ∀ (n k : Nat), mexO n ws k = some m → wh (fun r => evT T1 r (.cmp .in_ (.var 1) (.var 0))) (exSs T1 (.cons (.asg [(.one 1)] (.bin .add (.var 1) (.int 1))) .nil)) n [.d (.list (ws.map nI)), .d (nI k)] = some (.next, [.d (.list (ws.map nI)), .d (nI m)]) := by
    intro n
    induction n with
    | zero => intro k h; unfold mexO at h; cases h
    | succ n ih =>
      intro k h
      unfold mexO at h
      have ht : evT T1 [.d (.list (ws.map nI)), .d (nI k)] (.cmp .in_ (.var 1) (.var 0)) = some (ws.contains k) := by
        refine et_cmp (by rfl) (by rfl) ?_
        exact (with1_eq (f := fun x : List Int => x.any (· == (k : Int))) (ints_map ws)).trans (congrArg some (any_map k ws))
      split at h
      · rename_i hc
        rw [hc] at ht
        refine (wh_go (r' := [.d (.list (ws.map nI)), .d (nI (k + 1))]) ht (st_then (st_asg (by rfl)) ?_)).trans (ih _ h)
        rw [← nI_succ]
        exact st_nil
      · rename_i hc
        cases h
        rw [Bool.not_eq_true] at hc
        rw [hc] at ht
        exact wh_end ht
  have key : exSs T1 ir_least (rho0 [.list (ws.map nI)] 1) = some (.ret (nI m), [.d (.list (ws.map nI)), .d (nI m)]) := by
    refine st_then (r' := [.d (.list (ws.map nI)), .d (nI 0)]) (by rfl) ?_
    refine st_then (r' := [.d (.list (ws.map nI)), .d (nI m)]) ?_ (st_ret (by rfl))
    exact go 64 0 h
  show (if [D.list (ws.map nI)].length = 1 then match exSs T1 ir_least (rho0 [.list (ws.map nI)] 1) with
    | some (.ret d, _) => some d
    | _ => none
    else none) = _
  rw [key]; rfl

/-! the knocks at a lead -/
noncomputable def kn (p : List Nat) : List Nat → List (List Nat)
  | [] => []
  | x :: s => (if x = 32 then (p ++ 9 :: s) :: (if s.head? = some 32 then [p ++ 9 :: s.drop 1] else []) else []) ++ kn (p ++ [x]) s
noncomputable def knB : ISs := (.cons (.ifs (.cmp .eq (.idx (.var 0) (.var 2)) (.str [32])) (.cons (.app 1 (.bin .add (.bin .add (.slc (.var 0) .none (.var 2)) (.str [9])) (.slc (.var 0) (.bin .add (.var 2) (.int 1)) .none))) (.cons (.ifs (.cmp .eq (.slc (.var 0) (.var 2) (.bin .add (.var 2) (.int 2))) (.str [32, 32])) (.cons (.app 1 (.bin .add (.bin .add (.slc (.var 0) .none (.var 2)) (.str [9])) (.slc (.var 0) (.bin .add (.var 2) (.int 2)) .none))) .nil) .nil) .nil)) .nil) .nil)
theorem add_str {a b : List Nat} (h : a.length + b.length ≤ 100000) : binD .add (.str a) (.str b) = some (.str (a ++ b)) := by
  show (if a.length + b.length ≤ 100000 then some (D.str (a ++ b)) else none) = _; rw [if_pos h]
theorem add_nat (a b : Nat) : binD .add (nI a) (nI b) = some (nI (a + b)) := by
  show some (D.int ((a : Int) + (b : Int))) = some (D.int ((a + b : Nat) : Int)); rw [Int.natCast_add]
theorem eq_str (a b : List Nat) {z : Bool} (h : decide (a = b) = z) : cmpD .eq (.str a) (.str b) = some z := by
  show some (a == b) = _
  rw [← h]; congr 1
  by_cases e : a = b
  · subst e; simp
  · rw [decide_eq_false e]; exact beq_eq_false_iff_ne.mpr e
section
variable {T : Tab}
theorem ev_pre {r : List LV} {l : List Nat} {i : Nat} {a b : IE} (ha : evE T r a = some (.str l)) (hb : evE T r b = some (nI i)) (hl : l.length ≤ 1000) (hi : i ≤ l.length) : evE T r (.slc a .none b) = some (.str (l.take i)) :=
  ev_slc ha (by rfl) hb ((slc_str (by omega) (by rfl) (by rfl)).trans (by rw [cut_take _ _ hi]))
theorem ev_post {r : List LV} {l : List Nat} {i : Nat} {a b : IE} (ha : evE T r a = some (.str l)) (hb : evE T r b = some (nI i)) (hl : l.length ≤ 1000) (hi : i ≤ l.length) : evE T r (.slc a b .none) = some (.str (l.drop i)) :=
  ev_slc ha hb (by rfl) ((slc_str (by omega) (by rfl) (by rfl)).trans (by rw [cut_drop _ _ hi]))
theorem ev_mid {r : List LV} {l : List Nat} {i j : Nat} {a b c : IE} (ha : evE T r a = some (.str l)) (hb : evE T r b = some (nI i)) (hc : evE T r c = some (nI j)) (hl : l.length ≤ 1000) (hi : i ≤ l.length) : evE T r (.slc a b c) = some (.str ((l.drop i).take (j - i))) :=
  ev_slc ha hb hc ((slc_str (by omega) (by rfl) (by rfl)).trans (by rw [cut_mid _ _ _ hi]))
theorem kn_body {p s : List Nat} {x : Nat} (hl : (p ++ x :: s).length ≤ 100) {acc : List (List Nat)} (ha : acc.length ≤ 900) :
    exSs T knB [.d (.str (p ++ x :: s)), .ml (acc.map D.str), .d (nI p.length)] =
      some (.next, [.d (.str (p ++ x :: s)), .ml ((acc ++ (if x = 32 then (p ++ 9 :: s) :: (if s.head? = some 32 then [p ++ 9 :: s.drop 1] else []) else [])).map D.str), .d (nI p.length)]) := by
  have hlen : (p ++ x :: s).length = p.length + (s.length + 1) := by simp
  have e0 : (p ++ x :: s)[p.length]? = some x := by simp
  have e1 : (p ++ x :: s).take p.length = p := by simp
  have e2 : (p ++ x :: s).drop (p.length + 1) = s := by simp [List.drop_append]
  have e3 : (p ++ x :: s).drop (p.length + 2) = s.drop 1 := by simp [List.drop_append]
  have e4 : ((p ++ x :: s).drop p.length).take (p.length + 2 - p.length) = x :: s.take 1 := by simp
  generalize hL : p ++ x :: s = L at *
  by_cases hx : x = 32
  · subst hx
    rw [if_pos rfl]
    have hd : (acc.map D.str).length = acc.length := by simp
    have v1 : ∀ q : LV, evE T [.d (.str L), q, .d (nI p.length)] (.bin .add (.bin .add (.slc (.var 0) .none (.var 2)) (.str [9])) (.slc (.var 0) (.bin .add (.var 2) (.int 1)) .none)) = some (.str (p ++ 9 :: s)) := fun q => by
      refine ev_bin (ev_bin (ev_pre (l := L) (i := p.length) (by rfl) (by rfl) (by omega) (by omega)) (by rfl) (add_str (by rw [e1]; simp; omega))) (ev_post (l := L) (i := p.length + 1) (by rfl) (ev_bin (by rfl) (by rfl) (add_nat p.length 1)) (by omega) (by omega)) ?_
      rw [e1, e2, add_str (by simp; omega)]; simp
    have v2 : ∀ q : LV, s.head? = some 32 → evE T [.d (.str L), q, .d (nI p.length)] (.bin .add (.bin .add (.slc (.var 0) .none (.var 2)) (.str [9])) (.slc (.var 0) (.bin .add (.var 2) (.int 2)) .none)) = some (.str (p ++ 9 :: s.drop 1)) := fun q hs => by
      have : 1 ≤ s.length := by cases s with
        | nil => cases hs
        | cons => simp
      refine ev_bin (ev_bin (ev_pre (l := L) (i := p.length) (by rfl) (by rfl) (by omega) (by omega)) (by rfl) (add_str (by rw [e1]; simp; omega))) (ev_post (l := L) (i := p.length + 2) (by rfl) (ev_bin (by rfl) (by rfl) (add_nat p.length 2)) (by omega) (by omega)) ?_
      rw [e1, e3, add_str (by simp; omega)]; simp
    have t2 : ∀ q : LV, evT T [.d (.str L), q, .d (nI p.length)] (.cmp .eq (.slc (.var 0) (.var 2) (.bin .add (.var 2) (.int 2))) (.str [32, 32])) = some (decide (s.head? = some 32)) := fun q => by
      refine et_cmp (ev_mid (l := L) (i := p.length) (j := p.length + 2) (by rfl) (by rfl) (ev_bin (by rfl) (by rfl) (add_nat p.length 2)) (by omega) (by omega)) (by rfl) (eq_str _ _ ?_)
      rw [e4]
      cases s with
      | nil => simp
      | cons y s => simp
    refine st_then (r' := [.d (.str L), .ml ((acc ++ (p ++ 9 :: s) :: (if s.head? = some 32 then [p ++ 9 :: s.drop 1] else [])).map D.str), .d (nI p.length)]) (st_if1 (et_cmp (ev_idx (x := .str L) (by rfl) (by rfl) (idx_str (k := p.length) (by omega) e0)) (by rfl) (by rfl)) ?_) st_nil
    refine st_then (st_app (by rfl) (v1 _) (by omega)) ?_
    by_cases hs : s.head? = some 32
    · rw [if_pos hs]
      refine st_then (r' := [.d (.str L), .ml ((acc ++ [p ++ 9 :: s, p ++ 9 :: s.drop 1]).map D.str), .d (nI p.length)]) (st_if1 ((t2 _).trans (by rw [decide_eq_true hs])) ?_) st_nil
      refine st_then (st_app (by rfl) (v2 _ hs) (by simp; omega)) ?_
      simp only [List.map_append, List.map_cons, List.map_nil]
      rw [show ∀ (a : List D) (b c : D), a ++ [b, c] = a ++ [b] ++ [c] from fun a b c => by simp]
      exact st_nil
    · rw [if_neg hs]
      refine st_then (r' := [.d (.str L), .ml ((acc ++ [p ++ 9 :: s]).map D.str), .d (nI p.length)]) (st_if0 ((t2 _).trans (by rw [decide_eq_false hs])) ?_) st_nil
      simp only [List.map_append, List.map_cons, List.map_nil]
      exact st_nil
  · rw [if_neg hx, List.append_nil]
    refine st_then (r' := [.d (.str L), .ml (acc.map D.str), .d (nI p.length)]) (st_if0 (et_cmp (ev_idx (x := .str L) (by rfl) (by rfl) (idx_str (k := p.length) (by omega) e0)) (by rfl) (eq_str _ _ (decide_eq_false (by simpa using hx)))) st_nil) st_nil
theorem kn_len (s : List Nat) : ∀ p, (kn p s).length ≤ 2 * s.length := by
  induction s with
  | nil => intro p; simp [kn]
  | cons x s ih =>
    intro p
    have := ih (p ++ [x])
    unfold kn
    rw [List.length_append, List.length_cons]
    split
    · split <;> simp <;> omega
    · simp; omega
theorem fo_kn : ∀ (s p : List Nat) (acc : List (List Nat)) (i : LV), (p ++ s).length ≤ 100 → acc.length ≤ 2 * p.length →
    ∃ i', fo (fun r d => setTg r (.one 2) d) (exSs T knB) (rgo (p.length : Nat) 1 s.length) [.d (.str (p ++ s)), .ml (acc.map D.str), i] = some (.next, [.d (.str (p ++ s)), .ml ((acc ++ kn p s).map D.str), i'])
  | [], p, acc, i, _, _ => ⟨i, by unfold kn; rw [List.append_nil acc]; rfl⟩
  | x :: s, p, acc, i, hl, ha => by
    have hp : p ++ x :: s = (p ++ [x]) ++ s := by simp
    have hpl : (p ++ [x]).length = p.length + 1 := by simp
    have hlen : (p ++ x :: s).length = p.length + (s.length + 1) := by simp
    rw [List.length_cons, rgo_succ]
    obtain ⟨i', e⟩ := fo_kn s (p ++ [x]) (acc ++ (if x = 32 then (p ++ 9 :: s) :: (if s.head? = some 32 then [p ++ 9 :: s.drop 1] else []) else [])) (.d (nI p.length)) (by rw [← hp]; exact hl) (by
      rw [List.length_append, hpl]; split
      · split <;> simp <;> omega
      · simp; omega)
    rw [hpl, ← hp] at e
    refine ⟨i', (fo_cons (by rfl) (kn_body hl (by omega))).trans (e.trans ?_)⟩
    rw [List.append_assoc]
    rfl
end
theorem F14 {l : List Nat} (hl : l.length ≤ 100) : T2.F 14 [.str l] = some (.list ((kn [] l).map D.str)) := by
  obtain ⟨i', e⟩ := fo_kn (T := T1) l [] [] .un hl (by simp)
  have e : fo (fun r d => setTg r (.one 2) d) (exSs T1 knB) (rgo (0 : Nat) 1 l.length) [.d (.str l), .ml [], .un] = some (.next, [.d (.str l), .ml ((kn [] l).map D.str), i']) := e
  have key : exSs T1 ir_knocks (rho0 [.str l] 2) = some (.ret (.list ((kn [] l).map D.str)), [.d (.str l), .d (.list ((kn [] l).map D.str)), i']) := by
    refine st_then (r' := [.d (.str l), .ml [], .un]) (by rfl) ?_
    refine st_then ((st_for (d := .range 0 l.length 1) (ev_rng (ev_len (by rfl) (len_str (by omega)))) (iter_rangeI (by omega))).trans e) ?_
    refine (st_frz (by rfl)).trans ?_
    exact st_ret (by rfl)
  show (if [D.str l].length = 1 then match exSs T1 ir_knocks (rho0 [.str l] 2) with
    | some (.ret d, _) => some d
    | _ => none
    else none) = _
  rw [key]; rfl
end Qu69
end

section
open PySem PySem.W PySem.Calls PyProof.Rows
set_option backward.match.sparseCases false
namespace Qu69

/-! the distance -/
noncomputable def cpl : List Nat → List Nat → List Nat
  | x :: a, y :: b => if x = y then x :: cpl a b else []
  | _, _ => []
noncomputable def inn (bc : Nat) : List Nat → List Nat → Nat → Nat → Nat → List Nat × Nat × Nat
  | a :: as, d :: row, dist, res, mn =>
    let r := min (min res d + 2) (dist + if bc = a then 0 else 2)
    let z := inn bc as row d r (min mn r)
    (r :: z.1, z.2)
  | _, _, _, res, mn => ([], res, mn)
noncomputable def out (A : List Nat) (cap : Nat) : List Nat → Nat → List Nat → Nat → Nat
  | [], _, _, res => res
  | b :: bs, bi, row, _ =>
    let z := inn b A row (2 * bi) (2 * bi) 9223372036854775807
    if cap < z.2.2 then cap + 1 else out A cap bs (bi + 1) z.1 z.2.1
noncomputable def levC (A B : List Nat) (cap : Nat) : Nat :=
  if A = [] ∨ B = [] then 2 * (A.length + B.length) else
  let P := if B.length < A.length then (B, A) else (A, B)
  if cap < (P.2.length - P.1.length) * 2 then cap + 1 else out P.1 cap P.2 0 ((List.range P.1.length).map fun i => 2 * (i + 1)) 0
noncomputable def cutP (a b : List Nat) : List Nat := a.drop (cpl a b).length
noncomputable def lev (a b : List Nat) (cap : Nat) : Nat :=
  if a = b then 0 else
  let s := (cutP a b).reverse
  let t := (cutP b a).reverse
  levC (cutP s t).reverse (cutP t s).reverse cap

theorem cpl_comm : ∀ a b : List Nat, cpl a b = cpl b a
  | [], [] => rfl
  | [], _ :: _ => rfl
  | _ :: _, [] => rfl
  | x :: a, y :: b => by
    unfold cpl
    by_cases h : x = y
    · subst h; simp [cpl_comm a b]
    · rw [if_neg h, if_neg (fun e => h e.symm)]
theorem cpl_le : ∀ a b : List Nat, (cpl a b).length ≤ a.length
  | [], _ => by unfold cpl; simp
  | _ :: _, [] => by unfold cpl; simp
  | x :: a, y :: b => by
    unfold cpl
    have := cpl_le a b
    split <;> simp
    exact this

section
variable {T : Tab} {r : List LV}
theorem ea_nil : evAnd T r .nil = some true := rfl
theorem ea_1 {t : IT} {ts : ITs} {X : Option Bool} (h : evT T r t = some true) (k : evAnd T r ts = X) : evAnd T r (.cons t ts) = X := (bnd_eq (f := fun t => cond t (evAnd T r ts) (some false)) h).trans k
theorem ea_0 {t : IT} {ts : ITs} (h : evT T r t = some false) : evAnd T r (.cons t ts) = some false := bnd_eq (f := fun t => cond t (evAnd T r ts) (some false)) h
theorem eo_nil : evOr T r .nil = some false := rfl
theorem eo_0 {t : IT} {ts : ITs} {X : Option Bool} (h : evT T r t = some false) (k : evOr T r ts = X) : evOr T r (.cons t ts) = X := (bnd_eq (f := fun t => cond t (some true) (evOr T r ts)) h).trans k
theorem eo_1 {t : IT} {ts : ITs} (h : evT T r t = some true) : evOr T r (.cons t ts) = some true := bnd_eq (f := fun t => cond t (some true) (evOr T r ts)) h
theorem et_and {ts : ITs} {X : Option Bool} (h : evAnd T r ts = X) : evT T r (.and ts) = X := h
theorem et_or {ts : ITs} {X : Option Bool} (h : evOr T r ts = X) : evT T r (.or ts) = X := h
theorem et_not {t : IT} {b : Bool} (h : evT T r t = some b) : evT T r (.not t) = some (!b) := with1_eq (f := not) h
theorem tr_str {l : List Nat} (h : l.length ≤ 100000) : truthD (.str l) = some (!l.isEmpty) := if_pos h
theorem st_aug {i : Nat} {op : BO} {e : IE} {x y z : D} (h : r[i]? = some (.d x)) (he : evE T r e = some y) (hz : augD op x y = some z) : exS T (.aug i op e) r = some (.next, r.set i (.d z)) :=
  (bnd2_eq (f := fun x y => with1 (augLV op x y) fun z => (Fl.next, r.set i (.d z))) h he).trans (with1_eq (f := fun z => (Fl.next, r.set i (.d z))) hz)
theorem st_asgs {tgs : List TG} {e : IE} {d : D} (h : evE T r e = some d) : exS T (.asg tgs e) r = with1 (setTgs r tgs d) fun r => (Fl.next, r) := bnd_eq (f := fun d => with1 (setTgs r tgs d) fun r => (Fl.next, r)) h
theorem ev_var {i : Nat} {d : D} (h : r[i]? = some (.d d)) : evE T r (.var i) = some d := bnd_eq (f := lvD) h
theorem ev_or0 {a b : IE} {x : D} {X : Option D} (ha : evE T r a = some x) (h : truthD x = some false) (hb : evE T r b = X) : evE T r (.or2 a b) = X :=
  ((bnd_eq (f := fun x => bnd (truthD x) fun t => cond t (some x) (evE T r b)) ha).trans (bnd_eq h)).trans hb
theorem ev_or1 {a b : IE} {x : D} (ha : evE T r a = some x) (h : truthD x = some true) : evE T r (.or2 a b) = some x :=
  (bnd_eq (f := fun x => bnd (truthD x) fun t => cond t (some x) (evE T r b)) ha).trans (bnd_eq h)
theorem mul_nat {a b : Nat} (h : a ≤ 100000) : binD .mul (nI a) (nI b) = some (nI (a * b)) := by
  show (if small (a : Int) = true then some (D.int ((a : Int) * (b : Int))) else none) = _
  rw [if_pos (small_of (by omega) (by omega))]; rfl
theorem fo_ret {s : List LV → D → Option (List LV)} {b : List LV → Option (Fl × List LV)} {d v : D} {ds : List D} {r r1 r2 : List LV} (h1 : s r d = some r1) (h2 : b r1 = some (.ret v, r2)) : fo s b (d :: ds) r = some (.ret v, r2) :=
  (bnd_eq (f := fun r₁ => bnd (b r₁) (loopS (fo s b ds))) h1).trans (bnd_eq h2)

/-! the common head -/
noncomputable def preT : IT := (.and (.cons (.t (.slc (.var 0) (.var 3) .none)) (.cons (.t (.slc (.var 1) (.var 3) .none)) (.cons (.cmp .eq (.idx (.var 0) (.var 3)) (.idx (.var 1) (.var 3))) .nil))))
noncomputable def preB : ISs := (.cons (.aug 3 .add (.int 1)) .nil)
theorem pre_loop {c : D} {U : List LV} : ∀ (s t p : List Nat) (n : Nat), s.length < n → (p ++ s).length ≤ 100 → (p ++ t).length ≤ 100 →
    wh (fun r => evT T r preT) (exSs T preB) n (.d (.str (p ++ s)) :: .d (.str (p ++ t)) :: .d c :: .d (nI p.length) :: U) =
      some (.next, .d (.str (p ++ s)) :: .d (.str (p ++ t)) :: .d c :: .d (nI (p.length + (cpl s t).length)) :: U)
  | s, t, p, 0, h, _, _ => absurd h (Nat.not_lt_zero _)
  | s, t, p, n + 1, h, h1, h2 => by
    simp only [List.length_append] at h1 h2
    have c1 : ∀ r : List LV, r[0]? = some (.d (.str (p ++ s))) → r[3]? = some (.d (nI p.length)) → evT T r (.t (.slc (.var 0) (.var 3) .none)) = some (!s.isEmpty) := fun r e e' => by
      refine (et_t (ev_post (l := p ++ s) (i := p.length) (ev_var e) (ev_var e') (by simp; omega) (by simp)) (tr_str (by simp; omega))).trans ?_
      rw [List.drop_left]
    have c2 : ∀ r : List LV, r[1]? = some (.d (.str (p ++ t))) → r[3]? = some (.d (nI p.length)) → evT T r (.t (.slc (.var 1) (.var 3) .none)) = some (!t.isEmpty) := fun r e e' => by
      refine (et_t (ev_post (l := p ++ t) (i := p.length) (ev_var e) (ev_var e') (by simp; omega) (by simp)) (tr_str (by simp; omega))).trans ?_
      rw [List.drop_left]
    have stop : (cpl s t).length = 0 → evT T (.d (.str (p ++ s)) :: .d (.str (p ++ t)) :: .d c :: .d (nI p.length) :: U) preT = some false → wh (fun r => evT T r preT) (exSs T preB) (n + 1) (.d (.str (p ++ s)) :: .d (.str (p ++ t)) :: .d c :: .d (nI p.length) :: U) =
      some (.next, .d (.str (p ++ s)) :: .d (.str (p ++ t)) :: .d c :: .d (nI (p.length + (cpl s t).length)) :: U) := fun e0 e => by
      rw [e0]; exact wh_end e
    cases s with
    | nil => exact stop (by unfold cpl; rfl) (et_and (ea_0 (c1 _ rfl rfl)))
    | cons x s =>
      cases t with
      | nil => exact stop (by unfold cpl; rfl) (et_and (ea_1 (c1 _ rfl rfl) (ea_0 (c2 _ rfl rfl))))
      | cons y t =>
        have i1 : (p ++ x :: s)[p.length]? = some x := by simp
        have i2 : (p ++ y :: t)[p.length]? = some y := by simp
        have c3 : evT T (.d (.str (p ++ x :: s)) :: .d (.str (p ++ y :: t)) :: .d c :: .d (nI p.length) :: U) (.cmp .eq (.idx (.var 0) (.var 3)) (.idx (.var 1) (.var 3))) = some (decide ([x] = [y])) :=
          et_cmp (ev_idx (x := .str (p ++ x :: s)) (y := nI p.length) (by rfl) (by rfl) (idx_str (by omega) i1)) (ev_idx (x := .str (p ++ y :: t)) (y := nI p.length) (by rfl) (by rfl) (idx_str (by omega) i2)) (eq_str _ _ rfl)
        by_cases hxy : x = y
        · subst hxy
          refine (wh_go (r' := .d (.str (p ++ x :: s)) :: .d (.str (p ++ x :: t)) :: .d c :: .d (nI (p.length + 1)) :: U) (et_and (ea_1 (c1 _ rfl rfl) (ea_1 (c2 _ rfl rfl) (ea_1 (c3.trans (by simp)) ea_nil)))) (st_then (st_aug (by rfl) (by rfl) (by rfl)) ?_)).trans ?_
          · rw [← nI_succ]; exact st_nil
          · have ih := pre_loop (c := c) (U := U) s t (p ++ [x]) n (by simp only [List.length_cons] at h; omega) (by simp only [List.length_cons] at h1; simp; omega) (by simp only [List.length_cons] at h2; simp; omega)
            rw [List.append_assoc, List.append_assoc, show (p ++ [x]).length = p.length + 1 by simp] at ih
            refine ih.trans ?_
            rw [show cpl (x :: s) (x :: t) = x :: cpl s t from if_pos rfl, List.length_cons, show p.length + 1 + (cpl s t).length = p.length + ((cpl s t).length + 1) by omega]
            rfl
        · exact stop (by unfold cpl; rw [if_neg hxy]; rfl) (et_and (ea_1 (c1 _ rfl rfl) (ea_1 (c2 _ rfl rfl) (ea_0 (c3.trans (by simpa using hxy))))))
/-! the common tail -/
noncomputable def nN (n : Nat) : D := .int (-(n : Int))
theorem ev_cutN {a u : List Nat} {i : Nat} (h : r[i]? = some (.d (.str (a ++ u)))) (h4 : r[4]? = some (.d (nN u.length))) (hl : (a ++ u).length ≤ 100000) : evE T r (.slc (.var i) .none (.or2 (.var 4) .none)) = some (.str a) := by
  by_cases hu : u = []
  · subst hu
    refine (ev_slc (y := .none) (z := .none) (ev_var h) (by rfl) (ev_or0 (ev_var h4) (by rfl) (by rfl)) (slc_str hl (by rfl) (by rfl))).trans (by rw [cut_all, List.append_nil])
  · have : u.length ≠ 0 := by simpa using hu
    have ht : truthD (nN u.length) = some true := by
      show some ((-(u.length : Int)) != 0) = _
      congr 1
      exact bne_iff_ne.mpr (by omega)
    exact (ev_slc (y := .none) (z := nN u.length) (ev_var h) (by rfl) (ev_or1 (ev_var h4) ht) (slc_str hl (by rfl) (by rfl))).trans (by rw [cut_neg _ _ hu])
theorem idx_neg {a u : List Nat} {x : Nat} (hl : (a ++ u).length ≤ 1000) : idxD (.str ((a ++ [x]) ++ u)) (.int (-(u.length : Int) - 1)) = some (.str [x]) := by
  simp only [List.length_append] at hl
  show (if small (-(u.length : Int) - 1) = true then (seqIndex? (-(u.length : Int) - 1) ((a ++ [x]) ++ u).length).bind (chrAt ((a ++ [x]) ++ u)) else none) = _
  rw [if_pos (small_of (by omega) (by omega))]
  have : seqIndex? (-(u.length : Int) - 1) ((a ++ [x]) ++ u).length = some a.length := by
    unfold seqIndex?
    simp
    omega
  rw [this]
  exact with1_eq (f := fun x => D.str [x]) (show ((a ++ [x]) ++ u)[a.length]? = some x by simp)
noncomputable def postT : IT := (.and (.cons (.t (.slc (.var 0) .none (.or2 (.var 4) .none))) (.cons (.t (.slc (.var 1) .none (.or2 (.var 4) .none))) (.cons (.cmp .eq (.idx (.var 0) (.bin .sub (.var 4) (.int 1))) (.idx (.var 1) (.bin .sub (.var 4) (.int 1)))) .nil))))
noncomputable def postB : ISs := (.cons (.aug 4 .sub (.int 1)) .nil)
theorem post_loop {c : D} {q : LV} {U : List LV} : ∀ (s t u : List Nat) (n : Nat), s.length < n → s.length + u.length ≤ 100 → t.length + u.length ≤ 100 →
    wh (fun r => evT T r postT) (exSs T postB) n (.d (.str (s.reverse ++ u)) :: .d (.str (t.reverse ++ u)) :: .d c :: q :: .d (nN u.length) :: U) =
      some (.next, .d (.str (s.reverse ++ u)) :: .d (.str (t.reverse ++ u)) :: .d c :: q :: .d (nN (u.length + (cpl s t).length)) :: U)
  | s, t, u, 0, h, _, _ => absurd h (Nat.not_lt_zero _)
  | s, t, u, n + 1, h, h1, h2 => by
    have c1 : ∀ r : List LV, r[0]? = some (.d (.str (s.reverse ++ u))) → r[4]? = some (.d (nN u.length)) → evT T r (.t (.slc (.var 0) .none (.or2 (.var 4) .none))) = some (!s.isEmpty) := fun r e e' => by
      refine (et_t (ev_cutN (a := s.reverse) (u := u) e e' (by simp; omega)) (tr_str (by simp; omega))).trans ?_
      rw [List.isEmpty_reverse]
    have c2 : ∀ r : List LV, r[1]? = some (.d (.str (t.reverse ++ u))) → r[4]? = some (.d (nN u.length)) → evT T r (.t (.slc (.var 1) .none (.or2 (.var 4) .none))) = some (!t.isEmpty) := fun r e e' => by
      refine (et_t (ev_cutN (a := t.reverse) (u := u) e e' (by simp; omega)) (tr_str (by simp; omega))).trans ?_
      rw [List.isEmpty_reverse]
    have stop : (cpl s t).length = 0 → evT T (.d (.str (s.reverse ++ u)) :: .d (.str (t.reverse ++ u)) :: .d c :: q :: .d (nN u.length) :: U) postT = some false → wh (fun r => evT T r postT) (exSs T postB) (n + 1) (.d (.str (s.reverse ++ u)) :: .d (.str (t.reverse ++ u)) :: .d c :: q :: .d (nN u.length) :: U) =
      some (.next, .d (.str (s.reverse ++ u)) :: .d (.str (t.reverse ++ u)) :: .d c :: q :: .d (nN (u.length + (cpl s t).length)) :: U) := fun e0 e => by
      rw [e0]; exact wh_end e
    cases s with
    | nil => exact stop (by unfold cpl; rfl) (et_and (ea_0 (c1 _ rfl rfl)))
    | cons x s =>
      cases t with
      | nil => exact stop (by unfold cpl; rfl) (et_and (ea_1 (c1 _ rfl rfl) (ea_0 (c2 _ rfl rfl))))
      | cons y t =>
        simp only [List.length_cons] at h h1 h2
        have c3 : evT T (.d (.str ((x :: s).reverse ++ u)) :: .d (.str ((y :: t).reverse ++ u)) :: .d c :: q :: .d (nN u.length) :: U) (.cmp .eq (.idx (.var 0) (.bin .sub (.var 4) (.int 1))) (.idx (.var 1) (.bin .sub (.var 4) (.int 1)))) = some (decide ([x] = [y])) := by
          rw [List.reverse_cons, List.reverse_cons]
          exact et_cmp (ev_idx (x := .str ((s.reverse ++ [x]) ++ u)) (y := .int (-(u.length : Int) - 1)) (by rfl) (ev_bin (by rfl) (by rfl) (by rfl)) (idx_neg (by simp; omega))) (ev_idx (x := .str ((t.reverse ++ [y]) ++ u)) (y := .int (-(u.length : Int) - 1)) (by rfl) (ev_bin (by rfl) (by rfl) (by rfl)) (idx_neg (by simp; omega))) (eq_str _ _ rfl)
        by_cases hxy : x = y
        · subst hxy
          refine (wh_go (r' := .d (.str ((x :: s).reverse ++ u)) :: .d (.str ((x :: t).reverse ++ u)) :: .d c :: q :: .d (nN (u.length + 1)) :: U) (et_and (ea_1 (c1 _ rfl rfl) (ea_1 (c2 _ rfl rfl) (ea_1 (c3.trans (by simp)) ea_nil)))) (st_then (st_aug (z := nN (u.length + 1)) (by rfl) (by rfl) ?_) ?_)).trans ?_
          · show some (D.int (-(u.length : Int) - 1)) = some (D.int (-((u.length + 1 : Nat) : Int)))
            congr 2; omega
          · exact st_nil
          · have ih := post_loop (c := c) (q := q) (U := U) s t (x :: u) n (by omega) (by simp; omega) (by simp; omega)
            have e1 : ∀ l : List Nat, (x :: l).reverse ++ u = l.reverse ++ x :: u := fun l => by simp
            rw [e1, e1]
            refine ih.trans ?_
            rw [show cpl (x :: s) (x :: t) = x :: cpl s t from if_pos rfl, List.length_cons, List.length_cons, show u.length + 1 + (cpl s t).length = u.length + ((cpl s t).length + 1) by omega]
        · exact stop (by unfold cpl; rw [if_neg hxy]; rfl) (et_and (ea_1 (c1 _ rfl rfl) (ea_1 (c2 _ rfl rfl) (ea_0 (c3.trans (by simpa using hxy))))))
end
end Qu69
end

section
open PySem PySem.W PySem.Calls PyProof.Rows
set_option backward.match.sparseCases false
namespace Qu69

noncomputable def innB : ISs := (.cons (.asg [(.one 12)] (.bin .add (.var 9) (.fn 8 (.cons (.var 8) (.cons (.idx (.var 0) (.var 11)) .nil))))) (.cons (.asg [(.one 9)] (.idxM 5 (.var 11))) (.cons (.asg [(.one 13)] (.bin .add (.blt .min (.cons (.var 6) (.cons (.var 9) .nil))) (.glob 1))) (.cons (.asg [(.one 6)] (.blt .min (.cons (.var 13) (.cons (.var 12) .nil)))) (.cons (.sti 5 (.var 11) (.var 6)) (.cons (.ifs (.cmp .lt (.var 6) (.var 10)) (.cons (.asg [(.one 10)] (.var 6)) .nil) .nil) .nil))))))
noncomputable def outB : ISs := (.cons (.asg [(.one 8)] (.idx (.var 1) (.var 7))) (.cons (.asg [(.one 9), (.one 6)] (.bin .mul (.var 7) (.glob 1))) (.cons (.asg [(.one 10)] (.int 9223372036854775807)) (.cons (.fors (.one 11) (.blt .range (.cons (.blt .len (.cons (.var 0) .nil)) .nil)) innB) (.cons (.ifs (.cmp .gt (.var 10) (.var 2)) (.cons (.ret (.bin .add (.var 2) (.int 1))) .nil) .nil) .nil)))))
theorem sub_cost {b a : Nat} (hb : b = 9 ∨ b = 32) (ha : a = 9 ∨ a = 32) : T1.F 8 [.str [b], .str [a]] = some (nI (if b = a then 0 else 2)) := by
  rcases hb with rfl | rfl <;> rcases ha with rfl | rfl <;> kernel_rfl
theorem glob1 (r : List LV) : evE T1 r (.glob 1) = some (nI 2) := rfl
theorem min_nat (a b : Nat) : bltD .min [nI a, nI b] = some (nI (min a b)) := by
  show some (D.int (if (b : Int) < (a : Int) then (b : Int) else (a : Int))) = some (D.int ((min a b : Nat) : Int))
  congr 2
  split <;> omega
/-- the variables in the loops -/
noncomputable def lvR (A B : List Nat) (cap : Nat) (pre post : LV) (row : List Nat) (res : Nat) (bi bch : LV) (dist mn ix sb ins : LV) : List LV :=
  [.d (.str A), .d (.str B), .d (nI cap), pre, post, .ml (row.map nI), .d (nI res), bi, bch, dist, mn, ix, sb, ins]
section
variable {A B : List Nat} {cap : Nat} {pre post : LV}
theorem inn_body {bc a i d dist res mn : Nat} {row : List Nat} (hb : bc = 9 ∨ bc = 32) (ha : a = 9 ∨ a = 32) (hA : A[i]? = some a) (hrow : row[i]? = some d) (hi : i < 100) (hr : row.length ≤ 1000) (bi sb ins : LV) :
    exSs T1 innB (lvR A B cap pre post row res bi (.d (.str [bc])) (.d (nI dist)) (.d (nI mn)) (.d (nI i)) sb ins) =
      some (.next, lvR A B cap pre post (row.set i (min (min res d + 2) (dist + if bc = a then 0 else 2))) (min (min res d + 2) (dist + if bc = a then 0 else 2)) bi (.d (.str [bc])) (.d (nI d)) (.d (nI (min mn (min (min res d + 2) (dist + if bc = a then 0 else 2))))) (.d (nI i)) (.d (nI (dist + if bc = a then 0 else 2))) (.d (nI (min res d + 2)))) := by
  have hrow' : (row.map nI)[i]? = some (nI d) := by rw [List.getElem?_map, hrow]; rfl
  have hd : (row.map nI).length = row.length := by simp
  have hil : i < row.length := (List.getElem?_eq_some_iff.mp hrow).1
  unfold lvR
  rw [List.map_set]
  have hF := sub_cost hb ha
  generalize (if bc = a then 0 else 2) = sc at hF ⊢
  generalize row.map nI = rw' at hrow' hd ⊢
  refine st_then (st_asg (ev_bin (by rfl) (ev_fn (es_cons (by rfl) (es_cons (ev_idx (x := .str A) (y := nI i) (by rfl) (by rfl) (idx_str (by omega) hA)) es_nil)) hF) (add_nat dist sc))) ?_
  refine st_then (st_asg (ev_idxM (k := i) (by rfl) (by rfl) (by omega) hrow')) ?_
  refine st_then (st_asg (ev_bin (ev_blt (es_cons (by rfl) (es_cons (by rfl) es_nil)) (min_nat res d)) (glob1 _) (add_nat (min res d) 2))) ?_
  refine st_then (st_asg (ev_blt (es_cons (by rfl) (es_cons (by rfl) es_nil)) (min_nat (min res d + 2) (dist + sc)))) ?_
  generalize min (min res d + 2) (dist + sc) = rr
  refine st_then (st_sti (k := i) (by rfl) (by rfl) (by rfl) (by omega) (by omega)) ?_
  by_cases hlt : rr < mn
  · rw [show min mn rr = rr by omega]
    refine st_then (st_if1 (et_cmp (x := nI rr) (y := nI mn) (by rfl) (by rfl) (cmp_lt (decide_eq_true (by omega)))) (st_then (st_asg (d := nI rr) (by rfl)) st_nil)) ?_
    exact st_nil
  · rw [show min mn rr = mn by omega]
    refine st_then (st_if0 (et_cmp (x := nI rr) (y := nI mn) (by rfl) (by rfl) (cmp_lt (decide_eq_false (by omega)))) st_nil) ?_
    exact st_nil
theorem fo_inn {bc : Nat} (hb : bc = 9 ∨ bc = 32) (bi : LV) : ∀ (as : List Nat) (rest : List Nat) (ad done : List Nat) (dist res mn : Nat) (ix sb ins : LV), as.length = rest.length → ad.length = done.length → A = ad ++ as → A.length ≤ 90 → wsLead A →
    ∃ dist' ix' sb' ins', fo (fun r d => setTg r (.one 11) d) (exSs T1 innB) (rgo (done.length : Nat) 1 as.length) (lvR A B cap pre post (done ++ rest) res bi (.d (.str [bc])) (.d (nI dist)) (.d (nI mn)) ix sb ins) =
      some (.next, lvR A B cap pre post (done ++ (inn bc as rest dist res mn).1) (inn bc as rest dist res mn).2.1 bi (.d (.str [bc])) dist' (.d (nI (inn bc as rest dist res mn).2.2)) ix' sb' ins')
  | [], [], ad, done, dist, res, mn, ix, sb, ins, _, _, _, _, _ => ⟨_, ix, sb, ins, by unfold inn; rfl⟩
  | [], _ :: _, _, _, _, _, _, _, _, _, h, _, _, _, _ => by simp at h
  | _ :: _, [], _, _, _, _, _, _, _, _, h, _, _, _, _ => by simp at h
  | a :: as, d :: rest, ad, done, dist, res, mn, ix, sb, ins, h, h', hA, hl, hw => by
    simp only [List.length_cons, Nat.add_right_cancel_iff] at h
    have hlA : A.length = ad.length + (as.length + 1) := by rw [hA]; simp
    have ha : a = 9 ∨ a = 32 := hw a (by rw [hA]; simp)
    have e1 : A[done.length]? = some a := by rw [hA, ← h']; simp
    have e2 : (done ++ d :: rest)[done.length]? = some d := by simp
    have hb' := inn_body (A := A) (B := B) (cap := cap) (pre := pre) (post := post) (dist := dist) (res := res) (mn := mn) hb ha e1 e2 (by omega) (by simp; omega) bi sb ins
    rw [List.length_cons, rgo_succ]
    unfold inn
    dsimp only
    generalize min (min res d + 2) (dist + if bc = a then 0 else 2) = rr at hb' ⊢
    obtain ⟨dist', ix', sb', ins', e⟩ := fo_inn hb bi as rest (ad ++ [a]) (done ++ [rr]) d rr (min mn rr) (.d (nI done.length)) (.d (nI (dist + if bc = a then 0 else 2))) (.d (nI (min res d + 2))) h (by simp [h']) (by rw [hA]; simp) hl hw
    refine ⟨dist', ix', sb', ins', ?_⟩
    rw [show (done ++ d :: rest).set done.length rr = done ++ rr :: rest by simp] at hb'
    refine (fo_cons (by rfl) hb').trans ?_
    rw [show (done ++ [rr]).length = done.length + 1 by simp, List.append_assoc, List.append_assoc] at e
    exact e
theorem inn_len (bc : Nat) : ∀ (as row : List Nat) (dist res mn : Nat), as.length = row.length → (inn bc as row dist res mn).1.length = row.length
  | [], [], _, _, _, _ => by unfold inn; rfl
  | [], _ :: _, _, _, _, h => by simp at h
  | _ :: _, [], _, _, _, h => by simp at h
  | a :: as, d :: row, dist, res, mn, h => by
    unfold inn
    simp only [List.length_cons, Nat.add_right_cancel_iff] at h ⊢
    exact inn_len bc as row _ _ _ h
theorem fo_out : ∀ (bs bd : List Nat) (row : List Nat) (res : Nat) (bi bch dist mn ix sb ins : LV), B = bd ++ bs → row.length = A.length → A.length ≤ 90 → B.length ≤ 90 → wsLead A → wsLead B → cap ≤ 100000 →
    (∃ q, fo (fun r d => setTg r (.one 7) d) (exSs T1 outB) (rgo (bd.length : Nat) 1 bs.length) (lvR A B cap pre post row res bi bch dist mn ix sb ins) = some (.ret (nI (out A cap bs bd.length row res)), q)) ∨
    (∃ row' bi' bch' dist' mn' ix' sb' ins', fo (fun r d => setTg r (.one 7) d) (exSs T1 outB) (rgo (bd.length : Nat) 1 bs.length) (lvR A B cap pre post row res bi bch dist mn ix sb ins) = some (.next, lvR A B cap pre post row' (out A cap bs bd.length row res) bi' bch' dist' mn' ix' sb' ins'))
  | [], bd, row, res, bi, bch, dist, mn, ix, sb, ins, _, _, _, _, _, _, _ => .inr ⟨row, bi, bch, dist, mn, ix, sb, ins, by unfold out; rfl⟩
  | b :: bs, bd, row, res, bi, bch, dist, mn, ix, sb, ins, hB, hr, hl, hl', hw, hw', hc => by
    have hlB : B.length = bd.length + (bs.length + 1) := by rw [hB]; simp
    have hb : b = 9 ∨ b = 32 := hw' b (by rw [hB]; simp)
    have e1 : B[bd.length]? = some b := by rw [hB]; simp
    rw [List.length_cons, rgo_succ]
    obtain ⟨dist', ix', sb', ins', e⟩ := fo_inn (A := A) (B := B) (cap := cap) (pre := pre) (post := post) hb (.d (nI bd.length)) A row [] [] (2 * bd.length) (2 * bd.length) 9223372036854775807 ix sb ins hr.symm rfl rfl hl hw
    have hin := inn_len b A row (2 * bd.length) (2 * bd.length) 9223372036854775807 hr.symm
    unfold out
    dsimp only
    generalize inn b A row (2 * bd.length) (2 * bd.length) 9223372036854775807 = z at e hin ⊢
    have start : ∀ X, exSs T1 (.cons (.ifs (.cmp .gt (.var 10) (.var 2)) (.cons (.ret (.bin .add (.var 2) (.int 1))) .nil) .nil) .nil) (lvR A B cap pre post z.1 z.2.1 (.d (nI bd.length)) (.d (.str [b])) dist' (.d (nI z.2.2)) ix' sb' ins') = X →
        exSs T1 outB (lvR A B cap pre post row res (.d (nI bd.length)) bch dist mn ix sb ins) = X := fun X k => by
      refine st_then (st_asg (ev_idx (x := .str B) (y := nI bd.length) (by rfl) (by rfl) (idx_str (by omega) e1))) ?_
      refine st_then (r' := lvR A B cap pre post row (2 * bd.length) (.d (nI bd.length)) (.d (.str [b])) (.d (nI (2 * bd.length))) mn ix sb ins) ?_ ?_
      · rw [st_asgs (ev_bin (by rfl) (glob1 _) (mul_nat (a := bd.length) (b := 2) (by omega))), Nat.mul_comm]; rfl
      refine st_then (r' := lvR A B cap pre post row (2 * bd.length) (.d (nI bd.length)) (.d (.str [b])) (.d (nI (2 * bd.length))) (.d (nI 9223372036854775807)) ix sb ins) (st_asg (d := nI 9223372036854775807) (by rfl)) ?_
      refine st_then ((st_for (d := .range 0 A.length 1) (ev_rng (ev_len (by rfl) (len_str (by omega)))) (iter_rangeI (by omega))).trans e) ?_
      exact k
    by_cases hcap : cap < z.2.2
    · rw [if_pos hcap]
      refine .inl ⟨lvR A B cap pre post z.1 z.2.1 (.d (nI bd.length)) (.d (.str [b])) dist' (.d (nI z.2.2)) ix' sb' ins', fo_ret (by rfl) (start _ ?_)⟩
      exact st_stop (st_if1 (et_cmp (x := nI z.2.2) (y := nI cap) (by rfl) (by rfl) (cmp_gt (decide_eq_true (by omega)))) (st_ret (ev_bin (by rfl) (by rfl) (add_nat cap 1))))
    · rw [if_neg hcap]
      have hs := start _ (st_then (st_if0 (et_cmp (x := nI z.2.2) (y := nI cap) (by rfl) (by rfl) (cmp_gt (decide_eq_false (by omega)))) st_nil) st_nil)
      have ih := fo_out bs (bd ++ [b]) z.1 z.2.1 (.d (nI bd.length)) (.d (.str [b])) dist' (.d (nI z.2.2)) ix' sb' ins' (by rw [hB]; simp) (by omega) hl hl' hw hw' hc
      rw [show (bd ++ [b]).length = bd.length + 1 by simp] at ih
      rcases ih with ⟨q, e'⟩ | ⟨row', bi', bch', dist'', mn', ix'', sb'', ins'', e'⟩
      · exact .inl ⟨q, (fo_cons (by rfl) hs).trans e'⟩
      · exact .inr ⟨row', bi', bch', dist'', mn', ix'', sb'', ins'', (fo_cons (by rfl) hs).trans e'⟩
end
end Qu69
end

section
open PySem PySem.W PySem.Calls PyProof.Rows
set_option backward.match.sparseCases false
namespace Qu69

theorem rgo_row : ∀ (n k : Nat), rgo ((2 * (k + 1) : Nat) : Int) 2 n = (List.range n).map fun i => nI (2 * (i + k + 1))
  | 0, k => rfl
  | n + 1, k => by
    have ih := rgo_row n (k + 1)
    rw [List.range_succ_eq_map, List.map_cons, List.map_map]
    show D.int _ :: rgo (((2 * (k + 1) : Nat) : Int) + 2) 2 n = _
    rw [show (((2 * (k + 1) : Nat) : Int) + 2) = ((2 * (k + 1 + 1) : Nat) : Int) by omega, ih]
    congr 1
    · show D.int _ = D.int _
      simp
    · apply List.map_congr_left
      intro i _
      show nI _ = nI _
      congr 1
      simp only [Nat.succ_eq_add_one]; omega
theorem range2 (n : Nat) (h : n ≤ 90) : Builtin.Range.small 2 ((2 * (n + 1) : Nat) : Int) 2 = true ∧ Builtin.Range.rangeSize 2 ((2 * (n + 1) : Nat) : Int) 2 = n := by
  have : ∀ k : Fin 91, Builtin.Range.small 2 ((2 * (k.val + 1) : Nat) : Int) 2 = true ∧ Builtin.Range.rangeSize 2 ((2 * (k.val + 1) : Nat) : Int) 2 = (k.val : Nat) := by decide +kernel
  exact this ⟨n, by omega⟩
theorem sub_nat {a b : Nat} (h : b ≤ a) : binD .sub (nI a) (nI b) = some (nI (a - b)) := by
  show some (D.int ((a : Int) - (b : Int))) = some (D.int ((a - b : Nat) : Int))
  congr 2; omega
theorem glob0 (r : List LV) : evE T1 r (.glob 0) = some (nI 40) := rfl
theorem ef_rng {T : Tab} {r : List LV} {as : IEs} {a b k : Int} (h : evE T r (.blt .range as) = some (.range a b k)) (hk : Builtin.Range.small a b k = true ∧ 0 ≤ Builtin.Range.rangeSize a b k ∧ Builtin.Range.rangeSize a b k ≤ 1000) : evF T r (.rng as) = some (rgo a k (Builtin.Range.rangeSize a b k).toNat) := (bnd_eq (f := rgD) h).trans (if_pos hk)
noncomputable def l16 : ISs := .cons (.ret (.var 6)) .nil
noncomputable def l15 : ISs := .cons (.fors (.one 7) (.blt .range (.cons (.blt .len (.cons (.var 1) .nil)) .nil)) outB) l16
noncomputable def l14 : ISs := .cons (.asg [(.one 6)] (.int 0)) l15
noncomputable def l13 : ISs := .cons (.asgM 5 (.rng (.cons (.glob 1) (.cons (.bin .mul (.glob 1) (.bin .add (.blt .len (.cons (.var 0) .nil)) (.int 1))) (.cons (.glob 1) .nil))))) l14
noncomputable def l12 : ISs := .cons (.ifs (.cmp .gt (.bin .mul (.bin .sub (.blt .len (.cons (.var 1) .nil)) (.blt .len (.cons (.var 0) .nil))) (.glob 1)) (.var 2)) (.cons (.ret (.bin .add (.var 2) (.int 1))) .nil) .nil) l13
noncomputable def l11 : ISs := .cons (.ifs (.cmp .lt (.blt .len (.cons (.var 1) .nil)) (.blt .len (.cons (.var 0) .nil))) (.cons (.swp [0, 1] (.cons (.var 1) (.cons (.var 0) .nil))) .nil) .nil) l12
noncomputable def l10 : ISs := .cons (.ifs (.or (.cons (.cmp .gt (.blt .len (.cons (.var 0) .nil)) (.glob 0)) (.cons (.cmp .gt (.blt .len (.cons (.var 1) .nil)) (.glob 0)) .nil))) (.cons (.ret (.bin .add (.var 2) (.int 1))) .nil) .nil) l11
noncomputable def l9 : ISs := .cons (.ifs (.or (.cons (.not (.t (.var 0))) (.cons (.not (.t (.var 1))) .nil))) (.cons (.ret (.bin .mul (.glob 1) (.bin .add (.blt .len (.cons (.var 0) .nil)) (.blt .len (.cons (.var 1) .nil))))) .nil) .nil) l10
theorem lev_eq : ir_lev = .cons (.ifs (.cmp .eq (.var 0) (.var 1)) (.cons (.ret (.int 0)) .nil) .nil) (.cons (.asg [(.one 3)] (.int 0)) (.cons (.whl preT preB) (.cons (.asg [(.one 0)] (.slc (.var 0) (.var 3) .none)) (.cons (.asg [(.one 1)] (.slc (.var 1) (.var 3) .none)) (.cons (.asg [(.one 4)] (.int 0)) (.cons (.whl postT postB) (.cons (.asg [(.one 0)] (.slc (.var 0) .none (.or2 (.var 4) .none))) (.cons (.asg [(.one 1)] (.slc (.var 1) .none (.or2 (.var 4) .none))) l9)))))))) := by kernel_rfl
noncomputable def U9 : List LV := [.un, .un, .un, .un, .un, .un, .un, .un, .un]
theorem core2 {A B : List Nat} {cap : Nat} {pre post : LV} (hAB : A.length ≤ B.length) (hl : B.length ≤ 90) (hw : wsLead A) (hw' : wsLead B) (hc : cap ≤ 100000) :
    ∃ q, exSs T1 l12 (.d (.str A) :: .d (.str B) :: .d (nI cap) :: pre :: post :: U9) = some (.ret (nI (if cap < (B.length - A.length) * 2 then cap + 1 else out A cap B 0 ((List.range A.length).map fun i => 2 * (i + 1)) 0)), q) := by
  have lA : ∀ r : List LV, r[0]? = some (.d (.str A)) → evE T1 r (.blt .len (.cons (.var 0) .nil)) = some (nI A.length) := fun r h => ev_len (ev_var h) (len_str (by omega))
  have lB : ∀ r : List LV, r[1]? = some (.d (.str B)) → evE T1 r (.blt .len (.cons (.var 1) .nil)) = some (nI B.length) := fun r h => ev_len (ev_var h) (len_str (by omega))
  have tt := fun {z : Bool} (hz : decide (cap < (B.length - A.length) * 2) = z) => (et_cmp (T := T1) (r := .d (.str A) :: .d (.str B) :: .d (nI cap) :: pre :: post :: U9) (op := .gt) (z := z) (ev_bin (op := .mul) (ev_bin (op := .sub) (lB _ (by rfl)) (lA _ (by rfl)) (sub_nat hAB)) (glob1 _) (mul_nat (by omega))) (ev_var (i := 2) (d := nI cap) (by rfl)) (cmp_gt (by rw [← hz]; exact decide_eq_decide.mpr (by omega))))
  by_cases h : cap < (B.length - A.length) * 2
  · rw [if_pos h]
    exact ⟨_, st_stop (st_if1 (tt (decide_eq_true h)) (st_ret (ev_bin (by rfl) (by rfl) (add_nat cap 1))))⟩
  · rw [if_neg h]
    have start : ∀ X, exSs T1 l16 = X → True := fun _ _ => trivial
    have hrow := fo_out (A := A) (B := B) (cap := cap) (pre := pre) (post := post) B [] ((List.range A.length).map fun i => 2 * (i + 1)) 0 .un .un .un .un .un .un .un rfl (by simp) (by omega) hl hw hw' hc
    have pfx : ∀ X, exSs T1 l15 (lvR A B cap pre post ((List.range A.length).map fun i => 2 * (i + 1)) 0 .un .un .un .un .un .un .un) = X → exSs T1 l12 (.d (.str A) :: .d (.str B) :: .d (nI cap) :: pre :: post :: U9) = X := fun X k => by
      refine st_then (st_if0 (tt (decide_eq_false h)) st_nil) ?_
      refine st_then (r' := [.d (.str A), .d (.str B), .d (nI cap), pre, post, .ml (((List.range A.length).map fun i => 2 * (i + 1)).map nI), .un, .un, .un, .un, .un, .un, .un, .un]) (st_asgM (l := ((List.range A.length).map fun i => 2 * (i + 1)).map nI) ?_) ?_
      · have e1 : evE T1 (.d (.str A) :: .d (.str B) :: .d (nI cap) :: pre :: post :: U9) (.blt .range (.cons (.glob 1) (.cons (.bin .mul (.glob 1) (.bin .add (.blt .len (.cons (.var 0) .nil)) (.int 1))) (.cons (.glob 1) .nil)))) = some (.range 2 ((2 * (A.length + 1) : Nat) : Int) 2) :=
          ev_blt (es_cons (glob1 _) (es_cons (ev_bin (glob1 _) (ev_bin (lA _ (by rfl)) (by rfl) (add_nat A.length 1)) (mul_nat (by omega))) (es_cons (glob1 _) es_nil))) (by
            show (if (2 : Int) ≠ 0 ∧ small 2 = true then _ else none) = _
            rw [if_pos ⟨by decide, by decide⟩]; rfl)
        obtain ⟨r1, r2⟩ := range2 A.length (by omega)
        rw [ef_rng e1 ⟨r1, by omega, by omega⟩, r2, Int.toNat_natCast]
        have := rgo_row A.length 0
        rw [show ((2 * (0 + 1) : Nat) : Int) = 2 from rfl] at this
        rw [this, List.map_map]
        rfl
      · refine st_then (r' := lvR A B cap pre post ((List.range A.length).map fun i => 2 * (i + 1)) 0 .un .un .un .un .un .un .un) (st_asg (d := nI 0) (by rfl)) ?_
        exact k
    have fr : exS T1 (.fors (.one 7) (.blt .range (.cons (.blt .len (.cons (.var 1) .nil)) .nil)) outB) (lvR A B cap pre post ((List.range A.length).map fun i => 2 * (i + 1)) 0 .un .un .un .un .un .un .un) = _ := st_for (d := .range 0 B.length 1) (ev_rng (lB _ (by rfl))) (iter_rangeI (n := B.length) (by omega))
    rcases hrow with ⟨q, e⟩ | ⟨row', bi', bch', dist', mn', ix', sb', ins', e⟩
    · exact ⟨q, pfx _ (st_stop (fr.trans e))⟩
    · exact ⟨_, pfx _ (st_then (fr.trans e) (st_ret (ev_var (by rfl))))⟩
theorem core1 {A B : List Nat} {cap : Nat} {pre post : LV} (hlA : A.length ≤ 40) (hlB : B.length ≤ 40) (hw : wsLead A) (hw' : wsLead B) (hc : cap ≤ 100000) :
    ∃ q, exSs T1 l9 (.d (.str A) :: .d (.str B) :: .d (nI cap) :: pre :: post :: U9) = some (.ret (nI (levC A B cap)), q) := by
  have lA : ∀ r : List LV, r[0]? = some (.d (.str A)) → evE T1 r (.blt .len (.cons (.var 0) .nil)) = some (nI A.length) := fun r h => ev_len (ev_var h) (len_str (by omega))
  have lB : ∀ r : List LV, r[1]? = some (.d (.str B)) → evE T1 r (.blt .len (.cons (.var 1) .nil)) = some (nI B.length) := fun r h => ev_len (ev_var h) (len_str (by omega))
  have tA : evT T1 (.d (.str A) :: .d (.str B) :: .d (nI cap) :: pre :: post :: U9) (.not (.t (.var 0))) = some (!!A.isEmpty) := et_not (et_t (ev_var (by rfl)) (tr_str (by omega)))
  have tB : evT T1 (.d (.str A) :: .d (.str B) :: .d (nI cap) :: pre :: post :: U9) (.not (.t (.var 1))) = some (!!B.isEmpty) := et_not (et_t (ev_var (by rfl)) (tr_str (by omega)))
  have g40 : ∀ {a b : IE} {x : Nat} {r : List LV}, evE T1 r a = some (nI x) → x ≤ 40 → evT T1 r (.cmp .gt a (.glob 0)) = some false := fun h hx => et_cmp h (glob0 _) (cmp_gt (decide_eq_false (by omega)))
  unfold levC
  by_cases hE : A = [] ∨ B = []
  · rw [if_pos hE]
    refine ⟨_, st_stop (st_if1 (et_or ?_) (st_ret (ev_bin (glob1 _) (ev_bin (lA _ (by rfl)) (lB _ (by rfl)) (add_nat _ _)) (mul_nat (by omega)))))⟩
    by_cases hA : A = []
    · exact eo_1 (tA.trans (by subst hA; rfl))
    · have hB : B = [] := hE.resolve_left hA
      exact eo_0 (tA.trans (by cases A with
        | nil => exact absurd rfl hA
        | cons => rfl)) (eo_1 (tB.trans (by subst hB; rfl)))
  · rw [if_neg hE]
    have hA : A ≠ [] := fun h => hE (.inl h)
    have hB : B ≠ [] := fun h => hE (.inr h)
    have s9 : evT T1 (.d (.str A) :: .d (.str B) :: .d (nI cap) :: pre :: post :: U9) (.or (.cons (.not (.t (.var 0))) (.cons (.not (.t (.var 1))) .nil))) = some false :=
      et_or (eo_0 (tA.trans (by cases A with
        | nil => exact absurd rfl hA
        | cons => rfl)) (eo_0 (tB.trans (by cases B with
        | nil => exact absurd rfl hB
        | cons => rfl)) eo_nil))
    have s10 : evT T1 (.d (.str A) :: .d (.str B) :: .d (nI cap) :: pre :: post :: U9) (.or (.cons (.cmp .gt (.blt .len (.cons (.var 0) .nil)) (.glob 0)) (.cons (.cmp .gt (.blt .len (.cons (.var 1) .nil)) (.glob 0)) .nil))) = some false :=
      et_or (eo_0 (g40 (b := .none) (lA _ (by rfl)) hlA) (eo_0 (g40 (b := .none) (lB _ (by rfl)) hlB) eo_nil))
    have s11 := fun {z : Bool} (hz : decide (B.length < A.length) = z) => (et_cmp (T := T1) (r := .d (.str A) :: .d (.str B) :: .d (nI cap) :: pre :: post :: U9) (op := .lt) (z := z) (lB _ (by rfl)) (lA _ (by rfl)) (cmp_lt (by rw [← hz]; exact decide_eq_decide.mpr (by omega))))
    by_cases hlt : B.length < A.length
    · rw [if_pos hlt]
      obtain ⟨q, e⟩ := core2 (A := B) (B := A) (cap := cap) (pre := pre) (post := post) (by omega) (by omega) hw' hw hc
      refine ⟨q, st_then (st_if0 s9 st_nil) (st_then (st_if0 s10 st_nil) (st_then (r' := .d (.str B) :: .d (.str A) :: .d (nI cap) :: pre :: post :: U9) (st_if1 (s11 (decide_eq_true hlt)) (st_then (st_swp (ds := [.str B, .str A]) (by rfl) (by simp)) st_nil)) e))⟩
    · rw [if_neg hlt]
      obtain ⟨q, e⟩ := core2 (A := A) (B := B) (cap := cap) (pre := pre) (post := post) (by omega) (by omega) hw hw' hc
      exact ⟨q, st_then (st_if0 s9 st_nil) (st_then (st_if0 s10 st_nil) (st_then (st_if0 (s11 (decide_eq_false hlt)) st_nil) e))⟩
theorem cut_split (a b : List Nat) : cpl a b ++ cutP a b = a := by
  unfold cutP
  induction a generalizing b with
  | nil => cases b <;> rfl
  | cons x a ih =>
    cases b with
    | nil => rfl
    | cons y b =>
      unfold cpl
      split
      · rename_i h; rw [List.length_cons, List.drop_succ_cons, List.cons_append, ih]
      · rfl
theorem F9 {a b : List Nat} {cap : Nat} (hla : a.length ≤ 40) (hlb : b.length ≤ 40) (hw : wsLead a) (hw' : wsLead b) (hc : cap ≤ 100000) : T2.F 9 [.str a, .str b, nI cap] = some (nI (lev a b cap)) := by
  have key : ∃ q, exSs T1 ir_lev (.d (.str a) :: .d (.str b) :: .d (nI cap) :: .un :: .un :: U9) = some (.ret (nI (lev a b cap)), q) := by
    rw [lev_eq]
    unfold lev
    by_cases hab : a = b
    · rw [if_pos hab]
      exact ⟨_, st_stop (st_if1 (et_cmp (x := .str a) (y := .str b) (by rfl) (by rfl) (eq_str _ _ (decide_eq_true hab))) (st_ret (by rfl)))⟩
    · rw [if_neg hab]
      dsimp only
      have hp := pre_loop (T := T1) (c := nI cap) (U := .un :: U9) a b [] 64 (by omega) (by simp; omega) (by simp; omega)
      rw [List.nil_append, List.nil_append, List.length_nil, Nat.zero_add] at hp
      have hle : (cpl a b).length ≤ a.length := cpl_le a b
      have hle' : (cpl a b).length ≤ b.length := by rw [cpl_comm]; exact cpl_le b a
      have ea : a.drop (cpl a b).length = cutP a b := rfl
      have eb : b.drop (cpl a b).length = cutP b a := by rw [cpl_comm]; rfl
      have la : (cutP a b).length ≤ 40 := by rw [← ea]; simp; omega
      have lb : (cutP b a).length ≤ 40 := by rw [← eb]; simp; omega
      have wa : wsLead (cutP a b) := fun x hx => hw x (List.mem_of_mem_drop hx)
      have wb : wsLead (cutP b a) := fun x hx => hw' x (List.mem_of_mem_drop hx)
      generalize (cpl a b).length = k at hp hle hle' ea eb
      have hq := post_loop (T := T1) (c := nI cap) (q := .d (nI k)) (U := U9) (cutP a b).reverse (cutP b a).reverse [] 64 (by simp; omega) (by simp; omega) (by simp; omega)
      rw [List.append_nil, List.append_nil, List.length_nil, Nat.zero_add, List.reverse_reverse, List.reverse_reverse] at hq
      have sp := cut_split (cutP a b).reverse (cutP b a).reverse
      have sp' := cut_split (cutP b a).reverse (cutP a b).reverse
      rw [cpl_comm (cutP b a).reverse] at sp'
      have xa : cutP a b = (cutP (cutP a b).reverse (cutP b a).reverse).reverse ++ (cpl (cutP a b).reverse (cutP b a).reverse).reverse := by
        rw [← List.reverse_append, sp, List.reverse_reverse]
      have xb : cutP b a = (cutP (cutP b a).reverse (cutP a b).reverse).reverse ++ (cpl (cutP a b).reverse (cutP b a).reverse).reverse := by
        rw [← List.reverse_append, sp', List.reverse_reverse]
      generalize (cutP (cutP a b).reverse (cutP b a).reverse).reverse = X at xa ⊢
      generalize (cutP (cutP b a).reverse (cutP a b).reverse).reverse = Y at xb ⊢
      rw [← List.length_reverse (as := cpl (cutP a b).reverse (cutP b a).reverse)] at hq
      generalize (cpl (cutP a b).reverse (cutP b a).reverse).reverse = u at xa xb hq
      have lX : X.length ≤ 40 := by rw [xa] at la; simp at la; omega
      have lY : Y.length ≤ 40 := by rw [xb] at lb; simp at lb; omega
      have wX : wsLead X := fun x hx => wa x (by rw [xa]; simp [hx])
      have wY : wsLead Y := fun x hx => wb x (by rw [xb]; simp [hx])
      obtain ⟨q, e⟩ := core1 (A := X) (B := Y) (cap := cap) (pre := .d (nI k)) (post := .d (nN u.length)) lX lY wX wY hc
      refine ⟨q, ?_⟩
      refine st_then (st_if0 (et_cmp (x := .str a) (y := .str b) (by rfl) (by rfl) (eq_str _ _ (decide_eq_false hab))) st_nil) ?_
      refine st_then (r' := .d (.str a) :: .d (.str b) :: .d (nI cap) :: .d (nI 0) :: .un :: U9) (st_asg (d := nI 0) (by rfl)) ?_
      refine st_then (r' := .d (.str a) :: .d (.str b) :: .d (nI cap) :: .d (nI k) :: .un :: U9) hp ?_
      refine st_then (r' := .d (.str (cutP a b)) :: .d (.str b) :: .d (nI cap) :: .d (nI k) :: .un :: U9) (st_asg ((ev_post (l := a) (i := k) (by rfl) (by rfl) (by omega) hle).trans (by rw [ea]))) ?_
      refine st_then (r' := .d (.str (cutP a b)) :: .d (.str (cutP b a)) :: .d (nI cap) :: .d (nI k) :: .un :: U9) (st_asg ((ev_post (l := b) (i := k) (by rfl) (by rfl) (by omega) hle').trans (by rw [eb]))) ?_
      refine st_then (r' := .d (.str (cutP a b)) :: .d (.str (cutP b a)) :: .d (nI cap) :: .d (nI k) :: .d (nN 0) :: U9) (st_asg (d := nN 0) (by rfl)) ?_
      refine st_then (r' := .d (.str (cutP a b)) :: .d (.str (cutP b a)) :: .d (nI cap) :: .d (nI k) :: .d (nN u.length) :: U9) hq ?_
      refine st_then (r' := .d (.str X) :: .d (.str (cutP b a)) :: .d (nI cap) :: .d (nI k) :: .d (nN u.length) :: U9) (st_asg (ev_cutN (a := X) (u := u) (i := 0) (by rw [← xa]; rfl) (by rfl) (by rw [← xa]; omega))) ?_
      refine st_then (r' := .d (.str X) :: .d (.str Y) :: .d (nI cap) :: .d (nI k) :: .d (nN u.length) :: U9) (st_asg (ev_cutN (a := Y) (u := u) (i := 1) (by rw [← xb]; rfl) (by rfl) (by rw [← xb]; omega))) ?_
      exact e
  obtain ⟨q, e⟩ := key
  show (if [D.str a, .str b, nI cap].length = 3 then match exSs T1 ir_lev (.d (.str a) :: .d (.str b) :: .d (nI cap) :: .un :: .un :: U9) with
    | some (.ret d, _) => some d
    | _ => none
    else none) = _
  rw [e]; rfl
end Qu69
end

section
open PySem PySem.W PySem.Calls PyProof.Rows
set_option backward.match.sparseCases false
namespace Qu69

/-! the plain checks -/
noncomputable def bl (l : List Nat) : Nat := l.countP (· == 32)
noncomputable def tb (l : List Nat) : Nat := l.countP (· == 9)
noncomputable def okAft (ld : List Nat) (w : Nat) (a : List Nat) : Bool := match worthO a with
  | some w' => decide (0 < w') == !decide (0 < w) && a.all (fun x => x == 9 || x == 32) && decide (a.length ≤ ld.length) && decide (bl a < bl ld) && decide (tb ld ≤ tb a)
    && decide ((wsOf a).n + (bl ld - bl a) = (wsOf ld).n + 1) && decide ((wsOf a).nt = (wsOf ld).nt + 1) && lev ld a (2 * (bl ld - bl a)) == 2 * (bl ld - bl a)
  | none => false
noncomputable def worths : List (List Nat) → Option (List Nat)
  | [] => some []
  | k :: ks => match worthO k, worths ks with
    | some w, some ws => some (w :: ws)
    | _, _ => none
noncomputable def okL (ld : List Nat) : Bool := match worthO ld, worths (kn [] ld) with
  | some w, some ws => mexO 64 ws 0 == some w && (kn [] ld).all (fun k => k.all (fun x => x == 9 || x == 32)) && decide (0 < (kn [] ld).length) && (if 0 < w then ws.contains 0 && (match (kn [] ld)[ws.idxOf 0]? with
    | some a => okAft ld w a
    | none => false) else (kn [] ld).all (okAft ld w))
  | _, _ => false
noncomputable def allL : Nat → List (List Nat)
  | 0 => [[]]
  | n + 1 => (allL n).flatMap fun l => [9 :: l, 32 :: l]
noncomputable def okB (l : List Nat) : Bool := decide (6 < bl l) || !(l.contains 32) || okL l
noncomputable def okEnd (l : List Nat) : Bool := (List.range (l.length + 1)).all fun m => decide (m < tb l) || lev l (List.replicate m 9) (2 * bl l) == 2 * bl l
noncomputable def okE (l : List Nat) : Bool := decide (6 < bl l) || okEnd l
noncomputable def okAll (p : List Nat) (n : Nat) : Bool := (allL n).all fun l => okB (p ++ l)
noncomputable def okEnds (n : Nat) : Bool := (allL n).all fun l => okE (32 :: 32 :: l)
set_option maxRecDepth 100000
theorem ok0 : okAll [] 0 = true := by decide +kernel
theorem ok1 : okAll [] 1 = true := by decide +kernel
theorem ok2 : okAll [] 2 = true := by decide +kernel
theorem ok3 : okAll [] 3 = true := by decide +kernel
theorem ok4 : okAll [] 4 = true := by decide +kernel
theorem ok5 : okAll [] 5 = true := by decide +kernel
theorem ok6 : okAll [] 6 = true := by decide +kernel
theorem ok7 : okAll [] 7 = true := by decide +kernel
theorem ok8a : okAll [9] 7 = true := by decide +kernel
theorem ok8b : okAll [32] 7 = true := by decide +kernel
theorem ok9a : okAll [9, 9] 7 = true := by decide +kernel
theorem ok9b : okAll [9, 32] 7 = true := by decide +kernel
theorem ok9c : okAll [32, 9] 7 = true := by decide +kernel
theorem ok9d : okAll [32, 32] 7 = true := by decide +kernel
theorem oe0 : okEnds 0 = true := by decide +kernel
theorem oe1 : okEnds 1 = true := by decide +kernel
theorem oe2 : okEnds 2 = true := by decide +kernel
theorem oe3 : okEnds 3 = true := by decide +kernel
theorem oe4 : okEnds 4 = true := by decide +kernel
theorem oe5 : okEnds 5 = true := by decide +kernel
theorem oe6 : okEnds 6 = true := by decide +kernel
theorem oe7 : okEnds 7 = true := by decide +kernel

theorem mem_allL : ∀ (l : List Nat), wsLead l → l ∈ allL l.length
  | [], _ => by simp [allL]
  | x :: l, h => by
    have ih := mem_allL l (fun y hy => h y (List.mem_cons_of_mem _ hy))
    rw [List.length_cons, allL, List.mem_flatMap]
    refine ⟨l, ih, ?_⟩
    rcases h x List.mem_cons_self with rfl | rfl <;> simp
theorem okAll_use {p l : List Nat} {n : Nat} (h : okAll p n = true) (hl : l.length = n) (hw : wsLead l) : okB (p ++ l) = true :=
  List.all_eq_true.mp h l (hl ▸ mem_allL l hw)
theorem okB_all {l : List Nat} (hw : wsLead l) (hl : l.length ≤ 9) : okB l = true := by
  by_cases h7 : l.length ≤ 7
  · rcases (by omega : l.length = 0 ∨ l.length = 1 ∨ l.length = 2 ∨ l.length = 3 ∨ l.length = 4 ∨ l.length = 5 ∨ l.length = 6 ∨ l.length = 7) with e | e | e | e | e | e | e | e
    · exact okAll_use ok0 e hw
    · exact okAll_use ok1 e hw
    · exact okAll_use ok2 e hw
    · exact okAll_use ok3 e hw
    · exact okAll_use ok4 e hw
    · exact okAll_use ok5 e hw
    · exact okAll_use ok6 e hw
    · exact okAll_use ok7 e hw
  · cases l with
    | nil => simp at h7
    | cons x l =>
      have hx := hw x List.mem_cons_self
      have hw2 : wsLead l := fun y hy => hw y (List.mem_cons_of_mem _ hy)
      rw [List.length_cons] at h7 hl
      by_cases h8 : l.length = 7
      · rcases hx with rfl | rfl
        · exact okAll_use ok8a h8 hw2
        · exact okAll_use ok8b h8 hw2
      · cases l with
        | nil => simp at h7
        | cons y l =>
          have hy := hw2 y List.mem_cons_self
          have hw3 : wsLead l := fun z hz => hw2 z (List.mem_cons_of_mem _ hz)
          rw [List.length_cons] at h7 h8 hl
          have h9 : l.length = 7 := by omega
          rcases hx with rfl | rfl <;> rcases hy with rfl | rfl
          · exact okAll_use ok9a h9 hw3
          · exact okAll_use ok9b h9 hw3
          · exact okAll_use ok9c h9 hw3
          · exact okAll_use ok9d h9 hw3
theorem okE_all {l : List Nat} (hw : wsLead l) (hl : l.length ≤ 7) : okE (32 :: 32 :: l) = true := by
  have go : ∀ n, okEnds n = true → l.length = n → okE (32 :: 32 :: l) = true := fun n h e => List.all_eq_true.mp h l (e ▸ mem_allL l hw)
  rcases (by omega : l.length = 0 ∨ l.length = 1 ∨ l.length = 2 ∨ l.length = 3 ∨ l.length = 4 ∨ l.length = 5 ∨ l.length = 6 ∨ l.length = 7) with e | e | e | e | e | e | e | e
  · exact go _ oe0 e
  · exact go _ oe1 e
  · exact go _ oe2 e
  · exact go _ oe3 e
  · exact go _ oe4 e
  · exact go _ oe5 e
  · exact go _ oe6 e
  · exact go _ oe7 e
end Qu69
end

section
open PySem PySem.W PySem.Calls PyProof.Rows
set_option backward.match.sparseCases false
namespace Qu69

noncomputable def x16 : IE := .fn 14 (.cons (.var 4) .nil)
noncomputable def x17 : CE := ⟨.var 16, [5], none, .fn 13 (.cons (.var 0) (.cons (.var 1) .nil))⟩
noncomputable def x18 : IE := .fn 13 (.cons (.var 4) (.cons (.var 5) .nil))
noncomputable def t18 : IT := .cmp .ne (.var 18) (.fn 11 (.cons (.var 17) .nil))
noncomputable def tpos : IT := .cmp .gt (.var 18) (.int 0)
noncomputable def xidx : IE := .meth1 .index (.var 17) (.int 0)
noncomputable def xrep : IE := .bin .mod (.idx (.var 2) (.var 15)) (.blt .len (.cons (.var 16) .nil))
noncomputable def x20 : IE := .bin .sub (.meth1 .count (.var 4) (.str [32])) (.meth1 .count (.var 19) (.str [32]))
noncomputable def x21 : IEs := .cons (.fn 15 (.cons (.var 4) .nil)) (.cons (.fn 15 (.cons (.var 19) .nil)) .nil)
noncomputable def tupA : IE := .tup (.cons (.attr 1 (.var 22)) (.cons (.attr 2 (.var 22)) .nil))
noncomputable def tupB : IE := .tup (.cons (.bin .sub (.bin .add (.attr 1 (.var 21)) (.int 1)) (.var 20)) (.cons (.bin .add (.attr 2 (.var 21)) (.int 1)) .nil))
noncomputable def xlev : IE := .fn 9 (.cons (.var 4) (.cons (.var 19) (.cons (.bin .mul (.int 2) (.var 20)) .nil)))
noncomputable def t22 : IT := .or (.cons (.cmp .ne tupA tupB) (.cons (.cmp .ne xlev (.bin .mul (.int 2) (.var 20))) .nil))
theorem b3s0_eq : b3s0 = .asg [.one 16] x16 := rfl
theorem b3s1_eq : b3s1 = .asgC 17 x17 := rfl
theorem b3s2_eq : b3s2 = .asg [.one 18] x18 := rfl
theorem b3s3_eq : b3s3 = .ifs t18 (.cons (.ret (.bool false)) .nil) .nil := rfl
theorem b3s4_eq : b3s4 = .asg [.one 19] (.idx (.var 16) (.ite tpos xidx xrep)) := rfl
theorem b3s5_eq : b3s5 = .asg [.one 20] x20 := rfl
theorem b3s6_eq : b3s6 = .swp [21, 22] x21 := rfl
theorem b3s7_eq : b3s7 = .ifs t22 (.cons (.ret (.bool false)) .nil) .nil := rfl
theorem b3s8_eq : b3s8 = .asg [.one 4] (.var 19) := rfl
theorem b3s9_eq : b3s9 = .asg [.one 15] (.bin .add (.var 15) (.int 1)) := rfl

section
variable {T : Tab} {r : List LV}
theorem ev_attr {k : Nat} {a : IE} {x d : D} (h : evE T r a = some x) (hd : attrD k x = some d) : evE T r (.attr k a) = some d := (bnd_eq (f := attrD k) h).trans hd
theorem ev_meth1 {f : MF} {a b : IE} {x y d : D} (ha : evE T r a = some x) (hb : evE T r b = some y) (hd : methD f x [y] = some d) : evE T r (.meth1 f a b) = some d := (bnd2_eq (f := fun x y => methD f x [y]) ha hb).trans hd
theorem ev_ite1 {t : IT} {a b : IE} {X : Option D} (h : evT T r t = some true) (k : evE T r a = X) : evE T r (.ite t a b) = X := (bnd_eq (f := fun t => cond t (evE T r a) (evE T r b)) h).trans k
theorem ev_ite0 {t : IT} {a b : IE} {X : Option D} (h : evT T r t = some false) (k : evE T r b = X) : evE T r (.ite t a b) = X := (bnd_eq (f := fun t => cond t (evE T r a) (evE T r b)) h).trans k
end
theorem ev_comp {T : Tab} {r : List LV} {ce : CE} {d : D} {ds l : List D} (h : evE T r ce.src = some d) (hi : iterD d = some ds) (hl : ds.length ≤ 1000) (hm : mapC T (ce.vars.map (varC r)) ce.test ce.elt ds = some l) : evC T r ce = some l :=
  ((bnd_eq (f := fun d => bnd (iterD d) (mapTo T r ce)) h).trans (bnd_eq hi)).trans ((if_pos hl).trans hm)
theorem ne_nat (a : Nat) : cmpD .ne (nI a) (nI a) = some false := by
  show some ((a : Int) != (a : Int)) = _; simp
theorem ne_tup (a b : Nat) : cmpD .ne (.tuple [nI a, nI b]) (.tuple [nI a, nI b]) = some false := by
  show some ([(a : Int), (b : Int)] != [(a : Int), (b : Int)]) = _; simp
theorem count_bl (l : List Nat) : methD .count (.str l) [.str [32]] = some (nI (bl l)) := rfl
theorem idx_map (k : Nat) : ∀ ws : List Nat, (ws.map fun (n : Nat) => (n : Int)).idxOf (k : Int) = ws.idxOf k
  | [] => rfl
  | w :: ws => by
    rw [List.map_cons, List.idxOf_cons, List.idxOf_cons, idx_map k ws]
    by_cases h : w = k
    · subst h; simp
    · rw [beq_eq_false_iff_ne.mpr (show (w : Int) ≠ (k : Int) by omega), beq_eq_false_iff_ne.mpr h]
theorem index_nat {ws : List Nat} (hl : ws.length ≤ 1000) (h : 0 ∈ ws) : methD .index (.list (ws.map nI)) [.int 0] = some (nI (ws.idxOf 0)) := by
  show (intsD (ws.map nI)).bind (idxOfI 0) = _
  rw [ints_map]
  show (if _ ∧ _ then _ else _) = _
  rw [if_pos ⟨by simpa using hl, by simpa using h⟩]
  have := idx_map 0 ws
  rw [show ((0 : Nat) : Int) = 0 from rfl] at this
  rw [this]; rfl
theorem worths_len : ∀ {ks : List (List Nat)} {ws : List Nat}, worths ks = some ws → ws.length = ks.length
  | [], ws, h => by unfold worths at h; cases h; rfl
  | k :: ks, ws, h => by
    unfold worths at h
    split at h
    · rename_i w ws' h1 h2
      cases h
      rw [List.length_cons, List.length_cons, worths_len h2]
    · cases h
theorem map_worth : ∀ {ks : List (List Nat)} {ws : List Nat}, worths ks = some ws → (∀ k ∈ ks, wsLead k ∧ k.length ≤ 100) → mapC T2 [.d VALS] none (.fn 13 (.cons (.var 0) (.cons (.var 1) .nil))) (ks.map D.str) = some (ws.map nI)
  | [], ws, h, _ => by unfold worths at h; cases h; rfl
  | k :: ks, ws, h, hk => by
    unfold worths at h
    split at h
    · rename_i w ws' h1 h2
      cases h
      obtain ⟨a1, a2⟩ := hk k List.mem_cons_self
      have e : evE T2 [.d (.str k), .d VALS] (.fn 13 (.cons (.var 0) (.cons (.var 1) .nil))) = some (nI w) := ev_fn (es_cons (by rfl) (es_cons (by rfl) es_nil)) (F13 a1 a2 h1)
      have ih := map_worth h2 (fun k' h' => hk k' (List.mem_cons_of_mem _ h'))
      exact with2_eq (f := List.cons) e ih
    · cases h
theorem kn_lens : ∀ (s p : List Nat), ∀ k ∈ kn p s, k.length ≤ p.length + s.length
  | [], p, k, h => by simp [kn] at h
  | x :: s, p, k, h => by
    unfold kn at h
    rw [List.mem_append] at h
    rcases h with h | h
    · split at h
      · split at h
        · simp at h; rcases h with rfl | rfl <;> simp <;> omega
        · simp at h; subst h; simp
      · cases h
    · have := kn_lens s (p ++ [x]) k h
      simp at this ⊢; omega

/-- the variables of the law, at its turns -/
structure Oth where
  a0 : LV
  a1 : LV
  a3 : LV
  a6 : LV
  a8 : LV
  a9 : LV
  a10 : LV
  a11 : LV
  a12 : LV
  a16 : LV
  a17 : LV
  a18 : LV
  a19 : LV
  a20 : LV
  a21 : LV
  a22 : LV
noncomputable def R4 (rs : List Int) (ld : List Nat) (pins : Nat) (sta : List Nat) (f turns : Nat) (o : Oth) : List LV :=
  [o.a0, o.a1, .d (.list (rs.map D.int)), o.a3, .d (.str ld), .d VALS, o.a6, .d (nI pins), o.a8, o.a9, o.a10, o.a11, o.a12, .d (.str sta), .d (nI f), .d (nI turns), o.a16, o.a17, o.a18, o.a19, o.a20, o.a21, o.a22]
structure KAft (ld a : List Nat) (w w' : Nat) : Prop where
  wor : worthO a = some w'
  sgn : decide (0 < w') = !decide (0 < w)
  ws : wsLead a
  len : a.length ≤ ld.length
  bl : bl a < bl ld
  tb : tb ld ≤ tb a
  n : (wsOf a).n + (Qu69.bl ld - Qu69.bl a) = (wsOf ld).n + 1
  nt : (wsOf a).nt = (wsOf ld).nt + 1
  lev : lev ld a (2 * (Qu69.bl ld - Qu69.bl a)) = 2 * (Qu69.bl ld - Qu69.bl a)
theorem kaft_of {ld a : List Nat} {w : Nat} (h : okAft ld w a = true) : ∃ w', KAft ld a w w' := by
  unfold okAft at h
  split at h
  · rename_i w' hw'
    simp only [Bool.and_eq_true, beq_iff_eq, decide_eq_true_eq] at h
    obtain ⟨⟨⟨⟨⟨⟨⟨h1, h2⟩, h3⟩, h4⟩, h5⟩, h6⟩, h7⟩, h8⟩ := h
    refine ⟨w', hw', h1, fun x hx => ?_, h3, h4, h5, h6, h7, h8⟩
    have := List.all_eq_true.mp h2 x hx
    simpa using this
  · cases h
theorem turn {rs : List Int} {ld sta : List Nat} {pins f turns : Nat} {o : Oth} (hw : wsLead ld) (hl : ld.length ≤ 9) (hb : bl ld ≤ 6) (h32 : 32 ∈ ld) (hr : rs.length ≤ 1000) (ht : turns < rs.length) {w : Nat} (how : worthO ld = some w) :
    ∃ a w' o', exSs T2 B3 (R4 rs ld pins sta f turns o) = some (.next, R4 rs a pins sta f (turns + 1) o') ∧ KAft ld a w w' := by
  have ok := okB_all hw hl
  have ok : okL ld = true := by
    unfold okB at ok
    rw [decide_eq_false (by omega), List.contains_iff_mem.mpr h32] at ok
    simpa using ok
  unfold okL at ok
  rw [how] at ok
  cases hws : worths (kn [] ld) with
  | none => rw [hws] at ok; cases ok
  | some ws =>
    rw [hws] at ok
    simp only [Bool.and_eq_true, beq_iff_eq, decide_eq_true_eq] at ok
    obtain ⟨⟨⟨hmex, hks⟩, hpos⟩, hch⟩ := ok
    have hkl := kn_len ld []
    have hwl := worths_len hws
    have hkk : ∀ k ∈ kn [] ld, wsLead k ∧ k.length ≤ 100 := fun k hk => by
      refine ⟨fun x hx => ?_, ?_⟩
      · have := List.all_eq_true.mp (List.all_eq_true.mp hks k hk) x hx
        simpa using this
      · have := kn_lens ld [] k hk
        simp at this; omega
    have hmw := map_worth hws hkk
    have e14 := F14 (l := ld) (by omega)
    generalize hK : kn [] ld = ks at *
    have key : ∃ j a, ks[j]? = some a ∧ j ≤ 1000 ∧ (∃ w', KAft ld a w w') ∧
        evE T2 [o.a0, o.a1, .d (.list (rs.map D.int)), o.a3, .d (.str ld), .d VALS, o.a6, .d (nI pins), o.a8, o.a9, o.a10, o.a11, o.a12, .d (.str sta), .d (nI f), .d (nI turns), .d (.list (ks.map D.str)), .d (.list (ws.map nI)), .d (nI w), o.a19, o.a20, o.a21, o.a22] (.ite tpos xidx xrep) = some (nI j) := by
      have hkd : (ks.map D.str).length = ks.length := by simp
      by_cases hwp : 0 < w
      · rw [if_pos hwp] at hch
        simp only [Bool.and_eq_true] at hch
        obtain ⟨h0, hch⟩ := hch
        split at hch
        · rename_i a ha
          refine ⟨_, a, ha, by have := (List.getElem?_eq_some_iff.mp ha).1; omega, kaft_of hch, ?_⟩
          exact ev_ite1 (et_cmp (x := nI w) (y := nI 0) (by rfl) (by rfl) (cmp_gt (decide_eq_true (by omega)))) (ev_meth1 (x := .list (ws.map nI)) (y := .int 0) (by rfl) (by rfl) (index_nat (by omega) (List.contains_iff_mem.mp h0)))
        · cases hch
      · rw [if_neg hwp] at hch
        have hd := List.all_eq_true.mp hch
        have hrt : (rs.map D.int)[turns]? = some (.int rs[turns]) := by rw [List.getElem?_map, List.getElem?_eq_getElem ht]; rfl
        have m1 : 0 ≤ rs[turns].fmod (ks.length : Int) := Int.fmod_nonneg_of_pos _ (by omega)
        have m2 : rs[turns].fmod (ks.length : Int) < ks.length := Int.fmod_lt_of_pos _ (by omega)
        have hj : (rs[turns].fmod (ks.length : Int)).toNat < ks.length := by omega
        refine ⟨(rs[turns].fmod (ks.length : Int)).toNat, ks[(rs[turns].fmod (ks.length : Int)).toNat], List.getElem?_eq_getElem hj, by omega, kaft_of (hd _ (List.getElem_mem hj)), ?_⟩
        refine ev_ite0 (et_cmp (x := nI w) (y := nI 0) (by rfl) (by rfl) (cmp_gt (decide_eq_false (by omega)))) (ev_bin (ev_idx (x := .list (rs.map D.int)) (y := nI turns) (by rfl) (by rfl) (idx_list (by omega) hrt)) (ev_len (by rfl) (len_list (l := ks.map D.str) (by omega))) ?_)
        show (if ((ks.map D.str).length : Int) = 0 then none else some (D.int (rs[turns].fmod ((ks.map D.str).length : Int)))) = _
        rw [hkd, if_neg (by omega)]
        show _ = some (D.int (((rs[turns].fmod (ks.length : Int)).toNat : Nat) : Int))
        rw [Int.toNat_of_nonneg m1]
    obtain ⟨j, a, haj, hj, ⟨w', A⟩, hev⟩ := key
    have ea15 := F15 ld hw (by omega)
    have eb15 := F15 a A.ws (by have := A.len; omega)
    have ea15 : T2.F 15 [.str ld] = some (wsD ld) := ea15
    have eb15 : T2.F 15 [.str a] = some (wsD a) := eb15
    have e9 := F9 (a := ld) (b := a) (cap := 2 * (bl ld - bl a)) (by omega) (by have := A.len; omega) hw A.ws (by omega)
    rw [A.lev] at e9
    refine ⟨a, w', ⟨o.a0, o.a1, o.a3, o.a6, o.a8, o.a9, o.a10, o.a11, o.a12, .d (.list (ks.map D.str)), .d (.list (ws.map nI)), .d (nI w), .d (.str a), .d (nI (bl ld - bl a)), .d (wsD ld), .d (wsD a)⟩, ?_, A⟩
    rw [b3_eq, b3s0_eq, b3s1_eq, b3s2_eq, b3s3_eq, b3s4_eq, b3s5_eq, b3s6_eq, b3s7_eq, b3s8_eq, b3s9_eq]
    refine st_then (st_asg (ev_fn (es_cons (x := .str ld) (by rfl) es_nil) e14)) ?_
    refine st_then (st_asgC (l := ws.map nI) ?_) ?_
    · exact ev_comp (d := .list (ks.map D.str)) (by rfl) (by rfl) (by simp; omega) hmw
    refine st_then (st_asg (ev_fn (es_cons (x := .str ld) (by rfl) (es_cons (x := VALS) (by rfl) es_nil)) (F13 hw (by omega) how))) ?_
    refine st_then (st_if0 (et_cmp (x := nI w) (by rfl) (ev_fn (es_cons (x := .list (ws.map nI)) (by rfl) es_nil) (F11 hmex)) (ne_nat w)) st_nil) ?_
    refine st_then (st_asg (ev_idx (x := .list (ks.map D.str)) (y := nI j) (by rfl) hev (idx_list (by omega) (by rw [List.getElem?_map, haj]; rfl)))) ?_
    refine st_then (st_asg (ev_bin (ev_meth1 (x := .str ld) (y := .str [32]) (by rfl) (by rfl) (count_bl ld)) (ev_meth1 (x := .str a) (y := .str [32]) (by rfl) (by rfl) (count_bl a)) (sub_nat (by have := A.bl; omega)))) ?_
    refine st_then (st_swp (ds := [wsD ld, wsD a]) (es_cons (ev_fn (es_cons (x := .str ld) (by rfl) es_nil) ea15) (es_cons (ev_fn (es_cons (x := .str a) (by rfl) es_nil) eb15) es_nil)) (by simp)) ?_
    refine st_then (st_if0 (et_or (eo_0 (et_cmp (x := .tuple [nI (wsOf a).n, nI (wsOf a).nt]) (y := .tuple [nI (wsOf a).n, nI (wsOf a).nt]) ?_ ?_ (ne_tup _ _)) (eo_0 (et_cmp (x := nI (2 * (bl ld - bl a))) (y := nI (2 * (bl ld - bl a))) ?_ ?_ (ne_nat _)) eo_nil))) st_nil) ?_
    · exact ev_tup (es_cons (ev_attr (x := wsD a) (by rfl) (by rfl)) (es_cons (ev_attr (x := wsD a) (by rfl) (by rfl)) es_nil)) (by simp)
    · have e1 : (wsOf a).n = (wsOf ld).n + 1 - (bl ld - bl a) := by have := A.n; omega
      rw [e1, A.nt]
      exact ev_tup (es_cons (ev_bin (ev_bin (ev_attr (x := wsD ld) (d := nI (wsOf ld).n) (by rfl) (by rfl)) (by rfl) (add_nat _ 1)) (ev_var (d := nI (bl ld - bl a)) (by rfl)) (sub_nat (by have := A.n; omega))) (es_cons (ev_bin (ev_attr (x := wsD ld) (d := nI (wsOf ld).nt) (by rfl) (by rfl)) (by rfl) (add_nat _ 1)) es_nil)) (by simp)
    · exact ev_fn (es_cons (x := .str ld) (by rfl) (es_cons (x := .str a) (by rfl) (es_cons (ev_bin (x := nI 2) (y := nI (bl ld - bl a)) (by rfl) (by rfl) (mul_nat (by omega))) es_nil))) e9
    · exact ev_bin (x := nI 2) (y := nI (bl ld - bl a)) (by rfl) (by rfl) (mul_nat (by omega))
    refine st_then (st_asg (ev_var (d := .str a) (by rfl))) ?_
    refine st_then (st_asg (ev_bin (ev_var (d := nI turns) (by rfl)) (by rfl) (add_nat turns 1))) ?_
    exact st_nil
end Qu69
end

section
open PySem PySem.W PySem.Calls PyProof.Rows
set_option backward.match.sparseCases false
namespace Qu69

/-! the items -/
noncomputable def x12 : IE := .lst (.cons (.fn 0 (.cons (.var 9) .nil)) (.cons (.fn 2 (.cons (.var 9) .nil)) (.cons (.fn 3 (.cons (.var 9) .nil)) (.cons (.fn 4 (.cons (.var 9) .nil)) (.cons (.fn 5 (.cons (.var 9) .nil)) (.cons (.fn 6 (.cons (.var 9) .nil)) (.cons (.fn 7 (.cons (.var 9) .nil)) .nil)))))))
noncomputable def cBad : CE := ⟨.blt .range (.cons (.int 7) .nil), [12, 10], some (.cmp .isnt (.idx (.var 1) (.var 0)) (.cmp .eq (.var 0) (.var 2))), .var 0⟩
noncomputable def tGap : IT := .cmp .in_ (.bool true) (.slc (.var 12) (.int 1) .none)
noncomputable def tVis : IT := .not (.t (.idx (.var 12) (.int 0)))
noncomputable def tMis : IT := .cmp .ne (.fn 1 (.cons (.var 9) .nil)) (.var 11)
noncomputable def sTab : IE := .bin .add (.var 4) (.str [9])
noncomputable def sPin : IE := .bin .add (.var 4) (.bin .mul (.str [32]) (.blt .len (.cons (.var 11) .nil)))
theorem b2s0_eq : b2s0 = .asg [.one 12] x12 := rfl
theorem b2s1_eq : b2s1 = .ifC cBad (.cons (.ret (.bool false)) .nil) .nil := rfl
theorem b2s2_eq : b2s2 = .ifs tGap (.cons (.asg [.one 4] sTab) .nil) (.cons (.ifs tVis (.cons (.ifs tMis (.cons (.ret (.bool false)) .nil) .nil) (.cons (.asg [.one 4] sPin) .nil)) .nil) .nil) := rfl
noncomputable def cBadT : IT := .cmp .isnt (.idx (.var 1) (.var 0)) (.cmp .eq (.var 0) (.var 2))
noncomputable def fB (k s : Nat) : Option Bool := match T2.F k [.str [s]] with
  | some (.bool b) => some b
  | _ => none
noncomputable def okTold (s : Nat) (bs : List Bool) (p : Int) (m e : List Nat) : Bool :=
  (match mapC T2 [.d (.list (bs.map D.bool)), .d (.int p)] (some cBadT) (.var 0) (rgo 0 1 7) with
    | some [] => true
    | _ => false) && (if (bs.drop 1).contains true then e == [9] else if bs[0]? == some false then (match T2.F 1 [.str [s]] with
      | some (.str d) => d == m
      | _ => false) && e == List.replicate m.length 32 else bs[0]? == some true && e == [])
noncomputable def okItem (s : Nat) (p : Int) (m e : List Nat) : Bool := bl e == m.length && decide (m.length ≤ 3) && decide (3 * tb e + bl e ≤ 3) && e.all (fun x => x == 9 || x == 32) && match fB 0 s, fB 2 s, fB 3 s, fB 4 s, fB 5 s, fB 6 s, fB 7 s with
  | some b0, some b1, some b2, some b3, some b4, some b5, some b6 => okTold s [b0, b1, b2, b3, b4, b5, b6] p m e
  | _, _, _, _, _, _, _ => false
noncomputable def rintN (a : Nat) : Nat → List Nat
  | 0 => []
  | n + 1 => a :: rintN (a + 1) n
noncomputable def iHid : List Nat := [173, 847, 6150, 6155, 6156, 6157, 8203, 8204, 8205, 8288, 65279] ++ rintN 65024 16
noncomputable def iPin : List (Nat × List Nat) := [(107, [107]), (75, [107]), (119967, [100]), (223, [115, 115]), (64256, [102, 102]), (13256, [100, 98]), (64259, [102, 102, 105]), (8481, [116, 101, 108]), (13201, [107, 104, 122]), (64257, [102, 105])]
noncomputable def iC4 : List Nat := rintN 64976 32
noncomputable def iC4b : List Nat := [65534, 65535, 131070, 131071, 196606, 196607, 262142, 262143, 327678, 327679, 393214, 393215, 458750, 458751, 524286, 524287, 589822, 589823, 655358, 655359, 720894, 720895, 786430, 786431, 851966, 851967, 917502, 917503, 983038, 983039, 1048574, 1048575, 1114110, 1114111]
noncomputable def iC6 : List Nat := rintN 65529 5
noncomputable def iC7 : List Nat := rintN 12272 12
noncomputable def iC8 : List Nat := [832, 833, 8206, 8207] ++ rintN 8234 5 ++ rintN 8298 6
noncomputable def iC9 : List Nat := 917505 :: rintN 917536 96
set_option maxRecDepth 100000
theorem okH : (iHid.all fun s => okItem s 0 [] []) = true := by decide +kernel
theorem okP : (iPin.all fun s => okItem s.1 7 s.2 (List.replicate s.2.length 32)) = true := by decide +kernel
theorem okS : okItem 32 1 [] [9] = true := by decide +kernel
theorem okC4 : (iC4.all fun s => okItem s 2 [] [9]) = true := by decide +kernel
theorem okC4b : (iC4b.all fun s => okItem s 2 [] [9]) = true := by decide +kernel
theorem okC6 : (iC6.all fun s => okItem s 3 [] [9]) = true := by decide +kernel
theorem okC7 : (iC7.all fun s => okItem s 4 [] [9]) = true := by decide +kernel
theorem okC8 : (iC8.all fun s => okItem s 5 [] [9]) = true := by decide +kernel
theorem okC9 : (iC9.all fun s => okItem s 6 [] [9]) = true := by decide +kernel
end Qu69
end

section
open PySem PySem.W PySem.Calls PyProof.Rows
set_option backward.match.sparseCases false
namespace Qu69

structure Good (it : D) (e : List Nat) : Prop where
  ex : ∃ s p m, it = .tuple [.str [s], .int p, .str m] ∧ okItem s p m e = true
inductive GoodL : List D → List Nat → Prop
  | nil : GoodL [] []
  | cons {it : D} {e : List Nat} {its : List D} {es : List Nat} (h : Good it e) (t : GoodL its es) : GoodL (it :: its) (e ++ es)
theorem GoodL.snoc {its : List D} {es : List Nat} (h : GoodL its es) {it : D} {e : List Nat} (g : Good it e) : GoodL (its ++ [it]) (es ++ e) := by
  induction h with
  | nil => have := GoodL.cons g .nil; rw [List.append_nil] at this; exact this
  | cons g' t ih => rw [List.append_assoc]; exact .cons g' ih
/-- the variables at the items -/
noncomputable def R3 (rs : D) (a0 a1 a3 a8 : LV) (items : D) (pins : Nat) (ld : List Nat) (a9 a10 a11 a12 : LV) : List LV :=
  [a0, a1, .d rs, a3, .d (.str ld), .un, .d items, .d (nI pins), a8, a9, a10, a11, a12, .un, .un, .un, .un, .un, .un, .un, .un, .un, .un]
theorem mul_str {k : Nat} (h : k ≤ 1000) : binD .mul (.str [32]) (nI k) = some (.str (List.replicate k 32)) := by
  show (if [32].length = 1 ∧ (0 : Int) ≤ (k : Int) ∧ (k : Int) ≤ 1000 then some (D.str (repL [32] (k : Int).toNat)) else none) = _
  rw [if_pos ⟨rfl, by omega, by omega⟩, Int.toNat_natCast, repl_eq]
theorem fB_inv {k s : Nat} {b : Bool} (h : fB k s = some b) : T2.F k [.str [s]] = some (.bool b) := by
  unfold fB at h
  split at h
  · rename_i b' e; cases h; exact e
  · cases h
theorem ev_lst {T : Tab} {r : List LV} {as : IEs} {xs : List D} (ha : evEs T r as = some xs) (h : xs.length ≤ 1000) : evE T r (.lst as) = some (.list xs) := by
  exact (bnd_eq (f := lstD) ha).trans (if_pos h)
theorem ok_facts {s : Nat} {p : Int} {m e : List Nat} (ok : okItem s p m e = true) : bl e = m.length ∧ m.length ≤ 3 ∧ 3 * tb e + bl e ≤ 3 ∧ wsLead e ∧ ∃ b0 b1 b2 b3 b4 b5 b6, (fB 0 s = some b0 ∧ fB 2 s = some b1 ∧ fB 3 s = some b2 ∧ fB 4 s = some b3 ∧ fB 5 s = some b4 ∧ fB 6 s = some b5 ∧ fB 7 s = some b6) ∧ okTold s [b0, b1, b2, b3, b4, b5, b6] p m e = true := by
  unfold okItem at ok
  rw [Bool.and_eq_true, Bool.and_eq_true, Bool.and_eq_true, Bool.and_eq_true] at ok
  obtain ⟨⟨⟨⟨c1, c2⟩, c3⟩, c4⟩, c5⟩ := ok
  refine ⟨by simpa using c1, of_decide_eq_true c2, of_decide_eq_true c3, fun x hx => by simpa using List.all_eq_true.mp c4 x hx, ?_⟩
  split at c5
  · rename_i b0 b1 b2 b3 b4 b5 b6 h0 h1 h2 h3 h4 h5 h6
    exact ⟨b0, b1, b2, b3, b4, b5, b6, ⟨h0, h1, h2, h3, h4, h5, h6⟩, c5⟩
  · exact no_true c5
theorem item_body {rs : D} {a0 a1 a3 a8 a12 : LV} {items : D} {pins : Nat} {ld : List Nat} {s : Nat} {p : Int} {m e : List Nat} (ok : okItem s p m e = true) (hl : ld.length ≤ 100) :
    ∃ b12, exSs T2 B2 (R3 rs a0 a1 a3 a8 items pins ld (.d (.str [s])) (.d (.int p)) (.d (.str m)) a12) = some (.next, R3 rs a0 a1 a3 a8 items pins (ld ++ e) (.d (.str [s])) (.d (.int p)) (.d (.str m)) b12) := by
  obtain ⟨_, hm3, _, _, b0, b1, b2, b3, b4, b5, b6, ⟨h0, h1, h2, h3, h4, h5, h6⟩, ok⟩ := ok_facts ok
  have told : evE T2 (R3 rs a0 a1 a3 a8 items pins ld (.d (.str [s])) (.d (.int p)) (.d (.str m)) a12) x12 = some (.list [.bool b0, .bool b1, .bool b2, .bool b3, .bool b4, .bool b5, .bool b6]) := by
    have f : ∀ {k : Nat} {b : Bool}, fB k s = some b → evE T2 (R3 rs a0 a1 a3 a8 items pins ld (.d (.str [s])) (.d (.int p)) (.d (.str m)) a12) (.fn k (.cons (.var 9) .nil)) = some (.bool b) := fun h => ev_fn (es_cons (ev_var (by rfl)) es_nil) (fB_inv h)
    exact ev_lst (es_cons (f h0) (es_cons (f h1) (es_cons (f h2) (es_cons (f h3) (es_cons (f h4) (es_cons (f h5) (es_cons (f h6) es_nil))))))) (by simp)
  unfold okTold at ok
  rw [Bool.and_eq_true] at ok
  obtain ⟨c5, c6⟩ := ok
  refine ⟨.d (.list [.bool b0, .bool b1, .bool b2, .bool b3, .bool b4, .bool b5, .bool b6]), ?_⟩
  rw [b2_eq, b2s0_eq, b2s1_eq, b2s2_eq]
  refine st_then (r' := R3 rs a0 a1 a3 a8 items pins ld (.d (.str [s])) (.d (.int p)) (.d (.str m)) (.d (.list [.bool b0, .bool b1, .bool b2, .bool b3, .bool b4, .bool b5, .bool b6]))) (st_asg told) ?_
  split at c5
  · rename_i hm
    have tG : evT T2 (R3 rs a0 a1 a3 a8 items pins ld (.d (.str [s])) (.d (.int p)) (.d (.str m)) (.d (.list [.bool b0, .bool b1, .bool b2, .bool b3, .bool b4, .bool b5, .bool b6]))) tGap = some ([b1, b2, b3, b4, b5, b6].contains true) := et_cmp (x := .bool true) (by rfl) (ev_slc (ev_var (by rfl)) (y := .int 1) (z := .none) (by rfl) (by rfl) (slc_list (by simp) (by rfl) (by rfl))) (by rfl)
    have tV : evT T2 (R3 rs a0 a1 a3 a8 items pins ld (.d (.str [s])) (.d (.int p)) (.d (.str m)) (.d (.list [.bool b0, .bool b1, .bool b2, .bool b3, .bool b4, .bool b5, .bool b6]))) tVis = some (!b0) := et_not (et_t (x := .bool b0) (ev_idx (ev_var (by rfl)) (y := nI 0) (by rfl) (idx_list (by omega) (by rfl))) (by rfl))
    refine st_then (st_ifC (l := []) (ev_comp (d := .range 0 7 1) (ds := rgo 0 1 7) (ev_rng (by rfl)) (iter_range 7 (by omega)) (by decide) hm) (by rfl)) ?_
    split at c6
    · rename_i hg
      have c6 : e = [9] := by simpa using c6
      subst c6
      refine st_then (st_if1 (tG.trans (by rw [show [b1, b2, b3, b4, b5, b6].contains true = true from hg])) (st_then (st_asg (ev_bin (x := .str ld) (y := .str [9]) (by rfl) (by rfl) (add_str (by simp; omega)))) st_nil)) ?_
      exact st_nil
    · rename_i hg
      have hg : [b1, b2, b3, b4, b5, b6].contains true = false := by simpa using hg
      split at c6
      · rename_i hv
        have hv : b0 = false := by simpa using hv
        rw [Bool.and_eq_true] at c6
        obtain ⟨hm, he⟩ := c6
        have he : e = List.replicate m.length 32 := by simpa using he
        subst he
        have tM : evT T2 (R3 rs a0 a1 a3 a8 items pins ld (.d (.str [s])) (.d (.int p)) (.d (.str m)) (.d (.list [.bool b0, .bool b1, .bool b2, .bool b3, .bool b4, .bool b5, .bool b6]))) tMis = some false := by
          split at hm
          · rename_i d hd
            have : d = m := by simpa using hm
            subst this
            exact et_cmp (ev_fn (es_cons (ev_var (by rfl)) es_nil) hd) (ev_var (by rfl)) (by show some (d != d) = _; simp)
          · cases hm
        refine st_then (st_if0 (tG.trans (by rw [hg])) (st_then (st_if1 (tV.trans (by rw [hv]; rfl)) (st_then (st_if0 tM st_nil) (st_then (st_asg (ev_bin (x := .str ld) (y := .str (List.replicate m.length 32)) (by rfl) (ev_bin (x := .str [32]) (y := nI m.length) (by rfl) (ev_len (x := .str m) (by rfl) (len_str (by omega))) (mul_str (by omega))) (add_str (by simp; omega)))) st_nil))) st_nil)) ?_
        exact st_nil
      · rw [Bool.and_eq_true] at c6
        have hv : b0 = true := by simpa using c6.1
        have c6 : e = [] := by simpa using c6.2
        subst c6
        rw [List.append_nil]
        refine st_then (st_if0 (tG.trans (by rw [hg])) (st_then (st_if0 (tV.trans (by rw [hv]; rfl)) st_nil) st_nil)) ?_
        exact st_nil
  · exact no_true c5
theorem fo_items {rs : D} {a0 a1 a3 a8 : LV} {items : D} {pins : Nat} : ∀ {its : List D} {es : List Nat}, GoodL its es → ∀ (ld : List Nat) (a9 a10 a11 a12 : LV), ld.length + es.length ≤ 100 →
    ∃ b9 b10 b11 b12, fo (fun r d => setTg r (.many [9, 10, 11]) d) (exSs T2 B2) its (R3 rs a0 a1 a3 a8 items pins ld a9 a10 a11 a12) = some (.next, R3 rs a0 a1 a3 a8 items pins (ld ++ es) b9 b10 b11 b12) := by
  intro its es h
  induction h with
  | nil => intro ld a9 a10 a11 a12 _; exact ⟨a9, a10, a11, a12, by rw [List.append_nil]; rfl⟩
  | cons g t ih =>
    intro ld a9 a10 a11 a12 hl
    obtain ⟨s, p, m, rfl, ok⟩ := g.ex
    rename_i e its es
    rw [List.length_append] at hl
    obtain ⟨b12, hb⟩ := item_body (rs := rs) (a0 := a0) (a1 := a1) (a3 := a3) (a8 := a8) (a12 := a12) (items := items) (pins := pins) (ld := ld) ok (by omega)
    obtain ⟨c9, c10, c11, c12, hc⟩ := ih (ld ++ e) (.d (.str [s])) (.d (.int p)) (.d (.str m)) b12 (by rw [List.length_append]; omega)
    refine ⟨c9, c10, c11, c12, (fo_cons (by rfl) hb).trans ?_⟩
    rw [List.append_assoc] at hc
    exact hc
theorem good_facts {it : D} {e : List Nat} (g : Good it e) : ∃ s p m, it = .tuple [.str [s], .int p, .str m] ∧ bl e = m.length ∧ m.length ≤ 3 ∧ 3 * tb e + bl e ≤ 3 ∧ wsLead e := by
  obtain ⟨s, p, m, rfl, ok⟩ := g.ex
  obtain ⟨c1, c2, c3, c4, _⟩ := ok_facts ok
  exact ⟨s, p, m, rfl, c1, c2, c3, c4⟩
theorem ws_len {e : List Nat} (h : wsLead e) : e.length = bl e + tb e := by
  induction e with
  | nil => rfl
  | cons x e ih =>
    have ih := ih (fun y hy => h y (List.mem_cons_of_mem _ hy))
    unfold bl tb at ih ⊢
    rw [List.countP_cons, List.countP_cons, List.length_cons]
    rcases h x List.mem_cons_self with rfl | rfl <;> simp <;> omega
end Qu69
end

section
open PySem PySem.W PySem.Calls PyProof.Rows
set_option backward.match.sparseCases false
namespace Qu69

theorem mem_rint : ∀ (n a k : Nat), k < n → a + k ∈ rintN a n
  | 0, _, _, h => absurd h (Nat.not_lt_zero _)
  | n + 1, a, 0, _ => by unfold rintN; simp
  | n + 1, a, k + 1, h => by
    unfold rintN
    refine List.mem_cons_of_mem _ ?_
    have := mem_rint n (a + 1) k (by omega)
    rw [show a + (k + 1) = a + 1 + k by omega]; exact this
theorem fmod_lt (x : Int) {n : Nat} (h : 0 < n) : ∃ a, a < n ∧ x.fmod (n : Int) = (a : Int) := by
  have m1 : 0 ≤ x.fmod (n : Int) := Int.fmod_nonneg_of_pos _ (by omega)
  have m2 : x.fmod (n : Int) < n := Int.fmod_lt_of_pos _ (by omega)
  exact ⟨(x.fmod (n : Int)).toNat, by omega, by omega⟩
theorem chr_nat {s : Nat} (h : s ≤ 1114111) : bltD .chr [nI s] = some (.str [s]) := by
  show (if 0 ≤ (s : Int) ∧ (s : Int) ≤ 1114111 then some (D.str [(s : Int).toNat]) else none) = _
  rw [if_pos ⟨by omega, by omega⟩, Int.toNat_natCast]
theorem ev_chr {T : Tab} {r : List LV} {a : IE} {s : Nat} (ha : evE T r a = some (nI s)) (h : s ≤ 1114111) : evE T r (.blt .chr (.cons a .nil)) = some (.str [s]) := ev_blt (es_cons ha es_nil) (chr_nat h)
theorem ev_modk {T : Tab} {r : List LV} {a : IE} {x : Int} {n k : Nat} (ha : evE T r a = some (.int x)) (hn : 0 < n) (hk : x.fmod (n : Int) = (k : Int)) : evE T r (.bin .mod a (.int n)) = some (nI k) := by
  refine ev_bin ha (by rfl) ?_
  show (if (n : Int) = 0 then none else some (D.int (x.fmod (n : Int)))) = _
  rw [if_neg (by omega), hk]; rfl
theorem runF2 {nm : List Str} {T : Tab} {ir : ISs} {a b d : D} {q : List LV} {k : Nat} (hk : nm.length - 2 = k) (h : exSs T ir (rho0 [a, b] k) = some (.ret d, q)) : runF 2 nm T ir [a, b] = some d := by
  show (if [a, b].length = 2 then match exSs T ir (rho0 [a, b] (nm.length - 2)) with
    | some (.ret d, _) => some d
    | _ => none
    else none) = _
  rw [hk, h]; rfl
theorem item1 (w : Int) : ∃ it e, T2.F 10 [.int 1, .int w] = some it ∧ Good it e := by
  obtain ⟨j, hj, hm⟩ := fmod_lt w (n := 27) (by omega)
  have hjl : j < iHid.length := hj
  have hb : ∀ s ∈ iHid, s ≤ 1114111 := by decide +kernel
  refine ⟨.tuple [.str [iHid[j]], .int 0, .str []], [], ?_, ⟨_, _, _, rfl, List.all_eq_true.mp okH _ (List.getElem_mem hjl)⟩⟩
  refine runF2 (nm := nm_item) (k := 5) (by rfl) ?_ (q := [.d (.int 1), .d (.int w), .un, .un, .un, .d (.list (iHid.map nI)), .un])
  refine st_stop (st_if1 (et_cmp (x := .int 1) (y := .int 1) (by rfl) (by rfl) (by rfl)) ?_)
  refine st_then (st_asg (d := .list (iHid.map nI)) (by kernel_rfl)) ?_
  refine st_ret ?_
  exact ev_tup (es_cons (ev_chr (s := iHid[j]) (ev_idx (x := .list (iHid.map nI)) (y := nI j) (by rfl) (ev_modk (n := 27) (x := w) (by rfl) (by omega) hm) (idx_list (by omega) (by rw [List.getElem?_map, List.getElem?_eq_getElem hjl]; rfl))) (hb _ (List.getElem_mem hjl))) (es_cons (x := .int 0) (by rfl) (es_cons (x := .str []) (by rfl) es_nil))) (by simp)
noncomputable def pinD (s : Nat × List Nat) : D := .tuple [.str [s.1], .str s.2]
theorem item2 (w : Int) : ∃ it e, T2.F 10 [.int 2, .int w] = some it ∧ Good it e := by
  obtain ⟨j, hj, hm⟩ := fmod_lt w (n := 9) (by omega)
  have hjl : j < iPin.length := Nat.lt_trans hj (by decide)
  have hj9 : (iPin.take 9)[j]? = some iPin[j] := by rw [List.getElem?_take, if_pos hj, List.getElem?_eq_getElem hjl]
  refine ⟨.tuple [.str [iPin[j].1], .int 7, .str iPin[j].2], List.replicate iPin[j].2.length 32, ?_, ⟨_, _, _, rfl, List.all_eq_true.mp okP _ (List.getElem_mem hjl)⟩⟩
  refine runF2 (nm := nm_item) (k := 5) (by rfl) ?_ (q := [.d (.int 2), .d (.int w), .un, .un, .un, .un, .d (.list ((iPin.take 9).map pinD))])
  refine st_then (st_if0 (et_cmp (x := .int 2) (y := .int 1) (by rfl) (by rfl) (by rfl)) st_nil) ?_
  refine st_stop (st_if1 (et_cmp (x := .int 2) (y := .int 2) (by rfl) (by rfl) (by rfl)) ?_)
  refine st_then (st_asg (d := .list ((iPin.take 9).map pinD)) (by kernel_rfl)) ?_
  refine st_ret ?_
  have e : evE T1 ((rho0 [.int 2, .int w] 5).set 6 (.d (.list ((iPin.take 9).map pinD)))) (.idx (.var 6) (.bin .mod (.var 1) (.int 9))) = some (pinD iPin[j]) := ev_idx (x := .list ((iPin.take 9).map pinD)) (y := nI j) (by rfl) (ev_modk (n := 9) (x := w) (by rfl) (by omega) hm) (idx_list (by omega) (by rw [List.getElem?_map, hj9]; rfl))
  exact ev_tup (es_cons (ev_idx e (y := nI 0) (by rfl) (idx_tuple (by omega) (by rfl))) (es_cons (x := .int 7) (by rfl) (es_cons (ev_idx e (y := nI 1) (by rfl) (idx_tuple (by omega) (by rfl))) es_nil))) (by simp)
noncomputable def gapD (g : Nat × Nat) : D := .tuple [nI g.1, nI g.2]
noncomputable def gaps7 : IE := (.lst (.cons (.tup (.cons (.int 32) (.cons (.int 1) .nil))) (.cons (.tup (.cons (.bin .add (.int 64976) (.bin .mod (.var 2) (.int 32))) (.cons (.int 2) .nil))) (.cons (.tup (.cons (.bin .add (.bin .add (.bin .mul (.int 65536) (.bin .mod (.var 2) (.int 17))) (.int 65534)) (.bin .mod (.bin .fdiv (.var 2) (.int 17)) (.int 2))) (.cons (.int 2) .nil))) (.cons (.tup (.cons (.bin .add (.int 65529) (.bin .mod (.var 2) (.int 5))) (.cons (.int 3) .nil))) (.cons (.tup (.cons (.bin .add (.int 12272) (.bin .mod (.var 2) (.int 12))) (.cons (.int 4) .nil))) (.cons (.tup (.cons (.idx (.var 3) (.bin .mod (.var 2) (.int 15))) (.cons (.int 5) .nil))) (.cons (.tup (.cons (.ite (.cmp .eq (.bin .mod (.var 2) (.int 97)) (.int 96)) (.int 917505) (.bin .add (.int 917536) (.bin .mod (.var 2) (.int 97)))) (.cons (.int 6) .nil))) .nil))))))))
theorem ev_fdivk {T : Tab} {r : List LV} {a : IE} {x : Int} {n : Nat} (ha : evE T r a = some (.int x)) (hn : 0 < n) (hn' : n ≤ 1000) : evE T r (.bin .fdiv a (.int n)) = some (.int (x.fdiv n)) := by
  refine ev_bin ha (by rfl) ?_
  show (if (n : Int) = 0 ∨ small (n : Int) = false then none else some (D.int (x.fdiv (n : Int)))) = _
  rw [if_neg (by rw [small_of (by omega) (by omega)]; simp; omega)]
theorem gap_tup {r : List LV} {a : IE} {s k : Nat} (h : evE T1 r a = some (nI s)) : evE T1 r (.tup (.cons a (.cons (.int k) .nil))) = some (gapD (s, k)) :=
  ev_tup (es_cons h (es_cons (x := nI k) (by rfl) es_nil)) (by simp)
theorem mul_small (b : Nat) : binD .mul (.int 65536) (nI b) = some (nI (65536 * b)) := mul_nat (a := 65536) (by omega)
theorem gaps_at (q : Int) (r : List LV) (h2 : r[2]? = some (.d (.int q))) (h3 : r[3]? = some (.d (.list (iC8.map nI)))) : ∃ G : List (Nat × Nat), G.length = 7 ∧ evE T1 r gaps7 = some (.list (G.map gapD)) ∧ ∀ g ∈ G, g.1 ≤ 1114111 ∧ okItem g.1 g.2 [] [9] = true := by
  obtain ⟨a1, l1, m1⟩ := fmod_lt q (n := 32) (by omega)
  obtain ⟨a2, l2, m2⟩ := fmod_lt q (n := 17) (by omega)
  obtain ⟨a2', l2', m2'⟩ := fmod_lt (q.fdiv (17 : Nat)) (n := 2) (by omega)
  obtain ⟨a3, l3, m3⟩ := fmod_lt q (n := 5) (by omega)
  obtain ⟨a4, l4, m4⟩ := fmod_lt q (n := 12) (by omega)
  obtain ⟨a5, l5, m5⟩ := fmod_lt q (n := 15) (by omega)
  obtain ⟨a6, l6, m6⟩ := fmod_lt q (n := 97) (by omega)
  have v2 : evE T1 r (.var 2) = some (.int q) := ev_var h2
  have hc8 : a5 < iC8.length := l5
  have b8 : ∀ s ∈ iC8, s ≤ 1114111 := by decide +kernel
  refine ⟨[(32, 1), (64976 + a1, 2), (65536 * a2 + 65534 + a2', 2), (65529 + a3, 3), (12272 + a4, 4), (iC8[a5], 5), (if a6 = 96 then 917505 else 917536 + a6, 6)], rfl, ?_, ?_⟩
  · refine (show evE T1 r gaps7 = some (.list [gapD (32, 1), gapD (64976 + a1, 2), gapD (65536 * a2 + 65534 + a2', 2), gapD (65529 + a3, 3), gapD (12272 + a4, 4), gapD (iC8[a5], 5), gapD (if a6 = 96 then 917505 else 917536 + a6, 6)]) from ?_)
    have key : evEs T1 r _ = some [gapD (32, 1), gapD (64976 + a1, 2), gapD (65536 * a2 + 65534 + a2', 2), gapD (65529 + a3, 3), gapD (12272 + a4, 4), gapD (iC8[a5], 5), gapD (if a6 = 96 then 917505 else 917536 + a6, 6)] :=
      es_cons (gap_tup (a := .int 32) (k := 1) (by rfl)) (es_cons (gap_tup (a := .bin .add (.int 64976) (.bin .mod (.var 2) (.int 32))) (k := 2) (ev_bin (x := nI 64976) (by rfl) (ev_modk (n := 32) v2 (by omega) m1) (add_nat _ _)))
        (es_cons (gap_tup (a := .bin .add (.bin .add (.bin .mul (.int 65536) (.bin .mod (.var 2) (.int 17))) (.int 65534)) (.bin .mod (.bin .fdiv (.var 2) (.int 17)) (.int 2))) (k := 2) (ev_bin (ev_bin (ev_bin (x := .int 65536) (by rfl) (ev_modk (n := 17) v2 (by omega) m2) (mul_small a2)) (y := nI 65534) (by rfl) (add_nat _ _)) (ev_modk (n := 2) (ev_fdivk (n := 17) v2 (by omega) (by omega)) (by omega) m2') (add_nat _ _)))
        (es_cons (gap_tup (a := .bin .add (.int 65529) (.bin .mod (.var 2) (.int 5))) (k := 3) (ev_bin (x := nI 65529) (by rfl) (ev_modk (n := 5) v2 (by omega) m3) (add_nat _ _)))
        (es_cons (gap_tup (a := .bin .add (.int 12272) (.bin .mod (.var 2) (.int 12))) (k := 4) (ev_bin (x := nI 12272) (by rfl) (ev_modk (n := 12) v2 (by omega) m4) (add_nat _ _)))
        (es_cons (gap_tup (a := .idx (.var 3) (.bin .mod (.var 2) (.int 15))) (k := 5) (ev_idx (x := .list (iC8.map nI)) (y := nI a5) (ev_var h3) (ev_modk (n := 15) v2 (by omega) m5) (idx_list (by omega) (by rw [List.getElem?_map, List.getElem?_eq_getElem hc8]; rfl))))
        (es_cons (gap_tup (a := .ite (.cmp .eq (.bin .mod (.var 2) (.int 97)) (.int 96)) (.int 917505) (.bin .add (.int 917536) (.bin .mod (.var 2) (.int 97)))) (k := 6) (by
          have tt : ∀ {z : Bool}, decide (a6 = 96) = z → evT T1 r (.cmp .eq (.bin .mod (.var 2) (.int 97)) (.int 96)) = some z := fun hz => et_cmp (x := nI a6) (y := nI 96) (ev_modk (n := 97) v2 (by omega) m6) (by rfl) (by
            show some ((a6 : Int) == ((96 : Nat) : Int)) = _
            rw [← hz]; congr 1
            by_cases h : a6 = 96
            · subst h; rfl
            · rw [decide_eq_false h]; exact beq_eq_false_iff_ne.mpr (by omega))
          by_cases h : a6 = 96
          · rw [if_pos h]; exact ev_ite1 (tt (decide_eq_true h)) (by rfl)
          · rw [if_neg h]; exact ev_ite0 (tt (decide_eq_false h)) (ev_bin (x := nI 917536) (by rfl) (ev_modk (n := 97) v2 (by omega) m6) (add_nat _ _)))) es_nil))))))
    exact ev_lst key (by simp)
  · intro g hg
    simp only [List.mem_cons, List.not_mem_nil, or_false] at hg
    rcases hg with rfl | rfl | rfl | rfl | rfl | rfl | rfl
    · exact ⟨by decide, okS⟩
    · exact ⟨by show 64976 + a1 ≤ _; omega, List.all_eq_true.mp okC4 _ (mem_rint 32 64976 a1 l1)⟩
    · refine ⟨by show 65536 * a2 + 65534 + a2' ≤ _; omega, List.all_eq_true.mp okC4b _ ?_⟩
      have : ∀ x : Fin 17, ∀ y : Fin 2, 65536 * x.val + 65534 + y.val ∈ iC4b := by decide +kernel
      exact this ⟨a2, l2⟩ ⟨a2', l2'⟩
    · exact ⟨by show 65529 + a3 ≤ _; omega, List.all_eq_true.mp okC6 _ (mem_rint 5 65529 a3 l3)⟩
    · exact ⟨by show 12272 + a4 ≤ _; omega, List.all_eq_true.mp okC7 _ (mem_rint 12 12272 a4 l4)⟩
    · exact ⟨b8 _ (List.getElem_mem hc8), List.all_eq_true.mp okC8 _ (List.getElem_mem hc8)⟩
    · by_cases h : a6 = 96
      · rw [if_pos h]; exact ⟨by decide, List.all_eq_true.mp okC9 _ (by decide)⟩
      · rw [if_neg h]; exact ⟨by show 917536 + a6 ≤ _; omega, List.all_eq_true.mp okC9 _ (List.mem_cons_of_mem _ (mem_rint 96 917536 a6 (by omega)))⟩
theorem item0 (w : Int) : ∃ it e, T2.F 10 [.int 0, .int w] = some it ∧ Good it e := by
  obtain ⟨j, hj, hm⟩ := fmod_lt w (n := 7) (by omega)
  obtain ⟨G, hG, hev, hok⟩ := gaps_at (w.fdiv (7 : Nat)) [.d (.int 0), .d (.int w), .d (.int (w.fdiv (7 : Nat))), .d (.list (iC8.map nI)), .un, .un, .un] rfl rfl
  have hjl : j < G.length := by omega
  have hd := hok _ (List.getElem_mem hjl)
  have hg : (G.map gapD)[j]? = some (gapD G[j]) := by rw [List.getElem?_map, List.getElem?_eq_getElem hjl]; rfl
  generalize G[j] = g at hd hg
  refine ⟨.tuple [.str [g.1], .int g.2, .str []], [9], ?_, ⟨_, _, _, rfl, hd.2⟩⟩
  refine runF2 (nm := nm_item) (k := 5) (by rfl) ?_ (q := [.d (.int 0), .d (.int w), .d (.int (w.fdiv (7 : Nat))), .d (.list (iC8.map nI)), .d (.list (G.map gapD)), .un, .un])
  refine st_then (st_if0 (et_cmp (x := .int 0) (y := .int 1) (by rfl) (by rfl) (by rfl)) st_nil) ?_
  refine st_then (st_if0 (et_cmp (x := .int 0) (y := .int 2) (by rfl) (by rfl) (by rfl)) st_nil) ?_
  refine st_then (r' := [.d (.int 0), .d (.int w), .d (.int (w.fdiv (7 : Nat))), .un, .un, .un, .un]) (st_asg (ev_fdivk (n := 7) (x := w) (by rfl) (by omega) (by omega))) ?_
  refine st_then (r' := [.d (.int 0), .d (.int w), .d (.int (w.fdiv (7 : Nat))), .d (.list (iC8.map nI)), .un, .un, .un]) (st_asg (d := .list (iC8.map nI)) (by kernel_rfl)) ?_
  refine st_then (r' := [.d (.int 0), .d (.int w), .d (.int (w.fdiv (7 : Nat))), .d (.list (iC8.map nI)), .d (.list (G.map gapD)), .un, .un]) (st_asg hev) ?_
  refine st_ret ?_
  have e : evE T1 [.d (.int 0), .d (.int w), .d (.int (w.fdiv (7 : Nat))), .d (.list (iC8.map nI)), .d (.list (G.map gapD)), .un, .un] (.idx (.var 4) (.bin .mod (.var 1) (.int 7))) = some (gapD g) := ev_idx (x := .list (G.map gapD)) (y := nI j) (by rfl) (ev_modk (n := 7) (x := w) (by rfl) (by omega) hm) (idx_list (by omega) hg)
  exact ev_tup (es_cons (ev_chr (s := g.1) (ev_idx e (y := nI 0) (by rfl) (idx_tuple (by omega) (by rfl))) hd.1) (es_cons (ev_idx e (y := nI 1) (by rfl) (idx_tuple (d := .int g.2) (by omega) (by rfl))) (es_cons (x := .str []) (by rfl) es_nil))) (by simp)
theorem item_all (y : Int) : ∃ it e, T2.F 10 [.int (y.fmod 3), .int (y.fdiv 3)] = some it ∧ Good it e := by
  obtain ⟨k, hk, hm⟩ := fmod_lt y (n := 3) (by omega)
  rw [show (3 : Int) = ((3 : Nat) : Int) from rfl, hm]
  rcases (by omega : k = 0 ∨ k = 1 ∨ k = 2) with rfl | rfl | rfl
  · exact item0 _
  · exact item1 _
  · exact item2 _
end Qu69
end

section
open PySem PySem.W PySem.Calls PyProof.Rows
set_option backward.match.sparseCases false
namespace Qu69

/-! all the turns -/
theorem no_blank {ld : List Nat} (hw : wsLead ld) (h : ¬ 32 ∈ ld) : ld = List.replicate ld.length 9 :=
  List.eq_replicate_iff.mpr ⟨rfl, fun x hx => by
    rcases hw x hx with e | e
    · exact e
    · subst e; exact absurd hx h⟩
theorem worth_tabs (m : Nat) (h : m ≤ 9) : worthO (List.replicate m 9) = some 0 := by
  have : ∀ k : Fin 10, worthO (List.replicate k.val 9) = some 0 := by decide +kernel
  exact this ⟨m, by omega⟩
theorem bl_pos {ld : List Nat} (h : 32 ∈ ld) : 0 < bl ld := List.countP_pos_iff.mpr ⟨32, h, by simp⟩
theorem turns_all {rs : List Int} {sta : List Nat} {pins f : Nat} (hr : rs.length ≤ 1000) : ∀ (n : Nat) (ld : List Nat) (w turns : Nat) (o : Oth), wsLead ld → ld.length ≤ 9 → bl ld ≤ 6 → worthO ld = some w → turns + bl ld ≤ rs.length → bl ld < n →
    ∃ m turns' o', wh (fun r => evT T2 r (.cmp .in_ (.str [32]) (.var 4))) (exSs T2 B3) n (R4 rs ld pins sta f turns o) = some (.next, R4 rs (List.replicate m 9) pins sta f turns' o') ∧ tb ld ≤ m ∧ m ≤ ld.length ∧ decide (turns' % 2 = 1) = xor (decide (turns % 2 = 1)) (decide (0 < w))
  | 0, ld, w, turns, o, _, _, _, _, _, h => absurd h (Nat.not_lt_zero _)
  | n + 1, ld, w, turns, o, hw, hl, hb, how, ht, hn => by
    have test : evT T2 (R4 rs ld pins sta f turns o) (.cmp .in_ (.str [32]) (.var 4)) = some (decide (32 ∈ ld)) := et_cmp (x := .str [32]) (y := .str ld) (by rfl) (by rfl) (by rfl)
    by_cases h32 : 32 ∈ ld
    · rw [decide_eq_true h32] at test
      have hpos := bl_pos h32
      obtain ⟨a, w', o', hb3, A⟩ := turn (rs := rs) (pins := pins) (sta := sta) (f := f) (turns := turns) (o := o) hw hl hb h32 hr (by omega) how
      have h1 := A.bl
      have h2 := A.len
      have h3 := A.tb
      obtain ⟨m, turns', o'', e, e1, e2, e3⟩ := turns_all hr n a w' (turns + 1) o' A.ws (by omega) (by omega) A.wor (by omega) (by omega)
      refine ⟨m, turns', o'', (wh_go test hb3).trans e, by omega, by omega, e3.trans ?_⟩
      rw [A.sgn]
      have : decide ((turns + 1) % 2 = 1) = !decide (turns % 2 = 1) := by
        rcases (by omega : turns % 2 = 0 ∨ turns % 2 = 1) with h | h
        · rw [decide_eq_true (show (turns + 1) % 2 = 1 by omega), decide_eq_false (show ¬ turns % 2 = 1 by omega)]; rfl
        · rw [decide_eq_false (show ¬ (turns + 1) % 2 = 1 by omega), decide_eq_true h]; rfl
      rw [this]
      cases decide (turns % 2 = 1) <;> cases decide (0 < w) <;> rfl
    · rw [decide_eq_false h32] at test
      have hrep := no_blank hw h32
      have hw0 : w = 0 := by
        have := worth_tabs ld.length hl
        rw [← hrep, how] at this
        exact Option.some.inj this
      refine ⟨ld.length, turns, o, ?_, List.countP_le_length, Nat.le_refl _, by subst hw0; simp⟩
      rw [← hrep]
      exact wh_end test
theorem worth_some {ld : List Nat} (hw : wsLead ld) (hl : ld.length ≤ 9) (hb : bl ld ≤ 6) (h32 : 32 ∈ ld) : ∃ w, worthO ld = some w := by
  have ok := okB_all hw hl
  unfold okB at ok
  rw [decide_eq_false (by omega), List.contains_iff_mem.mpr h32] at ok
  have ok : okL ld = true := by simpa using ok
  unfold okL at ok
  split at ok
  · rename_i w ws h1 h2; exact ⟨w, h1⟩
  · cases ok
theorem end_lev {l : List Nat} {m : Nat} (hw : wsLead l) (hl : l.length ≤ 7) (hb : bl (32 :: 32 :: l) ≤ 6) (h1 : tb (32 :: 32 :: l) ≤ m) (h2 : m ≤ (32 :: 32 :: l).length) :
    lev (32 :: 32 :: l) (List.replicate m 9) (2 * bl (32 :: 32 :: l)) = 2 * bl (32 :: 32 :: l) := by
  have ok := okE_all hw hl
  unfold okE at ok
  rw [decide_eq_false (by omega), Bool.false_or] at ok
  have := List.all_eq_true.mp ok m (List.mem_range.mpr (by omega))
  rw [decide_eq_false (by omega), Bool.false_or] at this
  simpa using this

/-! the draws -/
noncomputable def R2 (a0 a1 : LV) (rs : D) (a3 : LV) (its : List D) (pins : Nat) (a8 : LV) : List LV :=
  [a0, a1, .d rs, a3, .un, .un, .ml its, .d (nI pins), a8, .un, .un, .un, .un, .un, .un, .un, .un, .un, .un, .un, .un, .un, .un]
noncomputable def x8 : IE := .fn 10 (.cons (.bin .mod (.var 3) (.int 3)) (.cons (.bin .fdiv (.var 3) (.int 3)) .nil))
noncomputable def x7 : IE := .bin .add (.var 7) (.blt .len (.cons (.idx (.var 8) (.int 2)) .nil))
theorem b1s0_eq : b1s0 = .asg [.one 8] x8 := rfl
theorem b1s1_eq : b1s1 = .ifs (.cmp .le x7 (.int 6)) (.cons (.app 6 (.var 8)) (.cons (.asg [.one 7] x7) .nil)) .nil := rfl
structure Drawn (its : List D) (es : List Nat) (used : Nat) : Prop where
  good : GoodL its es
  len : its.length ≤ used + 1
  ws : wsLead es
  bl : bl es ≤ 6
  bound : 3 * tb es + Qu69.bl es ≤ 3 * used + 2
  head : ∃ l, es = 32 :: 32 :: l
theorem draw_body {a0 a1 a8 : LV} {rs : D} {y : Int} {its : List D} {es : List Nat} {used : Nat} (I : Drawn its es used) (hu : used ≤ 100) :
    ∃ its' es' b8, exSs T2 B1 (R2 a0 a1 rs (.d (.int y)) its (bl es) a8) = some (.next, R2 a0 a1 rs (.d (.int y)) its' (bl es') b8) ∧ Drawn its' es' (used + 1) := by
  obtain ⟨it, e, hF, g⟩ := item_all y
  obtain ⟨s, p, m, rfl, f1, f2, f3, f4⟩ := good_facts g
  have e8 : evE T2 (R2 a0 a1 rs (.d (.int y)) its (bl es) a8) x8 = some (.tuple [.str [s], .int p, .str m]) :=
    ev_fn (es_cons (x := .int (y.fmod 3)) (ev_bin (x := .int y) (y := .int 3) (by rfl) (by rfl) (by rfl)) (es_cons (x := .int (y.fdiv 3)) (ev_bin (x := .int y) (y := .int 3) (by rfl) (by rfl) (by rfl)) es_nil)) hF
  have e7 : ∀ q : LV, evE T2 [a0, a1, .d rs, .d (.int y), .un, .un, q, .d (nI (bl es)), .d (.tuple [.str [s], .int p, .str m]), .un, .un, .un, .un, .un, .un, .un, .un, .un, .un, .un, .un, .un, .un] x7 = some (nI (bl es + m.length)) := fun q =>
    ev_bin (x := nI (bl es)) (y := nI m.length) (by rfl) (ev_len (x := .str m) (ev_idx (x := .tuple [.str [s], .int p, .str m]) (y := nI 2) (by rfl) (by rfl) (idx_tuple (by omega) (by rfl))) (len_str (by omega))) (add_nat _ _)
  have hbl := I.bl
  have hlen := I.len
  have hbd := I.bound
  rw [b1_eq, b1s0_eq, b1s1_eq]
  by_cases hp : bl es + m.length ≤ 6
  · have hbe : bl (es ++ e) = bl es + m.length := by rw [← f1]; exact List.countP_append
    have hte : tb (es ++ e) = tb es + tb e := List.countP_append
    refine ⟨its ++ [.tuple [.str [s], .int p, .str m]], es ++ e, .d (.tuple [.str [s], .int p, .str m]), ?_, ⟨I.good.snoc g, by simp; omega, fun x hx => ?_, by omega, by omega, ?_⟩⟩
    · rw [hbe]
      refine st_then (st_asg e8) (st_then (st_if1 (et_cmp (x := nI (bl es + m.length)) (y := nI 6) (e7 _) (by rfl) (cmp_le (decide_eq_true (by omega)))) (st_then (st_app (by rfl) (ev_var (by rfl)) (by omega)) (st_then (st_asg (e7 _)) st_nil))) ?_)
      exact st_nil
    · rcases List.mem_append.mp hx with h | h
      · exact I.ws x h
      · exact f4 x h
    · obtain ⟨l, hl⟩ := I.head
      exact ⟨l ++ e, by rw [hl]; rfl⟩
  · refine ⟨its, es, .d (.tuple [.str [s], .int p, .str m]), ?_, ⟨I.good, by omega, I.ws, I.bl, by omega, I.head⟩⟩
    refine st_then (st_asg e8) (st_then (st_if0 (et_cmp (x := nI (bl es + m.length)) (y := nI 6) (e7 _) (by rfl) (cmp_le (decide_eq_false (by omega)))) st_nil) ?_)
    exact st_nil
theorem fo_draws {a0 a1 : LV} {rs : D} : ∀ (ys : List Int) (its : List D) (es : List Nat) (used : Nat) (a3 a8 : LV), Drawn its es used → used + ys.length ≤ 100 →
    ∃ its' es' b3 b8, fo (fun r d => setTg r (.one 3) d) (exSs T2 B1) (ys.map D.int) (R2 a0 a1 rs a3 its (bl es) a8) = some (.next, R2 a0 a1 rs b3 its' (bl es') b8) ∧ Drawn its' es' (used + ys.length)
  | [], its, es, used, a3, a8, I, _ => ⟨its, es, a3, a8, by rfl, I⟩
  | y :: ys, its, es, used, a3, a8, I, h => by
    simp only [List.length_cons] at h
    obtain ⟨its1, es1, b8, e1, I1⟩ := draw_body (a0 := a0) (a1 := a1) (rs := rs) (y := y) (a8 := a8) I (by omega)
    obtain ⟨its2, es2, c3, c8, e2, I2⟩ := fo_draws ys its1 es1 (used + 1) (.d (.int y)) b8 I1 (by omega)
    refine ⟨its2, es2, c3, c8, (fo_cons (by rfl) e1).trans e2, ?_⟩
    rw [List.length_cons, show used + (ys.length + 1) = used + 1 + ys.length by omega]; exact I2
end Qu69
end

section
open PySem PySem.W PySem.Calls PyProof.Rows
set_option backward.match.sparseCases false
namespace Qu69

theorem cut_map {α β : Type} (f : α → β) (l : List α) (lo hi : Option Int) : cutL (l.map f) lo hi = (cutL l lo hi).map f := by
  simp [cutL, List.map_take, List.map_drop]
theorem cut_len {α : Type} (l : List α) (lo hi : Option Int) : (cutL l lo hi).length ≤ l.length := by
  unfold cutL; simp; omega
theorem cut5 {α : Type} (l : List α) : (cutL l none (some 5)).length ≤ 5 := by
  unfold cutL clipS; simp; omega
theorem map_mod : ∀ xs : List Int, mapC T2 [] none (.bin .mod (.var 0) (.int 1000000)) (xs.map D.int) = some ((xs.map fun x => x.fmod 1000000).map D.int)
  | [] => rfl
  | x :: xs => by
    have e : evE T2 [.d (.int x)] (.bin .mod (.var 0) (.int 1000000)) = some (.int (x.fmod 1000000)) := ev_bin (x := .int x) (y := .int 1000000) (by rfl) (by rfl) (by rfl)
    have ih := map_mod xs
    exact with2_eq (f := List.cons) e ih
noncomputable def xTake : IE := .slc (.var 0) .none (.int 5)
noncomputable def xDraws : IE := .bin .add xTake (.slc (.lst (.cons (.int 12) (.cons (.int 5) (.cons (.int 1) (.cons (.int 15) (.cons (.int 2) .nil)))))) (.blt .len (.cons xTake .nil)) .none)
noncomputable def xReps : IE := .bin .add (.slc (.var 0) (.int 5) (.int 11)) (.lst (.cons (.int 0) (.cons (.int 1) (.cons (.int 2) (.cons (.int 3) (.cons (.int 4) (.cons (.int 5) .nil)))))))
theorem ls0_eq : ls0 = .asgC 1 ⟨xDraws, [], none, .bin .mod (.var 0) (.int 1000000)⟩ := rfl
theorem ls1_eq : ls1 = .asgC 2 ⟨xReps, [], none, .bin .mod (.var 0) (.int 1000000)⟩ := rfl
theorem ls3_eq : ls3 = .fors (.one 3) (.var 1) B1 := rfl
theorem ls5_eq : ls5 = .fors (.many [9, 10, 11]) (.var 6) B2 := rfl
theorem ls8_eq : ls8 = .whl (.cmp .in_ (.str [32]) (.var 4)) B3 := rfl
theorem add_list {a b : List D} (h : a.length + b.length ≤ 100000) : binD .add (.list a) (.list b) = some (.list (a ++ b)) := by
  show (if a.length + b.length ≤ 100000 then some (D.list (a ++ b)) else none) = _; rw [if_pos h]
theorem draws_ok {r : List LV} {ns : List Int} (h0 : r[0]? = some (.d (.list (ns.map D.int)))) (hl : ns.length ≤ 63) : ∃ ys : List Int, ys.length ≤ 5 ∧ evC T2 r ⟨xDraws, [], none, .bin .mod (.var 0) (.int 1000000)⟩ = some (ys.map D.int) := by
  have h5 := cut5 ns
  have t : evE T2 r xTake = some (.list ((cutL ns none (some 5)).map D.int)) := by
    rw [← cut_map]
    exact ev_slc (y := .none) (z := .int 5) (ev_var h0) (by rfl) (by rfl) (slc_list (by simp; omega) (by rfl) (by rfl))
  have hk : (cutL ([12, 5, 1, 15, 2].map D.int) (some ((cutL ns none (some 5)).length : Int)) none) = (([12, 5, 1, 15, 2] : List Int).drop (cutL ns none (some 5)).length).map D.int := by
    rw [cut_drop _ _ (by simpa using h5), List.map_drop]
  have s : evE T2 r xDraws = some (.list ((cutL ns none (some 5) ++ ([12, 5, 1, 15, 2] : List Int).drop (cutL ns none (some 5)).length).map D.int)) := by
    refine ev_bin t (ev_slc (x := .list ([12, 5, 1, 15, 2].map D.int)) (y := nI (cutL ns none (some 5)).length) (z := .none) (by rfl) (ev_len t (by
      rw [len_list (by simp; omega), List.length_map]; rfl)) (by rfl) (slc_list (by simp) (by rfl) (by rfl))) ?_
    rw [hk, add_list (by simp; omega), List.map_append]
  refine ⟨(cutL ns none (some 5) ++ ([12, 5, 1, 15, 2] : List Int).drop (cutL ns none (some 5)).length).map fun (x : Int) => x.fmod 1000000, by simp; omega, ?_⟩
  exact ev_comp s (by rfl) (by simp; omega) (map_mod _)
theorem reps_ok {r : List LV} {ns : List Int} (h0 : r[0]? = some (.d (.list (ns.map D.int)))) (hl : ns.length ≤ 63) : ∃ rs : List Int, 6 ≤ rs.length ∧ rs.length ≤ 1000 ∧ evC T2 r ⟨xReps, [], none, .bin .mod (.var 0) (.int 1000000)⟩ = some (rs.map D.int) := by
  have h5 := cut_len ns (some 5) (some 11)
  have t : evE T2 r (.slc (.var 0) (.int 5) (.int 11)) = some (.list ((cutL ns (some 5) (some 11)).map D.int)) := by
    rw [← cut_map]
    exact ev_slc (y := .int 5) (z := .int 11) (ev_var h0) (by rfl) (by rfl) (slc_list (by simp; omega) (by rfl) (by rfl))
  have s : evE T2 r xReps = some (.list ((cutL ns (some 5) (some 11) ++ [0, 1, 2, 3, 4, 5]).map D.int)) := by
    refine ev_bin t (y := .list (([0, 1, 2, 3, 4, 5] : List Int).map D.int)) (by rfl) ?_
    rw [add_list (by simp; omega), List.map_append]
  refine ⟨(cutL ns (some 5) (some 11) ++ [0, 1, 2, 3, 4, 5]).map fun (x : Int) => x.fmod 1000000, by simp, by simp; omega, ?_⟩
  exact ev_comp s (by rfl) (by simp; omega) (map_mod _)
theorem fi_good : Good (.tuple [.str [64257], .int 7, .str [102, 105]]) [32, 32] := ⟨_, _, _, rfl, List.all_eq_true.mp okP (64257, [102, 105]) (by decide)⟩
noncomputable def fiD : D := .tuple [.str [64257], .int 7, .str [102, 105]]
theorem drawn0 : Drawn [fiD] [32, 32] 0 := ⟨.cons fi_good .nil, by decide, fun x hx => .inr (by simpa using hx), by decide, by decide, ⟨[], rfl⟩⟩
theorem values_ok : T2.F 12 [.int 6] = some VALS := by kernel_rfl
theorem xor_end {a b : Bool} (h : a = xor false b) : cmpD .is_ (.bool a) (.bool b) = some true := by
  show some (a == b) = _
  rw [h]; cases b <;> rfl
theorem plain_law : ∀ ns : List Int, ns.length ≤ 63 → ∃ rho', exSs T2 ir_law (rho0 [D.list (ns.map D.int)] (nm_law.length - 1)) = some (.ret (.bool true), rho') := by
  intro ns hns
  obtain ⟨ys, hys, eD⟩ := draws_ok (r := rho0 [D.list (ns.map D.int)] (nm_law.length - 1)) (ns := ns) (by rfl) hns
  obtain ⟨rs, hrs, hrs', eR⟩ := reps_ok (r := (rho0 [D.list (ns.map D.int)] (nm_law.length - 1)).set 1 (.d (.list (ys.map D.int)))) (ns := ns) (by rfl) hns
  obtain ⟨its, es, b3, b8, e3, I⟩ := fo_draws (a0 := .d (.list (ns.map D.int))) (a1 := .d (.list (ys.map D.int))) (rs := .list (rs.map D.int)) ys [fiD] [32, 32] 0 .un .un drawn0 (by omega)
  have hbl := I.bl
  have hbd := I.bound
  have hwl := ws_len I.ws
  obtain ⟨l, hl⟩ := I.head
  have hll : l.length ≤ 7 := by rw [hl] at hwl; simp only [List.length_cons] at hwl; rw [hl] at hbd hbl; omega
  have hlen : es.length ≤ 9 := by rw [hl]; simp only [List.length_cons]; omega
  have h32 : 32 ∈ es := by rw [hl]; exact List.mem_cons_self
  obtain ⟨c9, c10, c11, c12, e5⟩ := fo_items (rs := .list (rs.map D.int)) (a0 := .d (.list (ns.map D.int))) (a1 := .d (.list (ys.map D.int))) (a3 := b3) (a8 := b8) (items := .list its) (pins := bl es) I.good [] .un .un .un .un (by simp; omega)
  obtain ⟨w, hw⟩ := worth_some I.ws hlen hbl h32
  obtain ⟨m, turns', o', e8, m1, m2, m3⟩ := turns_all (rs := rs) (sta := es) (pins := bl es) (f := w) hrs' 64 es w 0 ⟨.d (.list (ns.map D.int)), .d (.list (ys.map D.int)), b3, .d (.list its), b8, c9, c10, c11, c12, .un, .un, .un, .un, .un, .un, .un⟩ I.ws hlen hbl hw (by omega) (by omega)
  have hlev : lev es (List.replicate m 9) (2 * bl es) = 2 * bl es := by
    rw [hl] at m1 m2 hbl ⊢
    exact end_lev (fun x hx => I.ws x (by rw [hl]; simp [hx])) hll hbl m1 m2
  have e9 := F9 (a := es) (b := List.replicate m 9) (cap := 2 * bl es) (by omega) (by simp; omega) I.ws (fun x hx => .inl (List.eq_of_mem_replicate hx)) (by omega)
  rw [hlev] at e9
  refine ⟨R4 rs (List.replicate m 9) (bl es) es w turns' o', ?_⟩
  rw [law_eq, ls0_eq, ls1_eq, ls3_eq, ls5_eq, ls8_eq]
  refine st_then (st_asgC eD) ?_
  refine st_then (st_asgC eR) ?_
  refine st_then (r' := R2 (.d (.list (ns.map D.int))) (.d (.list (ys.map D.int))) (.list (rs.map D.int)) .un [fiD] (bl [32, 32]) .un) (by rfl) ?_
  refine st_then ((st_for (d := .list (ys.map D.int)) (ev_var (by rfl)) (by rfl)).trans e3) ?_
  refine st_then (st_asg (d := .str []) (by rfl)) ?_
  refine (st_frz (l := its) (by rfl)).trans ?_
  refine st_then (r' := R3 (.list (rs.map D.int)) (.d (.list (ns.map D.int))) (.d (.list (ys.map D.int))) b3 b8 (.list its) (bl es) es c9 c10 c11 c12) ((st_for (d := .list its) (ev_var (by rfl)) (by rfl)).trans e5) ?_
  refine st_then (st_asg (d := VALS) (ev_fn (es_cons (x := .int 6) (by rfl) es_nil) values_ok)) ?_
  refine st_then (st_swp (ds := [.str es, nI w, nI 0]) (es_cons (ev_var (by rfl)) (es_cons (ev_fn (es_cons (x := .str es) (ev_var (by rfl)) (es_cons (x := VALS) (ev_var (by rfl)) es_nil)) (F13 I.ws (by omega) hw)) (es_cons (by rfl) es_nil))) (by simp)) ?_
  refine st_then (r' := R4 rs (List.replicate m 9) (bl es) es w turns' o') e8 ?_
  refine st_ret ?_
  have v15 : evE T2 (R4 rs (List.replicate m 9) (bl es) es w turns' o') (.cmp .is_ (.cmp .eq (.bin .mod (.var 15) (.int 2)) (.int 1)) (.cmp .gt (.var 14) (.int 0))) = some (.bool true) :=
    ev_cmp (x := .bool (decide (turns' % 2 = 1))) (y := .bool (decide (0 < w))) (ev_cmp (x := nI (turns' % 2)) (y := .int 1) (ev_bin (x := nI turns') (y := .int 2) (by rfl) (by rfl) (mod2 turns')) (by rfl) (eq1 _ rfl)) (ev_cmp (x := nI w) (y := nI 0) (by rfl) (by rfl) (cmp_gt (decide_eq_decide.mpr (by omega)))) (xor_end (by rw [m3]; rfl))
  have v2 : evE T2 (R4 rs (List.replicate m 9) (bl es) es w turns' o') (.bin .mul (.int 2) (.var 7)) = some (nI (2 * bl es)) := ev_bin (x := nI 2) (y := nI (bl es)) (by rfl) (by rfl) (mul_nat (by omega))
  have vl : evE T2 (R4 rs (List.replicate m 9) (bl es) es w turns' o') (.cmp .eq (.fn 9 (.cons (.var 13) (.cons (.var 4) (.cons (.bin .mul (.int 2) (.var 7)) .nil)))) (.bin .mul (.int 2) (.var 7))) = some (.bool true) :=
    ev_cmp (x := nI (2 * bl es)) (y := nI (2 * bl es)) (ev_fn (es_cons (x := .str es) (by rfl) (es_cons (x := .str (List.replicate m 9)) (by rfl) (es_cons v2 es_nil))) e9) v2 (by
      show some ((((2 * bl es : Nat) : Int)) == (((2 * bl es : Nat) : Int))) = _
      simp)
  exact (bnd_eq v15).trans vl
end Qu69
end

open PySem PySem.W PyProof.Rows
theorem PySem.Challenge.cw_qu0069_01_holds : PySem.Challenge.rw_qu0069_01.Holds := by
  exact holds_law Qu69.row_well fun said => Qu69.holds_of Qu69.plain_law said
